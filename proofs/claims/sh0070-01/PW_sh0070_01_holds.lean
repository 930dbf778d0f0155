import PyProof.Rows.All
import Wide.All
import OpenK.AllK
import Wide.FinOn
import Lean
import PySem.Challenge.RW_sh0070_01
set_option Elab.async false
set_option maxRecDepth 100000
set_option maxHeartbeats 4000000
set_option autoImplicit false
set_option compiler.extract_closed false
set_option linter.unusedVariables false
set_option linter.unusedSimpArgs false
open PySem renaming wpAny_bind → Qa
open PySem renaming wpAny_pure → Qb
open PySem renaming wpAny_holding → Qc
open PySem.Str renaming ofString → Qd
open Nat renaming le_of_ble_eq_true → Qe
open List renaming all_eq_true → Qf
open List renaming length_map → Qg
open List renaming length_cons → Qh
open List renaming length_append → Qi
open List renaming append_assoc → Qj
open List renaming mem_of_getElem? → Qk
open List renaming getElem?_eq_some_iff → Ql
open List renaming getElem?_eq_getElem → Qm
open Bool renaming and_eq_true_iff → Qn
open Nat renaming le_refl → Qo
open List renaming prefix_refl → Qp
open List renaming mem_map → Qq
open List renaming mem_singleton → Qr
open List renaming mem_append → Qs
open List renaming map_append → Qt
open List renaming mem_append_left → Qu
open List renaming mem_append_right → Qv
open Bool renaming false_ne_true → Qw
open Nat renaming zero_le → Qx
open List renaming mem_cons → Qy
open List renaming filter_cons → Qz
open Option.some renaming inj → qa
namespace Mine
open PySem PySem.W PyProof.Rows PySem.Calls
section
@[elab_as_elim] theorem rwg {α : Sort _} {a b : α} {P : α -> Prop} (h : a = b) (p : P b) : P a := by subst h; exact p
@[elab_as_elim] theorem rwb {α : Sort _} {a b : α} {P : α -> Prop} (h : b = a) (p : P b) : P a := by subst h; exact p
inductive A3 (a b c : Prop) : Prop | mk (h1 : a) (h2 : b) (h3 : c)
inductive A4 (a b c d : Prop) : Prop | mk (h1 : a) (h2 : b) (h3 : c) (h4 : d)
inductive A5 (a b c d e : Prop) : Prop | mk (h1 : a) (h2 : b) (h3 : c) (h4 : d) (h5 : e)
inductive A6 (a b c d e f : Prop) : Prop | mk (h1 : a) (h2 : b) (h3 : c) (h4 : d) (h5 : e) (h6 : f)
inductive A7 (a b c d e f g : Prop) : Prop | mk (h1 : a) (h2 : b) (h3 : c) (h4 : d) (h5 : e) (h6 : f) (h7 : g)
inductive A8 (a b c d e f g h : Prop) : Prop | mk (h1 : a) (h2 : b) (h3 : c) (h4 : d) (h5 : e) (h6 : f) (h7 : g) (h8 : h)
inductive E2 {α β : Type} (P : α -> β -> Prop) : Prop | mk (a : α) (b : β) (h : P a b)
inductive E3 {α β γ : Type} (P : α -> β -> γ -> Prop) : Prop | mk (a : α) (b : β) (c : γ) (h : P a b c)
inductive E4 {α β γ δ : Type} (P : α -> β -> γ -> δ -> Prop) : Prop | mk (a : α) (b : β) (c : γ) (d : δ) (h : P a b c d)
inductive E5 {α β γ δ ε : Type} (P : α -> β -> γ -> δ -> ε -> Prop) : Prop | mk (a : α) (b : β) (c : γ) (d : δ) (e : ε) (h : P a b c d e)
inductive E6 {α β γ δ ε ζ : Type} (P : α -> β -> γ -> δ -> ε -> ζ -> Prop) : Prop | mk (a : α) (b : β) (c : γ) (d : δ) (e : ε) (f : ζ) (h : P a b c d e f)
theorem ar1 {a i q : Nat} (h : a - i = q) (l : i < a) : a - (i + 1) < q := h ▸ Nat.sub_lt_sub_left l (Nat.lt_succ_self i)
theorem ar2 {a i q : Nat} (h : a - i = q + 1) : a - (i + 1) = q := (Nat.sub_succ a i).trans (congrArg Nat.pred h)
theorem ar3 {a i q : Nat} (h : a - i = q + 1) : i < a := Nat.lt_of_sub_eq_succ h
theorem ar4 {a i : Nat} (h : a - i = 0) (l : i <= a) : i = a := Nat.le_antisymm l (Nat.le_of_sub_eq_zero h)
theorem ar5 {a b i : Nat} (h : ¬ i < a) : a + (b + (i - a) - b) = i := (congrArg (a + ·) (Nat.add_sub_cancel_left ..)).trans (Nat.add_sub_of_le (Nat.le_of_not_lt h))
theorem ar7 {a n c : Nat} (h : a + (n + 1) < c) : a + 1 + n < c := by rw [Nat.add_right_comm]; exact h
theorem ar8 {a k n c : Nat} (h : a + 8 * n + 100 < c) (l : k <= n) : a + 8 * k + 100 < c := Nat.lt_of_le_of_lt (Nat.add_le_add_right (Nat.add_le_add_left (Nat.mul_le_mul_left 8 l) a) 100) h
theorem ar9 {a k n c : Nat} (h : a + n < c) (l : k <= n) : a + k < c := Nat.lt_of_le_of_lt (Nat.add_le_add_left l a) h
theorem ar10 {k n : Nat} (h : k + 1 <= n) : n - (k + 1) < n := Nat.sub_lt (Nat.lt_of_lt_of_le (Nat.succ_pos k) h) (Nat.succ_pos k)
theorem ar11 {k n : Nat} (h : k + 1 <= n) : n - (k + 1) + 1 = n - k := Nat.sub_add_cancel (n := n - k) (m := 1) (Nat.sub_pos_of_lt h)
theorem ar12 {k l : Nat} (h : l <= k) : k - (k - l) = l := Nat.sub_sub_self h
theorem ar13 {k i m : Nat} (h : k + 1 = m - i) : i < m := Nat.lt_of_sub_eq_succ h.symm
theorem ar14 {k n : Nat} (h : 0 < n) (l : k <= n - 1) : k < n := Nat.lt_of_le_of_lt l (Nat.sub_lt h Nat.one_pos)
theorem ar15 {k n : Nat} (l : k <= n - 1) (h : 0 < n) : k + 1 <= n := Nat.lt_of_le_of_lt l (Nat.sub_lt h Nat.one_pos)
theorem ar19 {k n : Nat} (h : ¬ ((k : Int) < (n : Int))) : n <= k := Nat.le_of_not_lt fun l => h (Int.ofNat_lt.mpr l)
theorem ar20 (k : Nat) : ((0 : Int) + (k : Int)).toNat = k := (congrArg Int.toNat (Int.zero_add _)).trans (Int.toNat_natCast k)
theorem ar21 {k : Int} {n : Nat} (h : 0 <= k) (l : k < (n : Int)) : k.toNat < n := (Int.toNat_lt h).mpr l
theorem ar23 {k n : Nat} (h : k <= n) (l : ¬ k < n) : k = n := Nat.le_antisymm h (Nat.le_of_not_lt l)
theorem ar24 {a b c : Nat} (h : a <= b) (l : b < c) : a < c + 1 := Nat.lt_succ_of_lt (Nat.lt_of_le_of_lt h l)
theorem ar25 {a b : Nat} (h : a + 1 < b + 1) : a < b := Nat.lt_of_succ_lt_succ h
end
local macro_rules
  | `(tactic| rewrite [$rs,*]) => do
    let rs := rs.getElems
    if rs.size != 1 then
      let ts ← rs.mapM fun r => `(tactic| rewrite [$r])
      `(tactic| ($[$ts]*))
    else
      let r := rs[0]!.raw
      let h : Lean.TSyntax `term := ⟨r[1]⟩
      let c := Lean.mkIdent (if r[0].getNumArgs == 0 then `rwg else `rwb)
      if (h.raw.find? fun x => x.isOfKind ``Lean.Parser.Term.byTactic || x.isOfKind ``Lean.Parser.Term.byTactic').isSome then `(tactic| first | refine $c $h ?_ | fail) else `(tactic| first | with_reducible refine $c ($h ..) ?_ | fail)
local macro_rules
  | `(tactic| omega) => do
    let ts ← ("Nat.le_refl Nat.zero_le Nat.le_succ Nat.lt_succ_self Nat.succ_pos Nat.le_add_right Nat.le_add_left ar20 Nat.le_of_lt Nat.le_of_succ_le Nat.lt_of_succ_lt Nat.le_of_lt_succ Nat.lt_succ_of_le Nat.lt_succ_of_lt Nat.le_succ_of_le Nat.le_of_not_lt Nat.lt_of_not_le Nat.le_of_succ_le_succ Nat.succ_le_succ Nat.ne_of_gt Nat.ne_of_lt Nat.le_of_eq ar2 ar3 ar5 ar7 ar10 ar11 ar12 ar13 ar19 ar25 ar1 ar4 ar8 ar9 ar14 ar15 ar21 ar23 ar24 Nat.lt_of_lt_of_le Nat.lt_of_le_of_lt Nat.le_trans Nat.lt_trans Nat.le_antisymm".splitOn " ").toArray.mapM fun f => `(Lean.Parser.Tactic.tacticSeq| apply $(Lean.mkIdent f.toName) <;> assumption)
    `(tactic| first | (with_reducible first | assumption $[| $ts]*) | lia)
section
noncomputable abbrev pw : Program := PySem.Challenge.pw_sh0070_01
noncomputable abbrev zAa := Addr -> Option Obj
def zAa.In (Z : zAa) (h : Heap) : Prop := ∀ a o, Z a = some o -> h.get? a = some o
def zAa.Le (Z Z' : zAa) : Prop := ∀ a o, Z a = some o -> Z' a = some o
noncomputable def zAa.put (Z : zAa) (a : Addr) (o : Obj) : zAa := fun b => if b = a then some o else Z b
theorem zAa.Le.refl (Z : zAa) : Z.Le Z := fun _ _ e => e
theorem zAa.Le.trans {Z1 Z2 Z3 : zAa} (x : Z1.Le Z2) (y : Z2.Le Z3) : Z1.Le Z3 := fun a o e => y a o (x a o e)
theorem zAa.put_self (Z : zAa) (a : Addr) (o : Obj) : Z.put a o a = some o := by simp [zAa.put]
theorem zAa.put_ne (Z : zAa) {a b : Addr} (o : Obj) (h : b ≠ a) : Z.put a o b = Z b := by simp [zAa.put, h]
theorem zAa.le_put {Z : zAa} {a : Addr} (o : Obj) (h : Z a = none) : Z.Le (Z.put a o) := by
  intro b o' e
  by_cases q : b = a
  . subst q; rw [h] at e; cases e
  . rw [zAa.put_ne _ _ q]; exact e
inductive D where
  | none
  | bool (b : Bool)
  | int (i : Int)
  | str (x : Str)
  | tup (l : List D)
  | lst (l : List D)
noncomputable abbrev zFj (vs : List Value) (n : Nat) : Obj := ⟨.type "tuple", none, .seq vs.toArray n, #[]⟩
noncomputable abbrev zAr (vs : List Value) (n : Nat) : Obj := ⟨.type "list", none, .seq vs.toArray n, #[]⟩
mutual
def zA2 (Z : zAa) : D -> Value -> Prop
  | .none, v => v = .none
  | .bool b, v => v = .bool b
  | .int i, v => ∃ t, v = .int i t
  | .str x, v => ∃ t, v = .str x t
  | .tup l, v => ∃ a vs n, v = .ref a /\ Z a = some (zFj vs n) /\ zAk Z l vs
  | .lst l, v => ∃ a vs n, v = .ref a /\ Z a = some (zAr vs n) /\ zAk Z l vs
def zAk (Z : zAa) : List D -> List Value -> Prop
  | [], vs => vs = []
  | d :: l, vs => ∃ v r, vs = v :: r /\ zA2 Z d v /\ zAk Z l r
end
mutual
theorem zA2.mono {Z Z' : zAa} (k : Z.Le Z') : ∀ (d : D) (v : Value), zA2 Z d v -> zA2 Z' d v
  | .none, _, h => by simpa [zA2] using h
  | .bool _, _, h => by simpa [zA2] using h
  | .int _, _, h => by simpa [zA2] using h
  | .str _, _, h => by simpa [zA2] using h
  | .tup l, _, h => by
    simp only [zA2] at h ⊢
    obtain ⟨a, vs, n, e, z, r⟩ := h
    exact ⟨a, vs, n, e, k _ _ z, zAk.mono k l vs r⟩
  | .lst l, _, h => by
    simp only [zA2] at h ⊢
    obtain ⟨a, vs, n, e, z, r⟩ := h
    exact ⟨a, vs, n, e, k _ _ z, zAk.mono k l vs r⟩
theorem zAk.mono {Z Z' : zAa} (k : Z.Le Z') : ∀ (l : List D) (vs : List Value), zAk Z l vs -> zAk Z' l vs
  | [], _, h => by simpa [zAk] using h
  | d :: l, _, h => by
    simp only [zAk] at h ⊢
    obtain ⟨v, r, e, x, y⟩ := h
    exact ⟨v, r, e, zA2.mono k d v x, zAk.mono k l r y⟩
end
theorem zAk.nil {Z : zAa} : zAk Z [] [] := by simp [zAk]
theorem zAk.cons {Z : zAa} {d : D} {v : Value} {l : List D} {vs : List Value} (x : zA2 Z d v) (y : zAk Z l vs) : zAk Z (d :: l) (v :: vs) := by
  simp only [zAk]; exact ⟨v, vs, rfl, x, y⟩
theorem zAk.length {Z : zAa} : ∀ {l : List D} {vs : List Value}, zAk Z l vs -> vs.length = l.length := by
  intro l
  induction l with
  | nil =>
    rintro _ h
    simp only [zAk] at h; subst h; rfl
  | cons _ tl ih =>
    rintro _ h
    simp only [zAk] at h
    obtain ⟨v, r, rfl, _, y⟩ := h
    simp [ih y]
theorem zAk.get {Z : zAa} : ∀ {l : List D} {vs : List Value} (_ : zAk Z l vs) (i : Nat) {d : D}, l[i]? = some d -> ∃ v, vs[i]? = some v /\ zA2 Z d v := by
  intro l
  induction l with
  | nil =>
    rintro _ _ i _ e
    simp at e
  | cons d l ih =>
    rintro _ h i d' e
    simp only [zAk] at h
    obtain ⟨v, r, rfl, x, y⟩ := h
    induction i using Nat.casesAuxOn with
    | zero => simp only [List.getElem?_cons_zero, Option.some.injEq] at e; subst e; exact ⟨v, by simp, x⟩
    | succ i =>
      simp only [List.getElem?_cons_succ] at e
      obtain ⟨u, hu, ru⟩ := ih y i e
      exact ⟨u, by simpa using hu, ru⟩
theorem zAk.append {Z : zAa} : ∀ {l : List D} {vs : List Value} {l' : List D} {vs' : List Value}, zAk Z l vs -> zAk Z l' vs' -> zAk Z (l ++ l') (vs ++ vs') := by
  intro l
  induction l with
  | nil =>
    rintro _ _ _ h h'
    simp only [zAk] at h; subst h; simpa using h'
  | cons _ tl ih =>
    rintro _ _ _ h h'
    simp only [zAk] at h
    obtain ⟨v, r, rfl, x, y⟩ := h
    exact .cons x (ih y h')
theorem zAk.inv {Z : zAa} {d : D} {l : List D} {vs : List Value} (h : zAk Z (d :: l) vs) : E2 fun v r => A3 (vs = v :: r) (zA2 Z d v) (zAk Z l r) := by
  obtain ⟨v, r, e, x, y⟩ := h; exact ⟨v, r, e, x, y⟩
theorem zAk.inv_nil {Z : zAa} {vs : List Value} (h : zAk Z [] vs) : vs = [] := by simpa only [zAk] using h
inductive V where
  | d (x : D)
  | loc (i : Nat)
  | obj (C : Addr) (i : Nat)
  | stat (k : Nat)
  | rng (a b : Int)
  | meth (f : Addr) (C : Addr) (i : Nat)
  | rd (i : Nat)
  | ditems (i : Nat)
inductive C where
  | lst (l : List D)
  | dict (fs : List (Str × V))
  | citer (f : V) (x : D)
  | cdone
  | box (v : V)
  | raw (i : Nat) (o : Obj)
  | gone
noncomputable def C.live : C -> Bool
  | .gone => false
  | _ => true
noncomputable def zAl : List Value := [.ref 38, .ref 76, .ref 88, .ref 98, .ref 99, .ref 144, .ref 149, .ref 154, .ref 159, .ref 167, .ref 288, .ref 297, .ref 304, .ref 311, .ref 316, .ref 321, .ref 326, .ref 331,
  .builtin "len", .builtin "chr", .builtin "ord", .builtin "min", .builtin "sum", .builtin "sorted", .builtin "iter", .type "list", .type "str", .type "range", .type "type",
  .builtin "list.append", .builtin "list.pop", .builtin "list.index", .builtin "str.split", .builtin "str.upper", .builtin "str.lower", .builtin "str.replace", .builtin "str.join", .builtin "dict.get", .builtin "dict.items", .builtin "re.Pattern.search",
  .ref 59, .ref 66, .ref 73, .ref 189, .ref 208, .ref 227, .ref 235, .ref 240, .ref 252, .ref 278, .ref 285, .type "tuple"]
noncomputable def zPn (i : Nat) : Stmt := pw.main.body.getD i (.Pass ⟨0, 0, 0, 0⟩)
set_option genInjectivity false in
set_option genSizeOf false in
structure EV where
  lam : Option (Arguments × PySem.Expr × Scope)
  dict : List (Option PySem.Expr) × List PySem.Expr
  es : List PySem.Expr
  const : Option Const
  name : Option Str
  left : Option PySem.Expr
  pos : Pos
noncomputable abbrev zNv : Pos := ⟨0, 0, 0, 0⟩
noncomputable def zOs (e : PySem.Expr) : EV := match e with
  | .Lambda a b s p => ⟨some (a, b, s), ([], []), [], none, none, none, p⟩
  | .Dict k v p => ⟨none, (k, v), [], none, none, none, p⟩
  | .List es p => ⟨none, ([], []), es, none, none, none, p⟩
  | .Constant c _ p => ⟨none, ([], []), [], some c, none, none, p⟩
  | .Name x p => ⟨none, ([], []), [], none, some x, none, p⟩
  | .Call _ a _ p => ⟨none, ([], []), a, none, none, none, p⟩
  | .BinOp l _ _ p => ⟨none, ([], []), [], none, none, some l, p⟩
  | _ => ⟨none, ([], []), [], none, none, none, zNv⟩
set_option genInjectivity false in
set_option genSizeOf false in
structure SV where
  name : Option Str
  args : Arguments
  body : List Stmt
  scope : Scope
  tgts : List PySem.Expr
  val : PySem.Expr
  pos : Pos
noncomputable abbrev zFq : Arguments := ⟨[], [], none, [], [], none, []⟩
noncomputable abbrev zC9 : Scope := ⟨.module, [], false, false, []⟩
noncomputable abbrev zD0 : PySem.Expr := .Constant .none 0 ⟨0, 0, 0, 0⟩
noncomputable def zX6 (t : Stmt) : SV := match t with
  | .FunctionDef nm a b _ _ _ s _ _ p => ⟨some nm, a, b, s, [], zD0, p⟩
  | .ClassDef nm _ _ b .. => ⟨some nm, zFq, b, zC9, [], zD0, zNv⟩
  | .For _ _ b .. => ⟨none, zFq, b, zC9, [], zD0, zNv⟩
  | .While _ b .. => ⟨none, zFq, b, zC9, [], zD0, zNv⟩
  | .If _ b .. => ⟨none, zFq, b, zC9, [], zD0, zNv⟩
  | .Assign ts v p => ⟨none, zFq, [], zC9, ts, v, p⟩
  | .Return (some v) _ => ⟨none, zFq, [], zC9, [], v, zNv⟩
  | .Expr v _ => ⟨none, zFq, [], zC9, [], v, zNv⟩
  | _ => ⟨none, zFq, [], zC9, [], zD0, zNv⟩
noncomputable def zA5 (t : Stmt) : List Stmt := (zX6 t).body
noncomputable def zCk (t : Stmt) : Arguments := (zX6 t).args
noncomputable def zAn (t : Stmt) : Scope := (zX6 t).scope
noncomputable def zN0 (t : Stmt) : PySem.Expr := (zX6 t).val
noncomputable def zJl (e : PySem.Expr) : Arguments := ((zOs e).lam.getD (zFq, zD0, zC9)).1
noncomputable def zH2 (e : PySem.Expr) : PySem.Expr := ((zOs e).lam.getD (zFq, zD0, zC9)).2.1
noncomputable def zCq (e : PySem.Expr) : Scope := ((zOs e).lam.getD (zFq, zD0, zC9)).2.2
noncomputable def yP2 (x : Str) (t : Stmt) : Bool := (zX6 t).name == some x
noncomputable def yAw : Stmt := (pw.main.body.find? (yP2 "_law_lexer")).getD (.Pass ⟨0, 0, 0, 0⟩)
noncomputable def zAx : PySem.Expr := zN0 ((zA5 yAw).getD 2 (.Pass ⟨0, 0, 0, 0⟩))
structure zIz (Z : zAa) (fd : FuncData) (b : Addr) : Prop where
  params : fd.params = zJl zAx
  body : fd.body = .expr (zH2 zAx)
  scope : fd.scope = zCq zAx
  globals : fd.globals = mainGlobals
  closure : fd.closure = [(Qd "signs", b)]
  defaults : fd.defaults = .none
  kwdefaults : fd.kwdefaults = .none
  builtins : fd.builtins = builtinsNs
  code : ∃ c oc vs t, fd.code = .ref c /\ Z c = some oc /\ oc.data = .fields vs /\ vs[1]? = some (.str fd.qualname t)
theorem zIz.mono {Z Z' : zAa} {fd : FuncData} {b : Addr} (k : Z.Le Z') (h : zIz Z fd b) : zIz Z' fd b :=
  ⟨h.params, h.body, h.scope, h.globals, h.closure, h.defaults, h.kwdefaults, h.builtins, let ⟨c, oc, vs, t, e1, e2, e3, e4⟩ := h.code; ⟨c, oc, vs, t, e1, k _ _ e2, e3, e4⟩⟩
noncomputable abbrev yQr (fd : FuncData) : Obj := ⟨.type "function", none, .func fd, #[]⟩
noncomputable abbrev zKi (cls d : Addr) : Obj := ⟨.ref cls, some d, .plain, #[]⟩
noncomputable abbrev zV9 (a b : Int) (t1 t2 t3 : Tok) : Obj := ⟨.type "range", none, .fields #[.int a t1, .int b t2, .int 1 t3], #[]⟩
noncomputable abbrev yOj (f a : Addr) : Obj := ⟨.type "method", none, .fields #[.ref f, .ref a], #[]⟩
noncomputable abbrev yQb (v : Option Value) : Obj := ⟨.type "cell", none, .cell v, #[]⟩
noncomputable abbrev yO0 (f x : Value) : Obj := ⟨.type "callable_iterator", none, .fields #[f, x, .bool false], #[]⟩
noncomputable abbrev zEs (es : List DictEntry) (n : Nat) : Obj := ⟨.type "dict", none, .dict es.toArray n, #[]⟩
def zAw (Z : zAa) (ρ : List Addr) : V -> Value -> Prop
  | .d x, v => zA2 Z x v
  | .loc i, v => ∃ a, ρ[i]? = some a /\ v = .ref a
  | .obj cls i, v => ∃ a d, v = .ref a /\ ρ[i]? = some d /\ Z a = some (zKi cls d)
  | .stat k, v => zAl[k]? = some v
  | .rng lo hi, v => ∃ a t1 t2 t3, v = .ref a /\ Z a = some (zV9 lo hi t1 t2 t3)
  | .meth f cls i, v => ∃ q a d, v = .ref q /\ Z q = some (yOj f a) /\ ρ[i]? = some d /\ Z a = some (zKi cls d)
  | .rd i, v => ∃ a b l fd ob, v = .ref a /\ Z a = some (yQr fd) /\ zIz Z fd b /\ Z b = some ob /\ ob.data = .cell (some (.ref l)) /\ ρ[i]? = some l
  | .ditems i, v => ∃ a d, v = .ref a /\ Z a = some ⟨.type "dict_items", none, .fields #[.ref d], #[]⟩ /\ ρ[i]? = some d
def zBl (Z : zAa) (ρ : List Addr) : List V -> List Value -> Prop
  | [], vs => vs = []
  | d :: l, vs => ∃ v r, vs = v :: r /\ zAw Z ρ d v /\ zBl Z ρ l r
def zCm (Z : zAa) (ρ : List Addr) : List (Str × V) -> List DictEntry -> Prop
  | [], es => es = []
  | (k, v) :: l, es => ∃ e r t, es = e :: r /\ e.key = .str k t /\ zAw Z ρ v e.val /\ zCm Z ρ l r
def zIr (Z : zAa) (ρ : List Addr) : C -> Obj -> Prop
  | .lst l, o => ∃ vs n, o = zAr vs n /\ zAk Z l vs
  | .dict fs, o => ∃ es n, o = zEs es n /\ zCm Z ρ fs es
  | .citer f x, o => ∃ fv xv, o = yO0 fv xv /\ zAw Z ρ f fv /\ zA2 Z x xv
  | .cdone, o => o = ⟨.type "callable_iterator", none, .fields #[.none, .none, .bool true], #[]⟩
  | .box v, o => ∃ u, o = yQb (some u) /\ zAw Z ρ v u
  | .raw i o', o => o = o' /\ ρ[i]? = some 299
  | .gone, _ => True
theorem zEh {ρ ρ' : List Addr} (h : ρ <+: ρ') {i : Nat} {a : Addr} (e : ρ[i]? = some a) : ρ'[i]? = some a := by
  obtain ⟨t, rfl⟩ := h
  rw [List.getElem?_append_left (Ql.mp e).1]; exact e
noncomputable def V.mapI (f : Nat -> Nat) : V -> V
  | .loc i => .loc (f i)
  | .obj c i => .obj c (f i)
  | .meth q c i => .meth q c (f i)
  | .rd i => .rd (f i)
  | .ditems i => .ditems (f i)
  | .d x => .d x
  | .stat k => .stat k
  | .rng a b => .rng a b
noncomputable def zP4 (f : Nat -> Nat) : List (Str × V) -> List (Str × V)
  | [] => []
  | (x, v) :: r => (x, v.mapI f) :: zP4 f r
noncomputable def C.mapI (f : Nat -> Nat) : C -> C
  | .dict fs => .dict (zP4 f fs)
  | .citer v x => .citer (v.mapI f) x
  | .box v => .box (v.mapI f)
  | .lst l => .lst l
  | .cdone => .cdone
  | .raw i o => .raw (f i) o
  | .gone => .gone
noncomputable def V.ok (b : Nat -> Bool) : V -> Bool
  | .loc i => b i
  | .obj _ i => b i
  | .meth _ _ i => b i
  | .rd i => b i
  | .ditems i => b i
  | .d _ => true
  | .stat _ => true
  | .rng _ _ => true
noncomputable def yF9 (b : Nat -> Bool) : List (Str × V) -> Bool
  | [] => true
  | (_, v) :: r => v.ok b && yF9 b r
noncomputable def C.ok (b : Nat -> Bool) : C -> Bool
  | .dict fs => yF9 b fs
  | .citer f _ => f.ok b
  | .box v => v.ok b
  | .raw i _ => b i
  | .lst _ => true
  | .cdone => true
  | .gone => true
theorem V.mapI_id (v : V) : v.mapI id = v := by cases v <;> rfl
theorem zI7 : ∀ fs : List (Str × V), zP4 id fs = fs
  | [] => rfl
  | (x, v) :: r => by show (x, v.mapI id) :: zP4 id r = _; rw [V.mapI_id, zI7 r]
theorem C.mapI_id (c : C) : c.mapI id = c := by
  induction c using C.casesOn with
  | dict fs => exact congrArg C.dict (zI7 fs)
  | citer v x => exact congrArg (C.citer · x) v.mapI_id
  | box v => exact congrArg C.box v.mapI_id
  | _ => rfl
noncomputable abbrev yMe : Nat -> Bool := fun _ => true
theorem V.ok1 (v : V) : v.ok yMe = true := by cases v <;> rfl
theorem yF2 : ∀ fs : List (Str × V), yF9 yMe fs = true
  | [] => rfl
  | (x, v) :: r => by show (v.ok yMe && yF9 yMe r) = true; rw [v.ok1, yF2 r]; rfl
theorem C.ok1 (c : C) : c.ok yMe = true := by
  induction c using C.casesOn with
  | dict fs => exact yF2 fs
  | citer v x => exact v.ok1
  | box v => exact v.ok1
  | _ => rfl
section
variable {Z Z' : zAa} {ρ ρ' : List Addr} {f f' : Nat -> Nat} {b : Nat -> Bool}
theorem zAw.gen (k : Z.Le Z') (h : ∀ i a, b i = true -> ρ[f i]? = some a -> ρ'[f' i]? = some a) {v : V} {u : Value} (hb : v.ok b = true) (r : zAw Z ρ (v.mapI f) u) : zAw Z' ρ' (v.mapI f') u := by
  induction v using V.casesOn with
  | d x => exact zA2.mono k x u r
  | loc i => obtain ⟨a, e, z⟩ := r; exact ⟨a, h i a hb e, z⟩
  | obj c i => obtain ⟨a, d, e, z, y⟩ := r; exact ⟨a, d, e, h i d hb z, k _ _ y⟩
  | stat => exact r
  | rng lo hi => obtain ⟨a, t1, t2, t3, e, z⟩ := r; exact ⟨a, t1, t2, t3, e, k _ _ z⟩
  | meth c1 c2 i => obtain ⟨q, a, d, e, z, y, x⟩ := r; exact ⟨q, a, d, e, k _ _ z, h i d hb y, k _ _ x⟩
  | rd i => obtain ⟨a, b, l, fd, ob, e, z, y, x, q, w⟩ := r; exact ⟨a, b, l, fd, ob, e, k _ _ z, y.mono k, k _ _ x, q, h i l hb w⟩
  | ditems i => obtain ⟨a, d, e, z, w⟩ := r; exact ⟨a, d, e, k _ _ z, h i d hb w⟩
theorem zCm.gen (k : Z.Le Z') (h : ∀ i a, b i = true -> ρ[f i]? = some a -> ρ'[f' i]? = some a) : ∀ {fs : List (Str × V)} {es : List DictEntry}, yF9 b fs = true -> zCm Z ρ (zP4 f fs) es -> zCm Z' ρ' (zP4 f' fs) es
  | [], _, _, r => r
  | (_, _) :: _, _, hb, r => by
    obtain ⟨v, q, t, e, x, y, z⟩ := r
    have hb := (Qn).mp hb
    exact ⟨v, q, t, e, x, y.gen k h hb.1, zCm.gen k h hb.2 z⟩
theorem zIr.gen (k : Z.Le Z') (h : ∀ i a, b i = true -> ρ[f i]? = some a -> ρ'[f' i]? = some a) {c : C} {o : Obj} (hb : c.ok b = true) (r : zIr Z ρ (c.mapI f) o) : zIr Z' ρ' (c.mapI f') o := by
  induction c using C.casesOn with
  | lst l => obtain ⟨vs, n, e, r⟩ := r; exact ⟨vs, n, e, zAk.mono k l vs r⟩
  | dict fs => obtain ⟨es, n, e, r⟩ := r; exact ⟨es, n, e, r.gen k h hb⟩
  | citer v x => obtain ⟨f, y, e, r, q⟩ := r; exact ⟨f, y, e, r.gen k h hb, zA2.mono k x y q⟩
  | cdone => exact r
  | box v => obtain ⟨u, e, r⟩ := r; exact ⟨u, e, r.gen k h hb⟩
  | raw i o => exact ⟨r.1, h i 299 hb r.2⟩
  | gone => exact r
theorem zAw.same (k : Z.Le Z') (h : ∀ i a, b i = true -> ρ[i]? = some a -> ρ'[i]? = some a) {v : V} {u : Value} (hb : v.ok b = true) (r : zAw Z ρ v u) : zAw Z' ρ' v u := by
  have := zAw.gen (f := id) (f' := id) k h hb (by rw [v.mapI_id]; exact r)
  rw [v.mapI_id] at this; exact this
theorem zCm.same (k : Z.Le Z') (h : ∀ i a, b i = true -> ρ[i]? = some a -> ρ'[i]? = some a) {v : List (Str × V)} {u : List DictEntry} (hb : yF9 b v = true) (r : zCm Z ρ v u) : zCm Z' ρ' v u := by
  have := zCm.gen (f := id) (f' := id) k h hb (by rw [zI7]; exact r)
  rw [zI7] at this; exact this
theorem zIr.same (k : Z.Le Z') (h : ∀ i a, b i = true -> ρ[i]? = some a -> ρ'[i]? = some a) {v : C} {u : Obj} (hb : v.ok b = true) (r : zIr Z ρ v u) : zIr Z' ρ' v u := by
  have := zIr.gen (f := id) (f' := id) k h hb (by rw [v.mapI_id]; exact r)
  rw [v.mapI_id] at this; exact this
theorem zAw.mono (k : Z.Le Z') (p : ρ <+: ρ') {V : V} {v : Value} (r : zAw Z ρ V v) : zAw Z' ρ' V v := r.same k (fun _ _ _ e => zEh p e) V.ok1
theorem zBl.mono (k : Z.Le Z') (p : ρ <+: ρ') : ∀ {l : List V} {vs : List Value}, zBl Z ρ l vs -> zBl Z' ρ' l vs
  | [], _, h => h
  | _ :: _, _, ⟨v, r, e, x, y⟩ => ⟨v, r, e, x.mono k p, y.mono k p⟩
theorem zCm.mono (k : Z.Le Z') (p : ρ <+: ρ') {l : List (Str × V)} {es : List DictEntry} (r : zCm Z ρ l es) : zCm Z' ρ' l es := r.same k (fun _ _ _ e => zEh p e) (yF2 l)
theorem zIr.mono (k : Z.Le Z') (p : ρ <+: ρ') {c : C} {o : Obj} (r : zIr Z ρ c o) : zIr Z' ρ' c o := r.same k (fun _ _ _ e => zEh p e) c.ok1
end
structure AtC (cells : List C) (Z X : zAa) (ρ : List Addr) (h : Heap) : Prop where
  len : ρ.length = cells.length
  z : Z.In h
  x : X.In h
  nd : ∀ (i j : Nat) (a : Addr) (c c' : C), ρ[i]? = some a -> ρ[j]? = some a -> cells[i]? = some c -> cells[j]? = some c' -> c.live = true -> c'.live = true -> i = j
  zr : ∀ (i : Nat) (a : Addr) (c : C), ρ[i]? = some a -> cells[i]? = some c -> c.live = true -> Z a = none
  xz : ∀ (a : Addr) (o : Obj), X a = some o -> Z a = none
  xr : ∀ (i : Nat) (a : Addr) (c : C), ρ[i]? = some a -> cells[i]? = some c -> c.live = true -> X a = none
  c : ∀ (i : Nat) (a : Addr) (c : C), ρ[i]? = some a -> cells[i]? = some c -> c.live = true -> ∃ o, h.get? a = some o /\ zIr Z ρ c o
section
variable {cells : List C} {Z X : zAa} {ρ : List Addr} {h h' : Heap}
theorem AtC.addr (S : AtC cells Z X ρ h) {i : Nat} {c : C} (e : cells[i]? = some c) : ∃ a, ρ[i]? = some a := by
  have hi : i < ρ.length := by rw [S.len]; exact (Ql.mp e).1
  exact ⟨ρ[i], Qm hi⟩
theorem AtC.at (S : AtC cells Z X ρ h) {i : Nat} {c : C} (e : cells[i]? = some c) (l : c.live = true) : E2 fun a o => A3 (ρ[i]? = some a) (h.get? a = some o) (zIr Z ρ c o) := by
  obtain ⟨a, ha⟩ := S.addr e
  obtain ⟨o, ho, r⟩ := S.c i a c ha e l
  exact ⟨a, o, ha, ho, r⟩
theorem AtC.lt (S : AtC cells Z X ρ h) {i : Nat} {a : Addr} {c : C} (e : ρ[i]? = some a) (e2 : cells[i]? = some c) (l : c.live = true) : a < h.objs.size := by
  obtain ⟨o, ho, _⟩ := S.c i a c e e2 l
  exact Heap.lt_size ho
theorem AtC.ext (S : AtC cells Z X ρ h) (k : ∀ b o, h.get? b = some o -> h'.get? b = some o) : AtC cells Z X ρ h' :=
  ⟨S.len, fun a o e => k _ _ (S.z a o e), fun a o e => k _ _ (S.x a o e), S.nd, S.zr, S.xz, S.xr, fun i a c e1 e2 l => let ⟨o, ho, r⟩ := S.c i a c e1 e2 l; ⟨o, k _ _ ho, r⟩⟩
theorem AtC.push (S : AtC cells Z X ρ h) (o : Obj) : AtC cells Z X ρ (h.push o) := S.ext fun _ _ e => Heap.get?_push_of_some o e
structure zA1 (cells : List C) (Z X : zAa) (ρ : List Addr) (a : Addr) : Prop where
  z : Z a = none
  x : X a = none
  r : ∀ (i : Nat) (c : C), ρ[i]? = some a -> cells[i]? = some c -> c.live = true -> False
theorem AtC.extBut (S : AtC cells Z X ρ h) {it : Addr} (k : ∀ b o, b ≠ it -> h.get? b = some o -> h'.get? b = some o) (u : zA1 cells Z X ρ it) : AtC cells Z X ρ h' :=
  ⟨S.len, fun a o e => k _ _ (by rintro rfl; rw [u.z] at e; cases e) (S.z a o e), fun a o e => k _ _ (by rintro rfl; rw [u.x] at e; cases e) (S.x a o e), S.nd, S.zr, S.xz, S.xr,
   fun i a c e1 e2 l => let ⟨o, ho, r⟩ := S.c i a c e1 e2 l; ⟨o, k _ _ (by rintro rfl; exact u.r i c e1 e2 l) ho, r⟩⟩
theorem AtC.fresh (S : AtC cells Z X ρ h) {a : Addr} (ha : h.objs.size <= a) : zA1 cells Z X ρ a := by
  refine ⟨?_, ?_, fun i c e1 e2 l => ?_⟩
  . induction e : Z a with
    | none => rfl
    | some o => exact absurd (Heap.lt_size (S.z a o e)) (Nat.not_lt.mpr ha)
  . induction e : X a with
    | none => rfl
    | some o => exact absurd (Heap.lt_size (S.x a o e)) (Nat.not_lt.mpr ha)
  . exact absurd (S.lt e1 e2 l) (Nat.not_lt.mpr ha)
theorem AtC.freeze (S : AtC cells Z X ρ h) {a : Addr} {o : Obj} (ho : h.get? a = some o) (u : zA1 cells Z X ρ a) : AtC cells (Z.put a o) X ρ h /\ Z.Le (Z.put a o) := by
  have le := zAa.le_put (Z := Z) o u.z
  refine ⟨⟨S.len, fun b o' e => ?_, S.x, S.nd, fun i b c e1 e2 e3 => ?_, fun b o' e => ?_, S.xr, fun i b c e1 e2 l => let ⟨o, ho, r⟩ := S.c i b c e1 e2 l; ⟨o, ho, r.mono le (Qp _)⟩⟩, le⟩
  . by_cases q : b = a
    . subst q; rw [zAa.put_self] at e; cases e; exact ho
    . rw [zAa.put_ne _ _ q] at e; exact S.z _ _ e
  . rw [zAa.put_ne _ _ (by rintro rfl; exact u.r i c e1 e2 e3)]; exact S.zr i b c e1 e2 e3
  . rw [zAa.put_ne _ _ (by rintro rfl; rw [u.x] at e; cases e)]; exact S.xz b o' e
theorem AtC.newFrozen (S : AtC cells Z X ρ h) {o : Obj} (hf : o.isFreed = false) : AtC cells (Z.put h.objs.size o) X ρ (h.push o) /\ Z.Le (Z.put h.objs.size o) :=
  (S.push o).freeze (Heap.get?_push_size h hf) (S.fresh (Qo _))
theorem AtC.newCell (S : AtC cells Z X ρ h) {a : Addr} {o : Obj} {c : C} (ho : h.get? a = some o) (u : zA1 cells Z X ρ a) (r : zIr Z (ρ ++ [a]) c o) :
    AtC (cells ++ [c]) Z X (ρ ++ [a]) h := by
  have pre : ρ <+: ρ ++ [a] := List.prefix_append _ _
  have split : ∀ (i : Nat) (b : Addr) (c' : C), (ρ ++ [a])[i]? = some b -> (cells ++ [c])[i]? = some c' -> (ρ[i]? = some b /\ cells[i]? = some c') ∨ (i = ρ.length /\ b = a /\ c' = c) := by
    intro i b c' e1 e2
    by_cases q : i < ρ.length
    . rw [List.getElem?_append_left q] at e1
      rw [List.getElem?_append_left (by rw [← S.len]; exact q)] at e2
      exact .inl ⟨e1, e2⟩
    . have hi : i = ρ.length := by have := (Ql.mp e1).1; simp at this; omega
      subst hi
      rw [List.getElem?_append_right (Qo _)] at e1
      rw [S.len, List.getElem?_append_right (Qo _)] at e2
      simp at e1 e2; exact .inr ⟨rfl, e1.symm, e2.symm⟩
  refine ⟨by simp [S.len], S.z, S.x, fun i j b d d' f1 f2 g1 g2 l1 l2 => ?_, fun i b c' e1 e2 e3 => ?_, S.xz, fun i b c' e1 e2 e3 => ?_, fun i b c' e1 e2 e3 => ?_⟩
  . rcases split i b d f1 g1 with ⟨p1, p2⟩ | ⟨h1, h2, h3⟩ <;> rcases split j b d' f2 g2 with ⟨q1, q2⟩ | ⟨k1, k2, k3⟩
    . exact S.nd i j b d d' p1 q1 p2 q2 l1 l2
    . exact (u.r i d (k2 ▸ p1) p2 l1).elim
    . exact (u.r j d' (h2 ▸ q1) q2 l2).elim
    . rw [h1, k1]
  . rcases split i b c' e1 e2 with ⟨p1, p2⟩ | ⟨h1, h2, h3⟩
    . exact S.zr i b c' p1 p2 e3
    . rw [h2]; exact u.z
  . rcases split i b c' e1 e2 with ⟨p1, p2⟩ | ⟨h1, h2, h3⟩
    . exact S.xr i b c' p1 p2 e3
    . rw [h2]; exact u.x
  . rcases split i b c' e1 e2 with ⟨p1, p2⟩ | ⟨h1, h2, h3⟩
    . obtain ⟨o', ho', r'⟩ := S.c i b c' p1 p2 e3
      exact ⟨o', ho', r'.mono (zAa.Le.refl _) pre⟩
    . rw [h2, h3]; exact ⟨o, ho, r⟩
theorem AtC.pushCell (S : AtC cells Z X ρ h) {o : Obj} {c : C} (hf : o.isFreed = false) (r : zIr Z ρ c o) : AtC (cells ++ [c]) Z X (ρ ++ [h.objs.size]) (h.push o) :=
  (S.push o).newCell (Heap.get?_push_size h hf) (S.fresh (Qo _)) (r.mono (zAa.Le.refl _) (List.prefix_append _ _))
theorem AtC.update (S : AtC cells Z X ρ h) {i : Nat} {a : Addr} {c c' : C} {o' : Obj} (e1 : ρ[i]? = some a) (e2 : cells[i]? = some c) (hl : c.live = true)
    (k : ∀ b o, b ≠ a -> h.get? b = some o -> h'.get? b = some o) (ho : h'.get? a = some o') (r : zIr Z ρ c' o') : AtC (cells.set i c') Z X ρ h' := by
  have nz := S.zr i a c e1 e2 hl
  have nx := S.xr i a c e1 e2 hl
  have li : i < cells.length := (Ql.mp e2).1
  have split : ∀ (j : Nat) (d : C), (cells.set i c')[j]? = some d -> (i = j /\ d = c') ∨ (i ≠ j /\ cells[j]? = some d) := by
    intro j d f
    by_cases q : i = j
    . subst q; rw [List.getElem?_set_self li] at f; cases f; exact .inl ⟨rfl, rfl⟩
    . rw [List.getElem?_set_ne q] at f; exact .inr ⟨q, f⟩
  refine ⟨by simp [S.len], fun b o e => k _ _ (by rintro rfl; rw [nz] at e; cases e) (S.z b o e), fun b o e => k _ _ (by rintro rfl; rw [nx] at e; cases e) (S.x b o e), fun j j' b d d' f1 f2 g1 g2 l1 l2 => ?_, fun j b d f1 f2 f3 => ?_, S.xz, fun j b d f1 f2 f3 => ?_, fun j b d f1 f2 f3 => ?_⟩
  . rcases split j d g1 with ⟨h1, h2⟩ | ⟨q, g1⟩ <;> rcases split j' d' g2 with ⟨k1, k2⟩ | ⟨q', g2⟩
    . rw [← h1, ← k1]
    . rw [← h1] at f1 ⊢; rw [e1] at f1; cases f1
      exact S.nd _ _ _ _ _ e1 f2 e2 g2 hl l2
    . rw [← k1] at f2 ⊢; rw [e1] at f2; cases f2
      exact S.nd _ _ _ _ _ f1 e1 g1 e2 l1 hl
    . exact S.nd _ _ _ _ _ f1 f2 g1 g2 l1 l2
  . rcases split j d f2 with ⟨h1, h2⟩ | ⟨q, g1⟩
    . rw [← h1, e1] at f1; cases f1; exact nz
    . exact S.zr j b d f1 g1 f3
  . rcases split j d f2 with ⟨h1, h2⟩ | ⟨q, g1⟩
    . rw [← h1, e1] at f1; cases f1; exact nx
    . exact S.xr j b d f1 g1 f3
  . rcases split j d f2 with ⟨h1, h2⟩ | ⟨q, g1⟩
    . rw [← h1, e1] at f1; cases f1; rw [h2]; exact ⟨o', ho, r⟩
    . obtain ⟨o, ho', r'⟩ := S.c j b d f1 g1 f3
      exact ⟨o, k _ _ (fun z => q (by subst z; exact S.nd _ _ _ _ _ e1 f1 e2 g1 hl f3)) ho', r'⟩
theorem AtC.give (S : AtC cells Z X ρ h) {i : Nat} {a : Addr} {c : C} {o : Obj} (e1 : ρ[i]? = some a) (e2 : cells[i]? = some c) (hl : c.live = true) (ho : h.get? a = some o) :
    Z.Le (Z.put a o) /\ AtC (cells.set i .gone) (Z.put a o) X ρ h := by
  have nz := S.zr i a c e1 e2 hl
  have nx := S.xr i a c e1 e2 hl
  have le := zAa.le_put (Z := Z) o nz
  have li : i < cells.length := (Ql.mp e2).1
  have split : ∀ (j : Nat) (d : C), (cells.set i .gone)[j]? = some d -> d.live = true -> i ≠ j /\ cells[j]? = some d := by
    intro j d f l
    by_cases q : i = j
    . subst q; rw [List.getElem?_set_self li] at f; cases f; cases l
    . rw [List.getElem?_set_ne q] at f; exact ⟨q, f⟩
  refine ⟨le, by simp [S.len], fun b o' e => ?_, S.x, fun j j' b d d' f1 f2 g1 g2 l1 l2 => ?_, fun j b d f1 f2 f3 => ?_, fun b o' e => ?_, fun j b d f1 f2 f3 => ?_, fun j b d f1 f2 f3 => ?_⟩
  . by_cases q : b = a
    . subst q; rw [zAa.put_self] at e; cases e; exact ho
    . rw [zAa.put_ne _ _ q] at e; exact S.z _ _ e
  . exact S.nd _ _ _ _ _ f1 f2 (split j d g1 l1).2 (split j' d' g2 l2).2 l1 l2
  . obtain ⟨q, g⟩ := split j d f2 f3
    rw [zAa.put_ne]
    . exact S.zr j b d f1 g f3
    . intro z; subst z; exact q (S.nd _ _ _ _ _ e1 f1 e2 g hl f3)
  . rw [zAa.put_ne _ _ (by rintro rfl; rw [nx] at e; cases e)]; exact S.xz b o' e
  . exact S.xr j b d f1 (split j d f2 f3).2 f3
  . obtain ⟨o, ho', r'⟩ := S.c j b d f1 (split j d f2 f3).2 f3
    exact ⟨o, ho', r'.mono le (Qp _)⟩
theorem AtC.settle (S : AtC cells Z X ρ h) {i : Nat} {l : List D} (e2 : cells[i]? = some (.lst l)) :
    ∃ a Z', ρ[i]? = some a /\ Z.Le Z' /\ AtC (cells.set i .gone) Z' X ρ h /\ zA2 Z' (.lst l) (.ref a) := by
  obtain ⟨a, o, e1, ho, vs, n, rfl, r⟩ := S.at e2 rfl
  obtain ⟨le, S'⟩ := S.give e1 e2 rfl ho
  refine ⟨a, _, e1, le, S', ?_⟩
  simp only [zA2]
  exact ⟨a, vs, n, rfl, zAa.put_self _ _ _, zAk.mono le l vs r⟩
theorem AtC.withX (S : AtC cells Z X ρ h) {X' : zAa} (hx : X'.In h) (hz : ∀ a o, X' a = some o -> Z a = none)
    (hr : ∀ (i : Nat) (a : Addr) (c : C), ρ[i]? = some a -> cells[i]? = some c -> c.live = true -> X' a = none) : AtC cells Z X' ρ h :=
  ⟨S.len, S.z, hx, S.nd, S.zr, hz, hr, S.c⟩
theorem AtC.store (S : AtC cells Z X ρ h) {a : Addr} {o o' : Obj} (e : X a = some o) (k : ∀ b o, b ≠ a -> h.get? b = some o -> h'.get? b = some o) (ho : h'.get? a = some o') : AtC cells Z (X.put a o') ρ h' := by
  have q := S.xz a o e
  have ne : ∀ (i : Nat) (b : Addr) (c : C), ρ[i]? = some b -> cells[i]? = some c -> c.live = true -> b ≠ a := by
    rintro i b c f1 f2 f3 rfl; have := S.xr i b c f1 f2 f3; rw [e] at this; cases this
  refine ⟨S.len, fun b x f => k _ _ (by rintro rfl; rw [q] at f; cases f) (S.z b x f), fun b x f => ?_, S.nd, S.zr, fun b x f => ?_, fun i b c f1 f2 f3 => ?_, fun i b c f1 f2 f3 => ?_⟩
  . by_cases z : b = a
    . subst z; rw [zAa.put_self] at f; cases f; exact ho
    . rw [zAa.put_ne _ _ z] at f; exact k _ _ z (S.x b x f)
  . by_cases z : b = a
    . subst z; exact q
    . rw [zAa.put_ne _ _ z] at f; exact S.xz b x f
  . rw [zAa.put_ne _ _ (ne i b c f1 f2 f3)]; exact S.xr i b c f1 f2 f3
  . obtain ⟨y, hy, r⟩ := S.c i b c f1 f2 f3
    exact ⟨y, k _ _ (ne i b c f1 f2 f3) hy, r⟩
theorem AtC.take (S : AtC cells Z X ρ h) {ρ₀ : List Addr} (p : ρ₀ <+: ρ) (hc : ∀ c ∈ cells.take ρ₀.length, ∀ o, zIr Z ρ c o -> zIr Z ρ₀ c o) : AtC (cells.take ρ₀.length) Z X ρ₀ h := by
  have pr : ∀ (i : Nat) (a : Addr), ρ₀[i]? = some a -> ρ[i]? = some a := fun i a e => zEh p e
  have cl : ∀ (i : Nat) (c : C), (cells.take ρ₀.length)[i]? = some c -> cells[i]? = some c := by
    intro i c e
    rw [List.getElem?_take] at e
    split at e
    . exact e
    . cases e
  refine ⟨?_, S.z, S.x, fun i j a c c' e1 e2 f1 f2 => S.nd i j a c c' (pr _ _ e1) (pr _ _ e2) (cl _ _ f1) (cl _ _ f2), fun i a c e1 e2 => S.zr i a c (pr _ _ e1) (cl _ _ e2), S.xz, fun i a c e1 e2 => S.xr i a c (pr _ _ e1) (cl _ _ e2), fun i a c e1 e2 l => ?_⟩
  . rw [List.length_take, ← S.len, Nat.min_eq_left p.length_le]
  . obtain ⟨o, ho, r⟩ := S.c i a c (pr _ _ e1) (cl _ _ e2) l
    exact ⟨o, ho, hc c (Qk e2) o r⟩
end
end
section
noncomputable def zDe : List (Addr × List Str) := [(76, ["lineno", "instream", "whitespace", "pushback", "read"]), (288, ["_headers"])]
noncomputable def zFc : List (Addr × Str × Addr × Nat) := [(76, "_read_char", 59, 40), (76, "get_token", 66, 41), (76, "push_token", 73, 42), (288, "_convert_string_type", 189, 43), (288, "__delitem__", 208, 44), (288, "get_all", 227, 45),
  (288, "get", 235, 46), (288, "keys", 240, 47), (288, "items", 252, 48), (288, "setdefault", 278, 49), (288, "add_header", 285, 50)]
theorem zP6 : (zFc.all fun p => zAl[p.2.2.2]? == some (.ref p.2.2.1)) = true := by decide +kernel
structure yD5 (K : Frag) (C : Addr) (names : List Str) : Prop where
  hasDict : hasDictIn K C = true
  ga : findIn K (.ref C) "__getattribute__" = some (some (.builtin "object.__getattribute__"))
  gattr : findIn K (.ref C) "__getattr__" = some none
  sa : findIn K (.ref C) "__setattr__" = some (some (.builtin "object.__setattr__"))
  po : plainOver K C = true
  fld : ∀ x ∈ names, findIn K (.ref C) x = some none
structure yC9 (K : Frag) (C : Addr) (x : Str) (f : Addr) : Prop where
  find : findIn K (.ref C) x = some (some (.ref f))
  get : specialIn K (.ref f) "__get__" = some (some (.builtin "function.__get__"))
  takes : takesIn K (.ref f) = some false
  type : typeIn K (.ref f) = some (.type "function")
  cp : copiedNames.contains x = false
def zLa (K : Frag) (x : Str) (u : V) : Prop := ∃ v, (∀ Z ρ, zAw Z ρ u v) /\
  ((nsIn K mainGlobals x = some (some v)) ∨ (nsIn K mainGlobals x = some none /\ nsIn K builtinsNs x = some (some v)))
noncomputable def zFo : List (Str × V) := [("decode_rfc2231", .stat 0), ("_netrclex", .stat 1), ("b1_set", .stat 2), ("in_table_b1", .stat 3), ("b3_exceptions", .stat 4), ("map_table_b3", .stat 5),
  ("tspecials", .stat 6), ("_name_disallowed_re", .stat 7), ("_value_disallowed_re", .stat 8), ("_formatparam", .stat 9), ("Headers", .stat 10), ("_law_entry", .stat 11), ("_law_lexer", .stat 12), ("_law_met", .stat 13),
  ("_law_turned", .stat 14), ("_law_least", .stat 15), ("_law_sent", .stat 16), ("law", .stat 17), ("len", .stat 18), ("chr", .stat 19), ("ord", .stat 20), ("min", .stat 21), ("sum", .stat 22), ("sorted", .stat 23), ("iter", .stat 24),
  ("list", .stat 25), ("str", .stat 26), ("range", .stat 27), ("type", .stat 28), ("TICK", .d (.str "'"))]
noncomputable def zI6 : List Nat := [0, 1, 3, 5, 9, 10, 11, 12, 13, 14, 15, 16, 17, 40, 41, 42, 43, 44, 45, 46, 47, 48, 49, 50]
structure yIh (K : Frag) (a : Addr) (st : Stmt) (dv : List Value) (fd : FuncData) : Prop where
  at_ : ∃ o, K.lookup a = some o /\ o.data = .func fd
  params : fd.params = zCk st
  body : fd.body = .stmts (zA5 st)
  scope : fd.scope = zAn st
  globals : fd.globals = mainGlobals
  closure : fd.closure = []
  builtins : fd.builtins = builtinsNs
  code : codeIn K fd.code fd.qualname = true
  kwdefaults : fd.kwdefaults = .none
  defaults : match dv with
    | [] => fd.defaults = .none
    | dv => ∃ t n, fd.defaults = .ref t /\ K.lookup t = some (zFj dv n)
noncomputable def yMo (l : List Stmt) (x : Str) : Stmt := (l.find? (yP2 x)).getD (.Pass ⟨0, 0, 0, 0⟩)
noncomputable def zAq (x : Str) : Stmt := yMo pw.main.body x
noncomputable def zAf (c x : Str) : Stmt := yMo (zA5 (zAq c)) x
noncomputable def zA8 : List (Addr × Stmt × List Value) := [(38, zAq "decode_rfc2231", []), (98, zAq "in_table_b1", []), (144, zAq "map_table_b3", []), (297, zAq "_law_entry", []), (304, zAq "_law_lexer", []), (311, zAq "_law_met", []),
  (316, zAq "_law_turned", []), (321, zAq "_law_least", []), (326, zAq "_law_sent", []), (331, zAq "law", []),
  (52, zAf "_netrclex" "__init__", []), (59, zAf "_netrclex" "_read_char", []), (66, zAf "_netrclex" "get_token", []), (73, zAf "_netrclex" "push_token", []),
  (182, zAf "Headers" "__init__", [.none]), (189, zAf "Headers" "_convert_string_type", []), (208, zAf "Headers" "__delitem__", []), (227, zAf "Headers" "get_all", []), (235, zAf "Headers" "get", [.none]), (240, zAf "Headers" "keys", []),
  (252, zAf "Headers" "items", []), (278, zAf "Headers" "setdefault", []), (285, zAf "Headers" "add_header", [])]
noncomputable def zRw (x : Str) : PySem.Expr := ((pw.main.body.findSome? fun t => match (zX6 t).tgts with
  | [e] => (if (zOs e).name == some x then some (zX6 t).val else none)
  | _ => none).getD zD0)
noncomputable def yOt : Option Const -> Option Int
  | some (.int i) => some i
  | _ => none
noncomputable def yP1 : Option Const -> Option Str
  | some (.str i) => some i
  | _ => none
noncomputable def zQ6 (e : PySem.Expr) : Int := (yOt (zOs e).const).getD 0
noncomputable def yNn (e : PySem.Expr) : List PySem.Expr := (zOs e).es
noncomputable def zK6 (x : Str) : List Nat := (yNn ((zOs (zRw x)).es.getD 2 zD0)).map fun e => (zQ6 e).toNat
noncomputable def zG3 : List Int := match (zOs ((zOs (zRw "b1_set")).es.headD zD0)).left with
  | some l => (yNn l).map zQ6 ++ (List.range 16).map fun (k : Nat) => 65024 + (k : Int)
  | none => []
noncomputable def zIi (e : PySem.Expr) : List (Option PySem.Expr) := (zOs e).dict.1
noncomputable def zH6 (e : PySem.Expr) : List PySem.Expr := (zOs e).dict.2
noncomputable def kOf (e : Option PySem.Expr) : Option Int := e.bind fun e => yOt (zOs e).const
noncomputable def vOf (e : PySem.Expr) : Option Str := yP1 (zOs e).const
noncomputable def yNb : List (Option PySem.Expr) -> List PySem.Expr -> Option (List (Int × Str))
  | [], [] => some []
  | k :: ks, v :: vs => match kOf k, vOf v, yNb ks vs with
    | some k, some x, some l => some ((k, x) :: l)
    | _, _, _ => none
  | _, _ => none
noncomputable def b3e : PySem.Expr := zN0 (zPn 9)
noncomputable def zWr : List (Int × Str) := (yNb (zIi b3e) (zH6 b3e)).getD []
noncomputable def zJt (k : Int) : Option Str := zWr.lookup k
structure yCl (K : Frag) : Prop where
  mods : ∃ o, K.lookup 1 = some o
  noseq : seqItemTypes.all (fun T => mroIn K 288 (.type T) == some false) = true
  nocell : ∀ a o l, K.lookup a = some o -> o.data ≠ .cell (some (.ref l))
  notab : K.lookup 299 = none
  lexcode : ∀ h, K.In h -> CodeHd h 303 299
  lexfn : ∃ o fd, K.lookup 304 = some o /\ o.data = .func fd /\ fd.code = .ref 303
  glb : ∃ o es ep, K.lookup mainGlobals = some o /\ o.data = .dict es ep /\ StrKeys es /\ ∀ h, K.In h -> h.BuiltinsAt (nsFind es) 299
  makes : ∀ C f, (C, f) ∈ [((76 : Addr), (52 : Addr)), (288, 182)] -> makesIn K C = true /\ findIn K (.ref C) "__init__" = some (some (.ref f)) /\ typeIn K (.ref f) = some (.type "function")
  d4 : ∃ o, K.lookup 99 = some o /\ o.cls = .type "dict" /\ o.dict = none /\ o.slots = #[]
  b3 : ∃ f : Int -> Option Value, (∀ h, K.In h -> h.IntMap 99 f) /\ ∀ k, (f k = none /\ zJt k = none) ∨ ∃ x t, f k = some (.str x t) /\ zJt k = some x
  pat7 : ∃ f0 f1 f3 f4, K.lookup 154 = some ⟨.type "re.Pattern", none, .fields #[f0, f1, .int 0 0, f3, f4, .ref 153, .int 0 0], #[]⟩
  code7 : K.lookup 153 = some (zFj ((zK6 "_name_disallowed_re").map fun (c : Nat) => .int (c : Int) 0) 0)
  pat8 : ∃ f0 f1 f3 f4, K.lookup 159 = some ⟨.type "re.Pattern", none, .fields #[f0, f1, .int 0 0, f3, f4, .ref 158, .int 0 0], #[]⟩
  code8 : K.lookup 158 = some (zFj ((zK6 "_value_disallowed_re").map fun (c : Nat) => .int (c : Int) 0) 0)
  b1 : ∃ es n t, K.lookup 88 = some ⟨.type "set", none, .set es n t, #[]⟩ /\ (∀ e ∈ es, ∃ k t, e = (hashInt k, .int k t)) /\ (∀ k : Int, zG3.contains k = true ↔ ∃ e ∈ es, ∃ t, e.2 = .int k t) /\ es.size = 27 /\ t.fits 27 = true
set_option genInjectivity false in
set_option genSizeOf false in
structure G where
  w : World
  K : Frag
  nolim : ∀ h, K.In h -> h.NoLimit
  fns : ∀ p ∈ zA8, ∃ fd, yIh K p.1 p.2.1 p.2.2 fd
  os : OsState
  keep : ∀ k ∈ zI6, ∀ f, zAl[k]? = some f -> keepIn K f = true
  cls : ∀ C names, (C, names) ∈ zDe -> yD5 K C names
  meth : ∀ C x f t, (C, x, f, t) ∈ zFc -> yC9 K C x f
  glob : ∀ x u, (x, u) ∈ zFo -> zLa K x u
  stat : yCl K
noncomputable def G.M (g : G) : Model := model pw g.w
def Bot : Value -> Shared -> Prop := fun _ _ => False
structure zDr (n : Nat) (A : Around) : Prop where
  hd : A.handled = none
  dp : A.depth + n < recursionLimit
  un : A.units + 8 * n + 100 < cLine
theorem zDr.units {n : Nat} {A : Around} (r : zDr n A) : A.units < cLine := by have := r.un; omega
theorem zDr.depth {n : Nat} {A : Around} (r : zDr n A) : A.depth < recursionLimit := by have := r.dp; omega
theorem zDr.deeper {n : Nat} {A : Around} (r : zDr (n + 1) A) (env : Env) : zDr n (A.deeper env) :=
  ⟨r.hd, by have := r.dp; show A.depth + 1 + n < _; omega, by have := r.un; show A.units + 3 + _ + _ < _; omega⟩
theorem zDr.le {n k : Nat} {A : Around} (r : zDr n A) (h : k <= n) : zDr k A := ⟨r.hd, by have := r.dp; omega, by have := r.un; omega⟩
theorem zDr.in1 {n : Nat} {A : Around} (r : zDr (n + 1) A) : zDr n A.in1 := ⟨r.hd, by have := r.dp; show A.depth + n < _; omega, by have := r.un; show A.units + 1 + _ + _ < _; omega⟩
def Aux (os : OsState) (s : Shared) : Prop := s.gens = #[] /\ s.os = os
def zEq (K : Frag) (Z : zAa) : Prop := ∀ a o, K.lookup a = some o -> Z a = some o
theorem zEq.mono {K : Frag} {Z Z' : zAa} (x : zEq K Z) (k : Z.Le Z') : zEq K Z' := fun a o e => k a o (x a o e)
theorem zEq.kin {K : Frag} {Z : zAa} {h : Heap} (x : zEq K Z) (z : Z.In h) : K.In h := fun a o e => z a o (x a o e)
def zEf (g : G) (K' : V -> List C -> Prop) (Z X : zAa) (ρ : List Addr) (Q : Value -> Shared -> Prop) : Prop :=
  ∀ v u cells' Z' ρ' s', K' u cells' -> Z.Le Z' -> ρ <+: ρ' -> AtC cells' Z' X ρ' s'.heap -> Aux g.os s' -> zAw Z' ρ' u v -> Q v s'
def Op (g : G) (n : Nat) (t : List Value -> Sem Value) (args : List V) (cells : List C) (K' : V -> List C -> Prop) : Prop :=
  ∀ A Z X ρ s Q vals, zDr n A -> zEq g.K Z -> AtC cells Z X ρ s.heap -> Aux g.os s -> zBl Z ρ args vals -> zEf g K' Z X ρ Q -> wpAny g.M A (t vals) Q Bot s
def zP1 (g : G) (K' : Bool -> List C -> Prop) (Z X : zAa) (ρ : List Addr) (Q : Bool -> Shared -> Prop) : Prop :=
  ∀ b cells' Z' ρ' s', K' b cells' -> Z.Le Z' -> ρ <+: ρ' -> AtC cells' Z' X ρ' s'.heap -> Aux g.os s' -> Q b s'
def OpB (g : G) (n : Nat) (t : List Value -> Sem Bool) (args : List V) (cells : List C) (K' : Bool -> List C -> Prop) : Prop :=
  ∀ A Z X ρ s Q vals, zDr n A -> zEq g.K Z -> AtC cells Z X ρ s.heap -> Aux g.os s -> zBl Z ρ args vals -> zP1 g K' Z X ρ Q -> wpAny g.M A (t vals) Q Bot s
structure Sc where
  scope : Scope
  own : List Str      -- its own cell names
def zQ5 (o : Obj) (m : Str -> Option Value) : Prop := ∃ es ep, o.data = .dict es ep /\ StrKeys es /\ ∀ name, nsFind es name = m name
theorem zJm {h : Heap} {a : Addr} {m : Str -> Option Value} : h.Ns a m ↔ ∃ o, h.get? a = some o /\ zQ5 o m :=
  ⟨fun ⟨o, es, ep, a, r⟩ => ⟨o, a, es, ep, r⟩, fun ⟨o, a, es, ep, r⟩ => ⟨o, es, ep, a, r⟩⟩
noncomputable def zB7 {α : Type} (x : Str) : List (Str × α) -> Option α
  | [] => none
  | (y, a) :: r => if x = y then some a else zB7 x r
def zCx (sc : Sc) (env : Env) (m : Str -> Option Value) (X Z : zAa) (ρ : List Addr) (x : Str) (u : V) : Prop :=
  match sc.scope.names.lookup x with
  | some .local => ∃ v, m x = some v /\ zAw Z ρ u v
  | some .cell | some .free => ∃ c o v, env.cells.lookup x = some c /\ X c = some o /\ o.data = .cell (some v) /\ zAw Z ρ u v
  | _ => False
structure zB9 (sc : Sc) (env : Env) : Prop where
  scope : env.scope = sc.scope
  kind : sc.scope.kind = .function
  globals : env.globals = mainGlobals
  builtins : env.builtins = builtinsNs
structure zAh (sc : Sc) (env : Env) (vars : List (Str × V)) (Z X R : zAa) (ρ : List Addr) (bs : List Addr) (m : Str -> Option Value) : Prop where
  keeps : R.Le X
  loc : ∃ o, X env.locals = some o /\ zQ5 o m
  boxes : sc.own.map (fun x => env.cells.lookup x) = bs.map some
  kinds : ∀ x ∈ sc.own, sc.scope.names.lookup x = some .cell
  boxAt : ∀ b ∈ bs, ∃ o u, X b = some o /\ o.data = .cell u
  nd : (env.locals :: bs).Nodup
  off : ∀ a ∈ env.locals :: bs, R a = none
  onlyOwn : ∀ x c, x ∉ sc.own -> env.cells.lookup x = some c -> c ∉ env.locals :: bs
  vars : ∀ x u, zB7 x vars = some u -> zCx sc env m X Z ρ x u
section
variable {M : Model} {A : Around} {α : Type} {Q : α -> Shared -> Prop} {E : Value -> Shared -> Prop} {s : Shared}
theorem zEg {x y : Sem α} (e : x = y) (h : wpAny M A y Q E s) : wpAny M A x Q E s := by rw [e]; exact h
theorem yIw {b : Bool} {x y : Sem α} (hb : b = false) (h : wpAny M A y Q E s) : wpAny M A (if b = true then x else y) Q E s := by subst hb; exact h
theorem yCx {b : Bool} {x y : Sem α} (hb : b = true) (h : wpAny M A x Q E s) : wpAny M A (if b = true then x else y) Q E s := by subst hb; exact h
theorem yDe {p : Prop} [Decidable p] {x y : Sem α} (hb : ¬p) (h : wpAny M A y Q E s) : wpAny M A (if p then x else y) Q E s := by rw [if_neg hb]; exact h
theorem zQ9 {p : Prop} [Decidable p] {x y : Sem α} (hb : p) (h : wpAny M A x Q E s) : wpAny M A (if p then x else y) Q E s := by rw [if_pos hb]; exact h
end
abbrev yN1 (k : Option NameKind) : Prop := k = some .cell ∨ k = some .free
section
variable {sc : Sc} {env : Env} {m m' : Str -> Option Value} {X X' Z Z' : zAa} {ρ ρ' : List Addr} {x : Str} {u : V}
theorem zCx.elim {p : Prop} (h : zCx sc env m X Z ρ x u) (kl : sc.scope.names.lookup x = some .local -> ∀ v, m x = some v -> zAw Z ρ u v -> p)
    (kb : ∀ c o v, yN1 (sc.scope.names.lookup x) -> env.cells.lookup x = some c -> X c = some o -> o.data = .cell (some v) -> zAw Z ρ u v -> p) : p := by
  unfold zCx at h
  split at h
  . rename_i k; exact let ⟨v, e, r⟩ := h; kl k v e r
  . rename_i k; exact let ⟨c, o, v, e, f, q, r⟩ := h; kb c o v (.inl k) e f q r
  . rename_i k; exact let ⟨c, o, v, e, f, q, r⟩ := h; kb c o v (.inr k) e f q r
  . exact h.elim
theorem zCx.ofLocal {v : Value} (k : sc.scope.names.lookup x = some .local) (e : m x = some v) (r : zAw Z ρ u v) : zCx sc env m X Z ρ x u := by
  unfold zCx; rw [k]; exact ⟨v, e, r⟩
theorem zCx.ofBox {c : Addr} {o : Obj} {v : Value} (k : yN1 (sc.scope.names.lookup x)) (e : env.cells.lookup x = some c) (f : X c = some o) (q : o.data = .cell (some v)) (r : zAw Z ρ u v) : zCx sc env m X Z ρ x u := by
  unfold zCx
  rcases k with k | k
  . rw [k]; exact ⟨c, o, v, e, f, q, r⟩
  . rw [k]; exact ⟨c, o, v, e, f, q, r⟩
theorem zCx.imp (h : zCx sc env m X Z ρ x u) (kl : ∀ v, m x = some v -> m' x = some v) (kb : ∀ c o, yN1 (sc.scope.names.lookup x) -> env.cells.lookup x = some c -> X c = some o -> X' c = some o) (kr : ∀ v, zAw Z ρ u v -> zAw Z' ρ' u v) : zCx sc env m' X' Z' ρ' x u :=
  h.elim (fun k v e r => .ofLocal k (kl v e) (kr v r)) fun c o v k e f q r => .ofBox k e (kb c o k e f) q (kr v r)
theorem zCx.mono (k : Z.Le Z') (p : ρ <+: ρ') (h : zCx sc env m X Z ρ x u) : zCx sc env m X Z' ρ' x u :=
  h.imp (fun _ e => e) (fun _ _ _ _ f => f) fun _ r => r.mono k p
theorem zCx.up (h : zCx sc env m X Z ρ x u) (le : X.Le X') : zCx sc env m X' Z ρ x u :=
  h.imp (fun _ e => e) (fun _ _ _ _ f => le _ _ f) fun _ r => r
end
theorem zAh.mono {sc : Sc} {env : Env} {vars : List (Str × V)} {Z Z' X R : zAa} {ρ ρ' : List Addr} {bs : List Addr} {m : Str -> Option Value} (F : zAh sc env vars Z X R ρ bs m) (k : Z.Le Z') (p : ρ <+: ρ') : zAh sc env vars Z' X R ρ' bs m :=
  ⟨F.keeps, F.loc, F.boxes, F.kinds, F.boxAt, F.nd, F.off, F.onlyOwn, fun x u e => (F.vars x u e).mono k p⟩
def TE (g : G) (n : Nat) (sc : Sc) (e : Expr) (vars : List (Str × V)) (cells : List C) (K' : V -> List C -> Prop) : Prop :=
  ∀ A env Z X R ρ bs m s Q, zDr n A -> zB9 sc env -> zEq g.K Z -> zAh sc env vars Z X R ρ bs m -> AtC cells Z X ρ s.heap -> Aux g.os s -> zEf g K' Z X ρ Q -> wpAny g.M A (eval e env) Q Bot s
end
section
theorem zAs {α : Type} {M : Model} {A : Around} {t : Sem α} {Q Q' : α -> Shared -> Prop} {E : Value -> Shared -> Prop} {s : Shared} (h : wpAny M A t Q Bot s) (k : ∀ a s, Q a s -> Q' a s) : wpAny M A t Q' E s :=
  wpAny_mono h k fun _ _ f => f.elim
theorem zEf.grow {g : G} {K' : V -> List C -> Prop} {Z Z' X : zAa} {ρ ρ' : List Addr} {Q : Value -> Shared -> Prop} (P : zEf g K' Z X ρ Q) (k : Z.Le Z') (p : ρ <+: ρ') : zEf g K' Z' X ρ' Q :=
  fun v u cells' Z'' ρ'' s' a b c d e f => P v u cells' Z'' ρ'' s' a (k.trans b) (p.trans c) d e f
theorem zP1.grow {g : G} {K' : Bool -> List C -> Prop} {Z Z' X : zAa} {ρ ρ' : List Addr} {Q : Bool -> Shared -> Prop} (P : zP1 g K' Z X ρ Q) (k : Z.Le Z') (p : ρ <+: ρ') : zP1 g K' Z' X ρ' Q :=
  fun v cells' Z'' ρ'' s' a b c d e => P v cells' Z'' ρ'' s' a (k.trans b) (p.trans c) d e
theorem Aux.toks {os : OsState} {s : Shared} (x : Aux os s) (h : Heap) (t : Nat) : Aux os { s with heap := h, toks := t } := x
theorem zEf.now {g : G} {K' : V -> List C -> Prop} {Z X : zAa} {ρ : List Addr} {Q : Value -> Shared -> Prop} {u : V} {v : Value} {cells : List C} {s : Shared} (P : zEf g K' Z X ρ Q) (k : K' u cells) (S : AtC cells Z X ρ s.heap) (a : Aux g.os s) (r : zAw Z ρ u v) : Q v s :=
  P v u cells Z ρ s k (zAa.Le.refl _) (Qp _) S a r
section
variable {g : G} {n : Nat} {sc : Sc} {vars : List (Str × V)} {cells : List C} {K' : V -> List C -> Prop}
theorem TE.mono {e : Expr} {K'' : V -> List C -> Prop} (h : TE g n sc e vars cells K') (k : ∀ u c, K' u c -> K'' u c) : TE g n sc e vars cells K'' :=
  fun A env Z X R ρ bs m s Q rm en st fr S ax P => h A env Z X R ρ bs m s Q rm en st fr S ax fun v u c Z' ρ' s' x => P v u c Z' ρ' s' (k u c x)
theorem TE_const_none {k : Nat} {p : Pos} (h : K' (.d .none) cells) : TE g n sc (.Constant .none k p) vars cells K' :=
  fun _ _ _ _ _ _ _ _ _ _ _ _ _ _ S ax P => wpAny_Constant_none (P.now h S ax rfl)
theorem TE_const_bool {b : Bool} {k : Nat} {p : Pos} (h : K' (.d (.bool b)) cells) : TE g n sc (.Constant (.bool b) k p) vars cells K' :=
  fun _ _ _ _ _ _ _ _ _ _ _ _ _ _ S ax P => wpAny_Constant_bool (P.now h S ax rfl)
theorem TE_const_int {i : Int} {k : Nat} {p : Pos} (h : K' (.d (.int i)) cells) : TE g n sc (.Constant (.int i) k p) vars cells K' :=
  fun _ _ _ _ _ _ _ _ s _ _ _ _ _ S ax P => wpAny_Constant_int (P.now (s := { s with toks := s.toks + 1 }) h S ax ⟨_, rfl⟩)
theorem TE_const_str {x : Str} {k : Nat} {p : Pos} (h : K' (.d (.str x)) cells) : TE g n sc (.Constant (.str x) k p) vars cells K' :=
  fun _ _ _ _ _ _ _ _ s _ _ _ _ _ S ax P => wpAny_Constant_str (P.now (s := { s with toks := s.toks + 1 }) h S ax ⟨_, rfl⟩)
theorem zB6 {sc : Sc} {env : Env} (en : zB9 sc env) (x : Str) : env.kindOf x = sc.scope.names.lookup x := by unfold Env.kindOf; rw [en.scope]
theorem zQ1 {x : Str} {u : V} (hl : zB7 x vars = some u) (h : K' u cells) (hn : (x == ("__classdict__" : Str)) = false) {A env Z X R ρ bs m s Q} (en : zB9 sc env) (fr : zAh sc env vars Z X R ρ bs m)
    (S : AtC cells Z X ρ s.heap) (ax : Aux g.os s) (P : zEf g K' Z X ρ Q) : wpAny g.M A (loadName env x) Q Bot s := by
  have hv := fr.vars x u hl
  have hk : env.scope.kind = .function := by rw [en.scope]; exact en.kind
  refine hv.elim (fun q v e r => ?_) fun c o v q e f q' r => ?_
  . obtain ⟨o, ho, di⟩ := fr.loc
    exact wpAny_loadName_local hk (by rw [zB6 en]; exact q) (zJm.mpr ⟨o, S.x _ _ ho, di⟩) e (P.now h S ax r)
  . rcases q with q | q
    . exact wpAny_loadName_cell hk (by rw [zB6 en]; exact q) e ⟨_, S.x _ _ f, q'⟩ (P.now h S ax r)
    . exact wpAny_loadName_free hk (by rw [zB6 en]; exact q) e ⟨_, S.x _ _ f, q'⟩ (P.now h S ax r) hn
theorem yC1 {x : Str} {p : Pos} {u : V} (hl : zB7 x vars = some u) (h : K' u cells) (hd : (x == ("__debug__" : Str)) = false) (hn : (x == ("__classdict__" : Str)) = false) : TE g n sc (.Name x p) vars cells K' :=
  fun _ _ _ _ _ _ _ _ _ _ _ en _ fr S ax P => wpAny_Name (zQ1 hl h hn en fr S ax P) hd
theorem zUg {x : Str} {p : Pos} {u : V} (hg : zLa g.K x u) (hk' : sc.scope.names.lookup x = some .globalImplicit) (h : K' u cells) (hd : (x == ("__debug__" : Str)) = false) : TE g n sc (.Name x p) vars cells K' := by
  intro A env Z X R ρ bs m s Q rm en st fr S ax P
  obtain ⟨v, r, hv⟩ := hg
  refine wpAny_Name ?_ hd
  have hk : env.scope.kind = .function := by rw [en.scope]; exact en.kind
  unfold loadName
  simp only [Env.blockKind, hk, zB6 en, hk', ScopeKind.isAnnotationScope, Bool.false_and, Bool.false_eq_true, if_false]
  unfold loadGlobal
  rw [en.globals, en.builtins]
  have X' := st.kin S.z
  rcases hv with hv | ⟨hv, hb⟩
  . exact Qa ((looks_nsIn X' hv).here (Qb (P.now h S ax (r _ _))))
  . exact Qa ((looks_nsIn X' hv).here (Qa ((looks_nsIn X' hb).here (Qb (P.now h S ax (r _ _))))))
theorem yLd {l r : Expr} {op : Operator} {p : Pos}
    (h : TE g n sc l vars cells fun a c1 => TE g n sc r vars c1 fun b c2 => Op g n (fun | [x, y] => binaryOp op x y | _ => unsupported "") [a, b] c2 K') :
    TE g n sc (.BinOp l op r p) vars cells K' := by
  intro A env Z X R ρ bs m s Q rm en st fr S ax P
  refine wpAny_BinOp (h A env Z X R ρ bs m s _ rm en st fr S ax ?_)
  intro a ua c1 Z1 ρ1 s1 h1 k1 p1 S1 ax1 r1
  refine h1 A env Z1 X R ρ1 bs m s1 _ rm en (st.mono k1) (fr.mono k1 p1) S1 ax1 ?_
  intro b ub c2 Z2 ρ2 s2 h2 k2 p2 S2 ax2 r2
  exact h2 A Z2 X ρ2 s2 Q [a, b] rm ((st.mono k1).mono k2) S2 ax2 ⟨a, [b], rfl, r1.mono k2 p2, b, [], rfl, r2, rfl⟩ ((P.grow k1 p1).grow k2 p2)
theorem zQm {e : Expr} {op : UnaryOp} {p : Pos}
    (h : TE g n sc e vars cells fun a c1 => Op g n (fun | [x] => unaryOp op x | _ => unsupported "") [a] c1 K') :
    TE g n sc (.UnaryOp op e p) vars cells K' := by
  intro A env Z X R ρ bs m s Q rm en st fr S ax P
  refine zEg (arm_eval_UnaryOp ..) ?_
  refine Qa (zAs (h A env Z X R ρ bs m s (fun v s' => wpAny g.M A (do standAt p; holding [v] (unaryOp op v)) Q Bot s') rm en st fr S ax ?_) fun _ _ x => x)
  intro a ua c1 Z1 ρ1 s1 h1 k1 p1 S1 ax1 r1
  refine Qa (wpAny_standAt (Qc ?_))
  exact h1 A Z1 X ρ1 s1 Q [a] rm (st.mono k1) S1 ax1 ⟨a, [], rfl, r1, rfl⟩ (P.grow k1 p1)
theorem zT7 {l r : Expr} {op : CmpOp} {p : Pos} (hm : behindInMarks op r = false)
    (h : TE g n sc l vars cells fun a c1 => TE g n sc r vars c1 fun b c2 => Op g n (fun | [x, y] => compareOp op x y | _ => unsupported "") [a, b] c2 K') :
    TE g n sc (.Compare l [op] [r] p) vars cells K' := by
  intro A env Z X R ρ bs m s Q rm en st fr S ax P
  refine wpAny_Compare1 (h A env Z X R ρ bs m s _ rm en st fr S ax ?_) hm
  intro a ua c1 Z1 ρ1 s1 h1 k1 p1 S1 ax1 r1
  refine h1 A env Z1 X R ρ1 bs m s1 _ rm en (st.mono k1) (fr.mono k1 p1) S1 ax1 ?_
  intro b ub c2 Z2 ρ2 s2 h2 k2 p2 S2 ax2 r2
  exact h2 A Z2 X ρ2 s2 Q [a, b] rm ((st.mono k1).mono k2) S2 ax2 ⟨a, [b], rfl, r1.mono k2 p2, b, [], rfl, r2, rfl⟩ ((P.grow k1 p1).grow k2 p2)
def TB (g : G) (n : Nat) (sc : Sc) (e : Expr) (vars : List (Str × V)) (cells : List C) (K' : Bool -> List C -> Prop) : Prop :=
  ∀ A env Z X R ρ bs m s Q, zDr n A -> zB9 sc env -> zEq g.K Z -> zAh sc env vars Z X R ρ bs m -> AtC cells Z X ρ s.heap -> Aux g.os s -> zP1 g K' Z X ρ Q -> wpAny g.M A (isTrue e env (eval e env)) Q Bot s
theorem zZf {t a b : Expr} {p : Pos} (h : TB g n sc t vars cells fun q c => cond q (TE g n sc a vars c K') (TE g n sc b vars c K')) : TE g n sc (.IfExp t a b p) vars cells K' := by
  intro A env Z X R ρ bs m s Q rm en st fr S ax P
  refine zEg (arm_eval_IfExp ..) ?_
  refine Qa (h A env Z X R ρ bs m s _ rm en st fr S ax ?_)
  intro q c1 Z1 ρ1 s1 h1 k1 p1 S1 ax1
  induction q with
  | true => exact h1 A env Z1 X R ρ1 bs m s1 Q rm en (st.mono k1) (fr.mono k1 p1) S1 ax1 (P.grow k1 p1)
  | false => exact h1 A env Z1 X R ρ1 bs m s1 Q rm en (st.mono k1) (fr.mono k1 p1) S1 ax1 (P.grow k1 p1)
variable {KB : Bool -> List C -> Prop}
theorem zTf {l r : Expr} {op : CmpOp} {p : Pos} (hm : behindInMarks op r = false)
    (h : TE g n sc l vars cells fun a c1 => TE g n sc r vars c1 fun b c2 => Op g n (fun | [x, y] => compareOp op x y | _ => unsupported "") [a, b] c2 fun u c3 => ∃ q, u = .d (.bool q) /\ KB q c3) :
    TB g n sc (.Compare l [op] [r] p) vars cells KB := by
  intro A env Z X R ρ bs m s Q rm en st fr S ax P
  refine wpAny_isTrue_Compare1 (h A env Z X R ρ bs m s _ rm en st fr S ax ?_) hm
  intro a ua c1 Z1 ρ1 s1 h1 k1 p1 S1 ax1 r1
  refine h1 A env Z1 X R ρ1 bs m s1 _ rm en (st.mono k1) (fr.mono k1 p1) S1 ax1 ?_
  intro b ub c2 Z2 ρ2 s2 h2 k2 p2 S2 ax2 r2
  refine h2 A Z2 X ρ2 s2 _ [a, b] rm ((st.mono k1).mono k2) S2 ax2 ⟨a, [b], rfl, r1.mono k2 p2, b, [], rfl, r2, rfl⟩ ?_
  intro v u c3 Z3 ρ3 s3 h3 k3 p3 S3 ax3 r3
  obtain ⟨q, rfl, hq⟩ := h3
  simp only [zAw, zA2] at r3
  subst r3
  exact wpAny_truthy_bool (P q c3 Z3 ρ3 s3 hq (k1.trans (k2.trans k3)) (p1.trans (p2.trans p3)) S3 ax3)
theorem yBr {e : Expr} (he : ∀ env whole, isTrue e env whole = (do let v ← whole; standAt e.pos; holding [v] (truthy v)))
    (h : TE g n sc e vars cells fun a c1 => OpB g n (fun | [x] => truthy x | _ => unsupported "") [a] c1 KB) : TB g n sc e vars cells KB := by
  intro A env Z X R ρ bs m s Q rm en st fr S ax P
  refine wpAny_isTrue_value (h A env Z X R ρ bs m s _ rm en st fr S ax ?_) (he _ _)
  intro a ua c1 Z1 ρ1 s1 h1 k1 p1 S1 ax1 r1
  exact h1 A Z1 X ρ1 s1 Q [a] rm (st.mono k1) S1 ax1 ⟨a, [], rfl, r1, rfl⟩ (P.grow k1 p1)
theorem yHu {e : Expr} {p : Pos} (h : TB g n sc e vars cells fun q c => KB (!q) c) : TB g n sc (.UnaryOp .Not e p) vars cells KB := by
  intro A env Z X R ρ bs m s Q rm en st fr S ax P
  refine zEg (arm_isTrue_UnaryOp ..) ?_
  refine Qa (h A env Z X R ρ bs m s _ rm en st fr S ax ?_)
  intro q c1 Z1 ρ1 s1 h1 k1 p1 S1 ax1
  exact Qb (P _ c1 Z1 ρ1 s1 h1 k1 p1 S1 ax1)
def zHx (g : G) (n : Nat) (sc : Sc) (op : BoolOp) (vars : List (Str × V)) (KB : Bool -> List C -> Prop) : List Expr -> List C -> Prop
  | [], cells => KB (op == .And) cells
  | e :: r, cells => TB g n sc e vars cells fun q c => match op, q with
    | .And, false => KB false c
    | .Or, true => KB true c
    | _, _ => zHx g n sc op vars KB r c
theorem zPz {op : BoolOp} : ∀ {es : List Expr} {cells : List C}, zHx g n sc op vars KB es cells ->
    ∀ A env Z X R ρ bs m s Q, zDr n A -> zB9 sc env -> zEq g.K Z -> zAh sc env vars Z X R ρ bs m -> AtC cells Z X ρ s.heap -> Aux g.os s -> zP1 g KB Z X ρ Q -> wpAny g.M A (allTrue op es env) Q Bot s := by
  intro es
  induction es with
  | nil =>
    rintro cells h A env Z X R ρ bs m s Q rm en st fr S ax P
    rw [arm_allTrue_nil]; exact Qb (P _ cells Z ρ s h (zAa.Le.refl _) (Qp _) S ax)
  | cons e r ih =>
    rintro cells h A env Z X R ρ bs m s Q rm en st fr S ax P
    refine zEg (arm_allTrue_cons ..) ?_
    refine Qa (h A env Z X R ρ bs m s _ rm en st fr S ax ?_)
    intro q c1 Z1 ρ1 s1 h1 k1 p1 S1 ax1
    have go := fun (z : zHx g n sc op vars KB r c1) => ih z A env Z1 X R ρ1 bs m s1 Q rm en (st.mono k1) (fr.mono k1 p1) S1 ax1 (P.grow k1 p1)
    cases op <;> cases q <;> first | exact Qb (P _ c1 Z1 ρ1 s1 h1 k1 p1 S1 ax1) | exact go h1
theorem TB_bool {op : BoolOp} {es : List Expr} {p : Pos} (h : zHx g n sc op vars KB es cells) : TB g n sc (.BoolOp op es p) vars cells KB := by
  intro A env Z X R ρ bs m s Q rm en st fr S ax P
  refine zEg (arm_isTrue_BoolOp ..) ?_
  exact zPz h A env Z X R ρ bs m s Q rm en st fr S ax P
def TEs (g : G) (n : Nat) (sc : Sc) (vars : List (Str × V)) : List Expr -> List C -> (List V -> List C -> Prop) -> Prop
  | [], cells, K => K [] cells
  | e :: r, cells, K => TE g n sc e vars cells fun u c => TEs g n sc vars r c fun us c' => K (u :: us) c'
def yIb (g : G) (K' : List V -> List C -> Prop) (Z X : zAa) (ρ : List Addr) (Q : List Value -> Shared -> Prop) : Prop :=
  ∀ v u cells' Z' ρ' s', K' u cells' -> Z.Le Z' -> ρ <+: ρ' -> AtC cells' Z' X ρ' s'.heap -> Aux g.os s' -> zBl Z' ρ' u v -> Q v s'
noncomputable def zB2 (e : Expr) : Bool := !(Nat.beq e.ctorIdx 22)
def yG5 (e : Expr) : Prop := zB2 e = true -> ∀ r env, starEach (e :: r) env = (false, eval e env) :: starEach r env
theorem zY9 (e : Expr) : true = true -> ∀ r env, (false, eval e env) :: starEach r env = (false, eval e env) :: starEach r env := fun _ _ _ => rfl
theorem zTz : ∀ e, yG5 e := by intro e; induction e using Expr.casesOn <;> first | exact zY9 _ | exact fun h => (Qw h).elim
theorem zBw {e : Expr} (r : List Expr) (env : Env) (h : zB2 e = true) : starEach (e :: r) env = (false, eval e env) :: starEach r env := zTz e h r env
theorem zC2 {pos : Pos} : ∀ {es : List Expr} {cells : List C} {K' : List V -> List C -> Prop}, TEs g n sc vars es cells K' -> es.all zB2 = true ->
    ∀ A env Z X R ρ bs m s Q, zDr n A -> zB9 sc env -> zEq g.K Z -> zAh sc env vars Z X R ρ bs m -> AtC cells Z X ρ s.heap -> Aux g.os s -> yIb g K' Z X ρ Q -> wpAny g.M A (spliced (backTo pos (starEach es env))) Q Bot s := by
  intro es
  induction es with
  | nil =>
    rintro cells K' h _ A env Z X R ρ bs m s Q rm en st fr S ax P
    show wpAny g.M A (pure []) Q Bot s
    exact Qb (P [] [] cells Z ρ s h (zAa.Le.refl _) (Qp _) S ax rfl)
  | cons e r ih =>
    rintro cells K' h hp A env Z X R ρ bs m s Q rm en st fr S ax P
    rw [List.all_cons, Bool.and_eq_true] at hp
    rw [zBw r env hp.1]
    show wpAny g.M A (do
      let v ← eval e env
      let here ← pure [v]
      return here ++ (← holding here (spliced (backTo pos (starEach r env))))) Q Bot s
    refine Qa (h A env Z X R ρ bs m s _ rm en st fr S ax ?_)
    intro v u c1 Z1 ρ1 s1 h1 k1 p1 S1 ax1 r1
    refine Qa (Qb (Qa (Qc (ih h1 hp.2 A env Z1 X R ρ1 bs m s1 _ rm en (st.mono k1) (fr.mono k1 p1) S1 ax1 ?_))))
    intro vs us c2 Z2 ρ2 s2 h2 k2 p2 S2 ax2 r2
    exact Qb (P (v :: vs) (u :: us) c2 Z2 ρ2 s2 h2 (k1.trans k2) (p1.trans p2) S2 ax2 ⟨v, vs, rfl, r1.mono k2 p2, r2⟩)
end
end
section
noncomputable def toD : V -> List C -> Option (D × List C)
  | .d x, c => some (x, c)
  | .loc i, c => match c[i]? with
    | some (.lst l) => some (.lst l, c.set i .gone)
    | _ => none
  | _, _ => none
noncomputable def zRd : List V -> List C -> Option (List D × List C)
  | [], c => some ([], c)
  | v :: r, c => match toD v c with
    | none => none
    | some (d, c1) => match zRd r c1 with
      | none => none
      | some (ds, c2) => some (d :: ds, c2)
theorem zNb {v : V} {cells c1 : List C} {d : D} {Z X : zAa} {ρ : List Addr} {h : Heap} {u : Value} (e : toD v cells = some (d, c1)) (S : AtC cells Z X ρ h) (r : zAw Z ρ v u) :
    ∃ Z', Z.Le Z' /\ AtC c1 Z' X ρ h /\ zA2 Z' d u := by
  induction v using V.casesOn with
  | d x => simp only [toD, Option.some.injEq, Prod.mk.injEq] at e; obtain ⟨rfl, rfl⟩ := e; exact ⟨Z, zAa.Le.refl _, S, r⟩
  | loc i =>
    simp only [toD] at e
    split at e
    . rename_i l q
      simp only [Option.some.injEq, Prod.mk.injEq] at e; obtain ⟨rfl, rfl⟩ := e
      obtain ⟨a, Z', e1, le, S', rd⟩ := S.settle q
      obtain ⟨a', e1', rfl⟩ := r
      rw [e1] at e1'; cases e1'
      exact ⟨Z', le, S', rd⟩
    . cases e
  | _ => cases e
theorem zHz : ∀ {vs : List V} {cells c1 : List C} {ds : List D} {Z X : zAa} {ρ : List Addr} {h : Heap} {us : List Value} (_ : zRd vs cells = some (ds, c1)) (_ : AtC cells Z X ρ h) (_ : zBl Z ρ vs us),
    ∃ Z', Z.Le Z' /\ AtC c1 Z' X ρ h /\ zAk Z' ds us := by
  intro vs
  induction vs with
  | nil =>
    rintro cells c1 ds Z X ρ h us e S r
    simp only [zRd, Option.some.injEq, Prod.mk.injEq] at e; obtain ⟨rfl, rfl⟩ := e
    simp only [zBl] at r; subst r
    exact ⟨Z, zAa.Le.refl _, S, .nil⟩
  | cons v vs ih =>
    rintro cells c1 ds Z X ρ h us e S r
    simp only [zRd] at e
    split at e
    . cases e
    . rename_i d c2 q
      split at e
      . cases e
      . rename_i ds' c3 q'
        simp only [Option.some.injEq, Prod.mk.injEq] at e; obtain ⟨rfl, rfl⟩ := e
        obtain ⟨u, ur, rfl, r1, r2⟩ := r
        obtain ⟨Z1, le1, S1, rd⟩ := zNb q S r1
        obtain ⟨Z2, le2, S2, rds⟩ := ih q' S1 (r2.mono le1 (Qp _))
        exact ⟨Z2, le1.trans le2, S2, .cons (rd.mono le2 _ _) rds⟩
section
variable {g : G} {n : Nat} {sc : Sc} {vars : List (Str × V)} {cells : List C} {K' : V -> List C -> Prop}
theorem zBl.length {Z : zAa} {ρ : List Addr} : ∀ {l : List V} {vs : List Value}, zBl Z ρ l vs -> vs.length = l.length
  | [], _, h => by simp only [zBl] at h; subst h; rfl
  | _ :: _, _, ⟨v, r, e, _, y⟩ => by subst e; simp [y.length]
theorem yD4 {es : List Expr} {p : Pos} (hp : es.all zB2 = true)
    (h : TEs g n sc vars es cells fun us c => us.length <= sizeLine /\ ∃ ds c1, zRd us c = some (ds, c1) /\ K' (.loc c1.length) (c1 ++ [.lst ds])) : TE g n sc (.List es p) vars cells K' := by
  intro A env Z X R ρ bs m s Q rm en st fr S ax P
  refine wpAny_List (zC2 h hp A env Z X R ρ bs m s _ rm en st fr S ax ?_)
  intro vs us c1 Z1 ρ1 s1 h1 k1 p1 S1 ax1 r1
  obtain ⟨hl, ds, c2, e, hk⟩ := h1
  refine ⟨by rw [r1.length]; exact hl, ?_⟩
  obtain ⟨Z2, k2, S2, rd⟩ := zHz e S1 r1
  have S3 := S2.pushCell (o := zAr vs 0) (c := .lst ds) rfl ⟨vs, 0, rfl, rd⟩
  refine P _ _ _ Z2 (ρ1 ++ [s1.heap.objs.size]) _ hk (k1.trans k2) (p1.trans (List.prefix_append _ _)) S3 ax1 ⟨_, ?_, rfl⟩
  rw [← S2.len]; simp
theorem yBg {es : List Expr} {p : Pos} {k : Nat} (hp : es.all zB2 = true)
    (h : TEs g n sc vars es cells fun us c => us.length <= sizeLine /\ ∃ ds c1, zRd us c = some (ds, c1) /\ K' (.d (.tup ds)) c1) : TE g n sc (.Tuple es k p) vars cells K' := by
  intro A env Z X R ρ bs m s Q rm en st fr S ax P
  refine wpAny_Tuple (zC2 h hp A env Z X R ρ bs m s _ rm en st fr S ax ?_)
  intro vs us c1 Z1 ρ1 s1 h1 k1 p1 S1 ax1 r1
  obtain ⟨hl, ds, c2, e, hk⟩ := h1
  refine ⟨by rw [r1.length]; exact hl, ?_⟩
  obtain ⟨Z2, k2, S2, rd⟩ := zHz e S1 r1
  obtain ⟨S3, k3⟩ := S2.newFrozen (o := zFj vs 0) rfl
  refine P _ _ _ _ ρ1 _ hk (k1.trans (k2.trans k3)) p1 S3 ax1 ?_
  show zA2 _ _ _
  simp only [zA2]
  exact ⟨_, vs, 0, rfl, zAa.put_self _ _ _, zAk.mono k3 ds vs rd⟩
noncomputable def zBj : V -> List C -> Option (List D)
  | .d (.lst l), _ => some l
  | .loc i, c => match c[i]? with
    | some (.lst l) => some l
    | _ => none
  | _, _ => none
theorem zAu {v : V} {l : List D} {Z X : zAa} {ρ : List Addr} {h : Heap} {u : Value} (e : zBj v cells = some l) (S : AtC cells Z X ρ h) (r : zAw Z ρ v u) :
    E3 fun a vs m => A3 (u = .ref a) (h.get? a = some (zAr vs m)) (zAk Z l vs) := by
  induction v with
  | d x =>
    induction x using D.casesOn with
    | lst l' =>
      simp only [zBj, Option.some.injEq] at e; subst e
      simp only [zAw, zA2] at r
      obtain ⟨a, vs, m, rfl, z, r⟩ := r
      exact ⟨a, vs, m, rfl, S.z _ _ z, r⟩
    | _ => cases e
  | loc i =>
    simp only [zBj] at e
    split at e
    . rename_i l' q
      cases e
      obtain ⟨a, e1, rfl⟩ := r
      obtain ⟨a', o, e1', ho, vs, m, rfl, r⟩ := S.at q rfl
      rw [e1] at e1'; cases e1'
      exact ⟨a, vs, m, rfl, ho, r⟩
    . cases e
  | _ => cases e
theorem zB3 {h : Heap} {a : Addr} {vs : List Value} {m : Nat} (ho : h.get? a = some (zAr vs m)) : h.IsList a vs.toArray := ⟨_, ho, rfl, m, rfl⟩
end
end
section
section
variable {g : G} {n : Nat} {sc : Sc} {vars : List (Str × V)} {cells : List C} {K' : V -> List C -> Prop}
noncomputable def zMr (e : Expr) : Bool := !(Nat.beq e.ctorIdx 26)
def zHu (g : G) (n : Nat) (a i : V) (cells : List C) (K' : V -> List C -> Prop) : Prop :=
  ∀ A Z X ρ s Q o k, zDr n A -> zEq g.K Z -> AtC cells Z X ρ s.heap -> Aux g.os s -> zAw Z ρ a o -> zAw Z ρ i k -> zEf g K' Z X ρ Q ->
    (∃ T id, s.TypeIs o T /\ typeLookup (.type T) "__getitem__" = pure (some (.builtin id))) /\ wpAny g.M A (getItem o k) Q Bot s
theorem zDl {M : Model} {A : Around} {s : Shared} {Q : Bool -> Shared -> Prop} {o : Value} {T id : String} (hT : s.TypeIs o T) (hl : typeLookup (.type T) "__getitem__" = pure (some (.builtin id)))
    (h : Q false s) : wpAny M A (getitemInPython o) Q Bot s := by
  rw [getitemInPython_of_ne hT.not_modules]
  exact Qa (wpAny_specialOf hT hl (Qb h))
theorem yMt {e i : Expr} {p : Pos} (hs : zMr i = true)
    (h : TE g n sc e vars cells fun a c1 => TE g n sc i vars c1 fun b c2 => zHu g n a b c2 K') : TE g n sc (.Subscript e i p) vars cells K' := by
  intro A env Z X R ρ bs m s Q rm en st fr S ax P
  refine zEg (arm_eval_Subscript ..) ?_
  refine Qa (h A env Z X R ρ bs m s _ rm en st fr S ax ?_)
  intro a ua c1 Z1 ρ1 s1 h1 k1 p1 S1 ax1 r1
  refine Qa (Qc (h1 A env Z1 X R ρ1 bs m s1 _ rm en (st.mono k1) (fr.mono k1 p1) S1 ax1 ?_))
  intro b ub c2 Z2 ρ2 s2 h2 k2 p2 S2 ax2 r2
  refine Qa (wpAny_standAt ?_)
  obtain ⟨⟨T, id, hT, hl⟩, hg⟩ := h2 A Z2 X ρ2 s2 (fun r s' => wpAny g.M A (letTemporaryGo e a r >>= fun _ => pure r) Q Bot s') a b rm ((st.mono k1).mono k2) S2 ax2 (r1.mono k2 p2) r2
    fun v u c3 Z3 ρ3 s3 h3 k3 p3 S3 ax3 r3 => Qa (wpAny_letTemporaryGo (Qb (P v u c3 Z3 ρ3 s3 h3 (k1.trans (k2.trans k3)) (p1.trans (p2.trans p3)) S3 ax3 r3)))
  refine Qa (zDl hT hl ?_)
  have e1 : subscripted i false a b = operate [a, b] (getItem a b) := by cases i <;> first | rfl | cases hs
  rw [e1]
  exact Qa (wpAny_operating hg)
def yCa (k : Int) : Prop := -(2 ^ 63) <= k /\ k < 2 ^ 63
theorem zX4 {x : Str} {k : Int} (hk : yCa k) (h : ∃ c, (seqIndex? k x.length).bind (x.cps[·]?) = some c /\ K' (.d (.str ⟨#[c]⟩)) cells) : zHu g n (.d (.str x)) (.d (.int k)) cells K' := by
  intro A Z X ρ s Q o i rm st S ax ro ri P
  obtain ⟨c, hc, hK⟩ := h
  obtain ⟨t, rfl⟩ := (show ∃ t, o = .str x t by simpa [zAw, zA2] using ro)
  obtain ⟨u, rfl⟩ := (show ∃ t, i = .int k t by simpa [zAw, zA2] using ri)
  refine ⟨⟨"str", _, typeIs_str _ _ _, F.slot_str_getitem.lookup⟩, ?_⟩
  refine PyProof.Rows.getItem_str (by obtain ⟨a, b⟩ := hk; simp only [Bool.or_eq_false_iff, decide_eq_false_iff_not]; omega) hc ?_
  exact zEf.now P (s := { s with toks := s.toks + 1 }) hK S ax ⟨_, rfl⟩
theorem zW8 {l : List D} {k : Int} (hk : yCa k) (h : ∃ d, (seqIndex? k l.length).bind (l[·]?) = some d /\ K' (.d d) cells) : zHu g n (.d (.tup l)) (.d (.int k)) cells K' := by
  intro A Z X ρ s Q o i rm st S ax ro ri P
  obtain ⟨d, hc, hK⟩ := h
  simp only [zAw, zA2] at ro
  obtain ⟨a, vs, m, rfl, z, r⟩ := ro
  obtain ⟨u, rfl⟩ := (show ∃ t, i = .int k t by simpa [zAw, zA2] using ri)
  have ho := S.z _ _ z
  refine ⟨⟨"tuple", _, ⟨_, ho, rfl⟩, F.slot_tuple_getitem.lookup⟩, ?_⟩
  rw [Option.bind_eq_some_iff] at hc
  obtain ⟨j, hj, hd⟩ := hc
  obtain ⟨v, hv, rv⟩ := r.get j hd
  refine PySem.P.getItem_tuple ho hk.1 hk.2 (k := j) (y := v) ?_ (by simpa using hv) ?_
  . rw [List.size_toArray, r.length]; exact hj
  . exact P.now hK S ax rv
theorem zMf {w : World} {A : Around} {s : Shared} {a : Addr} {vs : List Value} {m : Nat} {k : Int} {u : Tok} {j : Nat} {v : Value} {Q : Value -> Shared -> Prop} (ho : s.heap.get? a = some (zAr vs m)) (hk : yCa k)
    (hj : seqIndex? k vs.length = some j) (hv : vs[j]? = some v) (h : Q v s) : wpAny (model pw w) A (getItem (.ref a) (.int k u)) Q Bot s := by
  unfold seqIndex? at hj
  by_cases hn : k < 0
  . simp only [hn, if_true] at hj
    split at hj
    . rename_i q
      simp only [Bool.and_eq_true, decide_eq_true_eq] at q
      cases hj
      refine wpAny_getItem_list_neg (zB3 ho) hn (by simp; omega) hk.1 ?_ h
      simpa using hv
    . cases hj
  . simp only [hn, if_false] at hj
    split at hj
    . cases hj
      exact wpAny_getItem_list (zB3 ho) (by omega) hk.2 (by simpa using hv) h
    . cases hj
theorem zUw {a : V} {l : List D} {k : Int} (hl : zBj a cells = some l) (hk : yCa k) (h : ∃ d, (seqIndex? k l.length).bind (l[·]?) = some d /\ K' (.d d) cells) : zHu g n a (.d (.int k)) cells K' := by
  intro A Z X ρ s Q o i rm st S ax ro ri P
  obtain ⟨d, hc, hK⟩ := h
  obtain ⟨b, vs, m, rfl, ho, r⟩ := zAu hl S ro
  obtain ⟨u, rfl⟩ := (show ∃ t, i = .int k t by simpa [zAw, zA2] using ri)
  refine ⟨⟨"list", _, ⟨_, ho, rfl⟩, list_getitem_lookup⟩, ?_⟩
  rw [Option.bind_eq_some_iff] at hc
  obtain ⟨j, hj, hd⟩ := hc
  obtain ⟨v, hv, rv⟩ := r.get j hd
  exact zMf ho hk (by rw [r.length]; exact hj) hv (P.now hK S ax rv)
noncomputable def zOa : V -> Option (Option Int)
  | .d .none => some none
  | .d (.int i) => some (some i)
  | _ => none
theorem zE9 {v : V} {o : Option Int} {Z : zAa} {ρ : List Addr} {u : Value} (e : zOa v = some o) (r : zAw Z ρ v u) : IsPart u o := by
  unfold zOa at e
  split at e
  . cases e; simp only [zAw, zA2] at r; subst r; exact .none
  . cases e; simp only [zAw, zA2] at r; obtain ⟨t, rfl⟩ := r; exact .int _ _
  . cases e
def TEo (g : G) (n : Nat) (sc : Sc) (vars : List (Str × V)) (o : Option Expr) (cells : List C) (K' : V -> List C -> Prop) : Prop := match o with
  | none => K' (.d .none) cells
  | some e => TE g n sc e vars cells K'
theorem zJd {o : Option Expr} (h : TEo g n sc vars o cells K') {A env Z X R ρ bs m s Q} (rm : zDr n A) (en : zB9 sc env) (st : zEq g.K Z) (fr : zAh sc env vars Z X R ρ bs m) (S : AtC cells Z X ρ s.heap) (ax : Aux g.os s)
    (P : zEf g K' Z X ρ Q) : wpAny g.M A (evalPart o env) Q Bot s := by
  induction o with
  | none => rw [evalPart_none]; exact Qb (P.now h S ax rfl)
  | some e => rw [evalPart_some]; exact h A env Z X R ρ bs m s Q rm en st fr S ax P
noncomputable def zO9 (l : List D) (lo hi st : Option Int) : List D :=
  (sliceRange (sliceBounds lo hi st l.length).1 (sliceBounds lo hi st l.length).2.1 (sliceBounds lo hi st l.length).2.2).filterMap (l[·]?)
theorem zTx {Z : zAa} {l : List D} {vs : List Value} (r : zAk Z l vs) (lo hi st : Option Int) : zAk Z (zO9 l lo hi st) (slicePick vs.toArray lo hi st).toList := by
  unfold zO9 slicePick
  rw [List.size_toArray, r.length]
  generalize sliceRange _ _ _ = ks
  simp only [List.getElem?_toArray]
  induction ks with
  | nil => exact .nil
  | cons k ks ih =>
    induction e : l[k]? with
    | none =>
      have e' : vs[k]? = none := by rw [List.getElem?_eq_none_iff] at e ⊢; rw [r.length]; exact e
      simp only [List.filterMap_cons, e, e']; exact ih
    | some d =>
      obtain ⟨v, hv, rv⟩ := r.get k e
      simp only [List.filterMap_cons, e, hv]
      exact .cons rv ih
theorem zLe {e : Expr} {lo hi st : Option Expr} {p p' : Pos}
    (h : TE g n sc e vars cells fun a c1 => TEo g n sc vars lo c1 fun x c2 => TEo g n sc vars hi c2 fun y c3 => TEo g n sc vars st c3 fun z c4 =>
      ∃ l x' y' z', zBj a c4 = some l /\ l.length <= sizeLine /\ zOa x = some x' /\ zOa y = some y' /\ zOa z = some z' /\ z' ≠ some 0 /\ K' (.d (.lst (zO9 l x' y' z'))) c4) :
    TE g n sc (.Subscript e (.Slice lo hi st p') p) vars cells K' := by
  intro A env Z X R ρ bs m s Q rm en stt fr S ax P
  refine zEg (arm_eval_Subscript ..) ?_
  refine Qa (h A env Z X R ρ bs m s _ rm en stt fr S ax ?_)
  intro a ua c1 Z1 ρ1 s1 h1 k1 p1 S1 ax1 r1
  refine Qa (Qc (wpAny_Slice ?_))
  refine zJd h1 rm en (stt.mono k1) (fr.mono k1 p1) S1 ax1 ?_
  intro x ux c2 Z2 ρ2 s2 h2 k2 p2 S2 ax2 r2
  refine zJd h2 rm en ((stt.mono k1).mono k2) ((fr.mono k1 p1).mono k2 p2) S2 ax2 ?_
  intro y uy c3 Z3 ρ3 s3 h3 k3 p3 S3 ax3 r3
  refine zJd h3 rm en (((stt.mono k1).mono k2).mono k3) (((fr.mono k1 p1).mono k2 p2).mono k3 p3) S3 ax3 ?_
  intro z uz c4 Z4 ρ4 s4 h4 k4 p4 S4 ax4 r4
  obtain ⟨l, x', y', z', hl, hsz, hx, hy, hz, h0, hK⟩ := h4
  refine Qa (wpAny_standAt ?_)
  have S5 := S4.push (o := { cls := .type "slice", data := .fields #[x, y, z] })
  obtain ⟨b, vs, m', rfl, ho, r⟩ := zAu hl S5 (r1.mono (k2.trans (k3.trans k4)) (p2.trans (p3.trans p4)))
  refine Qa (zDl (T := "list") ⟨_, ho, rfl⟩ list_getitem_lookup ?_)
  have fin : ∀ v s', Q v s' -> wpAny g.M A (letTemporaryGo e (.ref b) v >>= fun _ => pure v) Q Bot s' := fun v s' q => Qa (wpAny_letTemporaryGo (Qb q))
  have main : wpAny g.M A (getItem (.ref b) (.ref s4.heap.objs.size)) (fun v s' => wpAny g.M A (letTemporaryGo e (.ref b) v >>= fun _ => pure v) Q Bot s') Bot { s4 with heap := s4.heap.push { cls := .type "slice", data := .fields #[x, y, z] } } := by
    refine wpAny_getItem_list_slice (zB3 ho) (Heap.IsSliceOf.new ..) (zE9 hx (r2.mono (k3.trans k4) (p3.trans p4))) (zE9 hy (r3.mono k4 p4)) (zE9 hz r4) h0 ?_ (by simpa [r.length] using hsz)
    refine fin _ _ ?_
    obtain ⟨S6, k6⟩ := S5.newFrozen (o := zAr (slicePick vs.toArray x' y' z').toList 0) rfl
    refine P _ _ _ _ ρ4 _ hK ((k1.trans (k2.trans (k3.trans k4))).trans k6) (p1.trans (p2.trans (p3.trans p4))) ?_ ax4 ?_
    . simpa using S6
    . simp only [zAw, zA2]
      exact ⟨_, _, 0, rfl, zAa.put_self _ _ _, zAk.mono k6 _ _ (zTx r x' y' z')⟩
  have e1 : subscripted (.Slice lo hi st p') false (.ref b) (.ref s4.heap.objs.size) = operate [.ref s4.heap.objs.size, .ref b] (getItem (.ref b) (.ref s4.heap.objs.size)) ∨ subscripted (.Slice lo hi st p') false (.ref b) (.ref s4.heap.objs.size) = operate [.ref b, .ref s4.heap.objs.size] (getItem (.ref b) (.ref s4.heap.objs.size)) := by
    induction st with
    | none => left; rfl
    | some _ => right; rfl
  rcases e1 with e1 | e1 <;> rw [e1] <;> exact Qa (wpAny_operating main)
end
end
section
mutual
noncomputable def eqD : D -> D -> Bool
  | .none, .none => true
  | .bool a, .bool b => a == b
  | .int a, .int b => a == b
  | .str a, .str b => a == b
  | .lst l, .lst m => zI1 l m
  | .tup l, .tup m => zI1 l m
  | _, _ => false
noncomputable def zI1 : List D -> List D -> Bool
  | [], [] => true
  | a :: l, b :: m => eqD a b && zI1 l m
  | _, _ => false
end
mutual
noncomputable def zRz : Nat -> D -> D -> Bool
  | _, .none, .none => true
  | _, .bool _, .bool _ => true
  | _, .int _, .int _ => true
  | _, .str _, .str _ => true
  | n + 1, .lst l, .lst m => l.length != m.length || zC0 n l m
  | n + 1, .tup l, .tup m => l.length == m.length && zC0 n l m
  | _, _, _ => false
noncomputable def zC0 : Nat -> List D -> List D -> Bool
  | _, [], [] => true
  | n, a :: l, b :: m => zRz n a b && zC0 n l m
  | _, _, _ => false
end
noncomputable def kD : D -> Nat
  | .none => 0
  | .bool _ => 1
  | .int _ => 2
  | .str _ => 3
  | .lst _ => 4
  | .tup _ => 5
noncomputable def kT : Value -> Nat
  | .type t => t.length
  | _ => 0
noncomputable def kV (Z : zAa) : Value -> Nat
  | .bool _ => 1
  | .int _ _ => 2
  | .str _ _ => 3
  | .ref a => (match Z a with
    | some o => kT o.cls
    | none => 0)
  | _ => 0
theorem zA2.kind {Z : zAa} : ∀ {d : D} {v : Value}, zA2 Z d v -> kV Z v = kD d
  | .none, _, h => (show _ = Value.none from h) ▸ rfl
  | .bool b, _, h => (show _ = Value.bool b from h) ▸ rfl
  | .int _, _, ⟨_, h⟩ => h ▸ rfl
  | .str _, _, ⟨_, h⟩ => h ▸ rfl
  | .tup _, _, ⟨a, _, _, h, z, _⟩ => by subst h; show (match Z a with | some o => kT o.cls | none => 0) = 5; rw [z]; rfl
  | .lst _, _, ⟨a, _, _, h, z, _⟩ => by subst h; show (match Z a with | some o => kT o.cls | none => 0) = 4; rw [z]; rfl
theorem kx {a b : Nat} {p : Prop} (h : a = b) (e : Nat.beq a b = false) : p := by
  subst h; rw [Nat.beq_refl] at e; exact (Bool.noConfusion e : False).elim
theorem zXg {Z : zAa} {c : Value} {a : Addr} {vs vs' : List Value} {n n' : Nat} {v : Value} (h : v = .ref a) (z : Z a = some ⟨c, none, .seq vs.toArray n, #[]⟩) {a' : Addr} (h' : v = .ref a') (z' : Z a' = some ⟨c, none, .seq vs'.toArray n', #[]⟩) : vs = vs' := by
  cases h.symm.trans h'
  have e := congrArg (fun o : Obj => match o.data with | .seq xs _ => xs.toList | _ => []) (qa (z.symm.trans z'))
  exact e
mutual
theorem zA2.unique {Z : zAa} : ∀ (d d' : D) (v : Value), zA2 Z d v -> zA2 Z d' v -> d = d'
  | .none, d', v, h, h' => by
    have k := h.kind.symm.trans h'.kind
    cases d' with
    | none => rfl
    | _ => exact kx k rfl
  | .bool b, d', v, h, h' => by
    have k := h.kind.symm.trans h'.kind
    induction d' using D.casesOn with
    | bool b' => exact congrArg D.bool (Value.bool.inj ((show v = .bool b from h).symm.trans h'))
    | _ => exact kx k rfl
  | .int b, d', v, h, h' => by
    have k := h.kind.symm.trans h'.kind
    induction d' using D.casesOn with
    | int b' =>
      obtain ⟨t, h⟩ := h; obtain ⟨t', h'⟩ := h'
      exact congrArg D.int (Value.int.inj (h.symm.trans h')).1
    | _ => exact kx k rfl
  | .str b, d', v, h, h' => by
    have k := h.kind.symm.trans h'.kind
    induction d' using D.casesOn with
    | str b' =>
      obtain ⟨t, h⟩ := h; obtain ⟨t', h'⟩ := h'
      exact congrArg D.str (Value.str.inj (h.symm.trans h')).1
    | _ => exact kx k rfl
  | .tup l, d', v, h, h' => by
    have k := h.kind.symm.trans h'.kind
    induction d' using D.casesOn with
    | tup l' =>
      obtain ⟨a, vs, n, e, z, r⟩ := h
      obtain ⟨a', vs', n', e', z', r'⟩ := h'
      exact congrArg D.tup (zAk.unique l l' vs r (zXg e z e' z' ▸ r'))
    | _ => exact kx k rfl
  | .lst l, d', v, h, h' => by
    have k := h.kind.symm.trans h'.kind
    induction d' using D.casesOn with
    | lst l' =>
      obtain ⟨a, vs, n, e, z, r⟩ := h
      obtain ⟨a', vs', n', e', z', r'⟩ := h'
      exact congrArg D.lst (zAk.unique l l' vs r (zXg e z e' z' ▸ r'))
    | _ => exact kx k rfl
theorem zAk.unique {Z : zAa} : ∀ (l l' : List D) (vs : List Value), zAk Z l vs -> zAk Z l' vs -> l = l'
  | [], l', vs, h, h' => by
    induction l' using List.casesOn with
    | nil => rfl
    | cons d r => obtain ⟨_, _, e, _⟩ := h'.inv; rw [h.inv_nil] at e; exact nomatch e
  | d :: l, l', vs, h, h' => by
    obtain ⟨v, r, rfl, x, y⟩ := h.inv
    induction l' using List.casesOn with
    | nil => exact nomatch h'.inv_nil
    | cons d' l'' =>
      obtain ⟨v', r', e, x', y'⟩ := h'.inv
      rw [zA2.unique d d' v x ((List.cons.inj e).1 ▸ x'), zAk.unique l l'' r y ((List.cons.inj e).2 ▸ y')]
end
mutual
theorem zMp : ∀ d : D, eqD d d = true
  | .none => rfl
  | .bool b => beq_self_eq_true b
  | .int b => beq_self_eq_true b
  | .str b => beq_self_eq_true b
  | .lst l => zEe l
  | .tup l => zEe l
theorem zEe : ∀ l : List D, zI1 l l = true
  | [] => rfl
  | d :: l => (Qn).mpr ⟨zMp d, zEe l⟩
end
theorem zMn : ∀ {l m : List D}, l.length ≠ m.length -> zI1 l m = false
  | [], [], h => absurd rfl h
  | [], _ :: _, _ => rfl
  | _ :: _, [], _ => rfl
  | a :: l, b :: m, h => by
    show (eqD a b && zI1 l m) = false
    rw [zMn (l := l) (m := m) fun e => h (congrArg Nat.succ e), Bool.and_false]
theorem zJv : ∀ {l m : List D}, l.length = m.length -> zI1 l m = (List.range l.length).all fun j => eqD (l.getD j .none) (m.getD j .none)
  | [], [], _ => rfl
  | [], _ :: _, h => nomatch h
  | _ :: _, [], h => nomatch h
  | a :: l, b :: m, h => by
    show (eqD a b && zI1 l m) = _
    rw [zJv (l := l) (m := m) (Nat.succ.inj h), Qh, List.range_succ_eq_map, List.all_cons, List.all_map]
    rfl
theorem zM5 : ∀ {l m : List D} {n : Nat}, zC0 n l m = true -> ∀ (j : Nat) (a b : D), l[j]? = some a -> m[j]? = some b -> zRz n a b = true
  | [], _, _, _, _, _, _, h1, _ => nomatch h1
  | _ :: _, [], _, _, _, _, _, _, h2 => nomatch h2
  | a :: l, b :: m, n, h, 0, a', b', h1, h2 => qa h1 ▸ qa h2 ▸ ((Qn).mp (show (zRz n a b && zC0 n l m) = true from h)).1
  | a :: l, b :: m, n, h, j + 1, a', b', h1, h2 => zM5 ((Qn).mp (show (zRz n a b && zC0 n l m) = true from h)).2 j a' b' h1 h2
theorem zUu {n : Nat} : ∀ {d d' : D}, zRz n d d' = true -> kD d = kD d' := by
  intro d d' h
  cases d <;> cases d' <;> first | rfl | exact (Qw h).elim | (cases n <;> exact (Qw h).elim)
section
open SeqAt
variable {Z : zAa} {s : Shared}
theorem zLx {A : Around} {n : Nat} (hE : ∀ a b u u', zRz n a b = true -> zA2 Z a u -> zA2 Z b u' -> EqAt A s u u' (eqD a b)) {l m : List D} {vs us : List Value} (ok : zC0 n l m = true) (r : zAk Z l vs) (r' : zAk Z m us) :
    ∀ j (h1 : j < vs.toArray.size) (h2 : j < us.toArray.size), EqAt A s vs.toArray[j] us.toArray[j] (eqD (l.getD j .none) (m.getD j .none)) := by
  intro j h1 h2
  have g1 : j < l.length := r.length ▸ h1
  have g2 : j < m.length := r'.length ▸ h2
  obtain ⟨u, hu', ru⟩ := r.get j (Qm g1)
  obtain ⟨u', hu'', ru'⟩ := r'.get j (Qm g2)
  have e1 : vs.toArray[j] = u := (Ql.mp hu').2
  have e2 : us.toArray[j] = u' := (Ql.mp hu'').2
  rw [e1, e2, List.getD_eq_getElem?_getD, List.getD_eq_getElem?_getD, Qm g1, Qm g2]
  exact hE _ _ _ _ (zM5 ok j _ _ (Qm g1) (Qm g2)) ru ru'
theorem zNg (zin : Z.In s.heap) (n : Nat) (ih : ∀ m, n = m + 1 -> ∀ (d d' : D) (A : Around) (v v' : Value), zRz m d d' = true -> A.units + m < cLine -> zA2 Z d v -> zA2 Z d' v' -> EqAt A s v v' (eqD d d'))
    (d d' : D) (A : Around) (v v' : Value) (ok : zRz n d d' = true) (hu : A.units + n < cLine) (h : zA2 Z d v) (h' : zA2 Z d' v') : EqAt A s v v' (eqD d d') := by
  have k := zUu ok
  have un : A.units < cLine := Nat.lt_of_le_of_lt (Nat.le_add_right _ _) hu
  induction d using D.casesOn with
  | none => induction d' using D.casesOn with
    | none => cases (show v = _ from h); cases (show v' = _ from h'); exact EqAt.same _
    | _ => exact kx k rfl
  | bool b => induction d' using D.casesOn with
    | bool b' => cases (show v = _ from h); cases (show v' = _ from h'); exact EqAt.bool_bool _ _
    | _ => exact kx k rfl
  | int b => induction d' using D.casesOn with
    | int b' => obtain ⟨t, rfl⟩ := h; obtain ⟨t', rfl⟩ := h'; exact (MeetsSeq.EqGives.int _ _ _ _).at _ _
    | _ => exact kx k rfl
  | str b => induction d' using D.casesOn with
    | str b' => obtain ⟨t, rfl⟩ := h; obtain ⟨t', rfl⟩ := h'; exact (eqGives_str _ _ _ _).at _ _
    | _ => exact kx k rfl
  | tup l => induction d' using D.casesOn with
    | tup l' => induction n using Nat.casesAuxOn with
      | zero => exact (Qw ok).elim
      | succ n =>
        have same : v = v' -> EqAt A s v v' (eqD (.tup l) (.tup l')) := fun q => by subst q; rw [zA2.unique _ _ _ h h', zMp]; exact EqAt.same _
        obtain ⟨a, vs, k, rfl, z, r⟩ := h
        obtain ⟨a', vs', k', rfl, z', r'⟩ := h'
        by_cases q : a = a'
        . exact same (congrArg Value.ref q)
        . refine EqAt.of_refs q ?_
          have ok := (Qn).mp (show (l.length == l'.length && zC0 n l l') = true from ok)
          have hl := eq_of_beq ok.1
          have hs : vs.toArray.size = vs'.toArray.size := r.length.trans (hl.trans r'.length.symm)
          have := RcAt.tuples (A := A) ⟨_, zin _ _ z, rfl, k, rfl⟩ ⟨_, zin _ _ z', rfl, k', rfl⟩ un (zLx (fun a b u u' o => ih n rfl a b A.in1 u u' o (by show A.units + 1 + n < _; omega)) ok.2 r r')
          rw [← hs, Nat.min_self, beq_self_eq_true, Bool.and_true, show vs.toArray.size = l.length from r.length, ← zJv hl] at this
          exact this
    | _ => exact kx k rfl
  | lst l => induction d' using D.casesOn with
    | lst l' => induction n using Nat.casesAuxOn with
      | zero => exact (Qw ok).elim
      | succ n =>
        have same : v = v' -> EqAt A s v v' (eqD (.lst l) (.lst l')) := fun q => by subst q; rw [zA2.unique _ _ _ h h', zMp]; exact EqAt.same _
        obtain ⟨a, vs, k, rfl, z, r⟩ := h
        obtain ⟨a', vs', k', rfl, z', r'⟩ := h'
        by_cases q : a = a'
        . exact same (congrArg Value.ref q)
        . refine EqAt.of_refs q ?_
          show RcAt A s _ _ (zI1 l l')
          by_cases hl : l.length = l'.length
          . have ok : zC0 n l l' = true := by
              have ok : (l.length != l'.length || zC0 n l l') = true := ok
              rw [hl, bne_self_eq_false, Bool.false_or] at ok
              exact ok
            have hs : vs.toArray.size = vs'.toArray.size := r.length.trans (hl.trans r'.length.symm)
            rw [zJv hl, show l.length = vs.toArray.size from r.length.symm]
            exact RcAt.lists (A := A) ⟨_, zin _ _ z, rfl, k, rfl⟩ ⟨_, zin _ _ z', rfl, k', rfl⟩ hs un (zLx (fun a b u u' o => ih n rfl a b A.in1 u u' o (by show A.units + 1 + n < _; omega)) ok r r')
          . have hs : (vs.toArray.size != vs'.toArray.size) = true := bne_iff_ne.mpr fun e => hl (r.length.symm.trans (e.trans r'.length))
            rw [zMn hl]
            exact RcAt.lists_lengths (A := A) ⟨_, zin _ _ z, rfl, k, rfl⟩ ⟨_, zin _ _ z', rfl, k', rfl⟩ hs un
    | _ => exact kx k rfl
theorem yF5 (zin : Z.In s.heap) (n : Nat) : ∀ (d d' : D) (A : Around) (v v' : Value), zRz n d d' = true -> A.units + n < cLine -> zA2 Z d v -> zA2 Z d' v' -> EqAt A s v v' (eqD d d') := by
  induction n with
  | zero => exact zNg zin 0 fun _ e => nomatch e
  | succ n ih => exact zNg zin (n + 1) fun m e => Nat.succ.inj e ▸ ih
end
end
section
open PySem PySem.W PyProof.Rows PySem.Calls SeqAt
noncomputable def zQu : V -> Bool
  | .d .none => true
  | _ => false
noncomputable def zGc (k : Nat) : Bool := match zAl[k]? with
  | some (.type _) => true
  | _ => false
section
variable {g : G} {n : Nat} {sc : Sc} {vars : List (Str × V)} {cells : List C} {K' : V -> List C -> Prop}
noncomputable abbrev two (t : Value -> Value -> Sem Value) : List Value -> Sem Value
  | [x, y] => t x y
  | _ => unsupported ""
theorem zCd {Z : zAa} {ρ : List Addr} {x : Int} {v : Value} (r : zAw Z ρ (.d (.int x)) v) : ∃ t, v = .int x t := r
theorem zBo {Z : zAa} {ρ : List Addr} {x : Str} {v : Value} (r : zAw Z ρ (.d (.str x)) v) : ∃ t, v = .str x t := r
theorem zBl.two {Z : zAa} {ρ : List Addr} {a b : V} {vs : List Value} (r : zBl Z ρ [a, b] vs) : E2 fun x y => A3 (vs = [x, y]) (zAw Z ρ a x) (zAw Z ρ b y) := by
  obtain ⟨x, r1, rfl, hx, y, r2, rfl, hy, rfl⟩ := r; exact ⟨x, y, rfl, hx, hy⟩
theorem zBl.one {Z : zAa} {ρ : List Addr} {a : V} {vs : List Value} (r : zBl Z ρ [a] vs) : ∃ x, vs = [x] /\ zAw Z ρ a x := by
  obtain ⟨x, r1, rfl, hx, rfl⟩ := r; exact ⟨x, rfl, hx⟩
theorem yBx {Z : zAa} {ρ : List Addr} (b : Bool) : zAw Z ρ (.d (.bool b)) (.bool b) := rfl
theorem zOc {a b : V} {l m : List D} (hl : zBj a cells = some l) (hm : zBj b cells = some m) (hsz : l.length + m.length <= sizeLine) (h : K' (.d (.lst (l ++ m))) cells) :
    Op g n (two (binaryOp .Add)) [a, b] cells K' := by
  intro A Z X ρ s Q vals rm st S ax r P
  obtain ⟨x, y, rfl, rx, ry⟩ := r.two
  obtain ⟨ax', vs, k, rfl, ho, r1⟩ := zAu hl S rx
  obtain ⟨ay, us, k', rfl, ho', r2⟩ := zAu hm S ry
  show wpAny _ _ (binaryOp .Add (.ref ax') (.ref ay)) _ _ _
  refine PySem.P.add_list (items := vs.toArray) (items2 := us.toArray) (n := k) (n2 := k') ho ho' ?_ (by simp [r1.length, r2.length]; exact hsz)
  obtain ⟨S3, k3⟩ := S.newFrozen (o := zAr (vs ++ us) 0) rfl
  refine P _ _ _ _ ρ _ h k3 (Qp _) (by simpa using S3) ax ?_
  exact ⟨_, vs ++ us, 0, rfl, by simpa using zAa.put_self _ _ _, zAk.mono k3 _ _ (r1.append r2)⟩
theorem op2 {t : Value -> Value -> Sem Value} {a b : V} {d : D} (h : K' (.d d) cells)
    (k : ∀ {A : Around} {Z X : zAa} {ρ : List Addr} {Q : Value -> Shared -> Prop} {s : Shared} {x y : Value}, zDr n A -> AtC cells Z X ρ s.heap -> zAw Z ρ a x -> zAw Z ρ b y -> (∀ (v : Value) (m : Tok), zA2 Z d v -> Q v { s with toks := m }) -> wpAny g.M A (t x y) Q Bot s) :
    Op g n (two t) [a, b] cells K' := by
  intro A Z X ρ s Q vals rm st S ax r P
  obtain ⟨x, y, rfl, rx, ry⟩ := r.two
  exact k rm S rx ry fun v m q => zEf.now P (s := { s with toks := m }) h S ax q
theorem zJo {t : Value -> Value -> Sem Value} {x y : Int} {d : D} (h : K' (.d d) cells)
    (k : ∀ {A : Around} {Z : zAa} {Q : Value -> Shared -> Prop} {s : Shared} (tx ty : Tok), (∀ (v : Value) (m : Tok), zA2 Z d v -> Q v { s with toks := m }) -> wpAny g.M A (t (.int x tx) (.int y ty)) Q Bot s) : Op g n (two t) [.d (.int x), .d (.int y)] cells K' :=
  op2 h fun _ _ ⟨tx, e1⟩ ⟨ty, e2⟩ q => e1 ▸ e2 ▸ k tx ty q
theorem zYc {t : Value -> Value -> Sem Value} {x y : Str} {d : D} (h : K' (.d d) cells)
    (k : ∀ {A : Around} {Z : zAa} {Q : Value -> Shared -> Prop} {s : Shared} (tx ty : Tok), (∀ (v : Value) (m : Tok), zA2 Z d v -> Q v { s with toks := m }) -> wpAny g.M A (t (.str x tx) (.str y ty)) Q Bot s) : Op g n (two t) [.d (.str x), .d (.str y)] cells K' :=
  op2 h fun _ _ ⟨tx, e1⟩ ⟨ty, e2⟩ q => e1 ▸ e2 ▸ k tx ty q
theorem zYh {x y : Int} (h0 : 0 <= y) (h1 : (x == 0 || x == 1) = false) (h2 : (x == -1) = false) (h3 : Builtin.Int.intTooBig (((Builtin.Int.intBits x : Nat) : Int) * y) = false) (h : K' (.d (.int (x ^ y.toNat))) cells) : Op g n (two (binaryOp .Pow)) [.d (.int x), .d (.int y)] cells K' := by
  refine zJo h fun {A Z Q s} tx ty q => ?_
  have q := q (Value.int (x ^ y.toNat) s.toks) (s.toks + 1) ⟨_, rfl⟩
  by_cases hb : (y == 0) = true
  . refine AutoIntOps.pow_0 h0 hb ?_
    cases eq_of_beq hb
    rw [show x ^ Int.toNat 0 = 1 from Int.pow_zero x] at q
    exact q
  . exact AutoIntOps.pow_4 h0 hb (by rw [h1]; exact Qw) (by rw [h2]; exact Qw) (by rw [h3]; exact Qw) q
section
variable {Z X : zAa} {ρ : List Addr} {s : Shared} {A : Around}
theorem zN5 (rm : zDr n A) (S : AtC cells Z X ρ s.heap) {l m : List D} {vs us : List Value} (r : zAk Z l vs) (r' : zAk Z m us) (hok : zC0 8 l m = true) :
    ∀ j (h1 : j < vs.toArray.size) (h2 : j < us.toArray.size), EqAt A.in1 s vs.toArray[j] us.toArray[j] (eqD (l.getD j .none) (m.getD j .none)) := by
  have un' := rm.un
  exact zLx (fun a b u u' o => yF5 S.z 8 a b A.in1 u u' o (by show A.units + 1 + 8 < _; omega)) hok r r'
theorem zVf {a b : V} {l m : List D} {x y : Value} (hl : zBj a cells = some l) (hm : zBj b cells = some m) (h1 : l.length ≠ m.length ∨ zC0 8 l m = true) (rm : zDr n A) (S : AtC cells Z X ρ s.heap) (rx : zAw Z ρ a x) (ry : zAw Z ρ b y) :
    RcAt A s x y (zI1 l m) /\ RcNeAt A s x y (!(zI1 l m)) := by
  obtain ⟨a1, vs, k, rfl, ho, r⟩ := zAu hl S rx
  obtain ⟨a2, vs', k', rfl, ho', r'⟩ := zAu hm S ry
  have un := rm.units
  by_cases q : l.length = m.length
  . have items := zN5 rm S r r' (h1.resolve_left fun h => h q)
    have hs : vs.toArray.size = vs'.toArray.size := r.length.trans (q.trans r'.length.symm)
    rw [zJv q, show l.length = vs.toArray.size from r.length.symm]
    exact ⟨RcAt.lists (A := A) (zB3 ho) (zB3 ho') hs un items, RcNeAt.lists (A := A) (zB3 ho) (zB3 ho') hs un items⟩
  . have hs : (vs.toArray.size != vs'.toArray.size) = true := bne_iff_ne.mpr fun e => q (r.length.symm.trans (e.trans r'.length))
    rw [zMn q]
    exact ⟨RcAt.lists_lengths (zB3 ho) (zB3 ho') hs un, RcNeAt.lists_lengths (zB3 ho) (zB3 ho') hs un⟩
theorem yFa {a b : V} {l m : List D} (hl : zBj a cells = some l) (hm : zBj b cells = some m) (h1 : l.length ≠ m.length ∨ zC0 8 l m = true) (h : K' (.d (.bool (zI1 l m))) cells) : Op g n (two (compareOp .Eq)) [a, b] cells K' :=
  op2 h fun rm S rx ry q => (zVf hl hm h1 rm S rx ry).1 _ _ _ _ (q _ _ rfl)
theorem yFn {a b : V} {l m : List D} (hl : zBj a cells = some l) (hm : zBj b cells = some m) (h1 : l.length ≠ m.length ∨ zC0 8 l m = true) (h : K' (.d (.bool (!(zI1 l m)))) cells) : Op g n (two (compareOp .NotEq)) [a, b] cells K' :=
  op2 h fun rm S rx ry q => (zVf hl hm h1 rm S rx ry).2 _ _ _ _ (q _ _ rfl)
theorem yD0 {l m : List D} (hl : l.length = m.length) (hok : zC0 8 l m = true) (h : K' (.d (.bool (!(zI1 l m)))) cells) : Op g n (two (compareOp .NotEq)) [.d (.tup l), .d (.tup m)] cells K' :=
  op2 h fun {A Z X ρ Q s x y} rm S rx ry q => by
    obtain ⟨a, vs, k, rfl, z, r⟩ := rx
    obtain ⟨a', vs', k', rfl, z', r'⟩ := ry
    have un := rm.units
    have hs : vs.toArray.size = vs'.toArray.size := r.length.trans (hl.trans r'.length.symm)
    have := RcNeAt.tuples (A := A) ⟨_, S.z _ _ z, rfl, k, rfl⟩ ⟨_, S.z _ _ z', rfl, k', rfl⟩ un (zN5 rm S r r' hok)
    rw [← hs, Nat.min_self, beq_self_eq_true, Bool.and_true, show vs.toArray.size = l.length from r.length, ← zJv hl] at this
    exact this _ _ _ _ (q _ _ rfl)
end
theorem zO4 {Z : zAa} {ρ : List Addr} {a : V} {v : Value} (r : zAw Z ρ a v) : (v == .none) = zQu a := by
  induction a with
  | d x =>
    induction x using D.casesOn with
    | none => cases (show v = _ from r); rfl
    | bool => cases (show v = _ from r); rfl
    | int => obtain ⟨t, rfl⟩ := zCd r; rfl
    | str => obtain ⟨t, rfl⟩ := zBo r; rfl
    | tup => obtain ⟨a, vs, n, rfl, _⟩ := r; rfl
    | lst => obtain ⟨a, vs, n, rfl, _⟩ := r; rfl
  | loc i => obtain ⟨a, _, rfl⟩ := r; rfl
  | obj => obtain ⟨a, d, rfl, _⟩ := r; rfl
  | stat k =>
    have h : zAl.all (fun v => (v == .none) == false) = true := by decide +kernel
    have := Qf.mp h v (Qk r)
    show (v == .none) = false
    simpa using this
  | rng => obtain ⟨a, _, _, _, rfl, _⟩ := r; rfl
  | meth => obtain ⟨a, _, _, rfl, _⟩ := r; rfl
  | rd => obtain ⟨a, _, _, _, _, rfl, _⟩ := r; rfl
  | ditems => obtain ⟨a, _, rfl, _⟩ := r; rfl
theorem zPh : ((List.range 52).all fun k => (List.range 52).all fun j => !(zGc k && zGc j) || ((zAl[k]? == zAl[j]?) == (k == j))) = true := by decide +kernel
theorem zOh {Z : zAa} {ρ : List Addr} {a : V} {x y : Value} (rx : zAw Z ρ a x) (ry : zAw Z ρ (.d .none) y) : isSame x y = pure (zQu a) := by
  cases (show y = _ from ry); rw [isSame_none, zO4 rx]
theorem zV6 {k : Nat} {v : Value} (h : zGc k = true) (e : zAl[k]? = some v) : k < 52 /\ ∃ t, v = .type t := by
  refine ⟨(Ql.mp e).1, ?_⟩
  unfold zGc at h; rw [e] at h
  induction v using Value.casesOn with
  | type t => exact ⟨t, rfl⟩
  | _ => exact (Qw h).elim
theorem zOj {Z : zAa} {ρ : List Addr} {k j : Nat} {x y : Value} (hk : zGc k = true) (hj : zGc j = true) (rx : zAw Z ρ (.stat k) x) (ry : zAw Z ρ (.stat j) y) : isSame x y = pure (k == j) := by
  obtain ⟨k29, t, rfl⟩ := zV6 hk rx
  obtain ⟨j29, u, rfl⟩ := zV6 hj ry
  have := Qf.mp (Qf.mp zPh k (List.mem_range.mpr k29)) j (List.mem_range.mpr j29)
  rw [hk, hj] at this
  have e : (zAl[k]? == zAl[j]?) = (k == j) := eq_of_beq this
  rw [isSame_plain rfl, ← e, show zAl[k]? = _ from rx, show zAl[j]? = _ from ry]
  congr 1
theorem yIc {a b : V} {r : Bool} (e : ∀ {Z : zAa} {ρ : List Addr} {x y : Value}, zAw Z ρ a x -> zAw Z ρ b y -> isSame x y = pure r) (h : K' (.d (.bool r)) cells) : Op g n (two (compareOp .Is)) [a, b] cells K' :=
  op2 h fun {A Z X ρ Q s x y} rm S rx ry q => by
    show wpAny g.M A (do return .bool (← isSame x y)) Q _ s
    rw [e rx ry]; exact Qa (Qb (Qb (q _ _ rfl)))
theorem zRm {a b : V} {r : Bool} (e : ∀ {Z : zAa} {ρ : List Addr} {x y : Value}, zAw Z ρ a x -> zAw Z ρ b y -> isSame x y = pure r) (h : K' (.d (.bool (!r))) cells) : Op g n (two (compareOp .IsNot)) [a, b] cells K' :=
  op2 h fun {A Z X ρ Q s x y} rm S rx ry q => by
    show wpAny g.M A (do return .bool (!(← isSame x y))) Q _ s
    rw [e rx ry]; exact Qa (Qb (Qb (q _ _ rfl)))
theorem zAk.mem {Z : zAa} : ∀ {l : List D} {vs : List Value}, zAk Z l vs -> ∀ v ∈ vs, ∃ d ∈ l, zA2 Z d v := by
  intro l
  induction l with
  | nil =>
    rintro _ h v m
    rw [h.inv_nil] at m; cases m
  | cons d l ih =>
    rintro _ h v m
    obtain ⟨u, r, rfl, x, y⟩ := h.inv
    rcases Qy.mp m with rfl | m
    . exact ⟨d, .head _, x⟩
    . obtain ⟨d', m', q⟩ := ih y v m
      exact ⟨d', .tail _ m', q⟩
open Classical in
theorem yCj {d : D} {b : V} {l : List D} (hl : zBj b cells = some l) (hok : (l.all fun y => zRz 8 y d) = true) {Z X : zAa} {ρ : List Addr} {s : Shared} {A : Around} {x y : Value} {w : World} (rm : zDr n A) (S : AtC cells Z X ρ s.heap) (rx : zAw Z ρ (.d d) x) (ry : zAw Z ρ b y) :
    (∀ Q, Q (.bool (l.any fun y => eqD y d)) s -> wpAny (model pw w) A (compareOp .In x y) Q Bot s) /\ (∀ Q, Q (.bool (!(l.any fun y => eqD y d))) s -> wpAny (model pw w) A (compareOp .NotIn x y) Q Bot s) := by
  have un' := rm.un
  obtain ⟨a1, vs, k, rfl, ho, r⟩ := zAu hl S ry
  let e : Value -> Bool := fun v => decide (∃ d' ∈ l, zA2 Z d' v /\ eqD d' d = true)
  have he : ∀ d' v, d' ∈ l -> zA2 Z d' v -> e v = eqD d' d := by
    intro d' v m rd
    show decide _ = _
    induction q : eqD d' d with
    | true => exact decide_eq_true ⟨d', m, rd, q⟩
    | false =>
      refine decide_eq_false ?_
      rintro ⟨d2, _, rd2, q2⟩
      rw [zA2.unique _ _ _ rd2 rd, q] at q2; exact Qw q2
  have hat : ∀ y ∈ vs.toArray, EqAt A.in1 s y x (e y) := by
    intro y m
    obtain ⟨d', m', rd⟩ := r.mem y (List.mem_toArray.mp m)
    rw [he d' y m' rd]
    exact yF5 S.z 8 _ _ _ _ _ (Qf.mp hok d' m') (by show A.units + 1 + 8 < _; omega) rd rx
  have eq : vs.toArray.any e = l.any fun y => eqD y d := by
    have : ∀ {l' : List D} {vs' : List Value}, (∀ d ∈ l', d ∈ l) -> zAk Z l' vs' -> vs'.any e = l'.any fun y => eqD y d := by
      intro l'
      induction l' with
      | nil => intro vs' _ r'; rw [r'.inv_nil]; rfl
      | cons c l' ih =>
        intro vs' hm r'
        obtain ⟨v, r'', rfl, x', y'⟩ := r'.inv
        rw [List.any_cons, List.any_cons, he c v (hm c (.head _)) x', ih (fun d m => hm d (.tail _ m)) y']
    rw [List.any_toArray]; exact this (fun _ m => m) r
  exact ⟨fun Q q => in_listAt e (zB3 ho) hat (by rw [eq]; exact q), fun Q q => notIn_listAt e (zB3 ho) hat (by rw [eq]; exact q)⟩
end
end
section
section
variable {g : G} {n : Nat} {sc : Sc} {vars : List (Str × V)} {cells : List C} {K' : V -> List C -> Prop}
theorem zWm {Z : zAa} {ρ : List Addr} {x : Str} : ∀ {fs : List (Str × V)} {es : List DictEntry} {u : V}, zCm Z ρ fs es -> zB7 x fs = some u -> ∃ v, getL x es = some (some v) /\ zAw Z ρ u v := by
  intro fs
  induction fs with
  | nil =>
    rintro _ _ _ e
    cases e
  | cons hd0 fs ih =>
    obtain ⟨k, w⟩ := hd0
    rintro es u h e
    obtain ⟨en, r, t, rfl, hk, hv, hr⟩ := h
    unfold zB7 at e
    unfold getL
    split at e
    . rename_i q
      cases e; subst q
      have hb : en.key.isStr x = true := by rw [hk]; exact beq_self_eq_true x
      rw [List.find?_cons, hb]
      exact ⟨_, rfl, hv⟩
    . rename_i q
      have hb : en.key.isStr x = false := by rw [hk]; exact beq_eq_false_iff_ne.mpr fun h => q h.symm
      rw [List.find?_cons, hb]
      obtain ⟨v, hg, rv⟩ := ih hr e
      unfold getL at hg
      split at hg
      . rename_i en' he
        exact ⟨v, by rw [he]; simpa using hg, rv⟩
      . rename_i he
        split at hg <;> simp at hg
theorem zRr {Z : zAa} {ρ : List Addr} : ∀ {fs : List (Str × V)} {es : List DictEntry}, zCm Z ρ fs es -> es.any (·.refKey) = false := by
  intro fs
  induction fs with
  | nil =>
    rintro _ h
    simp only [zCm] at h; subst h; rfl
  | cons hd0 fs ih =>
    obtain ⟨k, w⟩ := hd0
    rintro es h
    obtain ⟨en, r, t, rfl, hk, hv, hr⟩ := h
    rw [List.any_cons, ih hr]
    simp [DictEntry.refKey, hk]
theorem zCm.len {Z : zAa} {ρ : List Addr} : ∀ {fs : List (Str × V)} {es : List DictEntry}, zCm Z ρ fs es -> es.length = fs.length
  | [], _, h => by simp only [zCm] at h; subst h; rfl
  | (k, w) :: fs, es, h => by
    obtain ⟨en, r, t, rfl, hk, hv, hr⟩ := h
    rw [Qh, Qh, zCm.len hr]
theorem zW1 {Z : zAa} {ρ : List Addr} {x : Str} : ∀ {fs : List (Str × V)} {es : List DictEntry}, zCm Z ρ fs es -> zB7 x fs = none -> es.find? (·.key.isStr x) = none := by
  intro fs
  induction fs with
  | nil =>
    rintro _ h _
    simp only [zCm] at h; subst h; rfl
  | cons hd0 fs ih =>
    obtain ⟨k, w⟩ := hd0
    rintro es h e
    obtain ⟨en, r, t, rfl, hk, hv, hr⟩ := h
    unfold zB7 at e
    split at e
    . cases e
    . rename_i q
      have hb : en.key.isStr x = false := by rw [hk]; exact beq_eq_false_iff_ne.mpr fun h => q h.symm
      rw [List.find?_cons, hb]
      exact ih hr e
theorem zMz {Z : zAa} {ρ : List Addr} {x : Str} {fs : List (Str × V)} {es : List DictEntry} (h : zCm Z ρ fs es) (e : zB7 x fs = none) : getL x es = some none := by
  unfold getL
  rw [zW1 h e]; simp [zRr h]
noncomputable def zEx (x : Str) (u : V) : List (Str × V) -> List (Str × V)
  | [] => [(x, u)]
  | (y, w) :: r => if x = y then (y, u) :: r else (y, w) :: zEx x u r
theorem zVu {Z : zAa} {ρ : List Addr} {x : Str} {u : V} {v : Value} {hs : Int} {t : Tok} (r : zAw Z ρ u v) : ∀ {fs : List (Str × V)} {es : List DictEntry}, zCm Z ρ fs es -> zCm Z ρ (zEx x u fs) (putL x hs (.str x t) v es) := by
  intro fs
  induction fs with
  | nil =>
    rintro _ h
    simp only [zCm] at h; subst h; exact ⟨_, [], t, rfl, rfl, r, rfl⟩
  | cons hd0 fs ih =>
    obtain ⟨k, w⟩ := hd0
    rintro es h
    obtain ⟨en, r', t', rfl, hk, hv, hr⟩ := h
    unfold zEx putL
    by_cases q : x = k
    . subst q
      have hb : en.key.isStr x = true := by rw [hk]; exact beq_self_eq_true x
      rw [if_pos hb, if_pos rfl]
      exact ⟨_, r', t', rfl, hk, r, hr⟩
    . have hb : en.key.isStr x = false := by rw [hk]; exact beq_eq_false_iff_ne.mpr fun h => q h.symm
      rw [if_neg q, if_neg (by rw [hb]; exact Qw)]
      exact ⟨_, _, t', rfl, hk, hv, ih hr⟩
theorem zM9 {Z : zAa} {ρ : List Addr} {a : V} {v : Value} (r : zAw Z ρ a v) : handedIn v = true := by
  induction a with
  | d x =>
    induction x using D.casesOn with
    | none => simp only [zAw, zA2] at r; subst r; rfl
    | bool => simp only [zAw, zA2] at r; subst r; rfl
    | int => obtain ⟨t, rfl⟩ := zCd r; rfl
    | str => obtain ⟨t, rfl⟩ := zBo r; rfl
    | tup => simp only [zAw, zA2] at r; obtain ⟨a, vs, n, rfl, _⟩ := r; rfl
    | lst => simp only [zAw, zA2] at r; obtain ⟨a, vs, n, rfl, _⟩ := r; rfl
  | loc i => obtain ⟨a, _, rfl⟩ := r; rfl
  | obj => obtain ⟨a, d, rfl, _⟩ := r; rfl
  | stat k =>
    have h : zAl.all (fun v => handedIn v) = true := by decide +kernel
    exact Qf.mp h v (Qk r)
  | rng => obtain ⟨a, _, _, _, rfl, _⟩ := r; rfl
  | meth => obtain ⟨a, _, _, rfl, _⟩ := r; rfl
  | rd => obtain ⟨a, _, _, _, _, rfl, _⟩ := r; rfl
  | ditems => obtain ⟨a, _, rfl, _⟩ := r; rfl
theorem zH1 {C : Addr} {i : Nat} {fs : List (Str × V)} {Z X : zAa} {ρ : List Addr} {h : Heap} {v : Value} (S : AtC cells Z X ρ h) (r : zAw Z ρ (.obj C i) v) (e : cells[i]? = some (.dict fs)) :
    E4 fun x d es m => A5 (v = .ref x) (ρ[i]? = some d) (InstAt h x (zKi C d) C (some (zEs es m))) (h.get? d = some (zEs es m)) (zCm Z ρ fs es) := by
  obtain ⟨x, d, rfl, hd, z⟩ := r
  obtain ⟨d', o, hd', ho, es, m, rfl, rf⟩ := S.at e rfl
  rw [hd] at hd'; cases hd'
  exact ⟨x, d, es, m, rfl, hd, ⟨S.z _ _ z, rfl, rfl, ho⟩, ho, rf⟩
theorem zLh {C : Addr} {names : List Str} {i : Nat} {fs : List (Str × V)} {x : Str} {u : V} {Z X : zAa} {ρ : List Addr} {s : Shared} {v : Value} {A : Around} {Q : Value -> Shared -> Prop} {ex : Bool} (hc : (C, names) ∈ zDe) (hn : x ∈ names)
    (st : zEq g.K Z) (S : AtC cells Z X ρ s.heap) (ax : Aux g.os s) (r : zAw Z ρ (.obj C i) v) (e : cells[i]? = some (.dict fs)) (hl : zB7 x fs = some u) (h : K' u cells) (P : zEf g K' Z X ρ Q) : wpAny g.M A (getAttr v x ex) Q Bot s := by
  have ok := g.cls C names hc
  obtain ⟨y, d, es, m, rfl, hd, I, ho, rf⟩ := zH1 S r e
  obtain ⟨w, hg, rw'⟩ := zWm rf hl
  refine get_value (st.kin S.z) I ok.ga (findObj_own ok.hasDict (ok.fld x hn) rfl (by rw [show (zEs es m) = dictOf es m from rfl, lookIn_dict]; exact hg)) (zM9 rw') ?_
  exact zEf.now P (s := { s with toks := s.toks + 1 }) h S ax rw'
theorem zOl {t : Nat} {C f : Addr} {names : List Str} {i : Nat} {fs : List (Str × V)} {x : Str} {Z X : zAa} {ρ : List Addr} {s : Shared} {v : Value} {A : Around} {Q : Value -> Shared -> Prop} {ex : Bool} (hc : (C, names) ∈ zDe) (hm : (C, x, f, t) ∈ zFc)
    (st : zEq g.K Z) (S : AtC cells Z X ρ s.heap) (ax : Aux g.os s) (r : zAw Z ρ (.obj C i) v) (e : cells[i]? = some (.dict fs)) (hl : zB7 x fs = none) (h : K' (.meth f C i) cells) (P : zEf g K' Z X ρ Q) : wpAny g.M A (getAttr v x ex) Q Bot s := by
  have ok := g.cls C names hc
  have mo := g.meth C x f t hm
  have r0 := r
  obtain ⟨y, d, es, m, rfl, hd, I, ho, rf⟩ := zH1 S r e
  have X' := st.kin S.z
  have hf : findObj g.K C (some (zEs es m)) x = some (.bind (.builtin "function.__get__") (.ref f)) := by
    obtain ⟨cd, hcd, hd'⟩ := any_some ok.hasDict
    unfold findObj
    rw [hcd, Option.bind_some, mo.find, Option.bind_some]
    have ho : W.ownOf cd (some (zEs es m)) x = some none := by unfold W.ownOf; rw [if_pos hd']; exact zMz rf hl
    simp only [mo.get, Option.bind_some, mo.takes, ho, mo.cp, Bool.false_and, Bool.false_eq_true, if_false]
  refine get_bind X' I ok.ga hf ok.gattr ?_
  refine wpAny_call (fn_get (s := { s with toks := s.toks + 1 }) X' mo.type ?_)
  refine wpAny_of_eq rfl ?_
  have S1 : AtC cells Z X ρ ({ s with toks := s.toks + 1 } : Shared).heap := S
  obtain ⟨S2, k2⟩ := S1.newFrozen (o := methodObj (.ref f) (.ref y)) rfl
  obtain ⟨y', d', ey, hd', zy⟩ := r0
  cases ey
  exact P _ _ _ _ ρ _ h k2 (Qp _) S2 ax ⟨_, y, d', rfl, zAa.put_self _ _ _, hd', k2 _ _ zy⟩
theorem zZ7 : ∀ (l : List DictEntry) (x : Str) (hs : Int) (k v : Value), (putL x hs k v l).length <= l.length + 1 := by
  intro l
  induction l with
  | nil =>
    rintro _ _ _ _
    simp [putL]
  | cons a l ih =>
    rintro x hs k v
    have := ih x hs k v
    unfold putL; split <;> simp <;> omega
theorem zVy {w₀ : World} {K : Frag} {C y d : Addr} {x : Str} {tk : Tok} {v : Value} {es : List DictEntry} {m : Nat} {s : Shared} {A : Around} {R : Result -> Shared -> Prop} {names : List Str} (ok : yD5 K C names) (hn : x ∈ names)
    (X' : K.In s.heap) (I : InstAt s.heap y (zKi C d) C (some (zEs es m))) (ho : s.heap.get? d = some (zEs es m)) (nr : es.any (·.refKey) = false) (hz : es.length <= 1000)
    (h : ∀ h' hs t, (∀ b o, b ≠ d -> s.heap.get? b = some o -> h'.get? b = some o) -> h'.get? d = some (zEs (putL x hs (.str x t) v es) (putN x es m)) -> R (.ok (.ret .none)) { s with heap := h', toks := s.toks + 1 }) :
    codeAny (model pw w₀) A (.call (.builtin "object.__setattr__") ⟨[.ref y, .str x tk, v], []⟩) R s := by
  have tk : takerIn K C x = some none := by unfold takerIn; rw [ok.fld x hn]; rfl
  refine osa_open X' I ok.po tk fun b => ?_
  obtain ⟨cd, hcd, hd'⟩ := any_some ok.hasDict
  obtain ⟨hx, hcl, hno, -⟩ := I
  refine Qa (Qb (Qa (Qa (wpAny_loadPart hx (Qa ((looks_clsIn X' hcd).here ?_))))))
  rw [hd']
  refine Qb (a := some d) (Qa (Qb (Qa ?_)))
  unfold nsSet
  refine Qa (Qa (wpAny_askSetting (Qb (Qa (wpAny_mkText (Qa (wpAny_loadPart ho ?_)))))))
  dsimp only
  have c : (!es.toArray.any (·.key.isStr x) && es.toArray.any (·.refKey)) = false := by
    have : es.toArray.any (·.refKey) = false := by rw [← Array.any_toList]; exact nr
    rw [this, Bool.and_false]
  rw [aRefKeyMayBeTheName_at, c]
  refine wpAny_updatePart ho ?_
  have g2 := Heap.get?_update_self (Obj.putName x (PyData.keyHash w₀.params x) (.str x s.toks) v) ho (by rw [show (zEs es m) = dictOf es m from rfl, putName_dict]; rfl)
  rw [show (zEs es m) = dictOf es m from rfl, putName_dict] at g2
  refine Qa (wpAny_lookBehind g2 (pastItsLine_dict (by rw [List.size_toArray, sizeLine_eq]; have := zZ7 es x (PyData.keyHash w₀.params x) (.str x s.toks) v; omega)) ?_)
  exact Qb (h _ _ _ (fun b o hb e => (Heap.get?_update_other _ _ (Ne.symm hb)).trans e) g2)
theorem zG5 {C : Addr} {names : List Str} {i : Nat} {fs : List (Str × V)} {x : Str} {u : V} {Z X : zAa} {ρ : List Addr} {s : Shared} {v w : Value} {A : Around} {Q : Unit -> Shared -> Prop} (hc : (C, names) ∈ zDe) (hn : x ∈ names)
    (st : zEq g.K Z) (S : AtC cells Z X ρ s.heap) (ax : Aux g.os s) (r : zAw Z ρ (.obj C i) v) (e : cells[i]? = some (.dict fs)) (hz : fs.length <= 100) (ru : zAw Z ρ u w)
    (P : ∀ s', AtC (cells.set i (.dict (zEx x u fs))) Z X ρ s'.heap -> Aux g.os s' -> Q () s') : wpAny g.M A (setAttr v x w) Q Bot s := by
  have ok := g.cls C names hc
  obtain ⟨y, d, es, m, rfl, hd, I, ho, rf⟩ := zH1 S r e
  have X' := st.kin S.z
  refine set_plain X' I ok.sa (zVy (s := { s with toks := s.toks + 1 }) ok hn X' I ho (zRr rf) (by rw [rf.len]; omega) ?_)
  intro h' hs t k1 k2
  exact P _ (S.update (c' := .dict (zEx x u fs)) hd e rfl k1 k2 ⟨_, _, rfl, zVu ru rf⟩) ax
end
end
section
theorem zKp {x y : Str} {u : V} : ∀ {fs : List (Str × V)}, zB7 y (zEx x u fs) = if y = x then some u else zB7 y fs := by
  intro fs
  induction fs with
  | nil =>
    simp only [zEx, zB7]
  | cons hd0 r ih =>
    obtain ⟨z, w⟩ := hd0
    unfold zEx
    by_cases q : x = z
    . subst q; rw [if_pos rfl]; unfold zB7; split <;> rfl
    . rw [if_neg q]; unfold zB7
      by_cases p : y = z
      . subst p; rw [if_pos rfl, if_neg (Ne.symm q)]; simp
      . rw [if_neg p, if_neg p, ih]
noncomputable abbrev zAe := List (Str × V)
def zTl (g : G) (sc : Sc) (env : Env) (R : zAa) (bs : List Addr) (K : zAe -> List C -> Prop) (Z : zAa) (ρ : List Addr) (Q : Unit -> Shared -> Prop) : Prop :=
  ∀ vars' cells' Z' X' ρ' m' s', K vars' cells' -> Z.Le Z' -> ρ <+: ρ' -> zAh sc env vars' Z' X' R ρ' bs m' -> AtC cells' Z' X' ρ' s'.heap -> Aux g.os s' -> Q () s'
structure zPg (g : G) (sc : Sc) (env : Env) (R : zAa) (bs : List Addr) (Kn : zAe -> List C -> Prop) (Kr : V -> List C -> Prop) (Kc : zAe -> List C -> Prop) (Z : zAa) (ρ : List Addr) (Q : Flow -> Shared -> Prop) : Prop where
  next : ∀ vars' cells' Z' X' ρ' m' s', Kn vars' cells' -> Z.Le Z' -> ρ <+: ρ' -> zAh sc env vars' Z' X' R ρ' bs m' -> AtC cells' Z' X' ρ' s'.heap -> Aux g.os s' -> Q .next s'
  cont : ∀ vars' cells' Z' X' ρ' m' s', Kc vars' cells' -> Z.Le Z' -> ρ <+: ρ' -> zAh sc env vars' Z' X' R ρ' bs m' -> AtC cells' Z' X' ρ' s'.heap -> Aux g.os s' -> Q .cont s'
  ret : ∀ u v cells' Z' X' ρ' s', Kr u cells' -> Z.Le Z' -> ρ <+: ρ' -> R.Le X' -> AtC cells' Z' X' ρ' s'.heap -> Aux g.os s' -> zAw Z' ρ' u v -> Q (.ret v) s'
theorem zTl.grow {g : G} {sc : Sc} {env : Env} {R : zAa} {bs : List Addr} {K : zAe -> List C -> Prop} {Z Z' : zAa} {ρ ρ' : List Addr} {Q : Unit -> Shared -> Prop} (P : zTl g sc env R bs K Z ρ Q) (k : Z.Le Z') (p : ρ <+: ρ') : zTl g sc env R bs K Z' ρ' Q :=
  fun a b c d e f i h1 h2 h3 h4 h5 h6 => P a b c d e f i h1 (k.trans h2) (p.trans h3) h4 h5 h6
theorem zPg.grow {g : G} {sc : Sc} {env : Env} {R : zAa} {bs : List Addr} {Kn : zAe -> List C -> Prop} {Kr : V -> List C -> Prop} {Kc : zAe -> List C -> Prop} {Z Z' : zAa} {ρ ρ' : List Addr} {Q : Flow -> Shared -> Prop} (P : zPg g sc env R bs Kn Kr Kc Z ρ Q) (k : Z.Le Z') (p : ρ <+: ρ') : zPg g sc env R bs Kn Kr Kc Z' ρ' Q :=
  ⟨fun a b c d e f i h1 h2 h3 h4 h5 h6 => P.next a b c d e f i h1 (k.trans h2) (p.trans h3) h4 h5 h6, fun a b c d e f i h1 h2 h3 h4 h5 h6 => P.cont a b c d e f i h1 (k.trans h2) (p.trans h3) h4 h5 h6,
   fun a b c d e f i h1 h2 h3 h4 h5 h6 h7 => P.ret a b c d e f i h1 (k.trans h2) (p.trans h3) h4 h5 h6 h7⟩
def TS (g : G) (n : Nat) (sc : Sc) (t : Stmt) (vars : zAe) (cells : List C) (Kn : zAe -> List C -> Prop) (Kr : V -> List C -> Prop) (Kc : zAe -> List C -> Prop) : Prop :=
  ∀ A env Z X R ρ bs m s Q, zDr n A -> zB9 sc env -> zEq g.K Z -> zAh sc env vars Z X R ρ bs m -> AtC cells Z X ρ s.heap -> Aux g.os s -> zPg g sc env R bs Kn Kr Kc Z ρ Q -> wpAny g.M A (exec t env) Q Bot s
def TSs (g : G) (n : Nat) (sc : Sc) (t : List Stmt) (vars : zAe) (cells : List C) (Kn : zAe -> List C -> Prop) (Kr : V -> List C -> Prop) (Kc : zAe -> List C -> Prop) : Prop :=
  ∀ A env Z X R ρ bs m s Q, zDr n A -> zB9 sc env -> zEq g.K Z -> zAh sc env vars Z X R ρ bs m -> AtC cells Z X ρ s.heap -> Aux g.os s -> zPg g sc env R bs Kn Kr Kc Z ρ Q -> wpAny g.M A (execs t env) Q Bot s
def TA (g : G) (n : Nat) (sc : Sc) (t : Expr) (u : V) (vars : zAe) (cells : List C) (K : zAe -> List C -> Prop) : Prop :=
  ∀ A env Z X R ρ bs m s Q v, zDr n A -> zB9 sc env -> zEq g.K Z -> zAh sc env vars Z X R ρ bs m -> AtC cells Z X ρ s.heap -> Aux g.os s -> zAw Z ρ u v -> zTl g sc env R bs K Z ρ Q -> wpAny g.M A (assign t env v) Q Bot s
section
variable {g : G} {n : Nat} {sc : Sc} {vars : zAe} {cells : List C} {K : zAe -> List C -> Prop} {Kn : zAe -> List C -> Prop} {Kr : V -> List C -> Prop} {Kc : zAe -> List C -> Prop}
theorem zGg {env : Env} : ∀ {own : List Str} {bs : List Addr}, own.map (fun x => env.cells.lookup x) = bs.map some -> ∀ {x : Str}, x ∈ own -> ∃ b ∈ bs, env.cells.lookup x = some b
  | [], _, _, _, h => by cases h
  | y :: r, [], h, _, _ => by simp at h
  | y :: r, b :: bs, h, x, m => by
    simp only [List.map_cons, List.cons.injEq] at h
    rcases Qy.mp m with rfl | m
    . exact ⟨b, .head _, h.1⟩
    . obtain ⟨c, hc, e⟩ := zGg h.2 m; exact ⟨c, .tail _ hc, e⟩
theorem zV2 {env : Env} : ∀ {own : List Str} {bs : List Addr}, own.map (fun x => env.cells.lookup x) = bs.map some -> bs.Nodup -> ∀ {x y : Str} {b : Addr}, x ∈ own -> y ∈ own -> env.cells.lookup x = some b -> env.cells.lookup y = some b -> x = y
  | [], _, _, _, _, _, _, h, _, _, _ => by cases h
  | z :: r, [], h, _, _, _, _, _, _, _, _ => by simp at h
  | z :: r, c :: bs, h, nd, x, y, b, mx, my, ex, ey => by
    simp only [List.map_cons, List.cons.injEq] at h
    have nd' := List.nodup_cons.mp nd
    rcases Qy.mp mx with q | mx' <;> rcases Qy.mp my with q' | my'
    . rw [q, q']
    . rw [← q, ex] at h; cases h.1
      obtain ⟨d, hd, e⟩ := zGg h.2 my'
      rw [ey] at e; cases e; exact absurd hd nd'.1
    . rw [← q', ey] at h; cases h.1
      obtain ⟨d, hd, e⟩ := zGg h.2 mx'
      rw [ex] at e; cases e; exact absurd hd nd'.1
    . exact zV2 h.2 nd'.2 mx' my' ex ey
theorem zAh.setLocal {env : Env} {Z X R : zAa} {ρ bs : List Addr} {m : Str -> Option Value} {x : Str} {u : V} {v : Value} {o : Obj} (F : zAh sc env vars Z X R ρ bs m) (hk : sc.scope.names.lookup x = some .local)
    (di : zQ5 o (fun y => if y = x then some v else m y)) (r : zAw Z ρ u v) : zAh sc env (zEx x u vars) Z (X.put env.locals o) R ρ bs (fun y => if y = x then some v else m y) := by
  have nd := List.nodup_cons.mp F.nd
  refine ⟨fun a q e => ?_, ⟨o, zAa.put_self _ _ _, di⟩, F.boxes, F.kinds, fun b hb => ?_, F.nd, F.off, F.onlyOwn, fun y w e => ?_⟩
  . rw [zAa.put_ne _ _ (by rintro rfl; rw [F.off _ (.head _)] at e; cases e)]; exact F.keeps a q e
  . rw [zAa.put_ne _ _ (by rintro rfl; exact nd.1 hb)]; exact F.boxAt b hb
  . rw [zKp] at e
    by_cases q : y = x
    . subst q; rw [if_pos rfl] at e; cases e
      exact .ofLocal hk (if_pos rfl) r
    . rw [if_neg q] at e
      have h := F.vars y w e
      have away : ∀ c, env.cells.lookup y = some c -> c ≠ env.locals := by
        rintro c hc rfl
        by_cases o : y ∈ sc.own
        . obtain ⟨b, hb, e'⟩ := zGg F.boxes o
          rw [hc] at e'; cases e'; exact nd.1 hb
        . exact F.onlyOwn y _ o hc (.head _)
      exact h.imp (fun v e => by rw [if_neg q]; exact e) (fun c o _ e1 e2 => by rw [zAa.put_ne _ _ (away c e1)]; exact e2) fun _ r => r
theorem zAh.setBox {env : Env} {Z X R : zAa} {ρ bs : List Addr} {m : Str -> Option Value} {x : Str} {u : V} {v : Value} {o : Obj} {c : Addr} (F : zAh sc env vars Z X R ρ bs m) (hx : x ∈ sc.own) (hc : env.cells.lookup x = some c)
    (hd : o.data = .cell (some v)) (r : zAw Z ρ u v) : zAh sc env (zEx x u vars) Z (X.put c o) R ρ bs m := by
  have nd := List.nodup_cons.mp F.nd
  obtain ⟨c', hc', e'⟩ := zGg F.boxes hx
  rw [hc] at e'; cases e'
  have ne : env.locals ≠ c := by rintro e; exact nd.1 (e ▸ hc')
  refine ⟨fun a q e => ?_, ?_, F.boxes, F.kinds, fun b hb => ?_, F.nd, F.off, F.onlyOwn, fun y w e => ?_⟩
  . rw [zAa.put_ne _ _ (by rintro rfl; rw [F.off _ (.tail _ hc')] at e; cases e)]; exact F.keeps a q e
  . obtain ⟨q, hq, di⟩ := F.loc
    exact ⟨q, by rw [zAa.put_ne _ _ ne]; exact hq, di⟩
  . by_cases q : b = c
    . subst q; exact ⟨o, _, zAa.put_self _ _ _, hd⟩
    . rw [zAa.put_ne _ _ q]; exact F.boxAt b hb
  . rw [zKp] at e
    by_cases q : y = x
    . subst q; rw [if_pos rfl] at e; cases e
      exact .ofBox (.inl (F.kinds _ hx)) hc (zAa.put_self _ _ _) hd r
    . rw [if_neg q] at e
      have h := F.vars y w e
      have away : ∀ d, env.cells.lookup y = some d -> d ≠ c := by
        rintro d hd' rfl
        by_cases oy : y ∈ sc.own
        . exact q (zV2 F.boxes nd.2 oy hx hd' hc)
        . exact F.onlyOwn y _ oy hd' (.tail _ hc')
      exact h.imp (fun _ e => e) (fun d o _ e1 e2 => by rw [zAa.put_ne _ _ (away d e1)]; exact e2) fun _ r => r
noncomputable def zA6 (sc : Sc) (x : Str) : Bool := (sc.scope.names.lookup x == some .local) || sc.own.contains x
theorem zHv {x : Str} {u : V} (hs : zA6 sc x = true) (h : K (zEx x u vars) cells) {A env Z X R ρ bs m s Q v} (en : zB9 sc env) (fr : zAh sc env vars Z X R ρ bs m) (S : AtC cells Z X ρ s.heap)
    (ax : Aux g.os s) (r : zAw Z ρ u v) (P : zTl g sc env R bs K Z ρ Q) : wpAny g.M A (storeName env x v) Q Bot s := by
  have hk : env.scope.kind = .function := by rw [en.scope]; exact en.kind
  unfold zA6 at hs
  rw [Bool.or_eq_true] at hs
  by_cases hl : sc.scope.names.lookup x = some .local
  . obtain ⟨o, ho, di⟩ := fr.loc
    refine wpAny_storeName_local (by rw [zB6 en]; exact hl) (zJm.mpr ⟨o, S.x _ _ ho, di⟩) (fun h' hn sb => ?_) (by rw [hk]; rfl)
    obtain ⟨o', ho', di'⟩ := zJm.mp hn
    refine P _ _ Z (X.put env.locals o') ρ _ _ h (zAa.Le.refl _) (Qp _) (fr.setLocal hl di' r) ?_ ax
    exact S.store ho (fun b q hb e => (sb.2 b hb).trans e) ho'
  . have hx : x ∈ sc.own := by
      rcases hs with q | q
      . exact absurd (by simpa using q) hl
      . simpa using q
    obtain ⟨c, hc, ec⟩ := zGg fr.boxes hx
    obtain ⟨o, w, ho, hd⟩ := fr.boxAt c hc
    refine wpAny_storeName_cell hk (by rw [zB6 en]; exact fr.kinds x hx) ec ⟨o, S.x _ _ ho, hd⟩ (fun h' ic sb => ?_)
    obtain ⟨o', ho', hd'⟩ := ic
    refine P _ _ Z (X.put c o') ρ _ _ h (zAa.Le.refl _) (Qp _) (fr.setBox hx ec hd' r) ?_ ax
    exact S.store ho (fun b q hb e => (sb.2 b hb).trans e) ho'
theorem TA_name {x : Str} {p : Pos} {u : V} (hs : zA6 sc x = true) (h : K (zEx x u vars) cells) : TA g n sc (.Name x p) u vars cells K :=
  fun _ _ _ _ _ _ _ _ _ _ _ _ en _ fr S ax r P => wpAny_assign_Name (zHv hs h en fr S ax r P)
noncomputable def yKb (e : Expr) : Option Str := (zOs e).name
theorem zRq {t : Expr} {x : Str} (h : yKb t = some x) : ∃ p, t = .Name x p := by
  induction t using Expr.casesOn with
  | Name y p => exact ⟨p, congrArg (Expr.Name · p) (qa h)⟩
  | _ => exact nomatch h
noncomputable def zC4 (sc : Sc) : List Expr -> List D -> zAe -> Option zAe
  | [], [], vars => some vars
  | t :: ts, d :: ds, vars => match yKb t with
    | some x => cond (zA6 sc x) (zC4 sc ts ds (zEx x (.d d) vars)) none
    | none => none
  | _, _, _ => none
theorem zH3 : ∀ {ts : List Expr} {ds : List D} {vars vars' : zAe}, zC4 sc ts ds vars = some vars' -> ts.length = ds.length
  | [], [], _, _, _ => rfl
  | t :: ts, d :: ds, vars, vars', e => by
    simp only [zC4] at e
    split at e
    . cases q : zA6 sc _ <;> rw [q] at e
      . cases e
      . simp [zH3 e]
    . cases e
  | [], _ :: _, _, _, e => by cases e
  | _ :: _, [], _, _, e => by cases e
theorem zF5 : ∀ {ts : List Expr} {ds : List D} {vars vars' : zAe} (env : Env), zC4 sc ts ds vars = some vars' -> assignEach ts env = ts.map fun t => (false, assign t env)
  | [], [], _, _, _, _ => rfl
  | t :: ts, d :: ds, vars, vars', env, e => by
    simp only [zC4] at e
    split at e
    . rename_i x hx
      obtain ⟨p, rfl⟩ := zRq hx
      cases q : zA6 sc x <;> rw [q] at e
      . cases e
      . show (false, assign (.Name x p) env) :: assignEach ts env = _
        rw [zF5 env e]; rfl
    . cases e
  | [], _ :: _, _, _, _, e => by cases e
  | _ :: _, [], _, _, _, e => by cases e
theorem zMh {env : Env} {R : zAa} {bs : List Addr} {A : Around} {Q : Unit -> Shared -> Prop} (en : zB9 sc env) : ∀ (ts : List Expr) (ds : List D) (vars vars' : zAe) (Z X : zAa) (ρ : List Addr) (m : Str -> Option Value) (s : Shared) (vs : List Value), zC4 sc ts ds vars = some vars' -> K vars' cells ->
    zAh sc env vars Z X R ρ bs m -> AtC cells Z X ρ s.heap -> Aux g.os s -> zAk Z ds vs -> zTl g sc env R bs K Z ρ Q ->
    wpAny g.M A (assignInOrder (ts.map fun t => assign t env) vs) Q Bot s := by
  intro ts
  induction ts with
  | nil =>
    intro ds vars vars' Z X ρ m s vs e h fr S ax r P
    induction ds using List.casesOn with
    | nil =>
      rw [r.inv_nil]; simp only [zC4, Option.some.injEq] at e; subst e
      exact wpAny_assignInOrder_none (P _ _ Z X ρ m s h (zAa.Le.refl _) (Qp _) fr S ax)
    | cons d ds => cases e
  | cons t ts ih =>
    intro ds vars vars' Z X ρ m s vs e h fr S ax r P
    induction ds using List.casesOn with
    | nil => cases e
    | cons d ds =>
      obtain ⟨v, vs', rfl, r1, r2⟩ := r.inv
      simp only [zC4] at e
      split at e
      . rename_i x hx
        obtain ⟨p, rfl⟩ := zRq hx
        cases q : zA6 sc x <;> rw [q] at e
        . cases e
        . refine wpAny_assignInOrder_more (wpAny_assign_Name (zHv (g := g) (K := fun a c => a = zEx x (.d d) vars /\ c = cells) q ⟨rfl, rfl⟩ en fr S ax (u := .d d) r1 ?_))
          rintro vars1 cells1 Z1 X1 ρ1 m1 s1 ⟨rfl, rfl⟩ k1 p1 fr1 S1 ax1
          exact ih ds _ _ _ _ _ _ _ _ e h fr1 S1 ax1 (zAk.mono k1 _ _ r2) (P.grow k1 p1)
      . cases e
theorem zBt {ts : List Expr} {k : Nat} {p : Pos} {ds : List D} {vars' : zAe} (e : zC4 sc ts ds vars = some vars') (h : K vars' cells) : TA g n sc (.Tuple ts k p) (.d (.tup ds)) vars cells K := by
  intro A env Z X R ρ bs m s Q v rm en st fr S ax r P
  simp only [zAw, zA2] at r
  obtain ⟨a, vs, q, rfl, z, r⟩ := r
  have pl := zF5 env e
  refine wpAny_assign_Tuple rm.hd (items := vs.toArray) ⟨_, S.z _ _ z, rfl, q, rfl⟩ ?_ ?_ ?_
  . rw [pl]; simp [zH3 e, r.length]
  . rw [pl]; rw [List.findIdx?_eq_none_iff]; intro x hx; simp at hx; obtain ⟨t, _, rfl⟩ := hx; rfl
  . intro h' sb
    rw [pl, List.map_map]
    have un := S.fresh (Qo s.heap.objs.size)
    exact zMh en ts ds _ _ Z X ρ m _ vs e h fr (S.extBut (it := s.heap.objs.size) (fun b o hb eb => sb b o hb eb) un) ax r P
end
end
section
section
variable {g : G} {n : Nat} {sc : Sc} {vars : zAe} {cells : List C} {K : zAe -> List C -> Prop} {Kn : zAe -> List C -> Prop} {Kr : V -> List C -> Prop} {Kc : zAe -> List C -> Prop}
theorem zIy {Z X : zAa} {ρ : List Addr} {h : Heap} {i : Nat} {a : Addr} {l l' : List D} {vs : List Value} {m : Nat} {f : Array Value -> Array Value} (S : AtC cells Z X ρ h) (e1 : ρ[i]? = some a) (e2 : cells[i]? = some (.lst l))
    (ho : h.get? a = some (zAr vs m)) (r : zAk Z l' (f vs.toArray).toList) : AtC (cells.set i (.lst l')) Z X ρ (h.update a (Obj.mapSeq f)) := by
  have e : Obj.mapSeq f (zAr vs m) = zAr (f vs.toArray).toList (if (f vs.toArray).size == vs.toArray.size then m else m + 1) := by simp [Obj.mapSeq]
  have g2 := Heap.get?_update_self (Obj.mapSeq f) ho (by rw [e]; rfl)
  rw [e] at g2
  exact S.update e1 e2 rfl (fun b o hb eb => (Heap.get?_update_other _ _ (Ne.symm hb)).trans eb) g2 ⟨_, _, rfl, r⟩
theorem zFp {Z X : zAa} {ρ : List Addr} {h : Heap} {i : Nat} {l : List D} {v : Value} (S : AtC cells Z X ρ h) (r : zAw Z ρ (.loc i) v) (e : cells[i]? = some (.lst l)) :
    E3 fun a vs m => A4 (v = .ref a) (ρ[i]? = some a) (h.get? a = some (zAr vs m)) (zAk Z l vs) := by
  obtain ⟨a, ha, rfl⟩ := r
  obtain ⟨a', o, ha', ho, vs, m, rfl, r⟩ := S.at e rfl
  rw [ha] at ha'; cases ha'
  exact ⟨a, vs, m, rfl, ha, ho, r⟩
theorem zAk.set {Z : zAa} {d : D} {v : Value} (x : zA2 Z d v) : ∀ {l : List D} {vs : List Value} (j : Nat), zAk Z l vs -> zAk Z (l.set j d) (vs.set j v)
  | [], _, _, h => by rw [h.inv_nil]; exact .nil
  | _ :: _, _, 0, h => by obtain ⟨u, r, rfl, a, b⟩ := h.inv; exact .cons x b
  | _ :: _, _, j + 1, h => by obtain ⟨u, r, rfl, a, b⟩ := h.inv; exact .cons a (zAk.set x j b)
theorem zAk.eraseIdx {Z : zAa} : ∀ {l : List D} {vs : List Value} (j : Nat), zAk Z l vs -> zAk Z (l.eraseIdx j) (vs.eraseIdx j)
  | [], _, _, h => by rw [h.inv_nil]; exact .nil
  | _ :: _, _, 0, h => by obtain ⟨u, r, rfl, a, b⟩ := h.inv; exact b
  | _ :: _, _, j + 1, h => by obtain ⟨u, r, rfl, a, b⟩ := h.inv; exact .cons a (zAk.eraseIdx j b)
theorem zLk {w : World} {A : Around} {s : Shared} {l : Addr} {vs : List Value} {m : Nat} {k : Int} {t : Tok} {v : Value} {Q : Unit -> Shared -> Prop} (ho : s.heap.get? l = some (zAr vs m))
    (h0 : 0 <= k) (hfit : k < 2 ^ 63) (hn : k < vs.length) (hQ : Q () { s with heap := s.heap.update l (Obj.mapSeq (·.setIfInBounds k.toNat v)) }) : wpAny (model pw w) A (setItem (.ref l) (.int k t) v) Q Bot s := by
  have hT : s.TypeIs (.ref l) "list" := ⟨_, ho, rfl⟩
  unfold setItem
  try with_reducible refine Qc ?_
  first | refine Qa (Qb ?_) | skip
  refine Qa (wpAny_sequenceKey hT (by decide) ?_)
  refine Qa (wpAny_callSpecial?_slot (name := Qd "__setitem__") hT PySem.slot_list_setitem
    (wpAny_call_entry PySem.slot_list_setitem hT PySem.entry_list_setitem ?_ (PySem.args_list_setitem _ _ _)))
  show wpAny _ _ (Builtin.List.listSubscript? (.int k t) >>= _) _ _ s
  refine Qa (wpAny_listSubscript_int (fitsIndex_of h0 hfit) ?_)
  clear hfit
  obtain ⟨j, rfl⟩ := Int.eq_ofNat_of_zero_le h0
  have hj : j < vs.toArray.size := by simp; omega
  have hx' : vs.toArray[j]? = some vs.toArray[j] := Array.getElem?_eq_getElem hj
  show wpAny _ _ ((seqItemAt l j >>= fun r => pure (r.map (j, ·))) >>= _) _ _ s
  refine Qa (Qa (wpAny_seqItemAt ho rfl (Qb ?_)))
  rw [hx']
  show wpAny _ _ (setSeqItemAt l j v >>= _) _ _ s
  refine Qa (wpAny_setSeqItemAt ho rfl ?_)
  first
    | exact Qa (Qb (Qb ⟨.none, rfl, Qb hQ⟩))
    | exact Qb ⟨.none, rfl, Qb hQ⟩
theorem zPy {w : World} {A : Around} {s : Shared} {l sl b : Addr} {vs us : List Value} {m m' : Nat} {Q : Unit -> Shared -> Prop} (ho : s.heap.get? l = some (zAr vs m)) (hb : s.heap.get? b = some (zAr us m')) (hne : l ≠ b)
    (hs : s.heap.IsSliceOf sl .none .none .none) (h1 : vs.length + us.length <= sizeLine)
    (hQ : Q () { s with heap := s.heap.update l (Obj.mapSeq fun xs => xs.extract 0 (0 : Int).toNat ++ us.toArray ++ xs.extract (max (0 : Int) (vs.toArray.size : Int)).toNat) }) : wpAny (model pw w) A (setItem (.ref l) (.ref sl) (.ref b)) Q Bot s := by
  have hT : s.TypeIs (.ref l) "list" := ⟨_, ho, rfl⟩
  obtain ⟨os, hos, hcs, hds⟩ := id hs
  have hTs : s.TypeIs (.ref sl) "slice" := ⟨os, hos, hcs⟩
  unfold setItem
  try with_reducible refine Qc ?_
  first | refine Qa (Qb ?_) | skip
  refine Qa (wpAny_sequenceKey hT (by decide) ?_)
  refine Qa (wpAny_callSpecial?_slot (name := Qd "__setitem__") hT PySem.slot_list_setitem
    (wpAny_call_entry PySem.slot_list_setitem hT PySem.entry_list_setitem ?_ (PySem.args_list_setitem _ _ _)))
  show wpAny _ _ (Builtin.List.listSubscript? (.ref sl) >>= _) _ _ s
  refine Qa ?_
  unfold Builtin.List.listSubscript?
  refine Qa (wpAny_specialOf hTs slice_no_index ?_)
  refine yCx rfl (Qb ?_)
  show wpAny _ _ (typeOf (.ref sl) >>= _) _ _ s
  refine Qa (wpAny_typeOf hTs (yDe (by decide) ?_))
  rw [listSliceParts_eq]
  refine Qa (Qa (wpAny_field hos hds (x := .none) rfl (Qa (wpAny_listPart .none (yDe (by decide) ?_)))))
  refine Qa (wpAny_field hos hds (x := .none) rfl (Qa (wpAny_listPart .none ?_)))
  refine Qa (wpAny_field hos hds (x := .none) rfl (Qa (wpAny_listPart .none (Qb ?_))))
  have hr : Builtin.List.listSameRef (.ref l) (.ref b) = false := by simpa [Builtin.List.listSameRef] using hne
  have items : ∀ {x : Addr} {ws : List Value} {k : Nat} {Q' : Array Value -> Shared -> Prop} {E' : Value -> Shared -> Prop} {A' : Around}, s.heap.get? x = some (zAr ws k) -> Q' ws.toArray s -> wpAny (model pw w) A' (Builtin.List.listItems (.ref x)) Q' E' s := by
    intro x ws k Q' E' A' hx hq
    unfold Builtin.List.listItems
    exact Qa (wpAny_seqItems hx rfl (Qb hq))
  refine yIw hr (Qa (Qa ?_))
  refine wpAny_typeOf (T := "list") ⟨_, hb, rfl⟩ (zQ9 (by decide) (items hb ?_))
  refine Qa (items ho ?_)
  rw [sliceIndices_raw none none none _ (by simp)]
  refine Qa (Qb ?_)
  have e1 : sliceBounds none none none vs.toArray.size = ((0 : Int), (vs.toArray.size : Int), (1 : Int)) := by simp [sliceBounds]
  rw [e1]
  refine zQ9 (by decide) (Qa (wpAny_rule (yDe (by simp [Builtin.List.listTooLong]; omega) ?_)))
  have sz : (vs.toArray.extract 0 (0 : Int).toNat ++ us.toArray ++ vs.toArray.extract (max (0 : Int) (vs.toArray.size : Int)).toNat).size <= sizeLine + 1 := by
    simp; omega
  refine Qa ?_
  show wpAny _ _ (updateSeq l _) _ _ s
  refine wpAny_updateSeq ho rfl ?_ (by simp; omega) sz
  refine Qa (wpAny_letGo (Qb ⟨_, rfl, Qb hQ⟩))
end
end
section
noncomputable def zE7 (C : Addr) (x : Str) : Bool := zDe.any fun p => p.1 == C && p.2.contains x
theorem zEw {C : Addr} {x : Str} (h : zE7 C x = true) : ∃ names, (C, names) ∈ zDe /\ x ∈ names := by
  unfold zE7 at h
  rw [List.any_eq_true] at h
  obtain ⟨⟨a, ns⟩, m, h⟩ := h
  simp only [Bool.and_eq_true, beq_iff_eq] at h
  obtain ⟨rfl, h⟩ := h
  exact ⟨ns, m, by simpa using h⟩
section
variable {g : G} {n : Nat} {sc : Sc} {vars : zAe} {cells : List C} {K : zAe -> List C -> Prop} {Kn : zAe -> List C -> Prop} {Kr : V -> List C -> Prop} {Kc : zAe -> List C -> Prop}
def zHf (g : G) (a : V) (x : Str) (u : V) (cells : List C) (K : List C -> Prop) : Prop :=
  ∀ A Z X ρ s v w Q, zEq g.K Z -> AtC cells Z X ρ s.heap -> Aux g.os s -> zAw Z ρ a v -> zAw Z ρ u w -> (∀ cells' s', K cells' -> AtC cells' Z X ρ s'.heap -> Aux g.os s' -> Q () s') -> wpAny g.M A (setAttr v x w) Q Bot s
theorem yPt {cl i : Nat} {fs : List (Str × V)} {x : Str} {u : V} {KK : List C -> Prop} (hc : cells[i]? = some (.dict fs)) (hf : zE7 cl x = true) (hz : fs.length <= 100) (k : KK (cells.set i (.dict (zEx x u fs)))) : zHf g (.obj cl i) x u cells KK :=
  fun _ _ _ _ _ _ _ _ st S ax r ru P =>
    let ⟨_, hn, hx⟩ := zEw hf
    zG5 hn hx st S ax r hc hz ru fun s' S' ax' => P _ s' k S' ax'
theorem yFp {e : Expr} {x : Str} {p : Pos} {u : V} (h : TE g n sc e vars cells fun a c => zHf g a x u c fun c' => K vars c') : TA g n sc (.Attribute e x p) u vars cells K := by
  intro A env Z X R ρ bs m s Q v rm en st fr S ax r P
  refine zEg (arm_assign_Attribute ..) ?_
  refine Qa (Qc (h A env Z X R ρ bs m s _ rm en st fr S ax ?_))
  intro o ua c1 Z1 ρ1 s1 h1 k1 p1 S1 ax1 r1
  refine Qa (wpAny_standAt (Qa (Qc (h1 _ _ _ _ _ _ _ _ (st.mono k1) S1 ax1 r1 (r.mono k1 p1) ?_))))
  intro c2 s2 h2 S2 ax2
  exact wpAny_release (P _ _ Z1 X ρ1 m s2 h2 k1 p1 (fr.mono k1 p1) S2 ax2)
def zU6 (g : G) (a i : V) (u : V) (cells : List C) (K : List C -> Prop) : Prop :=
  ∀ A Z X ρ s va vi vu Q, AtC cells Z X ρ s.heap -> Aux g.os s -> zAw Z ρ a va -> zAw Z ρ i vi -> zAw Z ρ u vu -> (∀ cells' s', K cells' -> AtC cells' Z X ρ s'.heap -> Aux g.os s' -> Q () s') -> wpAny g.M A (setItem va vi vu) Q Bot s
theorem yHg {i : Nat} {k : Int} {d : D} {l : List D} {KK : List C -> Prop} (hc : cells[i]? = some (.lst l)) (h0 : 0 <= k) (h1 : k < l.length) (h2 : k < 2 ^ 63) (h : KK (cells.set i (.lst (l.set k.toNat d)))) : zU6 g (.loc i) (.d (.int k)) (.d d) cells KK := by
  intro A Z X ρ s va vi vu Q S ax ra ri ru P
  obtain ⟨t, rfl⟩ := zCd ri
  obtain ⟨a, vs, q, rfl, ha, ho, rl⟩ := zFp S ra hc
  refine zLk ho h0 h2 (by rw [rl.length]; exact h1) (P _ _ h (zIy S ha hc ho ?_) ax)
  rw [show vs.toArray.setIfInBounds k.toNat vu = (vs.set k.toNat vu).toArray from List.setIfInBounds_toArray ..]
  exact zAk.set ru k.toNat rl
theorem yCu {e i : Expr} {p : Pos} {u : V} (_ : zMr i = true) (h : TE g n sc e vars cells fun a c => TE g n sc i vars c fun b c' => zU6 g a b u c' fun c2 => K vars c2) : TA g n sc (.Subscript e i p) u vars cells K := by
  intro A env Z X R ρ bs m s Q v rm en st fr S ax r P
  refine zEg (arm_assign_Subscript ..) ?_
  refine Qa (Qc (h A env Z X R ρ bs m s _ rm en st fr S ax ?_))
  intro o ua c1 Z1 ρ1 s1 h1 k1 p1 S1 ax1 r1
  refine Qa (Qc (h1 A env Z1 X R ρ1 bs m s1 _ rm en (st.mono k1) (fr.mono k1 p1) S1 ax1 ?_))
  intro b ub c2 Z2 ρ2 s2 h2 k2 p2 S2 ax2 r2
  have k3 := k1.trans k2
  have p3 := p1.trans p2
  refine Qa (wpAny_standAt (Qa (Qc (h2 _ _ _ _ _ _ _ _ _ S2 ax2 (r1.mono k2 p2) r2 (r.mono k3 p3) ?_))))
  intro c3 s3 h3 S3 ax3
  exact wpAny_release (P _ _ Z2 X ρ2 m s3 h3 k3 p3 (fr.mono k3 p3) S3 ax3)
def zU0 (g : G) (a : V) (u : V) (cells : List C) (K : List C -> Prop) : Prop :=
  ∀ A Z X ρ s va sl vu Q, s.heap.IsSliceOf sl .none .none .none -> AtC cells Z X ρ s.heap -> Aux g.os s -> zAw Z ρ a va -> zAw Z ρ u vu -> (∀ cells' s', K cells' -> AtC cells' Z X ρ s'.heap -> Aux g.os s' -> Q () s') -> wpAny g.M A (setItem va (.ref sl) vu) Q Bot s
theorem yPu {i : Nat} {l l' : List D} {KK : List C -> Prop} (hc : cells[i]? = some (.lst l)) (hz : l.length + l'.length <= sizeLine) (h : KK (cells.set i (.lst l'))) : zU0 g (.loc i) (.d (.lst l')) cells KK := by
  intro A Z X ρ s va sl vu Q hs S ax ra ru P
  obtain ⟨a, vs, q, rfl, ha, ho, rl⟩ := zFp S ra hc
  obtain ⟨b, us, q', rfl, zb, rb⟩ := ru
  have hne : a ≠ b := by
    rintro rfl
    exact nomatch (S.zr i a _ ha hc rfl).symm.trans zb
  refine zPy ho (S.z _ _ zb) hne hs (by rw [rl.length, rb.length]; exact hz) (P _ _ h (zIy S ha hc ho ?_) ax)
  simpa using rb
theorem yH7 {e : Expr} {p p' : Pos} {u : V} (h : TE g n sc e vars cells fun a c => zU0 g a u c fun c2 => K vars c2) : TA g n sc (.Subscript e (.Slice none none none p') p) u vars cells K := by
  intro A env Z X R ρ bs m s Q v rm en st fr S ax r P
  refine zEg (arm_assign_Subscript ..) ?_
  refine Qa (Qc (h A env Z X R ρ bs m s _ rm en st fr S ax ?_))
  intro o ua c1 Z1 ρ1 s1 h1 k1 p1 S1 ax1 r1
  refine Qa (Qc (wpAny_Slice ?_))
  rw [evalPart_none]
  refine Qb (Qb (Qb ?_))
  have S2 := S1.push { cls := .type "slice", data := .fields #[.none, .none, .none] }
  refine Qa (wpAny_standAt (Qa (Qc (h1 _ _ _ _ _ _ _ _ _ (Heap.IsSliceOf.new ..) S2 ax1 r1 (r.mono k1 p1) ?_))))
  intro c3 s3 h3 S3 ax3
  exact wpAny_release (P _ _ Z1 X ρ1 m s3 h3 k1 p1 (fr.mono k1 p1) S3 ax3)
noncomputable def zQt (e : Expr) : Bool := !(Nat.ble 8 e.ctorIdx && Nat.ble e.ctorIdx 10)
noncomputable def zSc (e : Expr) : Bool := !(Nat.beq e.ctorIdx 25)
def yIj (e : Expr) : Prop := zQt e = true -> ∀ t l env, swapsWith e t l env = pure false
theorem zZd : true = true -> ∀ (t : Option Expr) (l : Nat) (env : Env), (pure false : Sem Bool) = pure false := fun _ _ _ _ => rfl
theorem zT8 : ∀ e, yIj e := by intro e; induction e using Expr.casesOn <;> first | exact zZd | exact fun h => (Qw h).elim
theorem zOg {e : Expr} {t : Option Expr} {l : Nat} {env : Env} (h : zQt e = true) : swapsWith e t l env = pure false := zT8 e h t l env
noncomputable def zM7 (sc : Sc) (t e : Expr) : Bool := match e, t with
  | .ListComp _ _ s pos, .Name x p => sc.scope.names.lookup x == some .local && p.line == pos.line && !(s.names.any fun (n, k) => n == x && (k == .local || k == .cell))
  | _, _ => false
noncomputable def zDh (e : Expr) : Bool := !(Nat.ble 9 e.ctorIdx && Nat.ble e.ctorIdx 10)
def yLk (e : Expr) : Prop := zDh e = true -> ∀ sc env, zB9 sc env -> ∀ l t, swapsWith e (some t) l env = pure (zM7 sc t e)
theorem yAx : true = true -> ∀ sc env, zB9 sc env -> ∀ (l : Nat) (t : Expr), (pure false : Sem Bool) = pure false := fun _ _ _ _ _ _ => rfl
theorem zOy {sc : Sc} {env : Env} (en : zB9 sc env) {x : Str} {p : Pos} {elt : Expr} {gens : List Comprehension} {s : Scope} {pos : Pos} {l : Nat} : swapsWith (.ListComp elt gens s pos) (some (.Name x p)) l env = pure (zM7 sc (.Name x p) (.ListComp elt gens s pos)) := by
  unfold swapsWith zM7
  have hk : env.blockKind = .function := by
    unfold Env.blockKind
    have : env.scope.kind = .function := by rw [en.scope]; exact en.kind
    simp [this, ScopeKind.isAnnotationScope]
  simp only [hk, zB6 en]
  rfl
def yO3 (t : Expr) : Prop := ∀ elt gens s pos sc env, zB9 sc env -> ∀ l, swapsWith (.ListComp elt gens s pos) (some t) l env = pure (zM7 sc t (.ListComp elt gens s pos))
theorem yEp : ∀ (elt : Expr) (gens : List Comprehension) (s : Scope) (pos : Pos), ∀ sc env, zB9 sc env -> ∀ (l : Nat), (pure false : Sem Bool) = pure false := fun _ _ _ _ _ _ _ _ => rfl
theorem zVj : ∀ t, yO3 t := by intro t; induction t using Expr.casesOn <;> first | exact yEp | exact fun _ _ _ _ _ _ en _ => zOy en
theorem zTj : ∀ e, yLk e := by intro e; induction e using Expr.casesOn <;> first | exact yAx | exact fun h => (Qw h).elim | exact fun _ sc env en l t => zVj t _ _ _ _ sc env en l
theorem zIg {sc : Sc} {env : Env} (en : zB9 sc env) {t e : Expr} {l : Nat} (h : zDh e = true) : swapsWith e (some t) l env = pure (zM7 sc t e) := zTj e h sc env en l t
def yOr (t : Expr) : Prop := ∀ e env, zSc e = true -> swappedStores [t] e env = pure none
theorem yF1 : ∀ (e : Expr) (_ : Env), zSc e = true -> (pure none : Sem (Option (List Str))) = pure none := fun _ _ _ => rfl
def yO8 (e : Expr) : Prop := zSc e = true -> ∀ a b c env, swappedStores [.Tuple a b c] e env = pure none /\ swappedStores [.List a c] e env = pure none
theorem yF4 : true = true -> ∀ (_ : List Expr) (_ : Nat) (_ : Pos) (_ : Env), (pure none : Sem (Option (List Str))) = pure none /\ (pure none : Sem (Option (List Str))) = pure none := fun _ _ _ _ _ => ⟨rfl, rfl⟩
theorem zM6 : ∀ e, yO8 e := by intro e; induction e using Expr.casesOn <;> first | exact yF4 | exact fun h => (Qw h).elim
theorem zXq : ∀ t, yOr t := by intro t; induction t using Expr.casesOn <;> first | exact yF1 | exact fun e env h => (zM6 e h _ _ _ env).1 | exact fun e env h => (zM6 e h _ 0 _ env).2
theorem zTt {t e : Expr} {env : Env} (h : zSc e = true) : swappedStores [t] e env = pure none := zXq t e env h
def yK6 (t : Expr) : Prop := zB2 t = true -> ∀ env, (assignEach [t] env).map (·.2) = [assign t env]
theorem yBy (t : Expr) : true = true -> ∀ env, [assign t env] = [assign t env] := fun _ _ => rfl
theorem zSa : ∀ t, yK6 t := by intro t; induction t using Expr.casesOn <;> first | exact yBy _ | exact fun h => (Qw h).elim
theorem zU8 {t : Expr} {env : Env} (h : zB2 t = true) : (assignEach [t] env).map (·.2) = [assign t env] := zSa t h env
theorem zV3 {t e : Expr} {p : Pos} (hp : zB2 t = true) (hl : zDh e = true) (hs : zM7 sc t e = false) (ht : zSc e = true) (h : TE g n sc e vars cells fun u c => TA g n sc t u vars c Kn) : TS g n sc (.Assign [t] e p) vars cells Kn Kr Kc := by
  intro A env Z X R ρ bs m s Q rm en st fr S ax P
  refine wpAny_Assign_stores (h A env Z X R ρ bs m s _ rm en st fr S ax ?_) (by show swapsWith e (some t) p.line env = _; rw [zIg en hl, hs]) (zTt ht)
  intro v u c1 Z1 ρ1 s1 h1 k1 p1 S1 ax1 r1
  rw [zU8 hp]
  show wpAny _ _ (assign t env v) _ _ _
  exact h1 A env Z1 X R ρ1 bs m s1 _ v rm en (st.mono k1) (fr.mono k1 p1) S1 ax1 r1 fun a b c d e f i j1 j2 j3 j4 j5 j6 => P.next a b c d e f i j1 (k1.trans j2) (p1.trans j3) j4 j5 j6
theorem yF7 {e : Expr} {p : Pos} (hs : zQt e = true) (h : TE g n sc e vars cells fun _ c => Kn vars c) : TS g n sc (.Expr e p) vars cells Kn Kr Kc := by
  intro A env Z X R ρ bs m s Q rm en st fr S ax P
  have hi : interactive env = false := by
    have : env.scope.kind = .function := by rw [en.scope]; exact en.kind
    simp [interactive, this]
  refine wpAny_Expr_any (h A env Z X R ρ bs m s _ rm en st fr S ax ?_) hi (zOg hs)
  intro v u c1 Z1 ρ1 s1 h1 k1 p1 S1 ax1 r1
  exact P.next _ _ Z1 X ρ1 m s1 h1 k1 p1 (fr.mono k1 p1) S1 ax1
theorem TS_return {e : Expr} {p : Pos} (h : TE g n sc e vars cells Kr) : TS g n sc (.Return (some e) p) vars cells Kn Kr Kc := by
  intro A env Z X R ρ bs m s Q rm en st fr S ax P
  refine wpAny_Return_some (h A env Z X R ρ bs m s _ rm en st fr S ax ?_)
  intro v u c1 Z1 ρ1 s1 h1 k1 p1 S1 ax1 r1
  exact P.ret u v _ Z1 X ρ1 s1 h1 k1 p1 fr.keeps S1 ax1 r1
theorem TS_continue {p : Pos} (h : Kc vars cells) : TS g n sc (.Continue p) vars cells Kn Kr Kc := by
  intro A env Z X R ρ bs m s Q rm en st fr S ax P
  exact wpAny_Continue (P.cont _ _ Z X ρ m s h (zAa.Le.refl _) (Qp _) fr S ax)
theorem yPb {t : Expr} {a b : List Stmt} {p : Pos} (h : TB g n sc t vars cells fun q c => cond q (TSs g n sc a vars c Kn Kr Kc) (TSs g n sc b vars c Kn Kr Kc)) : TS g n sc (.If t a b p) vars cells Kn Kr Kc := by
  intro A env Z X R ρ bs m s Q rm en st fr S ax P
  refine zEg (arm_exec_If ..) ?_
  refine Qa (wpAny_standAt (Qa (h A env Z X R ρ bs m s _ rm en st fr S ax ?_)))
  intro q c1 Z1 ρ1 s1 h1 k1 p1 S1 ax1
  induction q with
  | true => exact h1 A env Z1 X R ρ1 bs m s1 Q rm en (st.mono k1) (fr.mono k1 p1) S1 ax1 (P.grow k1 p1)
  | false => exact h1 A env Z1 X R ρ1 bs m s1 Q rm en (st.mono k1) (fr.mono k1 p1) S1 ax1 (P.grow k1 p1)
theorem TSs_nil (h : Kn vars cells) : TSs g n sc [] vars cells Kn Kr Kc :=
  fun _ _ Z X _ ρ _ m s _ _ _ _ fr S ax P => wpAny_execs_nil (P.next _ _ Z X ρ m s h (zAa.Le.refl _) (Qp _) fr S ax)
theorem yB3 {t : Stmt} {r : List Stmt} (h : TS g n sc t vars cells (fun v c => TSs g n sc r v c Kn Kr Kc) Kr Kc) : TSs g n sc (t :: r) vars cells Kn Kr Kc := by
  intro A env Z X R ρ bs m s Q rm en st fr S ax P
  refine wpAny_execs_cons (h A env Z X R ρ bs m s _ rm en st fr S ax ⟨?_, ?_, ?_⟩)
  . intro v1 c1 Z1 X1 ρ1 m1 s1 h1 k1 p1 fr1 S1 ax1
    exact h1 A env Z1 X1 R ρ1 bs m1 s1 Q rm en (st.mono k1) fr1 S1 ax1 (P.grow k1 p1)
  . exact P.cont
  . exact P.ret
theorem zNo {x : Str} {e : Expr} {op : Operator} {p p' : Pos} {u : V} (hn : (x == ("__classdict__" : Str)) = false) (hl : zB7 x vars = some u) (hs : zA6 sc x = true)
    (h : TE g n sc e vars cells fun b c1 => Op g n (two (inplaceOp op)) [u, b] c1 fun r c2 => Kn (zEx x r vars) c2) : TS g n sc (.AugAssign (.Name x p) op e p') vars cells Kn Kr Kc := by
  intro A env Z X R ρ bs m s Q rm en st fr S ax P
  refine zEg (arm_exec_AugAssign ..) ?_
  refine Qa (wpAny_standAt (Qa (zQ1 (K' := fun a c => a = u /\ c = cells) hl ⟨rfl, rfl⟩ hn en fr S ax ?_)))
  rintro v u' c1 Z1 ρ1 s1 ⟨rfl, rfl⟩ k1 p1 S1 ax1 r1
  refine Qa (Qc (h A env Z1 X R ρ1 bs m s1 _ rm en (st.mono k1) (fr.mono k1 p1) S1 ax1 ?_))
  intro b ub c2 Z2 ρ2 s2 h2 k2 p2 S2 ax2 r2
  refine Qa (wpAny_standAt (Qa (wpAny_operating ?_)))
  refine h2 A Z2 X ρ2 s2 _ [v, b] rm ((st.mono k1).mono k2) S2 ax2 ⟨v, [b], rfl, r1.mono k2 p2, b, [], rfl, r2, rfl⟩ ?_
  intro w uw c3 Z3 ρ3 s3 h3 k3 p3 S3 ax3 r3
  refine Qa (wpAny_standAt (Qa (wpAny_bindName (zHv (K := Kn) hs h3 en (fr.mono (k1.trans (k2.trans k3)) (p1.trans (p2.trans p3))) S3 ax3 r3 ?_))))
  intro v1 c4 Z4 X4 ρ4 m4 s4 h4 k4 p4 fr4 S4 ax4
  exact Qb (P.next _ _ Z4 X4 ρ4 m4 s4 h4 (k1.trans (k2.trans (k3.trans k4))) (p1.trans (p2.trans (p3.trans p4))) fr4 S4 ax4)
end
end
section
noncomputable abbrev ltB (k : Nat) : Nat -> Bool := fun i => decide (i < k)
noncomputable def V.below (k : Nat) (v : V) : Bool := v.ok (ltB k)
noncomputable def C.below (k : Nat) (c : C) : Bool := c.ok (ltB k)
noncomputable def zIs (k : Nat) (vars : zAe) : List Str -> zAe
  | [] => []
  | x :: r => match zB7 x vars with
    | some u => cond (u.below k) ((x, u) :: zIs k vars r) (zIs k vars r)
    | none => zIs k vars r
noncomputable def zCj (k : Nat) : List C -> Bool
  | [] => true
  | c :: r => c.below k && zCj k r
section
variable {Z : zAa} {ρ ρ0 : List Addr} {k : Nat}
theorem zLp (p : ρ0 <+: ρ) {i : Nat} {a : Addr} (e : ρ[i]? = some a) (h : i < ρ0.length) : ρ0[i]? = some a := by
  obtain ⟨t, rfl⟩ := p
  rw [List.getElem?_append_left h] at e; exact e
theorem zM4 (p : ρ0 <+: ρ) {u : V} {v : Value} (b : u.below ρ0.length = true) (h : zAw Z ρ u v) : zAw Z ρ0 u v := h.same (zAa.Le.refl _) (fun _ _ q e => zLp p e (of_decide_eq_true q)) b
theorem zT1 (p : ρ0 <+: ρ) {c : C} {o : Obj} (b : c.below ρ0.length = true) (h : zIr Z ρ c o) : zIr Z ρ0 c o := h.same (zAa.Le.refl _) (fun _ _ q e => zLp p e (of_decide_eq_true q)) b
theorem zNc : ∀ {l : List C}, zCj k l = true -> ∀ c ∈ l, c.below k = true := by
  intro l
  induction l with
  | nil =>
    rintro _ _ h
    cases h
  | cons a l ih =>
    rintro h c m
    simp only [zCj, Bool.and_eq_true] at h
    rcases Qy.mp m with rfl | m
    . exact h.1
    . exact ih h.2 c m
theorem zSb {vars : zAe} {x : Str} {u : V} : ∀ {names : List Str}, zB7 x (zIs k vars names) = some u -> zB7 x vars = some u /\ u.below k = true := by
  intro names
  induction names with
  | nil =>
    rintro h
    cases h
  | cons y r ih =>
    rintro h
    unfold zIs at h
    split at h
    . rename_i w hw
      cases q : w.below k <;> rw [q] at h
      . exact ih h
      . simp only [cond_true] at h
        unfold zB7 at h
        split at h
        . rename_i e; cases h; subst e; exact ⟨hw, q⟩
        . exact ih h
    . exact ih h
theorem zCx.below {sc : Sc} {env : Env} {m : Str -> Option Value} {X : zAa} {x : Str} {u : V} (p : ρ0 <+: ρ) (b : u.below ρ0.length = true) (h : zCx sc env m X Z ρ x u) : zCx sc env m X Z ρ0 x u :=
  h.imp (fun _ e => e) (fun _ _ _ _ f => f) fun _ r => zM4 p b r
theorem zAh.trim {sc : Sc} {env : Env} {vars : zAe} {X R : zAa} {bs : List Addr} {m : Str -> Option Value} (F : zAh sc env vars Z X R ρ bs m) (p : ρ0 <+: ρ) (names : List Str) : zAh sc env (zIs ρ0.length vars names) Z X R ρ0 bs m :=
  ⟨F.keeps, F.loc, F.boxes, F.kinds, F.boxAt, F.nd, F.off, F.onlyOwn, fun x u e => let ⟨h, b⟩ := zSb e; (F.vars x u h).below p b⟩
theorem AtC.trim {cells : List C} {X : zAa} {h : Heap} (S : AtC cells Z X ρ h) (p : ρ0 <+: ρ) (b : zCj ρ0.length (cells.take ρ0.length) = true) : AtC (cells.take ρ0.length) Z X ρ0 h :=
  S.take p fun c m o r => zT1 p (zNc b c m) r
end
noncomputable def okT (e : Expr) : Bool := Nat.beq e.ctorIdx 23 || Nat.beq e.ctorIdx 25
def yPr (t : Expr) : Prop := ∀ P : Expr -> Prop, (∀ x p, P (.Name x p)) -> (∀ a b c, P (.Tuple a b c)) -> okT t = true -> P t
theorem zN3 {t : Expr} (h : okT t = true) : (∃ x p, t = .Name x p) ∨ ∃ a b c, t = .Tuple a b c := by
  have k : yPr t := by induction t using Expr.casesOn <;> first | exact fun _ _ _ h => (Qw h).elim | exact fun _ h _ _ => h _ _ | exact fun _ _ h _ => h _ _ _
  exact k (fun t => (∃ x p, t = .Name x p) ∨ ∃ a b c, t = .Tuple a b c) (fun x p => .inl ⟨x, p, rfl⟩) (fun a b c => .inr ⟨a, b, c, rfl⟩) h
theorem zJ1 {M : Model} {A : Around} {E : Value -> Shared -> Prop} {s : Shared} {Q : Unit -> Shared -> Prop} {t : Expr} {it v : Value} (ht : okT t = true) (hv : ∀ a, v ≠ .ref a) (h : Q () s) : wpAny M A (letOwnedTupleGo t it v) Q E s := by
  rcases zN3 ht with ⟨x, p, rfl⟩ | ⟨a, b, c, rfl⟩
  . exact Qb h
  . have e : letOwnedTupleGo (.Tuple a b c) it v = pure () := by cases it <;> first | rfl | (cases v <;> first | rfl | exact absurd rfl (hv _))
    rw [e]; exact Qb h
structure Itr (w : World) (it : Addr) (l : List D) (St : Nat -> Heap -> Prop) (Src : zAa -> List Addr -> List C -> Prop) : Prop where
  ex : ∀ i h, St i h -> ∃ o, h.get? it = some o
  frame : ∀ i h h', St i h -> (∀ o, h.get? it = some o -> h'.get? it = some o) -> St i h'
  item : ∀ i d A Z X ρ cells (s : Shared) (Q : Option Value -> Shared -> Prop), A.handled = none -> l[i]? = some d -> St i s.heap -> AtC cells Z X ρ s.heap -> Src Z ρ cells ->
    (∀ v h' tk, zA2 Z d v -> St (i + 1) h' -> (∀ b o, b ≠ it -> s.heap.get? b = some o -> h'.get? b = some o) -> Q (some v) { s with heap := h', toks := tk }) -> wpAny (model pw w) A (pyNext (.ref it)) Q Bot s
  self : ∀ i A (s : Shared) (Q : Value -> Shared -> Prop), A.handled = none -> St i s.heap -> Q (.ref it) s -> wpAny (model pw w) A (pyIter (.ref it)) Q Bot s
  own : ∀ i d v Z A (s : Shared) (t : Expr) (Q : Unit -> Shared -> Prop), l[i]? = some d -> zA2 Z d v -> St (i + 1) s.heap -> okT t = true -> Q () s -> wpAny (model pw w) A (letOwnedTupleGo t (.ref it) v) Q Bot s
  done : ∀ A Z X ρ cells (s : Shared) (Q : Option Value -> Shared -> Prop), A.handled = none -> St l.length s.heap -> AtC cells Z X ρ s.heap -> Src Z ρ cells ->
    (∀ h' tk, (∀ b o, b ≠ it -> s.heap.get? b = some o -> h'.get? b = some o) -> Q none { s with heap := h', toks := tk }) -> wpAny (model pw w) A (pyNext (.ref it)) Q Bot s
theorem Itr.list {w : World} {it a : Addr} {u : V} {l : List D} : Itr w it l (fun i h => h.IsListIter it a i) (fun Z ρ cells => zAw Z ρ u (.ref a) /\ zBj u cells = some l) where
  ex := fun i h st => let ⟨o, ho, _⟩ := st; ⟨o, ho⟩
  frame := fun i h h' st k => let ⟨o, ho, r⟩ := st; ⟨o, k o ho, r⟩
  item := fun i d A Z X ρ cells s Q hh hd st S src hQ => by
    obtain ⟨a', vs, m, e, ho, r⟩ := zAu src.2 S src.1
    cases e
    obtain ⟨v, hv, rv⟩ := r.get i hd
    exact wpAny_pyNext_list_item st (zB3 ho) (x := v) (by simpa using hv) fun h' st' sb => hQ v h' s.toks rv st' (fun b o hb e => (sb.2 b hb).trans e)
  self := fun i A s Q _ st h => wpAny_pyIter_listiter st h
  own := fun i d v Z A s t Q hd rd st ht h => by
    by_cases q : ∃ b, v = .ref b
    . obtain ⟨b, rfl⟩ := q
      rcases zN3 ht with ⟨_, _, rfl⟩ | ⟨_, _, _, rfl⟩
      . exact Qb h
      . exact wpAny_letOwnedTupleGo_listiter st h
    . exact zJ1 ht (fun b e => q ⟨b, e⟩) h
  done := fun A Z X ρ cells s Q hh st S src hQ => by
    obtain ⟨a', vs, m, e, ho, r⟩ := zAu src.2 S src.1
    cases e
    exact wpAny_pyNext_list_end hh st (zB3 ho) (by simp [r.length]) fun h' k => hQ h' s.toks fun b o hb e => k b o hb e
noncomputable def zB0 (x : Str) : List D := x.cps.toList.map fun c => .str ⟨#[c]⟩
noncomputable def zIb (a b : Int) : List D := (List.range (b - a).toNat).map fun (k : Nat) => .int (a + (k : Int))
theorem Itr.walks {w : World} {it : Addr} {l : List D} {n : Nat} {P : Nat -> Value -> Prop} {St : Nat -> Heap -> Prop} (W : ∀ A' : Around, A'.handled = none -> Walks pw w A' it [it] [it] n P St) (hn : l.length = n)
    (hP : ∀ (i : Nat) (d : D) (v : Value) (Z : zAa), l[i]? = some d -> P i v -> zA2 Z d v) (hnr : ∀ (i : Nat) (d : D) (v : Value) (Z : zAa) (a : Addr), l[i]? = some d -> zA2 Z d v -> v ≠ .ref a) (hex : ∀ i h, St i h -> ∃ o, h.get? it = some o) : Itr w it l St (fun _ _ _ => True) where
  ex := hex
  frame := fun i h h' st k => (W { } rfl).frame i h h' st fun b hb o e => by rw [Qr] at hb; subst hb; exact k o e
  item := fun i d A Z X ρ cells s Q hh hd st S src hQ => by
    have hlt : i < n := by rw [← hn]; exact (Ql.mp hd).1
    exact (W A hh).item i s Q Bot hlt st fun v h' tk p st' k => hQ v h' tk (hP i d v Z hd p) st' (fun b o hb e => k b o (by simpa using hb) e)
  self := fun i A s Q hh st h => (W A hh).self i s Q Bot st h
  own := fun i d v Z A s t Q hd rd st ht h => zJ1 ht (fun a => hnr i d v Z a hd rd) h
  done := fun A Z X ρ cells s Q hh st S src hQ => (W A hh).done s Q Bot (hn ▸ st) fun h' tk k => hQ h' tk fun b o hb e => k b o (by simpa using hb) e
noncomputable def zGr (u : V) (cells : List C) : Option (List D) := match u with
  | .d (.str x) => some (zB0 x)
  | .rng a b => some (zIb a b)
  | u => zBj u cells
def zGk (u : V) (l : List D) (cells : List C) : Prop := match u with
  | .loc i => cells[i]? = some (.lst l)
  | _ => True
end
section
def zWx : V -> Prop
  | .rng a b => Builtin.Range.small a b 1 = true
  | _ => True
theorem zGt (a b : Int) : Builtin.Range.rangeSize a b 1 = ((b - a).toNat : Int) := by
  unfold Builtin.Range.rangeSize
  rw [if_pos (by decide)]
  split <;> simp <;> omega
section
variable {g : G} {n : Nat} {sc : Sc} {vars : zAe} {cells : List C}
theorem zNy {u : V} {l : List D} (h : zGr u cells = some l) (h1 : ∀ x, u ≠ .d (.str x)) (h2 : ∀ a b, u ≠ .rng a b) : zBj u cells = some l := by
  unfold zGr at h
  split at h
  . exact absurd rfl (h1 _)
  . exact absurd rfl (h2 _ _)
  . exact h
theorem zY2 {u : V} {l : List D} {cells' : List C} (h : zBj u cells = some l) (k : zGk u l cells') : zBj u cells' = some l := by
  unfold zBj at h
  split at h
  . cases h; rfl
  . rename_i i
    split at h
    . cases h
      have : cells'[i]? = some (.lst _) := k
      simp only [zBj, this]
    . cases h
  . cases h
theorem zRb {u : V} {l : List D} (hi : zGr u cells = some l) (hr : zWx u) {A : Around} {Z X : zAa} {ρ : List Addr} {s : Shared} {v : Value} {Q : Value -> Shared -> Prop} (S : AtC cells Z X ρ s.heap) (ax : Aux g.os s) (r : zAw Z ρ u v)
    (hh : A.handled = none)
    (P : ∀ it St Src s', Itr g.w it l St Src -> St 0 s'.heap -> zA1 cells Z X ρ it -> AtC cells Z X ρ s'.heap -> Aux g.os s' -> (∀ Z' ρ' cells', Z.Le Z' -> ρ <+: ρ' -> zGk u l cells' -> Src Z' ρ' cells') -> Src Z ρ cells -> s.heap.get? it = none -> Q (.ref it) s') :
    wpAny g.M A (pyIter v) Q Bot s := by
  have un := S.fresh (Qo s.heap.objs.size)
  have hnew : s.heap.get? s.heap.objs.size = none := by
    induction e : s.heap.get? s.heap.objs.size with
    | none => rfl
    | some o => exact absurd (Heap.lt_size e) (Nat.lt_irrefl _)
  by_cases h1 : ∃ x, u = .d (.str x)
  . obtain ⟨x, rfl⟩ := h1
    obtain ⟨t, rfl⟩ := zBo r
    cases hi
    have hP : ∀ (i : Nat) (d : D) (v : Value) (Z : zAa), (zB0 x)[i]? = some d -> SignAt x i v -> zA2 Z d v := by
      rintro i d v Z hd ⟨c, t', hc, rfl⟩
      unfold zB0 at hd
      rw [List.getElem?_map] at hd
      have : x.cps.toList[i]? = some c := by simpa using hc
      rw [this] at hd; cases hd
      exact ⟨_, rfl⟩
    have hN : ∀ (i : Nat) (d : D) (v : Value) (Z : zAa) (a : Addr), (zB0 x)[i]? = some d -> zA2 Z d v -> v ≠ .ref a := by
      rintro i d v Z a hd rd rfl
      unfold zB0 at hd
      rw [List.getElem?_map] at hd
      cases e : x.cps.toList[i]? <;> rw [e] at hd <;> cases hd
      simp [zA2] at rd
    cases ha : x.cps.all (· < 128)
    . refine wpAny_pyIter_wide ha ?_
      exact P _ _ _ _ (Itr.walks (n := x.cps.size) (fun A' hA => Walks.strWide hA _ x t) (by simp [zB0]) hP hN fun i h st => let ⟨o, ho, _⟩ := st; ⟨o, ho⟩) ⟨_, Heap.get?_push_size _ rfl, rfl, rfl⟩ un (S.push _) ax (fun _ _ _ _ _ _ => trivial) trivial hnew
    . refine wpAny_pyIter_ascii ha ?_
      exact P _ _ _ _ (Itr.walks (n := x.cps.size) (fun A' hA => Walks.strAscii hA _ x t) (by simp [zB0]) hP hN fun i h st => let ⟨o, ho, _⟩ := st; ⟨o, ho⟩) ⟨_, Heap.get?_push_size _ rfl, rfl, rfl⟩ un (S.push _) ax (fun _ _ _ _ _ _ => trivial) trivial hnew
  by_cases h2 : ∃ a b, u = .rng a b
  . obtain ⟨a, b, rfl⟩ := h2
    obtain ⟨q, t1, t2, t3, rfl, z⟩ := r
    cases hi
    refine wpAny_pyIter_range (S.z _ _ z) hr ?_
    refine P _ _ _ _ (Itr.walks (n := (b - a).toNat) (fun A' hA => Walks.range hA _ a 1 (b - a).toNat) (by simp [zIb]) ?_ ?_ fun i h st => ⟨_, st⟩) ?_ un (S.push _) ax (fun _ _ _ _ _ _ => trivial) trivial hnew
    . rintro i d v Z hd ⟨t, rfl⟩
      unfold zIb at hd
      rw [List.getElem?_map] at hd
      induction e : (List.range (b - a).toNat)[i]? with
      | none => rw [e] at hd; cases hd
      | some j =>
        rw [e] at hd; cases hd
        rw [List.getElem?_range (by simpa using (Ql.mp e).1)] at e; cases e
        simp only [zA2]
        exact ⟨t, by simp⟩
    . rintro i d v Z q hd rd rfl
      unfold zIb at hd
      rw [List.getElem?_map] at hd
      cases e : (List.range (b - a).toNat)[i]? <;> rw [e] at hd <;> cases hd
      simp [zA2] at rd
    . show IsRangeIter _ _ _ _ _
      rw [IsRangeIter, Heap.get?_push_size _ rfl, zGt]
      simp [rawInt]
  have hs := zNy hi (fun x e => h1 ⟨x, e⟩) (fun a b e => h2 ⟨a, b, e⟩)
  obtain ⟨a, vs, m, rfl, ho, rl⟩ := zAu hs S r
  refine wpAny_pyIter_list (zB3 ho) ?_
  exact P _ _ _ _ (Itr.list (u := u)) ⟨_, Heap.get?_push_size _ rfl, rfl, rfl⟩ un (S.push _) ax (fun Z' ρ' cells' k p kp => ⟨r.mono k p, zY2 hs kp⟩) ⟨r, hs⟩ hnew
variable {Kn : zAe -> List C -> Prop} {Kr : V -> List C -> Prop} {Kc : zAe -> List C -> Prop}
def zAo (k : Nat) (names : List Str) (keep : List C -> Prop) (K : zAe -> List C -> Prop) (vars : zAe) (cells : List C) : Prop :=
  zCj k (cells.take k) = true /\ keep (cells.take k) /\ K (zIs k vars names) (cells.take k)
def zMy (g : G) (n : Nat) (sc : Sc) (target : Expr) (body : List Stmt) (names : List Str) (k : Nat) (keep : List C -> Prop) (Kn : zAe -> List C -> Prop) (Kr : V -> List C -> Prop) : List D -> zAe -> List C -> Prop
  | [], vars, cells => Kn vars cells
  | d :: r, vars, cells => TA g n sc target (.d d) vars cells fun v c => TSs g n sc body v c (zAo k names keep (zMy g n sc target body names k keep Kn Kr r)) Kr (zAo k names keep (zMy g n sc target body names k keep Kn Kr r))
noncomputable def zAa.putO (X : zAa) (a : Addr) : Option Obj -> zAa
  | some o => X.put a o
  | none => X
theorem AtC.keepIt {Z X : zAa} {ρ : List Addr} {h : Heap} {it : Addr} (S : AtC cells Z X ρ h) (u : zA1 cells Z X ρ it) : AtC cells Z (X.putO it (h.get? it)) ρ h := by
  induction e : h.get? it with
  | none => exact S
  | some o =>
    refine S.withX (fun b q f => ?_) (fun b q f => ?_) (fun i b c f1 f2 f3 => ?_)
    . by_cases z : b = it
      . subst z; simp only [zAa.putO, zAa.put_self] at f; cases f; exact e
      . simp only [zAa.putO, zAa.put_ne _ _ z] at f; exact S.x _ _ f
    . by_cases z : b = it
      . subst z; exact u.z
      . simp only [zAa.putO, zAa.put_ne _ _ z] at f; exact S.xz _ _ f
    . by_cases z : b = it
      . subst z; exact (u.r i c f1 f2 f3).elim
      . simp only [zAa.putO, zAa.put_ne _ _ z]; exact S.xr i b c f1 f2 f3
noncomputable def zAa.drop (X : zAa) (a : Addr) : zAa := fun b => if b = a then none else X b
theorem zAa.drop_ne {X : zAa} {a b : Addr} (h : b ≠ a) : X.drop a b = X b := by simp [zAa.drop, h]
theorem zAa.drop_self {X : zAa} {a : Addr} : X.drop a a = none := by simp [zAa.drop]
theorem zAa.drop_le {X : zAa} {a b : Addr} {o : Obj} (h : X.drop a b = some o) : X b = some o := by
  by_cases q : b = a
  . subst q; rw [zAa.drop_self] at h; cases h
  . rw [zAa.drop_ne q] at h; exact h
theorem AtC.dropIt {Z X : zAa} {ρ : List Addr} {h : Heap} {it : Addr} {o : Obj} (S : AtC cells Z X ρ h) (e : X it = some o) : AtC cells Z (X.drop it) ρ h /\ zA1 cells Z (X.drop it) ρ it :=
  ⟨S.withX (fun b q f => S.x _ _ (zAa.drop_le f)) (fun b q f => S.xz _ _ (zAa.drop_le f)) (fun i b c f1 f2 f3 => by
      induction q : X.drop it b with
      | none => rfl
      | some w => have := S.xr i b c f1 f2 f3; rw [zAa.drop_le q] at this; cases this),
   ⟨S.xz _ _ e, zAa.drop_self, fun i c f1 f2 f3 => by have := S.xr i it c f1 f2 f3; rw [e] at this; cases this⟩⟩
theorem zZz {α : Type} {x : Str} {u : α} : ∀ {l : List (Str × α)}, zB7 x l = some u -> x ∈ l.map (·.1) := by
  intro l
  induction l with
  | nil =>
    rintro h
    cases h
  | cons hd0 r ih =>
    obtain ⟨y, w⟩ := hd0
    rintro h
    unfold zB7 at h
    split at h
    . rename_i e; subst e; simp
    . exact List.mem_cons_of_mem _ (ih h)
theorem zRh {α : Type} {x : Str} : ∀ {l : List (Str × α)}, x ∈ l.map (·.1) -> ∃ u, zB7 x l = some u := by
  intro l
  induction l with
  | nil =>
    rintro h
    cases h
  | cons hd0 r ih =>
    obtain ⟨y, w⟩ := hd0
    rintro h
    unfold zB7
    by_cases e : x = y
    . exact ⟨w, by rw [if_pos e]⟩
    . rw [if_neg e]
      simp only [List.map_cons, Qy] at h
      rcases h with h | h
      . exact absurd h e
      . exact ih h
theorem zGm {k : Nat} {vars : zAe} {x : Str} : ∀ {names : List Str}, x ∈ (zIs k vars names).map (·.1) -> x ∈ names := by
  intro names
  induction names with
  | nil =>
    rintro h
    cases h
  | cons y r ih =>
    rintro h
    unfold zIs at h
    split at h
    . cases q : V.below k _ <;> rw [q] at h
      . exact List.mem_cons_of_mem _ (ih h)
      . simp only [cond_true, List.map_cons, Qy] at h
        rcases h with h | h
        . rw [h]; exact .head _
        . exact List.mem_cons_of_mem _ (ih h)
    . exact List.mem_cons_of_mem _ (ih h)
noncomputable def zN1 (sc : Sc) (env : Env) (x : Str) : Option Addr := match sc.scope.names.lookup x with
  | some .cell | some .free => env.cells.lookup x
  | _ => none
theorem zXd {env : Env} {x : Str} {a : Option Addr} (k : yN1 (sc.scope.names.lookup x)) (e : zN1 sc env x = a) : env.cells.lookup x = a := by
  unfold zN1 at e; rcases k with k | k <;> rw [k] at e <;> exact e
theorem zWv {env : Env} {x : Str} {a : Addr} {p : Prop} (k : sc.scope.names.lookup x = some .local) (e : zN1 sc env x = some a) : p := by
  unfold zN1 at e; rw [k] at e; exact nomatch e
theorem zAh.dropIt {env : Env} {Z X R R' : zAa} {ρ bs : List Addr} {m : Str -> Option Value} {it : Addr} (F : zAh sc env vars Z X R' ρ bs m) (rl : R.Le R') (hR : R it = none) (hL : it ∉ env.locals :: bs)
    (hb : ∀ x ∈ vars.map (·.1), zN1 sc env x ≠ some it) : zAh sc env vars Z (X.drop it) R ρ bs m := by
  refine ⟨fun a o e => ?_, ?_, F.boxes, F.kinds, fun b m => ?_, F.nd, fun b m => ?_, F.onlyOwn, fun x u e => ?_⟩
  . rw [zAa.drop_ne (by rintro rfl; rw [hR] at e; cases e)]; exact F.keeps a o (rl _ _ e)
  . obtain ⟨o, ho, di⟩ := F.loc
    exact ⟨o, by rw [zAa.drop_ne (by rintro e; exact hL (e ▸ .head _))]; exact ho, di⟩
  . obtain ⟨o, w, ho, hd⟩ := F.boxAt b m
    exact ⟨o, w, by rw [zAa.drop_ne (by rintro rfl; exact hL (.tail _ m))]; exact ho, hd⟩
  . induction q : R b with
    | none => rfl
    | some o => have := F.off b m; rw [rl _ _ q] at this; cases this
  . have h := F.vars x u e
    have hb' := hb x (zZz e)
    exact h.imp (fun _ e => e) (fun c o k e1 e2 => by rw [zAa.drop_ne (by rintro rfl; exact hb' ((zXd k rfl).symm.trans e1))]; exact e2) fun _ r => r
end
end
section
section
variable {g : G} {n : Nat} {sc : Sc} {vars : zAe} {cells : List C} {Kn : zAe -> List C -> Prop} {Kr : V -> List C -> Prop} {Kc : zAe -> List C -> Prop}
def zWp (g : G) (n : Nat) (sc : Sc) (test : Expr) (body : List Stmt) (names : List Str) (k : Nat) (Kn : zAe -> List C -> Prop) (Kr : V -> List C -> Prop) : Nat -> zAe -> List C -> Prop
  | 0, _, _ => False
  | f + 1, vars, cells => TB g n sc test vars cells fun q c => cond q
      (TSs g n sc body vars c (zAo k names (fun _ => True) (zWp g n sc test body names k Kn Kr f)) Kr (zAo k names (fun _ => True) (zWp g n sc test body names k Kn Kr f))) (Kn vars c)
abbrev yBl (os : OsState) (sc : Sc) (env : Env) (Z1 R : zAa) (ρ1 bs : List Addr) (L : Nat -> zAe -> List C -> Prop) (q : Nat) (s' : Shared) : Prop :=
  E5 fun vs cs Z3 X3 m3 => A5 (L q vs cs) (Z1.Le Z3) (zAh sc env vs Z3 X3 R ρ1 bs m3) (AtC cs Z3 X3 ρ1 s'.heap) (Aux os s')
abbrev yPo (I : Nat -> Shared -> Prop) (Q : Flow -> Shared -> Prop) (n : Nat) : Flow -> Shared -> Prop := fun f s₃ => match f with
  | .next | .cont => ∃ m, m < n /\ I m s₃
  | .brk => Q .next s₃
  | .ret v => Q (.ret v) s₃
theorem zX2 {L : Nat -> zAe -> List C -> Prop} {q k : Nat} {names : List Str} {env : Env} {R Z1 Z5 : zAa} {ρ1 ρ5 bs : List Addr} {Q : Flow -> Shared -> Prop} (zKb : ρ1.length = k) (P : zPg g sc env R bs Kn Kr Kc Z1 ρ1 Q) (k5 : Z1.Le Z5) (p5 : ρ1 <+: ρ5) :
    zPg g sc env R bs (zAo k names (fun _ => True) (L q)) Kr (zAo k names (fun _ => True) (L q)) Z5 ρ5 (yPo (yBl g.os sc env Z1 R ρ1 bs L) Q (q + 1)) := by
  subst zKb
  have next : ∀ vars' cells' Z' X' ρ' m' (s' : Shared), zAo ρ1.length names (fun _ => True) (L q) vars' cells' -> Z5.Le Z' -> ρ5 <+: ρ' -> zAh sc env vars' Z' X' R ρ' bs m' -> AtC cells' Z' X' ρ' s'.heap -> Aux g.os s' ->
      ∃ m, m < q + 1 /\ yBl g.os sc env Z1 R ρ1 bs L m s' :=
    fun _ _ Z8 X8 _ m8 _ ⟨nb, _, nL⟩ k8 p8 fr8 S8 ax8 => ⟨q, Nat.lt_succ_self _, _, _, Z8, X8, m8, nL, k5.trans k8, fr8.trim (p5.trans p8) names, S8.trim (p5.trans p8) nb, ax8⟩
  exact ⟨next, next, fun w v' c8 Z8 X8 ρ8 s8 h8 k8 p8 Rx S8 ax8 r8 => P.ret w v' c8 Z8 X8 ρ8 s8 h8 (k5.trans k8) (p5.trans p8) Rx S8 ax8 r8⟩
theorem zR3 {test : Expr} {body : List Stmt} {p : Pos} (f : Nat) (h : zWp g n sc test body (vars.map (·.1)) cells.length Kn Kr f vars cells) : TS g n sc (.While test body [] p) vars cells Kn Kr Kc := by
  intro A env Z X R ρ bs m s Q rm en st fr S ax P
  refine wpAny_While ?_
  refine codeAny_whileLoop (yBl g.os sc env Z R ρ bs (zWp g n sc test body (vars.map (·.1)) cells.length Kn Kr)) ?_ f ⟨vars, cells, Z, X, m, h, zAa.Le.refl _, fr, S, ax⟩
  have zKb : ρ.length = cells.length := S.len
  clear fr S ax
  rintro q s4 ⟨vs, cs, Z4, X4, m4, hL, k4, fr4, S4, ax4⟩
  induction q with
  | zero => exact hL.elim
  | succ q =>
    refine zAs (hL A env Z4 X4 R ρ bs m4 s4 _ rm en (st.mono k4) fr4 S4 ax4 ?_) fun _ _ x => x
    intro b c5 Z5 ρ5 s5 h5 k5 p5 S5 ax5
    induction b with
    | false => rw [if_neg Qw]; exact zAs (wpAny_execs_nil (P.next _ _ Z5 X4 ρ5 m4 _ h5 (k4.trans k5) p5 (fr4.mono k5 p5) S5 ax5)) fun _ _ x => x
    | true => rw [if_pos rfl]; exact zAs (h5 A env Z5 X4 R ρ5 bs m4 s5 _ rm en ((st.mono k4).mono k5) (fr4.mono k5 p5) S5 ax5 (zX2 zKb P (k4.trans k5) p5)) fun _ _ x => x
end
end
section
def zAb (g : G) (n : Nat) (fv : V) (args : List V) (kws : List (Str × V)) (cells : List C) (K' : V -> List C -> Prop) : Prop :=
  ∀ A Z X ρ s Q f vs ws, zDr n A -> zEq g.K Z -> AtC cells Z X ρ s.heap -> Aux g.os s -> zAw Z ρ fv f -> zBl Z ρ args vs -> zBl Z ρ (kws.map (·.2)) ws -> zEf g K' Z X ρ Q -> wpAny g.M A (call f vs ((kws.map (·.1)).zip ws)) Q Bot s
def zEj (g : G) (fv : V) : Prop := ∀ Z ρ h f, zEq g.K Z -> Z.In h -> zAw Z ρ fv f -> ∃ k, (k = Keeper.frame ∨ k = Keeper.machine ∨ k = Keeper.boundFrame) /\ Looks g.M h (keeperOf f) k
section
variable {g : G} {n : Nat} {sc : Sc} {vars : zAe} {cells : List C} {K' : V -> List C -> Prop}
noncomputable def zWq (k : Nat) : Bool := match zAl[k]? with
  | some (.ref _) => true
  | _ => false
noncomputable def zMb : V -> Bool
  | .stat k => zI6.contains k || !zWq k
  | .meth .. => true
  | .rd _ => true
  | _ => false
theorem zRg {fv : V} (h : zMb fv = true) (hm : ∀ f cl i, fv = .meth f cl i -> fnIn g.K f = true) : zEj g fv := by
  intro Z ρ hp f st z r
  induction fv using V.casesOn with
  | stat k =>
    simp only [zMb, Bool.or_eq_true] at h
    rcases h with h | h
    . exact keeps_K (g.keep k (by simpa using h) f r) hp (st.kin z)
    . refine ⟨.machine, .inr (.inl rfl), ?_⟩
      have r : zAl[k]? = some f := r
      have : ∀ a, f ≠ .ref a := by
        rintro a rfl
        simp [zWq, r] at h
      unfold keeperOf
      cases f <;> first | exact absurd rfl (this _) | exact Looks.now
  | meth f' cl i =>
    obtain ⟨q, a, d, rfl, zq, _, _⟩ := r
    exact keeps_M (hm _ _ _ rfl) hp ⟨z _ _ zq, st.kin z⟩
  | rd i =>
    obtain ⟨a, b, l, fd, ob, rfl, za, _⟩ := r
    exact ⟨.frame, .inl rfl, (Looks.ld (part := none) (z _ _ za)).andThen .now⟩
  | _ => cases h
noncomputable def zCp (kws : List Keyword) : List Str := kws.filterMap (·.arg)
noncomputable def zVr (kws : List Keyword) : Bool := kws.all (·.arg.isSome)
theorem zI0 {pos : Pos} {env : Env} : ∀ {kws : List Keyword}, (backToKw pos (keywordEach kws env)).filterMap (·.1) = zCp kws
  | [] => rfl
  | ⟨none, v, p⟩ :: r => by
    show (backToKw pos (keywordEach r env)).filterMap (·.1) = _
    rw [zI0]; rfl
  | ⟨some x, v, p⟩ :: r => by
    show x :: (backToKw pos (keywordEach r env)).filterMap (·.1) = _
    rw [zI0]; rfl
theorem zNt {pos : Pos} {env : Env} : ∀ {kws : List Keyword}, zVr kws = true -> (backToKw pos (keywordEach kws env)).all (·.1.isSome) = true
  | [], _ => rfl
  | ⟨none, v, p⟩ :: r, h => by simp [zVr] at h
  | ⟨some x, v, p⟩ :: r, h => by
    show (true && (backToKw pos (keywordEach r env)).all (·.1.isSome)) = true
    rw [zNt (kws := r) (by simpa [zVr] using h)]; rfl
theorem zMi {pos : Pos} : ∀ {kws : List Keyword} {cells : List C} {K' : List V -> List C -> Prop}, TEs g n sc vars (kws.map (·.value)) cells K' ->
    ∀ A env Z X R ρ bs m s Q, zDr n A -> zB9 sc env -> zEq g.K Z -> zAh sc env vars Z X R ρ bs m -> AtC cells Z X ρ s.heap -> Aux g.os s -> yIb g K' Z X ρ Q -> wpAny g.M A (evalAll ((backToKw pos (keywordEach kws env)).map (·.2))) Q Bot s
  | [], cells, K', h, A, env, Z, X, R, ρ, bs, m, s, Q, rm, en, st, fr, S, ax, P => by
    show wpAny g.M A (pure []) Q Bot s
    exact Qb (P [] [] cells Z ρ s h (zAa.Le.refl _) (Qp _) S ax rfl)
  | ⟨x, e, p⟩ :: r, cells, K', h, A, env, Z, X, R, ρ, bs, m, s, Q, rm, en, st, fr, S, ax, P => by
    show wpAny g.M A (do
      let v ← (do let v ← eval e env; standAt pos; pure v)
      return v :: (← holding [v] (evalAll ((backToKw pos (keywordEach r env)).map (·.2))))) Q Bot s
    refine Qa (Qa (h A env Z X R ρ bs m s _ rm en st fr S ax ?_))
    intro v u c1 Z1 ρ1 s1 h1 k1 p1 S1 ax1 r1
    refine Qa (wpAny_standAt (Qb (Qa (Qc (zMi h1 A env Z1 X R ρ1 bs m s1 _ rm en (st.mono k1) (fr.mono k1 p1) S1 ax1 ?_)))))
    intro vs us c2 Z2 ρ2 s2 h2 k2 p2 S2 ax2 r2
    exact Qb (P (v :: vs) (u :: us) c2 Z2 ρ2 s2 h2 (k1.trans k2) (p1.trans p2) S2 ax2 ⟨v, vs, rfl, r1.mono k2 p2, r2⟩)
theorem zK2 {f : Value} {pos : Pos} {args : List Expr} {kws : List Keyword} {K' : List V -> List V -> List C -> Prop} (hp : args.all zB2 = true) (hk : zVr kws = true)
    (h : TEs g n sc vars args cells fun us c => TEs g n sc vars (kws.map (·.value)) c fun ws c' => K' us ws c') {A env Z X R ρ bs m s} {Q : Args -> Shared -> Prop} (rm : zDr n A) (en : zB9 sc env) (st : zEq g.K Z) (fr : zAh sc env vars Z X R ρ bs m)
    (S : AtC cells Z X ρ s.heap) (ax : Aux g.os s)
    (P : ∀ us ws vs vws cells' Z' ρ' s', K' us ws cells' -> Z.Le Z' -> ρ <+: ρ' -> AtC cells' Z' X ρ' s'.heap -> Aux g.os s' -> zBl Z' ρ' us vs -> zBl Z' ρ' ws vws -> Q ⟨vs, (zCp kws).zip vws⟩ s') :
    wpAny g.M A (evalArgs f true (backTo pos (starEach args env)) (backToKw pos (keywordEach kws env))) Q Bot s := by
  have main : ∀ {l : List Expr}, l = args -> wpAny g.M A (spliced (backTo pos (starEach l env))) (fun vs s₁ => wpAny g.M A (evalAll ((backToKw pos (keywordEach kws env)).map (·.2)))
      (fun ks s₂ => Q ⟨vs, ((backToKw pos (keywordEach kws env)).filterMap (·.1)).zip ks⟩ s₂) Bot s₁) Bot s := by
    rintro l rfl
    refine zC2 h hp A env Z X R ρ bs m s _ rm en st fr S ax ?_
    intro vs us c1 Z1 ρ1 s1 h1 k1 p1 S1 ax1 r1
    refine zMi h1 A env Z1 X R ρ1 bs m s1 _ rm en (st.mono k1) (fr.mono k1 p1) S1 ax1 ?_
    intro ws vws c2 Z2 ρ2 s2 h2 k2 p2 S2 ax2 r2
    rw [zI0]
    exact P us vws vs ws c2 Z2 ρ2 s2 h2 (k1.trans k2) (p1.trans p2) S2 ax2 (r1.mono k2 p2) r2
  induction args using List.casesOn with
  | nil =>
    refine evalArgs_kw2_nil (zNt hk) (zMi (K' := fun ws c => K' [] ws c) h A env Z X R ρ bs m s _ rm en st fr S ax ?_)
    intro ws vws c2 Z2 ρ2 s2 h2 k2 p2 S2 ax2 r2
    rw [zI0]
    exact P [] vws [] ws c2 Z2 ρ2 s2 h2 k2 p2 S2 ax2 rfl r2
  | cons e r =>
    rw [List.all_cons, Bool.and_eq_true] at hp
    exact evalArgs_kw2 (zNt hk) (main rfl) (zBw r env hp.1)
theorem yGs (kws : List Keyword) (ws : List V) (h : ws.length = kws.length) (hk : zVr kws = true) : ((zCp kws).zip ws).map (·.1) = zCp kws /\ ((zCp kws).zip ws).map (·.2) = ws := by
  have hl : (zCp kws).length = kws.length := by
    clear h
    induction kws with
    | nil => rfl
    | cons k r ih =>
      simp only [zVr, List.all_cons, Bool.and_eq_true] at hk
      obtain ⟨x, hx⟩ := Option.isSome_iff_exists.mp hk.1
      simp only [zCp, List.filterMap_cons, hx, Qh]
      have := ih hk.2
      simp only [zCp] at this
      rw [this]
  constructor
  . rw [List.map_fst_zip]; rw [hl, h]; exact Qo _
  . rw [List.map_snd_zip]; rw [hl, h]; exact Qo _
theorem zRe : ∀ {es : List Expr} {cells : List C} {K' K'' : List V -> List C -> Prop}, TEs g n sc vars es cells K' -> (∀ us c, K' us c -> K'' us c) -> TEs g n sc vars es cells K'' := by
  intro es
  induction es with
  | nil =>
    rintro _ _ _ h k
    exact k _ _ h
  | cons e r ih =>
    rintro _ _ _ h k
    exact TE.mono h fun u c h' => ih h' fun us c q => k _ _ q
theorem yEi : ∀ {es : List Expr} {cells : List C} {K' : List V -> List C -> Prop}, TEs g n sc vars es cells K' -> TEs g n sc vars es cells fun us c => us.length = es.length /\ K' us c := by
  intro es
  induction es with
  | nil =>
    rintro _ _ h
    exact ⟨rfl, h⟩
  | cons e r ih =>
    rintro _ _ h
    exact TE.mono h fun u c h' => zRe (ih h') fun us c ⟨a, b⟩ => ⟨by simp [a], b⟩
theorem zBl.append {Z : zAa} {ρ : List Addr} : ∀ {l : List V} {vs : List Value} {l' : List V} {vs' : List Value}, zBl Z ρ l vs -> zBl Z ρ l' vs' -> zBl Z ρ (l ++ l') (vs ++ vs')
  | [], _, _, _, h, h' => by simp only [zBl] at h; subst h; exact h'
  | _ :: _, _, _, _, ⟨v, r, e, x, y⟩, h' => by subst e; exact ⟨v, _, rfl, x, y.append h'⟩
theorem zKq {f : Value} {first : List Value} {firstV : List V} {pos : Pos} {fv : V} {args : List Expr} {kws : List Keyword} (hp : args.all zB2 = true) (hk : zVr kws = true) (ho : zEj g fv)
    (h : TEs g n sc vars args cells fun us c => TEs g n sc vars (kws.map (·.value)) c fun ws c' => zAb g n fv (firstV ++ us) ((zCp kws).zip ws) c' K') {A env Z X R ρ bs m s} {Q : Value -> Shared -> Prop} (rm : zDr n A) (en : zB9 sc env) (st : zEq g.K Z)
    (fr : zAh sc env vars Z X R ρ bs m) (S : AtC cells Z X ρ s.heap) (ax : Aux g.os s) (rf : zAw Z ρ fv f) (r1 : zBl Z ρ firstV first) (P : zEf g K' Z X ρ Q) :
    wpAny g.M A (callWith pos f first (backTo pos (starEach args env)) (backToKw pos (keywordEach kws env))) Q Bot s := by
  have hplain : ((backTo pos (starEach args env)).any (·.1) || (backToKw pos (keywordEach kws env)).any (·.1.isNone)) = false := by
    rw [Bool.or_eq_false_iff]
    constructor
    . clear h
      induction args with
      | nil => rfl
      | cons e r ih =>
        rw [List.all_cons, Bool.and_eq_true] at hp
        rw [zBw r env hp.1]
        show (false || (backTo pos (starEach r env)).any (·.1)) = false
        rw [ih hp.2]; rfl
    . have := zNt (pos := pos) (env := env) hk
      rw [List.any_eq_false]
      intro x hx
      have := Qf.mp this x hx
      cases hq : x.1 <;> simp_all
  have h' : TEs g n sc vars args cells fun us c => TEs g n sc vars (kws.map (·.value)) c fun ws c' => ws.length = kws.length /\ zAb g n fv (firstV ++ us) ((zCp kws).zip ws) c' K' := by
    refine zRe h fun us c h => ?_
    have := yEi h
    rwa [Qg] at this
  refine callWith_of (P := fun hp => ∃ Z' ρ', zEq g.K Z' /\ Z'.In hp /\ zAw Z' ρ' fv f) hplain (fun hp ⟨Z', ρ', a, b, c⟩ => ho Z' ρ' hp f a b c) ?_
  refine zK2 hp hk h' rm en st fr S ax ?_
  rintro us ws vs vws c2 Z2 ρ2 s2 ⟨hl, h2⟩ k2 p2 S2 ax2 ru rw'
  refine ⟨⟨Z2, ρ2, st.mono k2, S2.z, rf.mono k2 p2⟩, ?_⟩
  obtain ⟨e1, e2⟩ := yGs kws ws hl hk
  have := h2 A Z2 X ρ2 s2 Q f (first ++ vs) vws rm (st.mono k2) S2 ax2 (rf.mono k2 p2) ((r1.mono k2 p2).append ru) (by rw [e2]; exact rw') (P.grow k2 p2)
  rw [e1] at this
  exact this
theorem yDb {x : Str} {p p' : Pos} {args : List Expr} {kws : List Keyword} (hp : args.all zB2 = true) (hk : zVr kws = true)
    (h : TE g n sc (.Name x p) vars cells fun fv c => zEj g fv /\ TEs g n sc vars args c fun us c1 => TEs g n sc vars (kws.map (·.value)) c1 fun ws c2 => zAb g n fv us ((zCp kws).zip ws) c2 K') :
    TE g n sc (.Call (.Name x p) args kws p') vars cells K' := by
  intro A env Z X R ρ bs m s Q rm en st fr S ax P
  refine wpAny_Call_Name_kw (h A env Z X R ρ bs m s _ rm en st fr S ax ?_)
  rintro f fv c1 Z1 ρ1 s1 ⟨ho, h1⟩ k1 p1 S1 ax1 r1
  exact zKq (firstV := []) hp hk ho h1 rm en (st.mono k1) (fr.mono k1 p1) S1 ax1 r1 rfl (P.grow k1 p1)
noncomputable def zD1 : Expr -> Bool
  | .Call (.Name ..) [] [] _ => false
  | _ => true
def yC6 (o : Expr) : Prop := zD1 o = true -> ∀ attr env w, attributeBase o attr env w = w
theorem zMt : true = true -> ∀ (attr : Str) (env : Env) (w : Sem Value), w = w := fun _ _ _ _ => rfl
def yGl (f : Expr) : Prop := ∀ args kws p, yC6 (.Call f args kws p)
theorem yEg : ∀ (args : List Expr) (kws : List Keyword) (p : Pos), true = true -> ∀ (attr : Str) (env : Env) (w : Sem Value), w = w := fun _ _ _ _ _ _ _ => rfl
theorem zTd (a : Str) (q : Pos) : yGl (.Name a q) := by
  intro args kws p
  induction args using List.casesOn with
  | nil => induction kws using List.casesOn with
    | nil => exact fun h => (Qw h).elim
    | cons => exact zMt
  | cons => exact zMt
theorem zVw : ∀ f, yGl f := by intro f; induction f using Expr.casesOn <;> first | exact yEg | exact zTd _ _
theorem zT6 : ∀ o, yC6 o := by intro o; induction o using Expr.casesOn <;> first | exact zMt | exact zVw _ _ _ _
theorem zCc {o : Expr} {attr : Str} {env : Env} {w : Sem Value} (h : zD1 o = true) : attributeBase o attr env w = w := zT6 o h attr env w
def zCl (g : G) (u : V) (name : Str) (cells : List C) (KM : V -> List V -> Prop) : Prop :=
  ∀ A Z X ρ s ov (pl : Sem Bool) (Q : Value × List Value -> Shared -> Prop), zEq g.K Z -> AtC cells Z X ρ s.heap -> Aux g.os s -> zAw Z ρ u ov ->
    (∀ fv firstV f first t, KM fv firstV -> zAw Z ρ fv f -> zBl Z ρ firstV first -> Q (f, first) { s with toks := t }) -> wpAny g.M A (getMethod ov name pl) Q Bot s
theorem zX1 {o : Expr} {name : Str} {apos pos : Pos} {args : List Expr} {kws : List Keyword} (hs : zD1 o = true) (hp : args.all zB2 = true) (hk : zVr kws = true)
    (hfew : decide (args.length + kws.length + (if kws.isEmpty then 0 else 1) < 30) = true) (hline : (apos.endLine == pos.line) = true)
    (h : TE g n sc o vars cells fun u c => zCl g u name c fun fv firstV => zEj g fv /\ TEs g n sc vars args c fun us c1 => TEs g n sc vars (kws.map (·.value)) c1 fun ws c2 => zAb g n fv (firstV ++ us) ((zCp kws).zip ws) c2 K') :
    TE g n sc (.Call (.Attribute o name apos) args kws pos) vars cells K' := by
  intro A env Z X R ρ bs m s Q rm en st fr S ax P
  refine zEg (arm_eval_Call ..) ?_
  rw [zCc hs]
  refine Qa (h A env Z X R ρ bs m s _ rm en st fr S ax ?_)
  intro ov u c1 Z1 ρ1 s1 h1 k1 p1 S1 ax1 r1
  refine Qa (wpAny_standAt ?_)
  have few : methodCallForm (args.length + kws.length) (backTo pos (starEach args env)) (backToKw pos (keywordEach kws env)) = true := by
    unfold methodCallForm
    have a1 : (backTo pos (starEach args env)).all (!·.1) = true := by
      clear h1 h
      clear hfew
      induction args with
      | nil => rfl
      | cons e r ih =>
        rw [List.all_cons, Bool.and_eq_true] at hp
        rw [zBw r env hp.1]
        show (true && (backTo pos (starEach r env)).all (!·.1)) = true
        rw [ih hp.2]; rfl
    have a2 : (backToKw pos (keywordEach kws env)).isEmpty = kws.isEmpty := by rcases kws with _ | ⟨⟨a, b, c⟩, r⟩ <;> rfl
    rw [a1, zNt hk, a2]
    simpa using hfew
  unfold methodCall
  rw [few]
  refine Qa (Qc ?_)
  show wpAny _ _ (getMethod ov name _) _ _ _
  refine h1 A Z1 X ρ1 s1 ov _ _ (st.mono k1) S1 ax1 r1 ?_
  rintro fv firstV f first t ⟨ho, h2⟩ rf r2
  unfold methodCallPos
  rw [hline]
  refine Qa (Qb ?_)
  exact zKq (s := { s1 with toks := t }) hp hk ho h2 rm en (st.mono k1) (fr.mono k1 p1) S1 ax1 rf r2 (P.grow k1 p1)
end
end
section
noncomputable def zDd (names : List (Str × NameKind)) : List Str := (names.filter fun p => p.2 == .cell).map (·.1)
theorem zHe : ∀ (names : List (Str × NameKind)) (k : Nat) (acc : List (Str × Addr)), cellsFrom k names acc = cellsFrom k names [] ++ acc := by
  intro names
  induction names with
  | nil =>
    rintro _ _
    exact rfl
  | cons hd0 r ih =>
    obtain ⟨x, kd⟩ := hd0
    rintro k acc
    unfold cellsFrom
    split
    . rw [ih (k + 1) ((x, k) :: acc), ih (k + 1) [(x, k)]]; simp
    . exact ih k acc
theorem zF6 : ∀ (names : List (Str × NameKind)) (k : Nat), (cellsFrom k names []).map (·.1) = (zDd names).reverse := by
  intro names
  induction names with
  | nil =>
    rintro _
    exact rfl
  | cons hd0 r ih =>
    obtain ⟨x, kd⟩ := hd0
    rintro k
    unfold cellsFrom zDd
    cases q : kd == NameKind.cell
    . simp only [Bool.false_eq_true, if_false, Qz, q]
      exact ih k
    . simp only [if_true, Qz, q, List.map_cons, List.reverse_cons]
      rw [zHe, Qt, ih (k + 1)]
      rfl
theorem zL4 {α : Type} {x : Str} : ∀ {l l' : List (Str × α)}, x ∈ l.map (·.1) -> (l ++ l').lookup x = l.lookup x := by
  intro l
  induction l with
  | nil =>
    rintro _ h
    cases h
  | cons hd0 r ih =>
    obtain ⟨y, a⟩ := hd0
    rintro l' h
    rw [List.cons_append, List.lookup_cons, List.lookup_cons]
    cases q : x == y
    . simp only [List.map_cons, Qy] at h
      rcases h with h | h
      . subst h; simp at q
      . exact ih h
    . rfl
theorem zGd {α : Type} {x : Str} : ∀ {l l' : List (Str × α)}, x ∉ l.map (·.1) -> (l ++ l').lookup x = l'.lookup x := by
  intro l
  induction l with
  | nil =>
    rintro _ _
    exact rfl
  | cons hd0 r ih =>
    obtain ⟨y, a⟩ := hd0
    rintro l' h
    simp only [List.map_cons, Qy, not_or] at h
    rw [List.cons_append, List.lookup_cons]
    have : (x == y) = false := by simpa using h.1
    rw [this]; exact ih h.2
theorem zMm {α : Type} {x : Str} : ∀ {l : List (Str × α)}, x ∈ l.map (·.1) -> ∃ a, l.lookup x = some a := by
  intro l
  induction l with
  | nil =>
    rintro h
    cases h
  | cons hd0 r ih =>
    obtain ⟨y, a⟩ := hd0
    rintro h
    rw [List.lookup_cons]
    cases q : x == y
    . simp only [List.map_cons, Qy] at h
      rcases h with h | h
      . subst h; simp at q
      . exact ih h
    . exact ⟨a, rfl⟩
section
variable {g : G} {n : Nat} {sc : Sc} {vars : zAe} {cells : List C}
theorem zJf {Z X : zAa} {ρ : List Addr} {h : Heap} (S : AtC cells Z X ρ h) (o : Obj) (ho : o.data = .dict #[]) (names : List (Str × NameKind)) (closure : List (Str × Addr)) (env : Env)
    (hl : env.locals = h.objs.size) (hc : env.cells = cellsFrom (h.objs.size + 1) names closure) (nd : (zDd names).Nodup) (hclo : ∀ x c, closure.lookup x = some c -> c < h.objs.size)
    (hkey : ∀ x ∈ zDd names, sc.scope.names.lookup x = some .cell) (hown : sc.own = zDd names)
    (hv : ∀ x u, zB7 x vars = some u -> x ∉ zDd names /\ (∃ k, sc.scope.names.lookup x = some k /\ (k = .cell ∨ k = .free)) /\ ∃ c o v, closure.lookup x = some c /\ X c = some o /\ o.data = .cell (some v) /\ zAw Z ρ u v) :
    ∃ X' bs m, zAh sc env vars Z X' X ρ bs m /\ AtC cells Z X' ρ (pushCells (h.push o) names) /\ (∀ a, a < h.objs.size -> X' a = X a) /\ ∀ b ∈ bs, h.objs.size < b := by
  have ok := cellsFrom_ok names (h.push o) (h.objs.size + 1) [] ⟨fun _ _ hm => (nomatch hm), List.Pairwise.nil⟩ (by rw [Heap.size_push]; exact Qo _)
  rw [Heap.size_push] at ok
  have keep : ∀ b q, h.get? b = some q -> (pushCells (h.push o) names).get? b = some q := fun b q e => pushCells_keeps _ _ b q (Heap.get?_push_of_some _ e)
  have hL : (pushCells (h.push o) names).get? h.objs.size = some o := pushCells_keeps _ _ _ _ (Heap.get?_push_size h (by obtain ⟨_, _, dd, _⟩ := o; simp only at ho; subst ho; rfl))
  have keys : ∀ x, x ∈ zDd names -> x ∈ (cellsFrom (h.objs.size + 1) names []).map (·.1) := fun x hx => by rw [zF6]; simpa using hx
  have nokeys : ∀ x, x ∉ zDd names -> x ∉ (cellsFrom (h.objs.size + 1) names []).map (·.1) := fun x hx => by rw [zF6]; simpa using hx
  let bs : List Addr := (zDd names).map fun x => ((cellsFrom (h.objs.size + 1) names []).lookup x).getD 0
  have ec : env.cells = cellsFrom (h.objs.size + 1) names [] ++ closure := by rw [hc, zHe]
  have at1 : ∀ x ∈ zDd names, ∃ c, env.cells.lookup x = some c /\ (cellsFrom (h.objs.size + 1) names []).lookup x = some c := by
    intro x hx
    obtain ⟨c, e⟩ := zMm (keys x hx)
    exact ⟨c, by rw [ec, zL4 (keys x hx)]; exact e, e⟩
  have boxes : (zDd names).map (fun x => env.cells.lookup x) = bs.map some := by
    show _ = ((zDd names).map _).map some
    rw [List.map_map]
    refine List.map_congr_left fun x hx => ?_
    obtain ⟨c, e1, e2⟩ := at1 x hx
    simp only [Function.comp, e1, e2, Option.getD_some]
  have bmem : ∀ b ∈ bs, ∃ x ∈ zDd names, (x, b) ∈ cellsFrom (h.objs.size + 1) names [] := by
    intro b hb
    obtain ⟨x, hx, rfl⟩ := Qq.mp hb
    obtain ⟨c, _, e2⟩ := at1 x hx
    exact ⟨x, hx, by rw [e2]; exact mem_of_lookup e2⟩
  have bge : ∀ b ∈ bs, h.objs.size + 1 <= b := fun b hb => let ⟨x, _, hm⟩ := bmem b hb; (ok.empty x b hm).2
  have bnd : bs.Nodup := by
    show ((zDd names).map _).Nodup
    rw [List.nodup_iff_pairwise_ne] at nd ⊢
    rw [List.pairwise_map]
    refine List.Pairwise.imp_of_mem (fun {x y} hx hy hne e => ?_) nd
    obtain ⟨c, _, e2⟩ := at1 x hx
    obtain ⟨d, _, e4⟩ := at1 y hy
    rw [e2, e4] at e
    simp only [Option.getD_some] at e
    subst e
    exact hne (name_of_addr ok.apart (mem_of_lookup e2) (mem_of_lookup e4))
  have fresh : ∀ a, a ∈ h.objs.size :: bs -> zA1 cells Z X ρ a := by
    intro a ha
    rcases Qy.mp ha with e | ha
    . rw [e]; exact S.fresh (Qo _)
    . exact S.fresh (Nat.le_of_succ_le (bge a ha))
  let X' : zAa := fun a => if a ∈ h.objs.size :: bs then (pushCells (h.push o) names).get? a else X a
  have X'in : ∀ a, a ∈ h.objs.size :: bs -> X' a = (pushCells (h.push o) names).get? a := fun a ha => by show (if _ then _ else _) = _; rw [if_pos ha]
  have X'out : ∀ a, a ∉ h.objs.size :: bs -> X' a = X a := fun a ha => by show (if _ then _ else _) = _; rw [if_neg ha]
  have S1 : AtC cells Z X ρ (pushCells (h.push o) names) := S.ext keep
  have le : X.Le X' := by
    intro a q e
    by_cases ha : a ∈ h.objs.size :: bs
    . have := (fresh a ha).x; rw [e] at this; cases this
    . rw [X'out a ha]; exact e
  refine ⟨X', bs, fun _ => none, ⟨le, ⟨o, by rw [hl, X'in _ (.head _)]; exact hL, #[], 0, ho, ?_, ?_⟩, by rw [hown]; exact boxes, by rw [hown]; exact hkey, fun b hb => ?_, ?_, ?_, ?_, ?_⟩, S1.withX ?_ ?_ ?_, fun a ha => X'out a fun hm => ?_, bge⟩
  . intro e he; simp at he
  . intro name; rfl
  . obtain ⟨x, _, hm⟩ := bmem b hb
    obtain ⟨q, hq, hd⟩ := (ok.empty x b hm).1
    exact ⟨q, none, by rw [X'in b (.tail _ hb)]; exact hq, hd⟩
  . rw [hl]; exact List.nodup_cons.mpr ⟨fun hb => absurd (bge _ hb) (by omega), bnd⟩
  . rw [hl]; exact fun a ha => (fresh a ha).x
  . intro x c hx e
    rw [hown] at hx
    rw [ec, zGd (nokeys x hx)] at e
    have lt : c < h.objs.size := hclo x c e
    rw [hl]
    intro hm
    rcases Qy.mp hm with e' | hm
    . rw [e'] at lt; exact Nat.lt_irrefl _ lt
    . have := bge _ hm; exact absurd lt (Nat.not_lt.mpr (Nat.le_of_succ_le this))
  . intro x u e
    obtain ⟨hx, ⟨k, hk, hk'⟩, c, q, v, e1, e2, e3, r⟩ := hv x u e
    have e4 : env.cells.lookup x = some c := by rw [ec, zGd (nokeys x hx)]; exact e1
    exact .ofBox (hk ▸ hk'.imp (congrArg some) (congrArg some)) e4 (le _ _ e2) e3 r
  . intro a q e
    by_cases ha : a ∈ h.objs.size :: bs
    . rw [X'in a ha] at e; exact e
    . rw [X'out a ha] at e; exact keep _ _ (S.x _ _ e)
  . intro a q e
    by_cases ha : a ∈ h.objs.size :: bs
    . exact (fresh a ha).z
    . rw [X'out a ha] at e; exact S.xz _ _ e
  . intro i a c e1 e2 e3
    by_cases ha : a ∈ h.objs.size :: bs
    . exact ((fresh a ha).r i c e1 e2 e3).elim
    . rw [X'out a ha]; exact S.xr i a c e1 e2 e3
  . rcases Qy.mp hm with e | hm
    . rw [e] at ha; exact Nat.lt_irrefl _ ha
    . exact absurd ha (Nat.not_lt.mpr (Nat.le_of_succ_le (bge a hm)))
end
end
section
section
variable {g : G} {n : Nat} {sc : Sc} {vars : zAe} {cells : List C}
noncomputable def zE4 : List (Str × V) -> zAe -> zAe
  | [], vars => vars
  | (x, u) :: r, vars => zE4 r (zEx x u vars)
theorem zRp {env : Env} {R : zAa} {bs : List Addr} {A : Around} (en : zB9 sc env) (f : Str × Value -> PUnit -> Sem (ForInStep PUnit)) (hf : ∀ n v u, f (n, v) u = (do storeName env n v; pure (.yield ⟨⟩))) :
    ∀ (bvs : List (Str × V)) (binds : List (Str × Value)) (vars : zAe) (Z X : zAa) (ρ : List Addr) (m : Str -> Option Value) (s : Shared) (Q : PUnit -> Shared -> Prop), bvs.all (fun p => zA6 sc p.1) = true -> binds.map (·.1) = bvs.map (·.1) ->
      zAh sc env vars Z X R ρ bs m -> AtC cells Z X ρ s.heap -> Aux g.os s -> zBl Z ρ (bvs.map (·.2)) (binds.map (·.2)) ->
      (∀ X' m' s', zAh sc env (zE4 bvs vars) Z X' R ρ bs m' -> AtC cells Z X' ρ s'.heap -> Aux g.os s' -> Q ⟨⟩ s') -> wpAny g.M A (forIn binds ⟨⟩ f) Q Bot s := by
  intro bvs
  induction bvs with
  | nil =>
    intro binds vars Z X ρ m s Q _ hn fr S ax r P
    induction binds using List.casesOn with
    | nil => rw [List.forIn_nil]; exact Qb (P X m s fr S ax)
    | cons b r => simp at hn
  | cons p bvs ih =>
    intro binds vars Z X ρ m s Q hs hn fr S ax r P
    obtain ⟨x, u⟩ := p
    induction binds using List.casesOn with
    | nil => simp at hn
    | cons b binds =>
      obtain ⟨y, v⟩ := b
      simp only [List.map_cons, List.cons.injEq] at hn
      obtain ⟨rfl, hn⟩ := hn
      obtain ⟨v', r', e, rv, rr⟩ := r
      cases e
      rw [List.all_cons, Bool.and_eq_true] at hs
      rw [List.forIn_cons, hf]
      have hk : env.scope.kind = .function := by rw [en.scope]; exact en.kind
      have go : ∀ X' m' s', zAh sc env (zEx y u vars) Z X' R ρ bs m' -> AtC cells Z X' ρ s'.heap -> Aux g.os s' -> wpAny g.M A (forIn binds ⟨⟩ f) Q Bot s' :=
        fun X' m' s' fr' S' ax' => ih binds _ Z X' ρ m' s' Q hs.2 hn fr' S' ax' rr P
      refine Qa (Qa ?_)
      have hst := hs.1
      unfold zA6 at hst
      rw [Bool.or_eq_true] at hst
      by_cases hl : sc.scope.names.lookup y = some .local
      . obtain ⟨o, ho, di⟩ := fr.loc
        refine wpAny_storeName_local (by rw [zB6 en]; exact hl) (zJm.mpr ⟨o, S.x _ _ ho, di⟩) (fun h' hn sb => ?_) (by rw [hk]; rfl)
        obtain ⟨o', ho', di'⟩ := zJm.mp hn
        exact Qb (go _ _ _ (fr.setLocal hl di' rv) (S.store ho (fun b q hb e => (sb.2 b hb).trans e) ho') ax)
      . have hx : y ∈ sc.own := by
          rcases hst with q | q
          . exact absurd (by simpa using q) hl
          . simpa using q
        obtain ⟨c, hc, ec⟩ := zGg fr.boxes hx
        obtain ⟨o, w, ho, hd⟩ := fr.boxAt c hc
        refine wpAny_storeName_cell hk (by rw [zB6 en]; exact fr.kinds y hx) ec ⟨o, S.x _ _ ho, hd⟩ (fun h' ic sb => ?_)
        obtain ⟨o', ho', hd'⟩ := ic
        exact Qb (go _ _ _ (fr.setBox hx ec hd' rv) (S.store ho (fun b q hb e => (sb.2 b hb).trans e) ho') ax)
noncomputable def zHi (s : Scope) : Sc := ⟨s, zDd s.names⟩
noncomputable def zOr (s : Scope) : Bool := (s.kind == .function) && (zDd s.names).all (fun x => s.names.lookup x == some .cell) && decide (zDd s.names).Nodup && !s.isCoroutine && !s.isGenerator
theorem zK9 {scope : Scope} {qual : Str} {func : Option Addr} {code : Value} {binds : List (Str × Value)} {bvs : List (Str × V)} {A : Around} {Z X : zAa} {ρ : List Addr} {s : Shared} {Q : Env -> Shared -> Prop} (hsc : zOr scope = true)
    (hs : bvs.all (fun p => zA6 (zHi scope) p.1) = true) (hn : binds.map (·.1) = bvs.map (·.1)) (S : AtC cells Z X ρ s.heap) (ax : Aux g.os s) (r : zBl Z ρ (bvs.map (·.2)) (binds.map (·.2)))
    (P : ∀ env bs m X' s', zB9 (zHi scope) env -> zAh (zHi scope) env (zE4 bvs []) Z X' X ρ bs m -> AtC cells Z X' ρ s'.heap -> Aux g.os s' -> Q env s') :
    wpAny g.M A (newFunctionEnv scope mainGlobals [] binds qual func code none builtinsNs) Q Bot s := by
  unfold zOr at hsc
  simp only [Bool.and_eq_true, decide_eq_true_eq, beq_iff_eq] at hsc
  obtain ⟨⟨⟨⟨hk, hcell⟩, nd⟩, _⟩, _⟩ := hsc
  simp only [newFunctionEnv, Option.isSome_none, Bool.false_eq_true, if_false]
  refine Qa (wpAny_alloc ?_)
  refine Qa (wpAny_layCells _ (fun name kind cells => by cases hkc : kind == NameKind.cell <;> simp [hkc]) _ _ _ _ ?_)
  rw [show ({ s with heap := s.heap.push { cls := .type "frame", data := .dict #[] } } : Shared).heap.objs.size = s.heap.objs.size + 1 from Heap.size_push ..]
  obtain ⟨X1, bs, m, fr, S1, -, -⟩ := zJf (sc := zHi scope) (vars := []) S { cls := .type "frame", data := .dict #[] } rfl scope.names []
    (newEnv scope s.heap.objs.size mainGlobals (cellsFrom (s.heap.objs.size + 1) scope.names []) qual func code none builtinsNs) rfl rfl nd (fun _ _ h => by cases h)
    (fun x hx => by have := Qf.mp hcell x hx; show scope.names.lookup x = _; simpa using this) rfl (fun _ _ h => by cases h)
  refine Qa (zRp (sc := zHi scope) (env := newEnv scope s.heap.objs.size mainGlobals (cellsFrom (s.heap.objs.size + 1) scope.names []) qual func code none builtinsNs) ⟨rfl, hk, rfl, rfl⟩
    _ (fun _ _ _ => rfl) bvs binds [] Z X1 ρ m _ _ hs hn fr S1 ax r ?_)
  intro X' m' s' fr' S' ax'
  exact Qb (P _ bs m' X' s' ⟨rfl, hk, rfl, rfl⟩ fr' S' ax')
def zE5 (g : G) (fd : FuncData) (args : List V) (kws : List (Str × V)) (cells : List C) (KB : List (Str × V) -> List C -> Prop) : Prop :=
  ∀ A Z X ρ s vals ws (Q : List (Str × Value) -> Shared -> Prop), zEq g.K Z -> AtC cells Z X ρ s.heap -> Aux g.os s -> zBl Z ρ args vals -> zBl Z ρ (kws.map (·.2)) ws ->
    (∀ binds bvs cells' Z' ρ' s', KB bvs cells' -> Z.Le Z' -> ρ <+: ρ' -> AtC cells' Z' X ρ' s'.heap -> Aux g.os s' -> binds.map (·.1) = bvs.map (·.1) -> zBl Z' ρ' (bvs.map (·.2)) (binds.map (·.2)) -> Q binds s') ->
    wpAny g.M A (bindArgs fd ⟨vals, (kws.map (·.1)).zip ws⟩) Q Bot s
theorem zI8 {a : Addr} {t : Nat} {st : Stmt} {dv : List Value} {fd : FuncData} {args : List V} {kws : List (Str × V)} {K' : V -> List C -> Prop} (F : yIh g.K a st dv fd) (ht : zAl[t]? = some (.ref a)) (hsc : zOr (zAn st) = true)
    (h : zE5 g fd args kws cells fun bvs c => bvs.all (fun p => zA6 (zHi (zAn st)) p.1) = true /\ TSs g n (zHi (zAn st)) (zA5 st) (zE4 bvs []) c (fun _ c' => K' (.d .none) c') K' (fun _ _ => False)) :
    zAb g (n + 1) (.stat t) args kws cells K' := by
  intro A Z X ρ s Q f vs ws rm stt S ax rf r1 r2 P
  have hf : f = .ref a := by have : zAl[t]? = some f := rf; rw [ht] at this; cases this; rfl
  subst hf
  obtain ⟨o, hK, hd⟩ := F.at_
  have hsc' := hsc
  unfold zOr at hsc'
  simp only [Bool.and_eq_true, Bool.not_eq_true'] at hsc'
  have X0 := stt.kin S.z
  refine wpAny_call (codeAny_call_function rm.depth (X0 _ _ hK) hd (by rw [F.scope]; exact hsc'.1.2) (by rw [F.scope]; exact hsc'.2) F.body (codeRec_of X0 F.code) ?_)
  refine zAs (h A.in1 Z X ρ s vs ws (fun binds s₁ => wpAny g.M A.in1 (newFunctionEnv fd.scope fd.globals fd.closure binds (fd.qualname ++ ".<locals>.") (some a) fd.code none fd.builtins)
        (fun env s₂ => s₂.heap.NoLimit /\ codeAny g.M A (.func (zA5 st) env) (fun r s' => match r with | .ok (.ret v) => Q v s' | .ok _ => False | .error e => Bot e s') s₂) Bot s₁) stt S ax r1 r2 ?_) fun binds s₁ h₁ => zAs h₁ fun _ _ x => x
  rintro binds bvs c1 Z1 ρ1 s1 ⟨hst, hb⟩ k1 p1 S1 ax1 hn rb
  rw [F.scope, F.globals, F.closure, F.builtins]
  refine zK9 hsc hst hn S1 ax1 rb ?_
  intro env bs m X2 s2 en fr S2 ax2
  refine ⟨g.nolim _ ((stt.mono k1).kin S2.z), codeAny_func ?_⟩
  refine zAs (hb (A.deeper env) env Z1 X2 X ρ1 bs m s2 (fun f s' => Q (match f with | .ret v => v | _ => .none) s') (rm.deeper env) en (stt.mono k1) fr S2 ax2 ⟨?_, ?_, ?_⟩) fun f s' x => x
  . intro v3 c3 Z3 X3 ρ3 m3 s3 h3 k3 p3 fr3 S3 ax3
    refine P _ _ c3 Z3 ρ3 s3 h3 (k1.trans k3) (p1.trans p3) (S3.withX ?_ ?_ ?_) ax3 (by simp [zAw, zA2])
    . exact fun a o e => S3.x _ _ (fr3.keeps a o e)
    . exact fun a o e => S3.xz _ _ (fr3.keeps a o e)
    . intro i a c e1 e2 e3
      induction q : X a with
      | none => rfl
      | some w => have := S3.xr i a c e1 e2 e3; rw [fr3.keeps _ _ q] at this; cases this
  . intro v3 c3 Z3 X3 ρ3 m3 s3 h3; exact h3.elim
  . intro u v c3 Z3 X3 ρ3 s3 h3 k3 p3 Rx S3 ax3 r3
    refine P _ _ c3 Z3 ρ3 s3 h3 (k1.trans k3) (p1.trans p3) (S3.withX ?_ ?_ ?_) ax3 r3
    . exact fun a o e => S3.x _ _ (Rx a o e)
    . exact fun a o e => S3.xz _ _ (Rx a o e)
    . intro i a c e1 e2 e3
      induction q : X a with
      | none => rfl
      | some w => have := S3.xr i a c e1 e2 e3; rw [Rx _ _ q] at this; cases this
end
end
section
noncomputable def zF2 (names : List (Str × NameKind)) : List Str := (names.filter fun p => p.2 == .free).map (·.1)
noncomputable def zFn (env : Env) (names : List (Str × NameKind)) : List (Str × Addr) := ((zF2 names).map fun n => (n, (env.cells.lookup n).getD 0)).reverse
theorem zMx {env : Env} : ∀ (names : List (Str × NameKind)) (acc : List (Str × Addr)), (∀ x ∈ zF2 names, (env.cells.lookup x).isSome = true) ->
    (forIn names acc fun x cs => match x with | (name, kind) => if kind == NameKind.free then (do let c ← cellOf env name; pure (ForInStep.yield ((name, c) :: cs))) else pure (ForInStep.yield cs)) = (pure (zFn env names ++ acc) : Sem (List (Str × Addr))) := by
  intro names
  induction names with
  | nil =>
    rintro acc _
    rw [List.forIn_nil]; rfl
  | cons hd0 r ih =>
    obtain ⟨n, k⟩ := hd0
    rintro acc h
    rw [List.forIn_cons]
    induction q : k == NameKind.free with
    | true =>
      have hf : zF2 ((n, k) :: r) = n :: zF2 r := by simp [zF2, Qz, q]
      rw [hf] at h
      obtain ⟨c, hc⟩ := Option.isSome_iff_exists.mp (h n (.head _))
      have e1 : cellOf env n = pure c := by unfold cellOf; rw [hc]
      simp only [q, if_true, e1]
      have := ih ((n, c) :: acc) (fun x m => h x (.tail _ m))
      show (forIn r ((n, c) :: acc) _ : Sem _) = _
      rw [this]
      unfold zFn; rw [hf]; simp [hc]
    | false =>
      have hf : zF2 ((n, k) :: r) = zF2 r := by simp [zF2, Qz, q]
      rw [hf] at h
      simp only [q, Bool.false_eq_true, if_false]
      have := ih acc h
      show (forIn r acc _ : Sem _) = _
      rw [this]
      unfold zFn; rw [hf]
theorem zMq {scope : Scope} {env : Env} (h : ∀ x ∈ zF2 scope.names, (env.cells.lookup x).isSome = true) : closureFor scope env = pure (zFn env scope.names) := by
  unfold closureFor
  have := zMx scope.names [] h
  rw [List.append_nil] at this
  show ((forIn scope.names ([] : List (Str × Addr)) _ : Sem (List (Str × Addr))) >>= fun cs => pure cs) = _
  rw [this]; rfl
theorem zL6 {f : Str -> Addr} {x : Str} : ∀ {l : List Str}, x ∈ l -> (l.map fun n => (n, f n)).lookup x = some (f x) := by
  intro l
  induction l with
  | nil =>
    rintro h
    cases h
  | cons y r ih =>
    rintro h
    rw [List.map_cons, List.lookup_cons]
    by_cases q : x = y
    . subst q; simp
    . have : (x == y) = false := by simpa using q
      rw [this]
      rcases Qy.mp h with e | h
      . exact absurd e q
      . exact ih h
theorem zDv {f : Str -> Addr} {x : Str} {c : Addr} : ∀ {l : List Str}, (l.map fun n => (n, f n)).lookup x = some c -> x ∈ l /\ c = f x
  | [], h => by cases h
  | y :: r, h => by
    rw [List.map_cons, List.lookup_cons] at h
    by_cases q : x = y
    . subst q; simp at h; exact ⟨.head _, h.symm⟩
    . have : (x == y) = false := by simpa using q
      rw [this] at h
      have := zDv h
      exact ⟨.tail _ this.1, this.2⟩
theorem yFf {env : Env} {names : List (Str × NameKind)} {x : Str} {c : Addr} (hx : x ∈ zF2 names) (hc : env.cells.lookup x = some c) : (zFn env names).lookup x = some c := by
  unfold zFn
  rw [← List.map_reverse, zL6 (List.mem_reverse.mpr hx), hc]; rfl
theorem zVe {env : Env} {names : List (Str × NameKind)} {x : Str} {c : Addr} (h : (zFn env names).lookup x = some c) : x ∈ zF2 names /\ c = (env.cells.lookup x).getD 0 := by
  unfold zFn at h
  rw [← List.map_reverse] at h
  have := zDv h
  exact ⟨List.mem_reverse.mp this.1, this.2⟩
noncomputable def zV1 (sc : Sc) (cs : Scope) : Scope := { cs with names := cs.names.map fun (n, k) => if (k == .free && sc.scope.names.lookup n == some .cell) then (n, .cell) else (n, k) }
noncomputable def sci (sc : Sc) (cs : Scope) : Sc := ⟨zV1 sc cs, zDd cs.names⟩
theorem zSv {sc : Sc} {env : Env} (en : zB9 sc env) (cs : Scope) : relabel cs env = zV1 sc cs := by
  have hk : (env.scope.kind == ScopeKind.function) = true := by rw [en.scope, en.kind]; rfl
  unfold relabel zV1
  simp only [hk, Bool.and_true, zB6 en]
noncomputable def yDy (vars : zAe) : List Str -> zAe
  | [] => []
  | x :: r => match zB7 x vars with
    | some u => (x, u) :: yDy vars r
    | none => yDy vars r
theorem zUo {vars : zAe} {x : Str} {u : V} : ∀ {l : List Str}, zB7 x (yDy vars l) = some u -> zB7 x vars = some u /\ x ∈ l := by
  intro l
  induction l with
  | nil =>
    rintro h
    cases h
  | cons y r ih =>
    rintro h
    unfold yDy at h
    split at h
    . rename_i w hw
      unfold zB7 at h
      split at h
      . rename_i e; cases h; subst e; exact ⟨hw, .head _⟩
      . have := ih h; exact ⟨this.1, .tail _ this.2⟩
    . have := ih h; exact ⟨this.1, .tail _ this.2⟩
noncomputable def zMc (k : Option NameKind) : Bool := k == some .cell || k == some .free
noncomputable def zQx (sc : Sc) (cs : Scope) (vars : zAe) : Bool :=
  (cs.kind == .function) && decide (zDd cs.names).Nodup && (zDd cs.names).all (fun x => (sci sc cs).scope.names.lookup x == some .cell) &&
  (zF2 cs.names).all (fun x => zMc (sc.scope.names.lookup x) && (zB7 x vars).isSome && zMc ((sci sc cs).scope.names.lookup x) && !(zDd cs.names).contains x) &&
  cs.names.all (fun p => !(p.2 == .local) || cs.names.lookup p.1 == some .local)
section
variable {g : G} {n : Nat} {sc : Sc} {vars : zAe} {cells : List C} {K' : V -> List C -> Prop}
def zXb (g : G) (n : Nat) (sc : Sc) (vars : zAe) : List Expr -> List C -> (Bool -> List C -> Prop) -> Prop
  | [], cells, K => K true cells
  | e :: r, cells, K => TB g n sc e vars cells fun q c => cond q (zXb g n sc vars r c K) (K false c)
def zN4 (g : G) (n : Nat) (sc : Sc) (target : Expr) (ifs : List Expr) (elt : Expr) (names : List Str) (k : Nat) (keep : List C -> Prop) (Kend : List D -> List C -> Prop) : List D -> List D -> zAe -> List C -> Prop
  | [], acc, vars, cells => Kend acc cells
  | d :: r, acc, vars, cells => TA g n sc target (.d d) vars cells fun v c => zXb g n sc v ifs c fun q c1 => cond q
      (TE g n sc elt v c1 fun u c2 => ∃ x c3, toD u c2 = some (x, c3) /\ zAo k names keep (zN4 g n sc target ifs elt names k keep Kend r (acc ++ [x])) v c3)
      (zAo k names keep (zN4 g n sc target ifs elt names k keep Kend r acc) v c1)
theorem yBn {env : Env} {A : Around} {Q : Bool -> Shared -> Prop} {s : Shared} : ∀ (es : List Expr), Q false s ->
    wpAny g.M A (forIn es false fun c r => if r = true then do let ok ← isTrue c env (eval c env); pure (ForInStep.yield ok) else pure (ForInStep.yield r)) Q Bot s := by
  intro es
  induction es with
  | nil =>
    rintro h
    rw [List.forIn_nil]; exact Qb h
  | cons e r ih =>
    rintro h
    rw [List.forIn_cons, if_neg Qw]
    exact Qa (Qb (ih h))
theorem zSf {K : Bool -> List C -> Prop} : ∀ {es : List Expr} {cells : List C}, zXb g n sc vars es cells K ->
    ∀ A env Z X R ρ bs m s Q, zDr n A -> zB9 sc env -> zEq g.K Z -> zAh sc env vars Z X R ρ bs m -> AtC cells Z X ρ s.heap -> Aux g.os s -> zP1 g K Z X ρ Q ->
      wpAny g.M A (forIn es true fun c r => if r = true then do let ok ← isTrue c env (eval c env); pure (ForInStep.yield ok) else pure (ForInStep.yield r)) Q Bot s := by
  intro es
  induction es with
  | nil =>
    rintro cells h A env Z X R ρ bs m s Q rm en st fr S ax P
    rw [List.forIn_nil]; exact Qb (P _ cells Z ρ s h (zAa.Le.refl _) (Qp _) S ax)
  | cons e r ih =>
    rintro cells h A env Z X R ρ bs m s Q rm en st fr S ax P
    rw [List.forIn_cons, if_pos rfl]
    refine Qa (Qa (h A env Z X R ρ bs m s _ rm en st fr S ax ?_))
    intro q c1 Z1 ρ1 s1 h1 k1 p1 S1 ax1
    refine Qb ?_
    dsimp only
    induction q with
    | true => exact ih h1 A env Z1 X R ρ1 bs m s1 Q rm en (st.mono k1) (fr.mono k1 p1) S1 ax1 (P.grow k1 p1)
    | false => exact yBn r (P _ c1 Z1 ρ1 s1 h1 k1 p1 S1 ax1)
theorem AtC.keepAt {Z X : zAa} {ρ : List Addr} {h : Heap} {a : Addr} {o : Obj} (S : AtC cells Z X ρ h) (e : h.get? a = some o) (u : zA1 cells Z X ρ a) : AtC cells Z (X.put a o) ρ h := by
  have := S.keepIt u
  rw [e] at this; exact this
theorem zA1.keep {Z X : zAa} {ρ : List Addr} {a b : Addr} {o : Obj} (u : zA1 cells Z X ρ a) (ne : a ≠ b) : zA1 cells Z (X.put b o) ρ a :=
  ⟨u.z, by rw [zAa.put_ne _ _ ne]; exact u.x, u.r⟩
theorem zAh.more {env : Env} {Z X R : zAa} {ρ bs : List Addr} {m : Str -> Option Value} {a : Addr} {o : Obj} (F : zAh sc env vars Z X R ρ bs m) (hx : X a = none) (ha : a ∉ env.locals :: bs) : zAh sc env vars Z (X.put a o) (R.put a o) ρ bs m := by
  have le : X.Le (X.put a o) := zAa.le_put o hx
  refine ⟨?_, ?_, F.boxes, F.kinds, fun b hb => ?_, F.nd, ?_, F.onlyOwn, fun x w e => ?_⟩
  . intro b w f
    by_cases z : b = a
    . subst z; simp only [zAa.put_self] at f ⊢; exact f
    . simp only [zAa.put_ne _ _ z] at f ⊢; exact F.keeps _ _ f
  . obtain ⟨o, ho, di⟩ := F.loc; exact ⟨o, le _ _ ho, di⟩
  . obtain ⟨o, w, ho, hd⟩ := F.boxAt b hb; exact ⟨o, w, le _ _ ho, hd⟩
  . intro b hb
    rw [zAa.put_ne _ _ (by rintro rfl; exact ha hb)]; exact F.off b hb
  . exact (F.vars x w e).up le
theorem zIa {w : World} {A : Around} {s : Shared} {l : Addr} {vs : List Value} {k : Nat} {v : Value} {Q : Value -> Shared -> Prop} {E : Value -> Shared -> Prop} (ho : s.heap.get? l = some (zAr vs k)) (hz : vs.length <= sizeLine)
    (hQ : Q .none { s with heap := s.heap.update l (Obj.mapSeq (·.push v)) }) : wpAny (model pw w) A (call (.builtin "list.append") [.ref l, v]) Q E s := by
  have hT : s.TypeIs (.ref l) "list" := ⟨_, ho, rfl⟩
  refine wpAny_call_entry slot_list_append hT entry_list_append ?_ (args_list_append _ _)
  show wpAny _ _ (updateSeq l (·.push v) >>= fun _ => ret .none) _ _ s
  refine Qa ?_
  exact wpAny_updateSeq ho rfl (Qb ⟨.none, rfl, hQ⟩) (by simp; omega) (by simp; omega)
theorem zQl (vs : List Value) (k : Nat) (v : Value) : Obj.mapSeq (·.push v) (zAr vs k) = zAr (vs ++ [v]) (k + 1) := by simp [Obj.mapSeq]
theorem zNn (elt target iter : Expr) (ifs : List Expr) (scope : Scope) (pos : Pos) (it acc : Value) (env : Env) :
    compTurn (.ListComp elt [⟨target, iter, ifs, 0⟩] scope pos) 0 it acc env = (do
      standAt iter.pos
      match ← pyNext it with
      | none => pure (.done .next)
      | some v =>
        letOwnedTupleGo target it v
        assign target env v
        let mut ok := true
        for c in ifs do
          if ok then ok ← isTrue c env (eval c env)
        if ok then
          (do let _ ← call (.builtin "list.append") [acc, ← eval elt env])
        again (.compLoop (.ListComp elt [⟨target, iter, ifs, 0⟩] scope pos) 0 it acc env)) := by rfl
end
end
section
section
variable {g : G} {n : Nat} {sc : Sc} {vars : zAe} {cells : List C} {Kn : zAe -> List C -> Prop} {Kr : V -> List C -> Prop} {Kc : zAe -> List C -> Prop}
theorem zAh.newBox {env : Env} {Z X R : zAa} {ρ bs : List Addr} {m : Str -> Option Value} {it : Addr} (fr : zAh sc env vars Z X R ρ bs m) (hx : X it = none) : ∀ x ∈ vars.map (·.1), zN1 sc env x ≠ some it := by
  intro x mx e
  obtain ⟨w, hw⟩ := zRh mx
  refine (fr.vars x w hw).elim (fun k v _ _ => zWv k e) fun c o v k e1 e2 _ _ => ?_
  rw [zXd k e] at e1
  rw [← qa e1, hx] at e2; exact nomatch e2
theorem zAh.newLoc {env : Env} {Z X R : zAa} {ρ bs : List Addr} {m : Str -> Option Value} {it : Addr} (fr : zAh sc env vars Z X R ρ bs m) (hx : X it = none) : it ∉ env.locals :: bs := by
  intro m'
  rcases Qy.mp m' with e | e
  . obtain ⟨o, ho, _⟩ := fr.loc
    rw [← e, hx] at ho; exact nomatch ho
  . obtain ⟨o, w, ho, _⟩ := fr.boxAt _ e
    rw [hx] at ho; exact nomatch ho
abbrev yJc (sc : Sc) (env : Env) (Z1 R : zAa) (ρ1 bs : List Addr) (it : Addr) (Src : zAa -> List Addr -> List C -> Prop) (vs : zAe) (cs : List C) (h : Heap) : Prop :=
  E3 fun Z3 X3 m3 => A5 (Z1.Le Z3) (Src Z3 ρ1 cs) (zAh sc env vs Z3 X3 R ρ1 bs m3) (zA1 cs Z3 X3 ρ1 it) (AtC cs Z3 X3 ρ1 h)
abbrev yCg (os : OsState) (F : zAe -> List C -> Heap -> Prop) (St : Nat -> Heap -> Prop) (l : List D) (L : List D -> zAe -> List C -> Prop) (q : Nat) (s' : Shared) : Prop :=
  E3 fun (i : Nat) vs cs => A6 (l.length - i = q) (i <= l.length) (L (l.drop i) vs cs) (F vs cs s'.heap) (St i s'.heap) (Aux os s')
theorem zDu {target iter : Expr} {body : List Stmt} {p : Pos} (hf : ∀ env x, foldedSetIterable iter env x = pure x) (ht : okT target = true)
    (h : TE g n sc iter vars cells fun u c => ∃ l, zGr u c = some l /\ zWx u /\ zMy g n sc target body (vars.map (·.1)) c.length (zGk u l) Kn Kr l vars c) :
    TS g n sc (.For target iter body [] p) vars cells Kn Kr Kc := by
  intro A env Z X R ρ bs m s Q rm en st fr S ax P
  refine wpAny_For (h A env Z X R ρ bs m s _ rm en st fr S ax ?_) (hf env)
  intro x u c1 Z1 ρ1 s1 h1 k1 p1 S1 ax1 r1
  obtain ⟨l, hi, hr, hL⟩ := h1
  refine zRb hi hr S1 ax1 r1 rm.hd ?_
  intro it St Src s2 I st0 un S2 ax2 hsrc src0 hnew
  have fr1 := fr.mono k1 p1
  have Rit : R it = none := by
    induction e : R it with
    | none => rfl
    | some o => exact nomatch hnew.symm.trans (S1.x _ _ (fr.keeps _ _ e))
  have itL := fr1.newLoc un.x
  have boxes1 := fr1.newBox un.x
  have zKb : ρ1.length = c1.length := S1.len
  have stat1 := st.mono k1
  have P1 := P.grow k1 p1
  clear P st k1 p1 fr hi hr S1 ax1 r1 S ax
  refine codeAny_forLoop_any (yCg g.os (yJc sc env Z1 R ρ1 bs it Src) St l (zMy g n sc target body (vars.map (·.1)) c1.length (zGk u l) Kn Kr)) ?_ l.length ⟨0, vars, c1, rfl, Qx _, hL, ⟨Z1, X, m, zAa.Le.refl _, src0, fr1, un, S2⟩, st0, ax2⟩
  clear hL src0 fr1 un S2 st0 ax2 hnew
  rintro q s4 ⟨i, vs, cs, hj, hil, hL4, ⟨Z4, X4, m4, k4, src4, fr4, un4, S4⟩, hst4, ax4⟩
  by_cases hlt : i < l.length
  . have hd : l[i]? = some l[i] := Qm hlt
    rw [List.drop_eq_getElem_cons hlt] at hL4
    refine zAs (I.item i l[i] A Z4 X4 ρ1 cs s4 _ rm.hd hd hst4 S4 src4 ?_) fun _ _ x => x
    intro v h' tk rd st5 keep
    obtain ⟨oi, hoi⟩ := I.ex _ _ st5
    refine zAs (I.own i l[i] v Z4 A { s4 with heap := h', toks := tk } target _ hd rd st5 ht ?_) fun _ _ x => x
    refine zAs (hL4 A env Z4 _ (R.put it oi) ρ1 bs m4 { s4 with heap := h', toks := tk } _ v rm en (stat1.mono k4) (fr4.more un4.x itL) ((S4.extBut keep un4).keepAt hoi un4) ax4 rd ?_) fun _ _ x => x
    intro v7 c7 Z7 X7 ρ7 m7 s7 h7 k7 p7 fr7 S7 ax7
    refine zAs (h7 A env Z7 X7 (R.put it oi) ρ7 bs m7 s7 _ rm en ((stat1.mono k4).mono k7) fr7 S7 ax7 ?_) fun _ _ x => x
    have Rle : R.Le (R.put it oi) := zAa.le_put _ Rit
    have next : ∀ vars' cells' Z' X' ρ' m' (s' : Shared), zAo c1.length (vars.map (·.1)) (zGk u l) (zMy g n sc target body (vars.map (·.1)) c1.length (zGk u l) Kn Kr (l.drop (i + 1))) vars' cells' -> Z7.Le Z' -> ρ7 <+: ρ' ->
        zAh sc env vars' Z' X' (R.put it oi) ρ' bs m' -> AtC cells' Z' X' ρ' s'.heap -> Aux g.os s' -> ∃ m, m < q /\ yCg g.os (yJc sc env Z1 R ρ1 bs it Src) St l (zMy g n sc target body (vars.map (·.1)) c1.length (zGk u l) Kn Kr) m s' := by
      rintro v8 c8 Z8 X8 ρ8 m8 s8 ⟨nb, nk, nL⟩ k8 p8 fr8 S8 ax8
      have pp : ρ1 <+: ρ8 := p7.trans p8
      have S9 := S8.trim pp (by rw [zKb]; exact nb)
      have fr9 := fr8.trim pp (vars.map (·.1))
      rw [zKb] at S9 fr9
      have kz : Z1.Le Z8 := k4.trans (k7.trans k8)
      have xi : X8 it = some oi := fr8.keeps it oi (zAa.put_self _ _ _)
      obtain ⟨S10, un10⟩ := S9.dropIt xi
      exact ⟨l.length - (i + 1), by omega, i + 1, _, _, rfl, hlt, nL, ⟨Z8, X8.drop it, m8, kz, hsrc Z8 ρ1 _ kz (Qp _) nk, fr9.dropIt Rle Rit itL fun x mx => boxes1 x (zGm mx), un10, S10⟩,
        I.frame (i + 1) h' s8.heap st5 (fun o e => by rw [hoi] at e; exact qa e ▸ S8.x _ _ xi), ax8⟩
    exact ⟨next, next, fun w v' c8 Z8 X8 ρ8 s8 h8 k8 p8 Rx S8 ax8 r8 => P1.ret w v' c8 Z8 X8 ρ8 s8 h8 (k4.trans (k7.trans k8)) (p7.trans p8) (Rle.trans Rx) S8 ax8 r8⟩
  . have hil' : i = l.length := by omega
    subst hil'
    refine zAs (I.done A Z4 X4 ρ1 cs s4 _ rm.hd hst4 S4 src4 ?_) fun _ _ x => x
    intro h' tk keep
    rw [List.drop_length] at hL4
    exact zAs (wpAny_execs_nil (P1.next _ _ Z4 X4 ρ1 m4 _ hL4 k4 (Qp _) fr4 (S4.extBut keep un4) ax4)) fun _ _ x => x
end
end
section
section
variable {g : G} {n : Nat} {sc : Sc} {vars : zAe} {cells : List C} {K' : V -> List C -> Prop}
abbrev yGf (sc : Sc) (env : Env) (Z1 R : zAa) (ρ1 bs : List Addr) (it acc : Addr) (Src : zAa -> List Addr -> List C -> Prop) (vs : zAe) (cs : List C) (ds : List D) (vsa : List Value) (h : Heap) : Prop :=
  E3 fun Z3 X3 m3 => A7 (Z1.Le Z3) (Src Z3 ρ1 cs) (zAh sc env vs Z3 X3 R ρ1 bs m3) (zA1 cs Z3 X3 ρ1 it) (zA1 cs Z3 X3 ρ1 acc) (AtC cs Z3 X3 ρ1 h) (zAk Z3 ds vsa)
abbrev yCr (os : OsState) (F : zAe -> List C -> List D -> List Value -> Heap -> Prop) (St : Nat -> Heap -> Prop) (acc : Addr) (l : List D) (L : List D -> List D -> zAe -> List C -> Prop) (q : Nat) (s' : Shared) : Prop :=
  E6 fun (i : Nat) vs cs ds vsa (ka : Nat) => A8 (l.length - i = q) (i <= l.length) (ds.length <= i) (L (l.drop i) ds vs cs) (F vs cs ds vsa s'.heap) (s'.heap.get? acc = some (zAr vsa ka)) (St i s'.heap) (Aux os s')
theorem zVb {A : Around} {cenv : Env} {Z1 X : zAa} {ρ1 bs : List Addr} {target iter elt : Expr} {ifs : List Expr} {cs : Scope} {pos : Pos} {it acc : Addr} {l : List D} {u : V} {names : List Str} {k : Nat} {Kend : List D -> List C -> Prop}
    {St : Nat -> Heap -> Prop} {Src : zAa -> List Addr -> List C -> Prop} {R : Result -> Shared -> Prop} (rm : zDr n A) (en : zB9 sc cenv) (st1 : zEq g.K Z1) (I : Itr g.w it l St Src) (ht : okT target = true)
    (hsrc : ∀ (Z' : zAa) (ρ' : List Addr) (cells' : List C), Z1.Le Z' -> ρ1 <+: ρ' -> zGk u l cells' -> Src Z' ρ' cells') (hk : ρ1.length = k) (hsz : l.length <= sizeLine)
    (ne : it ≠ acc) (Xit : X it = none) (Xacc : X acc = none) (itL : it ∉ cenv.locals :: bs) (accL : acc ∉ cenv.locals :: bs) (bit : ∀ x ∈ names, zN1 sc cenv x ≠ some it) (bacc : ∀ x ∈ names, zN1 sc cenv x ≠ some acc)
    (fin : ∀ ds vsa ka vs cells' Z' X' m' (s' : Shared), Kend ds cells' -> Z1.Le Z' -> zAh sc cenv vs Z' X' X ρ1 bs m' -> zA1 cells' Z' X' ρ1 acc -> AtC cells' Z' X' ρ1 s'.heap -> Aux g.os s' -> zAk Z' ds vsa -> s'.heap.get? acc = some (zAr vsa ka) -> R (.ok .next) s')
    {vs : zAe} {cells : List C} {X0 : zAa} {m0 : Str -> Option Value} {s : Shared} (hL : zN4 g n sc target ifs elt names k (zGk u l) Kend l [] vs cells) (src0 : Src Z1 ρ1 cells) (fr : zAh sc cenv vs Z1 X0 X ρ1 bs m0) (u1 : zA1 cells Z1 X0 ρ1 it) (u2 : zA1 cells Z1 X0 ρ1 acc)
    (S : AtC cells Z1 X0 ρ1 s.heap) (ax : Aux g.os s) (hacc : s.heap.get? acc = some (zAr [] 0)) (hst : St 0 s.heap) :
    codeAny g.M A (.compLoop (.ListComp elt [⟨target, iter, ifs, 0⟩] cs pos) 0 (.ref it) (.ref acc) cenv) (fun r s' => match r with | .ok f => R (.ok f) s' | .error e => False) s := by
  refine codeAny_loop rfl (yCr g.os (yGf sc cenv Z1 X ρ1 bs it acc Src) St acc l (zN4 g n sc target ifs elt names k (zGk u l) Kend)) ?_ l.length
    ⟨0, vs, cells, [], [], 0, rfl, Qx _, Qx _, hL, ⟨Z1, X0, m0, zAa.Le.refl _, src0, fr, u1, u2, S, .nil⟩, hacc, hst, ax⟩
  rintro q s4 ⟨i, vs, cells, ds, vsa, ka, hj, hil, hds, hL4, ⟨Z4, X4, m4, k4, src4, fr4, un4, ua4, S4, rd4⟩, ha4, hst4, ax4⟩
  show wpAny _ A ((compTurn (.ListComp elt [⟨target, iter, ifs, 0⟩] cs pos) 0 (.ref it) (.ref acc) cenv).onRaise (fun x => do noteFrame x cenv; theTreesLotGoes x)) _ _ s4
  refine wpAny_onRaise (zAs ?_ fun _ _ x => x)
  rw [zNn]
  refine Qa (wpAny_standAt (Qa ?_))
  by_cases hlt : i < l.length
  . have hd : l[i]? = some l[i] := Qm hlt
    rw [List.drop_eq_getElem_cons hlt] at hL4
    refine I.item i l[i] A Z4 X4 ρ1 cells s4 _ rm.hd hd hst4 S4 src4 ?_
    intro v h' tk rd st5 keep
    have S5 := S4.extBut keep un4
    refine Qa (I.own i l[i] v Z4 A { s4 with heap := h', toks := tk } target _ hd rd st5 ht ?_)
    obtain ⟨oi, hoi⟩ := I.ex _ _ st5
    have ha5 : h'.get? acc = some (zAr vsa ka) := keep _ _ (Ne.symm ne) ha4
    have S6 : AtC cells Z4 ((X4.put it oi).put acc (zAr vsa ka)) ρ1 h' := (S5.keepAt hoi un4).keepAt ha5 (ua4.keep (Ne.symm ne))
    have fr6 : zAh sc cenv vs Z4 ((X4.put it oi).put acc (zAr vsa ka)) ((X.put it oi).put acc (zAr vsa ka)) ρ1 bs m4 := (fr4.more un4.x itL).more (by rw [zAa.put_ne _ _ (Ne.symm ne)]; exact ua4.x) accL
    have Rle1 : X.Le (X.put it oi) := zAa.le_put _ Xit
    have Rle2 : (X.put it oi).Le ((X.put it oi).put acc (zAr vsa ka)) := zAa.le_put _ (by rw [zAa.put_ne _ _ (Ne.symm ne)]; exact Xacc)
    refine Qa (hL4 A cenv Z4 _ _ ρ1 bs m4 { s4 with heap := h', toks := tk } _ v rm en (st1.mono k4) fr6 S6 ax4 rd ?_)
    intro v7 c7 Z7 X7 ρ7 m7 s7 h7 k7 p7 fr7 S7 ax7
    have next : ∀ (ds' : List D) (vsa' : List Value) (ka' : Nat) cells' Z' ρ' (s' : Shared) h'', zAo k names (zGk u l) (zN4 g n sc target ifs elt names k (zGk u l) Kend (l.drop (i + 1)) ds') v7 cells' -> Z7.Le Z' -> ρ7 <+: ρ' ->
        AtC cells' Z' X7 ρ' s'.heap -> Aux g.os s' -> (∀ b o, b ≠ acc -> s'.heap.get? b = some o -> h''.get? b = some o) -> zAk Z' ds' vsa' -> ds'.length <= i + 1 -> h''.get? acc = some (zAr vsa' ka') ->
        ∃ m, m < q /\ yCr g.os (yGf sc cenv Z1 X ρ1 bs it acc Src) St acc l (zN4 g n sc target ifs elt names k (zGk u l) Kend) m { s' with heap := h'' } := by
      rintro ds' vsa' ka' c8 Z8 ρ8 s8 h8 ⟨nb, nk, nL⟩ k8 p8 S8 ax8 keep8 rd8 hd8 ha8
      have pp : ρ1 <+: ρ8 := p7.trans p8
      have nb' : zCj ρ1.length (c8.take ρ1.length) = true := by rw [hk]; exact nb
      have S9 := S8.trim pp nb'
      have fr9 := (fr7.mono k8 p8).trim pp names
      rw [hk] at S9 fr9
      have xi : X7 it = some oi := fr7.keeps it oi (by rw [zAa.put_ne _ _ ne, zAa.put_self])
      have xa : X7 acc = some (zAr vsa ka) := fr7.keeps acc _ (zAa.put_self _ _ _)
      have kz : Z1.Le Z8 := k4.trans (k7.trans k8)
      obtain ⟨S10, ua10⟩ := S9.dropIt xa
      have S11 := S10.extBut keep8 ua10
      have xi' : (X7.drop acc) it = some oi := by rw [zAa.drop_ne ne]; exact xi
      obtain ⟨S12, ui12⟩ := S11.dropIt xi'
      have ua12 : zA1 (c8.take k) Z8 ((X7.drop acc).drop it) ρ1 acc := ⟨ua10.z, by rw [zAa.drop_ne (Ne.symm ne)]; exact ua10.x, ua10.r⟩
      have fr10 := fr9.dropIt Rle2 (by rw [zAa.put_ne _ _ (Ne.symm ne)]; exact Xacc) accL (fun x mx => bacc x (zGm mx))
      have fr11 := fr10.dropIt Rle1 Xit itL (fun x mx => bit x (zGm mx))
      have same : ∀ o, h'.get? it = some o -> h8.get? it = some o := by
        intro o e
        rw [hoi] at e; cases e
        exact keep8 _ _ ne (S8.x _ _ xi)
      exact ⟨l.length - (i + 1), by omega, i + 1, _, _, ds', vsa', ka', rfl, hlt, hd8, nL, ⟨Z8, _, m7, kz, hsrc Z8 ρ1 _ kz (Qp _) nk, fr11, ui12, ua12, S12, rd8⟩, ha8, I.frame (i + 1) h' h8 st5 same, ax8⟩
    have hacc7 : ∀ {cells' : List C} {Z' : zAa} {ρ' : List Addr} {s' : Shared}, AtC cells' Z' X7 ρ' s'.heap -> s'.heap.get? acc = some (zAr vsa ka) := fun S' => S'.x _ _ (fr7.keeps acc _ (zAa.put_self _ _ _))
    refine Qa (zSf h7 A cenv Z7 X7 _ ρ7 bs m7 s7 _ rm en ((st1.mono k4).mono k7) fr7 S7 ax7 ?_)
    intro b c8 Z8 ρ8 s8 h8 k8 p8 S8 ax8
    induction b with
    | false =>
      refine Qb ⟨rfl, ?_⟩
      exact next ds vsa ka c8 Z8 ρ8 s8 s8.heap h8 k8 p8 S8 ax8 (fun _ _ _ e => e) (zAk.mono (k7.trans k8) _ _ rd4) (by omega) (hacc7 S8)
    | true =>
      refine Qa (Qa (h8 A cenv Z8 X7 _ ρ8 bs m7 s8 _ rm en (((st1.mono k4).mono k7).mono k8) (fr7.mono k8 p8) S8 ax8 ?_))
      intro y w c9 Z9 ρ9 s9 ⟨x, c10, etd, hn⟩ k9 p9 S9 ax9 r9
      obtain ⟨Z10, k10, S10, rx⟩ := zNb etd S9 r9
      have ha9 : s9.heap.get? acc = some (zAr vsa ka) := hacc7 S9
      have rds : zAk Z10 ds vsa := zAk.mono (k7.trans (k8.trans (k9.trans k10))) _ _ rd4
      refine Qa (zIa ha9 (by rw [rds.length]; omega) ?_)
      refine Qb (Qb ⟨rfl, ?_⟩)
      have g2 := Heap.get?_update_self (Obj.mapSeq (·.push y)) ha9 (by rw [zQl]; rfl)
      rw [zQl] at g2
      exact next (ds ++ [x]) (vsa ++ [y]) (ka + 1) c10 Z10 ρ9 s9 _ hn (k8.trans (k9.trans k10)) (p8.trans p9) S10 ax9 (fun b o hb e => (Heap.get?_update_other _ _ (Ne.symm hb)).trans e) (rds.append (.cons rx .nil)) (by simp; omega) g2
  . have hil' : i = l.length := by omega
    subst hil'
    refine I.done A Z4 X4 ρ1 cells s4 _ rm.hd hst4 S4 src4 ?_
    intro h' tk keep
    rw [List.drop_length] at hL4
    exact Qb (fin ds vsa ka vs cells Z4 X4 m4 _ hL4 k4 fr4 ua4 (S4.extBut keep un4) ax4 rd4 (keep _ _ (Ne.symm ne) ha4))
end
end
section
section
variable {g : G} {n : Nat} {sc : Sc} {vars : zAe} {cells : List C} {K' : V -> List C -> Prop}
theorem zWi {env : Env} {m : Str -> Option Value} {X Z : zAa} {ρ : List Addr} {x : Str} {u : V} (h : zCx sc env m X Z ρ x u) (hk : zMc (sc.scope.names.lookup x) = true) :
    ∃ c o v, env.cells.lookup x = some c /\ X c = some o /\ o.data = .cell (some v) /\ zAw Z ρ u v := by
  exact h.elim (fun q _ _ _ => by rw [q] at hk; exact nomatch hk) fun c o v _ e f q r => ⟨c, o, v, e, f, q, r⟩
def zXp (g : G) (n : Nat) (sc : Sc) (cs : Scope) (target : Expr) (ifs : List Expr) (elt : Expr) (u : V) (l : List D) (vars : zAe) (c : List C) (Kend : List D -> List C -> Prop) : Prop :=
  zN4 g n (sci sc cs) target ifs elt ((yDy vars (zF2 cs.names)).map (·.1)) c.length (zGk u l) Kend l [] (yDy vars (zF2 cs.names)) c
noncomputable def yCd (cs : Scope) (env : Env) (a : Addr) : Env := { scope := relabel cs env, locals := a, globals := env.globals, cells := cellsFrom (a + 1) cs.names (zFn env cs.names), qual := env.qual, func := none, code := env.code, frame := env.frame, builtins := env.builtins }
theorem zNs {target iter elt : Expr} {ifs : List Expr} {cs : Scope} {pos pos' : Pos} {use : Option (Value -> Sem Unit)} {Kend : List D -> List C -> Prop} (hf : ∀ env x, foldedSetIterable iter env x = pure x) (ht : okT target = true)
    (hc : zQx sc cs vars = true)
    (h : TE g n sc iter vars cells fun u c => ∃ l, zGr u c = some l /\ zWx u /\ l.length <= sizeLine /\ zXp g n sc cs target ifs elt u l vars c Kend)
    {A : Around} {env : Env} {Z X R : zAa} {ρ bs : List Addr} {m : Str -> Option Value} {s : Shared} {Q : Value -> Shared -> Prop} (rm : zDr n A) (en : zB9 sc env) (st : zEq g.K Z) (fr : zAh sc env vars Z X R ρ bs m) (S : AtC cells Z X ρ s.heap) (ax : Aux g.os s)
    (fin : ∀ (Z' X' : zAa) (ρ' : List Addr) (cells' : List C) (s' : Shared) (acc Cx : Addr) (ds : List D) (vsa : List Value) (ka : Nat) (oC : Obj) (mC : Str -> Option Value), Kend ds cells' -> Z.Le Z' -> ρ <+: ρ' -> X.Le X' -> AtC cells' Z' X' ρ' s'.heap -> Aux g.os s' ->
      zAk Z' ds vsa -> s'.heap.get? acc = some (zAr vsa ka) -> zA1 cells' Z' X' ρ' acc -> X' Cx = some oC -> zQ5 oC mC -> X Cx = none -> acc ≠ Cx -> compPost g.M A Bot use Q (.ref acc) Cx (.ok .next) s') :
    wpAny g.M A (comprehension (.ListComp elt [⟨target, iter, ifs, 0⟩] cs pos) cs env pos' (newList []) false (eval iter env) use) Q Bot s := by
  unfold zQx at hc
  simp only [Bool.and_eq_true, decide_eq_true_eq, beq_iff_eq, Qf] at hc
  obtain ⟨⟨⟨⟨hkind, nd⟩, hown⟩, hfree⟩, hloc⟩ := hc
  have capt : ∀ x ∈ zF2 cs.names, ∃ u c o v, zB7 x vars = some u /\ env.cells.lookup x = some c /\ X c = some o /\ o.data = .cell (some v) /\ zAw Z ρ u v := by
    intro x mx
    obtain ⟨⟨⟨h1, h2⟩, _⟩, _⟩ := hfree x mx
    obtain ⟨u, hu⟩ := Option.isSome_iff_exists.mp h2
    obtain ⟨c, o, v, e1, e2, e3, r⟩ := zWi (fr.vars x u hu) h1
    exact ⟨u, c, o, v, hu, e1, e2, e3, r⟩
  have hclos : closureFor cs env = pure (zFn env cs.names) := zMq fun x mx => by
    obtain ⟨u, c, o, v, _, e, _⟩ := capt x mx; rw [e]; rfl
  refine wpAny_comprehension_free (use := use) rfl (hf env) hclos hkind (fun x mx hx => by
    have := hloc x mx
    rw [hx] at this
    simpa using this) ?_
  refine h A env Z X R ρ bs m s _ rm en st fr S ax ?_
  intro x u c1 Z1 ρ1 s1 h1 k1 p1 S1 ax1 r1
  obtain ⟨l, hi, hr, hsz, hL⟩ := h1
  refine zRb hi hr S1 ax1 r1 rm.hd ?_
  intro it St Src s2 I st0 un S2 ax2 hsrc src0 hnew
  refine wpAny_newObj_type ?_
  obtain ⟨oi, hoi⟩ := I.ex _ _ st0
  have itlt : it < s2.heap.objs.size := Heap.lt_size hoi
  have ne : it ≠ s2.heap.objs.size := Nat.ne_of_lt itlt
  have S3 := S2.push (zAr [] 0)
  have uacc : zA1 c1 Z1 X ρ1 s2.heap.objs.size := S2.fresh (Qo _)
  have hacc3 : (s2.heap.push (zAr [] 0)).get? s2.heap.objs.size = some (zAr [] 0) := Heap.get?_push_size _ rfl
  simp only [newFunctionEnv, Option.isSome_some, if_true]
  refine Qa (wpAny_alloc ?_)
  refine Qa (wpAny_layCells _ (fun name kind cells => by cases hkc : kind == NameKind.cell <;> simp [hkc]) _ _ _ _ ?_)
  rw [List.forIn_nil]
  refine Qa (Qb (Qb ?_))
  dsimp only
  have hH : (s2.heap.push { cls := .type "list", data := .seq ([] : List Value).toArray }) = s2.heap.push (zAr [] 0) := rfl
  rw [hH]
  generalize hH3 : s2.heap.push (zAr [] 0) = H3 at *
  have hsz3 : H3.objs.size = s2.heap.objs.size + 1 := by rw [← hH3, Heap.size_push]
  rw [Heap.size_push]
  have le1 : Z.Le Z1 := k1
  obtain ⟨X4, bs4, m4, fr4, S4, X4old, -⟩ := zJf (sc := sci sc cs) (vars := yDy vars (zF2 cs.names)) S3 { cls := .type "dict", data := .dict #[] } rfl cs.names (zFn env cs.names)
    (yCd cs env H3.objs.size) rfl rfl nd
    (fun x c e => by
      obtain ⟨mx, rfl⟩ := zVe e
      obtain ⟨u, c, o, v, _, e1, e2, _⟩ := capt x mx
      rw [e1]; exact Heap.lt_size (S3.x _ _ e2))
    (fun x mx => hown x mx) rfl
    (fun x w hw => by
      obtain ⟨hw1, mx⟩ := zUo hw
      obtain ⟨⟨⟨_, _⟩, h3⟩, h4⟩ := hfree x mx
      obtain ⟨u', c, o, v, hu', e1, e2, e3, r⟩ := capt x mx
      rw [hw1] at hu'; cases hu'
      refine ⟨fun m' => by simp [m'] at h4, ?_, c, o, v, yFf mx e1, e2, e3, r.mono k1 p1⟩
      unfold zMc at h3
      rw [Bool.or_eq_true] at h3
      rcases h3 with h3 | h3
      . exact ⟨.cell, by simpa using h3, .inl rfl⟩
      . exact ⟨.free, by simpa using h3, .inr rfl⟩)
  have keep4 : ∀ b q, H3.get? b = some q -> (pushCells (H3.push { cls := .type "dict", data := .dict #[] }) cs.names).get? b = some q := fun b q e => pushCells_keeps _ _ b q (Heap.get?_push_of_some _ e)
  have it3 : it < H3.objs.size := by rw [hsz3]; exact Nat.lt_succ_of_lt itlt
  have acc3 : s2.heap.objs.size < H3.objs.size := by rw [hsz3]; exact Nat.lt_succ_self _
  have uit4 : zA1 c1 Z1 X4 ρ1 it := ⟨un.z, by rw [X4old it it3]; exact un.x, un.r⟩
  have uacc4 : zA1 c1 Z1 X4 ρ1 s2.heap.objs.size := ⟨uacc.z, by rw [X4old _ acc3]; exact uacc.x, uacc.r⟩
  have en4 : zB9 (sci sc cs) (yCd cs env H3.objs.size) :=
    ⟨zSv en cs, hkind, en.globals, en.builtins⟩
  have st4 : St 0 (pushCells (H3.push { cls := .type "dict", data := .dict #[] }) cs.names) := I.frame 0 s2.heap _ st0 fun o e => keep4 _ _ (by rw [← hH3]; exact Heap.get?_push_of_some _ e)
  have loop := zVb (g := g) (n := n) (A := A) (pos := pos) (cs := cs) (iter := iter) (R := compPost g.M A Bot use Q (.ref s2.heap.objs.size) H3.objs.size) rm en4 (st.mono k1) I ht hsrc S1.len hsz ne un.x uacc.x (fr4.newLoc uit4.x) (fr4.newLoc uacc4.x) (fr4.newBox uit4.x) (fr4.newBox uacc4.x)
    (fun ds vsa ka vs cells' Z' X' m' s' hK kz F' ua' S' ax' rd ha => by
      obtain ⟨oC, hoC, di⟩ := F'.loc
      exact fin Z' X' ρ1 cells' s' s2.heap.objs.size H3.objs.size ds vsa ka oC m' hK (k1.trans kz) p1 F'.keeps S' ax' rd ha ua' hoC di (F'.off _ (.head _)) (Nat.ne_of_lt acc3))
    hL src0 fr4 uit4 uacc4 (s := { s2 with heap := pushCells (H3.push { cls := .type "dict", data := .dict #[] }) cs.names }) S4 ax2 (keep4 _ _ hacc3) st4
  have loop' := codeAny_mono loop (R' := compPost g.M A Bot use Q (.ref s2.heap.objs.size) H3.objs.size) fun r s' hr => by
    induction r using Except.casesOn with
    | ok f => exact hr
    | error e => exact hr.elim
  exact codeAny_compStart_list loop' (zAs (I.self 0 A _ _ rm.hd st4 loop') fun _ _ x => x)
theorem zAh.within {env : Env} {Z X X' R R' : zAa} {ρ bs : List Addr} {m : Str -> Option Value} (F : zAh sc env vars Z X R ρ bs m) (le : X.Le X') (hR : R'.Le X') (off : ∀ a ∈ env.locals :: bs, R' a = none) : zAh sc env vars Z X' R' ρ bs m := by
  refine ⟨hR, ?_, F.boxes, F.kinds, fun b hb => ?_, F.nd, off, F.onlyOwn, fun x w e => ?_⟩
  . obtain ⟨o, ho, di⟩ := F.loc; exact ⟨o, le _ _ ho, di⟩
  . obtain ⟨o, w, ho, hd⟩ := F.boxAt b hb; exact ⟨o, w, le _ _ ho, hd⟩
  . exact (F.vars x w e).up le
theorem AtC.less {Z X X' : zAa} {ρ : List Addr} {h : Heap} (S : AtC cells Z X' ρ h) (le : X.Le X') : AtC cells Z X ρ h :=
  S.withX (fun a o e => S.x _ _ (le _ _ e)) (fun a o e => S.xz _ _ (le _ _ e)) fun i a c e1 e2 l => by
    induction q : X a with
    | none => rfl
    | some o => have := S.xr i a c e1 e2 l; rw [le _ _ q] at this; cases this
theorem zA1.less {Z X X' : zAa} {ρ : List Addr} {a : Addr} (u : zA1 cells Z X' ρ a) (le : X.Le X') : zA1 cells Z X ρ a := by
  refine ⟨u.z, ?_, u.r⟩
  induction q : X a with
  | none => rfl
  | some o => have := u.x; rw [le _ _ q] at this; cases this
theorem yDx (t e : Expr) (l : Nat) (env : Env) : swapsWithSole [t] e l env = swapsWith e (some t) l env := rfl
theorem zJj (t e : Expr) (p : Pos) (env : Env) : exec (.Assign [t] e p) env = (do
    standAt p
    if ← swapsWithSole [t] e p.line env then do
      evalThenUse e env fun v => assignAll v ((assignEach [t] env).map (·.2))
      pure .next
    else do
      let v ← eval e env
      assignStores env v (← swappedStores [t] e env) ((assignEach [t] env).map (·.2))) := rfl
theorem zF1 (elt : Expr) (gens : List Comprehension) (cs : Scope) (pos : Pos) (env : Env) (use : Value -> Sem Unit) : evalThenUse (.ListComp elt gens cs pos) env use = (do
    let _ ← comprehension (.ListComp elt gens cs pos) cs env (firstIterPos gens pos) (newList []) (firstAsync gens) (firstIter gens env) (some use)
    pure ()) := rfl
theorem zBa {target iter elt : Expr} {ifs : List Expr} {cs : Scope} {pos : Pos} (hf : ∀ env x, foldedSetIterable iter env x = pure x) (ht : okT target = true) (hc : zQx sc cs vars = true)
    (h : TE g n sc iter vars cells fun u c => ∃ l, zGr u c = some l /\ zWx u /\ l.length <= sizeLine /\ zXp g n sc cs target ifs elt u l vars c fun ds c' => K' (.d (.lst ds)) c') :
    TE g n sc (.ListComp elt [⟨target, iter, ifs, 0⟩] cs pos) vars cells K' := by
  intro A env Z X R ρ bs m s Q rm en st fr S ax P
  show wpAny g.M A (comprehension (.ListComp elt [⟨target, iter, ifs, 0⟩] cs pos) cs env _ (newList []) false (eval iter env) none) Q Bot s
  refine zNs hf ht hc h rm en st fr S ax ?_
  intro Z' X' ρ' cells' s' acc Cx ds vsa ka oC mC hK kz pz le S' ax' rd ha ua hoC di hXC hne
  refine ⟨mC, zJm.mpr ⟨oC, S'.x _ _ hoC, di⟩, fun h' sb => ?_⟩
  have S1 : AtC cells' Z' X ρ' s'.heap := S'.less le
  have uC : zA1 cells' Z' X ρ' Cx := ⟨S'.xz _ _ hoC, hXC, fun i c e1 e2 l => by have := S'.xr i Cx c e1 e2 l; rw [hoC] at this; cases this⟩
  have S2 : AtC cells' Z' X ρ' h' := S1.extBut (fun b o hb e => (sb.2 b hb).trans e) uC
  have ha' : h'.get? acc = some (zAr vsa ka) := (sb.2 acc hne).trans ha
  obtain ⟨S3, k3⟩ := S2.freeze ha' (ua.less le)
  refine P _ _ _ _ _ { s' with heap := h' } hK (kz.trans k3) pz S3 ax' ?_
  simp only [zAw, zA2]
  exact ⟨acc, vsa, ka, rfl, zAa.put_self _ _ _, zAk.mono k3 _ _ rd⟩
theorem zDq {t target iter elt : Expr} {ifs : List Expr} {cs : Scope} {pos p : Pos} {Kn : zAe -> List C -> Prop} {Kr : V -> List C -> Prop} {Kc : zAe -> List C -> Prop} (hp : zB2 t = true) (hs : zM7 sc t (.ListComp elt [⟨target, iter, ifs, 0⟩] cs pos) = true)
    (hf : ∀ env x, foldedSetIterable iter env x = pure x) (ht : okT target = true) (hc : zQx sc cs vars = true)
    (h : TE g n sc iter vars cells fun u c => ∃ l, zGr u c = some l /\ zWx u /\ l.length <= sizeLine /\ zXp g n sc cs target ifs elt u l vars c fun ds c' => TA g n sc t (.d (.lst ds)) vars c' Kn) :
    TS g n sc (.Assign [t] (.ListComp elt [⟨target, iter, ifs, 0⟩] cs pos) p) vars cells Kn Kr Kc := by
  intro A env Z X R ρ bs m s Q rm en st fr S ax P
  have e1 : swapsWithSole [t] (.ListComp elt [⟨target, iter, ifs, 0⟩] cs pos) p.line env = pure true := by
    rw [yDx, zIg en rfl, hs]
  rw [zJj]
  refine Qa (wpAny_standAt ?_)
  rw [e1, zU8 hp]
  refine Qa (Qb ?_)
  refine zQ9 rfl ?_
  refine Qa ?_
  rw [zF1]
  refine Qa (zNs hf ht hc h rm en st fr S ax ?_)
  intro Z' X' ρ' cells' s' acc Cx ds vsa ka oC mC hK kz pz le S' ax' rd ha ua hoC di hXC hne
  show wpAny g.M A (assign t env (.ref acc)) _ Bot s'
  obtain ⟨S3, k3⟩ := S'.freeze ha ua
  have locC : Cx ∉ env.locals :: bs := by
    intro hm
    rcases Qy.mp hm with e | hm
    . obtain ⟨o, ho, _⟩ := fr.loc; rw [← e, hXC] at ho; cases ho
    . obtain ⟨o, w, ho, _⟩ := fr.boxAt _ hm; rw [hXC] at ho; cases ho
  have RC : R Cx = none := by
    induction q : R Cx with
    | none => rfl
    | some o => have := fr.keeps _ _ q; rw [hXC] at this; cases this
  have fr3 : zAh sc env vars (Z'.put acc (zAr vsa ka)) X' (R.put Cx oC) ρ' bs m := by
    refine (fr.mono (kz.trans k3) pz).within le (fun b o e => ?_) (fun a ha => ?_)
    . by_cases z : b = Cx
      . subst z; rw [zAa.put_self] at e; cases e; exact hoC
      . rw [zAa.put_ne _ _ z] at e; exact le _ _ (fr.keeps _ _ e)
    . rw [zAa.put_ne _ _ (by rintro rfl; exact locC ha)]; exact fr.off a ha
  refine hK A env _ X' _ ρ' bs m s' _ (.ref acc) rm en ((st.mono kz).mono k3) fr3 S3 ax' ?_ ?_
  . simp only [zAw, zA2]
    exact ⟨acc, vsa, ka, rfl, zAa.put_self _ _ _, zAk.mono k3 _ _ rd⟩
  . intro vars' cells'' Z4 X4 ρ4 m4 s4 h4 k4 p4 fr4 S4 ax4
    have x4 : X4 Cx = some oC := fr4.keeps _ _ (zAa.put_self _ _ _)
    refine ⟨mC, zJm.mpr ⟨oC, S4.x _ _ x4, di⟩, fun h' sb => ?_⟩
    refine Qb (Qb ?_)
    obtain ⟨S5, uC⟩ := S4.dropIt x4
    have S6 := S5.extBut (fun b o hb e => (sb.2 b hb).trans e) uC
    refine P.next vars' cells'' Z4 (X4.drop Cx) ρ4 m4 { s4 with heap := h' } h4 (kz.trans (k3.trans k4)) (pz.trans p4) ?_ S6 ax4
    refine fr4.dropIt (zAa.le_put _ RC) RC locC ?_
    intro x mx e
    obtain ⟨w, hw⟩ := zRh mx
    obtain ⟨es, ep, hd, _⟩ := di
    refine (fr4.vars x w hw).elim (fun k _ _ _ => zWv k e) fun c o v k e1 e2 e3 _ => ?_
    rw [zXd k e] at e1
    rw [← qa e1, x4] at e2
    rw [← qa e2, hd] at e3; exact nomatch e3
end
end
section
section
variable {g : G} {n : Nat} {sc : Sc} {vars : zAe} {cells : List C} {K' : V -> List C -> Prop}
theorem op1 {t : Value -> Sem Value} {a : V} {d : D} (h : K' (.d d) cells)
    (k : ∀ {A : Around} {Z X : zAa} {ρ : List Addr} {Q : Value -> Shared -> Prop} {s : Shared} {x : Value}, AtC cells Z X ρ s.heap -> zAw Z ρ a x -> (∀ (v : Value) (m : Tok), zA2 Z d v -> Q v { s with toks := m }) -> wpAny g.M A (t x) Q Bot s) :
    Op g n (fun | [x] => t x | _ => unsupported "") [a] cells K' := by
  intro A Z X ρ s Q vals rm st S ax r P
  obtain ⟨x, rfl, rx⟩ := r.one
  exact k S rx fun v m q => zEf.now P (s := { s with toks := m }) h S ax q
theorem tr1 {a : V} {b : Bool} {KB : Bool -> List C -> Prop} (h : KB b cells)
    (k : ∀ {A : Around} {Z X : zAa} {ρ : List Addr} {Q : Bool -> Shared -> Prop} {s : Shared} {x : Value}, AtC cells Z X ρ s.heap -> zAw Z ρ a x -> (∀ m : Tok, Q b { s with toks := m }) -> wpAny g.M A (truthy x) Q Bot s) :
    OpB g n (fun | [x] => truthy x | _ => unsupported "") [a] cells KB := by
  intro A Z X ρ s Q vals rm st S ax r P
  obtain ⟨x, rfl, rx⟩ := r.one
  exact k S rx fun m => P _ cells Z ρ { s with toks := m } h (zAa.Le.refl _) (Qp _) S ax
theorem zPm {α β : Type} : ∀ {l : List α} {m : List β}, l.length = m.length -> l.isEmpty = m.isEmpty
  | [], [], _ => rfl
  | [], _ :: _, h => nomatch h
  | _ :: _, [], h => nomatch h
  | _ :: _, _ :: _, _ => rfl
theorem yKp {u : V} {l : List D} {KB : Bool -> List C -> Prop} (hl : zBj u cells = some l) (h1 : l.length < 2 ^ 62) (h : KB (!l.isEmpty) cells) : OpB g n (fun | [x] => truthy x | _ => unsupported "") [u] cells KB :=
  tr1 h fun {A Z X ρ Q s x} S rx q => by
    obtain ⟨a, vs, k, rfl, ho, rl⟩ := zAu hl S rx
    refine wpAny_truthy_list (zB3 ho) (by rw [List.size_toArray, rl.length]; omega) ?_
    rw [show (!vs.toArray.isEmpty) = !l.isEmpty from by rw [List.isEmpty_toArray, zPm rl.length]]
    exact q _
theorem zKr {i : Int} (h : K' (.d (.int (-i))) cells) : Op g n (fun | [x] => unaryOp .USub x | _ => unsupported "") [.d (.int i)] cells K' :=
  op1 h fun _ ⟨_, e⟩ q => e ▸ PySem.P.neg_int (q _ _ ⟨_, rfl⟩)
noncomputable def zG8 (C : Addr) (x : Str) : Option (Addr × Nat) := (zFc.find? fun p => p.1 == C && p.2.1 == x).map fun p => (p.2.2.1, p.2.2.2)
theorem zDo {C f : Addr} {x : Str} {t : Nat} (h : zG8 C x = some (f, t)) : (C, x, f, t) ∈ zFc := by
  obtain ⟨⟨a, b, c, d⟩, hp, e⟩ := Option.map_eq_some_iff.mp h
  have q : (a == C && b == x) = true := List.find?_some (p := fun p : Addr × Str × Addr × Nat => p.1 == C && p.2.1 == x) hp
  have q := (Qn).mp q
  rw [← show a = C from eq_of_beq q.1, ← show b = x from eq_of_beq q.2, ← show c = f from congrArg Prod.fst e, ← show d = t from congrArg Prod.snd e]
  exact List.mem_of_find?_eq_some hp
theorem zVa {cl : Addr} (h : zDe.any (fun p => p.1 == cl) = true) : ∃ names, (cl, names) ∈ zDe := by
  obtain ⟨⟨a, ns⟩, m, h⟩ := List.any_eq_true.mp h
  cases eq_of_beq h; exact ⟨ns, m⟩
def zPq (g : G) (u : V) (x : Str) (cells : List C) (K' : V -> List C -> Prop) : Prop :=
  ∀ A Z X ρ s v Q ex, zEq g.K Z -> AtC cells Z X ρ s.heap -> Aux g.os s -> zAw Z ρ u v -> zEf g K' Z X ρ Q -> wpAny g.M A (getAttr v x ex) Q Bot s
theorem yPd {C i : Nat} {fs : List (Str × V)} {x : Str} {w : V} (hc : cells[i]? = some (.dict fs)) (hl : zB7 x fs = some w) (hf : zE7 C x = true) (k : K' w cells) : zPq g (.obj C i) x cells K' :=
  fun _ _ _ _ _ _ _ _ st S ax r P => let ⟨_, hn, hx⟩ := zEw hf; zLh hn hx st S ax r hc hl k P
theorem yK3 {C i : Nat} {fs : List (Str × V)} {x : Str} {f : Addr} {t : Nat} (hc : cells[i]? = some (.dict fs)) (hl : zB7 x fs = none) (hm : zG8 C x = some (f, t)) (hcl : zDe.any (fun p => p.1 == C) = true) (k : K' (.meth f C i) cells) : zPq g (.obj C i) x cells K' :=
  fun _ _ _ _ _ _ _ _ st S ax r P => let ⟨_, hn⟩ := zVa hcl; zOl hn (zDo hm) st S ax r hc hl k P
theorem yD6 {o : Expr} {x : Str} {p : Pos} (hs : zD1 o = true) (h : TE g n sc o vars cells fun u c => zPq g u x c K') : TE g n sc (.Attribute o x p) vars cells K' := by
  intro A env Z X R ρ bs m s Q rm en st fr S ax P
  refine zEg (arm_eval_Attribute ..) ?_
  rw [zCc hs]
  refine Qa (h A env Z X R ρ bs m s _ rm en st fr S ax ?_)
  intro a ua c1 Z1 ρ1 s1 h1 k1 p1 S1 ax1 r1
  refine Qa (wpAny_standAt (Qa (Qc (h1 _ _ _ _ _ _ _ _ (st.mono k1) S1 ax1 r1 ?_))))
  intro v u c2 Z2 ρ2 s2 h2 k2 p2 S2 ax2 r2
  exact Qa (wpAny_letTemporaryGo (Qb (P v u c2 Z2 ρ2 s2 h2 (k1.trans k2) (p1.trans p2) S2 ax2 r2)))
theorem zSl {o e : Expr} {x : Str} {op : Operator} {p p' : Pos} {Kn : zAe -> List C -> Prop} {Kr : V -> List C -> Prop} {Kc : zAe -> List C -> Prop}
    (h : TE g n sc o vars cells fun a c => zPq g a x c fun u c1 => TE g n sc e vars c1 fun b c2 => Op g n (two (inplaceOp op)) [u, b] c2 fun r c3 => zHf g a x r c3 fun c4 => Kn vars c4) : TS g n sc (.AugAssign (.Attribute o x p) op e p') vars cells Kn Kr Kc := by
  intro A env Z X R ρ bs m s Q rm en st fr S ax P
  refine zEg (arm_exec_AugAssign_2 ..) ?_
  refine Qa (wpAny_standAt (Qa (h A env Z X R ρ bs m s _ rm en st fr S ax ?_)))
  intro a ua c1 Z1 ρ1 s1 h1 k1 p1 S1 ax1 r1
  refine Qa (Qc (Qa (wpAny_standAt (Qa (h1 _ _ _ _ _ _ _ _ (st.mono k1) S1 ax1 r1 ?_)))))
  intro v u c2 Z2 ρ2 s2 h2 k2 p2 S2 ax2 r2
  refine Qa (Qc (h2 A env Z2 X R ρ2 bs m s2 _ rm en ((st.mono k1).mono k2) ((fr.mono k1 p1).mono k2 p2) S2 ax2 ?_))
  intro b ub c3 Z3 ρ3 s3 h3 k3 p3 S3 ax3 r3
  have st3 := ((st.mono k1).mono k2).mono k3
  refine Qa (wpAny_standAt (wpAny_operating (h3 A Z3 X ρ3 s3 _ [v, b] rm st3 S3 ax3 ⟨v, [b], rfl, r2.mono k3 p3, b, [], rfl, r3, rfl⟩ ?_)))
  intro w uw c4 Z4 ρ4 s4 h4 k4 p4 S4 ax4 r4
  refine Qa (wpAny_standAt (Qa (Qc (h4 _ _ _ _ _ _ _ _ (st3.mono k4) S4 ax4 (((r1.mono k2 p2).mono k3 p3).mono k4 p4) r4 ?_))))
  intro c5 s5 h5 S5 ax5
  exact Qa (wpAny_release (Qb (P.next _ _ Z4 X ρ4 m s5 h5 (k1.trans (k2.trans (k3.trans k4))) (p1.trans (p2.trans (p3.trans p4))) (fr.mono (k1.trans (k2.trans (k3.trans k4))) (p1.trans (p2.trans (p3.trans p4)))) S5 ax5)))
noncomputable def zPj : List (Str × Nat) := [("split", 32), ("upper", 33), ("lower", 34), ("replace", 35), ("join", 36)]
noncomputable def zKa : List (Str × Nat) := [("append", 29), ("pop", 30), ("index", 31)]
end
end
section
theorem zGa : PlainAttrs "re.Pattern" :=
  ⟨⟨"object.__getattribute__", by rw [typeLookup_type, builtinLookup_eq_fast]; kernel_rfl, by decide +kernel⟩, by rw [typeLookup_type, builtinLookup_eq_fast]; kernel_rfl⟩
theorem zC8 : Slot "re.Pattern" "search" "re.Pattern.search" :=
  .of (owner := "re.Pattern") (n := "search") (by rw [typeLookup_type, builtinLookup_eq_fast]; kernel_rfl) (by decide +kernel) (by decide +kernel) (by decide +kernel)
    (by first | exact .inl (by decide +kernel) | exact .inr (by decide +kernel)) (by rw [isSubtype_type]; kernel_rfl)
theorem zE8 : typeOf (.builtin "re.Pattern.search") = pure (.type "method_descriptor") := by show builtinType _ = _; rw [builtinType_eq_fast]; kernel_rfl
structure BM (T : String) (x : Str) (t : Nat) : Prop where
  ok : ∃ id, zAl[t]? = some (.builtin id) /\ Slot T x id /\ typeOf (.builtin id) = pure (.type "method_descriptor")
theorem zCf {α : Type} {P : Str -> α -> Prop} {k : Str} {v : α} {l : List (Str × α)} (h : P k v) (r : ∀ {x : Str} {t : α}, zB7 x l = some t -> P x t) {x : Str} {t : α} (e : zB7 x ((k, v) :: l) = some t) : P x t := by
  unfold zB7 at e
  split at e
  . rename_i q; cases e; subst q; exact h
  . exact r e
theorem zOd {α : Type} {P : Str -> α -> Prop} {x : Str} {t : α} (e : zB7 x ([] : List (Str × α)) = some t) : P x t := nomatch e
theorem zSw {x : Str} {t : Nat} (h : zB7 x zPj = some t) : BM "str" x t :=
  zCf (P := BM "str") ⟨_, rfl, F.slot_str_split, F.type_str_split⟩ (zCf ⟨_, rfl, F.slot_str_upper, F.type_str_upper⟩ (zCf ⟨_, rfl, F.slot_str_lower, F.type_str_lower⟩ (zCf ⟨_, rfl, F.slot_str_replace, F.type_str_replace⟩ (zCf ⟨_, rfl, F.slot_str_join, F.type_str_join⟩ zOd)))) h
theorem zKo {x : Str} {t : Nat} (h : zB7 x zKa = some t) : BM "list" x t :=
  zCf (P := BM "list") ⟨_, rfl, F.slot_list_append, F.type_list_append⟩ (zCf ⟨_, rfl, F.slot_list_pop, F.type_list_pop⟩ (zCf ⟨_, rfl, F.slot_list_index, F.type_list_index⟩ zOd)) h
section
variable {g : G} {n : Nat} {sc : Sc} {vars : zAe} {cells : List C} {K' : V -> List C -> Prop}
theorem yJw {T : String} {x : Str} {t : Nat} (b : BM T x t) (pa : PlainAttrs T) {A : Around} {Z : zAa} {ρ : List Addr} {s : Shared} {u : V} {v : Value} {pl : Sem Bool} {KM : V -> List V -> Prop} {Q : Value × List Value -> Shared -> Prop} (hT : s.TypeIs v T)
    (hd : ∀ a, v = .ref a -> ∃ o, s.heap.get? a = some o /\ o.dict = none) (r : zAw Z ρ u v) (h : KM (.stat t) [u])
    (P : ∀ fv firstV f first tk, KM fv firstV -> zAw Z ρ fv f -> zBl Z ρ firstV first -> Q (f, first) { s with toks := tk }) : wpAny g.M A (getMethod v x pl) Q Bot s := by
  obtain ⟨id, hs, slot, hty⟩ := b.ok
  refine getMethod_builtin hT pa slot hty hd ?_
  exact P (.stat t) [u] (.builtin id) [v] s.toks h hs ⟨v, [], rfl, r, rfl⟩
theorem yO4 {C i : Nat} {fs : List (Str × V)} {x : Str} {w : V} {KM : V -> List V -> Prop} (hc : cells[i]? = some (.dict fs)) (hl : zB7 x fs = some w) (hf : zE7 C x = true) (k : KM w []) :
    zCl g (.obj C i) x cells KM := by
  intro A Z X ρ s ov pl Q st S ax r P
  have X' := st.kin S.z
  obtain ⟨names, hn, hx⟩ := zEw hf
  have ok := g.cls C names hn
  obtain ⟨y, d, es, m, e, hd, I, ho, rf⟩ := zH1 S r hc
  have hcan := PySem.F.canon_object_ga
  unfold getMethod specialOf
  rw [e]
  refine Qa (Qa (I.type.here ((looks_findIn X' ok.ga).here ?_)))
  dsimp only
  rw [hcan, if_neg (by decide)]
  refine Qa (Qa (I.type.here ((looks_findIn X' ok.gattr).here ?_)))
  refine Qa (Qa (I.type.here ((looks_findIn X' (ok.fld x hx)).here ?_)))
  obtain ⟨w', hg, rw'⟩ := zWm rf hl
  refine Qa (get_value X' I ok.ga (findObj_own ok.hasDict (ok.fld x hx) rfl (by rw [show (zEs es m) = dictOf es m from rfl, lookIn_dict]; exact hg)) (zM9 rw') (Qb ?_))
  exact P w [] w' [] (s.toks + 1) k rw' rfl
theorem yPa {C i : Nat} {fs : List (Str × V)} {x : Str} {f : Addr} {t : Nat} {KM : V -> List V -> Prop} (hc : cells[i]? = some (.dict fs)) (hl : zB7 x fs = none) (hm : zG8 C x = some (f, t)) (hcl : zDe.any (fun p => p.1 == C) = true) (k : KM (.stat t) [.obj C i]) :
    zCl g (.obj C i) x cells KM := by
  intro A Z X ρ s ov pl Q st S ax r P
  have X' := st.kin S.z
  obtain ⟨names, hn⟩ := zVa hcl
  have ok := g.cls C names hn
  have mo := g.meth C x f t (zDo hm)
  obtain ⟨y, d, es, m, e, hd, I, ho, rf⟩ := zH1 S r hc
  rw [e]
  refine method_fn X' I ok.ga ok.gattr mo.find mo.type (by show (lookIn x (dictOf es m)).map _ = _; rw [lookIn_dict, zMz rf hl]; rfl) ?_
  have tag : zAl[t]? = some (.ref f) := eq_of_beq (Qf.mp zP6 _ (zDo hm))
  exact P (.stat t) [.obj C i] (.ref f) [.ref y] s.toks k tag ⟨.ref y, [], rfl, e ▸ r, rfl⟩
theorem zLc {T : String} {x : Str} {t : Nat} (b : BM T x t) (pa : PlainAttrs T) {u : V} {KM : V -> List V -> Prop}
    (ho : ∀ {Z X : zAa} {ρ : List Addr} {h : Heap} {v : Value}, zEq g.K Z -> AtC cells Z X ρ h -> zAw Z ρ u v -> ∃ a o, v = .ref a /\ h.get? a = some o /\ o.cls = .type T /\ o.dict = none) (k : KM (.stat t) [u]) : zCl g u x cells KM := by
  intro A Z X ρ s ov pl Q st S ax r P
  obtain ⟨a, o, rfl, h1, h2, h3⟩ := ho st S r
  exact yJw b pa ⟨o, h1, h2⟩ (fun _ e => Value.ref.inj e ▸ ⟨o, h1, h3⟩) r k P
theorem yLx {x : Str} {y : Str} {t : Nat} {KM : V -> List V -> Prop} (h : zB7 x zPj = some t) (k : KM (.stat t) [.d (.str y)]) : zCl g (.d (.str y)) x cells KM := by
  intro A Z X ρ s ov pl Q st S ax r P
  obtain ⟨tk, rfl⟩ := zBo r
  exact yJw (zSw h) F.plainAttrs_str (typeIs_str _ _ _) (fun a e => nomatch e) r k P
theorem yOl {i : Nat} {l : List D} {x : Str} {t : Nat} {KM : V -> List V -> Prop} (hc : cells[i]? = some (.lst l)) (h : zB7 x zKa = some t) (k : KM (.stat t) [.loc i]) : zCl g (.loc i) x cells KM :=
  zLc (zKo h) F.plainAttrs_list (fun _ S r => let ⟨a, _, _, e, _, ho, _⟩ := zFp S r hc; ⟨a, _, e, ho, rfl, rfl⟩) k
theorem yN8 {l : List D} {x : Str} {t : Nat} {KM : V -> List V -> Prop} (h : zB7 x zKa = some t) (k : KM (.stat t) [.d (.lst l)]) : zCl g (.d (.lst l)) x cells KM :=
  zLc (zKo h) F.plainAttrs_list (fun _ S r => let ⟨a, _, _, e, z, _⟩ := (show ∃ a vs n, _ = Value.ref a /\ _ /\ _ from r); ⟨a, _, e, S.z _ _ z, rfl, rfl⟩) k
theorem yDc {i : Nat} {fs : List (Str × V)} {KM : V -> List V -> Prop} (hc : cells[i]? = some (.dict fs)) (k : KM (.stat 38) [.loc i]) : zCl g (.loc i) (Qd "items") cells KM :=
  zLc (T := "dict") ⟨_, rfl, F.slot_dict_items, F.type_dict_items⟩ F.plainAttrs_dict (fun {Z X ρ h v} _ S r => by
    obtain ⟨a, ha, rfl⟩ := r
    obtain ⟨a', o, ha', ho, es, m, rfl, rf⟩ := S.at hc rfl
    exact ⟨a, _, rfl, qa (ha.symm.trans ha') ▸ ho, rfl, rfl⟩) k
theorem zPa {k : Nat} {ρ : List Addr} {Z : zAa} {v w : Value} (r : zAw Z ρ (.stat k) v) (h : zAl[k]? = some w) : v = w := qa ((show zAl[k]? = some v from r).symm.trans h)
theorem m_b3 {KM : V -> List V -> Prop} (k : KM (.stat 37) [.stat 4]) : zCl g (.stat 4) (Qd "get") cells KM :=
  zLc (T := "dict") ⟨_, rfl, F.slot_dict_get, F.type_dict_get⟩ F.plainAttrs_dict (fun st S r => let ⟨o, ho, hc, hd, _⟩ := g.stat.d4; ⟨99, o, zPa r rfl, st.kin S.z _ _ ho, hc, hd⟩) k
theorem m_re7 {KM : V -> List V -> Prop} (k : KM (.stat 39) [.stat 7]) : zCl g (.stat 7) (Qd "search") cells KM :=
  zLc (T := "re.Pattern") ⟨_, rfl, zC8, zE8⟩ zGa (fun st S r => let ⟨_, _, _, _, ho⟩ := g.stat.pat7; ⟨154, _, zPa r rfl, st.kin S.z _ _ ho, rfl, rfl⟩) k
theorem m_re8 {KM : V -> List V -> Prop} (k : KM (.stat 39) [.stat 8]) : zCl g (.stat 8) (Qd "search") cells KM :=
  zLc (T := "re.Pattern") ⟨_, rfl, zC8, zE8⟩ zGa (fun st S r => let ⟨_, _, _, _, ho⟩ := g.stat.pat8; ⟨159, _, zPa r rfl, st.kin S.z _ _ ho, rfl, rfl⟩) k
end
end
section
open PySem.Builtin PySem.Builtin.Str
section
variable {g : G} {n : Nat} {sc : Sc} {vars : zAe} {cells : List C} {K' : V -> List C -> Prop}
theorem AtC.listNew {Z X : zAa} {ρ : List Addr} {h h' : Heap} {a : Addr} {vs : List Value} {m : Nat} {l : List D} (S : AtC cells Z X ρ h) (k : ∀ b o, h.get? b = some o -> h'.get? b = some o) (ha : h.objs.size <= a)
    (ho : h'.get? a = some (zAr vs m)) (r : zAk Z l vs) : ∃ Z', Z.Le Z' /\ AtC cells Z' X ρ h' /\ zAw Z' ρ (.d (.lst l)) (.ref a) := by
  obtain ⟨S', le⟩ := (S.ext k).freeze ho (S.fresh ha)
  refine ⟨_, le, S', ?_⟩
  simp only [zAw, zA2]
  exact ⟨a, vs, m, rfl, zAa.put_self _ _ _, zAk.mono le _ _ r⟩
theorem zAy {k : Nat} {v : Value} {args : List V} (hv : zAl[k]? = some v) (h : Op g n (fun vs => call v vs) args cells K') : zAb g n (.stat k) args [] cells K' := by
  intro A Z X ρ s Q f vs ws rm st S ax rf r1 r2 P
  have : zAl[k]? = some f := rf
  rw [hv] at this; cases this
  exact h A Z X ρ s Q vs rm st S ax r1 P
theorem zEf.go {X Z : zAa} {ρ : List Addr} {Q : Value -> Shared -> Prop} {u : V} {v : Value} {s : Shared} {cells' : List C} {Z' : zAa} (P : zEf g K' Z X ρ Q) (k : K' u cells') (le : Z.Le Z') (S : AtC cells' Z' X ρ s.heap) (a : Aux g.os s) (r : zAw Z' ρ u v) : Q v s :=
  P v u cells' Z' ρ s k le (Qp _) S a r
theorem zBe {u : V} {l : List D} (hl : zBj u cells = some l) (h1 : l.length < 2 ^ 62) (h : K' (.d (.int l.length)) cells) : zAb g n (.stat 18) [u] [] cells K' := by
  refine zAy (v := .builtin "len") rfl ?_
  intro A Z X ρ s Q vals rm st S ax r P
  obtain ⟨v, rfl, rv⟩ := r.one
  obtain ⟨a, vs, k, rfl, ho, rl⟩ := zAu hl S rv
  refine PySem.Calls.call_len_list (zB3 ho) (by rw [List.size_toArray, rl.length]; omega) ?_
  rw [List.size_toArray, rl.length]
  exact zEf.now P (s := { s with toks := s.toks + 1 + 1 }) h S ax ⟨_, rfl⟩
theorem zEo {i : Int} (h0 : 0 <= i) (h1 : i <= 1114111) (h : K' (.d (.str ⟨#[i.toNat]⟩)) cells) : zAb g n (.stat 19) [.d (.int i)] [] cells K' := by
  refine zAy (v := .builtin "chr") rfl ?_
  intro A Z X ρ s Q vals rm st S ax r P
  obtain ⟨v, rfl, rv⟩ := r.one
  obtain ⟨t, rfl⟩ := zCd rv
  exact chr_of_range h0 h1 (zEf.now P (s := { s with toks := s.toks + 1 }) h S ax ⟨_, rfl⟩)
theorem zRl {x : Str} (h1 : x.length = 1) (h : K' (.d (.int (x.cps.getD 0 0 : Nat))) cells) : zAb g n (.stat 20) [.d (.str x)] [] cells K' := by
  refine zAy (v := .builtin "ord") rfl ?_
  intro A Z X ρ s Q vals rm st S ax r P
  obtain ⟨v, rfl, rv⟩ := r.one
  obtain ⟨t, rfl⟩ := zBo rv
  exact ord_of_one h1 (zEf.now P (s := { s with toks := s.toks + 1 }) h S ax ⟨_, rfl⟩)
theorem zM3 {a b : Int} (h : K' (.d (.int (if b < a then b else a))) cells) : zAb g n (.stat 21) [.d (.int a), .d (.int b)] [] cells K' := by
  refine zAy (v := .builtin "min") rfl ?_
  intro A Z X ρ s Q vals rm st S ax r P
  obtain ⟨v, w, rfl, rv, rw'⟩ := r.two
  obtain ⟨t, rfl⟩ := zCd rv
  obtain ⟨u, rfl⟩ := zCd rw'
  refine min_two_ints rm.hd fun h' tk k => ?_
  refine zEf.now P (s := { s with heap := h', toks := tk }) h (S.ext k) ax ?_
  by_cases q : b < a
  . rw [if_pos q, if_pos q]; exact ⟨_, rfl⟩
  . rw [if_neg q, if_neg q]; exact ⟨_, rfl⟩
theorem zWb {Z : zAa} : ∀ {ns : List Int} {vs : List Value}, zAk Z (ns.map .int) vs -> ∃ xs : Array (Int × Tok), vs.toArray = intItems xs /\ xs.toList.map (·.1) = ns := by
  intro ns
  induction ns with
  | nil =>
    rintro vs h
    have := h.inv_nil; subst this; exact ⟨#[], by simp [intItems], rfl⟩
  | cons i ns ih =>
    rintro vs h
    obtain ⟨v, r, rfl, hv, hr⟩ := zAk.inv h
    obtain ⟨t, rfl⟩ := zCd (Z := Z) (ρ := []) hv
    obtain ⟨xs, e1, e2⟩ := ih hr
    refine ⟨⟨(i, t) :: xs.toList⟩, ?_, by simp [e2]⟩
    have e3 : r = xs.toList.map fun p => Value.int p.1 p.2 := by
      have := congrArg Array.toList e1
      simpa [intItems] using this
    rw [e3]
    simp [intItems]
noncomputable def zT9 : List Int -> Int
  | [] => 0
  | [a] => a
  | a :: r => if a <= zT9 r then a else zT9 r
theorem zLv : ∀ {l : List Int}, l ≠ [] -> zT9 l ∈ l
  | [], h => absurd rfl h
  | [a], _ => by simp [zT9]
  | a :: b :: r, _ => by
    have := zLv (l := b :: r) (by simp)
    unfold zT9
    split
    . exact .head _
    . exact .tail _ this
theorem zO8 : ∀ {l : List Int} {x : Int}, x ∈ l -> zT9 l <= x
  | [a], x, h => by rw [Qr] at h; subst h; exact Int.le_refl _
  | a :: b :: r, x, h => by
    unfold zT9
    have ih := @zO8 (b :: r)
    rcases Qy.mp h with rfl | h
    . split
      . exact Int.le_refl _
      . omega
    . have := ih h
      split
      . omega
      . exact this
theorem zMu {u : V} {ns : List Int} (hl : zBj u cells = some (ns.map .int)) (hne : ns ≠ []) (h : K' (.d (.int (zT9 ns))) cells) : zAb g n (.stat 21) [u] [] cells K' := by
  refine zAy (v := .builtin "min") rfl ?_
  intro A Z X ρ s Q vals rm st S ax r P
  obtain ⟨v, rfl, rv⟩ := r.one
  obtain ⟨a, vs, k, rfl, ho, rl⟩ := zAu hl S rv
  obtain ⟨xs, e1, e2⟩ := zWb rl
  have hlen : xs.size = ns.length := by rw [← e2]; simp
  have hpos : 0 < xs.size := by rw [hlen]; exact List.length_pos_iff.mpr hne
  refine min_intList rm.hd (e1 ▸ zB3 ho) hpos fun v h' tk hv k => ?_
  obtain ⟨t, rfl⟩ := intItems_at hv
  have num : ∀ i, i < xs.size -> numAt xs i ∈ ns /\ numAt xs i = ns.getD i 0 := by
    intro i hi
    have e : numAt xs i = ns.getD i 0 := by
      unfold numAt
      rw [← e2]
      simp [List.getD, hi]
    refine ⟨?_, e⟩
    rw [e, show ns.getD i 0 = ns[i]'(by omega) by simp [List.getD, show i < ns.length by omega]]
    exact List.getElem_mem _
  obtain ⟨b1, b2⟩ := argBest_lt (numAt xs) (xs.size - 1)
  have eM : numAt xs (argBest (fun i j => decide (numAt xs i < numAt xs j)) (xs.size - 1)) = zT9 ns := by
    have hm := (num _ (show argBest (fun i j => decide (numAt xs i < numAt xs j)) (xs.size - 1) < xs.size by omega)).1
    have l1 := zO8 hm
    obtain ⟨j, hj, ej⟩ := List.getElem_of_mem (zLv hne)
    have l2 := b2 j (by omega)
    rw [(num j (by omega)).2, show ns.getD j 0 = ns[j] by simp [List.getD, hj], ej] at l2
    omega
  rw [eM]
  exact zEf.now P (s := { s with heap := h', toks := tk }) h (S.ext k) ax ⟨_, rfl⟩
theorem yAg {u : V} {ns : List Int} (hl : zBj u cells = some (ns.map .int)) (h : K' (.d (.int ns.sum)) cells) : zAb g n (.stat 22) [u] [] cells K' := by
  refine zAy (v := .builtin "sum") rfl ?_
  intro A Z X ρ s Q vals rm st S ax r P
  obtain ⟨v, rfl, rv⟩ := r.one
  obtain ⟨a, vs, k, rfl, ho, rl⟩ := zAu hl S rv
  obtain ⟨xs, e1, e2⟩ := zWb rl
  refine sum_intListG rm.hd (e1 ▸ zB3 ho) fun h' tk t' k => ?_
  have e3 : preSum (numAt xs) xs.size = ns.sum := by
    rw [preSum_eq, List.take_of_length_le (by simp), e2]
  rw [e3]
  exact zEf.now P (s := { s with heap := h', toks := tk }) h (S.ext k) ax ⟨_, rfl⟩
theorem zCe {x : Str} (hf : tooLong (Txt.upper x).length = false) (h : K' (.d (.str (Txt.upper x))) cells) : zAb g n (.stat 33) [.d (.str x)] [] cells K' := by
  refine zAy (v := .builtin "str.upper") rfl ?_
  intro A Z X ρ s Q vals rm st S ax r P
  obtain ⟨v, rfl, rv⟩ := r.one
  obtain ⟨t, rfl⟩ := zBo rv
  exact SC.upper hf (zEf.now P (s := { s with toks := s.toks + 1 }) h S ax ⟨_, rfl⟩)
theorem zBx {x : Str} (hf : tooLong (Txt.lower x).length = false) (h : K' (.d (.str (Txt.lower x))) cells) : zAb g n (.stat 34) [.d (.str x)] [] cells K' := by
  refine zAy (v := .builtin "str.lower") rfl ?_
  intro A Z X ρ s Q vals rm st S ax r P
  obtain ⟨v, rfl, rv⟩ := r.one
  obtain ⟨t, rfl⟩ := zBo rv
  exact SC.lower hf (zEf.now P (s := { s with toks := s.toks + 1 }) h S ax ⟨_, rfl⟩)
theorem zMo {Z : zAa} : ∀ {xs : List Str} {vs : List Value}, zAk Z (xs.map .str) vs -> ∃ l : List (Str × Tok), vs = strValues l /\ l.map (·.1) = xs := by
  intro xs
  induction xs with
  | nil =>
    rintro vs h
    exact ⟨[], h.inv_nil, rfl⟩
  | cons x xs ih =>
    rintro vs h
    obtain ⟨v, r, rfl, hv, hr⟩ := zAk.inv h
    obtain ⟨t, rfl⟩ := zBo (Z := Z) (ρ := []) hv
    obtain ⟨l, rfl, e⟩ := ih hr
    exact ⟨(x, t) :: l, rfl, by simp [e]⟩
theorem zD7 {x : Str} {u : V} {xs : List Str} (hl : zBj u cells = some (xs.map .str)) (hok : JoinOk x xs = true) (h : K' (.d (.str (Txt.join x xs))) cells) : zAb g n (.stat 36) [.d (.str x), u] [] cells K' := by
  refine zAy (v := .builtin "str.join") rfl ?_
  intro A Z X ρ s Q vals rm st S ax r P
  obtain ⟨v, w, rfl, rv, rw'⟩ := r.two
  obtain ⟨t, rfl⟩ := zBo rv
  obtain ⟨a, vs, k, rfl, ho, rl⟩ := zAu hl S rw'
  obtain ⟨l, rfl, e⟩ := zMo rl
  exact SC.join (zB3 ho) e hok fun t' k => zEf.now P (s := { s with toks := k }) h S ax ⟨_, rfl⟩
theorem zZ3 {Z : zAa} : ∀ (l : List (Str × Tok)), zAk Z ((l.map (·.1)).map .str) (strValues l) := by
  intro l
  induction l with
  | nil =>
    exact zAk.nil
  | cons hd0 l ih =>
    obtain ⟨x, t⟩ := hd0
    exact .cons (by simp [zA2]) (ih)
theorem zR9 {x y : Str} {k : Int} (hy : (y.length == 0) = false) (hk : (decide (k < -(2 ^ 63 : Int)) || decide (k ≥ 2 ^ 63)) = false) (hsz : x.length + 2 <= sizeLine)
    (h : K' (.d (.lst ((Txt.splitMax x y k).map .str))) cells) : zAb g n (.stat 32) [.d (.str x), .d (.str y), .d (.int k)] [] cells K' := by
  refine zAy (v := .builtin "str.split") rfl ?_
  intro A Z X ρ s Q vals rm st S ax r P
  obtain ⟨v, r', rfl, rv, r2⟩ := r
  obtain ⟨w, i, rfl, rw', ri⟩ := zBl.two r2
  obtain ⟨t, rfl⟩ := zBo rv
  obtain ⟨u, rfl⟩ := zBo rw'
  obtain ⟨ti, rfl⟩ := zCd ri
  have hn : (Builtin.Str.partsBetween x (Builtin.Str.occurrences x y 0 x.length (limitOf x k)) y.length).length <= sizeLine := by
    have e1 := StrLaws.occ_length_le_len x y 0 x.length (limitOf x k)
    rw [length_partsBetween]; omega
  have fin : ∀ (l : List (Str × Tok)) (tk : Nat), l.map (·.1) = Txt.splitMax x y k -> Q (.ref s.heap.objs.size) { s with heap := s.heap.push { cls := .type "list", data := .seq (strValues l).toArray }, toks := tk } := by
    intro l tk e
    obtain ⟨Z', le, S', r'⟩ := S.listNew (h' := s.heap.push { cls := .type "list", data := .seq (strValues l).toArray }) (fun _ _ e => Heap.get?_push_of_some _ e) (Qo _) (m := 0) (Heap.get?_push_size _ rfl) (zZ3 l)
    rw [e] at r'
    exact P.go (s := { s with heap := _, toks := tk }) h le S' ax r'
  cases h1 : (decide (x.length < y.length) || decide (Builtin.Str.strKind x < Builtin.Str.strKind y))
  . cases hf : (Builtin.Str.occurrences x y 0 x.length (limitOf x k)).isEmpty
    . refine call_meets F.slot_str_split (typeIs_str _ _ _) F.entry_str_split (F.args_str_split_3 _ _ _) (meets_str_split_sep_max x y k t u ti hk h1 hy hf (by omega) hn) ?_
      show wants Q Bot _ { s with toks := _, heap := s.heap.push { cls := .type "list", data := .seq (strsFrom s.toks (Builtin.Str.partsBetween x (Builtin.Str.occurrences x y 0 x.length (limitOf x k)) y.length)).toArray } }
      rw [strsFrom_eq]
      exact fin (numbered s.toks _) _ ((numbered_texts _ _).trans ((if_neg (ne_true_of_eq_false h1)).trans (if_neg (ne_true_of_eq_false hf))).symm)
    . exact call_meets F.slot_str_split (typeIs_str _ _ _) F.entry_str_split (F.args_str_split_3 _ _ _) (meets_str_split_max_not_found x y k t u ti hk h1 hy hf)
        (fin [(x, t)] s.toks ((if_neg (ne_true_of_eq_false h1)).trans (if_pos hf)).symm)
  . exact call_meets F.slot_str_split (typeIs_str _ _ _) F.entry_str_split (F.args_str_split_3 _ _ _) (meets_str_split_max_cannot_occur x y k t u ti hk h1)
      (fin [(x, t)] s.toks (if_pos h1).symm)
theorem zB5 {b : Int} (h : K' (.rng 0 b) cells) : zAb g n (.stat 27) [.d (.int b)] [] cells K' := by
  refine zAy (v := .type "range") rfl ?_
  intro A Z X ρ s Q vals rm st S ax r P
  obtain ⟨v, rfl, rv⟩ := r.one
  obtain ⟨t, rfl⟩ := zCd rv
  refine call_range_1 ?_
  obtain ⟨S', le⟩ := S.newFrozen (o := zV9 0 b s.toks t (s.toks + 1)) rfl
  exact P.go (s := { s with heap := _, toks := _ }) h le S' ax ⟨_, _, _, _, rfl, zAa.put_self _ _ _⟩
theorem zVo {a b : Int} (h : K' (.rng a b) cells) : zAb g n (.stat 27) [.d (.int a), .d (.int b)] [] cells K' := by
  refine zAy (v := .type "range") rfl ?_
  intro A Z X ρ s Q vals rm st S ax r P
  obtain ⟨v, w, rfl, rv, rw'⟩ := r.two
  obtain ⟨t, rfl⟩ := zCd rv
  obtain ⟨u, rfl⟩ := zCd rw'
  refine call_range_2 ?_
  obtain ⟨S', le⟩ := S.newFrozen (o := zV9 a b t u s.toks) rfl
  exact P.go (s := { s with heap := _, toks := _ }) h le S' ax ⟨_, _, _, _, rfl, zAa.put_self _ _ _⟩
theorem zOn {Z : zAa} {P : Nat -> Value -> Prop} {acc : Array Value} {l : List D} (ha : ItemsOf P acc l.length) (hp : ∀ (i : Nat) (v : Value) (d : D), l[i]? = some d -> P i v -> zA2 Z d v) : zAk Z l acc.toList := by
  obtain ⟨hn, hi⟩ := ha
  have go : ∀ (l : List D) (vs : List Value), vs.length = l.length -> (∀ (i : Nat) (v : Value) (d : D), l[i]? = some d -> vs[i]? = some v -> zA2 Z d v) -> zAk Z l vs := by
    intro l
    induction l with
    | nil => intro vs e _; rw [List.length_nil] at e; rw [List.length_eq_zero_iff.mp e]; exact zAk.nil
    | cons d l ih =>
      intro vs e f
      induction vs using List.casesOn with
      | nil => simp at e
      | cons v vs =>
        refine .cons (f 0 v d rfl rfl) (ih vs (by simpa using e) fun i v' d' e1 e2 => f (i + 1) v' d' (by simpa using e1) (by simpa using e2))
  refine go l acc.toList (by simpa using hn) fun i v d e1 e2 => hp i v d e1 (hi i v (by simpa using e2))
theorem zHr {a b : Int} (h1 : -(2 ^ 62) <= a /\ a < 2 ^ 62 /\ -(2 ^ 62) <= b /\ b < 2 ^ 62) (h2 : (b - a).toNat <= 2 ^ 24) (h : K' (.d (.lst (zIb a b))) cells) : zAb g n (.stat 25) [.rng a b] [] cells K' := by
  refine zAy (v := .type "list") rfl ?_
  intro A Z X ρ s Q vals rm st S ax r P
  obtain ⟨v, rfl, q, t1, t2, t3, rfl, zq⟩ := r.one
  refine call_list_range (n := (b - a).toNat) rm.hd (show IsRange s.heap q a b 1 t1 t2 t3 from S.z _ _ zq) (PySem.small_one h1.1 h1.2.1 h1.2.2.1 h1.2.2.2) (by rw [Mine.zGt]) h2 fun h' tk acc c' k ho ha => ?_
  have hr : zAk Z (zIb a b) acc.toList := by
    refine zOn (by simpa [zIb] using ha) fun i v d e hv => ?_
    obtain ⟨t', rfl⟩ := hv
    unfold zIb at e
    rw [List.getElem?_map] at e
    obtain ⟨j, hj, rfl⟩ := Option.map_eq_some_iff.mp e
    have : j = i := by
      obtain ⟨hl, e⟩ := Ql.mp hj
      simpa using e.symm
    subst this
    simp [zA2]
  obtain ⟨Z', le, S', r'⟩ := S.listNew k (Qo _) (vs := acc.toList) (m := c') (by simpa using ho) hr
  exact P.go (s := { s with heap := h', toks := tk }) h le S' ax r'
theorem zLz {x : Str} (h : K' (.stat 26) cells) : zAb g n (.stat 28) [.d (.str x)] [] cells K' := by
  refine zAy (v := .type "type") rfl ?_
  intro A Z X ρ s Q vals rm st S ax r P
  obtain ⟨v, rfl, rv⟩ := r.one
  obtain ⟨t, rfl⟩ := zBo rv
  exact call_type_of (typeIs_str _ _ _) rfl (zEf.now P h S ax (u := .stat 26) rfl)
theorem zG7 {u : V} {l : List D} (hl : zBj u cells = some l) (h : K' (.stat 25) cells) : zAb g n (.stat 28) [u] [] cells K' := by
  refine zAy (v := .type "type") rfl ?_
  intro A Z X ρ s Q vals rm st S ax r P
  obtain ⟨v, rfl, rv⟩ := r.one
  obtain ⟨a, vs, k, rfl, ho, rl⟩ := zAu hl S rv
  exact call_type_of ⟨_, ho, rfl⟩ rfl (zEf.now P h S ax (u := .stat 25) rfl)
end
end
section
theorem zGh (s : Shared) (g : Nat) (x : GenState) : (s.setGen g x).toks = s.toks := rfl
theorem zJc {M : Model} {Γ : Ctx} {p : Pos} {t : Sem PySem.Fin} {fs : List Frame} {s s' : Shared} {e : PySem.End} (h : Runs M Γ p t fs s e s') : s.toks <= s'.toks := by
  induction h <;> (try simp only [zGh] at *) <;> first | exact Qo _ | assumption | omega
theorem zT4 {M : Model} {Γ : Ctx} {p : Pos} {g : Nat} {r : Resume} {s s' : Shared} {res : GenResult} (h : Wakes M Γ p g r s res s') : s.toks <= s'.toks := by
  unfold Wakes at h
  split at h
  . exact h.elim
  . split at h
    . obtain ⟨e, s1, h1, _, _, rfl⟩ := h
      have := zJc h1
      simpa only [zGh] using this
    . rw [h.2]; exact Qo _
    . rw [h.2]; exact Qo _
  . obtain ⟨e, s1, h1, _, _, rfl⟩ := h
    have := zJc h1
    simpa only [zGh] using this
  . rw [h.2]; exact Qo _
  . rw [h.2]; exact Qo _
theorem yDh {X : Type} {post : X -> Pos -> Shared -> Prop} {exc : Value -> Pos -> Shared -> Prop} (M : Model) (Γ : Ctx) (tree : Sem X) (k : Nat) (p : Pos) (s : Shared) (hk : k <= s.toks)
    (h : Sem.wp M Γ tree post exc p s) : Sem.wp M Γ tree (fun a p' s' => k <= s'.toks /\ post a p' s') exc p s := by
  revert h
  induction tree generalizing p s with
  | pure x => exact fun h => ⟨hk, h⟩
  | raise v => exact id
  | unsupported | finish | yield | fork | await | register => exact id
  | rule _ k ih | «at» _ k ih | alloc _ k ih | loadIfAlive _ k ih | point _ k ih | ask k ih | os _ _ k ih | handled _ k ih | newGen _ k ih | stack k ih | thread k ih => exact ih _ _ _ hk
  | fresh k ih => exact ih _ _ _ (Nat.le_succ_of_le hk)
  | load a _ k ih | genState a k ih => exact fun ⟨o, ho, h⟩ => ⟨o, ho, ih _ _ _ hk h⟩
  | update a _ f k ih | choose _ _ k ih => exact fun ⟨ha, h⟩ => ⟨ha, ih _ _ _ hk h⟩
  | call c h g l k ih => exact fun ⟨r, s', hr, h⟩ => ⟨r, s', hr, ih r p s' (Nat.le_trans hk (zJc hr)) h⟩
  | resume g r l k ih => exact fun ⟨res, s', hw, h⟩ => ⟨res, s', hw, ih _ _ _ (Nat.le_trans hk (zT4 hw)) h⟩
theorem zD3 {α : Type} {M : Model} {A : Around} {t : Sem α} {Q : α -> Shared -> Prop} {E : Value -> Shared -> Prop} {s : Shared} (h : wpAny M A t (fun a s' => s.toks <= s'.toks -> Q a s') E s) : wpAny M A t Q E s :=
  fun Γ p hΓ => Sem.wp_mono M Γ t (fun a p' s' h => h.2 h.1) (fun _ _ _ h => h) p s (yDh M Γ t s.toks p s (Qo _) (h Γ p hΓ))
end
section
section
variable {g : G} {n : Nat} {sc : Sc} {vars : zAe} {cells : List C} {K' : V -> List C -> Prop}
theorem zL1 {E : Expr} {p p' : Pos} {K : Int -> List C -> Prop} (hg : zLa g.K "chr" (.stat 19)) (hk : sc.scope.names.lookup (Qd "chr") = some .globalImplicit) (hE : zB2 E = true)
    (h : TE g n sc E vars cells fun a c => ∃ i, a = .d (.int i) /\ 0 <= i /\ i <= 1114111 /\ K i c) {A env Z X R ρ bs m s} {Q : Value -> Shared -> Prop} (rm : zDr n A) (en : zB9 sc env) (st : zEq g.K Z)
    (fr : zAh sc env vars Z X R ρ bs m) (S : AtC cells Z X ρ s.heap) (ax : Aux g.os s)
    (P : ∀ i c Z' ρ' s' tk, K i c -> Z.Le Z' -> ρ <+: ρ' -> AtC c Z' X ρ' s'.heap -> Aux g.os s' -> s.toks <= tk -> s'.toks = tk + 1 -> Q (.str ⟨#[i.toNat]⟩ tk) s') :
    wpAny g.M A (eval (.Call (.Name (Qd "chr") p) [E] [] p') env) Q Bot s := by
  refine wpAny_Call_Name_kw (zD3 (zUg (K' := fun u c => u = .stat 19 /\ c = cells) hg hk ⟨rfl, rfl⟩ rfl A env Z X R ρ bs m s _ rm en st fr S ax ?_))
  rintro f fv c1 Z1 ρ1 s1 ⟨rfl, rfl⟩ k1 p1 S1 ax1 r1 t1
  have hf : f = .builtin "chr" := by have : zAl[19]? = some f := r1; cases this; rfl
  subst hf
  have hplain : ((backTo p' (starEach [E] env)).any (·.1) || (backToKw p' (keywordEach [] env)).any (·.1.isNone)) = false := by
    rw [zBw [] env hE]; rfl
  refine callWith_of (P := fun hp => True) hplain (fun hp _ => ⟨.machine, .inr (.inl rfl), Looks.now⟩) ?_
  have hTE : TE g n sc E vars c1 fun u c => ∃ i, [u] = [V.d (.int i)] /\ 0 <= i /\ i <= 1114111 /\ K i c := TE.mono h fun u c h => by obtain ⟨i, rfl, a, b, d⟩ := h; exact ⟨i, rfl, a, b, d⟩
  refine zD3 (zK2 (args := [E]) (cells := c1) (vars := vars) (kws := []) (K' := fun us ws c => ∃ i, us = [.d (.int i)] /\ 0 <= i /\ i <= 1114111 /\ K i c) (by simp [hE]) rfl hTE rm en (st.mono k1) (fr.mono k1 p1) S1 ax1 ?_)
  rintro us ws vs vws c2 Z2 ρ2 s2 ⟨i, rfl, h0, h1, hK⟩ k2 p2 S2 ax2 ru rw' t2
  obtain ⟨v, rfl, rv⟩ := ru.one
  obtain ⟨t, rfl⟩ := zCd rv
  refine ⟨trivial, ?_⟩
  exact chr_of_range h0 h1 (P i c2 Z2 ρ2 _ s2.toks hK (k1.trans k2) (p1.trans p2) S2 ax2 (Nat.le_trans t1 t2) rfl)
theorem yDd {E : Expr} {x z y : Str} {i j : Int} {k6 k9 k11 : Nat} {p1 p2 p3 p4 p5 p6 p7 p8 p9 p10 p11 p12 p13 p14 : Pos} (hg : zLa g.K "chr" (.stat 19)) (hk : sc.scope.names.lookup (Qd "chr") = some .globalImplicit) (hE : zB2 E = true)
    (hx : zB7 x vars = some (.d (.str y))) (hn1 : (x == ("__debug__" : Str)) = false) (hn2 : (x == ("__classdict__" : Str)) = false) (hi : 0 <= i /\ i <= 1114111) (hj : 0 <= j /\ j <= 1114111) (hline : (p4.endLine == p13.line) = true)
    (hz : z.length = 1) (hne : (⟨#[i.toNat]⟩ == ((⟨#[j.toNat]⟩ : Str) ++ z)) = false) (hy : y.length <= 1000)
    (h : TE g n sc E vars cells fun a c => ∃ q, a = .d (.int q) /\ 0 <= q /\ q <= 1114111 /\ 1 + (Txt.replace y ⟨#[i.toNat]⟩ ((⟨#[j.toNat]⟩ : Str) ++ z)).length <= sizeLine /\ K' (.d (.str ((⟨#[q.toNat]⟩ : Str) ++ Txt.replace y ⟨#[i.toNat]⟩ ((⟨#[j.toNat]⟩ : Str) ++ z)))) c) :
    TE g n sc (.BinOp (.Call (.Name (Qd "chr") p1) [E] [] p2) .Add (.Call (.Attribute (.Name x p3) (Qd "replace") p4) [.Call (.Name (Qd "chr") p5) [.Constant (.int i) k6 p6] [] p7,
      .BinOp (.Call (.Name (Qd "chr") p8) [.Constant (.int j) k9 p9] [] p10) .Add (.Constant (.str z) k11 p11) p12] [] p13) p14) vars cells K' := by
  intro A env Z X R ρ bs m s Q rm en st fr S ax P
  refine wpAny_BinOp (zL1 hg hk hE h rm en st fr S ax ?_)
  rintro q c1 Z1 ρ1 s1 tk1 ⟨hl, hK⟩ k1 p1 S1 ax1 t1 e1
  have st1 := st.mono k1
  have fr1 := fr.mono k1 p1
  refine zEg (arm_eval_Call ..) ?_
  rw [zCc rfl]
  refine Qa (zD3 (yC1 (K' := fun u c => u = .d (.str y) /\ c = c1) hx ⟨rfl, rfl⟩ hn1 hn2 A env Z1 X R ρ1 bs m s1 _ rm en st1 fr1 S1 ax1 ?_))
  rintro ov u c2 Z2 ρ2 s2 ⟨rfl, rfl⟩ k2 p2 S2 ax2 r2 t2
  obtain ⟨ty, rfl⟩ := zBo r2
  refine Qa (wpAny_standAt ?_)
  unfold methodCall
  rw [show methodCallForm _ _ _ = true from rfl]
  refine Qa (Qc ?_)
  show wpAny _ _ (getMethod (.str y ty) (Qd "replace") _) _ _ _
  refine zD3 (yLx (g := g) (x := Qd "replace") (y := y) (t := 35) (cells := c2) (KM := fun fv fs => fv = .stat 35 /\ fs = [.d (.str y)]) rfl ⟨rfl, rfl⟩ A Z2 X ρ2 s2 _ _ _ (st1.mono k2) S2 ax2 r2 ?_)
  rintro fv fs f first tk3 ⟨rfl, rfl⟩ rf r3 t3
  have hf : f = .builtin "str.replace" := by have : zAl[35]? = some f := rf; cases this; rfl
  subst hf
  obtain ⟨y', rfl, ry'⟩ := r3.one
  obtain ⟨ty', rfl⟩ := zBo ry'
  unfold methodCallPos
  rw [hline]
  refine Qa (Qb ?_)
  refine callWith_of (P := fun hp => True) rfl (fun hp _ => ⟨.machine, .inr (.inl rfl), Looks.now⟩) ?_
  refine evalArgs_kw2 rfl ?_ (zBw _ env rfl)
  show wpAny g.M A (do
      let v ← eval _ env
      let here ← pure [v]
      return here ++ (← holding here (do
        let v ← eval _ env
        let here ← pure [v]
        return here ++ (← holding here (pure []))))) _ Bot _
  have fr2 := fr1.mono k2 p2
  have st2 := st1.mono k2
  refine Qa (zL1 (K := fun a c => a = i /\ c = c2) hg hk rfl (TE_const_int ⟨i, rfl, hi.1, hi.2, rfl, rfl⟩) rm en st2 fr2 S2 ax2 ?_)
  rintro i' c4 Z4 ρ4 s4 tk4 ⟨rfl, rfl⟩ k4 p4' S4 ax4 t4 e4
  refine Qa (Qb (Qa (Qc (Qa ?_))))
  refine wpAny_BinOp (zL1 (K := fun a c => a = j /\ c = c4) hg hk rfl (TE_const_int ⟨j, rfl, hj.1, hj.2, rfl, rfl⟩) rm en (st2.mono k4) (fr2.mono k4 p4') S4 ax4 ?_)
  rintro j' c5 Z5 ρ5 s5 tk5 ⟨rfl, rfl⟩ k5 p5' S5 ax5 t5 e5
  refine zD3 (TE_const_str (K' := fun u c => u = .d (.str z) /\ c = c5) ⟨rfl, rfl⟩ A env Z5 X R ρ5 bs m s5 _ rm en ((st2.mono k4).mono k5) ((fr2.mono k4 p4').mono k5 p5') S5 ax5 ?_)
  rintro zv zu c6 Z6 ρ6 s6 ⟨rfl, rfl⟩ k6 p6' S6 ax6 r6 t6
  obtain ⟨tz, rfl⟩ := zBo r6
  refine PySem.P.add_str ?_
  have e0 : ((⟨#[j'.toNat]⟩ : Str).length == 0) = false := rfl
  have e0' : (z.length == 0) = false := by rw [hz]; rfl
  rw [e0, e0']
  simp only [Bool.false_eq_true, if_false]
  refine ⟨by rw [PySem.Str.length_append, hz]; show 1 + 1 <= sizeLine; exact Qe rfl, ?_⟩
  refine Qa (Qb ?_)
  refine Qa (Qc (Qb ?_))
  refine Qb (Qb ?_)
  show wpAny _ _ (evalAll []) _ _ _
  refine Qb ⟨trivial, ?_⟩
  have hlen : ((⟨#[j'.toNat]⟩ : Str) ++ z).length = 2 := by rw [PySem.Str.length_append, hz]; rfl
  have a1 : tk4 ≠ 0 := by
    have t3' : s2.toks <= tk3 := t3
    have t4' : tk3 <= tk4 := t4
    omega
  have a2 : tk4 < s6.toks := by
    have t5' : s4.toks <= tk5 := t5
    have t6' : s5.toks <= s6.toks := t6
    omega
  refine SC.replace a1 (Nat.ne_of_gt (Nat.lt_of_le_of_lt (Qx _) a2)) (Nat.ne_of_lt a2) hne (by rw [hlen]; omega) fun t' k => ?_
  refine PyProof.Rows.add_str (fun t'' k' => ?_) (by show 1 + _ <= _; exact hl)
  exact P _ _ _ Z6 ρ6 _ hK (k1.trans (k2.trans (k4.trans (k5.trans k6)))) (p1.trans (p2.trans (p4'.trans (p5'.trans p6')))) S6 ax6 ⟨_, rfl⟩
end
end
section
section
variable {g : G} {n : Nat} {sc : Sc} {vars : zAe} {cells : List C} {K' : V -> List C -> Prop}
theorem zA9 {i : Nat} {l : List D} {d : D} (hc : cells[i]? = some (.lst l)) (hz : l.length <= sizeLine) (h : K' (.d .none) (cells.set i (.lst (l ++ [d])))) : zAb g n (.stat 29) [.loc i, .d d] [] cells K' := by
  refine zAy (v := .builtin "list.append") rfl ?_
  intro A Z X ρ s Q vals rm st S ax r P
  obtain ⟨v, w, rfl, rv, rw'⟩ := r.two
  obtain ⟨a, vs, m, rfl, ha, ho, rl⟩ := zFp S rv hc
  refine zIa ho (by rw [rl.length]; exact hz) ?_
  have S2 := zIy (f := (·.push w)) (l' := l ++ [d]) S ha hc ho (by simpa using rl.append (.cons rw' .nil))
  exact P.go (s := { s with heap := _ }) h (zAa.Le.refl _) S2 ax (by simp [zAw, zA2])
theorem zNe {i : Nat} {l : List D} {d : D} (hc : cells[i]? = some (.lst (d :: l))) (hz : l.length < sizeLine) (h : K' (.d d) (cells.set i (.lst l))) : zAb g n (.stat 30) [.loc i, .d (.int 0)] [] cells K' := by
  refine zAy (v := .builtin "list.pop") rfl ?_
  intro A Z X ρ s Q vals rm st S ax r P
  obtain ⟨v, w, rfl, rv, rw'⟩ := r.two
  obtain ⟨t, rfl⟩ := zCd rw'
  obtain ⟨a, vs, m, rfl, ha, ho, rl⟩ := zFp S rv hc
  obtain ⟨y, us, rfl, ry, rus⟩ := zAk.inv rl
  have hlen := rus.length
  have S2 := zIy (f := (·.eraseIdxIfInBounds 0)) (l' := l) S ha hc ho (by simpa [Array.eraseIdxIfInBounds] using rus)
  refine call_meets PySem.F.slot_list_pop ⟨_, ho, rfl⟩ PySem.F.entry_list_pop (PySem.F.args_list_pop_2 _ _)
    (PySem.MeetsSeq.list_pop_at a (y :: us).toArray m 0 t 0 y rfl (by unfold seqIndex?; simp) (by simp) (by simp; omega)) ⟨ho, ?_⟩
  exact P.go (s := { s with heap := _ }) h (zAa.Le.refl _) S2 ax ry
theorem zTc {u : V} {xs : List Str} {x : Str} (hl : zBj u cells = some (xs.map .str)) (hx : x ∈ xs) (hz : xs.length < 1000000) (h : K' (.d (.int (xs.idxOf x : Nat))) cells) : zAb g n (.stat 31) [u, .d (.str x)] [] cells K' := by
  refine zAy (v := .builtin "list.index") rfl ?_
  intro A Z X ρ s Q vals rm st S ax r P
  obtain ⟨v, w, rfl, rv, rw'⟩ := r.two
  obtain ⟨t, rfl⟩ := zBo rw'
  obtain ⟨a, vs, m, rfl, ho, rl⟩ := zAu hl S rv
  have hlen := rl.length
  rw [Qg] at hlen
  have hj : xs.idxOf x < xs.length := List.idxOf_lt_length_iff.mpr hx
  obtain ⟨l, rfl, el⟩ := zMo rl
  let e : Value -> Bool := fun v => match v with | .str y _ => y == x | _ => false
  have at_ : ∀ j (hj : j < (strValues l).toArray.size), ∃ y t', (strValues l).toArray[j] = .str y t' /\ xs[j]? = some y := by
    intro j hj
    have hj' : j < l.length := by rw [List.size_toArray] at hj; simpa [strValues] using hj
    refine ⟨l[j].1, l[j].2, by simp [strValues], ?_⟩
    rw [← el, List.getElem?_map]
    simp [hj']
  refine call_meets PySem.F.slot_list_index ⟨_, ho, rfl⟩ PySem.F.entry_list_index (PySem.F.args_list_index_2 _ _)
    (PySem.SeqAt.list_indexAt a (strValues l).toArray m none #[] (.str x t) e (xs.idxOf x) (by rw [List.size_toArray]; omega) (by omega) ?_ ?_) ⟨ho, fun y hy => ?_, ?_⟩
  . obtain ⟨y, t', e1, e2⟩ := at_ (xs.idxOf x) (by rw [List.size_toArray]; omega)
    rw [e1]
    show (y == x) = true
    rw [Qm hj, List.getElem_idxOf hj] at e2
    cases e2; exact beq_self_eq_true _
  . intro j hjs hlt
    obtain ⟨y, t', e1, e2⟩ := at_ j hjs
    rw [e1]
    show (y == x) = false
    have hj2 : j < xs.length := by rw [List.size_toArray] at hjs; omega
    rw [Qm hj2] at e2
    cases e2
    exact beq_eq_false_iff_ne.mpr (fun q => by have h1 := List.not_of_lt_findIdx (p := (· == x)) (show j < xs.findIdx (· == x) from hlt); simp [q] at h1)
  . obtain ⟨j, hj, rfl⟩ := Array.mem_iff_getElem.mp hy
    obtain ⟨y, t', e1, e2⟩ := at_ j hj
    rw [e1]
    exact yF5 (Z := Z) S.z 0 (.str y) (.str x) A.in1 _ _ rfl (by have := (rm.un); show A.units + 1 + 0 < cLine; omega) ⟨_, rfl⟩ ⟨_, rfl⟩
  . exact zEf.now P (s := { s with toks := s.toks + 1 }) h S ax ⟨_, rfl⟩
end
end
section
section
variable {g : G} {n : Nat} {sc : Sc} {vars : zAe} {cells : List C} {K' : V -> List C -> Prop}
theorem yN7 {k : Int} (h : K' (.d (.bool (zG3.contains k))) cells) : Op g n (two (compareOp .In)) [.d (.int k), .stat 2] cells K' := by
  intro A Z X ρ s Q vals rm st S ax r P
  obtain ⟨x, y, rfl, rx, ry⟩ := r.two
  obtain ⟨t, rfl⟩ := zCd rx
  have hy : y = .ref 88 := by have : zAl[2]? = some y := ry; cases this; rfl
  subst hy
  obtain ⟨es, m, tt, hk, he, hm, hsz, hf⟩ := g.stat.b1
  have ho := st.kin S.z _ _ hk
  have hS : s.heap.SetOf (PySem.intKind pw g.w) 88 (fun k => zG3.contains k) 27 := by
    refine ⟨_, es, m, tt, ho, ⟨rfl, rfl, rfl⟩, rfl, fun e m => ?_, fun k => ?_, by rw [hsz]; decide, by rw [hsz]; exact hf, hsz⟩
    . obtain ⟨k, t, rfl⟩ := he e (by simpa using m)
      exact ⟨⟨k, by simp [PySem.intKind, Value.isInt], rfl⟩, rfl⟩
    . rw [hm k]
      constructor
      . rintro ⟨e, me, t, q⟩
        exact ⟨e, by simpa using me, by rw [q]; simp [PySem.intKind, Value.isInt]⟩
      . rintro ⟨e, me, q⟩
        obtain ⟨t, q⟩ := Value.isInt_shape q
        exact ⟨e, by simpa using me, t, q⟩
  exact wpAny_inSet_of (knd := PySem.intKind pw g.w) (by simp [PySem.intKind, Value.isInt]) rfl hS (zEf.now P (s := { s with toks := s.toks + 1 }) h S ax (yBx _))
noncomputable def yB9 : Option Str -> D
  | some x => .str x
  | none => .none
theorem zSh {k : Int} (h : K' (.d (yB9 (zJt k))) cells) : zAb g n (.stat 37) [.stat 4, .d (.int k)] [] cells K' := by
  refine zAy (v := .builtin "dict.get") rfl ?_
  intro A Z X ρ s Q vals rm st S ax r P
  obtain ⟨x, y, rfl, rx, ry⟩ := r.two
  obtain ⟨t, rfl⟩ := zCd ry
  have hx : x = .ref 99 := by have : zAl[4]? = some x := rx; cases this; rfl
  subst hx
  obtain ⟨o, hk, hc, hd, hs⟩ := g.stat.d4
  obtain ⟨f, hf, hv⟩ := g.stat.b3
  have ho := st.kin S.z _ _ hk
  have hm := (hf _ (st.kin S.z)).mapOf (prog := pw) (w := g.w) fun o' e => by rw [ho] at e; cases e; exact ⟨hd, hs⟩
  refine call_meetsIn PySem.F.slot_dict_get ⟨o, ho, hc⟩ PySem.F.entry_dict_get (PySem.F.args_dict_get_2 _ _) (meets_dict_get (PySem.intKind pw g.w) 99 (k := k) (by simp [PySem.intKind, Value.isInt]) (by decide)) ⟨f, hm, ?_⟩
  refine zEf.now P (s := { s with toks := s.toks + 1 }) h S ax ?_
  rcases hv k with ⟨e1, e2⟩ | ⟨x, t, e1, e2⟩
  . rw [e1, e2]; simp [yB9, zAw, zA2]
  . rw [e1, e2]; exact ⟨t, rfl⟩
theorem zHw {w : World} {h : Heap} {a : Addr} {m : Nat} (ho : h.get? a = some (zEs [] m)) : h.DictAt (PySem.strKind pw w) a ([] : List (Str × Value)) m := by
  refine ⟨_, #[], ho, ⟨rfl, rfl, rfl⟩, rfl, fun e he => by simp at he, .nil, List.nodup_nil⟩
theorem zKs {Z X : zAa} {ρ : List Addr} {h : Heap} {i : Nat} {a : Addr} (S : AtC cells Z X ρ h) (e1 : ρ[i]? = some a) (e : cells[i]? = some (.dict [])) : ∃ m, h.get? a = some (zEs [] m) := by
  obtain ⟨a', o, ha', ho, es, m, rfl, r⟩ := S.at e rfl
  rw [e1] at ha'; cases ha'
  have : es = [] := r
  subst this
  exact ⟨m, ho⟩
theorem zSz {i : Nat} (hc : cells[i]? = some (.dict [])) (h : K' (.ditems i) cells) : zAb g n (.stat 38) [.loc i] [] cells K' := by
  refine zAy (v := .builtin "dict.items") rfl ?_
  intro A Z X ρ s Q vals rm st S ax r P
  obtain ⟨x, rfl, a, ha, rfl⟩ := r.one
  obtain ⟨m, ho⟩ := zKs S ha hc
  have hd := zHw (w := g.w) ho
  have hne : (a == sysModules) = false := by
    obtain ⟨o, hm⟩ := g.stat.mods
    have z := S.zr i a _ ha hc rfl
    refine beq_eq_false_iff_ne.mpr ?_
    rintro rfl
    have z1 : Z 1 = none := z
    rw [st _ _ hm] at z1; cases z1
  refine call_meetsIn PySem.F.slot_dict_items ⟨_, ho, rfl⟩ PySem.F.entry_dict_items (PySem.F.args_dict_items_1 _) (meets_dict_items (PySem.strKind pw g.w) a hne) ⟨⟨[], ?_⟩, ?_⟩
  . obtain ⟨o, es, r⟩ := hd; exact ⟨o, es, m, r⟩
  . obtain ⟨S', le⟩ := S.newFrozen (o := ⟨.type "dict_items", none, .fields #[.ref a], #[]⟩) rfl
    exact P.go (s := { s with heap := _ }) h le S' ax ⟨_, a, rfl, zAa.put_self _ _ _, ha⟩
end
end
section
section
variable {g : G} {n : Nat} {sc : Sc} {vars : zAe} {cells : List C} {K' : V -> List C -> Prop} {Kn : zAe -> List C -> Prop} {Kr : V -> List C -> Prop} {Kc : zAe -> List C -> Prop}
theorem zKl {target iter : Expr} {body : List Stmt} {p : Pos} (hf : ∀ env x, foldedSetIterable iter env x = pure x)
    (h : TE g n sc iter vars cells fun u c => ∃ i, u = .ditems i /\ c[i]? = some (.dict []) /\ Kn vars c) : TS g n sc (.For target iter body [] p) vars cells Kn Kr Kc := by
  intro A env Z X R ρ bs m s Q rm en st fr S ax P
  refine wpAny_For (h A env Z X R ρ bs m s _ rm en st fr S ax ?_) (hf env)
  rintro x u c1 Z1 ρ1 s1 ⟨i, rfl, hc, hK⟩ k1 p1 S1 ax1 ⟨v, d, rfl, zv, hd⟩
  obtain ⟨m', ho⟩ := zKs S1 hd hc
  refine wpAny_pyIter_items ⟨_, S1.z _ _ zv, rfl, rfl⟩ (zHw (w := g.w) ho) ?_
  refine codeAny_forLoop_any (fun q s' => s' = { s1 with heap := s1.heap.push { cls := .type "dict_itemiterator", data := .fields #[.none, .bool false, .ref d, .int 0 0, .int ([] : List (Str × Value)).length 0, .int m' 0, .none, .none] } }) ?_ 0 rfl
  rintro q s' rfl
  refine wpAny_pyNext_items_end (i := 0) (ep := m') rm.hd (Heap.get?_push_size _ rfl) (zHw (w := g.w) (Heap.get?_push_of_some _ ho)) rfl fun h' ext => ?_
  exact wpAny_execs_nil (P.next vars c1 Z1 X ρ1 m _ hK k1 p1 (fr.mono k1 p1) ((S1.push _).extBut (fun b o hb e => ext b o hb e) (S1.fresh (Qo _))) ax1)
noncomputable def zNx {α : Type} : Nat -> Sem α -> Option α
  | 0, _ => none
  | _ + 1, .pure a => some a
  | n + 1, .rule _ k => zNx n (k ())
  | _, _ => none
theorem zH4 {α : Type} {M : Model} {A : Around} {a : α} {Q : α -> Shared -> Prop} {E : Value -> Shared -> Prop} {s : Shared} : ∀ {n : Nat} {t : Sem α}, zNx n t = some a -> Q a s -> wpAny M A t Q E s
  | 0, _, h, _ => nomatch h
  | n + 1, t, h, q => by
    induction t with
    | pure b => cases h; exact Qb q
    | rule x k =>
      intro Γ p hΓ
      rw [Sem.wp_rule]
      exact zH4 (M := M) (A := A) (E := E) (n := n) h q Γ p hΓ
    | _ => exact nomatch h
noncomputable def reM (pat x : Str) : Sem (Option Sre.M) := Builtin.Re.reRunToEnd (Sre.forSearch (List.toArray (zK6 pat)) x.cps 0 0 x.cps.size false)
noncomputable def zD4 (pat x : Str) : Bool := match zNx 200 (reM pat x) with
  | some none => true
  | _ => false
theorem zXn {pat x : Str} (h : zD4 pat x = true) : zNx 200 (reM pat x) = some none := by
  unfold zD4 at h
  generalize zNx 200 (reM pat x) = r at h ⊢
  induction r with
  | none => exact (Qw h).elim
  | some r => induction r with
    | none => rfl
    | some => exact (Qw h).elim
theorem zIq : entryFor table "re.Pattern.search" = some Builtin.«re.Pattern.search» := entryFor_of_tree (by kernel_rfl)
theorem zJa (a b : Value) : argsOk "re.Pattern.search" ⟨[a, b], []⟩ := by unfold argsOk; kernel_rfl
theorem zN6 (x : Value) : Builtin.Re.reNamed "re.Pattern.search" "search" ["string", "pos", "endpos"] 1 [x] [] = pure [some x, none, none] := by kernel_rfl
theorem zXz (l : List Nat) : (((l.map fun (c : Nat) => Value.int (c : Int) 0).toArray).map Builtin.Re.reRawOf).map (·.toNat) = l.toArray := by
  apply Array.ext'
  simp only [Array.toList_map, List.map_map]
  induction l with
  | nil => rfl
  | cons a l ih => simp [Builtin.Re.reRawOf]; exact ih
theorem zJe {k : Nat} {pat x : Str} (hk : (k = 7 /\ pat = "_name_disallowed_re") ∨ (k = 8 /\ pat = "_value_disallowed_re")) (hr : zD4 pat x = true) (hz : x.cps.size < 1000000) (h : K' (.d .none) cells) : zAb g n (.stat 39) [.stat k, .d (.str x)] [] cells K' := by
  refine zAy (v := .builtin "re.Pattern.search") rfl ?_
  intro A Z X ρ s Q vals rm st S ax r P
  obtain ⟨v, w, rfl, rv, rw'⟩ := r.two
  obtain ⟨t, rfl⟩ := zBo rw'
  have X' := st.kin S.z
  have key : ∃ a b f0 f1 f3 f4, v = .ref a /\ s.heap.get? a = some ⟨.type "re.Pattern", none, .fields #[f0, f1, .int 0 0, f3, f4, .ref b, .int 0 0], #[]⟩ /\ s.heap.get? b = some (zFj ((zK6 pat).map fun (c : Nat) => .int (c : Int) 0) 0) := by
    rcases hk with ⟨rfl, rfl⟩ | ⟨rfl, rfl⟩
    . obtain ⟨f0, f1, f3, f4, ho⟩ := g.stat.pat7
      exact ⟨154, 153, f0, f1, f3, f4, by have : zAl[7]? = some v := rv; cases this; rfl, X' _ _ ho, X' _ _ g.stat.code7⟩
    . obtain ⟨f0, f1, f3, f4, ho⟩ := g.stat.pat8
      exact ⟨159, 158, f0, f1, f3, f4, by have : zAl[8]? = some v := rv; cases this; rfl, X' _ _ ho, X' _ _ g.stat.code8⟩
  obtain ⟨a, b, f0, f1, f3, f4, rfl, ho, hb⟩ := key
  refine wpAny_call_entry zC8 ⟨_, ho, rfl⟩ zIq ?_ (zJa _ _)
  show wpAny _ _ (Builtin.Re.reTarget "re.Pattern.search" "search" ⟨[.ref a, .str x t], []⟩ >>= fun t => Builtin.Re.reAnswer t (Sre.forSearch t.code t.text t.groups t.pos t.lim false)) _ _ _
  unfold Builtin.Re.reTarget
  dsimp only
  rw [zN6]
  refine Qa (Qa (Qb ?_))
  refine Qa (Qb (Qa (Qb (Qa (wpAny_fieldsOf ho rfl ?_)))))
  refine Qa (m := Builtin.Re.reTextOf _) (Qb ?_)
  have e6 : Builtin.Re.reRawNat (#[f0, f1, Value.int 0 0, f3, f4, Value.ref b, Value.int 0 0].getD 6 Value.none) = 0 := rfl
  rw [if_neg (by rw [e6]; exact Qw), if_neg (by rw [e6]; exact Qw)]
  refine Qa (m := Builtin.Re.reNoCollectionInside _ _) (Qb ?_)
  refine Qa (m := Builtin.Re.reRawItems _) ?_
  show wpAny _ _ (seqItems? (.ref b) >>= fun v => pure ((v.getD #[]).map Builtin.Re.reRawOf)) _ _ _
  refine Qa (wpAny_seqItems hb rfl (Qb (Qb ?_)))
  dsimp only [Option.getD_some]
  rw [zXz, show min (2 ^ 63 - 1 : Int).toNat x.cps.size = x.cps.size by omega]
  show wpAny _ _ (reM pat x >>= fun v => match v with
    | some m => _
    | none => ret .none) _ _ _
  refine Qa (zH4 (zXn hr) ?_)
  exact Qb ⟨.none, rfl, zEf.now P h S ax (by simp [zAw, zA2])⟩
noncomputable def zBd : List Str := (["a", "b", "c", "d", "e", "A", "B", "C", "D", "E"] : List Str) ++ (["b", "c", "d", "e"] : List Str).flatMap fun t => (["", "'", "'x'", ⟨#[700, 110]⟩, " \"", "\\", "' ", "'\\"] : List Str).map fun n => t ++ n
end
end
section
noncomputable def zF9 {α : Type} (c : Nat -> Nat -> Bool) : KasT α -> α
  | .ret a => a
  | .ask i j k => zF9 c (k (c i j))
theorem zN8 {α β : Type} (c : Nat -> Nat -> Bool) : ∀ (t : KasT α) (f : α -> KasT β), zF9 c (t.bind f) = zF9 c (f (zF9 c t))
  | .ret _, _ => rfl
  | .ask i j k, f => zN8 c (k (c i j)) f
theorem zE2 {α : Type} {c : Nat -> Nat -> Bool} {i j : Nat} {b : Bool} {k : Bool -> KasT α} {r : α} (h : c i j = b) (e : zF9 c (k b) = r) : zF9 c (.ask i j k) = r := by subst h; exact e
theorem zDs {α β : Type} {c : Nat -> Nat -> Bool} {t : KasT α} {f : α -> KasT β} {a : α} {r : β} (h : zF9 c t = a) (e : zF9 c (f a) = r) : zF9 c (t.bind f) = r := by subst h; rw [zN8]; exact e
theorem zLl {α : Type} {c : Nat -> Nat -> Bool} {p : Prop} [Decidable p] {x y : KasT α} {r : α} (h : p) (e : zF9 c x = r) : zF9 c (if p then x else y) = r := by rw [if_pos h]; exact e
theorem zG4 {α : Type} {c : Nat -> Nat -> Bool} {p : Prop} [Decidable p] {x y : KasT α} {r : α} (h : ¬p) (e : zF9 c y = r) : zF9 c (if p then x else y) = r := by rw [if_neg h]; exact e
theorem yPf {O : KeyOrd} {a : Nat -> O.α} {n : Nat} (h : ∀ i j, i <= j -> j < n -> O.kle (a i) (a j)) (hn : 1 <= n) (hc : O.kle (a (n - 1)) (a n)) : ∀ i j, i <= j -> j < n + 1 -> O.kle (a i) (a j) := by
  intro i j hij hj
  by_cases hjn : j < n
  . exact h i j hij hjn
  . have : j = n := by omega
    subst this
    by_cases hi : i = j
    . subst hi; exact KeyOrd.kle_refl _
    . exact KeyOrd.kle_trans (h i (j - 1) (by omega) (by omega)) hc
theorem zR4 {O : KeyOrd} {a : Nat -> O.α} {n : Nat} (h : ∀ i j, i <= j -> j < n -> O.kle (a j) (a i)) (hn : 1 <= n) (hc : O.kle (a n) (a (n - 1))) : ∀ i j, i <= j -> j < n + 1 -> O.kle (a j) (a i) := by
  intro i j hij hj
  by_cases hjn : j < n
  . exact h i j hij hjn
  . have : j = n := by omega
    subst this
    by_cases hi : i = j
    . subst hi; exact KeyOrd.kle_refl _
    . exact KeyOrd.kle_trans hc (h i (j - 1) (by omega) (by omega))
section
variable {O : KeyOrd} {key : Nat -> O.α}
noncomputable def zRs (O : KeyOrd) (key : Nat -> O.α) (i j : Nat) : Bool := O.blt (key i) (key j)
noncomputable def kq (O : KeyOrd) (key : Nat -> O.α) (p : Array Nat) (i : Nat) : O.α := key (p.getD i 0)
def Srt (O : KeyOrd) (key : Nat -> O.α) (p : Array Nat) (k : Nat) : Prop := ∀ i j, i <= j -> j < k -> O.kle (kq O key p i) (kq O key p j)
def Non (O : KeyOrd) (key : Nat -> O.α) (p : Array Nat) (k : Nat) : Prop := ∀ i j, i <= j -> j < k -> O.kle (kq O key p j) (kq O key p i)
theorem zGs {p q : Array Nat} {i j : Nat} (h : p[i]? = q[j]?) : kq O key p i = kq O key q j := by
  unfold kq; rw [Array.getD_eq_getD_getElem?, Array.getD_eq_getD_getElem?, h]
theorem zJn {p : Array Nat} {i j : Nat} (hj : j <= p.size) (k : Nat) : kq O key (kas_rev p i j) k = if i <= k /\ k < j then kq O key p (i + j - 1 - k) else kq O key p k := by
  have e := getElem?_mirror_all (i := i) hj k
  by_cases h1 : i <= k /\ k < j
  . rw [if_pos h1] at e ⊢; exact zGs e
  . rw [if_neg h1] at e ⊢; exact zGs e
theorem zOk {p : Array Nat} {src d : Nat} (hs : src < p.size) (hd : d <= src) (k : Nat) :
    kq O key (bubble p src d) k = if k = src - d then kq O key p src else if src - d < k /\ k <= src then kq O key p (k - 1) else kq O key p k := by
  have e := getElem?_bubble hs d hd k
  by_cases h1 : k = src - d
  . rw [if_pos h1] at e ⊢; exact zGs e
  . rw [if_neg h1] at e ⊢
    by_cases h2 : src - d < k /\ k <= src
    . rw [if_pos h2] at e ⊢; exact zGs e
    . rw [if_neg h2] at e ⊢; exact zGs e
theorem zDb {p : Array Nat} {i j : Nat} (hj : j <= p.size) (heq : ∀ k, i <= k -> k < j -> kq O key p k = kq O key p (j - 1)) (k : Nat) : kq O key (kas_rev p i j) k = kq O key p k := by
  rw [zJn hj]
  split
  . rw [heq _ (by omega) (by omega), heq k (by omega) (by omega)]
  . rfl
theorem zXj {p : Array Nat} : ∀ (f n : Nat), 1 <= n -> Srt O key p n -> ∃ m, A5 (zF9 (zRs O key) (kas_asc p f n) = m) (n <= m) (m <= n + f) (Srt O key p m) ((m = n + f ∨ O.klt (kq O key p m) (kq O key p (m - 1)))) := by
  intro f
  induction f with
  | zero =>
    rintro n _ h
    exact ⟨n, rfl, Qo _, Qo _, h, .inl rfl⟩
  | succ f ih =>
    rintro n h1 h
    cases hc : zRs O key (p.getD n 0) (p.getD (n - 1) 0)
    . obtain ⟨m, e, a, b, s, d⟩ := ih (n + 1) (by omega) (yPf h h1 hc)
      exact ⟨m, zE2 hc e, by omega, by omega, s, d.imp (fun d => by omega) id⟩
    . exact ⟨n, zE2 hc rfl, Qo _, by omega, h, .inr hc⟩
theorem yB5 {sz : Nat} : ∀ (f : Nat) (p : Array Nat) (n q : Nat), p.size = sz -> 1 <= n -> n + f <= sz -> Non O key p n -> q + 1 <= n -> (∀ i, n - (q + 1) <= i -> i < n -> kq O key p i = kq O key p (n - 1)) ->
    E3 fun p' m q' => A7 (zF9 (zRs O key) (kas_desc f p n q) = (p', m, q')) (p'.Perm p) (n <= m) (m <= n + f) (Non O key p' m) (q' + 1 <= m) ((∀ i, m - (q' + 1) <= i -> i < m -> kq O key p' i = kq O key p' (m - 1))) := by
  intro f
  induction f with
  | zero =>
    rintro p n q hs h1 hf h hq he
    exact ⟨p, n, q, rfl, Array.Perm.refl _, Qo _, Qo _, h, hq, he⟩
  | succ f ih =>
    rintro p n q hs h1 hf h hq he
    have le1 : n + (f + 1) = n + 1 + f := by omega
    cases hc : zRs O key (p.getD n 0) (p.getD (n - 1) 0)
    . cases hd : zRs O key (p.getD (n - 1) 0) (p.getD n 0)
      . have heqx : kq O key p n = kq O key p (n - 1) := KeyOrd.kle_antisymm hd hc
        obtain ⟨p', m, q', e, pp, a, b, s, x, y⟩ := ih p (n + 1) (q + 1) hs (by omega) (by omega) (zR4 h h1 (heqx ▸ KeyOrd.kle_refl _)) (by omega) (fun i a1 a2 => by
          rw [show n + 1 - 1 = n from rfl]
          by_cases hi : i = n
          . subst hi; rfl
          . rw [heqx]; exact he i (by omega) (by omega))
        exact ⟨p', m, q', zE2 hc (zE2 hd e), pp, Nat.le_of_succ_le a, le1 ▸ b, s, x, y⟩
      . exact ⟨p, n, q, zE2 hc (zE2 hd rfl), Array.Perm.refl _, Qo _, Nat.le_add_right _ _, h, hq, he⟩
    . have step : Non O key p (n + 1) := zR4 h h1 (KeyOrd.kle_of_klt hc)
      have last : ∀ {a : Array Nat} (i : Nat), n + 1 - (0 + 1) <= i -> i < n + 1 -> kq O key a i = kq O key a (n + 1 - 1) := fun i a1 a2 => by congr 1; omega
      by_cases hq0 : q > 0
      . have hk := fun k => zDb (O := O) (key := key) (p := p) (i := n - (q + 1)) (j := n) (by omega) he k
        obtain ⟨p', m, q', e, pp, a, b, s, x, y⟩ := ih (kas_rev p (n - (q + 1)) n) (n + 1) 0 ((mirror_size _ _ _ _).trans hs) (by omega) (by omega) (fun i j hij hj => by rw [hk, hk]; exact step i j hij hj) (by omega) last
        exact ⟨p', m, q', zE2 hc (zLl rfl (zLl hq0 e)), pp.trans (mirror_perm _ _ _ _), Nat.le_of_succ_le a, le1 ▸ b, s, x, y⟩
      . obtain ⟨p', m, q', e, pp, a, b, s, x, y⟩ := ih p (n + 1) 0 hs (by omega) (by omega) step (by omega) last
        exact ⟨p', m, q', zE2 hc (zLl rfl (zG4 hq0 e)), pp, Nat.le_of_succ_le a, le1 ▸ b, s, x, y⟩
theorem zN2 {n N : Nat} {p : Array Nat} (hs : N <= p.size) (h1 : 1 <= n) (hn : n <= N) (h : Non O key p n) :
    ∃ m p', zF9 (zRs O key) (kas_tail3 n N p) = (m, p') /\ p'.Perm p /\ 1 <= m /\ m <= N /\ Srt O key p' m := by
  obtain ⟨m, e, a, b, s, _⟩ := zXj (O := O) (key := key) (p := kas_rev p 0 n) (N - n) n h1 (fun i j hij hj => by
    rw [zJn (by omega), zJn (by omega), if_pos (by omega), if_pos (by omega)]
    exact h _ _ (by omega) (by omega))
  exact ⟨m, _, zDs e rfl, mirror_perm _ _ _ _, by omega, by omega, s⟩
theorem zIe {n N : Nat} {p : Array Nat} (hs : N = p.size) (h1 : 1 <= n) (hn : n + 1 <= N) (h : Non O key p (n + 1)) :
    ∃ m p', zF9 (zRs O key) (kas_descPart n N p) = (m, p') /\ p'.Perm p /\ 1 <= m /\ m <= N /\ Srt O key p' m := by
  obtain ⟨p', m, q', e, pp, a, b, s, x, y⟩ := yB5 (O := O) (key := key) (sz := N) (N - (n + 1)) p (n + 1) 0 hs.symm (by omega) (by omega) h (by omega) (fun i a1 a2 => by congr 1; omega)
  have sz : p'.size = N := pp.size_eq.trans hs.symm
  have hm : 1 <= m /\ m <= N := by omega
  by_cases hq : q' > 0
  . have hk := fun k => zDb (O := O) (key := key) (p := p') (i := m - (q' + 1)) (j := m) (by omega) y k
    obtain ⟨m', p'', e', pp', r⟩ := zN2 (O := O) (key := key) (n := m) (N := N) (p := kas_rev p' (m - (q' + 1)) m) (by rw [kas_rev_size, sz]; exact Qo _) hm.1 hm.2 (fun i j hij hj => by
      rw [hk, hk]; exact s i j hij hj)
    exact ⟨m', p'', zDs e (zLl hq e'), (pp'.trans (mirror_perm _ _ _ _)).trans pp, r⟩
  . obtain ⟨m', p'', e', pp', r⟩ := zN2 (O := O) (key := key) (n := m) (N := N) (p := p') (by rw [sz]; exact Qo _) hm.1 hm.2 s
    exact ⟨m', p'', zDs e (zG4 hq e'), pp'.trans pp, r⟩
theorem zXy {N : Nat} {p : Array Nat} (hs : N = p.size) (h1 : 1 <= N) : ∃ m p', zF9 (zRs O key) (kas_count N p) = (m, p') /\ p'.Perm p /\ 1 <= m /\ m <= N /\ Srt O key p' m := by
  obtain ⟨n, e, a, b, s, d⟩ := zXj (O := O) (key := key) (p := p) (N - 1) 1 (Qo _) (fun i j hij hj => by
    have : i = j := by omega
    subst this
    exact KeyOrd.kle_refl _)
  by_cases hn : (n == N) = true
  . exact ⟨n, p, zDs e (zLl hn rfl), Array.Perm.refl _, a, by omega, s⟩
  . have hne : n ≠ N := fun h => hn (beq_iff_eq.mpr h)
    have hlt : O.klt (kq O key p n) (kq O key p (n - 1)) := d.resolve_left (by omega)
    by_cases hg : n > 1
    . cases hc : zRs O key (p.getD 0 0) (p.getD (n - 1) 0)
      . have hall : ∀ k, 0 <= k -> k < n -> kq O key p k = kq O key p (n - 1) := by
          intro k _ hk
          exact KeyOrd.kle_antisymm (s k (n - 1) (by omega) (by omega)) (KeyOrd.kle_trans hc (s 0 k (by omega) hk))
        have hk := fun k => zDb (O := O) (key := key) (p := p) (i := 0) (j := n) (by omega) hall k
        obtain ⟨m, p', e', pp, r⟩ := zIe (O := O) (key := key) (n := n) (N := N) (p := kas_rev p 0 n) (by rw [kas_rev_size]; exact hs) a (by omega) (fun i j hij hj => by
          rw [hk, hk]
          exact zR4 (a := kq O key p) (fun i j hij hj => by rw [hall i (by omega) (by omega), hall j (by omega) hj]; exact KeyOrd.kle_refl _) a (KeyOrd.kle_of_klt hlt) i j hij hj)
        exact ⟨m, p', zDs e (zG4 hn (zLl hg (zE2 hc e'))), pp.trans (mirror_perm _ _ _ _), r⟩
      . exact ⟨n, p, zDs e (zG4 hn (zLl hg (zE2 hc rfl))), Array.Perm.refl _, a, by omega, s⟩
    . have hn1 : n = 1 := by omega
      subst hn1
      obtain ⟨m, p', e', r⟩ := zIe hs (Qo 1) (by omega) (zR4 (a := kq O key p) (n := 1) (fun i j hij hj => by rw [show i = j by omega]; exact KeyOrd.kle_refl _) (Qo _) (KeyOrd.kle_of_klt hlt))
      exact ⟨m, p', zDs e (zG4 hn (zG4 hg e')), r⟩
theorem zV7 {p : Array Nat} {k : Nat} (hs : Srt O key p k) : ∀ (f l r : Nat), l <= r -> r <= k -> r - l <= f -> (∀ i, i < l -> O.kle (kq O key p i) (kq O key p k)) -> (∀ i, r <= i -> i < k -> O.klt (kq O key p k) (kq O key p i)) ->
    ∃ m, zF9 (zRs O key) (kas_place p k f l r) = m /\ m <= k /\ (∀ i, i < m -> O.kle (kq O key p i) (kq O key p k)) /\ (∀ i, m <= i -> i < k -> O.klt (kq O key p k) (kq O key p i)) := by
  intro f
  induction f with
  | zero =>
    rintro l r hlr hrk hf hl hr
    exact ⟨l, rfl, by omega, hl, fun i a b => hr i (by omega) b⟩
  | succ f ih =>
    rintro l r hlr hrk hf hl hr
    by_cases hge : l ≥ r
    . exact ⟨l, zLl hge rfl, by omega, hl, fun i a b => hr i (by omega) b⟩
    . have hm : (l + r) / 2 < r /\ l <= (l + r) / 2 := by omega
      cases hc : zRs O key (p.getD k 0) (p.getD ((l + r) / 2) 0)
      . obtain ⟨m, e, x⟩ := ih ((l + r) / 2 + 1) r hm.1 hrk (by omega) (fun i hi => KeyOrd.kle_trans (hs i ((l + r) / 2) (by omega) (by omega)) (show O.kle _ _ from hc)) hr
        exact ⟨m, zG4 hge (zE2 hc e), x⟩
      . obtain ⟨m, e, x⟩ := ih l ((l + r) / 2) hm.2 (by omega) (by omega) hl fun i a b => KeyOrd.klt_of_klt_of_kle hc (hs _ _ a b)
        exact ⟨m, zG4 hge (zE2 hc e), x⟩
theorem yFl : ∀ (f : Nat) (p : Array Nat) (k : Nat), k + f <= p.size -> Srt O key p k -> ∃ p', zF9 (zRs O key) (kas_bin f p k) = p' /\ p'.Perm p /\ Srt O key p' (k + f) := by
  intro f
  induction f with
  | zero =>
    rintro p k _ h
    exact ⟨p, rfl, Array.Perm.refl _, h⟩
  | succ f ih =>
    rintro p k hz h
    obtain ⟨l, e, hlk, hlo, hhi⟩ := zV7 h k 0 k (by omega) (by omega) (by omega) (fun i hi => by omega) (fun i a b => by omega)
    obtain ⟨p', e', pp, s⟩ := ih (bubble p k (k - l)) (k + 1) (by rw [bubble_size]; omega) (by
      intro i j hij hj
      rw [zOk (by omega) (by omega), zOk (by omega) (by omega), show k - (k - l) = l by omega]
      repeat' split
      all_goals first
        | (exfalso; omega)
        | exact KeyOrd.kle_refl _
        | exact hlo _ (by omega)
        | exact KeyOrd.kle_of_klt (hhi _ (by omega) (by omega))
        | exact h _ _ (by omega) (by omega))
    exact ⟨p', zDs e e', pp.trans (bubble_perm _ _ _), by rw [show k + (f + 1) = k + 1 + f by omega]; exact s⟩
theorem yAm (N : Nat) (h1 : 1 <= N) : ∃ p', zF9 (zRs O key) (kas_sort N) = p' /\ p'.Perm (List.toArray (List.range N)) /\ Srt O key p' N := by
  have hz : N = (List.toArray (List.range N)).size := by rw [List.size_toArray, List.length_range]
  obtain ⟨m, p', e, pp, a, b, s⟩ := zXy (O := O) (key := key) (N := N) (p := List.toArray (List.range N)) hz h1
  have sz := pp.size_eq.trans hz.symm
  by_cases hm : m < N
  . have mx : max m 1 = m := by omega
    obtain ⟨p'', e', pp', s'⟩ := yFl (O := O) (key := key) (N - max m 1) p' (max m 1) (by omega) (mx.symm ▸ s)
    exact ⟨p'', zDs e (zLl hm e'), pp'.trans pp, by rw [show N = max m 1 + (N - max m 1) by omega]; exact s'⟩
  . exact ⟨p', zDs e (zG4 hm rfl), pp, by rw [show N = m by omega]; exact s⟩
end
end
section
def InR {α : Type} (N : Nat) (P : α -> Prop) : KasT α -> Prop
  | .ret a => P a
  | .ask i j k => i < N /\ j < N /\ ∀ b, InR N P (k b)
theorem InR.bind {α β : Type} {N : Nat} {P : α -> Prop} {P' : β -> Prop} : ∀ {t : KasT α} {f : α -> KasT β}, InR N P t -> (∀ a, P a -> InR N P' (f a)) -> InR N P' (t.bind f)
  | .ret a, _, h, hf => hf a h
  | .ask _ _ _, _, h, hf => ⟨h.1, h.2.1, fun b => InR.bind (h.2.2 b) hf⟩
theorem InR.mono {α : Type} {N : Nat} {P P' : α -> Prop} (hp : ∀ a, P a -> P' a) : ∀ {t : KasT α}, InR N P t -> InR N P' t
  | .ret a, h => hp a h
  | .ask _ _ _, h => ⟨h.1, h.2.1, fun b => InR.mono hp (h.2.2 b)⟩
def EnR (N : Nat) (p : Array Nat) : Prop := ∀ k, p.getD k 0 < N
theorem yCs {N : Nat} {p q : Array Nat} (h0 : 0 < N) (h : EnR N q) (hp : p.Perm q) : EnR N p := by
  intro k
  rw [Array.getD_eq_getD_getElem?]
  induction e : p[k]? with
  | none => exact h0
  | some x =>
    have hx : x ∈ q := hp.mem_iff.mp (Array.mem_of_getElem? e)
    obtain ⟨j, hj, rfl⟩ := Array.mem_iff_getElem.mp hx
    have := h j
    rw [Array.getD_eq_getD_getElem?, Array.getElem?_eq_getElem hj] at this
    exact this
section
variable {N : Nat} (h0 : 0 < N)
include h0
theorem yCq {p : Array Nat} (h : EnR N p) : ∀ (f n : Nat), InR N (fun _ => True) (kas_asc p f n) := by
  intro f
  induction f with
  | zero =>
    rintro _
    exact trivial
  | succ f ih =>
    rintro n
    exact ⟨h _, h _, fun b => by
    show InR N _ (if b = true then KasT.ret n else kas_asc p f (n + 1))
    split
    . trivial
    . exact ih (n + 1)⟩
theorem zOi {p : Array Nat} (h : EnR N p) (i j : Nat) : EnR N (kas_rev p i j) := yCs h0 h (mirror_perm _ _ _ _)
theorem yEx : ∀ (f : Nat) (p : Array Nat) (n q : Nat), EnR N p -> InR N (fun r => EnR N r.1) (kas_desc f p n q) := by
  intro f
  induction f with
  | zero =>
    rintro _ _ _ h
    exact h
  | succ f ih =>
    rintro p n q h
    exact ⟨h _, h _, fun b => by
    show InR N _ (if b = true then (if q > 0 then kas_desc f (kas_rev p (n - (q + 1)) n) (n + 1) 0 else kas_desc f p (n + 1) 0)
      else .ask (p.getD (n - 1) 0) (p.getD n 0) fun d => if d = true then .ret (p, n, q) else kas_desc f p (n + 1) (q + 1))
    split
    . split
      . exact ih _ _ _ (zOi h0 h _ _)
      . exact ih _ _ _ h
    . refine ⟨h _, h _, fun d => ?_⟩
      show InR N _ (if d = true then .ret (p, n, q) else kas_desc f p (n + 1) (q + 1))
      split
      . exact h
      . exact ih _ _ _ h⟩
theorem zR2 {p : Array Nat} (h : EnR N p) (n M : Nat) : InR N (fun r => EnR N r.2) (kas_tail3 n M p) :=
  (yCq h0 (zOi h0 h _ _) _ _).bind fun m _ => zOi h0 h _ _
theorem zJg {p : Array Nat} (h : EnR N p) (n M : Nat) : InR N (fun r => EnR N r.2) (kas_descPart n M p) :=
  (yEx h0 _ _ _ _ h).bind fun r hr => by
    split
    . exact zR2 h0 (zOi h0 hr _ _) _ _
    . exact zR2 h0 hr _ _
theorem yA0 {p : Array Nat} (h : EnR N p) (M : Nat) : InR N (fun r => EnR N r.2) (kas_count M p) :=
  (yCq h0 h _ _).bind fun n _ => by
    split
    . exact h
    . split
      . refine ⟨h _, h _, fun c => ?_⟩
        show InR N _ (if c = true then KasT.ret (n, p) else kas_descPart n M (kas_rev p 0 n))
        split
        . exact h
        . exact zJg h0 (zOi h0 h _ _) _ _
      . exact zJg h0 h _ _
theorem zZm {p : Array Nat} (h : EnR N p) (k : Nat) : ∀ (f l r : Nat), InR N (fun _ => True) (kas_place p k f l r) := by
  intro f
  induction f with
  | zero =>
    rintro _ _
    exact trivial
  | succ f ih =>
    rintro l r
    unfold kas_place
    split
    . trivial
    . refine ⟨h _, h _, fun c => ?_⟩
      show InR N _ (if c = true then kas_place p k f l ((l + r) / 2) else kas_place p k f ((l + r) / 2 + 1) r)
      split
      . exact ih _ _
      . exact ih _ _
theorem yLo : ∀ (f : Nat) (p : Array Nat) (k : Nat), EnR N p -> InR N (fun _ => True) (kas_bin f p k) := by
  intro f
  induction f with
  | zero =>
    rintro _ _ _
    exact trivial
  | succ f ih =>
    rintro p k h
    exact (zZm h0 h k _ _ _).bind fun l _ => ih _ _ (yCs h0 h (bubble_perm _ _ _))
theorem zUj : InR N (fun _ => True) (kas_sort N) := by
  have h : EnR N (List.toArray (List.range N)) := by
    intro k
    rw [Array.getD_eq_getD_getElem?]
    by_cases hk : k < N
    . simp [hk]
    . simp [hk, h0]
  exact (yA0 h0 h N).bind fun r hr => by
    split
    . exact yLo h0 _ _ _ hr
    . trivial
end
theorem zNj {α : Type} {N : Nat} {P : α -> Prop} {c : Nat -> Nat -> Bool} {cmp : Nat -> Nat -> (Bool -> Shared -> Prop) -> Shared -> Prop} {s : Shared} (hc : ∀ i j (C : Bool -> Shared -> Prop), i < N -> j < N -> C (c i j) s -> cmp i j C s) :
    ∀ {t : KasT α} {Q : α -> Shared -> Prop}, InR N P t -> Q (zF9 c t) s -> t.kasWp cmp Q s
  | .ret _, _, _, q => q
  | .ask i j k, Q, h, q => hc i j _ h.1 h.2.1 (zNj hc (h.2.2 _) q)
end
section
noncomputable def zFg (c : Nat -> Nat -> Bool) (vs : List Value) : List Value := if vs.length < 2 then vs else (zF9 c (kas_sort vs.length)).toList.map fun i => vs.getD i Value.none
theorem yEt (vs : List Value) : (vs.toArray.zip vs.toArray).map (·.2) = vs.toArray := by
  apply Array.ext'
  rw [Array.toList_map, Array.toList_zip]
  exact List.map_snd_zip (Qo _)
section
variable {prog : Program} {w : World} {A : Around} {E : Value -> Shared -> Prop} {s : Shared} {vs : List Value} {T : Value} {c : Nat -> Nat -> Bool}
theorem zUq {a : Addr} {n : Nat} {P : PySem.Fin -> Shared -> Prop} (ho : s.heap.get? a = some (seqObj "list" vs.toArray n)) (h64 : vs.length < 64)
    (hT : ∀ h', (∀ b o, b ≠ a -> s.heap.get? b = some o -> h'.get? b = some o) -> ∀ v ∈ vs, Looks (model prog w) h' (typeOf v) T) (hT1 : (T != Value.type "tuple") = true) (hT2 : (T == T) = true)
    (hc : ∀ (s' : Shared), (∀ b o, b ≠ a -> s.heap.get? b = some o -> s'.heap.get? b = some o) -> ∀ i j (C : Bool -> Shared -> Prop), i < vs.length -> j < vs.length -> C (c i j) s' -> kas_ask prog w A oneType' vs i j C s')
    (h : ∀ h' m, (∀ b o, b ≠ a -> s.heap.get? b = some o -> h'.get? b = some o) -> h'.get? a = some (seqObj "list" (zFg c vs).toArray m) -> P (.done (.ret .none)) { s with heap := h' }) :
    wpAny (model prog w) A (Builtin.«list.sort» ⟨[.ref a], []⟩) P E s := by
  have ha : a < s.heap.objs.size := Heap.lt_size ho
  have keep1 : ∀ b o, b ≠ a -> s.heap.get? b = some o -> (((s.heap.update a (Obj.mapSeq fun _ => (#[] : Array Value))).push (seqObj "tuple" vs.toArray 0)).push (seqObj "list" #[] 0)).get? b = some o :=
    fun b o hb e => Heap.get?_push_of_some _ (Heap.get?_push_of_some _ ((Heap.get?_update_other _ _ (Ne.symm hb)).trans e))
  obtain ⟨e1, ho1⟩ : ∃ e1, (s.heap.update a (Obj.mapSeq fun _ => (#[] : Array Value))).get? a = some (seqObj "list" #[] e1) := ⟨_, get?_update_seq ho fun _ => #[]⟩
  have ho2 : (((s.heap.update a (Obj.mapSeq fun _ => (#[] : Array Value))).push (seqObj "tuple" vs.toArray 0)).push (seqObj "list" #[] 0)).get? a = some (seqObj "list" #[] e1) := Heap.get?_push_of_some _ (Heap.get?_push_of_some _ ho1)
  rw [list_sort_plain]
  refine Qa (listItems_at ho rfl ?_)
  refine Qa (listUpdate_at ho rfl ?_ (by rw [List.size_toArray, sizeLine_eq]; omega) (Qx _))
  refine Qa (seqEpoch_at ho1 rfl ?_)
  refine Qa (wpAny_newTuple ?_ (by show vs.length <= _; rw [sizeLine_eq]; omega))
  refine Qa (wpAny_newList ?_ (Qx _))
  refine Qc ?_
  show wpAny (model prog w) A _ P E { s with heap := ((s.heap.update a (Obj.mapSeq fun _ => #[])).push (seqObj "tuple" vs.toArray 0)).push (seqObj "list" #[] 0) }
  dsimp only
  have hsz : vs.toArray.size = vs.length := by simp
  have zsnd := yEt vs
  have fin : ∀ (out : Array Value), out.size = vs.length -> zFg c vs = out.toList -> P (.done (.ret .none)) { s with heap := (((s.heap.update a (Obj.mapSeq fun _ => (#[] : Array Value))).push (seqObj "tuple" vs.toArray 0)).push (seqObj "list" #[] 0)).update a (Obj.mapSeq fun _ => out) } := by
    intro out hl hs
    have g := get?_update_seq ho2 fun _ => out
    generalize (if (out.size == (#[] : Array Value).size) = true then e1 else e1 + 1) = m0 at g
    have eo : (zFg c vs).toArray = out := by rw [hs]
    exact h _ m0 (fun b o hb e => (Heap.get?_update_other _ _ (Ne.symm hb)).trans (keep1 b o hb e)) (by rw [eo]; exact g)
  by_cases h2 : vs.toArray.size < 2
  . rw [if_pos h2, if_pos h2]
    refine Qa (Qb ?_)
    rw [StateT.run_pure]
    refine Qa (Qb ?_)
    dsimp only
    have e0 : (arrOf (SortSt.mk' general' (vs.toArray.zip vs.toArray) #[] 7 none)).map (·.2) = vs.toArray := zsnd
    refine Qa (seqEpoch_at ho2 rfl ?_)
    refine Qa (listUpdate_at ho2 rfl ?_ (Qx _) (by rw [e0, sizeLine_eq]; omega))
    simp only [bne_self_eq_false, Bool.false_eq_true, if_false]
    rw [e0]
    exact Qb (fin _ hsz (by unfold zFg; rw [if_pos (by omega)]))
  . rw [if_neg h2, if_neg h2]
    have h2' : 2 <= vs.length := by omega
    refine Qa (kas_kind h2' (hT _ keep1) hT1 hT2 ?_)
    have est : SortSt.mk' oneType' (vs.toArray.zip vs.toArray) #[] 7 none = kas_st oneType' (pairsOf vs) (List.toArray (List.range vs.length)) := by
      have e := kas_range (pairsOf vs)
      rw [pairsOf_size] at e
      show SortSt.mk' oneType' (pairsOf vs) #[] 7 none = SortSt.mk' oneType' ((List.toArray (List.range vs.length)).map (kas_item (pairsOf vs))) #[] 7 none
      rw [e]
    have ask := zNj (cmp := kas_ask prog w A oneType' vs) (hc { s with heap := ((s.heap.update a (Obj.mapSeq fun _ => (#[] : Array Value))).push (seqObj "tuple" vs.toArray 0)).push (seqObj "list" #[] 0) } keep1)
      (Q := fun p s' => s' = { s with heap := ((s.heap.update a (Obj.mapSeq fun _ => (#[] : Array Value))).push (seqObj "tuple" vs.toArray 0)).push (seqObj "list" #[] 0) } /\ p = zF9 c (kas_sort vs.length)) (zUj (by omega)) ⟨rfl, rfl⟩
    rw [kas_ask_eq] at ask
    have run := kas_runs (E := E) (Q := fun _ st' s' => ∃ p : Array Nat, p.size = vs.length /\ arrOf st' = p.map (kas_item (pairsOf vs)) /\ failedOf st' = none /\ s' = { s with heap := ((s.heap.update a (Obj.mapSeq fun _ => (#[] : Array Value))).push (seqObj "tuple" vs.toArray 0)).push (seqObj "list" #[] 0) } /\ p = zF9 c (kas_sort vs.length))
      h2' h64 (fun p' st' s' a1 a2 a3 a4 => ⟨p', a1, a2, a3, a4⟩) ask
    rw [← est] at run
    refine Qa (wpAny_mono run ?_ fun _ _ e => e)
    rintro ⟨⟨⟩, st'⟩ s' ⟨p, hp, har, hf, rfl, ep⟩
    dsimp only
    have hout : (arrOf st').map (·.2) = List.toArray (p.toList.map fun i => vs.getD i Value.none) := by
      apply Array.toList_inj.mp
      rw [har, Array.map_map, Array.toList_map]
      exact List.map_congr_left fun i _ => by show (kas_item (pairsOf vs) i).2 = _; rw [kas_item_eq]
    have hsz' : (List.toArray (p.toList.map fun i => vs.getD i Value.none)).size = vs.length := by rw [List.size_toArray, Qg, Array.length_toList, hp]
    rw [hout]
    refine Qa (seqEpoch_at ho2 rfl ?_)
    refine Qa (listUpdate_at ho2 rfl ?_ (Qx _) (by rw [hsz', sizeLine_eq]; omega))
    rw [hf]
    simp only [bne_self_eq_false, Bool.false_eq_true, if_false]
    exact Qb (fin _ hsz' (by unfold zFg; rw [if_neg (by omega), ep]))
theorem zWk {l : Addr} {Q : Value -> Shared -> Prop} (hl : s.heap.IsList l vs.toArray) (h64 : vs.length < 64)
    (hT : ∀ h', (∀ b o, s.heap.get? b = some o -> h'.get? b = some o) -> ∀ v ∈ vs, Looks (model prog w) h' (typeOf v) T) (hT1 : (T != Value.type "tuple") = true) (hT2 : (T == T) = true)
    (hc : ∀ (s' : Shared), (∀ b o, s.heap.get? b = some o -> s'.heap.get? b = some o) -> ∀ i j (C : Bool -> Shared -> Prop), i < vs.length -> j < vs.length -> C (c i j) s' -> kas_ask prog w A.in1.in1 oneType' vs i j C s')
    (h : ∀ D h' m, (∀ b o, s.heap.get? b = some o -> h'.get? b = some o) -> s.heap.objs.size <= D -> h'.get? D = some (seqObj "list" (zFg c vs).toArray m) -> Q (.ref D) { s with heap := h' }) :
    wpAny (model prog w) A (call (.builtin "sorted") [.ref l]) Q E s := by
  refine Calls.call_function_entry kind_sorted plain_sorted entry_sorted (args_sorted1 _) ?_
  unfold Builtin.«sorted»
  refine Qa (m := checkCount "sorted" 1 1 _) (Qb ?_)
  refine Qa (collect_list hl ?_ (by rw [sizeLine_eq]; omega))
  refine Qa (wpAny_newList ?_ (by rw [sizeLine_eq]; omega))
  have hsz : ((s.heap.push (seqObj "list" #[] 0)).update s.heap.objs.size (Obj.mapSeq (· ++ vs.toArray))).objs.size = s.heap.objs.size + 1 := by
    rw [Heap.size_update, size_push']
  have hoL : (((s.heap.push (seqObj "list" #[] 0)).update s.heap.objs.size (Obj.mapSeq (· ++ vs.toArray))).push (seqObj "list" vs.toArray 0)).get? (s.heap.objs.size + 1) = some (seqObj "list" vs.toArray 0) := by
    rw [← hsz]; exact Heap.get?_push_size _ rfl
  have keep : ∀ b o, s.heap.get? b = some o -> b ≠ s.heap.objs.size + 1 /\ (((s.heap.push (seqObj "list" #[] 0)).update s.heap.objs.size (Obj.mapSeq (· ++ vs.toArray))).push (seqObj "list" vs.toArray 0)).get? b = some o := fun b o q => by
    have hlt : b < s.heap.objs.size := Heap.lt_size q
    refine ⟨Nat.ne_of_lt (Nat.lt_succ_of_lt hlt), ?_⟩
    rw [Heap.get?_push_ne _ _ _ (by rw [hsz]; exact Nat.ne_of_lt (Nat.lt_succ_of_lt hlt)), Heap.get?_update_ne _ _ _ _ (Nat.ne_of_lt hlt), Heap.get?_push_ne _ _ _ (Nat.ne_of_lt hlt)]
    exact q
  show wpAny _ _ _ _ _ { s with heap := ((s.heap.push (seqObj "list" #[] 0)).update s.heap.objs.size (Obj.mapSeq (· ++ vs.toArray))).push (seqObj "list" vs.toArray 0) }
  rw [hsz]
  refine Qa (Qc (wpAny_call_entry slot_list_sort ⟨_, hoL, rfl⟩ entry_list_sort ?body (args_list_sort _)))
  case body =>
    refine zUq (T := T) (c := c) (s := { s with heap := ((s.heap.push (seqObj "list" #[] 0)).update s.heap.objs.size (Obj.mapSeq (· ++ vs.toArray))).push (seqObj "list" vs.toArray 0) }) hoL h64
      (fun h' k => hT h' fun b o q => k b o (keep b o q).1 (keep b o q).2) hT1 hT2 (fun s' k => hc s' fun b o q => k b o (keep b o q).1 (keep b o q).2) fun h' m k e => ⟨_, rfl, Qb ⟨_, rfl, ?_⟩⟩
    exact h _ h' m (fun b o q => k b o (keep b o q).1 (keep b o q).2) (Nat.le_succ _) e
end
end
section
open PySem PySem.W PyProof.Rows PySem.Calls PySem.SeqAt PySem.MeetsSeq PySem.MeetsSeq3
noncomputable def zId : List Str -> List Str -> Bool
  | [], [] => false
  | [], _ :: _ => true
  | _ :: _, [] => false
  | a :: l, b :: m => if a == b then zId l m else decide (a.cps.toList < b.cps.toList)
theorem yIx {ys : List Str} {n : Nat} : zId [] (ys.drop n) = decide (n < ys.length) := by
  induction e : ys.drop n using List.casesOn with
  | nil =>
    have := List.drop_eq_nil_iff.mp e
    exact (decide_eq_false (by omega)).symm
  | cons a r =>
    have : ¬ ys.length <= n := fun q => by rw [List.drop_eq_nil_iff.mpr q] at e; cases e
    exact (decide_eq_true (by omega)).symm
theorem zKt (xs : List (Str × Tok)) (i : Nat) : (strValues xs).toArray[((i : Nat) : Int).toNat]? = (xs[i]?).map fun p => Value.str p.1 p.2 := by
  simp [strValues]
theorem zQp {xs : List (Str × Tok)} {i : Nat} {p : Str × Tok} (h : xs[i]? = some p) : (xs.map (·.1)).drop i = p.1 :: (xs.map (·.1)).drop (i + 1) := by
  obtain ⟨hi, e⟩ := Ql.mp h
  rw [List.drop_eq_getElem_cons (by simpa using hi)]
  simp [e]
theorem yF0 (l b : Addr) (xs ys : List (Str × Tok)) (n n2 : Nat) (k : Nat) :
    ∀ i : Nat, xs.length - i = k -> i <= xs.length -> Meets (Builtin.«list.__eq__.loop» ⟨[.ref l, .ref b, rawInt i, rawInt 0], []⟩)
      (fun A R s => s.heap.get? l = some (zAr (strValues xs) n) /\ s.heap.get? b = some (zAr (strValues ys) n2) /\
        R (.ok (.ret (.bool (zId ((xs.map (·.1)).drop i) ((ys.map (·.1)).drop i))))) s) := by
  induction k with
  | zero =>
    intro i hk hle prog w A R s h
    obtain ⟨hp, g, d, tk, os⟩ := s; obtain ⟨hl, hb, h⟩ := h
    wp_walk using wpAny_loadPart' hl, wpAny_loadPart' hb
    have hi1 : xs[i]? = none := by simp; omega
    have hd : (xs.map (·.1)).drop i = [] := by simp; omega
    rw [hd, yIx] at h
    have ei : i = xs.length := by omega
    rw [zKt, zKt, hi1]
    dsimp only [Option.map_none]
    wp_walk using wpAny_loadPart' hl, wpAny_loadPart' hb
    show R (.ok (.ret (.bool (decide ((strValues xs).toArray.size < (strValues ys).toArray.size))))) _
    rw [show (strValues xs).toArray.size = i by simp [strValues, ei], show (strValues ys).toArray.size = (ys.map (·.1)).length by simp [strValues]]
    exact h
  | succ k ih =>
    intro i hk hle prog w A R s h
    obtain ⟨hp, g, d, tk, os⟩ := s; obtain ⟨hl, hb, h⟩ := h
    wp_walk using wpAny_loadPart' hl, wpAny_loadPart' hb
    have hlt : i < xs.length := by omega
    have hi1 : xs[i]? = some xs[i] := Qm hlt
    rw [zKt, zKt, hi1]
    rw [zQp hi1] at h
    have hc : ((i : Int) + 1) = ((i + 1 : Nat) : Int) := by push_cast; rfl
    induction hi2 : ys[i]? with
    | none =>
      have hd2 : (ys.map (·.1)).drop i = [] := by
        rw [List.drop_eq_nil_iff, Qg]
        exact List.getElem?_eq_none_iff.mp hi2
      have hge := List.getElem?_eq_none_iff.mp hi2
      rw [hd2] at h
      dsimp only [Option.map_none, Option.map_some]
      wp_walk using wpAny_loadPart' hl, wpAny_loadPart' hb
      show R (.ok (.ret (.bool (decide ((strValues xs).toArray.size < (strValues ys).toArray.size))))) _
      rw [decide_eq_false (by simp [strValues]; omega)]
      exact h
    | some q =>
      rw [zQp hi2] at h
      dsimp only [Option.map_some]
      refine Qa (wpAny_eqBool_str ?_)
      unfold zId at h
      by_cases he : xs[i].1 = q.1
      . rw [decide_eq_true he]
        rw [if_pos (by simp [he])] at h
        wp_walk
        rw [hc]
        exact ⟨plainId_quiet plain_eq_loop _, codeAny_builtin entry_eq_loop (by
          rw [Around.under_plainId plain_eq_loop _]
          exact ih (i + 1) (by omega) (by omega) prog w A R _ ⟨hl, hb, h⟩)⟩
      . rw [decide_eq_false he]
        rw [if_neg (by simpa using he)] at h
        wp_walk using wpAny_loadPart' hl, wpAny_loadPart' hb
        rw [zKt, zKt, hi1, hi2]
        dsimp only [Option.map_some]
        refine Qa (wpAny_richCompare_same (typeIs_str _ _ _) (typeIs_str _ _ _) slot_str_lt (call_str_lt ⟨by simp, ?_⟩))
        exact Qb h
theorem yHc {w : World} {A : Around} {E : Value -> Shared -> Prop} {s : Shared} {l b : Addr} {xs ys : List (Str × Tok)} {n n2 : Nat} {Q : Value -> Shared -> Prop} (hl : s.heap.get? l = some (zAr (strValues xs) n))
    (hb : s.heap.get? b = some (zAr (strValues ys) n2)) (h : Q (.bool (zId (xs.map (·.1)) (ys.map (·.1)))) s) : wpAny (model pw w) A (call (.builtin "list.__lt__") [.ref l, .ref b]) Q E s := by
  refine call_meets F.slot_list_lt ⟨_, hl, rfl⟩ F.entry_list_lt (F.args_list_lt_2 _ _) (S := fun A R s => s.heap.get? l = some (zAr (strValues xs) n) /\ s.heap.get? b = some (zAr (strValues ys) n2) /\
        R (.ok (.ret (.bool (zId (xs.map (·.1)) (ys.map (·.1)))))) s) ?_ ⟨hl, hb, h⟩
  intro prog w A R s h
  obtain ⟨hp, g, d, tk, os⟩ := s; obtain ⟨hl, hb, h⟩ := h
  have f3 := AutoSeq1.sub_list_list
  wp_walk using wpAny_loadPart' hl, wpAny_loadPart' hb
  exact ⟨plainId_quiet plain_eq_loop _, codeAny_builtin entry_eq_loop (by
    rw [Around.under_plainId plain_eq_loop _]
    exact yF0 l b xs ys n n2 _ 0 rfl (Qx _) prog w A R _ ⟨hl, hb, by simpa using h⟩)⟩
theorem zVx {w : World} {A : Around} {E : Value -> Shared -> Prop} {s : Shared} {l b : Addr} {xs ys : List (Str × Tok)} {n n2 : Nat} {Q : Bool -> Shared -> Prop} (hu : A.units < cLine) (hl : s.heap.get? l = some (zAr (strValues xs) n))
    (hb : s.heap.get? b = some (zAr (strValues ys) n2)) (h : Q (zId (xs.map (·.1)) (ys.map (·.1))) s) : wpAny (model pw w) A (oneLt' true (.ref l) (.ref b)) Q E s := by
  rw [oneLt'_eq]
  refine yCx rfl ?_
  refine Qa (wpAny_cRoomFor hu ?_)
  refine Qa (wpAny_callSpecialIfBound?_slot (⟨_, hl, rfl⟩ : s.TypeIs (.ref l) "list") F.slot_list_lt (yHc hl hb ?_))
  exact wpAny_truthy_bool h
end
section
noncomputable def zRu (l : List D) : List Str := l.filterMap fun | .str x => some x | _ => none
theorem zTn (xs : List Str) : zRu (xs.map .str) = xs := by
  unfold zRu
  induction xs with
  | nil => rfl
  | cons x xs ih => simp [ih]
noncomputable def ltD : D -> D -> Bool
  | .int x, .int y => decide (x < y)
  | .str x, .str y => decide (x.cps.toList < y.cps.toList)
  | .lst l, .lst m => zId (zRu l) (zRu m)
  | _, _ => false
noncomputable def zLs (l : List D) (i j : Nat) : Bool := ltD (l.getD i .none) (l.getD j .none)
noncomputable def zCs (l : List D) : List D := if l.length < 2 then l else (zF9 (zLs l) (kas_sort l.length)).toList.map fun i => l.getD i .none
def zZy (l : List D) : Prop := (∀ d ∈ l, ∃ i, d = .int i) ∨ (∀ d ∈ l, ∃ x, d = .str x) ∨ (∀ d ∈ l, ∃ xs : List Str, d = .lst (xs.map .str))
section
variable {g : G} {n : Nat} {sc : Sc} {vars : zAe} {cells : List C} {K' : V -> List C -> Prop}
theorem zAk.getD {Z : zAa} {l : List D} {vs : List Value} (r : zAk Z l vs) (i : Nat) : zA2 Z (l.getD i .none) (vs.getD i .none) := by
  have hl := r.length
  by_cases hi : i < l.length
  . obtain ⟨v, e, rv⟩ := r.get i (Qm hi)
    have e1 : l.getD i .none = l[i] := by simp [List.getD, hi]
    have e2 : vs.getD i .none = v := by simp [List.getD, e]
    rw [e1, e2]; exact rv
  . have e1 : l.getD i .none = .none := by simp [List.getD, List.getElem?_eq_none (Nat.le_of_not_lt hi)]
    have e2 : vs.getD i .none = .none := by simp [List.getD, List.getElem?_eq_none (show vs.length <= i by omega)]
    rw [e1, e2]; simp [zA2]
theorem zAk.mapGet {Z : zAa} {l : List D} {vs : List Value} (r : zAk Z l vs) : ∀ p : List Nat, zAk Z (p.map fun i => l.getD i .none) (p.map fun i => vs.getD i Value.none)
  | [] => zAk.nil
  | i :: p => .cons (r.getD i) (zAk.mapGet r p)
theorem zDj {l : List D} {i : Nat} (h : i < l.length) : l.getD i .none ∈ l := by
  have e1 : l.getD i .none = l[i] := by simp [List.getD, h]
  rw [e1]; exact List.getElem_mem _
theorem zCo {u : V} {l : List D} (hl : zBj u cells = some l) (h64 : l.length < 64) (hs : zZy l) (h : K' (.d (.lst (zCs l))) cells) : zAb g n (.stat 23) [u] [] cells K' := by
  refine zAy (v := .builtin "sorted") rfl ?_
  intro A Z X ρ s Q vals rm st S ax r P
  obtain ⟨v, rfl, rv⟩ := r.one
  obtain ⟨a, vs, k, rfl, ho, rl⟩ := zAu hl S rv
  have hlen := rl.length
  have hu : A.in1.in1.units < cLine := by have := rm.un; show A.units + 1 + 1 < cLine; omega
  have main : ∀ T : Value, (T != Value.type "tuple") = true -> (T == T) = true -> (∀ h' : Heap, Z.In h' -> ∀ v ∈ vs, Looks g.M h' (typeOf v) T) ->
      (∀ (s' : Shared), Z.In s'.heap -> ∀ i j (C : Bool -> Shared -> Prop), i < vs.length -> j < vs.length -> C (zLs l i j) s' -> kas_ask pw g.w A.in1.in1 oneType' vs i j C s') ->
      wpAny g.M A (call (.builtin "sorted") [.ref a]) Q Bot s := by
    intro T hT1 hT2 hT hc
    refine zWk (T := T) (c := zLs l) (zB3 ho) (by omega) (fun h' k => hT h' fun b o e => k b o (S.z b o e)) hT1 hT2 (fun s' k => hc s' fun b o e => k b o (S.z b o e)) fun D h' m k hD hd => ?_
    have ro : zAk Z (zCs l) (zFg (zLs l) vs) := by
      unfold zCs zFg
      rw [hlen]
      split
      . exact rl
      . exact rl.mapGet _
    obtain ⟨Z', le, S', r'⟩ := S.listNew k hD hd ro
    exact P.go (s := { s with heap := h' }) h le S' ax r'
  have mem : ∀ v ∈ vs, ∃ d ∈ l, zA2 Z d v := fun v hv => rl.mem v hv
  rcases hs with hs | hs | hs
  . refine main (.type "int") rfl rfl (fun h' zi v hv => ?_) fun s' zi i j C hi hj hC => ?_
    . obtain ⟨d, hd, rd⟩ := mem v hv
      obtain ⟨i, rfl⟩ := hs d hd
      obtain ⟨t, rfl⟩ := zCd (Z := Z) (ρ := []) rd
      exact Looks.now
    . unfold kas_ask
      obtain ⟨x, ex⟩ := hs _ (zDj (i := i) (by omega))
      obtain ⟨y, ey⟩ := hs _ (zDj (i := j) (by omega))
      have rx := rl.getD i
      have ry := rl.getD j
      unfold zLs at hC
      rw [ex] at rx hC; rw [ey] at ry hC
      obtain ⟨t, et⟩ := zCd (Z := Z) (ρ := []) rx
      obtain ⟨u', eu⟩ := zCd (Z := Z) (ρ := []) ry
      rw [et, eu]
      exact kat_lt_int hC
  . refine main (.type "str") rfl rfl (fun h' zi v hv => ?_) fun s' zi i j C hi hj hC => ?_
    . obtain ⟨d, hd, rd⟩ := mem v hv
      obtain ⟨i, rfl⟩ := hs d hd
      obtain ⟨t, rfl⟩ := zBo (Z := Z) (ρ := []) rd
      exact Looks.now
    . unfold kas_ask
      obtain ⟨x, ex⟩ := hs _ (zDj (i := i) (by omega))
      obtain ⟨y, ey⟩ := hs _ (zDj (i := j) (by omega))
      have rx := rl.getD i
      have ry := rl.getD j
      unfold zLs at hC
      rw [ex] at rx hC; rw [ey] at ry hC
      obtain ⟨t, et⟩ := zBo (Z := Z) (ρ := []) rx
      obtain ⟨u', eu⟩ := zBo (Z := Z) (ρ := []) ry
      rw [et, eu]
      exact kas_lt_str hC
  . refine main (.type "list") rfl rfl (fun h' zi v hv => ?_) fun s' zi i j C hi hj hC => ?_
    . obtain ⟨d, hd, rd⟩ := mem v hv
      obtain ⟨xs, rfl⟩ := hs d hd
      simp only [zA2] at rd
      obtain ⟨b, ws, m, rfl, zb, _⟩ := rd
      exact (Looks.ld (zi _ _ zb)).andThen .now
    . unfold kas_ask
      obtain ⟨x, ex⟩ := hs _ (zDj (i := i) (by omega))
      obtain ⟨y, ey⟩ := hs _ (zDj (i := j) (by omega))
      have rx := rl.getD i
      have ry := rl.getD j
      unfold zLs at hC
      rw [ex] at rx hC; rw [ey] at ry hC
      simp only [zA2] at rx ry
      obtain ⟨b, ws, m, eb, zb, rb⟩ := rx
      obtain ⟨b', ws', m', eb', zb', rb'⟩ := ry
      obtain ⟨p, rfl, ep⟩ := zMo rb
      obtain ⟨q, rfl, eq⟩ := zMo rb'
      rw [eb, eb', keyLt'_oneType]
      refine zVx hu (zi _ _ zb) (zi _ _ zb') ?_
      rw [ep, eq]
      simpa [ltD, zTn] using hC
end
noncomputable def yCy : KeyOrd where
  α := Int
  blt a b := decide (a < b)
  irrefl a := by simp
  trans a b c h1 h2 := by simp only [decide_eq_true_eq] at *; omega
  negTrans a b c h := by simp only [decide_eq_true_eq] at *; omega
  total a b h1 h2 := by simp only [decide_eq_false_iff_not] at *; omega
end
section
section
variable {g : G} {n : Nat} {sc : Sc} {vars : zAe} {cells : List C} {K' : V -> List C -> Prop}
theorem zA3 {α β : Type} : ∀ {l : List α} {m : List β}, l.length = m.length -> (l.zip m).map (·.1) = l /\ (l.zip m).map (·.2) = m
  | [], [], _ => ⟨rfl, rfl⟩
  | a :: l, b :: m, h => by
    obtain ⟨h1, h2⟩ := zA3 (l := l) (m := m) (by simpa using h)
    exact ⟨by simp [h1], by simp [h2]⟩
theorem zE5.pos {fd : FuncData} {args : List V} {names : List Str} {KB : List (Str × V) -> List C -> Prop} (he : ∀ vals : List Value, vals.length = names.length -> bindArgs fd ⟨vals, []⟩ = pure (names.zip vals)) (hl : args.length = names.length)
    (h : KB (names.zip args) cells) : zE5 g fd args [] cells KB := by
  intro A Z X ρ s vals ws Q st S ax r1 r2 P
  have hv := r1.length
  show wpAny _ _ (bindArgs fd ⟨vals, []⟩) _ _ _
  rw [he vals (by omega)]
  refine Qb (P _ _ cells Z ρ s h (zAa.Le.refl _) (Qp _) S ax ?_ ?_)
  . rw [(zA3 (by omega)).1, (zA3 (by omega)).1]
  . rw [(zA3 (by omega)).2, (zA3 (by omega)).2]; exact r1
theorem zKb {α : Type} {l : List α} (h : l.length = 1) : ∃ a, l = [a] := by
  match l, h with
  | [a], _ => exact ⟨a, rfl⟩
theorem zYp {α : Type} {l : List α} (h : l.length = 2) : ∃ a b, l = [a, b] := by
  match l, h with
  | [a, b], _ => exact ⟨a, b, rfl⟩
theorem yO6 {α : Type} {l : List α} (h : l.length = 3) : ∃ a b c, l = [a, b, c] := by
  match l, h with
  | [a, b, c], _ => exact ⟨a, b, c, rfl⟩
theorem zBg {a : Addr} {t : Nat} {st : Stmt} {args : List V} {names : List Str} (hf : (a, st, []) ∈ zA8) (ht : zAl[t]? = some (.ref a)) (hsc : zOr (zAn st) = true)
    (he : ∀ fd : FuncData, fd.params = zCk st -> fd.defaults = .none -> ∀ vals : List Value, vals.length = names.length -> bindArgs fd ⟨vals, []⟩ = pure (names.zip vals)) (hl : args.length = names.length)
    (hs : (names.zip args).all (fun p => zA6 (zHi (zAn st)) p.1) = true)
    (h : TSs g n (zHi (zAn st)) (zA5 st) (zE4 (names.zip args) []) cells (fun _ c' => K' (.d .none) c') K' (fun _ _ => False)) : zAb g (n + 1) (.stat t) args [] cells K' := by
  obtain ⟨fd, F⟩ := g.fns _ hf
  exact zI8 F ht hsc (zE5.pos (he fd F.params F.defaults) hl ⟨hs, h⟩)
theorem zAb.mono {fv : V} {args : List V} {kws : List (Str × V)} {K'' : V -> List C -> Prop} (h : zAb g n fv args kws cells K') (k : ∀ u c, K' u c -> K'' u c) : zAb g n fv args kws cells K'' :=
  fun A Z X ρ s Q f vs ws rm st S ax rf r1 r2 P => h A Z X ρ s Q f vs ws rm st S ax rf r1 r2 fun v u c Z' ρ' s' q => P v u c Z' ρ' s' (k _ _ q)
theorem zAb.more {fv : V} {args : List V} {kws : List (Str × V)} {m : Nat} (h : zAb g n fv args kws cells K') (k : n <= m) : zAb g m fv args kws cells K' :=
  fun A Z X ρ s Q f vs ws rm => h A Z X ρ s Q f vs ws (rm.le k)
theorem zAb.trim {fv : V} {args : List V} {kws : List (Str × V)} (h : zAb g n fv args kws cells fun u c => u.below cells.length = true /\ zCj cells.length (c.take cells.length) = true /\ K' u (c.take cells.length)) : zAb g n fv args kws cells K' := by
  intro A Z X ρ s Q f vs ws rm st S ax rf r1 r2 P
  refine h A Z X ρ s Q f vs ws rm st S ax rf r1 r2 ?_
  rintro v u c Z' ρ' s' ⟨b1, b2, hK⟩ k p S' ax' rv
  have len : ρ.length = cells.length := S.len
  have S2 := S'.trim p (by rw [len]; exact b2)
  rw [len] at S2
  exact P v u _ Z' ρ s' hK k (Qp _) S2 ax' (zM4 p (by rw [len]; exact b1) rv)
end
end
section
theorem zBn {f : Nat -> Nat} {c : C} : (c.mapI f).live = c.live := by cases c <;> rfl
section
variable {Z : zAa} {ρ ρ' : List Addr} {f : Nat -> Nat} {m : Nat}
theorem zZr (h : ∀ (i : Nat) (a : Addr), ρ[i]? = some a -> ρ'[f i]? = some a) {v : V} {u : Value} (r : zAw Z ρ v u) : zAw Z ρ' (v.mapI f) u :=
  zAw.gen (f := id) (zAa.Le.refl _) (fun i a _ e => h i a e) v.ok1 (by rw [v.mapI_id]; exact r)
theorem zKz (h : ∀ (i : Nat) (a : Addr), i < m -> ρ'[f i]? = some a -> ρ[i]? = some a) {v : V} {u : Value} (b : v.below m = true) (r : zAw Z ρ' (v.mapI f) u) : zAw Z ρ v u := by
  have := zAw.gen (f' := id) (zAa.Le.refl _) (fun i a q e => h i a (of_decide_eq_true q) e) b r
  rw [v.mapI_id] at this; exact this
theorem yAb (h : ∀ (i : Nat) (a : Addr), ρ[i]? = some a -> ρ'[f i]? = some a) {c : C} {o : Obj} (r : zIr Z ρ c o) : zIr Z ρ' (c.mapI f) o :=
  zIr.gen (f := id) (zAa.Le.refl _) (fun i a _ e => h i a e) c.ok1 (by rw [c.mapI_id]; exact r)
theorem zTv (h : ∀ (i : Nat) (a : Addr), i < m -> ρ'[f i]? = some a -> ρ[i]? = some a) {c : C} {o : Obj} (b : c.below m = true) (r : zIr Z ρ' (c.mapI f) o) : zIr Z ρ c o := by
  have := zIr.gen (f' := id) (zAa.Le.refl _) (fun i a q e => h i a (of_decide_eq_true q) e) b r
  rw [c.mapI_id] at this; exact this
theorem zJh (h : ∀ (i : Nat) (a : Addr), i < m -> ρ'[f i]? = some a -> ρ[i]? = some a) : ∀ {vs : List V} {us : List Value}, vs.all (V.below m) = true -> zBl Z ρ' (vs.map (V.mapI f)) us -> zBl Z ρ vs us := by
  intro vs
  induction vs with
  | nil =>
    rintro _ _ r
    exact r
  | cons v vs ih =>
    rintro _ b ⟨u, r, e, x, y⟩
    rw [List.all_cons, Bool.and_eq_true] at b
    exact ⟨u, r, e, zKz h b.1 x, ih b.2 y⟩
end
noncomputable def zDi : List C -> List Nat -> List C -> List C
  | cells, j :: sel, c :: cs => zDi (cells.set j c) sel cs
  | cells, _, _ => cells
noncomputable def zGn (sel : List Nat) (N : Nat) (p : Nat) : Nat := if p < sel.length then sel.getD p 0 else N + (p - sel.length)
noncomputable def zCv (cells : List C) (sel : List Nat) (c : List C) : List C :=
  zDi cells sel ((c.take sel.length).map (C.mapI (zGn sel cells.length))) ++ (c.drop sel.length).map (C.mapI (zGn sel cells.length))
theorem zEd : ∀ (sel : List Nat) (cells cs : List C), (zDi cells sel cs).length = cells.length
  | [], _, _ => by unfold zDi; rfl
  | j :: sel, cells, [] => by unfold zDi; rfl
  | j :: sel, cells, c :: cs => by unfold zDi; rw [zEd sel]; simp
theorem zFf : ∀ (sel : List Nat) (cells cs : List C) (i : Nat), i ∉ sel -> (zDi cells sel cs)[i]? = cells[i]?
  | [], _, _, _, _ => by unfold zDi; rfl
  | j :: sel, cells, [], _, _ => by unfold zDi; rfl
  | j :: sel, cells, c :: cs, i, h => by
    unfold zDi
    rw [zFf sel _ _ i (fun q => h (.tail _ q)), List.getElem?_set_ne (show j ≠ i from by rintro rfl; exact h (.head _))]
theorem zNp : ∀ (sel : List Nat) (cells cs : List C) (k j : Nat), sel.Nodup -> (∀ j ∈ sel, j < cells.length) -> cs.length = sel.length -> sel[k]? = some j -> (zDi cells sel cs)[j]? = cs[k]?
  | [], _, _, _, _, _, _, _, h => by simp at h
  | j' :: sel, cells, [], _, _, _, _, hl, _ => by simp at hl
  | j' :: sel, cells, c :: cs, 0, j, hn, hb, hl, h => by
    unfold zDi
    simp only [List.getElem?_cons_zero, Option.some.injEq] at h ⊢
    subst h
    rw [List.nodup_cons] at hn
    rw [zFf sel _ _ _ hn.1, List.getElem?_set_self (hb _ (.head _))]
  | j' :: sel, cells, c :: cs, k + 1, j, hn, hb, hl, h => by
    unfold zDi
    rw [List.nodup_cons] at hn
    simp only [List.getElem?_cons_succ] at h ⊢
    exact zNp sel _ cs k j hn.2 (fun x hx => by rw [List.length_set]; exact hb x (.tail _ hx)) (by simpa using hl) h
theorem zOq : ∀ {l : List Nat} {i j : Nat} (_ : l.Nodup) (hi : i < l.length) (hj : j < l.length), l[i] = l[j] -> i = j
  | a :: l, 0, 0, _, _, _, _ => rfl
  | a :: l, 0, j + 1, hn, hi, hj, e => by
    rw [List.nodup_cons] at hn
    simp only [List.getElem_cons_zero, List.getElem_cons_succ] at e
    exact absurd (e ▸ List.getElem_mem _) hn.1
  | a :: l, i + 1, 0, hn, hi, hj, e => by
    rw [List.nodup_cons] at hn
    simp only [List.getElem_cons_zero, List.getElem_cons_succ] at e
    exact absurd (e ▸ List.getElem_mem _) hn.1
  | a :: l, i + 1, j + 1, hn, hi, hj, e => by
    rw [List.nodup_cons] at hn
    simp only [List.getElem_cons_succ] at e
    rw [zOq hn.2 (by simpa using hi) (by simpa using hj) e]
open Classical in
noncomputable def zB1 (X : zAa) (cells : List C) (ρ : List Addr) (sel : List Nat) (h : Heap) : zAa := fun a => match X a with
  | some o => some o
  | none => if ∃ (i : Nat) (c : C), ρ[i]? = some a /\ cells[i]? = some c /\ c.live = true /\ i ∉ sel then h.get? a else none
section
variable {cells cells0 : List C} {Z X : zAa} {ρ : List Addr} {h : Heap} {sel : List Nat}
theorem zEk : X.Le (zB1 X cells ρ sel h) := fun a o e => by unfold zB1; rw [e]
theorem zEi (S : AtC cells Z X ρ h) {i : Nat} {a : Addr} {c : C} (e1 : ρ[i]? = some a) (e2 : cells[i]? = some c) (l : c.live = true) (hs : i ∉ sel) : zB1 X cells ρ sel h a = h.get? a := by
  unfold zB1
  rw [S.xr i a c e1 e2 l]
  exact if_pos ⟨i, c, e1, e2, l, hs⟩
theorem zDp {a : Addr} {o : Obj} (e : zB1 X cells ρ sel h a = some o) : X a = some o ∨ (h.get? a = some o /\ ∃ (i : Nat) (c : C), ρ[i]? = some a /\ cells[i]? = some c /\ c.live = true /\ i ∉ sel) := by
  unfold zB1 at e
  split at e
  . rename_i o' q; exact .inl (q.trans e)
  . split at e
    . rename_i q; exact .inr ⟨e, q⟩
    . cases e
noncomputable def zIt (ρ : List Addr) (sel : List Nat) : List Addr := sel.map fun j => ρ.getD j 0
theorem zGw (hb : ∀ j ∈ sel, j < ρ.length) {k j : Nat} (hk : sel[k]? = some j) : (zIt ρ sel)[k]? = ρ[j]? := by
  have hj := hb j (Qk hk)
  unfold zIt
  rw [List.getElem?_map, hk]
  simp [List.getD, hj]
theorem AtC.enter (S : AtC cells Z X ρ h) (hn : sel.Nodup) (hb : ∀ j ∈ sel, j < cells.length) (hl : cells0.length = sel.length)
    (hc : ∀ (k : Nat) (c : C), cells0[k]? = some c -> ∃ j, sel[k]? = some j /\ cells[j]? = some (c.mapI (zGn sel cells.length)) /\ c.below sel.length = true) :
    AtC cells0 Z (zB1 X cells ρ sel h) (zIt ρ sel) h := by
  have hb' : ∀ j ∈ sel, j < ρ.length := fun j m => by rw [S.len]; exact hb j m
  have at_ : ∀ (k : Nat) (a : Addr) (c : C), (zIt ρ sel)[k]? = some a -> cells0[k]? = some c -> ∃ j, sel[k]? = some j /\ ρ[j]? = some a /\ cells[j]? = some (c.mapI (zGn sel cells.length)) /\ c.below sel.length = true := by
    intro k a c e1 e2
    obtain ⟨j, hj, e, b⟩ := hc k c e2
    rw [zGw hb' hj] at e1
    exact ⟨j, hj, e1, e, b⟩
  refine ⟨by simp [zIt, hl], S.z, fun a o e => ?_, fun k k' a c c' e1 e2 f1 f2 l1 l2 => ?_, fun k a c e1 e2 l => ?_, fun a o e => ?_, fun k a c e1 e2 l => ?_, fun k a c e1 e2 l => ?_⟩
  . rcases zDp e with e | ⟨e, _⟩
    . exact S.x _ _ e
    . exact e
  . obtain ⟨j, h1, h2, h3, _⟩ := at_ k a c e1 f1
    obtain ⟨j', h1', h2', h3', _⟩ := at_ k' a c' e2 f2
    have := S.nd j j' a _ _ h2 h2' h3 h3' (by rw [zBn]; exact l1) (by rw [zBn]; exact l2)
    subst this
    obtain ⟨b1, q1⟩ := Ql.mp h1
    obtain ⟨b2, q2⟩ := Ql.mp h1'
    exact zOq hn b1 b2 (q1.trans q2.symm)
  . obtain ⟨j, h1, h2, h3, _⟩ := at_ k a c e1 e2
    exact S.zr j a _ h2 h3 (by rw [zBn]; exact l)
  . rcases zDp e with e | ⟨_, i, c, q1, q2, q3, _⟩
    . exact S.xz _ _ e
    . exact S.zr i a c q1 q2 q3
  . obtain ⟨j, h1, h2, h3, _⟩ := at_ k a c e1 e2
    induction e : zB1 X cells ρ sel h a with
    | none => rfl
    | some o =>
      rcases zDp e with e | ⟨_, i, c', q1, q2, q3, q4⟩
      . have := S.xr j a _ h2 h3 (by rw [zBn]; exact l); rw [e] at this; cases this
      . have := S.nd i j a _ _ q1 h2 q2 h3 q3 (by rw [zBn]; exact l)
        subst this
        exact absurd (Qk h1) q4
  . obtain ⟨j, h1, h2, h3, b⟩ := at_ k a c e1 e2
    obtain ⟨o, ho, r⟩ := S.c j a _ h2 h3 (by rw [zBn]; exact l)
    refine ⟨o, ho, zTv (m := sel.length) (fun i b' hi e => ?_) b r⟩
    have hs : sel[i]? = some (zGn sel cells.length i) := by
      unfold zGn; rw [if_pos hi]; simp [List.getD, hi]
    rw [zGw hb' hs]; exact e
variable {Z' : zAa} {h' : Heap} {c' : List C} {ρ' : List Addr}
theorem zXi (S : AtC cells Z X ρ h) (hb : ∀ j ∈ sel, j < cells.length) (p : zIt ρ sel <+: ρ') : ∀ (i : Nat) (a : Addr), ρ'[i]? = some a -> (ρ ++ ρ'.drop sel.length)[zGn sel cells.length i]? = some a := by
  intro i a e
  unfold zGn
  by_cases hi : i < sel.length
  . rw [if_pos hi]
    have hs : sel[i]? = some (sel.getD i 0) := by simp [List.getD, hi]
    have hj := hb _ (Qk hs)
    have e2 : (zIt ρ sel)[i]? = some a := zLp p e (by simpa [zIt] using hi)
    rw [zGw (fun j m => by rw [S.len]; exact hb j m) hs] at e2
    rw [List.getElem?_append_left (by rw [S.len]; exact hj)]
    exact e2
  . rw [if_neg hi, List.getElem?_append_right (by rw [S.len]; omega), S.len, List.getElem?_drop]
    rw [show sel.length + (cells.length + (i - sel.length) - cells.length) = i by omega]
    exact e
theorem AtC.exit (S : AtC cells Z X ρ h) (hn : sel.Nodup) (hb : ∀ j ∈ sel, j < cells.length) (k : Z.Le Z') (p : zIt ρ sel <+: ρ') (S' : AtC c' Z' (zB1 X cells ρ sel h) ρ' h') :
    AtC (zCv cells sel c') Z' X (ρ ++ ρ'.drop sel.length) h' := by
  have hm : sel.length <= c'.length := by rw [← S'.len]; have := p.length_le; simpa [zIt] using this
  have hb' : ∀ j ∈ sel, j < ρ.length := fun j m => by rw [S.len]; exact hb j m
  have htl : ((c'.take sel.length).map (C.mapI (zGn sel cells.length))).length = sel.length := by simp [hm]
  have kinds : ∀ (i : Nat) (a : Addr) (c : C), (ρ ++ ρ'.drop sel.length)[i]? = some a -> (zCv cells sel c')[i]? = some c ->
      (i ∉ sel /\ cells[i]? = some c /\ ρ[i]? = some a) ∨ ∃ (q : Nat) (d : C), c'[q]? = some d /\ c = d.mapI (zGn sel cells.length) /\ ρ'[q]? = some a /\ zGn sel cells.length q = i := by
    intro i a c e1 e2
    unfold zCv at e2
    by_cases hi : i < cells.length
    . rw [List.getElem?_append_left (by rw [S.len]; exact hi)] at e1
      rw [List.getElem?_append_left (by rw [zEd]; exact hi)] at e2
      by_cases hs : i ∈ sel
      . obtain ⟨q, hq⟩ := List.getElem?_of_mem hs
        rw [zNp sel _ _ q i hn hb htl hq, List.getElem?_map] at e2
        obtain ⟨d, hd, rfl⟩ := Option.map_eq_some_iff.mp e2
        have hqm : q < sel.length := (Ql.mp hq).1
        rw [List.getElem?_take] at hd
        rw [if_pos hqm] at hd
        refine .inr ⟨q, d, hd, rfl, ?_, ?_⟩
        . have := zGw hb' hq
          rw [e1] at this
          exact zEh p this
        . unfold zGn; rw [if_pos hqm]; simp [List.getD, hq]
      . rw [zFf _ _ _ _ hs] at e2
        exact .inl ⟨hs, e2, e1⟩
    . rw [List.getElem?_append_right (by rw [S.len]; omega), S.len, List.getElem?_drop] at e1
      rw [List.getElem?_append_right (by rw [zEd]; omega), zEd, List.getElem?_map] at e2
      obtain ⟨d, hd, rfl⟩ := Option.map_eq_some_iff.mp e2
      rw [List.getElem?_drop] at hd
      refine .inr ⟨sel.length + (i - cells.length), d, hd, rfl, e1, ?_⟩
      unfold zGn; rw [if_neg (by omega)]; omega
  have apart : ∀ (i q : Nat) (a : Addr) (c d : C), i ∉ sel -> cells[i]? = some c -> ρ[i]? = some a -> c.live = true -> c'[q]? = some d -> ρ'[q]? = some a -> d.live = true -> False := by
    intro i q a c d h1 h2 h3 h4 h5 h6 h7
    have e := zEi (sel := sel) S h3 h2 h4 h1
    obtain ⟨o, ho, _⟩ := S.c i a c h3 h2 h4
    rw [ho] at e
    have := S'.xr q a d h6 h5 h7
    rw [e] at this; cases this
  refine ⟨?_, S'.z, fun a o e => S'.x _ _ (zEk _ _ e), fun i j a c d e1 e2 f1 f2 l1 l2 => ?_, fun i a c e1 e2 l => ?_, fun a o e => S'.xz _ _ (zEk _ _ e), fun i a c e1 e2 l => ?_, fun i a c e1 e2 l => ?_⟩
  . unfold zCv
    simp only [Qi, List.length_drop, Qg, zEd, S.len, S'.len]
  . rcases kinds i a c e1 f1 with ⟨p1, p2, p3⟩ | ⟨q1, d1, g1, rfl, g3, g4⟩ <;> rcases kinds j a d e2 f2 with ⟨r1, r2, r3⟩ | ⟨q2, d2, k1, rfl, k3, k4⟩
    . exact S.nd i j a c d p3 r3 p2 r2 l1 l2
    . exact (apart i q2 a c d2 p1 p2 p3 l1 k1 k3 (by rwa [zBn] at l2)).elim
    . exact (apart j q1 a d d1 r1 r2 r3 l2 g1 g3 (by rwa [zBn] at l1)).elim
    . have := S'.nd q1 q2 a d1 d2 g3 k3 g1 k1 (by rwa [zBn] at l1) (by rwa [zBn] at l2)
      rw [← g4, ← k4, this]
  . rcases kinds i a c e1 e2 with ⟨p1, p2, p3⟩ | ⟨q1, d1, g1, rfl, g3, g4⟩
    . have e := zEi (sel := sel) S p3 p2 l p1
      obtain ⟨o, ho, _⟩ := S.c i a c p3 p2 l
      rw [ho] at e
      exact S'.xz _ _ e
    . exact S'.zr q1 a d1 g3 g1 (by rwa [zBn] at l)
  . rcases kinds i a c e1 e2 with ⟨p1, p2, p3⟩ | ⟨q1, d1, g1, rfl, g3, g4⟩
    . exact S.xr i a c p3 p2 l
    . have := S'.xr q1 a d1 g3 g1 (by rwa [zBn] at l)
      induction e : X a with
      | none => rfl
      | some o => rw [zEk _ _ e] at this; cases this
  . rcases kinds i a c e1 e2 with ⟨p1, p2, p3⟩ | ⟨q1, d1, g1, rfl, g3, g4⟩
    . obtain ⟨o, ho, r⟩ := S.c i a c p3 p2 l
      have e := zEi (sel := sel) S p3 p2 l p1
      rw [ho] at e
      exact ⟨o, S'.x _ _ e, r.mono k (List.prefix_append _ _)⟩
    . obtain ⟨o, ho, r⟩ := S'.c q1 a d1 g3 g1 (by rwa [zBn] at l)
      exact ⟨o, ho, yAb (zXi S hb p) r⟩
end
theorem zAb.frame {g : G} {n : Nat} {cells : List C} {K' : V -> List C -> Prop} {fv : V} {args : List V} {kws : List (Str × V)} (sel : List Nat) (cells0 : List C) (fv0 : V) (args0 : List V) (kws0 : List (Str × V))
    (hfv : fv = fv0.mapI (zGn sel cells.length)) (hargs : args = args0.map (V.mapI (zGn sel cells.length))) (hkws : kws = kws0.map fun p => (p.1, p.2.mapI (zGn sel cells.length)))
    (hbl : (fv0.below sel.length && args0.all (V.below sel.length) && (kws0.map (·.2)).all (V.below sel.length)) = true) (hn : sel.Nodup) (hb : ∀ j ∈ sel, j < cells.length) (hl : cells0.length = sel.length)
    (hc : ∀ (k : Nat) (c : C), cells0[k]? = some c -> ∃ j, sel[k]? = some j /\ cells[j]? = some (c.mapI (zGn sel cells.length)) /\ c.below sel.length = true)
    (h : zAb g n fv0 args0 kws0 cells0 fun u c => K' (u.mapI (zGn sel cells.length)) (zCv cells sel c)) : zAb g n fv args kws cells K' := by
  subst hfv hargs hkws
  intro A Z X ρ s Q f vs ws rm st S ax rf r1 r2 P
  simp only [Bool.and_eq_true] at hbl
  have hun : ∀ (i : Nat) (a : Addr), i < sel.length -> ρ[zGn sel cells.length i]? = some a -> (zIt ρ sel)[i]? = some a := by
    intro i a hi e
    have hs : sel[i]? = some (zGn sel cells.length i) := by unfold zGn; rw [if_pos hi]; simp [List.getD, hi]
    rw [zGw (fun j m => by rw [S.len]; exact hb j m) hs]; exact e
  have S0 := S.enter hn hb hl hc
  have e1 : (kws0.map fun p => (p.1, p.2.mapI (zGn sel cells.length))).map (·.1) = kws0.map (·.1) := by simp [List.map_map, Function.comp_def]
  have e2 : (kws0.map fun p => (p.1, p.2.mapI (zGn sel cells.length))).map (·.2) = (kws0.map (·.2)).map (V.mapI (zGn sel cells.length)) := by simp [List.map_map, Function.comp_def]
  rw [e2] at r2
  rw [e1]
  refine h A Z _ (zIt ρ sel) s Q f vs ws rm st S0 ax (zKz hun hbl.1.1 rf) (zJh hun hbl.1.2 r1) (zJh hun hbl.2 r2) ?_
  intro v u c' Z' ρ' s' hK k p S' ax' rv
  exact P v _ _ Z' (ρ ++ ρ'.drop sel.length) s' hK k (List.prefix_append _ _) (S.exit hn hb k p S') ax' (zZr (zXi S hb p) rv)
end
section
section
variable {g : G} {n : Nat} {sc : Sc} {vars : zAe} {cells : List C} {K' : V -> List C -> Prop} {KB : Bool -> List C -> Prop} {Kn : zAe -> List C -> Prop} {Kr : V -> List C -> Prop} {Kc : zAe -> List C -> Prop}
def zIl (g : G) (n : Nat) (op : Operator) (a b : V) (cells : List C) (K' : V -> List C -> Prop) : Prop := Op g n (fun | [x, y] => binaryOp op x y | _ => unsupported "") [a, b] cells K'
def zDf (g : G) (n : Nat) (op : CmpOp) (a b : V) (cells : List C) (K' : V -> List C -> Prop) : Prop := Op g n (fun | [x, y] => compareOp op x y | _ => unsupported "") [a, b] cells K'
def zJ7 (g : G) (n : Nat) (a : V) (cells : List C) (KB : Bool -> List C -> Prop) : Prop := OpB g n (fun | [x] => truthy x | _ => unsupported "") [a] cells KB
theorem yOg {l r : Expr} {op : Operator} {p : Pos} (h : TE g n sc l vars cells fun a c1 => TE g n sc r vars c1 fun b c2 => zIl g n op a b c2 K') : TE g n sc (.BinOp l op r p) vars cells K' := yLd h
theorem yPq {l r : Expr} {op : CmpOp} {p : Pos} (hm : behindInMarks op r = false) (h : TE g n sc l vars cells fun a c1 => TE g n sc r vars c1 fun b c2 => zDf g n op a b c2 K') : TE g n sc (.Compare l [op] [r] p) vars cells K' := zT7 hm h
theorem yHo {l r : Expr} {op : CmpOp} {p : Pos} (hm : behindInMarks op r = false) (h : TE g n sc l vars cells fun a c1 => TE g n sc r vars c1 fun b c2 => zDf g n op a b c2 fun u c3 => ∃ q, u = .d (.bool q) /\ KB q c3) : TB g n sc (.Compare l [op] [r] p) vars cells KB := zTf hm h
theorem yHf {e : Expr} (he : ∀ env whole, isTrue e env whole = (do let v ← whole; standAt e.pos; holding [v] (truthy v))) (h : TE g n sc e vars cells fun a c1 => zJ7 g n a c1 KB) : TB g n sc e vars cells KB := yBr he h
theorem TBall_nil {op : BoolOp} (h : KB (op == .And) cells) : zHx g n sc op vars KB [] cells := h
theorem zW9 {e : Expr} {r : List Expr} (h : TB g n sc e vars cells fun q c => cond q (zHx g n sc .And vars KB r c) (KB false c)) : zHx g n sc .And vars KB (e :: r) cells := by
  show TB g n sc e vars cells _
  intro A env Z X R ρ bs m s Q rm en st fr S ax P
  exact h A env Z X R ρ bs m s Q rm en st fr S ax fun q c Z' ρ' s' hq => P q c Z' ρ' s' (by cases q <;> exact hq)
theorem zZo {e : Expr} {r : List Expr} (h : TB g n sc e vars cells fun q c => cond q (KB true c) (zHx g n sc .Or vars KB r c)) : zHx g n sc .Or vars KB (e :: r) cells := by
  show TB g n sc e vars cells _
  intro A env Z X R ρ bs m s Q rm en st fr S ax P
  exact h A env Z X R ρ bs m s Q rm en st fr S ax fun q c Z' ρ' s' hq => P q c Z' ρ' s' (by cases q <;> exact hq)
theorem zYu {e : Expr} {r : List Expr} {K : List V -> List C -> Prop} (h : TE g n sc e vars cells fun u c => TEs g n sc vars r c fun us c' => K (u :: us) c') : TEs g n sc vars (e :: r) cells K := h
theorem TEs_nil {K : List V -> List C -> Prop} (h : K [] cells) : TEs g n sc vars [] cells K := h
theorem zPi {e : Keyword} {r : List Keyword} {K : List V -> List C -> Prop} (h : TE g n sc e.value vars cells fun u c => TEs g n sc vars (r.map (·.value)) c fun us c' => K (u :: us) c') : TEs g n sc vars ((e :: r).map (·.value)) cells K := h
theorem TEs_nil_kw {K : List V -> List C -> Prop} (h : K [] cells) : TEs g n sc vars (([] : List Keyword).map (·.value)) cells K := h
theorem zSs {k : Nat} (h : zMb (.stat k) = true) : zEj g (.stat k) := zRg h fun _ _ _ e => by cases e
theorem zZ1 {i : Nat} : zEj g (.rd i) := zRg rfl fun _ _ _ e => by cases e
theorem zNw {x : Str} {u : V} (h : zB7 x zFo = some u) : zLa g.K x u := by
  refine g.glob x u ?_
  have go : ∀ l : List (Str × V), zB7 x l = some u -> (x, u) ∈ l := by
    intro l
    induction l with
    | nil => intro h; cases h
    | cons p l ih =>
      obtain ⟨y, v⟩ := p
      intro h
      unfold zB7 at h
      split at h
      . rename_i e; cases h; subst e; exact .head _
      . exact .tail _ (ih h)
  exact go _ h
theorem yH3 {x : Str} {p : Pos} {u : V} (hg : zB7 x zFo = some u) (hk : sc.scope.names.lookup x = some .globalImplicit) (hd : (x == ("__debug__" : Str)) = false) (h : K' u cells) : TE g n sc (.Name x p) vars cells K' :=
  zUg (zNw hg) hk h hd
theorem yD7 {x : Str} {p : Pos} {u : V} (hl : zB7 x vars = some u) (hd : (x == ("__debug__" : Str)) = false) (hn : (x == ("__classdict__" : Str)) = false) (h : K' u cells) : TE g n sc (.Name x p) vars cells K' := yC1 hl h hd hn
theorem zAg {q : Bool} {a b : Prop} (h1 : q = true -> a) (h2 : q = false -> b) : cond q a b := by cases q; exact h2 rfl; exact h1 rfl
theorem cond_true {a b : Prop} (h : a) : cond true a b := h
theorem cond_false {a b : Prop} (h : b) : cond false a b := h
theorem op_addInt {x y : Int} (h : K' (.d (.int (x + y))) cells) : zIl g n .Add (.d (.int x)) (.d (.int y)) cells K' := zJo (t := binaryOp .Add) h fun _ _ q => PySem.P.add_int (q _ _ ⟨_, rfl⟩)
theorem op_subInt {x y : Int} (h : K' (.d (.int (x - y))) cells) : zIl g n .Sub (.d (.int x)) (.d (.int y)) cells K' := zJo (t := binaryOp .Sub) h fun _ _ q => PySem.P.sub_int (q _ _ ⟨_, rfl⟩)
theorem zM1 {x y : Int} (h1 : IntMulOk x y) (h : K' (.d (.int (x * y))) cells) : zIl g n .Mult (.d (.int x)) (.d (.int y)) cells K' := zJo (t := binaryOp .Mult) h fun _ _ q => PySem.P.mul_int (q _ _ ⟨_, rfl⟩) h1
theorem zNd {x y : Int} (h1 : y ≠ 0) (h2 : Builtin.divisionGoesByPylong x y = false) (h : K' (.d (.int (x.fdiv y))) cells) : zIl g n .FloorDiv (.d (.int x)) (.d (.int y)) cells K' :=
  zJo (t := binaryOp .FloorDiv) h fun _ _ q => AutoIntOps.floordiv_1 (by simpa using h1) (by rw [h2]; exact Qw) (q _ _ ⟨_, rfl⟩)
theorem zUn {x y : Int} (h1 : y ≠ 0) (h : K' (.d (.int (x.fmod y))) cells) : zIl g n .Mod (.d (.int x)) (.d (.int y)) cells K' := zJo (t := binaryOp .Mod) h fun _ _ q => PyProof.Rows.mod_int h1 (q _ _ ⟨_, rfl⟩)
theorem zWc {x y : Int} (h0 : 0 <= y) (h1 : (x == 0 || x == 1) = false) (h2 : (x == -1) = false) (h3 : Builtin.Int.intTooBig (((Builtin.Int.intBits x : Nat) : Int) * y) = false) (h : K' (.d (.int (x ^ y.toNat))) cells) :
    zIl g n .Pow (.d (.int x)) (.d (.int y)) cells K' := zYh h0 h1 h2 h3 h
theorem zA4 {x y : Str} (h1 : x.length + y.length <= sizeLine) (h : K' (.d (.str (x ++ y))) cells) : zIl g n .Add (.d (.str x)) (.d (.str y)) cells K' := zYc (t := binaryOp .Add) h fun _ _ q => PyProof.Rows.add_str (fun _ _ => q _ _ ⟨_, rfl⟩) h1
theorem zHb {a b : V} {l m : List D} (hl : zBj a cells = some l) (hm : zBj b cells = some m) (hz : l.length + m.length <= sizeLine) (h : K' (.d (.lst (l ++ m))) cells) : zIl g n .Add a b cells K' := zOc hl hm hz h
theorem cmp_eqInt {x y : Int} (h : K' (.d (.bool (x == y))) cells) : zDf g n .Eq (.d (.int x)) (.d (.int y)) cells K' := zJo (t := compareOp .Eq) h fun _ _ q => PySem.P.eq_int (q _ _ rfl)
theorem cmp_neInt {x y : Int} (h : K' (.d (.bool (!(x == y)))) cells) : zDf g n .NotEq (.d (.int x)) (.d (.int y)) cells K' := zJo (t := compareOp .NotEq) h fun _ _ q => PySem.SeqAt.RcNeAt.int_int _ _ _ _ _ _ _ _ (q _ _ rfl)
theorem cmp_eqStr {x y : Str} (h : K' (.d (.bool (x == y))) cells) : zDf g n .Eq (.d (.str x)) (.d (.str y)) cells K' := zYc (t := compareOp .Eq) h fun _ _ q => PyProof.Rows.eq_str (q _ _ rfl)
theorem cmp_neStr {x y : Str} (h : K' (.d (.bool (!(x == y)))) cells) : zDf g n .NotEq (.d (.str x)) (.d (.str y)) cells K' := zYc (t := compareOp .NotEq) h fun _ _ q => PySem.SeqAt.RcNeAt.str_str _ _ _ _ _ _ _ _ (q _ _ rfl)
theorem cmp_ltInt {x y : Int} (h : K' (.d (.bool (decide (x < y)))) cells) : zDf g n .Lt (.d (.int x)) (.d (.int y)) cells K' := zJo (t := compareOp .Lt) h fun _ _ q => PySem.P.lt_int (q _ _ rfl)
theorem cmp_leInt {x y : Int} (h : K' (.d (.bool (decide (x <= y)))) cells) : zDf g n .LtE (.d (.int x)) (.d (.int y)) cells K' := zJo (t := compareOp .LtE) h fun _ _ q => PySem.P.le_int (q _ _ rfl)
theorem cmp_geInt {x y : Int} (h : K' (.d (.bool (decide (x ≥ y)))) cells) : zDf g n .GtE (.d (.int x)) (.d (.int y)) cells K' := zJo (t := compareOp .GtE) h fun _ _ q => PySem.P.ge_int (q _ _ rfl)
theorem zJ0 {x y : Str} (h : K' (.d (.bool (!(Builtin.Str.occurrences x y 0 x.length 1).isEmpty))) cells) : zDf g n .In (.d (.str y)) (.d (.str x)) cells K' := zYc (t := compareOp .In) h fun _ _ q => PyProof.Rows.in_str (q _ _ rfl)
theorem zOb {d : D} {b : V} {l : List D} (hl : zBj b cells = some l) (h1 : (l.all fun y => zRz 8 y d) = true) (h : K' (.d (.bool (l.any fun y => eqD y d))) cells) : zDf g n .In (.d d) b cells K' :=
  op2 (t := compareOp .In) h fun rm S rx ry q => (yCj hl h1 rm S rx ry).1 _ (q _ _ rfl)
theorem zDk {d : D} {b : V} {l : List D} (hl : zBj b cells = some l) (h1 : (l.all fun y => zRz 8 y d) = true) (h : K' (.d (.bool (!(l.any fun y => eqD y d)))) cells) : zDf g n .NotIn (.d d) b cells K' :=
  op2 (t := compareOp .NotIn) h fun rm S rx ry q => (yCj hl h1 rm S rx ry).2 _ (q _ _ rfl)
theorem cmp_isNone {a : V} (h : K' (.d (.bool (zQu a))) cells) : zDf g n .Is a (.d .none) cells K' := yIc zOh h
theorem cmp_isNotNone {a : V} (h : K' (.d (.bool (!zQu a))) cells) : zDf g n .IsNot a (.d .none) cells K' := zRm zOh h
theorem cmp_isStat {k j : Nat} (h1 : zGc k = true) (h2 : zGc j = true) (h : K' (.d (.bool (k == j))) cells) : zDf g n .Is (.stat k) (.stat j) cells K' := yIc (zOj h1 h2) h
theorem cmp_isNotStat {k j : Nat} (h1 : zGc k = true) (h2 : zGc j = true) (h : K' (.d (.bool (!(k == j)))) cells) : zDf g n .IsNot (.stat k) (.stat j) cells K' := zRm (zOj h1 h2) h
theorem cmp_b1 {k : Int} (h : K' (.d (.bool (zG3.contains k))) cells) : zDf g n .In (.d (.int k)) (.stat 2) cells K' := yN7 h
theorem zJ6 {a b : V} {l m : List D} (hl : zBj a cells = some l) (hm : zBj b cells = some m) (h1 : l.length ≠ m.length ∨ zC0 8 l m = true) (h : K' (.d (.bool (zI1 l m))) cells) : zDf g n .Eq a b cells K' := yFa hl hm h1 h
theorem zDy {a b : V} {l m : List D} (hl : zBj a cells = some l) (hm : zBj b cells = some m) (h1 : l.length ≠ m.length ∨ zC0 8 l m = true) (h : K' (.d (.bool (!(zI1 l m)))) cells) : zDf g n .NotEq a b cells K' := yFn hl hm h1 h
theorem zVd {l m : List D} (hl : l.length = m.length) (h1 : zC0 8 l m = true) (h : K' (.d (.bool (!(zI1 l m)))) cells) : zDf g n .NotEq (.d (.tup l)) (.d (.tup m)) cells K' := yD0 hl h1 h
theorem q_bool {q : Bool} {P : Bool -> Prop} (h : P q) : ∃ r, V.d (.bool q) = .d (.bool r) /\ P r := ⟨q, rfl, h⟩
theorem tr_bool {b : Bool} (h : KB b cells) : zJ7 g n (.d (.bool b)) cells KB := tr1 h fun _ e q => (show _ = _ from e) ▸ wpAny_truthy_bool (q _)
theorem tr_none (h : KB false cells) : zJ7 g n (.d .none) cells KB := tr1 h fun _ e q => (show _ = _ from e) ▸ PyProof.Rows.truthy_none (q _)
theorem yC3 {u : V} {l : List D} (hl : zBj u cells = some l) (h1 : l.length < 2 ^ 62) (h : KB (!l.isEmpty) cells) : zJ7 g n (u) cells KB := yKp hl h1 h
theorem yAu {es : List Expr} {p : Pos} (hp : es.all zB2 = true)
    (h : TEs g n sc vars es cells fun us c => us.length <= sizeLine /\ ∃ ds c1, zRd us c = some (ds, c1) /\ K' (.d (.lst ds)) c1) : TE g n sc (.List es p) vars cells K' := by
  intro A env Z X R ρ bs m s Q rm en st fr S ax P
  refine wpAny_List (zC2 h hp A env Z X R ρ bs m s _ rm en st fr S ax ?_)
  intro vs us c1 Z1 ρ1 s1 h1 k1 p1 S1 ax1 r1
  obtain ⟨hl, ds, c2, e, hk⟩ := h1
  refine ⟨by rw [r1.length]; exact hl, ?_⟩
  obtain ⟨Z2, k2, S2, rd⟩ := zHz e S1 r1
  obtain ⟨S3, k3⟩ := S2.newFrozen (o := zAr vs 0) rfl
  refine P _ _ _ _ ρ1 _ hk (k1.trans (k2.trans k3)) p1 S3 ax1 ?_
  show zA2 _ _ _
  simp only [zA2]
  exact ⟨_, vs, 0, rfl, zAa.put_self _ _ _, zAk.mono k3 ds vs rd⟩
theorem zA7 : zRd [] cells = some ([], cells) := rfl
theorem zAz {d : D} {r : List V} {ds : List D} {c : List C} (h : zRd r cells = some (ds, c)) : zRd (.d d :: r) cells = some (d :: ds, c) := by
  unfold zRd
  simp only [toD, h]
theorem zE5.kw {fd : FuncData} {args : List V} {kws : List (Str × V)} {names : List Str} {KB : List (Str × V) -> List C -> Prop}
    (he : ∀ vals ws : List Value, vals.length = args.length -> ws.length = kws.length -> bindArgs fd ⟨vals, (kws.map (·.1)).zip ws⟩ = pure (names.zip (vals ++ ws))) (hl : args.length + kws.length = names.length)
    (h : KB (names.zip (args ++ kws.map (·.2))) cells) : zE5 g fd args kws cells KB := by
  intro A Z X ρ s vals ws Q st S ax r1 r2 P
  have hv := r1.length
  have hw := r2.length
  rw [Qg] at hw
  rw [he vals ws hv hw]
  refine Qb (P _ _ cells Z ρ s h (zAa.Le.refl _) (Qp _) S ax ?_ ?_)
  . rw [(zA3 (by simp; omega)).1, (zA3 (by simp; omega)).1]
  . rw [(zA3 (by simp; omega)).2, (zA3 (by simp; omega)).2]; exact r1.append r2
theorem yFx {a : Addr} {t : Nat} {st : Stmt} {args : List V} {kws : List (Str × V)} {names : List Str} (hf : (a, st, []) ∈ zA8) (ht : zAl[t]? = some (.ref a)) (hsc : zOr (zAn st) = true)
    (he : ∀ fd : FuncData, fd.params = zCk st -> fd.defaults = .none -> ∀ vals ws : List Value, vals.length = args.length -> ws.length = kws.length -> bindArgs fd ⟨vals, (kws.map (·.1)).zip ws⟩ = pure (names.zip (vals ++ ws))) (hl : args.length + kws.length = names.length)
    (hs : (names.zip (args ++ kws.map (·.2))).all (fun p => zA6 (zHi (zAn st)) p.1) = true)
    (h : TSs g n (zHi (zAn st)) (zA5 st) (zE4 (names.zip (args ++ kws.map (·.2))) []) cells (fun _ c' => K' (.d .none) c') K' (fun _ _ => False)) : zAb g (n + 1) (.stat t) args kws cells K' := by
  obtain ⟨fd, F⟩ := g.fns _ hf
  exact zI8 F ht hsc (zE5.kw (he fd F.params F.defaults) hl ⟨hs, h⟩)
theorem zUf {a : Addr} {t : Nat} {st : Stmt} {args : List V} {names : List Str} (hf : (a, st, [Value.none]) ∈ zA8) (ht : zAl[t]? = some (.ref a)) (hsc : zOr (zAn st) = true)
    (he : ∀ (fd : FuncData) (d : Addr), fd.params = zCk st -> fd.defaults = .ref d -> ∀ vals : List Value, vals.length = args.length -> ∃ k : Option (Array Value) -> Sem (List (Str × Value)), bindArgs fd ⟨vals, []⟩ = seqItems? (.ref d) >>= k /\ k (some #[.none]) = pure (names.zip (vals ++ [.none]))) (hl : args.length + 1 = names.length)
    (hs : (names.zip (args ++ [.d .none])).all (fun p => zA6 (zHi (zAn st)) p.1) = true)
    (h : TSs g n (zHi (zAn st)) (zA5 st) (zE4 (names.zip (args ++ [.d .none])) []) cells (fun _ c' => K' (.d .none) c') K' (fun _ _ => False)) : zAb g (n + 1) (.stat t) args [] cells K' := by
  obtain ⟨fd, F⟩ := g.fns _ hf
  refine zI8 F ht hsc ?_
  obtain ⟨d, m, hd, hK⟩ := F.defaults
  intro A Z X ρ s vals ws Q st' S ax r1 r2 P
  have hv := r1.length
  obtain ⟨k, e1, e2⟩ := he fd d F.params hd vals hv
  show wpAny _ _ (bindArgs fd ⟨vals, []⟩) _ _ _
  rw [e1]
  refine Qa (wpAny_seqItems (st'.kin S.z _ _ hK) rfl ?_)
  rw [e2]
  have r3 : zBl Z ρ (args ++ [.d .none]) (vals ++ [.none]) := r1.append ⟨.none, [], rfl, by simp [zAw, zA2], rfl⟩
  refine Qb (P _ _ cells Z ρ s ⟨hs, h⟩ (zAa.Le.refl _) (Qp _) S ax ?_ ?_)
  . rw [(zA3 (by simp; omega)).1, (zA3 (by simp; omega)).1]
  . rw [(zA3 (by simp; omega)).2, (zA3 (by simp; omega)).2]; exact r3
end
end
section
section
variable {g : G} {n : Nat} {sc : Sc} {vars : zAe} {cells : List C} {K' : V -> List C -> Prop} {Kn Kn' Kc Kc' : zAe -> List C -> Prop} {Kr Kr' : V -> List C -> Prop}
theorem TA.mono {t : Expr} {u : V} {K K2 : zAe -> List C -> Prop} (h : TA g n sc t u vars cells K) (k : ∀ v c, K v c -> K2 v c) : TA g n sc t u vars cells K2 := by
  intro A env Z X R ρ bs m s Q v rm en st fr S ax r P
  exact h A env Z X R ρ bs m s Q v rm en st fr S ax r fun vars' cells' Z' X' ρ' m' s' q => P vars' cells' Z' X' ρ' m' s' (k _ _ q)
theorem TSs.mono {t : List Stmt} (h : TSs g n sc t vars cells Kn Kr Kc) (k1 : ∀ v c, Kn v c -> Kn' v c) (k2 : ∀ u c, Kr u c -> Kr' u c) (k3 : ∀ v c, Kc v c -> Kc' v c) : TSs g n sc t vars cells Kn' Kr' Kc' := by
  intro A env Z X R ρ bs m s Q rm en st fr S ax P
  exact h A env Z X R ρ bs m s Q rm en st fr S ax ⟨fun a b c d e f g q => P.next a b c d e f g (k1 _ _ q), fun a b c d e f g q => P.cont a b c d e f g (k3 _ _ q), fun a b c d e f g q => P.ret a b c d e f g (k2 _ _ q)⟩
theorem TB.mono {e : Expr} {K K2 : Bool -> List C -> Prop} (h : TB g n sc e vars cells K) (k : ∀ q c, K q c -> K2 q c) : TB g n sc e vars cells K2 := by
  intro A env Z X R ρ bs m s Q rm en st fr S ax P
  exact h A env Z X R ρ bs m s Q rm en st fr S ax fun a b c d e q => P a b c d e (k _ _ q)
theorem zXb.mono : ∀ {es : List Expr} {cells : List C} {K K2 : Bool -> List C -> Prop}, zXb g n sc vars es cells K -> (∀ q c, K q c -> K2 q c) -> zXb g n sc vars es cells K2
  | [], _, _, _, h, k => k _ _ h
  | e :: r, _, _, _, h, k => TB.mono h fun q c hq => by
    cases q
    . exact k _ _ hq
    . exact zXb.mono hq k
theorem zAo.mono {k : Nat} {names : List Str} {keep : List C -> Prop} {K K2 : zAe -> List C -> Prop} {v : zAe} {c : List C} (h : zAo k names keep K v c) (hk : ∀ v c, K v c -> K2 v c) : zAo k names keep K2 v c := ⟨h.1, h.2.1, hk _ _ h.2.2⟩
theorem zBv {α : Type} {target : Expr} {body : List Stmt} {names : List Str} {k : Nat} {keep : List C -> Prop} (f : α -> D) (Inv : List α -> zAe -> List C -> Prop) (base : ∀ v c, Inv [] v c -> Kn v c)
    (step : ∀ a r v c KN, (∀ v c, zAo k names keep (Inv r) v c -> KN v c) -> Inv (a :: r) v c -> TA g n sc target (.d (f a)) v c fun v1 c1 => TSs g n sc body v1 c1 KN Kr KN) :
    ∀ (items : List α) (v : zAe) (c : List C), Inv items v c -> zMy g n sc target body names k keep Kn Kr (items.map f) v c
  | [], v, c, h => base v c h
  | a :: r, v, c, h => step a r v c _ (fun _ _ q => q.mono fun v c q => zBv f Inv base step r v c q) h
theorem zAp {α : Type} {target elt : Expr} {ifs : List Expr} {names : List Str} {k : Nat} {keep : List C -> Prop} {Kend : List D -> List C -> Prop} (f : α -> D) (Inv : List D -> List α -> zAe -> List C -> Prop) (base : ∀ acc v c, Inv acc [] v c -> Kend acc c)
    (step : ∀ acc a r v c, Inv acc (a :: r) v c -> TA g n sc target (.d (f a)) v c fun v1 c1 => zXb g n sc v1 ifs c1 fun q c2 => cond q
      (TE g n sc elt v1 c2 fun u c3 => ∃ x c4, toD u c3 = some (x, c4) /\ zAo k names keep (Inv (acc ++ [x]) r) v1 c4) (zAo k names keep (Inv acc r) v1 c2)) :
    ∀ (items : List α) (acc : List D) (v : zAe) (c : List C), Inv acc items v c -> zN4 g n sc target ifs elt names k keep Kend (items.map f) acc v c
  | [], acc, v, c, h => base acc v c h
  | a :: r, acc, v, c, h => (step acc a r v c h).mono fun v1 c1 h1 => zXb.mono h1 fun q c2 hq => by
    cases q
    . exact zAo.mono hq fun v c q => zAp f Inv base step r acc v c q
    . exact TE.mono hq fun u c3 ⟨x, c4, e, hn⟩ => ⟨x, c4, e, hn.mono fun v c q => zAp f Inv base step r _ v c q⟩
theorem zBs {K : Bool -> List C -> Prop} (h : K true cells) : zXb g n sc vars [] cells K := h
theorem zCh {e : Expr} {K : Bool -> List C -> Prop} (h : TB g n sc e vars cells fun q c => K q c) : zXb g n sc vars [e] cells K := TB.mono h fun q c hq => by cases q <;> exact hq
theorem zAo.back {k : Nat} {names : List Str} {keep : List C -> Prop} {K : zAe -> List C -> Prop} {v v' : zAe} {c c' : List C} (h1 : c.take k = c') (h2 : zCj k c' = true) (h3 : keep c') (h4 : zIs k v names = v') (h : K v' c') : zAo k names keep K v c := by
  unfold zAo; rw [h1, h4]; exact ⟨h2, h3, h⟩
theorem zAo.to {k : Nat} {names : List Str} {keep : List C -> Prop} {K KN : zAe -> List C -> Prop} (hN : ∀ v c, zAo k names keep K v c -> KN v c) {v v' : zAe} {c c' : List C} (h1 : c.take k = c') (h2 : zCj k c' = true) (h3 : keep c') (h4 : zIs k v names = v') (h : K v' c') : KN v c :=
  hN v c (.back h1 h2 h3 h4 h)
theorem zMd {l : List D} {k : Int} {d : D} (hk : yCa k) (he : (seqIndex? k l.length).bind (l[·]?) = some d) (h : K' (.d d) cells) : zHu g n (.d (.tup l)) (.d (.int k)) cells K' := zW8 hk ⟨d, he, h⟩
theorem zBq {a : V} {l : List D} {k : Int} {d : D} (hl : zBj a cells = some l) (hk : yCa k) (he : (seqIndex? k l.length).bind (l[·]?) = some d) (h : K' (.d d) cells) : zHu g n a (.d (.int k)) cells K' := zUw hl hk ⟨d, he, h⟩
theorem zC1 {x : Str} {k : Int} {c : Nat} (hk : yCa k) (he : (seqIndex? k x.length).bind (x.cps[·]?) = some c) (h : K' (.d (.str ⟨#[c]⟩)) cells) : zHu g n (.d (.str x)) (.d (.int k)) cells K' := zX4 hk ⟨c, he, h⟩
end
end
section
section
abbrev kUs (u : V) (K : List V -> List C -> Prop) : List V -> List C -> Prop := fun us c => K (u :: us) c
abbrev kEs (g : G) (n : Nat) (sc : Sc) (vars : zAe) (r : List Expr) (K : List V -> List C -> Prop) : V -> List C -> Prop := fun u c => TEs g n sc vars r c (kUs u K)
abbrev kSs (g : G) (n : Nat) (sc : Sc) (r : List Stmt) (Kn : zAe -> List C -> Prop) (Kr : V -> List C -> Prop) (Kc : zAe -> List C -> Prop) : zAe -> List C -> Prop := fun v c => TSs g n sc r v c Kn Kr Kc
abbrev kIf (g : G) (n : Nat) (sc : Sc) (vars : zAe) (a b : List Stmt) (Kn : zAe -> List C -> Prop) (Kr : V -> List C -> Prop) (Kc : zAe -> List C -> Prop) : Bool -> List C -> Prop := fun q c => cond q (TSs g n sc a vars c Kn Kr Kc) (TSs g n sc b vars c Kn Kr Kc)
abbrev yQc (g : G) (n : Nat) (sc : Sc) (vars : zAe) (a b : Expr) (K : V -> List C -> Prop) : Bool -> List C -> Prop := fun q c => cond q (TE g n sc a vars c K) (TE g n sc b vars c K)
abbrev kEv (g : G) (n : Nat) (sc : Sc) (vars : zAe) (e : Expr) (K : V -> V -> List C -> Prop) : V -> List C -> Prop := fun a c => TE g n sc e vars c (K a)
abbrev yP9 (g : G) (n : Nat) (op : Operator) (K : V -> List C -> Prop) : V -> V -> List C -> Prop := fun a b c => zIl g n op a b c K
abbrev yP4 (g : G) (n : Nat) (op : CmpOp) (K : V -> List C -> Prop) : V -> V -> List C -> Prop := fun a b c => zDf g n op a b c K
abbrev yQw (g : G) (n : Nat) (K : V -> List C -> Prop) : V -> V -> List C -> Prop := fun a b c => zHu g n a b c K
abbrev kQ (K : Bool -> List C -> Prop) : V -> List C -> Prop := fun u c => ∃ q, u = .d (.bool q) /\ K q c
abbrev kTr (g : G) (n : Nat) (K : Bool -> List C -> Prop) : V -> List C -> Prop := fun a c => zJ7 g n a c K
abbrev yQg (g : G) (n : Nat) (sc : Sc) (vars : zAe) (r : List Expr) (K : Bool -> List C -> Prop) : Bool -> List C -> Prop := fun q c => cond q (zHx g n sc .And vars K r c) (K false c)
abbrev kOr (g : G) (n : Nat) (sc : Sc) (vars : zAe) (r : List Expr) (K : Bool -> List C -> Prop) : Bool -> List C -> Prop := fun q c => cond q (K true c) (zHx g n sc .Or vars K r c)
abbrev yQn (K : Bool -> List C -> Prop) : Bool -> List C -> Prop := fun q c => K (!q) c
abbrev yPy (g : G) (x : Str) (K : V -> List C -> Prop) : V -> List C -> Prop := fun u c => zPq g u x c K
abbrev kVs (vars : zAe) (K : zAe -> List C -> Prop) : List C -> Prop := fun c => K vars c
abbrev yOx (g : G) (x : Str) (u : V) (vars : zAe) (K : zAe -> List C -> Prop) : V -> List C -> Prop := fun a c => zHf g a x u c (kVs vars K)
abbrev kTA (g : G) (n : Nat) (sc : Sc) (t : Expr) (vars : zAe) (K : zAe -> List C -> Prop) : V -> List C -> Prop := fun u c => TA g n sc t u vars c K
abbrev kEx (vars : zAe) (K : zAe -> List C -> Prop) : V -> List C -> Prop := fun _ c => K vars c
abbrev kWs (g : G) (n : Nat) (fv : V) (us : List V) (kws : List Keyword) (K : V -> List C -> Prop) : List V -> List C -> Prop := fun ws c => zAb g n fv us ((zCp kws).zip ws) c K
abbrev yN3 (g : G) (n : Nat) (sc : Sc) (vars : zAe) (fv : V) (kws : List Keyword) (K : V -> List C -> Prop) : List V -> List C -> Prop := fun us c => TEs g n sc vars (kws.map (·.value)) c (kWs g n fv us kws K)
abbrev yPz (g : G) (n : Nat) (sc : Sc) (vars : zAe) (args : List Expr) (kws : List Keyword) (K : V -> List C -> Prop) : V -> List C -> Prop := fun fv c => zEj g fv /\ TEs g n sc vars args c (yN3 g n sc vars fv kws K)
abbrev yG2 (g : G) (n : Nat) (sc : Sc) (vars : zAe) (fv : V) (fst : List V) (kws : List Keyword) (K : V -> List C -> Prop) : List V -> List C -> Prop := fun us c => TEs g n sc vars (kws.map (·.value)) c (kWs g n fv (fst ++ us) kws K)
abbrev yOq (g : G) (n : Nat) (sc : Sc) (vars : zAe) (args : List Expr) (kws : List Keyword) (c : List C) (K : V -> List C -> Prop) : V -> List V -> Prop := fun fv fst => zEj g fv /\ TEs g n sc vars args c (yG2 g n sc vars fv fst kws K)
abbrev kM (g : G) (n : Nat) (sc : Sc) (vars : zAe) (name : Str) (args : List Expr) (kws : List Keyword) (K : V -> List C -> Prop) : V -> List C -> Prop := fun u c => zCl g u name c (yOq g n sc vars args kws c K)
abbrev yP8 (K : V -> List C -> Prop) : List V -> List C -> Prop := fun us c => us.length <= sizeLine /\ ∃ ds c1, zRd us c = some (ds, c1) /\ K (.d (.tup ds)) c1
abbrev yOi (K : V -> List C -> Prop) : List V -> List C -> Prop := fun us c => us.length <= sizeLine /\ ∃ ds c1, zRd us c = some (ds, c1) /\ K (.d (.lst ds)) c1
abbrev yQh (K : V -> List C -> Prop) : List V -> List C -> Prop := fun us c => us.length <= sizeLine /\ ∃ ds c1, zRd us c = some (ds, c1) /\ K (.loc c1.length) (c1 ++ [.lst ds])
variable {g : G} {n : Nat} {sc : Sc} {vars : zAe} {cells : List C} {K' : V -> List C -> Prop} {KB : Bool -> List C -> Prop} {Kn : zAe -> List C -> Prop} {Kr : V -> List C -> Prop} {Kc : zAe -> List C -> Prop} {K : List V -> List C -> Prop}
theorem k_cons {e : Expr} {r : List Expr} (h : TE g n sc e vars cells (kEs g n sc vars r K)) : TEs g n sc vars (e :: r) cells K := zYu h
theorem k_cons_kw {e : Keyword} {r : List Keyword} (h : TE g n sc e.value vars cells (kEs g n sc vars (r.map (·.value)) K)) : TEs g n sc vars ((e :: r).map (·.value)) cells K := zPi h
theorem k_call {x : Str} {p p' : Pos} {args : List Expr} {kws : List Keyword} (hp : args.all zB2 = true) (hk : zVr kws = true) (h : TE g n sc (.Name x p) vars cells (yPz g n sc vars args kws K')) : TE g n sc (.Call (.Name x p) args kws p') vars cells K' := yDb hp hk h
theorem k_method {o : Expr} {name : Str} {apos pos : Pos} {args : List Expr} {kws : List Keyword} (hs : zD1 o = true) (hp : args.all zB2 = true) (hk : zVr kws = true)
    (hfew : decide (args.length + kws.length + (if kws.isEmpty then 0 else 1) < 30) = true) (hline : (apos.endLine == pos.line) = true) (h : TE g n sc o vars cells (kM g n sc vars name args kws K')) : TE g n sc (.Call (.Attribute o name apos) args kws pos) vars cells K' := zX1 hs hp hk hfew hline h
theorem k_attr {o : Expr} {x : Str} {p : Pos} (hs : zD1 o = true) (h : TE g n sc o vars cells (yPy g x K')) : TE g n sc (.Attribute o x p) vars cells K' := yD6 hs h
theorem k_bin {l r : Expr} {op : Operator} {p : Pos} (h : TE g n sc l vars cells (kEv g n sc vars r (yP9 g n op K'))) : TE g n sc (.BinOp l op r p) vars cells K' := yOg h
theorem k_sub {e i : Expr} {p : Pos} (hs : zMr i = true) (h : TE g n sc e vars cells (kEv g n sc vars i (yQw g n K'))) : TE g n sc (.Subscript e i p) vars cells K' := yMt hs h
theorem k_ifexp {t a b : Expr} {p : Pos} (h : TB g n sc t vars cells (yQc g n sc vars a b K')) : TE g n sc (.IfExp t a b p) vars cells K' := zZf h
theorem k_cmp {l r : Expr} {op : CmpOp} {p : Pos} (hm : behindInMarks op r = false) (h : TE g n sc l vars cells (kEv g n sc vars r (yP4 g n op K'))) : TE g n sc (.Compare l [op] [r] p) vars cells K' := yPq hm h
theorem k_tcmp {l r : Expr} {op : CmpOp} {p : Pos} (hm : behindInMarks op r = false) (h : TE g n sc l vars cells (kEv g n sc vars r (yP4 g n op (kQ KB)))) : TB g n sc (.Compare l [op] [r] p) vars cells KB := yHo hm h
theorem k_tval {e : Expr} (he : ∀ env whole, isTrue e env whole = (do let v ← whole; standAt e.pos; holding [v] (truthy v))) (h : TE g n sc e vars cells (kTr g n KB)) : TB g n sc e vars cells KB := yHf he h
theorem k_tuple {es : List Expr} {p : Pos} {k : Nat} (hp : es.all zB2 = true) (h : TEs g n sc vars es cells (yP8 K')) : TE g n sc (.Tuple es k p) vars cells K' := yBg hp h
theorem yFm {es : List Expr} {p : Pos} (hp : es.all zB2 = true) (h : TEs g n sc vars es cells (yOi K')) : TE g n sc (.List es p) vars cells K' := yAu hp h
theorem zFm {es : List Expr} {p : Pos} (hp : es.all zB2 = true) (h : TEs g n sc vars es cells (yQh K')) : TE g n sc (.List es p) vars cells K' := yD4 hp h
theorem k_ss {t : Stmt} {r : List Stmt} (h : TS g n sc t vars cells (kSs g n sc r Kn Kr Kc) Kr Kc) : TSs g n sc (t :: r) vars cells Kn Kr Kc := yB3 h
theorem k_assign {t e : Expr} {p : Pos} (hp : zB2 t = true) (hl : zDh e = true) (hs : zM7 sc t e = false) (ht : zSc e = true) (h : TE g n sc e vars cells (kTA g n sc t vars Kn)) : TS g n sc (.Assign [t] e p) vars cells Kn Kr Kc := zV3 hp hl hs ht h
theorem k_expr {e : Expr} {p : Pos} (hs : zQt e = true) (h : TE g n sc e vars cells (kEx vars Kn)) : TS g n sc (.Expr e p) vars cells Kn Kr Kc := yF7 hs h
theorem k_taattr {e : Expr} {x : Str} {p : Pos} {u : V} {K : zAe -> List C -> Prop} (h : TE g n sc e vars cells (yOx g x u vars K)) : TA g n sc (.Attribute e x p) u vars cells K := yFp h
theorem k_if {t : Expr} {a b : List Stmt} {p : Pos} (h : TB g n sc t vars cells (kIf g n sc vars a b Kn Kr Kc)) : TS g n sc (.If t a b p) vars cells Kn Kr Kc := yPb h
theorem k_not {e : Expr} {p : Pos} (h : TB g n sc e vars cells (yQn KB)) : TB g n sc (.UnaryOp .Not e p) vars cells KB := yHu h
theorem k_and {e : Expr} {r : List Expr} (h : TB g n sc e vars cells (yQg g n sc vars r KB)) : zHx g n sc .And vars KB (e :: r) cells := zW9 h
theorem k_or {e : Expr} {r : List Expr} (h : TB g n sc e vars cells (kOr g n sc vars r KB)) : zHx g n sc .Or vars KB (e :: r) cells := zZo h
theorem zMw {x y : Int} (h : Builtin.divisionGoesByPylong 1 y = false) (hy : decide ((if y == 0 then 0 else y.natAbs.log2 / 30 + 1) > 300) = false) : Builtin.divisionGoesByPylong x y = false := by
  unfold Builtin.divisionGoesByPylong
  simp only [hy, Bool.false_and]
theorem y_mod {x y : Int} (h1 : y ≠ 0) (h : K' (.d (.int (x.fmod y))) cells) : zIl g n .Mod (.d (.int x)) (.d (.int y)) cells K' := zUn h1 h
theorem y_div {x y : Int} (h1 : y ≠ 0) (h2 : Builtin.divisionGoesByPylong 1 y = false) (hy : decide ((if y == 0 then 0 else y.natAbs.log2 / 30 + 1) > 300) = false) (h : K' (.d (.int (x.fdiv y))) cells) : zIl g n .FloorDiv (.d (.int x)) (.d (.int y)) cells K' := zNd h1 (zMw h2 hy) h
theorem x_subtup {l : List D} {k : Int} (d : D) (hk : yCa k) (he : (seqIndex? k l.length).bind (l[·]?) = some d) (h : K' (.d d) cells) : zHu g n (.d (.tup l)) (.d (.int k)) cells K' := zMd hk he h
theorem x_keep {k : Nat} {P : Prop} (h : zMb (.stat k) = true) (p : P) : zEj g (.stat k) /\ P := ⟨zSs h, p⟩
theorem x_var {x : Str} {p : Pos} (u : V) (hl : zB7 x vars = some u) (hd : (x == ("__debug__" : Str)) = false) (hn : (x == ("__classdict__" : Str)) = false) (h : K' u cells) : TE g n sc (.Name x p) vars cells K' := yD7 hl hd hn h
theorem x_glob {x : Str} {p : Pos} (u : V) (hg : zB7 x zFo = some u) (hk : sc.scope.names.lookup x = some .globalImplicit) (hd : (x == ("__debug__" : Str)) = false) (h : K' u cells) : TE g n sc (.Name x p) vars cells K' := yH3 hg hk hd h
section
variable {x : Str} {cl i : Nat} {KM : V -> List V -> Prop}
theorem x_str {y : Str} (t : Nat) (h : zB7 x zPj = some t) (k : KM (.stat t) [.d (.str y)]) : zCl g (.d (.str y)) x cells KM := yLx h k
theorem x_lst {l : List D} (t : Nat) (h : zB7 x zKa = some t) (k : KM (.stat t) [.d (.lst l)]) : zCl g (.d (.lst l)) x cells KM := yN8 h k
theorem x_loc (l : List D) (t : Nat) (hc : cells[i]? = some (.lst l)) (h : zB7 x zKa = some t) (k : KM (.stat t) [.loc i]) : zCl g (.loc i) x cells KM := yOl hc h k
theorem x_items (fs : List (Str × V)) (hc : cells[i]? = some (.dict fs)) (k : KM (.stat 38) [.loc i]) : zCl g (.loc i) (Qd "items") cells KM := yDc hc k
theorem x_obj (fs : List (Str × V)) (f : Addr) (t : Nat) (hc : cells[i]? = some (.dict fs)) (hl : zB7 x fs = none) (hm : zG8 cl x = some (f, t)) (hcl : zDe.any (fun p => p.1 == cl) = true) (k : KM (.stat t) [.obj cl i]) : zCl g (.obj cl i) x cells KM := yPa hc hl hm hcl k
theorem x_fld (fs : List (Str × V)) (w : V) (hc : cells[i]? = some (.dict fs)) (hl : zB7 x fs = some w) (hf : zE7 cl x = true) (k : KM w []) : zCl g (.obj cl i) x cells KM := yO4 hc hl hf k
theorem x_get (fs : List (Str × V)) (w : V) (hc : cells[i]? = some (.dict fs)) (hl : zB7 x fs = some w) (hf : zE7 cl x = true) (k : K' w cells) : zPq g (.obj cl i) x cells K' := yPd hc hl hf k
theorem x_meth (fs : List (Str × V)) (f : Addr) (t : Nat) (hc : cells[i]? = some (.dict fs)) (hl : zB7 x fs = none) (hm : zG8 cl x = some (f, t)) (hcl : zDe.any (fun p => p.1 == cl) = true) (k : K' (.meth f cl i) cells) : zPq g (.obj cl i) x cells K' := yK3 hc hl hm hcl k
theorem x_set {u : V} {KK : List C -> Prop} (fs : List (Str × V)) (hc : cells[i]? = some (.dict fs)) (hf : zE7 cl x = true) (hz : fs.length.ble 100 = true) (k : KK (cells.set i (.dict (zEx x u fs)))) : zHf g (.obj cl i) x u cells KK := yPt hc hf (Qe hz) k
end
end
end
section
local macro_rules
  | `(tactic| walk_at "w") => do
    let mut alts := #[]
    for (d, n, s) in [(0, 1, "x_keep"), (0, 0, "k_cons TEs_nil TEs_nil_kw k_cons_kw TE_const_int TE_const_str TE_const_none TE_const_bool k_bin k_ifexp m_re7 m_re8 m_b3 k_ss TSs_nil k_taattr k_if TS_return TS_continue k_not TB_bool q_bool cond_true cond_false cmp_leInt cmp_ltInt cmp_geInt cmp_eqInt cmp_neInt cmp_eqStr cmp_neStr cmp_isNotNone cmp_isNone cmp_b1 tr_bool tr_none k_and k_or TBall_nil op_addInt op_subInt"),
        (1, 3, "x_var x_glob"), (0, 5, "k_method"), (0, 4, "k_assign"), (0, 2, "k_call cmp_isStat cmp_isNotStat"), (0, 1, "k_attr k_sub k_cmp k_tuple k_expr TA_name k_tcmp"), (1, 1, "x_str x_lst x_items"), (2, 2, "x_loc"), (3, 4, "x_obj x_meth"), (2, 3, "x_fld x_get"), (1, 3, "x_set"), (0, 1, "y_mod k_tval"), (0, 3, "y_div"), (1, 2, "x_subtup")] do
      let xs ← (["u", "v", "w"].take d ++ ["a", "b", "c", "d", "e"].take n).mapM fun x => do return Lean.mkIdent (← Lean.MonadQuotation.addMacroScope (.mkSimple x))
      let hs ← xs.mapM fun x => `(?$x:ident)
      let z ← `(?_)
      let cs ← (xs.drop d).mapM fun x => `(tactic| case $x:ident => first | exact rfl | exact fun _ _ => rfl | exact ⟨by decide, by decide⟩ | decide)
      for f in s.splitOn " " do
        let r ← `(tactic| with_reducible refine $(Lean.Syntax.mkApp (Lean.mkIdent (.mkSimple f)) (hs ++ [z]).toArray))
        let ts := (r :: cs).toArray
        alts := alts.push (← `(Lean.Parser.Tactic.tacticSeq| $[$ts]*))
    `(tactic| first $[| $alts]*)
local macro_rules | `(tactic| walk_at "W") => `(tactic| repeat (walk_at "w"))
local macro_rules | `(tactic| walk_at "f") => `(tactic| ((with_reducible refine yFm ?a ?_); (case a => exact rfl)))
section
section
variable {g : G} {n : Nat} {sc : Sc} {vars : zAe} {cells : List C} {K' : V -> List C -> Prop}
theorem zXu {x y : Str} {k : Nat} : (Txt.splitMax x y (k : Int)).length <= k + 1 := by
  unfold Txt.splitMax
  split
  . simp
  . split
    . simp
    . rw [length_partsBetween]
      have := StrLaws.occ_length_le x y 0 x.length (limitOf x (k : Int))
      unfold limitOf at this
      rw [if_neg (by omega)] at this
      have e : limitOf x (k : Int) = k := by unfold limitOf; rw [if_neg (by omega)]; simp
      rw [e] at *
      simp at this
      omega
noncomputable def zHm (s : Str) : D := if (Txt.splitMax s "'" 2).length <= 2 then .tup [.none, .none, .str s] else .lst ((Txt.splitMax s "'" 2).map .str)
theorem zUz {s : Str} (hs : s.length <= 1000) (h : K' (.d (zHm s)) cells) : zAb g (n + 1) (.stat 0) [.d (.str s)] [] cells K' := by
  refine zBg (a := 38) (st := zAq "decode_rfc2231") (names := ["s"]) (Qk (show zA8[0]? = some _ from rfl)) rfl (by kernel_rfl) ?_ rfl (by kernel_rfl) ?_
  . intro fd hp hd vals hv
    obtain ⟨a, rfl⟩ := zKb hv
    unfold bindArgs
    rw [hp, hd]
    kernel_rfl
  . refine k_ss ?_
    walk_at "W"
    refine zR9 (by rfl) (by decide) (by have : sizeLine = 16777216 := sizeLine_eq; omega) ?_
    walk_at "W"
    have hlen : (Txt.splitMax s (Qd "'") 2).length <= 3 := zXu (k := 2)
    refine zBe (by rfl) (by rw [Qg]; omega) ?_
    walk_at "W"
    unfold zHm at h
    refine zAg (fun q => ?_) (fun q => ?_)
    . have q' : ((Txt.splitMax s (Qd "'") 2).length : Int) <= 2 := by simpa using q
      rw [if_pos (by omega)] at h
      walk_at "W"
      refine ⟨Qe rfl, _, _, zAz (zAz (zAz zA7)), h⟩
    . have q' : 2 < ((Txt.splitMax s (Qd "'") 2).length : Int) := by simpa using q
      rw [if_neg (by omega)] at h
      walk_at "W"
      exact h
theorem zZb {c : Str} (hc : c.length = 1) (h : K' (.d (.bool (zG3.contains (c.cps.getD 0 0 : Nat)))) cells) : zAb g (n + 1) (.stat 3) [.d (.str c)] [] cells K' := by
  refine zBg (a := 98) (st := zAq "in_table_b1") (names := ["code"]) (Qk (show zA8[1]? = some _ from rfl)) rfl (by kernel_rfl) ?_ rfl (by kernel_rfl) ?_
  . intro fd hp hd vals hv
    obtain ⟨a, rfl⟩ := zKb hv
    unfold bindArgs
    rw [hp, hd]
    kernel_rfl
  . refine k_ss ?_
    walk_at "W"
    refine zRl hc ?_
    walk_at "W"
    exact h
noncomputable def zJi (c : Str) : Str := match zJt (c.cps.getD 0 0 : Nat) with
  | some x => x
  | none => Txt.lower c
theorem zW4 {c : Str} (hc : c.length = 1) (hl : Builtin.Str.tooLong (Txt.lower c).length = false) (h : K' (.d (.str (zJi c))) cells) : zAb g (n + 1) (.stat 5) [.d (.str c)] [] cells K' := by
  refine zBg (a := 144) (st := zAq "map_table_b3") (names := ["code"]) (Qk (show zA8[2]? = some _ from rfl)) rfl (by kernel_rfl) ?_ rfl (by kernel_rfl) ?_
  . intro fd hp hd vals hv
    obtain ⟨a, rfl⟩ := zKb hv
    unfold bindArgs
    rw [hp, hd]
    kernel_rfl
  . refine k_ss ?_
    walk_at "W"
    refine zRl hc ?_
    walk_at "W"
    refine zSh ?_
    walk_at "W"
    unfold zJi at h
    induction e : zJt (c.cps.getD 0 0 : Nat) with
    | some x =>
      rw [e] at h
      refine cond_true ?_
      walk_at "W"
      exact h
    | none =>
      rw [e] at h
      refine cond_false ?_
      walk_at "W"
      refine zBx hl ?_
      exact h
end
end
section
section
variable {g : G} {n : Nat} {sc : Sc} {vars : zAe} {cells : List C} {K' : V -> List C -> Prop}
theorem zCn {self : V} {x : Str} {nm : Bool} (hr : (zD4 "_name_disallowed_re" x && zD4 "_value_disallowed_re" x) = true) (hz : x.cps.size < 1000000) (h : K' (.d (.str x)) cells) :
    zAb g (n + 1) (.stat 43) [self, .d (.str x)] [("name", .d (.bool nm))] cells K' := by
  rw [Bool.and_eq_true] at hr
  refine yFx (a := 189) (st := zAf "Headers" "_convert_string_type") (names := ["self", "value", "name"]) (Qk (show zA8[15]? = some _ from rfl)) rfl (by kernel_rfl) ?_ rfl (by kernel_rfl) ?_
  . intro fd hp hd vals ws hv hw
    obtain ⟨a, b, rfl⟩ := zYp hv
    obtain ⟨c, rfl⟩ := zKb hw
    unfold bindArgs
    rw [hp, hd]
    kernel_rfl
  . refine k_ss ?_
    walk_at "W"
    refine zLz ?_
    walk_at "W"
    refine cond_true ?_
    refine k_ss ?_
    walk_at "W"
    cases nm
    . refine cond_false ?_
      walk_at "W"
      refine zJe (.inr ⟨rfl, rfl⟩) hr.2 hz ?_
      walk_at "W"
      exact h
    . refine cond_true ?_
      walk_at "W"
      refine zJe (.inl ⟨rfl, rfl⟩) hr.1 hz ?_
      walk_at "W"
      exact h
end
end
section
noncomputable def zAj : List Str := ["a", "b", "c", "d", "e", "A", "B", "C", "D", "E"]
noncomputable def zNf (x : Str) : Bool := zD4 "_name_disallowed_re" x && zD4 "_value_disallowed_re" x && decide (x.cps.size < 1000)
noncomputable def zXe (x : Str) : Bool := zNf x && !Builtin.Str.tooLong (Txt.lower x).length && !Builtin.Str.tooLong (Txt.upper x).length && zNf (Txt.lower x) && zAj.contains (Txt.lower x) && zAj.contains (Txt.upper x)
theorem zSg : (zAj.all zXe) = true := by decide +kernel
theorem zV0 : (zBd.all zNf) = true := by decide +kernel
theorem zV4 {x : Str} (h : x ∈ zAj) : zXe x = true := Qf.mp zSg x h
structure zUk (x : Str) : Prop where
  re : (zD4 "_name_disallowed_re" x && zD4 "_value_disallowed_re" x) = true
  sz : x.cps.size < 1000000
  lo : Builtin.Str.tooLong (Txt.lower x).length = false
  up : Builtin.Str.tooLong (Txt.upper x).length = false
  reL : (zD4 "_name_disallowed_re" (Txt.lower x) && zD4 "_value_disallowed_re" (Txt.lower x)) = true
  szL : (Txt.lower x).cps.size < 1000000
  memL : Txt.lower x ∈ zAj
  memU : Txt.upper x ∈ zAj
theorem zAt {x : Str} (h : x ∈ zAj) : zUk x := by
  have := zV4 h
  unfold zXe zNf at this
  simp only [Bool.and_eq_true, Bool.not_eq_true', decide_eq_true_eq] at this
  obtain ⟨⟨⟨⟨⟨⟨⟨a, b⟩, c⟩, d⟩, e⟩, ⟨⟨f, f'⟩, f''⟩⟩, i⟩, j⟩ := this
  exact ⟨by rw [a, b]; rfl, by omega, d, e, by rw [f, f']; rfl, by omega, by simpa using i, by simpa using j⟩
theorem zJ2 {x : Str} (h : x ∈ zBd) : (zD4 "_name_disallowed_re" x && zD4 "_value_disallowed_re" x) = true /\ x.cps.size < 1000000 := by
  have := Qf.mp zV0 x h
  unfold zNf at this
  simp only [Bool.and_eq_true, decide_eq_true_eq] at this
  exact ⟨by rw [this.1.1, this.1.2]; rfl, by omega⟩
noncomputable def zBb (hs : List (Str × Str)) : List D := hs.map fun p => .tup [.str p.1, .str p.2]
def zDg (hs : List (Str × Str)) : Prop := ∀ p ∈ hs, p.1 ∈ zAj /\ p.2 ∈ zBd
noncomputable def zBr : List (Str × V) := [("_headers", .loc 1)]
noncomputable def zIv (hs : List (Str × Str)) (x : Str) : Option Str := match hs.find? fun p => Txt.lower p.1 == Txt.lower x with
  | some p => some p.2
  | none => none
section
variable {g : G} {n : Nat} {sc : Sc} {vars : zAe} {cells : List C} {K' : V -> List C -> Prop}
theorem yNy {hs : List (Str × Str)} {x : Str} (hh : zDg hs) (hx : x ∈ zAj) (h : K' (.d (yB9 (zIv hs x))) [.dict zBr, .lst (zBb hs)]) : zAb g (n + 2) (.stat 46) [.obj 288 0, .d (.str x)] [] [.dict zBr, .lst (zBb hs)] K' := by
  have nf := zAt hx
  refine zUf (a := 235) (st := zAf "Headers" "get") (names := ["self", "name", "default"]) (Qk (show zA8[18]? = some _ from rfl)) rfl (by kernel_rfl) ?_ rfl (by kernel_rfl) ?_
  . intro fd d hp hd vals hv
    obtain ⟨a, b, rfl⟩ := zYp hv
    refine ⟨_, by unfold bindArgs; rw [hp, hd]; rfl, by kernel_rfl⟩
  . refine k_ss ?_
    walk_at "W"
    refine zBx nf.lo ?_
    walk_at "W"
    refine zCn nf.reL nf.szL ?_
    walk_at "W"
    refine zDu (fun _ _ => rfl) rfl ?_
    walk_at "W"
    refine ⟨_, rfl, trivial, ?_⟩
    refine zBv (fun p : Str × Str => D.tup [.str p.1, .str p.2]) (fun (l : List (Str × Str)) (v : zAe) (c : List C) => A4 (v = ([("self", V.obj 288 0), ("name", V.d (.str (Txt.lower x))), ("default", V.d .none)] : zAe)) (c = [.dict zBr, .lst (zBb hs)]) ((∀ p ∈ l, p.1 ∈ zAj)) (K' (.d (yB9 (zIv l x))) [.dict zBr, .lst (zBb hs)])) ?base ?step hs _ _ ⟨rfl, rfl, fun p hp => (hh p hp).1, h⟩
    case base =>
      rintro v c ⟨rfl, rfl, -, hK⟩
      walk_at "W"
      exact hK
    case step =>
      rintro p r v c KN hN ⟨rfl, rfl, hl, hK⟩
      have np := zAt (hl p (.head _))
      refine zBt rfl ?_
      walk_at "W"
      refine zBx np.lo ?_
      walk_at "W"
      unfold zIv at hK
      rw [List.find?_cons] at hK
      refine zAg (fun q => ?_) (fun q => ?_)
      . rw [q] at hK
        walk_at "W"
        exact hK
      . rw [q] at hK
        walk_at "W"
        exact zAo.to hN rfl rfl rfl rfl ⟨rfl, rfl, fun p hp => hl p (.tail _ hp), hK⟩
end
end
section
section
variable {g : G} {n : Nat} {sc : Sc} {vars : zAe} {cells : List C} {K' : V -> List C -> Prop}
theorem yPw {hs : List (Str × Str)} (hz : hs.length <= 1000) (h : K' (.d (.lst (hs.map fun p => .str p.1))) [.dict zBr, .lst (zBb hs)]) : zAb g (n + 1) (.stat 47) [.obj 288 0] [] [.dict zBr, .lst (zBb hs)] K' := by
  refine zBg (a := 240) (st := zAf "Headers" "keys") (names := ["self"]) (Qk (show zA8[19]? = some _ from rfl)) rfl (by kernel_rfl) ?_ rfl (by kernel_rfl) ?_
  . intro fd hp hd vals hv
    obtain ⟨a, rfl⟩ := zKb hv
    unfold bindArgs
    rw [hp, hd]
    kernel_rfl
  . refine k_ss ?_
    walk_at "W"
    refine zBa (fun _ _ => rfl) rfl rfl ?_
    walk_at "W"
    refine ⟨_, rfl, trivial, by have : sizeLine = 16777216 := sizeLine_eq; unfold zBb; rw [Qg]; omega, ?_⟩
    refine zAp (fun p : Str × Str => D.tup [.str p.1, .str p.2]) (fun (acc : List D) (l : List (Str × Str)) (v : zAe) (c : List C) => A3 (v = ([] : zAe)) (c = [.dict zBr, .lst (zBb hs)]) (K' (.d (.lst (acc ++ l.map fun p => .str p.1))) [.dict zBr, .lst (zBb hs)])) ?base ?step hs [] _ _ ⟨rfl, rfl, h⟩
    case base =>
      rintro acc v c ⟨rfl, rfl, hK⟩
      simpa using hK
    case step =>
      rintro acc p r v c ⟨rfl, rfl, hK⟩
      refine zBt rfl ?_
      refine zBs ?_
      refine cond_true ?_
      walk_at "W"
      refine ⟨_, _, rfl, zAo.back rfl rfl rfl rfl ⟨rfl, rfl, ?_⟩⟩
      simpa using hK
theorem zUl (l : List D) : zO9 l none none none = l := by
  unfold zO9
  have e : sliceRange (sliceBounds none none none l.length).1 (sliceBounds none none none l.length).2.1 (sliceBounds none none none l.length).2.2 = List.range l.length := by
    show sliceRange 0 (l.length : Int) 1 = _
    unfold sliceRange
    by_cases h : 0 < l.length
    . have e1 : (if (0 : Int) < (l.length : Int) then ((l.length : Int) - 0 + 1 - 1) / 1 else 0) = (l.length : Int) := by rw [if_pos (by omega)]; omega
      simp only [show (1 : Int) > 0 by decide, if_true, e1, Int.toNat_natCast]
      apply List.ext_getElem (by simp)
      intro i h1 h2
      simp
    . have h0 : l.length = 0 := by omega
      rw [h0]; rfl
  rw [e]
  clear e
  have go : ∀ (m : List D), (List.range m.length).filterMap (m[·]?) = m := by
    intro m
    induction m with
    | nil => rfl
    | cons a m ih =>
      rw [Qh, List.range_succ_eq_map, List.filterMap_cons]
      simp only [List.getElem?_cons_zero, List.filterMap_map, Function.comp_def]
      congr 1
  exact go l
theorem yC2 {hs : List (Str × Str)} (hz : hs.length <= 1000) (h : K' (.d (.lst (zBb hs))) [.dict zBr, .lst (zBb hs)]) : zAb g (n + 1) (.stat 48) [.obj 288 0] [] [.dict zBr, .lst (zBb hs)] K' := by
  refine zBg (a := 252) (st := zAf "Headers" "items") (names := ["self"]) (Qk (show zA8[20]? = some _ from rfl)) rfl (by kernel_rfl) ?_ rfl (by kernel_rfl) ?_
  . intro fd hp hd vals hv
    obtain ⟨a, rfl⟩ := zKb hv
    unfold bindArgs
    rw [hp, hd]
    kernel_rfl
  . refine k_ss ?_
    walk_at "W"
    refine zLe ?_
    walk_at "W"
    refine ⟨zBb hs, none, none, none, rfl, by have : sizeLine = 16777216 := sizeLine_eq; unfold zBb; rw [Qg]; omega, rfl, rfl, rfl, by simp, ?_⟩
    rw [zUl]
    exact h
noncomputable def zAm (hs : List (Str × Str)) (x : Str) : List Str := (hs.filter fun p => Txt.lower p.1 == Txt.lower x).map (·.2)
theorem zIw {hs : List (Str × Str)} {x : Str} (hh : zDg hs) (hx : x ∈ zAj) (hz : hs.length <= 1000) (h : K' (.d (.lst ((zAm hs x).map .str))) [.dict zBr, .lst (zBb hs)]) : zAb g (n + 2) (.stat 45) [.obj 288 0, .d (.str x)] [] [.dict zBr, .lst (zBb hs)] K' := by
  have nf := zAt hx
  refine zBg (a := 227) (st := zAf "Headers" "get_all") (names := ["self", "name"]) (Qk (show zA8[17]? = some _ from rfl)) rfl (by kernel_rfl) ?_ rfl (by kernel_rfl) ?_
  . intro fd hp hd vals hv
    obtain ⟨a, b, rfl⟩ := zYp hv
    unfold bindArgs
    rw [hp, hd]
    kernel_rfl
  . refine k_ss ?_
    walk_at "W"
    refine zBx nf.lo ?_
    walk_at "W"
    refine zCn nf.reL nf.szL ?_
    walk_at "W"
    refine zBa (fun _ _ => rfl) rfl rfl ?_
    walk_at "W"
    refine ⟨_, rfl, trivial, by have : sizeLine = 16777216 := sizeLine_eq; unfold zBb; rw [Qg]; omega, ?_⟩
    refine zAp (fun p : Str × Str => D.tup [.str p.1, .str p.2]) (fun (acc : List D) (l : List (Str × Str)) (v : zAe) (c : List C) => A4 (v = ([("name", V.d (.str (Txt.lower x)))] : zAe)) (c = [.dict zBr, .lst (zBb hs)]) ((∀ p ∈ l, p.1 ∈ zAj)) (K' (.d (.lst (acc ++ (zAm l x).map .str))) [.dict zBr, .lst (zBb hs)])) ?base ?step hs [] _ _ ⟨rfl, rfl, fun p hp => (hh p hp).1, h⟩
    case base =>
      rintro acc v c ⟨rfl, rfl, -, hK⟩
      simpa [zAm] using hK
    case step =>
      rintro acc p r v c ⟨rfl, rfl, hl, hK⟩
      have np := zAt (hl p (.head _))
      refine TA_name rfl ?_
      refine zCh ?_
      walk_at "W"
      refine zBx np.lo ?_
      walk_at "W"
      unfold zAm at hK
      rw [Qz] at hK
      refine zAg (fun q => ?_) (fun q => ?_)
      . rw [if_pos q] at hK
        walk_at "W"
        refine ⟨_, _, rfl, zAo.back rfl rfl rfl rfl ⟨rfl, rfl, fun p hp => hl p (.tail _ hp), ?_⟩⟩
        simpa [zAm] using hK
      . rw [if_neg (by rw [q]; decide)] at hK
        exact zAo.back rfl rfl rfl rfl ⟨rfl, rfl, fun p hp => hl p (.tail _ hp), hK⟩
end
end
section
section
variable {g : G} {n : Nat} {sc : Sc} {vars : zAe} {cells : List C} {K' : V -> List C -> Prop}
theorem zFr (hs : List (Str × Str)) (x v : Str) : zBb hs ++ [.tup [.str x, .str v]] = zBb (hs ++ [(x, v)]) := by simp [zBb]
noncomputable def zFl (hs : List (Str × Str)) (x v : Str) : Str × List (Str × Str) := match zIv hs x with
  | some r => (r, hs)
  | none => (v, hs ++ [(x, v)])
theorem zJ5 {hs : List (Str × Str)} {x v : Str} (hh : zDg hs) (hx : x ∈ zAj) (hv : v ∈ zBd) (hz : hs.length <= 1000) (h : K' (.d (.str (zFl hs x v).1)) [.dict zBr, .lst (zBb (zFl hs x v).2)]) :
    zAb g (n + 3) (.stat 49) [.obj 288 0, .d (.str x), .d (.str v)] [] [.dict zBr, .lst (zBb hs)] K' := by
  have nf := zAt hx
  have vf := zJ2 hv
  refine zBg (a := 278) (st := zAf "Headers" "setdefault") (names := ["self", "name", "value"]) (Qk (show zA8[21]? = some _ from rfl)) rfl (by kernel_rfl) ?_ rfl (by kernel_rfl) ?_
  . intro fd hp hd vals hv
    obtain ⟨a, b, c, rfl⟩ := yO6 hv
    unfold bindArgs
    rw [hp, hd]
    kernel_rfl
  . refine k_ss ?_
    walk_at "W"
    refine yNy hh hx ?_
    walk_at "W"
    unfold zFl at h
    induction e : zIv hs x with
    | some r =>
      rw [e] at h
      refine cond_false ?_
      walk_at "W"
      exact h
    | none =>
      rw [e] at h
      refine cond_true ?_
      walk_at "W"
      refine zCn nf.re nf.sz ?_
      walk_at "W"
      refine zCn vf.1 vf.2 ?_
      walk_at "W"
      refine ⟨Qe rfl, _, _, zAz (zAz zA7), ?_⟩
      walk_at "W"
      refine zA9 rfl (by have : sizeLine = 16777216 := sizeLine_eq; unfold zBb; rw [Qg]; omega) ?_
      walk_at "W"
      rw [zFr]
      exact h
theorem yQk {hs : List (Str × Str)} {x : Str} (hh : zDg hs) (hx : x ∈ zAj) (hz : hs.length <= 1000) (h : K' (.d .none) [.dict zBr, .lst (zBb (hs.filter fun p => !(Txt.lower p.1 == Txt.lower x)))]) :
    zAb g (n + 2) (.stat 44) [.obj 288 0, .d (.str x)] [] [.dict zBr, .lst (zBb hs)] K' := by
  have nf := zAt hx
  refine zBg (a := 208) (st := zAf "Headers" "__delitem__") (names := ["self", "name"]) (Qk (show zA8[16]? = some _ from rfl)) rfl (by kernel_rfl) ?_ rfl (by kernel_rfl) ?_
  . intro fd hp hd vals hv
    obtain ⟨a, b, rfl⟩ := zYp hv
    unfold bindArgs
    rw [hp, hd]
    kernel_rfl
  . refine k_ss ?_
    walk_at "W"
    refine zBx nf.lo ?_
    walk_at "W"
    refine zCn nf.reL nf.szL ?_
    walk_at "W"
    refine zBa (fun _ _ => rfl) rfl rfl ?_
    walk_at "W"
    refine ⟨_, rfl, trivial, by have : sizeLine = 16777216 := sizeLine_eq; unfold zBb; rw [Qg]; omega, ?_⟩
    refine zAp (fun p : Str × Str => D.tup [.str p.1, .str p.2]) (fun (acc : List D) (l : List (Str × Str)) (v : zAe) (c : List C) => A4 (v = ([("name", V.d (.str (Txt.lower x)))] : zAe)) (c = [.dict zBr, .lst (zBb hs)]) ((∀ p ∈ l, p.1 ∈ zAj)) (acc ++ zBb (l.filter fun p => !(Txt.lower p.1 == Txt.lower x)) = zBb (hs.filter fun p => !(Txt.lower p.1 == Txt.lower x)))) ?base ?step hs [] _ _ ⟨rfl, rfl, fun p hp => (hh p hp).1, rfl⟩
    case base =>
      rintro acc v c ⟨rfl, rfl, -, hK⟩
      have hK' : acc = zBb (hs.filter fun p => !(Txt.lower p.1 == Txt.lower x)) := by simpa [zBb] using hK
      rw [hK']
      refine yH7 ?_
      walk_at "W"
      have fl := List.length_filter_le (fun p : Str × Str => !(Txt.lower p.1 == Txt.lower x)) hs
      refine yPu rfl (by have : sizeLine = 16777216 := sizeLine_eq; unfold zBb; rw [Qg, Qg]; omega) ?_
      walk_at "W"
      exact h
    case step =>
      rintro acc p r v c ⟨rfl, rfl, hl, hK⟩
      have np := zAt (hl p (.head _))
      refine TA_name rfl ?_
      refine zCh ?_
      walk_at "W"
      refine zBx np.lo ?_
      walk_at "W"
      rw [Qz] at hK
      refine zAg (fun q => ?_) (fun q => ?_)
      . rw [if_pos q] at hK
        walk_at "W"
        refine ⟨_, _, rfl, zAo.back rfl rfl rfl rfl ⟨rfl, rfl, fun p hp => hl p (.tail _ hp), ?_⟩⟩
        rw [← hK, Qj]; rfl
      . rw [if_neg (by rw [q]; decide)] at hK
        exact zAo.back rfl rfl rfl rfl ⟨rfl, rfl, fun p hp => hl p (.tail _ hp), hK⟩
end
end
section
section
variable {g : G} {n : Nat} {sc : Sc} {vars : zAe} {cells : List C} {K' : V -> List C -> Prop}
theorem zPd {a : Addr} {t : Nat} {st : Stmt} {args : List V} {names : List Str} (hf : (a, st, []) ∈ zA8) (ht : zAl[t]? = some (.ref a)) (hsc : zOr (zAn st) = true)
    (he : ∀ fd : FuncData, fd.params = zCk st -> fd.defaults = .none -> ∀ vals : List Value, vals.length = args.length -> bindArgs fd ⟨vals, []⟩ = (alloc { cls := .type "dict", data := .dict #[] } >>= fun d => pure (names.zip (vals ++ [.ref d])))) (hl : args.length + 1 = names.length)
    (hs : (names.zip (args ++ [.loc cells.length])).all (fun p => zA6 (zHi (zAn st)) p.1) = true)
    (h : TSs g n (zHi (zAn st)) (zA5 st) (zE4 (names.zip (args ++ [.loc cells.length])) []) (cells ++ [.dict []]) (fun _ c' => K' (.d .none) c') K' (fun _ _ => False)) : zAb g (n + 1) (.stat t) args [] cells K' := by
  obtain ⟨fd, F⟩ := g.fns _ hf
  refine zI8 F ht hsc ?_
  intro A Z X ρ s vals ws Q st' S ax r1 r2 P
  have hv := r1.length
  show wpAny _ _ (bindArgs fd ⟨vals, []⟩) _ _ _
  rw [he fd F.params F.defaults vals hv]
  refine Qa (wpAny_alloc (Qb ?_))
  have S3 := S.pushCell (o := zEs [] 0) (c := .dict []) rfl ⟨[], 0, rfl, rfl⟩
  have pre : ρ <+: ρ ++ [s.heap.objs.size] := List.prefix_append _ _
  have r3 : zBl Z (ρ ++ [s.heap.objs.size]) (args ++ [.loc cells.length]) (vals ++ [.ref s.heap.objs.size]) := (r1.mono (zAa.Le.refl _) pre).append ⟨_, [], rfl, ⟨_, by rw [← S.len]; simp, rfl⟩, rfl⟩
  refine P _ _ (cells ++ [.dict []]) Z (ρ ++ [s.heap.objs.size]) { s with heap := _ } ⟨hs, h⟩ (zAa.Le.refl _) pre S3 ax ?_ ?_
  . rw [(zA3 (by simp; omega)).1, (zA3 (by simp; omega)).1]
  . rw [(zA3 (by simp; omega)).2, (zA3 (by simp; omega)).2]; exact r3
theorem zRc (x y : Str) : Txt.join x [y] = y := by
  unfold Txt.join
  first | rfl | simp [Builtin.Str.glued]
theorem yN4 {hs : List (Str × Str)} {x v : Str} (hx : x ∈ zAj) (hv : v ∈ zBd) (hz : hs.length <= 1000) (h : K' (.d .none) [.dict zBr, .lst (zBb (hs ++ [(x, v)]))]) :
    zAb g (n + 2) (.stat 50) [.obj 288 0, .d (.str x), .d (.str v)] [] [.dict zBr, .lst (zBb hs)] K' := by
  have nf := zAt hx
  have vf := zJ2 hv
  refine zAb.trim ?_
  refine zPd (a := 285) (st := zAf "Headers" "add_header") (names := ["self", "_name", "_value", "_params"]) (Qk (show zA8[22]? = some _ from rfl)) rfl (by kernel_rfl) ?_ rfl (by kernel_rfl) ?_
  . intro fd hp hd vals hv
    obtain ⟨a, b, c, rfl⟩ := yO6 hv
    unfold bindArgs
    rw [hp, hd]
    kernel_rfl
  . refine k_ss ?_
    walk_at "W"
    refine zFm rfl ?_
    refine TEs_nil ?_
    refine ⟨Qx _, [], _, rfl, ?_⟩
    walk_at "W"
    refine cond_true ?_
    refine k_ss ?_
    walk_at "W"
    refine zCn vf.1 vf.2 ?_
    walk_at "W"
    refine zA9 rfl (Qx _) ?_
    walk_at "W"
    refine zKl (fun _ _ => rfl) ?_
    walk_at "W"
    refine zSz rfl ?_
    refine ⟨2, rfl, rfl, ?_⟩
    walk_at "W"
    refine zCn nf.re nf.sz ?_
    walk_at "W"
    refine zD7 (xs := [v]) rfl (by unfold JoinOk; simp [Builtin.Str.tooLong]; have : sizeLine = 16777216 := sizeLine_eq; have := vf.2; show v.cps.size + 2 <= _; omega) ?_
    rw [zRc]
    refine ⟨Qe rfl, _, _, zAz (zAz zA7), ?_⟩
    walk_at "W"
    refine zA9 rfl (by have : sizeLine = 16777216 := sizeLine_eq; unfold zBb; rw [Qg]; omega) ?_
    walk_at "W"
    rw [zFr]
    exact ⟨rfl, rfl, h⟩
end
end
section
section
variable {g : G} {n : Nat} {sc : Sc} {vars : zAe} {cells : List C} {K' : V -> List C -> Prop}
def zE1 (g : G) (n : Nat) (a : Addr) (args : List V) (kws : List (Str × V)) (cells : List C) (K' : V -> List C -> Prop) : Prop :=
  ∀ A Z X ρ s Q vs ws, zDr n A -> zEq g.K Z -> AtC cells Z X ρ s.heap -> Aux g.os s -> zBl Z ρ args vs -> zBl Z ρ (kws.map (·.2)) ws -> zEf g K' Z X ρ Q ->
    codeAny g.M A (.call (.ref a) ⟨vs, (kws.map (·.1)).zip ws⟩) (fun r s' => match r with | .ok (.ret v) => Q v s' | .ok _ => False | .error e => Bot e s') s
theorem zR6 {a : Addr} {st : Stmt} {dv : List Value} {fd : FuncData} {args : List V} {kws : List (Str × V)} {K' : V -> List C -> Prop} (F : yIh g.K a st dv fd) (hsc : zOr (zAn st) = true)
    (h : zE5 g fd args kws cells fun bvs c => bvs.all (fun p => zA6 (zHi (zAn st)) p.1) = true /\ TSs g n (zHi (zAn st)) (zA5 st) (zE4 bvs []) c (fun _ c' => K' (.d .none) c') K' (fun _ _ => False)) :
    zE1 g (n + 1) a args kws cells K' := by
  intro A Z X ρ s Q vs ws rm stt S ax r1 r2 P
  obtain ⟨o, hK, hd⟩ := F.at_
  have hsc' := hsc
  unfold zOr at hsc'
  simp only [Bool.and_eq_true, Bool.not_eq_true'] at hsc'
  have X0 := stt.kin S.z
  refine codeAny_call_function rm.depth (X0 _ _ hK) hd (by rw [F.scope]; exact hsc'.1.2) (by rw [F.scope]; exact hsc'.2) F.body (codeRec_of X0 F.code) ?_
  refine zAs (h A.in1 Z X ρ s vs ws (fun binds s₁ => wpAny g.M A.in1 (newFunctionEnv fd.scope fd.globals fd.closure binds (fd.qualname ++ ".<locals>.") (some a) fd.code none fd.builtins)
        (fun env s₂ => s₂.heap.NoLimit /\ codeAny g.M A (.func (zA5 st) env) (fun r s' => match r with | .ok (.ret v) => Q v s' | .ok _ => False | .error e => Bot e s') s₂) Bot s₁) stt S ax r1 r2 ?_) fun binds s₁ h₁ => zAs h₁ fun _ _ x => x
  rintro binds bvs c1 Z1 ρ1 s1 ⟨hst, hb⟩ k1 p1 S1 ax1 hn rb
  rw [F.scope, F.globals, F.closure, F.builtins]
  refine zK9 hsc hst hn S1 ax1 rb ?_
  intro env bs m X2 s2 en fr S2 ax2
  refine ⟨g.nolim _ ((stt.mono k1).kin S2.z), codeAny_func ?_⟩
  refine zAs (hb (A.deeper env) env Z1 X2 X ρ1 bs m s2 (fun f s' => Q (match f with | .ret v => v | _ => .none) s') (rm.deeper env) en (stt.mono k1) fr S2 ax2 ⟨?_, ?_, ?_⟩) fun f s' x => x
  . intro v3 c3 Z3 X3 ρ3 m3 s3 h3 k3 p3 fr3 S3 ax3
    refine P _ _ c3 Z3 ρ3 s3 h3 (k1.trans k3) (p1.trans p3) (S3.withX ?_ ?_ ?_) ax3 (by simp [zAw, zA2])
    . exact fun a o e => S3.x _ _ (fr3.keeps a o e)
    . exact fun a o e => S3.xz _ _ (fr3.keeps a o e)
    . intro i a c e1 e2 e3
      induction q : X a with
      | none => rfl
      | some w => have := S3.xr i a c e1 e2 e3; rw [fr3.keeps _ _ q] at this; cases this
  . intro v3 c3 Z3 X3 ρ3 m3 s3 h3; exact h3.elim
  . intro u v c3 Z3 X3 ρ3 s3 h3 k3 p3 Rx S3 ax3 r3
    refine P _ _ c3 Z3 ρ3 s3 h3 (k1.trans k3) (p1.trans p3) (S3.withX ?_ ?_ ?_) ax3 r3
    . exact fun a o e => S3.x _ _ (Rx a o e)
    . exact fun a o e => S3.xz _ _ (Rx a o e)
    . intro i a c e1 e2 e3
      induction q : X a with
      | none => rfl
      | some w => have := S3.xr i a c e1 e2 e3; rw [Rx _ _ q] at this; cases this
theorem zDr.under_make {m : Nat} {A : Around} (r : zDr (m + 1) A) (C : Addr) (rest : List Value) (kw : List (Str × Value)) : zDr m (A.under (.builtin "type.__call__" ⟨.ref C :: rest, kw⟩)) :=
  ⟨r.hd, by have := r.dp; show A.depth + 1 + m < _; omega, by have := r.un; show A.units + 1 + _ + _ < _; omega⟩
theorem zHt {C fI : Addr} {t : Nat} {args : List V} (hm : (C, fI) ∈ [((76 : Addr), (52 : Addr)), (288, 182)]) (ht : zAl[t]? = some (.ref C))
    (h : zE1 g n fI (.obj C cells.length :: args) [] (cells ++ [.dict []]) fun u c => u = .d .none /\ K' (.obj C cells.length) c) : zAb g (n + 1) (.stat t) args [] cells K' := by
  intro A Z X ρ s Q f vs ws rm st S ax rf r1 r2 P
  have hf : f = .ref C := by have : zAl[t]? = some f := rf; rw [ht] at this; cases this; rfl
  subst hf
  have hws : ws = [] := r2
  subst hws
  obtain ⟨mk, hi, hty⟩ := g.stat.makes C fI hm
  have X0 := st.kin S.z
  obtain ⟨hh, gg, dd, tt, oo⟩ := s
  refine wpAny_call (make_core (prog := pw) (w := g.w) (makes_of X0 mk) (looks_findIn X0 hi) (fun self => bind_fn X0 self hty) (.inl rfl) ?_)
  have S1 := S.pushCell (o := zEs [] 0) (c := .dict []) rfl ⟨[], 0, rfl, rfl⟩
  obtain ⟨S2, le⟩ := S1.newFrozen (o := zKi C hh.objs.size) rfl
  have pre : ρ <+: ρ ++ [hh.objs.size] := List.prefix_append _ _
  have sz : (hh.push (zEs [] 0)).objs.size = hh.objs.size + 1 := Heap.size_push ..
  have rx : zAw (Z.put (hh.objs.size + 1) (zKi C hh.objs.size)) (ρ ++ [hh.objs.size]) (.obj C cells.length) (.ref (hh.objs.size + 1)) :=
    ⟨_, hh.objs.size, rfl, by rw [← S.len]; simp, zAa.put_self _ _ _⟩
  have S2' : AtC (cells ++ [.dict []]) (Z.put (hh.objs.size + 1) (zKi C hh.objs.size)) X (ρ ++ [hh.objs.size]) ((hh.push (zEs [] 0)).push (zKi C hh.objs.size)) := by
    rw [← sz]; exact S2
  have le' : Z.Le (Z.put (hh.objs.size + 1) (zKi C hh.objs.size)) := by rw [← sz]; exact le
  refine codeAny_mono (h _ _ X _ ⟨(hh.push (zEs [] 0)).push (zKi C hh.objs.size), gg, dd, tt, oo⟩ (fun v s' => v = .none /\ Q (.ref (hh.objs.size + 1)) s') (.ref (hh.objs.size + 1) :: vs) [] (rm.under_make C vs []) (st.mono le') S2' ax
    ⟨_, _, rfl, rx, r1.mono le' pre⟩ rfl ?_) fun r s' hr => ?_
  . rintro v u c' Z' ρ' s' ⟨rfl, hK⟩ k p S' ax' rv
    refine ⟨by simpa [zAw, zA2] using rv, ?_⟩
    exact P _ _ c' Z' ρ' s' hK (le'.trans k) (pre.trans p) S' ax' (rx.mono k p)
  . rcases r with e | (v | _ | _ | _) <;> first | exact hr.elim | exact hr
theorem zE5.dflt {a : Addr} {st : Stmt} {fd : FuncData} {args : List V} {names : List Str} {KB : List (Str × V) -> List C -> Prop} (F : yIh g.K a st [Value.none] fd)
    (he : ∀ (fd : FuncData) (d : Addr), fd.params = zCk st -> fd.defaults = .ref d -> ∀ vals : List Value, vals.length = args.length -> ∃ k : Option (Array Value) -> Sem (List (Str × Value)), bindArgs fd ⟨vals, []⟩ = seqItems? (.ref d) >>= k /\ k (some #[.none]) = pure (names.zip (vals ++ [.none]))) (hl : args.length + 1 = names.length)
    (h : KB (names.zip (args ++ [.d .none])) cells) : zE5 g fd args [] cells KB := by
  obtain ⟨d, m, hd, hK⟩ := F.defaults
  intro A Z X ρ s vals ws Q st' S ax r1 r2 P
  have hv := r1.length
  obtain ⟨k, e1, e2⟩ := he fd d F.params hd vals hv
  show wpAny _ _ (bindArgs fd ⟨vals, []⟩) _ _ _
  rw [e1]
  refine Qa (wpAny_seqItems (st'.kin S.z _ _ hK) rfl ?_)
  rw [e2]
  have r3 : zBl Z ρ (args ++ [.d .none]) (vals ++ [.none]) := r1.append ⟨.none, [], rfl, by simp [zAw, zA2], rfl⟩
  refine Qb (P _ _ cells Z ρ s h (zAa.Le.refl _) (Qp _) S ax ?_ ?_)
  . rw [(zA3 (by simp; omega)).1, (zA3 (by simp; omega)).1]
  . rw [(zA3 (by simp; omega)).2, (zA3 (by simp; omega)).2]; exact r3
theorem yOp (h : K' (.d .none) [.dict zBr, .lst []]) : zE1 g (n + 1) 182 [.obj 288 0] [] [.dict []] K' := by
  obtain ⟨fd, F⟩ := g.fns _ (Qk (show zA8[14]? = some _ from rfl))
  refine zR6 F (by kernel_rfl) (zE5.dflt (names := ["self", "headers"]) F ?_ rfl ⟨by kernel_rfl, ?_⟩)
  . intro fd d hp hd vals hv
    obtain ⟨a, rfl⟩ := zKb hv
    refine ⟨_, by unfold bindArgs; rw [hp, hd]; rfl, by kernel_rfl⟩
  . refine k_ss ?_
    walk_at "W"
    refine cond_false ?_
    refine zFm rfl ?_
    refine TEs_nil ?_
    refine ⟨Qx _, [], _, rfl, ?_⟩
    walk_at "W"
    refine zG7 rfl ?_
    walk_at "W"
    refine cond_false ?_
    refine TSs_nil ?_
    refine k_ss ?_
    walk_at "W"
    refine zDu (fun _ _ => rfl) rfl ?_
    walk_at "W"
    refine ⟨[], rfl, trivial, ?_⟩
    show TSs _ _ _ _ _ _ _ _ _
    walk_at "W"
    exact h
theorem zJq (h : K' (.obj 288 0) [.dict zBr, .lst []]) : zAb g (n + 2) (.stat 10) [] [] [] K' :=
  zHt (.tail _ (.head _)) rfl (yOp ⟨rfl, h⟩)
end
end
section
section
variable {g : G} {n : Nat} {sc : Sc} {vars : zAe} {cells : List C} {K' : V -> List C -> Prop} {Kn : zAe -> List C -> Prop} {Kr : V -> List C -> Prop} {Kc : zAe -> List C -> Prop}
theorem yKy {e k : Expr} {p p' : Pos} (h : TE g n sc e vars cells fun a c => TE g n sc k vars c fun b c1 => ∃ i x fs, a = .obj 288 i /\ b = .d (.str x) /\ c1[i]? = some (.dict fs) /\ zAb g n (.stat 44) [a, b] [] c1 fun _ c2 => Kn vars c2) :
    TS g n sc (.Delete [.Subscript e k p] p') vars cells Kn Kr Kc := by
  intro A env Z X R ρ bs m s Q rm en st fr S ax P
  refine zEg (arm_exec_Delete ..) ?_
  refine Qa (wpAny_standAt ?_)
  refine Qa ?_
  refine zEg (arm_deleteEach_cons ..) ?_
  rw [arm_delete_Subscript]
  refine Qa (Qa (h A env Z X R ρ bs m s _ rm en st fr S ax ?_))
  intro a ua c1 Z1 ρ1 s1 h1 k1 p1 S1 ax1 r1
  refine Qa (Qc (h1 A env Z1 X R ρ1 bs m s1 _ rm en (st.mono k1) (fr.mono k1 p1) S1 ax1 ?_))
  rintro b ub c2 Z2 ρ2 s2 ⟨i, x, fs, rfl, rfl, hc, hcall⟩ k2 p2 S2 ax2 r2
  have st2 := (st.mono k1).mono k2
  have X0 := st2.kin S2.z
  have mo := g.meth 288 "__delitem__" 208 44 (.tail _ (.tail _ (.tail _ (.tail _ (.head _)))))
  have ra := r1.mono k2 p2
  obtain ⟨y, d, es, q, e', hd, I, ho, rf⟩ := zH1 S2 ra hc
  subst e'
  refine Qa (wpAny_standAt (Qa (Qc ?_)))
  unfold delItem
  refine Qc ?_
  refine Qa (m := sequenceKey _ _ _) ?_
  unfold sequenceKey
  refine Qa (I.type.here ?_)
  dsimp only
  have hns : mroIn g.K 288 (.type "collections.deque") = some false := by
    have := g.stat.noseq
    simpa [seqItemTypes] using this
  refine Qa (m := List.anyM _ _) ?_
  unfold seqItemTypes List.anyM
  refine Qa ((looks_mroIn X0 hns).here ?_)
  refine Qb ?_
  refine zQ9 (show (!false) = true from rfl) ?_
  refine Qb ?_
  refine Qa (m := callSpecial? _ _ _ _) ?_
  unfold callSpecial? specialOf
  refine Qa (Qa (I.type.here ((looks_findIn X0 mo.find).here ?_)))
  dsimp only
  refine Qc ?_
  refine Qa ((bind_fn X0 (.ref y) mo.type).here ?_)
  dsimp only
  refine Qa (m := call _ _ _) ?_
  refine hcall A Z2 X ρ2 s2 _ (.ref 208) [.ref y, b] [] rm st2 S2 ax2 rfl ⟨_, _, rfl, ra, _, _, rfl, r2, rfl⟩ rfl ?_
  intro v u c3 Z3 ρ3 s3 h3 k3 p3 S3 ax3 r3
  refine Qb (Qb (wpAny_release ?_))
  refine zEg (arm_deleteEach_nil ..) ?_
  exact Qb (Qb (P.next _ _ Z3 X ρ3 m s3 h3 (k1.trans (k2.trans k3)) (p1.trans (p2.trans p3)) (fr.mono (k1.trans (k2.trans k3)) (p1.trans (p2.trans p3))) S3 ax3))
end
end
section
noncomputable def zAv (x : Str) : Str := ⟨#[x.cps.getD 0 0]⟩
noncomputable def zCa (hs : List (Str × Str)) (near far : Str) : List (Str × Str) :=
  (hs.filter fun p => !(Txt.lower p.1 == Txt.lower near)) ++ ((zAm hs (Txt.upper near)).eraseIdx (((zAm hs (Txt.upper near)).map zAv).idxOf far)).map (fun v => (near, v)) ++ [(Txt.upper far, near)]
theorem zD8 : (zBd.all fun x => decide (1 <= x.cps.size)) = true := by decide +kernel
theorem zGe {x : Str} (h : 1 <= x.cps.size) : (seqIndex? 0 x.length).bind (x.cps[·]?) = some (x.cps.getD 0 0) := by
  have e : seqIndex? 0 x.length = some 0 := by unfold seqIndex?; simp; exact Nat.ne_of_gt h
  rw [e]
  simp [Array.getD, show 0 < x.cps.size by omega]
theorem zFx {hs : List (Str × Str)} (hh : zDg hs) {x v : Str} (h : v ∈ zAm hs x) : v ∈ zBd := by
  unfold zAm at h
  obtain ⟨p, hp, rfl⟩ := Qq.mp h
  exact (hh p (List.mem_filter.mp hp).1).2
theorem zHn {hs : List (Str × Str)} {x : Str} : (zAm hs x).length <= hs.length := by
  unfold zAm; rw [Qg]; exact List.length_filter_le _ _
theorem zK0 {α : Type} : ∀ (l : List α) (i j : Nat) (h : i < l.length), (l.take (i + 1)).eraseIdx j = (l.take i).eraseIdx j ++ (if i = j then [] else [l[i]])
  | a :: l, 0, 0, _ => rfl
  | a :: l, 0, j + 1, _ => by simp
  | a :: l, i + 1, 0, h => by
    have hi : i < l.length := by simpa using h
    rw [List.take_succ_cons, List.take_succ_cons, List.eraseIdx_cons_zero, List.eraseIdx_cons_zero, if_neg (by omega)]
    exact List.take_succ_eq_append_getElem hi
  | a :: l, i + 1, j + 1, h => by
    have ih := zK0 l i j (by simpa using h)
    rw [List.take_succ_cons, List.take_succ_cons, List.eraseIdx_cons_succ, List.eraseIdx_cons_succ, ih]
    by_cases e : i = j
    . simp [e]
    . simp [e]
theorem zEr {x : Str} (h : x ∈ zAj) : x ∈ zBd := by
  unfold zBd; exact Qu _ h
theorem zTq {i m : Nat} (h : i < m) : seqIndex? (0 + (i : Int)) m = some i := by
  unfold seqIndex?
  have h1 : ¬ (0 + (i : Int) < 0) := by omega
  simp only [h1, if_false]
  have : (0 + (i : Int)).toNat = i := by omega
  simp [h]
section
variable {g : G} {n : Nat} {sc : Sc} {vars : zAe} {cells : List C} {K' : V -> List C -> Prop}
theorem yD3 {hs : List (Str × Str)} {near far : Str} (hh : zDg hs) (hn : near ∈ zAj) (hf : far ∈ zAj) (hz : hs.length <= 500) (hm : far ∈ (zAm hs (Txt.upper near)).map zAv)
    (h : K' (.d .none) [.dict zBr, .lst (zBb (zCa hs near far))]) : zAb g (n + 3) (.stat 14) [.obj 288 0, .d (.str near), .d (.str far)] [] [.dict zBr, .lst (zBb hs)] K' := by
  have nf := zAt hn
  have ff := zAt hf
  refine zBg (a := 316) (st := zAq "_law_turned") (names := ["net", "near", "far"]) (Qk (show zA8[6]? = some _ from rfl)) rfl (by kernel_rfl) ?_ rfl (by kernel_rfl) ?_
  . intro fd hp hd vals hv
    obtain ⟨a, b, c, rfl⟩ := yO6 hv
    unfold bindArgs
    rw [hp, hd]
    kernel_rfl
  . refine k_ss ?_
    walk_at "W"
    refine zCe nf.up ?_
    walk_at "W"
    refine zIw hh nf.memU (by omega) ?_
    walk_at "W"
    have gl := zHn (hs := hs) (x := Txt.upper near)
    refine zBa (fun _ _ => rfl) rfl rfl ?_
    walk_at "W"
    refine ⟨_, rfl, trivial, by have : sizeLine = 16777216 := sizeLine_eq; rw [Qg]; omega, ?_⟩
    refine zAp (fun x : Str => D.str x) (fun (acc : List D) (l : List Str) (v : zAe) (c : List C) => A4 (v = ([] : zAe)) (c = [.dict zBr, .lst (zBb hs)]) ((∀ x ∈ l, x ∈ zBd)) (acc ++ (l.map zAv).map .str = (((zAm hs (Txt.upper near)).map zAv).map .str : List D))) ?base ?step (zAm hs (Txt.upper near)) [] _ _ ⟨rfl, rfl, fun x hx => zFx hh hx, rfl⟩
    case step =>
      rintro acc x r v c ⟨rfl, rfl, hl, hK⟩
      refine TA_name rfl ?_
      refine zBs ?_
      refine cond_true ?_
      walk_at "W"
      have hx : 1 <= x.cps.size := by simpa using Qf.mp zD8 x (hl x (.head _))
      refine zC1 ⟨by decide, by decide⟩ (zGe hx) ?_
      refine ⟨_, _, rfl, zAo.back rfl rfl trivial rfl ⟨rfl, rfl, fun y hy => hl y (.tail _ hy), ?_⟩⟩
      rw [← hK, Qj]; rfl
    case base =>
      rintro acc v c ⟨rfl, rfl, -, hK⟩
      have hK' : acc = (((zAm hs (Txt.upper near)).map zAv).map .str : List D) := by simpa using hK
      rw [hK']
      walk_at "W"
      refine zTc rfl hm (by rw [Qg]; omega) ?_
      walk_at "W"
      refine yKy ?_
      walk_at "W"
      refine ⟨0, near, zBr, rfl, rfl, rfl, ?_⟩
      refine yQk hh hn (by omega) ?_
      walk_at "W"
      refine zDu (fun _ _ => rfl) rfl ?_
      walk_at "W"
      refine zBe rfl (by rw [Qg]; omega) ?_
      walk_at "W"
      refine zB5 ?_
      refine ⟨_, rfl, ?_, ?_⟩
      . show Builtin.Range.small _ _ _ = true
        exact PySem.small_one (by lia) (by lia) (by rw [Qg]; lia) (by rw [Qg]; lia)
      rw [Qg]
      show zMy _ _ _ _ _ _ _ _ _ _ ((List.range (((zAm hs (Txt.upper near)).length : Int) - 0).toNat).map fun (k : Nat) => D.int (0 + (k : Int))) _ _
      refine zBv (fun k : Nat => D.int (0 + (k : Int))) (fun (l : List Nat) (v : zAe) (c : List C) => ∃ i, A4 (i <= (zAm hs (Txt.upper near)).length) (l = (List.range (zAm hs (Txt.upper near)).length).drop i) (v = ([("net", V.obj 288 0), ("near", V.d (.str near)), ("far", V.d (.str far)), ("goals", V.d (.lst ((zAm hs (Txt.upper near)).map .str))), ("gone", V.d (.int (((zAm hs (Txt.upper near)).map zAv).idxOf far : Nat)))] : zAe)) (c = [.dict zBr, .lst (zBb ((hs.filter fun p => !(Txt.lower p.1 == Txt.lower near)) ++ (((zAm hs (Txt.upper near)).take i).eraseIdx (((zAm hs (Txt.upper near)).map zAv).idxOf far)).map (fun v => (near, v))))])) ?b2 ?s2
        _ _ _ ⟨0, Qx _, by simp, rfl, by simp⟩
      case b2 =>
        rintro v c ⟨i, hi, hl, rfl, rfl⟩
        have ei : i = (zAm hs (Txt.upper near)).length := by
          have := List.drop_eq_nil_iff.mp hl.symm
          rw [List.length_range] at this; omega
        subst ei
        rw [List.take_length]
        walk_at "W"
        refine zCe ff.up ?_
        walk_at "W"
        refine yN4 ff.memU (zEr hn) ?_ ?_
        . have f1 := List.length_filter_le (fun p : Str × Str => !(Txt.lower p.1 == Txt.lower near)) hs
          have f2 := List.length_eraseIdx_le (zAm hs (Txt.upper near)) (((zAm hs (Txt.upper near)).map zAv).idxOf far)
          rw [Qi, Qg]; omega
        . walk_at "W"
          exact h
      case s2 =>
        rintro k r v c KN hN ⟨i, hi, hl, rfl, rfl⟩
        have hlt : i < (zAm hs (Txt.upper near)).length := by
          have e := congrArg List.length hl
          simp at e; omega
        rw [List.drop_eq_getElem_cons (by simpa using hlt)] at hl
        simp only [List.getElem_range, List.cons.injEq] at hl
        obtain ⟨rfl, rfl⟩ := hl
        have te := zK0 (zAm hs (Txt.upper near)) k (((zAm hs (Txt.upper near)).map zAv).idxOf far) hlt
        refine TA_name rfl ?_
        refine k_ss ?_
        walk_at "W"
        refine zAg (fun q => ?_) (fun q => ?_)
        . have q' : k ≠ ((zAm hs (Txt.upper near)).map zAv).idxOf far := by
            rintro e; rw [← e] at q; simp at q
          rw [if_neg q'] at te
          walk_at "W"
          refine zBq (d := .str ((zAm hs (Txt.upper near))[k])) rfl ⟨by lia, by lia⟩ ?_ ?_
          . rw [Qg, zTq hlt]
            simp [hlt]
          walk_at "W"
          have gv := zFx hh (List.getElem_mem hlt)
          refine yN4 hn gv ?_ ?_
          . have f1 := List.length_filter_le (fun p : Str × Str => !(Txt.lower p.1 == Txt.lower near)) hs
            have f2 := List.length_eraseIdx_le ((zAm hs (Txt.upper near)).take k) (((zAm hs (Txt.upper near)).map zAv).idxOf far)
            have f3 := List.length_take_le k (zAm hs (Txt.upper near))
            rw [Qi, Qg]; omega
          . walk_at "W"
            refine zAo.to hN rfl rfl trivial rfl ⟨k + 1, hlt, rfl, rfl, ?_⟩
            rw [te, Qt, ← Qj]
            rfl
        . have q' : k = ((zAm hs (Txt.upper near)).map zAv).idxOf far := by
            have : (0 + (k : Int)) = ((((zAm hs (Txt.upper near)).map zAv).idxOf far : Nat) : Int) := by simpa using q
            omega
          rw [if_pos q', List.append_nil] at te
          walk_at "W"
          refine zAo.to hN rfl rfl trivial rfl ⟨k + 1, hlt, rfl, rfl, ?_⟩
          rw [te]
          rfl
end
end
section
theorem zCi : Slot "callable_iterator" "__next__" "callable_iterator.__next__" :=
  .of (owner := "callable_iterator") (n := "__next__") (by rw [typeLookup_type, builtinLookup_eq_fast]; kernel_rfl) (by decide +kernel) (by decide +kernel) (by decide +kernel)
    (by first | exact .inl (by decide +kernel) | exact .inr (by decide +kernel)) (by rw [isSubtype_type]; kernel_rfl)
theorem zG6 : Slot "callable_iterator" "__iter__" "callable_iterator.__iter__" :=
  .of (owner := "callable_iterator") (n := "__iter__") (by rw [typeLookup_type, builtinLookup_eq_fast]; kernel_rfl) (by decide +kernel) (by decide +kernel) (by decide +kernel)
    (by first | exact .inl (by decide +kernel) | exact .inr (by decide +kernel)) (by rw [isSubtype_type]; kernel_rfl)
theorem zF7 : entryFor table "callable_iterator.__next__" = some Builtin.«callable_iterator.__next__» := entryFor_of_tree (by kernel_rfl)
theorem zKk : entryFor table "callable_iterator.__iter__" = some Builtin.«dict_keyiterator.__iter__» :=
  entryFor_alias (id' := "dict_keyiterator.__iter__") (by kernel_rfl) rfl (by decide +kernel) (by kernel_rfl)
theorem zHd (a : Value) : argsOk "callable_iterator.__next__" ⟨[a], []⟩ := by unfold argsOk; kernel_rfl
theorem zLj (a : Value) : argsOk "callable_iterator.__iter__" ⟨[a], []⟩ := by unfold argsOk; kernel_rfl
theorem zIn : typeLookup (.type "method") "__call__" = pure (some (.builtin "method.__call__")) := by rw [typeLookup_type, builtinLookup_eq_fast]; kernel_rfl
theorem zGv {M : Model} {A : Around} {f : Value} {pos : List Value} {Q : Value -> Shared -> Prop} {E : Value -> Shared -> Prop} {s : Shared} (h : wpAny M A (call f pos) Q E s) : wpAny M A (callBorrowed f pos) Q E s := fun Γ p hΓ => by
  have := h Γ p hΓ
  rw [Sem.wp_cmd_call] at this
  unfold callBorrowed
  rw [Sem.wp_call]
  refine wpCode_mono ?_ this
  intro r s' hr
  rcases r with e | (v | _ | _ | _) <;> exact hr
theorem zC6 {w : World} {A : Around} {α : Type} {s : Shared} {Q : α -> Shared -> Prop} {E : Value -> Shared -> Prop} (hh : A.handled = none)
    (h : ∀ h' a, (∀ b o, s.heap.get? b = some o -> h'.get? b = some o) -> (∃ o, h'.get? a = some o /\ o.cls = .type "StopIteration") -> E (.ref a) { s with heap := h' }) : wpAny (model pw w) A (Builtin.SmallTypes.stopIteration : Sem α) Q E s := by
  show wpAny _ _ (newExc (.type "StopIteration") [] >>= _) _ _ _
  refine Qa ?_
  simp only [newExc, newTuple]
  refine Qa (wpAny_newObj_type ?_ (by size_fits))
  refine Qa (m := firstArgMember _ _) (wpAny_of_eq (a := Value.none) (by first | rfl | (simp only [firstArgMember]; rfl)) ?_)
  refine wpAny_newObj_type ?_ (by size_fits)
  simp only [raiseNew]
  refine Qa (wpAny_handled ?_)
  rw [hh]
  refine Qa (Qb (wpAny_throw ?_))
  exact h _ _ (fun b o e => Heap.get?_push_of_some _ (Heap.get?_push_of_some _ e)) ⟨_, Heap.get?_push_size _ rfl, rfl⟩
section
variable {g : G} {n : Nat} {sc : Sc} {vars : zAe} {cells : List C} {K' : V -> List C -> Prop} {Kn : zAe -> List C -> Prop} {Kr : V -> List C -> Prop} {Kc : zAe -> List C -> Prop}
theorem zFk {a : Addr} {t : Nat} {args : List V} {kws : List (Str × V)} (ht : zAl[t]? = some (.ref a)) (h : zE1 g n a args kws cells K') : zAb g n (.stat t) args kws cells K' := by
  intro A Z X ρ s Q f vs ws rm st S ax rf r1 r2 P
  have hf : f = .ref a := by have : zAl[t]? = some f := rf; rw [ht] at this; cases this; rfl
  subst hf
  exact wpAny_call (h A Z X ρ s Q vs ws rm st S ax r1 r2 P)
theorem zVs {f C : Addr} {i : Nat} {args : List V} (h : zE1 g n f (.obj C i :: args) [] cells K') : zAb g n (.meth f C i) args [] cells K' := by
  intro A Z X ρ s Q fv vs ws rm st S ax rf r1 r2 P
  have hws : ws = [] := r2
  subst hws
  obtain ⟨q, a, d, rfl, zq, hd, za⟩ := rf
  refine wpAny_call (ks_codeAny_call_bound (S.z _ _ zq) ?_)
  exact h A Z X ρ s Q (.ref a :: vs) [] rm st S ax ⟨_, _, rfl, ⟨a, d, rfl, hd, za⟩, r1⟩ rfl P
noncomputable def yF8 (f : Addr) : Bool := zA8.any fun p => p.1 == f
theorem yBj {f : Addr} (h : yF8 f = true) : ∃ o fd, g.K.lookup f = some o /\ o.data = .func fd := by
  unfold yF8 at h
  obtain ⟨p, hp, e⟩ := List.any_eq_true.mp h
  have e' : p.1 = f := by simpa using e
  obtain ⟨fd, F⟩ := g.fns p hp
  obtain ⟨o, ho, hd⟩ := F.at_
  exact ⟨o, fd, by rw [← e']; exact ho, hd⟩
theorem zIc {f C : Addr} {i : Nat} {A : Around} {Z X : zAa} {ρ : List Addr} {s : Shared} {v : Value} {Q : Bool -> Shared -> Prop} {E : Value -> Shared -> Prop} (hf : yF8 f = true) (st : zEq g.K Z) (S : AtC cells Z X ρ s.heap) (r : zAw Z ρ (.meth f C i) v) (h : Q true s) :
    wpAny g.M A (borrowsExactly v) Q E s := by
  obtain ⟨q, a, d, rfl, zq, hd, za⟩ := r
  obtain ⟨o, fd, ho, hfd⟩ := yBj (g := g) hf
  unfold borrowsExactly
  refine Qa (wpAny_load (S.z _ _ zq) ?_)
  dsimp only
  rw [if_pos (by rfl)]
  show wpAny _ _ (load f >>= _) _ _ _
  refine Qa (wpAny_load (st.kin S.z _ _ ho) ?_)
  rw [hfd]
  exact Qb h
theorem yBo {f cl : Addr} {i j : Nat} {sx : Str} {K2 : Str -> List C -> Prop} {A : Around} {Z X : zAa} {ρ : List Addr} {s : Shared} {it : Addr} {Q : Option Value -> Shared -> Prop} (hf : yF8 f = true)
    (hc : cells[i]? = some (.citer (.meth f cl j) (.str sx))) (h : zE1 g n f [.obj cl j] [] cells fun u c => ∃ y, u = .d (.str y) /\ c[i]? = some (.citer (.meth f cl j) (.str sx)) /\ K2 y c)
    (rm : zDr (n + 1) A) (st : zEq g.K Z) (S : AtC cells Z X ρ s.heap) (ax : Aux g.os s) (hi : ρ[i]? = some it)
    (P1 : ∀ y c' Z' ρ' s' v, K2 y c' -> y ≠ sx -> Z.Le Z' -> ρ <+: ρ' -> AtC c' Z' X ρ' s'.heap -> Aux g.os s' -> zA2 Z' (.str y) v -> Q (some v) s')
    (P2 : ∀ c' Z' ρ' s', K2 sx c' -> Z.Le Z' -> ρ <+: ρ' -> AtC (c'.set i .cdone) Z' X ρ' s'.heap -> Aux g.os s' -> Q none s') :
    wpAny g.M A (pyNext (.ref it)) Q Bot s := by
  obtain ⟨o, ho, fv, xv, rfl, rf, rx⟩ := S.c i it _ hi hc rfl
  have hT : s.TypeIs (.ref it) "callable_iterator" := ⟨_, ho, rfl⟩
  unfold pyNext
  refine Qa (wpAny_attempt (wpAny_callSpecial?_slot (name := Qd "__next__") hT zCi
    (wpAny_call_entry zCi hT zF7 ?_ (zHd _))))
  show wpAny _ _ (field (.ref it) 2 >>= _) _ _ s
  refine Qa (wpAny_field ho rfl (x := .bool false) rfl ?_)
  rw [if_neg (show ¬ ((Value.bool false == Value.bool true) = true) from Qw)]
  refine Qa (wpAny_field ho rfl (x := fv) rfl ?_)
  refine Qa (wpAny_attempt ?_)
  unfold callOutOfASlot
  refine Qa (zIc hf st S rf ?_)
  rw [if_pos rfl]
  refine zGv ?_
  have rm1 := rm.in1
  refine zAs (zVs h A.in1 Z X ρ s _ fv [] [] rm1 st S ax rf rfl rfl (fun v u c1 Z1 ρ1 s1 h1 k1 p1 S1 ax1 r1 => ?_)) fun _ _ x => x
  obtain ⟨y, rfl, hc1, hk⟩ := h1
  obtain ⟨t, rfl⟩ := zBo r1
  have hi1 := zEh p1 hi
  obtain ⟨o1, ho1, fv1, xv1, rfl, rf1, rx1⟩ := S1.c i it _ hi1 hc1 rfl
  obtain ⟨t1, rfl⟩ := zBo (ρ := ρ1) (show zAw Z1 ρ1 (.d (.str sx)) xv1 from rx1)
  refine Qa (wpAny_field ho1 rfl (x := .bool false) rfl ?_)
  rw [if_neg (show ¬ ((Value.bool false == Value.bool true) = true) from Qw)]
  refine Qa (wpAny_field ho1 rfl (x := .str sx t1) rfl ?_)
  refine Qa (Qc (wpAny_eqBool_str ?_))
  by_cases e : sx = y
  . subst e
    rw [if_neg (by simp)]
    refine Qa (wpAny_rule ?_)
    show wpAny _ _ ((do
      slotLetsGo "callable_iterator.__next__" (← field (.ref it) 0) fun | .builtin "callable_iterator.__next__" x => x.pos.head? == some (.ref it) | _ => false
      setField (.ref it) 0 .none; setField (.ref it) 1 .none; setField (.ref it) 2 (.bool true)) >>= _) _ _ _
    refine Qa (Qa (wpAny_field ho1 rfl (x := fv1) rfl ?_))
    have hsl : ∀ {who : String} {busy : Code -> Bool} {Q : Unit -> Shared -> Prop} {E : Value -> Shared -> Prop}, Q () s1 -> wpAny g.M A.in1 (slotLetsGo who fv1 busy) Q E s1 := by
      intro who busy Q E hQ
      have hb : ∀ {Q : Bool -> Shared -> Prop} {E : Value -> Shared -> Prop}, Q true s1 -> wpAny g.M A.in1 (borrowsExactly fv1) Q E s1 := fun h => zIc hf (st.mono k1) S1 rf1 h
      obtain ⟨q, a, d, rfl, _⟩ := rf1
      unfold slotLetsGo
      refine Qa (hb ?_)
      rw [if_pos rfl]
      exact Qb hQ
    refine Qa (zAs (hsl (Q := fun _ s' => s' = s1) rfl) fun _ s' e => ?_)
    subst e
    refine Qa (wpAny_setField ho1 rfl (by simp) ?_)
    have ho2 := Heap.get?_update_self (Obj.mapFields (·.setIfInBounds 0 .none)) ho1 rfl
    refine Qa (wpAny_setField ho2 rfl (by simp [Obj.mapFields]) ?_)
    have ho3 := Heap.get?_update_self (Obj.mapFields (·.setIfInBounds 1 .none)) ho2 rfl
    refine wpAny_setField ho3 rfl (by simp [Obj.mapFields]) ?_
    have ho4 := Heap.get?_update_self (Obj.mapFields (·.setIfInBounds 2 (.bool true))) ho3 rfl
    refine zC6 rm1.hd fun h' a k ⟨oe, hoe, ce⟩ => ?_
    refine Qa (wpAny_isInstance (T := "StopIteration") (b := true) ⟨_, hoe, ce⟩ isSubtype_stop ?_)
    refine Qb (P2 c1 Z1 ρ1 _ hk k1 p1 ?_ ax1)
    refine S1.update hi1 hc1 rfl (fun b o hb e => k _ _ ?_) (k _ _ ho4) rfl
    exact ((((Heap.SameBut.update ..).trans (Heap.SameBut.update ..)).trans (Heap.SameBut.update ..)).2 b hb).trans e
  . rw [if_pos (by simpa using e)]
    exact Qb ⟨_, rfl, Qb (P1 y c1 Z1 ρ1 s1 _ hk (Ne.symm e) k1 p1 S1 ax1 r1)⟩
theorem zVq {i : Nat} {A : Around} {Z X : zAa} {ρ : List Addr} {s : Shared} {it : Addr} {Q : Option Value -> Shared -> Prop} (hc : cells[i]? = some .cdone) (rm : zDr (n + 1) A) (S : AtC cells Z X ρ s.heap) (hi : ρ[i]? = some it)
    (P : ∀ h', AtC cells Z X ρ h' -> Q none { s with heap := h' }) : wpAny g.M A (pyNext (.ref it)) Q Bot s := by
  obtain ⟨o, ho, ro⟩ := S.c i it _ hi hc rfl
  have ro : o = ⟨.type "callable_iterator", none, .fields #[.none, .none, .bool true], #[]⟩ := ro
  subst ro
  have hT : s.TypeIs (.ref it) "callable_iterator" := ⟨_, ho, rfl⟩
  unfold pyNext
  refine Qa (wpAny_attempt (wpAny_callSpecial?_slot (name := Qd "__next__") hT zCi
    (wpAny_call_entry zCi hT zF7 ?_ (zHd _))))
  show wpAny _ _ (field (.ref it) 2 >>= _) _ _ s
  refine Qa (wpAny_field ho rfl (x := .bool true) rfl ?_)
  rw [if_pos (show (Value.bool true == Value.bool true) = true from rfl)]
  refine Qa (wpAny_rule ?_)
  refine Qa ?_
  refine zC6 rm.in1.hd fun h' a k ⟨oe, hoe, ce⟩ => ?_
  refine Qa (wpAny_isInstance (T := "StopIteration") (b := true) ⟨_, hoe, ce⟩ isSubtype_stop ?_)
  exact Qb (P h' (S.ext k))
theorem zYt {i : Nat} {A : Around} {Z X : zAa} {ρ : List Addr} {s : Shared} {v : Value} {Q : Value -> Shared -> Prop} (hc : (∃ f x, cells[i]? = some (.citer f x)) ∨ cells[i]? = some .cdone) (S : AtC cells Z X ρ s.heap) (r : zAw Z ρ (.loc i) v)
    (h : ∀ it, v = .ref it -> ρ[i]? = some it -> Q (.ref it) s) : wpAny g.M A (pyIter v) Q Bot s := by
  obtain ⟨it, hi, rfl⟩ := r
  have hT : s.TypeIs (.ref it) "callable_iterator" := by
    rcases hc with ⟨f, x, hc⟩ | hc
    . obtain ⟨o, ho, fv, xv, rfl, _⟩ := S.c i it _ hi hc rfl; exact ⟨_, ho, rfl⟩
    . obtain ⟨o, ho, ro⟩ := S.c i it _ hi hc rfl
      have ro : o = ⟨.type "callable_iterator", none, .fields #[.none, .none, .bool true], #[]⟩ := ro
      subst ro; exact ⟨_, ho, rfl⟩
  refine wpAny_pyIter_slot hT zG6 (wpAny_call_entry zG6 hT zKk ?_ (zLj _))
  show wpAny _ _ (ret (.ref it)) _ _ s
  exact Qb ⟨_, rfl, "callable_iterator", _, hT, zCi.lookup, h it rfl hi⟩
theorem zSj (a b : Value) : argsOk "iter" ⟨[a, b], []⟩ := by unfold argsOk; kernel_rfl
theorem zXo {f cl : Addr} {i : Nat} {x : Str} (h : K' (.loc cells.length) (cells ++ [.citer (.meth f cl i) (.str x)])) : zAb g n (.stat 24) [.meth f cl i, .d (.str x)] [] cells K' := by
  refine zAy (v := .builtin "iter") rfl ?_
  intro A Z X ρ s Q vals rm st S ax r P
  obtain ⟨v, w, rfl, rv, rw'⟩ := r.two
  have rw'' := rw'
  obtain ⟨t, rfl⟩ := zBo rw'
  have rv' := rv
  obtain ⟨q, a, d, rfl, zq, hd, za⟩ := rv
  refine call_function_entry (by decide +kernel) (by decide +kernel) kdk_entry_iter (zSj _ _) ?_
  show wpAny _ _ (specialOf (.ref q) "__call__" >>= _) _ _ s
  refine Qa (wpAny_specialOf (T := "method") ⟨_, S.z _ _ zq, rfl⟩ zIn ?_)
  rw [if_neg (by simp)]
  refine Qa (wpAny_rule ?_)
  refine Qa (wpAny_newObj_type ?_)
  have S1 := S.pushCell (o := yO0 (.ref q) (.str x t)) (c := .citer (.meth f cl i) (.str x)) rfl ⟨_, _, rfl, rv', rw''⟩
  refine Qb ⟨_, rfl, ?_⟩
  have pre : ρ <+: ρ ++ [s.heap.objs.size] := List.prefix_append _ _
  exact P _ _ _ Z _ { s with heap := s.heap.push (yO0 (.ref q) (.str x t)) } h (zAa.Le.refl _) pre S1 ax ⟨_, by rw [← S.len]; simp, rfl⟩
def zPc (g : G) (n : Nat) (sc : Sc) (target : Expr) (body : List Stmt) (names : List Str) (k i : Nat) (Kn : zAe -> List C -> Prop) (Kr : V -> List C -> Prop) : Nat -> zAe -> List C -> Prop
  | 0, _, _ => False
  | j + 1, vars, cells => (cells[i]? = some .cdone /\ Kn vars cells) ∨ ∃ f cl d sx, yF8 f = true /\ cells[i]? = some (.citer (.meth f cl d) (.str sx)) /\
      zE1 g n f [.obj cl d] [] cells fun u c => ∃ y, u = .d (.str y) /\ c[i]? = some (.citer (.meth f cl d) (.str sx)) /\
        (y = sx -> Kn vars (c.set i .cdone)) /\
        (y ≠ sx -> TA g (n + 1) sc target (.d (.str y)) vars c fun v c1 => TSs g (n + 1) sc body v c1 (zAo k names (fun _ => True) (zPc g n sc target body names k i Kn Kr j)) Kr (zAo k names (fun _ => True) (zPc g n sc target body names k i Kn Kr j)))
theorem zLf {target iter : Expr} {body : List Stmt} {p : Pos} (j i : Nat) (hf : ∀ env x, foldedSetIterable iter env x = pure x) (ht : okT target = true)
    (h : TE g (n + 1) sc iter vars cells fun u c => u = .loc i /\ ((∃ f x, c[i]? = some (.citer f x)) ∨ c[i]? = some .cdone) /\ zPc g n sc target body (vars.map (·.1)) c.length i Kn Kr j vars c) :
    TS g (n + 1) sc (.For target iter body [] p) vars cells Kn Kr Kc := by
  intro A env Z X R ρ bs m s Q rm en st fr S ax P
  refine wpAny_For (h A env Z X R ρ bs m s _ rm en st fr S ax ?_) (hf env)
  rintro x u c1 Z1 ρ1 s1 ⟨rfl, hc1, hL⟩ k1 p1 S1 ax1 r1
  refine zYt hc1 S1 r1 ?_
  rintro it rfl hi
  have stat1 := st.mono k1
  have fr1 := fr.mono k1 p1
  have P1 := P.grow k1 p1
  refine codeAny_forLoop_any (yBl g.os sc env Z1 R ρ1 bs (zPc g n sc target body (vars.map (·.1)) c1.length i Kn Kr)) ?_ j ⟨vars, c1, Z1, X, m, hL, zAa.Le.refl _, fr1, S1, ax1⟩
  have zKb : ρ1.length = c1.length := S1.len
  clear hL hc1 P fr fr1 S S1 ax ax1
  rintro q s4 ⟨vs, cs, Z4, X4, m4, hL4, k4, fr4, S4, ax4⟩
  induction q using Nat.casesAuxOn with
  | zero => exact hL4.elim
  | succ q =>
    rcases hL4 with ⟨hcd, hk⟩ | ⟨f, cl, d, sx, hfa, hci, hcode⟩
    . refine zAs (zVq hcd rm S4 hi fun h' S5 => ?_) fun _ _ x => x
      exact zAs (wpAny_execs_nil (P1.next _ _ Z4 X4 ρ1 m4 _ hk k4 (Qp _) fr4 S5 ax4)) fun _ _ x => x
    . refine zAs (yBo (K2 := fun y c => (y = sx -> Kn vs (c.set i .cdone)) /\
          (y ≠ sx -> TA g (n + 1) sc target (.d (.str y)) vs c fun v c1' => TSs g (n + 1) sc body v c1' (zAo c1.length (vars.map (·.1)) (fun _ => True) (zPc g n sc target body (vars.map (·.1)) c1.length i Kn Kr q)) Kr (zAo c1.length (vars.map (·.1)) (fun _ => True) (zPc g n sc target body (vars.map (·.1)) c1.length i Kn Kr q))))
          hfa hci hcode rm (stat1.mono k4) S4 ax4 hi ?_ ?_) fun _ _ x => x
      . rintro y c5 Z5 ρ5 s5 v ⟨-, hk⟩ ne k5 p5 S5 ax5 rd
        refine zAs (zJ1 ht (by rintro a rfl; exact nomatch (show ∃ t, Value.ref a = .str y t from rd)) ?_) fun _ _ x => x
        refine zAs (hk ne A env Z5 X4 R ρ5 bs m4 s5 _ v rm en ((stat1.mono k4).mono k5) (fr4.mono k5 p5) S5 ax5 rd ?_) fun _ _ x => x
        intro v7 c7 Z7 X7 ρ7 m7 s7 h7 k7 p7 fr7 S7 ax7
        exact zAs (h7 A env Z7 X7 R ρ7 bs m7 s7 _ rm en (((stat1.mono k4).mono k5).mono k7) fr7 S7 ax7 (zX2 zKb P1 (k4.trans (k5.trans k7)) (p5.trans p7))) fun _ _ x => x
      . rintro c5 Z5 ρ5 s5 ⟨hk, -⟩ k5 p5 S5 ax5
        exact zAs (wpAny_execs_nil (P1.next _ _ Z5 X4 ρ5 m4 _ (hk rfl) (k4.trans k5) p5 (fr4.mono k5 p5) S5 ax5)) fun _ _ x => x
end
end
section
noncomputable def sg (l : List Nat) : List D := l.map fun c => .str ⟨#[c]⟩
noncomputable def zGj : List Nat -> Str
  | [] => ""
  | c :: _ => ⟨#[c]⟩
section
variable {g : G} {n : Nat} {sc : Sc} {vars : zAe} {cells : List C} {K' : V -> List C -> Prop}
theorem zKx {scope : Scope} {qual : Str} {func : Option Addr} {code : Value} {binds : List (Str × Value)} {bvs : List (Str × V)} {vars0 : zAe} {closure : List (Str × Addr)} {A : Around} {Z X : zAa} {ρ : List Addr} {s : Shared} {Q : Env -> Shared -> Prop} (hsc : zOr scope = true)
    (hs : bvs.all (fun p => zA6 (zHi scope) p.1) = true) (hn : binds.map (·.1) = bvs.map (·.1)) (S : AtC cells Z X ρ s.heap) (ax : Aux g.os s) (r : zBl Z ρ (bvs.map (·.2)) (binds.map (·.2)))
    (hclo : ∀ x c, closure.lookup x = some c -> c < s.heap.objs.size)
    (hv : ∀ x u, zB7 x vars0 = some u -> x ∉ zDd scope.names /\ (∃ k, scope.names.lookup x = some k /\ (k = .cell ∨ k = .free)) /\ ∃ c o v, closure.lookup x = some c /\ X c = some o /\ o.data = .cell (some v) /\ zAw Z ρ u v)
    (P : ∀ env bs m X' s', zB9 (zHi scope) env -> zAh (zHi scope) env (zE4 bvs vars0) Z X' X ρ bs m -> AtC cells Z X' ρ s'.heap -> Aux g.os s' -> env.code = code -> env.qual = qual -> env.cells = cellsFrom (s.heap.objs.size + 1) scope.names closure -> Q env s') :
    wpAny g.M A (newFunctionEnv scope mainGlobals closure binds qual func code none builtinsNs) Q Bot s := by
  unfold zOr at hsc
  simp only [Bool.and_eq_true, decide_eq_true_eq, beq_iff_eq] at hsc
  obtain ⟨⟨⟨⟨hk, hcell⟩, nd⟩, _⟩, _⟩ := hsc
  simp only [newFunctionEnv, Option.isSome_none, Bool.false_eq_true, if_false]
  refine Qa (wpAny_alloc ?_)
  refine Qa (wpAny_layCells _ (fun name kind cells => by cases hkc : kind == NameKind.cell <;> simp [hkc]) _ _ _ _ ?_)
  rw [show ({ s with heap := s.heap.push { cls := .type "frame", data := .dict #[] } } : Shared).heap.objs.size = s.heap.objs.size + 1 from Heap.size_push ..]
  obtain ⟨X1, bs, m, fr, S1, -, -⟩ := zJf (sc := zHi scope) (vars := vars0) S { cls := .type "frame", data := .dict #[] } rfl scope.names closure
    (newEnv scope s.heap.objs.size mainGlobals (cellsFrom (s.heap.objs.size + 1) scope.names closure) qual func code none builtinsNs) rfl rfl nd hclo
    (fun x hx => by have := Qf.mp hcell x hx; show scope.names.lookup x = _; simpa using this) rfl hv
  refine Qa (zRp (sc := zHi scope) (env := newEnv scope s.heap.objs.size mainGlobals (cellsFrom (s.heap.objs.size + 1) scope.names closure) qual func code none builtinsNs) ⟨rfl, hk, rfl, rfl⟩
    _ (fun _ _ _ => rfl) bvs binds vars0 Z X1 ρ m _ _ hs hn fr S1 ax r ?_)
  intro X' m' s' fr' S' ax'
  exact Qb (P _ bs m' X' s' ⟨rfl, hk, rfl, rfl⟩ fr' S' ax' rfl rfl rfl)
mutual
theorem zA2.melt {Z : zAa} {b : Addr} {ob : Obj} {v : Option Value} (hd : ob.data = .cell v) (zb : Z b = some ob) : ∀ (d : D) (u : Value), zA2 Z d u -> zA2 (Z.drop b) d u
  | .none, _, h => by simpa [zA2] using h
  | .bool _, _, h => by simpa [zA2] using h
  | .int _, _, h => by simpa [zA2] using h
  | .str _, _, h => by simpa [zA2] using h
  | .tup l, _, h => by
    simp only [zA2] at h ⊢
    obtain ⟨a, vs, n, e, z, r⟩ := h
    refine ⟨a, vs, n, e, ?_, zAk.melt hd zb l vs r⟩
    rw [zAa.drop_ne (by rintro rfl; rw [zb] at z; cases z; cases hd)]; exact z
  | .lst l, _, h => by
    simp only [zA2] at h ⊢
    obtain ⟨a, vs, n, e, z, r⟩ := h
    refine ⟨a, vs, n, e, ?_, zAk.melt hd zb l vs r⟩
    rw [zAa.drop_ne (by rintro rfl; rw [zb] at z; cases z; cases hd)]; exact z
theorem zAk.melt {Z : zAa} {b : Addr} {ob : Obj} {v : Option Value} (hd : ob.data = .cell v) (zb : Z b = some ob) : ∀ (l : List D) (vs : List Value), zAk Z l vs -> zAk (Z.drop b) l vs
  | [], _, h => by simpa [zAk] using h
  | d :: l, _, h => by
    simp only [zAk] at h ⊢
    obtain ⟨v, r, e, x, y⟩ := h
    exact ⟨v, r, e, zA2.melt hd zb d v x, zAk.melt hd zb l r y⟩
end
theorem AtC.melt {l : List D} {Z X : zAa} {ρ : List Addr} {h : Heap} {b : Addr} {ob : Obj} {v : Option Value} (S : AtC [.lst l] Z X ρ h) (zb : Z b = some ob) (hd : ob.data = .cell v) : AtC [.lst l] (Z.drop b) (X.put b ob) ρ h := by
  have mem1 : ∀ {i : Nat} {c : C}, ([.lst l] : List C)[i]? = some c -> i = 0 /\ c = .lst l := by
    intro i c e
    induction i using Nat.casesAuxOn with
    | zero => simp at e; exact ⟨rfl, e.symm⟩
    | succ i => simp at e
  refine ⟨S.len, fun a o e => S.z a o (zAa.drop_le e), fun a o e => ?_, S.nd, fun i a c e1 e2 e3 => ?_, fun a o e => ?_, fun i a c e1 e2 e3 => ?_, fun i a c e1 e2 e3 => ?_⟩
  . by_cases q : a = b
    . subst q; rw [zAa.put_self] at e; cases e; exact S.z _ _ zb
    . rw [zAa.put_ne _ _ q] at e; exact S.x _ _ e
  . have := S.zr i a c e1 e2 e3
    unfold zAa.drop; split
    . rfl
    . exact this
  . by_cases q : a = b
    . subst q; exact zAa.drop_self
    . rw [zAa.put_ne _ _ q] at e; rw [zAa.drop_ne q]; exact S.xz _ _ e
  . have hz := S.zr i a c e1 e2 e3
    rw [zAa.put_ne _ _ (by rintro rfl; rw [zb] at hz; cases hz)]
    exact S.xr i a c e1 e2 e3
  . obtain ⟨o, ho, r⟩ := S.c i a c e1 e2 e3
    obtain ⟨rfl, rfl⟩ := mem1 e2
    obtain ⟨vs, m, e, rd⟩ := r
    refine ⟨o, ho, vs, m, e, ?_⟩
    exact zAk.melt hd zb l vs rd
theorem yFb {l : List Nat} (hz : l.length < 1000000) : TE g n (zHi (zCq zAx)) (zH2 zAx) (zE4 [(Qd "count", V.d (.int 1))] [(Qd "signs", V.loc 0)]) [.lst (sg l)] fun u c => u = .d (.str (zGj l)) /\ c = [.lst (sg l.tail)] := by
  refine k_method rfl rfl rfl rfl rfl ?_
  walk_at "W"
  have hl : (sg l).length = l.length := by simp [sg]
  refine zBa (fun _ _ => rfl) rfl rfl ?_
  walk_at "W"
  refine zBe rfl (by omega) ?_
  walk_at "W"
  refine zM3 ?_
  walk_at "W"
  refine zB5 ?_
  rw [hl]
  induction l using List.casesOn with
  | nil =>
    refine ⟨_, rfl, PySem.small_one (by decide) (by decide) (by decide) (by decide), Qx _, ?_⟩
    refine zAp (fun x : Nat => D.int x) (fun (acc : List D) (l : List Nat) (v : zAe) (c : List C) => A3 (l = []) (acc = []) (c = [.lst (sg [])])) ?b1 ?s1 [] [] _ _ ⟨rfl, rfl, rfl⟩
    case s1 => rintro acc a r v c ⟨hn, -⟩; cases hn
    case b1 =>
      rintro acc v c ⟨-, rfl, rfl⟩
      walk_at "W"
      refine zD7 (xs := []) rfl (by rfl) ?_
      exact ⟨rfl, rfl⟩
  | cons c0 r =>
    have e1 : (if ((c0 :: r).length : Int) < 1 then ((c0 :: r).length : Int) else 1) = 1 := by
      rw [if_neg]; simp; omega
    rw [e1]
    refine ⟨_, rfl, PySem.small_one (by decide) (by decide) (by decide) (by decide), by decide, ?_⟩
    refine zAp (fun x : Nat => D.int x) (fun (acc : List D) (l : List Nat) (v : zAe) (c : List C) => v = ([("signs", V.loc 0)] : zAe) /\ ((l = [0] /\ acc = [] /\ c = [.lst (sg (c0 :: r))]) ∨ (l = [] /\ acc = [.str ⟨#[c0]⟩] /\ c = [.lst (sg r)]))) ?b2 ?s2 [0] [] _ _ ⟨rfl, .inl ⟨rfl, rfl, rfl⟩⟩
    case s2 =>
      rintro acc a r' v c ⟨rfl, ⟨hn, rfl, rfl⟩ | ⟨hn, -⟩⟩
      . cases hn
        refine TA_name rfl ?_
        refine zBs ?_
        refine cond_true ?_
        walk_at "W"
        refine zNe (i := 0) (l := sg r) (d := .str ⟨#[c0]⟩) rfl (by have : sizeLine = 16777216 := sizeLine_eq; simp [sg]; simp at hz; omega) ?_
        exact ⟨_, _, rfl, zAo.back rfl rfl trivial rfl ⟨rfl, .inr ⟨rfl, rfl, rfl⟩⟩⟩
      . cases hn
    case b2 =>
      rintro acc v c ⟨rfl, ⟨hn, -⟩ | ⟨-, rfl, rfl⟩⟩
      . cases hn
      walk_at "W"
      refine zD7 (xs := [⟨#[c0]⟩]) rfl (by rfl) ?_
      exact ⟨by rw [zRc]; rfl, rfl⟩
theorem rd0 {l : List Nat} (hz : l.length < 1000000) (h : K' (.d (.str (zGj l))) [.lst (sg l.tail)]) : zAb g (n + 1) (.rd 0) [.d (.int 1)] [] [.lst (sg l)] K' := by
  intro A Z X ρ s Q f vs ws rm st S ax rf r1 r2 P
  have hws : ws = [] := r2
  subst hws
  obtain ⟨a, b, ad, fd, ob, rfl, za, I, zb, hd, hρ⟩ := rf
  obtain ⟨v, rfl, rv⟩ := r1.one
  obtain ⟨tv, rfl⟩ : ∃ t, v = .int 1 t := by simpa [zAw, zA2] using rv
  have crec : s.heap.CodeRec fd.code fd.qualname := by
    obtain ⟨c, oc, vs, t, e1, e2, e3, e4⟩ := I.code
    exact ⟨c, oc, vs, t, e1, S.z _ _ e2, e3, e4⟩
  have scf : zOr (zCq zAx) = true := by kernel_rfl
  have stb : zEq g.K (Z.drop b) := by
    intro a o e
    have ne : a ≠ b := by
      rintro rfl
      have := st _ _ e
      rw [zb] at this; cases this
      exact g.stat.nocell _ _ _ e hd
    rw [zAa.drop_ne ne]; exact st _ _ e
  have Sb := S.melt zb hd
  refine wpAny_call (kla_callFunE rm.depth (S.z _ _ za) rfl (by rw [I.scope]; kernel_rfl) (by rw [I.scope]; kernel_rfl) I.body crec ?_)
  have hb : bindArgs fd ⟨[.int 1 tv], []⟩ = pure [(Qd "count", .int 1 tv)] := by
    unfold bindArgs; rw [I.params, I.defaults]; kernel_rfl
  show wpAny _ _ (bindArgs fd ⟨[.int 1 tv], []⟩) _ _ _
  rw [hb]
  refine Qb ?_
  rw [I.scope, I.globals, I.closure, I.builtins]
  refine zAs (zKx (g := g) (vars0 := [(Qd "signs", V.loc 0)]) (bvs := [(Qd "count", V.d (.int 1))]) scf (by kernel_rfl) rfl Sb ax ⟨_, [], rfl, by simp [zAw, zA2], rfl⟩ ?_ ?_ ?_) fun _ _ x => x
  . intro x c hx
    rw [List.lookup_cons] at hx
    split at hx
    . cases hx; exact Heap.lt_size (S.z _ _ zb)
    . cases hx
  . intro x u hx
    unfold zB7 at hx
    split at hx
    . rename_i e; cases hx; subst e
      exact ⟨by rw [show zDd (zCq zAx).names = [] by kernel_rfl]; simp, ⟨.free, by kernel_rfl, .inr rfl⟩, b, ob, _, by rw [List.lookup_cons]; simp, zAa.put_self _ _ _, hd, ad, hρ, rfl⟩
    . cases hx
  intro env bs m X2 s2 en fr S2 ax2 _ _ _
  refine ⟨g.nolim _ (stb.kin S2.z), kla_codeExpr ?_⟩
  refine zAs (yFb hz (A.deeper env) env (Z.drop b) X2 (X.put b ob) ρ bs m s2 Q (rm.deeper env) en stb fr S2 ax2 ?_) fun _ _ x => x
  rintro v u c' Z' ρ' s' ⟨rfl, rfl⟩ k p S' ax' rv
  have xb : X2 b = some ob := fr.keeps _ _ (zAa.put_self _ _ _)
  have Xb : X b = none := by
    induction e : X b with
    | none => rfl
    | some o => have := S.xz _ _ e; rw [zb] at this; cases this
  have le : X.Le X2 := fun a o e => fr.keeps _ _ (by rw [zAa.put_ne _ _ (by rintro rfl; rw [Xb] at e; cases e)]; exact e)
  obtain ⟨S3, k3⟩ := (S'.less le).freeze (S'.x _ _ xb) ⟨S'.xz _ _ xb, Xb, fun i c e1 e2 e3 => by have := S'.xr i b c e1 e2 e3; rw [xb] at this; cases this⟩
  refine P _ _ _ _ ρ' s' h (fun a o e => ?_) p S3 ax' (rv.mono k3 (Qp _))
  by_cases q : a = b
  . subst q; rw [zb] at e; cases e; exact zAa.put_self _ _ _
  . exact k3 _ _ (k _ _ (by rw [zAa.drop_ne q]; exact e))
end
end
section
theorem zAb.frameL {g : G} {n : Nat} {cells : List C} {K' : V -> List C -> Prop} {fv : V} {args : List V} (sel : List Nat) (cells0 : List C) (fv0 : V) (args0 : List V)
    (hfv : fv = fv0.mapI (zGn sel cells.length)) (hargs : args = args0.map (V.mapI (zGn sel cells.length)))
    (hbl : (fv0.below sel.length && args0.all (V.below sel.length)) = true) (hn : sel.Nodup) (hb : ∀ j ∈ sel, j < cells.length)
    (hc : cells0.map (fun c => some (c.mapI (zGn sel cells.length))) = sel.map (fun j => cells[j]?)) (hcb : cells0.all (C.below sel.length) = true)
    (h : zAb g n fv0 args0 [] cells0 fun u c => K' (u.mapI (zGn sel cells.length)) (zCv cells sel c)) : zAb g n fv args [] cells K' := by
  refine zAb.frame sel cells0 fv0 args0 [] hfv hargs rfl (by simpa using hbl) hn hb (by have := congrArg List.length hc; simpa using this) (fun k c hk => ?_) h
  have hk' : (cells0.map (fun c => some (c.mapI (zGn sel cells.length))))[k]? = some (some (c.mapI (zGn sel cells.length))) := by rw [List.getElem?_map, hk]; rfl
  rw [hc, List.getElem?_map] at hk'
  induction e : sel[k]? with
  | none => rw [e] at hk'; cases hk'
  | some j =>
    rw [e] at hk'
    simp only [Option.map_some, Option.some.injEq] at hk'
    exact ⟨j, rfl, hk', Qf.mp hcb c (Qk hk)⟩
theorem zLm {g : G} {n : Nat} {cells : List C} {K' : V -> List C -> Prop} {a : Addr} {st : Stmt} {args : List V} {names : List Str} (hf : (a, st, []) ∈ zA8) (hsc : zOr (zAn st) = true)
    (he : ∀ fd : FuncData, fd.params = zCk st -> fd.defaults = .none -> ∀ vals : List Value, vals.length = names.length -> bindArgs fd ⟨vals, []⟩ = pure (names.zip vals)) (hl : args.length = names.length)
    (hs : (names.zip args).all (fun p => zA6 (zHi (zAn st)) p.1) = true)
    (h : TSs g n (zHi (zAn st)) (zA5 st) (zE4 (names.zip args) []) cells (fun _ c' => K' (.d .none) c') K' (fun _ _ => False)) : zE1 g (n + 1) a args [] cells K' := by
  obtain ⟨fd, F⟩ := g.fns _ hf
  exact zR6 F hsc (zE5.pos (he fd F.params F.defaults) hl ⟨hs, h⟩)
noncomputable def wsT : Str := "\n\t\r "
noncomputable def yO5 (ln : Int) : List (Str × V) := [("lineno", .d (.int ln)), ("instream", .obj 76 1), ("whitespace", .d (.str wsT)), ("pushback", .loc 2)]
noncomputable def yPx : List (Str × V) := [("lineno", .d (.int 1)), ("instream", .d .none), ("whitespace", .d (.str wsT)), ("pushback", .loc 3), ("read", .rd 4)]
noncomputable abbrev zCw (ln : Int) (pb : List D) (l : List Nat) (rest : List C) : List C := .dict (yO5 ln) :: .dict yPx :: .lst pb :: .lst [] :: .lst (sg l) :: rest
noncomputable def isN (c : Nat) : Bool := (⟨#[c]⟩ : Str) == "\n"
noncomputable def isQ (c : Nat) : Bool := (⟨#[c]⟩ : Str) == "\""
noncomputable def isB (c : Nat) : Bool := (⟨#[c]⟩ : Str) == "\\"
noncomputable def isW (c : Nat) : Bool := !(Builtin.Str.occurrences wsT ⟨#[c]⟩ 0 wsT.length 1).isEmpty
noncomputable def zC3 (ln : Int) : List Nat -> Int
  | [] => ln
  | c :: _ => if isN c then ln + 1 else ln
section
variable {g : G} {n : Nat} {sc : Sc} {vars : zAe} {cells : List C} {K' : V -> List C -> Prop}
theorem zTy {x y : Int} (h : K' (.d (.int (x + y))) cells) : Op g n (two (inplaceOp .Add)) [.d (.int x), .d (.int y)] cells K' := by
  intro A Z X ρ s Q vals rm st S ax r P
  obtain ⟨a, b, rfl, rx, ry⟩ := r.two
  obtain ⟨t, rfl⟩ := zCd rx; obtain ⟨u, rfl⟩ := zCd ry
  exact PySem.AutoIntOps.iadd_0 (zEf.now P (s := { s with toks := s.toks + 1 }) h S ax ⟨_, rfl⟩)
theorem zEc {x y : Str} (h1 : x.length + y.length <= sizeLine) (h : K' (.d (.str (x ++ y))) cells) : Op g n (two (inplaceOp .Add)) [.d (.str x), .d (.str y)] cells K' := by
  intro A Z X ρ s Q vals rm st S ax r P
  obtain ⟨a, b, rfl, rx, ry⟩ := r.two
  obtain ⟨t, rfl⟩ := zBo rx; obtain ⟨u, rfl⟩ := zBo ry
  exact PyProof.Rows.iadd_str (fun t' tk => zEf.now P (s := { s with toks := tk }) h S ax ⟨_, rfl⟩) h1
theorem zGz {target : Expr} {body : List Stmt} {names : List Str} {k i : Nat} {Kn : zAe -> List C -> Prop} {Kr : V -> List C -> Prop} (Inv : Nat -> zAe -> List C -> Prop) (base : ∀ v c, ¬ Inv 0 v c)
    (step : ∀ j v c KN, (∀ v c, zAo k names (fun _ => True) (Inv j) v c -> KN v c) -> Inv (j + 1) v c -> (c[i]? = some .cdone /\ Kn v c) ∨ ∃ f cl d sx, yF8 f = true /\ c[i]? = some (.citer (.meth f cl d) (.str sx)) /\
      zE1 g n f [.obj cl d] [] c fun u c => ∃ y, u = .d (.str y) /\ c[i]? = some (.citer (.meth f cl d) (.str sx)) /\
        (y = sx -> Kn v (c.set i .cdone)) /\
        (y ≠ sx -> TA g (n + 1) sc target (.d (.str y)) v c fun v c1 => TSs g (n + 1) sc body v c1 KN Kr KN)) :
    ∀ (j : Nat) (v : zAe) (c : List C), Inv j v c -> zPc g n sc target body names k i Kn Kr j v c
  | 0, v, c, h => (base v c h).elim
  | j + 1, v, c, h => step j v c _ (fun _ _ q => q.mono fun v c q => zGz Inv base step j v c q) h
end
noncomputable def zUd : Nat -> List Nat -> Int -> Str -> Str × List Nat × Int
  | 0, l, ln, tok => (tok, l, ln)
  | _ + 1, [], ln, tok => (tok, [], ln)
  | f + 1, c :: r, ln, tok => bif isQ c then (tok, r, zC3 ln [c]) else bif isB c then zUd f r.tail (zC3 (zC3 ln [c]) r) (tok ++ zGj r) else zUd f r (zC3 ln [c]) (tok ++ ⟨#[c]⟩)
noncomputable def zGo : Nat -> List Nat -> Int -> Str -> Str × List Nat × Int
  | 0, l, ln, tok => (tok, l, ln)
  | _ + 1, [], ln, tok => (tok, [], ln)
  | f + 1, c :: r, ln, tok => bif isW c then (tok, r, zC3 ln [c]) else bif isB c then zGo f r.tail (zC3 (zC3 ln [c]) r) (tok ++ zGj r) else zGo f r (zC3 ln [c]) (tok ++ ⟨#[c]⟩)
noncomputable def zKc : Nat -> List Nat -> Int -> Str × List Nat × Int
  | 0, l, ln => ("", l, ln)
  | _ + 1, [], ln => ("", [], ln)
  | f + 1, c :: r, ln => bif isW c then zKc f r (zC3 ln [c]) else bif isQ c then zUd (f + 1) r (zC3 ln [c]) "" else bif isB c then zGo (f + 1) r.tail (zC3 (zC3 ln [c]) r) ("" ++ zGj r) else zGo (f + 1) r (zC3 ln [c]) ("" ++ ⟨#[c]⟩)
section
variable {g : G} {n : Nat} {sc : Sc} {vars : zAe} {cells : List C} {K' : V -> List C -> Prop}
theorem zDx {ln : Int} {pb : List D} {l : List Nat} {rest : List C} (hz : l.length < 1000000) (h : K' (.d (.str (zGj l))) (zCw (zC3 ln l) pb l.tail rest)) : zE1 g (n + 2) 59 [.obj 76 0] [] (zCw ln pb l rest) K' := by
  refine zLm (st := zAf "_netrclex" "_read_char") (names := ["self"]) (Qk (show zA8[11]? = some _ from rfl)) (by kernel_rfl) ?_ rfl (by kernel_rfl) ?_
  . intro fd hp hd vals hv
    obtain ⟨a, rfl⟩ := zKb hv
    unfold bindArgs
    rw [hp, hd]
    kernel_rfl
  . refine k_ss ?_
    walk_at "W"
    refine ⟨zZ1, ?_⟩
    walk_at "W"
    refine zAb.frameL [4] [.lst (sg l)] (.rd 0) [.d (.int 1)] rfl rfl rfl (by simp) (by simp) rfl rfl ?_
    refine rd0 hz ?_
    rw [show zCv (zCw ln pb l rest) [4] [C.lst (sg l.tail)] = zCw ln pb l.tail rest by simp [zCv, zDi, C.mapI]]
    show TA _ _ _ _ (.d (.str (zGj l))) _ (zCw ln pb l.tail rest) _
    walk_at "W"
    refine zAg (fun q => ?_) (fun q => ?_)
    . walk_at "W"
      refine zSl ?_
      walk_at "W"
      refine zTy ?_
      walk_at "W"
      have e : zC3 ln l = ln + 1 := by
        induction l using List.casesOn with
        | nil => exact absurd q (by decide)
        | cons c r => show (if isN c then ln + 1 else ln) = _; rw [if_pos (show isN c = true from q)]
      rw [e] at h
      exact h
    . walk_at "W"
      have e : zC3 ln l = ln := by
        induction l using List.casesOn with
        | nil => rfl
        | cons c r => show (if isN c then ln + 1 else ln) = _; rw [if_neg (by rw [show isN c = false from q]; decide)]
      rw [e] at h
      exact h
end
end
section
section
variable {g : G} {n : Nat} {sc : Sc} {vars : zAe} {cells : List C} {K' : V -> List C -> Prop}
noncomputable abbrev yNz : C := .citer (.meth 59 76 0) (.str "")
theorem TS.via {t : Stmt} {Kn Kc : zAe -> List C -> Prop} {Kr : V -> List C -> Prop} (P : zAe -> List C -> Prop) (h : TS g n sc t vars cells P Kr Kc) (k : ∀ v c, P v c -> Kn v c) : TS g n sc t vars cells Kn Kr Kc := by
  intro A env Z X R ρ bs m s Q rm en st fr S ax p
  exact h A env Z X R ρ bs m s Q rm en st fr S ax ⟨fun a b c d e f g q => p.next a b c d e f g (k _ _ q), p.cont, p.ret⟩
theorem zWf (c : Nat) : (⟨#[c]⟩ : Str) ≠ "" := by
  intro e
  have := congrArg Str.length e
  exact Nat.noConfusion (show (1 : Nat) = 0 from this)
theorem zJp (l : List Nat) : (zGj l).length <= 1 := by induction l using List.casesOn with
  | nil => exact Qx _
  | cons c r => exact Qo 1
theorem zBi (x y : Str) : (x ++ y).length = x.length + y.length := by
  show (x.cps ++ y.cps).size = _; simp [Str.length]
theorem zKv {ln : Int} {l : List Nat} (hz : l.length < 100000) (h : K' (.d (.str (zKc (l.length + 1) l ln).1)) (zCw (zKc (l.length + 1) l ln).2.2 [] (zKc (l.length + 1) l ln).2.1 [])) :
    zAb g (n + 4) (.stat 41) [.obj 76 0] [] (zCw ln [] l []) K' := by
  refine zAb.trim ?_
  generalize hr : zKc (l.length + 1) l ln = r0 at h
  have fin : ∀ u c, (u = .d (.str r0.1) /\ ∃ x, c = zCw r0.2.2 [] r0.2.1 [x]) -> u.below (zCw ln [] l []).length = true /\ zCj (zCw ln [] l []).length (c.take (zCw ln [] l []).length) = true /\ K' u (c.take (zCw ln [] l []).length) := by
    rintro u c ⟨rfl, x, rfl⟩
    exact ⟨rfl, rfl, h⟩
  refine zAb.mono (K' := fun u c => u = .d (.str r0.1) /\ ∃ x, c = zCw r0.2.2 [] r0.2.1 [x]) ?_ fin
  refine zBg (a := 66) (st := zAf "_netrclex" "get_token") (names := ["self"]) (Qk (show zA8[12]? = some _ from rfl)) rfl (by kernel_rfl) ?_ rfl (by kernel_rfl) ?_
  . intro fd hp hd vals hv
    obtain ⟨a, rfl⟩ := zKb hv
    unfold bindArgs
    rw [hp, hd]
    kernel_rfl
  . refine k_ss ?_
    walk_at "W"
    refine yC3 (l := []) rfl (by decide) ?_
    refine cond_false ?_
    walk_at "W"
    refine zXo ?_
    walk_at "W"
    refine zLf (l.length + 1) 5 (fun _ _ => rfl) rfl ?_
    walk_at "W"
    refine ⟨rfl, .inl ⟨_, _, rfl⟩, ?_⟩
    refine zGz (fun (j : Nat) (v : zAe) (c : List C) => ∃ tok, v = ([("self", V.obj 76 0), ("token", V.d (.str tok)), ("fiter", .loc 5)] : zAe) /\
      ((∃ l' ln', l'.length < j /\ l'.length < 100000 /\ tok = "" /\ c = zCw ln' [] l' [yNz] /\ zKc j l' ln' = r0) ∨ (0 < j /\ tok = r0.1 /\ c = zCw r0.2.2 [] r0.2.1 [.cdone]))) ?b1 ?s1 _ _ _ ⟨_, rfl, .inl ⟨l, ln, by omega, hz, rfl, rfl, hr⟩⟩
    case b1 => rintro v c ⟨tok, -, ⟨l', ln', h1, -⟩ | ⟨h1, -⟩⟩ <;> omega
    case s1 =>
      rintro j v c KN hN ⟨tok, rfl, ⟨l', ln', hj, hz', rfl, rfl, hr'⟩ | ⟨-, rfl, rfl⟩⟩
      . refine .inr ⟨59, 76, 0, "", by decide, rfl, ?_⟩
        refine zDx (by omega) ⟨_, rfl, rfl, ?_, ?_⟩
        . intro e
          induction l' using List.casesOn with
          | cons c r => exact absurd e (zWf c)
          | nil =>
            walk_at "W"
            unfold zKc at hr'
            subst hr'
            exact ⟨rfl, _, rfl⟩
        . intro ne
          induction l' using List.casesOn with
          | nil => exact absurd rfl ne
          | cons c r =>
            have hl : r.length < j := by simpa using hj
            have hz2 : r.length + 1 < 100000 := by simpa using hz'
            have szl : sizeLine = 16777216 := sizeLine_eq
            unfold zKc at hr'
            refine TA_name rfl ?_
            walk_at "W"
            refine zJ0 ?_
            refine q_bool ?_
            refine zAg (fun q => ?_) (fun q => ?_)
            . rw [show isW c = true from q] at hr'
              walk_at "W"
              exact zAo.to hN rfl rfl trivial rfl ⟨_, rfl, .inl ⟨r, zC3 ln' [c], hl, by omega, rfl, rfl, hr'⟩⟩
            . rw [show isW c = false from q] at hr'
              walk_at "W"
              refine zAg (fun q => ?_) (fun q => ?_)
              . rw [show isQ c = true from q] at hr'
                walk_at "W"
                refine zLf (j + 1) 5 (fun _ _ => rfl) rfl ?_
                walk_at "W"
                refine ⟨rfl, .inl ⟨_, _, rfl⟩, ?_⟩
                refine zGz (fun (i : Nat) (v : zAe) (c : List C) => E4 fun l ln tok x => A5 (l.length < i) (tok.length + l.length <= 200000) (v = ([("self", V.obj 76 0), ("token", V.d (.str tok)), ("fiter", .loc 5), ("ch", .d (.str x))] : zAe)) (c = zCw ln [] l [yNz]) (zUd i l ln tok = r0)) ?b2 ?s2 _ _ _
                  ⟨r, zC3 ln' [c], "", _, by omega, by show 0 + r.length <= _; omega, rfl, rfl, hr'⟩
                case b2 => rintro v c ⟨l, ln, tok, x, h1, -⟩; omega
                case s2 =>
                  rintro i v c KN2 hN2 ⟨l, ln, tok, x, h1, h2, rfl, rfl, h3⟩
                  refine .inr ⟨59, 76, 0, "", by decide, rfl, ?_⟩
                  refine zDx (by omega) ⟨_, rfl, rfl, ?_, ?_⟩
                  . intro e
                    induction l using List.casesOn with
                    | cons c r => exact absurd e (zWf c)
                    | nil =>
                      unfold zUd at h3
                      subst h3
                      walk_at "W"
                      exact zAo.to hN rfl rfl trivial rfl ⟨_, rfl, .inr ⟨by omega, rfl, rfl⟩⟩
                  . intro ne
                    induction l using List.casesOn with
                    | nil => exact absurd rfl ne
                    | cons c r =>
                      have h1' : r.length < i := by simpa using h1
                      have h2' : tok.length + r.length + 1 <= 200000 := by simp only [Qh] at h2; omega
                      unfold zUd at h3
                      refine TA_name rfl ?_
                      refine k_ss ?_
                      walk_at "W"
                      refine zAg (fun q => ?_) (fun q => ?_)
                      . rw [show isQ c = true from q] at h3
                        walk_at "W"
                        subst h3
                        exact ⟨rfl, _, rfl⟩
                      . rw [show isQ c = false from q] at h3
                        walk_at "W"
                        refine zAg (fun q => ?_) (fun q => ?_)
                        . rw [show isB c = true from q] at h3
                          walk_at "W"
                          refine zFk rfl (zDx (by show r.length < _; omega) ?_)
                          walk_at "W"
                          refine zNo rfl rfl rfl ?_
                          walk_at "W"
                          have := zJp r
                          refine zEc (by show tok.length + (zGj r).length <= _; omega) ?_
                          walk_at "W"
                          have e1 : r.tail.length <= r.length := by simp
                          have e2 : (tok ++ zGj r).length + r.tail.length <= 200000 := by rw [zBi]; omega
                          exact zAo.to hN2 rfl rfl trivial rfl ⟨r.tail, _, _, _, by omega, e2, rfl, rfl, h3⟩
                        . rw [show isB c = false from q] at h3
                          walk_at "W"
                          refine zNo rfl rfl rfl ?_
                          walk_at "W"
                          refine zEc (by show tok.length + 1 <= _; omega) ?_
                          walk_at "W"
                          have e2 : (tok ++ (⟨#[c]⟩ : Str)).length + r.length <= 200000 := by rw [zBi]; show tok.length + 1 + r.length <= _; omega
                          exact zAo.to hN2 rfl rfl trivial rfl ⟨r, _, _, _, by omega, e2, rfl, rfl, h3⟩
              . rw [show isQ c = false from q] at hr'
                refine k_ss (TS.via (fun v c => E3 fun l ln x => A6 (l.length < j + 1) (l.length <= 100000) (x.length <= 1) (v = ([("self", V.obj 76 0), ("token", V.d (.str "")), ("fiter", .loc 5), ("ch", .d (.str x))] : zAe)) (c = zCw ln [] l [yNz]) (zGo (j + 1) l ln ("" ++ x) = r0)) ?_ ?_)
                . walk_at "W"
                  refine zAg (fun q => ?_) (fun q => ?_)
                  . rw [show isB c = true from q] at hr'
                    walk_at "W"
                    refine zFk rfl (zDx (by show r.length < _; omega) ?_)
                    walk_at "W"
                    have e1 : r.tail.length <= r.length := by simp
                    exact ⟨r.tail, _, _, by omega, by omega, zJp r, rfl, rfl, hr'⟩
                  . rw [show isB c = false from q] at hr'
                    walk_at "W"
                    exact ⟨r, _, _, by omega, by omega, Qo _, rfl, rfl, hr'⟩
                have hj0 : 0 < j := by omega
                clear hr' hl hj hz' hz2 q ne
                rintro v c1 ⟨l, ln, x, h1, h2, hx, rfl, rfl, h3⟩
                refine k_ss ?_
                refine zNo rfl rfl rfl ?_
                walk_at "W"
                refine zEc (by show 0 + x.length <= _; omega) ?_
                walk_at "W"
                refine zLf (j + 1) 5 (fun _ _ => rfl) rfl ?_
                walk_at "W"
                refine ⟨rfl, .inl ⟨_, _, rfl⟩, ?_⟩
                refine zGz (fun (i : Nat) (v : zAe) (c : List C) => E4 fun l ln tok x => A5 (l.length < i) (tok.length + l.length <= 200000) (v = ([("self", V.obj 76 0), ("token", V.d (.str tok)), ("fiter", .loc 5), ("ch", .d (.str x))] : zAe)) (c = zCw ln [] l [yNz]) (zGo i l ln tok = r0)) ?b3 ?s3 _ _ _
                  ⟨l, ln, _, _, h1, by rw [zBi]; show 0 + x.length + l.length <= _; omega, rfl, rfl, h3⟩
                case b3 => rintro v c ⟨l, ln, tok, x, h1, -⟩; omega
                case s3 =>
                  clear h1 h2 h3 hx
                  rintro i v c KN2 hN2 ⟨l, ln, tok, x, h1, h2, rfl, rfl, h3⟩
                  refine .inr ⟨59, 76, 0, "", by decide, rfl, ?_⟩
                  refine zDx (by omega) ⟨_, rfl, rfl, ?_, ?_⟩
                  . intro e
                    induction l using List.casesOn with
                    | cons c r => exact absurd e (zWf c)
                    | nil =>
                      unfold zGo at h3
                      subst h3
                      walk_at "W"
                      exact zAo.to hN rfl rfl trivial rfl ⟨_, rfl, .inr ⟨by omega, rfl, rfl⟩⟩
                  . intro ne
                    induction l using List.casesOn with
                    | nil => exact absurd rfl ne
                    | cons c r =>
                      have h1' : r.length < i := by simpa using h1
                      have h2' : tok.length + r.length + 1 <= 200000 := by simp only [Qh] at h2; omega
                      unfold zGo at h3
                      refine TA_name rfl ?_
                      refine k_ss ?_
                      walk_at "W"
                      refine zJ0 ?_
                      refine q_bool ?_
                      refine zAg (fun q => ?_) (fun q => ?_)
                      . rw [show isW c = true from q] at h3
                        walk_at "W"
                        subst h3
                        exact ⟨rfl, _, rfl⟩
                      . rw [show isW c = false from q] at h3
                        walk_at "W"
                        refine zAg (fun q => ?_) (fun q => ?_)
                        . rw [show isB c = true from q] at h3
                          walk_at "W"
                          refine zFk rfl (zDx (by show r.length < _; omega) ?_)
                          walk_at "W"
                          refine zNo rfl rfl rfl ?_
                          walk_at "W"
                          have := zJp r
                          refine zEc (by show tok.length + (zGj r).length <= _; omega) ?_
                          walk_at "W"
                          have e1 : r.tail.length <= r.length := by simp
                          have e2 : (tok ++ zGj r).length + r.tail.length <= 200000 := by rw [zBi]; omega
                          exact zAo.to hN2 rfl rfl trivial rfl ⟨r.tail, _, _, _, by omega, e2, rfl, rfl, h3⟩
                        . rw [show isB c = false from q] at h3
                          walk_at "W"
                          refine zNo rfl rfl rfl ?_
                          walk_at "W"
                          refine zEc (by show tok.length + 1 <= _; omega) ?_
                          walk_at "W"
                          have e2 : (tok ++ (⟨#[c]⟩ : Str)).length + r.length <= 200000 := by rw [zBi]; show tok.length + 1 + r.length <= _; omega
                          exact zAo.to hN2 rfl rfl trivial rfl ⟨r, _, _, _, by omega, e2, rfl, rfl, h3⟩
      . exact .inl ⟨rfl, by
          walk_at "W"
          exact ⟨rfl, _, rfl⟩⟩
end
end
section
section
variable {g : G} {n : Nat} {sc : Sc} {vars : zAe} {cells : List C} {K' : V -> List C -> Prop}
theorem zSp {ln : Int} {l : List Nat} {x : Str} {q : List D} (hz : q.length < 1000) (h : K' (.d (.str x)) (zCw ln q l [])) :
    zAb g (n + 1) (.stat 41) [.obj 76 0] [] (zCw ln (.str x :: q) l []) K' := by
  refine zBg (a := 66) (st := zAf "_netrclex" "get_token") (names := ["self"]) (Qk (show zA8[12]? = some _ from rfl)) rfl (by kernel_rfl) ?_ rfl (by kernel_rfl) ?_
  . intro fd hp hd vals hv
    obtain ⟨a, rfl⟩ := zKb hv
    unfold bindArgs
    rw [hp, hd]
    kernel_rfl
  . refine k_ss ?_
    walk_at "W"
    have szl : sizeLine = 16777216 := sizeLine_eq
    refine yC3 (l := .str x :: q) rfl (by simp; omega) ?_
    refine cond_true ?_
    walk_at "W"
    refine zNe (i := 2) rfl (by omega) ?_
    exact h
theorem zJr {ln : Int} {l : List Nat} {x : Str} {q : List D} (hz : q.length < 1000) (h : K' (.d .none) (zCw ln (q ++ [.str x]) l [])) :
    zAb g (n + 1) (.stat 42) [.obj 76 0, .d (.str x)] [] (zCw ln q l []) K' := by
  refine zBg (a := 73) (st := zAf "_netrclex" "push_token") (names := ["self", "token"]) (Qk (show zA8[13]? = some _ from rfl)) rfl (by kernel_rfl) ?_ rfl (by kernel_rfl) ?_
  . intro fd hp hd vals hv
    obtain ⟨a, b, rfl⟩ := zYp hv
    unfold bindArgs
    rw [hp, hd]
    kernel_rfl
  . refine k_ss ?_
    walk_at "W"
    have szl : sizeLine = 16777216 := sizeLine_eq
    refine zA9 (i := 2) rfl (by omega) ?_
    walk_at "W"
    exact h
noncomputable def zL5 (fp : V) (i : Nat) : List (Str × V) := [("lineno", .d (.int 1)), ("instream", fp), ("whitespace", .d (.str wsT)), ("pushback", .loc i)]
theorem zW0 {a b : C} (h : K' (.d .none) [a, b, .dict (zL5 (.d .none) 3), .lst []]) : zE1 g (n + 1) 52 [.obj 76 2, .d .none] [] [a, b, .dict []] K' := by
  refine zLm (st := zAf "_netrclex" "__init__") (names := ["self", "fp"]) (Qk (show zA8[10]? = some _ from rfl)) (by kernel_rfl) ?_ rfl (by kernel_rfl) ?_
  . intro fd hp hd vals hv
    obtain ⟨a, b, rfl⟩ := zYp hv
    unfold bindArgs
    rw [hp, hd]
    kernel_rfl
  . refine k_ss ?_
    walk_at "W"
    refine zFm rfl ?_
    refine TEs_nil ?_
    refine ⟨Qx _, [], _, rfl, ?_⟩
    walk_at "W"
    exact h
theorem zVc {a b c d : C} (h : K' (.d .none) [a, b, c, d, .dict (zL5 (.obj 76 2) 5), .lst []]) : zE1 g (n + 1) 52 [.obj 76 4, .obj 76 2] [] [a, b, c, d, .dict []] K' := by
  refine zLm (st := zAf "_netrclex" "__init__") (names := ["self", "fp"]) (Qk (show zA8[10]? = some _ from rfl)) (by kernel_rfl) ?_ rfl (by kernel_rfl) ?_
  . intro fd hp hd vals hv
    obtain ⟨a, b, rfl⟩ := zYp hv
    unfold bindArgs
    rw [hp, hd]
    kernel_rfl
  . refine k_ss ?_
    walk_at "W"
    refine zFm rfl ?_
    refine TEs_nil ?_
    refine ⟨Qx _, [], _, rfl, ?_⟩
    walk_at "W"
    exact h
theorem yA2 {a b : C} (h : K' (.obj 76 2) [a, b, .dict (zL5 (.d .none) 3), .lst []]) : zAb g (n + 2) (.stat 1) [.d .none] [] [a, b] K' :=
  zHt (.head _) rfl (zW0 ⟨rfl, h⟩)
theorem zY5 {a b c d : C} (h : K' (.obj 76 4) [a, b, c, d, .dict (zL5 (.obj 76 2) 5), .lst []]) : zAb g (n + 2) (.stat 1) [.obj 76 2] [] [a, b, c, d] K' :=
  zHt (.head _) rfl (zVc ⟨rfl, h⟩)
theorem zIm {x : Str} (hx : x.cps.size <= sizeLine) (h : K' (.loc cells.length) (cells ++ [.lst (zB0 x)])) : zAb g n (.stat 25) [.d (.str x)] [] cells K' := by
  refine zAy (v := .type "list") rfl ?_
  intro A Z X ρ s Q vals rm st S ax r P
  obtain ⟨v, rfl, rv⟩ := r.one
  obtain ⟨t, rfl⟩ := zBo rv
  refine call_list_str rm.hd x t (fun h' tk acc c' k ho ha => ?_) hx
  have hr : zAk Z (zB0 x) acc.toList := by
    refine zOn (by simpa [zB0] using ha) fun i v d e hv => ?_
    obtain ⟨c, t', hc, rfl⟩ := hv
    have : d = .str ⟨#[c]⟩ := by
      unfold zB0 at e
      rw [List.getElem?_map] at e
      have hc' : x.cps.toList[i]? = some c := by simpa using hc
      rw [hc'] at e; simpa using e.symm
    subst this
    simp [zA2]
  have S1 := (S.ext k).newCell (a := s.heap.objs.size) (o := zAr acc.toList c') (c := .lst (zB0 x)) (by simpa using ho) (S.fresh (Qo _)) ⟨acc.toList, c', rfl, hr⟩
  exact P _ _ _ Z _ { s with heap := h', toks := tk } h (zAa.Le.refl _) (List.prefix_append _ _) S1 ax ⟨_, by rw [← S.len]; simp, rfl⟩
end
end
section
noncomputable def zVg : List Stmt := zA5 (zAq "_law_lexer")
noncomputable def zUc (i : Nat) : Stmt := zVg.getD i (.Pass ⟨0, 0, 0, 0⟩)
noncomputable def zTu : Sc := zHi (zAn (zAq "_law_lexer"))
noncomputable def zM2 : Sc := ⟨zAn (zAq "_law_lexer"), []⟩
theorem zTr : zVg = [zUc 0, zUc 1, zUc 2, zUc 3] := by kernel_rfl
theorem yCo : zTu.own = [Qd "signs"] := by kernel_rfl
noncomputable def yPn : List (Str × V) := [("lineno", .d (.int 1)), ("instream", .d .none), ("whitespace", .d (.str wsT)), ("pushback", .loc 3), ("read", .rd 1)]
section
variable {g : G} {n : Nat} {sc : Sc} {vars : zAe} {cells : List C} {K' : V -> List C -> Prop} {Kn : zAe -> List C -> Prop} {Kr : V -> List C -> Prop} {Kc : zAe -> List C -> Prop}
noncomputable abbrev yCw (tb : Obj) (text : Str) : List C := [.raw 0 tb, .lst (zB0 text), .dict (zL5 (.d .none) 3), .lst []]
noncomputable abbrev yG0 (text : Str) : zAe := [("text", V.d (.str text)), ("signs", .loc 1), ("stream", .obj 76 2)]
theorem yM9 {text : Str} {tb : Obj} (hx : text.cps.size <= 100000) (h : Kn [("text", V.d (.str text)), ("signs", .loc 1)] [.raw 0 tb, .lst (zB0 text)]) : TS g (n + 2) zTu (zUc 0) [("text", V.d (.str text))] [.raw 0 tb] Kn Kr Kc := by
  refine k_assign rfl rfl rfl rfl ?_
  walk_at "W"
  refine zIm (by have : sizeLine = 16777216 := sizeLine_eq; omega) ?_
  refine TA_name rfl ?_
  exact h
theorem yHt {text : Str} {tb : Obj} (h : Kn (yG0 text) (yCw tb text)) : TS g (n + 2) zTu (zUc 1) [("text", V.d (.str text)), ("signs", .loc 1)] [.raw 0 tb, .lst (zB0 text)] Kn Kr Kc := by
  refine k_assign rfl rfl rfl rfl ?_
  walk_at "W"
  refine yA2 ?_
  refine TA_name rfl ?_
  exact h
noncomputable abbrev zWj (tb : Obj) (text : Str) : List C := [.raw 0 tb, .lst (zB0 text), .dict yPn, .lst [], .dict (zL5 (.obj 76 2) 5), .lst []]
theorem yMp {text : Str} {tb : Obj} (h : Kr (.obj 76 4) (zWj tb text)) : TS g (n + 2) zM2 (zUc 3) [("stream", .obj 76 2)] [.raw 0 tb, .lst (zB0 text), .dict yPn, .lst []] Kn Kr Kc := by
  refine TS_return ?_
  refine k_call rfl rfl ?_
  walk_at "W"
  refine zY5 ?_
  exact h
theorem zY8 : ∃ p1 p2 p3 p4, zUc 2 = .Assign [.Attribute (.Name (Qd "stream") p1) (Qd "read") p2] (.Lambda (zJl zAx) (zH2 zAx) (zCq zAx) p3) p4 := ⟨_, _, _, _, rfl⟩
theorem zO1 {env : Env} {b : Addr} (h : env.cells.lookup (Qd "signs") = some b) : closureFor (zCq zAx) env = pure [(Qd "signs", b)] := by
  have e : cellOf env (Qd "signs") = pure b := by unfold cellOf; rw [h]
  have sc : (zCq zAx).names = ([("count", .local), ("signs", .free), ("range", .globalImplicit), ("min", .globalImplicit), ("len", .globalImplicit)] : List (Str × NameKind)) := by kernel_rfl
  unfold closureFor
  rw [sc]
  simp only [List.forIn_cons, List.forIn_nil, show (NameKind.local == NameKind.free) = false from rfl, show (NameKind.globalImplicit == NameKind.free) = false from rfl, show (NameKind.free == NameKind.free) = true from rfl, if_true, if_false, Bool.false_eq_true, pure_bind, e]
theorem zTh {text : Str} (hx : text.cps.size <= 100000) (h : ∀ ps, K' (.obj 76 4) (zWj (tabObj ps) text)) : zAb g (n + 4) (.stat 12) [.d (.str text)] [] [.raw 0 (tabObj #[])] K' := by
  intro A Z X ρ s Q f vs ws rm stt S ax rf r1 r2 P
  have hf : f = .ref 304 := by have : zAl[12]? = some f := rf; cases this; rfl
  subst hf
  have hws : ws = [] := r2
  subst hws
  obtain ⟨v, rfl, rv⟩ := r1.one
  obtain ⟨fd, F⟩ := g.fns _ (Qk (show zA8[4]? = some _ from rfl))
  have hcode : fd.code = .ref 303 := by
    obtain ⟨o, ho, hd⟩ := F.at_
    obtain ⟨o', fd', ho', hd', e⟩ := g.stat.lexfn
    have : some o = some o' := ho.symm.trans ho'
    cases this
    rw [hd] at hd'; cases hd'; exact e
  obtain ⟨o, hK, hd⟩ := F.at_
  have hsc : zOr (zAn (zAq "_law_lexer")) = true := by kernel_rfl
  have hsc' := hsc
  unfold zOr at hsc'
  simp only [Bool.and_eq_true, Bool.not_eq_true'] at hsc'
  have X0 := stt.kin S.z
  refine wpAny_call (codeAny_call_function rm.depth (X0 _ _ hK) hd (by rw [F.scope]; exact hsc'.1.2) (by rw [F.scope]; exact hsc'.2) F.body (codeRec_of X0 F.code) ?_)
  have hb : bindArgs fd ⟨[v], []⟩ = pure [(Qd "text", v)] := by
    unfold bindArgs; rw [F.params, show fd.defaults = .none from F.defaults]; kernel_rfl
  show wpAny _ _ (bindArgs fd ⟨[v], []⟩) _ _ _
  rw [hb]
  refine Qb ?_
  rw [F.scope, F.globals, F.closure, F.builtins]
  refine zAs (zKx (g := g) (vars0 := []) (bvs := [(Qd "text", V.d (.str text))]) hsc (by kernel_rfl) rfl S ax ⟨_, [], rfl, rv, rfl⟩ (fun _ _ h => by cases h) (fun _ _ h => by cases h) ?_) fun _ _ x => x
  intro env bs m X2 s2 en fr S2 ax2 henv hq hcells
  refine ⟨g.nolim _ (stt.kin S2.z), codeAny_func ?_⟩
  rw [show zA5 (zAq "_law_lexer") = [zUc 0, zUc 1, zUc 2, zUc 3] from zTr]
  refine zAs (Q := fun f s' => Q (match f with | .ret v => v | _ => .none) s') ?_ fun f s' x => x
  have rm1 := rm.deeper env
  refine wpAny_execs_cons (yM9 (g := g) (n := n + 1) (Kn := fun v c => v = ([("text", V.d (.str text)), ("signs", .loc 1)] : zAe) /\ c = [.raw 0 (tabObj #[]), .lst (zB0 text)]) (Kr := fun _ _ => False) (Kc := fun _ _ => False) hx ⟨rfl, rfl⟩ (A.deeper env) env Z X2 X ρ bs m s2 _ rm1 en stt fr S2 ax2 ⟨?_, fun _ _ _ _ _ _ _ h => h.elim, fun _ _ _ _ _ _ _ h => h.elim⟩)
  rintro v1 c1 Z3 X3 ρ3 m3 s3 ⟨rfl, rfl⟩ k3 p3 fr3 S3 ax3
  refine wpAny_execs_cons (yHt (g := g) (n := n + 1) (Kn := fun v c => v = yG0 text /\ c = yCw (tabObj #[]) text) (Kr := fun _ _ => False) (Kc := fun _ _ => False) ⟨rfl, rfl⟩ (A.deeper env) env Z3 X3 X ρ3 bs m3 s3 _ rm1 en (stt.mono k3) fr3 S3 ax3 ⟨?_, fun _ _ _ _ _ _ _ h => h.elim, fun _ _ _ _ _ _ _ h => h.elim⟩)
  rintro v1 c1 Z4 X4 ρ4 m4 s4 ⟨rfl, rfl⟩ k4 p4 fr4 S4 ax4
  have st4 := (stt.mono k3).mono k4
  have X04 := st4.kin S4.z
  have vsg := fr4.vars (Qd "signs") (.loc 1) rfl
  obtain ⟨b, ob, vb, hlook, xb, hob, rvb⟩ := zWi vsg (by kernel_rfl)
  obtain ⟨al, hal, rfl⟩ := rvb
  refine wpAny_execs_cons ?_
  obtain ⟨q1, q2, q3, q4, e2⟩ := zY8
  rw [e2]
  refine wpAny_Assign_stores ?_ (by rfl) (by rfl)
  obtain ⟨oG, es, ep, hG1, hG2, hG3, hG4⟩ := g.stat.glb
  have tab0 : ρ4[0]? = some 299 /\ s4.heap.get? 299 = some (tabObj #[]) := by
    obtain ⟨a, ha⟩ := S4.addr (i := 0) rfl
    obtain ⟨o, ho, e, e'⟩ := S4.c 0 a _ ha rfl rfl
    rw [ha] at e'; cases e'
    exact ⟨ha, by rw [ho, e]⟩
  refine kla_eval (by rfl) (kla_makeFunction (mg := nsFind es) (zO1 hlook) en.globals ⟨oG, es, ep, X04 _ _ hG1, hG2, hG3, fun _ => rfl⟩ (by rw [henv, hcode]) (g.stat.lexcode _ X04) tab0.2 trivial rfl (by decide) (hG4 _ X04) ?_)
  intro c' ctv h' tk hext hge hlt hrec htab
  have S5 := S4.update (i := 0) (c' := .raw 0 (tabObj (#[] ++ #[rawInt q3.line, rawInt q3.col, .ref c']))) tab0.1 rfl rfl hext htab ⟨rfl, tab0.1⟩
  obtain ⟨c2, oc, vsc, tq, ec, hoc, hdc, hvc⟩ := hrec
  cases ec
  have ucode : zA1 [.raw 0 (tabObj (#[] ++ #[rawInt q3.line, rawInt q3.col, .ref c'])), .lst (zB0 text), .dict (zL5 (.d .none) 3), .lst []] Z4 X4 ρ4 c' := by
    have u := S4.fresh hge
    refine ⟨u.z, u.x, fun i c e1 e2 e3 => ?_⟩
    rcases i with _ | i
    . rw [tab0.1] at e1; cases e1
      exact absurd (Heap.lt_size tab0.2) (Nat.not_lt.mpr hge)
    . exact u.r (i + 1) c e1 e2 e3
  obtain ⟨S6, k6⟩ := S5.freeze hoc ucode
  obtain ⟨S7, k7⟩ := S6.newFrozen (o := kla_obj "<lambda>" (env.qual ++ "<lambda>") (zJl zAx) (zH2 zAx) (zCq zAx) [(Qd "signs", b)] ((nsFind es "__name__").getD .none) c' ctv) rfl
  have e1 : (assignEach [PySem.Expr.Attribute (.Name (Qd "stream") q1) (Qd "read") q2] env).map (·.2) = [assign (.Attribute (.Name (Qd "stream") q1) (Qd "read") q2) env] := rfl
  rw [e1]
  show wpAny _ _ (assign (.Attribute (.Name (Qd "stream") q1) (Qd "read") q2) env (.ref h'.objs.size)) _ _ _
  rw [arm_assign_Attribute]
  have fr7 := fr4.mono (k6.trans k7) (Qp _)
  have st7 := (st4.mono k6).mono k7
  refine Qa (Qc (yD7 (g := g) (n := n + 3) (sc := zTu) (u := .obj 76 2) (K' := fun u c => u = .obj 76 2 /\ c = [.raw 0 (tabObj (#[] ++ #[rawInt q3.line, rawInt q3.col, .ref c'])), .lst (zB0 text), .dict (zL5 (.d .none) 3), .lst []]) rfl rfl rfl ⟨rfl, rfl⟩ (A.deeper env) env _ X4 X ρ4 bs m4
    { s4 with heap := h'.push (kla_obj "<lambda>" (env.qual ++ "<lambda>") (zJl zAx) (zH2 zAx) (zCq zAx) [(Qd "signs", b)] ((nsFind es "__name__").getD .none) c' ctv), toks := tk } _ rm1 en st7 fr7 S7 ax4 ?_))
  rintro vo u c8 Z8 ρ8 s8 ⟨rfl, rfl⟩ k8 p8 S8 ax8 r8
  refine Qa (wpAny_standAt (Qa (Qc ?_)))
  obtain ⟨S9, ub⟩ := S8.dropIt xb
  obtain ⟨S10, k10⟩ := S9.freeze (S8.x _ _ xb) ub
  have hal8 : ρ8[1]? = some al := zEh p8 hal
  have rdr : zAw (Z8.put b ob) ρ8 (.rd 1) (.ref h'.objs.size) := by
    refine ⟨_, b, al, kla_fn "<lambda>" (env.qual ++ "<lambda>") (zJl zAx) (zH2 zAx) (zCq zAx) [(Qd "signs", b)] ((nsFind es "__name__").getD .none) (.ref c') ctv, ob, rfl, ?_, ?_, zAa.put_self _ _ _, hob, hal8⟩
    . exact k10 _ _ (k8 _ _ (zAa.put_self _ _ _))
    . exact ⟨rfl, rfl, rfl, rfl, rfl, rfl, rfl, rfl, c', oc, vsc, tq, rfl, k10 _ _ (k8 _ _ (k7 _ _ (zAa.put_self _ _ _))), hdc, hvc⟩
  have st10 := (st7.mono k8).mono k10
  refine zG5 (i := 2) (fs := zL5 (.d .none) 3) (Qk (show zDe[0]? = some _ from rfl)) (x := "read") (by decide) st10 S10 ax8 (r8.mono k10 (Qp _)) rfl (by decide) rdr ?_
  intro s11 S11 ax11
  refine wpAny_release ?_
  have fr8 := fr7.mono k8 p8
  have fr10 : zAh zM2 env [("stream", V.obj 76 2)] (Z8.put b ob) (X4.drop b) X ρ8 [] m4 := by
    have bmem : b ∈ bs := by
      have hbx := fr8.boxes
      rw [show zTu.own = [Qd "signs"] from yCo] at hbx
      induction bs using List.casesOn with
      | nil => cases hbx
      | cons b0 bs =>
        simp only [List.map_cons, List.cons.injEq] at hbx
        have := hbx.1
        rw [hlook] at this; cases this; exact .head _
    have neb : env.locals ≠ b := fun e => (List.nodup_cons.mp fr8.nd).1 (e ▸ bmem)
    refine ⟨fun a o e => ?_, ?_, rfl, (fun x hx => nomatch hx), (fun b hb => nomatch hb), List.nodup_cons.mpr ⟨(fun h => nomatch h), List.nodup_nil⟩, fun a ha => ?_, fun x c _ hc => ?_, fun x u e => ?_⟩
    . rw [zAa.drop_ne (by rintro rfl; have := fr8.off a (.tail _ bmem); rw [this] at e; cases e)]
      exact fr8.keeps _ _ e
    . obtain ⟨o, ho, di⟩ := fr8.loc
      exact ⟨o, by rw [zAa.drop_ne neb]; exact ho, di⟩
    . rw [Qr] at ha; subst ha; exact fr8.off _ (.head _)
    . rw [Qr]
      rintro rfl
      by_cases hx : x = Qd "signs"
      . subst hx; rw [hlook] at hc; cases hc; exact neb rfl
      . exact fr8.onlyOwn x _ (by rw [show zTu.own = [Qd "signs"] from yCo]; simpa using hx) hc (.head _)
    . have hv := fr8.vars x u (by
        unfold zB7 at e
        split at e
        . rename_i ex; cases e; subst ex; rfl
        . cases e)
      unfold zB7 at e
      split at e
      . rename_i ex; cases e; subst ex
        exact (zCx.mono (sc := zM2) k10 (Qp _) (show zCx zM2 env m4 (X4.drop b) Z8 ρ8 (Qd "stream") (.obj 76 2) from hv))
      . cases e
  have en0 : zB9 zM2 env := ⟨en.scope, en.kind, en.globals, en.builtins⟩
  refine wpAny_execs_cons (yMp (g := g) (n := n + 1) (Kn := fun _ _ => False) (Kr := fun u c => u = .obj 76 4 /\ c = zWj (tabObj (#[] ++ #[rawInt q3.line, rawInt q3.col, .ref c'])) text) (Kc := fun _ _ => False) ⟨rfl, rfl⟩ (A.deeper env) env _ (X4.drop b) X ρ8 [] m4 s11 _ rm1 en0 st10 fr10 S11 ax11 ⟨fun _ _ _ _ _ _ _ h => h.elim, fun _ _ _ _ _ _ _ h => h.elim, ?_⟩)
  rintro u v c12 Z12 X12 ρ12 s12 ⟨rfl, rfl⟩ k12 p12 Rx S12 ax12 r12
  refine P _ _ _ Z12 ρ12 s12 (h _) (k3.trans (k4.trans (k6.trans (k7.trans (k8.trans (k10.trans k12)))))) (p3.trans (p4.trans (p8.trans p12))) (S12.withX ?_ ?_ ?_) ax12 r12
  . exact fun a o e => S12.x _ _ (Rx a o e)
  . exact fun a o e => S12.xz _ _ (Rx a o e)
  . intro i a c e1 e2 e3
    induction q : X a with
    | none => rfl
    | some w => have := S12.xr i a c e1 e2 e3; rw [Rx _ _ q] at this; cases this
end
end
section
noncomputable def zKd (ns : List Int) (k : Int) : Int := ns.getD k.toNat 0
noncomputable def zEm (xs : List Str) (k : Int) : Str := xs.getD k.toNat ""
noncomputable def zS0 (k : Int) : Str := ⟨#[k.toNat]⟩
noncomputable def zVv : List Int := [0, 1, 2, 4, 7, 8, 9, 10, 11, 12]
noncomputable def zW2 : List Int := [173, 847, 6150, 6155, 6156, 6157, 8203, 8204, 8205, 8288, 65279] ++ (List.range 16).map fun (k : Nat) => 65024 + (k : Int)
noncomputable def yC4 (y town : Int) : Str := zS0 (zKd [97, 65, 119808 + 52 * zKd zVv ((y.fdiv 3).fmod 10)] (y.fmod 3) + town)
noncomputable def zCu : List Str := ["", "'", "'x'", ⟨#[329]⟩, " \"", "\\", "' ", "'\\"]
noncomputable def zCy : List (List Str) := [["'", ""], ["", ""], ["'", "'"]]
noncomputable def zQf : List Str := ["\"\\", " \\", " \\"]
noncomputable def inT (x y : Str) : Bool := !(Builtin.Str.occurrences x y 0 x.length 1).isEmpty
noncomputable def yA5 (note : Str) : Str := Txt.replace note ⟨#[329]⟩ ((⟨#[700]⟩ : Str) ++ "n")
structure Ent where
  kind : Int
  t0 : Int
  t1 : Int
  s0 : Str
  s1 : Str
  gp : Int
  gs : Str
  carts : Str
  plain : Str
  note : Str
  tk : List Str
  way : Int
noncomputable def zAd (x : Int) : Ent :=
  { kind := x.fmod 8
    t0 := (x.fdiv 8).fmod 4
    t1 := 1 + (x.fdiv 32).fmod 4
    s0 := bif x.fmod 8 == 2 then "" else yC4 (x.fdiv 128) ((x.fdiv 8).fmod 4)
    s1 := yC4 ((x.fdiv 128).fdiv 30) (1 + (x.fdiv 32).fmod 4)
    gp := ((((x.fdiv 128).fdiv 30).fdiv 30).fdiv 27).fmod 3
    gs := zS0 (zKd zW2 ((((x.fdiv 128).fdiv 30).fdiv 30).fmod 27))
    carts := zEm ["", "X", "xX", ⟨#[64256]⟩] (((((x.fdiv 128).fdiv 30).fdiv 30).fdiv 81).fmod 4)
    plain := zEm ["", "x", "xx", "ff"] (((((x.fdiv 128).fdiv 30).fdiv 30).fdiv 81).fmod 4)
    note := bif decide (x.fmod 8 < 2) then ⟨#[329]⟩ else zEm zCu ((((((x.fdiv 128).fdiv 30).fdiv 30).fdiv 81).fdiv 4).fmod 8)
    tk := zCy.getD (if (2 : Int) < x.fmod 8 then (2 : Int) else x.fmod 8).toNat []
    way := (((((x.fdiv 128).fdiv 30).fdiv 30).fdiv 81).fdiv 32).fmod 3 }
noncomputable def Ent.gaps (e : Ent) : List Str := (["", "", ""] : List Str).set e.gp.toNat e.gs
noncomputable def Ent.word (e : Ent) : Str := e.gaps.getD 0 "" ++ e.s0 ++ e.tk.getD 0 "" ++ e.gaps.getD 1 "" ++ e.carts ++ e.tk.getD 1 "" ++ e.s1 ++ e.note ++ e.gaps.getD 2 ""
noncomputable def Ent.parts (e : Ent) : List Str := [bif e.kind == 2 then "" else zS0 (97 + e.t0), e.plain, zS0 (97 + e.t1) ++ yA5 e.note]
noncomputable def Ent.told (e : Ent) : D := bif decide (e.kind ≥ 2) then .lst (e.parts.map .str) else .tup [.none, .none, .str (e.parts.getD 0 "" ++ e.tk.getD 0 "" ++ e.parts.getD 1 "" ++ e.parts.getD 2 "")]
noncomputable def zQd (way : Int) (c : Nat) : Str := bif inT (zEm zQf way) ⟨#[c]⟩ then "\\" ++ (⟨#[c]⟩ : Str) else ⟨#[c]⟩
noncomputable def Ent.body0 (e : Ent) : Str := Txt.join "" (e.word.cps.toList.map (zQd e.way))
noncomputable def Ent.body (e : Ent) : Str := zEm ["\"" ++ e.body0 ++ "\"", e.body0, "\\" ++ e.body0] e.way
noncomputable def Ent.D (e : Ent) : Mine.D := .tup [.str e.word, e.told, .str e.body]
section
variable {g : G} {n : Nat} {sc : Sc} {vars : zAe} {cells : List C} {K' : V -> List C -> Prop}
theorem zI4 {α β : Type} (f : α -> β) (l : List α) (i : Nat) (a : α) (h : i < l.length) : (l.map f)[i]? = some (f (l.getD i a)) := by simp [h]
theorem zS6 {k : Int} {m : Nat} (h0 : 0 <= k) (h1 : k < m) : seqIndex? k m = some k.toNat := by
  unfold seqIndex?
  have e : ¬ (k < 0) := by omega
  simp [e, h0, h1]
theorem zDn {a : V} {ns : List Int} {k : Int} (hl : zBj a cells = some (ns.map .int)) (h0 : 0 <= k) (h1 : k < ns.length) (h2 : ns.length < 1000) (h : K' (.d (.int (zKd ns k))) cells) : zHu g n a (.d (.int k)) cells K' := by
  refine zBq hl ⟨by omega, by omega⟩ ?_ h
  rw [Qg, zS6 h0 h1, Option.bind_some]
  exact zI4 _ _ _ _ (by omega)
theorem zBf {a : V} {ns : List Str} {k : Int} (hl : zBj a cells = some (ns.map .str)) (h0 : 0 <= k) (h1 : k < ns.length) (h2 : ns.length < 1000) (h : K' (.d (.str (zEm ns k))) cells) : zHu g n a (.d (.int k)) cells K' := by
  refine zBq hl ⟨by omega, by omega⟩ ?_ h
  rw [Qg, zS6 h0 h1, Option.bind_some]
  exact zI4 _ _ _ _ (by omega)
theorem zWt {a : V} {ns : List (List Str)} {k : Int} (hl : zBj a cells = some (ns.map fun l => .lst (l.map .str))) (h0 : 0 <= k) (h1 : k < ns.length) (h2 : ns.length < 1000) (h : K' (.d (.lst ((ns.getD k.toNat []).map .str))) cells) : zHu g n a (.d (.int k)) cells K' := by
  refine zBq (d := .lst ((ns.getD k.toNat []).map .str)) hl ⟨by omega, by omega⟩ ?_ h
  rw [Qg, zS6 h0 h1, Option.bind_some]
  exact zI4 (fun l : List Str => D.lst (l.map .str)) ns _ [] (by omega)
theorem zBm (x : Int) {k : Int} (hk : 0 < k) : 0 <= x.fmod k /\ x.fmod k < k := ⟨Int.fmod_nonneg_of_pos _ hk, Int.fmod_lt_of_pos _ hk⟩
theorem zPw {ns : List Int} {k lo hi : Int} (h : ns.all (fun i => decide (lo <= i) && decide (i <= hi)) = true) (h0 : 0 <= k) (h1 : k < ns.length) : lo <= zKd ns k /\ zKd ns k <= hi := by
  unfold zKd
  have hk : k.toNat < ns.length := by omega
  have e : ns.getD k.toNat 0 = ns[k.toNat] := by simp [hk]
  rw [e]
  have := Qf.mp h _ (List.getElem_mem hk)
  simpa using this
theorem yCp {y t : Int} (h0 : 0 <= t) (h1 : t <= 4) : 0 <= zKd [97, 65, 119808 + 52 * zKd zVv ((y.fdiv 3).fmod 10)] (y.fmod 3) + t /\ zKd [97, 65, 119808 + 52 * zKd zVv ((y.fdiv 3).fmod 10)] (y.fmod 3) + t <= 1114111 := by
  have b1 := zBm (y.fdiv 3) (k := 10) (by decide)
  have b2 := zBm y (k := 3) (by decide)
  have b3 := zPw (ns := zVv) (lo := 0) (hi := 12) (by decide) b1.1 (by simpa [zVv] using b1.2)
  have b4 := zPw (ns := [97, 65, 119808 + 52 * zKd zVv ((y.fdiv 3).fmod 10)]) (k := y.fmod 3) (lo := 0) (hi := 121000) (by simp; omega) b2.1 (by simpa using b2.2)
  omega
noncomputable def zLi : List Str -> Str
  | [] => ""
  | x :: r => x ++ zLi r
theorem zIx : ∀ xs : List Str, Txt.join "" xs = zLi xs
  | [] => rfl
  | x :: r => by
    have key : ∀ (r : List Str) (a : Array Nat), (r.foldl (fun acc p => acc ++ (Qd "").cps ++ p.cps) a) = a ++ (zLi r).cps := by
      intro r
      induction r with
      | nil => intro a; show a = a ++ (#[] : Array Nat); simp
      | cons y r ih =>
        intro a
        rw [List.foldl_cons, ih]
        show a ++ (#[] : Array Nat) ++ y.cps ++ (zLi r).cps = a ++ (y.cps ++ (zLi r).cps)
        simp
    show (⟨r.foldl (fun acc p => acc ++ (Qd "").cps ++ p.cps) x.cps⟩ : Str) = ⟨x.cps ++ (zLi r).cps⟩
    rw [key]
theorem zL3 {m : Nat} : ∀ {xs : List Str}, (∀ x ∈ xs, x.length <= m) -> (zLi xs).length <= xs.length * m := by
  intro xs
  induction xs with
  | nil =>
    rintro _
    exact Qx _
  | cons x r ih =>
    rintro h
    show (x ++ zLi r).length <= _
    rw [zBi, Qh, Nat.succ_mul]
    have h1 := h x (.head _)
    have h2 := ih fun y hy => h y (.tail _ hy)
    omega
theorem zJ9 {xs : List Str} {m : Nat} (h : ∀ x ∈ xs, x.length <= m) (hz : xs.length * m <= 1000000) : JoinOk "" xs = true := by
  have key : ∀ (xs : List Str) (a : Nat), (∀ x ∈ xs, x.length <= m) -> xs.foldl (fun n x => n + x.length + (Qd "").length) a <= a + xs.length * m := by
    intro xs
    induction xs with
    | nil => intro a _; simp
    | cons x r ih =>
      intro a h
      rw [List.foldl_cons]
      have h1 := h x (.head _)
      have h2 := ih (a + x.length + (Qd "").length) fun y hy => h y (.tail _ hy)
      have e : (Qd "").length = 0 := rfl
      rw [Qh, Nat.succ_mul]
      omega
  have := key xs 0 h
  unfold JoinOk Builtin.Str.tooLong
  have szl : sizeLine = 16777216 := sizeLine_eq
  rw [List.foldl_toArray]
  simp only [Bool.not_eq_true', decide_eq_false_iff_not]
  omega
theorem zMa {ns : List Str} {k : Int} {m : Nat} (h : ns.all (fun x => decide (x.length <= m)) = true) : (zEm ns k).length <= m := by
  unfold zEm
  by_cases q : k.toNat < ns.length
  . have e : ns.getD k.toNat "" = ns[k.toNat] := by simp [q]
    rw [e]
    simpa using Qf.mp h _ (List.getElem_mem q)
  . have e : ns.getD k.toNat "" = "" := by simp [List.getElem?_eq_none (by omega : ns.length <= k.toNat)]
    rw [e]; exact Qx _
theorem zR1 {ns : List Str} {k : Nat} {m : Nat} (h : ns.all (fun x => decide (x.length <= m)) = true) : (ns.getD k "").length <= m := zMa (k := (k : Int)) h
structure yOk (e : Ent) : Prop where
  s0 : e.s0.length <= 1
  s1 : e.s1.length <= 1
  gs : e.gs.length <= 1
  carts : e.carts.length <= 2
  plain : e.plain.length <= 2
  note : e.note.length <= 3
  tk : ∀ k, (e.tk.getD k "").length <= 1
  gaps : ∀ k, (e.gaps.getD k "").length <= 1
  rep : (yA5 e.note).length <= 10
theorem zQs (y t : Int) : (yC4 y t).length <= 1 := Qo 1
theorem zU2 : (zCu.all fun x => decide ((yA5 x).length <= 10) && decide (x.length <= 3)) = true := by decide +kernel
theorem zZt (x : Int) : (zAd x).note ∈ zCu := by
  unfold zAd
  dsimp only
  cases decide (x.fmod 8 < 2)
  . have b := zBm (((((x.fdiv 128).fdiv 30).fdiv 30).fdiv 81).fdiv 4) (k := 8) (by decide)
    generalize ((((((x.fdiv 128).fdiv 30).fdiv 30).fdiv 81).fdiv 4)).fmod 8 = k at *
    show zEm zCu k ∈ zCu
    unfold zEm
    have q : k.toNat < zCu.length := by show _ < 8; omega
    have e : zCu.getD k.toNat "" = zCu[k.toNat] := by simp [q]
    rw [e]; exact List.getElem_mem q
  . show (⟨#[329]⟩ : Str) ∈ zCu
    decide
theorem yCk (x : Int) : (zAd x).tk ∈ zCy := by
  unfold zAd
  dsimp only
  have b := zBm x (k := 8) (by decide)
  generalize x.fmod 8 = k at *
  have q : (if (2 : Int) < k then (2 : Int) else k).toNat < zCy.length := by show _ < 3; split <;> omega
  have e : zCy.getD (if (2 : Int) < k then (2 : Int) else k).toNat [] = zCy[(if (2 : Int) < k then (2 : Int) else k).toNat] := by simp [q]
  rw [e]; exact List.getElem_mem q
theorem zR5 (x : Int) : yOk (zAd x) := by
  have nt := Qf.mp zU2 _ (zZt x)
  simp only [Bool.and_eq_true, decide_eq_true_eq] at nt
  refine ⟨?_, zQs _ _, Qo 1, zMa (by decide), zMa (by decide), nt.2, fun k => ?_, fun k => ?_, nt.1⟩
  . unfold zAd
    dsimp only
    cases x.fmod 8 == 2
    . exact zQs _ _
    . exact Qx _
  . refine zR1 ?_
    have := yCk x
    have h : (zCy.all fun l => l.all fun x => decide (x.length <= 1)) = true := by decide
    exact Qf.mp h _ this
  . refine zR1 ?_
    rw [Qf]
    intro y hy
    unfold Ent.gaps at hy
    rcases List.mem_or_eq_of_mem_set hy with h | h
    . simp at h; subst h; rfl
    . subst h; rfl
theorem TE.via {e : PySem.Expr} (P : V -> List C -> Prop) (h : TE g n sc e vars cells P) (k : ∀ u c, P u c -> K' u c) : TE g n sc e vars cells K' := TE.mono h k
theorem zG2 {q : Bool} {a b : PySem.Expr} (P : V -> List C -> Prop) (h : cond q (TE g n sc a vars cells P) (TE g n sc b vars cells P)) (k : ∀ u c, P u c -> K' u c) : cond q (TE g n sc a vars cells K') (TE g n sc b vars cells K') := by
  cases q
  . exact TE.mono h k
  . exact TE.mono h k
end
end
section
section
variable {g : G} {n : Nat} {sc : Sc} {vars : zAe} {cells : List C} {K' : V -> List C -> Prop}
theorem zSm {x y : Int} (hy : y = ((x.fdiv 128).fdiv 30).fdiv 30) : TSs g (n + 1) (zHi (zAn (zAq "_law_entry"))) ((zA5 (zAq "_law_entry")).drop 8)
    [("x", .d (.int y)), ("kind", .d (.int (x.fmod 8))), ("towns", .d (.lst [.int ((x.fdiv 8).fmod 4), .int (1 + (x.fdiv 32).fmod 4)])), ("spelled", .loc 0), ("gaps", .loc 1)]
    [.lst [.str (zAd x).s0, .str (zAd x).s1], .lst ((zAd x).gaps.map .str)] (fun _ _ => False) (fun u c => u = .d (zAd x).D) (fun _ _ => False) := by
  subst hy
  have zz : sizeLine = 16777216 := sizeLine_eq
  have eb := zR5 x
  have b0 := zBm (x.fdiv 8) (k := 4) (by decide)
  have b1 := zBm (x.fdiv 32) (k := 4) (by decide)
  have d1 := zBm ((((x.fdiv 128).fdiv 30).fdiv 30).fdiv 81) (k := 4) (by decide)
  have d2 := zBm (((((x.fdiv 128).fdiv 30).fdiv 30).fdiv 81).fdiv 4) (k := 8) (by decide)
  have d3 := zBm x (k := 8) (by decide)
  have gl : (zAd x).gaps.length = 3 := by simp [Ent.gaps]
  have tl : (zAd x).tk.length = 2 := by
    have h : (zCy.all fun l => l.length == 2) = true := by decide
    simpa using Qf.mp h _ (yCk x)
  have eg := eb.gaps
  have et := eb.tk
  have g0 := eg 0
  have g1 := eg 1
  have g2 := eg 2
  have k0 := et 0
  have k1 := et 1
  have a0 := eb.s0
  have a1 := eb.s1
  have a2 := eb.carts
  have a3 := eb.plain
  have a4 := eb.note
  have wl : (zAd x).word.length <= 15 := by unfold Ent.word; simp only [zBi]; omega
  have a5 := eb.rep
  have l0 : ((zAd x).parts.getD 0 "").length <= 1 := by
    show (bif x.fmod 8 == 2 then (Qd "") else zS0 (97 + (x.fdiv 8).fmod 4)).length <= 1
    cases x.fmod 8 == 2
    . exact Qo 1
    . exact Qx _
  have l1 : ((zAd x).parts.getD 1 "").length <= 2 := a3
  have l2 : ((zAd x).parts.getD 2 "").length <= 11 := by
    show (zS0 (97 + (1 + (x.fdiv 32).fmod 4)) ++ yA5 (zAd x).note).length <= 11
    rw [zBi]; show 1 + _ <= 11; omega
  have wy := zBm (((((x.fdiv 128).fdiv 30).fdiv 30).fdiv 81).fdiv 32) (k := 3) (by decide)
  have hsz : (zB0 (zAd x).word).length <= 15 := by simp [zB0]; exact wl
  refine k_ss ?_
  walk_at "W"
  walk_at "f"
  walk_at "W"
  refine zEo (by decide) (by decide) ?_
  walk_at "W"
  refine ⟨Qe rfl, _, _, rfl, ?_⟩
  walk_at "W"
  refine zBf (ns := ["", "X", "xX", ⟨#[64256]⟩]) rfl d1.1 d1.2 (by decide) ?_
  walk_at "W"
  walk_at "f"
  walk_at "W"
  refine ⟨Qe rfl, _, _, rfl, ?_⟩
  walk_at "W"
  refine zBf (ns := ["", "x", "xx", "ff"]) rfl d1.1 d1.2 (by decide) ?_
  walk_at "W"
  refine zG2 (fun u c => u = .d (.str (zAd x).note) /\ c = [.lst [.str (zAd x).s0, .str (zAd x).s1], .lst ((zAd x).gaps.map .str)]) ?_ ?_
  . refine zAg (fun q => ?_) (fun q => ?_)
    . have e : (zAd x).note = ⟨#[329]⟩ := by show (bif decide (x.fmod 8 < 2) then _ else _) = _; rw [q]; rfl
      walk_at "W"
      refine zEo (by decide) (by decide) ?_
      rw [e]; exact ⟨rfl, rfl⟩
    . have e : (zAd x).note = zEm zCu ((((((x.fdiv 128).fdiv 30).fdiv 30).fdiv 81).fdiv 4).fmod 8) := by show (bif decide (x.fmod 8 < 2) then _ else _) = _; rw [q]; rfl
      walk_at "W"
      walk_at "f"
      walk_at "W"
      refine zEo (by decide) (by decide) ?_
      walk_at "W"
      refine ⟨Qe rfl, _, _, rfl, ?_⟩
      walk_at "W"
      refine zBf (ns := zCu) rfl d2.1 d2.2 (by decide) ?_
      rw [e]; exact ⟨rfl, rfl⟩
  rintro u c ⟨rfl, rfl⟩
  walk_at "W"
  walk_at "f"
  refine k_cons ?_
  walk_at "f"
  walk_at "W"
  refine ⟨Qe rfl, _, _, rfl, ?_⟩
  refine k_cons ?_
  walk_at "f"
  walk_at "W"
  refine ⟨Qe rfl, _, _, rfl, ?_⟩
  refine k_cons ?_
  walk_at "f"
  walk_at "W"
  refine ⟨Qe rfl, _, _, rfl, ?_⟩
  walk_at "W"
  refine ⟨Qe rfl, _, _, rfl, ?_⟩
  walk_at "W"
  refine zM3 ?_
  refine zWt (ns := zCy) rfl (by split <;> omega) (by show _ < 3; split <;> omega) (by decide) ?_
  show TA _ _ _ _ (.d (.lst ((zAd x).tk.map .str))) _ _ _
  refine TA_name rfl ?_
  refine k_ss ?_
  walk_at "W"
  refine zBf (ns := (zAd x).gaps) (k := 0) rfl (by decide) (by rw [gl]; decide) (by rw [gl]; decide) ?_
  walk_at "W"
  refine zBf (ns := [(zAd x).s0, (zAd x).s1]) (k := 0) rfl (by decide) (by simp) (by simp) ?_
  refine zA4 (x := (zAd x).gaps.getD 0 "") (y := (zAd x).s0) (by omega) ?_
  walk_at "W"
  refine zBf (ns := (zAd x).tk) (k := 0) rfl (by decide) (by rw [tl]; decide) (by rw [tl]; decide) ?_
  refine zA4 (y := (zAd x).tk.getD 0 "") (by rw [zBi]; omega) ?_
  walk_at "W"
  refine zBf (ns := (zAd x).gaps) (k := 1) rfl (by decide) (by rw [gl]; decide) (by rw [gl]; decide) ?_
  refine zA4 (y := (zAd x).gaps.getD 1 "") (by simp only [zBi]; omega) ?_
  walk_at "W"
  refine zA4 (y := (zAd x).carts) (by simp only [zBi]; omega) ?_
  walk_at "W"
  refine zBf (ns := (zAd x).tk) (k := 1) rfl (by decide) (by rw [tl]; decide) (by rw [tl]; decide) ?_
  refine zA4 (y := (zAd x).tk.getD 1 "") (by simp only [zBi]; omega) ?_
  walk_at "W"
  refine zBf (ns := [(zAd x).s0, (zAd x).s1]) (k := 1) rfl (by decide) (by simp) (by simp) ?_
  refine zA4 (y := (zAd x).s1) (by simp only [zBi]; omega) ?_
  walk_at "W"
  refine zA4 (y := (zAd x).note) (by simp only [zBi]; omega) ?_
  walk_at "W"
  refine zBf (ns := (zAd x).gaps) (k := 2) rfl (by decide) (by rw [gl]; decide) (by rw [gl]; decide) ?_
  refine zA4 (y := (zAd x).gaps.getD 2 "") (by simp only [zBi]; omega) ?_
  show TA _ _ _ _ (.d (.str (zAd x).word)) _ _ _
  refine TA_name rfl ?_
  refine k_ss ?_
  walk_at "W"
  walk_at "f"
  walk_at "W"
  refine zG2 (fun u c => u = .d (.str ((zAd x).parts.getD 0 "")) /\ c = [.lst [.str (zAd x).s0, .str (zAd x).s1], .lst ((zAd x).gaps.map .str)]) ?_ ?_
  . refine zAg (fun q => ?_) (fun q => ?_)
    . have e : (zAd x).parts.getD 0 "" = "" := by show (bif x.fmod 8 == 2 then _ else _) = _; rw [q]; rfl
      walk_at "W"
      rw [e]; exact ⟨rfl, rfl⟩
    . have e : (zAd x).parts.getD 0 "" = zS0 (97 + (x.fdiv 8).fmod 4) := by show (bif x.fmod 8 == 2 then _ else _) = _; rw [q]; rfl
      walk_at "W"
      refine zDn (ns := [(x.fdiv 8).fmod 4, 1 + (x.fdiv 32).fmod 4]) (k := 0) rfl (by decide) (by simp) (by simp) ?_
      walk_at "W"
      refine zEo (i := 97 + (x.fdiv 8).fmod 4) (by omega) (by omega) ?_
      rw [e]; exact ⟨rfl, rfl⟩
  rintro u c ⟨rfl, rfl⟩
  refine k_cons ?_
  walk_at "w"
  refine k_cons ?_
  refine yDd (x := "note") (i := 329) (j := 700) (z := "n") (y := (zAd x).note) (zNw rfl) rfl rfl rfl rfl rfl ⟨by decide, by decide⟩ ⟨by decide, by decide⟩ rfl rfl (by decide) (by omega) ?_
  walk_at "W"
  refine zDn (ns := [(x.fdiv 8).fmod 4, 1 + (x.fdiv 32).fmod 4]) (k := 1) rfl (by decide) (by simp) (by simp) ?_
  walk_at "W"
  refine ⟨97 + (1 + (x.fdiv 32).fmod 4), rfl, by omega, by omega, by show 1 + (yA5 (zAd x).note).length <= _; omega, ?_⟩
  walk_at "W"
  refine ⟨Qe rfl, _, _, zAz (zAz (zAz zA7)), ?_⟩
  show TA _ _ _ _ (.d (.lst ((zAd x).parts.map .str))) _ _ _
  refine TA_name rfl ?_
  refine k_ss ?_
  walk_at "W"
  refine zG2 (fun u c => u = .d (zAd x).told /\ c = [.lst [.str (zAd x).s0, .str (zAd x).s1], .lst ((zAd x).gaps.map .str)]) ?_ ?_
  . refine zAg (fun q => ?_) (fun q => ?_)
    . have e : (zAd x).told = .lst ((zAd x).parts.map .str) := by show (bif decide (x.fmod 8 ≥ 2) then _ else _) = _; rw [q]; rfl
      walk_at "W"
      rw [e]; exact ⟨rfl, rfl⟩
    . have e : (zAd x).told = .tup [.none, .none, .str ((zAd x).parts.getD 0 "" ++ (zAd x).tk.getD 0 "" ++ (zAd x).parts.getD 1 "" ++ (zAd x).parts.getD 2 "")] := by show (bif decide (x.fmod 8 ≥ 2) then _ else _) = _; rw [q]; rfl
      walk_at "W"
      refine zBf (ns := (zAd x).parts) (k := 0) rfl (by decide) (by show (0 : Int) < 3; decide) (by show 3 < 1000; decide) ?_
      walk_at "W"
      refine zBf (ns := (zAd x).tk) (k := 0) rfl (by decide) (by rw [tl]; decide) (by rw [tl]; decide) ?_
      refine zA4 (x := (zAd x).parts.getD 0 "") (y := (zAd x).tk.getD 0 "") (by omega) ?_
      walk_at "W"
      refine zBf (ns := (zAd x).parts) (k := 1) rfl (by decide) (by show (1 : Int) < 3; decide) (by show 3 < 1000; decide) ?_
      refine zA4 (y := (zAd x).parts.getD 1 "") (by simp only [zBi]; omega) ?_
      walk_at "W"
      refine zBf (ns := (zAd x).parts) (k := 2) rfl (by decide) (by show (2 : Int) < 3; decide) (by show 3 < 1000; decide) ?_
      refine zA4 (y := (zAd x).parts.getD 2 "") (by simp only [zBi]; omega) ?_
      walk_at "W"
      refine ⟨Qe rfl, _, _, zAz (zAz (zAz zA7)), ?_⟩
      rw [e]; exact ⟨rfl, rfl⟩
  rintro u c ⟨rfl, rfl⟩
  refine TA_name rfl ?_
  refine k_ss ?_
  walk_at "W"
  refine zBa (fun _ _ => rfl) rfl rfl ?_
  walk_at "W"
  refine ⟨_, rfl, trivial, by omega, ?_⟩
  refine zAp (fun c : Nat => D.str ⟨#[c]⟩) (fun (acc : List D) (l : List Nat) (v : zAe) (c : List C) => A3 (v = ([("way", V.d (.int (zAd x).way))] : zAe)) (c = [.lst [.str (zAd x).s0, .str (zAd x).s1], .lst ((zAd x).gaps.map .str)]) (acc ++ (l.map (zQd (zAd x).way)).map .str = (((zAd x).word.cps.toList.map (zQd (zAd x).way)).map .str : List D))) ?base ?step (zAd x).word.cps.toList [] _ _ ⟨rfl, rfl, rfl⟩
  case step =>
    rintro acc a r v c ⟨rfl, rfl, hK⟩
    refine TA_name rfl ?_
    refine zBs ?_
    refine cond_true ?_
    walk_at "W"
    walk_at "f"
    walk_at "W"
    refine ⟨Qe rfl, _, _, rfl, ?_⟩
    walk_at "W"
    refine zBf (ns := zQf) (k := (zAd x).way) rfl wy.1 wy.2 (by decide) ?_
    refine zJ0 ?_
    refine q_bool ?_
    refine zAg (fun q => ?_) (fun q => ?_)
    . have e : zQd (zAd x).way a = "\\" ++ (⟨#[a]⟩ : Str) := by unfold zQd; rw [show inT (zEm zQf (zAd x).way) ⟨#[a]⟩ = true from q]; rfl
      walk_at "W"
      refine zA4 (by rw [zz]; show 1 + 1 <= _; decide) ?_
      refine ⟨_, _, rfl, zAo.back rfl rfl trivial rfl ⟨rfl, rfl, ?_⟩⟩
      rw [← hK, Qj, List.map_cons, e]; rfl
    . have e : zQd (zAd x).way a = ⟨#[a]⟩ := by unfold zQd; rw [show inT (zEm zQf (zAd x).way) ⟨#[a]⟩ = false from q]; rfl
      walk_at "W"
      refine ⟨_, _, rfl, zAo.back rfl rfl trivial rfl ⟨rfl, rfl, ?_⟩⟩
      rw [← hK, Qj, List.map_cons, e]; rfl
  case base =>
    rintro acc v c ⟨rfl, rfl, hK⟩
    have hK' : acc = (((zAd x).word.cps.toList.map (zQd (zAd x).way)).map .str : List D) := by simpa using hK
    rw [hK']
    walk_at "W"
    have el : ∀ y ∈ (zAd x).word.cps.toList.map (zQd (zAd x).way), y.length <= 2 := by
      intro y hy
      obtain ⟨c, _, rfl⟩ := Qq.mp hy
      unfold zQd
      cases inT (zEm zQf (zAd x).way) ⟨#[c]⟩
      . show 1 <= 2; decide
      . show 2 <= 2; decide
    have wl' : (zAd x).word.cps.toList.length <= 15 := by rw [Array.length_toList]; exact wl
    have jl : ((zAd x).word.cps.toList.map (zQd (zAd x).way)).length * 2 <= 30 := by rw [Qg]; omega
    refine zD7 (xs := (zAd x).word.cps.toList.map (zQd (zAd x).way)) rfl (zJ9 el (by omega)) ?_
    have bl : (zAd x).body0.length <= 30 := by
      unfold Ent.body0; rw [zIx]
      have := zL3 el; omega
    show TA _ _ _ _ (.d (.str (zAd x).body0)) _ _ _
    refine TA_name rfl ?_
    refine k_ss ?_
    refine TS_return ?_
    walk_at "w"
    walk_at "W"
    walk_at "f"
    walk_at "W"
    refine zA4 (by show 1 + _ <= _; omega) ?_
    walk_at "W"
    refine zA4 (by rw [zBi]; show 1 + _ + 1 <= _; omega) ?_
    walk_at "W"
    refine zA4 (by show 1 + _ <= _; omega) ?_
    walk_at "W"
    refine ⟨Qe rfl, _, _, zAz (zAz (zAz zA7)), ?_⟩
    walk_at "W"
    refine zBf (ns := [(Qd "\"") ++ (zAd x).body0 ++ (Qd "\""), (zAd x).body0, (Qd "\\") ++ (zAd x).body0]) (k := (zAd x).way) rfl wy.1 wy.2 (by simp) ?_
    walk_at "W"
    refine ⟨Qe rfl, _, _, zAz (zAz (zAz zA7)), ?_⟩
    rfl
end
end
section
section
variable {g : G} {n : Nat} {sc : Sc} {vars : zAe} {cells : List C} {K' : V -> List C -> Prop}
theorem yI7 {x : Int} (h0 : 0 <= x) (h1 : x < 1000000000) (h : K' (.d (zAd x).D) []) : zAb g (n + 2) (.stat 11) [.d (.int x)] [] [] K' := by
  refine zAb.trim ?_
  refine zAb.mono (K' := fun u c => u = .d (zAd x).D) ?_ (fun u c e => by subst e; exact ⟨rfl, by simp [zCj], by simpa using h⟩)
  refine zBg (a := 297) (st := zAq "_law_entry") (names := ["x"]) (Qk (show zA8[3]? = some _ from rfl)) rfl (by kernel_rfl) ?_ rfl (by kernel_rfl) ?_
  . intro fd hp hd vals hv
    obtain ⟨a, rfl⟩ := zKb hv
    unfold bindArgs
    rw [hp, hd]
    kernel_rfl
  . refine k_ss ?_
    walk_at "W"
    have zz : sizeLine = 16777216 := sizeLine_eq
    walk_at "f"
    walk_at "W"
    refine ⟨Qe rfl, _, _, rfl, ?_⟩
    walk_at "W"
    refine zFm rfl ?_
    refine TEs_nil ?_
    refine ⟨Qx _, [], _, rfl, ?_⟩
    walk_at "W"
    refine zDu (fun _ _ => rfl) rfl ?_
    walk_at "W"
    refine ⟨_, rfl, trivial, ?_⟩
    have b0 := zBm (x.fdiv 8) (k := 4) (by decide)
    have b1 := zBm (x.fdiv 32) (k := 4) (by decide)
    show TA _ _ _ _ _ _ _ _
    refine TA_name rfl ?_
    refine k_ss ?_
    walk_at "W"
    walk_at "f"
    walk_at "W"
    walk_at "f"
    walk_at "W"
    refine ⟨Qe rfl, _, _, rfl, ?_⟩
    walk_at "W"
    have c1 := zBm ((x.fdiv 128).fdiv 3) (k := 10) (by decide)
    have c2 := zBm (x.fdiv 128) (k := 3) (by decide)
    refine zDn (ns := zVv) rfl c1.1 c1.2 (by decide) ?_
    refine zM1 (IntMulOk.of_left (by decide)) ?_
    walk_at "W"
    refine ⟨Qe rfl, _, _, rfl, ?_⟩
    walk_at "W"
    refine zDn (ns := [97, 65, 119808 + 52 * zKd zVv (((x.fdiv 128).fdiv 3).fmod 10)]) rfl c2.1 c2.2 (by simp) ?_
    walk_at "W"
    have c3 := yCp (y := x.fdiv 128) (t := (x.fdiv 8).fmod 4) b0.1 (by omega)
    refine zEo c3.1 c3.2 ?_
    walk_at "W"
    refine zA9 (i := 0) rfl (Qx _) ?_
    walk_at "W"
    refine zAo.back rfl rfl trivial rfl ?_
    show TA _ _ _ _ _ _ _ _
    refine TA_name rfl ?_
    refine k_ss ?_
    walk_at "W"
    walk_at "f"
    walk_at "W"
    walk_at "f"
    walk_at "W"
    refine ⟨Qe rfl, _, _, rfl, ?_⟩
    walk_at "W"
    have d1 := zBm (((x.fdiv 128).fdiv 30).fdiv 3) (k := 10) (by decide)
    have d2 := zBm ((x.fdiv 128).fdiv 30) (k := 3) (by decide)
    refine zDn (ns := zVv) rfl d1.1 d1.2 (by decide) ?_
    refine zM1 (IntMulOk.of_left (by decide)) ?_
    walk_at "W"
    refine ⟨Qe rfl, _, _, rfl, ?_⟩
    walk_at "W"
    refine zDn (ns := [97, 65, 119808 + 52 * zKd zVv ((((x.fdiv 128).fdiv 30).fdiv 3).fmod 10)]) rfl d2.1 d2.2 (by simp) ?_
    walk_at "W"
    have d3 := yCp (y := (x.fdiv 128).fdiv 30) (t := 1 + (x.fdiv 32).fmod 4) (by omega) (by omega)
    refine zEo d3.1 d3.2 ?_
    walk_at "W"
    refine zA9 (i := 0) rfl (by rw [zz]; simp) ?_
    walk_at "W"
    refine zAo.back rfl rfl trivial rfl ?_
    have eb := zR5 x
    show TSs _ _ _ _ _ _ _ _ _
    refine k_ss (TS.via (fun v c => v = ([("x", .d (.int (((x.fdiv 128).fdiv 30).fdiv 30))), ("kind", .d (.int (x.fmod 8))), ("towns", .d (.lst [.int ((x.fdiv 8).fmod 4), .int (1 + (x.fdiv 32).fmod 4)])), ("spelled", .loc 0)] : zAe) /\
      c = [.lst [.str (zAd x).s0, .str (zAd x).s1]]) ?_ ?_)
    . walk_at "W"
      refine zAg (fun q => ?_) (fun q => ?_)
      . have e : (zAd x).s0 = "" := by show (bif x.fmod 8 == 2 then _ else _) = _; rw [q]; rfl
        walk_at "W"
        refine yCu rfl ?_
        walk_at "W"
        refine yHg (i := 0) rfl (by decide) (by simp) (by decide) ?_
        walk_at "W"
        exact ⟨rfl, by rw [e]; rfl⟩
      . have e : (zAd x).s0 = yC4 (x.fdiv 128) ((x.fdiv 8).fmod 4) := by show (bif x.fmod 8 == 2 then _ else _) = _; rw [q]; rfl
        walk_at "W"
        exact ⟨rfl, by rw [e]; rfl⟩
    clear c1 c2 c3 d1 d2 d3
    rintro v c ⟨rfl, rfl⟩
    refine k_ss ?_
    walk_at "W"
    refine zFm rfl ?_
    walk_at "W"
    refine ⟨Qe rfl, _, _, zAz (zAz (zAz zA7)), ?_⟩
    walk_at "W"
    walk_at "f"
    walk_at "W"
    refine ⟨Qe rfl, _, _, rfl, ?_⟩
    walk_at "W"
    refine zVo ?_
    walk_at "W"
    refine zHr ⟨by decide, by decide, by decide, by decide⟩ (by decide) ?_
    refine zHb rfl rfl (by rw [zz]; decide) ?_
    walk_at "W"
    have g1 := zBm (((x.fdiv 128).fdiv 30).fdiv 30) (k := 27) (by decide)
    refine zDn (ns := zW2) rfl g1.1 g1.2 (by decide) ?_
    walk_at "W"
    have g2 := zPw (ns := zW2) (k := (((x.fdiv 128).fdiv 30).fdiv 30).fmod 27) (lo := 0) (hi := 70000) (by decide) g1.1 g1.2
    refine zEo g2.1 (by omega) ?_
    refine yCu rfl ?_
    walk_at "W"
    have g3 := zBm ((((x.fdiv 128).fdiv 30).fdiv 30).fdiv 27) (k := 3) (by decide)
    refine yHg (i := 1) rfl g3.1 (by simpa using g3.2) (by omega) ?_
    have e : (zAd x).gaps.map D.str = ([.str "", .str "", .str ""] : List D).set (((((x.fdiv 128).fdiv 30).fdiv 30).fdiv 27).fmod 3).toNat (.str ⟨#[(zKd zW2 ((((x.fdiv 128).fdiv 30).fdiv 30).fmod 27)).toNat]⟩) := by
      unfold Ent.gaps; rw [List.map_set]; rfl
    have := zSm (g := g) (n := n) (x := x) rfl
    rw [e] at this
    exact this.mono (fun _ _ h => h.elim) (fun _ _ h => h) (fun _ _ h => h.elim)
end
end
section
section
variable {g : G} {n : Nat} {sc : Sc} {vars : zAe} {cells : List C} {K' : V -> List C -> Prop}
theorem zQk {α : Type} : ∀ {l : List α} {i : Nat} {x : α}, l[i]? = some x -> l.set i x = l
  | [], _, _, h => by simp at h
  | a :: l, 0, x, h => by simp at h; subst h; rfl
  | a :: l, i + 1, x, h => by simp at h; rw [List.set_cons_succ, zQk h]
theorem zFt {m : Nat} : ∀ ds : List D, (ds.map V.d).all (V.below m) = true
  | [] => rfl
  | _ :: l => zFt l
theorem zXs {sel : List Nat} {m N : Nat} (hs : sel.all (fun k => Nat.blt k m) = true) (hm : m <= N) : ∀ k ∈ sel, k < N := fun k hk => Nat.lt_of_lt_of_le (Qe (Qf.mp hs k hk)) hm
theorem zD2 {t i j : Nat} {ds : List D} {hs hs' : List (Str × Str)} {r : D} {c' : List C} (hi : cells[i]? = some (.dict [("_headers", .loc j)])) (hj : cells[j]? = some (.lst (zBb hs))) (hne : i ≠ j)
    (H : ∀ K2 : V -> List C -> Prop, K2 (.d r) [.dict zBr, .lst (zBb hs')] -> zAb g n (.stat t) (.obj 288 0 :: ds.map .d) [] [.dict zBr, .lst (zBb hs)] K2)
    (e : cells.set j (.lst (zBb hs')) = c') (h : K' (.d r) c') : zAb g n (.stat t) (.obj 288 i :: ds.map .d) [] cells K' := by
  have li := (Ql.mp hi).1
  have lj := (Ql.mp hj).1
  refine zAb.frameL [i, j] [.dict zBr, .lst (zBb hs)] (.stat t) (.obj 288 0 :: ds.map .d) rfl ?_ ?_ ?_ ?_ ?_ rfl ?_
  . rw [List.map_cons, List.map_map]
    congr 1
  . exact zFt ds
  . simpa using hne
  . intro k hk
    rcases Qy.mp hk with rfl | hk
    . exact li
    . rw [Qr.mp hk]; exact lj
  . simp [hi, hj, C.mapI, zBr, zP4, V.mapI, zGn]
  . refine H _ ?_
    have : zCv cells [i, j] [.dict zBr, .lst (zBb hs')] = c' := by
      rw [← e]
      show (cells.set i _).set j _ ++ [] = _
      rw [List.append_nil]
      show (cells.set i (.dict [("_headers", .loc j)])).set j (.lst (zBb hs')) = _
      rw [zQk hi]
    rw [this]
    exact h
theorem yBf (ln ln' : Int) (pb pb' : List D) (l l' : List Nat) (rest : List C) : zCv (zCw ln pb l rest) [0, 1, 2, 3, 4] (zCw ln' pb' l' []) = zCw ln' pb' l' rest := by
  exact List.append_nil _
theorem zG9 {t : Nat} {ds : List D} {ln ln' : Int} {pb pb' : List D} {l l' : List Nat} {rest : List C} {r : D}
    (H : ∀ K2 : V -> List C -> Prop, K2 (.d r) (zCw ln' pb' l' []) -> zAb g n (.stat t) (.obj 76 0 :: ds.map .d) [] (zCw ln pb l []) K2)
    (h : K' (.d r) (zCw ln' pb' l' rest)) : zAb g n (.stat t) (.obj 76 0 :: ds.map .d) [] (zCw ln pb l rest) K' := by
  refine zAb.frameL [0, 1, 2, 3, 4] (zCw ln pb l []) (.stat t) (.obj 76 0 :: ds.map .d) rfl ?_ ?_ ?_ ?_ ?_ rfl ?_
  . rw [List.map_cons, List.map_map]
    congr 1
  . exact zFt ds
  . decide
  . exact zXs (m := 5) rfl (Nat.le_add_left _ _)
  . rfl
  . refine H _ ?_
    rw [yBf]
    exact h
noncomputable abbrev zDt (i : Nat) (hs : List (Str × Str)) (rest : List C) : List C := .dict [("_headers", .loc (i + 1))] :: .lst (zBb hs) :: rest
noncomputable def zC7 (town : Str) (s : List (Str × Str) × List Str) (goal : Str) : List (Str × Str) × List Str :=
  match zIv s.1 (Txt.upper (zAv goal)) with
  | none => ((zFl s.1 (zAv goal) town).2, s.2 ++ [zAv goal])
  | some _ => s
noncomputable def zL7 (hs : List (Str × Str)) : Nat -> List (Str × Str) × List Str -> List (Str × Str) × List Str
  | 0, s => s
  | _ + 1, (met, []) => (met, [])
  | k + 1, (met, town :: q) => zL7 hs k ((zAm hs (Txt.upper town)).foldl (zC7 town) (met, q))
noncomputable def zMv (hs : List (Str × Str)) (pb : List Str) : List (Str × Str) × List Str := zL7 hs 9 ((zFl [] "A" "a").2, pb ++ [Qd "a"])
theorem zP5 : (zBd.all fun x => zAj.contains (zAv x)) = true := by decide +kernel
theorem zZu {x : Str} (h : x ∈ zBd) : zAv x ∈ zAj := by
  have := Qf.mp zP5 x h
  simpa using this
def zKe (hs : List (Str × Str)) : Prop := ∀ p ∈ hs, p.1 ∈ zAj /\ p.2 ∈ zAj
theorem zKe.hdr {hs : List (Str × Str)} (h : zKe hs) : zDg hs := fun p hp => ⟨(h p hp).1, zEr (h p hp).2⟩
theorem zU4 (hs : List (Str × Str)) (x v : Str) : (zFl hs x v).2.length <= hs.length + 1 := by
  unfold zFl
  split
  . simp
  . simp
theorem zQ0 {hs : List (Str × Str)} {x v : Str} (h : zKe hs) (hx : x ∈ zAj) (hv : v ∈ zAj) : zKe (zFl hs x v).2 := by
  unfold zFl
  split
  . exact h
  . intro p hp
    rcases Qs.mp hp with hp | hp
    . exact h p hp
    . rw [Qr] at hp; subst hp; exact ⟨hx, hv⟩
theorem zW5 {x : Str} (h : x ∈ zAj) : (x == Qd "") = false := by
  have : (zAj.all fun x => !(x == Qd "")) = true := by decide +kernel
  have := Qf.mp this x h
  simpa using this
end
end
section
section
variable {g : G} {n : Nat} {sc : Sc} {vars : zAe} {cells : List C} {K' : V -> List C -> Prop}
noncomputable abbrev yQs : zAe := [("lexer", V.obj 76 0), ("net", .obj 288 5), ("met", .obj 288 7)]
theorem zZ6 {ln : Int} {pb : List Str} {hs : List (Str × Str)} (hh : zDg hs) (hz : hs.length <= 40) (hpb : pb.length <= 10) (hpl : ∀ x ∈ pb, x ∈ zAj)
    (h : zKe (zMv hs pb).1 -> (∀ x ∈ (zMv hs pb).2, x ∈ zAj) -> (zMv hs pb).1.length <= 500 -> K' (.obj 288 7) (zCw ln ((zMv hs pb).2.map .str) [] (zDt 5 hs (zDt 7 (zMv hs pb).1 [])))) :
    zAb g (n + 7) (.stat 13) [.obj 76 0, .obj 288 5] [] (zCw ln (pb.map .str) [] (zDt 5 hs [])) K' := by
  generalize hR : zMv hs pb = R at h
  refine zAb.mono (K' := fun u c => u = .obj 288 7 /\ zKe R.1 /\ (∀ x ∈ R.2, x ∈ zAj) /\ R.1.length <= 500 /\ c = zCw ln (R.2.map .str) [] (zDt 5 hs (zDt 7 R.1 []))) ?_ (by rintro u c ⟨rfl, h1, h2, h3, rfl⟩; exact h h1 h2 h3)
  clear h
  refine zBg (a := 311) (st := zAq "_law_met") (names := ["lexer", "net"]) (Qk (show zA8[5]? = some _ from rfl)) rfl (by kernel_rfl) ?_ rfl (by kernel_rfl) ?_
  . intro fd hp hd vals hv
    obtain ⟨a, b, rfl⟩ := zYp hv
    unfold bindArgs
    rw [hp, hd]
    kernel_rfl
  . refine k_ss ?_
    walk_at "W"
    refine zAb.frameL [] [] (.stat 10) [] rfl rfl rfl List.nodup_nil (fun _ h => nomatch h) rfl rfl ?_
    refine zJq ?_
    show TA _ _ _ _ (.obj 288 7) _ (zCw ln (pb.map .str) [] (zDt 5 hs (zDt 7 [] []))) _
    refine TA_name rfl ?_
    refine k_ss ?_
    walk_at "W"
    refine zD2 (i := 7) (j := 8) (ds := [.str "A", .str "a"]) (hs := []) rfl rfl (by decide) (fun K2 h2 => zJ5 (fun _ h => nomatch h) (by decide) (by decide) (by decide) h2) (c' := zCw ln (pb.map .str) [] (zDt 5 hs (zDt 7 (zFl [] "A" "a").2 []))) rfl ?_
    walk_at "W"
    refine zG9 (ds := [.str "a"]) (ln' := ln) (l' := []) (fun K2 h2 => zJr (by rw [Qg]; omega) h2) ?_
    rw [show pb.map D.str ++ [D.str (Qd "a")] = (pb ++ [Qd "a"]).map D.str by simp]
    walk_at "W"
    refine zDu (fun _ _ => rfl) rfl ?_
    walk_at "W"
    refine zB5 ?_
    refine ⟨_, rfl, PySem.small_one (by decide) (by decide) (by decide) (by decide), ?_⟩
    have i1 : zKe (zFl [] "A" "a").2 := zQ0 (fun _ h => nomatch h) (by decide) (by decide)
    have i2 : ∀ x ∈ pb ++ [Qd "a"], x ∈ zAj := by
      intro x hx
      rcases Qs.mp hx with hx | hx
      . exact hpl x hx
      . rw [Qr] at hx; subst hx; decide
    have i3 : (pb ++ [Qd "a"]).length + (List.range 9).length * 40 <= 400 := by simp; omega
    refine zBv (fun k : Nat => D.int (0 + (k : Int))) (fun (l : List Nat) (v : zAe) (c : List C) => v = yQs /\ E2 fun met q => A6 (c = zCw ln (q.map .str) [] (zDt 5 hs (zDt 7 met []))) (zL7 hs l.length (met, q) = R) (zKe met) ((∀ x ∈ q, x ∈ zAj)) (met.length + l.length * 40 <= 400) (q.length + l.length * 40 <= 400)) ?base ?step (List.range 9) _ _ ⟨rfl, (zFl [] "A" "a").2, pb ++ [Qd "a"], rfl, hR, i1, i2, by decide, i3⟩
    case base =>
      rintro v c ⟨rfl, met, q, rfl, hgo, h1, h2, h3, h4⟩
      unfold zL7 at hgo
      subst hgo
      walk_at "W"
      exact ⟨rfl, h1, h2, by simp at h3; show met.length <= 500; omega, rfl⟩
    case step =>
      rintro k r v c KN hN ⟨rfl, met, q, rfl, hgo, h1, h2, h3, h4⟩
      rw [Qh, Nat.succ_mul] at h3 h4
      refine TA_name rfl ?_
      refine k_ss ?_
      walk_at "W"
      induction q using List.casesOn with
      | nil =>
        refine zG9 (ds := []) (ln' := ln) (l' := []) (pb' := []) (r := .str "") (fun K2 h2 => zKv (l := []) (by decide) h2) ?_
        walk_at "W"
        rw [show (Qd "" == Qd "") = true from rfl]
        refine cond_true ?_
        walk_at "W"
        rw [Qh] at hgo
        unfold zL7 at hgo
        subst hgo
        exact ⟨rfl, h1, (fun _ h => nomatch h), by show met.length <= 500; omega, rfl⟩
      | cons town q =>
        have ht := h2 town (.head _)
        have nt := zAt ht
        rw [Qh] at h4
        refine zG9 (ds := []) (ln' := ln) (l' := []) (pb' := q.map .str) (r := .str town) (fun K2 h2 => zSp (by rw [Qg]; omega) h2) ?_
        walk_at "W"
        rw [zW5 ht]
        refine cond_false ?_
        walk_at "W"
        refine zDu (fun _ _ => rfl) rfl ?_
        walk_at "W"
        refine zCe nt.up ?_
        walk_at "W"
        refine zD2 (i := 5) (j := 6) (ds := [.str (Txt.upper town)]) (hs' := hs) rfl rfl (by decide) (fun K2 h2 => zIw hh nt.memU (by omega) h2) (c' := zCw ln (q.map .str) [] (zDt 5 hs (zDt 7 met []))) rfl ?_
        refine ⟨_, rfl, trivial, ?_⟩
        have hgo' : zL7 hs r.length ((zAm hs (Txt.upper town)).foldl (zC7 town) (met, q)) = R := by
          rw [Qh] at hgo; exact hgo
        have gl := zHn (hs := hs) (x := Txt.upper town)
        refine zBv (fun x : Str => D.str x) (fun (l : List Str) (v : zAe) (c : List C) => (v = ([("lexer", V.obj 76 0), ("net", .obj 288 5), ("met", .obj 288 7), ("turn", .d (.int (0 + (k : Int)))), ("town", .d (.str town))] : zAe)) /\ E2 fun met q => A7 (c = zCw ln (q.map .str) [] (zDt 5 hs (zDt 7 met []))) (zL7 hs r.length (l.foldl (zC7 town) (met, q)) = R) (zKe met) ((∀ x ∈ q, x ∈ zAj)) ((∀ x ∈ l, x ∈ zBd)) (met.length + l.length + r.length * 40 <= 400) (q.length + l.length + r.length * 40 <= 400)) ?b2 ?s2 (zAm hs (Txt.upper town)) _ _
          ⟨rfl, met, q, rfl, hgo', h1, fun x hx => h2 x (.tail _ hx), fun x hx => zFx hh hx, by omega, by omega⟩
        case b2 =>
          rintro v c ⟨rfl, met, q, rfl, hg2, g1, g2, g3, g4, g5⟩
          walk_at "W"
          exact zAo.to hN rfl rfl trivial rfl ⟨rfl, met, q, rfl, hg2, g1, g2, by simpa using g4, by simpa using g5⟩
        case s2 =>
          rintro goal r2 v c KN hN ⟨rfl, met, q, rfl, hg2, g1, g2, g3, g4, g5⟩
          rw [Qh] at g4 g5
          have hv := g3 goal (.head _)
          have hl := zZu hv
          have nh := zAt hl
          have hx : 1 <= goal.cps.size := by simpa using Qf.mp zD8 goal hv
          rw [List.foldl_cons] at hg2
          refine TA_name rfl ?_
          refine k_ss ?_
          walk_at "W"
          refine zC1 ⟨by decide, by decide⟩ (zGe hx) ?_
          walk_at "W"
          refine zCe (x := zAv goal) nh.up ?_
          walk_at "W"
          refine zD2 (i := 7) (j := 8) (ds := [.str (Txt.upper (zAv goal))]) (hs' := met) (r := yB9 (zIv met (Txt.upper (zAv goal)))) rfl rfl (by decide) (fun K2 h2 => yNy g1.hdr nh.memU h2) (c' := zCw ln (q.map .str) [] (zDt 5 hs (zDt 7 met []))) rfl ?_
          walk_at "W"
          induction e : zIv met (Txt.upper (zAv goal)) with
          | some w =>
            have em : zC7 town (met, q) goal = (met, q) := by unfold zC7; simp only [e]
            rw [em] at hg2
            refine cond_false ?_
            walk_at "W"
            exact zAo.to hN rfl rfl trivial rfl ⟨rfl, met, q, rfl, hg2, g1, g2, fun x hx => g3 x (.tail _ hx), by omega, by omega⟩
          | none =>
            have em : zC7 town (met, q) goal = ((zFl met (zAv goal) town).2, q ++ [zAv goal]) := by unfold zC7; simp only [e]
            rw [em] at hg2
            refine cond_true ?_
            walk_at "W"
            refine zC1 ⟨by decide, by decide⟩ (zGe hx) ?_
            walk_at "W"
            refine zD2 (i := 7) (j := 8) (ds := [.str (zAv goal), .str town]) (hs := met) rfl rfl (by decide) (fun K2 h2 => zJ5 g1.hdr hl (zEr ht) (by omega) h2) (c' := zCw ln (q.map .str) [] (zDt 5 hs (zDt 7 (zFl met (zAv goal) town).2 []))) rfl ?_
            walk_at "W"
            refine zC1 ⟨by decide, by decide⟩ (zGe hx) ?_
            walk_at "W"
            refine zG9 (ds := [.str (zAv goal)]) (ln' := ln) (l' := []) (fun K2 h2 => zJr (by rw [Qg]; omega) h2) ?_
            rw [show q.map D.str ++ [D.str (zAv goal)] = (q ++ [zAv goal]).map D.str by simp]
            walk_at "W"
            have sl := zU4 met (zAv goal) town
            refine zAo.to hN rfl rfl trivial rfl ⟨rfl, _, q ++ [zAv goal], rfl, hg2, zQ0 g1 hl ht, ?_, fun x hx => g3 x (.tail _ hx), by omega, by simp; omega⟩
            intro x hx
            rcases Qs.mp hx with hx | hx
            . exact g2 x hx
            . rw [Qr] at hx; subst hx; exact hl
end
end
section
noncomputable def zAi (hs : List (Str × Str)) : List (Str × Str) := hs.map fun p => (Txt.lower p.1, zAv p.2)
noncomputable def inL (l : List Str) (x : Str) : Bool := (l.map D.str).any fun y => eqD y (.str x)
noncomputable def zCt (roads : List (Str × Str)) (reached : List Str) : List Str := reached ++ (roads.filter fun p => inL reached p.1 && !inL reached p.2).map (·.2)
noncomputable def zFb (roads : List (Str × Str)) : Nat -> List Str -> Int -> Int
  | 0, _, st => st
  | f + 1, reached, st => bif !(inL reached "e") && decide (st < 5) then zFb roads f (zCt roads reached) (st + 1) else st
noncomputable def zE3 (hs : List (Str × Str)) : Int := zFb (zAi hs) 6 ["a"] 0
section
variable {g : G} {n : Nat} {sc : Sc} {vars : zAe} {cells : List C} {K' : V -> List C -> Prop}
theorem zJb {test : PySem.Expr} {body : List Stmt} {names : List Str} {k : Nat} {Kn : zAe -> List C -> Prop} {Kr : V -> List C -> Prop} (Inv : Nat -> zAe -> List C -> Prop) (base : ∀ v c, ¬ Inv 0 v c)
    (step : ∀ f v c KN, (∀ v c, zAo k names (fun _ => True) (Inv f) v c -> KN v c) -> Inv (f + 1) v c -> TB g n sc test v c fun q c => cond q (TSs g n sc body v c KN Kr KN) (Kn v c)) :
    ∀ (f : Nat) (v : zAe) (c : List C), Inv f v c -> zWp g n sc test body names k Kn Kr f v c
  | 0, v, c, h => (base v c h).elim
  | f + 1, v, c, h => step f v c _ (fun _ _ q => q.mono fun v c q => zJb Inv base step f v c q) h
theorem zEb (l : List Str) (x : Str) : ((l.map D.str).all fun y => zRz 8 y (.str x)) = true := by
  rw [Qf]
  intro y hy
  obtain ⟨z, _, rfl⟩ := Qq.mp hy
  rfl
theorem zSk {hs : List (Str × Str)} (hh : zDg hs) (hz : hs.length <= 40) (h : K' (.d (.int (zE3 hs))) [.dict zBr, .lst (zBb hs)]) : zAb g (n + 2) (.stat 15) [.obj 288 0] [] [.dict zBr, .lst (zBb hs)] K' := by
  have zz : sizeLine = 16777216 := sizeLine_eq
  refine zAb.mono (K' := fun u c => u = .d (.int (zE3 hs)) /\ c = [.dict zBr, .lst (zBb hs)]) ?_ (by rintro u c ⟨rfl, rfl⟩; exact h)
  refine zBg (a := 321) (st := zAq "_law_least") (names := ["net"]) (Qk (show zA8[7]? = some _ from rfl)) rfl (by kernel_rfl) ?_ rfl (by kernel_rfl) ?_
  . intro fd hp hd vals hv
    obtain ⟨a, rfl⟩ := zKb hv
    unfold bindArgs
    rw [hp, hd]
    kernel_rfl
  . refine k_ss ?_
    refine zDq rfl rfl (fun _ _ => rfl) rfl rfl ?_
    walk_at "W"
    refine yC2 (by omega) ?_
    refine ⟨_, rfl, trivial, by rw [zz]; simp [zBb]; omega, ?_⟩
    refine zAp (fun p : Str × Str => D.tup [.str p.1, .str p.2]) (fun (acc : List D) (l : List (Str × Str)) (v : zAe) (c : List C) => A4 (v = ([] : zAe)) (c = [.dict zBr, .lst (zBb hs)]) ((∀ p ∈ l, p.1 ∈ zAj /\ p.2 ∈ zBd)) (acc ++ (l.map fun p => (Txt.lower p.1, zAv p.2)).map (fun p => D.tup [.str p.1, .str p.2]) = (zAi hs).map (fun p => D.tup [.str p.1, .str p.2]))) ?base ?step hs [] _ _ ⟨rfl, rfl, hh, rfl⟩
    case step =>
      rintro acc p r v c ⟨rfl, rfl, hl, hK⟩
      have hp := hl p (.head _)
      have nf := zAt hp.1
      have hx : 1 <= p.2.cps.size := by simpa using Qf.mp zD8 p.2 hp.2
      refine zBt rfl ?_
      refine zBs ?_
      refine cond_true ?_
      walk_at "W"
      refine zBx nf.lo ?_
      walk_at "W"
      refine zC1 ⟨by decide, by decide⟩ (zGe hx) ?_
      walk_at "W"
      refine ⟨Qe rfl, _, _, zAz (zAz zA7), ?_⟩
      refine ⟨_, _, rfl, zAo.back rfl rfl trivial rfl ⟨rfl, rfl, fun q hq => hl q (.tail _ hq), ?_⟩⟩
      rw [← hK, Qj]; rfl
    case base =>
      rintro acc v c ⟨rfl, rfl, -, hK⟩
      have hK' : acc = (zAi hs).map (fun p => D.tup [.str p.1, .str p.2]) := by simpa using hK
      rw [hK']
      walk_at "W"
      walk_at "f"
      walk_at "W"
      refine ⟨Qe rfl, _, _, zAz zA7, ?_⟩
      walk_at "W"
      have rl : (zAi hs).length <= 40 := by unfold zAi; rw [Qg]; exact hz
      refine zR3 6 ?_
      refine zJb (fun (f : Nat) (v : zAe) (c : List C) => E2 fun reached st => A6 (v = ([("net", V.obj 288 0), ("roads", .d (.lst ((zAi hs).map (fun p => D.tup [.str p.1, .str p.2])))), ("reached", .d (.lst (reached.map .str))), ("steps", .d (.int st))] : zAe)) (c = [.dict zBr, .lst (zBb hs)]) (zFb (zAi hs) f reached st = zE3 hs) (st + f = 6) (0 < f) (reached.length + f * 40 <= 241)) ?b1 ?s1 6 _ _ ⟨["a"], 0, rfl, rfl, rfl, rfl, by decide, by decide⟩
      case b1 => rintro v c ⟨_, _, _, _, _, _, h, _⟩; omega
      case s1 =>
        rintro f v c KN hN ⟨reached, st, rfl, rfl, hgo, hst, -, hlen⟩
        unfold zFb at hgo
        refine TB_bool ?_
        refine k_and ?_
        walk_at "W"
        refine zDk rfl (zEb reached _) ?_
        refine q_bool ?_
        refine zAg (fun q => ?_) (fun q => ?_)
        . rw [show (!(inL reached "e")) = true from q, Bool.true_and] at hgo
          refine k_and ?_
          walk_at "W"
          refine zAg (fun q2 => ?_) (fun q2 => ?_)
          . rw [q2] at hgo
            refine TBall_nil ?_
            refine cond_true ?_
            refine k_ss ?_
            refine k_assign rfl rfl rfl rfl ?_
            walk_at "W"
            refine zBa (fun _ _ => rfl) rfl rfl ?_
            walk_at "W"
            refine ⟨_, rfl, trivial, by rw [zz, Qg]; omega, ?_⟩
            refine zAp (fun p : Str × Str => D.tup [.str p.1, .str p.2]) (fun (acc : List D) (l : List (Str × Str)) (v : zAe) (c : List C) => A3 (v = ([("reached", .d (.lst (reached.map .str)))] : zAe)) (c = [.dict zBr, .lst (zBb hs)]) (acc ++ ((l.filter fun p => inL reached p.1 && !inL reached p.2).map (·.2)).map D.str = ((((zAi hs).filter fun p => inL reached p.1 && !inL reached p.2).map (·.2)).map D.str : List D))) ?base ?step (zAi hs) [] _ _ ⟨rfl, rfl, rfl⟩
            case step =>
              rintro acc p r v c ⟨rfl, rfl, hK⟩
              rw [Qz] at hK
              refine zBt rfl ?_
              refine zCh ?_
              refine TB_bool ?_
              refine k_and ?_
              walk_at "W"
              refine zOb rfl (zEb reached _) ?_
              refine q_bool ?_
              refine zAg (fun q3 => ?_) (fun q3 => ?_)
              . rw [show inL reached p.1 = true from q3, Bool.true_and] at hK
                refine k_and ?_
                walk_at "W"
                refine zDk rfl (zEb reached _) ?_
                refine q_bool ?_
                refine zAg (fun q4 => ?_) (fun q4 => ?_)
                . rw [if_pos (show (!inL reached p.2) = true from q4)] at hK
                  refine TBall_nil ?_
                  refine cond_true ?_
                  walk_at "W"
                  refine ⟨_, _, rfl, zAo.back rfl rfl trivial rfl ⟨rfl, rfl, ?_⟩⟩
                  rw [← hK, Qj]; rfl
                . rw [if_neg (by rw [show (!inL reached p.2) = false from q4]; decide)] at hK
                  refine cond_false ?_
                  exact zAo.back rfl rfl trivial rfl ⟨rfl, rfl, hK⟩
              . rw [show inL reached p.1 = false from q3, Bool.false_and, if_neg (by decide)] at hK
                refine cond_false ?_
                exact zAo.back rfl rfl trivial rfl ⟨rfl, rfl, hK⟩
            case base =>
              rintro acc v c ⟨rfl, rfl, hK⟩
              have hK' : acc = ((((zAi hs).filter fun p => inL reached p.1 && !inL reached p.2).map (·.2)).map D.str : List D) := by simpa using hK
              rw [hK']
              have fl := List.length_filter_le (fun p : Str × Str => inL reached p.1 && !inL reached p.2) (zAi hs)
              refine zHb rfl rfl (by rw [zz]; simp only [Qg]; omega) ?_
              rw [show reached.map D.str ++ ((((zAi hs).filter fun p => inL reached p.1 && !inL reached p.2).map (·.2)).map D.str : List D) = (zCt (zAi hs) reached).map .str by unfold zCt; rw [Qt]]
              walk_at "W"
              have q2' : st < 5 := by simpa using q2
              refine zAo.to hN rfl rfl trivial rfl ⟨zCt (zAi hs) reached, st + 1, rfl, rfl, hgo, by omega, by omega, ?_⟩
              unfold zCt
              rw [Qi, Qg]
              omega
          . rw [q2] at hgo
            refine cond_false ?_
            walk_at "W"
            exact ⟨by rw [← hgo]; rfl, rfl⟩
        . rw [show (!(inL reached "e")) = false from q, Bool.false_and] at hgo
          refine cond_false ?_
          walk_at "W"
          exact ⟨by rw [← hgo]; rfl, rfl⟩
end
end
section
noncomputable def zGi (met : List (Str × Str)) : Nat -> Str -> List (Str × Str) -> List (Str × Str)
  | 0, _, way => way
  | f + 1, town, way => bif town == "a" then way else match zIv met (Txt.upper town) with
    | none => way
    | some near => bif decide (way.length < 9) then zGi met f near (way ++ [(near, town)]) else way
noncomputable def zEt : List (Str × Str) -> List (Str × Str) -> Option (List (Str × Str))
  | hs, [] => some hs
  | hs, (near, far) :: r => bif ((zAm hs (Txt.upper near)).map zAv).contains far then zEt (zCa hs near far) r else none
structure yFy where
  sent : List (Int × Int)
  names : List Str
  hs : List (Str × Str)
noncomputable def zF8 : Nat -> List (Str × Str) -> List (Int × Int) -> Option yFy
  | 0, hs, sent => some ⟨sent, [], hs⟩
  | f + 1, hs, sent => bif (zMv hs []).2.isEmpty && decide ((zMv hs []).1.length < 64) then
      bif (zGi (zMv hs []).1 10 "e" []).isEmpty then some ⟨sent, (zMv hs []).1.map fun p => Txt.lower p.1, hs⟩ else
        match zEt hs (zGi (zMv hs []).1 10 "e" []) with
        | none => none
        | some hs' => zF8 f hs' (sent ++ [(((zGi (zMv hs []).1 10 "e" []).length : Int), zE3 hs)])
    else none
noncomputable def zE6 (l : List (Int × Int)) : List D := l.map fun p => .tup [.int p.1, .int p.2]
theorem yN9 : (zAj.all fun x => Txt.lower (Txt.upper x) == Txt.lower x) = true := by decide +kernel
theorem zJu {x : Str} (h : x ∈ zAj) : Txt.lower (Txt.upper x) = Txt.lower x := by simpa using Qf.mp yN9 x h
theorem yEk {hs : List (Str × Str)} {x : Str} (h : x ∈ zAj) : zIv hs (Txt.upper x) = zIv hs x := by unfold zIv; rw [zJu h]
theorem zXk {hs : List (Str × Str)} {x : Str} (h : x ∈ zAj) : zAm hs (Txt.upper x) = zAm hs x := by unfold zAm; rw [zJu h]
theorem zLg {hs : List (Str × Str)} {x v : Str} (h : zIv hs x = some v) : ∃ p ∈ hs, p.2 = v /\ Txt.lower p.1 = Txt.lower x := by
  unfold zIv at h
  split at h
  . rename_i p hp
    cases h
    exact ⟨p, List.mem_of_find?_eq_some hp, rfl, by simpa using List.find?_some hp⟩
  . cases h
theorem zTw {hs : List (Str × Str)} {near far : Str} (hh : zDg hs) (hn : near ∈ zAj) (hf : far ∈ zAj) : zDg (zCa hs near far) := by
  intro p hp
  unfold zCa at hp
  rcases Qs.mp hp with hp | hp
  . rcases Qs.mp hp with hp | hp
    . exact hh p (List.mem_filter.mp hp).1
    . obtain ⟨v, hv, rfl⟩ := Qq.mp hp
      exact ⟨hn, zFx hh (List.mem_of_mem_eraseIdx hv)⟩
  . rw [Qr] at hp
    subst hp
    exact ⟨(zAt hf).memU, zEr hn⟩
theorem zNa {α : Type} (p : α -> Bool) (l : List α) : (l.filter fun x => !p x).length + (l.filter p).length = l.length := by
  induction l with
  | nil => rfl
  | cons a l ih =>
    rw [Qz, Qz, Qh]
    cases p a
    . simp; omega
    . simp; omega
theorem zS7 {hs : List (Str × Str)} {near far : Str} (hn : near ∈ zAj) (hm : far ∈ (zAm hs (Txt.upper near)).map zAv) : (zCa hs near far).length = hs.length := by
  have hi := List.idxOf_lt_length_of_mem hm
  rw [Qg] at hi
  have e : (zAm hs (Txt.upper near)).length = (hs.filter fun p => Txt.lower p.1 == Txt.lower near).length := by
    rw [zXk hn]; unfold zAm; rw [Qg]
  have fs := zNa (fun p : Str × Str => Txt.lower p.1 == Txt.lower near) hs
  unfold zCa
  rw [Qi, Qi, Qg, List.length_eraseIdx_of_lt hi]
  simp only [List.length_singleton]
  omega
section
variable {g : G} {n : Nat} {sc : Sc} {vars : zAe} {cells : List C} {K' : V -> List C -> Prop}
theorem yE8 {α : Type} (l : List α) (x : α) : (seqIndex? (-1) (l ++ [x]).length).bind ((l ++ [x])[·]?) = some x := by
  have e : seqIndex? (-1) (l ++ [x]).length = some l.length := by
    unfold seqIndex?
    simp
    omega
  rw [e]; simp
noncomputable abbrev zF0 (ln : Int) (hs : List (Str × Str)) (sent : List (Int × Int)) (rest : List C) : List C := zCw ln [] [] (zDt 5 hs (.lst (zE6 sent) :: rest))
theorem yJ0 {ln : Int} {hs : List (Str × Str)} {sent : List (Int × Int)} (hh : zDg hs) (hz : hs.length <= 40) (he : (zMv hs []).2 = [])
    (h : zKe (zMv hs []).1 -> K' (.obj 288 8) (zF0 ln hs sent (zDt 8 (zMv hs []).1 []))) : zAb g (n + 7) (.stat 13) [.obj 76 0, .obj 288 5] [] (zF0 ln hs sent []) K' := by
  refine zAb.frameL [0, 1, 2, 3, 4, 5, 6] (zCw ln [] [] (zDt 5 hs [])) (.stat 13) [.obj 76 0, .obj 288 5] rfl rfl rfl (by decide) ?_ rfl rfl ?_
  . intro k hk
    simp at hk
    simp only [Qh]
    omega
  . refine zZ6 (pb := []) hh hz (by decide) (fun _ h => nomatch h) ?_
    intro h1 _ _
    rw [he]
    exact h h1
end
end
section
section
variable {g : G} {n : Nat} {sc : Sc} {vars : zAe} {cells : List C} {K' : V -> List C -> Prop}
theorem zRj (l : List D) : zI1 l [] = l.isEmpty := by cases l <;> rfl
theorem zTe (l : List (Str × Str)) : (zBb l).isEmpty = l.isEmpty := by cases l <;> rfl
theorem zS5 (l : List (Int × Int)) (a b : Int) : zE6 (l ++ [(a, b)]) = zE6 l ++ [.tup [.int a, .int b]] := by simp [zE6]
noncomputable def yLm (s : yFy) : D := .tup [.lst (zE6 s.sent), .lst (zCs (s.names.map .str))]
theorem zVl {ln : Int} {hs : List (Str × Str)} {R : yFy} (hR : zF8 14 hs [] = some R) (hh : zDg hs) (hz : hs.length <= 40) (h : zDg R.hs -> R.hs.length <= 40 -> K' (.d (yLm R)) (zCw ln [] [] (zDt 5 R.hs []))) :
    zAb g (n + 8) (.stat 16) [.obj 76 0, .obj 288 5] [] (zCw ln [] [] (zDt 5 hs [])) K' := by
  have zz : sizeLine = 16777216 := sizeLine_eq
  refine zAb.trim ?_
  refine zAb.mono (K' := fun u c => u = .d (yLm R) /\ zDg R.hs /\ R.hs.length <= 40 /\ ∃ r, c = zCw ln [] [] (zDt 5 R.hs r)) ?_ (by
    rintro u c ⟨rfl, h1, h2, r, rfl⟩
    exact ⟨rfl, rfl, h h1 h2⟩)
  clear h
  refine zBg (a := 326) (st := zAq "_law_sent") (names := ["lexer", "net"]) (Qk (show zA8[8]? = some _ from rfl)) rfl (by kernel_rfl) ?_ rfl (by kernel_rfl) ?_
  . intro fd hp hd vals hv
    obtain ⟨a, b, rfl⟩ := zYp hv
    unfold bindArgs
    rw [hp, hd]
    kernel_rfl
  . refine k_ss ?_
    walk_at "W"
    refine zFm rfl ?_
    refine TEs_nil ?_
    refine ⟨Qx _, [], _, rfl, ?_⟩
    walk_at "W"
    refine zDu (fun _ _ => rfl) rfl ?_
    walk_at "W"
    refine zB5 ?_
    refine ⟨_, rfl, PySem.small_one (by decide) (by decide) (by decide) (by decide), ?_⟩
    refine zBv (fun k : Nat => D.int (0 + (k : Int))) (fun (l : List Nat) (v : zAe) (c : List C) => v = ([("lexer", V.obj 76 0), ("net", .obj 288 5), ("sent", .loc 7)] : zAe) /\ E2 fun hs sent => A5 (c = zF0 ln hs sent []) (zF8 l.length hs sent = some R) (zDg hs) (hs.length <= 40) (sent.length + l.length = 14)) ?base ?step (List.range 14) _ _ ⟨rfl, hs, [], rfl, hR, hh, hz, by simp⟩
    case base =>
      rintro v c ⟨rfl, hs, sent, rfl, hgo, h1, h2, h3⟩
      unfold zF8 at hgo
      cases hgo
      walk_at "W"
      walk_at "f"
      refine TEs_nil ?_
      refine ⟨Qx _, [], _, rfl, ?_⟩
      walk_at "W"
      refine ⟨Qe rfl, _, _, rfl, ?_⟩
      exact ⟨rfl, h1, h2, _, rfl⟩
    case step =>
      rintro k r v c KN hN ⟨rfl, hs, sent, rfl, hgo, h1, h2, h3⟩
      rw [Qh] at hgo h3
      unfold zF8 at hgo
      generalize hM : zMv hs [] = M at hgo
      cases q0 : M.2.isEmpty && decide (M.1.length < 64)
      . rw [q0] at hgo; cases hgo
      rw [q0] at hgo
      simp only [Bool.and_eq_true, decide_eq_true_eq, List.isEmpty_iff] at q0
      rw [Bool.cond_true] at hgo
      refine TA_name rfl ?_
      refine k_ss ?_
      walk_at "W"
      refine yJ0 h1 h2 (by rw [hM]; exact q0.1) ?_
      rw [hM]
      intro hmet
      walk_at "W"
      refine zFm rfl ?_
      refine TEs_nil ?_
      refine ⟨Qx _, [], _, rfl, ?_⟩
      walk_at "W"
      generalize hW : zGi M.1 10 "e" [] = W at hgo
      refine TS.via (fun v c => ∃ town, A4 (v = ([("lexer", V.obj 76 0), ("net", .obj 288 5), ("sent", .loc 7), ("turn", .d (.int (0 + (k : Int)))), ("met", .obj 288 8), ("town", .d (.str town)), ("way", .loc 10)] : zAe)) (c = zF0 ln hs sent (zDt 8 M.1 [.lst (zBb W)])) ((∀ p ∈ W, p.1 ∈ zAj /\ p.2 ∈ zAj)) (W.length <= 9)) (zR3 10 ?_) ?_
      . refine zJb (fun (f : Nat) (v : zAe) (c : List C) => E2 fun town way => A7 (v = ([("lexer", V.obj 76 0), ("net", .obj 288 5), ("sent", .loc 7), ("turn", .d (.int (0 + (k : Int)))), ("met", .obj 288 8), ("town", .d (.str town)), ("way", .loc 10)] : zAe)) (c = zF0 ln hs sent (zDt 8 M.1 [.lst (zBb way)])) (zGi M.1 f town way = W) (town ∈ zAj) ((∀ p ∈ way, p.1 ∈ zAj /\ p.2 ∈ zAj)) (f + way.length = 10) (0 < f)) ?b1 ?s1 10 _ _ ⟨"e", [], rfl, rfl, hW, by decide, (fun _ h => nomatch h), rfl, by decide⟩
        case b1 => rintro v c ⟨_, _, _, _, _, _, _, _, h⟩; omega
        case s1 =>
          rintro f v c KN hN ⟨town, way, rfl, rfl, hgo2, ht, hw, hf, -⟩
          have nt := zAt ht
          refine TB_bool ?_
          refine k_and ?_
          walk_at "W"
          unfold zGi at hgo2
          refine zAg (fun q => ?_) (fun q => ?_)
          . have q' : (town == (Qd "a")) = false := by simpa using q
            rw [q', Bool.cond_false] at hgo2
            refine k_and ?_
            walk_at "W"
            refine zCe nt.up ?_
            walk_at "W"
            refine zD2 (i := 8) (j := 9) (ds := [.str (Txt.upper town)]) (hs' := M.1) (r := yB9 (zIv M.1 (Txt.upper town))) rfl rfl (by decide) (fun K2 h2 => yNy hmet.hdr nt.memU h2) (c' := zF0 ln hs sent (zDt 8 M.1 [.lst (zBb way)])) rfl ?_
            walk_at "W"
            induction e : zIv M.1 (Txt.upper town) with
            | none =>
              rw [e] at hgo2
              refine cond_false ?_
              refine cond_false ?_
              have hgo3 : way = W := hgo2
              exact ⟨town, rfl, by rw [hgo3], by rw [← hgo3]; exact hw, by rw [← hgo3]; omega⟩
            | some near =>
              rw [e] at hgo2
              have hgo3 : (bif decide (way.length < 9) then zGi M.1 f near (way ++ [(near, town)]) else way) = W := hgo2
              refine cond_true ?_
              refine k_and ?_
              walk_at "W"
              refine zBe (l := zBb way) rfl (by simp [zBb]; omega) ?_
              walk_at "W"
              have hwl : (zBb way).length = way.length := by simp [zBb]
              refine zAg (fun q2 => ?_) (fun q2 => ?_)
              . have q2' : way.length < 9 := by rw [hwl] at q2; have := of_decide_eq_true q2; omega
                rw [show decide (way.length < 9) = true by simpa using q2', Bool.cond_true] at hgo3
                have e2 : zIv M.1 town = some near := by rw [← yEk ht]; exact e
                obtain ⟨p, hp, hpn, _⟩ := zLg e2
                have hnear : near ∈ zAj := by rw [← hpn]; exact (hmet p hp).2
                refine TBall_nil ?_
                refine cond_true ?_
                refine k_ss ?_
                walk_at "W"
                refine zD2 (i := 8) (j := 9) (ds := [.str town]) (hs' := M.1) (r := yB9 (zIv M.1 town)) rfl rfl (by decide) (fun K2 h2 => yNy hmet.hdr ht h2) (c' := zF0 ln hs sent (zDt 8 M.1 [.lst (zBb way)])) rfl ?_
                rw [e2]
                walk_at "W"
                refine ⟨Qe rfl, _, _, zAz (zAz zA7), ?_⟩
                walk_at "W"
                refine zA9 (i := 10) rfl (by rw [hwl]; omega) ?_
                rw [show (zF0 ln hs sent (zDt 8 M.1 [.lst (zBb way)])).set 10 (.lst (zBb way ++ [.tup [yB9 (some near), .str town]])) = zF0 ln hs sent (zDt 8 M.1 [.lst (zBb (way ++ [(near, town)]))]) by rw [← zFr]; rfl]
                walk_at "W"
                refine zQm ?_
                walk_at "W"
                refine zKr ?_
                refine zBq (l := zBb (way ++ [(near, town)])) (d := .tup [.str near, .str town]) rfl ⟨by decide, by decide⟩ (by rw [← zFr]; exact yE8 _ _) ?_
                walk_at "W"
                refine zAo.to hN rfl rfl trivial rfl ⟨near, way ++ [(near, town)], rfl, rfl, hgo3, hnear, ?_, by simp; omega, by omega⟩
                intro p hp
                rcases Qs.mp hp with hp | hp
                . exact hw p hp
                . rw [Qr] at hp; subst hp; exact ⟨hnear, ht⟩
              . have q2' : ¬ way.length < 9 := by rw [hwl] at q2; have := of_decide_eq_false q2; omega
                rw [show decide (way.length < 9) = false by simpa using q2', Bool.cond_false] at hgo3
                refine cond_false ?_
                exact ⟨town, rfl, by rw [hgo3], by rw [← hgo3]; exact hw, by rw [← hgo3]; omega⟩
          . have q' : (town == (Qd "a")) = true := by simpa using q
            rw [q', Bool.cond_true] at hgo2
            refine cond_false ?_
            exact ⟨town, rfl, by rw [hgo2], by rw [← hgo2]; exact hw, by rw [← hgo2]; omega⟩
      rintro v c ⟨town, rfl, rfl, hw, hwl⟩
      have hWl : (zBb W).length = W.length := by simp [zBb]
      refine k_ss ?_
      walk_at "W"
      walk_at "f"
      refine TEs_nil ?_
      refine ⟨Qx _, [], _, rfl, ?_⟩
      refine zJ6 (l := zBb W) (m := []) rfl rfl ?_ ?_
      . induction W using List.casesOn with
        | nil => exact .inr rfl
        | cons => exact .inl (by simp [zBb])
      rw [zRj, zTe]
      refine q_bool ?_
      refine zAg (fun q => ?_) (fun q => ?_)
      . rw [q] at hgo
        have hgo2 : some (⟨sent, M.1.map fun p => Txt.lower p.1, hs⟩ : yFy) = some R := hgo
        cases hgo2
        walk_at "W"
        refine zBa (fun _ _ => rfl) rfl rfl ?_
        walk_at "W"
        refine zD2 (i := 8) (j := 9) (ds := []) (hs' := M.1) (r := .lst (M.1.map fun p => .str p.1)) rfl rfl (by decide) (fun K2 h2 => yPw (by omega) h2) (c' := zF0 ln hs sent (zDt 8 M.1 [.lst (zBb W)])) rfl ?_
        refine ⟨_, rfl, trivial, by rw [zz, Qg]; omega, ?_⟩
        refine zAp (fun p : Str × Str => D.str p.1) (fun (acc : List D) (l : List (Str × Str)) (v : zAe) (c : List C) => A4 (v = ([] : zAe)) (c = zF0 ln hs sent (zDt 8 M.1 [.lst (zBb W)])) ((∀ p ∈ l, p.1 ∈ zAj)) (acc ++ (l.map fun p => Txt.lower p.1).map D.str = (M.1.map fun p => Txt.lower p.1).map D.str)) ?b2 ?s2 M.1 [] _ _ ⟨rfl, rfl, fun p hp => (hmet p hp).1, rfl⟩
        case s2 =>
          rintro acc p r v c ⟨rfl, rfl, hl, hK⟩
          have np := zAt (hl p (.head _))
          refine TA_name rfl ?_
          refine zBs ?_
          refine cond_true ?_
          walk_at "W"
          refine zBx np.lo ?_
          refine ⟨_, _, rfl, zAo.back rfl rfl trivial rfl ⟨rfl, rfl, fun q hq => hl q (.tail _ hq), ?_⟩⟩
          rw [← hK, Qj]; rfl
        case b2 =>
          rintro acc v c ⟨rfl, rfl, -, hK⟩
          have hK' : acc = (M.1.map fun p => Txt.lower p.1).map D.str := by simpa using hK
          rw [hK']
          walk_at "W"
          refine zCo rfl (by rw [Qg, Qg]; exact q0.2) (.inr (.inl fun d hd => by obtain ⟨x, _, rfl⟩ := Qq.mp hd; exact ⟨x, rfl⟩)) ?_
          walk_at "W"
          refine ⟨Qe rfl, _, _, rfl, ?_⟩
          exact ⟨rfl, h1, h2, _, rfl⟩
      . rw [q] at hgo
        have hgo2 : (match zEt hs W with
          | none => none
          | some hs' => zF8 r.length hs' (sent ++ [((W.length : Int), zE3 hs)])) = some R := hgo
        clear hgo
        induction eT : zEt hs W with
        | none => rw [eT] at hgo2; cases hgo2
        | some hs2 =>
          rw [eT] at hgo2
          walk_at "W"
          refine zBe (l := zBb W) rfl (by omega) ?_
          rw [hWl]
          walk_at "W"
          refine zD2 (i := 5) (j := 6) (ds := []) (hs' := hs) (r := .int (zE3 hs)) rfl rfl (by decide) (fun K2 h2' => zSk h1 h2 h2') (c' := zF0 ln hs sent (zDt 8 M.1 [.lst (zBb W)])) rfl ?_
          walk_at "W"
          refine ⟨Qe rfl, _, _, zAz (zAz zA7), ?_⟩
          walk_at "W"
          refine zA9 (i := 7) rfl (by simp [zE6]; omega) ?_
          rw [show (zF0 ln hs sent (zDt 8 M.1 [.lst (zBb W)])).set 7 (.lst (zE6 sent ++ [.tup [.int (W.length : Int), .int (zE3 hs)]])) = zF0 ln hs (sent ++ [((W.length : Int), zE3 hs)]) (zDt 8 M.1 [.lst (zBb W)]) by
            rw [← zS5]; rfl]
          walk_at "W"
          refine zDu (fun _ _ => rfl) rfl ?_
          walk_at "W"
          refine ⟨_, rfl, trivial, ?_⟩
          refine zBv (fun p : Str × Str => D.tup [.str p.1, .str p.2]) (fun (l : List (Str × Str)) (v : zAe) (c : List C) => v = ([("lexer", V.obj 76 0), ("net", .obj 288 5), ("sent", .loc 7), ("turn", .d (.int (0 + (k : Int)))), ("met", .obj 288 8), ("town", .d (.str town)), ("way", .loc 10)] : zAe) /\
            ∃ hs1, A5 (c = zF0 ln hs1 (sent ++ [((W.length : Int), zE3 hs)]) (zDt 8 M.1 [.lst (zBb W)])) (zEt hs1 l = some hs2) (zDg hs1) (hs1.length <= 40) ((∀ p ∈ l, p.1 ∈ zAj /\ p.2 ∈ zAj))) ?b3 ?s3 W _ _ ⟨rfl, hs, rfl, eT, h1, h2, hw⟩
          case b3 =>
            rintro v c ⟨rfl, hs1, rfl, ht, g1, g2, -⟩
            unfold zEt at ht
            cases ht
            walk_at "W"
            exact zAo.to hN rfl rfl trivial rfl ⟨rfl, hs2, _, rfl, hgo2, g1, g2, by rw [Qi]; show sent.length + 1 + _ = 14; omega⟩
          case s3 =>
            rintro p l v c KN hN ⟨rfl, hs1, rfl, ht, g1, g2, g3⟩
            obtain ⟨near, far⟩ := p
            have gp := g3 _ (.head _)
            unfold zEt at ht
            cases ec : ((zAm hs1 (Txt.upper near)).map zAv).contains far
            . rw [ec] at ht; cases ht
            rw [ec, Bool.cond_true] at ht
            have hm : far ∈ (zAm hs1 (Txt.upper near)).map zAv := by simpa using ec
            refine zBt rfl ?_
            refine k_ss ?_
            walk_at "W"
            refine zD2 (i := 5) (j := 6) (ds := [.str near, .str far]) (hs' := zCa hs1 near far) (r := .none) rfl rfl (by decide) (fun K2 h2' => yD3 g1 gp.1 gp.2 (by omega) hm h2') (c' := zF0 ln (zCa hs1 near far) (sent ++ [((W.length : Int), zE3 hs)]) (zDt 8 M.1 [.lst (zBb W)])) rfl ?_
            walk_at "W"
            exact zAo.to hN rfl rfl rfl rfl ⟨rfl, _, rfl, ht, zTw g1 gp.1 gp.2, by rw [zS7 gp.1 hm]; exact g2, fun q hq => g3 q (.tail _ hq)⟩
end
end
section
noncomputable def zBp : List Stmt := zA5 (zAq "law")
noncomputable def zEu : Sc := zHi (zAn (zAq "law"))
noncomputable def zTi (l : List Int) (lo hi st : Option Int) : List Int :=
  (sliceRange (sliceBounds lo hi st l.length).1 (sliceBounds lo hi st l.length).2.1 (sliceBounds lo hi st l.length).2.2).filterMap (l[·]?)
theorem zNq (l : List Int) (lo hi st : Option Int) : zO9 (l.map .int) lo hi st = (zTi l lo hi st).map .int := by
  unfold zO9 zTi
  rw [Qg, List.map_filterMap]
  congr 1
  funext i
  simp
noncomputable def zHc (es : List Ent) : List D := es.map Ent.D
section
variable {g : G} {n : Nat} {sc : Sc} {vars : zAe} {cells : List C} {K' : V -> List C -> Prop}
theorem zDw {i : Nat} {m k : Nat} {r : List Nat} (h : k :: r = (List.range m).drop i) : k = i /\ r = (List.range m).drop (i + 1) /\ i < m := by
  have hlt : i < m := by
    have e := congrArg List.length h
    simp at e; omega
  rw [List.drop_eq_getElem_cons (by simpa using hlt)] at h
  simp only [List.getElem_range, List.cons.injEq] at h
  exact ⟨h.1, h.2, hlt⟩
theorem zGu {i m : Nat} (h : [] = (List.range m).drop i) (hi : i <= m) : i = m := by
  have := List.drop_eq_nil_iff.mp h.symm
  rw [List.length_range] at this; omega
theorem yQu {is : List Int} {tb : Obj} {Kn Kc : zAe -> List C -> Prop} {Kr : V -> List C -> Prop} (hz : is.length <= 100000)
    (h : ∀ xs : List Int, xs.length = 6 -> (∀ x ∈ xs, 0 <= x /\ x < 1000000000) -> ∀ s o, TSs g (n + 2) zEu (zBp.drop 3) [("script", .d (.lst (is.map .int))), ("some", .d s), ("own", .d o), ("entries", .d (.lst (zHc (xs.map zAd))))] [.raw 0 tb] Kn Kr Kc) :
    TSs g (n + 2) zEu zBp [("script", .d (.lst (is.map .int)))] [.raw 0 tb] Kn Kr Kc := by
  have zz : sizeLine = 16777216 := sizeLine_eq
  refine k_ss ?_
  refine k_assign rfl rfl rfl rfl ?_
  refine zLe ?_
  walk_at "W"
  refine TE_const_int ?_
  refine ⟨_, none, some 63, none, rfl, by rw [zz, Qg]; omega, rfl, rfl, rfl, by simp, ?_⟩
  rw [zNq]
  generalize hjs : zTi is none (some 63) none = js
  have hjl : js.length <= 100000 := by
    rw [← hjs]; unfold zTi
    refine Nat.le_trans (List.length_filterMap_le _ _) ?_
    show (sliceRange 0 (max 0 (min 63 (is.length : Int))) 1).length <= _
    unfold sliceRange
    simp only [Qg, List.length_range]
    split <;> split <;> omega
  walk_at "W"
  walk_at "f"
  walk_at "W"
  refine ⟨Qe rfl, _, _, rfl, ?_⟩
  walk_at "W"
  refine zBa (fun _ _ => rfl) rfl rfl ?_
  walk_at "W"
  refine zB5 ?_
  refine ⟨_, rfl, PySem.small_one (by decide) (by decide) (by decide) (by decide), by rw [zz]; decide, ?_⟩
  refine zAp (fun k : Nat => D.int (0 + (k : Int))) (fun (acc : List D) (l : List Nat) (v : zAe) (c : List C) => A3 (v = ([("own", V.d (.lst [.int 93663238, .int 426120997, .int 614592208, .int 183544535, .int 620239867, .int 571626348])), ("some", .d (.lst (js.map .int)))] : zAe)) (c = [.raw 0 tb]) (∃ xs : List Int, A4 (acc = zHc (xs.map zAd)) (xs.length <= 6) (l = (List.range 6).drop xs.length) (∀ x ∈ xs, 0 <= x /\ x < 1000000000))) ?base ?step (List.range 6) [] _ _ ⟨rfl, rfl, [], rfl, by decide, rfl, fun _ h => nomatch h⟩
  case step =>
    rintro acc k r v c ⟨rfl, rfl, xs, rfl, hx, hl, hb⟩
    obtain ⟨rfl, rfl, hlt⟩ := zDw hl
    refine TA_name rfl ?_
    refine zBs ?_
    refine cond_true ?_
    walk_at "W"
    refine zDn (ns := [93663238, 426120997, 614592208, 183544535, 620239867, 571626348]) (k := 0 + (xs.length : Int)) rfl (by omega) (by simp; omega) (by decide) ?_
    walk_at "W"
    refine zLe ?_
    walk_at "W"
    refine yD7 rfl rfl rfl ?_
    refine TE_const_int ?_
    refine ⟨_, some (0 + (xs.length : Int)), none, some 6, rfl, by rw [zz, Qg]; omega, rfl, rfl, rfl, by simp, ?_⟩
    rw [zNq]
    walk_at "W"
    refine yAg rfl ?_
    walk_at "W"
    have bd := zBm (zKd [93663238, 426120997, 614592208, 183544535, 620239867, 571626348] (0 + (xs.length : Int)) + (zTi js (some (0 + (xs.length : Int))) none (some 6)).sum) (k := 1000000000) (by decide)
    generalize (zKd [93663238, 426120997, 614592208, 183544535, 620239867, 571626348] (0 + (xs.length : Int)) + (zTi js (some (0 + (xs.length : Int))) none (some 6)).sum).fmod 1000000000 = x at bd ⊢
    refine zAb.frameL [] [] (.stat 11) [.d (.int x)] rfl rfl rfl List.nodup_nil (fun _ h => nomatch h) rfl rfl ?_
    refine yI7 bd.1 bd.2 ?_
    refine ⟨_, _, rfl, zAo.back rfl rfl trivial rfl ⟨rfl, rfl, xs ++ [x], ?_, by simp; omega, by simp, ?_⟩⟩
    . simp [zHc]
    . intro y hy
      rcases Qs.mp hy with hy | hy
      . exact hb y hy
      . rw [Qr] at hy; subst hy; exact bd
  case base =>
    rintro acc v c ⟨rfl, rfl, xs, rfl, hx, hl, hb⟩
    refine TA_name rfl ?_
    exact h xs (zGu hl hx) hb _ _
end
end
section
noncomputable def zBu (es : List Ent) (k : Nat) : Ent := es.getD k (zAd 0)
noncomputable def yCv : Str := "\n\t \r\n "
noncomputable def zGf (k : Nat) (e : Ent) : Str := e.body ++ (⟨#[yCv.cps.getD k 0]⟩ : Str)
noncomputable def zD9 (es : List Ent) : Str := "\r" ++ zLi ((List.range 6).map fun k => zGf k (zBu es k))
noncomputable def zHq : Nat -> List Nat -> Int -> List Str × List Nat × Int
  | 0, l, ln => ([], l, ln)
  | k + 1, l, ln => ((zKc (l.length + 1) l ln).1 :: (zHq k (zKc (l.length + 1) l ln).2.1 (zKc (l.length + 1) l ln).2.2).1, (zHq k (zKc (l.length + 1) l ln).2.1 (zKc (l.length + 1) l ln).2.2).2)
noncomputable def yQp (ln : Int) : List (Str × V) := [("lineno", .d (.int ln)), ("instream", .obj 76 2), ("whitespace", .d (.str wsT)), ("pushback", .loc 5)]
noncomputable abbrev zVp (tb : Obj) (ln : Int) (l : List Nat) (rest : List C) : List C := .raw 0 tb :: .lst (sg l) :: .dict yPn :: .lst [] :: .dict (yQp ln) :: .lst [] :: rest
theorem zLy : ∀ (f : Nat) (l : List Nat) (ln : Int) (tok : Str), (zUd f l ln tok).2.1.length <= l.length
  | 0, l, ln, tok => Qo _
  | f + 1, [], ln, tok => Qo _
  | f + 1, c :: r, ln, tok => by
    unfold zUd
    cases isQ c
    . cases isB c
      . have := zLy f r (zC3 ln [c]) (tok ++ ⟨#[c]⟩)
        rw [Qh]; exact Nat.le_succ_of_le this
      . have := zLy f r.tail (zC3 (zC3 ln [c]) r) (tok ++ zGj r)
        rw [List.length_tail] at this
        rw [Qh]; exact Nat.le_trans this (by omega)
    . rw [Qh]; exact Nat.le_succ _
theorem zHh : ∀ (f : Nat) (l : List Nat) (ln : Int) (tok : Str), (zGo f l ln tok).2.1.length <= l.length
  | 0, l, ln, tok => Qo _
  | f + 1, [], ln, tok => Qo _
  | f + 1, c :: r, ln, tok => by
    unfold zGo
    cases isW c
    . cases isB c
      . have := zHh f r (zC3 ln [c]) (tok ++ ⟨#[c]⟩)
        rw [Qh]; exact Nat.le_succ_of_le this
      . have := zHh f r.tail (zC3 (zC3 ln [c]) r) (tok ++ zGj r)
        rw [List.length_tail] at this
        rw [Qh]; exact Nat.le_trans this (by omega)
    . rw [Qh]; exact Nat.le_succ _
theorem zQq : ∀ (f : Nat) (l : List Nat) (ln : Int), (zKc f l ln).2.1.length <= l.length
  | 0, l, ln => Qo _
  | f + 1, [], ln => Qo _
  | f + 1, c :: r, ln => by
    unfold zKc
    rw [Qh]
    cases isW c
    . cases isQ c
      . cases isB c
        . exact Nat.le_succ_of_le (zHh (f + 1) r (zC3 ln [c]) _)
        . have := zHh (f + 1) r.tail (zC3 (zC3 ln [c]) r) ("" ++ zGj r)
          rw [List.length_tail] at this
          exact Nat.le_trans this (by omega)
      . exact Nat.le_succ_of_le (zLy (f + 1) r (zC3 ln [c]) _)
    . exact Nat.le_succ_of_le (zQq f r (zC3 ln [c]))
theorem zJz : ∀ (l : List Str), zI1 (l.map .str) (l.map .str) = true := by
  intro l
  induction l with
  | nil =>
    exact rfl
  | cons x l ih =>
    show (x == x && zI1 (l.map .str) (l.map .str)) = true
    rw [ih]; simp
theorem zFv : ∀ (l m : List Str), l.length = m.length -> zC0 8 (l.map .str) (m.map .str) = true
  | [], [], _ => rfl
  | x :: l, y :: m, h => zFv l m (by simpa using h)
section
variable {g : G} {n : Nat} {sc : Sc} {vars : zAe} {cells : List C} {K' : V -> List C -> Prop}
theorem zS3 {tb : Obj} {t : Nat} {ds : List D} {ln ln' : Int} {l l' : List Nat} {rest : List C} {r : D}
    (H : ∀ K2 : V -> List C -> Prop, K2 (.d r) (zCw ln' [] l' []) -> zAb g n (.stat t) (.obj 76 0 :: ds.map .d) [] (zCw ln [] l []) K2)
    (h : K' (.d r) (zVp tb ln' l' rest)) : zAb g n (.stat t) (.obj 76 4 :: ds.map .d) [] (zVp tb ln l rest) K' := by
  refine zAb.frameL [4, 2, 5, 3, 1] (zCw ln [] l []) (.stat t) (.obj 76 0 :: ds.map .d) rfl ?_ ?_ ?_ ?_ ?_ rfl ?_
  . rw [List.map_cons, List.map_map]
    congr 1
  . exact zFt ds
  . decide
  . exact zXs (m := 6) rfl (Nat.le_add_left _ _)
  . rfl
  . refine H _ ?_
    rw [show zCv (zVp tb ln l rest) [4, 2, 5, 3, 1] (zCw ln' [] l' []) = zVp tb ln' l' rest from List.append_nil _]
    exact h
theorem zR7 {a : V} {es : List Ent} {k : Int} (hl : zBj a cells = some (zHc es)) (h0 : 0 <= k) (h1 : k < es.length) (h2 : es.length < 1000)
    (h : K' (.d (.tup [.str (zBu es k.toNat).word, (zBu es k.toNat).told, .str (zBu es k.toNat).body])) cells) : zHu g n a (.d (.int k)) cells K' := by
  refine zBq hl ⟨by omega, by omega⟩ ?_ h
  unfold zHc
  rw [Qg, zS6 h0 h1, Option.bind_some]
  exact zI4 Ent.D es _ (zAd 0) (by omega)
noncomputable abbrev yJ2 (sc s o : D) (es : List Ent) : zAe := [("script", .d sc), ("some", .d s), ("own", .d o), ("entries", .d (.lst (zHc es))), ("lexer", .obj 76 4), ("words", .d (.lst ((es.map Ent.word ++ [Qd ""]).map .str)))]
noncomputable abbrev yQa (sc s o : D) (es : List Ent) : zAe := [("script", .d sc), ("some", .d s), ("own", .d o), ("entries", .d (.lst (zHc es)))]
theorem yQo {es : List Ent} {scr s o : D} {Kn Kc : zAe -> List C -> Prop} {Kr : V -> List C -> Prop} (he : es.length = 6) (hbd : ∀ k, (zBu es k).body.length <= 40)
    (htok : zHq 7 (zD9 es).cps.toList 1 = (es.map Ent.word ++ [Qd ""], [], 3))
    (h : ∀ ps, TSs g (n + 6) zEu (zBp.drop 6) (yJ2 scr s o es) (zVp (tabObj ps) 3 [] []) Kn Kr Kc) :
    TSs g (n + 6) zEu (zBp.drop 3) (yQa scr s o es) [.raw 0 (tabObj #[])] Kn Kr Kc := by
  have zz : sizeLine = 16777216 := sizeLine_eq
  refine k_ss ?_
  refine k_assign rfl rfl rfl rfl ?_
  walk_at "W"
  refine zBa (fun _ _ => rfl) rfl rfl ?_
  walk_at "W"
  refine zB5 ?_
  refine ⟨_, rfl, PySem.small_one (by decide) (by decide) (by decide) (by decide), by rw [zz]; decide, ?_⟩
  refine zAp (fun k : Nat => D.int (0 + (k : Int))) (fun (acc : List D) (l : List Nat) (v : zAe) (c : List C) => A3 (v = ([("entries", .d (.lst (zHc es)))] : zAe)) (c = [.raw 0 (tabObj #[])]) (∃ i, A3 (i <= 6) (l = (List.range 6).drop i) (acc = ((List.range i).map fun k => zGf k (zBu es k)).map .str))) ?base ?step (List.range 6) [] _ _ ⟨rfl, rfl, 0, by decide, rfl, rfl⟩
  case step =>
    rintro acc k r v c ⟨rfl, rfl, i, hi, hl, rfl⟩
    obtain ⟨rfl, rfl, hlt⟩ := zDw hl
    refine TA_name rfl ?_
    refine zBs ?_
    refine cond_true ?_
    walk_at "W"
    refine zR7 (es := es) (k := 0 + (k : Int)) rfl (by omega) (by omega) (by omega) ?_
    rw [show (0 + (k : Int)).toNat = k by omega]
    walk_at "W"
    refine zC1 (x := yCv) (k := 0 + (k : Int)) (c := yCv.cps.getD k 0) ⟨by omega, by omega⟩ ?_ ?_
    . rw [show yCv.length = 6 from rfl, zS6 (by omega) (by omega), Option.bind_some, show (0 + (k : Int)).toNat = k by omega]
      rcases k with _ | _ | _ | _ | _ | _ | k
      all_goals first | rfl | omega
    have hb := hbd k
    refine zA4 (by rw [zz]; show _ + 1 <= _; omega) ?_
    refine ⟨_, _, rfl, zAo.back rfl rfl trivial rfl ⟨rfl, rfl, k + 1, hlt, rfl, ?_⟩⟩
    rw [List.range_succ, Qt, Qt]; rfl
  case base =>
    rintro acc v c ⟨rfl, rfl, i, hi, hl, rfl⟩
    obtain rfl := zGu hl hi
    have pl : ∀ x ∈ (List.range 6).map fun k => zGf k (zBu es k), x.length <= 41 := by
      intro x hx
      obtain ⟨k, _, rfl⟩ := Qq.mp hx
      unfold zGf
      rw [zBi]
      have hb := hbd k
      show _ + 1 <= _
      omega
    walk_at "W"
    refine zD7 rfl (zJ9 pl (by simp)) ?_
    rw [zIx]
    have cl := zL3 pl
    simp only [Qg, List.length_range] at cl
    refine zA4 (by rw [zz]; show 1 + _ <= _; omega) ?_
    have tl : (zD9 es).cps.size <= 1000 := by
      show (zD9 es).length <= 1000
      unfold zD9; rw [zBi]; show 1 + _ <= _; omega
    walk_at "W"
    refine zTh (text := zD9 es) (by omega) (fun ps => ?_)
    generalize htb : tabObj ps = tb
    show TA _ _ _ _ _ _ (zVp tb 1 (zD9 es).cps.toList []) _
    walk_at "W"
    refine zDq rfl rfl (fun _ _ => rfl) rfl rfl ?_
    walk_at "W"
    refine zB5 ?_
    refine ⟨_, rfl, PySem.small_one (by decide) (by decide) (by decide) (by decide), by rw [zz]; decide, ?_⟩
    have tl2 : (zD9 es).cps.toList.length <= 1000 := by rw [Array.length_toList]; exact tl
    refine zAp (fun k : Nat => D.int (0 + (k : Int))) (fun (acc : List D) (l : List Nat) (v : zAe) (c : List C) => v = ([("lexer", .obj 76 4)] : zAe) /\ E3 fun sgn ln tk => A4 (c = zVp tb ln sgn []) (sgn.length <= 1000) (acc = tk.map .str) ((tk ++ (zHq l.length sgn ln).1, (zHq l.length sgn ln).2) = (es.map Ent.word ++ [Qd ""], [], 3))) ?b2 ?s2 (List.range 7) [] _ _ ⟨rfl, (zD9 es).cps.toList, 1, [], rfl, tl2, rfl, htok⟩
    case s2 =>
      rintro acc k r v c ⟨rfl, sgn, ln, tk, rfl, hs, rfl, hK⟩
      refine TA_name rfl ?_
      refine zBs ?_
      refine cond_true ?_
      walk_at "W"
      refine zS3 (ds := []) (r := .str (zKc (sgn.length + 1) sgn ln).1) (fun K2 h2 => zKv (by omega) h2) ?_
      have ol := zQq (sgn.length + 1) sgn ln
      refine ⟨_, _, rfl, zAo.back rfl rfl trivial rfl ⟨rfl, _, _, tk ++ [(zKc (sgn.length + 1) sgn ln).1], rfl, by omega, by simp, ?_⟩⟩
      rw [← hK, Qj]; rfl
    case b2 =>
      rintro acc v c ⟨rfl, sgn, ln, tk, rfl, hs, rfl, hK⟩
      have hK' : (tk, sgn, ln) = (es.map Ent.word ++ [Qd ""], [], 3) := by
        have e : (tk ++ (zHq 0 sgn ln).1, (zHq 0 sgn ln).2) = (tk, sgn, ln) := by unfold zHq; simp
        rw [← e]; exact hK
      cases hK'
      refine TA_name rfl ?_
      refine k_ss ?_
      refine k_if ?_
      refine TB_bool ?_
      refine k_or ?_
      walk_at "W"
      refine zBa (fun _ _ => rfl) rfl rfl ?_
      walk_at "W"
      refine ⟨_, rfl, trivial, by rw [zz]; unfold zHc; rw [Qg, he]; decide, ?_⟩
      refine zAp Ent.D (fun (acc : List D) (l : List Ent) (v : zAe) (c : List C) => v = ([] : zAe) /\ c = zVp tb 3 [] [] /\ acc ++ (l.map Ent.word).map .str = (es.map Ent.word).map D.str) ?b3 ?s3 es [] _ _ ⟨rfl, rfl, rfl⟩
      case s3 =>
        rintro acc e r v c ⟨rfl, rfl, hK⟩
        refine TA_name rfl ?_
        refine zBs ?_
        refine cond_true ?_
        refine k_sub rfl ?_
        walk_at "W"
        refine zMd (l := [.str e.word, e.told, .str e.body]) (d := .str e.word) ⟨by decide, by decide⟩ rfl ?_
        refine ⟨_, _, rfl, zAo.back rfl rfl trivial rfl ⟨rfl, rfl, ?_⟩⟩
        rw [← hK, Qj]; rfl
      case b3 =>
        rintro acc v c ⟨rfl, rfl, hK⟩
        have hK' : acc = (es.map Ent.word).map D.str := by simpa using hK
        rw [hK']
        walk_at "f"
        walk_at "W"
        refine ⟨Qe rfl, _, _, zAz zA7, ?_⟩
        refine zHb rfl rfl (by rw [zz]; simp [he]) ?_
        have e1 : (es.map Ent.word).map D.str ++ [D.str (Qd "")] = (es.map Ent.word ++ [Qd ""]).map .str := by simp
        rw [e1]
        refine zDy rfl rfl (.inr (zFv _ _ rfl)) ?_
        rw [zJz]
        refine q_bool ?_
        refine cond_false ?_
        refine k_or ?_
        walk_at "W"
        refine cond_false ?_
        refine TBall_nil ?_
        refine cond_false ?_
        refine TSs_nil ?_
        rw [← htb]
        exact h ps
end
end
section
noncomputable def zZg (c : Nat) : Bool := zG3.contains (c : Int)
noncomputable def zEl (w : Str) : Str := zLi ((w.cps.toList.filter fun c => !zZg c).map fun c => zJi ⟨#[c]⟩)
noncomputable def Ent.p (e : Ent) (k : Nat) : Str := e.parts.getD k ""
noncomputable def zBc (k : Nat) (e : Ent) : Str := bif (0 + (k : Int)).fmod 2 == 1 then Txt.upper (e.p 0) else e.p 0
noncomputable def Ent.live (e : Ent) : Bool := decide (e.kind ≥ 2) && !(e.p 0 == Qd "")
noncomputable def zLt (k : Nat) (e : Ent) : List (Str × Str) := bif e.live then List.replicate e.plain.length (zBc k e, e.p 2) else []
noncomputable def zH7 (e : Ent) : List (Str × Str) := bif e.live then List.replicate e.plain.length (e.p 0, zAv (e.p 2)) else []
noncomputable def zPf (e : Ent) : List (Str × Str) := bif e.live then List.replicate e.plain.length (e.p 0, e.p 2) else []
noncomputable def zBy (es : List Ent) (i : Nat) : List (Str × Str) := (List.range i).flatMap fun k => zLt k (zBu es k)
noncomputable def zA0 (es : List Ent) (i : Nat) : List (Str × Str) := (List.range i).flatMap fun k => zH7 (zBu es k)
noncomputable def zB8 (es : List Ent) (i : Nat) : List (Str × Str) := (List.range i).flatMap fun k => zPf (zBu es k)
structure zEz (e : Ent) : Prop where
  wl : e.word.length <= 15
  sg : ∀ c ∈ e.word.cps.toList, Builtin.Str.tooLong (Txt.lower ⟨#[c]⟩).length = false /\ (zJi ⟨#[c]⟩).length <= 4
  dec : zHm (zEl e.word) = e.told
  pl : e.plain.length <= 2
  p0 : e.live = true -> e.p 0 ∈ zAj
  p2 : e.p 2 ∈ zBd
theorem zFa {es : List Ent} (h : ∀ k, zEz (zBu es k)) : ∀ i, (zBy es i).length <= 2 * i /\ (zA0 es i).length <= 2 * i /\ (zB8 es i).length <= 2 * i
  | 0 => ⟨Qo _, Qo _, Qo _⟩
  | i + 1 => by
    have ih := zFa h i
    have pl := (h i).pl
    have e1 : (zLt i (zBu es i)).length <= 2 := by
      unfold zLt
      cases (zBu es i).live
      . exact Qx _
      . simpa using pl
    have e2 : (zH7 (zBu es i)).length <= 2 := by
      unfold zH7
      cases (zBu es i).live
      . exact Qx _
      . simpa using pl
    have e3 : (zPf (zBu es i)).length <= 2 := by
      unfold zPf
      cases (zBu es i).live
      . exact Qx _
      . simpa using pl
    have s : ∀ (f : Nat -> List (Str × Str)), ((List.range (i + 1)).flatMap f).length = ((List.range i).flatMap f).length + (f i).length := by
      intro f; rw [List.range_succ, List.flatMap_append, Qi]; simp
    unfold zBy zA0 zB8 at *
    rw [s, s, s]
    omega
theorem zFu (es : List Ent) (i : Nat) : zBy es (i + 1) = zBy es i ++ zLt i (zBu es i) := by unfold zBy; rw [List.range_succ, List.flatMap_append]; simp
theorem zGq (es : List Ent) (i : Nat) : zA0 es (i + 1) = zA0 es i ++ zH7 (zBu es i) := by unfold zA0; rw [List.range_succ, List.flatMap_append]; simp
theorem zHy (es : List Ent) (i : Nat) : zB8 es (i + 1) = zB8 es i ++ zPf (zBu es i) := by unfold zB8; rw [List.range_succ, List.flatMap_append]; simp
theorem zRt {e : Ent} (h : decide (e.kind ≥ 2) = true) : e.told = .lst [.str (e.p 0), .str (e.p 1), .str (e.p 2)] := by
  unfold Ent.told; rw [h]; rfl
theorem zQ2 {e : Ent} (h : decide (e.kind ≥ 2) = false) : ∃ x, e.told = .tup [.none, .none, .str x] := by
  unfold Ent.told; rw [h]; exact ⟨_, rfl⟩
section
variable {g : G} {n : Nat} {sc : Sc} {vars : zAe} {cells : List C} {K' : V -> List C -> Prop} {KB : Bool -> List C -> Prop}
theorem zS8 {s : Shared} {a : Addr} {vs : List Value} {m : Nat} (h : s.heap.get? a = some (zFj vs m)) : s.TypeIs (.ref a) "tuple" := ⟨_, h, rfl⟩
theorem zL0 {l : List D} (h : K' (.stat 51) cells) : zAb g n (.stat 28) [.d (.tup l)] [] cells K' := by
  refine zAy (v := .type "type") rfl ?_
  intro A Z X ρ s Q vals rm st S ax r P
  obtain ⟨v, rfl, rv⟩ := r.one
  simp only [zAw, zA2] at rv
  obtain ⟨a, vs, m, rfl, z, _⟩ := rv
  exact call_type_of (zS8 (S.z _ _ z)) rfl (zEf.now P h S ax (u := .stat 51) rfl)
theorem zTs {e : Ent} (h : K' (.d (.bool false)) cells) : zDf g n .NotEq (.d e.told) (.d e.told) cells K' := by
  cases q : decide (e.kind ≥ 2)
  . obtain ⟨x, hx⟩ := zQ2 q
    rw [hx]
    refine zVd rfl rfl ?_
    rw [show zI1 [.none, .none, .str x] [.none, .none, .str x] = true from zEe _]
    exact h
  . rw [zRt q]
    refine zDy rfl rfl (.inr rfl) ?_
    rw [show zI1 [.str (e.p 0), .str (e.p 1), .str (e.p 2)] [.str (e.p 0), .str (e.p 1), .str (e.p 2)] = true from zEe _]
    exact h
theorem yAn {es : List Ent} (he : es.length = 6) {k : Nat} (hk : k < 6) : zEm (es.map Ent.word ++ [Qd ""]) (0 + (k : Int)) = (zBu es k).word := by
  unfold zEm zBu
  rw [show (0 + (k : Int)).toNat = k by omega]
  have h1 : k < (es.map Ent.word).length := by rw [Qg, he]; exact hk
  have h2 : k < es.length := by rw [he]; exact hk
  simp [List.getElem?_append_left h1, h2]
noncomputable abbrev zJ3 (sc s o : D) (es : List Ent) : zAe := [("script", .d sc), ("some", .d s), ("own", .d o), ("entries", .d (.lst (zHc es))), ("lexer", .obj 76 4), ("words", .d (.lst ((es.map Ent.word ++ [Qd ""]).map .str))), ("net", .obj 288 6), ("roads", .loc 8), ("laid", .loc 9)]
noncomputable abbrev zB4 (tb : Obj) (hs rd ld : List (Str × Str)) (rest : List C) : List C := zVp tb 3 [] (zDt 6 hs (.lst (zBb rd) :: .lst (zBb ld) :: rest))
theorem yOy {es : List Ent} {scr s o : D} {tb : Obj} {Kn Kc : zAe -> List C -> Prop} {Kr : V -> List C -> Prop} (he : es.length = 6) (hf : ∀ k, zEz (zBu es k))
    (h : TSs g (n + 6) zEu (zBp.drop 10) (zJ3 scr s o es) (zB4 tb (zBy es 6) (zA0 es 6) (zB8 es 6) []) Kn Kr Kc) :
    TSs g (n + 6) zEu (zBp.drop 6) (yJ2 scr s o es) (zVp tb 3 [] []) Kn Kr Kc := by
  have zz : sizeLine = 16777216 := sizeLine_eq
  refine k_ss ?_
  walk_at "W"
  refine zAb.frameL [] [] (.stat 10) [] rfl rfl rfl List.nodup_nil (fun _ h => nomatch h) rfl rfl ?_
  refine zJq ?_
  show TA _ _ _ _ (.obj 288 6) _ (zVp tb 3 [] (zDt 6 [] [])) _
  walk_at "W"
  refine zFm rfl ?_
  refine TEs_nil ?_
  refine ⟨Qx _, [], _, rfl, ?_⟩
  walk_at "W"
  refine zFm rfl ?_
  refine TEs_nil ?_
  refine ⟨Qx _, [], _, rfl, ?_⟩
  walk_at "W"
  refine zDu (fun _ _ => rfl) rfl ?_
  walk_at "W"
  refine zB5 ?_
  refine ⟨_, rfl, PySem.small_one (by decide) (by decide) (by decide) (by decide), ?_⟩
  refine zBv (fun k : Nat => D.int (0 + (k : Int))) (fun (l : List Nat) (v : zAe) (c : List C) => v = zJ3 scr s o es /\ ∃ i, A3 (i <= 6) (l = (List.range 6).drop i) (c = zB4 tb (zBy es i) (zA0 es i) (zB8 es i) [])) ?base ?step (List.range 6) _ _ ⟨rfl, 0, by decide, rfl, rfl⟩
  case base =>
    rintro v c ⟨rfl, i, hi, hl, rfl⟩
    obtain rfl := zGu hl hi
    exact h
  case step =>
    rintro k r v c KN hN ⟨rfl, i, hi, hl, rfl⟩
    obtain ⟨rfl, rfl, hlt⟩ := zDw hl
    have F := hf k
    have RL := zFa hf k
    generalize hE : zBu es k = E at F
    refine TA_name rfl ?_
    refine k_ss ?_
    walk_at "W"
    refine zBa (fun _ _ => rfl) rfl rfl ?_
    walk_at "W"
    refine zBf (ns := es.map Ent.word ++ [Qd ""]) (k := 0 + (k : Int)) rfl (by omega) (by simp [he]; omega) (by simp [he]) ?_
    rw [yAn he hlt, hE]
    have wl := F.wl
    refine ⟨_, rfl, trivial, by rw [zz]; unfold zB0; rw [Qg, Array.length_toList]; show E.word.length <= _; omega, ?_⟩
    refine zAp (fun c : Nat => D.str ⟨#[c]⟩) (fun (acc : List D) (l : List Nat) (v : zAe) (c : List C) => A4 (v = ([] : zAe)) (c = zB4 tb (zBy es k) (zA0 es k) (zB8 es k) []) ((∀ c ∈ l, c ∈ E.word.cps.toList)) (acc ++ ((l.filter fun c => !zZg c).map fun c => zJi ⟨#[c]⟩).map .str = (((E.word.cps.toList.filter fun c => !zZg c).map fun c => zJi ⟨#[c]⟩).map .str : List D))) ?b1 ?s1 E.word.cps.toList [] _ _ ⟨rfl, rfl, fun _ h => h, rfl⟩
    case s1 =>
      rintro acc a r v c ⟨rfl, rfl, hm, hK⟩
      rw [Qz] at hK
      refine TA_name rfl ?_
      refine zCh ?_
      refine k_not ?_
      refine k_tval (fun _ _ => rfl) ?_
      walk_at "W"
      refine zZb rfl ?_
      refine tr_bool ?_
      refine zAg (fun q => ?_) (fun q => ?_)
      . rw [if_pos (show (!zZg a) = true from q)] at hK
        walk_at "W"
        refine zW4 rfl (F.sg a (hm a (.head _))).1 ?_
        refine ⟨_, _, rfl, zAo.back rfl rfl trivial rfl ⟨rfl, rfl, fun c hc => hm c (.tail _ hc), ?_⟩⟩
        rw [← hK, Qj]; rfl
      . rw [if_neg (by rw [show (!zZg a) = false from q]; decide)] at hK
        exact zAo.back rfl rfl trivial rfl ⟨rfl, rfl, fun c hc => hm c (.tail _ hc), hK⟩
    case b1 =>
      rintro acc v c ⟨rfl, rfl, -, hK⟩
      have hK' : acc = (((E.word.cps.toList.filter fun c => !zZg c).map fun c => zJi ⟨#[c]⟩).map .str : List D) := by simpa using hK
      rw [hK']
      have xl : ∀ x ∈ (E.word.cps.toList.filter fun c => !zZg c).map fun c => zJi ⟨#[c]⟩, x.length <= 4 := by
        intro x hx
        obtain ⟨c, hc, rfl⟩ := Qq.mp hx
        exact (F.sg c (List.mem_filter.mp hc).1).2
      have fl := List.length_filter_le (fun c => !zZg c) E.word.cps.toList
      have wl2 : E.word.cps.toList.length <= 15 := by rw [Array.length_toList]; exact wl
      walk_at "W"
      refine zD7 rfl (zJ9 xl (by rw [Qg]; omega)) ?_
      rw [zIx]
      have cl := zL3 xl
      rw [Qg] at cl
      walk_at "W"
      refine zUz (by omega) ?_
      rw [show zHm (zLi ((E.word.cps.toList.filter fun c => !zZg c).map fun c => zJi ⟨#[c]⟩)) = E.told from F.dec]
      walk_at "W"
      refine zR7 (es := es) (k := 0 + (k : Int)) rfl (by omega) (by omega) (by omega) ?_
      rw [show (0 + (k : Int)).toNat = k by omega, hE]
      walk_at "w"
      refine zMd (d := E.told) ⟨by decide, by decide⟩ rfl ?_
      refine zTs ?_
      refine q_bool ?_
      refine cond_false ?_
      refine TSs_nil ?_
      refine k_ss ?_
      refine k_if ?_
      refine TB_bool ?_
      refine k_and ?_
      walk_at "W"
      have eL : E.live = (decide (E.kind ≥ 2) && !(E.p 0 == Qd "")) := rfl
      have done : E.live = false -> ∀ v, zIs (zB4 tb (zBy es k) (zA0 es k) (zB8 es k) []).length v ((zJ3 scr s o es).map (·.1)) = zJ3 scr s o es -> zAo (zB4 tb (zBy es k) (zA0 es k) (zB8 es k) []).length ((zJ3 scr s o es).map (·.1)) (zGk (.rng 0 6) ((List.range 6).map fun (k : Nat) => D.int (0 + (k : Int))))
          (fun v c => v = zJ3 scr s o es /\ ∃ i, A3 (i <= 6) (List.drop (k + 1) (List.range 6) = (List.range 6).drop i) (c = zB4 tb (zBy es i) (zA0 es i) (zB8 es i) [])) v (zB4 tb (zBy es k) (zA0 es k) (zB8 es k) []) := by
        intro q v hv
        refine zAo.back rfl rfl trivial hv ⟨rfl, k + 1, hlt, rfl, ?_⟩
        rw [zFu, zGq, zHy, hE]
        unfold zLt zH7 zPf
        rw [q]
        simp
      cases qk : decide (E.kind ≥ 2)
      . obtain ⟨x, hx⟩ := zQ2 qk
        rw [hx]
        refine zL0 ?_
        walk_at "W"
        refine cond_false ?_
        refine cond_false ?_
        refine TSs_nil ?_
        refine TSs_nil ?_
        exact hN _ _ (done (by rw [eL, qk]; rfl) _ rfl)
      . rw [zRt qk]
        rw [qk, Bool.true_and] at eL
        refine zG7 rfl ?_
        walk_at "W"
        refine cond_true ?_
        refine k_and ?_
        walk_at "W"
        refine zBq (d := .str (E.p 0)) rfl ⟨by decide, by decide⟩ rfl ?_
        walk_at "W"
        refine zAg (fun q0 => ?_) (fun q0 => ?_)
        . have eL1 : E.live = true := by rw [eL]; exact q0
          have hp0 := F.p0 eL1
          have nf := zAt hp0
          have hp2 := F.p2
          have hx : 1 <= (E.p 2).cps.size := by simpa using Qf.mp zD8 (E.p 2) hp2
          refine TBall_nil ?_
          refine cond_true ?_
          refine k_ss ?_
          refine zDu (fun _ _ => rfl) rfl ?_
          walk_at "W"
          refine zBq (d := .str (E.p 1)) rfl ⟨by decide, by decide⟩ rfl ?_
          refine ⟨_, rfl, trivial, ?_⟩
          have pl := F.pl
          refine zBv (fun c : Nat => D.str ⟨#[c]⟩) (fun (l : List Nat) (v : zAe) (c : List C) => v = (zJ3 scr s o es ++ ([("k", .d (.int (0 + (k : Int)))), ("told", .d (.lst [.str (E.p 0), .str (E.p 1), .str (E.p 2)]))] : zAe)) /\ ∃ j, j + l.length = E.plain.length /\
            c = zB4 tb (zBy es k ++ List.replicate j (zBc k E, E.p 2)) (zA0 es k ++ List.replicate j (E.p 0, zAv (E.p 2))) (zB8 es k ++ List.replicate j (E.p 0, E.p 2)) []) ?b2 ?s2 E.plain.cps.toList _ _ ⟨rfl, 0, by rw [Array.length_toList, Nat.zero_add]; rfl, by simp⟩
          case b2 =>
            rintro v c ⟨rfl, j, hj, rfl⟩
            have hj' : j = E.plain.length := hj
            subst hj'
            refine TSs_nil ?_
            refine TSs_nil ?_
            refine zAo.to hN rfl rfl trivial rfl ⟨rfl, k + 1, hlt, rfl, ?_⟩
            rw [zFu, zGq, zHy, hE]
            unfold zLt zH7 zPf
            rw [eL1]
            rfl
          case s2 =>
            rintro a r v c KN hN ⟨rfl, j, hj, rfl⟩
            rw [Qh] at hj
            refine TA_name rfl ?_
            refine k_ss ?_
            refine k_expr rfl ?_
            refine k_method rfl rfl rfl rfl rfl ?_
            walk_at "W"
            have hon : zBc k E ∈ zAj := by
              unfold zBc
              cases (0 + (k : Int)).fmod 2 == 1
              . exact hp0
              . exact nf.memU
            refine zG2 (fun u c => u = .d (.str (zBc k E)) /\ c = zB4 tb (zBy es k ++ List.replicate j (zBc k E, E.p 2)) (zA0 es k ++ List.replicate j (E.p 0, zAv (E.p 2))) (zB8 es k ++ List.replicate j (E.p 0, E.p 2)) []) ?_ ?_
            . refine zAg (fun q => ?_) (fun q => ?_)
              . have e : zBc k E = Txt.upper (E.p 0) := by unfold zBc; rw [q]; rfl
                walk_at "W"
                refine zBq (d := .str (E.p 0)) rfl ⟨by decide, by decide⟩ rfl ?_
                walk_at "W"
                refine zCe nf.up ?_
                exact ⟨by rw [e], rfl⟩
              . have e : zBc k E = E.p 0 := by unfold zBc; rw [q]; rfl
                walk_at "W"
                refine zBq (d := .str (E.p 0)) rfl ⟨by decide, by decide⟩ rfl ?_
                exact ⟨by rw [e], rfl⟩
            rintro u c ⟨rfl, rfl⟩
            walk_at "W"
            refine zBq (d := .str (E.p 2)) rfl ⟨by decide, by decide⟩ rfl ?_
            walk_at "W"
            have jl : j < E.plain.length := by omega
            refine zD2 (i := 6) (j := 7) (ds := [.str (zBc k E), .str (E.p 2)]) (hs' := zBy es k ++ List.replicate (j + 1) (zBc k E, E.p 2)) (r := .none) rfl rfl (by decide) (fun K2 h2 => yN4 (hs := zBy es k ++ List.replicate j (zBc k E, E.p 2)) hon hp2 (by rw [Qi, List.length_replicate]; omega) (by
              rw [Qj, ← List.replicate_succ']; exact h2)) (c' := zB4 tb (zBy es k ++ List.replicate (j + 1) (zBc k E, E.p 2)) (zA0 es k ++ List.replicate j (E.p 0, zAv (E.p 2))) (zB8 es k ++ List.replicate j (E.p 0, E.p 2)) []) rfl ?_
            walk_at "W"
            refine zBq (d := .str (E.p 0)) rfl ⟨by decide, by decide⟩ rfl ?_
            walk_at "W"
            refine zBq (d := .str (E.p 2)) rfl ⟨by decide, by decide⟩ rfl ?_
            walk_at "W"
            refine zC1 ⟨by decide, by decide⟩ (zGe hx) ?_
            walk_at "W"
            refine ⟨Qe rfl, _, _, zAz (zAz zA7), ?_⟩
            walk_at "W"
            refine zA9 (i := 8) rfl (by rw [zz]; unfold zBb; rw [Qg, Qi, List.length_replicate]; omega) ?_
            rw [show (zB4 tb (zBy es k ++ List.replicate (j + 1) (zBc k E, E.p 2)) (zA0 es k ++ List.replicate j (E.p 0, zAv (E.p 2))) (zB8 es k ++ List.replicate j (E.p 0, E.p 2)) []).set 8 (.lst (zBb (zA0 es k ++ List.replicate j (E.p 0, zAv (E.p 2))) ++ [.tup [.str (E.p 0), .str ⟨#[(E.p 2).cps.getD 0 0]⟩]]))
              = zB4 tb (zBy es k ++ List.replicate (j + 1) (zBc k E, E.p 2)) (zA0 es k ++ List.replicate (j + 1) (E.p 0, zAv (E.p 2))) (zB8 es k ++ List.replicate j (E.p 0, E.p 2)) [] by
              rw [zFr, Qj, show [(E.p 0, (⟨#[(E.p 2).cps.getD 0 0]⟩ : Str))] = [(E.p 0, zAv (E.p 2))] from rfl, ← List.replicate_succ']; rfl]
            walk_at "W"
            refine zBq (d := .str (E.p 0)) rfl ⟨by decide, by decide⟩ rfl ?_
            walk_at "W"
            refine zBq (d := .str (E.p 2)) rfl ⟨by decide, by decide⟩ rfl ?_
            walk_at "W"
            refine ⟨Qe rfl, _, _, zAz (zAz zA7), ?_⟩
            walk_at "W"
            refine zA9 (i := 9) rfl (by rw [zz]; unfold zBb; rw [Qg, Qi, List.length_replicate]; omega) ?_
            rw [show (zB4 tb (zBy es k ++ List.replicate (j + 1) (zBc k E, E.p 2)) (zA0 es k ++ List.replicate (j + 1) (E.p 0, zAv (E.p 2))) (zB8 es k ++ List.replicate j (E.p 0, E.p 2)) []).set 9 (.lst (zBb (zB8 es k ++ List.replicate j (E.p 0, E.p 2)) ++ [.tup [.str (E.p 0), .str (E.p 2)]]))
              = zB4 tb (zBy es k ++ List.replicate (j + 1) (zBc k E, E.p 2)) (zA0 es k ++ List.replicate (j + 1) (E.p 0, zAv (E.p 2))) (zB8 es k ++ List.replicate (j + 1) (E.p 0, E.p 2)) [] by
              rw [zFr, Qj, ← List.replicate_succ']; rfl]
            refine TSs_nil ?_
            exact zAo.to hN rfl rfl trivial rfl ⟨rfl, j + 1, by omega, rfl⟩
        . refine cond_false ?_
          refine TSs_nil ?_
          refine TSs_nil ?_
          exact hN _ _ (done (by rw [eL]; exact q0) _ rfl)
end
end
section
def zBh (c : Nat) : Prop := c = 97 ∨ c = 98 ∨ c = 99 ∨ c = 100 ∨ c = 101
theorem zRn {c : Nat} (h : zBh c) : (⟨#[c]⟩ : Str) ∈ zAj := by
  rcases h with rfl | rfl | rfl | rfl | rfl <;> decide
theorem zQy {es : List Ent} (h : ∀ k, zEz (zBu es k)) (i : Nat) : zDg (zBy es i) := by
  intro p hp
  unfold zBy at hp
  obtain ⟨k, _, hp⟩ := List.mem_flatMap.mp hp
  unfold zLt at hp
  cases q : (zBu es k).live
  . rw [q] at hp; cases hp
  . rw [q, Bool.cond_true] at hp
    obtain rfl := List.eq_of_mem_replicate hp
    have hp0 := (h k).p0 q
    refine ⟨?_, (h k).p2⟩
    show zBc k (zBu es k) ∈ zAj
    unfold zBc
    cases (0 + (k : Int)).fmod 2 == 1
    . exact hp0
    . exact (zAt hp0).memU
section
variable {g : G} {n : Nat} {sc : Sc} {vars : zAe} {cells : List C} {K' : V -> List C -> Prop} {KB : Bool -> List C -> Prop}
theorem yOm {es : List Ent} {scr s o : D} {tb : Obj} {Kn Kc : zAe -> List C -> Prop} {Kr : V -> List C -> Prop} (he : es.length = 6) (hf : ∀ k, zEz (zBu es k))
    (hall : ∀ c, zBh c -> zAm (zBy es 6) (Txt.upper ⟨#[c]⟩) = ((zB8 es 6).filter fun p => p.1 == (⟨#[c]⟩ : Str)).map (·.2))
    (h : TSs g (n + 6) zEu (zBp.drop 11) (zJ3 scr s o es) (zB4 tb (zBy es 6) (zA0 es 6) (zB8 es 6) []) Kn Kr Kc) :
    TSs g (n + 6) zEu (zBp.drop 10) (zJ3 scr s o es) (zB4 tb (zBy es 6) (zA0 es 6) (zB8 es 6) []) Kn Kr Kc := by
  have zz : sizeLine = 16777216 := sizeLine_eq
  have RL := zFa hf 6
  have hh := zQy hf 6
  refine k_ss ?_
  refine zDu (fun _ _ => rfl) rfl ?_
  walk_at "W"
  refine ⟨_, rfl, trivial, ?_⟩
  refine zBv (fun c : Nat => D.str ⟨#[c]⟩) (fun (l : List Nat) (v : zAe) (c : List C) => A3 (v = zJ3 scr s o es) (c = zB4 tb (zBy es 6) (zA0 es 6) (zB8 es 6) []) (∀ c ∈ l, zBh c)) ?base ?step [97, 98, 99, 100] _ _ ⟨rfl, rfl, fun c hc => by simp at hc; unfold zBh; omega⟩
  case base =>
    rintro v c ⟨rfl, rfl, -⟩
    exact h
  case step =>
    rintro t r v c KN hN ⟨rfl, rfl, ht⟩
    have tl := zRn (ht t (.head _))
    have nt := zAt tl
    refine TA_name rfl ?_
    refine k_ss ?_
    walk_at "W"
    refine zCe nt.up ?_
    walk_at "W"
    refine zD2 (i := 6) (j := 7) (ds := [.str (Txt.upper ⟨#[t]⟩)]) (hs' := zBy es 6) (r := .lst ((zAm (zBy es 6) (Txt.upper ⟨#[t]⟩)).map .str)) rfl rfl (by decide) (fun K2 h2 => zIw hh nt.memU (by omega) h2) (c' := zB4 tb (zBy es 6) (zA0 es 6) (zB8 es 6) []) rfl ?_
    refine zBa (fun _ _ => rfl) rfl rfl ?_
    walk_at "W"
    refine ⟨_, rfl, trivial, by rw [zz]; unfold zBb; rw [Qg]; omega, ?_⟩
    refine zAp (fun p : Str × Str => D.tup [.str p.1, .str p.2]) (fun (acc : List D) (l : List (Str × Str)) (v : zAe) (c : List C) => A3 (v = ([("town", .d (.str ⟨#[t]⟩))] : zAe)) (c = zB4 tb (zBy es 6) (zA0 es 6) (zB8 es 6) []) (acc ++ ((l.filter fun p => p.1 == (⟨#[t]⟩ : Str)).map (·.2)).map D.str = (((zB8 es 6).filter fun p => p.1 == (⟨#[t]⟩ : Str)).map (·.2)).map D.str)) ?b1 ?s1 (zB8 es 6) [] _ _ ⟨rfl, rfl, rfl⟩
    case s1 =>
      rintro acc p r v c ⟨rfl, rfl, hK⟩
      rw [Qz] at hK
      refine zBt rfl ?_
      refine zCh ?_
      walk_at "W"
      refine zAg (fun q => ?_) (fun q => ?_)
      . rw [if_pos q] at hK
        walk_at "W"
        refine ⟨_, _, rfl, zAo.back rfl rfl rfl rfl ⟨rfl, rfl, ?_⟩⟩
        rw [← hK, Qj]; rfl
      . rw [if_neg (by rw [q]; decide)] at hK
        exact zAo.back rfl rfl rfl rfl ⟨rfl, rfl, hK⟩
    case b1 =>
      rintro acc v c ⟨rfl, rfl, hK⟩
      have hK' : acc = (((zB8 es 6).filter fun p => p.1 == (⟨#[t]⟩ : Str)).map (·.2)).map D.str := by simpa using hK
      rw [hK', ← hall t (ht t (.head _))]
      refine zDy rfl rfl (.inr (zFv _ _ rfl)) ?_
      rw [zJz]
      refine q_bool ?_
      refine cond_false ?_
      refine TSs_nil ?_
      refine TSs_nil ?_
      exact zAo.to hN rfl rfl trivial rfl ⟨rfl, rfl, fun c hc => ht c (.tail _ hc)⟩
noncomputable abbrev yGd (sc s o : D) (es : List Ent) (sent met : D) : zAe := [("script", .d sc), ("some", .d s), ("own", .d o), ("entries", .d (.lst (zHc es))), ("lexer", .obj 76 4), ("words", .d (.lst ((es.map Ent.word ++ [Qd ""]).map .str))), ("net", .obj 288 6), ("roads", .loc 8), ("laid", .loc 9), ("sent", .d sent), ("met", .d met)]
theorem yPc {es : List Ent} {scr s o : D} {tb : Obj} {hs rd ld : List (Str × Str)} {R : yFy} {Kn Kc : zAe -> List C -> Prop} {Kr : V -> List C -> Prop} (hR : zF8 14 hs [] = some R) (hh : zDg hs) (hz : hs.length <= 40)
    (h : zDg R.hs -> R.hs.length <= 40 -> TSs g (n + 8) zEu (zBp.drop 12) (yGd scr s o es (.lst (zE6 R.sent)) (.lst (zCs (R.names.map .str)))) (zB4 tb R.hs rd ld []) Kn Kr Kc) :
    TSs g (n + 8) zEu (zBp.drop 11) (zJ3 scr s o es) (zB4 tb hs rd ld []) Kn Kr Kc := by
  refine k_ss ?_
  walk_at "W"
  refine zAb.frameL [4, 2, 5, 3, 1, 6, 7] (zCw 3 [] [] (zDt 5 hs [])) (.stat 16) [.obj 76 0, .obj 288 5] rfl rfl rfl (by decide) ?_ rfl rfl ?_
  . exact zXs (m := 8) rfl (Nat.le_add_left _ _)
  . refine zVl hR hh hz fun h1 h2 => ?_
    rw [show zCv (zB4 tb hs rd ld []) [4, 2, 5, 3, 1, 6, 7] (zCw 3 [] [] (zDt 5 R.hs [])) = zB4 tb R.hs rd ld [] from List.append_nil _]
    refine zBt rfl ?_
    exact h h1 h2
end
end
section
noncomputable def zLq (ch : Int) (k : Nat) : Bool := (ch.fdiv (2 ^ (0 + (k : Int)).toNat)).fmod 2 == 1
noncomputable def yOd (k : Nat) : Str := ⟨#[(Qd "bcd").cps.getD k 0]⟩
noncomputable def zEv (ch : Int) : List Str := Qd "a" :: ((List.range 3).filter fun k => zLq ch k).map yOd
noncomputable def zRv (side : List Str) (p : Str × Str) : Bool := inL side p.1 && !inL side p.2
noncomputable def zKj (rd : List (Str × Str)) (side : List Str) : Nat := (rd.filter (zRv side)).length
noncomputable def zX7 (rd : List (Str × Str)) (ch : Nat) : D := .tup [.int (zKj rd (zEv (0 + (ch : Int)))), .lst ((zEv (0 + (ch : Int))).map .str)]
noncomputable def zDc (rd : List (Str × Str)) (ch : Nat) : Int := (zKj rd (zEv (0 + (ch : Int))) : Nat)
noncomputable def zL8 (rd : List (Str × Str)) : List Int := (List.range 8).map (zDc rd)
noncomputable def zGp (rd : List (Str × Str)) : Int := zT9 (zL8 rd)
noncomputable def zC5 (rd : List (Str × Str)) : List (List Str) := ((List.range 8).filter fun ch => zDc rd ch == zGp rd).map fun (ch : Nat) => zEv (0 + (ch : Int))
noncomputable def zBk (l : List (List Str)) : List D := l.map fun s => .lst (s.map .str)
section
variable {g : G} {n : Nat} {sc : Sc} {vars : zAe} {cells : List C} {K' : V -> List C -> Prop} {KB : Bool -> List C -> Prop}
noncomputable abbrev yO1 (sc s o : D) (es : List Ent) (sent met : D) : zAe := [("script", .d sc), ("some", .d s), ("own", .d o), ("entries", .d (.lst (zHc es))), ("lexer", .obj 76 4), ("words", .d (.lst ((es.map Ent.word ++ [Qd ""]).map .str))), ("net", .obj 288 6), ("roads", .loc 8), ("laid", .loc 9), ("sent", .d sent), ("met", .d met), ("cuts", .loc 10)]
noncomputable abbrev zYm (sc s o : D) (es : List Ent) (sent met : D) (best : Int) (cheap : List (List Str)) : zAe := [("script", .d sc), ("some", .d s), ("own", .d o), ("entries", .d (.lst (zHc es))), ("lexer", .obj 76 4), ("words", .d (.lst ((es.map Ent.word ++ [Qd ""]).map .str))), ("net", .obj 288 6), ("roads", .loc 8), ("laid", .loc 9), ("sent", .d sent), ("met", .d met), ("cuts", .loc 10), ("best", .d (.int best)), ("cheap", .d (.lst (zBk cheap)))]
theorem zU5 (ch : Int) : (zEv ch).length <= 4 := by
  unfold zEv
  have := List.length_filter_le (fun k => zLq ch k) (List.range 3)
  simp only [Qh, Qg, List.length_range] at *
  omega
theorem yM3 {k : Nat} (hk : k < 3) : (seqIndex? (0 + (k : Int)) (Qd "bcd").length).bind ((Qd "bcd").cps[·]?) = some ((Qd "bcd").cps.getD k 0) := by
  rw [show (Qd "bcd").length = 3 from rfl, zS6 (by omega) (by omega), Option.bind_some, show (0 + (k : Int)).toNat = k by omega]
  rcases k with _ | _ | _ | k
  all_goals first | rfl | omega
theorem yQt {es : List Ent} {scr s o sent met : D} {tb : Obj} {hs rd ld : List (Str × Str)} {Kn Kc : zAe -> List C -> Prop} {Kr : V -> List C -> Prop} (hz : rd.length <= 40)
    (h : TSs g (n + 8) zEu (zBp.drop 16) (zYm scr s o es sent met (zGp rd) (zC5 rd)) (zB4 tb hs rd ld [.lst ((List.range 8).map (zX7 rd))]) Kn Kr Kc) :
    TSs g (n + 8) zEu (zBp.drop 12) (yGd scr s o es sent met) (zB4 tb hs rd ld []) Kn Kr Kc := by
  have zz : sizeLine = 16777216 := sizeLine_eq
  refine k_ss ?_
  walk_at "W"
  refine zFm rfl ?_
  refine TEs_nil ?_
  refine ⟨Qx _, [], _, rfl, ?_⟩
  walk_at "W"
  refine zDu (fun _ _ => rfl) rfl ?_
  walk_at "W"
  refine zB5 ?_
  refine ⟨_, rfl, PySem.small_one (by decide) (by decide) (by decide) (by decide), ?_⟩
  refine zBv (fun k : Nat => D.int (0 + (k : Int))) (fun (l : List Nat) (v : zAe) (c : List C) => v = yO1 scr s o es sent met /\ ∃ i, A3 (i <= 8) (l = (List.range 8).drop i) (c = zB4 tb hs rd ld [.lst ((List.range i).map (zX7 rd))])) ?base ?step (List.range 8) _ _ ⟨rfl, 0, by decide, rfl, rfl⟩
  case step =>
    rintro ch r v c KN hN ⟨rfl, i, hi, hl, rfl⟩
    obtain ⟨rfl, rfl, hlt⟩ := zDw hl
    refine TA_name rfl ?_
    refine k_ss ?_
    walk_at "W"
    walk_at "f"
    walk_at "W"
    refine ⟨Qe rfl, _, _, zAz zA7, ?_⟩
    refine zBa (fun _ _ => rfl) rfl rfl ?_
    walk_at "W"
    refine zB5 ?_
    refine ⟨_, rfl, PySem.small_one (by decide) (by decide) (by decide) (by decide), by rw [zz]; decide, ?_⟩
    refine zAp (fun k : Nat => D.int (0 + (k : Int))) (fun (acc : List D) (l : List Nat) (v : zAe) (c : List C) => A3 (v = ([("choice", .d (.int (0 + (ch : Int))))] : zAe)) (c = zB4 tb hs rd ld [.lst ((List.range ch).map (zX7 rd))]) (∃ j, A3 (j <= 3) (l = (List.range 3).drop j) (acc = (((List.range j).filter fun k => zLq (0 + (ch : Int)) k).map yOd).map D.str))) ?b1 ?s1 (List.range 3) [] _ _ ⟨rfl, rfl, 0, by decide, rfl, rfl⟩
    case s1 =>
      rintro acc k r v c ⟨rfl, rfl, j, hj, hl2, rfl⟩
      obtain ⟨rfl, rfl, hlt2⟩ := zDw hl2
      refine TA_name rfl ?_
      refine zCh ?_
      walk_at "W"
      have hk3 : k = 0 ∨ k = 1 ∨ k = 2 := by omega
      refine zWc (by omega) (by decide) (by decide) (by rcases hk3 with rfl | rfl | rfl <;> decide) ?_
      refine zNd (by rcases hk3 with rfl | rfl | rfl <;> decide) (by rcases hk3 with rfl | rfl | rfl <;> exact zMw (by decide) (by decide)) ?_
      walk_at "W"
      have es1 : (List.range (k + 1)).filter (fun k => zLq (0 + (ch : Int)) k) = (List.range k).filter (fun k => zLq (0 + (ch : Int)) k) ++ (if zLq (0 + (ch : Int)) k then [k] else []) := by
        rw [List.range_succ, List.filter_append, Qz, List.filter_nil]
      refine zAg (fun q => ?_) (fun q => ?_)
      . rw [if_pos (show zLq (0 + (ch : Int)) k = true from q)] at es1
        walk_at "W"
        refine zC1 ⟨by omega, by omega⟩ (yM3 hlt2) ?_
        refine ⟨_, _, rfl, zAo.back rfl rfl trivial rfl ⟨rfl, rfl, k + 1, hlt2, rfl, ?_⟩⟩
        rw [es1, Qt, Qt]; rfl
      . rw [if_neg (by rw [show zLq (0 + (ch : Int)) k = false from q]; decide), List.append_nil] at es1
        exact zAo.back rfl rfl trivial rfl ⟨rfl, rfl, k + 1, hlt2, rfl, by rw [es1]⟩
    case b1 =>
      rintro acc v c ⟨rfl, rfl, j, hj, hl2, rfl⟩
      obtain rfl := zGu hl2 hj
      have sl := zU5 (0 + (ch : Int))
      refine zHb rfl rfl (by rw [zz]; unfold zEv at sl; simp only [Qh, Qg, List.length_nil] at *; omega) ?_
      rw [show ([D.str (Qd "a")] : List D) ++ (((List.range 3).filter fun k => zLq (0 + (ch : Int)) k).map yOd).map D.str = (zEv (0 + (ch : Int))).map .str from rfl]
      generalize hS : zEv (0 + (ch : Int)) = S at sl
      walk_at "W"
      refine zBa (fun _ _ => rfl) rfl rfl ?_
      walk_at "W"
      refine ⟨_, rfl, trivial, by rw [zz]; unfold zBb; rw [Qg]; omega, ?_⟩
      refine zAp (fun p : Str × Str => D.tup [.str p.1, .str p.2]) (fun (acc : List D) (l : List (Str × Str)) (v : zAe) (c : List C) => A3 (v = ([("side", .d (.lst (S.map .str)))] : zAe)) (c = zB4 tb hs rd ld [.lst ((List.range ch).map (zX7 rd))]) (acc.length + (l.filter (zRv S)).length = zKj rd S)) ?b2 ?s2 rd [] _ _ ⟨rfl, rfl, Nat.zero_add _⟩
      case s2 =>
        rintro acc p r v c ⟨rfl, rfl, hK⟩
        rw [Qz] at hK
        refine zBt rfl ?_
        refine zCh ?_
        refine TB_bool ?_
        refine k_and ?_
        walk_at "W"
        refine zOb rfl (zEb S _) ?_
        refine q_bool ?_
        have ec : zRv S p = (inL S p.1 && !inL S p.2) := rfl
        refine zAg (fun q3 => ?_) (fun q3 => ?_)
        . rw [show inL S p.1 = true from q3, Bool.true_and] at ec
          refine k_and ?_
          walk_at "W"
          refine zDk rfl (zEb S _) ?_
          refine q_bool ?_
          refine zAg (fun q4 => ?_) (fun q4 => ?_)
          . rw [show (!inL S p.2) = true from q4] at ec
            rw [if_pos ec] at hK
            refine TBall_nil ?_
            refine cond_true ?_
            walk_at "W"
            refine ⟨_, _, rfl, zAo.back rfl rfl rfl rfl ⟨rfl, rfl, ?_⟩⟩
            rw [← hK, Qi, Qh]; simp only [Qh, List.length_nil]; omega
          . rw [show (!inL S p.2) = false from q4] at ec
            rw [if_neg (by rw [ec]; decide)] at hK
            refine cond_false ?_
            exact zAo.back rfl rfl rfl rfl ⟨rfl, rfl, hK⟩
        . rw [show inL S p.1 = false from q3, Bool.false_and] at ec
          rw [if_neg (by rw [ec]; decide)] at hK
          refine cond_false ?_
          exact zAo.back rfl rfl rfl rfl ⟨rfl, rfl, hK⟩
      case b2 =>
        rintro acc v c ⟨rfl, rfl, hK⟩
        have hK' : acc.length = zKj rd S := by simpa using hK
        have fl := List.length_filter_le (zRv S) rd
        have cl : zKj rd S <= 40 := Nat.le_trans fl hz
        walk_at "W"
        refine zBe (l := acc) rfl (by omega) ?_
        rw [hK']
        walk_at "W"
        refine ⟨Qe rfl, _, _, zAz (zAz zA7), ?_⟩
        walk_at "W"
        refine zA9 (i := 10) rfl (by rw [zz, Qg, List.length_range]; omega) ?_
        refine TSs_nil ?_
        refine zAo.to hN rfl rfl trivial rfl ⟨rfl, ch + 1, hlt, rfl, ?_⟩
        rw [List.range_succ, Qt]
        show (zB4 tb hs rd ld [.lst ((List.range ch).map (zX7 rd))]).set 10 (.lst ((List.range ch).map (zX7 rd) ++ [.tup [.int (zKj rd S), .lst (S.map .str)]])) = _
        rw [← hS]
        rfl
  case base =>
    rintro v c ⟨rfl, i, hi, hl, rfl⟩
    obtain rfl := zGu hl hi
    walk_at "W"
    refine zBa (fun _ _ => rfl) rfl rfl ?_
    walk_at "W"
    refine ⟨_, rfl, trivial, by rw [zz, Qg, List.length_range]; decide, ?_⟩
    refine zAp (zX7 rd) (fun (acc : List D) (l : List Nat) (v : zAe) (c : List C) => A3 (v = ([] : zAe)) (c = zB4 tb hs rd ld [.lst ((List.range 8).map (zX7 rd))]) (acc ++ (l.map (zDc rd)).map D.int = (zL8 rd).map D.int)) ?b3 ?s3 (List.range 8) [] _ _ ⟨rfl, rfl, rfl⟩
    case s3 =>
      rintro acc a r v c ⟨rfl, rfl, hK⟩
      refine zBt (ds := [.int (zKj rd (zEv (0 + (a : Int)))), .lst ((zEv (0 + (a : Int))).map .str)]) rfl ?_
      refine zBs ?_
      refine cond_true ?_
      walk_at "W"
      refine ⟨_, _, rfl, zAo.back rfl rfl rfl rfl ⟨rfl, rfl, ?_⟩⟩
      rw [← hK, Qj]; rfl
    case b3 =>
      rintro acc v c ⟨rfl, rfl, hK⟩
      have hK' : acc = (zL8 rd).map D.int := by simpa using hK
      rw [hK']
      walk_at "W"
      refine zMu (ns := zL8 rd) rfl (by unfold zL8; simp) ?_
      rw [show zT9 (zL8 rd) = zGp rd from rfl]
      refine TA_name rfl ?_
      refine k_ss ?_
      refine k_assign rfl rfl rfl rfl ?_
      refine zBa (fun _ _ => rfl) rfl rfl ?_
      walk_at "W"
      refine ⟨_, rfl, trivial, by rw [zz, Qg, List.length_range]; decide, ?_⟩
      refine zAp (zX7 rd) (fun (acc : List D) (l : List Nat) (v : zAe) (c : List C) => A3 (v = ([("best", .d (.int (zGp rd)))] : zAe)) (c = zB4 tb hs rd ld [.lst ((List.range 8).map (zX7 rd))]) (acc ++ zBk ((l.filter fun ch => zDc rd ch == zGp rd).map fun (ch : Nat) => zEv (0 + (ch : Int))) = zBk (zC5 rd))) ?b4 ?s4 (List.range 8) [] _ _ ⟨rfl, rfl, rfl⟩
      case s4 =>
        rintro acc a r v c ⟨rfl, rfl, hK⟩
        rw [Qz] at hK
        refine zBt (ds := [.int (zKj rd (zEv (0 + (a : Int)))), .lst ((zEv (0 + (a : Int))).map .str)]) rfl ?_
        refine zCh ?_
        walk_at "W"
        refine zAg (fun q => ?_) (fun q => ?_)
        . rw [if_pos (show (zDc rd a == zGp rd) = true from q)] at hK
          walk_at "W"
          refine ⟨_, _, rfl, zAo.back rfl rfl rfl rfl ⟨rfl, rfl, ?_⟩⟩
          rw [← hK, Qj]; rfl
        . rw [if_neg (by rw [show (zDc rd a == zGp rd) = false from q]; decide)] at hK
          exact zAo.back rfl rfl rfl rfl ⟨rfl, rfl, hK⟩
      case b4 =>
        rintro acc v c ⟨rfl, rfl, hK⟩
        have hK' : acc = zBk (zC5 rd) := by
          have e : zBk ((([] : List Nat).filter fun ch => zDc rd ch == zGp rd).map fun (ch : Nat) => zEv (0 + (ch : Int))) = [] := rfl
          rw [e, List.append_nil] at hK; exact hK
        rw [hK']
        refine TA_name rfl ?_
        exact h
end
end
section
noncomputable def chS (c : Nat) : Str := ⟨#[c]⟩
noncomputable def zF3 (cheap : List (List Str)) (c : Nat) : List (List Str) := cheap.filter fun s => !inL s (chS c)
noncomputable def yCz (cheap : List (List Str)) : List Str := ([97, 98, 99, 100].filter fun c => (zF3 cheap c).isEmpty).map chS
noncomputable def zUb (best : Int) (c : Nat) : Int := bif chS c == Qd "a" then best else bif chS c == Qd "e" then -best else 0
theorem yQe (c : Nat -> Nat -> Bool) : zF9 c (kas_sort 2) = bif c 1 0 then #[1, 0] else #[0, 1] := by
  have e : kas_sort 2 = .ask 1 0 fun b => .ret (bif b then #[1, 0] else #[0, 1]) := by
    show KasT.ask 1 0 _ = KasT.ask 1 0 _
    congr 1
    funext b
    cases b <;> rfl
  rw [e]
  show (bif c 1 0 then #[1, 0] else #[0, 1]) = _
  rfl
noncomputable def zIp (a b : Str) : List Str := bif decide (b.cps.toList < a.cps.toList) then [b, a] else [a, b]
theorem zNk (a b : Str) : zCs [.str a, .str b] = (zIp a b).map .str := by
  unfold zCs zIp
  rw [if_neg (by simp)]
  show ((zF9 (zLs [.str a, .str b]) (kas_sort 2)).toList.map fun i => ([.str a, .str b] : List D).getD i .none) = _
  rw [yQe]
  show ((bif decide (b.cps.toList < a.cps.toList) then #[1, 0] else #[0, 1]).toList.map fun i => ([.str a, .str b] : List D).getD i .none) = _
  cases decide (b.cps.toList < a.cps.toList) <;> rfl
noncomputable def zBz (p : Str × Str) : D := .lst ((zIp p.1 p.2).map .str)
section
variable {g : G} {n : Nat} {sc : Sc} {vars : zAe} {cells : List C} {K' : V -> List C -> Prop} {KB : Bool -> List C -> Prop}
noncomputable abbrev zEy (tb : Obj) (hs rd ld : List (Str × Str)) (ct : List D) : List C := zB4 tb hs rd ld [.lst ct]
theorem yOs {es : List Ent} {scr s o : D} {tb : Obj} {hs rd ld : List (Str × Str)} {ct : List D} {snt : List (Int × Int)} {mt : List Str} {best : Int} {cheap : List (List Str)} {Kn Kc : zAe -> List C -> Prop} {Kr : V -> List C -> Prop} (hs1 : snt.length <= 100) (hc : cheap.length <= 100)
    (h1 : (snt.length : Int) = best) (h2 : mt = yCz cheap)
    (h : TSs g (n + 8) zEu (zBp.drop 17) (zYm scr s o es (.lst (zE6 snt)) (.lst (mt.map .str)) best cheap) (zEy tb hs rd ld ct) Kn Kr Kc) :
    TSs g (n + 8) zEu (zBp.drop 16) (zYm scr s o es (.lst (zE6 snt)) (.lst (mt.map .str)) best cheap) (zEy tb hs rd ld ct) Kn Kr Kc := by
  have zz : sizeLine = 16777216 := sizeLine_eq
  refine k_ss ?_
  refine k_if ?_
  refine TB_bool ?_
  refine k_or ?_
  walk_at "W"
  refine zBe (l := zE6 snt) rfl (by unfold zE6; rw [Qg]; omega) ?_
  walk_at "W"
  rw [show ((zE6 snt).length : Int) = best by unfold zE6; rw [Qg]; exact h1, show (!(best == best)) = false by simp]
  refine cond_false ?_
  refine k_or ?_
  walk_at "W"
  refine zBa (fun _ _ => rfl) rfl rfl ?_
  walk_at "W"
  refine ⟨_, rfl, trivial, by rw [zz]; decide, ?_⟩
  refine zAp (fun c : Nat => D.str ⟨#[c]⟩) (fun (acc : List D) (l : List Nat) (v : zAe) (c : List C) => A3 (v = ([("cheap", .d (.lst (zBk cheap)))] : zAe)) (c = zEy tb hs rd ld ct) (acc ++ ((l.filter fun c => (zF3 cheap c).isEmpty).map chS).map D.str = (yCz cheap).map .str)) ?b1 ?s1 [97, 98, 99, 100] [] _ _ ⟨rfl, rfl, rfl⟩
  case s1 =>
    rintro acc a r v c ⟨rfl, rfl, hK⟩
    rw [Qz] at hK
    refine TA_name rfl ?_
    refine zCh ?_
    refine k_tcmp rfl ?_
    refine zBa (fun _ _ => rfl) rfl rfl ?_
    walk_at "W"
    refine ⟨_, rfl, trivial, by rw [zz]; unfold zBk; rw [Qg]; omega, ?_⟩
    refine zAp (fun s : List Str => D.lst (s.map .str)) (fun (acc : List D) (l : List (List Str)) (v : zAe) (c : List C) => A3 (v = ([("town", .d (.str ⟨#[a]⟩))] : zAe)) (c = zEy tb hs rd ld ct) (acc ++ zBk (zF3 l a) = zBk (zF3 cheap a))) ?b2 ?s2 cheap [] _ _ ⟨rfl, rfl, rfl⟩
    case s2 =>
      rintro acc S r v c ⟨rfl, rfl, hK⟩
      unfold zF3 at hK
      rw [Qz] at hK
      refine TA_name rfl ?_
      refine zCh ?_
      walk_at "W"
      refine zDk rfl (zEb S _) ?_
      refine q_bool ?_
      refine zAg (fun q => ?_) (fun q => ?_)
      . rw [if_pos (show (!inL S (chS a)) = true from q)] at hK
        walk_at "W"
        refine ⟨_, _, rfl, zAo.back rfl rfl trivial rfl ⟨rfl, rfl, ?_⟩⟩
        unfold zF3
        rw [← hK, Qj]; rfl
      . rw [if_neg (by rw [show (!inL S (chS a)) = false from q]; decide)] at hK
        exact zAo.back rfl rfl trivial rfl ⟨rfl, rfl, hK⟩
    case b2 =>
      rintro acc v c ⟨rfl, rfl, hK2⟩
      have hK' : acc = zBk (zF3 cheap a) := by
        have e : zBk (zF3 [] a) = [] := rfl
        rw [e, List.append_nil] at hK2; exact hK2
      rw [hK']
      walk_at "f"
      refine TEs_nil ?_
      refine ⟨Qx _, [], _, rfl, ?_⟩
      refine zJ6 (m := []) rfl rfl ?_ ?_
      . induction zF3 cheap a using List.casesOn with
        | nil => exact .inr rfl
        | cons => exact .inl (by simp [zBk])
      rw [zRj, show (zBk (zF3 cheap a)).isEmpty = (zF3 cheap a).isEmpty by unfold zBk; cases zF3 cheap a <;> rfl]
      refine q_bool ?_
      refine zAg (fun q => ?_) (fun q => ?_)
      . rw [if_pos q] at hK
        walk_at "W"
        refine ⟨_, _, rfl, zAo.back rfl rfl trivial rfl ⟨rfl, rfl, ?_⟩⟩
        rw [← hK, Qj]; rfl
      . rw [if_neg (by rw [q]; decide)] at hK
        exact zAo.back rfl rfl trivial rfl ⟨rfl, rfl, hK⟩
  case b1 =>
    rintro acc v c ⟨rfl, rfl, hK⟩
    have hK' : acc = (yCz cheap).map D.str := by simpa using hK
    rw [hK', ← h2]
    refine zDy rfl rfl (.inr (zFv _ _ rfl)) ?_
    rw [zJz]
    refine q_bool ?_
    refine cond_false ?_
    refine TBall_nil ?_
    refine cond_false ?_
    refine TSs_nil ?_
    exact h
end
end
section
theorem zOm : ∀ (l : List Int), zI1 (l.map .int) (l.map .int) = true := by
  intro l
  induction l with
  | nil =>
    exact rfl
  | cons x l ih =>
    show (x == x && zI1 (l.map .int) (l.map .int)) = true
    rw [ih]; simp
theorem zHl : ∀ (l m : List Int), l.length = m.length -> zC0 8 (l.map .int) (m.map .int) = true
  | [], [], _ => rfl
  | x :: l, y :: m, h => zHl l m (by simpa using h)
theorem zWn : ∀ (l : List (List Str)), zC0 8 (zBk l) (zBk l) = true := by
  intro l
  induction l with
  | nil =>
    exact rfl
  | cons s l ih =>
    show (zRz 8 (.lst (s.map .str)) (.lst (s.map .str)) && zC0 8 (zBk l) (zBk l)) = true
    rw [ih, Bool.and_true]
    show (((s.map D.str).length != (s.map D.str).length) || zC0 7 (s.map .str) (s.map .str)) = true
    have : ∀ s : List Str, zC0 7 (s.map .str) (s.map .str) = true := by
      intro s
      induction s with
      | nil => rfl
      | cons x s ih => exact ih
    rw [this, Bool.or_true]
section
variable {g : G} {n : Nat} {sc : Sc} {vars : zAe} {cells : List C} {K' : V -> List C -> Prop} {KB : Bool -> List C -> Prop}
noncomputable abbrev zVi (sc s o : D) (es : List Ent) (sent met : D) (best : Int) (cheap : List (List Str)) (len : D) : zAe := [("script", .d sc), ("some", .d s), ("own", .d o), ("entries", .d (.lst (zHc es))), ("lexer", .obj 76 4), ("words", .d (.lst ((es.map Ent.word ++ [Qd ""]).map .str))), ("net", .obj 288 6), ("roads", .loc 8), ("laid", .loc 9), ("sent", .d sent), ("met", .d met), ("cuts", .loc 10), ("best", .d (.int best)), ("cheap", .d (.lst (zBk cheap))), ("lengths", .d len)]
theorem yN6 {es : List Ent} {scr s o met : D} {tb : Obj} {hs rd ld : List (Str × Str)} {ct : List D} {snt : List (Int × Int)} {best : Int} {cheap : List (List Str)} {Kn Kc : zAe -> List C -> Prop} {Kr : V -> List C -> Prop} (hs1 : snt.length < 60)
    (h1 : snt.map (·.1) = snt.map (·.2)) (h2 : zCs ((snt.map (·.1)).map .int) = (snt.map (·.1)).map .int)
    (h : TSs g (n + 8) zEu (zBp.drop 19) (zVi scr s o es (.lst (zE6 snt)) met best cheap (.lst ((snt.map (·.1)).map .int))) (zEy tb hs rd ld ct) Kn Kr Kc) :
    TSs g (n + 8) zEu (zBp.drop 17) (zYm scr s o es (.lst (zE6 snt)) met best cheap) (zEy tb hs rd ld ct) Kn Kr Kc := by
  have zz : sizeLine = 16777216 := sizeLine_eq
  have lz : (zE6 snt).length <= sizeLine := by rw [zz]; unfold zE6; rw [Qg]; omega
  refine k_ss ?_
  refine zDq rfl rfl (fun _ _ => rfl) rfl rfl ?_
  walk_at "W"
  refine ⟨_, rfl, trivial, lz, ?_⟩
  refine zAp (fun p : Int × Int => D.tup [.int p.1, .int p.2]) (fun (acc : List D) (l : List (Int × Int)) (v : zAe) (c : List C) => A3 (v = ([] : zAe)) (c = zEy tb hs rd ld ct) (acc ++ (l.map (·.1)).map D.int = (snt.map (·.1)).map D.int)) ?b1 ?s1 snt [] _ _ ⟨rfl, rfl, rfl⟩
  case s1 =>
    rintro acc p r v c ⟨rfl, rfl, hK⟩
    refine zBt rfl ?_
    refine zBs ?_
    refine cond_true ?_
    walk_at "W"
    refine ⟨_, _, rfl, zAo.back rfl rfl trivial rfl ⟨rfl, rfl, ?_⟩⟩
    rw [← hK, Qj]; rfl
  case b1 =>
    rintro acc v c ⟨rfl, rfl, hK⟩
    have hK' : acc = (snt.map (·.1)).map D.int := by simpa using hK
    rw [hK']
    refine TA_name rfl ?_
    refine k_ss ?_
    refine k_if ?_
    refine TB_bool ?_
    refine k_or ?_
    walk_at "W"
    refine zBa (fun _ _ => rfl) rfl rfl ?_
    walk_at "W"
    refine ⟨_, rfl, trivial, lz, ?_⟩
    refine zAp (fun p : Int × Int => D.tup [.int p.1, .int p.2]) (fun (acc : List D) (l : List (Int × Int)) (v : zAe) (c : List C) => A3 (v = ([] : zAe)) (c = zEy tb hs rd ld ct) (acc ++ (l.map (·.2)).map D.int = (snt.map (·.2)).map D.int)) ?b2 ?s2 snt [] _ _ ⟨rfl, rfl, rfl⟩
    case s2 =>
      rintro acc p r v c ⟨rfl, rfl, hK⟩
      refine zBt rfl ?_
      refine zBs ?_
      refine cond_true ?_
      walk_at "W"
      refine ⟨_, _, rfl, zAo.back rfl rfl trivial rfl ⟨rfl, rfl, ?_⟩⟩
      rw [← hK, Qj]; rfl
    case b2 =>
      rintro acc v c ⟨rfl, rfl, hK⟩
      have hK2 : acc = (snt.map (·.2)).map D.int := by simpa using hK
      rw [hK2, ← h1]
      refine zDy rfl rfl (.inr (zHl _ _ rfl)) ?_
      rw [zOm]
      refine q_bool ?_
      refine cond_false ?_
      refine k_or ?_
      walk_at "W"
      refine zCo rfl (by rw [Qg, Qg]; omega) (.inl fun d hd => by obtain ⟨x, _, rfl⟩ := Qq.mp hd; exact ⟨x, rfl⟩) ?_
      rw [h2]
      refine zDy rfl rfl (.inr (zHl _ _ rfl)) ?_
      rw [zOm]
      refine q_bool ?_
      refine cond_false ?_
      refine TBall_nil ?_
      refine cond_false ?_
      refine TSs_nil ?_
      exact h
theorem yOu {es : List Ent} {scr s o sent met len : D} {tb : Obj} {hs rd ld : List (Str × Str)} {ct : List D} {best : Int} {cheap : List (List Str)} {Kn Kc : zAe -> List C -> Prop} {Kr : V -> List C -> Prop} (hh : zDg hs) (hz : hs.length <= 40) (hr : rd.length <= 40)
    (h1 : ∀ c, zBh c -> ((zAm hs (Txt.upper (chS c))).length : Int) = ((rd.filter fun p => p.1 == chS c).length : Int) - zUb best c)
    (h : TSs g (n + 8) zEu (zBp.drop 20) (zVi scr s o es sent met best cheap len) (zEy tb hs rd ld ct) Kn Kr Kc) :
    TSs g (n + 8) zEu (zBp.drop 19) (zVi scr s o es sent met best cheap len) (zEy tb hs rd ld ct) Kn Kr Kc := by
  have zz : sizeLine = 16777216 := sizeLine_eq
  refine k_ss ?_
  refine zDu (fun _ _ => rfl) rfl ?_
  walk_at "W"
  refine ⟨_, rfl, trivial, ?_⟩
  refine zBv (fun c : Nat => D.str ⟨#[c]⟩) (fun (l : List Nat) (v : zAe) (c : List C) => A3 (v = zVi scr s o es sent met best cheap len) (c = zEy tb hs rd ld ct) (∀ c ∈ l, zBh c)) ?base ?step [97, 98, 99, 100, 101] _ _ ⟨rfl, rfl, fun c hc => by simp at hc; unfold zBh; omega⟩
  case base =>
    rintro v c ⟨rfl, rfl, -⟩
    exact h
  case step =>
    rintro t r v c KN hN ⟨rfl, rfl, ht⟩
    have tk := ht t (.head _)
    have tl := zRn tk
    have nt := zAt tl
    have gl := zHn (hs := hs) (x := Txt.upper (chS t))
    refine TA_name rfl ?_
    refine k_ss ?_
    walk_at "W"
    refine zG2 (fun u c => u = .d (.int (zUb best t)) /\ c = zEy tb hs rd ld ct) ?_ ?_
    . refine zAg (fun q => ?_) (fun q => ?_)
      . have e : zUb best t = best := by unfold zUb; rw [show (chS t == Qd "a") = true from q]; rfl
        walk_at "W"
        exact ⟨by rw [e], rfl⟩
      . walk_at "W"
        refine zAg (fun q2 => ?_) (fun q2 => ?_)
        . have e : zUb best t = -best := by unfold zUb; rw [show (chS t == Qd "a") = false from q, show (chS t == Qd "e") = true from q2]; rfl
          refine zQm ?_
          walk_at "W"
          refine zKr ?_
          exact ⟨by rw [e], rfl⟩
        . have e : zUb best t = 0 := by unfold zUb; rw [show (chS t == Qd "a") = false from q, show (chS t == Qd "e") = false from q2]; rfl
          walk_at "W"
          exact ⟨by rw [e], rfl⟩
    rintro u c ⟨rfl, rfl⟩
    walk_at "W"
    refine zCe nt.up ?_
    walk_at "W"
    refine zD2 (i := 6) (j := 7) (ds := [.str (Txt.upper (chS t))]) (hs' := hs) (r := .lst ((zAm hs (Txt.upper (chS t))).map .str)) rfl rfl (by decide) (fun K2 h2 => zIw hh nt.memU (by omega) h2) (c' := zEy tb hs rd ld ct) rfl ?_
    walk_at "W"
    refine zBe (l := (zAm hs (Txt.upper (chS t))).map .str) rfl (by rw [Qg]; omega) ?_
    rw [Qg]
    walk_at "W"
    refine zBa (fun _ _ => rfl) rfl rfl ?_
    walk_at "W"
    refine ⟨_, rfl, trivial, by rw [zz]; unfold zBb; rw [Qg]; omega, ?_⟩
    refine zAp (fun p : Str × Str => D.tup [.str p.1, .str p.2]) (fun (acc : List D) (l : List (Str × Str)) (v : zAe) (c : List C) => A3 (v = ([("town", .d (.str ⟨#[t]⟩))] : zAe)) (c = zEy tb hs rd ld ct) (acc.length + (l.filter fun p => p.1 == chS t).length = (rd.filter fun p => p.1 == chS t).length)) ?b1 ?s1 rd [] _ _ ⟨rfl, rfl, Nat.zero_add _⟩
    case s1 =>
      rintro acc p r v c ⟨rfl, rfl, hK⟩
      rw [Qz] at hK
      refine zBt rfl ?_
      refine zCh ?_
      walk_at "W"
      refine zAg (fun q => ?_) (fun q => ?_)
      . rw [if_pos (show (p.1 == chS t) = true from q)] at hK
        walk_at "W"
        refine ⟨_, _, rfl, zAo.back rfl rfl rfl rfl ⟨rfl, rfl, ?_⟩⟩
        rw [← hK, Qi, Qh]; simp only [Qh, List.length_nil]; omega
      . rw [if_neg (by rw [show (p.1 == chS t) = false from q]; decide)] at hK
        exact zAo.back rfl rfl rfl rfl ⟨rfl, rfl, hK⟩
    case b1 =>
      rintro acc v c ⟨rfl, rfl, hK⟩
      have hK' : acc.length = (rd.filter fun p => p.1 == chS t).length := by simpa using hK
      have fl := List.length_filter_le (fun p : Str × Str => p.1 == chS t) rd
      walk_at "W"
      refine zBe (l := acc) rfl (by omega) ?_
      rw [hK']
      walk_at "W"
      rw [h1 t tk, show (!((((rd.filter fun p => p.1 == chS t).length : Int) - zUb best t) == (((rd.filter fun p => p.1 == chS t).length : Int) - zUb best t))) = false by simp]
      refine cond_false ?_
      refine TSs_nil ?_
      refine TSs_nil ?_
      exact zAo.to hN rfl rfl trivial rfl ⟨rfl, rfl, fun c hc => ht c (.tail _ hc)⟩
end
end
section
noncomputable def zGb (hs : List (Str × Str)) : List D := hs.map fun p => zBz (Txt.lower p.1, zAv p.2)
noncomputable def zH9 (rd : List (Str × Str)) : List D := rd.map zBz
section
variable {g : G} {n : Nat} {sc : Sc} {vars : zAe} {cells : List C} {K' : V -> List C -> Prop} {KB : Bool -> List C -> Prop}
theorem yQq {es : List Ent} {scr s o sent met len : D} {tb : Obj} {hs rd ld : List (Str × Str)} {ct : List D} {best : Int} {cheap : List (List Str)} {Kn Kc : zAe -> List C -> Prop} {Kr : V -> List C -> Prop} (hh : zDg hs) (hz : hs.length <= 40) (hr : rd.length <= 40)
    (h1 : ∃ m, zCs (zGb hs) = zBk m /\ zCs (zH9 rd) = zBk m)
    (h : ∀ c, Kr (.d (.bool true)) (zEy tb hs rd ld c)) :
    TSs g (n + 8) zEu (zBp.drop 20) (zVi scr s o es sent met best cheap len) (zEy tb hs rd ld ct) Kn Kr Kc := by
  have zz : sizeLine = 16777216 := sizeLine_eq
  obtain ⟨m, m1, m2⟩ := h1
  refine k_ss ?_
  walk_at "W"
  refine zBa (fun _ _ => rfl) rfl rfl ?_
  walk_at "W"
  refine zD2 (i := 6) (j := 7) (ds := []) (hs' := hs) (r := .lst (zBb hs)) rfl rfl (by decide) (fun K2 h2 => yC2 (by omega) h2) (c' := zEy tb hs rd ld ct) rfl ?_
  refine ⟨_, rfl, trivial, by rw [zz]; unfold zBb; rw [Qg]; omega, ?_⟩
  refine zAp (fun p : Str × Str => D.tup [.str p.1, .str p.2]) (fun (acc : List D) (l : List (Str × Str)) (v : zAe) (c : List C) => A4 (v = ([] : zAe)) (c = zEy tb hs rd ld ct) ((∀ p ∈ l, p.1 ∈ zAj /\ p.2 ∈ zBd)) (acc ++ zGb l = zGb hs)) ?b1 ?s1 hs [] _ _ ⟨rfl, rfl, hh, rfl⟩
  case s1 =>
    rintro acc p r v c ⟨rfl, rfl, hl, hK⟩
    have hp := hl p (.head _)
    have nf := zAt hp.1
    have hx : 1 <= p.2.cps.size := by simpa using Qf.mp zD8 p.2 hp.2
    refine zBt rfl ?_
    refine zBs ?_
    refine cond_true ?_
    walk_at "W"
    walk_at "f"
    walk_at "W"
    refine zBx nf.lo ?_
    walk_at "W"
    refine zC1 ⟨by decide, by decide⟩ (zGe hx) ?_
    walk_at "W"
    refine ⟨Qe rfl, _, _, zAz (zAz zA7), ?_⟩
    walk_at "W"
    refine zCo (l := [.str (Txt.lower p.1), .str (zAv p.2)]) rfl (by simp) (.inr (.inl fun d hd => by
      simp at hd; rcases hd with rfl | rfl <;> exact ⟨_, rfl⟩)) ?_
    rw [zNk]
    refine ⟨_, _, rfl, zAo.back rfl rfl trivial rfl ⟨rfl, rfl, fun q hq => hl q (.tail _ hq), ?_⟩⟩
    rw [← hK, Qj]; rfl
  case b1 =>
    rintro acc v c ⟨rfl, rfl, -, hK⟩
    have hK' : acc = zGb hs := by
      have e : zGb [] = [] := rfl
      rw [e, List.append_nil] at hK; exact hK
    rw [hK']
    walk_at "W"
    refine zCo rfl (by unfold zGb; rw [Qg]; omega) (.inr (.inr fun d hd => by
      unfold zGb at hd
      obtain ⟨x, _, rfl⟩ := Qq.mp hd; exact ⟨_, rfl⟩)) ?_
    rw [m1]
    walk_at "W"
    refine zBa (fun _ _ => rfl) rfl rfl ?_
    walk_at "W"
    refine ⟨_, rfl, trivial, by rw [zz]; unfold zBb; rw [Qg]; omega, ?_⟩
    refine zAp (fun p : Str × Str => D.tup [.str p.1, .str p.2]) (fun (acc : List D) (l : List (Str × Str)) (v : zAe) (c : List C) => A3 (v = ([] : zAe)) (c = zEy tb hs rd ld ct) (acc ++ zH9 l = zH9 rd)) ?b2 ?s2 rd [] _ _ ⟨rfl, rfl, rfl⟩
    case s2 =>
      rintro acc p r v c ⟨rfl, rfl, hK⟩
      refine zBt rfl ?_
      refine zBs ?_
      refine cond_true ?_
      walk_at "W"
      walk_at "f"
      walk_at "W"
      refine ⟨Qe rfl, _, _, zAz (zAz zA7), ?_⟩
      walk_at "W"
      refine zCo (l := [.str p.1, .str p.2]) rfl (by simp) (.inr (.inl fun d hd => by
        simp at hd; rcases hd with rfl | rfl <;> exact ⟨_, rfl⟩)) ?_
      rw [zNk]
      refine ⟨_, _, rfl, zAo.back rfl rfl rfl rfl ⟨rfl, rfl, ?_⟩⟩
      rw [← hK, Qj]; rfl
    case b2 =>
      rintro acc v c ⟨rfl, rfl, hK⟩
      have hK2 : acc = zH9 rd := by
        have e : zH9 [] = [] := rfl
        rw [e, List.append_nil] at hK; exact hK
      rw [hK2]
      walk_at "W"
      refine zCo rfl (by unfold zH9; rw [Qg]; omega) (.inr (.inr fun d hd => by
        unfold zH9 at hd
        obtain ⟨x, _, rfl⟩ := Qq.mp hd; exact ⟨_, rfl⟩)) ?_
      rw [m2]
      refine zJ6 (l := zBk m) (m := zBk m) rfl rfl (.inr (zWn m)) ?_
      rw [zEe]
      exact h ct
end
end
section
structure yEw (es : List Ent) : Prop where
  len : es.length = 6
  ent : ∀ k, zEz (zBu es k)
  body : ∀ k, (zBu es k).body.length <= 40
  tok : zHq 7 (zD9 es).cps.toList 1 = (es.map Ent.word ++ [Qd ""], [], 3)
  all : ∀ c, zBh c -> zAm (zBy es 6) (Txt.upper ⟨#[c]⟩) = ((zB8 es 6).filter fun p => p.1 == (⟨#[c]⟩ : Str)).map (·.2)
  sent : ∃ R mt, zF8 14 (zBy es 6) [] = some R /\ R.sent.length < 60 /\ (R.sent.length : Int) = zGp (zA0 es 6) /\ zCs (R.names.map .str) = mt.map .str /\ mt = yCz (zC5 (zA0 es 6)) /\
    R.sent.map (·.1) = R.sent.map (·.2) /\ zCs ((R.sent.map (·.1)).map .int) = (R.sent.map (·.1)).map .int /\
    (∀ c, zBh c -> ((zAm R.hs (Txt.upper (chS c))).length : Int) = (((zA0 es 6).filter fun p => p.1 == chS c).length : Int) - zUb (zGp (zA0 es 6)) c) /\
    ∃ m, zCs (zGb R.hs) = zBk m /\ zCs (zH9 (zA0 es 6)) = zBk m
section
variable {g : G} {n : Nat} {cells : List C} {K' : V -> List C -> Prop}
theorem yQx {is : List Int} (hz : is.length <= 63) (hF : ∀ xs : List Int, xs.length = 6 -> (∀ x ∈ xs, 0 <= x /\ x < 1000000000) -> yEw (xs.map zAd)) (h : ∀ ps c, K' (.d (.bool true)) (.raw 0 (tabObj ps) :: c)) :
    zAb g (n + 9) (.stat 17) [.d (.lst (is.map .int))] [] [.raw 0 (tabObj #[])] K' := by
  refine zBg (a := 331) (st := zAq "law") (names := ["script"]) (Qk (show zA8[9]? = some _ from rfl)) rfl (by kernel_rfl) ?_ rfl (by kernel_rfl) ?_
  . intro fd hp hd vals hv
    obtain ⟨a, rfl⟩ := zKb hv
    unfold bindArgs
    rw [hp, hd]
    kernel_rfl
  . refine yQu (n := n + 6) (is := is) (by omega) fun xs hx hb s o => ?_
    have F := hF xs hx hb
    generalize xs.map zAd = es at F ⊢
    have RL := zFa F.ent 6
    refine yQo (n := n + 2) F.len F.body F.tok fun ps => ?_
    refine yOy (n := n + 2) F.len F.ent ?_
    refine yOm (n := n + 2) F.len F.ent F.all ?_
    obtain ⟨R, mt, hR, h60, hb1, hs1, hm, hl1, hl2, hd, hp⟩ := F.sent
    refine yPc (n := n) hR (zQy F.ent 6) (by omega) fun hh hz2 => ?_
    rw [hs1]
    refine yQt (n := n) (by omega) ?_
    refine yOs (n := n) (by omega) (by
      unfold zC5
      rw [Qg]
      have := List.length_filter_le (fun ch => zDc (zA0 es 6) ch == zGp (zA0 es 6)) (List.range 8)
      rw [List.length_range] at this; omega) hb1 hm ?_
    refine yN6 (n := n) h60 hl1 hl2 ?_
    refine yOu (n := n) hh hz2 (by omega) hd ?_
    exact yQq (n := n) hh hz2 (by omega) hp fun c => h ps _
end
end
end
section
noncomputable def yBw (a b t : Nat) : Nat := (zKd [97, 65, 119808 + 52 * zKd zVv (b : Int)] (a : Int) + (t : Int)).toNat
noncomputable def zUh : List Nat := (List.range 3).flatMap fun a => (List.range 10).flatMap fun b => (List.range 5).map fun t => yBw a b t
noncomputable def zSi : List Nat := zW2.map Int.toNat
noncomputable def zHg : List Nat := zSi ++ (zUh ++ [39, 120, 88, 64256, 329, 32, 34, 92])
theorem zCr (y : Int) {k : Nat} (hk : 0 < k) : ∃ m : Nat, y.fmod (k : Int) = (m : Int) /\ m < k := by
  have b := zBm y (k := (k : Int)) (by omega)
  exact ⟨(y.fmod (k : Int)).toNat, by omega, by omega⟩
theorem zUy (y : Int) (t : Nat) : ∃ a b, a < 3 /\ b < 10 /\ yC4 y (t : Int) = (⟨#[yBw a b t]⟩ : Str) := by
  obtain ⟨a, ea, ha⟩ := zCr y (k := 3) (by decide)
  obtain ⟨b, eb, hb⟩ := zCr (y.fdiv 3) (k := 10) (by decide)
  refine ⟨a, b, ha, hb, ?_⟩
  unfold yC4 zS0 yBw
  rw [show y.fmod 3 = (a : Int) from ea, show (y.fdiv 3).fmod 10 = (b : Int) from eb]
theorem zMe {a b t : Nat} (ha : a < 3) (hb : b < 10) (ht : t < 5) : yBw a b t ∈ zUh := by
  unfold zUh
  exact List.mem_flatMap.mpr ⟨a, List.mem_range.mpr ha, List.mem_flatMap.mpr ⟨b, List.mem_range.mpr hb, Qq.mpr ⟨t, List.mem_range.mpr ht, rfl⟩⟩⟩
theorem zCb (x y : Str) : (x ++ y).cps.toList = x.cps.toList ++ y.cps.toList := by
  show (x.cps ++ y.cps).toList = _; simp
theorem zL9 {x y : Str} (h : x.cps.toList = y.cps.toList) : x = y := by
  cases x; cases y; congr 1; exact Array.toList_inj.mp h
theorem zJs (x : Str) : x ++ (Qd "") = x := zL9 (by rw [zCb]; show x.cps.toList ++ [] = _; simp)
theorem zHk (x : Str) : (Qd "") ++ x = x := zL9 (by rw [zCb]; rfl)
theorem zJy (x y z : Str) : x ++ y ++ z = x ++ (y ++ z) := zL9 (by simp only [zCb, Qj])
theorem yBu : ∀ (l m : List Str), zLi (l ++ m) = zLi l ++ zLi m := by
  intro l
  induction l with
  | nil =>
    rintro m
    exact (zHk _).symm
  | cons x l ih =>
    rintro m
    show x ++ zLi (l ++ m) = x ++ zLi l ++ zLi m
    rw [ih m, zJy]
theorem zR0 : ∀ (l : List Str), (zLi l).cps.toList = l.flatMap fun x => x.cps.toList := by
  intro l
  induction l with
  | nil =>
    exact rfl
  | cons x l ih =>
    show (x ++ zLi l).cps.toList = _
    rw [zCb, ih]; rfl
theorem zXx (x y : Str) : zEl (x ++ y) = zEl x ++ zEl y := by
  unfold zEl; rw [zCb, List.filter_append, Qt, yBu]
set_option genInjectivity false in
set_option genSizeOf false in
structure zCg (e : Ent) where
  kd : Nat
  t0 : Nat
  t1 : Nat
  a0 : Nat
  b0 : Nat
  a1 : Nat
  b1 : Nat
  gp : Nat
  gs : Nat
  ct : Nat
  nt : Nat
  wy : Nat
  hkd : kd < 8
  ht0 : t0 < 4
  ht1 : 1 <= t1 /\ t1 < 5
  ha0 : a0 < 3
  hb0 : b0 < 10
  ha1 : a1 < 3
  hb1 : b1 < 10
  hgp : gp < 3
  hgs : gs ∈ zSi
  hct : ct < 4
  hnt : nt < 8
  hwy : wy < 3
  ekd : e.kind = (kd : Int)
  et0 : e.t0 = (t0 : Int)
  et1 : e.t1 = (t1 : Int)
  es0 : e.s0 = bif kd == 2 then (Qd "") else (⟨#[yBw a0 b0 t0]⟩ : Str)
  es1 : e.s1 = (⟨#[yBw a1 b1 t1]⟩ : Str)
  egp : e.gp = (gp : Int)
  egs : e.gs = (⟨#[gs]⟩ : Str)
  ect : e.carts = zEm ["", "X", "xX", ⟨#[64256]⟩] (ct : Int)
  epl : e.plain = zEm ["", "x", "xx", "ff"] (ct : Int)
  ent : e.note = bif decide (kd < 2) then ⟨#[329]⟩ else zEm zCu (nt : Int)
  etk : e.tk = zCy.getD (min kd 2) []
  ewy : e.way = (wy : Int)
theorem zKw (x : Int) : Nonempty (zCg (zAd x)) := by
  obtain ⟨kd, h1, h1'⟩ := zCr x (k := 8) (by decide)
  obtain ⟨t0, h2, h2'⟩ := zCr (x.fdiv 8) (k := 4) (by decide)
  obtain ⟨t1, h3, h3'⟩ := zCr (x.fdiv 32) (k := 4) (by decide)
  obtain ⟨gp, h4, h4'⟩ := zCr ((((x.fdiv 128).fdiv 30).fdiv 30).fdiv 27) (k := 3) (by decide)
  obtain ⟨gs, h5, h5'⟩ := zCr (((x.fdiv 128).fdiv 30).fdiv 30) (k := 27) (by decide)
  obtain ⟨ct, h6, h6'⟩ := zCr ((((x.fdiv 128).fdiv 30).fdiv 30).fdiv 81) (k := 4) (by decide)
  obtain ⟨nt, h7, h7'⟩ := zCr (((((x.fdiv 128).fdiv 30).fdiv 30).fdiv 81).fdiv 4) (k := 8) (by decide)
  obtain ⟨wy, h8, h8'⟩ := zCr (((((x.fdiv 128).fdiv 30).fdiv 30).fdiv 81).fdiv 32) (k := 3) (by decide)
  obtain ⟨a0, b0, ha0, hb0, e0⟩ := zUy (x.fdiv 128) t0
  obtain ⟨a1, b1, ha1, hb1, e1⟩ := zUy ((x.fdiv 128).fdiv 30) (1 + t1)
  have q1 : x.fmod 8 = (kd : Int) := h1
  have q2 : (x.fdiv 8).fmod 4 = (t0 : Int) := h2
  have q3 : (x.fdiv 32).fmod 4 = (t1 : Int) := h3
  have q6 : ((((x.fdiv 128).fdiv 30).fdiv 30).fdiv 81).fmod 4 = (ct : Int) := h6
  refine ⟨{ kd, t0, t1 := 1 + t1, a0, b0, a1, b1, gp, gs := (zKd zW2 (gs : Int)).toNat, ct, nt, wy, hkd := h1', ht0 := h2', ht1 := by omega, ha0, hb0, ha1, hb1, hgp := h4', hgs := ?_, hct := h6', hnt := h7', hwy := h8', ekd := h1, et0 := h2, et1 := ?_, es0 := ?_, es1 := ?_, egp := h4, egs := ?_, ect := ?_, epl := ?_, ent := ?_, etk := ?_, ewy := h8 }⟩
  . unfold zSi zKd
    have hl : (gs : Int).toNat < zW2.length := by show gs < 27; exact h5'
    have e : zW2.getD (gs : Int).toNat 0 = zW2[(gs : Int).toNat] := by simp [show gs < zW2.length from hl]
    rw [e]
    exact Qq.mpr ⟨_, List.getElem_mem hl, rfl⟩
  . show 1 + (x.fdiv 32).fmod 4 = _; rw [q3]; omega
  . show (bif x.fmod 8 == 2 then _ else yC4 (x.fdiv 128) ((x.fdiv 8).fmod 4)) = _
    rw [q1, q2, e0]
    have : ((kd : Int) == 2) = (kd == 2) := by
      by_cases h : kd = 2
      . subst h; rfl
      . rw [show (kd == 2) = false by simpa using h]; simp; omega
    rw [this]
  . show yC4 ((x.fdiv 128).fdiv 30) (1 + (x.fdiv 32).fmod 4) = _
    rw [q3, show (1 : Int) + (t1 : Int) = ((1 + t1 : Nat) : Int) by omega, e1]
  . show zS0 (zKd zW2 ((((x.fdiv 128).fdiv 30).fdiv 30).fmod 27)) = _
    rw [show (((x.fdiv 128).fdiv 30).fdiv 30).fmod 27 = (gs : Int) from h5]; rfl
  . show zEm _ _ = _; rw [q6]
  . show zEm _ _ = _; rw [q6]
  . show (bif decide (x.fmod 8 < 2) then _ else zEm zCu _) = _
    rw [q1, show (((((x.fdiv 128).fdiv 30).fdiv 30).fdiv 81).fdiv 4).fmod 8 = (nt : Int) from h7]
    have : decide ((kd : Int) < 2) = decide (kd < 2) := by
      by_cases h : kd < 2
      . rw [decide_eq_true h, decide_eq_true (by omega)]
      . rw [decide_eq_false h, decide_eq_false (by omega)]
    rw [this]
  . show zCy.getD _ [] = _
    rw [q1]
    congr 1
    split <;> omega
end
section
theorem zXm : (zSi.all fun g => zEl ⟨#[g]⟩ == (Qd "")) = true := by decide +kernel
theorem zXr : ((List.range 3).all fun a => (List.range 10).all fun b => (List.range 5).all fun t => zEl ⟨#[yBw a b t]⟩ == (⟨#[97 + t]⟩ : Str)) = true := by decide +kernel
theorem zS9 : ((List.range 4).all fun k => zEl (zEm ["", "X", "xX", ⟨#[64256]⟩] (k : Int)) == zEm ["", "x", "xx", "ff"] (k : Int)) = true := by decide +kernel
theorem zTk : (zCy.all fun l => l.all fun x => zEl x == x) = true := by decide +kernel
theorem zT2 : (zCu.all fun x => zEl x == yA5 x) = true := by decide +kernel
noncomputable def p0C (kd t0 : Nat) : Str := bif kd == 2 then (Qd "") else ⟨#[97 + t0]⟩
noncomputable def p1C (ct : Nat) : Str := zEm ["", "x", "xx", "ff"] (ct : Int)
noncomputable def p2C (t1 : Nat) (note : Str) : Str := (⟨#[97 + t1]⟩ : Str) ++ yA5 note
noncomputable def zVn (p0 p1 p2 : Str) : Bool := Txt.splitMax (p0 ++ "'" ++ p1 ++ "'" ++ p2) "'" 2 == [p0, p1, p2]
noncomputable def p0s : List Str := ["", "a", "b", "c", "d"]
noncomputable def p1s : List Str := ["", "x", "xx", "ff"]
noncomputable def p2s : List Str := ([1, 2, 3, 4] : List Nat).flatMap fun t => zCu.map fun n => p2C t n
theorem zWl : (p0s.all fun a => p1s.all fun b => p2s.all fun c => zVn a b c) = true := by decide +kernel
noncomputable def yJo (s : Str) : Bool := decide ((Txt.splitMax s "'" 2).length <= 2)
noncomputable def q2s : List Str := ([1, 2, 3, 4] : List Nat).map fun t => p2C t ⟨#[329]⟩
theorem yEe : (p0s.all fun a => p1s.all fun b => q2s.all fun c => yJo (a ++ "'" ++ b ++ c) && yJo (a ++ b ++ c)) = true := by decide +kernel
end
section
theorem yQv {P : Nat -> Nat -> Nat -> Bool} {l m n a b c : Nat} (h : ((List.range l).all fun a => (List.range m).all fun b => (List.range n).all fun c => P a b c) = true) (ha : a < l) (hb : b < m) (hc : c < n) : P a b c = true :=
  Qf.mp (Qf.mp (Qf.mp h a (List.mem_range.mpr ha)) b (List.mem_range.mpr hb)) c (List.mem_range.mpr hc)
theorem zVm {a b t : Nat} (ha : a < 3) (hb : b < 10) (ht : t < 5) : zEl ⟨#[yBw a b t]⟩ = (⟨#[97 + t]⟩ : Str) := by simpa using yQv zXr ha hb ht
theorem zHs {e : Ent} (d : zCg e) (k : Nat) : e.gaps.getD k "" = (Qd "") ∨ e.gaps.getD k "" = (⟨#[d.gs]⟩ : Str) := by
  unfold Ent.gaps
  rw [d.egs]
  by_cases h : k < ((["", "", ""] : List Str).set e.gp.toNat (⟨#[d.gs]⟩ : Str)).length
  . have e1 : ((["", "", ""] : List Str).set e.gp.toNat (⟨#[d.gs]⟩ : Str)).getD k "" = ((["", "", ""] : List Str).set e.gp.toNat (⟨#[d.gs]⟩ : Str))[k] := by simp [show k < 3 by simpa using h]
    rw [e1]
    rcases List.mem_or_eq_of_mem_set (List.getElem_mem h) with q | q
    . left; simpa using q
    . right; exact q
  . left
    have h' : ((["", "", ""] : List Str).set e.gp.toNat (⟨#[d.gs]⟩ : Str)).length <= k := Nat.le_of_not_lt h
    simp [List.getElem?_eq_none h']
theorem zOx {e : Ent} (d : zCg e) (k : Nat) : zEl (e.gaps.getD k "") = (Qd "") := by
  rcases zHs d k with q | q
  . rw [q]; rfl
  . rw [q]; simpa using Qf.mp zXm _ d.hgs
theorem yCm {e : Ent} (d : zCg e) : e.tk ∈ zCy := by
  rw [d.etk]
  have h : min d.kd 2 < zCy.length := by show _ < 3; omega
  have e1 : zCy.getD (min d.kd 2) [] = zCy[min d.kd 2] := by simp [h]
  rw [e1]; exact List.getElem_mem h
theorem yIp {e : Ent} (d : zCg e) (k : Nat) : zEl (e.tk.getD k "") = e.tk.getD k "" := by
  have h := Qf.mp zTk _ (yCm d)
  by_cases hk : k < e.tk.length
  . have e1 : e.tk.getD k "" = e.tk[k] := by simp [hk]
    rw [e1]; simpa using Qf.mp h _ (List.getElem_mem hk)
  . have e1 : e.tk.getD k "" = (Qd "") := by simp [List.getElem?_eq_none (Nat.le_of_not_lt hk)]
    rw [e1]; rfl
theorem zHa {e : Ent} (d : zCg e) : e.note ∈ zCu := by
  rw [d.ent]
  cases decide (d.kd < 2)
  . show zEm zCu (d.nt : Int) ∈ zCu
    unfold zEm
    have h : (d.nt : Int).toNat < zCu.length := by have := d.hnt; show _ < 8; omega
    have e1 : zCu.getD (d.nt : Int).toNat "" = zCu[(d.nt : Int).toNat] := by simp [show d.nt < zCu.length from h]
    rw [e1]; exact List.getElem_mem h
  . show (⟨#[329]⟩ : Str) ∈ zCu; decide
theorem yDz {e : Ent} (d : zCg e) : zEl e.note = yA5 e.note := by simpa using Qf.mp zT2 _ (zHa d)
theorem zK7 {e : Ent} (d : zCg e) : e.p 0 = p0C d.kd d.t0 := by
  show (bif e.kind == 2 then (Qd "") else zS0 (97 + e.t0)) = _
  unfold p0C zS0
  rw [d.ekd, d.et0]
  have : ((d.kd : Int) == 2) = (d.kd == 2) := by
    by_cases h : d.kd = 2
    . rw [h]; rfl
    . rw [show (d.kd == 2) = false by simpa using h]; simp; omega
  rw [this, show (97 + (d.t0 : Int)).toNat = 97 + d.t0 by omega]
theorem yCe {e : Ent} (d : zCg e) : e.p 1 = p1C d.ct := d.epl
theorem zNm {e : Ent} (d : zCg e) : e.p 2 = p2C d.t1 e.note := by
  show zS0 (97 + e.t1) ++ yA5 e.note = _
  unfold p2C zS0
  rw [d.et1, show (97 + (d.t1 : Int)).toNat = 97 + d.t1 by omega]
theorem zUt {e : Ent} (d : zCg e) : zEl e.word = e.p 0 ++ e.tk.getD 0 "" ++ e.p 1 ++ e.tk.getD 1 "" ++ e.p 2 := by
  have es0 : zEl e.s0 = e.p 0 := by
    rw [zK7 d, d.es0]
    unfold p0C
    cases d.kd == 2
    . exact zVm d.ha0 d.hb0 (by have := d.ht0; omega)
    . rfl
  have es1 : zEl e.s1 = (⟨#[97 + d.t1]⟩ : Str) := by rw [d.es1]; exact zVm d.ha1 d.hb1 d.ht1.2
  have ec : zEl e.carts = e.p 1 := by
    rw [yCe d, d.ect]
    unfold p1C
    simpa using Qf.mp zS9 d.ct (List.mem_range.mpr d.hct)
  unfold Ent.word
  simp only [zXx]
  rw [zOx d 0, zOx d 1, zOx d 2, yIp d 0, yIp d 1, es0, es1, ec, yDz d, zHk, zJs, zJs]
  rw [zNm d]
  unfold p2C
  simp only [zJy]
theorem zRo {kd t0 : Nat} (h : t0 < 4) : p0C kd t0 ∈ p0s := by
  unfold p0C
  cases kd == 2
  . have : t0 = 0 ∨ t0 = 1 ∨ t0 = 2 ∨ t0 = 3 := by omega
    rcases this with rfl | rfl | rfl | rfl <;> decide
  . show (Qd "") ∈ p0s
    decide
theorem yJn {ct : Nat} (h : ct < 4) : p1C ct ∈ p1s := by
  have : ct = 0 ∨ ct = 1 ∨ ct = 2 ∨ ct = 3 := by omega
  rcases this with rfl | rfl | rfl | rfl <;> decide
theorem zXh {t1 : Nat} {n : Str} (h : 1 <= t1 /\ t1 < 5) (hn : n ∈ zCu) : p2C t1 n ∈ p2s := by
  unfold p2s
  refine List.mem_flatMap.mpr ⟨t1, ?_, Qq.mpr ⟨n, hn, rfl⟩⟩
  have : t1 = 1 ∨ t1 = 2 ∨ t1 = 3 ∨ t1 = 4 := by omega
  rcases this with rfl | rfl | rfl | rfl <;> decide
theorem yHq {t1 : Nat} (h : 1 <= t1 /\ t1 < 5) : p2C t1 ⟨#[329]⟩ ∈ q2s := by
  unfold q2s
  refine Qq.mpr ⟨t1, ?_, rfl⟩
  have : t1 = 1 ∨ t1 = 2 ∨ t1 = 3 ∨ t1 = 4 := by omega
  rcases this with rfl | rfl | rfl | rfl <;> decide
theorem yBk {e : Ent} (d : zCg e) : zHm (zEl e.word) = e.told := by
  rw [zUt d]
  unfold zHm Ent.told
  have h0 := zRo (kd := d.kd) d.ht0
  have h1 := yJn d.hct
  have h2 := zXh d.ht1 (zHa d)
  rw [← zK7 d] at h0
  rw [← yCe d] at h1
  rw [← zNm d] at h2
  by_cases hk : 2 <= d.kd
  . have et : e.tk = ([Qd "'", Qd "'"] : List Str) := by rw [d.etk, show min d.kd 2 = 2 by omega]; rfl
    have sp := Qf.mp (Qf.mp (Qf.mp zWl _ h0) _ h1) _ h2
    unfold zVn at sp
    have sp' : Txt.splitMax (e.p 0 ++ e.tk.getD 0 "" ++ e.p 1 ++ e.tk.getD 1 "" ++ e.p 2) "'" 2 = [e.p 0, e.p 1, e.p 2] := by rw [et]; simpa using sp
    rw [sp', if_neg (by simp), d.ekd, decide_eq_true (by omega : (d.kd : Int) ≥ 2)]
    rfl
  . have en : e.note = ⟨#[329]⟩ := by rw [d.ent, decide_eq_true (by omega : d.kd < 2)]; rfl
    have h3 := yHq d.ht1
    rw [← en, ← zNm d] at h3
    have rm := Qf.mp (Qf.mp (Qf.mp yEe _ h0) _ h1) _ h3
    rw [Bool.and_eq_true] at rm
    have es : e.p 0 ++ e.tk.getD 0 "" ++ e.p 1 ++ e.tk.getD 1 "" ++ e.p 2 = e.p 0 ++ e.tk.getD 0 "" ++ e.p 1 ++ e.p 2 := by
      have : d.kd = 0 ∨ d.kd = 1 := by omega
      have et1 : e.tk.getD 1 "" = (Qd "") := by
        rcases this with q | q <;> (rw [d.etk, q]; rfl)
      rw [et1, zJs]
    have rm' : (Txt.splitMax (e.p 0 ++ e.tk.getD 0 "" ++ e.p 1 ++ e.tk.getD 1 "" ++ e.p 2) "'" 2).length <= 2 := by
      rw [es]
      have : d.kd = 0 ∨ d.kd = 1 := by omega
      rcases this with q | q
      . have et0 : e.tk.getD 0 "" = (Qd "'") := by rw [d.etk, q]; rfl
        rw [et0]; exact of_decide_eq_true rm.1
      . have et0 : e.tk.getD 0 "" = (Qd "") := by rw [d.etk, q]; rfl
        rw [et0, zJs]; exact of_decide_eq_true rm.2
    rw [if_pos rm', d.ekd, decide_eq_false (by omega : ¬ (d.kd : Int) ≥ 2), es]
    rfl
end
section
noncomputable def yMh (c : Nat) : Bool := !Builtin.Str.tooLong (Txt.lower ⟨#[c]⟩).length && decide ((zJi ⟨#[c]⟩).length <= 4) && (inT (zEm zQf 0) ⟨#[c]⟩ == (isQ c || isB c)) && (inT (zEm zQf 1) ⟨#[c]⟩ == (isW c || isB c)) && (inT (zEm zQf 2) ⟨#[c]⟩ == (isW c || isB c)) && !isN c
theorem zZi : (zHg.all yMh) = true := by decide +kernel
structure zZx (c : Nat) : Prop where
  lo : Builtin.Str.tooLong (Txt.lower ⟨#[c]⟩).length = false
  fo : (zJi ⟨#[c]⟩).length <= 4
  w0 : inT (zEm zQf 0) ⟨#[c]⟩ = (isQ c || isB c)
  w1 : inT (zEm zQf 1) ⟨#[c]⟩ = (isW c || isB c)
  w2 : inT (zEm zQf 2) ⟨#[c]⟩ = (isW c || isB c)
  n : isN c = false
theorem zFi {c : Nat} (h : c ∈ zHg) : zZx c := by
  have := Qf.mp zZi c h
  unfold yMh at this
  simp only [Bool.and_eq_true, Bool.not_eq_true', decide_eq_true_eq, beq_iff_eq] at this
  obtain ⟨⟨⟨⟨⟨a, b⟩, c⟩, d⟩, e⟩, f⟩ := this
  exact ⟨a, b, c, d, e, f⟩
noncomputable def zOe : List Nat := zSi ++ (zUh ++ [39])
theorem zYz : (zOe.all fun c => !isW c && !isQ c && !isB c && zHg.contains c) = true := by decide +kernel
def inA (x : Str) : Prop := ∀ c ∈ x.cps.toList, c ∈ zHg
theorem zFd {x y : Str} (h1 : inA x) (h2 : inA y) : inA (x ++ y) := by
  intro c hc
  rw [zCb] at hc
  rcases Qs.mp hc with h | h
  . exact h1 c h
  . exact h2 c h
theorem zOt : inA (Qd "") := fun c hc => by cases hc
noncomputable def yN0 (x : Str) : Bool := x.cps.toList.all fun c => zHg.contains c
theorem zV5 {x : Str} (h : yN0 x = true) : inA x := fun c hc => by simpa using Qf.mp h c hc
theorem zPe {c : Nat} (h : c ∈ zHg) : inA ⟨#[c]⟩ := fun d hd => by simp at hd; subst hd; exact h
theorem zUs : ((["", "X", "xX", ⟨#[64256]⟩] : List Str).all yN0 && zCu.all yN0 && zCy.all (fun l => l.all yN0)) = true := by decide +kernel
theorem zSd {c : Nat} (h : c ∈ zSi) : c ∈ zHg := Qu _ h
theorem zK4 {c : Nat} (h : c ∈ zUh) : c ∈ zHg := Qv _ (Qu _ h)
theorem zZj {l : List Str} {k : Nat} (h : k < l.length) : zEm l (k : Int) ∈ l := by
  unfold zEm
  have e1 : l.getD (k : Int).toNat "" = l[k] := by simp [h]
  rw [e1]; exact List.getElem_mem h
theorem zK3 {e : Ent} (d : zCg e) : inA e.word := by
  have sa := zUs
  rw [Bool.and_eq_true, Bool.and_eq_true] at sa
  have g : ∀ k, inA (e.gaps.getD k "") := by
    intro k
    rcases zHs d k with q | q
    . rw [q]; exact zOt
    . rw [q]; exact zPe (zSd d.hgs)
  have t : ∀ k, inA (e.tk.getD k "") := by
    intro k
    have h := Qf.mp sa.2 _ (yCm d)
    by_cases hk : k < e.tk.length
    . have e1 : e.tk.getD k "" = e.tk[k] := by simp [hk]
      rw [e1]; exact zV5 (Qf.mp h _ (List.getElem_mem hk))
    . have e1 : e.tk.getD k "" = (Qd "") := by simp [List.getElem?_eq_none (Nat.le_of_not_lt hk)]
      rw [e1]; exact zOt
  have s0 : inA e.s0 := by
    rw [d.es0]
    cases d.kd == 2
    . exact zPe (zK4 (zMe d.ha0 d.hb0 (by have := d.ht0; omega)))
    . exact zOt
  have s1 : inA e.s1 := by rw [d.es1]; exact zPe (zK4 (zMe d.ha1 d.hb1 d.ht1.2))
  have ca : inA e.carts := by rw [d.ect]; exact zV5 (Qf.mp sa.1.1 _ (zZj d.hct))
  have nt : inA e.note := zV5 (Qf.mp sa.1.2 _ (zHa d))
  unfold Ent.word
  exact zFd (zFd (zFd (zFd (zFd (zFd (zFd (zFd (g 0) s0) (t 0)) (g 1)) ca) (t 1)) s1) nt) (g 2)
theorem zRk (x : Int) : (zAd x).word.length <= 15 := by
  have eb := zR5 x
  have g0 := eb.gaps 0
  have g1 := eb.gaps 1
  have g2 := eb.gaps 2
  have k0 := eb.tk 0
  have k1 := eb.tk 1
  have a0 := eb.s0
  have a1 := eb.s1
  have a2 := eb.carts
  have a4 := eb.note
  unfold Ent.word; simp only [zBi]; omega
theorem yEl : (p2s.all fun x => zBd.contains x) = true := by decide +kernel
theorem zUm (x : Int) : zEz (zAd x) := by
  obtain ⟨d⟩ := zKw x
  have al := zK3 d
  refine ⟨zRk x, fun c hc => ⟨(zFi (al c hc)).lo, (zFi (al c hc)).fo⟩, yBk d, (zR5 x).plain, fun hl => ?_, ?_⟩
  . rw [zK7 d]
    unfold Ent.live at hl
    rw [Bool.and_eq_true, zK7 d] at hl
    have h0 := zRo (kd := d.kd) d.ht0
    have ne : p0C d.kd d.t0 ≠ (Qd "") := by simpa using hl.2
    have ch : (p0s.all fun x => (x == (Qd "")) || zAj.contains x) = true := by decide
    have := Qf.mp ch _ h0
    rw [Bool.or_eq_true] at this
    rcases this with q | q
    . exact absurd (by simpa using q) ne
    . simpa using q
  . rw [zNm d]
    have := Qf.mp yEl _ (zXh d.ht1 (zHa d))
    simpa using this
theorem zSq {e : Ent} (d : zCg e) : ∃ c w, e.word.cps.toList = c :: w /\ c ∈ zOe := by
  have step : ∀ (x y : Str) (c : Nat) (w : List Nat), x.cps.toList = c :: w -> (x ++ y).cps.toList = c :: (w ++ y.cps.toList) := by
    intro x y c w h; rw [zCb, h]; rfl
  have key : ∃ c w, (e.gaps.getD 0 "" ++ e.s0 ++ e.tk.getD 0 "").cps.toList = c :: w /\ c ∈ zOe := by
    rcases zHs d 0 with q | q
    . rw [q, zHk, d.es0]
      cases hk : d.kd == 2
      . refine ⟨yBw d.a0 d.b0 d.t0, _, step _ _ _ [] rfl, ?_⟩
        exact Qv _ (Qu _ (zMe d.ha0 d.hb0 (by have := d.ht0; omega)))
      . have hk2 : d.kd = 2 := by simpa using hk
        have et0 : e.tk.getD 0 "" = (Qd "'") := by rw [d.etk, hk2]; rfl
        rw [et0]
        exact ⟨39, [], rfl, by unfold zOe; exact Qv _ (Qv _ (.head _))⟩
    . rw [q, zJy]
      exact ⟨d.gs, _, step _ _ _ [] rfl, Qu _ d.hgs⟩
  obtain ⟨c, w, h, hc⟩ := key
  unfold Ent.word
  exact ⟨c, _, step _ _ _ _ (step _ _ _ _ (step _ _ _ _ (step _ _ _ _ (step _ _ _ _ (step _ _ _ _ h))))), hc⟩
end
section
noncomputable def zH8 (way : Int) (c : Nat) : List Nat := (zQd way c).cps.toList
noncomputable def yCh (l : List Nat) : Str := ⟨l.toArray⟩
theorem zLn (x : Str) : yCh x.cps.toList = x := by cases x; unfold yCh; simp
theorem zQw (t : Str) : t ++ yCh [] = t := zJs t
theorem zD5 (t : Str) (c : Nat) (w : List Nat) : t ++ (⟨#[c]⟩ : Str) ++ yCh w = t ++ yCh (c :: w) := zL9 (by
  rw [zCb, zCb, zCb]; simp [yCh])
theorem zDa {c : Nat} (h : isN c = false) (ln : Int) (r : List Nat) : zC3 ln (c :: r) = ln := by
  show (if isN c = true then ln + 1 else ln) = ln
  rw [h]; rfl
theorem zPk {way : Int} {c : Nat} (h : inT (zEm zQf way) ⟨#[c]⟩ = true) : zH8 way c = [92, c] := by
  unfold zH8 zQd; rw [h]; rfl
theorem zG0 {way : Int} {c : Nat} (h : inT (zEm zQf way) ⟨#[c]⟩ = false) : zH8 way c = [c] := by
  unfold zH8 zQd; rw [h]; rfl
theorem zO6 (rest : List Nat) : ∀ (w : List Nat) (f : Nat) (ln : Int) (tok : Str), (∀ c ∈ w, c ∈ zHg) -> (w.flatMap (zH8 0)).length < f ->
    zUd f (w.flatMap (zH8 0) ++ 34 :: rest) ln tok = (tok ++ yCh w, rest, ln)
  | [], 0, _, _, _, h => absurd h (Nat.not_lt_zero _)
  | [], f + 1, ln, tok, _, _ => by
    show (bif isQ 34 then (tok, rest, zC3 ln [34]) else _) = _
    rw [show isQ 34 = true by decide, zQw, zDa (by decide)]; rfl
  | c :: w, 0, _, _, _, h => absurd h (Nat.not_lt_zero _)
  | c :: w, f + 1, ln, tok, ha, h => by
    have F := zFi (ha c (.head _))
    have hw : ∀ d ∈ w, d ∈ zHg := fun d hd => ha d (.tail _ hd)
    rw [List.flatMap_cons] at h ⊢
    cases q : (isQ c || isB c)
    . have e := zG0 (way := 0) (F.w0.trans q)
      rw [Bool.or_eq_false_iff] at q
      rw [e] at h ⊢
      show (bif isQ c then _ else bif isB c then _ else zUd f (w.flatMap (zH8 0) ++ 34 :: rest) (zC3 ln [c]) (tok ++ ⟨#[c]⟩)) = _
      rw [q.1, q.2, zDa F.n]
      have := zO6 rest w f ln (tok ++ ⟨#[c]⟩) hw (by simp only [List.cons_append, List.nil_append, Qh] at h; omega)
      rw [zD5] at this
      exact this
    . have e := zPk (way := 0) (F.w0.trans q)
      rw [e] at h ⊢
      show (bif isQ 92 then _ else bif isB 92 then zUd f (w.flatMap (zH8 0) ++ 34 :: rest) (zC3 (zC3 ln [92]) (c :: (w.flatMap (zH8 0) ++ 34 :: rest))) (tok ++ ⟨#[c]⟩) else _) = _
      rw [show isQ 92 = false by decide, show isB 92 = true by decide, zDa F.n, zDa (by decide)]
      have := zO6 rest w f ln (tok ++ ⟨#[c]⟩) hw (by simp only [List.cons_append, List.nil_append, Qh] at h; omega)
      rw [zD5] at this
      exact this
theorem zI2 {way : Int} (hway : way = 1 ∨ way = 2) {s : Nat} (hs : isW s = true) (rest : List Nat) : ∀ (w : List Nat) (f : Nat) (ln : Int) (tok : Str), (∀ c ∈ w, c ∈ zHg) -> (w.flatMap (zH8 way)).length < f ->
    zGo f (w.flatMap (zH8 way) ++ s :: rest) ln tok = (tok ++ yCh w, rest, zC3 ln [s])
  | [], 0, _, _, _, h => absurd h (Nat.not_lt_zero _)
  | [], f + 1, ln, tok, _, _ => by
    show (bif isW s then (tok, rest, zC3 ln [s]) else _) = _
    rw [hs, zQw]; rfl
  | c :: w, 0, _, _, _, h => absurd h (Nat.not_lt_zero _)
  | c :: w, f + 1, ln, tok, ha, h => by
    have F := zFi (ha c (.head _))
    have hw : ∀ d ∈ w, d ∈ zHg := fun d hd => ha d (.tail _ hd)
    have Fw : inT (zEm zQf way) ⟨#[c]⟩ = (isW c || isB c) := by
      rcases hway with rfl | rfl
      . exact F.w1
      . exact F.w2
    rw [List.flatMap_cons] at h ⊢
    cases q : (isW c || isB c)
    . have e := zG0 (Fw.trans q)
      rw [Bool.or_eq_false_iff] at q
      rw [e] at h ⊢
      show (bif isW c then _ else bif isB c then _ else zGo f (w.flatMap (zH8 way) ++ s :: rest) (zC3 ln [c]) (tok ++ ⟨#[c]⟩)) = _
      rw [q.1, q.2, zDa F.n]
      have := zI2 hway hs rest w f ln (tok ++ ⟨#[c]⟩) hw (by simp only [List.cons_append, List.nil_append, Qh] at h; omega)
      rw [zD5] at this
      exact this
    . have e := zPk (Fw.trans q)
      rw [e] at h ⊢
      show (bif isW 92 then _ else bif isB 92 then zGo f (w.flatMap (zH8 way) ++ s :: rest) (zC3 (zC3 ln [92]) (c :: (w.flatMap (zH8 way) ++ s :: rest))) (tok ++ ⟨#[c]⟩) else _) = _
      rw [show isW 92 = false by decide +kernel, show isB 92 = true by decide, zDa F.n, zDa (by decide)]
      have := zI2 hway hs rest w f ln (tok ++ ⟨#[c]⟩) hw (by simp only [List.cons_append, List.nil_append, Qh] at h; omega)
      rw [zD5] at this
      exact this
def Sta (l : List Nat) (ln : Int) (T : List Nat) (L : Int) : Prop := (l = T /\ ln = L) ∨ ∃ w, isW w = true /\ l = w :: T /\ zC3 ln [w] = L
theorem zXa {l T : List Nat} {ln L : Int} (h : Sta l ln T L) : ∃ f, T.length < f /\ zKc (l.length + 1) l ln = zKc f T L := by
  rcases h with ⟨rfl, rfl⟩ | ⟨w, hw, rfl, hl⟩
  . exact ⟨_, Nat.lt_succ_self _, rfl⟩
  . refine ⟨T.length + 1, Nat.lt_succ_self _, ?_⟩
    show (bif isW w then zKc (T.length + 1) T (zC3 ln [w]) else _) = _
    rw [hw, hl]; rfl
theorem zQo {e : Ent} (d : zCg e) : e.body.cps.toList = (if d.wy = 0 then 34 :: (e.word.cps.toList.flatMap (zH8 0) ++ [34]) else if d.wy = 1 then e.word.cps.toList.flatMap (zH8 1) else 92 :: e.word.cps.toList.flatMap (zH8 2)) := by
  have b0 : e.body0.cps.toList = e.word.cps.toList.flatMap (zH8 e.way) := by
    unfold Ent.body0
    rw [zIx, zR0, List.flatMap_map]; rfl
  unfold Ent.body
  have hw := d.hwy
  rw [d.ewy] at b0 ⊢
  have : d.wy = 0 ∨ d.wy = 1 ∨ d.wy = 2 := by omega
  rcases this with q | q | q
  . rw [q] at b0 ⊢
    show ((Qd "\"") ++ e.body0 ++ (Qd "\"")).cps.toList = _
    rw [zCb, zCb, b0]; rfl
  . rw [q] at b0 ⊢
    show e.body0.cps.toList = _
    rw [b0]; rfl
  . rw [q] at b0 ⊢
    show ((Qd "\\") ++ e.body0).cps.toList = _
    rw [zCb, b0]; rfl
theorem zP7 {c : Nat} (h : c ∈ zOe) : isW c = false /\ isQ c = false /\ isB c = false /\ c ∈ zHg := by
  have := Qf.mp zYz c h
  simp only [Bool.and_eq_true, Bool.not_eq_true'] at this
  exact ⟨this.1.1.1, this.1.1.2, this.1.2, by simpa using this.2⟩
theorem zXt {e : Ent} (d : zCg e) {l rest : List Nat} {ln L : Int} {s : Nat} (hs : isW s = true) (h : Sta l ln (e.body.cps.toList ++ s :: rest) L) :
    ∃ l' ln', zKc (l.length + 1) l ln = (e.word, l', ln') /\ Sta l' ln' rest (zC3 L [s]) := by
  obtain ⟨f, hf, e1⟩ := zXa h
  rw [e1]
  obtain ⟨c, w, ew, hc⟩ := zSq d
  have fc := zP7 hc
  have al := zK3 d
  have F := zFi fc.2.2.2
  have hw : ∀ x ∈ w, x ∈ zHg := fun x hx => al x (by rw [ew]; exact .tail _ hx)
  rw [zQo d] at hf ⊢
  have hwy := d.hwy
  have : d.wy = 0 ∨ d.wy = 1 ∨ d.wy = 2 := by omega
  rcases f with _ | f
  . exact absurd hf (Nat.not_lt_zero _)
  rcases this with q | q | q
  . rw [q] at hf ⊢
    simp only [if_true, List.cons_append, Qj, List.nil_append] at hf ⊢
    show ∃ l' ln', (bif isW 34 then _ else bif isQ 34 then zUd (f + 1) (e.word.cps.toList.flatMap (zH8 0) ++ 34 :: (s :: rest)) (zC3 L [34]) "" else _) = _ /\ _
    rw [show isW 34 = false by decide +kernel, show isQ 34 = true by decide, zDa (by decide)]
    refine ⟨s :: rest, L, ?_, .inr ⟨s, hs, rfl, rfl⟩⟩
    have := zO6 (s :: rest) e.word.cps.toList (f + 1) L "" al (by simp only [Qh, Qi] at hf ⊢; omega)
    rw [zLn, zHk] at this
    exact this
  . rw [q] at hf ⊢
    rw [if_neg (by decide), if_pos rfl] at hf ⊢
    have ec : zH8 1 c = [c] := zG0 (by rw [F.w1, fc.1, fc.2.2.1]; rfl)
    rw [ew, List.flatMap_cons, ec] at hf ⊢
    show ∃ l' ln', (bif isW c then _ else bif isQ c then _ else bif isB c then _ else zGo (f + 1) (w.flatMap (zH8 1) ++ s :: rest) (zC3 L [c]) ((Qd "") ++ ⟨#[c]⟩)) = _ /\ _
    rw [fc.1, fc.2.1, fc.2.2.1, zDa F.n]
    refine ⟨rest, zC3 L [s], ?_, .inl ⟨rfl, rfl⟩⟩
    have := zI2 (.inl rfl) hs rest w (f + 1) L ((Qd "") ++ ⟨#[c]⟩) hw (by simp only [List.cons_append, List.nil_append, Qh, Qi] at hf; omega)
    rw [zD5, ← ew, zLn, zHk e.word] at this
    exact this
  . rw [q] at hf ⊢
    rw [if_neg (by decide), if_neg (by decide)] at hf ⊢
    have ec : zH8 2 c = [c] := zG0 (by rw [F.w2, fc.1, fc.2.2.1]; rfl)
    rw [ew, List.flatMap_cons, ec] at hf ⊢
    show ∃ l' ln', (bif isW 92 then _ else bif isQ 92 then _ else bif isB 92 then zGo (f + 1) (w.flatMap (zH8 2) ++ s :: rest) (zC3 (zC3 L [92]) (c :: (w.flatMap (zH8 2) ++ s :: rest))) ((Qd "") ++ ⟨#[c]⟩) else _) = _ /\ _
    rw [show isW 92 = false by decide +kernel, show isQ 92 = false by decide, show isB 92 = true by decide, zDa F.n, zDa (by decide)]
    refine ⟨rest, zC3 L [s], ?_, .inl ⟨rfl, rfl⟩⟩
    have := zI2 (.inr rfl) hs rest w (f + 1) L ((Qd "") ++ ⟨#[c]⟩) hw (by simp only [List.cons_append, List.nil_append, Qh, Qi] at hf; omega)
    rw [zD5, ← ew, zLn, zHk e.word] at this
    exact this
theorem yFq {l : List Nat} {ln L : Int} (h : Sta l ln [] L) : zKc (l.length + 1) l ln = (Qd "", [], L) := by
  obtain ⟨f, hf, e1⟩ := zXa h
  rw [e1]
  rcases f with _ | f
  . exact absurd hf (Nat.not_lt_zero _)
  . rfl
noncomputable def zT5 (ps : List (Ent × Nat)) : List Nat := ps.flatMap fun p => p.1.body.cps.toList ++ [p.2]
theorem zZ0 : ∀ (ps : List (Ent × Nat)) (l : List Nat) (ln L : Int), (∀ p ∈ ps, Nonempty (zCg p.1) /\ isW p.2 = true) -> Sta l ln (zT5 ps) L ->
    zHq (ps.length + 1) l ln = (ps.map (·.1.word) ++ [Qd ""], [], ps.foldl (fun L p => zC3 L [p.2]) L) := by
  intro ps
  induction ps with
  | nil =>
    rintro l ln L _ h
    have e := yFq h
    unfold zHq
    rw [e]; rfl
  | cons p ps ih =>
    rintro l ln L hp h
    obtain ⟨⟨d⟩, hw⟩ := hp p (.head _)
    have ef : zT5 (p :: ps) = p.1.body.cps.toList ++ p.2 :: zT5 ps := by unfold zT5; rw [List.flatMap_cons, Qj]; rfl
    rw [ef] at h
    obtain ⟨l', ln', e, h'⟩ := zXt d hw h
    have ih := ih l' ln' _ (fun q hq => hp q (.tail _ hq)) h'
    rw [Qh]
    unfold zHq
    rw [e]
    dsimp only
    rw [ih]; rfl
end
section
theorem zFz (xs : List Int) (k : Nat) : zBu (xs.map zAd) k = zAd (xs.getD k 0) := by
  unfold zBu
  simp only [List.getD_eq_getElem?_getD, List.getElem?_map]
  cases xs[k]? <;> rfl
theorem zZv (x : Int) : (zAd x).body.length <= 40 := by
  obtain ⟨d⟩ := zKw x
  have wl := zRk x
  have key : ∀ (way : Int) (w : List Nat), (w.flatMap (zH8 way)).length <= 2 * w.length := by
    intro way w
    induction w with
    | nil => exact Qo _
    | cons c w ih =>
      rw [List.flatMap_cons, Qi, Qh]
      have : (zH8 way c).length <= 2 := by
        cases q : inT (zEm zQf way) ⟨#[c]⟩
        . rw [zG0 q]; show 1 <= 2; decide
        . rw [zPk q]; exact Qo 2
      omega
  have e : (zAd x).body.length = (zAd x).body.cps.toList.length := by rw [Array.length_toList]; rfl
  have e2 : (zAd x).word.length = (zAd x).word.cps.toList.length := by rw [Array.length_toList]; rfl
  have k0 := key 0 (zAd x).word.cps.toList
  have k1 := key 1 (zAd x).word.cps.toList
  have k2 := key 2 (zAd x).word.cps.toList
  rw [e, zQo d]
  rw [e2] at wl
  split
  . simp only [Qh, Qi, List.length_nil]; omega
  . split
    . omega
    . simp only [Qh]; omega
noncomputable def zIh (es : List Ent) : List (Ent × Nat) := (List.range 6).map fun k => (zBu es k, yCv.cps.getD k 0)
theorem zY3 (es : List Ent) : (zD9 es).cps.toList = 13 :: zT5 (zIh es) := by
  have e : (fun k => (zGf k (zBu es k)).cps.toList) = fun k => (zBu es k).body.cps.toList ++ [yCv.cps.getD k 0] := by
    funext k; unfold zGf; rw [zCb]
  unfold zD9 zIh zT5
  rw [zCb, zR0, List.flatMap_map, List.flatMap_map]
  show 13 :: (List.range 6).flatMap (fun k => (zGf k (zBu es k)).cps.toList) = 13 :: (List.range 6).flatMap (fun k => (zBu es k).body.cps.toList ++ [yCv.cps.getD k 0])
  rw [e]
theorem zPs {es : List Ent} (h : es.length = 6) : es.map Ent.word = (zIh es).map (·.1.word) := by
  unfold zIh
  rw [List.map_map]
  apply List.ext_getElem
  . simp [h]
  . intro i h1 h2
    have hi : i < 6 := by simpa using h2
    simp [zBu, show i < es.length by omega]
theorem yKd (xs : List Int) (h6 : xs.length = 6) : zHq 7 (zD9 (xs.map zAd)).cps.toList 1 = ((xs.map zAd).map Ent.word ++ [Qd ""], [], 3) := by
  have hl : (xs.map zAd).length = 6 := by simp [h6]
  have run := zZ0 (zIh (xs.map zAd)) (zD9 (xs.map zAd)).cps.toList 1 1 (fun p hp => by
    unfold zIh at hp
    obtain ⟨k, hk, rfl⟩ := Qq.mp hp
    refine ⟨by rw [zFz]; exact zKw _, ?_⟩
    have sw : ((List.range 6).all fun k => isW (yCv.cps.getD k 0)) = true := by decide +kernel
    exact Qf.mp sw k hk) (.inr ⟨13, by decide +kernel, zY3 _, by decide⟩)
  have pl : (zIh (xs.map zAd)).length = 6 := by simp [zIh]
  rw [pl] at run
  rw [run, zPs hl]
  congr 2
theorem zSn (l m : List (Str × Str)) (x : Str) : zAm (l ++ m) x = zAm l x ++ zAm m x := by
  unfold zAm; rw [List.filter_append, Qt]
theorem zTp (n : Nat) (a v x : Str) : zAm (List.replicate n (a, v)) x = if Txt.lower a == Txt.lower x then List.replicate n v else [] := by
  unfold zAm
  rw [List.filter_replicate]
  split <;> simp
theorem yDo : (p0s.all fun x => (x == (Qd "")) || (Txt.lower x == x && Txt.lower (Txt.upper x) == x)) = true := by decide +kernel
theorem yC8 {e : Ent} (d : zCg e) (h : e.live = true) : Txt.lower (e.p 0) = e.p 0 /\ Txt.lower (Txt.upper (e.p 0)) = e.p 0 := by
  have h0 := zRo (kd := d.kd) d.ht0
  rw [← zK7 d] at h0
  have := Qf.mp yDo _ h0
  unfold Ent.live at h
  rw [Bool.and_eq_true] at h
  have ne : e.p 0 ≠ (Qd "") := by simpa using h.2
  rw [Bool.or_eq_true] at this
  rcases this with q | q
  . exact absurd (by simpa using q) ne
  . simpa using q
theorem zJk {e : Ent} (d : zCg e) (k : Nat) (h : e.live = true) : Txt.lower (zBc k e) = e.p 0 := by
  unfold zBc
  cases (0 + (k : Int)).fmod 2 == 1
  . exact (yC8 d h).1
  . exact (yC8 d h).2
theorem yAs : ([97, 98, 99, 100, 101].all fun c => Txt.lower (Txt.upper (chS c)) == chS c && Txt.lower (chS c) == chS c) = true := by decide +kernel
theorem yBh {c : Nat} (h : zBh c) : Txt.lower (Txt.upper (chS c)) = chS c /\ Txt.lower (chS c) = chS c := by
  have : c ∈ [97, 98, 99, 100, 101] := by unfold zBh at h; simp; omega
  simpa using Qf.mp yAs c this
theorem yHn (xs : List Int) (c : Nat) (hc : zBh c) (i : Nat) : zAm (zBy (xs.map zAd) i) (Txt.upper (chS c)) = ((zB8 (xs.map zAd) i).filter fun p => p.1 == chS c).map (·.2) := by
  induction i with
  | zero => rfl
  | succ i ih =>
    rw [zFu, zHy, zSn, ih, List.filter_append, Qt]
    congr 1
    rw [zFz]
    obtain ⟨d⟩ := zKw (xs.getD i 0)
    unfold zLt zPf
    cases q : (zAd (xs.getD i 0)).live
    . rfl
    . rw [Bool.cond_true, Bool.cond_true, zTp, zJk d i q, (yBh hc).1, List.filter_replicate]
      split <;> simp
noncomputable def zDm : List Str := ["a", "b", "c", "d", "e"]
theorem zTo (xs : List Int) (i : Nat) : zAi (zBy (xs.map zAd) i) = zA0 (xs.map zAd) i := by
  induction i with
  | zero => rfl
  | succ i ih =>
    rw [zFu, zGq, ← ih]
    unfold zAi
    rw [Qt]
    congr 1
    rw [zFz]
    obtain ⟨d⟩ := zKw (xs.getD i 0)
    unfold zLt zH7
    cases q : (zAd (xs.getD i 0)).live
    . rfl
    . rw [Bool.cond_true, Bool.cond_true, List.map_replicate, zJk d i q]
theorem yDp : (p2s.all fun x => (["b", "c", "d", "e"] : List Str).contains (zAv x)) = true := by decide +kernel
theorem zWa (xs : List Int) (i : Nat) : ∀ p ∈ zA0 (xs.map zAd) i, p.1 ∈ (["a", "b", "c", "d"] : List Str) /\ p.2 ∈ (["b", "c", "d", "e"] : List Str) := by
  intro p hp
  unfold zA0 at hp
  obtain ⟨k, _, hp⟩ := List.mem_flatMap.mp hp
  rw [zFz] at hp
  obtain ⟨d⟩ := zKw (xs.getD k 0)
  unfold zH7 at hp
  cases q : (zAd (xs.getD k 0)).live
  . rw [q] at hp; cases hp
  . rw [q, Bool.cond_true] at hp
    obtain rfl := List.eq_of_mem_replicate hp
    constructor
    . have h0 := zRo (kd := d.kd) d.ht0
      rw [← zK7 d] at h0
      unfold Ent.live at q
      rw [Bool.and_eq_true] at q
      have ne : (zAd (xs.getD k 0)).p 0 ≠ (Qd "") := by simpa using q.2
      unfold p0s at h0
      rcases Qy.mp h0 with h | h
      . exact absurd h ne
      . exact h
    . have := Qf.mp yDp _ (zXh d.ht1 (zHa d))
      show zAv ((zAd (xs.getD k 0)).p 2) ∈ _
      rw [zNm d]
      simpa using this
end
section
noncomputable abbrev zCz := Str × Str
noncomputable def swp (p : zCz) : zCz := (p.2, p.1)
def zQ7 (E : List zCz) : Prop := ∀ p ∈ E, p.1 ∈ zDm /\ p.2 ∈ zDm
theorem yFt : (zDm.all fun x => zAj.contains x && Txt.lower x == x && Txt.lower (Txt.upper x) == x && zAv x == x) = true := by decide +kernel
theorem zEa {x : Str} (h : x ∈ zDm) : x ∈ zAj /\ Txt.lower x = x /\ Txt.lower (Txt.upper x) = x /\ zAv x = x := by
  have := Qf.mp yFt x h
  simp only [Bool.and_eq_true, beq_iff_eq] at this
  exact ⟨by simpa using this.1.1.1, this.1.1.2, this.1.2, this.2⟩
noncomputable def zPr (E : List zCz) (u : Str) : List Str := (E.filter fun p => p.1 == u).map (·.2)
theorem zEp {hs : List (Str × Str)} {u : Str} (hu : u ∈ zDm) : (zAm hs (Txt.upper u)).map zAv = zPr (zAi hs) u := by
  unfold zAm zPr zAi
  rw [(zEa hu).2.2.1, List.map_map, List.filter_map, List.map_map]
  rfl
theorem zPu (E : List zCz) (u : Str) : (E.filter fun p => p.1 == u) = (zPr E u).map fun v => (u, v) := by
  unfold zPr
  rw [List.map_map]
  induction E with
  | nil => rfl
  | cons p E ih =>
    rw [Qz]
    by_cases q : (p.1 == u) = true
    . rw [if_pos q, List.map_cons, ← ih]
      have : p.1 = u := by simpa using q
      subst this; rfl
    . rw [if_neg q]; exact ih
theorem zKg (u v : Str) (l : List Str) : (l.map fun w => (u, w)).erase (u, v) = (l.erase v).map fun w => (u, w) := by
  induction l with
  | nil => rfl
  | cons w l ih =>
    rw [List.map_cons, List.erase_cons, List.erase_cons]
    by_cases q : w = v
    . subst q; simp
    . rw [if_neg (by simpa using q), if_neg (by simpa using q), ih]; rfl
theorem zTb (E : List zCz) (u : Str) : (E.filter (fun p => !(p.1 == u)) ++ E.filter (fun p => p.1 == u)).Perm E := by
  have := List.filter_append_perm (fun p : zCz => !(p.1 == u)) E
  simpa using this
theorem zNl {α β : Type} (f : α -> β) : ∀ (l : List α) (i : Nat), (l.map f).eraseIdx i = (l.eraseIdx i).map f
  | [], _ => rfl
  | _ :: _, 0 => rfl
  | a :: l, i + 1 => by
    show f a :: (l.map f).eraseIdx i = f a :: (l.eraseIdx i).map f
    rw [zNl f l i]
theorem zIj {hs : List (Str × Str)} {near far : Str} (hn : near ∈ zDm) (hf : far ∈ zDm) (hm : (near, far) ∈ zAi hs) :
    ((zAm hs (Txt.upper near)).map zAv).contains far = true /\ (zAi (zCa hs near far)).Perm (swp (near, far) :: (zAi hs).erase (near, far)) := by
  have fn := zEa hn
  have ff := zEa hf
  have ho := zEp (hs := hs) hn
  have hmo : far ∈ zPr (zAi hs) near := by
    unfold zPr
    exact Qq.mpr ⟨(near, far), List.mem_filter.mpr ⟨hm, by simp⟩, rfl⟩
  refine ⟨by rw [ho]; simpa using hmo, ?_⟩
  have e : zAi (zCa hs near far) = (zAi hs).filter (fun p => !(p.1 == near)) ++ ((zPr (zAi hs) near).erase far).map (fun v => (near, v)) ++ [(far, near)] := by
    unfold zCa
    rw [show ∀ a b c : List (Str × Str), zAi (a ++ b ++ c) = zAi a ++ zAi b ++ zAi c by intro a b c; unfold zAi; rw [Qt, Qt]]
    congr 1
    . congr 1
      . unfold zAi
        rw [List.filter_map, fn.2.1]; rfl
      . rw [← ho, List.erase_eq_eraseIdx_of_idxOf (Eq.refl _), zNl]
        unfold zAi
        rw [List.map_map, List.map_map]
        congr 1
        funext v
        show (Txt.lower near, zAv v) = (near, zAv v)
        rw [fn.2.1]
    . show [(Txt.lower (Txt.upper far), zAv near)] = _
      rw [ff.2.2.1, fn.2.2.2]
  rw [e]
  have p1 : ((zAi hs).erase (near, far)).Perm ((zAi hs).filter (fun p => !(p.1 == near)) ++ ((zPr (zAi hs) near).erase far).map (fun v => (near, v))) := by
    have := (zTb (zAi hs) near).symm.erase (near, far)
    rw [List.erase_append_right _ (by intro h; have := (List.mem_filter.mp h).2; simp at this), zPu, zKg] at this
    exact this
  have p2 : (((zAi hs).filter (fun p => !(p.1 == near)) ++ ((zPr (zAi hs) near).erase far).map (fun v => (near, v))) ++ [(far, near)]).Perm ((far, near) :: ((zAi hs).filter (fun p => !(p.1 == near)) ++ ((zPr (zAi hs) near).erase far).map (fun v => (near, v)))) := List.perm_append_singleton _ _
  exact p2.trans (p1.symm.cons _)
theorem zTa {hs : List (Str × Str)} {near far : Str} (hL : zQ7 (zAi hs)) (hn : near ∈ zDm) (hf : far ∈ zDm) (hm : (near, far) ∈ zAi hs) : zQ7 (zAi (zCa hs near far)) := by
  intro p hp
  rcases Qy.mp ((zIj hn hf hm).2.mem_iff.mp hp) with q | q
  . subst q; exact ⟨hf, hn⟩
  . exact hL p (List.mem_of_mem_erase q)
theorem zYn : ∀ (W : List zCz) (hs : List (Str × Str)), W.Nodup -> (∀ p ∈ W, p ∈ zAi hs) -> zQ7 (zAi hs) ->
    ∃ hs', zEt hs W = some hs' /\ (zAi hs' ++ W).Perm (zAi hs ++ W.map swp) /\ zQ7 (zAi hs') := by
  intro W
  induction W with
  | nil =>
    rintro hs _ _ hL
    exact ⟨hs, rfl, by simp, hL⟩
  | cons hd0 W ih =>
    obtain ⟨near, far⟩ := hd0
    rintro hs nd hsub hL
    have nd' := List.nodup_cons.mp nd
    have hm := hsub _ (.head _)
    have hl := hL _ hm
    obtain ⟨hc, hp⟩ := zIj hl.1 hl.2 hm
    have sub2 : ∀ p ∈ W, p ∈ zAi (zCa hs near far) := by
      intro p hpW
      have ne : p ≠ (near, far) := by rintro rfl; exact nd'.1 hpW
      exact hp.mem_iff.mpr (.tail _ ((List.mem_erase_of_ne ne).mpr (hsub p (.tail _ hpW))))
    obtain ⟨hs', e, pm, low⟩ := ih (zCa hs near far) nd'.2 sub2 (zTa hL hl.1 hl.2 hm)
    refine ⟨hs', ?_, ?_, low⟩
    . unfold zEt; rw [hc]; exact e
    . have s1 : (zAi hs' ++ (near, far) :: W).Perm ((near, far) :: (zAi hs' ++ W)) := List.perm_middle
      have s2 : (zAi (zCa hs near far) ++ W.map swp).Perm ((swp (near, far) :: (zAi hs).erase (near, far)) ++ W.map swp) := hp.append_right _
      have s3 : ((near, far) :: ((swp (near, far) :: (zAi hs).erase (near, far)) ++ W.map swp)).Perm (swp (near, far) :: ((near, far) :: (zAi hs).erase (near, far) ++ W.map swp)) := List.Perm.swap _ _ _
      have s4 : ((near, far) :: (zAi hs).erase (near, far) ++ W.map swp).Perm (zAi hs ++ W.map swp) := (List.perm_cons_erase hm).symm.append_right _
      have s5 : (swp (near, far) :: (zAi hs ++ W.map swp)).Perm (zAi hs ++ swp (near, far) :: W.map swp) := List.perm_middle.symm
      exact s1.trans (((pm.trans s2).cons _).trans (s3.trans ((s4.cons _).trans s5)))
end
section
theorem zOo {α : Type} [DecidableEq α] : ∀ (l m : List α), l.Nodup -> (∀ x ∈ l, x ∈ m) -> l.length <= m.length := by
  intro l
  induction l with
  | nil =>
    rintro _ _ _
    exact Qx _
  | cons x l ih =>
    rintro m nd h
    have nd' := List.nodup_cons.mp nd
    have hx := h x (.head _)
    have ih := ih (m.erase x) nd'.2 fun y hy => (List.mem_erase_of_ne (by rintro rfl; exact nd'.1 hy)).mpr (h y (.tail _ hy))
    rw [List.length_erase_of_mem hx] at ih
    have := List.length_pos_of_mem hx
    rw [Qh]; omega
theorem zGx {met : List zCz} {x : Str} : zIv met x = none ↔ ∀ p ∈ met, Txt.lower p.1 ≠ Txt.lower x := by
  unfold zIv
  constructor
  . intro h p hp e
    split at h
    . cases h
    . rename_i q
      have := List.find?_eq_none.mp q p hp
      simp [e] at this
  . intro h
    split
    . rename_i p q
      have h1 := List.mem_of_find?_eq_some q
      have h2 := List.find?_some q
      exact absurd (by simpa using h2) (h p h1)
    . rfl
structure Bfs (E met : List zCz) (P q : List Str) (dep : Str -> Nat) : Prop where
  names : met.map (fun p => Txt.lower p.1) = P ++ q
  nodup : (P ++ q).Nodup
  low : ∀ x ∈ P ++ q, x ∈ zDm
  a0 : Qd "a" ∈ P ++ q
  da : dep (Qd "a") = 0
  par : ∀ p ∈ met, Txt.lower p.1 = Qd "a" ∨ ((p.2, Txt.lower p.1) ∈ E /\ p.2 ∈ P ++ q /\ dep (Txt.lower p.1) = dep p.2 + 1)
  clos : ∀ u ∈ P, ∀ v, (u, v) ∈ E -> v ∈ P ++ q /\ dep v <= dep u + 1
  bnd : ∀ x ∈ P ++ q, dep x < (P ++ q).length
  ord : ∀ u ∈ P, ∀ x ∈ q, dep u <= dep x
  win : ∀ x ∈ q, ∀ y ∈ q, dep y <= dep x + 1
  srt : q.Pairwise (fun x y => dep x <= dep y)
structure Bin (E met : List zCz) (P : List Str) (t : Str) (q : List Str) (dep : Str -> Nat) (dn : List Str) : Prop where
  names : met.map (fun p => Txt.lower p.1) = (P ++ [t]) ++ q
  nodup : ((P ++ [t]) ++ q).Nodup
  low : ∀ x ∈ (P ++ [t]) ++ q, x ∈ zDm
  a0 : Qd "a" ∈ (P ++ [t]) ++ q
  da : dep (Qd "a") = 0
  par : ∀ p ∈ met, Txt.lower p.1 = Qd "a" ∨ ((p.2, Txt.lower p.1) ∈ E /\ p.2 ∈ (P ++ [t]) ++ q /\ dep (Txt.lower p.1) = dep p.2 + 1)
  clos : ∀ u ∈ P, ∀ v, (u, v) ∈ E -> v ∈ (P ++ [t]) ++ q /\ dep v <= dep u + 1
  dn : ∀ v ∈ dn, v ∈ (P ++ [t]) ++ q
  bnd : ∀ x ∈ (P ++ [t]) ++ q, dep x < ((P ++ [t]) ++ q).length
  ord : ∀ u ∈ P ++ [t], dep u <= dep t
  lo : ∀ x ∈ q, dep t <= dep x
  hi : ∀ x ∈ q, dep x <= dep t + 1
  srt : q.Pairwise (fun x y => dep x <= dep y)
theorem zWs {E met : List zCz} {P : List Str} {t : Str} {q : List Str} {dep : Str -> Nat} (B : Bfs E met P (t :: q) dep) : Bin E met P t q dep [] := by
  have e : P ++ t :: q = (P ++ [t]) ++ q := by simp
  have srt := List.pairwise_cons.mp B.srt
  refine ⟨by rw [← e]; exact B.names, by rw [← e]; exact B.nodup, by rw [← e]; exact B.low, by rw [← e]; exact B.a0, B.da, by rw [← e]; exact B.par, by rw [← e]; exact B.clos, (fun _ h => nomatch h), by rw [← e]; exact B.bnd, ?_, srt.1, fun x hx => B.win t (.head _) x (.tail _ hx), srt.2⟩
  intro u hu
  rcases Qs.mp hu with h | h
  . exact B.ord u h t (.head _)
  . rw [Qr] at h; subst h; exact Qo _
theorem yDv {E met : List zCz} {P : List Str} {t : Str} {q : List Str} {dep : Str -> Nat} {dn : List Str} (B : Bin E met P t q dep dn) (h : ∀ v, (t, v) ∈ E -> v ∈ dn) : Bfs E met (P ++ [t]) q dep := by
  refine ⟨B.names, B.nodup, B.low, B.a0, B.da, B.par, fun u hu v he => ?_, B.bnd, fun u hu x hx => Nat.le_trans (B.ord u hu) (B.lo x hx), fun x hx y hy => Nat.le_trans (B.hi y hy) (by have := B.lo x hx; omega), B.srt⟩
  rcases Qs.mp hu with hp | ht
  . exact B.clos u hp v he
  . rw [Qr] at ht; subst ht
    have hv := B.dn v (h v he)
    refine ⟨hv, ?_⟩
    rcases Qs.mp hv with h1 | h1
    . exact Nat.le_succ_of_le (B.ord v h1)
    . exact B.hi v h1
theorem zYr {E met : List zCz} {P : List Str} {t : Str} {q : List Str} {dep : Str -> Nat} {dn : List Str} {goal : Str} (B : Bin E met P t q dep dn) (hg : zAv goal ∈ zDm) (hE : (t, zAv goal) ∈ E) :
    ∃ met' q' dep', zC7 t (met, q) goal = (met', q') /\ Bin E met' P t q' dep' (dn ++ [zAv goal]) := by
  generalize hh : zAv goal = g at hg hE
  have lg := zEa hg
  have mem_names : ∀ x, x ∈ (P ++ [t]) ++ q ↔ ∃ p ∈ met, Txt.lower p.1 = x := by
    intro x; rw [← B.names, Qq]
  unfold zC7
  dsimp only
  rw [hh]
  induction e : zIv met (Txt.upper g) with
  | some w =>
    obtain ⟨p, hp, _, hl⟩ := zLg e
    rw [lg.2.2.1] at hl
    refine ⟨met, q, dep, rfl, ⟨B.names, B.nodup, B.low, B.a0, B.da, B.par, B.clos, fun v hv => ?_, B.bnd, B.ord, B.lo, B.hi, B.srt⟩⟩
    rcases Qs.mp hv with h | h
    . exact B.dn v h
    . rw [Qr] at h; subst h; exact (mem_names _).mpr ⟨p, hp, hl⟩
  | none =>
    have hn := zGx.mp e
    rw [lg.2.2.1] at hn
    have ng : g ∉ (P ++ [t]) ++ q := by
      intro h
      obtain ⟨p, hp, hl⟩ := (mem_names g).mp h
      exact hn p hp hl
    have es : (zFl met g t).2 = met ++ [(g, t)] := by
      unfold zFl
      have : zIv met g = none := zGx.mpr (by rw [lg.2.1]; exact hn)
      rw [this]
    dsimp only
    rw [es]
    have nm : (met ++ [(g, t)]).map (fun p => Txt.lower p.1) = (P ++ [t]) ++ (q ++ [g]) := by
      rw [Qt, B.names]
      show (P ++ [t]) ++ q ++ [Txt.lower g] = _
      rw [lg.2.1, Qj]
    have tm : t ∈ (P ++ [t]) ++ q := Qu _ (Qv _ (.head _))
    have tg : t ≠ g := fun h => ng (h ▸ tm)
    have dne : ∀ x ∈ (P ++ [t]) ++ q, (if x = g then dep t + 1 else dep x) = dep x := fun x hx => if_neg (by rintro rfl; exact ng hx)
    have up : ∀ x, x ∈ (P ++ [t]) ++ q -> x ∈ (P ++ [t]) ++ (q ++ [g]) := fun x hx => by rw [← Qj]; exact Qu _ hx
    have gm : g ∈ (P ++ [t]) ++ (q ++ [g]) := by rw [← Qj]; exact Qv _ (.head _)
    have split : ∀ x, x ∈ (P ++ [t]) ++ (q ++ [g]) -> x ∈ (P ++ [t]) ++ q ∨ x = g := fun x hx => by
      rw [← Qj] at hx
      rcases Qs.mp hx with h | h
      . exact .inl h
      . exact .inr (by simpa using h)
    have len : ((P ++ [t]) ++ (q ++ [g])).length = ((P ++ [t]) ++ q).length + 1 := by simp; omega
    have dt : (if t = g then dep t + 1 else dep t) = dep t := if_neg tg
    refine ⟨met ++ [(g, t)], q ++ [g], fun x => if x = g then dep t + 1 else dep x, rfl, ⟨nm, ?_, ?_, up _ B.a0, ?_, ?_, ?_, ?_, ?_, ?_, ?_, ?_, ?_⟩⟩
    . rw [← Qj, List.nodup_append]
      exact ⟨B.nodup, by simp, fun x hx y hy => by rw [Qr] at hy; subst hy; rintro rfl; exact ng hx⟩
    . intro x hx
      rcases split x hx with h | rfl
      . exact B.low x h
      . exact hg
    . exact (dne _ B.a0).trans B.da
    . intro p hp
      rcases Qs.mp hp with h | h
      . rcases B.par p h with q1 | ⟨q1, q2, q3⟩
        . exact .inl q1
        . refine .inr ⟨q1, up _ q2, ?_⟩
          have m1 : Txt.lower p.1 ∈ (P ++ [t]) ++ q := (mem_names _).mpr ⟨p, h, rfl⟩
          rw [dne _ m1, dne _ q2]; exact q3
      . rw [Qr] at h; subst h
        right
        show (t, Txt.lower g) ∈ E /\ _
        rw [lg.2.1]
        refine ⟨hE, up _ tm, ?_⟩
        show (if g = g then _ else _) = (if t = g then _ else _) + 1
        rw [if_pos rfl, dt]
    . intro u hu v he
      have := B.clos u hu v he
      have um : u ∈ (P ++ [t]) ++ q := Qu _ (Qu _ hu)
      refine ⟨up _ this.1, ?_⟩
      rw [dne _ this.1, dne _ um]; exact this.2
    . intro v hv
      rcases Qs.mp hv with h | h
      . exact up _ (B.dn v h)
      . rw [Qr] at h; subst h; exact gm
    . intro x hx
      rw [len]
      rcases split x hx with h | rfl
      . rw [dne _ h]; have := B.bnd x h; omega
      . show (if x = x then _ else _) < _
        rw [if_pos rfl]; have := B.bnd t tm; omega
    . intro u hu
      show (if u = g then _ else _) <= (if t = g then _ else _)
      rw [dt, if_neg (by rintro rfl; exact ng (Qu _ hu))]; exact B.ord u hu
    . intro x hx
      show (if t = g then _ else _) <= (if x = g then _ else _)
      rw [dt]
      rcases Qs.mp hx with h | h
      . rw [if_neg (by rintro rfl; exact ng (Qv _ h))]; exact B.lo x h
      . rw [Qr] at h; subst h; rw [if_pos rfl]; omega
    . intro x hx
      show (if x = g then _ else _) <= (if t = g then _ else _) + 1
      rw [dt]
      rcases Qs.mp hx with h | h
      . rw [if_neg (by rintro rfl; exact ng (Qv _ h))]; exact B.hi x h
      . rw [Qr] at h; subst h; rw [if_pos rfl]; omega
    . rw [List.pairwise_append]
      refine ⟨List.Pairwise.imp_of_mem (fun {x y} hx hy hxy => ?_) B.srt, by simp, fun x hx y hy => ?_⟩
      . show (if x = g then _ else _) <= (if y = g then _ else _)
        rw [if_neg (by rintro rfl; exact ng (Qv _ hx)), if_neg (by rintro rfl; exact ng (Qv _ hy))]; exact hxy
      . rw [Qr] at hy; subst hy
        show (if x = y then _ else _) <= (if y = y then _ else _)
        rw [if_pos rfl, if_neg (by rintro rfl; exact ng (Qv _ hx))]; exact B.hi x hx
end
section
theorem yB1 {E : List zCz} {P : List Str} {t : Str} : ∀ (gs : List Str) (met : List zCz) (q : List Str) (dep : Str -> Nat) (dn : List Str), Bin E met P t q dep dn -> (∀ g ∈ gs, zAv g ∈ zDm /\ (t, zAv g) ∈ E) ->
    ∃ met' q' dep', gs.foldl (zC7 t) (met, q) = (met', q') /\ Bin E met' P t q' dep' (dn ++ gs.map zAv) := by
  intro gs
  induction gs with
  | nil =>
    rintro met q dep dn B _
    exact ⟨met, q, dep, rfl, by simpa using B⟩
  | cons g gs ih =>
    rintro met q dep dn B h
    have hg := h g (.head _)
    obtain ⟨m1, q1, d1, e1, B1⟩ := zYr B hg.1 hg.2
    obtain ⟨m2, q2, d2, e2, B2⟩ := ih m1 q1 d1 _ B1 fun x hx => h x (.tail _ hx)
    refine ⟨m2, q2, d2, ?_, ?_⟩
    . rw [List.foldl_cons, e1]; exact e2
    . rw [List.map_cons]; simpa using B2
theorem yMu {hs : List (Str × Str)} (hL : zQ7 (zAi hs)) : ∀ (k : Nat) (met : List zCz) (P q : List Str) (dep : Str -> Nat), Bfs (zAi hs) met P q dep -> 6 <= k + P.length ->
    ∃ met' P' dep', zL7 hs k (met, q) = (met', []) /\ Bfs (zAi hs) met' P' [] dep' := by
  intro k
  induction k with
  | zero =>
    intro met P q dep B h
    have := zOo _ zDm B.nodup B.low
    rw [Qi] at this
    have l5 : zDm.length = 5 := rfl
    omega
  | succ k ih =>
    intro met P q dep B h
    induction q using List.casesOn with
    | nil => exact ⟨met, P, dep, rfl, B⟩
    | cons t q =>
      have ht := B.low t (Qv _ (.head _))
      have hg : ∀ g ∈ zAm hs (Txt.upper t), zAv g ∈ zDm /\ (t, zAv g) ∈ zAi hs := by
        intro g hg
        have hm : zAv g ∈ zPr (zAi hs) t := by rw [← zEp ht]; exact Qq.mpr ⟨g, hg, rfl⟩
        unfold zPr at hm
        obtain ⟨p, hp, e⟩ := Qq.mp hm
        obtain ⟨hp1, hp2⟩ := List.mem_filter.mp hp
        have e1 : p.1 = t := by simpa using hp2
        have e2 : (t, zAv g) = p := by rw [← e, ← e1]
        exact ⟨by rw [← e]; exact (hL p hp1).2, by rw [e2]; exact hp1⟩
      obtain ⟨m1, q1, d1, e1, B1⟩ := yB1 (zAm hs (Txt.upper t)) met q dep [] (zWs B) hg
      have B2 := yDv B1 (fun v hv => by
        rw [List.nil_append, zEp ht]
        unfold zPr
        exact Qq.mpr ⟨(t, v), List.mem_filter.mpr ⟨hv, by simp⟩, rfl⟩)
      obtain ⟨m2, P2, d2, e2, B3⟩ := ih m1 (P ++ [t]) q1 d1 B2 (by rw [Qi]; show 6 <= k + (P.length + 1); omega)
      refine ⟨m2, P2, d2, ?_, B3⟩
      show zL7 hs k ((zAm hs (Txt.upper t)).foldl (zC7 t) (met, q)) = _
      rw [e1]; exact e2
structure zKn (E met : List zCz) (N : List Str) (dep : Str -> Nat) : Prop where
  names : met.map (fun p => Txt.lower p.1) = N
  nodup : N.Nodup
  low : ∀ x ∈ N, x ∈ zDm
  a0 : Qd "a" ∈ N
  da : dep (Qd "a") = 0
  par : ∀ p ∈ met, Txt.lower p.1 = Qd "a" ∨ ((p.2, Txt.lower p.1) ∈ E /\ p.2 ∈ N /\ dep (Txt.lower p.1) = dep p.2 + 1)
  clos : ∀ u ∈ N, ∀ v, (u, v) ∈ E -> v ∈ N /\ dep v <= dep u + 1
  bnd : ∀ x ∈ N, dep x < N.length
theorem zU7 {hs : List (Str × Str)} (hL : zQ7 (zAi hs)) : ∃ met N dep, zMv hs [] = (met, []) /\ zKn (zAi hs) met N dep := by
  have B0 : Bfs (zAi hs) [(Qd "A", Qd "a")] [] [Qd "a"] (fun _ => 0) := by
    refine ⟨by decide +kernel, by simp, fun x hx => ?_, .head _, rfl, fun p hp => ?_, (fun _ h => nomatch h), fun x hx => Nat.zero_lt_one, (fun _ h => nomatch h), fun _ _ _ _ => Qx _, by simp⟩
    . have hx' : x = Qd "a" := by simpa using hx
      subst hx'; decide
    . rw [Qr] at hp; subst hp; left; decide +kernel
  obtain ⟨m, P, d, e, B⟩ := yMu hL 9 _ _ _ _ B0 (by simp)
  have es : (zFl [] "A" "a").2 = [(Qd "A", Qd "a")] := rfl
  refine ⟨m, P, d, ?_, ?_⟩
  . unfold zMv; rw [es]; exact e
  . have e1 : P ++ [] = P := List.append_nil P
    exact ⟨B.names.trans e1, by have := B.nodup; rwa [e1] at this, by have := B.low; rwa [e1] at this, by have := B.a0; rwa [e1] at this, B.da, by have := B.par; rwa [e1] at this, by have := B.clos; rwa [e1] at this, by have := B.bnd; rwa [e1] at this⟩
theorem zG1 {E met : List zCz} {N : List Str} {dep : Str -> Nat} (R : zKn E met N dep) {x : Str} (hx : x ∈ N) (ne : x ≠ Qd "a") : ∃ u, zIv met (Txt.upper x) = some u /\ (u, x) ∈ E /\ u ∈ N /\ dep x = dep u + 1 := by
  have lx := zEa (R.low x hx)
  induction e : zIv met (Txt.upper x) with
  | none =>
    have hn := zGx.mp e
    rw [← R.names] at hx
    obtain ⟨p, hp, hl⟩ := Qq.mp hx
    exact absurd (by rw [hl, lx.2.2.1]) (hn p hp)
  | some u =>
    obtain ⟨p, hp, h2, hl⟩ := zLg e
    rw [lx.2.2.1] at hl
    rcases R.par p hp with q | ⟨q1, q2, q3⟩
    . exact absurd (hl.symm.trans q) ne
    . rw [hl, h2] at *
      exact ⟨u, rfl, q1, q2, q3⟩
theorem zWz {E met : List zCz} {N : List Str} {dep : Str -> Nat} (R : zKn E met N dep) {x : Str} (hx : x ∉ N) (hl : x ∈ zDm) : zIv met (Txt.upper x) = none := by
  refine zGx.mpr fun p hp e => hx ?_
  rw [(zEa hl).2.2.1] at e
  rw [← R.names]
  exact Qq.mpr ⟨p, hp, e⟩
inductive zMj : Str -> List zCz -> Str -> Prop
  | nil (x : Str) : zMj x [] x
  | cons {n x y : Str} {W : List zCz} : zMj n W y -> zMj x ((n, x) :: W) y
theorem yG6 {E met : List zCz} {N : List Str} {dep : Str -> Nat} (R : zKn E met N dep) : ∀ (d f : Nat) (town : Str) (way : List zCz), town ∈ N -> dep town = d -> d < f -> way.length + d <= 9 ->
    ∃ W, zGi met f town way = way ++ W /\ zMj town W (Qd "a") /\ W.length = d /\ (∀ p ∈ W, p ∈ E /\ p.1 ∈ N /\ p.2 ∈ N /\ dep p.2 = dep p.1 + 1 /\ dep p.2 <= d) /\ W.Nodup := by
  intro d
  induction d with
  | zero =>
    intro f town way ht hd hf _
    obtain ⟨f, rfl⟩ : ∃ g, f = g + 1 := ⟨f - 1, by omega⟩
    have e : town = Qd "a" := by
      refine Decidable.byContradiction fun ne => ?_
      obtain ⟨u, _, _, _, h4⟩ := zG1 R ht ne
      omega
    subst e
    refine ⟨[], ?_, .nil _, rfl, (fun _ h => nomatch h), List.nodup_nil⟩
    unfold zGi
    rw [show (Qd "a" == Qd "a") = true from rfl]; simp
  | succ d ih =>
    intro f town way ht hd hf hw
    obtain ⟨f, rfl⟩ : ∃ g, f = g + 1 := ⟨f - 1, by omega⟩
    have ne : town ≠ Qd "a" := by rintro rfl; rw [R.da] at hd; omega
    obtain ⟨u, e1, e2, e3, e4⟩ := zG1 R ht ne
    obtain ⟨W, w1, w2, w3, w4, w5⟩ := ih f u (way ++ [(u, town)]) e3 (by omega) (by omega) (by rw [Qi]; show way.length + 1 + d <= 9; omega)
    refine ⟨(u, town) :: W, ?_, .cons w2, by rw [Qh, w3], ?_, ?_⟩
    . unfold zGi
      rw [show (town == Qd "a") = false by simpa using ne, e1]
      show (bif decide (way.length < 9) then zGi met f u (way ++ [(u, town)]) else way) = _
      rw [decide_eq_true (by omega), Bool.cond_true, w1, Qj]; rfl
    . intro p hp
      rcases Qy.mp hp with rfl | hp
      . exact ⟨e2, e3, ht, e4, by show dep town <= _; omega⟩
      . obtain ⟨a, b, c, e, g⟩ := w4 p hp
        exact ⟨a, b, c, e, by omega⟩
    . rw [List.nodup_cons]
      refine ⟨fun h => ?_, w5⟩
      have := (w4 _ h).2.2.2.2
      have : dep town <= d := this
      omega
theorem yB6 {E met : List zCz} {N : List Str} {dep : Str -> Nat} (R : zKn E met N dep) (h : Qd "e" ∉ N) : zGi met 10 (Qd "e") [] = [] := by
  unfold zGi
  rw [show (Qd "e" == Qd "a") = false from rfl, zWz R h (by decide)]
  rfl
theorem zJx {l : List Str} {x : Str} : inL l x = true ↔ x ∈ l := by
  unfold inL
  rw [List.any_map, List.any_eq_true]
  constructor
  . rintro ⟨y, hy, e⟩
    have : y = x := eq_of_beq (show (y == x) = true from e)
    subst this; exact hy
  . intro h
    exact ⟨x, h, beq_self_eq_true x⟩
theorem zLu {roads : List zCz} {reached : List Str} {x : Str} : x ∈ zCt roads reached ↔ x ∈ reached ∨ ∃ u, (u, x) ∈ roads /\ u ∈ reached := by
  unfold zCt
  rw [Qs, Qq]
  constructor
  . rintro (h | ⟨p, hp, rfl⟩)
    . exact .inl h
    . obtain ⟨h1, h2⟩ := List.mem_filter.mp hp
      rw [Bool.and_eq_true] at h2
      exact .inr ⟨p.1, h1, zJx.mp h2.1⟩
  . rintro (h | ⟨u, h1, h2⟩)
    . exact .inl h
    . by_cases q : x ∈ reached
      . exact .inl q
      . refine .inr ⟨(u, x), List.mem_filter.mpr ⟨h1, ?_⟩, rfl⟩
        rw [Bool.and_eq_true]
        refine ⟨zJx.mpr h2, ?_⟩
        cases e : inL reached x
        . rfl
        . exact absurd (zJx.mp e) q
theorem zQv : ∀ {x y : Str} {W : List zCz}, zMj x W y -> ∀ p ∈ W, p.1 = y ∨ ∃ n, (n, p.1) ∈ W
  | _, _, _, .nil _, _, h => by cases h
  | _, _, _, .cons (n := n) (x := x) (W := W) c, p, h => by
    rcases Qy.mp h with rfl | h
    . cases c with
      | nil => exact .inl rfl
      | cons c' => exact .inr ⟨_, .tail _ (.head _)⟩
    . rcases zQv c p h with q | ⟨m, q⟩
      . exact .inl q
      . exact .inr ⟨m, .tail _ q⟩
theorem yAh {E met : List zCz} {N : List Str} {dep : Str -> Nat} (R : zKn E met N dep) {W : List zCz} (hc : zMj (Qd "e") W (Qd "a")) (hW : ∀ p ∈ W, p ∈ E /\ p.1 ∈ N /\ p.2 ∈ N /\ dep p.2 = dep p.1 + 1)
    (he : Qd "e" ∈ N) (hd5 : dep (Qd "e") <= 5) : ∀ (j k : Nat) (reached : List Str), k + j = dep (Qd "e") -> (∀ x ∈ reached, x ∈ N /\ dep x <= k) -> (∀ x, (x = Qd "a" ∨ ∃ n, (n, x) ∈ W) -> dep x <= k -> x ∈ reached) ->
    zFb E (6 - k) reached (k : Int) = (dep (Qd "e") : Int) := by
  intro j
  induction j with
  | zero =>
    rintro k reached hk h1 h2
    have hon : Qd "e" = Qd "a" ∨ ∃ n, (n, Qd "e") ∈ W := by
      cases hc with
      | cons c => exact .inr ⟨_, .head _⟩
    have hm := h2 _ hon (by omega)
    obtain ⟨f, ef⟩ : ∃ f, 6 - k = f + 1 := ⟨5 - k, by omega⟩
    rw [ef]
    unfold zFb
    rw [show inL reached (Qd "e") = true from zJx.mpr hm]
    show (k : Int) = _
    omega
  | succ j ih =>
    rintro k reached hk h1 h2
    have nm : Qd "e" ∉ reached := fun h => by have := (h1 _ h).2; omega
    obtain ⟨f, ef⟩ : ∃ f, 6 - k = f + 1 := ⟨5 - k, by omega⟩
    rw [ef]
    unfold zFb
    have ei : inL reached (Qd "e") = false := by
      cases e : inL reached (Qd "e")
      . rfl
      . exact absurd (zJx.mp e) nm
    rw [ei, decide_eq_true (by omega : (k : Int) < 5)]
    show zFb E f (zCt E reached) ((k : Int) + 1) = _
    rw [show f = 6 - (k + 1) by omega, show (k : Int) + 1 = ((k + 1 : Nat) : Int) by omega]
    refine ih (k + 1) _ (by omega) (fun x hx => ?_) (fun x hx hdx => ?_)
    . rcases zLu.mp hx with h | ⟨u, hu, hr⟩
      . exact ⟨(h1 x h).1, by have := (h1 x h).2; omega⟩
      . have hu1 := h1 u hr
        have := R.clos u hu1.1 x hu
        exact ⟨this.1, by omega⟩
    . rcases hx with rfl | ⟨n, hn⟩
      . exact zLu.mpr (.inl (h2 _ (.inl rfl) (by rw [R.da]; exact Qx _)))
      . have hw := hW _ hn
        refine zLu.mpr (.inr ⟨n, hw.1, h2 n ?_ ?_⟩)
        . rcases zQv hc _ hn with q | q
          . exact .inl q
          . exact .inr q
        . have : dep x = dep n + 1 := hw.2.2.2
          omega
end
section
noncomputable def zMs (S : Str -> Bool) (p : zCz) : Bool := S p.1 && !S p.2
noncomputable def b2i (b : Bool) : Int := if b then 1 else 0
theorem zL2 (n : Nat) (c : Bool) : ((n + (if c = true then 1 else 0) : Nat) : Int) = (n : Int) + b2i c := by cases c <;> rfl
theorem yE9 (sn sx : Bool) : b2i (sn && !sx) - b2i (sx && !sn) = b2i sn - b2i sx := by cases sn <;> cases sx <;> rfl
theorem zNi (S : Str -> Bool) : ∀ {x y : Str} {W : List zCz}, zMj x W y -> (W.countP (zMs S) : Int) - ((W.map swp).countP (zMs S) : Int) = b2i (S y) - b2i (S x)
  | _, _, _, .nil _ => by simp
  | _, _, _, .cons (n := n) (x := x) (y := y) (W := W) c => by
    have ih := zNi S c
    rw [List.map_cons, List.countP_cons, List.countP_cons, zL2, zL2]
    have e1 : zMs S (n, x) = (S n && !S x) := rfl
    have e2 : zMs S (swp (n, x)) = (S x && !S n) := rfl
    rw [e1, e2]
    have := yE9 (S n) (S x)
    omega
theorem zM8 (t : Str) : ∀ {x y : Str} {W : List zCz}, zMj x W y -> (W.countP (fun p => p.1 == t) : Int) - ((W.map swp).countP (fun p => p.1 == t) : Int) = b2i (y == t) - b2i (x == t)
  | _, _, _, .nil _ => by simp
  | _, _, _, .cons (n := n) (x := x) (y := y) (W := W) c => by
    have ih := zM8 t c
    rw [List.map_cons, List.countP_cons, List.countP_cons, zL2, zL2]
    have e2 : (swp (n, x)).1 = x := rfl
    rw [e2]
    show _ + b2i (n == t) - _ = _
    omega
theorem yBb : (zDm.all fun a => zDm.all fun b => zIp a b == zIp b a) = true := by decide +kernel
theorem zX3 {p : zCz} (h : p.1 ∈ zDm /\ p.2 ∈ zDm) : zBz (swp p) = zBz p := by
  have := Qf.mp (Qf.mp yBb p.1 h.1) p.2 h.2
  unfold zBz
  show D.lst ((zIp p.2 p.1).map .str) = _
  rw [show zIp p.1 p.2 = zIp p.2 p.1 by simpa using this]
structure SI (E0 E : List zCz) (k : Nat) : Prop where
  cut : ∀ S : Str -> Bool, S (Qd "a") = true -> S (Qd "e") = false -> (E.countP (zMs S) : Int) + k = E0.countP (zMs S)
  deg : ∀ t, (E.countP (fun p => p.1 == t) : Int) = (E0.countP (fun p => p.1 == t) : Int) + k * (b2i (Qd "e" == t) - b2i (Qd "a" == t))
  pairs : (E.map zBz).Perm (E0.map zBz)
  low : zQ7 E
theorem SI.start {E : List zCz} (h : zQ7 E) : SI E E 0 := ⟨fun S _ _ => by simp, fun t => by simp, .refl _, h⟩
theorem SI.turn {E0 E E' W : List zCz} {k : Nat} (I : SI E0 E k) (hW : ∀ p ∈ W, p ∈ E) (hp : (E' ++ W).Perm (E ++ W.map swp)) (hc : zMj (Qd "e") W (Qd "a")) (hl : zQ7 E') : SI E0 E' (k + 1) := by
  have cnt : ∀ P : zCz -> Bool, E'.countP P + W.countP P = E.countP P + (W.map swp).countP P := by
    intro P
    have := hp.countP_eq P
    rw [List.countP_append, List.countP_append] at this
    exact this
  refine ⟨fun S ha he => ?_, fun t => ?_, ?_, hl⟩
  . have c1 := cnt (zMs S)
    have c2 := zNi S hc
    have c3 := I.cut S ha he
    rw [ha, he] at c2
    have : b2i true - b2i false = 1 := rfl
    omega
  . have c1 := cnt (fun p => p.1 == t)
    have c2 := zM8 t hc
    have c3 := I.deg t
    have e1 : ((k + 1 : Nat) : Int) * (b2i (Qd "e" == t) - b2i (Qd "a" == t)) = (k : Int) * (b2i (Qd "e" == t) - b2i (Qd "a" == t)) + (b2i (Qd "e" == t) - b2i (Qd "a" == t)) := by
      rw [show ((k + 1 : Nat) : Int) = (k : Int) + 1 by omega, Int.add_mul, Int.one_mul]
    rw [e1]
    omega
  . have m := hp.map zBz
    rw [Qt, Qt, List.map_map] at m
    have e : W.map (zBz ∘ swp) = W.map zBz := List.map_congr_left fun p hpW => zX3 (I.low p (hW p hpW))
    rw [e] at m
    exact ((List.perm_append_right_iff _).mp m).trans I.pairs
structure LB (E : List zCz) (m : Nat) : Prop where
  pot : ∃ (Rr : Str -> Prop) (p : Str -> Nat), Rr (Qd "a") /\ p (Qd "a") = 0 /\ (∀ u v, (u, v) ∈ E -> Rr u -> Rr v /\ p v <= p u + 1) /\ m <= p (Qd "e")
theorem zNz {E met : List zCz} {N : List Str} {dep : Str -> Nat} (R : zKn E met N dep) {C : Str -> Prop} (ha : C (Qd "a")) (hs : ∀ u x, u ∈ N -> x ∈ N -> (u, x) ∈ E -> dep x = dep u + 1 -> C u -> C x) : ∀ x ∈ N, C x := by
  have go : ∀ d x, x ∈ N -> dep x = d -> C x := by
    intro d
    induction d with
    | zero =>
      intro x hx hd
      by_cases e : x = Qd "a"
      . rw [e]; exact ha
      . obtain ⟨u, _, _, _, h4⟩ := zG1 R hx e
        omega
    | succ d ih =>
      intro x hx hd
      by_cases e : x = Qd "a"
      . rw [e]; exact ha
      . obtain ⟨u, _, h2, h3, h4⟩ := zG1 R hx e
        exact hs u x h3 hx h2 h4 (ih u h3 (by omega))
  exact fun x hx => go _ x hx rfl
theorem LB.le {E met : List zCz} {N : List Str} {dep : Str -> Nat} {m : Nat} (L : LB E m) (R : zKn E met N dep) (he : Qd "e" ∈ N) : m <= dep (Qd "e") := by
  obtain ⟨Rr, p, h1, h2, h3, h4⟩ := L.pot
  have := zNz R (C := fun x => Rr x /\ p x <= dep x) ⟨h1, by omega⟩ (fun u x _ _ hE hd hc => by
    have := h3 u x hE hc.1
    exact ⟨this.1, by omega⟩) _ he
  omega
theorem LB.next {E E' W met : List zCz} {N : List Str} {dep : Str -> Nat} (R : zKn E met N dep) (hW : ∀ p ∈ W, p.1 ∈ N /\ p.2 ∈ N /\ dep p.2 = dep p.1 + 1) (hp : (E' ++ W).Perm (E ++ W.map swp)) : LB E' (dep (Qd "e")) := by
  refine ⟨(· ∈ N), dep, R.a0, R.da, fun u v hv hu => ?_, Qo _⟩
  have := hp.mem_iff.mp (Qu W hv)
  rcases Qs.mp this with h | h
  . exact R.clos u hu v h
  . obtain ⟨q, hq, e⟩ := Qq.mp h
    unfold swp at e
    cases e
    have := hW q hq
    exact ⟨this.1, by omega⟩
structure yP0 (l : List (Int × Int)) (m : Nat) : Prop where
  same : l.map (·.1) = l.map (·.2)
  srt : (l.map (·.1)).Pairwise (fun a b => a <= b)
  top : ∀ a ∈ l.map (·.1), a <= (m : Int)
structure End (E0 : List zCz) (R : yFy) : Prop where
  si : SI E0 (zAi R.hs) R.sent.length
  lens : ∃ m, yP0 R.sent m
  few : R.sent.length <= 13
  fin : ∃ met N dep, zKn (zAi R.hs) met N dep /\ Qd "e" ∉ N /\ R.names = N
theorem yFu {E0 : List zCz} (hz : E0.length <= 12) : ∀ (f : Nat) (hs : List (Str × Str)) (sent : List (Int × Int)) (m : Nat), SI E0 (zAi hs) sent.length -> yP0 sent m -> LB (zAi hs) m -> f + sent.length = 14 -> ∃ R, zF8 f hs sent = some R /\ End E0 R := by
  intro f
  induction f with
  | zero =>
    rintro hs sent m I _ _ hf
    have := I.cut (fun x => x == Qd "a") rfl rfl
    have h2 : E0.countP (zMs fun x => x == Qd "a") <= E0.length := List.countP_le_length
    omega
  | succ f ih =>
    rintro hs sent m I L B hf
    obtain ⟨met, N, dep, eM, R⟩ := zU7 I.low
    have n5 : N.length <= 5 := zOo N zDm R.nodup R.low
    have ml : met.length = N.length := by rw [← R.names, Qg]
    unfold zF8
    rw [eM]
    rw [show (([] : List Str).isEmpty && decide (met.length < 64)) = true by rw [decide_eq_true (by omega)]; rfl, Bool.cond_true]
    by_cases he : Qd "e" ∈ N
    . have d5 := R.bnd _ he
      obtain ⟨W, w1, w2, w3, w4, w5⟩ := yG6 R (dep (Qd "e")) 10 (Qd "e") [] he rfl (by omega) (by simp; omega)
      have w1' : zGi met 10 (Qd "e") [] = W := by rw [w1]; rfl
      dsimp only
      rw [w1']
      have ne : W.isEmpty = false := by
        cases w2 with
        | cons => rfl
      rw [ne, Bool.cond_false]
      obtain ⟨hs', t1, t2, t3⟩ := zYn W hs w5 (fun p hp => (w4 p hp).1) I.low
      rw [t1]
      dsimp only
      have el : zE3 hs = (dep (Qd "e") : Int) := by
        unfold zE3
        exact yAh R w2 (fun p hp => ⟨(w4 p hp).1, (w4 p hp).2.1, (w4 p hp).2.2.1, (w4 p hp).2.2.2.1⟩) he (by omega) (dep (Qd "e")) 0 [Qd "a"] (by omega)
          (fun x hx => by rw [Qr] at hx; subst hx; exact ⟨R.a0, by rw [R.da]; exact Qo 0⟩)
          (fun x hx hd => by
            rcases hx with rfl | ⟨n, hn⟩
            . exact .head _
            . have := (w4 _ hn).2.2.2.1
              have : dep x = dep n + 1 := this
              omega)
      rw [el, w3]
      have mle := B.le R he
      refine ih hs' (sent ++ [((dep (Qd "e") : Int), (dep (Qd "e") : Int))]) (dep (Qd "e")) ?_ ?_ ?_ (by rw [Qi]; show f + (sent.length + 1) = 14; omega)
      . rw [Qi]
        exact I.turn (fun p hp => (w4 p hp).1) t2 w2 t3
      . refine ⟨?_, ?_, ?_⟩
        . rw [Qt, Qt, L.same]; rfl
        . rw [Qt, List.pairwise_append]
          refine ⟨L.srt, by simp, fun a ha b hb => ?_⟩
          have hb' : b = (dep (Qd "e") : Int) := by simpa using hb
          have := L.top a ha
          omega
        . intro a ha
          rw [Qt] at ha
          rcases Qs.mp ha with h | h
          . have := L.top a h; omega
          . have h' : a = (dep (Qd "e") : Int) := by simpa using h
            omega
      . exact LB.next R (fun p hp => ⟨(w4 p hp).2.1, (w4 p hp).2.2.1, (w4 p hp).2.2.2.1⟩) t2
    . dsimp only
      rw [yB6 R he]
      refine ⟨⟨sent, met.map fun p => Txt.lower p.1, hs⟩, rfl, I, ⟨m, L⟩, (by show sent.length <= 13; omega), met, N, dep, R, he, R.names⟩
end
section
theorem zLd {α : Type} {N : Nat} {P : α -> Prop} {c c' : Nat -> Nat -> Bool} (h : ∀ i j, i < N -> j < N -> c i j = c' i j) : ∀ (t : KasT α), InR N P t -> zF9 c t = zF9 c' t
  | .ret _, _ => rfl
  | .ask i j k, hI => by
    show zF9 c (k (c i j)) = zF9 c' (k (c' i j))
    rw [h i j hI.1 hI.2.1]
    exact zLd h _ (hI.2.2 _)
theorem zEn {κ : D -> Int} : ∀ (a b : List D), a.Perm b -> a.Pairwise (fun x y => κ x <= κ y) -> b.Pairwise (fun x y => κ x <= κ y) -> (∀ x ∈ a, ∀ y ∈ a, κ x = κ y -> x = y) -> a = b
  | [], b, p, _, _, _ => by rw [List.nil_perm.mp p]
  | x :: a, [], p, _, _, _ => by have := p.length_eq; simp at this
  | x :: a, y :: b, p, ha, hb, inj => by
    have ha' := List.pairwise_cons.mp ha
    have hb' := List.pairwise_cons.mp hb
    have hy : y ∈ x :: a := p.mem_iff.mpr (.head _)
    have hx : x ∈ y :: b := p.mem_iff.mp (.head _)
    have h1 : κ x <= κ y := by
      rcases Qy.mp hy with e | e
      . rw [e]; exact Int.le_refl _
      . exact ha'.1 y e
    have h2 : κ y <= κ x := by
      rcases Qy.mp hx with e | e
      . rw [e]; exact Int.le_refl _
      . exact hb'.1 x e
    have e := inj x (.head _) y hy (Int.le_antisymm h1 h2)
    subst e
    rw [zEn a b p.cons_inv ha'.2 hb'.2 fun u hu v hv => inj u (.tail _ hu) v (.tail _ hv)]
theorem zSr (l : List D) : (List.range l.length).map (fun i => l.getD i .none) = l := by
  apply List.ext_getElem
  . simp
  . intro i h1 h2
    simp at h1
    simp [h1]
theorem zFy {κ : D -> Int} {l : List D} (h : ∀ x ∈ l, ∀ y ∈ l, ltD x y = decide (κ x < κ y)) : (zCs l).Perm l /\ (zCs l).Pairwise (fun x y => κ x <= κ y) := by
  unfold zCs
  split
  . rename_i hl
    refine ⟨.refl _, ?_⟩
    rw [List.pairwise_iff_getElem]
    intro i j hi hj hij
    omega
  . rename_i hl
    have hN : 0 < l.length := by omega
    have ce : ∀ i j, i < l.length -> j < l.length -> zLs l i j = zRs yCy (fun i => κ (l.getD i .none)) i j := by
      intro i j hi hj
      show ltD (l.getD i .none) (l.getD j .none) = decide (κ (l.getD i .none) < κ (l.getD j .none))
      exact h _ (zDj hi) _ (zDj hj)
    rw [zLd ce (kas_sort l.length) (zUj hN)]
    obtain ⟨p, e, pp, srt⟩ := yAm (O := yCy) (key := fun i => κ (l.getD i .none)) l.length (by omega)
    rw [e]
    have pl : p.toList.Perm (List.range l.length) := by
      have := pp.toList
      simpa using this
    constructor
    . have := pl.map (fun i => l.getD i .none)
      rw [zSr] at this
      exact this
    . rw [List.pairwise_map, List.pairwise_iff_getElem]
      intro i j hi hj hij
      have hlen := pl.length_eq
      rw [List.length_range] at hlen
      have := srt i j (Nat.le_of_lt hij) (by omega)
      unfold kq at this
      have hi' : i < p.size := by simpa using hi
      have hj' : j < p.size := by simpa using hj
      have e1 : p.getD i 0 = p.toList[i] := by simp [Array.getD, hi']
      have e2 : p.getD j 0 = p.toList[j] := by simp [Array.getD, hj']
      rw [e1, e2] at this
      have this : decide (κ (l.getD p.toList[j] .none) < κ (l.getD p.toList[i] .none)) = false := this
      have := of_decide_eq_false this
      omega
theorem zMl {κ : D -> Int} {l l' : List D} (h : ∀ x ∈ l, ∀ y ∈ l, ltD x y = decide (κ x < κ y)) (inj : ∀ x ∈ l, ∀ y ∈ l, κ x = κ y -> x = y) (p : l.Perm l') : zCs l = zCs l' := by
  have h' : ∀ x ∈ l', ∀ y ∈ l', ltD x y = decide (κ x < κ y) := fun x hx y hy => h x (p.mem_iff.mpr hx) y (p.mem_iff.mpr hy)
  obtain ⟨p1, s1⟩ := zFy h
  obtain ⟨p2, s2⟩ := zFy h'
  exact zEn _ _ (p1.trans (p.trans p2.symm)) s1 s2 fun x hx y hy => inj x (p1.mem_iff.mp hx) y (p1.mem_iff.mp hy)
theorem zR8 {κ : D -> Int} {l m : List D} (h : ∀ x ∈ l, ∀ y ∈ l, ltD x y = decide (κ x < κ y)) (inj : ∀ x ∈ l, ∀ y ∈ l, κ x = κ y -> x = y) (p : l.Perm m) (s : m.Pairwise (fun x y => κ x <= κ y)) : zCs l = m := by
  obtain ⟨p1, s1⟩ := zFy h
  exact zEn _ _ (p1.trans p) s1 s fun x hx y hy => inj x (p1.mem_iff.mp hx) y (p1.mem_iff.mp hy)
noncomputable def κI : D -> Int
  | .int i => i
  | _ => 0
theorem zXc {ns : List Int} (s : ns.Pairwise (fun a b => a <= b)) : zCs (ns.map .int) = ns.map .int := by
  refine zR8 (κ := κI) (fun x hx y hy => ?_) (fun x hx y hy e => ?_) (.refl _) (by rw [List.pairwise_map]; exact s)
  . obtain ⟨a, _, rfl⟩ := Qq.mp hx
    obtain ⟨b, _, rfl⟩ := Qq.mp hy
    rfl
  . obtain ⟨a, _, rfl⟩ := Qq.mp hx
    obtain ⟨b, _, rfl⟩ := Qq.mp hy
    have e : a = b := e
    rw [e]
noncomputable def κS : D -> Int
  | .str x => (x.cps.getD 0 0 : Nat)
  | _ => 0
theorem yBa : (zDm.all fun a => zDm.all fun b => (ltD (.str a) (.str b) == decide (κS (.str a) < κS (.str b))) && ((κS (.str a) != κS (.str b)) || a == b)) = true := by decide +kernel
theorem zWh {a b : Str} (ha : a ∈ zDm) (hb : b ∈ zDm) : ltD (.str a) (.str b) = decide (κS (.str a) < κS (.str b)) /\ (κS (.str a) = κS (.str b) -> a = b) := by
  have := Qf.mp (Qf.mp yBa a ha) b hb
  rw [Bool.and_eq_true] at this
  refine ⟨by simpa using this.1, fun e => ?_⟩
  have h2 := this.2
  rw [Bool.or_eq_true] at h2
  rcases h2 with q | q
  . rw [e] at q; simp at q
  . simpa using q
theorem zXf {l m : List Str} (hl : ∀ x ∈ l, x ∈ zDm) (p : l.Perm m) (s : m.Pairwise (fun a b => κS (.str a) <= κS (.str b))) : zCs (l.map .str) = m.map .str := by
  refine zR8 (κ := κS) (fun x hx y hy => ?_) (fun x hx y hy e => ?_) (p.map _) (by rw [List.pairwise_map]; exact s)
  . obtain ⟨a, ha, rfl⟩ := Qq.mp hx
    obtain ⟨b, hb, rfl⟩ := Qq.mp hy
    exact (zWh (hl a ha) (hl b hb)).1
  . obtain ⟨a, ha, rfl⟩ := Qq.mp hx
    obtain ⟨b, hb, rfl⟩ := Qq.mp hy
    rw [(zWh (hl a ha) (hl b hb)).2 e]
noncomputable def κP : D -> Int
  | .lst [.str a, .str b] => 10000 * (a.cps.getD 0 0 : Nat) + (b.cps.getD 0 0 : Nat)
  | _ => 0
theorem zU3 : (zDm.all fun a => zDm.all fun b => zDm.all fun c => zDm.all fun d => (ltD (zBz (a, b)) (zBz (c, d)) == decide (κP (zBz (a, b)) < κP (zBz (c, d)))) && ((κP (zBz (a, b)) != κP (zBz (c, d))) || zIp a b == zIp c d)) = true := by decide +kernel
theorem yBc {p q : zCz} (hp : p.1 ∈ zDm /\ p.2 ∈ zDm) (hq : q.1 ∈ zDm /\ q.2 ∈ zDm) : ltD (zBz p) (zBz q) = decide (κP (zBz p) < κP (zBz q)) /\ (κP (zBz p) = κP (zBz q) -> zBz p = zBz q) := by
  have := Qf.mp (Qf.mp (Qf.mp (Qf.mp zU3 p.1 hp.1) p.2 hp.2) q.1 hq.1) q.2 hq.2
  rw [Bool.and_eq_true] at this
  refine ⟨by simpa using this.1, fun e => ?_⟩
  have h2 := this.2
  rw [Bool.or_eq_true] at h2
  rcases h2 with r | r
  . have e : κP (zBz (p.1, p.2)) = κP (zBz (q.1, q.2)) := e
    rw [e] at r; simp at r
  . have : zIp p.1 p.2 = zIp q.1 q.2 := by simpa using r
    unfold zBz
    rw [this]
theorem zZp : ∀ {l : List D}, (∀ d ∈ l, ∃ s : List Str, d = .lst (s.map .str)) -> ∃ m, l = zBk m := by
  intro l
  induction l with
  | nil =>
    rintro _
    exact ⟨[], rfl⟩
  | cons d l ih =>
    rintro h
    obtain ⟨s, rfl⟩ := h d (.head _)
    obtain ⟨m, rfl⟩ := ih fun d hd => h d (.tail _ hd)
    exact ⟨s :: m, rfl⟩
theorem zSt {E E0 : List zCz} (h0 : zQ7 E0) (p : (E.map zBz).Perm (E0.map zBz)) : ∃ m, zCs (E.map zBz) = zBk m /\ zCs (E0.map zBz) = zBk m := by
  have hk : ∀ x ∈ E0.map zBz, ∀ y ∈ E0.map zBz, ltD x y = decide (κP x < κP y) /\ (κP x = κP y -> x = y) := by
    intro x hx y hy
    obtain ⟨a, ha, rfl⟩ := Qq.mp hx
    obtain ⟨b, hb, rfl⟩ := Qq.mp hy
    exact yBc (h0 a ha) (h0 b hb)
  have e := zMl (κ := κP) (fun x hx y hy => (hk x hx y hy).1) (fun x hx y hy => (hk x hx y hy).2) p.symm
  have sp := zFy (κ := κP) (fun x hx y hy => (hk x hx y hy).1)
  obtain ⟨m, hm⟩ := zZp (l := zCs (E0.map zBz)) fun d hd => by
    obtain ⟨q, _, rfl⟩ := Qq.mp (sp.1.mem_iff.mp hd)
    exact ⟨_, rfl⟩
  exact ⟨m, e ▸ hm, hm⟩
end
section
noncomputable def nS (N : List Str) (x : Str) : Bool := decide (x ∈ N)
theorem zYq (rd : List zCz) (side : List Str) : zKj rd side = rd.countP (zMs (inL side)) := by
  unfold zKj
  rw [List.countP_eq_length_filter]; rfl
noncomputable def zHj (ch : Nat) : Str -> Bool := inL (zEv (0 + (ch : Int)))
theorem zMk : ((List.range 8).all fun ch => zHj ch (Qd "a") && !zHj ch (Qd "e")) = true := by decide +kernel
theorem zVz : (([true, false] : List Bool).all fun b => ([true, false] : List Bool).all fun c => ([true, false] : List Bool).all fun d => (List.range 8).any fun ch => zHj ch (Qd "b") == b && zHj ch (Qd "c") == c && zHj ch (Qd "d") == d) = true := by decide +kernel
theorem yEo {N : List Str} (ha : Qd "a" ∈ N) (he : Qd "e" ∉ N) : ∃ ch, ch < 8 /\ ∀ x ∈ zDm, zHj ch x = nS N x := by
  have mb : ∀ b : Bool, b ∈ ([true, false] : List Bool) := by intro b; cases b <;> decide
  have := Qf.mp (Qf.mp (Qf.mp zVz (nS N (Qd "b")) (mb _)) (nS N (Qd "c")) (mb _)) (nS N (Qd "d")) (mb _)
  obtain ⟨ch, hch, q⟩ := List.any_eq_true.mp this
  rw [Bool.and_eq_true, Bool.and_eq_true] at q
  have so := Qf.mp zMk ch hch
  rw [Bool.and_eq_true] at so
  refine ⟨ch, List.mem_range.mp hch, fun x hx => ?_⟩
  unfold zDm at hx
  simp only [Qy, List.not_mem_nil, or_false] at hx
  rcases hx with rfl | rfl | rfl | rfl | rfl
  . rw [so.1]; unfold nS; rw [decide_eq_true ha]
  . simpa using q.1.1
  . simpa using q.1.2
  . simpa using q.2
  . have h2 : zHj ch (Qd "e") = false := by simpa using so.2
    rw [h2]; unfold nS; rw [decide_eq_false he]
theorem zWd {E : List zCz} {S S' : Str -> Bool} (hL : zQ7 E) (h : ∀ x ∈ zDm, S x = S' x) : E.countP (zMs S) = E.countP (zMs S') := by
  refine List.countP_congr fun p hp => ?_
  unfold zMs
  rw [h p.1 (hL p hp).1, h p.2 (hL p hp).2]
theorem zRa {E : List zCz} {S : Str -> Bool} : E.countP (zMs S) = 0 ↔ ∀ p ∈ E, S p.1 = true -> S p.2 = true := by
  rw [List.countP_eq_zero]
  unfold zMs
  constructor
  . intro h p hp h1
    have := h p hp
    rw [h1] at this
    simpa using this
  . intro h p hp
    have := h p hp
    cases e : S p.1
    . simp
    . rw [this e]; simp
theorem zX0 : (([97, 98, 99, 100] : List Nat).map chS).Pairwise (fun a b => κS (.str a) <= κS (.str b)) := by decide +kernel
theorem zYv : (([97, 98, 99, 100] : List Nat).map chS).Nodup := by decide +kernel
theorem zXv {E0 : List zCz} (hz : E0.length <= 12) (h0 : zQ7 E0) {R : yFy} (hE : End E0 R) (hlen : E0.length <= 12) :
    (R.sent.length : Int) = zGp E0 /\ (∃ mt, zCs (R.names.map .str) = mt.map .str /\ mt = yCz (zC5 E0)) := by
  obtain ⟨met, N, dep, Re, he, hn⟩ := hE.fin
  have I := hE.si
  have nSa : nS N (Qd "a") = true := decide_eq_true Re.a0
  have nSe : nS N (Qd "e") = false := decide_eq_false he
  have z0 : (zAi R.hs).countP (zMs (nS N)) = 0 := zRa.mpr fun p hp h => by
    have h1 : p.1 ∈ N := of_decide_eq_true h
    exact decide_eq_true (Re.clos p.1 h1 p.2 hp).1
  have kN : (R.sent.length : Int) = E0.countP (zMs (nS N)) := by
    have := I.cut (nS N) nSa nSe
    rw [z0] at this; simpa using this
  obtain ⟨cn, hcn, hs⟩ := yEo Re.a0 he
  have cost : ∀ ch, ch < 8 -> zDc E0 ch = (E0.countP (zMs (zHj ch)) : Int) := fun ch _ => by unfold zDc; rw [zYq]; rfl
  have ge : ∀ ch, ch < 8 -> (R.sent.length : Int) + ((zAi R.hs).countP (zMs (zHj ch)) : Int) = zDc E0 ch := by
    intro ch hch
    have so := Qf.mp zMk ch (List.mem_range.mpr hch)
    rw [Bool.and_eq_true] at so
    have := I.cut (zHj ch) so.1 (by simpa using so.2)
    rw [cost ch hch]; omega
  have cN : zDc E0 cn = (R.sent.length : Int) := by rw [cost cn hcn, kN, zWd h0 hs]
  have best : (R.sent.length : Int) = zGp E0 := by
    have mem : zDc E0 cn ∈ zL8 E0 := Qq.mpr ⟨cn, List.mem_range.mpr hcn, rfl⟩
    have h1 := zO8 mem
    have h2 := zLv (l := zL8 E0) (by intro e; rw [e] at mem; cases mem)
    obtain ⟨ch, hch, e⟩ := Qq.mp h2
    have h3 := ge ch (List.mem_range.mp hch)
    have h4 : zT9 (zL8 E0) = zDc E0 ch := e.symm
    unfold zGp
    omega
  refine ⟨best, yCz (zC5 E0), ?_, rfl⟩
  have key : ∀ c, zBh c -> ((zF3 (zC5 E0) c).isEmpty = true ↔ chS c ∈ N) := by
    intro c hc
    have cl : chS c ∈ zDm := by rcases hc with rfl | rfl | rfl | rfl | rfl <;> decide
    rw [List.isEmpty_iff]
    unfold zF3
    rw [List.filter_eq_nil_iff]
    constructor
    . intro h
      have m : zEv (0 + (cn : Int)) ∈ zC5 E0 := by
        unfold zC5
        exact Qq.mpr ⟨cn, List.mem_filter.mpr ⟨List.mem_range.mpr hcn, by rw [cN, best]; simp⟩, rfl⟩
      have := h _ m
      have h2 : inL (zEv (0 + (cn : Int))) (chS c) = true := by simpa using this
      have h3 : zHj cn (chS c) = true := h2
      rw [hs _ cl] at h3
      exact of_decide_eq_true h3
    . intro h s hsm
      unfold zC5 at hsm
      obtain ⟨ch, hch, rfl⟩ := Qq.mp hsm
      obtain ⟨h1, h2⟩ := List.mem_filter.mp hch
      have h3 : zDc E0 ch = zGp E0 := by simpa using h2
      have h4 := ge ch (List.mem_range.mp h1)
      have z : (zAi R.hs).countP (zMs (zHj ch)) = 0 := by omega
      have cl2 := zRa.mp z
      have so := Qf.mp zMk ch h1
      rw [Bool.and_eq_true] at so
      have := zNz Re (C := fun x => zHj ch x = true) so.1 (fun u x _ _ hE _ hc => cl2 (u, x) hE hc) _ h
      have h5 : inL (zEv (0 + (ch : Int))) (chS c) = true := this
      rw [h5]; decide
  rw [hn]
  have mtE : yCz (zC5 E0) = ([97, 98, 99, 100].filter fun c => (zF3 (zC5 E0) c).isEmpty).map chS := rfl
  have sub : (yCz (zC5 E0)).Sublist (([97, 98, 99, 100] : List Nat).map chS) := by rw [mtE]; exact List.filter_sublist.map chS
  refine zXf Re.low ?_ (zX0.sublist sub)
  refine (List.perm_ext_iff_of_nodup Re.nodup (zYv.sublist sub)).mpr fun x => ?_
  rw [mtE]
  constructor
  . intro hx
    have hl := Re.low x hx
    have ne : x ≠ Qd "e" := by rintro rfl; exact he hx
    unfold zDm at hl
    simp only [Qy, List.not_mem_nil, or_false] at hl
    have go : ∀ c, c ∈ ([97, 98, 99, 100] : List Nat) -> zBh c -> x = chS c -> x ∈ ([97, 98, 99, 100].filter fun c => (zF3 (zC5 E0) c).isEmpty).map chS := by
      intro c hc hk e
      exact Qq.mpr ⟨c, List.mem_filter.mpr ⟨hc, (key c hk).mpr (e ▸ hx)⟩, e.symm⟩
    rcases hl with h | h | h | h | h
    . exact go 97 (by decide) (by unfold zBh; omega) h
    . exact go 98 (by decide) (by unfold zBh; omega) h
    . exact go 99 (by decide) (by unfold zBh; omega) h
    . exact go 100 (by decide) (by unfold zBh; omega) h
    . exact absurd h ne
  . intro hx
    obtain ⟨c, hc, rfl⟩ := Qq.mp hx
    obtain ⟨h1, h2⟩ := List.mem_filter.mp hc
    exact (key c (by simp at h1; unfold zBh; omega)).mp h2
theorem zZ2 (E : List zCz) (u : Str) : (zPr E u).length = E.countP (fun p => p.1 == u) := by
  unfold zPr; rw [Qg, List.countP_eq_length_filter]
theorem zX5 {c : Nat} (h : zBh c) : chS c ∈ zDm := by rcases h with rfl | rfl | rfl | rfl | rfl <;> decide
theorem yIq {c : Nat} (h : zBh c) (k : Int) : k * (b2i (Qd "e" == chS c) - b2i (Qd "a" == chS c)) = - zUb k c := by
  rcases h with rfl | rfl | rfl | rfl | rfl
  . show k * (0 - 1) = -k; omega
  . show k * (0 - 0) = -0; omega
  . show k * (0 - 0) = -0; omega
  . show k * (0 - 0) = -0; omega
  . show k * (1 - 0) = - -k; omega
theorem all_facts (xs : List Int) (h6 : xs.length = 6) : yEw (xs.map zAd) := by
  have hf : ∀ k, zEz (zBu (xs.map zAd) k) := fun k => by rw [zFz]; exact zUm _
  have RL := zFa hf 6
  refine ⟨by simp [h6], hf, fun k => by rw [zFz]; exact zZv _, yKd xs h6, fun c hc => yHn xs c hc 6, ?_⟩
  have eR := zTo xs 6
  have low : zQ7 (zA0 (xs.map zAd) 6) := by
    intro p hp
    have := zWa xs 6 p hp
    have s1 : ∀ x ∈ (["a", "b", "c", "d"] : List Str), x ∈ zDm := by decide
    have s2 : ∀ x ∈ (["b", "c", "d", "e"] : List Str), x ∈ zDm := by decide
    exact ⟨s1 _ this.1, s2 _ this.2⟩
  have lowH : zQ7 (zAi (zBy (xs.map zAd) 6)) := by rw [eR]; exact low
  have hz : (zA0 (xs.map zAd) 6).length <= 12 := RL.2.1
  obtain ⟨R, hR, hE⟩ := yFu (E0 := zA0 (xs.map zAd) 6) hz 14 (zBy (xs.map zAd) 6) [] 0 (by rw [eR]; exact SI.start low)
    ⟨rfl, List.Pairwise.nil, fun _ h => nomatch h⟩ ⟨⟨fun _ => True, fun _ => 0, trivial, rfl, fun _ _ _ _ => ⟨trivial, Qx _⟩, Qo _⟩⟩ rfl
  obtain ⟨best, mt, hm1, hm2⟩ := zXv hz low hE hz
  obtain ⟨m, L⟩ := hE.lens
  refine ⟨R, mt, hR, Nat.lt_of_le_of_lt hE.few (by decide), best, hm1, hm2, L.same, zXc L.srt, fun c hc => ?_, ?_⟩
  . have e1 : (zAm R.hs (Txt.upper (chS c))).length = (zAi R.hs).countP (fun p => p.1 == chS c) := by
      rw [← zZ2, ← zEp (zX5 hc), Qg]
    rw [e1, hE.si.deg (chS c), yIq hc, ← best, List.countP_eq_length_filter]
    exact Int.sub_eq_add_neg.symm
  . have e2 : zGb R.hs = (zAi R.hs).map zBz := by unfold zGb zAi; rw [List.map_map]; rfl
    rw [e2]
    exact zSt low hE.si.pairs
end
section
noncomputable abbrev tO (xs : Array Value) : Obj := ⟨.type "tuple", none, .seq xs 0, #[]⟩
noncomputable abbrev fO (xs : Array Value) : Obj := ⟨.none, none, .fields xs, #[]⟩
noncomputable abbrev cO (xs : Array Value) : Obj := ⟨.type "code", none, .fields xs, #[]⟩
noncomputable abbrev dO (es : Array DictEntry) (n : Nat) : Obj := ⟨.type "dict", none, .dict es n, #[]⟩
noncomputable abbrev kE (P : Params) (x : Str) (t : Tok) (v : Value) : DictEntry := ⟨PyData.keyHash P x, .str x t, v⟩
noncomputable abbrev sV (x : Str) (t : Tok) : Value := .str x t
noncomputable abbrev iV (i : Int) : Value := .int i 0
noncomputable abbrev rV (a : Addr) : Value := .ref a
noncomputable abbrev bV (x : String) : Value := .builtin x
noncomputable abbrev gO (x q : Str) (e : Stmt) : Obj := ⟨.none, none, .func { name := x, qualname := q, params := zCk e, body := .stmts (zA5 e), scope := zAn e, globals := 0, closure := [], defaults := .none, kwdefaults := .none, doc := .none, pyModule := .none, annotations := none, code := .none, closureTuple := .none, builtins := 0 }, #[]⟩
noncomputable abbrev uO (x q : Str) (e : Stmt) (d m : Value) (c : Addr) : Obj := ⟨.type "function", none, .func { name := x, qualname := q, params := zCk e, body := .stmts (zA5 e), scope := zAn e, globals := 3, closure := [], defaults := d, kwdefaults := .none, doc := .none, pyModule := m, annotations := none, code := .ref c, closureTuple := .none, builtins := 0 }, #[]⟩
noncomputable def yEd (P : Params) : Obj := ⟨(.type "dict"), none, (.dict #[kE P "__name__" 1 (sV "builtins" 160), kE P "__doc__" 2 (bV "builtins.__doc__:str#opaque"), kE P "__package__" 3 (bV "builtins.__package__:str#opaque"), kE P "__loader__" 4 (bV "builtins.__loader__:shared#opaque"), kE P "__spec__" 5 (bV "builtins.__spec__#opaque"), kE P "__build_class__" 6 (bV "__build_class__"), kE P "__\x69mport__" 7 (bV "__\x69mport__"), kE P "abs" 8 (bV "abs"), kE P "all" 9 (bV "all"), kE P "any" 10 (bV "any"), kE P "ascii" 11 (bV "ascii"), kE P "bin" 12 (bV "bin"), kE P "breakpoint" 13 (bV "breakpoint"), kE P "callable" 14 (bV "callable"), kE P "chr" 15 (bV "chr"), kE P "compile" 16 (bV "compile"), kE P "delattr" 17 (bV "delattr"), kE P "dir" 18 (bV "dir"), kE P "divmod" 19 (bV "divmod"), kE P "eval" 20 (bV "eval"), kE P "exec" 21 (bV "exec"), kE P "format" 22 (bV "format"), kE P "getattr" 23 (bV "getattr"), kE P "globals" 24 (bV "globals"), kE P "hasattr" 25 (bV "hasattr"), kE P "hash" 26 (bV "hash"), kE P "hex" 27 (bV "hex"), kE P "id" 28 (bV "id"), kE P "input" 29 (bV "input"), kE P "isinstance" 30 (bV "isinstance"), kE P "issubclass" 31 (bV "issubclass"), kE P "iter" 32 (bV "iter"), kE P "aiter" 33 (bV "aiter"), kE P "len" 34 (bV "len"), kE P "locals" 35 (bV "locals"), kE P "max" 36 (bV "max"), kE P "min" 37 (bV "min"), kE P "next" 38 (bV "next"), kE P "anext" 39 (bV "anext"), kE P "oct" 40 (bV "oct"), kE P "ord" 41 (bV "ord"), kE P "pow" 42 (bV "pow"), kE P "print" 43 (bV "print"), kE P "repr" 44 (bV "repr"), kE P "round" 45 (bV "round"), kE P "setattr" 46 (bV "setattr"), kE P "sorted" 47 (bV "sorted"), kE P "sum" 48 (bV "sum"), kE P "vars" 49 (bV "vars"), kE P "None" 50 .none, ⟨PyData.keyHash P "Ellipsis", (sV "Ellipsis" 51), .ellipsis⟩, ⟨PyData.keyHash P "NotImplemented", (sV "NotImplemented" 52), .notImplemented⟩, kE P "False" 53 (.bool false), kE P "True" 54 (.bool true), kE P "bool" 55 (.type "bool"), kE P "memoryview" 56 (.type "memoryview"), kE P "bytearray" 57 (.type "bytearray"), kE P "bytes" 58 (.type "bytes"), kE P "classmethod" 59 (.type "classmethod"), kE P "complex" 60 (.type "complex"), kE P "dict" 61 (.type "dict"), kE P "enumerate" 62 (.type "enumerate"), kE P "filter" 63 (.type "filter"), kE P "float" 64 (.type "float"), kE P "frozenset" 65 (.type "frozenset"), kE P "property" 66 (.type "property"), kE P "int" 67 (.type "int"), kE P "list" 68 (.type "list"), kE P "map" 69 (.type "map"), kE P "object" 70 (.type "object"), kE P "range" 71 (.type "range"), kE P "reversed" 72 (.type "reversed"), kE P "set" 73 (.type "set"), kE P "slice" 74 (.type "slice"), kE P "staticmethod" 75 (.type "staticmethod"), kE P "str" 76 (.type "str"), kE P "super" 77 (.type "super"), kE P "tuple" 78 (.type "tuple"), kE P "type" 79 (.type "type"), kE P "zip" 80 (.type "zip"), kE P "__debug__" 81 (.bool true), kE P "BaseException" 82 (.type "BaseException"), kE P "BaseExceptionGroup" 83 (.type "BaseExceptionGroup"), kE P "Exception" 84 (.type "Exception"), kE P "GeneratorExit" 85 (.type "GeneratorExit"), kE P "KeyboardInterrupt" 86 (.type "KeyboardInterrupt"), kE P "SystemExit" 87 (.type "SystemExit"), kE P "ArithmeticError" 88 (.type "ArithmeticError"), kE P "AssertionError" 89 (.type "AssertionError"), kE P "AttributeError" 90 (.type "AttributeError"), kE P "BufferError" 91 (.type "BufferError"), kE P "EOFError" 92 (.type "EOFError"), kE P "ImportError" 93 (.type "ImportError"), kE P "LookupError" 94 (.type "LookupError"), kE P "MemoryError" 95 (.type "MemoryError"), kE P "NameError" 96 (.type "NameError"), kE P "OSError" 97 (.type "OSError"), kE P "ReferenceError" 98 (.type "ReferenceError"), kE P "RuntimeError" 99 (.type "RuntimeError"), kE P "StopAsyncIteration" 100 (.type "StopAsyncIteration"), kE P "StopIteration" 101 (.type "StopIteration"), kE P "SyntaxError" 102 (.type "SyntaxError"), kE P "SystemError" 103 (.type "SystemError"), kE P "TypeError" 104 (.type "TypeError"), kE P "ValueError" 105 (.type "ValueError"), kE P "Warning" 106 (.type "Warning"), kE P "FloatingPointError" 107 (.type "FloatingPointError"), kE P "OverflowError" 108 (.type "OverflowError"), kE P "ZeroDivisionError" 109 (.type "ZeroDivisionError"), kE P "BytesWarning" 110 (.type "BytesWarning"), kE P "DeprecationWarning" 111 (.type "DeprecationWarning"), kE P "EncodingWarning" 112 (.type "EncodingWarning"), kE P "FutureWarning" 113 (.type "FutureWarning"), kE P "ImportWarning" 114 (.type "ImportWarning"), kE P "PendingDeprecationWarning" 115 (.type "PendingDeprecationWarning"), kE P "ResourceWarning" 116 (.type "ResourceWarning"), kE P "RuntimeWarning" 117 (.type "RuntimeWarning"), kE P "SyntaxWarning" 118 (.type "SyntaxWarning"), kE P "UnicodeWarning" 119 (.type "UnicodeWarning"), kE P "UserWarning" 120 (.type "UserWarning"), kE P "BlockingIOError" 121 (.type "BlockingIOError"), kE P "ChildProcessError" 122 (.type "ChildProcessError"), kE P "ConnectionError" 123 (.type "ConnectionError"), kE P "FileExistsError" 124 (.type "FileExistsError"), kE P "FileNotFoundError" 125 (.type "FileNotFoundError"), kE P "InterruptedError" 126 (.type "InterruptedError"), kE P "IsADirectoryError" 127 (.type "IsADirectoryError"), kE P "NotADirectoryError" 128 (.type "NotADirectoryError"), kE P "PermissionError" 129 (.type "PermissionError"), kE P "ProcessLookupError" 130 (.type "ProcessLookupError"), kE P "TimeoutError" 131 (.type "TimeoutError"), kE P "IndentationError" 132 (.type "IndentationError"), kE P "_IncompleteInputError" 133 (.type "_IncompleteInputError"), kE P "IndexError" 134 (.type "IndexError"), kE P "KeyError" 135 (.type "KeyError"), kE P "ModuleNotFoundError" 136 (.type "ModuleNotFoundError"), kE P "NotImplementedError" 137 (.type "NotImplementedError"), kE P "PythonFinalizationError" 138 (.type "PythonFinalizationError"), kE P "RecursionError" 139 (.type "RecursionError"), kE P "UnboundLocalError" 140 (.type "UnboundLocalError"), kE P "UnicodeError" 141 (.type "UnicodeError"), kE P "BrokenPipeError" 142 (.type "BrokenPipeError"), kE P "ConnectionAbortedError" 143 (.type "ConnectionAbortedError"), kE P "ConnectionRefusedError" 144 (.type "ConnectionRefusedError"), kE P "ConnectionResetError" 145 (.type "ConnectionResetError"), kE P "TabError" 146 (.type "TabError"), kE P "UnicodeDecodeError" 147 (.type "UnicodeDecodeError"), kE P "UnicodeEncodeError" 148 (.type "UnicodeEncodeError"), kE P "UnicodeTranslateError" 149 (.type "UnicodeTranslateError"), kE P "ExceptionGroup" 150 (.type "ExceptionGroup"), kE P "EnvironmentError" 151 (.type "OSError"), kE P "IOError" 152 (.type "OSError"), kE P "open" 153 (bV "open"), kE P "quit" 154 (bV "builtins.quit#opaque"), kE P "exit" 155 (bV "builtins.exit#opaque"), kE P "copyright" 156 (bV "builtins.copyright#opaque"), kE P "credits" 157 (bV "builtins.credits#opaque"), kE P "license" 158 (bV "builtins.license#opaque"), kE P "help" 159 (bV "builtins.help#opaque")] 159), #[]⟩
noncomputable def yE4 (P : Params) : Obj := dO #[kE P "builtins" 162 (rV 4), kE P "__main__" 163 (rV 5), kE P "_sre" 244 (rV 12)] 3
noncomputable def yEh (P : Params) : Obj := ⟨.none, none, (.dict #[kE P "\x69mport.loaded._sre" 183 (.bool true), kE P "class._frozen_\x69mportlib.BuiltinImporter" 185 (rV 14), kE P "watched.\x69mport" 206 (rV 18), kE P "class._frozen_\x69mportlib.ModuleSpec" 216 (rV 22), kE P "sys.modules.booked-epoch" 245 (iV 3), kE P "\x69mport.later-laid._sre" 270 (.bool true), kE P "watched.library" 272 (rV 27), ⟨PyData.keyHash P "watched.library-objects", (sV "watched.library-objects" 0), (.str (Str.mk #[12]) 0)⟩, ⟨PyData.keyHash P "watched.library-deep._sre", (sV "watched.library-deep._sre" 273), (.str (Str.mk #[4, 0, 0, 11, 4, 0, 0, 11, 4, 0, 0, 3, 4, 0, 0, 11, 8, 4, 100, 105, 99, 116, 2]) 0)⟩] 9), #[]⟩
noncomputable def yOw (P : Params) : Obj := dO #[kE P "__name__" 165 (sV "__main__" 164), kE P "__doc__" 166 .none, kE P "__package__" 167 .none, kE P "__loader__" 168 (bV "__main__.__loader__#opaque"), kE P "__spec__" 169 .none, kE P "__annotations__" 170 (rV 6), kE P "__builtins__" 171 (rV 4), kE P "__file__" 173 (sV "/claim/cut.py" 172), kE P "__cached__" 174 .none, kE P "_sre" 275 (rV 12)] 10
noncomputable def yCt (P : Params) : Obj := ⟨(.type "module"), (some 0), .plain, #[]⟩
noncomputable def yEz (P : Params) : Obj := ⟨(.type "module"), (some 3), .plain, #[]⟩
noncomputable def yE6 (P : Params) : Obj := dO #[] 0
noncomputable def yFv (P : Params) : Obj := tO #[]
noncomputable def yFs (P : Params) : Obj := fO #[]
noncomputable def yDi (P : Params) : Obj := cO #[(sV "<module>" 176), (sV "<module>" 177), (sV "/claim/cut.py" 178), (iV 1), (iV 0), (iV 0), (iV 0), (iV 0), (rV 7), (.bool false), (iV 175), (rV 8), .none, .none, .none, .none, (iV 179), (iV 1), (sV "/claim/cut.py" 180)]
noncomputable def zO0 (P : Params) : Obj := ⟨(.type "frame"), none, .plain, #[(some (rV 9)), (some (rV 3)), (some (rV 3)), none, (some (sV "__main__" 164)), none, (some (rV 0))]⟩
noncomputable def yPg (P : Params) : Obj := dO #[kE P "__name__" 247 (sV "_sre" 246), kE P "__doc__" 248 .none, kE P "__package__" 250 (sV "" 249), kE P "__loader__" 251 (rV 14), kE P "__spec__" 252 (rV 26), kE P "compile" 253 (bV "_sre.compile"), kE P "template" 254 (bV "_sre.template"), kE P "getcodesize" 255 (bV "_sre.getcodesize"), kE P "ascii_iscased" 256 (bV "_sre.ascii_iscased"), kE P "unicode_iscased" 257 (bV "_sre.unicode_iscased"), kE P "ascii_tolower" 258 (bV "_sre.ascii_tolower"), kE P "unicode_tolower" 259 (bV "_sre.unicode_tolower"), kE P "MAGIC" 261 (.int 20230612 260), kE P "CODESIZE" 263 (.int 4 262), kE P "MAXREPEAT" 265 (.int 4294967295 264), kE P "MAXGROUPS" 267 (.int 1073741823 266), kE P "copyright" 269 (sV " SRE 2.2.2 Copyright (c) 1997-2002 by Secret Labs AB " 268)] 17
noncomputable def zOu (P : Params) : Obj := ⟨(.type "module"), (some 11), .plain, #[]⟩
noncomputable def zP2 (P : Params) : Obj := dO #[kE P "__module__" 189 (sV "_frozen_\x69mportlib" 186), kE P "__firstlineno__" 190 (.int 971 187), kE P "__doc__" 191 (bV "_frozen_\x69mportlib.BuiltinImporter.__doc__:str#opaque"), kE P "_ORIGIN" 192 (sV "built-in" 188), kE P "find_spec" 193 (bV "_frozen_\x69mportlib.BuiltinImporter.find_spec#opaque"), kE P "create_module" 194 (bV "_frozen_\x69mportlib.BuiltinImporter.create_module#opaque"), kE P "exec_module" 195 (bV "_frozen_\x69mportlib.BuiltinImporter.exec_module#opaque"), kE P "get_code" 196 (bV "_frozen_\x69mportlib.BuiltinImporter.get_code#opaque"), kE P "get_source" 197 (bV "_frozen_\x69mportlib.BuiltinImporter.get_source#opaque"), kE P "is_package" 198 (bV "_frozen_\x69mportlib.BuiltinImporter.is_package#opaque"), kE P "load_module" 199 (bV "_frozen_\x69mportlib.BuiltinImporter.load_module#opaque"), kE P "__static_attributes__" 200 (rV 15), kE P "__dict__" 202 (rV 16), kE P "__weakref__" 204 (rV 17)] 14
noncomputable def zPo (P : Params) : Obj := ⟨(.type "type"), none, (.cls { name := "BuiltinImporter", bases := [(.type "object")], mro := [(rV 14), (.type "object")], ns := 13, qualname := "BuiltinImporter", hasDict := true, slotNames := [], subclasses := [], abstract := false, collection := none, hasDel := false }), #[]⟩
noncomputable def zQh (P : Params) : Obj := tO #[]
noncomputable def zQg (P : Params) : Obj := ⟨(.type "getset_descriptor"), none, (.fields #[(sV "__dict__" 201), (rV 14), (bV "function.__dict__"), (bV "function.__dict__#set")]), #[]⟩
noncomputable def zP3 (P : Params) : Obj := ⟨(.type "getset_descriptor"), none, (.fields #[(sV "__weakref__" 203), (rV 14), (bV "ExceptionGroup.__weakref__"), .none]), #[]⟩
noncomputable def zQa (P : Params) : Obj := ⟨.none, none, (.seq #[(iV 13), (.str (Str.mk #[6, 189, 10, 95, 95, 109, 111, 100, 117, 108, 101, 95, 95, 6, 186, 17, 95, 102, 114, 111, 122, 101, 110, 95, 105, 109, 112, 111, 114, 116, 108, 105, 98, 6, 190, 15, 95, 95, 102, 105, 114, 115, 116, 108, 105, 110, 101, 110, 111, 95, 95, 4, 187, 0, 971, 6, 191, 7, 95, 95, 100, 111, 99, 95, 95, 9, 52, 95, 102, 114, 111, 122, 101, 110, 95, 105, 109, 112, 111, 114, 116, 108, 105, 98, 46, 66, 117, 105, 108, 116, 105, 110, 73, 109, 112, 111, 114, 116, 101, 114, 46, 95, 95, 100, 111, 99, 95, 95, 58, 115, 116, 114, 35, 111, 112, 97, 113, 117, 101, 6, 192, 7, 95, 79, 82, 73, 71, 73, 78, 6, 188, 8, 98, 117, 105, 108, 116, 45, 105, 110, 6, 193, 9, 102, 105, 110, 100, 95, 115, 112, 101, 99, 9, 50, 95, 102, 114, 111, 122, 101, 110, 95, 105, 109, 112, 111, 114, 116, 108, 105, 98, 46, 66, 117, 105, 108, 116, 105, 110, 73, 109, 112, 111, 114, 116, 101, 114, 46, 102, 105, 110, 100, 95, 115, 112, 101, 99, 35, 111, 112, 97, 113, 117, 101, 6, 194, 13, 99, 114, 101, 97, 116, 101, 95, 109, 111, 100, 117, 108, 101, 9, 54, 95, 102, 114, 111, 122, 101, 110, 95, 105, 109, 112, 111, 114, 116, 108, 105, 98, 46, 66, 117, 105, 108, 116, 105, 110, 73, 109, 112, 111, 114, 116, 101, 114, 46, 99, 114, 101, 97, 116, 101, 95, 109, 111, 100, 117, 108, 101, 35, 111, 112, 97, 113, 117, 101, 6, 195, 11, 101, 120, 101, 99, 95, 109, 111, 100, 117, 108, 101, 9, 52, 95, 102, 114, 111, 122, 101, 110, 95, 105, 109, 112, 111, 114, 116, 108, 105, 98, 46, 66, 117, 105, 108, 116, 105, 110, 73, 109, 112, 111, 114, 116, 101, 114, 46, 101, 120, 101, 99, 95, 109, 111, 100, 117, 108, 101, 35, 111, 112, 97, 113, 117, 101, 6, 196, 8, 103, 101, 116, 95, 99, 111, 100, 101, 9, 49, 95, 102, 114, 111, 122, 101, 110, 95, 105, 109, 112, 111, 114, 116, 108, 105, 98, 46, 66, 117, 105, 108, 116, 105, 110, 73, 109, 112, 111, 114, 116, 101, 114, 46, 103, 101, 116, 95, 99, 111, 100, 101, 35, 111, 112, 97, 113, 117, 101, 6, 197, 10, 103, 101, 116, 95, 115, 111, 117, 114, 99, 101, 9, 51, 95, 102, 114, 111, 122, 101, 110, 95, 105, 109, 112, 111, 114, 116, 108, 105, 98, 46, 66, 117, 105, 108, 116, 105, 110, 73, 109, 112, 111, 114, 116, 101, 114, 46, 103, 101, 116, 95, 115, 111, 117, 114, 99, 101, 35, 111, 112, 97, 113, 117, 101, 6, 198, 10, 105, 115, 95, 112, 97, 99, 107, 97, 103, 101, 9, 51, 95, 102, 114, 111, 122, 101, 110, 95, 105, 109, 112, 111, 114, 116, 108, 105, 98, 46, 66, 117, 105, 108, 116, 105, 110, 73, 109, 112, 111, 114, 116, 101, 114, 46, 105, 115, 95, 112, 97, 99, 107, 97, 103, 101, 35, 111, 112, 97, 113, 117, 101, 6, 199, 11, 108, 111, 97, 100, 95, 109, 111, 100, 117, 108, 101, 9, 52, 95, 102, 114, 111, 122, 101, 110, 95, 105, 109, 112, 111, 114, 116, 108, 105, 98, 46, 66, 117, 105, 108, 116, 105, 110, 73, 109, 112, 111, 114, 116, 101, 114, 46, 108, 111, 97, 100, 95, 109, 111, 100, 117, 108, 101, 35, 111, 112, 97, 113, 117, 101, 6, 200, 21, 95, 95, 115, 116, 97, 116, 105, 99, 95, 97, 116, 116, 114, 105, 98, 117, 116, 101, 115, 95, 95, 4, 0, 0, 15, 6, 202, 8, 95, 95, 100, 105, 99, 116, 95, 95, 4, 0, 0, 16, 6, 204, 11, 95, 95, 119, 101, 97, 107, 114, 101, 102, 95, 95, 4, 0, 0, 17]) 0), (.bool true), (.bool true), (sV "" 205), (iV 21), (.str (Str.mk #[6, 227, 10, 95, 95, 109, 111, 100, 117, 108, 101, 95, 95, 6, 217, 17, 95, 102, 114, 111, 122, 101, 110, 95, 105, 109, 112, 111, 114, 116, 108, 105, 98, 6, 228, 15, 95, 95, 102, 105, 114, 115, 116, 108, 105, 110, 101, 110, 111, 95, 95, 4, 218, 0, 562, 6, 229, 7, 95, 95, 100, 111, 99, 95, 95, 9, 47, 95, 102, 114, 111, 122, 101, 110, 95, 105, 109, 112, 111, 114, 116, 108, 105, 98, 46, 77, 111, 100, 117, 108, 101, 83, 112, 101, 99, 46, 95, 95, 100, 111, 99, 95, 95, 58, 115, 116, 114, 35, 111, 112, 97, 113, 117, 101, 6, 230, 8, 95, 95, 105, 110, 105, 116, 95, 95, 9, 44, 95, 102, 114, 111, 122, 101, 110, 95, 105, 109, 112, 111, 114, 116, 108, 105, 98, 46, 77, 111, 100, 117, 108, 101, 83, 112, 101, 99, 46, 95, 95, 105, 110, 105, 116, 95, 95, 35, 111, 112, 97, 113, 117, 101, 6, 231, 8, 95, 95, 114, 101, 112, 114, 95, 95, 9, 44, 95, 102, 114, 111, 122, 101, 110, 95, 105, 109, 112, 111, 114, 116, 108, 105, 98, 46, 77, 111, 100, 117, 108, 101, 83, 112, 101, 99, 46, 95, 95, 114, 101, 112, 114, 95, 95, 35, 111, 112, 97, 113, 117, 101, 6, 232, 6, 95, 95, 101, 113, 95, 95, 9, 42, 95, 102, 114, 111, 122, 101, 110, 95, 105, 109, 112, 111, 114, 116, 108, 105, 98, 46, 77, 111, 100, 117, 108, 101, 83, 112, 101, 99, 46, 95, 95, 101, 113, 95, 95, 35, 111, 112, 97, 113, 117, 101, 6, 233, 6, 99, 97, 99, 104, 101, 100, 9, 42, 95, 102, 114, 111, 122, 101, 110, 95, 105, 109, 112, 111, 114, 116, 108, 105, 98, 46, 77, 111, 100, 117, 108, 101, 83, 112, 101, 99, 46, 99, 97, 99, 104, 101, 100, 35, 111, 112, 97, 113, 117, 101, 6, 234, 6, 112, 97, 114, 101, 110, 116, 9, 42, 95, 102, 114, 111, 122, 101, 110, 95, 105, 109, 112, 111, 114, 116, 108, 105, 98, 46, 77, 111, 100, 117, 108, 101, 83, 112, 101, 99, 46, 112, 97, 114, 101, 110, 116, 35, 111, 112, 97, 113, 117, 101, 6, 235, 12, 104, 97, 115, 95, 108, 111, 99, 97, 116, 105, 111, 110, 9, 48, 95, 102, 114, 111, 122, 101, 110, 95, 105, 109, 112, 111, 114, 116, 108, 105, 98, 46, 77, 111, 100, 117, 108, 101, 83, 112, 101, 99, 46, 104, 97, 115, 95, 108, 111, 99, 97, 116, 105, 111, 110, 35, 111, 112, 97, 113, 117, 101, 6, 236, 21, 95, 95, 115, 116, 97, 116, 105, 99, 95, 97, 116, 116, 114, 105, 98, 117, 116, 101, 115, 95, 95, 4, 0, 0, 23, 6, 238, 8, 95, 95, 100, 105, 99, 116, 95, 95, 4, 0, 0, 24, 6, 240, 11, 95, 95, 119, 101, 97, 107, 114, 101, 102, 95, 95, 4, 0, 0, 25, 6, 241, 8, 95, 95, 104, 97, 115, 104, 95, 95, 0]) 0), (.bool true), (.bool true), (sV "" 242)] 1), #[]⟩
noncomputable def zOw (P : Params) : Obj := ⟨(.type "list"), none, (.seq #[] 0), #[]⟩
noncomputable def zQc (P : Params) : Obj := dO #[kE P "name" 208 (sV "_sre" 207), kE P "loader" 209 (rV 14), kE P "origin" 210 (sV "built-in" 184), kE P "loader_state" 211 .none, kE P "submodule_search_locations" 212 .none, kE P "_uninitialized_submodules" 213 (rV 19), kE P "_set_fileattr" 214 (.bool false), kE P "_cached" 215 .none, kE P "_initializing" 243 (.bool false)] 9
noncomputable def zPp (P : Params) : Obj := dO #[kE P "__module__" 227 (sV "_frozen_\x69mportlib" 217), kE P "__firstlineno__" 228 (.int 562 218), kE P "__doc__" 229 (bV "_frozen_\x69mportlib.ModuleSpec.__doc__:str#opaque"), kE P "__init__" 230 (bV "_frozen_\x69mportlib.ModuleSpec.__init__#opaque"), kE P "__repr__" 231 (bV "_frozen_\x69mportlib.ModuleSpec.__repr__#opaque"), kE P "__eq__" 232 (bV "_frozen_\x69mportlib.ModuleSpec.__eq__#opaque"), kE P "cached" 233 (bV "_frozen_\x69mportlib.ModuleSpec.cached#opaque"), kE P "parent" 234 (bV "_frozen_\x69mportlib.ModuleSpec.parent#opaque"), kE P "has_location" 235 (bV "_frozen_\x69mportlib.ModuleSpec.has_location#opaque"), kE P "__static_attributes__" 236 (rV 23), kE P "__dict__" 238 (rV 24), kE P "__weakref__" 240 (rV 25), kE P "__hash__" 241 .none] 13
noncomputable def zO2 (P : Params) : Obj := ⟨(.type "type"), none, (.cls { name := "ModuleSpec", bases := [(.type "object")], mro := [(rV 22), (.type "object")], ns := 21, qualname := "ModuleSpec", hasDict := true, slotNames := [], subclasses := [], abstract := false, collection := none, hasDel := false }), #[]⟩
noncomputable def zPx (P : Params) : Obj := tO #[(sV "_cached" 219), (sV "_set_fileattr" 220), (sV "_uninitialized_submodules" 221), (sV "loader" 222), (sV "loader_state" 223), (sV "name" 224), (sV "origin" 225), (sV "submodule_search_locations" 226)]
noncomputable def zO5 (P : Params) : Obj := ⟨(.type "getset_descriptor"), none, (.fields #[(sV "__dict__" 237), (rV 22), (bV "function.__dict__"), (bV "function.__dict__#set")]), #[]⟩
noncomputable def zPb (P : Params) : Obj := ⟨(.type "getset_descriptor"), none, (.fields #[(sV "__weakref__" 239), (rV 22), (bV "ExceptionGroup.__weakref__"), .none]), #[]⟩
noncomputable def zPv (P : Params) : Obj := ⟨(rV 22), (some 20), .plain, #[]⟩
noncomputable def zP0 (P : Params) : Obj := ⟨.none, none, (.seq #[(iV 11), (.str (Str.mk #[6, 247, 8, 95, 95, 110, 97, 109, 101, 95, 95, 6, 246, 4, 95, 115, 114, 101, 6, 248, 7, 95, 95, 100, 111, 99, 95, 95, 0, 6, 250, 11, 95, 95, 112, 97, 99, 107, 97, 103, 101, 95, 95, 6, 249, 0, 6, 251, 10, 95, 95, 108, 111, 97, 100, 101, 114, 95, 95, 4, 0, 0, 14, 6, 252, 8, 95, 95, 115, 112, 101, 99, 95, 95, 4, 0, 0, 26, 6, 253, 7, 99, 111, 109, 112, 105, 108, 101, 9, 12, 95, 115, 114, 101, 46, 99, 111, 109, 112, 105, 108, 101, 6, 254, 8, 116, 101, 109, 112, 108, 97, 116, 101, 9, 13, 95, 115, 114, 101, 46, 116, 101, 109, 112, 108, 97, 116, 101, 6, 255, 11, 103, 101, 116, 99, 111, 100, 101, 115, 105, 122, 101, 9, 16, 95, 115, 114, 101, 46, 103, 101, 116, 99, 111, 100, 101, 115, 105, 122, 101, 6, 256, 13, 97, 115, 99, 105, 105, 95, 105, 115, 99, 97, 115, 101, 100, 9, 18, 95, 115, 114, 101, 46, 97, 115, 99, 105, 105, 95, 105, 115, 99, 97, 115, 101, 100, 6, 257, 15, 117, 110, 105, 99, 111, 100, 101, 95, 105, 115, 99, 97, 115, 101, 100, 9, 20, 95, 115, 114, 101, 46, 117, 110, 105, 99, 111, 100, 101, 95, 105, 115, 99, 97, 115, 101, 100, 6, 258, 13, 97, 115, 99, 105, 105, 95, 116, 111, 108, 111, 119, 101, 114, 9, 18, 95, 115, 114, 101, 46, 97, 115, 99, 105, 105, 95, 116, 111, 108, 111, 119, 101, 114, 6, 259, 15, 117, 110, 105, 99, 111, 100, 101, 95, 116, 111, 108, 111, 119, 101, 114, 9, 20, 95, 115, 114, 101, 46, 117, 110, 105, 99, 111, 100, 101, 95, 116, 111, 108, 111, 119, 101, 114, 6, 261, 5, 77, 65, 71, 73, 67, 4, 260, 0, 20230612, 6, 263, 8, 67, 79, 68, 69, 83, 73, 90, 69, 4, 262, 0, 4, 6, 265, 9, 77, 65, 88, 82, 69, 80, 69, 65, 84, 4, 264, 0, 4294967295, 6, 267, 9, 77, 65, 88, 71, 82, 79, 85, 80, 83, 4, 266, 0, 1073741823, 6, 269, 9, 99, 111, 112, 121, 114, 105, 103, 104, 116, 6, 268, 53, 32, 83, 82, 69, 32, 50, 46, 50, 46, 50, 32, 67, 111, 112, 121, 114, 105, 103, 104, 116, 32, 40, 99, 41, 32, 49, 57, 57, 55, 45, 50, 48, 48, 50, 32, 98, 121, 32, 83, 101, 99, 114, 101, 116, 32, 76, 97, 98, 115, 32, 65, 66, 32]) 0), (.bool true), (.bool false), (sV "_sre" 271)] 0), #[]⟩
noncomputable def hlz (P : Params) : List Obj := [yEd P, yE4 P, yEh P, yOw P, yCt P, yEz P, yE6 P, yFv P, yFs P, yDi P, zO0 P, yPg P, zOu P, zP2 P, zPo P, zQh P, zQg P, zP3 P, zQa P, zOw P, zQc P, zPp P, zO2 P, zPx P, zO5 P, zPb P, zPv P, zP0 P]
noncomputable def zTm (P : Params) : Obj := dO #[kE P "__name__" 247 (sV "_sre" 246), kE P "__doc__" 248 .none, kE P "__package__" 250 (sV "" 249), kE P "__loader__" 251 (bV "off-the-table:_sre.__loader__:shared#opaque"), kE P "__spec__" 252 (bV "off-the-table:_sre.__spec__:shared#opaque"), kE P "compile" 253 (bV "_sre.compile"), kE P "template" 254 (bV "off-the-table:_sre.template:shared#opaque"), kE P "getcodesize" 255 (bV "off-the-table:_sre.getcodesize:shared#opaque"), kE P "ascii_iscased" 256 (bV "off-the-table:_sre.ascii_iscased:shared#opaque"), kE P "unicode_iscased" 257 (bV "off-the-table:_sre.unicode_iscased:shared#opaque"), kE P "ascii_tolower" 258 (bV "off-the-table:_sre.ascii_tolower:shared#opaque"), kE P "unicode_tolower" 259 (bV "off-the-table:_sre.unicode_tolower:shared#opaque"), kE P "MAGIC" 261 (.int 20230612 260), kE P "CODESIZE" 263 (.int 4 262), kE P "MAXREPEAT" 265 (.int 4294967295 264), kE P "MAXGROUPS" 267 (.int 1073741823 266), kE P "copyright" 269 (sV " SRE 2.2.2 Copyright (c) 1997-2002 by Secret Labs AB " 268)] 17
noncomputable def hla (P : Params) : List Obj := [yEd P, yE4 P, yEh P, yOw P, yCt P, yEz P, yE6 P, yFv P, yFs P, yDi P, zO0 P, zTm P, zOu P, zP2 P, zPo P, zQh P, zQg P, zP3 P, zQa P, zOw P, zQc P, zPp P, zO2 P, zPx P, zO5 P, zPb P, zPv P, zP0 P]
noncomputable def zVh (P : Params) : Obj := tO #[]
noncomputable def yOz (P : Params) : Obj := fO #[]
noncomputable def zWw (P : Params) : Obj := cO #[(sV "<module>" 277), (sV "<module>" 278), (sV "/claim/cut.py" 279), (iV 1), (iV 0), (iV 0), (iV 0), (iV 0), (rV 28), (.bool false), (iV 276), (rV 29), .none, .none, .none, .none, (iV 280), (iV 1), (sV "/claim/cut.py" 281)]
noncomputable def zW3 (P : Params) : Obj := ⟨(.type "frame"), none, .plain, #[(some (rV 30)), (some (rV 3)), (some (rV 3)), none, (some (sV "__main__" 164)), none, (some (rV 0))]⟩
noncomputable def hlp (P : Params) : List Obj := [yEd P, yE4 P, yEh P, yOw P, yCt P, yEz P, yE6 P, yFv P, yFs P, yDi P, zO0 P, zTm P, zOu P, zP2 P, zPo P, zQh P, zQg P, zP3 P, zQa P, zOw P, zQc P, zPp P, zO2 P, zPx P, zO5 P, zPb P, zPv P, zP0 P, zVh P, yOz P, zWw P, zW3 P]
noncomputable def yQf (P : Params) : Obj := dO #[kE P "__name__" 165 (sV "cpy313.stringprep" 354), kE P "__doc__" 166 .none, kE P "__package__" 167 .none, kE P "__loader__" 168 (bV "__main__.__loader__#opaque"), kE P "__spec__" 169 .none, kE P "__annotations__" 170 (rV 6), kE P "__builtins__" 171 (rV 4), kE P "__file__" 173 (sV "/claim/cut.py" 172), kE P "__cached__" 174 .none, kE P "_sre" 275 (rV 12), kE P "TICK" 285 (sV "'" 284), kE P "decode_rfc2231" 293 (rV 38), kE P "_netrclex" 353 (rV 76)] 13
noncomputable def yPi (P : Params) : Obj := fO #[(iV 4), (iV 0), (rV 37), (iV 10), (iV 0), (rV 44)]
noncomputable def yB4 (P : Params) : Obj := tO #[]
noncomputable def yA1 (P : Params) : Obj := fO #[]
noncomputable def zYf (P : Params) : Obj := tO #[(sV "s" 289), (sV "parts" 290)]
noncomputable def zZ8 (P : Params) : Obj := tO #[]
noncomputable def zYd (P : Params) : Obj := gO "decode_rfc2231" "decode_rfc2231" (zAq "decode_rfc2231")
noncomputable def zYa (P : Params) : Obj := cO #[(sV "decode_rfc2231" 286), (sV "decode_rfc2231" 287), (sV "/claim/cut.py" 288), (iV 4), (iV 1), (iV 0), (iV 0), (iV 3), (rV 32), (.bool true), (iV 276), (rV 33), .none, (rV 34), (rV 35), (rV 36), (iV 291), (iV 4), (sV "/claim/cut.py" 292)]
noncomputable def zYy (P : Params) : Obj := uO "decode_rfc2231" "decode_rfc2231" (zAq "decode_rfc2231") .none (sV "cpy313.email.utils" 282) 37
noncomputable def zYe (P : Params) : Obj := tO #[]
noncomputable def yB8 (P : Params) : Obj := ⟨(.type "builtin_function_or_method"), none, (.fields #[(bV "type.__prepare__"), (.type "type")]), #[]⟩
noncomputable def yAk (P : Params) : Obj := dO #[kE P "__module__" 303 (sV "cpy313.netrc" 294), kE P "__qualname__" 305 (sV "_netrclex" 304), kE P "__firstlineno__" 307 (.int 10 306), kE P "__init__" 315 (rV 52), kE P "_read_char" 323 (rV 59), kE P "get_token" 333 (rV 66), kE P "push_token" 341 (rV 73), kE P "__static_attributes__" 346 (rV 74)] 8
noncomputable def zYk (P : Params) : Obj := tO #[]
noncomputable def zZc (P : Params) : Obj := fO #[(iV 12), (iV 4), (rV 51), (iV 18), (iV 4), (rV 58), (iV 24), (iV 4), (rV 65), (iV 51), (iV 4), (rV 72)]
noncomputable def yA6 (P : Params) : Obj := cO #[(sV "_netrclex" 298), (sV "_netrclex" 299), (sV "/claim/cut.py" 300), (iV 10), (iV 0), (iV 0), (iV 0), (iV 0), (rV 42), (.bool false), (iV 276), (rV 43), .none, .none, .none, .none, (iV 301), (iV 10), (sV "/claim/cut.py" 302)]
noncomputable def yB2 (P : Params) : Obj := ⟨(.type "frame"), none, .plain, #[(some (rV 44)), (some (rV 3)), (some (rV 41)), none, (some (sV "cpy313.netrc" 294)), none, (some (rV 0))]⟩
noncomputable def yA3 (P : Params) : Obj := tO #[]
noncomputable def yAj (P : Params) : Obj := fO #[]
noncomputable def zY1 (P : Params) : Obj := tO #[(sV "self" 311), (sV "fp" 312)]
noncomputable def yA8 (P : Params) : Obj := tO #[]
noncomputable def yB7 (P : Params) : Obj := gO "__init__" "_netrclex.__init__" (zAf "_netrclex" "__init__")
noncomputable def yAp (P : Params) : Obj := cO #[(sV "__init__" 308), (sV "_netrclex.__init__" 309), (sV "/claim/cut.py" 310), (iV 12), (iV 2), (iV 0), (iV 0), (iV 3), (rV 46), (.bool true), (iV 276), (rV 47), .none, (rV 48), (rV 49), (rV 50), (iV 313), (iV 12), (sV "/claim/cut.py" 314)]
noncomputable def yAa (P : Params) : Obj := uO "__init__" "_netrclex.__init__" (zAf "_netrclex" "__init__") .none (sV "cpy313.netrc" 294) 51
noncomputable def yBq (P : Params) : Obj := tO #[]
noncomputable def yAq (P : Params) : Obj := fO #[]
noncomputable def yAi (P : Params) : Obj := tO #[(sV "self" 319), (sV "ch" 320)]
noncomputable def yAr (P : Params) : Obj := tO #[]
noncomputable def zZl (P : Params) : Obj := gO "_read_char" "_netrclex._read_char" (zAf "_netrclex" "_read_char")
noncomputable def yBd (P : Params) : Obj := cO #[(sV "_read_char" 316), (sV "_netrclex._read_char" 317), (sV "/claim/cut.py" 318), (iV 18), (iV 1), (iV 0), (iV 0), (iV 3), (rV 53), (.bool true), (iV 276), (rV 54), .none, (rV 55), (rV 56), (rV 57), (iV 321), (iV 18), (sV "/claim/cut.py" 322)]
noncomputable def zX9 (P : Params) : Obj := uO "_read_char" "_netrclex._read_char" (zAf "_netrclex" "_read_char") .none (sV "cpy313.netrc" 294) 58
noncomputable def zYo (P : Params) : Obj := tO #[]
noncomputable def zYx (P : Params) : Obj := fO #[]
noncomputable def zYl (P : Params) : Obj := tO #[(sV "self" 327), (sV "token" 328), (sV "fiter" 329), (sV "ch" 330)]
noncomputable def zZw (P : Params) : Obj := tO #[]
noncomputable def zY0 (P : Params) : Obj := gO "get_token" "_netrclex.get_token" (zAf "_netrclex" "get_token")
noncomputable def zZk (P : Params) : Obj := cO #[(sV "get_token" 324), (sV "_netrclex.get_token" 325), (sV "/claim/cut.py" 326), (iV 24), (iV 1), (iV 0), (iV 0), (iV 3), (rV 60), (.bool true), (iV 276), (rV 61), .none, (rV 62), (rV 63), (rV 64), (iV 331), (iV 24), (sV "/claim/cut.py" 332)]
noncomputable def zY4 (P : Params) : Obj := uO "get_token" "_netrclex.get_token" (zAf "_netrclex" "get_token") .none (sV "cpy313.netrc" 294) 65
noncomputable def zZh (P : Params) : Obj := tO #[]
noncomputable def yAc (P : Params) : Obj := fO #[]
noncomputable def zZa (P : Params) : Obj := tO #[(sV "self" 337), (sV "token" 338)]
noncomputable def yBp (P : Params) : Obj := tO #[]
noncomputable def yAe (P : Params) : Obj := gO "push_token" "_netrclex.push_token" (zAf "_netrclex" "push_token")
noncomputable def yAf (P : Params) : Obj := cO #[(sV "push_token" 334), (sV "_netrclex.push_token" 335), (sV "/claim/cut.py" 336), (iV 51), (iV 2), (iV 0), (iV 0), (iV 3), (rV 67), (.bool true), (iV 276), (rV 68), .none, (rV 69), (rV 70), (rV 71), (iV 339), (iV 51), (sV "/claim/cut.py" 340)]
noncomputable def zZs (P : Params) : Obj := uO "push_token" "_netrclex.push_token" (zAf "_netrclex" "push_token") .none (sV "cpy313.netrc" 294) 72
noncomputable def yAt (P : Params) : Obj := tO #[(sV "instream" 342), (sV "lineno" 343), (sV "pushback" 344), (sV "whitespace" 345)]
noncomputable def zZn (P : Params) : Obj := dO #[kE P "__module__" 303 (sV "cpy313.netrc" 294), kE P "__firstlineno__" 307 (.int 10 306), kE P "__init__" 315 (rV 52), kE P "_read_char" 323 (rV 59), kE P "get_token" 333 (rV 66), kE P "push_token" 341 (rV 73), kE P "__static_attributes__" 346 (rV 74), kE P "__dict__" 348 (rV 77), kE P "__weakref__" 350 (rV 78), kE P "__doc__" 351 .none] 4
noncomputable def zY7 (P : Params) : Obj := ⟨(.type "type"), none, (.cls { name := "_netrclex", bases := [(.type "object")], mro := [(rV 76), (.type "object")], ns := 75, qualname := "_netrclex", hasDict := true, slotNames := [], subclasses := [], abstract := false, collection := none, hasDel := false }), #[none, none, (some (sV "_netrclex" 296)), (some (sV "_netrclex" 304)), (some (bV "object.__new__")), (some (.bool true))]⟩
noncomputable def yAo (P : Params) : Obj := ⟨(.type "getset_descriptor"), none, (.fields #[(sV "__dict__" 347), (rV 76), (bV "function.__dict__"), (bV "function.__dict__#set")]), #[]⟩
noncomputable def yAv (P : Params) : Obj := ⟨(.type "getset_descriptor"), none, (.fields #[(sV "__weakref__" 349), (rV 76), (bV "ExceptionGroup.__weakref__"), .none]), #[]⟩
noncomputable def yBi (P : Params) : Obj := ⟨(.type "super"), none, (.fields #[(rV 76), (rV 76), (rV 76)]), #[]⟩
noncomputable def zYj (P : Params) : Obj := ⟨(.type "builtin_function_or_method"), none, (.fields #[(bV "object.__init_subclass__"), (rV 76)]), #[]⟩
noncomputable def hlq (P : Params) : List Obj := [yEd P, yE4 P, yEh P, yQf P, yCt P, yEz P, yE6 P, yFv P, yFs P, yDi P, zO0 P, zTm P, zOu P, zP2 P, zPo P, zQh P, zQg P, zP3 P, zQa P, zOw P, zQc P, zPp P, zO2 P, zPx P, zO5 P, zPb P, zPv P, zP0 P, zVh P, yPi P, zWw P, zW3 P, yB4 P, yA1 P, zYf P, zZ8 P, zYd P, zYa P, zYy P, zYe P, yB8 P, yAk P, zYk P, zZc P, yA6 P, yB2 P, yA3 P, yAj P, zY1 P, yA8 P, yB7 P, yAp P, yAa P, yBq P, yAq P, yAi P, yAr P, zZl P, yBd P, zX9 P, zYo P, zYx P, zYl P, zZw P, zY0 P, zZk P, zY4 P, zZh P, yAc P, zZa P, yBp P, yAe P, yAf P, zZs P, yAt P, zZn P, zY7 P, yAo P, yAv P, yBi P, zYj P]
noncomputable def yOv (P : Params) : Obj := dO #[kE P "__name__" 165 (sV "cpy313.stringprep" 354), kE P "__doc__" 166 .none, kE P "__package__" 167 .none, kE P "__loader__" 168 (bV "__main__.__loader__#opaque"), kE P "__spec__" 169 .none, kE P "__annotations__" 170 (rV 6), kE P "__builtins__" 171 (rV 4), kE P "__file__" 173 (sV "/claim/cut.py" 172), kE P "__cached__" 174 .none, kE P "_sre" 275 (rV 12), kE P "TICK" 285 (sV "'" 284), kE P "decode_rfc2231" 293 (rV 38), kE P "_netrclex" 353 (rV 76), kE P "b1_set" 415 (rV 88), kE P "in_table_b1" 422 (rV 98)] 15
noncomputable def yI6 (P : Params) : Obj := fO #[(iV 4), (iV 0), (rV 37), (iV 10), (iV 0), (rV 44), (iV 55), (iV 0), (rV 97)]
noncomputable def yFe (P : Params) : Obj := ⟨(.type "list"), none, (.seq #[(.int 173 356), (.int 847 357), (.int 6150 358), (.int 6155 359), (.int 6156 360), (.int 6157 361), (.int 8203 362), (.int 8204 363), (.int 8205 364), (.int 8288 365), (.int 65279 366)] 0), #[]⟩
noncomputable def yFo (P : Params) : Obj := ⟨(.type "range"), none, (.fields #[(.int 65024 367), (.int 65040 368), (.int 1 369)]), #[]⟩
noncomputable def yFg (P : Params) : Obj := ⟨(.type "list"), none, (.seq #[(.int 65024 372), (.int 65025 373), (.int 65026 374), (.int 65027 375), (.int 65028 376), (.int 65029 377), (.int 65030 378), (.int 65031 379), (.int 65032 380), (.int 65033 381), (.int 65034 382), (.int 65035 383), (.int 65036 384), (.int 65037 385), (.int 65038 386), (.int 65039 387)] 18), #[]⟩
noncomputable def yEj (P : Params) : Obj := ⟨(.type "range_iterator"), none, (.fields #[(iV 65040), (iV 0), (iV 1)]), #[]⟩
noncomputable def yDm (P : Params) : Obj := tO #[]
noncomputable def yE3 (P : Params) : Obj := ⟨(.type "StopIteration"), none, (.fields #[(rV 85), .none, .none, .none, (.bool false), .none]), #[]⟩
noncomputable def yFh (P : Params) : Obj := ⟨(.type "list"), none, (.seq #[(.int 173 356), (.int 847 357), (.int 6150 358), (.int 6155 359), (.int 6156 360), (.int 6157 361), (.int 8203 362), (.int 8204 363), (.int 8205 364), (.int 8288 365), (.int 65279 366), (.int 65024 372), (.int 65025 373), (.int 65026 374), (.int 65027 375), (.int 65028 376), (.int 65029 377), (.int 65030 378), (.int 65031 379), (.int 65032 380), (.int 65033 381), (.int 65034 382), (.int 65035 383), (.int 65036 384), (.int 65037 385), (.int 65038 386), (.int 65039 387)] 0), #[]⟩
noncomputable def yEa (P : Params) : Obj := ⟨(.type "set"), none, .set #[(65024, (.int 65024 372)), (65025, (.int 65025 373)), (65026, (.int 65026 374)), (65027, (.int 65027 375)), (65028, (.int 65028 376)), (65029, (.int 65029 377)), (6150, (.int 6150 358)), (65030, (.int 65030 378)), (65031, (.int 65031 379)), (65032, (.int 65032 380)), (65033, (.int 65033 381)), (6155, (.int 6155 359)), (6156, (.int 6156 360)), (6157, (.int 6157 361)), (8203, (.int 8203 362)), (8204, (.int 8204 363)), (8205, (.int 8205 364)), (65034, (.int 65034 382)), (65035, (.int 65035 383)), (65036, (.int 65036 384)), (65037, (.int 65037 385)), (65038, (.int 65038 386)), (65039, (.int 65039 387)), (173, (.int 173 356)), (847, (.int 847 357)), (8288, (.int 8288 365)), (65279, (.int 65279 366))] 29 (bif P.followText "set-order" then { mask := 127, place := #[0, 1, 2, 3, 4, 5, 6, 7, 8, 9, 10, 11, 12, 13, 14, 15, 16, 17, 18, 19, 20, 21, 22, 45, 79, 96, 127], dummies := #[], finger := 0, led := false, moves := 2, plain := true } else { mask := 127, place := #[0, 1, 2, 3, 4, 5, 6, 7, 8, 9, 10, 11, 12, 13, 14, 15, 16, 17, 18, 19, 20, 21, 22, 45, 79, 96, 127], dummies := #[], finger := 0, led := true, moves := 2, plain := true }), #[]⟩
noncomputable def yDs (P : Params) : Obj := ⟨(.type "list_iterator"), none, (.fields #[.none, (iV 27)]), #[]⟩
noncomputable def yFj (P : Params) : Obj := tO #[]
noncomputable def yE7 (P : Params) : Obj := ⟨(.type "StopIteration"), none, (.fields #[(rV 90), .none, .none, .none, (.bool false), .none]), #[]⟩
noncomputable def yDt (P : Params) : Obj := tO #[]
noncomputable def yFd (P : Params) : Obj := fO #[]
noncomputable def yD9 (P : Params) : Obj := tO #[(sV "code" 419)]
noncomputable def yD1 (P : Params) : Obj := tO #[]
noncomputable def yDk (P : Params) : Obj := gO "in_table_b1" "in_table_b1" (zAq "in_table_b1")
noncomputable def yDg (P : Params) : Obj := cO #[(sV "in_table_b1" 416), (sV "in_table_b1" 417), (sV "/claim/cut.py" 418), (iV 55), (iV 1), (iV 0), (iV 0), (iV 3), (rV 92), (.bool true), (iV 276), (rV 93), .none, (rV 94), (rV 95), (rV 96), (iV 420), (iV 55), (sV "/claim/cut.py" 421)]
noncomputable def yEv (P : Params) : Obj := uO "in_table_b1" "in_table_b1" (zAq "in_table_b1") .none (sV "cpy313.stringprep" 354) 97
noncomputable def hlb (P : Params) : List Obj := [yEd P, yE4 P, yEh P, yOv P, yCt P, yEz P, yE6 P, yFv P, yFs P, yDi P, zO0 P, zTm P, zOu P, zP2 P, zPo P, zQh P, zQg P, zP3 P, zQa P, zOw P, zQc P, zPp P, zO2 P, zPx P, zO5 P, zPb P, zPv P, zP0 P, zVh P, yI6 P, zWw P, zW3 P, yB4 P, yA1 P, zYf P, zZ8 P, zYd P, zYa P, zYy P, zYe P, yB8 P, yAk P, zYk P, zZc P, yA6 P, yB2 P, yA3 P, yAj P, zY1 P, yA8 P, yB7 P, yAp P, yAa P, yBq P, yAq P, yAi P, yAr P, zZl P, yBd P, zX9 P, zYo P, zYx P, zYl P, zZw P, zY0 P, zZk P, zY4 P, zZh P, yAc P, zZa P, yBp P, yAe P, yAf P, zZs P, yAt P, zZn P, zY7 P, yAo P, yAv P, yBi P, zYj P, yFe P, yFo P, yFg P, yEj P, yDm P, yE3 P, yFh P, yEa P, yDs P, yFj P, yE7 P, yDt P, yFd P, yD9 P, yD1 P, yDk P, yDg P, yEv P]
noncomputable def yQl (P : Params) : Obj := dO #[kE P "__name__" 165 (sV "cpy313.stringprep" 354), kE P "__doc__" 166 .none, kE P "__package__" 167 .none, kE P "__loader__" 168 (bV "__main__.__loader__#opaque"), kE P "__spec__" 169 .none, kE P "__annotations__" 170 (rV 6), kE P "__builtins__" 171 (rV 4), kE P "__file__" 173 (sV "/claim/cut.py" 172), kE P "__cached__" 174 .none, kE P "_sre" 275 (rV 12), kE P "TICK" 285 (sV "'" 284), kE P "decode_rfc2231" 293 (rV 38), kE P "_netrclex" 353 (rV 76), kE P "b1_set" 415 (rV 88), kE P "in_table_b1" 422 (rV 98), kE P "b3_exceptions" 2373 (rV 99)] 16
noncomputable def yGa (P : Params) : Obj := dO #[kE P "__name__" 165 (sV "law_sh0070_01" 2646), kE P "__doc__" 166 .none, kE P "__package__" 167 .none, kE P "__loader__" 168 (bV "__main__.__loader__#opaque"), kE P "__spec__" 169 .none, kE P "__annotations__" 170 (rV 6), kE P "__builtins__" 171 (rV 4), kE P "__file__" 173 (sV "/claim/cut.py" 172), kE P "__cached__" 174 .none, kE P "_sre" 275 (rV 12), kE P "TICK" 285 (sV "'" 284), kE P "decode_rfc2231" 293 (rV 38), kE P "_netrclex" 353 (rV 76), kE P "b1_set" 415 (rV 88), kE P "in_table_b1" 422 (rV 98), kE P "b3_exceptions" 2373 (rV 99), kE P "map_table_b3" 2381 (rV 144), kE P "tspecials" 2417 (rV 149), kE P "_name_disallowed_re" 2443 (rV 154), kE P "_value_disallowed_re" 2477 (rV 159), kE P "_formatparam" 2487 (rV 167), kE P "Headers" 2645 (rV 288), kE P "_law_entry" 2653 (rV 297), kE P "_law_lexer" 2662 (rV 304), kE P "_law_met" 2674 (rV 311), kE P "_law_turned" 2680 (rV 316), kE P "_law_least" 2686 (rV 321), kE P "_law_sent" 2692 (rV 326), kE P "law" 2698 (rV 331)] 29
noncomputable def yOc (P : Params) : Obj := fO #[(iV 4), (iV 0), (rV 37), (iV 10), (iV 0), (rV 44), (iV 55), (iV 0), (rV 97), (iV 58), (iV 0), (rV 143), (iV 67), (iV 0), (rV 166), (iV 76), (iV 0), (rV 173), (iV 164), (iV 0), (rV 296), (iV 187), (iV 0), (rV 303), (iV 192), (iV 0), (rV 310), (iV 205), (iV 0), (rV 315), (iV 213), (iV 0), (rV 320), (iV 221), (iV 0), (rV 325), (iV 236), (iV 0), (rV 330)]
noncomputable def yNe (P : Params) : Obj := tO #[]
noncomputable def yJm (P : Params) : Obj := fO #[]
noncomputable def yJb (P : Params) : Obj := tO #[(sV "code" 2377), (sV "r" 2378)]
noncomputable def yI9 (P : Params) : Obj := tO #[]
noncomputable def yJt (P : Params) : Obj := gO "map_table_b3" "map_table_b3" (zAq "map_table_b3")
noncomputable def yLl (P : Params) : Obj := cO #[(sV "map_table_b3" 2374), (sV "map_table_b3" 2375), (sV "/claim/cut.py" 2376), (iV 58), (iV 1), (iV 0), (iV 0), (iV 3), (rV 138), (.bool true), (iV 276), (rV 139), .none, (rV 140), (rV 141), (rV 142), (iV 2379), (iV 58), (sV "/claim/cut.py" 2380)]
noncomputable def yLc (P : Params) : Obj := uO "map_table_b3" "map_table_b3" (zAq "map_table_b3") .none (sV "cpy313.stringprep" 354) 143
noncomputable def yMq (P : Params) : Obj := ⟨(.type "list"), none, (.seq #[(.int 14 2387), (.int 14 2388), (.int 4 2389), (.int 1 2390), (.int 1 2391), (.int 9 2392), (.int 0 2393), (.int 4227896069 2394), (.int 939524097 2395), (.int 0 2396), (.int 0 2397), (.int 0 2398), (.int 0 2399), (.int 0 2400), (.int 0 2401), (.int 13 2402), (.int 11 2403), (.int 9 2404), (.int 0 2405), (.int 4227896069 2406), (.int 939524097 2407), (.int 0 2408), (.int 0 2409), (.int 0 2410), (.int 0 2411), (.int 0 2412), (.int 0 2413), (.int 1 2414)] 0), #[]⟩
noncomputable def yKi (P : Params) : Obj := dO #[] 0
noncomputable def yH1 (P : Params) : Obj := tO #[.none]
noncomputable def yG8 (P : Params) : Obj := tO #[(iV 14), (iV 14), (iV 4), (iV 1), (iV 1), (iV 9), (iV 0), (iV 4227896069), (iV 939524097), (iV 0), (iV 0), (iV 0), (iV 0), (iV 0), (iV 0), (iV 13), (iV 11), (iV 9), (iV 0), (iV 4227896069), (iV 939524097), (iV 0), (iV 0), (iV 0), (iV 0), (iV 0), (iV 0), (iV 1)]
noncomputable def yK2 (P : Params) : Obj := ⟨(.type "re.Pattern"), none, (.fields #[(sV "[ \\(\\)<>@,;:\\\\\"/\\[\\]\\?=]" 2385), (.int 32 2416), (iV 0), .none, .none, (rV 148), (iV 0)]), #[]⟩
noncomputable def yG3 (P : Params) : Obj := ⟨(.type "list"), none, (.seq #[(.int 14 2421), (.int 10 2422), (.int 4 2423), (.int 1 2424), (.int 1 2425), (.int 22 2426), (.int 0 2427), (.int 31 2428), (.int 16 2429), (.int 127 2430), (.int 0 2431), (.int 13 2432), (.int 7 2433), (.int 22 2434), (.int 0 2435), (.int 31 2436), (.int 16 2437), (.int 127 2438), (.int 0 2439), (.int 1 2440)] 0), #[]⟩
noncomputable def yL5 (P : Params) : Obj := dO #[] 0
noncomputable def yGp (P : Params) : Obj := tO #[.none]
noncomputable def yJh (P : Params) : Obj := tO #[(iV 14), (iV 10), (iV 4), (iV 1), (iV 1), (iV 22), (iV 0), (iV 31), (iV 16), (iV 127), (iV 0), (iV 13), (iV 7), (iV 22), (iV 0), (iV 31), (iV 16), (iV 127), (iV 0), (iV 1)]
noncomputable def yJj (P : Params) : Obj := ⟨(.type "re.Pattern"), none, (.fields #[(sV "[\\x00-\\x1F\\x7F]" 2419), (.int 32 2442), (iV 0), .none, .none, (rV 153), (iV 0)]), #[]⟩
noncomputable def yJ8 (P : Params) : Obj := ⟨(.type "list"), none, (.seq #[(.int 14 2447), (.int 14 2448), (.int 4 2449), (.int 1 2450), (.int 1 2451), (.int 9 2452), (.int 4294966783 2453), (.int 0 2454), (.int 0 2455), (.int 2147483648 2456), (.int 0 2457), (.int 0 2458), (.int 0 2459), (.int 0 2460), (.int 0 2461), (.int 13 2462), (.int 11 2463), (.int 9 2464), (.int 4294966783 2465), (.int 0 2466), (.int 0 2467), (.int 2147483648 2468), (.int 0 2469), (.int 0 2470), (.int 0 2471), (.int 0 2472), (.int 0 2473), (.int 1 2474)] 0), #[]⟩
noncomputable def yH4 (P : Params) : Obj := dO #[] 0
noncomputable def yIf (P : Params) : Obj := tO #[.none]
noncomputable def yGr (P : Params) : Obj := tO #[(iV 14), (iV 14), (iV 4), (iV 1), (iV 1), (iV 9), (iV 4294966783), (iV 0), (iV 0), (iV 2147483648), (iV 0), (iV 0), (iV 0), (iV 0), (iV 0), (iV 13), (iV 11), (iV 9), (iV 4294966783), (iV 0), (iV 0), (iV 2147483648), (iV 0), (iV 0), (iV 0), (iV 0), (iV 0), (iV 1)]
noncomputable def yNm (P : Params) : Obj := ⟨(.type "re.Pattern"), none, (.fields #[(sV "[\\x00-\\x08\\x0A-\\x1F\\x7F]" 2445), (.int 32 2476), (iV 0), .none, .none, (rV 158), (iV 0)]), #[]⟩
noncomputable def yGg (P : Params) : Obj := tO #[.none, (.int 1 2478)]
noncomputable def yKh (P : Params) : Obj := tO #[]
noncomputable def yLn (P : Params) : Obj := fO #[]
noncomputable def yJi (P : Params) : Obj := tO #[(sV "param" 2482), (sV "value" 2483), (sV "quote" 2484)]
noncomputable def yJd (P : Params) : Obj := tO #[]
noncomputable def yHs (P : Params) : Obj := gO "_formatparam" "_formatparam" (zAq "_formatparam")
noncomputable def yG1 (P : Params) : Obj := cO #[(sV "_formatparam" 2479), (sV "_formatparam" 2480), (sV "/claim/cut.py" 2481), (iV 67), (iV 3), (iV 0), (iV 0), (iV 3), (rV 161), (.bool true), (iV 276), (rV 162), .none, (rV 163), (rV 164), (rV 165), (iV 2485), (iV 67), (sV "/claim/cut.py" 2486)]
noncomputable def yG4 (P : Params) : Obj := uO "_formatparam" "_formatparam" (zAq "_formatparam") (rV 160) (sV "cpy313.wsgiref.headers" 2382) 166
noncomputable def yGv (P : Params) : Obj := tO #[]
noncomputable def yLr (P : Params) : Obj := ⟨(.type "builtin_function_or_method"), none, (.fields #[(bV "type.__prepare__"), (.type "type")]), #[]⟩
noncomputable def yIm (P : Params) : Obj := dO #[kE P "__module__" 2495 (sV "cpy313.wsgiref.headers" 2382), kE P "__qualname__" 2497 (sV "Headers" 2496), kE P "__firstlineno__" 2499 (.int 76 2498), kE P "__init__" 2509 (rV 182), kE P "_convert_string_type" 2519 (rV 189), kE P "__len__" 2526 (rV 196), kE P "__setitem__" 2535 (rV 203), kE P "__delitem__" 2541 (rV 208), kE P "__getitem__" 2549 (rV 215), kE P "__contains__" 2557 (rV 222), kE P "get_all" 2563 (rV 227), kE P "get" 2574 (rV 235), kE P "keys" 2580 (rV 240), kE P "values" 2586 (rV 245), kE P "items" 2593 (rV 252), kE P "__repr__" 2600 (rV 259), kE P "__str__" 2606 (rV 264), kE P "__bytes__" 2613 (rV 271), kE P "setdefault" 2623 (rV 278), kE P "add_header" 2636 (rV 285), kE P "__static_attributes__" 2638 (rV 286)] 21
noncomputable def yNk (P : Params) : Obj := tO #[]
noncomputable def yNj (P : Params) : Obj := fO #[(iV 78), (iV 4), (rV 181), (iV 88), (iV 4), (rV 188), (iV 96), (iV 4), (rV 195), (iV 99), (iV 4), (rV 202), (iV 103), (iV 4), (rV 207), (iV 107), (iV 4), (rV 214), (iV 110), (iV 4), (rV 221), (iV 113), (iV 4), (rV 226), (iV 117), (iV 4), (rV 234), (iV 124), (iV 4), (rV 239), (iV 127), (iV 4), (rV 244), (iV 130), (iV 4), (rV 251), (iV 133), (iV 4), (rV 258), (iV 136), (iV 4), (rV 263), (iV 139), (iV 4), (rV 270), (iV 142), (iV 4), (rV 277), (iV 150), (iV 4), (rV 284)]
noncomputable def yJ9 (P : Params) : Obj := cO #[(sV "Headers" 2490), (sV "Headers" 2491), (sV "/claim/cut.py" 2492), (iV 76), (iV 0), (iV 0), (iV 0), (iV 0), (rV 171), (.bool false), (iV 276), (rV 172), .none, .none, .none, .none, (iV 2493), (iV 76), (sV "/claim/cut.py" 2494)]
noncomputable def yNp (P : Params) : Obj := ⟨(.type "frame"), none, .plain, #[(some (rV 173)), (some (rV 3)), (some (rV 170)), none, (some (sV "cpy313.wsgiref.headers" 2382)), none, (some (rV 0))]⟩
noncomputable def yJe (P : Params) : Obj := tO #[.none]
noncomputable def yNc (P : Params) : Obj := tO #[]
noncomputable def yHl (P : Params) : Obj := fO #[]
noncomputable def yJy (P : Params) : Obj := tO #[(sV "self" 2503), (sV "headers" 2504), (sV "k" 2505), (sV "v" 2506)]
noncomputable def yLf (P : Params) : Obj := tO #[]
noncomputable def yHr (P : Params) : Obj := gO "__init__" "Headers.__init__" (zAf "Headers" "__init__")
noncomputable def yHp (P : Params) : Obj := cO #[(sV "__init__" 2500), (sV "Headers.__init__" 2501), (sV "/claim/cut.py" 2502), (iV 78), (iV 2), (iV 0), (iV 0), (iV 3), (rV 176), (.bool true), (iV 276), (rV 177), .none, (rV 178), (rV 179), (rV 180), (iV 2507), (iV 78), (sV "/claim/cut.py" 2508)]
noncomputable def yIt (P : Params) : Obj := uO "__init__" "Headers.__init__" (zAf "Headers" "__init__") (rV 175) (sV "cpy313.wsgiref.headers" 2382) 181
noncomputable def yId (P : Params) : Obj := tO #[]
noncomputable def yHa (P : Params) : Obj := fO #[]
noncomputable def yGt (P : Params) : Obj := tO #[(sV "self" 2513), (sV "value" 2514), (sV "name" 2515), (sV "regex" 2516)]
noncomputable def yGq (P : Params) : Obj := tO #[]
noncomputable def yMa (P : Params) : Obj := gO "_convert_string_type" "Headers._convert_string_type" (zAf "Headers" "_convert_string_type")
noncomputable def yNl (P : Params) : Obj := cO #[(sV "_convert_string_type" 2510), (sV "Headers._convert_string_type" 2511), (sV "/claim/cut.py" 2512), (iV 88), (iV 2), (iV 0), (iV 1), (iV 3), (rV 183), (.bool true), (iV 276), (rV 184), .none, (rV 185), (rV 186), (rV 187), (iV 2517), (iV 88), (sV "/claim/cut.py" 2518)]
noncomputable def yJz (P : Params) : Obj := uO "_convert_string_type" "Headers._convert_string_type" (zAf "Headers" "_convert_string_type") .none (sV "cpy313.wsgiref.headers" 2382) 188
noncomputable def yHd (P : Params) : Obj := tO #[]
noncomputable def yKg (P : Params) : Obj := fO #[]
noncomputable def yHh (P : Params) : Obj := tO #[(sV "self" 2523)]
noncomputable def yIr (P : Params) : Obj := tO #[]
noncomputable def yJr (P : Params) : Obj := gO "__len__" "Headers.__len__" (zAf "Headers" "__len__")
noncomputable def yIa (P : Params) : Obj := cO #[(sV "__len__" 2520), (sV "Headers.__len__" 2521), (sV "/claim/cut.py" 2522), (iV 96), (iV 1), (iV 0), (iV 0), (iV 3), (rV 190), (.bool true), (iV 276), (rV 191), .none, (rV 192), (rV 193), (rV 194), (iV 2524), (iV 96), (sV "/claim/cut.py" 2525)]
noncomputable def yJa (P : Params) : Obj := uO "__len__" "Headers.__len__" (zAf "Headers" "__len__") .none (sV "cpy313.wsgiref.headers" 2382) 195
noncomputable def yH9 (P : Params) : Obj := tO #[]
noncomputable def yL7 (P : Params) : Obj := fO #[]
noncomputable def yLb (P : Params) : Obj := tO #[(sV "self" 2530), (sV "name" 2531), (sV "val" 2532)]
noncomputable def yGb (P : Params) : Obj := tO #[]
noncomputable def yHb (P : Params) : Obj := gO "__setitem__" "Headers.__setitem__" (zAf "Headers" "__setitem__")
noncomputable def yKx (P : Params) : Obj := cO #[(sV "__setitem__" 2527), (sV "Headers.__setitem__" 2528), (sV "/claim/cut.py" 2529), (iV 99), (iV 3), (iV 0), (iV 0), (iV 3), (rV 197), (.bool true), (iV 276), (rV 198), .none, (rV 199), (rV 200), (rV 201), (iV 2533), (iV 99), (sV "/claim/cut.py" 2534)]
noncomputable def yHv (P : Params) : Obj := uO "__setitem__" "Headers.__setitem__" (zAf "Headers" "__setitem__") .none (sV "cpy313.wsgiref.headers" 2382) 202
noncomputable def yMj (P : Params) : Obj := tO #[]
noncomputable def yMz (P : Params) : Obj := fO #[]
noncomputable def yL3 (P : Params) : Obj := gO "__delitem__" "Headers.__delitem__" (zAf "Headers" "__delitem__")
noncomputable def yJq (P : Params) : Obj := cO #[(sV "__delitem__" 2536), (sV "Headers.__delitem__" 2537), (sV "/claim/cut.py" 2538), (iV 103), (iV 2), (iV 0), (iV 0), (iV 3), (rV 204), (.bool true), (iV 276), (rV 205), .none, .none, .none, (rV 206), (iV 2539), (iV 103), (sV "/claim/cut.py" 2540)]
noncomputable def yGh (P : Params) : Obj := uO "__delitem__" "Headers.__delitem__" (zAf "Headers" "__delitem__") .none (sV "cpy313.wsgiref.headers" 2382) 207
noncomputable def yKo (P : Params) : Obj := tO #[]
noncomputable def yM4 (P : Params) : Obj := fO #[]
noncomputable def yMc (P : Params) : Obj := tO #[(sV "self" 2545), (sV "name" 2546)]
noncomputable def yH5 (P : Params) : Obj := tO #[]
noncomputable def yJf (P : Params) : Obj := gO "__getitem__" "Headers.__getitem__" (zAf "Headers" "__getitem__")
noncomputable def yJp (P : Params) : Obj := cO #[(sV "__getitem__" 2542), (sV "Headers.__getitem__" 2543), (sV "/claim/cut.py" 2544), (iV 107), (iV 2), (iV 0), (iV 0), (iV 3), (rV 209), (.bool true), (iV 276), (rV 210), .none, (rV 211), (rV 212), (rV 213), (iV 2547), (iV 107), (sV "/claim/cut.py" 2548)]
noncomputable def yGj (P : Params) : Obj := uO "__getitem__" "Headers.__getitem__" (zAf "Headers" "__getitem__") .none (sV "cpy313.wsgiref.headers" 2382) 214
noncomputable def yNx (P : Params) : Obj := tO #[]
noncomputable def yI1 (P : Params) : Obj := fO #[]
noncomputable def yLg (P : Params) : Obj := tO #[(sV "self" 2553), (sV "name" 2554)]
noncomputable def yGw (P : Params) : Obj := tO #[]
noncomputable def yLy (P : Params) : Obj := gO "__contains__" "Headers.__contains__" (zAf "Headers" "__contains__")
noncomputable def yMm (P : Params) : Obj := cO #[(sV "__contains__" 2550), (sV "Headers.__contains__" 2551), (sV "/claim/cut.py" 2552), (iV 110), (iV 2), (iV 0), (iV 0), (iV 3), (rV 216), (.bool true), (iV 276), (rV 217), .none, (rV 218), (rV 219), (rV 220), (iV 2555), (iV 110), (sV "/claim/cut.py" 2556)]
noncomputable def yGu (P : Params) : Obj := uO "__contains__" "Headers.__contains__" (zAf "Headers" "__contains__") .none (sV "cpy313.wsgiref.headers" 2382) 221
noncomputable def yNs (P : Params) : Obj := tO #[]
noncomputable def yI2 (P : Params) : Obj := fO #[]
noncomputable def yI4 (P : Params) : Obj := gO "get_all" "Headers.get_all" (zAf "Headers" "get_all")
noncomputable def yL1 (P : Params) : Obj := cO #[(sV "get_all" 2558), (sV "Headers.get_all" 2559), (sV "/claim/cut.py" 2560), (iV 113), (iV 2), (iV 0), (iV 0), (iV 3), (rV 223), (.bool true), (iV 276), (rV 224), .none, .none, .none, (rV 225), (iV 2561), (iV 113), (sV "/claim/cut.py" 2562)]
noncomputable def yJx (P : Params) : Obj := uO "get_all" "Headers.get_all" (zAf "Headers" "get_all") .none (sV "cpy313.wsgiref.headers" 2382) 226
noncomputable def yMw (P : Params) : Obj := tO #[.none]
noncomputable def yHx (P : Params) : Obj := tO #[]
noncomputable def yHw (P : Params) : Obj := fO #[]
noncomputable def yMi (P : Params) : Obj := tO #[(sV "self" 2567), (sV "name" 2568), (sV "default" 2569), (sV "k" 2570), (sV "v" 2571)]
noncomputable def yMs (P : Params) : Obj := tO #[]
noncomputable def yMb (P : Params) : Obj := gO "get" "Headers.get" (zAf "Headers" "get")
noncomputable def yGi (P : Params) : Obj := cO #[(sV "get" 2564), (sV "Headers.get" 2565), (sV "/claim/cut.py" 2566), (iV 117), (iV 3), (iV 0), (iV 0), (iV 3), (rV 229), (.bool true), (iV 276), (rV 230), .none, (rV 231), (rV 232), (rV 233), (iV 2572), (iV 117), (sV "/claim/cut.py" 2573)]
noncomputable def yLa (P : Params) : Obj := uO "get" "Headers.get" (zAf "Headers" "get") (rV 228) (sV "cpy313.wsgiref.headers" 2382) 234
noncomputable def yK7 (P : Params) : Obj := tO #[]
noncomputable def yKw (P : Params) : Obj := fO #[]
noncomputable def yGo (P : Params) : Obj := gO "keys" "Headers.keys" (zAf "Headers" "keys")
noncomputable def yHz (P : Params) : Obj := cO #[(sV "keys" 2575), (sV "Headers.keys" 2576), (sV "/claim/cut.py" 2577), (iV 124), (iV 1), (iV 0), (iV 0), (iV 3), (rV 236), (.bool true), (iV 276), (rV 237), .none, .none, .none, (rV 238), (iV 2578), (iV 124), (sV "/claim/cut.py" 2579)]
noncomputable def yH6 (P : Params) : Obj := uO "keys" "Headers.keys" (zAf "Headers" "keys") .none (sV "cpy313.wsgiref.headers" 2382) 239
noncomputable def yM1 (P : Params) : Obj := tO #[]
noncomputable def yJ5 (P : Params) : Obj := fO #[]
noncomputable def yJ7 (P : Params) : Obj := gO "values" "Headers.values" (zAf "Headers" "values")
noncomputable def yNi (P : Params) : Obj := cO #[(sV "values" 2581), (sV "Headers.values" 2582), (sV "/claim/cut.py" 2583), (iV 127), (iV 1), (iV 0), (iV 0), (iV 3), (rV 241), (.bool true), (iV 276), (rV 242), .none, .none, .none, (rV 243), (iV 2584), (iV 127), (sV "/claim/cut.py" 2585)]
noncomputable def yIo (P : Params) : Obj := uO "values" "Headers.values" (zAf "Headers" "values") .none (sV "cpy313.wsgiref.headers" 2382) 244
noncomputable def yNf (P : Params) : Obj := tO #[]
noncomputable def yKk (P : Params) : Obj := fO #[]
noncomputable def yJv (P : Params) : Obj := tO #[(sV "self" 2590)]
noncomputable def yKn (P : Params) : Obj := tO #[]
noncomputable def yI8 (P : Params) : Obj := gO "items" "Headers.items" (zAf "Headers" "items")
noncomputable def yK4 (P : Params) : Obj := cO #[(sV "items" 2587), (sV "Headers.items" 2588), (sV "/claim/cut.py" 2589), (iV 130), (iV 1), (iV 0), (iV 0), (iV 3), (rV 246), (.bool true), (iV 276), (rV 247), .none, (rV 248), (rV 249), (rV 250), (iV 2591), (iV 130), (sV "/claim/cut.py" 2592)]
noncomputable def yL6 (P : Params) : Obj := uO "items" "Headers.items" (zAf "Headers" "items") .none (sV "cpy313.wsgiref.headers" 2382) 251
noncomputable def yKm (P : Params) : Obj := tO #[]
noncomputable def yL4 (P : Params) : Obj := fO #[]
noncomputable def yLw (P : Params) : Obj := tO #[(sV "self" 2597)]
noncomputable def yNh (P : Params) : Obj := tO #[]
noncomputable def yJl (P : Params) : Obj := gO "__repr__" "Headers.__repr__" (zAf "Headers" "__repr__")
noncomputable def yHe (P : Params) : Obj := cO #[(sV "__repr__" 2594), (sV "Headers.__repr__" 2595), (sV "/claim/cut.py" 2596), (iV 133), (iV 1), (iV 0), (iV 0), (iV 3), (rV 253), (.bool true), (iV 276), (rV 254), .none, (rV 255), (rV 256), (rV 257), (iV 2598), (iV 133), (sV "/claim/cut.py" 2599)]
noncomputable def yGc (P : Params) : Obj := uO "__repr__" "Headers.__repr__" (zAf "Headers" "__repr__") .none (sV "cpy313.wsgiref.headers" 2382) 258
noncomputable def yLi (P : Params) : Obj := tO #[]
noncomputable def yLh (P : Params) : Obj := fO #[]
noncomputable def yI0 (P : Params) : Obj := gO "__str__" "Headers.__str__" (zAf "Headers" "__str__")
noncomputable def yLv (P : Params) : Obj := cO #[(sV "__str__" 2601), (sV "Headers.__str__" 2602), (sV "/claim/cut.py" 2603), (iV 136), (iV 1), (iV 0), (iV 0), (iV 3), (rV 260), (.bool true), (iV 276), (rV 261), .none, .none, .none, (rV 262), (iV 2604), (iV 136), (sV "/claim/cut.py" 2605)]
noncomputable def yKt (P : Params) : Obj := uO "__str__" "Headers.__str__" (zAf "Headers" "__str__") .none (sV "cpy313.wsgiref.headers" 2382) 263
noncomputable def yL9 (P : Params) : Obj := tO #[]
noncomputable def yLs (P : Params) : Obj := fO #[]
noncomputable def yNt (P : Params) : Obj := tO #[(sV "self" 2610)]
noncomputable def yHj (P : Params) : Obj := tO #[]
noncomputable def yLq (P : Params) : Obj := gO "__bytes__" "Headers.__bytes__" (zAf "Headers" "__bytes__")
noncomputable def yMl (P : Params) : Obj := cO #[(sV "__bytes__" 2607), (sV "Headers.__bytes__" 2608), (sV "/claim/cut.py" 2609), (iV 139), (iV 1), (iV 0), (iV 0), (iV 3), (rV 265), (.bool true), (iV 276), (rV 266), .none, (rV 267), (rV 268), (rV 269), (iV 2611), (iV 139), (sV "/claim/cut.py" 2612)]
noncomputable def yJs (P : Params) : Obj := uO "__bytes__" "Headers.__bytes__" (zAf "Headers" "__bytes__") .none (sV "cpy313.wsgiref.headers" 2382) 270
noncomputable def yKu (P : Params) : Obj := tO #[]
noncomputable def yK8 (P : Params) : Obj := fO #[]
noncomputable def yM8 (P : Params) : Obj := tO #[(sV "self" 2617), (sV "name" 2618), (sV "value" 2619), (sV "result" 2620)]
noncomputable def yKz (P : Params) : Obj := tO #[]
noncomputable def yKv (P : Params) : Obj := gO "setdefault" "Headers.setdefault" (zAf "Headers" "setdefault")
noncomputable def yMv (P : Params) : Obj := cO #[(sV "setdefault" 2614), (sV "Headers.setdefault" 2615), (sV "/claim/cut.py" 2616), (iV 142), (iV 3), (iV 0), (iV 0), (iV 3), (rV 272), (.bool true), (iV 276), (rV 273), .none, (rV 274), (rV 275), (rV 276), (iV 2621), (iV 142), (sV "/claim/cut.py" 2622)]
noncomputable def yIz (P : Params) : Obj := uO "setdefault" "Headers.setdefault" (zAf "Headers" "setdefault") .none (sV "cpy313.wsgiref.headers" 2382) 277
noncomputable def yKq (P : Params) : Obj := tO #[]
noncomputable def yIu (P : Params) : Obj := fO #[]
noncomputable def yNq (P : Params) : Obj := tO #[(sV "self" 2627), (sV "_name" 2628), (sV "_value" 2629), (sV "_params" 2630), (sV "parts" 2631), (sV "k" 2632), (sV "v" 2633)]
noncomputable def yJg (P : Params) : Obj := tO #[]
noncomputable def yM0 (P : Params) : Obj := gO "add_header" "Headers.add_header" (zAf "Headers" "add_header")
noncomputable def yNa (P : Params) : Obj := cO #[(sV "add_header" 2624), (sV "Headers.add_header" 2625), (sV "/claim/cut.py" 2626), (iV 150), (iV 3), (iV 0), (iV 0), (iV 11), (rV 279), (.bool true), (iV 276), (rV 280), .none, (rV 281), (rV 282), (rV 283), (iV 2634), (iV 150), (sV "/claim/cut.py" 2635)]
noncomputable def yH8 (P : Params) : Obj := uO "add_header" "Headers.add_header" (zAf "Headers" "add_header") .none (sV "cpy313.wsgiref.headers" 2382) 284
noncomputable def yLj (P : Params) : Obj := tO #[(sV "_headers" 2637)]
noncomputable def yNw (P : Params) : Obj := dO #[kE P "__module__" 2495 (sV "cpy313.wsgiref.headers" 2382), kE P "__firstlineno__" 2499 (.int 76 2498), kE P "__init__" 2509 (rV 182), kE P "_convert_string_type" 2519 (rV 189), kE P "__len__" 2526 (rV 196), kE P "__setitem__" 2535 (rV 203), kE P "__delitem__" 2541 (rV 208), kE P "__getitem__" 2549 (rV 215), kE P "__contains__" 2557 (rV 222), kE P "get_all" 2563 (rV 227), kE P "get" 2574 (rV 235), kE P "keys" 2580 (rV 240), kE P "values" 2586 (rV 245), kE P "items" 2593 (rV 252), kE P "__repr__" 2600 (rV 259), kE P "__str__" 2606 (rV 264), kE P "__bytes__" 2613 (rV 271), kE P "setdefault" 2623 (rV 278), kE P "add_header" 2636 (rV 285), kE P "__static_attributes__" 2638 (rV 286), kE P "__dict__" 2640 (rV 289), kE P "__weakref__" 2642 (rV 290), kE P "__doc__" 2643 .none] 4
noncomputable def yLe (P : Params) : Obj := ⟨(.type "type"), none, (.cls { name := "Headers", bases := [(.type "object")], mro := [(rV 288), (.type "object")], ns := 287, qualname := "Headers", hasDict := true, slotNames := [], subclasses := [], abstract := false, collection := none, hasDel := false }), #[none, none, (some (sV "Headers" 2488)), (some (sV "Headers" 2496)), (some (bV "object.__new__")), (some (.bool true))]⟩
noncomputable def yMr (P : Params) : Obj := ⟨(.type "getset_descriptor"), none, (.fields #[(sV "__dict__" 2639), (rV 288), (bV "function.__dict__"), (bV "function.__dict__#set")]), #[]⟩
noncomputable def yJ3 (P : Params) : Obj := ⟨(.type "getset_descriptor"), none, (.fields #[(sV "__weakref__" 2641), (rV 288), (bV "ExceptionGroup.__weakref__"), .none]), #[]⟩
noncomputable def yG9 (P : Params) : Obj := ⟨(.type "super"), none, (.fields #[(rV 288), (rV 288), (rV 288)]), #[]⟩
noncomputable def yKj (P : Params) : Obj := ⟨(.type "builtin_function_or_method"), none, (.fields #[(bV "object.__init_subclass__"), (rV 288)]), #[]⟩
noncomputable def yJk (P : Params) : Obj := tO #[]
noncomputable def yMx (P : Params) : Obj := fO #[]
noncomputable def yK5 (P : Params) : Obj := gO "_law_entry" "_law_entry" (zAq "_law_entry")
noncomputable def yHk (P : Params) : Obj := cO #[(sV "_law_entry" 2648), (sV "_law_entry" 2649), (sV "/claim/cut.py" 2650), (iV 164), (iV 1), (iV 0), (iV 0), (iV 3), (rV 293), (.bool true), (iV 276), (rV 294), .none, .none, .none, (rV 295), (iV 2651), (iV 164), (sV "/claim/cut.py" 2652)]
noncomputable def yKa (P : Params) : Obj := uO "_law_entry" "_law_entry" (zAq "_law_entry") .none (sV "law_sh0070_01" 2646) 296
noncomputable def yJu (P : Params) : Obj := tO #[]
noncomputable def yIy (P : Params) : Obj := fO #[]
noncomputable def yK0 (P : Params) : Obj := tO #[(sV "text" 2657), (sV "stream" 2658)]
noncomputable def yL0 (P : Params) : Obj := tO #[(sV "signs" 2659)]
noncomputable def yLu (P : Params) : Obj := gO "_law_lexer" "_law_lexer" (zAq "_law_lexer")
noncomputable def yC0 (P : Params) : Obj := cO #[(sV "_law_lexer" 2654), (sV "_law_lexer" 2655), (sV "/claim/cut.py" 2656), (iV 187), (iV 1), (iV 0), (iV 0), (iV 3), (rV 298), (.bool true), (iV 276), (rV 299), .none, (rV 300), (rV 301), (rV 302), (iV 2660), (iV 187), (sV "/claim/cut.py" 2661)]
noncomputable def yC5 (P : Params) : Obj := uO "_law_lexer" "_law_lexer" (zAq "_law_lexer") .none (sV "law_sh0070_01" 2646) 303
noncomputable def yGe (P : Params) : Obj := tO #[]
noncomputable def yNd (P : Params) : Obj := fO #[]
noncomputable def yNo (P : Params) : Obj := tO #[(sV "lexer" 2666), (sV "net" 2667), (sV "met" 2668), (sV "turn" 2669), (sV "town" 2670), (sV "goal" 2671)]
noncomputable def yI3 (P : Params) : Obj := tO #[]
noncomputable def yNv (P : Params) : Obj := gO "_law_met" "_law_met" (zAq "_law_met")
noncomputable def yI5 (P : Params) : Obj := cO #[(sV "_law_met" 2663), (sV "_law_met" 2664), (sV "/claim/cut.py" 2665), (iV 192), (iV 2), (iV 0), (iV 0), (iV 3), (rV 305), (.bool true), (iV 276), (rV 306), .none, (rV 307), (rV 308), (rV 309), (iV 2672), (iV 192), (sV "/claim/cut.py" 2673)]
noncomputable def yHy (P : Params) : Obj := uO "_law_met" "_law_met" (zAq "_law_met") .none (sV "law_sh0070_01" 2646) 310
noncomputable def yIg (P : Params) : Obj := tO #[]
noncomputable def yIl (P : Params) : Obj := fO #[]
noncomputable def yMn (P : Params) : Obj := gO "_law_turned" "_law_turned" (zAq "_law_turned")
noncomputable def yGx (P : Params) : Obj := cO #[(sV "_law_turned" 2675), (sV "_law_turned" 2676), (sV "/claim/cut.py" 2677), (iV 205), (iV 3), (iV 0), (iV 0), (iV 3), (rV 312), (.bool true), (iV 276), (rV 313), .none, .none, .none, (rV 314), (iV 2678), (iV 205), (sV "/claim/cut.py" 2679)]
noncomputable def yL8 (P : Params) : Obj := uO "_law_turned" "_law_turned" (zAq "_law_turned") .none (sV "law_sh0070_01" 2646) 315
noncomputable def yJ1 (P : Params) : Obj := tO #[]
noncomputable def yIn (P : Params) : Obj := fO #[]
noncomputable def yKr (P : Params) : Obj := gO "_law_least" "_law_least" (zAq "_law_least")
noncomputable def yIk (P : Params) : Obj := cO #[(sV "_law_least" 2681), (sV "_law_least" 2682), (sV "/claim/cut.py" 2683), (iV 213), (iV 1), (iV 0), (iV 0), (iV 3), (rV 317), (.bool true), (iV 276), (rV 318), .none, .none, .none, (rV 319), (iV 2684), (iV 213), (sV "/claim/cut.py" 2685)]
noncomputable def yH0 (P : Params) : Obj := uO "_law_least" "_law_least" (zAq "_law_least") .none (sV "law_sh0070_01" 2646) 320
noncomputable def yLz (P : Params) : Obj := tO #[]
noncomputable def yMg (P : Params) : Obj := fO #[]
noncomputable def yIi (P : Params) : Obj := gO "_law_sent" "_law_sent" (zAq "_law_sent")
noncomputable def yIv (P : Params) : Obj := cO #[(sV "_law_sent" 2687), (sV "_law_sent" 2688), (sV "/claim/cut.py" 2689), (iV 221), (iV 2), (iV 0), (iV 0), (iV 3), (rV 322), (.bool true), (iV 276), (rV 323), .none, .none, .none, (rV 324), (iV 2690), (iV 221), (sV "/claim/cut.py" 2691)]
noncomputable def yK1 (P : Params) : Obj := uO "_law_sent" "_law_sent" (zAq "_law_sent") .none (sV "law_sh0070_01" 2646) 325
noncomputable def yL2 (P : Params) : Obj := tO #[]
noncomputable def yMd (P : Params) : Obj := fO #[]
noncomputable def yHm (P : Params) : Obj := gO "law" "law" (zAq "law")
noncomputable def yGy (P : Params) : Obj := cO #[(sV "law" 2693), (sV "law" 2694), (sV "/claim/cut.py" 2695), (iV 236), (iV 1), (iV 0), (iV 0), (iV 3), (rV 327), (.bool true), (iV 276), (rV 328), .none, .none, .none, (rV 329), (iV 2696), (iV 236), (sV "/claim/cut.py" 2697)]
noncomputable def yIs (P : Params) : Obj := uO "law" "law" (zAq "law") .none (sV "law_sh0070_01" 2646) 330
end
section
noncomputable def zF4 (os : List Obj) : BT := go 12 1 0
where go : Nat -> Nat -> Nat -> BT
  | 0, _, _ => .nil
  | f + 1, a, b => match os[b]? with
    | some o => .node o (go f (2 * a) (a + b)) (go f (2 * a) (2 * a + b))
    | none => .nil
noncomputable def zDz : List Stmt := behindTheImports pw
noncomputable def zIf : Env := { scope := pw.main.scope, locals := mainNs, globals := mainNs, cells := [], code := .ref 30, frame := some 31 }
noncomputable def cE : Code := .body zDz zIf
noncomputable def zKm : Pos := ⟨0, 0, 0, 0⟩
noncomputable def S0 (w : World) (os : OsState) : Shared := ⟨⟨(hla w.params).toArray, {}⟩, #[], {}, 276, os⟩
noncomputable def Sp (w : World) (os : OsState) : SharedT := ⟨zF4 (hlp w.params), 32, {}, #[], {}, 282, os⟩
noncomputable def Sq (w : World) (os : OsState) : SharedT := ⟨zF4 (hlq w.params), 81, {}, #[], {}, 356, os⟩
set_option maxHeartbeats 0
end
section
set_option maxHeartbeats 0
noncomputable def Sb (w : World) (os : OsState) : SharedT := ⟨zF4 (hlb w.params), 99, {}, #[], {}, 423, os⟩
theorem zLr : segRunT treeTable = Fast.tw10110043849684766642 Fast.tw14364793385576792824 := by rw [Fast.te10110043849684766642, Fast.te14364793385576792824]
theorem zHp : execs = Fast.tw12563942051412417395 := Fast.te12563942051412417395
theorem yQi (w : World) (os : OsState) : segRunT treeTable pw w 28 (some (.ref 6)) 1 391 (Sp w os) (piecesOf (zDz.take 6) zIf cE zKm [topFrame zKm]) = some (.next, Sq w os, cE, ⟨53, 0, 53, 8⟩) := by
  unfold piecesOf
  rw [zLr, zHp]
  kernel_rfl
end
section
noncomputable abbrev B0 : List Frame := [topFrame zKm]
noncomputable abbrev zIk (a : Addr) : Bool := Nat.ble 28 a || a == mainNs || a == cStatics || (some (Value.ref 6)) == some (.ref a)
abbrev Seg (w : World) (n : Nat) (s : Shared) (t : Thread) (s' : Shared) (t' : Thread) : Prop := segGo treeTable pw w 28 (some (.ref 6)) 1 n s t = some (s', t')
def zWg (w : World) (n : Nat) (c : Code) (s : Shared) (r : Result) (s' : Shared) : Prop :=
  ∀ (k : Result -> Sem Fin) (h : Option Value) (g : Bool) (l : List Value) (p q : Pos) (kept : List Value), ∃ c' p' kept',
    Seg w n s ⟨denote treeTable c, c, p, .ret k h g l cE q kept :: B0⟩ s' ⟨(match r with | .ok f => .pure (.done f) | .error e => .raise e), c', p', .ret k h g l cE q kept' :: B0⟩
theorem Seg.nil {w : World} {s : Shared} {t : Thread} : Seg w 0 s t s t := rfl
theorem zM0 {w : World} : ∀ {n m : Nat} {s s1 s2 : Shared} {t t1 t2 : Thread}, Seg w n s t s1 t1 -> Seg w m s1 t1 s2 t2 -> Seg w (n + m) s t s2 t2 := by
  intro n
  induction n with
  | zero =>
    rintro m s s1 s2 t t1 t2 h k
    obtain ⟨rfl, rfl⟩ : s = s1 /\ t = t1 := by simpa [Seg, segGo] using h
    rw [Nat.zero_add]; exact k
  | succ n ih =>
    rintro m s s1 s2 t t1 t2 h k
    rw [show n + 1 + m = n + m + 1 by omega]
    unfold Seg segGo at h ⊢
    induction he : endAt 1 t with
    | some f => rw [he] at h; cases h
    | none =>
      rw [he] at h
      induction hk : stepOk 28 (some (.ref 6)) t with
      | false => rw [hk] at h; cases h
      | true =>
        rw [hk] at h
        induction hs : step (denote treeTable) pw w s t with
        | halt o s₂ => rw [hs] at h; cases h
        | go s₂ t₂ => rw [hs] at h; exact ih h k
theorem zFw {w : World} {n : Nat} {s s1 s2 : Shared} {t t1 t2 : Thread} (he : endAt 1 t = none) (hk : stepOk 28 (some (.ref 6)) t = true) (hs : step (denote treeTable) pw w s t = .go s1 t1) (k : Seg w n s1 t1 s2 t2) : Seg w (n + 1) s t s2 t2 := by
  unfold Seg segGo; rw [he, hk, hs]; exact k
def Big (w : World) {α : Type} (n : Nat) (x : Sem α) (s : Shared) (a : α) (s' : Shared) : Prop :=
  ∀ (K : α -> Sem Fin) (H : Value -> Sem Fin) (gd : Bool -> Bool) (lv : List Value -> List Value) (p : Pos), ∃ p', Seg w n s ⟨x.wrap K H gd lv, cE, p, B0⟩ s' ⟨K a, cE, p', B0⟩
section
variable {w : World} {α β : Type} {n m : Nat} {x y : Sem α} {s s1 s2 s' : Shared} {a : α} {b : β}
theorem Big.reach (h : Big w n x s a s') : ∀ (K : α -> Sem Fin) (H : Value -> Sem Fin) (gd : Bool -> Bool) (lv : List Value -> List Value) (p : Pos), ∃ p', Seg w n s ⟨x.wrap K H gd lv, cE, p, B0⟩ s' ⟨K a, cE, p', B0⟩ := h
theorem Big.go (h : Big w n y s1 a s') (k : ∀ K H gd lv p, ∃ p1, endAt 1 ⟨x.wrap K H gd lv, cE, p, B0⟩ = none /\ stepOk 28 (some (.ref 6)) ⟨x.wrap K H gd lv, cE, p, B0⟩ = true /\ step (denote treeTable) pw w s ⟨x.wrap K H gd lv, cE, p, B0⟩ = .go s1 ⟨y.wrap K H gd lv, cE, p1, B0⟩) : Big w (n + 1) x s a s' := by
  intro K H gd lv p
  obtain ⟨p1, k1, k2, k3⟩ := k K H gd lv p
  obtain ⟨p', h⟩ := h K H gd lv p1
  exact ⟨p', zFw k1 k2 k3 h⟩
theorem Big.pure : Big w 0 (.pure a) s a s := fun _ _ _ _ p => ⟨p, rfl⟩
theorem Big.rule {t : String} {k : Unit -> Sem α} (h : Big w n (k ()) s a s') : Big w (n + 1) (.rule t k) s a s' := h.go fun _ _ _ _ p => ⟨p, rfl, rfl, rfl⟩
theorem Big.at {q : Pos} {k : Unit -> Sem α} (h : Big w n (k ()) s a s') : Big w (n + 1) (.at q k) s a s' := h.go fun _ _ _ _ _ => ⟨q, rfl, rfl, rfl⟩
theorem Big.load {b : Addr} {q : Option Value} {k : Obj -> Sem α} {o : Obj} (ho : s.heap.get? b = some o) (h : Big w n (k o) s a s') : Big w (n + 1) (.load b q k) s a s' := h.go fun _ _ _ _ p => ⟨p, rfl, rfl, by simp only [Sem.wrap, step, ho]⟩
theorem Big.update {b : Addr} {q : Option Value} {f : Obj -> Obj} {k : Unit -> Sem α} {o : Obj} (ok : zIk b = true) (ho : s.heap.get? b = some o) (h : Big w n (k ()) { s with heap := s.heap.update b f } a s') : Big w (n + 1) (.update b q f k) s a s' :=
  h.go fun _ _ _ _ p => ⟨p, rfl, by show (true && _) = true; rw [Bool.true_and]; exact ok, by simp only [Sem.wrap, step, ho, Option.isSome_some, if_true]⟩
theorem Big.alloc {o : Obj} {k : Addr -> Sem α} (h : Big w n (k s.heap.objs.size) { s with heap := s.heap.push o } a s') : Big w (n + 1) (.alloc o k) s a s' := h.go fun _ _ _ _ p => ⟨p, rfl, rfl, rfl⟩
theorem Big.point {l : List Value} {k : Unit -> Sem α} (h : Big w n (k ()) s a s') : Big w (n + 1) (.point l k) s a s' := h.go fun _ _ _ _ p => ⟨p, rfl, rfl, rfl⟩
theorem Big.fresh {k : Tok -> Sem α} (h : Big w n (k s.toks) { s with toks := s.toks + 1 } a s') : Big w (n + 1) (.fresh k) s a s' := h.go fun _ _ _ _ p => ⟨p, rfl, rfl, rfl⟩
theorem Big.ask {k : Setting -> Sem α} (h : Big w n (k ⟨pw, w.params⟩) s a s') : Big w (n + 1) (.ask k) s a s' := h.go fun _ _ _ _ p => ⟨p, rfl, rfl, rfl⟩
theorem Big.call {c : Code} {h : Option Value} {g : Bool} {l : List Value} {k : Result -> Sem α} {r : Result} (hc : zWg w m c s r s1) (h0 : Big w n (k r) s1 a s') : Big w (m + (n + 1) + 1) (.call c h g l k) s a s' := by
  intro K H gd lv p
  have all : ∀ kept : List Value, ∃ p', Seg w (m + (n + 1)) s ⟨denote treeTable c, c, p, .ret (fun r => (k r).wrap K H gd lv) h (gd g) (lv l) cE p kept :: B0⟩ s' ⟨K a, cE, p', B0⟩ := by
    intro kept
    obtain ⟨c', p1, kept', h1⟩ := hc (fun r => (k r).wrap K H gd lv) h (gd g) (lv l) p p kept
    obtain ⟨p', h2⟩ := h0 K H gd lv p
    refine ⟨p', zM0 h1 ?_⟩
    induction r using Except.casesOn with
    | ok f => exact zFw rfl rfl rfl h2
    | error e => exact zFw rfl rfl rfl h2
  obtain ⟨p', h⟩ := all _
  exact ⟨p', zFw rfl rfl rfl h⟩
theorem Big.cast (h : Big w n x s a s') (e : n = m) : Big w m x s a s' := e ▸ h
theorem Big.bind {f : α -> Sem β} (h : Big w n x s a s1) (k : Big w m (f a) s1 b s2) : Big w (n + m) (x.bind f) s b s2 := by
  intro K H gd lv p
  obtain ⟨p1, h⟩ := h (fun a => (f a).wrap K H gd lv) H gd lv p
  obtain ⟨p', k⟩ := k K H gd lv p1
  rw [Sem.bind_eq_wrap, Sem.wrap_wrap]
  exact ⟨p', zM0 h k⟩
theorem Big.keep {vs : List Value} (h : Big w n x s a s1) : Big w n (x.keep vs) s a s1 := by
  intro K H gd lv p
  rw [Sem.keep_eq_wrap, Sem.wrap_wrap]
  exact h K _ _ _ p
theorem Big.holding {vs : List Value} (h : Big w n x s a s1) : Big w n (holding vs x) s a s1 := by
  unfold PySem.holding
  split
  . exact h
  . exact h.keep
theorem Big.tryCatch {f : Value -> Sem α} (h : Big w n x s a s1) : Big w n (x.tryCatch f) s a s1 := by
  intro K H gd lv p
  rw [Sem.tryCatch_eq_wrap, Sem.wrap_wrap]
  exact h K _ _ _ p
theorem Big.onRaise {f : Value -> Sem Unit} (h : Big w n x s a s1) : Big w n (x.onRaise f) s a s1 := by
  intro K H gd lv p
  rw [Sem.onRaise_eq_wrap, Sem.wrap_wrap]
  exact h K _ _ _ p
end
end
section
set_option maxHeartbeats 0
theorem zLo (k : Int) (t : Tok) : denote treeTable (.call (.builtin "int.__hash__") ⟨[.int k t], []⟩) = .pure (.again (.builtin "int.__hash__" ⟨[.int k t], []⟩)) := by
  rw [Fast.te11892475500146522536, Fast.te14364793385576792824]; kernel_rfl
theorem zZe (k : Int) (t : Tok) : denote treeTable (.builtin "int.__hash__" ⟨[.int k t], []⟩) = .fresh fun tk => .pure (.done (.ret (.int (rawHash k) tk))) := by
  rw [Fast.te11892475500146522536, Fast.te14364793385576792824]; kernel_rfl
theorem zQi (w : World) (k : Int) (t : Tok) (s : Shared) : zWg w 2 (.call (.builtin "int.__hash__") ⟨[.int k t], []⟩) s (.ok (.ret (.int (rawHash k) s.toks))) { s with toks := s.toks + 1 } := by
  intro K h g l p q kept
  obtain ⟨heap, gens, drawn, toks, os⟩ := s
  rw [zLo]
  refine ⟨.builtin "int.__hash__" ⟨[.int k t], []⟩, p, keptBy (.call (.builtin "int.__hash__") ⟨[.int k t], []⟩) (.builtin "int.__hash__" ⟨[.int k t], []⟩) l kept, ?_⟩
  refine zFw (n := 1) rfl (by kernel_rfl) step_again ?_
  rw [zZe]
  exact zFw rfl rfl rfl rfl
section
variable {w : World}
def G1 {α : Type} (w : World) (c : Nat) (x : Sem α) (Q : α -> Shared -> Prop) (s : Shared) : Prop := ∃ a s' n, n <= c /\ Big w n x s a s' /\ Q a s'
variable {α β : Type} {s : Shared} {c c' : Nat}
theorem G1.le {x : Sem α} {Q : α -> Shared -> Prop} (h : G1 w c x Q s) (e : c <= c') : G1 w c' x Q s := by
  obtain ⟨a, s', n, l, b, q⟩ := h; exact ⟨a, s', n, Nat.le_trans l e, b, q⟩
theorem G1.pure {a : α} {Q : α -> Shared -> Prop} (h : Q a s) : G1 w 0 (pure a) Q s := ⟨a, s, 0, Qo _, .pure, h⟩
theorem G1.bind {x : Sem α} {f : α -> Sem β} {Q : β -> Shared -> Prop} (h : G1 w c x (fun a s' => G1 w c' (f a) Q s') s) : G1 w (c + c') (x >>= f) Q s := by
  obtain ⟨a, s1, n, l1, h1, b, s2, m, l2, h2, q⟩ := h; exact ⟨b, s2, n + m, Nat.add_le_add l1 l2, h1.bind h2, q⟩
theorem G1.pureE {a a' : α} {Q : α -> Shared -> Prop} (e : a = a') (h : Q a' s) : G1 w 0 (Pure.pure a) Q s := by subst e; exact .pure h
theorem G1.ifF {b : Bool} (hb : b = false) {t e : Sem α} {Q : α -> Shared -> Prop} (h : G1 w c e Q s) : G1 w c (if b = true then t else e) Q s := by subst hb; exact h
theorem G1.ifT {t e : Sem α} {Q : α -> Shared -> Prop} (h : G1 w c t Q s) : G1 w c (if true = true then t else e) Q s := h
theorem G1.mono {x : Sem α} {Q Q' : α -> Shared -> Prop} (h : G1 w c x Q s) (k : ∀ a s', Q a s' -> Q' a s') : G1 w c x Q' s := by
  obtain ⟨a, s1, n, l, h1, q⟩ := h; exact ⟨a, s1, n, l, h1, k _ _ q⟩
theorem G1.holding {vs : List Value} {x : Sem α} {Q : α -> Shared -> Prop} (h : G1 w c x Q s) : G1 w c (holding vs x) Q s := by
  obtain ⟨a, s1, n, l, h1, q⟩ := h; exact ⟨a, s1, n, l, h1.holding, q⟩
theorem G1.tryCatch {x : Sem α} {f : Value -> Sem α} {Q : α -> Shared -> Prop} (h : G1 w c x Q s) : G1 w c (tryCatch x f) Q s := by
  obtain ⟨a, s1, n, l, h1, q⟩ := h; exact ⟨a, s1, n, l, h1.tryCatch, q⟩
theorem G1.onRaise {x : Sem α} {f : Value -> Sem Unit} {Q : α -> Shared -> Prop} (h : G1 w c x Q s) : G1 w c (x.onRaise f) Q s := by
  obtain ⟨a, s1, n, l, h1, q⟩ := h; exact ⟨a, s1, n, l, h1.onRaise, q⟩
theorem G1.rule {t : String} {Q : Unit -> Shared -> Prop} (h : Q () s) : G1 w 1 (rule t) Q s := ⟨_, _, 1, Qo _, .rule .pure, h⟩
theorem G1.standAt {p : Pos} {Q : Unit -> Shared -> Prop} (h : Q () s) : G1 w 1 (standAt p) Q s := ⟨_, _, 1, Qo _, .at .pure, h⟩
theorem G1.point {Q : Unit -> Shared -> Prop} (h : Q () s) : G1 w 1 point Q s := ⟨_, _, 1, Qo _, .point .pure, h⟩
theorem G1.load {a : Addr} {o : Obj} {Q : Obj -> Shared -> Prop} (ho : s.heap.get? a = some o) (h : Q o s) : G1 w 1 (load a) Q s := ⟨_, _, 1, Qo _, .load ho .pure, h⟩
theorem G1.loadPart {a : Addr} {q : Option Value} {o : Obj} {Q : Obj -> Shared -> Prop} (ho : s.heap.get? a = some o) (h : Q o s) : G1 w 1 (loadPart a q) Q s := ⟨_, _, 1, Qo _, .load ho .pure, h⟩
theorem G1.updatePart {a : Addr} {q : Option Value} {f : Obj -> Obj} {o : Obj} {Q : Unit -> Shared -> Prop} (ok : zIk a = true) (ho : s.heap.get? a = some o) (h : Q () { s with heap := s.heap.update a f }) : G1 w 1 (updatePart a q f) Q s := ⟨_, _, 1, Qo _, .update ok ho .pure, h⟩
theorem G1.alloc {o : Obj} {Q : Addr -> Shared -> Prop} (h : Q s.heap.objs.size { s with heap := s.heap.push o }) : G1 w 1 (alloc o) Q s := ⟨_, _, 1, Qo _, .alloc .pure, h⟩
theorem G1.fresh {Q : Tok -> Shared -> Prop} (h : Q s.toks { s with toks := s.toks + 1 }) : G1 w 1 fresh Q s := ⟨_, _, 1, Qo _, .fresh .pure, h⟩
theorem G1.ask {Q : Setting -> Shared -> Prop} (h : Q ⟨pw, w.params⟩ s) : G1 w 1 ask Q s := ⟨_, _, 1, Qo _, .ask .pure, h⟩
theorem G1.of_eq {x y : Sem α} {Q : α -> Shared -> Prop} (e : x = y) (h : G1 w c y Q s) : G1 w c x Q s := by rw [e]; exact h
theorem G1.specialOf {v : Value} {T : String} {x : Str} {r : Option Value} {Q : Option Value -> Shared -> Prop} (hT : typeOf v = PySem.Sem.pure (.type T)) (hl : typeLookup (.type T) x = Pure.pure r) (h : Q r s) : G1 w 0 (specialOf v x) Q s := by
  unfold PySem.specialOf
  refine G1.bind (c := 0) (c' := 0) ?_
  rw [hT]
  exact .pure (.of_eq hl (.pure h))
theorem G1.call_ret {f : Value} {pos : List Value} {v : Value} {s1 : Shared} {Q : Value -> Shared -> Prop} {n : Nat} (hc : zWg w n (.call f ⟨pos, []⟩) s (.ok (.ret v)) s1) (h : Q v s1) : G1 w (n + (0 + 1) + 1) (call f pos) Q s :=
  ⟨_, _, _, Qo _, .call hc .pure, h⟩
theorem zP9 {k : Int} {t : Tok} {Q : Option Value -> Shared -> Prop} (h : Q (some (.builtin "int.__hash__")) s) : G1 w 0 (PySem.specialOf (.int k t) "__hash__") Q s := .specialOf rfl slot_int_hash.lookup h
theorem zWe {k : Int} {t : Tok} {Q : Option (Value × List Value) -> Shared -> Prop} (h : Q (some (.builtin "int.__hash__", [.int k t])) s) : G1 w 1 (bindSpecialIfBound? (.int k t) "__hash__") Q s := by
  unfold bindSpecialIfBound?
  refine G1.bind (c := 0) (c' := 1) (zP9 ?_)
  dsimp only
  have bs : bindSpecial (.builtin "int.__hash__") (.int k t) = Pure.pure (.builtin "int.__hash__", [.int k t]) := by kernel_rfl
  refine G1.bind (c := 1) (c' := 0) (.ask ?_)
  rw [bs]
  split
  . exact G1.bind (c := 0) (c' := 0) (.pure (.pure h))
  . exact .tryCatch (G1.bind (c := 0) (c' := 0) (.pure (.pure h)))
theorem zQe {k : Int} {t : Tok} {y : Sem Value} {Q : Option Value -> Shared -> Prop} (h : Q (some (.int (rawHash k) s.toks)) { s with toks := s.toks + 1 }) : G1 w 5 (callSpecialIfBoundUnlessNone? (.int k t) "__hash__" y) Q s := by
  unfold callSpecialIfBoundUnlessNone?
  refine .holding (G1.bind (c := 1) (c' := 4) (zWe ?_))
  dsimp only
  rw [if_neg (by decide)]
  exact G1.bind (c := 4) (c' := 0) (.call_ret (zQi w k t s) (.pure h))
theorem G1.pyHash_int {k : Int} {t : Tok} {Q : Int -> Shared -> Prop} (h : Q (hashInt k) { s with toks := s.toks + 1 }) : G1 w 5 (pyHash (.int k t)) Q s := by
  have hr := rawHash_range k
  show G1 w 5 (pyHashByItsType (.int k t)) Q s
  unfold pyHashByItsType
  refine G1.bind (c := 0) (c' := 5) (.of_eq (y := Pure.pure ()) rfl (.pure ?_))
  refine G1.bind (c := 0) (c' := 5) (zP9 ?_)
  dsimp only
  rw [if_neg (by decide)]
  refine G1.bind (c := 0) (c' := 5) (zP9 (G1.bind (c := 5) (c' := 0) (zQe ?_)))
  show G1 w 0 (if (decide (-(2 : Int) ^ 63 <= rawHash k) && decide (rawHash k < 2 ^ 63)) = true then _ else _) Q _
  rw [if_pos (by rw [decide_eq_true hr.1, decide_eq_true hr.2]; rfl)]
  exact .pure h
def zSe (es : Array DictEntry) (h : Int) : Prop := ∀ e ∈ es, e.hash ≠ h
theorem zPt {es : Array DictEntry} {h : Int} (hn : zSe es h) : placesWithHash es.size (fun i => es[i]?.map (·.hash)) h = [] := by
  unfold placesWithHash
  rw [List.filter_eq_nil_iff]
  intro i hi
  simp only [beq_iff_eq, Option.map_eq_some_iff, not_exists, not_and]
  intro x e
  exact hn x (Array.mem_of_getElem? e)
theorem G1.dictFind_none {d : Addr} {k : Int} {t : Tok} {es : Array DictEntry} {ep : Nat} {o : Obj} {h : Int} {Q : Option Nat -> Shared -> Prop} (ho : s.heap.get? d = some o) (hd : o.data = .dict es ep) (hn : zSe es h) (hQ : Q none s) :
    G1 w 1 (dictFind d (.int k t) h) Q s := by
  unfold dictFind
  refine .holding (G1.bind (c := 1) (c' := 0) ?_)
  unfold dictEntries
  refine G1.bind (c := 1) (c' := 0) (.loadPart ho ?_)
  rw [hd]
  refine .pure ?_
  dsimp only
  rw [zPt hn]
  rw [if_pos (by rfl)]
  unfold dictWalkPlain
  rw [List.forIn_nil]
  exact G1.bind (c := 0) (c' := 0) (.pure (.pure hQ))
theorem zN7 (es : Array DictEntry) (n : Nat) (f : Array DictEntry -> Array DictEntry) : Obj.mapDictKeys f ⟨.type "dict", none, .dict es n, #[]⟩ = ⟨.type "dict", none, .dict (f es) (n + 1), #[]⟩ := rfl
theorem G1.updateKeys {d : Addr} {es : Array DictEntry} {n : Nat} {e : DictEntry} {q : Option Value} {Q : Unit -> Shared -> Prop} (ok : zIk d = true) (ho : s.heap.get? d = some (dO es n)) (hz : es.size + 1 <= sizeLine)
    (hQ : Q () { s with heap := s.heap.update d (Obj.mapDictKeys (·.push e)) }) : G1 w 3 (updateDictKeys d (·.push e) q) Q s := by
  unfold updateDictKeys
  refine G1.bind (c := 1) (c' := 2) (.loadPart ho ?_)
  dsimp only
  refine G1.bind (c := 1) (c' := 1) (.updatePart ok ho ?_)
  have g2 := Heap.get?_update_self (Obj.mapDictKeys (·.push e)) ho (by rfl)
  rw [zN7] at g2
  unfold lookBehind
  refine G1.bind (c := 1) (c' := 0) (.loadPart g2 ?_)
  rw [pastItsLine_dict (by simp; omega)]
  exact .pure hQ
theorem G1.dictSet_new {d : Addr} {k : Int} {t : Tok} {v : Value} {es : Array DictEntry} {n : Nat} {Q : Unit -> Shared -> Prop} (ok : zIk d = true) (ho : s.heap.get? d = some (dO es n)) (hn : zSe es (hashInt k)) (hz : es.size + 1 <= sizeLine)
    (hQ : Q () { s with toks := s.toks + 1, heap := s.heap.update d (Obj.mapDictKeys (·.push ⟨hashInt k, .int k t, v⟩)) }) : G1 w 10 (dictSet d (.int k t) v) Q s := by
  unfold dictSet
  refine .holding (G1.bind (c := 5) (c' := 5) (.pyHash_int ?_))
  unfold dictSetHashed
  refine .holding (G1.bind (c := 1) (c' := 4) (.dictFind_none (s := { s with toks := s.toks + 1 }) ho rfl hn ?_))
  dsimp only
  exact G1.bind (c := 1) (c' := 3) (.rule (.updateKeys (s := { s with toks := s.toks + 1 }) ok ho hz hQ))
theorem G1.dictPut_new {d : Addr} {k : Int} {t : Tok} {v : Value} {h : Int} {es : Array DictEntry} {n : Nat} {Q : Unit -> Shared -> Prop} (ok : zIk d = true) (ho : s.heap.get? d = some (dO es n)) (hn : zSe es h) (hz : es.size + 1 <= sizeLine)
    (hQ : Q () { s with heap := s.heap.update d (Obj.mapDictKeys (·.push ⟨h, .int k t, v⟩)) }) : G1 w 4 (dictPut d h (.int k t) v) Q s := by
  unfold dictPut
  refine G1.bind (c := 1) (c' := 3) (.dictFind_none ho rfl hn ?_)
  exact .updateKeys ok ho hz hQ
end
end
section
set_option maxHeartbeats 0
noncomputable def zX8 : Nat -> List (Int × Str) -> List DictEntry
  | _, [] => []
  | t, (k, x) :: r => ⟨hashInt k, .int k t, .str x (t + 1)⟩ :: zX8 (t + 3) r
noncomputable def zT0 : Nat -> List (Int × Str) -> List DictEntry
  | _, [] => []
  | t, (k, x) :: r => ⟨hashInt k, .int k t, .str x (t + 1)⟩ :: zT0 (t + 2) r
noncomputable def grp (t : Nat) (l : List (Int × Str)) : List DictEntry := if l.length <= 15 then zT0 t l else zX8 t l
theorem zRx : ∀ (t : Nat) (l : List (Int × Str)), (zX8 t l).length = l.length
  | _, [] => rfl
  | t, _ :: r => by simp [zX8, zRx (t + 3) r]
theorem zQ8 : ∀ (t : Nat) (l : List (Int × Str)), (zT0 t l).length = l.length
  | _, [] => rfl
  | t, _ :: r => by simp [zT0, zQ8 (t + 2) r]
theorem zJw (t : Nat) (l : List (Int × Str)) : (grp t l).length = l.length := by unfold grp; split; exact zQ8 _ _; exact zRx _ _
theorem zI9 : ∀ {t : Nat} {l : List (Int × Str)} {e : DictEntry}, e ∈ zX8 t l -> ∃ p ∈ l, e.hash = hashInt p.1 /\ ∃ tk, e.key = .int p.1 tk
  | _, [], _, h => by cases h
  | t, (k, x) :: r, e, h => by
    rcases Qy.mp h with rfl | h
    . exact ⟨_, .head _, rfl, _, rfl⟩
    . obtain ⟨p, m, q⟩ := zI9 h; exact ⟨p, .tail _ m, q⟩
theorem zJ8 : ∀ {t : Nat} {l : List (Int × Str)} {e : DictEntry}, e ∈ zT0 t l -> ∃ p ∈ l, e.hash = hashInt p.1 /\ ∃ tk, e.key = .int p.1 tk
  | _, [], _, h => by cases h
  | t, (k, x) :: r, e, h => by
    rcases Qy.mp h with rfl | h
    . exact ⟨_, .head _, rfl, _, rfl⟩
    . obtain ⟨p, m, q⟩ := zJ8 h; exact ⟨p, .tail _ m, q⟩
theorem zQn {t : Nat} {l : List (Int × Str)} {e : DictEntry} (h : e ∈ grp t l) : ∃ p ∈ l, e.hash = hashInt p.1 /\ ∃ tk, e.key = .int p.1 tk := by
  unfold grp at h; split at h; exact zJ8 h; exact zI9 h
noncomputable abbrev lD (es : List DictEntry) : Obj := ⟨.type "dict", none, .dict es.toArray es.length, #[]⟩
theorem zP8 (es : List DictEntry) (e : DictEntry) : Obj.mapDictKeys (·.push e) (lD es) = lD (es ++ [e]) := by simp [Obj.mapDictKeys, lD]
structure zOz (a : Addr) (put : Obj -> Heap) : Prop where
  ok : zIk a = true
  get : ∀ es : List DictEntry, (put (lD es)).get? a = some (lD es)
  up : ∀ o f, (put o).update a f = put (f o)
def yCn (w : World) (q : Int × Str) (p : Sem Value × Sem Value) : Prop :=
  (∀ (s : Shared) (Q : Value -> Shared -> Prop), Q (.int q.1 s.toks) { s with toks := s.toks + 1 } -> G1 w 5 p.1 Q s) /\
  (∀ (s : Shared) (Q : Value -> Shared -> Prop), Q (.str q.2 s.toks) { s with toks := s.toks + 1 } -> G1 w 5 p.2 Q s)
inductive zGl (w : World) : List (Int × Str) -> List (Sem Value × Sem Value) -> Prop
  | nil : zGl w [] []
  | cons {q : Int × Str} {p : Sem Value × Sem Value} {l : List (Int × Str)} {r : List (Sem Value × Sem Value)} : yCn w q p -> zGl w l r -> zGl w (q :: l) (p :: r)
theorem zGl.length {w : World} {l : List (Int × Str)} {r : List (Sem Value × Sem Value)} (h : zGl w l r) : r.length = l.length := by
  induction h with
  | nil => rfl
  | cons _ _ ih => simp [ih]
theorem zGl.append {w : World} {l l' : List (Int × Str)} {r r' : List (Sem Value × Sem Value)} (h : zGl w l r) (h' : zGl w l' r') : zGl w (l ++ l') (r ++ r') := by
  induction h with
  | nil => exact h'
  | cons a _ ih => exact .cons a ih
def zFe (l : List Int) : Prop := l.Pairwise fun a b => hashInt a ≠ hashInt b
theorem zQz {es : List DictEntry} {ks : List (Int × Str)} {k : Int} (he : ∀ e ∈ es, ∃ p ∈ ks, e.hash = hashInt p.1) (ha : ∀ p ∈ ks, hashInt p.1 ≠ hashInt k) : zSe es.toArray (hashInt k) := by
  intro e m
  obtain ⟨p, mp, hp⟩ := he e (by simpa using m)
  rw [hp]; exact ha p mp
section
variable {w : World}
theorem zU9 {a : Addr} {put : Obj -> Heap} (P : zOz a put) {Q : PUnit -> Shared -> Prop} {f : (Sem Value × Sem Value) -> PUnit -> Sem (ForInStep PUnit)}
    (hf : ∀ p u, f p u = (do let kv ← p.1; let vv ← holding [kv] p.2; holding [kv, vv] (dictSet a kv vv); pure (.yield ⟨⟩))) :
    ∀ {l : List (Int × Str)} {r : List (Sem Value × Sem Value)} (h : zGl w l r) (ks : List (Int × Str)) (es : List DictEntry) (s : Shared), s.heap = put (lD es) -> (∀ e ∈ es, ∃ p ∈ ks, e.hash = hashInt p.1) ->
      zFe ((ks ++ l).map (·.1)) -> es.length + l.length <= 1000 ->
      Q ⟨⟩ { s with heap := put (lD (es ++ zX8 s.toks l)), toks := s.toks + 3 * l.length } -> G1 w (20 * l.length) (forIn r ⟨⟩ f) Q s := by
  intro l r h
  induction h with
  | nil =>
    intro ks es s hh hes ap hz hQ
    rw [List.forIn_nil]
    refine .pure ?_
    simp only [zX8, List.append_nil, List.length_nil, Nat.mul_zero, Nat.add_zero] at hQ
    rw [← hh] at hQ; exact hQ
  | cons hp _ ih =>
    rename_i q p l r _
    intro ks es s hh hes ap hz hQ
    rw [List.forIn_cons, hf]
    refine G1.le (c := (5 + (5 + (10 + 0))) + 20 * l.length) ?_ (by simp only [Qh]; omega)
    refine .bind (.bind (hp.1 _ _ (.bind (.holding (hp.2 _ _ (.bind (.holding ?_)))))))
    have apk : ∀ p' ∈ ks, hashInt p'.1 ≠ hashInt q.1 := by
      intro p' m
      unfold zFe at ap
      rw [Qt, List.pairwise_append] at ap
      exact ap.2.2 _ (Qq.mpr ⟨p', m, rfl⟩) _ (Qq.mpr ⟨q, .head _, rfl⟩)
    refine .dictSet_new (s := { s with toks := s.toks + 1 + 1 }) P.ok (by show s.heap.get? a = _; rw [hh]; exact P.get es) (zQz hes apk) (by rw [List.size_toArray, sizeLine_eq]; simp at hz; omega) ?_
    refine .pure ?_
    dsimp only
    refine ih (ks ++ [q]) (es ++ [⟨hashInt q.1, .int q.1 s.toks, .str q.2 (s.toks + 1)⟩]) _ ?_ ?_ (by simpa using ap) (by simp at hz ⊢; omega) ?_
    . show s.heap.update a _ = _
      rw [hh, P.up, zP8]
    . intro e m
      rcases Qs.mp m with m | m
      . obtain ⟨p', mp, hp'⟩ := hes e m; exact ⟨p', Qu _ mp, hp'⟩
      . rw [Qr] at m; subst m; exact ⟨q, by simp, rfl⟩
    . show Q ⟨⟩ _
      rw [Qj]
      have e1 : s.toks + 1 + 1 + 1 + 3 * l.length = s.toks + 3 * (q :: l).length := by simp only [Qh]; omega
      have e2 : zX8 s.toks (q :: l) = ⟨hashInt q.1, .int q.1 s.toks, .str q.2 (s.toks + 1)⟩ :: zX8 (s.toks + 3) l := rfl
      rw [e2] at hQ
      rw [e1]
      exact hQ
theorem zO7 {Q : List (Value × Value) -> Shared -> Prop} : ∀ {l : List (Int × Str)} {r : List (Sem Value × Sem Value)} (h : zGl w l r) (s : Shared) (Q : List (Value × Value) -> Shared -> Prop),
    Q ((zT0 s.toks l).map fun e => (e.key, e.val)) { s with toks := s.toks + 2 * l.length } -> G1 w (10 * l.length) (evalPairs r) Q s := by
  intro l r h
  induction h with
  | nil => intro s Q hQ; exact .pure hQ
  | cons hp _ ih =>
    rename_i q p l r _
    intro s Q hQ
    obtain ⟨p1, p2⟩ := p
    unfold evalPairs
    refine G1.le (c := 5 + (5 + (10 * l.length + 0))) ?_ (by simp only [Qh]; omega)
    refine .bind (hp.1 _ _ (.bind (.holding (hp.2 _ _ (.bind (.holding (ih _ _ ?_)))))))
    refine .pure ?_
    have e1 : s.toks + 1 + 1 + 2 * l.length = s.toks + 2 * (q :: l).length := by simp only [Qh]; omega
    show Q _ _
    rw [e1]; exact hQ
theorem zS2 {a : Addr} {put : Obj -> Heap} (P : zOz a put) {Q : PUnit -> Shared -> Prop} {f : (Value × Value) -> PUnit -> Sem (ForInStep PUnit)}
    (hf : ∀ p u, f p u = (do dictSet a p.1 p.2; pure (.yield ⟨⟩))) :
    ∀ (l : List (Int × Str)) (ks : List (Int × Str)) (es : List DictEntry) (t : Nat) (s : Shared), s.heap = put (lD es) -> (∀ e ∈ es, ∃ p ∈ ks, e.hash = hashInt p.1) ->
      zFe ((ks ++ l).map (·.1)) -> es.length + l.length <= 1000 ->
      Q ⟨⟩ { s with heap := put (lD (es ++ zT0 t l)), toks := s.toks + l.length } -> G1 w (10 * l.length) (forIn ((zT0 t l).map fun e => (e.key, e.val)) ⟨⟩ f) Q s := by
  intro l
  induction l with
  | nil =>
    intro ks es t s hh hes ap hz hQ
    show G1 w 0 (forIn [] _ _) _ _
    rw [List.forIn_nil]
    refine .pure ?_
    simp only [zT0, List.append_nil, List.length_nil, Nat.add_zero] at hQ
    rw [← hh] at hQ; exact hQ
  | cons q l ih =>
    intro ks es t s hh hes ap hz hQ
    show G1 w _ (forIn ((Value.int q.1 t, Value.str q.2 (t + 1)) :: (zT0 (t + 2) l).map fun e => (e.key, e.val)) _ _) _ _
    rw [List.forIn_cons, hf]
    refine G1.le (c := (10 + 0) + 10 * l.length) ?_ (by simp only [Qh]; omega)
    have apk : ∀ p' ∈ ks, hashInt p'.1 ≠ hashInt q.1 := by
      intro p' m
      unfold zFe at ap
      rw [Qt, List.pairwise_append] at ap
      exact ap.2.2 _ (Qq.mpr ⟨p', m, rfl⟩) _ (Qq.mpr ⟨q, .head _, rfl⟩)
    refine .bind (.bind (.dictSet_new P.ok (by rw [hh]; exact P.get es) (zQz hes apk) (by rw [List.size_toArray, sizeLine_eq]; simp at hz; omega) ?_))
    refine .pure ?_
    dsimp only
    refine ih (ks ++ [q]) (es ++ [⟨hashInt q.1, .int q.1 t, .str q.2 (t + 1)⟩]) (t + 2) _ ?_ ?_ (by simpa using ap) (by simp at hz ⊢; omega) ?_
    . show s.heap.update a _ = _
      rw [hh, P.up, zP8]
    . intro e m
      rcases Qs.mp m with m | m
      . obtain ⟨p', mp, hp'⟩ := hes e m; exact ⟨p', Qu _ mp, hp'⟩
      . rw [Qr] at m; subst m; exact ⟨q, by simp, rfl⟩
    . show Q ⟨⟩ _
      rw [Qj]
      have e1 : s.toks + 1 + l.length = s.toks + (q :: l).length := by simp only [Qh]; omega
      have e2 : zT0 t (q :: l) = ⟨hashInt q.1, .int q.1 t, .str q.2 (t + 1)⟩ :: zT0 (t + 2) l := rfl
      rw [e2] at hQ
      rw [e1]
      exact hQ
theorem zOp {put : Obj -> Heap} {l : List (Int × Str)} {r : List (Sem Value × Sem Value)} (h : zGl w l r) {s : Shared} {Q : Addr -> Shared -> Prop} (P : zOz s.heap.objs.size put) (hpush : s.heap.push (lD []) = put (lD []))
    (ap : zFe (l.map (·.1))) (hz : l.length <= 1000) (hQ : Q s.heap.objs.size { s with heap := put (lD (grp s.toks l)), toks := s.toks + 3 * l.length }) : G1 w (20 * l.length + 10) (subDict r) Q s := by
  unfold subDict
  refine G1.le (c := 1 + ((20 * l.length + 1) + 0)) ?_ (by omega)
  refine .bind (.alloc ?_)
  refine .bind (.holding ?_)
  have e0 : s.heap.push { cls := .type "dict", data := .dict #[] } = put (lD []) := hpush
  rw [e0, h.length]
  unfold grp at hQ
  split
  . rename_i hs
    rw [if_pos hs] at hQ
    refine G1.le (c := 10 * l.length + (10 * l.length + 0)) ?_ (by omega)
    refine .bind (zO7 (Q := fun _ _ => True) h _ _ (.holding ?_))
    refine .bind (zS2 P (fun _ _ => rfl) l [] [] s.toks { s with heap := put (lD []), toks := s.toks + 2 * l.length } rfl (by simp) (by simpa using ap) (by simpa using hz) ?_)
    refine .pure (.pure ?_)
    have e1 : s.toks + 2 * l.length + l.length = s.toks + 3 * l.length := by omega
    show Q _ _
    rw [e1]; exact hQ
  . rename_i hs
    rw [if_neg hs] at hQ
    refine G1.le (c := 1 + (20 * l.length + 0)) ?_ (by omega)
    refine .bind (.rule ?_)
    refine .bind (zU9 P (fun _ _ => rfl) h [] [] { s with heap := put (lD []) } rfl (by simp) (by simpa using ap) (by simpa using hz) ?_)
    exact .pure (.pure hQ)
end
end
section
set_option maxHeartbeats 0
noncomputable def hp (b : Heap) (o : Obj) (l : List Obj) : Heap := ⟨b.objs ++ (o :: l).toArray, b.life⟩
theorem zVk {α : Type} (xs : Array α) (x : α) (ys : List α) (f : α -> α) : (xs ++ (x :: ys).toArray).modify xs.size f = xs ++ (f x :: ys).toArray := by
  apply Array.ext_getElem?
  intro i
  rw [Array.getElem?_modify]
  simp only [Array.getElem?_append, List.getElem?_toArray]
  by_cases h : i < xs.size
  . have : xs.size ≠ i := by omega
    simp [h, this]
  . by_cases e : xs.size = i
    . subst e; simp
    . have : i - xs.size ≠ 0 := by omega
      obtain ⟨j, hj⟩ := Nat.exists_eq_succ_of_ne_zero this
      simp [h, e, hj]
theorem yDn (b : Heap) (o x : Obj) (l : List Obj) : (hp b o l).push x = hp b o (l ++ [x]) := by
  show Heap.mk _ _ = Heap.mk _ _
  congr 1
  apply Array.toList_inj.mp
  simp
theorem yAd (b : Heap) (o : Obj) : b.push o = hp b o [] := by
  show Heap.mk _ _ = Heap.mk _ _
  congr 1
theorem zWo (b : Heap) (o : Obj) (l : List Obj) : (hp b o l).objs.size = b.objs.size + 1 + l.length := by
  simp [hp]; omega
theorem yPp (b : Heap) (o : Obj) (l : List Obj) (f : Obj -> Obj) : (hp b o l).update b.objs.size f = hp b (f o) l := by
  show Heap.mk _ _ = Heap.mk _ _
  congr 1
  exact zVk _ _ _ _
theorem yM5 (b : Heap) (o x : Obj) (l : List Obj) (f : Obj -> Obj) : (hp b o (l ++ [x])).update (b.objs.size + 1 + l.length) f = hp b o (l ++ [f x]) := by
  show Heap.mk _ _ = Heap.mk _ _
  congr 1
  have e : ∀ y, b.objs ++ (o :: (l ++ [y])).toArray = (b.objs ++ (o :: l).toArray) ++ (y :: []).toArray := by
    intro y; apply Array.toList_inj.mp; simp
  have sz : b.objs.size + 1 + l.length = (b.objs ++ (o :: l).toArray).size := by simp; omega
  rw [e, e, sz]
  exact zVk _ _ _ _
theorem yPv (b : Heap) (o : Obj) (l : List Obj) (ho : o.isFreed = false) : (hp b o l).get? b.objs.size = some o := by
  unfold Heap.get? hp
  have : (b.objs ++ (o :: l).toArray)[b.objs.size]? = some o := by simp
  rw [this]
  obtain ⟨c, d, dt, sl⟩ := o
  cases dt <;> first | rfl | cases ho
theorem yCf (b : Heap) (o x : Obj) (l l' : List Obj) (ho : x.isFreed = false) : (hp b o (l ++ x :: l')).get? (b.objs.size + 1 + l.length) = some x := by
  unfold Heap.get? hp
  have : (b.objs ++ (o :: (l ++ x :: l')).toArray)[b.objs.size + 1 + l.length]? = some x := by
    rw [Array.getElem?_append, if_neg (by omega), List.getElem?_toArray]
    have : b.objs.size + 1 + l.length - b.objs.size = l.length + 1 := by omega
    rw [this, List.getElem?_cons_succ, List.getElem?_append, if_neg (by omega)]
    simp
  rw [this]
  obtain ⟨c, d, dt, sl⟩ := x
  cases dt <;> first | rfl | cases ho
theorem zNu (b : Heap) (l : List Obj) (h : 28 <= b.objs.size) : zOz b.objs.size fun o => hp b o l :=
  ⟨by simp only [zIk, Bool.or_eq_true]; left; left; left; exact Nat.ble_eq_true_of_le h, fun es => yPv b _ l rfl, fun o f => yPp b o l f⟩
theorem zW7 (b : Heap) (o : Obj) (l : List Obj) (h : 28 <= b.objs.size) : zOz (hp b o l).objs.size fun x => hp b o (l ++ [x]) := by
  rw [zWo]
  exact ⟨by simp only [zIk, Bool.or_eq_true]; left; left; left; exact Nat.ble_eq_true_of_le (by omega), fun es => yCf b o _ l [] rfl, fun x f => yM5 b o x l f⟩
section
variable {w : World}
theorem G1.isInstance_dict {a : Addr} {o : Obj} {s : Shared} {Q : Bool -> Shared -> Prop} (ho : s.heap.get? a = some o) (hc : o.cls = .type "dict") (h : Q true s) : G1 w 1 (isInstance (.ref a) (.type "dict")) Q s := by
  unfold isInstance typeOf
  refine G1.bind (c := 1 + 0) (c' := 0) (.bind (.loadPart ho ?_))
  rw [hc]
  refine .pure (.of_eq (y := Pure.pure true) ?_ (.pure h))
  rw [isSubtype_type]; kernel_rfl
theorem zSx {a c : Addr} {put : Obj -> Heap} (P : zOz a put) {es' : List DictEntry} (hc : ∀ o, (put o).get? c = some (lD es')) {l : List (Int × Str)} (hl : ∀ e ∈ es', ∃ p ∈ l, e.hash = hashInt p.1 /\ ∃ tk, e.key = .int p.1 tk)
    {Q : PUnit -> Shared -> Prop} {f : Nat -> PUnit -> Sem (ForInStep PUnit)}
    (hf : ∀ (i : Nat) u e s (Q : ForInStep PUnit -> Shared -> Prop), es'[i]? = some e -> (∃ es, s.heap = put (lD es) /\ zSe es.toArray e.hash /\ es.length <= 1000 /\ Q (.yield ⟨⟩) { s with heap := put (lD (es ++ [e])) }) -> G1 w 8 (f i u) Q s) :
    ∀ (k : Nat) (ks : List (Int × Str)) (es : List DictEntry) (s : Shared), k <= es'.length -> s.heap = put (lD (es ++ es'.take (es'.length - k))) -> (∀ e ∈ es, ∃ p ∈ ks, e.hash = hashInt p.1) -> (∀ p ∈ ks, ∀ q ∈ l, hashInt p.1 ≠ hashInt q.1) ->
      es'.Pairwise (fun x y => x.hash ≠ y.hash) -> es.length + es'.length <= 1000 -> Q ⟨⟩ { s with heap := put (lD (es ++ es')) } -> G1 w (8 * k) (forIn (List.range' (es'.length - k) k) ⟨⟩ f) Q s := by
  intro k
  induction k with
  | zero =>
    intro ks es s hk hh hes ap pw' hz hQ
    show G1 w 0 (forIn [] _ _) _ _
    rw [List.forIn_nil]
    refine .pure ?_
    rw [Nat.sub_zero, List.take_length] at hh
    rw [← hh] at hQ; exact hQ
  | succ k ih =>
    intro ks es s hk hh hes ap pw' hz hQ
    have hlt : es'.length - (k + 1) < es'.length := by omega
    rw [List.range'_succ, List.forIn_cons]
    refine G1.le (c := 8 + 8 * k) ?_ (by omega)
    refine .bind (hf _ _ _ _ _ (Qm hlt) ⟨_, hh, ?_, ?_, ?_⟩)
    . intro e m
      simp only [List.mem_toArray] at m
      rcases Qs.mp m with m | m
      . obtain ⟨p, mp, hp⟩ := hes e m
        obtain ⟨q, mq, hq, _⟩ := hl _ (List.getElem_mem hlt)
        rw [hp, hq]; exact ap p mp q mq
      . obtain ⟨i, hi, he⟩ := List.mem_take_iff_getElem.mp m
        rw [← he]
        have hi' : i < es'.length - (k + 1) := by omega
        exact (List.pairwise_iff_getElem.mp pw') i _ (by omega) hlt hi'
    . simp; omega
    . have e1 : es'.length - (k + 1) + 1 = es'.length - k := by omega
      dsimp only
      rw [e1]
      refine ih ks es _ (by omega) ?_ hes ap pw' hz hQ
      show put _ = put _
      rw [Qj]
      congr 3
      rw [← e1, List.take_succ_eq_append_getElem hlt]
theorem yDw {a c : Addr} {put : Obj -> Heap} (P : zOz a put) {es es' : List DictEntry} (hc : ∀ o, (put o).get? c = some (lD es')) (hcs : (c == sysModules) = false) {l ks : List (Int × Str)} (hl : ∀ e ∈ es', ∃ p ∈ l, e.hash = hashInt p.1 /\ ∃ tk, e.key = .int p.1 tk)
    {s : Shared} {Q : Unit -> Shared -> Prop} (hh : s.heap = put (lD es)) (hne : es ≠ []) (hes : ∀ e ∈ es, ∃ p ∈ ks, e.hash = hashInt p.1) (ap : ∀ p ∈ ks, ∀ q ∈ l, hashInt p.1 ≠ hashInt q.1) (pw' : es'.Pairwise (fun x y => x.hash ≠ y.hash))
    (hz : es.length + es'.length <= 1000) (hQ : Q () { s with heap := put (lD (es ++ es')) }) : G1 w (8 * es'.length + 10) (mergeMapping a (.ref c) false) Q s := by
  have gc : s.heap.get? c = some (lD es') := by rw [hh]; exact hc _
  have ga : s.heap.get? a = some (lD es) := by rw [hh]; exact P.get _
  have ents : ∀ {b : Addr} {x : List DictEntry} {Q : Array DictEntry -> Shared -> Prop} {s : Shared}, s.heap.get? b = some (lD x) -> Q x.toArray s -> G1 w 1 (dictEntries b) Q s := fun hb hq => by
    unfold dictEntries; exact G1.bind (c := 1) (c' := 0) (.loadPart hb (.pure hq))
  have epo : ∀ {b : Addr} {x : List DictEntry} {Q : Nat -> Shared -> Prop} {s : Shared}, s.heap.get? b = some (lD x) -> Q x.length s -> G1 w 1 (dictEpoch b) Q s := fun hb hq => by
    unfold dictEpoch; exact G1.bind (c := 1) (c' := 0) (.loadPart hb (.pure hq))
  have spi : ∀ {Q : Option Value -> Shared -> Prop}, Q (some (.builtin "dict.__iter__")) s -> G1 w 1 (PySem.specialOf (.ref c) "__iter__") Q s := fun hq => by
    unfold PySem.specialOf typeOf
    exact G1.bind (c := 1 + 0) (c' := 0) (.bind (.loadPart gc (.pure (.of_eq F.slot_dict_iter.lookup (.pure hq)))))
  have e0 : (some (Value.builtin "dict.__iter__") == some (Value.builtin "dict.__iter__")) = true := by decide
  have e1 : es.toArray.isEmpty = false := by induction es using List.casesOn with | nil => exact absurd rfl hne | cons _ _ => rfl
  unfold mergeMapping
  refine G1.le (c := 1 + (1 + (0 + (1 + (1 + (1 + (8 * es'.length + 0))))))) ?_ (by omega)
  refine .bind (.isInstance_dict gc rfl (.ifT (.bind (spi (.bind (.pureE e0 ?_))))))
  refine .ifF hcs (.bind (ents ga (.ifF e1 ?_)))
  refine .bind (ents gc (.bind (epo gc (.bind ?_))))
  rw [List.size_toArray, List.range_eq_range']
  have key := fun f hf => zSx (w := w) P hc hl (Q := fun (_ : PUnit) s' => Q () s') (f := f) hf es'.length ks es s (Qo _) (by simpa using hh) hes ap pw' hz hQ
  rw [Nat.sub_self] at key
  refine (key _ ?_).mono fun _ _ q => .pure q
  intro i u e s Q he ⟨es1, hh1, hn1, hz1, hQ1⟩
  have gc1 : s.heap.get? c = some (lD es') := by rw [hh1]; exact hc _
  have ga1 : s.heap.get? a = some (lD es1) := by rw [hh1]; exact P.get _
  obtain ⟨p, mp, hp, tk, hk⟩ := hl e (Qk he)
  obtain ⟨eh, ek, ev⟩ := e
  dsimp only at hk hp
  subst hk
  refine G1.le (c := 1 + (4 + (1 + 0))) ?_ (by omega)
  refine .bind (ents gc1 ?_)
  rw [List.getElem?_toArray, he]
  refine .bind (.holding (.dictPut_new P.ok ga1 hn1 (by rw [List.size_toArray, sizeLine_eq]; omega) ?_))
  have up : s.heap.update a (Obj.mapDictKeys (·.push ⟨eh, .int p.1 tk, ev⟩)) = put (lD (es1 ++ [⟨eh, .int p.1 tk, ev⟩])) := by rw [hh1, P.up, zP8]
  rw [up]
  refine .bind (epo (hc _) ?_)
  rw [if_neg (by simp)]
  exact .pure hQ1
end
end
section
set_option maxHeartbeats 0
structure DS where
  main : Option (List DictEntry)
  subs : List Obj
  toks : Nat
noncomputable def zFh (l : List (Int × Str)) (σ : DS) : DS := match σ.main with
  | none => ⟨some (grp σ.toks l), [], σ.toks + 3 * l.length⟩
  | some es => ⟨some (es ++ grp σ.toks l), σ.subs ++ [lD (grp σ.toks l)], σ.toks + 3 * l.length⟩
noncomputable def zKf : List (Int × Str) -> List (Int × Str) -> DS -> DS
  | [], run, σ => if run.isEmpty then σ else zFh run σ
  | q :: l, run, σ => if (run ++ [q]).length = 17 then zKf l [] (zFh (run ++ [q]) σ) else zKf l (run ++ [q]) σ
noncomputable def zNh (b : Heap) (σ : DS) : Heap := match σ.main with
  | none => b
  | some es => hp b (lD es) σ.subs
noncomputable abbrev zNr (run : List (Sem Value × Sem Value)) (main : Option Addr) : Sem (Option Addr) := do
    if run.isEmpty then return main
    match main with
    | none => return some (← subDict run)
    | some d =>
      let sub ← holding [.ref d] (subDict run)
      (holding [.ref d, .ref sub] (mergeMapping d (.ref sub) false)).onRaise fun x => do let _ ← holding [.ref d, x] (runValue (.builtin "proto.let_go" {}))
      return some d
structure yEu (σ : DS) (ks : List (Int × Str)) : Prop where
  ent : ∀ es, σ.main = some es -> es ≠ [] /\ es.length <= ks.length /\ ∀ e ∈ es, ∃ p ∈ ks, e.hash = hashInt p.1
theorem yKc {t : Nat} {l : List (Int × Str)} (h : zFe (l.map (·.1))) : (grp t l).Pairwise fun x y => x.hash ≠ y.hash := by
  have hl : ∀ (t : Nat) (l : List (Int × Str)), zFe (l.map (·.1)) -> (zX8 t l).Pairwise fun x y => x.hash ≠ y.hash := by
    intro t l
    induction l generalizing t with
    | nil => intro _; exact .nil
    | cons q l ih =>
      intro h
      obtain ⟨h1, h2⟩ := List.pairwise_cons.mp h
      refine List.pairwise_cons.mpr ⟨fun e m => ?_, ih _ h2⟩
      obtain ⟨p, mp, hp, _⟩ := zI9 m
      rw [hp]; exact h1 _ (Qq.mpr ⟨p, mp, rfl⟩)
  have hs : ∀ (t : Nat) (l : List (Int × Str)), zFe (l.map (·.1)) -> (zT0 t l).Pairwise fun x y => x.hash ≠ y.hash := by
    intro t l
    induction l generalizing t with
    | nil => intro _; exact .nil
    | cons q l ih =>
      intro h
      obtain ⟨h1, h2⟩ := List.pairwise_cons.mp h
      refine List.pairwise_cons.mpr ⟨fun e m => ?_, ih _ h2⟩
      obtain ⟨p, mp, hp, _⟩ := zJ8 m
      rw [hp]; exact h1 _ (Qq.mpr ⟨p, mp, rfl⟩)
  unfold grp; split; exact hs t l h; exact hl t l h
section
variable {w : World}
theorem zXw {b : Heap} (hb : 28 <= b.objs.size) (hsm : sysModules < b.objs.size) {σ : DS} {l ks : List (Int × Str)} {r : List (Sem Value × Sem Value)} (h : zGl w l r) (hne : l ≠ []) (kn : yEu σ ks) (ap : zFe ((ks ++ l).map (·.1)))
    (hz : ks.length + l.length <= 1000) {s : Shared} {Q : Option Addr -> Shared -> Prop} (hh : s.heap = zNh b σ) (ht : s.toks = σ.toks)
    (hQ : yEu (zFh l σ) (ks ++ l) -> (zFh l σ).main ≠ none -> Q (some b.objs.size) { s with heap := zNh b (zFh l σ), toks := (zFh l σ).toks }) : G1 w (28 * l.length + 30) (zNr r (σ.main.map fun _ => b.objs.size)) Q s := by
  have apl : zFe (l.map (·.1)) := by
    unfold zFe at ap ⊢; rw [Qt, List.pairwise_append] at ap; exact ap.2.1
  have apk : ∀ p ∈ ks, ∀ q ∈ l, hashInt p.1 ≠ hashInt q.1 := by
    intro p mp q mq
    unfold zFe at ap; rw [Qt, List.pairwise_append] at ap
    exact ap.2.2 _ (Qq.mpr ⟨p, mp, rfl⟩) _ (Qq.mpr ⟨q, mq, rfl⟩)
  have hr : r.isEmpty = false := by
    have := h.length
    induction r using List.casesOn with
    | nil => induction l using List.casesOn with | nil => exact absurd rfl hne | cons _ _ => simp at this
    | cons _ _ => rfl
  have gl : (grp σ.toks l) ≠ [] := by
    intro e
    have := zJw σ.toks l
    rw [e] at this
    induction l using List.casesOn with | nil => exact hne rfl | cons _ _ => simp at this
  have gh : ∀ e ∈ grp σ.toks l, ∃ p ∈ ks ++ l, e.hash = hashInt p.1 := fun e m => let ⟨p, mp, hp, _⟩ := zQn m; ⟨p, Qv _ mp, hp⟩
  obtain ⟨main, subs, toks⟩ := σ
  dsimp only at ht hh gl gh
  unfold zNr
  rw [hr]
  simp only [Bool.false_eq_true, if_false]
  induction main with
  | none =>
    have hh : s.heap = b := hh
    show G1 w _ (do return some (← subDict r)) Q s
    refine G1.le (c := (20 * l.length + 10) + 0) ?_ (by omega)
    refine .bind (zOp h (put := fun o => hp b o []) ?_ ?_ apl (by omega) ?_)
    . rw [hh]; exact zNu b [] hb
    . rw [hh, yAd]
    . rw [hh]
      refine .pure ?_
      have := hQ ⟨fun es e => ?_⟩ (by simp [zFh])
      . rw [ht]; exact this
      . cases e
        exact ⟨gl, by rw [zJw]; simp, gh⟩
  | some es =>
    obtain ⟨k1, k2, k3⟩ := kn.ent es rfl
    have hh : s.heap = hp b (lD es) subs := hh
    show G1 w _ (do
      let sub ← holding [.ref b.objs.size] (subDict r)
      (holding [.ref b.objs.size, .ref sub] (mergeMapping b.objs.size (.ref sub) false)).onRaise fun x => do let _ ← holding [.ref b.objs.size, x] (runValue (.builtin "proto.let_go" {}))
      return some b.objs.size) Q s
    refine G1.le (c := (20 * l.length + 10) + ((8 * (grp s.toks l).length + 10) + 0)) ?_ (by rw [zJw]; omega)
    refine .bind (.holding (zOp h (put := fun x => hp b (lD es) (subs ++ [x])) ?_ ?_ apl (by omega) ?_))
    . rw [hh]; exact zW7 b _ subs hb
    . rw [hh, yDn]
    . refine .bind (.onRaise (.holding ?_))
      have hsz : s.heap.objs.size = b.objs.size + 1 + subs.length := by rw [hh, zWo]
      rw [hsz]
      refine yDw (zNu b (subs ++ [lD (grp s.toks l)]) hb) (es := es) (es' := grp s.toks l) (fun o => yCf b o _ subs [] rfl) (beq_eq_false_iff_ne.mpr (Nat.ne_of_gt (Nat.lt_of_lt_of_le hsm (by omega)))) (l := l) (ks := ks) (fun e m => zQn m) rfl k1 k3 apk (yKc apl) (by rw [zJw]; omega) ?_
      refine .pure ?_
      have := hQ ⟨fun es' e => ?_⟩ (by simp [zFh])
      . rw [ht]; exact this
      . cases e
        refine ⟨by simp [k1], by rw [Qi, Qi, zJw]; omega, fun e m => ?_⟩
        rcases Qs.mp m with m | m
        . obtain ⟨p, mp, hp⟩ := k3 e m; exact ⟨p, Qu _ mp, hp⟩
        . exact gh e m
inductive zT3 (w : World) : List (Int × Str) -> List (Option (Sem Value) × Sem Value) -> Prop
  | nil : zT3 w [] []
  | cons {q : Int × Str} {k v : Sem Value} {l : List (Int × Str)} {r : List (Option (Sem Value) × Sem Value)} : yCn w q (k, v) -> zT3 w l r -> zT3 w (q :: l) ((some k, v) :: r)
theorem zUi {b : Heap} (hb : 28 <= b.objs.size) (hsm : sysModules < b.objs.size) {Q : Option Addr -> Shared -> Prop} {f : Option (Sem Value) × Sem Value -> Option Addr × List (Sem Value × Sem Value) -> Sem (ForInStep (Option Addr × List (Sem Value × Sem Value)))}
    (hf : ∀ k v σ, f (some k, v) σ = (if ((σ.2 ++ [(k, v)]).length == 17) = true then (do let m ← zNr (σ.2 ++ [(k, v)]) σ.1; pure (.yield (m, []))) else pure (.yield (σ.1, σ.2 ++ [(k, v)])))) :
    ∀ {l : List (Int × Str)} {r : List (Option (Sem Value) × Sem Value)} (h : zT3 w l r) (rn ks : List (Int × Str)) (rr : List (Sem Value × Sem Value)) (σ : DS) (s : Shared), rn.length <= 16 -> zGl w rn rr -> yEu σ ks -> (σ.main ≠ none ∨ rn ++ l ≠ []) -> zFe ((ks ++ (rn ++ l)).map (·.1)) -> ks.length + (rn.length + l.length) <= 1000 ->
      s.heap = zNh b σ -> s.toks = σ.toks -> Q (some b.objs.size) { s with heap := zNh b (zKf l rn σ), toks := (zKf l rn σ).toks } ->
      G1 w (506 * l.length) (forIn r (σ.main.map (fun _ => b.objs.size), rr) f) (fun st s' => G1 w 506 (zNr st.2 st.1) Q s') s := by
  intro l r h
  induction h with
  | nil =>
    intro rn ks rr σ s hr16 hp kn ne ap hz hh ht hQ
    rw [List.forIn_nil]
    refine .pure ?_
    dsimp only
    simp only [zKf] at hQ
    induction rn with
    | nil =>
      have : rr = [] := by have := hp.length; induction rr using List.casesOn with | nil => rfl | cons _ _ => simp at this
      subst this
      unfold zNr
      refine G1.le (c := 0) ?_ (by omega)
      refine .pure ?_
      have hm : σ.main ≠ none := by rcases ne with h | h; exact h; exact absurd rfl h
      induction hm' : σ.main with
      | none => exact absurd hm' hm
      | some es => simp only [List.isEmpty_nil, if_true] at hQ; rw [← hh, ← ht] at hQ; exact hQ
    | cons q rn =>
      refine G1.le (c := 28 * (q :: rn).length + 30) ?_ (by simp at hr16 ⊢; omega)
      refine zXw hb hsm hp (by simp) kn (by simpa using ap) (by simpa using hz) hh ht fun _ _ => ?_
      simpa using hQ
  | cons hp1 _ ih =>
    rename_i q k v l r _
    intro rn ks rr σ s hr16 hp kn ne ap hz hh ht hQ
    rw [List.forIn_cons, hf]
    have hp' : zGl w (rn ++ [q]) (rr ++ [(k, v)]) := hp.append (.cons hp1 .nil)
    have hlen : (rr ++ [(k, v)]).length = (rn ++ [q]).length := hp'.length
    simp only [zKf] at hQ
    by_cases h17 : (rn ++ [q]).length = 17
    . rw [if_pos h17] at hQ
      rw [if_pos (by rw [hlen, h17]; rfl)]
      refine G1.le (c := (28 * (rn ++ [q]).length + 30 + 0) + 506 * l.length) ?_ (by simp at hr16 ⊢; omega)
      refine .bind (.bind (zXw hb hsm hp' (by simp) kn ?_ ?_ hh ht fun kn' hm => ?_))
      . have : ks ++ (rn ++ q :: l) = (ks ++ (rn ++ [q])) ++ l := by simp
        rw [this] at ap
        unfold zFe at ap ⊢
        rw [Qt, List.pairwise_append] at ap
        exact ap.1
      . simp at hz ⊢; omega
      refine .pure ?_
      dsimp only
      have e : some b.objs.size = (zFh (rn ++ [q]) σ).main.map fun _ => b.objs.size := by
        induction hm' : (zFh (rn ++ [q]) σ).main with
        | none => exact absurd hm' hm
        | some _ => rfl
      rw [e]
      refine ih [] (ks ++ (rn ++ [q])) [] (zFh (rn ++ [q]) σ) _ (by simp) .nil kn' (.inl hm) ?_ ?_ rfl rfl hQ
      . have : ks ++ (rn ++ q :: l) = (ks ++ (rn ++ [q])) ++ ([] ++ l) := by simp
        rw [← this]; exact ap
      . simp at hz ⊢; omega
    . rw [if_neg h17] at hQ
      rw [if_neg (by rw [hlen]; simpa using h17)]
      refine G1.le (c := 0 + 506 * l.length) ?_ (by simp; omega)
      refine .bind (.pure ?_)
      dsimp only
      refine ih (rn ++ [q]) ks (rr ++ [(k, v)]) σ s (by simp at h17 ⊢; omega) hp' kn (.inr (by simp)) ?_ ?_ hh ht hQ
      . simpa using ap
      . simp at hz ⊢; omega
theorem zU1 {b : Heap} (hb : 28 <= b.objs.size) (hsm : sysModules < b.objs.size) {l : List (Int × Str)} {r : List (Option (Sem Value) × Sem Value)} (h : zT3 w l r) (hne : l ≠ []) (ap : zFe (l.map (·.1))) (hz : l.length <= 1000) {s : Shared} {Q : Value -> Shared -> Prop}
    (hh : s.heap = b) (hQ : Q (.ref b.objs.size) { s with heap := zNh b (zKf l [] ⟨none, [], s.toks⟩), toks := (zKf l [] ⟨none, [], s.toks⟩).toks }) : G1 w (506 * l.length + 506) (dictDisplay r) Q s := by
  unfold dictDisplay
  refine G1.le (c := 506 * l.length + (506 + 0)) ?_ (by omega)
  refine .bind ((zUi hb hsm (Q := fun x s' => G1 w 0 (match x with | some d => pure (.ref d) | none => newDict) Q s') ?_ h [] [] [] ⟨none, [], s.toks⟩ s (by simp) .nil ⟨fun es e => by cases e⟩ (.inr (by simpa using hne)) (by simpa using ap) (by simpa using hz) hh rfl (.pure hQ)).mono ?_)
  . intro k v σ; rfl
  . intro st s' q; exact .bind q
end
end
section
set_option maxHeartbeats 0
noncomputable def zUa (e : PySem.Expr) : Pos := (zOs e).pos
noncomputable def zFs (t : Stmt) : PySem.Expr := (zX6 t).tgts.headD zD0
noncomputable def yE1 (t : Stmt) : Pos := (zX6 t).pos
theorem zQ3 {e : PySem.Expr} {c : Const} (h : (zOs e).const = some c) : ∃ a b, e = .Constant c a b := by
  induction e using Expr.casesOn with
  | Constant c' a b => exact ⟨a, b, by rw [show c' = c from qa h]⟩
  | _ => exact nomatch h
theorem yF3 {c : Option Const} {k : Int} (h : yOt c = some k) : c = some (.int k) := by
  induction c with
  | none => exact nomatch h
  | some c => cases c with
    | int k' => exact congrArg (fun k => some (Const.int k)) (qa h)
    | _ => exact nomatch h
theorem yEm {c : Option Const} {k : Str} (h : yP1 c = some k) : c = some (.str k) := by
  induction c with
  | none => exact nomatch h
  | some c => cases c with
    | str k' => exact congrArg (fun k => some (Const.str k)) (qa h)
    | _ => exact nomatch h
theorem yH2 {e : Option PySem.Expr} {k : Int} (h : kOf e = some k) : ∃ a b, e = some (.Constant (.int k) a b) := by
  induction e with
  | none => exact nomatch h
  | some e => obtain ⟨a, b, e1⟩ := zQ3 (yF3 h); exact ⟨a, b, congrArg some e1⟩
theorem yMk {e : PySem.Expr} {x : Str} (h : vOf e = some x) : ∃ a b, e = .Constant (.str x) a b := zQ3 (yEm h)
theorem kv3 {a : Option Int} {b : Option Str} {c : Option (List (Int × Str))} {l : List (Int × Str)} (h : (match a, b, c with
    | some k, some x, some l => some ((k, x) :: l)
    | _, _, _ => none) = some l) : ∃ k x l', a = some k /\ b = some x /\ c = some l' /\ (k, x) :: l' = l := by
  induction a with
  | none => exact nomatch h
  | some k => induction b with
    | none => exact nomatch h
    | some x => induction c with
      | none => exact nomatch h
      | some l' => exact ⟨k, x, l', rfl, rfl, rfl, qa h⟩
noncomputable def zQ4 : Stmt := zDz.getD 8 (.Pass zKm)
theorem yEn : yNb (zIi b3e) (zH6 b3e) = some zWr := by
  have h : (yNb (zIi b3e) (zH6 b3e)).isSome = true := by decide +kernel
  unfold zWr
  obtain ⟨l, e⟩ := Option.isSome_iff_exists.mp h
  rw [e]; rfl
theorem yBt : zQ4 = .Assign [.Name (Qd "b3_exceptions") (zUa (zFs zQ4))] (.Dict (zIi b3e) (zH6 b3e) (zUa b3e)) (yE1 zQ4) := by kernel_rfl
noncomputable def zLw : List (Int × Str) -> Bool
  | [] => true
  | [_] => true
  | a :: b :: r => decide (a.1 < b.1) && zLw (b :: r)
theorem zUv : zWr.length = 650 := by decide +kernel
theorem zXl : (zLw zWr && zWr.all fun p => decide (0 <= p.1) && decide (p.1 < 1000000)) = true := by decide +kernel
theorem zKu : ∀ {l : List (Int × Str)}, zLw l = true -> (l.map (·.1)).Pairwise (· < ·)
  | [], _ => .nil
  | [_], _ => by simp
  | a :: b :: r, h => by
    simp only [zLw, Bool.and_eq_true, decide_eq_true_eq] at h
    have ih := zKu h.2
    rw [List.map_cons, List.pairwise_cons]
    refine ⟨fun x m => ?_, ih⟩
    rw [List.map_cons] at m ih
    rcases Qy.mp m with rfl | m
    . exact h.1
    . exact Int.lt_trans h.1 ((List.pairwise_cons.mp ih).1 x m)
theorem zGy {k : Int} (h0 : 0 <= k) (h1 : k < 1000000) : hashInt k = k := by
  have hr : rawHash k = k := by
    unfold rawHash
    have e1 : ((k.natAbs : Int) % ((2 ^ 61 - 1 : Nat) : Int)) = k := by omega
    simp only [e1]
    have h2 : ¬ k < 0 := by omega
    simp only [h2, if_false]
    rw [if_neg (by simp; omega)]
  unfold hashInt
  rw [hr, if_neg (by simp; omega)]
theorem yBz : zFe (zWr.map (·.1)) := by
  have h := zXl
  rw [Bool.and_eq_true] at h
  have pw' := zKu h.1
  have hm : ∀ x ∈ zWr.map (·.1), 0 <= x /\ x < 1000000 := by
    intro x m
    obtain ⟨p, mp, rfl⟩ := Qq.mp m
    simpa using Qf.mp h.2 p mp
  unfold zFe
  refine List.Pairwise.imp_of_mem (fun {a b} ma mb hab => ?_) pw'
  rw [zGy (hm a ma).1 (hm a ma).2, zGy (hm b mb).1 (hm b mb).2]
  omega
section
variable {w : World}
theorem zRy {env : Env} {pos : Pos} : ∀ {ks : List (Option PySem.Expr)} {vs : List PySem.Expr} {l : List (Int × Str)}, yNb ks vs = some l -> zT3 w l ((evalEachOpt ks env).zip ((evalEach vs env).map fun v => do let x ← v; standAt pos; pure x))
  | [], [], l, h => by cases h; exact .nil
  | k :: ks, v :: vs, l, h => by
    obtain ⟨k', x, l', e1, e2, e, rfl⟩ := kv3 h
    obtain ⟨a, b, rfl⟩ := yH2 e1
    obtain ⟨a', b', rfl⟩ := yMk e2
    refine .cons ⟨fun s Q q => ?_, fun s Q q => ?_⟩ (zRy e)
    . exact G1.le (c := 1 + 0) (G1.bind (.fresh (.pure q))) (by decide)
    . exact G1.le (c := (1 + 0) + (1 + 0)) (G1.bind (G1.bind (.fresh (.pure (G1.bind (.standAt (.pure q))))))) (by decide)
  | [], _ :: _, _, h => nomatch h
  | _ :: _, [], _, h => nomatch h
noncomputable def b3D (t : Nat) : DS := zKf zWr [] ⟨none, [], t⟩
noncomputable def zOv (w : World) (b : Heap) (s : Shared) : Shared :=
  { s with heap := (zNh b (b3D s.toks)).update mainNs (Obj.putName (Qd "b3_exceptions") (PyData.keyHash w.params (Qd "b3_exceptions")) (.str (Qd "b3_exceptions") (b3D s.toks).toks) (.ref b.objs.size)), toks := (b3D s.toks).toks + 1 }
theorem yQm {b : Heap} (hb : 28 <= b.objs.size) (hsm : sysModules < b.objs.size) {s : Shared} {Q : Flow -> Shared -> Prop} (hh : s.heap = b) {es : Array DictEntry} {n : Nat} (h3 : b.get? mainNs = some (dO es n)) (hr : es.any (·.refKey) = false)
    (hQ : Q .next (zOv w b s))
    (h3' : ∃ es n, (zNh b (zKf zWr [] ⟨none, [], s.toks⟩)).get? mainNs = some (dO es n) /\ es.any (·.refKey) = false) : G1 w 400000 (execs [zQ4] zIf) Q s := by
  rw [yBt]
  show G1 w _ (do
      let f ← (do
        standAt (yE1 zQ4)
        if ← swapsWithSole [.Name (Qd "b3_exceptions") (zUa (zFs zQ4))] (.Dict (zIi b3e) (zH6 b3e) (zUa b3e)) (yE1 zQ4).line zIf then do
          evalThenUse (.Dict (zIi b3e) (zH6 b3e) (zUa b3e)) zIf fun v => assignAll v ((assignEach [.Name (Qd "b3_exceptions") (zUa (zFs zQ4))] zIf).map (·.2))
          pure .next
        else do
          let v ← eval (.Dict (zIi b3e) (zH6 b3e) (zUa b3e)) zIf
          assignStores zIf v (← swappedStores [.Name (Qd "b3_exceptions") (zUa (zFs zQ4))] (.Dict (zIi b3e) (zH6 b3e) (zUa b3e)) zIf) ((assignEach [.Name (Qd "b3_exceptions") (zUa (zFs zQ4))] zIf).map (·.2)))
      match f with
      | .next => execs [] zIf
      | f => pure f) Q s
  refine G1.le (c := (1 + (0 + ((1 + (506 * 650 + 506)) + (0 + ((1 + (1 + (5 + 1))) + 0))))) + 0) ?_ (by omega)
  refine .bind (.bind (.standAt (.bind (.of_eq (y := pure false) rfl (.pure ?_)))))
  rw [if_neg Qw]
  rw [arm_eval_Dict]
  refine .bind (.bind (.standAt ?_))
  have dg := fun (Q : Value -> Shared -> Prop) => zU1 (w := w) hb hsm (zRy (env := zIf) (pos := zUa b3e) yEn) (by intro e; have := zUv; rw [e] at this; cases this) yBz (by rw [zUv]; omega) hh (Q := Q)
  rw [zUv] at dg
  refine dg _ ?_
  refine .bind (.of_eq (y := pure none) rfl (.pure ?_))
  show G1 w _ (do
    (do standAt (zUa (zFs zQ4)); bindName zIf (Qd "b3_exceptions") (.ref b.objs.size))
    pure Flow.next) _ _
  refine .bind (.bind (.standAt ?_))
  unfold bindName
  refine .bind (.holding (.point (.bind ?_)))
  have e1 : storeName zIf (Qd "b3_exceptions") (.ref b.objs.size) = nsSet mainNs (Qd "b3_exceptions") (.ref b.objs.size) := by kernel_rfl
  rw [e1]
  unfold nsSet
  obtain ⟨es', n', g3, hr'⟩ := h3'
  refine G1.le (c := 1 + (1 + (1 + 1))) ?_ (by omega)
  refine G1.bind (c := 1) ?_
  refine G1.le (c := 1 + 0) (G1.bind (.ask (.pure ?_))) (by omega)
  refine .bind (G1.le (c := 1 + 0) (G1.bind (.fresh (.pure ?_))) (by omega))
  refine .bind (.loadPart g3 ?_)
  dsimp only
  rw [aRefKeyMayBeTheName_at, hr', Bool.and_false]
  refine .updatePart (by decide) g3 ?_
  refine .point (.pure ?_)
  exact .pure hQ
end
end
section
noncomputable def zRf : List DictEntry := (b3D 423).main.getD []
noncomputable def zHo : Obj := lD zRf
noncomputable def zAc (i : Nat) : Obj := (b3D 423).subs.getD i default
noncomputable def hlc (P : Params) : List Obj := [yEd P, yE4 P, yEh P, yQl P, yCt P, yEz P, yE6 P, yFv P, yFs P, yDi P, zO0 P, zTm P, zOu P, zP2 P, zPo P, zQh P, zQg P, zP3 P, zQa P, zOw P, zQc P, zPp P, zO2 P, zPx P, zO5 P, zPb P, zPv P, zP0 P, zVh P, yI6 P, zWw P, zW3 P, yB4 P, yA1 P, zYf P, zZ8 P, zYd P, zYa P, zYy P, zYe P, yB8 P, yAk P, zYk P, zZc P, yA6 P, yB2 P, yA3 P, yAj P, zY1 P, yA8 P, yB7 P, yAp P, yAa P, yBq P, yAq P, yAi P, yAr P, zZl P, yBd P, zX9 P, zYo P, zYx P, zYl P, zZw P, zY0 P, zZk P, zY4 P, zZh P, yAc P, zZa P, yBp P, yAe P, yAf P, zZs P, yAt P, zZn P, zY7 P, yAo P, yAv P, yBi P, zYj P, yFe P, yFo P, yFg P, yEj P, yDm P, yE3 P, yFh P, yEa P, yDs P, yFj P, yE7 P, yDt P, yFd P, yD9 P, yD1 P, yDk P, yDg P, yEv P, zHo, (zAc 0), (zAc 1), (zAc 2), (zAc 3), (zAc 4), (zAc 5), (zAc 6), (zAc 7), (zAc 8), (zAc 9), (zAc 10), (zAc 11), (zAc 12), (zAc 13), (zAc 14), (zAc 15), (zAc 16), (zAc 17), (zAc 18), (zAc 19), (zAc 20), (zAc 21), (zAc 22), (zAc 23), (zAc 24), (zAc 25), (zAc 26), (zAc 27), (zAc 28), (zAc 29), (zAc 30), (zAc 31), (zAc 32), (zAc 33), (zAc 34), (zAc 35), (zAc 36), (zAc 37)]
noncomputable def hld (P : Params) : List Obj := [yEd P, yE4 P, yEh P, yGa P, yCt P, yEz P, yE6 P, yFv P, yFs P, yDi P, zO0 P, zTm P, zOu P, zP2 P, zPo P, zQh P, zQg P, zP3 P, zQa P, zOw P, zQc P, zPp P, zO2 P, zPx P, zO5 P, zPb P, zPv P, zP0 P, zVh P, yOc P, zWw P, zW3 P, yB4 P, yA1 P, zYf P, zZ8 P, zYd P, zYa P, zYy P, zYe P, yB8 P, yAk P, zYk P, zZc P, yA6 P, yB2 P, yA3 P, yAj P, zY1 P, yA8 P, yB7 P, yAp P, yAa P, yBq P, yAq P, yAi P, yAr P, zZl P, yBd P, zX9 P, zYo P, zYx P, zYl P, zZw P, zY0 P, zZk P, zY4 P, zZh P, yAc P, zZa P, yBp P, yAe P, yAf P, zZs P, yAt P, zZn P, zY7 P, yAo P, yAv P, yBi P, zYj P, yFe P, yFo P, yFg P, yEj P, yDm P, yE3 P, yFh P, yEa P, yDs P, yFj P, yE7 P, yDt P, yFd P, yD9 P, yD1 P, yDk P, yDg P, yEv P, zHo, (zAc 0), (zAc 1), (zAc 2), (zAc 3), (zAc 4), (zAc 5), (zAc 6), (zAc 7), (zAc 8), (zAc 9), (zAc 10), (zAc 11), (zAc 12), (zAc 13), (zAc 14), (zAc 15), (zAc 16), (zAc 17), (zAc 18), (zAc 19), (zAc 20), (zAc 21), (zAc 22), (zAc 23), (zAc 24), (zAc 25), (zAc 26), (zAc 27), (zAc 28), (zAc 29), (zAc 30), (zAc 31), (zAc 32), (zAc 33), (zAc 34), (zAc 35), (zAc 36), (zAc 37), yNe P, yJm P, yJb P, yI9 P, yJt P, yLl P, yLc P, yMq P, yKi P, yH1 P, yG8 P, yK2 P, yG3 P, yL5 P, yGp P, yJh P, yJj P, yJ8 P, yH4 P, yIf P, yGr P, yNm P, yGg P, yKh P, yLn P, yJi P, yJd P, yHs P, yG1 P, yG4 P, yGv P, yLr P, yIm P, yNk P, yNj P, yJ9 P, yNp P, yJe P, yNc P, yHl P, yJy P, yLf P, yHr P, yHp P, yIt P, yId P, yHa P, yGt P, yGq P, yMa P, yNl P, yJz P, yHd P, yKg P, yHh P, yIr P, yJr P, yIa P, yJa P, yH9 P, yL7 P, yLb P, yGb P, yHb P, yKx P, yHv P, yMj P, yMz P, yL3 P, yJq P, yGh P, yKo P, yM4 P, yMc P, yH5 P, yJf P, yJp P, yGj P, yNx P, yI1 P, yLg P, yGw P, yLy P, yMm P, yGu P, yNs P, yI2 P, yI4 P, yL1 P, yJx P, yMw P, yHx P, yHw P, yMi P, yMs P, yMb P, yGi P, yLa P, yK7 P, yKw P, yGo P, yHz P, yH6 P, yM1 P, yJ5 P, yJ7 P, yNi P, yIo P, yNf P, yKk P, yJv P, yKn P, yI8 P, yK4 P, yL6 P, yKm P, yL4 P, yLw P, yNh P, yJl P, yHe P, yGc P, yLi P, yLh P, yI0 P, yLv P, yKt P, yL9 P, yLs P, yNt P, yHj P, yLq P, yMl P, yJs P, yKu P, yK8 P, yM8 P, yKz P, yKv P, yMv P, yIz P, yKq P, yIu P, yNq P, yJg P, yM0 P, yNa P, yH8 P, yLj P, yNw P, yLe P, yMr P, yJ3 P, yG9 P, yKj P, yJk P, yMx P, yK5 P, yHk P, yKa P, yJu P, yIy P, yK0 P, yL0 P, yLu P, yC0 P, yC5 P, yGe P, yNd P, yNo P, yI3 P, yNv P, yI5 P, yHy P, yIg P, yIl P, yMn P, yGx P, yL8 P, yJ1 P, yIn P, yKr P, yIk P, yH0 P, yLz P, yMg P, yIi P, yIv P, yK1 P, yL2 P, yMd P, yHm P, yGy P, yIs P]
end
section
set_option maxHeartbeats 0
theorem yNr (os : List Obj) : ∀ (f a b i : Nat), 0 < a -> i + 1 < 2 ^ f -> (zF4.go os f a b).get i = os[b + a * i]? := by
  intro f
  induction f with
  | zero =>
    rintro a b i ha hi
    simp at hi
  | succ f ih =>
    rintro a b i ha hi
    unfold zF4.go
    induction e : os[b]? with
    | none =>
      show none = _
      have h1 : os.length <= b := List.getElem?_eq_none_iff.mp e
      exact (List.getElem?_eq_none_iff.mpr (by have := Qx (a * i); omega)).symm
    | some o =>
      show (BT.node o _ _).get i = _
      rw [BT.get_node]
      by_cases h0 : i = 0
      . subst h0; simp [e]
      . rw [if_neg h0]
        have hp : 2 ^ (f + 1) = 2 * 2 ^ f := by rw [Nat.pow_succ, Nat.mul_comm]
        by_cases h1 : i % 2 = 1
        . rw [if_pos h1, ih (2 * a) (a + b) (i / 2) (by omega) (by omega)]
          congr 1
          obtain ⟨j, rfl⟩ : ∃ j, i = 2 * j + 1 := ⟨i / 2, by omega⟩
          have : (2 * j + 1) / 2 = j := by omega
          rw [this, Nat.mul_add, Nat.mul_one, Nat.mul_assoc 2 a j, ← Nat.mul_assoc a 2 j, Nat.mul_comm a 2, Nat.mul_assoc 2 a j]; omega
        . rw [if_neg h1, ih (2 * a) (2 * a + b) (i / 2 - 1) (by omega) (by omega)]
          congr 1
          obtain ⟨j, rfl⟩ : ∃ j, i = 2 * (j + 1) := ⟨i / 2 - 1, by omega⟩
          have : 2 * (j + 1) / 2 - 1 = j := by omega
          rw [this, Nat.mul_assoc 2 a j, ← Nat.mul_assoc a 2 (j + 1), Nat.mul_comm a 2, Nat.mul_assoc 2 a (j + 1), Nat.mul_add, Nat.mul_one]; omega
theorem zI5 (l : List Obj) (n : Nat) (hn : l.length = n) (hl : n + 1 < 2 ^ 12) (life : Life) : absHeap (zF4 l) n life = ⟨l.toArray, life⟩ := by
  unfold absHeap BT.list zF4
  congr 2
  apply List.ext_getElem?
  intro i
  by_cases h : i < n
  . rw [List.getElem?_map, List.getElem?_range h, Option.map_some, yNr _ _ _ _ _ (by omega) (by omega)]
    have : i < l.length := by omega
    rw [Nat.zero_add, Nat.one_mul, Qm this]; rfl
  . rw [List.getElem?_eq_none_iff.mpr (by simp; omega), List.getElem?_eq_none_iff.mpr (by omega)]
theorem zRi : ((b3D 423).main.isSome && (b3D 423).subs.length == 38 && (b3D 423).toks == 2373) = true := by decide +kernel
theorem zWy : (b3D 423).subs = [zAc 0, zAc 1, zAc 2, zAc 3, zAc 4, zAc 5, zAc 6, zAc 7, zAc 8, zAc 9, zAc 10, zAc 11, zAc 12, zAc 13, zAc 14, zAc 15, zAc 16, zAc 17, zAc 18, zAc 19, zAc 20, zAc 21, zAc 22, zAc 23, zAc 24, zAc 25, zAc 26, zAc 27, zAc 28, zAc 29, zAc 30, zAc 31, zAc 32, zAc 33, zAc 34, zAc 35, zAc 36, zAc 37] := by
  have h := zRi
  simp only [Bool.and_eq_true, beq_iff_eq] at h
  have e : (List.range 38).map zAc = [zAc 0, zAc 1, zAc 2, zAc 3, zAc 4, zAc 5, zAc 6, zAc 7, zAc 8, zAc 9, zAc 10, zAc 11, zAc 12, zAc 13, zAc 14, zAc 15, zAc 16, zAc 17, zAc 18, zAc 19, zAc 20, zAc 21, zAc 22, zAc 23, zAc 24, zAc 25, zAc 26, zAc 27, zAc 28, zAc 29, zAc 30, zAc 31, zAc 32, zAc 33, zAc 34, zAc 35, zAc 36, zAc 37] := rfl
  rw [← e]
  apply List.ext_getElem?
  intro i
  rw [List.getElem?_map]
  by_cases hi : i < 38
  . rw [List.getElem?_range hi, Option.map_some]
    unfold zAc
    rw [List.getD_eq_getElem?_getD, Qm (by omega)]; rfl
  . rw [List.getElem?_eq_none_iff.mpr (by omega), List.getElem?_eq_none_iff.mpr (by simp; omega)]; rfl
theorem yQd : b3D 423 = ⟨some zRf, (b3D 423).subs, 2373⟩ := by
  have h := zRi
  simp only [Bool.and_eq_true, beq_iff_eq] at h
  unfold zRf
  obtain ⟨⟨a, b⟩, c⟩ := h
  generalize b3D 423 = σ at a b c
  obtain ⟨m, s, t⟩ := σ
  dsimp only at a c
  subst c
  induction m with
  | none => cases a
  | some es => rfl
noncomputable def XSc (w : World) (os : OsState) : SharedT := ⟨zF4 (hlc w.params), 138, {}, #[], {}, 2374, os⟩
noncomputable def XSd (w : World) (os : OsState) : SharedT := ⟨zF4 (hld w.params), 332, {}, #[], {}, 2699, os⟩
theorem yDq (P : Params) : (hp ⟨(hlb P).toArray, {}⟩ zHo (b3D 423).subs).update mainNs (Obj.putName (Qd "b3_exceptions") (PyData.keyHash P (Qd "b3_exceptions")) (.str (Qd "b3_exceptions") 2373) (.ref 99)) = ⟨(hlc P).toArray, {}⟩ := by
  rw [zWy]
  unfold hp
  kernel_rfl
end
section
set_option maxHeartbeats 0
theorem yEr : topGo treeTable = Fast.tw15667345088766844465 Fast.tw14364793385576792824 := by rw [Fast.te15667345088766844465, Fast.te14364793385576792824]
theorem zZ9 : topRun treeTable = Fast.tw14082659384304107361 Fast.tw14364793385576792824 := by rw [Fast.te14082659384304107361, Fast.te14364793385576792824]
theorem zY6 : segRun treeTable = Fast.tw14374325043358763698 Fast.tw14364793385576792824 := by rw [Fast.te14374325043358763698, Fast.te14364793385576792824]
noncomputable def XSp (w : World) (os : OsState) : SharedT := ⟨zF4 (hlp w.params), 32, {}, #[], {}, 282, os⟩
theorem yOo (w : World) (os : OsState) : topGo treeTable pw w 28 (some (.ref 6)) 12 (S0 w os) (topStub pw) = some ((⟨⟨(hlp w.params).toArray, {}⟩, #[], {}, 282, os⟩ : Shared), ⟨denote treeTable cE, cE, zKm, B0⟩) := by
  have e : (⟨denote treeTable cE, cE, zKm, B0⟩ : Thread) = ⟨Fast.tw11892475500146522536 Fast.tw14364793385576792824 cE, cE, zKm, B0⟩ := by rw [Fast.te11892475500146522536, Fast.te14364793385576792824]
  rw [yEr, e]
  kernel_rfl
theorem yD2 (w : World) (os : OsState) : segRun treeTable pw w 28 (some (.ref 6)) 1 1 (⟨⟨(hlp w.params).toArray, {}⟩, #[], {}, 282, os⟩ : Shared) (blockOf zDz zIf cE zKm B0) = some (.next, ⟨⟨(hlp w.params).toArray, {}⟩, #[], {}, 282, os⟩, cE, zKm) := by
  rw [zY6]
  kernel_rfl
theorem zH0 (w : World) (os : OsState) : Fast.tw10110043849684766642 Fast.tw14364793385576792824 pw ((w.withFollow "special-get-raises" false).withFollow "set-order" false) 28 (some (.ref 6)) 1 1100 (Sq ((w.withFollow "special-get-raises" false).withFollow "set-order" false) os) (⟨(Fast.tw12563942051412417395 ((zDz.drop 6).take 2) zIf).wrap doneF deadEnd id id, cE, ⟨53, 0, 53, 8⟩, [topFrame zKm]⟩) = some (.next, Sb ((w.withFollow "special-get-raises" false).withFollow "set-order" false) os, cE, ⟨55, 0, 56, 30⟩) := by kernel_rfl
theorem zIu (w : World) (os : OsState) : Fast.tw10110043849684766642 Fast.tw14364793385576792824 pw ((w.withFollow "special-get-raises" true).withFollow "set-order" false) 28 (some (.ref 6)) 1 1100 (Sq ((w.withFollow "special-get-raises" true).withFollow "set-order" false) os) (⟨(Fast.tw12563942051412417395 ((zDz.drop 6).take 2) zIf).wrap doneF deadEnd id id, cE, ⟨53, 0, 53, 8⟩, [topFrame zKm]⟩) = some (.next, Sb ((w.withFollow "special-get-raises" true).withFollow "set-order" false) os, cE, ⟨55, 0, 56, 30⟩) := by kernel_rfl
theorem zIo (w : World) (os : OsState) : Fast.tw10110043849684766642 Fast.tw14364793385576792824 pw ((w.withFollow "special-get-raises" false).withFollow "set-order" true) 28 (some (.ref 6)) 1 1100 (Sq ((w.withFollow "special-get-raises" false).withFollow "set-order" true) os) (⟨(Fast.tw12563942051412417395 ((zDz.drop 6).take 2) zIf).wrap doneF deadEnd id id, cE, ⟨53, 0, 53, 8⟩, [topFrame zKm]⟩) = some (.next, Sb ((w.withFollow "special-get-raises" false).withFollow "set-order" true) os, cE, ⟨55, 0, 56, 30⟩) := by kernel_rfl
theorem zJ4 (w : World) (os : OsState) : Fast.tw10110043849684766642 Fast.tw14364793385576792824 pw ((w.withFollow "special-get-raises" true).withFollow "set-order" true) 28 (some (.ref 6)) 1 1100 (Sq ((w.withFollow "special-get-raises" true).withFollow "set-order" true) os) (⟨(Fast.tw12563942051412417395 ((zDz.drop 6).take 2) zIf).wrap doneF deadEnd id id, cE, ⟨53, 0, 53, 8⟩, [topFrame zKm]⟩) = some (.next, Sb ((w.withFollow "special-get-raises" true).withFollow "set-order" true) os, cE, ⟨55, 0, 56, 30⟩) := by kernel_rfl
theorem yPm (w : World) : ∀ (os : OsState), segRunT treeTable pw w 28 (some (.ref 6)) 1 1100 (Sq w os) (piecesOf ((zDz.drop 6).take 2) zIf cE ⟨53, 0, 53, 8⟩ [topFrame zKm]) = some (.next, Sb w os, cE, ⟨55, 0, 56, 30⟩) := by
  unfold piecesOf
  rw [zLr, zHp]
  exact byRow2 "set-order" (P := fun w => ∀ (os : OsState), Fast.tw10110043849684766642 Fast.tw14364793385576792824 pw w 28 (some (.ref 6)) 1 1100 (Sq w os) (⟨(Fast.tw12563942051412417395 ((zDz.drop 6).take 2) zIf).wrap doneF deadEnd id id, cE, ⟨53, 0, 53, 8⟩, [topFrame zKm]⟩) = some (.next, Sb w os, cE, ⟨55, 0, 56, 30⟩))
    (byRow2 "special-get-raises" (P := fun w => ∀ (os : OsState), Fast.tw10110043849684766642 Fast.tw14364793385576792824 pw (w.withFollow "set-order" false) 28 (some (.ref 6)) 1 1100 (Sq (w.withFollow "set-order" false) os) (⟨(Fast.tw12563942051412417395 ((zDz.drop 6).take 2) zIf).wrap doneF deadEnd id id, cE, ⟨53, 0, 53, 8⟩, [topFrame zKm]⟩) = some (.next, Sb (w.withFollow "set-order" false) os, cE, ⟨55, 0, 56, 30⟩)) zH0 zIu)
    (byRow2 "special-get-raises" (P := fun w => ∀ (os : OsState), Fast.tw10110043849684766642 Fast.tw14364793385576792824 pw (w.withFollow "set-order" true) 28 (some (.ref 6)) 1 1100 (Sq (w.withFollow "set-order" true) os) (⟨(Fast.tw12563942051412417395 ((zDz.drop 6).take 2) zIf).wrap doneF deadEnd id id, cE, ⟨53, 0, 53, 8⟩, [topFrame zKm]⟩) = some (.next, Sb (w.withFollow "set-order" true) os, cE, ⟨55, 0, 56, 30⟩)) zIo zJ4) w
theorem yOe (w : World) (os : OsState) (p : Pos) : topRun treeTable pw w 28 (some (.ref 6)) 2 (XSd w os).abs ⟨doneF .next, cE, p, B0⟩ = some (XSd w os).abs := by
  rw [zZ9]
  kernel_rfl
end
section
set_option maxHeartbeats 0
theorem yGm (w : World) (os : OsState) (p : Pos) : segRunT treeTable pw w 28 (some (.ref 6)) 1 1300 (XSc w os) (piecesOf (zDz.drop 9) zIf cE p [topFrame zKm]) = some (.next, XSd w os, cE, ⟨236, 0, 276, 75⟩) := by
  unfold piecesOf
  rw [zLr, zHp]
  kernel_rfl
end
section
set_option maxHeartbeats 0
theorem yA7 : importEnds treeTable = Fast.tw10274390034422433532 Fast.tw14364793385576792824 := by rw [Fast.te10274390034422433532, Fast.te14364793385576792824]
theorem yDr (w : World) : importEnds treeTable (opening pw) w 800 (start (opening pw)).1 (start (opening pw)).2 = some ⟨⟨(hlz w.params).toArray, {}⟩, #[], {}, 276, (start (opening pw)).1.os⟩ := by
  rw [yA7, Fast.te1435165496053646825]
  kernel_rfl
theorem yEq (w : World) : (fun os => (fenceModules? pw ⟨⟨(hlz w.params).toArray, {}⟩, #[], {}, 276, os⟩).map (fun s => (s.heap, s.gens, s.drawn, s.toks))) = fun _ => some ((⟨(hla w.params).toArray, {}⟩ : Heap), (#[] : Array GenState), ({} : Drawn), 276) := by
  rw [Fast.te14289696077712309145]
  kernel_rfl
theorem yM7 (N : Nat) (hN : Nat.ble 800 N = true) : ∀ w : World, (fencedOpening treeTable pw w N).map (fun s => (s.heap, s.gens, s.drawn, s.toks)) = some ((⟨(hla w.params).toArray, {}⟩ : Heap), (#[] : Array GenState), ({} : Drawn), 276) :=
  open_cut (He := fun P => ⟨(hlz P).toArray, {}⟩) (H₀ := fun P => ⟨(hla P).toArray, {}⟩) yDr hN yEq
end
section
set_option maxHeartbeats 0
noncomputable def qv : Program := { pw with main := { pw.main with body := [zPn 0, zPn 24] } }
noncomputable def zH5 : List Str := ["TICK", "decode_rfc2231", "_netrclex", "b1_set", "in_table_b1", "b3_exceptions", "map_table_b3", "tspecials", "_name_disallowed_re", "_value_disallowed_re", "_formatparam", "Headers", "_law_entry", "_law_lexer", "_law_met", "_law_turned", "_law_least", "_law_sent"]
noncomputable def H0 (P : Params) : Heap := ⟨(hla P).toArray, {}⟩
noncomputable def H1' (P : Params) : Heap := ⟨(hld P).toArray, {}⟩
noncomputable def XtV (s : Shared) : Bool := xlAt qv [] s && recOk (RowW.records PySem.Challenge.rw_sh0070_01.row.toRowW) s
noncomputable def yMf : List Addr := (List.range 100) ++ (List.range 332).drop 138
noncomputable def KV (P : Params) : Frag := yMf.map fun a => (a, (hld P).getD a default)
theorem yK9 (w : World) : ((H0 w.params).isNs mainGlobals && (#[] : Array GenState).size == 0, (H0 w.params).objs.size, (H0 w.params).nsMap mainGlobals "__annotations__") = (true, 28, some (Value.ref 6)) := by kernel_rfl
theorem yM2 (P : Params) : yMf = (KV P).map (·.1) := by kernel_rfl
theorem yPj (P : Params) : staticsOk (importedModules pw.main.body) (H0 P) (H1' P) = true := by kernel_rfl
theorem yN5 (P : Params) : namesBound pw (H1' P) = true := by kernel_rfl
theorem yPe (P : Params) (os : OsState) : gensDone ⟨H1' P, #[], {}, 2699, os⟩ = true := by kernel_rfl
theorem yOa (P : Params) : laidKept (H0 P) (H1' P) = true := by kernel_rfl
theorem yPs (P : Params) : yMf.map (H1' P).get? = (KV P).map (fun p => some p.2) := by kernel_rfl
end
section
set_option maxHeartbeats 0
theorem zV8 : @openSeen = @Fast.tw4187177175401517315 := Fast.te4187177175401517315
theorem yO2 (w : World) (os : OsState) : openSeen qv zH5 (importedModules pw.main.body) XtV true ⟨H1' w.params, #[], {}, 2699, os⟩ = openGood qv zH5 := by
  rw [zV8]
  kernel_rfl
end
section
set_option maxHeartbeats 0
noncomputable def Sh (l : List Obj) (t : Nat) (os : OsState) : Shared := ⟨⟨l.toArray, {}⟩, #[], {}, t, os⟩
theorem yPl (w : World) (os : OsState) : (XSp w os).abs = Sh (hlp w.params) 282 os := by
  exact congrArg (fun h => Shared.mk h _ _ _ _) (zI5 (hlp w.params) 32 (by kernel_rfl) (by decide) {})
theorem yOf (w : World) (os : OsState) : (Sb w os).abs = Sh (hlb w.params) 423 os := by
  exact congrArg (fun h => Shared.mk h _ _ _ _) (zI5 (hlb w.params) 99 (by kernel_rfl) (by decide) {})
theorem yOh (w : World) (os : OsState) : (XSc w os).abs = Sh (hlc w.params) 2374 os := by
  exact congrArg (fun h => Shared.mk h _ _ _ _) (zI5 (hlc w.params) 138 (by kernel_rfl) (by decide) {})
theorem yPk (w : World) (os : OsState) : (XSd w os).abs = Sh (hld w.params) 2699 os := by
  exact congrArg (fun h => Shared.mk h _ _ _ _) (zI5 (hld w.params) 332 (by kernel_rfl) (by decide) {})
theorem yQj (w : World) (os : OsState) (p : Pos) : ∃ n p', n <= 400000 /\ segRun treeTable pw w 28 (some (.ref 6)) 1 (n + 1) (Sh (hlb w.params) 423 os) (piecesOf [zQ4] zIf cE p B0) = some (.next, Sh (hlc w.params) 2374 os, cE, p') := by
  have h3 : (⟨(hlb w.params).toArray, {}⟩ : Heap).get? mainNs = some (yOv w.params) := by kernel_rfl
  have eD : b3D (Sh (hlb w.params) 423 os).toks = ⟨some zRf, (b3D 423).subs, 2373⟩ := yQd
  have eA : zOv w ⟨(hlb w.params).toArray, {}⟩ (Sh (hlb w.params) 423 os) = Sh (hlc w.params) 2374 os := by
    unfold zOv
    rw [eD]
    show Shared.mk ((hp _ zHo (b3D 423).subs).update _ _) _ _ _ _ = _
    rw [show (⟨(hlb w.params).toArray, {}⟩ : Heap).objs.size = 99 from rfl, yDq]
    rfl
  have g3 : (zNh ⟨(hlb w.params).toArray, {}⟩ (b3D (Sh (hlb w.params) 423 os).toks)).get? mainNs = some (yOv w.params) := by
    rw [eD]
    show (hp _ zHo (b3D 423).subs).get? _ = _
    unfold hp
    rw [zWy]
    kernel_rfl
  have G := yQm (w := w) (b := ⟨(hlb w.params).toArray, {}⟩) (s := Sh (hlb w.params) 423 os) (Q := fun f s' => f = .next /\ s' = Sh (hlc w.params) 2374 os) (show 28 <= 99 by decide) (show sysModules < 99 by decide) rfl h3 (by kernel_rfl) ⟨rfl, eA⟩ ⟨_, _, g3, by kernel_rfl⟩
  obtain ⟨a, s', n, hn, hb, rfl, rfl⟩ := G
  obtain ⟨p', h⟩ := hb.reach doneF deadEnd id id p
  exact ⟨n, p', hn, seg_go h rfl⟩
theorem zSu : zDz = zDz.take 6 ++ ((zDz.drop 6).take 2 ++ ([zQ4] ++ (zDz.drop 9 ++ []))) := by kernel_rfl
theorem yPh (w : World) (os : OsState) : topRun treeTable pw w 28 (some (.ref 6)) (12 + (1 + (391 + (1100 + (400001 + (1300 + 2)))))) ⟨H0 w.params, #[], {}, 276, os⟩ (topStub pw) = some ⟨H1' w.params, #[], {}, 2699, os⟩ := by
  have eR : (⟨H1' w.params, #[], {}, 2699, os⟩ : Shared) = (XSd w os).abs := (yPk w os).symm
  rw [eR]
  refine go_top (yOo w os) ?_
  refine piece_block (yD2 w os) ?_
  have main : ∀ b : List Stmt, b = zDz.take 6 ++ ((zDz.drop 6).take 2 ++ ([zQ4] ++ (zDz.drop 9 ++ []))) -> topRun treeTable pw w 28 (some (.ref 6)) (391 + (1100 + (400001 + (1300 + 2)))) (⟨⟨(hlp w.params).toArray, {}⟩, #[], {}, 282, os⟩ : Shared) (restOf b zIf cE zKm [topFrame zKm]) = some (XSd w os).abs := by
    rintro b rfl
    have A := segRun_of (yQi w os)
    have B := segRun_of (yPm w os)
    rw [show Sp w os = XSp w os from rfl, yPl] at A
    refine piece_app A ?_
    rw [yOf] at B
    refine piece_app B ?_
    obtain ⟨n, p', hn, C⟩ := yQj w os ⟨55, 0, 56, 30⟩
    have D := segRun_of (yGm w os p')
    rw [yOh] at D
    have k := piece_app C (piece_app (q := zKm) (rest := []) D (piece_nil (yOe w os _)))
    have := topRun_mono (400000 - n) _ _ _ _ k
    rw [show n + 1 + (1300 + 2) + (400000 - n) = 400001 + (1300 + 2) by omega] at this
    exact this
  exact main _ zSu
end
section
set_option maxHeartbeats 0
noncomputable abbrev zKh : Hook := kHook KV yMf yM2
theorem yN2 : LeftO pw qv zH5 XtV zKh.obs zKh.val 500000 true :=
  LeftO.of_pieces (H₀ := H0) (H₁ := H1') (gs₀ := #[]) (gs₁ := #[]) (d₀ := {}) (d₁ := {}) (k₀ := 276) (k₁ := 2699) (m₀ := 28) (ann := some (.ref 6)) (M := 12 + (1 + (391 + (1100 + (400001 + (1300 + 2))))))
    (yM7 500000 (by decide)) yK9 yPh (by decide)
    (fun w => funext fun os => by
      rw [yPj, yN5, yPe, yOa, yO2]
      exact congrArg (fun x => (true, openGood qv zH5, x)) (yPs w.params))
noncomputable def yKf (t : Stmt) : Pos := (zX6 t).pos
noncomputable def yCb : DefRec := ⟨Qd "law", zCk (zAq "law"), zA5 (zAq "law"), zAn (zAq "law"), yKf (zAq "law")⟩
theorem yD8 : W.defOf qv PySem.Challenge.rw_sh0070_01.row.name = some (yCb, []) := by kernel_rfl
theorem yEf : pw.theDef PySem.Challenge.rw_sh0070_01.row.name = some (yCb.params, yCb.body, yCb.scope) := by kernel_rfl
theorem yFz (h : PySem.Challenge.rw_sh0070_01.row.wellSaid = true) (call : WalkO qv zH5 (XL qv []) zKh.says PySem.Challenge.rw_sh0070_01.row.toRowW yCb [] fun f vs => PySem.call f vs) : PySem.Challenge.rw_sh0070_01.row.Holds := by
  refine holds_open (r := PySem.Challenge.rw_sh0070_01.row) (q := qv) (loose := zH5) (Xt := XtV) (XP := XL qv []) (Yf := zKh.obs) (Ya := zKh.val) (YP := zKh.says) (d := yCb) (kwd := []) (N := 500000) yN2 zKh.of zKh.keeps
    (fun s e => xl_of s (Qn.mp e).1) XL.keeps yD8 yEf (by rfl) (fun s e => recFacts_of (Qn.mp e).2) (by rfl) h ?ok ⟨rfl, rfl, rfl, rfl, rfl, by decide +kernel⟩ ?hw call
  . decide +kernel
  . exact ⟨[.list []], by decide +kernel, by decide +kernel⟩
theorem yO9 : PySem.Challenge.rw_sh0070_01.wellSaid = true := by
  unfold OpenLaw.wellSaid OpenRow.wellSaid OpenRow.partSaid looksOpen
  simp only [Fast.te8377067652309620493, Fast.te8179353310426384613, Fast.te3471404346716756564, Fast.te9558739934217749035, Fast.te14412699480532031325, Fast.te11788848310118352699, Fast.te10792542408131684335, Fast.te9807087744658564304, Fast.te6984425678791042302, Fast.te10501279942588096481, Fast.te2357444279172408678, Fast.te13343964577679436407, Fast.te18344453789297297638, Fast.te12862048085361865435, Fast.te13582783067957832011, Fast.te9572597257264208301, Fast.te8326940854005059898, Fast.te4857012375875476094, Fast.te5318747976498570220, Fast.te7723801398212525404, Fast.te17119622794617984870, Fast.te2368527892694137696, Fast.te17868728402115742887, Fast.te17095254045102204799, Fast.te797321630700447069, Fast.te482687673346738481, Fast.te12749700546528644094, Fast.te16286561074155671207, Fast.te17691160309236699985, Fast.te12879404354523853263, Fast.te5923862056798008813, Fast.te4274047373036748609]
  kernel_rfl
theorem zYi (call : WalkO qv zH5 (XL qv []) zKh.says PySem.Challenge.rw_sh0070_01.row.toRowW yCb [] fun f vs => PySem.call f vs) : PySem.Challenge.rw_sh0070_01.Holds :=
  holds_law yO9 fun said => yFz said call
theorem zYg {P : Params} {h : Heap} {mg : Str -> Option Value} {fa : Addr} (KX : (KV P).In h) (hn : h.Ns mainGlobals mg) (hmg : mg (Qd "law") = some (.ref fa)) : fa = 331 := by
  obtain ⟨o, es, ep, ho, hd, _, hf⟩ := hn
  have e : (KV P).lookup mainGlobals = some (yGa P) := by kernel_rfl
  have := KX _ _ e
  rw [ho] at this; cases this
  have e2 : nsFind es (Qd "law") = some (.ref 331) := by
    have e3 : (yGa P).data = .dict es ep := hd
    have e4 : ∃ es' ep', (yGa P).data = .dict es' ep' /\ nsFind es' (Qd "law") = some (.ref 331) := ⟨_, _, rfl, by kernel_rfl⟩
    obtain ⟨es', ep', h1, h2⟩ := e4
    rw [h1] at e3; cases e3; exact h2
  rw [hf, hmg] at e2
  cases e2; rfl
end
section
set_option maxHeartbeats 0
noncomputable def yFw : List Addr := yMf.filter fun a => a != 299
noncomputable def KG (P : Params) : Frag := yFw.map fun a => (a, (hld P).getD a default)
theorem zD6 (f : Addr -> Obj) (a : Addr) : ∀ l : List Addr, (l.map fun b => (b, f b)).lookup a = if a ∈ l then some (f a) else none
  | [] => rfl
  | b :: l => by
    rw [List.map_cons, List.lookup_cons]
    by_cases e : a = b
    . subst e; simp
    . rw [show (a == b) = false by simpa using e]
      simp only []
      rw [zD6 f a l]
      simp [e]
theorem yO7 {P : Params} {h : Heap} (X : (KV P).In h) : (KG P).In h := by
  intro a o e
  refine X a o ?_
  unfold KG at e
  unfold KV
  rw [zD6] at e ⊢
  by_cases m : a ∈ yFw
  . rw [if_pos m] at e
    rw [if_pos (List.mem_filter.mp m).1]; exact e
  . rw [if_neg m] at e; cases e
theorem yC7 (P : Params) : (KG P).lookup 299 = none := by
  unfold KG
  rw [zD6, if_neg]
  intro h
  have := (List.mem_filter.mp h).2
  simp at this
theorem yKl {P : Params} {h : Heap} (X : (KV P).In h) : h.get? 299 = some (tabObj #[]) := X 299 _ (by kernel_rfl)
theorem yE2 (P : Params) : (hasDictIn (KG P) 76, findIn (KG P) (.ref 76) "__getattribute__", findIn (KG P) (.ref 76) "__getattr__", findIn (KG P) (.ref 76) "__setattr__", plainOver (KG P) 76, (["lineno", "instream", "whitespace", "pushback", "read"] : List Str).map fun x => findIn (KG P) (.ref 76) x)
  = (true, some (some (.builtin "object.__getattribute__")), some none, some (some (.builtin "object.__setattr__")), true, [some none, some none, some none, some none, some none]) := by kernel_rfl
theorem yEc (P : Params) : (hasDictIn (KG P) 288, findIn (KG P) (.ref 288) "__getattribute__", findIn (KG P) (.ref 288) "__getattr__", findIn (KG P) (.ref 288) "__setattr__", plainOver (KG P) 288, (["_headers"] : List Str).map fun x => findIn (KG P) (.ref 288) x)
  = (true, some (some (.builtin "object.__getattribute__")), some none, some (some (.builtin "object.__setattr__")), true, [some none]) := by kernel_rfl
theorem yDj (P : Params) : (zFc.map fun p => (findIn (KG P) (.ref p.1) p.2.1, specialIn (KG P) (.ref p.2.2.1) "__get__", takesIn (KG P) (.ref p.2.2.1), typeIn (KG P) (.ref p.2.2.1), copiedNames.contains p.2.1))
  = zFc.map fun p => (some (some (.ref p.2.2.1)), some (some (.builtin "function.__get__")), some false, some (.type "function"), false) := by kernel_rfl
end
section
set_option maxHeartbeats 0
theorem yFr (P : Params) : (zI6.all fun k => match zAl[k]? with
    | some f => keepIn (KG P) f
    | none => true) = true := by kernel_rfl
noncomputable def yP7 (K : Frag) (x : Str) (v : Value) : Bool := match nsIn K mainGlobals x with
  | some (some w) => w == v
  | some none => (match nsIn K builtinsNs x with
    | some (some w) => w == v
    | _ => false)
  | none => false
noncomputable def yB0 : List (Option Value) := zFo.map fun p => match p.2 with
  | .stat k => zAl[k]?
  | _ => none
noncomputable def yDa (K : Frag) (x : Str) : Option Value := match nsIn K mainGlobals x with
  | some (some w) => some w
  | some none => (match nsIn K builtinsNs x with
    | some (some w) => some w
    | _ => none)
  | none => none
theorem yEs (P : Params) : (zFo.map fun p => match p.2 with
    | .stat _ => yDa (KG P) p.1
    | _ => none) = yB0 := by kernel_rfl
theorem yF6 {K : Frag} {x : Str} {v : Value} (h : yDa K x = some v) : nsIn K mainGlobals x = some (some v) ∨ (nsIn K mainGlobals x = some none /\ nsIn K builtinsNs x = some (some v)) := by
  unfold yDa at h
  generalize nsIn K mainGlobals x = a at h ⊢
  generalize nsIn K builtinsNs x = b at h ⊢
  induction a with
  | none => exact nomatch h
  | some a => induction a with
    | some w => exact .inl (congrArg some h)
    | none => induction b with
      | none => exact nomatch h
      | some b => induction b with
        | none => exact nomatch h
        | some w => exact .inr ⟨rfl, congrArg some h⟩
noncomputable def yGn : Option (Option Value) -> Option Str
  | some (some (.str x _)) => some x
  | _ => none
theorem zYb {o : Option (Option Value)} {x : Str} (h : yGn o = some x) : ∃ t, o = some (some (.str x t)) := by
  induction o with
  | none => exact nomatch h
  | some o => induction o with
    | none => exact nomatch h
    | some v => cases v with
      | str y t => exact ⟨t, by rw [show y = x from qa h]⟩
      | _ => exact nomatch h
theorem yFi (P : Params) : yGn (nsIn (KG P) mainGlobals "TICK") = some (Qd "'") := by kernel_rfl
noncomputable def fdD (d : Data) : FuncData := match d with
  | .func fd => fd
  | _ => { name := "", qualname := "", params := ⟨[], [], none, [], [], none, []⟩, body := .stmts [], scope := ⟨.module, [], false, false, []⟩, globals := 0, closure := [], defaults := .none, kwdefaults := .none, doc := .none, pyModule := .none, annotations := none, code := .none, closureTuple := .none, builtins := 0 }
noncomputable def yMy (d : Data) : Bool := match d with
  | .func _ => true
  | _ => false
noncomputable def zUe (o : Obj) : FuncData := fdD o.data
noncomputable def yP5 (o : Obj) : Bool := yMy o.data
theorem zZ5 {d : Data} (h : yMy d = true) : d = .func (fdD d) := by
  cases d with
  | func fd => rfl
  | _ => exact (Qw h).elim
theorem yE0 {o : Obj} (h : yP5 o = true) : o.data = .func (zUe o) := zZ5 h
theorem yNu (P : Params) : (zA8.map fun p => (yFw.contains p.1, yP5 ((hld P).getD p.1 default))) = zA8.map fun _ => (true, true) := by kernel_rfl
theorem yGk (P : Params) : (zA8.map fun p => (zUe ((hld P).getD p.1 default)).params) = zA8.map fun p => zCk p.2.1 := by kernel_rfl
theorem yJ4 (P : Params) : (zA8.map fun p => (zUe ((hld P).getD p.1 default)).body) = zA8.map fun p => .stmts (zA5 p.2.1) := by kernel_rfl
theorem yGz (P : Params) : (zA8.map fun p => (zUe ((hld P).getD p.1 default)).scope) = zA8.map fun p => zAn p.2.1 := by kernel_rfl
theorem yHi (P : Params) : (zA8.map fun p => ((zUe ((hld P).getD p.1 default)).globals, (zUe ((hld P).getD p.1 default)).closure, (zUe ((hld P).getD p.1 default)).builtins, (zUe ((hld P).getD p.1 default)).kwdefaults)) = zA8.map fun p => (mainGlobals, [], builtinsNs, Value.none) := by kernel_rfl
theorem yG7 (P : Params) : (zA8.map fun p => codeIn (KG P) (zUe ((hld P).getD p.1 default)).code (zUe ((hld P).getD p.1 default)).qualname) = zA8.map fun p => true := by kernel_rfl
noncomputable def zPl : Value -> Bool
  | .none => true
  | _ => false
noncomputable def zQb : List Value -> Bool
  | [v] => zPl v
  | _ => false
noncomputable def yP3 (x : String) : Value -> Bool
  | .type T => T == x
  | _ => false
theorem yEb {x : String} {v : Value} (h : yP3 x v = true) : v = .type x := by
  induction v using Value.casesOn with
  | type T => exact congrArg Value.type (eq_of_beq h)
  | _ => exact (Qw h).elim
noncomputable def zVt : Data -> Bool
  | .seq xs _ => zQb xs.toList
  | _ => false
noncomputable def zMg (o : Obj) : Bool := yP3 "tuple" o.cls && o.dict.isNone && zVt o.data && o.slots.isEmpty
noncomputable def yLp (K : Frag) : Value -> Bool
  | .ref t => (K.lookup t).any zMg
  | _ => false
noncomputable def yP6 (K : Frag) (dv : List Value) (d : Value) : Bool := (dv.isEmpty && zPl d) || (zQb dv && yLp K d)
theorem zK8 {v : Value} (h : zPl v = true) : v = .none := by cases v <;> first | rfl | exact (Qw h).elim
theorem zLb {l : List Value} (h : zQb l = true) : l = [.none] := by
  induction l using List.casesOn with
  | nil => exact (Qw h).elim
  | cons v r => induction r using List.casesOn with
    | nil => exact congrArg (fun v => [v]) (zK8 h)
    | cons => exact (Qw h).elim
theorem zS4 {d : Data} (h : zVt d = true) : ∃ n, d = .seq [Value.none].toArray n := by
  cases d with
  | seq xs n => exact ⟨n, congrArg (Data.seq · n) (congrArg List.toArray (zLb h))⟩
  | _ => exact (Qw h).elim
theorem zS1 {o : Obj} (h : zMg o = true) : ∃ n, o = zFj [.none] n := by
  obtain ⟨c, dd, d, sl⟩ := o
  have h := (Qn).mp h
  have h1 := (Qn).mp h.1
  have h2 := (Qn).mp h1.1
  obtain ⟨n, e⟩ := zS4 h1.2
  cases yEb h2.1
  cases (Option.isNone_iff_eq_none.mp h2.2 : dd = none)
  cases e
  cases (Array.isEmpty_iff.mp h.2 : sl = #[])
  exact ⟨n, rfl⟩
theorem yFk {K : Frag} {dv : List Value} {d : Value} (h : yP6 K dv d = true) : (dv = [] /\ d = .none) ∨ (dv = [.none] /\ ∃ t n, d = .ref t /\ K.lookup t = some (zFj [.none] n)) := by
  rcases (Bool.or_eq_true_iff).mp h with h | h
  . have h := (Qn).mp h
    exact .inl ⟨List.isEmpty_iff.mp h.1, zK8 h.2⟩
  . have h := (Qn).mp h
    refine .inr ⟨zLb h.1, ?_⟩
    have h2 := h.2
    induction d with
    | ref t =>
      induction e : K.lookup t with
      | none => exact (Qw (show (none.any zMg) = true from e ▸ h2)).elim
      | some o =>
        obtain ⟨n, q⟩ := zS1 (show ((some o).any zMg) = true from e ▸ h2)
        exact ⟨t, n, rfl, e.trans (congrArg some q)⟩
    | _ => exact (Qw h2).elim
theorem yM6 (P : Params) : (zA8.map fun p => yP6 (KG P) p.2.2 (zUe ((hld P).getD p.1 default)).defaults) = zA8.map fun p => true := by kernel_rfl
end
section
set_option maxHeartbeats 0
theorem zE0 {α β : Type} {f g : α -> β} : ∀ {l : List α}, l.map f = l.map g -> ∀ {x : α}, x ∈ l -> f x = g x := by
  intro l
  induction l with
  | nil =>
    rintro _ _ h
    cases h
  | cons a l ih =>
    rintro e x h
    simp only [List.map_cons, List.cons.injEq] at e
    rcases Qy.mp h with rfl | h
    . exact e.1
    . exact ih e.2 h
theorem yNg {P : Params} {a : Addr} (h : yFw.contains a = true) : (KG P).lookup a = some ((hld P).getD a default) := by
  unfold KG; rw [zD6, if_pos (by simpa using h)]
theorem yKs (P : Params) : ∀ p ∈ zA8, ∃ fd, yIh (KG P) p.1 p.2.1 p.2.2 fd := by
  intro p hp
  have h1 := zE0 (yNu P) hp
  have h5 := zE0 (yHi P) hp
  simp only [Prod.mk.injEq] at h1 h5
  refine ⟨zUe ((hld P).getD p.1 default), ⟨⟨_, yNg h1.1, yE0 h1.2⟩, zE0 (yGk P) hp, zE0 (yJ4 P) hp, zE0 (yGz P) hp, h5.1, h5.2.1, h5.2.2.1, zE0 (yG7 P) hp, h5.2.2.2, ?_⟩⟩
  have := yFk (zE0 (yM6 P) hp)
  rcases this with ⟨e1, e2⟩ | ⟨e1, e2⟩
  . rw [e1]; exact e2
  . rw [e1]; exact e2
theorem zZ4 (P : Params) : ∀ k ∈ zI6, ∀ f, zAl[k]? = some f -> keepIn (KG P) f = true := by
  intro k hk f hf
  have := Qf.mp (yFr P) k hk
  rw [hf] at this; exact this
theorem yKe (P : Params) : ∀ C names, (C, names) ∈ zDe -> yD5 (KG P) C names := by
  intro C names h
  unfold zDe at h
  simp only [Qy, List.not_mem_nil, or_false, Prod.mk.injEq] at h
  rcases h with ⟨rfl, rfl⟩ | ⟨rfl, rfl⟩
  . have e := yE2 P
    simp only [Prod.mk.injEq, List.map_cons, List.map_nil, List.cons.injEq, and_true] at e
    obtain ⟨a, b, c, d, f, g1, g2, g3, g4, g5⟩ := e
    refine ⟨a, b, c, d, f, fun x hx => ?_⟩
    simp only [Qy, List.not_mem_nil, or_false] at hx
    rcases hx with rfl | rfl | rfl | rfl | rfl <;> assumption
  . have e := yEc P
    simp only [Prod.mk.injEq, List.map_cons, List.map_nil, List.cons.injEq, and_true] at e
    obtain ⟨a, b, c, d, f, g1⟩ := e
    refine ⟨a, b, c, d, f, fun x hx => ?_⟩
    simp only [Qy, List.not_mem_nil, or_false] at hx
    subst hx; exact g1
theorem yBe (P : Params) : ∀ C x f t, (C, x, f, t) ∈ zFc -> yC9 (KG P) C x f := by
  intro C x f t h
  have e := zE0 (yDj P) h
  simp only [Prod.mk.injEq] at e
  exact ⟨e.1, e.2.1, e.2.2.1, e.2.2.2.1, e.2.2.2.2⟩
noncomputable def yCi : D -> Bool
  | .str y => y == "'"
  | _ => false
noncomputable def yBv (p : Str × V) : Bool := match p.2 with
  | .stat k => (zAl[k]?).isSome
  | .d y => p.1 == "TICK" && yCi y
  | _ => false
theorem zUx {y : D} (h : yCi y = true) : y = .str "'" := by
  cases y with
  | str y => exact congrArg D.str (eq_of_beq h)
  | _ => exact (Qw h).elim
theorem yAl {Z : zAa} {x : Str} (t : Tok) : zA2 Z (.str x) (.str x t) := ⟨t, rfl⟩
theorem zYs (P : Params) : ∀ x u, (x, u) ∈ zFo -> zLa (KG P) x u := by
  intro x u h
  have e := zE0 (yEs P) h
  have f := Qf.mp (show zFo.all yBv = true by decide) _ h
  cases u with
  | stat k =>
    obtain ⟨v, hv⟩ := Option.isSome_iff_exists.mp f
    exact ⟨v, fun Z ρ => hv, yF6 (e.trans hv)⟩
  | d y =>
    have f := (Qn).mp f
    obtain ⟨t, e⟩ := zYb (yFi P)
    exact ⟨.str "'" t, fun Z ρ => by rw [zUx f.2]; exact yAl (Z := Z) t, by rw [show x = "TICK" from eq_of_beq f.1]; exact .inl e⟩
  | _ => exact (Qw f).elim
end
section
set_option maxHeartbeats 0
theorem at1 (P : Params) {a : Addr} {o : Obj} (h : yFw.contains a = true) (e : (hld P).getD a default = o) : (KG P).lookup a = some o := by rw [yNg h, e]
noncomputable def zWu (o : Obj) : Bool := match o.data with
  | .cell (some (.ref _)) => false
  | _ => true
theorem zSy (P : Params) : (yFw.all fun a => zWu ((hld P).getD a default)) = true := by kernel_rfl
theorem zUr (P : Params) : ∀ a o l, (KG P).lookup a = some o -> o.data ≠ .cell (some (.ref l)) := by
  intro a o l h e
  unfold KG at h
  rw [zD6] at h
  by_cases m : a ∈ yFw
  . rw [if_pos m] at h
    cases h
    have := Qf.mp (zSy P) a m
    unfold zWu at this
    rw [e] at this
    cases this
  . rw [if_neg m] at h; cases h
theorem zW6 (P : Params) (h : Heap) (X : (KG P).In h) : CodeHd h 303 299 :=
  ⟨yC0 P, _, _, _, _, _, _, _, _, X 303 _ (at1 P (by decide +kernel) (by kernel_rfl)), rfl, rfl, rfl, rfl, rfl, rfl, rfl, rfl, by decide⟩
noncomputable def zQj (e : DictEntry) : Bool := match e.key with
  | .str _ _ => true
  | _ => false
theorem zK1 {es : Array DictEntry} (h : es.toList.all zQj = true) : StrKeys es := by
  intro e he
  have := Qf.mp h e (by simpa using he)
  unfold zQj at this
  split at this
  . rename_i x t q; exact ⟨x, t, q⟩
  . cases this
theorem yDl (P : Params) : ∃ es ep, (yGa P).data = .dict es ep /\ es.toList.all zQj = true /\ nsFind es "__builtins__" = some (.ref 4) := ⟨_, _, rfl, by kernel_rfl, by kernel_rfl⟩
theorem yFc (P : Params) : ∃ o es ep, (KG P).lookup mainGlobals = some o /\ o.data = .dict es ep /\ StrKeys es /\ ∀ h, (KG P).In h -> h.BuiltinsAt (nsFind es) 299 := by
  obtain ⟨es, ep, e1, e2, e3⟩ := yDl P
  refine ⟨yGa P, es, ep, at1 P (by decide +kernel) (by kernel_rfl), e1, zK1 e2, fun h X => ?_⟩
  exact ⟨4, yCt P, e3, by decide, by decide, by decide, X 4 _ (at1 P (by decide +kernel) (by kernel_rfl)), rfl, rfl, rfl⟩
theorem yA4 (P : Params) : (makesIn (KG P) 76, findIn (KG P) (.ref 76) "__init__", typeIn (KG P) (.ref 52), makesIn (KG P) 288, findIn (KG P) (.ref 288) "__init__", typeIn (KG P) (.ref 182))
  = (true, some (some (.ref 52)), some (.type "function"), true, some (some (.ref 182)), some (.type "function")) := by kernel_rfl
theorem zYw (P : Params) : seqItemTypes.all (fun T => mroIn (KG P) 288 (.type T) == some false) = true := by kernel_rfl
theorem zSo (P : Params) : ∃ es ep, ((hld P).getD 2 default).data = .dict es ep /\ es.toList.all zQj = true /\ nsFind es "sys.recursionlimit" = none := ⟨_, _, rfl, by kernel_rfl, by kernel_rfl⟩
theorem yBm (P : Params) (h : Heap) (X : (KG P).In h) : h.NoLimit := by
  obtain ⟨es, ep, e1, e2, e3⟩ := zSo P
  exact ⟨nsFind es, ⟨_, es, ep, X 2 _ (at1 P (by decide +kernel) rfl), e1, zK1 e2, fun _ => rfl⟩, e3⟩
noncomputable def zTg : List DictEntry -> List (Int × Str) -> Bool
  | [], [] => true
  | e :: es, (k, x) :: l => (match e.key, e.val with
    | .int k' _, .str x' _ => k' == k && x' == x && e.hash == hashInt k
    | _, _ => false) && zTg es l
  | _, _ => false
theorem yE5 {e : DictEntry} {k : Int} {x : Str} (h : (match e.key, e.val with
    | .int k' _, .str x' _ => k' == k && x' == x && e.hash == hashInt k
    | _, _ => false) = true) : (∃ t, e.key = .int k t) /\ (∃ t, e.val = .str x t) /\ e.hash = hashInt k := by
  obtain ⟨hash, key, val⟩ := e
  cases key <;> first | exact (Qw h).elim | skip
  cases val <;> first | exact (Qw h).elim | skip
  rename_i i t y u
  have h : (i == k && y == x && hash == hashInt k) = true := h
  rw [Bool.and_eq_true, Bool.and_eq_true] at h
  exact ⟨⟨t, by rw [eq_of_beq h.1.1]⟩, ⟨u, by rw [eq_of_beq h.1.2]⟩, eq_of_beq h.2⟩
theorem zKy {e : DictEntry} {es : List DictEntry} {k : Int} {x : Str} {l : List (Int × Str)} (h : zTg (e :: es) ((k, x) :: l) = true) : ((∃ t, e.key = .int k t) /\ (∃ t, e.val = .str x t) /\ e.hash = hashInt k) /\ zTg es l = true :=
  have q := (Qn).mp h
  ⟨yE5 q.1, q.2⟩
theorem yA9 : ∀ {es : List DictEntry} {l : List (Int × Str)}, zTg es l = true -> ∀ e ∈ es, ∃ k t, e.key = .int k t /\ e.hash = hashInt k := by
  intro es
  induction es with
  | nil => intro _ _ e m; cases m
  | cons e es ih =>
    intro l h e' m
    cases l with
    | nil => cases h
    | cons q l =>
      obtain ⟨k, x⟩ := q
      obtain ⟨⟨⟨t, h1⟩, _, h3⟩, h2⟩ := zKy h
      rcases Qy.mp m with rfl | m
      . exact ⟨k, t, h1, h3⟩
      . exact ih h2 e' m
theorem yBs : ∀ {es : List DictEntry} {l : List (Int × Str)} (k : Int), zTg es l = true -> (es.find? (fun e => Value.isInt k e.key) = none /\ l.lookup k = none) ∨ ∃ e x t, es.find? (fun e => Value.isInt k e.key) = some e /\ e.val = .str x t /\ l.lookup k = some x := by
  intro es
  induction es with
  | nil =>
    intro l k h
    cases l with
    | nil => exact .inl ⟨rfl, rfl⟩
    | cons => cases h
  | cons e es ih =>
    intro l k h
    cases l with
    | nil => cases h
    | cons q l =>
      obtain ⟨k', x⟩ := q
      obtain ⟨⟨⟨t, h1⟩, ⟨t', h2⟩, _⟩, h3⟩ := zKy h
      rw [List.find?_cons, List.lookup_cons, h1]
      by_cases q : k = k'
      . rw [show Value.isInt k (.int k' t) = true from beq_iff_eq.mpr q.symm, show (k == k') = true from beq_iff_eq.mpr q]
        exact .inr ⟨e, x, t', rfl, h2, rfl⟩
      . rw [show Value.isInt k (.int k' t) = false from beq_eq_false_iff_ne.mpr fun z => q z.symm, show (k == k') = false from beq_eq_false_iff_ne.mpr q]
        exact ih k h3
end
section
set_option maxHeartbeats 0
noncomputable def dEs (o : Obj) : Array DictEntry := match o.data with
  | .dict es _ => es
  | _ => #[]
noncomputable def dEp (o : Obj) : Nat := match o.data with
  | .dict _ ep => ep
  | _ => 0
noncomputable def zO3 (o : Obj) : Bool := (match o.cls, o.data with
  | .type T, .dict _ _ => T == "dict"
  | _, _ => false) && o.dict.isNone && o.slots.isEmpty
theorem zK5 {o : Obj} (h : zO3 o = true) : o.cls = .type "dict" /\ o.data = .dict (dEs o) (dEp o) /\ o.dict = none /\ o.slots = #[] := by
  unfold zO3 at h
  simp only [Bool.and_eq_true] at h
  obtain ⟨⟨h1, h2⟩, h3⟩ := h
  unfold dEs dEp
  split at h1
  . rename_i T es ep q1 q2
    rw [q1, q2]
    have : T = "dict" := by simpa using h1
    subst this
    exact ⟨rfl, rfl, by simpa using h2, by simpa using h3⟩
  . cases h1
theorem zN9 : zO3 zHo = true := by decide +kernel
theorem yCc : zTg (dEs zHo).toList zWr = true := by decide +kernel
theorem yLt (P : Params) : (KG P).lookup 99 = some zHo := at1 P (by decide +kernel) rfl
theorem yOb (P : Params) : ∃ f : Int -> Option Value, (∀ h, (KG P).In h -> h.IntMap 99 f) /\ ∀ k, (f k = none /\ zJt k = none) ∨ ∃ x t, f k = some (.str x t) /\ zJt k = some x := by
  obtain ⟨e1, e2, e3, e4⟩ := zK5 zN9
  refine ⟨findBy Value.isInt (dEs zHo), fun h X => ⟨zHo, _, _, X 99 _ (yLt P), e1, e2, fun e he => yA9 yCc e (by simpa using he), fun _ => rfl⟩, fun k => ?_⟩
  have key : findBy Value.isInt (dEs zHo) k = ((dEs zHo).toList.find? fun e => Value.isInt k e.key).map (·.val) := by unfold findBy; rw [← Array.find?_toList]
  rcases yBs k yCc with ⟨h1, h2⟩ | ⟨e, x, t, h1, h2, h3⟩
  . exact .inl ⟨by rw [key, h1]; rfl, h2⟩
  . exact .inr ⟨x, t, by rw [key, h1]; show some e.val = _; rw [h2], h3⟩
theorem yEy (P : Params) : ∃ f0 f1 f3 f4, (KG P).lookup 154 = some ⟨.type "re.Pattern", none, .fields #[f0, f1, .int 0 0, f3, f4, .ref 153, .int 0 0], #[]⟩ := ⟨_, _, _, _, at1 P (by decide +kernel) rfl⟩
theorem yDf (P : Params) : ∃ f0 f1 f3 f4, (KG P).lookup 159 = some ⟨.type "re.Pattern", none, .fields #[f0, f1, .int 0 0, f3, f4, .ref 158, .int 0 0], #[]⟩ := ⟨_, _, _, _, at1 P (by decide +kernel) rfl⟩
theorem yAy (P : Params) : (KG P).lookup 153 = some (zFj ((zK6 "_name_disallowed_re").map fun (c : Nat) => .int (c : Int) 0) 0) := at1 P (by decide +kernel) (by kernel_rfl)
theorem yAz (P : Params) : (KG P).lookup 158 = some (zFj ((zK6 "_value_disallowed_re").map fun (c : Nat) => .int (c : Int) 0) 0) := at1 P (by decide +kernel) (by kernel_rfl)
noncomputable def yIe (e : Int × Value) : Bool := match e.2 with
  | .int k _ => e.1 == hashInt k
  | _ => false
noncomputable def kB1 (e : Int × Value) : Int := match e.2 with
  | .int k _ => k
  | _ => 0
theorem yJ6 (P : Params) : ∃ es n t, (KG P).lookup 88 = some ⟨.type "set", none, .set es n t, #[]⟩ /\ es.toList.all yIe = true /\ (es.toList.all fun e => zG3.contains (kB1 e)) = true /\ (zG3.all fun k => es.toList.any fun e => kB1 e == k) = true /\ es.size = 27 /\ t.fits 27 = true := by
  refine ⟨_, _, _, at1 P (by decide +kernel) rfl, by decide +kernel, by decide +kernel, by decide +kernel, by decide +kernel, ?_⟩
  cases P.followText "set-order" <;> decide +kernel
theorem yOn (P : Params) : ∃ es n t, (KG P).lookup 88 = some ⟨.type "set", none, .set es n t, #[]⟩ /\ (∀ e ∈ es, ∃ k t, e = (hashInt k, .int k t)) /\ (∀ k : Int, zG3.contains k = true ↔ ∃ e ∈ es, ∃ t, e.2 = .int k t) /\ es.size = 27 /\ t.fits 27 = true := by
  obtain ⟨es, n, t, h1, h2, h3, h4, h5, h6⟩ := yJ6 P
  have ch : ∀ e ∈ es, ∃ k t, e = (hashInt k, .int k t) := by
    intro e he
    have := Qf.mp h2 e (by simpa using he)
    obtain ⟨a, v⟩ := e
    unfold yIe at this
    split at this
    . rename_i k t q
      dsimp only at q
      subst q
      exact ⟨k, t, by rw [show a = hashInt k by simpa using this]⟩
    . cases this
  refine ⟨es, n, t, h1, ch, fun k => ⟨fun hk => ?_, fun ⟨e, he, t, q⟩ => ?_⟩, h5, h6⟩
  . have := Qf.mp h4 k (by simpa using hk)
    obtain ⟨e, he, q⟩ := List.any_eq_true.mp this
    have he' : e ∈ es := by simpa using he
    obtain ⟨k', t', rfl⟩ := ch e he'
    have : k' = k := by simpa [kB1] using q
    subst this
    exact ⟨_, he', t', rfl⟩
  . have := Qf.mp h3 e (by simpa using he)
    unfold kB1 at this
    rw [q] at this; exact this
theorem yDu (P : Params) : yCl (KG P) where
  mods := ⟨_, at1 P (by decide +kernel) rfl⟩
  noseq := zYw P
  nocell := zUr P
  notab := yC7 P
  lexcode := zW6 P
  lexfn := ⟨yC5 P, _, at1 P (by decide +kernel) (by kernel_rfl), rfl, rfl⟩
  glb := yFc P
  makes := by
    intro C f h
    have e := yA4 P
    simp only [Prod.mk.injEq] at e
    simp only [Qy, List.not_mem_nil, or_false, Prod.mk.injEq] at h
    rcases h with ⟨rfl, rfl⟩ | ⟨rfl, rfl⟩
    . exact ⟨e.1, e.2.1, e.2.2.1⟩
    . exact ⟨e.2.2.2.1, e.2.2.2.2.1, e.2.2.2.2.2⟩
  d4 := by
    obtain ⟨e1, e2, e3, e4⟩ := zK5 zN9
    exact ⟨zHo, yLt P, e1, e3, e4⟩
  b3 := yOb P
  pat7 := yEy P
  code7 := yAy P
  pat8 := yDf P
  code8 := yAz P
  b1 := yOn P
noncomputable def gOf (w : World) (os : OsState) : G where
  w := w
  K := KG w.params
  nolim := yBm w.params
  fns := yKs w.params
  os := os
  keep := zZ4 w.params
  cls := yKe w.params
  meth := yBe w.params
  glob := zYs w.params
  stat := yDu w.params
end
section
set_option maxHeartbeats 0
def zI3 : Prop := ∀ xs : List Int, xs.length = 6 -> (∀ x ∈ xs, 0 <= x /\ x < 1000000000) -> yEw (xs.map zAd)
noncomputable def zOf (P : Params) (l : Addr) (vs : List Value) : zAa := fun a => match (KG P).lookup a with
  | some o => some o
  | none => if a = l then some (zAr vs 0) else none
theorem zQr {Z : zAa} : ∀ {ns : List Int} {vs : List Value}, IntsAre vs ns -> zAk Z (ns.map .int) vs
  | _, _, .nil => zAk.nil
  | _, _, .cons n t h => .cons (by simp only [zA2]; exact ⟨t, rfl⟩) (zQr h)
theorem zZq (F : zI3) (w : World) (s : Shared) (l : Addr) (vs : List Value) (ns : List Int) (KX : (KV w.params).In s.heap) (hg : s.gens = #[]) (hL : s.heap.get? l = some (zAr vs 0)) (hI : IntsAre vs ns) (hlen : ns.length <= 63) :
    wpAny (model pw w) callerA (call (.ref 331) [.ref l]) (fun v s' => v = .bool true /\ OldK s.heap s'.heap /\ s'.os = s.os /\ s'.gens = #[]) (fun _ _ => False) s := by
  have KG' := yO7 KX
  have h299 := yKl KX
  have zin : (zOf w.params l vs).In s.heap := by
    intro a o e
    unfold zOf at e
    split at e
    . rename_i o' e'; cases e; exact KG' _ _ e'
    . split at e
      . rename_i q; cases e; rw [q]; exact hL
      . cases e
  have zl : zOf w.params l vs l = some (zAr vs 0) := by
    unfold zOf
    split
    . rename_i o e; have := KG' _ _ e; rw [hL] at this; exact this.symm
    . rw [if_pos rfl]
  have ne : (299 : Addr) ≠ l := by
    intro e; rw [← e, h299] at hL; cases hL
  have z299 : zOf w.params l vs 299 = none := by
    unfold zOf; rw [yC7]; show (if (299 : Addr) = l then _ else _) = _; rw [if_neg ne]
  let X : zAa := fun a => if zOf w.params l vs a = none /\ a ≠ 299 then s.heap.get? a else none
  have only : ∀ (i : Nat) (a : Addr), ([299] : List Addr)[i]? = some a -> i = 0 /\ a = 299 := by
    intro i a e
    cases i with
    | zero => simp at e; exact ⟨rfl, e.symm⟩
    | succ i => simp at e
  have S : AtC [.raw 0 (tabObj #[])] (zOf w.params l vs) X [299] s.heap := by
    refine ⟨rfl, zin, fun a o e => ?_, fun i j a c c' e1 e2 _ _ _ _ => ?_, fun i a c e1 _ _ => ?_, fun a o e => ?_, fun i a c e1 _ _ => ?_, fun i a c e1 e2 _ => ?_⟩
    . show s.heap.get? a = _
      have e : (if zOf w.params l vs a = none /\ a ≠ 299 then s.heap.get? a else none) = some o := e
      split at e
      . exact e
      . cases e
    . rw [(only i a e1).1, (only j a e2).1]
    . rw [(only i a e1).2]; exact z299
    . have e : (if zOf w.params l vs a = none /\ a ≠ 299 then s.heap.get? a else none) = some o := e
      split at e
      . rename_i q; exact q.1
      . cases e
    . show (if zOf w.params l vs a = none /\ a ≠ 299 then s.heap.get? a else none) = none
      rw [if_neg (by rw [(only i a e1).2]; exact fun q => q.2 rfl)]
    . obtain ⟨rfl, rfl⟩ := only i a e1
      cases e2
      exact ⟨_, h299, rfl, rfl⟩
  have st : zEq (gOf w s.os).K (zOf w.params l vs) := by
    intro a o e
    have e : (KG w.params).lookup a = some o := e
    unfold zOf; rw [e]
  have rm : zDr 9 callerA := ⟨rfl, by decide +kernel, by decide +kernel⟩
  refine wpAny_mono (yQx (g := gOf w s.os) (n := 0) (is := ns) (K' := fun u c => u = .d (.bool true) /\ ∃ ps r, c = .raw 0 (tabObj ps) :: r) hlen F (fun ps c => ⟨rfl, ps, c, rfl⟩) callerA (zOf w.params l vs) X [299] s
    (fun v s' => v = .bool true /\ OldK s.heap s'.heap /\ s'.os = s.os /\ s'.gens = #[]) (.ref 331) [.ref l] [] rm st S ⟨hg, rfl⟩ rfl ⟨_, [], rfl, ?_, rfl⟩ rfl ?_) (fun _ _ h => h) (fun _ _ h => h)
  . show zA2 _ _ _
    simp only [zA2]
    exact ⟨l, vs, 0, rfl, zl, zQr hI⟩
  . rintro v u c' Z' ρ' s' ⟨rfl, ps, r, rfl⟩ k p S' ax' rv
    have hv : v = .bool true := by simpa [zAw, zA2] using rv
    refine ⟨hv, ⟨fun b o e => ?_, fun b o e => ?_⟩, ax'.2, ax'.1⟩
    . by_cases q : b = 299
      . subst q
        rw [h299] at e; cases e
        obtain ⟨o', ho', ro, hr⟩ := S'.c 0 299 _ (zEh p rfl) rfl rfl
        refine .inr (.inl ⟨((zW6 w.params _ KG').tab h299).isCodeTable, rfl, #[], ps, rfl, ?_⟩)
        rw [ho', ro]; simp
      . cases ez : zOf w.params l vs b with
        | some o' =>
          have e1 := zin _ _ ez
          rw [e] at e1; cases e1
          exact .inl (S'.z _ _ (k _ _ ez))
        | none =>
          refine .inl (S'.x b o ?_)
          show (if zOf w.params l vs b = none /\ b ≠ 299 then s.heap.get? b else none) = some o
          rw [if_pos ⟨ez, q⟩]; exact e
    . by_cases q : b = 299
      . subst q
        obtain ⟨o', ho', _⟩ := S'.c 0 299 _ (zEh p rfl) rfl rfl
        exact ⟨o', ho'⟩
      . cases ez : zOf w.params l vs b with
        | some o' => exact ⟨o', S'.z _ _ (k _ _ ez)⟩
        | none =>
          refine ⟨o, S'.x b o ?_⟩
          show (if zOf w.params l vs b = none /\ b ≠ 299 then s.heap.get? b else none) = some o
          rw [if_pos ⟨ez, q⟩]; exact e
theorem zUp (F : zI3) : WalkO qv zH5 (XL qv []) zKh.says PySem.Challenge.rw_sh0070_01.row.toRowW yCb [] fun f vs => PySem.call f vs := by
  intro w s₀ s₁ mg mb G Y fa o pm cd doc dV kV ho hd hcd hD hmg hg args vals as hpre hlay hrd hwl hlo
  have KX := kIn_of Y
  clear Y
  have V := (Ground.X G).2
  have hfa := zYg KX G.T.g hmg
  subst hfa
  wrow_args hpre hlay hrd hwl hlo
  rename_i ns _ _ _ _ _ _ _ l vs _ hL _ hW _ hI _ hlen _
  have hobj : s₁.heap.get? l = some (zAr vs 0) := by
    obtain ⟨ol, hol, _, m, hdl⟩ := hL
    cases hW with
    | list e _ =>
      rw [hol] at e; cases e
      have : vs.toArray = _ := (Data.seq.inj hdl).1.symm
      rw [hol]
      have e2 := (Data.seq.inj hdl).1
      show some (_ : Obj) = some (⟨.type "list", none, .seq vs.toArray 0, #[]⟩ : Obj)
      rw [← e2]
  refine wpAny_mono (zZq F w s₁ l vs ns KX hg hobj hI (by omega)) ?_ (fun _ _ h => h.elim)
  rintro v s' ⟨rfl, k1, k2, k3⟩
  refine ⟨.inl ⟨.bool true, .bool true, [], rfl, fun _ => rfl, ?_, ?_, fun _ => ⟨.nil, fun a h => by cases h⟩⟩, k1, k2, .of_eq k3⟩
  . exact .bool _
  . first | kernel_rfl | wrow_post
theorem holds_of (F : zI3) : PySem.Challenge.rw_sh0070_01.Holds := zYi (zUp F)
end
theorem all_of_facts : zI3 := fun xs h _ => all_facts xs h
end Mine
theorem PySem.Challenge.cw_sh0070_01_holds : PySem.Challenge.rw_sh0070_01.Holds := by
  exact Mine.holds_of Mine.all_of_facts
