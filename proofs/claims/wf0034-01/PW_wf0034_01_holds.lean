import PyProof.Rows.All
import Wide.All
import OpenK.AllK
import Wide.FinOn
import PySem.Challenge.RW_wf0034_01
set_option Elab.async false
open PySem.W PyProof.Rows
local macro_rules | `(tactic| walk_at $s:str) => `(tactic| k_extra $s)
section
open PySem PySem.W PyProof.Rows
set_option Elab.async false
set_option maxRecDepth 100000
set_option maxHeartbeats 100000000
namespace Mine
structure Lit {α : Type} (x : α) : Prop where
noncomputable abbrev Lit.of {α : Type} {x : α} (_ : Lit x) : α := x
noncomputable def stAt (i : Nat) : Stmt := PySem.Challenge.pw_wf0034_01.main.body.getD i (.Pass default)
noncomputable def argsAt (i : Nat) : Arguments := match stAt i with
  | .FunctionDef _ a _ _ _ _ _ _ _ _ => a
  | _ => default
noncomputable def bodyAt (i : Nat) : List Stmt := match stAt i with
  | .FunctionDef _ _ b _ _ _ _ _ _ _ => b
  | _ => []
noncomputable def scopeAt (i : Nat) : Scope := match stAt i with
  | .FunctionDef _ _ _ _ _ _ s _ _ _ => s
  | _ => default
noncomputable abbrev fa_1 : Arguments := by
  refine Lit.of (x := ?x) ?p
  case p =>
    have b : Lit (argsAt 1) := ⟨⟩
    conv at b => arg 1; whnf
    exact b
noncomputable abbrev fb_1 : List Stmt := by
  refine Lit.of (x := ?x) ?p
  case p =>
    have b : Lit (bodyAt 1) := ⟨⟩
    conv at b => arg 1; whnf
    exact b
noncomputable abbrev fs_1 : Scope := by
  refine Lit.of (x := ?x) ?p
  case p =>
    have b : Lit (scopeAt 1) := ⟨⟩
    conv at b => arg 1; whnf
    exact b
noncomputable abbrev fa_2 : Arguments := by
  refine Lit.of (x := ?x) ?p
  case p =>
    have b : Lit (argsAt 2) := ⟨⟩
    conv at b => arg 1; whnf
    exact b
noncomputable abbrev fb_2 : List Stmt := by
  refine Lit.of (x := ?x) ?p
  case p =>
    have b : Lit (bodyAt 2) := ⟨⟩
    conv at b => arg 1; whnf
    exact b
noncomputable abbrev fs_2 : Scope := by
  refine Lit.of (x := ?x) ?p
  case p =>
    have b : Lit (scopeAt 2) := ⟨⟩
    conv at b => arg 1; whnf
    exact b
noncomputable abbrev fa_3 : Arguments := by
  refine Lit.of (x := ?x) ?p
  case p =>
    have b : Lit (argsAt 3) := ⟨⟩
    conv at b => arg 1; whnf
    exact b
noncomputable abbrev fb_3 : List Stmt := by
  refine Lit.of (x := ?x) ?p
  case p =>
    have b : Lit (bodyAt 3) := ⟨⟩
    conv at b => arg 1; whnf
    exact b
noncomputable abbrev fs_3 : Scope := by
  refine Lit.of (x := ?x) ?p
  case p =>
    have b : Lit (scopeAt 3) := ⟨⟩
    conv at b => arg 1; whnf
    exact b
noncomputable abbrev fa_5 : Arguments := by
  refine Lit.of (x := ?x) ?p
  case p =>
    have b : Lit (argsAt 5) := ⟨⟩
    conv at b => arg 1; whnf
    exact b
noncomputable abbrev fb_5 : List Stmt := by
  refine Lit.of (x := ?x) ?p
  case p =>
    have b : Lit (bodyAt 5) := ⟨⟩
    conv at b => arg 1; whnf
    exact b
noncomputable abbrev fs_5 : Scope := by
  refine Lit.of (x := ?x) ?p
  case p =>
    have b : Lit (scopeAt 5) := ⟨⟩
    conv at b => arg 1; whnf
    exact b
noncomputable abbrev st_5 : Stmt := by
  refine Lit.of (x := ?x) ?p
  case p =>
    have b : Lit (stAt 5) := ⟨⟩
    conv at b => arg 1; whnf
    exact b
noncomputable abbrev fa_6 : Arguments := by
  refine Lit.of (x := ?x) ?p
  case p =>
    have b : Lit (argsAt 6) := ⟨⟩
    conv at b => arg 1; whnf
    exact b
noncomputable abbrev fb_6 : List Stmt := by
  refine Lit.of (x := ?x) ?p
  case p =>
    have b : Lit (bodyAt 6) := ⟨⟩
    conv at b => arg 1; whnf
    exact b
noncomputable abbrev fs_6 : Scope := by
  refine Lit.of (x := ?x) ?p
  case p =>
    have b : Lit (scopeAt 6) := ⟨⟩
    conv at b => arg 1; whnf
    exact b
noncomputable abbrev st_6 : Stmt := by
  refine Lit.of (x := ?x) ?p
  case p =>
    have b : Lit (stAt 6) := ⟨⟩
    conv at b => arg 1; whnf
    exact b
noncomputable abbrev fa_8 : Arguments := by
  refine Lit.of (x := ?x) ?p
  case p =>
    have b : Lit (argsAt 8) := ⟨⟩
    conv at b => arg 1; whnf
    exact b
noncomputable abbrev fb_8 : List Stmt := by
  refine Lit.of (x := ?x) ?p
  case p =>
    have b : Lit (bodyAt 8) := ⟨⟩
    conv at b => arg 1; whnf
    exact b
noncomputable abbrev fs_8 : Scope := by
  refine Lit.of (x := ?x) ?p
  case p =>
    have b : Lit (scopeAt 8) := ⟨⟩
    conv at b => arg 1; whnf
    exact b
noncomputable abbrev st_8 : Stmt := by
  refine Lit.of (x := ?x) ?p
  case p =>
    have b : Lit (stAt 8) := ⟨⟩
    conv at b => arg 1; whnf
    exact b
noncomputable abbrev fa_9 : Arguments := by
  refine Lit.of (x := ?x) ?p
  case p =>
    have b : Lit (argsAt 9) := ⟨⟩
    conv at b => arg 1; whnf
    exact b
noncomputable abbrev fb_9 : List Stmt := by
  refine Lit.of (x := ?x) ?p
  case p =>
    have b : Lit (bodyAt 9) := ⟨⟩
    conv at b => arg 1; whnf
    exact b
noncomputable abbrev fs_9 : Scope := by
  refine Lit.of (x := ?x) ?p
  case p =>
    have b : Lit (scopeAt 9) := ⟨⟩
    conv at b => arg 1; whnf
    exact b
noncomputable abbrev st_9 : Stmt := by
  refine Lit.of (x := ?x) ?p
  case p =>
    have b : Lit (stAt 9) := ⟨⟩
    conv at b => arg 1; whnf
    exact b
noncomputable abbrev fa_10 : Arguments := by
  refine Lit.of (x := ?x) ?p
  case p =>
    have b : Lit (argsAt 10) := ⟨⟩
    conv at b => arg 1; whnf
    exact b
noncomputable abbrev fb_10 : List Stmt := by
  refine Lit.of (x := ?x) ?p
  case p =>
    have b : Lit (bodyAt 10) := ⟨⟩
    conv at b => arg 1; whnf
    exact b
noncomputable abbrev fs_10 : Scope := by
  refine Lit.of (x := ?x) ?p
  case p =>
    have b : Lit (scopeAt 10) := ⟨⟩
    conv at b => arg 1; whnf
    exact b
noncomputable abbrev st_10 : Stmt := by
  refine Lit.of (x := ?x) ?p
  case p =>
    have b : Lit (stAt 10) := ⟨⟩
    conv at b => arg 1; whnf
    exact b
noncomputable abbrev fa_11 : Arguments := by
  refine Lit.of (x := ?x) ?p
  case p =>
    have b : Lit (argsAt 11) := ⟨⟩
    conv at b => arg 1; whnf
    exact b
noncomputable abbrev fb_11 : List Stmt := by
  refine Lit.of (x := ?x) ?p
  case p =>
    have b : Lit (bodyAt 11) := ⟨⟩
    conv at b => arg 1; whnf
    exact b
noncomputable abbrev fs_11 : Scope := by
  refine Lit.of (x := ?x) ?p
  case p =>
    have b : Lit (scopeAt 11) := ⟨⟩
    conv at b => arg 1; whnf
    exact b
noncomputable abbrev st_11 : Stmt := by
  refine Lit.of (x := ?x) ?p
  case p =>
    have b : Lit (stAt 11) := ⟨⟩
    conv at b => arg 1; whnf
    exact b
noncomputable abbrev fa_13 : Arguments := by
  refine Lit.of (x := ?x) ?p
  case p =>
    have b : Lit (argsAt 13) := ⟨⟩
    conv at b => arg 1; whnf
    exact b
noncomputable abbrev fb_13 : List Stmt := by
  refine Lit.of (x := ?x) ?p
  case p =>
    have b : Lit (bodyAt 13) := ⟨⟩
    conv at b => arg 1; whnf
    exact b
noncomputable abbrev fs_13 : Scope := by
  refine Lit.of (x := ?x) ?p
  case p =>
    have b : Lit (scopeAt 13) := ⟨⟩
    conv at b => arg 1; whnf
    exact b
noncomputable abbrev st_13 : Stmt := by
  refine Lit.of (x := ?x) ?p
  case p =>
    have b : Lit (stAt 13) := ⟨⟩
    conv at b => arg 1; whnf
    exact b
noncomputable abbrev fa_14 : Arguments := by
  refine Lit.of (x := ?x) ?p
  case p =>
    have b : Lit (argsAt 14) := ⟨⟩
    conv at b => arg 1; whnf
    exact b
noncomputable abbrev fb_14 : List Stmt := by
  refine Lit.of (x := ?x) ?p
  case p =>
    have b : Lit (bodyAt 14) := ⟨⟩
    conv at b => arg 1; whnf
    exact b
noncomputable abbrev fs_14 : Scope := by
  refine Lit.of (x := ?x) ?p
  case p =>
    have b : Lit (scopeAt 14) := ⟨⟩
    conv at b => arg 1; whnf
    exact b
noncomputable abbrev st_14 : Stmt := by
  refine Lit.of (x := ?x) ?p
  case p =>
    have b : Lit (stAt 14) := ⟨⟩
    conv at b => arg 1; whnf
    exact b
noncomputable abbrev fa_15 : Arguments := by
  refine Lit.of (x := ?x) ?p
  case p =>
    have b : Lit (argsAt 15) := ⟨⟩
    conv at b => arg 1; whnf
    exact b
noncomputable abbrev fb_15 : List Stmt := by
  refine Lit.of (x := ?x) ?p
  case p =>
    have b : Lit (bodyAt 15) := ⟨⟩
    conv at b => arg 1; whnf
    exact b
noncomputable abbrev fs_15 : Scope := by
  refine Lit.of (x := ?x) ?p
  case p =>
    have b : Lit (scopeAt 15) := ⟨⟩
    conv at b => arg 1; whnf
    exact b
noncomputable abbrev st_15 : Stmt := by
  refine Lit.of (x := ?x) ?p
  case p =>
    have b : Lit (stAt 15) := ⟨⟩
    conv at b => arg 1; whnf
    exact b
noncomputable abbrev fa_16 : Arguments := by
  refine Lit.of (x := ?x) ?p
  case p =>
    have b : Lit (argsAt 16) := ⟨⟩
    conv at b => arg 1; whnf
    exact b
noncomputable abbrev fb_16 : List Stmt := by
  refine Lit.of (x := ?x) ?p
  case p =>
    have b : Lit (bodyAt 16) := ⟨⟩
    conv at b => arg 1; whnf
    exact b
noncomputable abbrev fs_16 : Scope := by
  refine Lit.of (x := ?x) ?p
  case p =>
    have b : Lit (scopeAt 16) := ⟨⟩
    conv at b => arg 1; whnf
    exact b
noncomputable abbrev st_16 : Stmt := by
  refine Lit.of (x := ?x) ?p
  case p =>
    have b : Lit (stAt 16) := ⟨⟩
    conv at b => arg 1; whnf
    exact b
noncomputable abbrev fa_17 : Arguments := by
  refine Lit.of (x := ?x) ?p
  case p =>
    have b : Lit (argsAt 17) := ⟨⟩
    conv at b => arg 1; whnf
    exact b
noncomputable abbrev fb_17 : List Stmt := by
  refine Lit.of (x := ?x) ?p
  case p =>
    have b : Lit (bodyAt 17) := ⟨⟩
    conv at b => arg 1; whnf
    exact b
noncomputable abbrev fs_17 : Scope := by
  refine Lit.of (x := ?x) ?p
  case p =>
    have b : Lit (scopeAt 17) := ⟨⟩
    conv at b => arg 1; whnf
    exact b
noncomputable abbrev st_17 : Stmt := by
  refine Lit.of (x := ?x) ?p
  case p =>
    have b : Lit (stAt 17) := ⟨⟩
    conv at b => arg 1; whnf
    exact b
noncomputable abbrev fa_18 : Arguments := by
  refine Lit.of (x := ?x) ?p
  case p =>
    have b : Lit (argsAt 18) := ⟨⟩
    conv at b => arg 1; whnf
    exact b
noncomputable abbrev fb_18 : List Stmt := by
  refine Lit.of (x := ?x) ?p
  case p =>
    have b : Lit (bodyAt 18) := ⟨⟩
    conv at b => arg 1; whnf
    exact b
noncomputable abbrev fs_18 : Scope := by
  refine Lit.of (x := ?x) ?p
  case p =>
    have b : Lit (scopeAt 18) := ⟨⟩
    conv at b => arg 1; whnf
    exact b
noncomputable abbrev st_18 : Stmt := by
  refine Lit.of (x := ?x) ?p
  case p =>
    have b : Lit (stAt 18) := ⟨⟩
    conv at b => arg 1; whnf
    exact b
noncomputable abbrev fa_19 : Arguments := by
  refine Lit.of (x := ?x) ?p
  case p =>
    have b : Lit (argsAt 19) := ⟨⟩
    conv at b => arg 1; whnf
    exact b
noncomputable abbrev fb_19 : List Stmt := by
  refine Lit.of (x := ?x) ?p
  case p =>
    have b : Lit (bodyAt 19) := ⟨⟩
    conv at b => arg 1; whnf
    exact b
noncomputable abbrev fs_19 : Scope := by
  refine Lit.of (x := ?x) ?p
  case p =>
    have b : Lit (scopeAt 19) := ⟨⟩
    conv at b => arg 1; whnf
    exact b
noncomputable abbrev st_19 : Stmt := by
  refine Lit.of (x := ?x) ?p
  case p =>
    have b : Lit (stAt 19) := ⟨⟩
    conv at b => arg 1; whnf
    exact b
noncomputable abbrev fa_20 : Arguments := by
  refine Lit.of (x := ?x) ?p
  case p =>
    have b : Lit (argsAt 20) := ⟨⟩
    conv at b => arg 1; whnf
    exact b
noncomputable abbrev fb_20 : List Stmt := by
  refine Lit.of (x := ?x) ?p
  case p =>
    have b : Lit (bodyAt 20) := ⟨⟩
    conv at b => arg 1; whnf
    exact b
noncomputable abbrev fs_20 : Scope := by
  refine Lit.of (x := ?x) ?p
  case p =>
    have b : Lit (scopeAt 20) := ⟨⟩
    conv at b => arg 1; whnf
    exact b
noncomputable abbrev st_20 : Stmt := by
  refine Lit.of (x := ?x) ?p
  case p =>
    have b : Lit (stAt 20) := ⟨⟩
    conv at b => arg 1; whnf
    exact b
noncomputable abbrev fa_21 : Arguments := by
  refine Lit.of (x := ?x) ?p
  case p =>
    have b : Lit (argsAt 21) := ⟨⟩
    conv at b => arg 1; whnf
    exact b
noncomputable abbrev fb_21 : List Stmt := by
  refine Lit.of (x := ?x) ?p
  case p =>
    have b : Lit (bodyAt 21) := ⟨⟩
    conv at b => arg 1; whnf
    exact b
noncomputable abbrev fs_21 : Scope := by
  refine Lit.of (x := ?x) ?p
  case p =>
    have b : Lit (scopeAt 21) := ⟨⟩
    conv at b => arg 1; whnf
    exact b
noncomputable abbrev st_21 : Stmt := by
  refine Lit.of (x := ?x) ?p
  case p =>
    have b : Lit (stAt 21) := ⟨⟩
    conv at b => arg 1; whnf
    exact b
noncomputable abbrev fa_22 : Arguments := by
  refine Lit.of (x := ?x) ?p
  case p =>
    have b : Lit (argsAt 22) := ⟨⟩
    conv at b => arg 1; whnf
    exact b
noncomputable abbrev fb_22 : List Stmt := by
  refine Lit.of (x := ?x) ?p
  case p =>
    have b : Lit (bodyAt 22) := ⟨⟩
    conv at b => arg 1; whnf
    exact b
noncomputable abbrev fs_22 : Scope := by
  refine Lit.of (x := ?x) ?p
  case p =>
    have b : Lit (scopeAt 22) := ⟨⟩
    conv at b => arg 1; whnf
    exact b
noncomputable abbrev st_22 : Stmt := by
  refine Lit.of (x := ?x) ?p
  case p =>
    have b : Lit (stAt 22) := ⟨⟩
    conv at b => arg 1; whnf
    exact b
noncomputable def hd.heap_39 : Params → Frag := fun P =>
  (nat_lit 2, { cls := Value.none, data := Data.dict #[] }) ::
  (nat_lit 3, { cls := Value.type "dict", data := Data.dict #[{ hash := PyData.keyHash P (Str.ofString "__name__"), key := Value.str (Str.ofString "__name__") 165, val := Value.str (Str.ofString "law_wf0034_01") 298 }, { hash := PyData.keyHash P (Str.ofString "__doc__"), key := Value.str (Str.ofString "__doc__") 166, val := Value.none }, { hash := PyData.keyHash P (Str.ofString "__package__"), key := Value.str (Str.ofString "__package__") 167, val := Value.none }, { hash := PyData.keyHash P (Str.ofString "__loader__"), key := Value.str (Str.ofString "__loader__") 168, val := Value.builtin "__main__.__loader__#opaque" }, { hash := PyData.keyHash P (Str.ofString "__spec__"), key := Value.str (Str.ofString "__spec__") 169, val := Value.none }, { hash := PyData.keyHash P (Str.ofString "__annotations__"), key := Value.str (Str.ofString "__annotations__") 170, val := Value.ref 6 }, { hash := PyData.keyHash P (Str.ofString "__builtins__"), key := Value.str (Str.ofString "__builtins__") 171, val := Value.ref 4 }, { hash := PyData.keyHash P (Str.ofString "__file__"), key := Value.str (Str.ofString "__file__") 173, val := Value.str (Str.ofString "/claim/cut.py") 172 }, { hash := PyData.keyHash P (Str.ofString "__cached__"), key := Value.str (Str.ofString "__cached__") 174, val := Value.none }, { hash := PyData.keyHash P (Str.ofString "insort_right"), key := Value.str (Str.ofString "insort_right") 201, val := Value.ref 23 }, { hash := PyData.keyHash P (Str.ofString "bisect_right"), key := Value.str (Str.ofString "bisect_right") 215, val := Value.ref 32 }, { hash := PyData.keyHash P (Str.ofString "bisect_left"), key := Value.str (Str.ofString "bisect_left") 229, val := Value.ref 41 }, { hash := PyData.keyHash P (Str.ofString "rgb_to_hsv"), key := Value.str (Str.ofString "rgb_to_hsv") 249, val := Value.ref 48 }, { hash := PyData.keyHash P (Str.ofString "hsv_to_rgb"), key := Value.str (Str.ofString "hsv_to_rgb") 263, val := Value.ref 55 }, { hash := PyData.keyHash P (Str.ofString "add"), key := Value.str (Str.ofString "add") 273, val := Value.ref 62 }, { hash := PyData.keyHash P (Str.ofString "mul"), key := Value.str (Str.ofString "mul") 281, val := Value.ref 69 }, { hash := PyData.keyHash P (Str.ofString "sub"), key := Value.str (Str.ofString "sub") 289, val := Value.ref 76 }, { hash := PyData.keyHash P (Str.ofString "delitem"), key := Value.str (Str.ofString "delitem") 297, val := Value.ref 83 }, { hash := PyData.keyHash P (Str.ofString "_law_painted"), key := Value.str (Str.ofString "_law_painted") 306, val := Value.ref 90 }, { hash := PyData.keyHash P (Str.ofString "_law_tone"), key := Value.str (Str.ofString "_law_tone") 313, val := Value.ref 97 }, { hash := PyData.keyHash P (Str.ofString "_law_ring"), key := Value.str (Str.ofString "_law_ring") 319, val := Value.ref 102 }, { hash := PyData.keyHash P (Str.ofString "_law_apart"), key := Value.str (Str.ofString "_law_apart") 330, val := Value.ref 109 }, { hash := PyData.keyHash P (Str.ofString "_law_pairings"), key := Value.str (Str.ofString "_law_pairings") 336, val := Value.ref 114 }, { hash := PyData.keyHash P (Str.ofString "_law_met"), key := Value.str (Str.ofString "_law_met") 351, val := Value.ref 121 }, { hash := PyData.keyHash P (Str.ofString "_law_parts"), key := Value.str (Str.ofString "_law_parts") 365, val := Value.ref 128 }, { hash := PyData.keyHash P (Str.ofString "_law_table"), key := Value.str (Str.ofString "_law_table") 371, val := Value.ref 133 }, { hash := PyData.keyHash P (Str.ofString "_law_determinant"), key := Value.str (Str.ofString "_law_determinant") 386, val := Value.ref 140 }, { hash := PyData.keyHash P (Str.ofString "law"), key := Value.str (Str.ofString "law") 392, val := Value.ref 145 }] 28 }) ::
  (nat_lit 15, { cls := Value.type "tuple", data := Data.seq #[Value.int 0 189, Value.none] }) ::
  (nat_lit 16, { cls := Value.type "dict", data := Data.dict #[{ hash := PyData.keyHash P (Str.ofString "key"), key := Value.str (Str.ofString "key") 190, val := Value.none }] 1 }) ::
  (nat_lit 17, { cls := Value.type "tuple", data := Data.seq #[] }) ::
  (nat_lit 19, { cls := Value.type "tuple", data := Data.seq #[Value.str (Str.ofString "a") 194, Value.str (Str.ofString "x") 195, Value.str (Str.ofString "lo") 196, Value.str (Str.ofString "hi") 197, Value.str (Str.ofString "key") 198] }) ::
  (nat_lit 20, { cls := Value.type "tuple", data := Data.seq #[] }) ::
  (nat_lit 22, { cls := Value.type "code", data := Data.fields #[Value.str (Str.ofString "insort_right") 191, Value.str (Str.ofString "insort_right") 192, Value.str (Str.ofString "/claim/cut.py") 193, Value.int 2 0, Value.int 4 0, Value.int 0 0, Value.int 1 0, Value.int 3 0, Value.ref 17, Value.bool true, Value.int 181 0, Value.ref 18, Value.none, Value.ref 19, Value.ref 20, Value.ref 21, Value.int 199 0, Value.int 2 0, Value.str (Str.ofString "/claim/cut.py") 200] }) ::
  (nat_lit 23, { cls := Value.type "function", data := Data.func { name := Str.ofString "insort_right", qualname := Str.ofString "insort_right", params := fa_1, body := .stmts fb_1, scope := fs_1, globals := 3, closure := [], defaults := Value.ref 15, kwdefaults := Value.ref 16, pyModule := Value.str (Str.ofString "cpy313.bisect") 187, code := Value.ref 22 } }) ::
  (nat_lit 24, { cls := Value.type "tuple", data := Data.seq #[Value.int 0 202, Value.none] }) ::
  (nat_lit 25, { cls := Value.type "dict", data := Data.dict #[{ hash := PyData.keyHash P (Str.ofString "key"), key := Value.str (Str.ofString "key") 203, val := Value.none }] 1 }) ::
  (nat_lit 26, { cls := Value.type "tuple", data := Data.seq #[] }) ::
  (nat_lit 28, { cls := Value.type "tuple", data := Data.seq #[Value.str (Str.ofString "a") 207, Value.str (Str.ofString "x") 208, Value.str (Str.ofString "lo") 209, Value.str (Str.ofString "hi") 210, Value.str (Str.ofString "key") 211, Value.str (Str.ofString "mid") 212] }) ::
  (nat_lit 29, { cls := Value.type "tuple", data := Data.seq #[] }) ::
  (nat_lit 31, { cls := Value.type "code", data := Data.fields #[Value.str (Str.ofString "bisect_right") 204, Value.str (Str.ofString "bisect_right") 205, Value.str (Str.ofString "/claim/cut.py") 206, Value.int 8 0, Value.int 4 0, Value.int 0 0, Value.int 1 0, Value.int 3 0, Value.ref 26, Value.bool true, Value.int 181 0, Value.ref 27, Value.none, Value.ref 28, Value.ref 29, Value.ref 30, Value.int 213 0, Value.int 8 0, Value.str (Str.ofString "/claim/cut.py") 214] }) ::
  (nat_lit 32, { cls := Value.type "function", data := Data.func { name := Str.ofString "bisect_right", qualname := Str.ofString "bisect_right", params := fa_2, body := .stmts fb_2, scope := fs_2, globals := 3, closure := [], defaults := Value.ref 24, kwdefaults := Value.ref 25, pyModule := Value.str (Str.ofString "cpy313.bisect") 187, code := Value.ref 31 } }) ::
  (nat_lit 33, { cls := Value.type "tuple", data := Data.seq #[Value.int 0 216, Value.none] }) ::
  (nat_lit 34, { cls := Value.type "dict", data := Data.dict #[{ hash := PyData.keyHash P (Str.ofString "key"), key := Value.str (Str.ofString "key") 217, val := Value.none }] 1 }) ::
  (nat_lit 35, { cls := Value.type "tuple", data := Data.seq #[] }) ::
  (nat_lit 37, { cls := Value.type "tuple", data := Data.seq #[Value.str (Str.ofString "a") 221, Value.str (Str.ofString "x") 222, Value.str (Str.ofString "lo") 223, Value.str (Str.ofString "hi") 224, Value.str (Str.ofString "key") 225, Value.str (Str.ofString "mid") 226] }) ::
  (nat_lit 38, { cls := Value.type "tuple", data := Data.seq #[] }) ::
  (nat_lit 40, { cls := Value.type "code", data := Data.fields #[Value.str (Str.ofString "bisect_left") 218, Value.str (Str.ofString "bisect_left") 219, Value.str (Str.ofString "/claim/cut.py") 220, Value.int 28 0, Value.int 4 0, Value.int 0 0, Value.int 1 0, Value.int 3 0, Value.ref 35, Value.bool true, Value.int 181 0, Value.ref 36, Value.none, Value.ref 37, Value.ref 38, Value.ref 39, Value.int 227 0, Value.int 28 0, Value.str (Str.ofString "/claim/cut.py") 228] }) ::
  (nat_lit 41, { cls := Value.type "function", data := Data.func { name := Str.ofString "bisect_left", qualname := Str.ofString "bisect_left", params := fa_3, body := .stmts fb_3, scope := fs_3, globals := 3, closure := [], defaults := Value.ref 33, kwdefaults := Value.ref 34, pyModule := Value.str (Str.ofString "cpy313.bisect") 187, code := Value.ref 40 } }) ::
  (nat_lit 42, { cls := Value.type "tuple", data := Data.seq #[] }) ::
  (nat_lit 44, { cls := Value.type "tuple", data := Data.seq #[Value.str (Str.ofString "r") 235, Value.str (Str.ofString "g") 236, Value.str (Str.ofString "b") 237, Value.str (Str.ofString "maxc") 238, Value.str (Str.ofString "minc") 239, Value.str (Str.ofString "rangec") 240, Value.str (Str.ofString "v") 241, Value.str (Str.ofString "s") 242, Value.str (Str.ofString "rc") 243, Value.str (Str.ofString "gc") 244, Value.str (Str.ofString "bc") 245, Value.str (Str.ofString "h") 246] }) ::
  (nat_lit 45, { cls := Value.type "tuple", data := Data.seq #[] }) ::
  (nat_lit 47, { cls := Value.type "code", data := Data.fields #[Value.str (Str.ofString "rgb_to_hsv") 232, Value.str (Str.ofString "rgb_to_hsv") 233, Value.str (Str.ofString "/claim/cut.py") 234, Value.int 49 0, Value.int 3 0, Value.int 0 0, Value.int 0 0, Value.int 3 0, Value.ref 42, Value.bool true, Value.int 181 0, Value.ref 43, Value.none, Value.ref 44, Value.ref 45, Value.ref 46, Value.int 247 0, Value.int 49 0, Value.str (Str.ofString "/claim/cut.py") 248] }) ::
  (nat_lit 48, { cls := Value.type "function", data := Data.func { name := Str.ofString "rgb_to_hsv", qualname := Str.ofString "rgb_to_hsv", params := fa_5, body := .stmts fb_5, scope := fs_5, globals := 3, closure := [], defaults := Value.none, kwdefaults := Value.none, pyModule := Value.str (Str.ofString "cpy313.colorsys") 230, code := Value.ref 47 } }) ::
  (nat_lit 49, { cls := Value.type "tuple", data := Data.seq #[] }) ::
  (nat_lit 51, { cls := Value.type "tuple", data := Data.seq #[Value.str (Str.ofString "h") 253, Value.str (Str.ofString "s") 254, Value.str (Str.ofString "v") 255, Value.str (Str.ofString "i") 256, Value.str (Str.ofString "f") 257, Value.str (Str.ofString "p") 258, Value.str (Str.ofString "q") 259, Value.str (Str.ofString "t") 260] }) ::
  (nat_lit 52, { cls := Value.type "tuple", data := Data.seq #[] }) ::
  (nat_lit 54, { cls := Value.type "code", data := Data.fields #[Value.str (Str.ofString "hsv_to_rgb") 250, Value.str (Str.ofString "hsv_to_rgb") 251, Value.str (Str.ofString "/claim/cut.py") 252, Value.int 68 0, Value.int 3 0, Value.int 0 0, Value.int 0 0, Value.int 3 0, Value.ref 49, Value.bool true, Value.int 181 0, Value.ref 50, Value.none, Value.ref 51, Value.ref 52, Value.ref 53, Value.int 261 0, Value.int 68 0, Value.str (Str.ofString "/claim/cut.py") 262] }) ::
  (nat_lit 55, { cls := Value.type "function", data := Data.func { name := Str.ofString "hsv_to_rgb", qualname := Str.ofString "hsv_to_rgb", params := fa_6, body := .stmts fb_6, scope := fs_6, globals := 3, closure := [], defaults := Value.none, kwdefaults := Value.none, pyModule := Value.str (Str.ofString "cpy313.colorsys") 230, code := Value.ref 54 } }) ::
  (nat_lit 56, { cls := Value.type "tuple", data := Data.seq #[] }) ::
  (nat_lit 58, { cls := Value.type "tuple", data := Data.seq #[Value.str (Str.ofString "a") 269, Value.str (Str.ofString "b") 270] }) ::
  (nat_lit 59, { cls := Value.type "tuple", data := Data.seq #[] }) ::
  (nat_lit 61, { cls := Value.type "code", data := Data.fields #[Value.str (Str.ofString "add") 266, Value.str (Str.ofString "add") 267, Value.str (Str.ofString "/claim/cut.py") 268, Value.int 90 0, Value.int 2 0, Value.int 0 0, Value.int 0 0, Value.int 3 0, Value.ref 56, Value.bool true, Value.int 181 0, Value.ref 57, Value.none, Value.ref 58, Value.ref 59, Value.ref 60, Value.int 271 0, Value.int 90 0, Value.str (Str.ofString "/claim/cut.py") 272] }) ::
  (nat_lit 62, { cls := Value.type "function", data := Data.func { name := Str.ofString "add", qualname := Str.ofString "add", params := fa_8, body := .stmts fb_8, scope := fs_8, globals := 3, closure := [], defaults := Value.none, kwdefaults := Value.none, pyModule := Value.str (Str.ofString "cpy313.operator") 264, code := Value.ref 61 } }) ::
  (nat_lit 63, { cls := Value.type "tuple", data := Data.seq #[] }) ::
  (nat_lit 65, { cls := Value.type "tuple", data := Data.seq #[Value.str (Str.ofString "a") 277, Value.str (Str.ofString "b") 278] }) ::
  (nat_lit 66, { cls := Value.type "tuple", data := Data.seq #[] }) ::
  (nat_lit 68, { cls := Value.type "code", data := Data.fields #[Value.str (Str.ofString "mul") 274, Value.str (Str.ofString "mul") 275, Value.str (Str.ofString "/claim/cut.py") 276, Value.int 92 0, Value.int 2 0, Value.int 0 0, Value.int 0 0, Value.int 3 0, Value.ref 63, Value.bool true, Value.int 181 0, Value.ref 64, Value.none, Value.ref 65, Value.ref 66, Value.ref 67, Value.int 279 0, Value.int 92 0, Value.str (Str.ofString "/claim/cut.py") 280] }) ::
  (nat_lit 69, { cls := Value.type "function", data := Data.func { name := Str.ofString "mul", qualname := Str.ofString "mul", params := fa_9, body := .stmts fb_9, scope := fs_9, globals := 3, closure := [], defaults := Value.none, kwdefaults := Value.none, pyModule := Value.str (Str.ofString "cpy313.operator") 264, code := Value.ref 68 } }) ::
  (nat_lit 70, { cls := Value.type "tuple", data := Data.seq #[] }) ::
  (nat_lit 72, { cls := Value.type "tuple", data := Data.seq #[Value.str (Str.ofString "a") 285, Value.str (Str.ofString "b") 286] }) ::
  (nat_lit 73, { cls := Value.type "tuple", data := Data.seq #[] }) ::
  (nat_lit 75, { cls := Value.type "code", data := Data.fields #[Value.str (Str.ofString "sub") 282, Value.str (Str.ofString "sub") 283, Value.str (Str.ofString "/claim/cut.py") 284, Value.int 94 0, Value.int 2 0, Value.int 0 0, Value.int 0 0, Value.int 3 0, Value.ref 70, Value.bool true, Value.int 181 0, Value.ref 71, Value.none, Value.ref 72, Value.ref 73, Value.ref 74, Value.int 287 0, Value.int 94 0, Value.str (Str.ofString "/claim/cut.py") 288] }) ::
  (nat_lit 76, { cls := Value.type "function", data := Data.func { name := Str.ofString "sub", qualname := Str.ofString "sub", params := fa_10, body := .stmts fb_10, scope := fs_10, globals := 3, closure := [], defaults := Value.none, kwdefaults := Value.none, pyModule := Value.str (Str.ofString "cpy313.operator") 264, code := Value.ref 75 } }) ::
  (nat_lit 77, { cls := Value.type "tuple", data := Data.seq #[] }) ::
  (nat_lit 79, { cls := Value.type "tuple", data := Data.seq #[Value.str (Str.ofString "a") 293, Value.str (Str.ofString "b") 294] }) ::
  (nat_lit 80, { cls := Value.type "tuple", data := Data.seq #[] }) ::
  (nat_lit 82, { cls := Value.type "code", data := Data.fields #[Value.str (Str.ofString "delitem") 290, Value.str (Str.ofString "delitem") 291, Value.str (Str.ofString "/claim/cut.py") 292, Value.int 96 0, Value.int 2 0, Value.int 0 0, Value.int 0 0, Value.int 3 0, Value.ref 77, Value.bool true, Value.int 181 0, Value.ref 78, Value.none, Value.ref 79, Value.ref 80, Value.ref 81, Value.int 295 0, Value.int 96 0, Value.str (Str.ofString "/claim/cut.py") 296] }) ::
  (nat_lit 83, { cls := Value.type "function", data := Data.func { name := Str.ofString "delitem", qualname := Str.ofString "delitem", params := fa_11, body := .stmts fb_11, scope := fs_11, globals := 3, closure := [], defaults := Value.none, kwdefaults := Value.none, pyModule := Value.str (Str.ofString "cpy313.operator") 264, code := Value.ref 82 } }) ::
  (nat_lit 84, { cls := Value.type "tuple", data := Data.seq #[] }) ::
  (nat_lit 86, { cls := Value.type "tuple", data := Data.seq #[Value.str (Str.ofString "draw") 303] }) ::
  (nat_lit 87, { cls := Value.type "tuple", data := Data.seq #[] }) ::
  (nat_lit 89, { cls := Value.type "code", data := Data.fields #[Value.str (Str.ofString "_law_painted") 300, Value.str (Str.ofString "_law_painted") 301, Value.str (Str.ofString "/claim/cut.py") 302, Value.int 99 0, Value.int 1 0, Value.int 0 0, Value.int 0 0, Value.int 3 0, Value.ref 84, Value.bool true, Value.int 181 0, Value.ref 85, Value.none, Value.ref 86, Value.ref 87, Value.ref 88, Value.int 304 0, Value.int 99 0, Value.str (Str.ofString "/claim/cut.py") 305] }) ::
  (nat_lit 90, { cls := Value.type "function", data := Data.func { name := Str.ofString "_law_painted", qualname := Str.ofString "_law_painted", params := fa_13, body := .stmts fb_13, scope := fs_13, globals := 3, closure := [], defaults := Value.none, kwdefaults := Value.none, pyModule := Value.str (Str.ofString "law_wf0034_01") 298, code := Value.ref 89 } }) ::
  (nat_lit 91, { cls := Value.type "tuple", data := Data.seq #[] }) ::
  (nat_lit 93, { cls := Value.type "tuple", data := Data.seq #[Value.str (Str.ofString "spot") 310] }) ::
  (nat_lit 94, { cls := Value.type "tuple", data := Data.seq #[] }) ::
  (nat_lit 96, { cls := Value.type "code", data := Data.fields #[Value.str (Str.ofString "_law_tone") 307, Value.str (Str.ofString "_law_tone") 308, Value.str (Str.ofString "/claim/cut.py") 309, Value.int 101 0, Value.int 1 0, Value.int 0 0, Value.int 0 0, Value.int 3 0, Value.ref 91, Value.bool true, Value.int 181 0, Value.ref 92, Value.none, Value.ref 93, Value.ref 94, Value.ref 95, Value.int 311 0, Value.int 101 0, Value.str (Str.ofString "/claim/cut.py") 312] }) ::
  (nat_lit 97, { cls := Value.type "function", data := Data.func { name := Str.ofString "_law_tone", qualname := Str.ofString "_law_tone", params := fa_14, body := .stmts fb_14, scope := fs_14, globals := 3, closure := [], defaults := Value.none, kwdefaults := Value.none, pyModule := Value.str (Str.ofString "law_wf0034_01") 298, code := Value.ref 96 } }) ::
  (nat_lit 98, { cls := Value.type "tuple", data := Data.seq #[] }) ::
  (nat_lit 101, { cls := Value.type "code", data := Data.fields #[Value.str (Str.ofString "_law_ring") 314, Value.str (Str.ofString "_law_ring") 315, Value.str (Str.ofString "/claim/cut.py") 316, Value.int 103 0, Value.int 2 0, Value.int 0 0, Value.int 0 0, Value.int 3 0, Value.ref 98, Value.bool true, Value.int 181 0, Value.ref 99, Value.none, Value.none, Value.none, Value.ref 100, Value.int 317 0, Value.int 103 0, Value.str (Str.ofString "/claim/cut.py") 318] }) ::
  (nat_lit 102, { cls := Value.type "function", data := Data.func { name := Str.ofString "_law_ring", qualname := Str.ofString "_law_ring", params := fa_15, body := .stmts fb_15, scope := fs_15, globals := 3, closure := [], defaults := Value.none, kwdefaults := Value.none, pyModule := Value.str (Str.ofString "law_wf0034_01") 298, code := Value.ref 101 } }) ::
  (nat_lit 103, { cls := Value.type "tuple", data := Data.seq #[] }) ::
  (nat_lit 105, { cls := Value.type "tuple", data := Data.seq #[Value.str (Str.ofString "one") 323, Value.str (Str.ofString "other") 324, Value.str (Str.ofString "far") 325, Value.str (Str.ofString "part") 326, Value.str (Str.ofString "beside") 327] }) ::
  (nat_lit 106, { cls := Value.type "tuple", data := Data.seq #[] }) ::
  (nat_lit 108, { cls := Value.type "code", data := Data.fields #[Value.str (Str.ofString "_law_apart") 320, Value.str (Str.ofString "_law_apart") 321, Value.str (Str.ofString "/claim/cut.py") 322, Value.int 110 0, Value.int 2 0, Value.int 0 0, Value.int 0 0, Value.int 3 0, Value.ref 103, Value.bool true, Value.int 181 0, Value.ref 104, Value.none, Value.ref 105, Value.ref 106, Value.ref 107, Value.int 328 0, Value.int 110 0, Value.str (Str.ofString "/claim/cut.py") 329] }) ::
  (nat_lit 109, { cls := Value.type "function", data := Data.func { name := Str.ofString "_law_apart", qualname := Str.ofString "_law_apart", params := fa_16, body := .stmts fb_16, scope := fs_16, globals := 3, closure := [], defaults := Value.none, kwdefaults := Value.none, pyModule := Value.str (Str.ofString "law_wf0034_01") 298, code := Value.ref 108 } }) ::
  (nat_lit 110, { cls := Value.type "tuple", data := Data.seq #[] }) ::
  (nat_lit 113, { cls := Value.type "code", data := Data.fields #[Value.str (Str.ofString "_law_pairings") 331, Value.str (Str.ofString "_law_pairings") 332, Value.str (Str.ofString "/claim/cut.py") 333, Value.int 115 0, Value.int 1 0, Value.int 0 0, Value.int 0 0, Value.int 3 0, Value.ref 110, Value.bool true, Value.int 181 0, Value.ref 111, Value.none, Value.none, Value.none, Value.ref 112, Value.int 334 0, Value.int 115 0, Value.str (Str.ofString "/claim/cut.py") 335] }) ::
  (nat_lit 114, { cls := Value.type "function", data := Data.func { name := Str.ofString "_law_pairings", qualname := Str.ofString "_law_pairings", params := fa_17, body := .stmts fb_17, scope := fs_17, globals := 3, closure := [], defaults := Value.none, kwdefaults := Value.none, pyModule := Value.str (Str.ofString "law_wf0034_01") 298, code := Value.ref 113 } }) ::
  (nat_lit 115, { cls := Value.type "tuple", data := Data.seq #[] }) ::
  (nat_lit 117, { cls := Value.type "tuple", data := Data.seq #[Value.str (Str.ofString "pairs") 340, Value.str (Str.ofString "fronts") 341, Value.str (Str.ofString "waiting") 342, Value.str (Str.ofString "crossed") 343, Value.str (Str.ofString "within") 344, Value.str (Str.ofString "front") 345, Value.str (Str.ofString "back") 346, Value.str (Str.ofString "place") 347, Value.str (Str.ofString "spot") 348] }) ::
  (nat_lit 118, { cls := Value.type "tuple", data := Data.seq #[] }) ::
  (nat_lit 120, { cls := Value.type "code", data := Data.fields #[Value.str (Str.ofString "_law_met") 337, Value.str (Str.ofString "_law_met") 338, Value.str (Str.ofString "/claim/cut.py") 339, Value.int 123 0, Value.int 1 0, Value.int 0 0, Value.int 0 0, Value.int 3 0, Value.ref 115, Value.bool true, Value.int 181 0, Value.ref 116, Value.none, Value.ref 117, Value.ref 118, Value.ref 119, Value.int 349 0, Value.int 123 0, Value.str (Str.ofString "/claim/cut.py") 350] }) ::
  (nat_lit 121, { cls := Value.type "function", data := Data.func { name := Str.ofString "_law_met", qualname := Str.ofString "_law_met", params := fa_18, body := .stmts fb_18, scope := fs_18, globals := 3, closure := [], defaults := Value.none, kwdefaults := Value.none, pyModule := Value.str (Str.ofString "law_wf0034_01") 298, code := Value.ref 120 } }) ::
  (nat_lit 122, { cls := Value.type "tuple", data := Data.seq #[] }) ::
  (nat_lit 124, { cls := Value.type "tuple", data := Data.seq #[Value.str (Str.ofString "draw") 355, Value.str (Str.ofString "spot") 356, Value.str (Str.ofString "share") 357, Value.str (Str.ofString "value") 358, Value.str (Str.ofString "parts") 359, Value.str (Str.ofString "corner") 360, Value.str (Str.ofString "way") 361, Value.str (Str.ofString "fall") 362] }) ::
  (nat_lit 125, { cls := Value.type "tuple", data := Data.seq #[] }) ::
  (nat_lit 127, { cls := Value.type "code", data := Data.fields #[Value.str (Str.ofString "_law_parts") 352, Value.str (Str.ofString "_law_parts") 353, Value.str (Str.ofString "/claim/cut.py") 354, Value.int 136 0, Value.int 1 0, Value.int 0 0, Value.int 0 0, Value.int 3 0, Value.ref 122, Value.bool true, Value.int 181 0, Value.ref 123, Value.none, Value.ref 124, Value.ref 125, Value.ref 126, Value.int 363 0, Value.int 136 0, Value.str (Str.ofString "/claim/cut.py") 364] }) ::
  (nat_lit 128, { cls := Value.type "function", data := Data.func { name := Str.ofString "_law_parts", qualname := Str.ofString "_law_parts", params := fa_19, body := .stmts fb_19, scope := fs_19, globals := 3, closure := [], defaults := Value.none, kwdefaults := Value.none, pyModule := Value.str (Str.ofString "law_wf0034_01") 298, code := Value.ref 127 } }) ::
  (nat_lit 129, { cls := Value.type "tuple", data := Data.seq #[] }) ::
  (nat_lit 132, { cls := Value.type "code", data := Data.fields #[Value.str (Str.ofString "_law_table") 366, Value.str (Str.ofString "_law_table") 367, Value.str (Str.ofString "/claim/cut.py") 368, Value.int 144 0, Value.int 1 0, Value.int 0 0, Value.int 0 0, Value.int 3 0, Value.ref 129, Value.bool true, Value.int 181 0, Value.ref 130, Value.none, Value.none, Value.none, Value.ref 131, Value.int 369 0, Value.int 144 0, Value.str (Str.ofString "/claim/cut.py") 370] }) ::
  (nat_lit 133, { cls := Value.type "function", data := Data.func { name := Str.ofString "_law_table", qualname := Str.ofString "_law_table", params := fa_20, body := .stmts fb_20, scope := fs_20, globals := 3, closure := [], defaults := Value.none, kwdefaults := Value.none, pyModule := Value.str (Str.ofString "law_wf0034_01") 298, code := Value.ref 132 } }) ::
  (nat_lit 134, { cls := Value.type "tuple", data := Data.seq #[] }) ::
  (nat_lit 136, { cls := Value.type "tuple", data := Data.seq #[Value.str (Str.ofString "table") 375, Value.str (Str.ofString "sums") 376, Value.str (Str.ofString "line") 377, Value.str (Str.ofString "grown") 378, Value.str (Str.ofString "taken") 379, Value.str (Str.ofString "value") 380, Value.str (Str.ofString "signed") 381, Value.str (Str.ofString "column") 382, Value.str (Str.ofString "mark") 383] }) ::
  (nat_lit 137, { cls := Value.type "tuple", data := Data.seq #[] }) ::
  (nat_lit 139, { cls := Value.type "code", data := Data.fields #[Value.str (Str.ofString "_law_determinant") 372, Value.str (Str.ofString "_law_determinant") 373, Value.str (Str.ofString "/claim/cut.py") 374, Value.int 153 0, Value.int 1 0, Value.int 0 0, Value.int 0 0, Value.int 3 0, Value.ref 134, Value.bool true, Value.int 181 0, Value.ref 135, Value.none, Value.ref 136, Value.ref 137, Value.ref 138, Value.int 384 0, Value.int 153 0, Value.str (Str.ofString "/claim/cut.py") 385] }) ::
  (nat_lit 140, { cls := Value.type "function", data := Data.func { name := Str.ofString "_law_determinant", qualname := Str.ofString "_law_determinant", params := fa_21, body := .stmts fb_21, scope := fs_21, globals := 3, closure := [], defaults := Value.none, kwdefaults := Value.none, pyModule := Value.str (Str.ofString "law_wf0034_01") 298, code := Value.ref 139 } }) ::
  (nat_lit 141, { cls := Value.type "tuple", data := Data.seq #[] }) ::
  (nat_lit 144, { cls := Value.type "code", data := Data.fields #[Value.str (Str.ofString "law") 387, Value.str (Str.ofString "law") 388, Value.str (Str.ofString "/claim/cut.py") 389, Value.int 166 0, Value.int 1 0, Value.int 0 0, Value.int 0 0, Value.int 3 0, Value.ref 141, Value.bool true, Value.int 181 0, Value.ref 142, Value.none, Value.none, Value.none, Value.ref 143, Value.int 390 0, Value.int 166 0, Value.str (Str.ofString "/claim/cut.py") 391] }) ::
  (nat_lit 145, { cls := Value.type "function", data := Data.func { name := Str.ofString "law", qualname := Str.ofString "law", params := fa_22, body := .stmts fb_22, scope := fs_22, globals := 3, closure := [], defaults := Value.none, kwdefaults := Value.none, pyModule := Value.str (Str.ofString "law_wf0034_01") 298, code := Value.ref 144 } }) ::
  []
/-- the program with no statement -/
noncomputable def pv : Program := by
  refine Lit.of (x := ?x) ?p
  case p =>
    have b : Lit ({ PySem.Challenge.pw_wf0034_01 with main := { PySem.Challenge.pw_wf0034_01.main with body := [] } } : Program) := ⟨⟩
    conv at b => arg 1; dsimp only [PySem.Challenge.pw_wf0034_01]
    exact b
noncomputable def hd.view_39 : Program := { pv with main := { pv.main with body := [st_5, st_6, st_8, st_9, st_10, st_11, st_13, st_14, st_15, st_16, st_17, st_18, st_19, st_20, st_21, st_22] } }
noncomputable abbrev hd.adrs : List Addr := nat_lit 2 :: nat_lit 3 :: nat_lit 15 :: nat_lit 16 :: nat_lit 17 :: nat_lit 19 :: nat_lit 20 :: nat_lit 22 :: nat_lit 23 :: nat_lit 24 :: nat_lit 25 :: nat_lit 26 :: nat_lit 28 :: nat_lit 29 :: nat_lit 31 :: nat_lit 32 :: nat_lit 33 :: nat_lit 34 :: nat_lit 35 :: nat_lit 37 :: nat_lit 38 :: nat_lit 40 :: nat_lit 41 :: nat_lit 42 :: nat_lit 44 :: nat_lit 45 :: nat_lit 47 :: nat_lit 48 :: nat_lit 49 :: nat_lit 51 :: nat_lit 52 :: nat_lit 54 :: nat_lit 55 :: nat_lit 56 :: nat_lit 58 :: nat_lit 59 :: nat_lit 61 :: nat_lit 62 :: nat_lit 63 :: nat_lit 65 :: nat_lit 66 :: nat_lit 68 :: nat_lit 69 :: nat_lit 70 :: nat_lit 72 :: nat_lit 73 :: nat_lit 75 :: nat_lit 76 :: nat_lit 77 :: nat_lit 79 :: nat_lit 80 :: nat_lit 82 :: nat_lit 83 :: nat_lit 84 :: nat_lit 86 :: nat_lit 87 :: nat_lit 89 :: nat_lit 90 :: nat_lit 91 :: nat_lit 93 :: nat_lit 94 :: nat_lit 96 :: nat_lit 97 :: nat_lit 98 :: nat_lit 101 :: nat_lit 102 :: nat_lit 103 :: nat_lit 105 :: nat_lit 106 :: nat_lit 108 :: nat_lit 109 :: nat_lit 110 :: nat_lit 113 :: nat_lit 114 :: nat_lit 115 :: nat_lit 117 :: nat_lit 118 :: nat_lit 120 :: nat_lit 121 :: nat_lit 122 :: nat_lit 124 :: nat_lit 125 :: nat_lit 127 :: nat_lit 128 :: nat_lit 129 :: nat_lit 132 :: nat_lit 133 :: nat_lit 134 :: nat_lit 136 :: nat_lit 137 :: nat_lit 139 :: nat_lit 140 :: nat_lit 141 :: nat_lit 144 :: nat_lit 145 :: []
noncomputable abbrev hd.loose : List Str := [Str.ofString "insort_right", Str.ofString "bisect_right", Str.ofString "bisect_left"]
theorem hd.keys : ∀ P, hd.adrs = (hd.heap_39 P).map (·.1) := fun _ => by kernel_rfl
theorem hd.left : LeftO PySem.Challenge.rw_wf0034_01.row.toRowW.prog hd.view_39 hd.loose (fun s => xlAt hd.view_39 [] s && recOk (RowW.records PySem.Challenge.rw_wf0034_01.row.toRowW) s) (Hook.obs (kHook hd.heap_39 hd.adrs hd.keys)) (Hook.val (kHook hd.heap_39 hd.adrs hd.keys)) 1444 := by
  intro w
  kernel_rfl
theorem hd.said : PySem.Challenge.rw_wf0034_01.wellSaid = true := by kernel_rfl

end Mine
end
section
open PySem PySem.W PyProof.Rows
set_option Elab.async false
set_option maxRecDepth 100000
set_option maxHeartbeats 8000000
namespace Mine
theorem kx_MB : True := by
  w_top off
  k_with_none
  trivial
/-- the goal put out of sight while facts are taken apart -/
theorem hide {G : Prop} (k : ∀ X : Prop, (G → X) → X) : G := k G id
theorem el_0_4 {P1 P2 P3 P4 : Prop} {G : Prop} (h : P1 ∧ P2 ∧ P3 ∧ P4) (k : P1 → P2 → P3 → P4 → G) : G := by
  obtain ⟨h1, h2, h3, h4⟩ := h
  exact k h1 h2 h3 h4
theorem el_0_5 {P1 P2 P3 P4 P5 : Prop} {G : Prop} (h : P1 ∧ P2 ∧ P3 ∧ P4 ∧ P5) (k : P1 → P2 → P3 → P4 → P5 → G) : G := by
  obtain ⟨h1, h2, h3, h4, h5⟩ := h
  exact k h1 h2 h3 h4 h5
theorem el_0_6 {P1 P2 P3 P4 P5 P6 : Prop} {G : Prop} (h : P1 ∧ P2 ∧ P3 ∧ P4 ∧ P5 ∧ P6) (k : P1 → P2 → P3 → P4 → P5 → P6 → G) : G := by
  obtain ⟨h1, h2, h3, h4, h5, h6⟩ := h
  exact k h1 h2 h3 h4 h5 h6
theorem el_0_9 {P1 P2 P3 P4 P5 P6 P7 P8 P9 : Prop} {G : Prop} (h : P1 ∧ P2 ∧ P3 ∧ P4 ∧ P5 ∧ P6 ∧ P7 ∧ P8 ∧ P9) (k : P1 → P2 → P3 → P4 → P5 → P6 → P7 → P8 → P9 → G) : G := by
  obtain ⟨h1, h2, h3, h4, h5, h6, h7, h8, h9⟩ := h
  exact k h1 h2 h3 h4 h5 h6 h7 h8 h9
theorem el_1_3 {A1 : Sort _} {P1 P2 P3 : A1 → Prop} {G : Prop} (h : ∃ a1, P1 a1 ∧ P2 a1 ∧ P3 a1) (k : ∀ a1, P1 a1 → P2 a1 → P3 a1 → G) : G := by
  obtain ⟨a1, h1, h2, h3⟩ := h
  exact k a1 h1 h2 h3
theorem el_1_4 {A1 : Sort _} {P1 P2 P3 P4 : A1 → Prop} {G : Prop} (h : ∃ a1, P1 a1 ∧ P2 a1 ∧ P3 a1 ∧ P4 a1) (k : ∀ a1, P1 a1 → P2 a1 → P3 a1 → P4 a1 → G) : G := by
  obtain ⟨a1, h1, h2, h3, h4⟩ := h
  exact k a1 h1 h2 h3 h4
theorem el_1_6 {A1 : Sort _} {P1 P2 P3 P4 P5 P6 : A1 → Prop} {G : Prop} (h : ∃ a1, P1 a1 ∧ P2 a1 ∧ P3 a1 ∧ P4 a1 ∧ P5 a1 ∧ P6 a1) (k : ∀ a1, P1 a1 → P2 a1 → P3 a1 → P4 a1 → P5 a1 → P6 a1 → G) : G := by
  obtain ⟨a1, h1, h2, h3, h4, h5, h6⟩ := h
  exact k a1 h1 h2 h3 h4 h5 h6
theorem el_2_2 {A1 A2 : Sort _} {P1 P2 : A1 → A2 → Prop} {G : Prop} (h : ∃ a1 a2, P1 a1 a2 ∧ P2 a1 a2) (k : ∀ a1 a2, P1 a1 a2 → P2 a1 a2 → G) : G := by
  obtain ⟨a1, a2, h1, h2⟩ := h
  exact k a1 a2 h1 h2
theorem el_2_3 {A1 A2 : Sort _} {P1 P2 P3 : A1 → A2 → Prop} {G : Prop} (h : ∃ a1 a2, P1 a1 a2 ∧ P2 a1 a2 ∧ P3 a1 a2) (k : ∀ a1 a2, P1 a1 a2 → P2 a1 a2 → P3 a1 a2 → G) : G := by
  obtain ⟨a1, a2, h1, h2, h3⟩ := h
  exact k a1 a2 h1 h2 h3
theorem el_2_4 {A1 A2 : Sort _} {P1 P2 P3 P4 : A1 → A2 → Prop} {G : Prop} (h : ∃ a1 a2, P1 a1 a2 ∧ P2 a1 a2 ∧ P3 a1 a2 ∧ P4 a1 a2) (k : ∀ a1 a2, P1 a1 a2 → P2 a1 a2 → P3 a1 a2 → P4 a1 a2 → G) : G := by
  obtain ⟨a1, a2, h1, h2, h3, h4⟩ := h
  exact k a1 a2 h1 h2 h3 h4
theorem el_2_5 {A1 A2 : Sort _} {P1 P2 P3 P4 P5 : A1 → A2 → Prop} {G : Prop} (h : ∃ a1 a2, P1 a1 a2 ∧ P2 a1 a2 ∧ P3 a1 a2 ∧ P4 a1 a2 ∧ P5 a1 a2) (k : ∀ a1 a2, P1 a1 a2 → P2 a1 a2 → P3 a1 a2 → P4 a1 a2 → P5 a1 a2 → G) : G := by
  obtain ⟨a1, a2, h1, h2, h3, h4, h5⟩ := h
  exact k a1 a2 h1 h2 h3 h4 h5
theorem el_3_1 {A1 A2 A3 : Sort _} {P1 : A1 → A2 → A3 → Prop} {G : Prop} (h : ∃ a1 a2 a3, P1 a1 a2 a3) (k : ∀ a1 a2 a3, P1 a1 a2 a3 → G) : G := by
  obtain ⟨a1, a2, a3, h1⟩ := h
  exact k a1 a2 a3 h1
theorem el_3_3 {A1 A2 A3 : Sort _} {P1 P2 P3 : A1 → A2 → A3 → Prop} {G : Prop} (h : ∃ a1 a2 a3, P1 a1 a2 a3 ∧ P2 a1 a2 a3 ∧ P3 a1 a2 a3) (k : ∀ a1 a2 a3, P1 a1 a2 a3 → P2 a1 a2 a3 → P3 a1 a2 a3 → G) : G := by
  obtain ⟨a1, a2, a3, h1, h2, h3⟩ := h
  exact k a1 a2 a3 h1 h2 h3
theorem el_3_5 {A1 A2 A3 : Sort _} {P1 P2 P3 P4 P5 : A1 → A2 → A3 → Prop} {G : Prop} (h : ∃ a1 a2 a3, P1 a1 a2 a3 ∧ P2 a1 a2 a3 ∧ P3 a1 a2 a3 ∧ P4 a1 a2 a3 ∧ P5 a1 a2 a3) (k : ∀ a1 a2 a3, P1 a1 a2 a3 → P2 a1 a2 a3 → P3 a1 a2 a3 → P4 a1 a2 a3 → P5 a1 a2 a3 → G) : G := by
  obtain ⟨a1, a2, a3, h1, h2, h3, h4, h5⟩ := h
  exact k a1 a2 a3 h1 h2 h3 h4 h5
theorem el_3_6 {A1 A2 A3 : Sort _} {P1 P2 P3 P4 P5 P6 : A1 → A2 → A3 → Prop} {G : Prop} (h : ∃ a1 a2 a3, P1 a1 a2 a3 ∧ P2 a1 a2 a3 ∧ P3 a1 a2 a3 ∧ P4 a1 a2 a3 ∧ P5 a1 a2 a3 ∧ P6 a1 a2 a3) (k : ∀ a1 a2 a3, P1 a1 a2 a3 → P2 a1 a2 a3 → P3 a1 a2 a3 → P4 a1 a2 a3 → P5 a1 a2 a3 → P6 a1 a2 a3 → G) : G := by
  obtain ⟨a1, a2, a3, h1, h2, h3, h4, h5, h6⟩ := h
  exact k a1 a2 a3 h1 h2 h3 h4 h5 h6
theorem el_3_7 {A1 A2 A3 : Sort _} {P1 P2 P3 P4 P5 P6 P7 : A1 → A2 → A3 → Prop} {G : Prop} (h : ∃ a1 a2 a3, P1 a1 a2 a3 ∧ P2 a1 a2 a3 ∧ P3 a1 a2 a3 ∧ P4 a1 a2 a3 ∧ P5 a1 a2 a3 ∧ P6 a1 a2 a3 ∧ P7 a1 a2 a3) (k : ∀ a1 a2 a3, P1 a1 a2 a3 → P2 a1 a2 a3 → P3 a1 a2 a3 → P4 a1 a2 a3 → P5 a1 a2 a3 → P6 a1 a2 a3 → P7 a1 a2 a3 → G) : G := by
  obtain ⟨a1, a2, a3, h1, h2, h3, h4, h5, h6, h7⟩ := h
  exact k a1 a2 a3 h1 h2 h3 h4 h5 h6 h7
theorem el_4_2 {A1 A2 A3 A4 : Sort _} {P1 P2 : A1 → A2 → A3 → A4 → Prop} {G : Prop} (h : ∃ a1 a2 a3 a4, P1 a1 a2 a3 a4 ∧ P2 a1 a2 a3 a4) (k : ∀ a1 a2 a3 a4, P1 a1 a2 a3 a4 → P2 a1 a2 a3 a4 → G) : G := by
  obtain ⟨a1, a2, a3, a4, h1, h2⟩ := h
  exact k a1 a2 a3 a4 h1 h2
theorem el_4_3 {A1 A2 A3 A4 : Sort _} {P1 P2 P3 : A1 → A2 → A3 → A4 → Prop} {G : Prop} (h : ∃ a1 a2 a3 a4, P1 a1 a2 a3 a4 ∧ P2 a1 a2 a3 a4 ∧ P3 a1 a2 a3 a4) (k : ∀ a1 a2 a3 a4, P1 a1 a2 a3 a4 → P2 a1 a2 a3 a4 → P3 a1 a2 a3 a4 → G) : G := by
  obtain ⟨a1, a2, a3, a4, h1, h2, h3⟩ := h
  exact k a1 a2 a3 a4 h1 h2 h3
theorem el_4_4 {A1 A2 A3 A4 : Sort _} {P1 P2 P3 P4 : A1 → A2 → A3 → A4 → Prop} {G : Prop} (h : ∃ a1 a2 a3 a4, P1 a1 a2 a3 a4 ∧ P2 a1 a2 a3 a4 ∧ P3 a1 a2 a3 a4 ∧ P4 a1 a2 a3 a4) (k : ∀ a1 a2 a3 a4, P1 a1 a2 a3 a4 → P2 a1 a2 a3 a4 → P3 a1 a2 a3 a4 → P4 a1 a2 a3 a4 → G) : G := by
  obtain ⟨a1, a2, a3, a4, h1, h2, h3, h4⟩ := h
  exact k a1 a2 a3 a4 h1 h2 h3 h4
theorem el_4_6 {A1 A2 A3 A4 : Sort _} {P1 P2 P3 P4 P5 P6 : A1 → A2 → A3 → A4 → Prop} {G : Prop} (h : ∃ a1 a2 a3 a4, P1 a1 a2 a3 a4 ∧ P2 a1 a2 a3 a4 ∧ P3 a1 a2 a3 a4 ∧ P4 a1 a2 a3 a4 ∧ P5 a1 a2 a3 a4 ∧ P6 a1 a2 a3 a4) (k : ∀ a1 a2 a3 a4, P1 a1 a2 a3 a4 → P2 a1 a2 a3 a4 → P3 a1 a2 a3 a4 → P4 a1 a2 a3 a4 → P5 a1 a2 a3 a4 → P6 a1 a2 a3 a4 → G) : G := by
  obtain ⟨a1, a2, a3, a4, h1, h2, h3, h4, h5, h6⟩ := h
  exact k a1 a2 a3 a4 h1 h2 h3 h4 h5 h6
theorem el_4_8 {A1 A2 A3 A4 : Sort _} {P1 P2 P3 P4 P5 P6 P7 P8 : A1 → A2 → A3 → A4 → Prop} {G : Prop} (h : ∃ a1 a2 a3 a4, P1 a1 a2 a3 a4 ∧ P2 a1 a2 a3 a4 ∧ P3 a1 a2 a3 a4 ∧ P4 a1 a2 a3 a4 ∧ P5 a1 a2 a3 a4 ∧ P6 a1 a2 a3 a4 ∧ P7 a1 a2 a3 a4 ∧ P8 a1 a2 a3 a4) (k : ∀ a1 a2 a3 a4, P1 a1 a2 a3 a4 → P2 a1 a2 a3 a4 → P3 a1 a2 a3 a4 → P4 a1 a2 a3 a4 → P5 a1 a2 a3 a4 → P6 a1 a2 a3 a4 → P7 a1 a2 a3 a4 → P8 a1 a2 a3 a4 → G) : G := by
  obtain ⟨a1, a2, a3, a4, h1, h2, h3, h4, h5, h6, h7, h8⟩ := h
  exact k a1 a2 a3 a4 h1 h2 h3 h4 h5 h6 h7 h8
theorem el_4_9 {A1 A2 A3 A4 : Sort _} {P1 P2 P3 P4 P5 P6 P7 P8 P9 : A1 → A2 → A3 → A4 → Prop} {G : Prop} (h : ∃ a1 a2 a3 a4, P1 a1 a2 a3 a4 ∧ P2 a1 a2 a3 a4 ∧ P3 a1 a2 a3 a4 ∧ P4 a1 a2 a3 a4 ∧ P5 a1 a2 a3 a4 ∧ P6 a1 a2 a3 a4 ∧ P7 a1 a2 a3 a4 ∧ P8 a1 a2 a3 a4 ∧ P9 a1 a2 a3 a4) (k : ∀ a1 a2 a3 a4, P1 a1 a2 a3 a4 → P2 a1 a2 a3 a4 → P3 a1 a2 a3 a4 → P4 a1 a2 a3 a4 → P5 a1 a2 a3 a4 → P6 a1 a2 a3 a4 → P7 a1 a2 a3 a4 → P8 a1 a2 a3 a4 → P9 a1 a2 a3 a4 → G) : G := by
  obtain ⟨a1, a2, a3, a4, h1, h2, h3, h4, h5, h6, h7, h8, h9⟩ := h
  exact k a1 a2 a3 a4 h1 h2 h3 h4 h5 h6 h7 h8 h9
theorem el_5_3 {A1 A2 A3 A4 A5 : Sort _} {P1 P2 P3 : A1 → A2 → A3 → A4 → A5 → Prop} {G : Prop} (h : ∃ a1 a2 a3 a4 a5, P1 a1 a2 a3 a4 a5 ∧ P2 a1 a2 a3 a4 a5 ∧ P3 a1 a2 a3 a4 a5) (k : ∀ a1 a2 a3 a4 a5, P1 a1 a2 a3 a4 a5 → P2 a1 a2 a3 a4 a5 → P3 a1 a2 a3 a4 a5 → G) : G := by
  obtain ⟨a1, a2, a3, a4, a5, h1, h2, h3⟩ := h
  exact k a1 a2 a3 a4 a5 h1 h2 h3
theorem el_5_5 {A1 A2 A3 A4 A5 : Sort _} {P1 P2 P3 P4 P5 : A1 → A2 → A3 → A4 → A5 → Prop} {G : Prop} (h : ∃ a1 a2 a3 a4 a5, P1 a1 a2 a3 a4 a5 ∧ P2 a1 a2 a3 a4 a5 ∧ P3 a1 a2 a3 a4 a5 ∧ P4 a1 a2 a3 a4 a5 ∧ P5 a1 a2 a3 a4 a5) (k : ∀ a1 a2 a3 a4 a5, P1 a1 a2 a3 a4 a5 → P2 a1 a2 a3 a4 a5 → P3 a1 a2 a3 a4 a5 → P4 a1 a2 a3 a4 a5 → P5 a1 a2 a3 a4 a5 → G) : G := by
  obtain ⟨a1, a2, a3, a4, a5, h1, h2, h3, h4, h5⟩ := h
  exact k a1 a2 a3 a4 a5 h1 h2 h3 h4 h5
theorem el_6_11 {A1 A2 A3 A4 A5 A6 : Sort _} {P1 P2 P3 P4 P5 P6 P7 P8 P9 P10 P11 : A1 → A2 → A3 → A4 → A5 → A6 → Prop} {G : Prop} (h : ∃ a1 a2 a3 a4 a5 a6, P1 a1 a2 a3 a4 a5 a6 ∧ P2 a1 a2 a3 a4 a5 a6 ∧ P3 a1 a2 a3 a4 a5 a6 ∧ P4 a1 a2 a3 a4 a5 a6 ∧ P5 a1 a2 a3 a4 a5 a6 ∧ P6 a1 a2 a3 a4 a5 a6 ∧ P7 a1 a2 a3 a4 a5 a6 ∧ P8 a1 a2 a3 a4 a5 a6 ∧ P9 a1 a2 a3 a4 a5 a6 ∧ P10 a1 a2 a3 a4 a5 a6 ∧ P11 a1 a2 a3 a4 a5 a6) (k : ∀ a1 a2 a3 a4 a5 a6, P1 a1 a2 a3 a4 a5 a6 → P2 a1 a2 a3 a4 a5 a6 → P3 a1 a2 a3 a4 a5 a6 → P4 a1 a2 a3 a4 a5 a6 → P5 a1 a2 a3 a4 a5 a6 → P6 a1 a2 a3 a4 a5 a6 → P7 a1 a2 a3 a4 a5 a6 → P8 a1 a2 a3 a4 a5 a6 → P9 a1 a2 a3 a4 a5 a6 → P10 a1 a2 a3 a4 a5 a6 → P11 a1 a2 a3 a4 a5 a6 → G) : G := by
  obtain ⟨a1, a2, a3, a4, a5, a6, h1, h2, h3, h4, h5, h6, h7, h8, h9, h10, h11⟩ := h
  exact k a1 a2 a3 a4 a5 a6 h1 h2 h3 h4 h5 h6 h7 h8 h9 h10 h11
theorem el_7_7 {A1 A2 A3 A4 A5 A6 A7 : Sort _} {P1 P2 P3 P4 P5 P6 P7 : A1 → A2 → A3 → A4 → A5 → A6 → A7 → Prop} {G : Prop} (h : ∃ a1 a2 a3 a4 a5 a6 a7, P1 a1 a2 a3 a4 a5 a6 a7 ∧ P2 a1 a2 a3 a4 a5 a6 a7 ∧ P3 a1 a2 a3 a4 a5 a6 a7 ∧ P4 a1 a2 a3 a4 a5 a6 a7 ∧ P5 a1 a2 a3 a4 a5 a6 a7 ∧ P6 a1 a2 a3 a4 a5 a6 a7 ∧ P7 a1 a2 a3 a4 a5 a6 a7) (k : ∀ a1 a2 a3 a4 a5 a6 a7, P1 a1 a2 a3 a4 a5 a6 a7 → P2 a1 a2 a3 a4 a5 a6 a7 → P3 a1 a2 a3 a4 a5 a6 a7 → P4 a1 a2 a3 a4 a5 a6 a7 → P5 a1 a2 a3 a4 a5 a6 a7 → P6 a1 a2 a3 a4 a5 a6 a7 → P7 a1 a2 a3 a4 a5 a6 a7 → G) : G := by
  obtain ⟨a1, a2, a3, a4, a5, a6, a7, h1, h2, h3, h4, h5, h6, h7⟩ := h
  exact k a1 a2 a3 a4 a5 a6 a7 h1 h2 h3 h4 h5 h6 h7
theorem el_7_9 {A1 A2 A3 A4 A5 A6 A7 : Sort _} {P1 P2 P3 P4 P5 P6 P7 P8 P9 : A1 → A2 → A3 → A4 → A5 → A6 → A7 → Prop} {G : Prop} (h : ∃ a1 a2 a3 a4 a5 a6 a7, P1 a1 a2 a3 a4 a5 a6 a7 ∧ P2 a1 a2 a3 a4 a5 a6 a7 ∧ P3 a1 a2 a3 a4 a5 a6 a7 ∧ P4 a1 a2 a3 a4 a5 a6 a7 ∧ P5 a1 a2 a3 a4 a5 a6 a7 ∧ P6 a1 a2 a3 a4 a5 a6 a7 ∧ P7 a1 a2 a3 a4 a5 a6 a7 ∧ P8 a1 a2 a3 a4 a5 a6 a7 ∧ P9 a1 a2 a3 a4 a5 a6 a7) (k : ∀ a1 a2 a3 a4 a5 a6 a7, P1 a1 a2 a3 a4 a5 a6 a7 → P2 a1 a2 a3 a4 a5 a6 a7 → P3 a1 a2 a3 a4 a5 a6 a7 → P4 a1 a2 a3 a4 a5 a6 a7 → P5 a1 a2 a3 a4 a5 a6 a7 → P6 a1 a2 a3 a4 a5 a6 a7 → P7 a1 a2 a3 a4 a5 a6 a7 → P8 a1 a2 a3 a4 a5 a6 a7 → P9 a1 a2 a3 a4 a5 a6 a7 → G) : G := by
  obtain ⟨a1, a2, a3, a4, a5, a6, a7, h1, h2, h3, h4, h5, h6, h7, h8, h9⟩ := h
  exact k a1 a2 a3 a4 a5 a6 a7 h1 h2 h3 h4 h5 h6 h7 h8 h9
theorem el_7_12 {A1 A2 A3 A4 A5 A6 A7 : Sort _} {P1 P2 P3 P4 P5 P6 P7 P8 P9 P10 P11 P12 : A1 → A2 → A3 → A4 → A5 → A6 → A7 → Prop} {G : Prop} (h : ∃ a1 a2 a3 a4 a5 a6 a7, P1 a1 a2 a3 a4 a5 a6 a7 ∧ P2 a1 a2 a3 a4 a5 a6 a7 ∧ P3 a1 a2 a3 a4 a5 a6 a7 ∧ P4 a1 a2 a3 a4 a5 a6 a7 ∧ P5 a1 a2 a3 a4 a5 a6 a7 ∧ P6 a1 a2 a3 a4 a5 a6 a7 ∧ P7 a1 a2 a3 a4 a5 a6 a7 ∧ P8 a1 a2 a3 a4 a5 a6 a7 ∧ P9 a1 a2 a3 a4 a5 a6 a7 ∧ P10 a1 a2 a3 a4 a5 a6 a7 ∧ P11 a1 a2 a3 a4 a5 a6 a7 ∧ P12 a1 a2 a3 a4 a5 a6 a7) (k : ∀ a1 a2 a3 a4 a5 a6 a7, P1 a1 a2 a3 a4 a5 a6 a7 → P2 a1 a2 a3 a4 a5 a6 a7 → P3 a1 a2 a3 a4 a5 a6 a7 → P4 a1 a2 a3 a4 a5 a6 a7 → P5 a1 a2 a3 a4 a5 a6 a7 → P6 a1 a2 a3 a4 a5 a6 a7 → P7 a1 a2 a3 a4 a5 a6 a7 → P8 a1 a2 a3 a4 a5 a6 a7 → P9 a1 a2 a3 a4 a5 a6 a7 → P10 a1 a2 a3 a4 a5 a6 a7 → P11 a1 a2 a3 a4 a5 a6 a7 → P12 a1 a2 a3 a4 a5 a6 a7 → G) : G := by
  obtain ⟨a1, a2, a3, a4, a5, a6, a7, h1, h2, h3, h4, h5, h6, h7, h8, h9, h10, h11, h12⟩ := h
  exact k a1 a2 a3 a4 a5 a6 a7 h1 h2 h3 h4 h5 h6 h7 h8 h9 h10 h11 h12
theorem el_8_6 {A1 A2 A3 A4 A5 A6 A7 A8 : Sort _} {P1 P2 P3 P4 P5 P6 : A1 → A2 → A3 → A4 → A5 → A6 → A7 → A8 → Prop} {G : Prop} (h : ∃ a1 a2 a3 a4 a5 a6 a7 a8, P1 a1 a2 a3 a4 a5 a6 a7 a8 ∧ P2 a1 a2 a3 a4 a5 a6 a7 a8 ∧ P3 a1 a2 a3 a4 a5 a6 a7 a8 ∧ P4 a1 a2 a3 a4 a5 a6 a7 a8 ∧ P5 a1 a2 a3 a4 a5 a6 a7 a8 ∧ P6 a1 a2 a3 a4 a5 a6 a7 a8) (k : ∀ a1 a2 a3 a4 a5 a6 a7 a8, P1 a1 a2 a3 a4 a5 a6 a7 a8 → P2 a1 a2 a3 a4 a5 a6 a7 a8 → P3 a1 a2 a3 a4 a5 a6 a7 a8 → P4 a1 a2 a3 a4 a5 a6 a7 a8 → P5 a1 a2 a3 a4 a5 a6 a7 a8 → P6 a1 a2 a3 a4 a5 a6 a7 a8 → G) : G := by
  obtain ⟨a1, a2, a3, a4, a5, a6, a7, a8, h1, h2, h3, h4, h5, h6⟩ := h
  exact k a1 a2 a3 a4 a5 a6 a7 a8 h1 h2 h3 h4 h5 h6
theorem el_11_18 {A1 A2 A3 A4 A5 A6 A7 A8 A9 A10 A11 : Sort _} {P1 P2 P3 P4 P5 P6 P7 P8 P9 P10 P11 P12 P13 P14 P15 P16 P17 P18 : A1 → A2 → A3 → A4 → A5 → A6 → A7 → A8 → A9 → A10 → A11 → Prop} {G : Prop} (h : ∃ a1 a2 a3 a4 a5 a6 a7 a8 a9 a10 a11, P1 a1 a2 a3 a4 a5 a6 a7 a8 a9 a10 a11 ∧ P2 a1 a2 a3 a4 a5 a6 a7 a8 a9 a10 a11 ∧ P3 a1 a2 a3 a4 a5 a6 a7 a8 a9 a10 a11 ∧ P4 a1 a2 a3 a4 a5 a6 a7 a8 a9 a10 a11 ∧ P5 a1 a2 a3 a4 a5 a6 a7 a8 a9 a10 a11 ∧ P6 a1 a2 a3 a4 a5 a6 a7 a8 a9 a10 a11 ∧ P7 a1 a2 a3 a4 a5 a6 a7 a8 a9 a10 a11 ∧ P8 a1 a2 a3 a4 a5 a6 a7 a8 a9 a10 a11 ∧ P9 a1 a2 a3 a4 a5 a6 a7 a8 a9 a10 a11 ∧ P10 a1 a2 a3 a4 a5 a6 a7 a8 a9 a10 a11 ∧ P11 a1 a2 a3 a4 a5 a6 a7 a8 a9 a10 a11 ∧ P12 a1 a2 a3 a4 a5 a6 a7 a8 a9 a10 a11 ∧ P13 a1 a2 a3 a4 a5 a6 a7 a8 a9 a10 a11 ∧ P14 a1 a2 a3 a4 a5 a6 a7 a8 a9 a10 a11 ∧ P15 a1 a2 a3 a4 a5 a6 a7 a8 a9 a10 a11 ∧ P16 a1 a2 a3 a4 a5 a6 a7 a8 a9 a10 a11 ∧ P17 a1 a2 a3 a4 a5 a6 a7 a8 a9 a10 a11 ∧ P18 a1 a2 a3 a4 a5 a6 a7 a8 a9 a10 a11) (k : ∀ a1 a2 a3 a4 a5 a6 a7 a8 a9 a10 a11, P1 a1 a2 a3 a4 a5 a6 a7 a8 a9 a10 a11 → P2 a1 a2 a3 a4 a5 a6 a7 a8 a9 a10 a11 → P3 a1 a2 a3 a4 a5 a6 a7 a8 a9 a10 a11 → P4 a1 a2 a3 a4 a5 a6 a7 a8 a9 a10 a11 → P5 a1 a2 a3 a4 a5 a6 a7 a8 a9 a10 a11 → P6 a1 a2 a3 a4 a5 a6 a7 a8 a9 a10 a11 → P7 a1 a2 a3 a4 a5 a6 a7 a8 a9 a10 a11 → P8 a1 a2 a3 a4 a5 a6 a7 a8 a9 a10 a11 → P9 a1 a2 a3 a4 a5 a6 a7 a8 a9 a10 a11 → P10 a1 a2 a3 a4 a5 a6 a7 a8 a9 a10 a11 → P11 a1 a2 a3 a4 a5 a6 a7 a8 a9 a10 a11 → P12 a1 a2 a3 a4 a5 a6 a7 a8 a9 a10 a11 → P13 a1 a2 a3 a4 a5 a6 a7 a8 a9 a10 a11 → P14 a1 a2 a3 a4 a5 a6 a7 a8 a9 a10 a11 → P15 a1 a2 a3 a4 a5 a6 a7 a8 a9 a10 a11 → P16 a1 a2 a3 a4 a5 a6 a7 a8 a9 a10 a11 → P17 a1 a2 a3 a4 a5 a6 a7 a8 a9 a10 a11 → P18 a1 a2 a3 a4 a5 a6 a7 a8 a9 a10 a11 → G) : G := by
  obtain ⟨a1, a2, a3, a4, a5, a6, a7, a8, a9, a10, a11, h1, h2, h3, h4, h5, h6, h7, h8, h9, h10, h11, h12, h13, h14, h15, h16, h17, h18⟩ := h
  exact k a1 a2 a3 a4 a5 a6 a7 a8 a9 a10 a11 h1 h2 h3 h4 h5 h6 h7 h8 h9 h10 h11 h12 h13 h14 h15 h16 h17 h18
noncomputable abbrev Led := List (Addr × Obj)
/-- what a call of the def at f promises -/
noncomputable def Ctr (w : World) (f : Addr) (vs : List Value) (kw : List (Str × Value)) (news : Led) (d u : Nat) (post : Value → Led → Prop) : Prop :=
  ∀ (loose : List Str) (mean : ExcName → Option Value) (mg mb : Str → Option Value) (dp un : Nat) (gd : Option (List Code)) (cn : Str) (cs : Scope) (a : Addr) (ccd : Value) (cl : List (Str × Addr)) (outer : List Env) (A₀ : Around) (base h₀ : Heap) (L : Addr) (m : Str → Option Value) (s : Shared)
    (Q E : Value → Shared → Prop),
    Below A₀ base outer h₀ → Fr h₀ L s.heap m → (hd.heap_39 w.params).In h₀ → News h₀ L s.heap news → Top hd.view_39 loose mean mg mb h₀ → cs.kind = .function → dp + d < recursionLimit → un + u < cLine →
    (∀ v news' h' tk', Fr h₀ L h' m → News h₀ L h' news' → post v news' → Q v { s with heap := h', toks := tk' }) →
    wpAny (model PySem.Challenge.rw_wf0034_01.row.prog w) (ktrTop dp un gd cn cs L a ccd cl outer) (call (.ref f) vs kw) Q E s

theorem kx_MB_0 : True := by
  k_with "ENTER" => (
  unfold Ctr
  k_fill
  intro loose mean mg mb dp un gd cn cs aa ccd cl outer A₀ base h₀ L m s Q E B F X N T hk hdp hun hret
  refine wpAny_call ?_
  k_dflt cell_enter)
  trivial

theorem c_tone (w : World) {a : Addr} {p q : Value} {n : Nat} {news : Led} (hm : (a, ({ cls := .type "tuple", data := .seq [p, q].toArray n } : Obj)) ∈ news) :
    Ctr w 97 [.ref a] [] news 1 8 (fun v news' => v = p ∧ news' = news) := by
  unfold Ctr
  k_fill
  intro loose mean mg mb dp un gd cn cs aa ccd cl outer A₀ base h₀ L m s Q E B F X N T hk hdp hun hret
  refine wpAny_call ?_
  k_dflt cell_enter
  k_steps
  exact hret _ _ _ _ (by k_asm) (by k_asm) ⟨rfl, rfl⟩
end Mine
end
section
open PySem PySem.W PyProof.Rows
set_option Elab.async false
set_option maxRecDepth 100000
set_option maxHeartbeats 8000000
namespace Mine
theorem kx_MHsv : True := by
  w_top off
  k_with_none
  trivial
noncomputable abbrev tri (a b c : UInt64) (ta tb tc : Tok) (n : Nat) : Obj := { cls := .type "tuple", data := .seq [.float a ta, .float b tb, .float c tc].toArray n }
/-- a new tuple of three floats -/
noncomputable def NewTri (news : Led) (abc : UInt64 × UInt64 × UInt64) (v : Value) (news' : Led) : Prop :=
  ∃ q n ta tb tc, v = .ref q ∧ news' = (q, tri abc.1 abc.2.1 abc.2.2 ta tb tc n) :: news ∧ ∀ p ∈ news, p.1 < q
noncomputable abbrev C6 : UInt64 := 4618441417868443648
noncomputable abbrev C1 : UInt64 := 4607182418800017408
noncomputable def hsvI (h : UInt64) : Int := Flt.toInt Float64.truncOf (Float64.mul h C6)
noncomputable def hsvF (h s v : UInt64) : UInt64 × UInt64 × UInt64 :=
  let i := Flt.toInt Float64.truncOf (Float64.mul h C6)
  let f := Float64.sub (Float64.mul h C6) (Float64.ofInt i)
  let p := Float64.mul v (Float64.sub C1 s)
  let q := Float64.mul v (Float64.sub C1 (Float64.mul s f))
  let t := Float64.mul v (Float64.sub C1 (Float64.mul s (Float64.sub C1 f)))
  if Int.fmod i 6 = 0 then (v, t, p) else if Int.fmod i 6 = 1 then (q, v, p) else if Int.fmod i 6 = 2 then (p, v, t) else if Int.fmod i 6 = 3 then (p, q, v) else if Int.fmod i 6 = 4 then (t, p, v) else (v, p, q)
theorem newTri_of {news : Led} {abc : UInt64 × UInt64 × UInt64} {q : Addr} {n : Nat} {a b c : UInt64} {ta tb tc : Tok} (e : abc = (a, b, c)) (l : ∀ p ∈ news, p.1 < q) : NewTri news abc (.ref q) ((q, tri a b c ta tb tc n) :: news) := by
  subst e
  exact ⟨_, _, _, _, _, rfl, rfl, l⟩
theorem kx_MHsv_0 : True := by
  k_with "leaving ref" => (exfalso; contradiction)
  trivial
theorem c_hsv (w : World) {x y z : UInt64} {t1 t2 t3 : Tok} {news : Led} (h0 : ¬ (Float64.cmp y 0 == some Ordering.eq) = true)
    (h1 : ¬ Float64.isNaN (Float64.mul x C6) = true) (h2 : ¬ Float64.isInf (Float64.mul x C6) = true) (h3 : ¬ 2 ^ 1024 - 2 ^ 970 ≤ (Flt.toInt Float64.truncOf (Float64.mul x C6)).natAbs) :
    Ctr w 55 [.float x t1, .float y t2, .float z t3] [] news 1 8 (NewTri news (hsvF x y z)) := by
  unfold Ctr
  k_fill
  intro loose mean mg mb dp un gd cn cs aa ccd cl outer A₀ base h₀ L m s Q E B F X N T hk hdp hun hret
  refine wpAny_call ?_
  k_dflt cell_enter
  iterate 8 walk1
  rw [if_neg h0]
  k_steps
  all_goals first
    | (refine hret _ _ _ _ (by k_asm) (by k_asm) (newTri_of ?_ (by assumption))
       unfold hsvF
       dsimp only
       repeat (first | rw [if_pos (by assumption)] | rw [if_neg (by assumption)]))
    | (exfalso
       have hlo := fmod_lo (Flt.toInt Float64.truncOf (Float64.mul x 4618441417868443648)) (n := 6) (by decide)
       have hhi := fmod_hi (Flt.toInt Float64.truncOf (Float64.mul x 4618441417868443648)) (n := 6) (by decide)
       omega)
end Mine
end
section
open PySem PySem.W PyProof.Rows
set_option Elab.async false
set_option maxRecDepth 100000
set_option maxHeartbeats 8000000
namespace Mine
theorem kx_MPt : True := by
  w_top off
  k_with_none
  trivial
theorem Ctr.use {w : World} {f : Addr} {vs : List Value} {kw : List (Str × Value)} {news : Led} {d u : Nat} {post : Value → Led → Prop} (C : Ctr w f vs kw news d u post)
    {loose : List Str} {mean : ExcName → Option Value} {mg mb : Str → Option Value} {dp un : Nat} {gd : Option (List Code)} {cn : Str} {cs : Scope} {a : Addr} {ccd : Value} {cl : List (Str × Addr)} {outer : List Env} {A₀ : Around} {base h₀ : Heap} {L : Addr} {m : Str → Option Value} {s : Shared}
    {Q E : Value → Shared → Prop}
    (B : Below A₀ base outer h₀) (F : Fr h₀ L s.heap m) (X : (hd.heap_39 w.params).In h₀) (N : News h₀ L s.heap news) (T : Top hd.view_39 loose mean mg mb h₀) (hk : cs.kind = .function) (hd : dp + d < recursionLimit) (hu : un + u < cLine)
    (ret : ∀ v news' h' tk', Fr h₀ L h' m → News h₀ L h' news' → post v news' → Q v { s with heap := h', toks := tk' }) :
    wpAny (model PySem.Challenge.rw_wf0034_01.row.prog w) (ktrTop dp un gd cn cs L a ccd cl outer) (call (.ref f) vs kw) Q E s :=
  C _ _ _ _ _ _ _ _ _ _ _ _ _ _ _ _ _ _ _ _ _ B F X N T hk hd hu ret
noncomputable abbrev C16 : UInt64 := 4625196817309499392
noncomputable abbrev C2 : UInt64 := 4611686018427387904
example : Float64.ofInt 16 = C16 := by decide +kernel
example : Float64.ofInt 2 = C2 := by decide +kernel
theorem hue_ok : ∀ r : Fin 16, (¬ Float64.isNaN (Float64.mul (Float64.div (Float64.ofInt (r.val : Int)) C16) C6) = true) ∧ (¬ Float64.isInf (Float64.mul (Float64.div (Float64.ofInt (r.val : Int)) C16) C6) = true) ∧
    (¬ 2 ^ 1024 - 2 ^ 970 ≤ (Flt.toInt Float64.truncOf (Float64.mul (Float64.div (Float64.ofInt (r.val : Int)) C16) C6)).natAbs) := by decide +kernel
theorem sat_ok : ∀ r : Fin 2, ¬ (Float64.cmp (Float64.div (Float64.ofInt (1 + (r.val : Int))) C2) 0 == some Ordering.eq) = true := by decide +kernel
noncomputable def partR (r a b c : Int) : Int := (1 + b) * (16 - (1 + a) * min (max (min (Int.natAbs (3 * r - c) : Int) (48 - (Int.natAbs (3 * r - c) : Int)) - 8) 0) 8)
/-- j/32 as a float, j from 0 to 96 -/
noncomputable def f32T : List UInt64 := [0, 4584664420663164928, 4589168020290535424, 4591419820104220672, 4593671619917905920, 4594797519824748544, 4595923419731591168, 4597049319638433792, 4598175219545276416, 4598738169498697728, 4599301119452119040, 4599864069405540352, 4600427019358961664, 4600989969312382976, 4601552919265804288, 4602115869219225600, 4602678819172646912, 4602960294149357568, 4603241769126068224, 4603523244102778880, 4603804719079489536, 4604086194056200192, 4604367669032910848, 4604649144009621504, 4604930618986332160, 4605212093963042816, 4605493568939753472, 4605775043916464128, 4606056518893174784, 4606337993869885440, 4606619468846596096, 4606900943823306752, 4607182418800017408, 4607323156288372736, 4607463893776728064, 4607604631265083392, 4607745368753438720, 4607886106241794048, 4608026843730149376, 4608167581218504704, 4608308318706860032, 4608449056195215360, 4608589793683570688, 4608730531171926016, 4608871268660281344, 4609012006148636672, 4609152743636992000, 4609293481125347328, 4609434218613702656, 4609574956102057984, 4609715693590413312, 4609856431078768640, 4609997168567123968, 4610137906055479296, 4610278643543834624, 4610419381032189952, 4610560118520545280, 4610700856008900608, 4610841593497255936, 4610982330985611264, 4611123068473966592, 4611263805962321920, 4611404543450677248, 4611545280939032576, 4611686018427387904, 4611756387171565568, 4611826755915743232, 4611897124659920896, 4611967493404098560, 4612037862148276224, 4612108230892453888, 4612178599636631552, 4612248968380809216, 4612319337124986880, 4612389705869164544, 4612460074613342208, 4612530443357519872, 4612600812101697536, 4612671180845875200, 4612741549590052864, 4612811918334230528, 4612882287078408192, 4612952655822585856, 4613023024566763520, 4613093393310941184, 4613163762055118848, 4613234130799296512, 4613304499543474176, 4613374868287651840, 4613445237031829504, 4613515605776007168, 4613585974520184832, 4613656343264362496, 4613726712008540160, 4613797080752717824, 4613867449496895488, 4613937818241073152]
noncomputable def F32 (j : Int) : UInt64 := f32T.getD j.toNat 0
theorem hsv_parts : ∀ (r : Fin 16) (a b : Fin 2), hsvF (Float64.div (Float64.ofInt (r.val : Int)) C16) (Float64.div (Float64.ofInt (1 + (a.val : Int))) C2) (Float64.div (Float64.ofInt (1 + (b.val : Int))) C2) =
    (F32 (partR r.val a.val b.val 0), F32 (partR r.val a.val b.val 16), F32 (partR r.val a.val b.val 32)) := by decide +kernel
theorem not_over {n : Int} (h0 : 0 ≤ n) (h1 : n < 1000) : ¬ Flt.Over n := by
  unfold Flt.Over
  have : n.natAbs < 1000 := by omega
  intro h
  have h2 : (2 ^ 1024 - 2 ^ 970 : Nat) < 1000 := Nat.lt_of_le_of_lt h this
  exact absurd h2 (by decide +kernel)
theorem kx_MPt_0 : True := by
  k_with "leaving ref" => (exfalso; contradiction)
  trivial
theorem kx_MPt_1 : True := by
  k_with "call ref" => (k_here; k_dflt (refine' Ctr.use (c_hsv _ ?h0Zk ?h1Zk ?h2Zk ?h3Zk) ?BZk ?FZk ?XZk ?NZk ?TZk ?hkZk ?hdZk ?huZk ?_; (case BZk => k_asm); (case FZk => k_asm); (case XZk => k_asm); (case NZk => k_asm); (case TZk => k_asm); (case hkZk => exact rfl); (case hdZk => ktr_room); (case huZk => ktr_units); (case h0Zk => assumption); (case h1Zk => assumption); (case h2Zk => assumption); (case h3Zk => assumption); intro v' news' h' tk' F' N' P'; refine el_5_3 (P') ?_; clear P'; rintro q' n' ta' tb' tc' e1' e2' l'; subst e1'; subst e2'; (try dsimp only)))
  trivial
theorem c_painted (w : World) {dr r a b : Int} {t : Tok} {news : Led} (hr : dr.fmod 16 = r) (ha : (dr.fdiv 16).fmod 2 = a) (hb : (dr.fdiv 32).fmod 2 = b) :
    Ctr w 90 [.int dr t] [] news 2 16 (NewTri news (F32 (partR r a b 0), F32 (partR r a b 16), F32 (partR r a b 32))) := by
  have r0 := fmod_lo dr (n := 16) (by decide)
  have r1 := fmod_hi dr (n := 16) (by decide)
  have a0 := fmod_lo (dr.fdiv 16) (n := 2) (by decide)
  have a1 := fmod_hi (dr.fdiv 16) (n := 2) (by decide)
  have b0 := fmod_lo (dr.fdiv 32) (n := 2) (by decide)
  have b1 := fmod_hi (dr.fdiv 32) (n := 2) (by decide)
  have o1 : ¬ Flt.Over (dr.fmod 16) := not_over r0 (by omega)
  have o2 : ¬ Flt.Over (1 + (dr.fdiv 16).fmod 2) := not_over (by omega) (by omega)
  have o3 : ¬ Flt.Over (1 + (dr.fdiv 32).fmod 2) := not_over (by omega) (by omega)
  have er : ((⟨(dr.fmod 16).toNat, by omega⟩ : Fin 16).val : Int) = dr.fmod 16 := by show ((dr.fmod 16).toNat : Int) = _; omega
  have ea : ((⟨((dr.fdiv 16).fmod 2).toNat, by omega⟩ : Fin 2).val : Int) = (dr.fdiv 16).fmod 2 := by show (((dr.fdiv 16).fmod 2).toNat : Int) = _; omega
  have eb : ((⟨((dr.fdiv 32).fmod 2).toNat, by omega⟩ : Fin 2).val : Int) = (dr.fdiv 32).fmod 2 := by show (((dr.fdiv 32).fmod 2).toNat : Int) = _; omega
  have hu := hue_ok ⟨(dr.fmod 16).toNat, by omega⟩
  rw [er] at hu
  obtain ⟨u1, u2, u3⟩ := hu
  have s1 := sat_ok ⟨((dr.fdiv 16).fmod 2).toNat, by omega⟩
  rw [ea] at s1
  have hp := hsv_parts ⟨(dr.fmod 16).toNat, by omega⟩ ⟨((dr.fdiv 16).fmod 2).toNat, by omega⟩ ⟨((dr.fdiv 32).fmod 2).toNat, by omega⟩
  rw [er, ea, eb] at hp
  rw [← hr, ← ha, ← hb, ← hp]
  clear hp er ea eb hr ha hb
  unfold Ctr
  k_fill
  intro loose mean mg mb dp un gd cn cs aa ccd cl outer A₀ base h₀ L m s Q E B F X N T hk hdp hun hret
  refine wpAny_call ?_
  k_dflt cell_enter
  k_steps
  exact hret _ _ _ _ (by k_asm) (by k_asm) ⟨_, _, _, _, _, rfl, rfl, by assumption⟩
end Mine
end
section
open PySem PySem.W PyProof.Rows
set_option Elab.async false
set_option maxRecDepth 100000
set_option maxHeartbeats 8000000
namespace Mine
open PySem.Flt PySem.Calls
noncomputable def mx3 (x y z : UInt64) : UInt64 := if (Float64.cmp (if (Float64.cmp x y == some .lt) = true then y else x) z == some .lt) = true then z else (if (Float64.cmp x y == some .lt) = true then y else x)
noncomputable def mn3 (x y z : UInt64) : UInt64 := if (Float64.cmp z (if (Float64.cmp y x == some .lt) = true then y else x) == some .lt) = true then z else (if (Float64.cmp y x == some .lt) = true then y else x)
section
variable {prog : Program} {w : World} {A : Around} {E : Value → Shared → Prop} {s : Shared}
theorem args_max3 (a b c : Value) : argsOk "max" ⟨[a, b, c], []⟩ := by unfold argsOk; kernel_rfl
theorem args_min3 (a b c : Value) : argsOk "min" ⟨[a, b, c], []⟩ := by unfold argsOk; kernel_rfl
theorem call_max_three {a b c : Value} {Q : Value → Shared → Prop}
    (h : wpAny (model prog w) A.in1 (pyIter (.ref s.heap.objs.size)) (fun it s₂ => ∃ I fp wr n P St bt, it = .ref I ∧ Walks prog w A.in1 I fp wr n P St ∧ St 0 s₂.heap ∧ (∀ b ∈ fp, b < s₂.heap.objs.size) ∧ 0 < n ∧ CmpOf prog w A.in1 .Gt P bt ∧
      ∀ v h' tk, P (argBest bt (n - 1)) v → (∀ b o, b ∉ wr → s₂.heap.get? b = some o → h'.get? b = some o) → Q v { s₂ with heap := h', toks := tk }) E
      { s with heap := s.heap.push { cls := .type "tuple", data := .seq #[a, b, c] } }) :
    wpAny (model prog w) A (call (.builtin "max") [a, b, c]) Q E s := by
  have hname : (toString "max" ++ toString ".loop" : String) = "max.loop" := by decide
  refine call_function_tree F.kind_max F.plain_max F.entry_max (args_max3 _ _ _) ?_
  show wpAny _ A.in1 (Builtin.Builtins.bindParams "max" ["key", "default"] 0 ⟨[], []⟩ >>= _) _ _ s
  refine wpAny_bind (wpAny_of_eq (show Builtin.Builtins.bindParams "max" ["key", "default"] 0 ⟨[], []⟩ = pure [none, none] from rfl) ?_)
  show wpAny _ A.in1 (newTuple [a, b, c] >>= _) _ _ s
  refine wpAny_bind (wpAny_newObj_type ?_)
  refine wpAny_bind (wpAny_mono h (fun it s₂ h₂ => ?_) fun _ _ e => e)
  obtain ⟨I, fp, wr, n, P, St, bt, rfl, W, hst, hfp, hn, hcmp, hQ⟩ := h₂
  refine wpAny_bind (wpAny_newObj_type ?_)
  have hSf : s₂.heap.objs.size ∉ fp := fun hm => Nat.lt_irrefl _ (hfp _ hm)
  rw [hname]
  refine wpAny_pure ⟨plainId_quiet F.plain_max_loop _, codeAny_max_loop_first W bt hcmp s₂.heap.objs.size hSf hn (W.frame _ _ _ hst fun b _ o e => Heap.get?_push_of_some _ e) (Heap.get?_push_size _ rfl) fun v h' tk hP hk => ?_⟩
  exact hQ v h' tk hP fun b o hbw e => hk b o hbw (Nat.ne_of_lt (Heap.lt_size e)) (Heap.get?_push_of_some _ e)
theorem call_min_three {a b c : Value} {Q : Value → Shared → Prop}
    (h : wpAny (model prog w) A.in1 (pyIter (.ref s.heap.objs.size)) (fun it s₂ => ∃ I fp wr n P St bt, it = .ref I ∧ Walks prog w A.in1 I fp wr n P St ∧ St 0 s₂.heap ∧ (∀ b ∈ fp, b < s₂.heap.objs.size) ∧ 0 < n ∧ CmpOf prog w A.in1 .Lt P bt ∧
      ∀ v h' tk, P (argBest bt (n - 1)) v → (∀ b o, b ∉ wr → s₂.heap.get? b = some o → h'.get? b = some o) → Q v { s₂ with heap := h', toks := tk }) E
      { s with heap := s.heap.push { cls := .type "tuple", data := .seq #[a, b, c] } }) :
    wpAny (model prog w) A (call (.builtin "min") [a, b, c]) Q E s := by
  have hname : (toString "min" ++ toString ".loop" : String) = "min.loop" := by decide
  refine call_function_tree F.kind_min F.plain_min F.entry_min (args_min3 _ _ _) ?_
  show wpAny _ A.in1 (Builtin.Builtins.bindParams "min" ["key", "default"] 0 ⟨[], []⟩ >>= _) _ _ s
  refine wpAny_bind (wpAny_of_eq (show Builtin.Builtins.bindParams "min" ["key", "default"] 0 ⟨[], []⟩ = pure [none, none] from rfl) ?_)
  show wpAny _ A.in1 (newTuple [a, b, c] >>= _) _ _ s
  refine wpAny_bind (wpAny_newObj_type ?_)
  refine wpAny_bind (wpAny_mono h (fun it s₂ h₂ => ?_) fun _ _ e => e)
  obtain ⟨I, fp, wr, n, P, St, bt, rfl, W, hst, hfp, hn, hcmp, hQ⟩ := h₂
  refine wpAny_bind (wpAny_newObj_type ?_)
  have hSf : s₂.heap.objs.size ∉ fp := fun hm => Nat.lt_irrefl _ (hfp _ hm)
  rw [hname]
  refine wpAny_pure ⟨plainId_quiet F.plain_min_loop _, codeAny_min_loop_first W bt hcmp s₂.heap.objs.size hSf hn (W.frame _ _ _ hst fun b _ o e => Heap.get?_push_of_some _ e) (Heap.get?_push_size _ rfl) fun v h' tk hP hk => ?_⟩
  exact hQ v h' tk hP fun b o hbw e => hk b o hbw (Nat.ne_of_lt (Heap.lt_size e)) (Heap.get?_push_of_some _ e)
variable {h₀ : Heap} {L : Addr} {m : Str → Option Value} {news : Led} {x y z : UInt64} {t1 t2 t3 : Tok} {Q : Value → Shared → Prop}
theorem max_three_f (hh : A.handled = none) (F : Fr h₀ L s.heap m) (N : News h₀ L s.heap news)
    (h : ∀ h' tk v, Fr h₀ L h' m → News h₀ L h' news → Q (.float (mx3 x y z) v) { s with heap := h', toks := tk }) :
    wpAny (model prog w) A (call (.builtin "max") [.float x t1, .float y t2, .float z t3]) Q E s := by
  have hT : (s.heap.push { cls := .type "tuple", data := .seq #[.float x t1, .float y t2, .float z t3] }).IsTuple s.heap.objs.size #[.float x t1, .float y t2, .float z t3] := ⟨_, Heap.get?_push_size _ rfl, rfl, 0, rfl⟩
  refine call_max_three (wpAny_pyIter_tuple hT ?_)
  have hsz : (s.heap.push { cls := .type "tuple", data := .seq #[.float x t1, .float y t2, .float z t3] }).objs.size = s.heap.objs.size + 1 := Heap.size_push ..
  refine ⟨_, [_, s.heap.objs.size], [_], _, _, _, _, rfl, Walks.tuple (A := A.in1) hh _ s.heap.objs.size (by rw [hsz]; exact Nat.ne_of_lt (Nat.lt_succ_self _)) #[.float x t1, .float y t2, .float z t3],
    ⟨⟨_, Heap.get?_push_size _ rfl, rfl, rfl⟩, hT.push _⟩, fun c hc => ?_, by simp, cmpOf_gt #[.float x t1, .float y t2, .float z t3] (by simp [NumV.float]), fun v h' tk hP hk => ?_⟩
  · show c < ((s.heap.push _).push _).objs.size
    rw [Heap.size_push, hsz]
    rcases List.mem_cons.mp hc with rfl | hc
    · rw [hsz]; exact Nat.lt_succ_self _
    · rcases List.mem_cons.mp hc with rfl | hc
      · exact Nat.lt_succ_of_lt (Nat.lt_succ_self _)
      · cases hc
  · have hold : ∀ c o, s.heap.get? c = some o → h'.get? c = some o := fun c o e => by
      refine hk c o (fun hm => ?_) (Heap.get?_push_of_some _ (Heap.get?_push_of_some _ e))
      rcases List.mem_cons.mp hm with e1 | hm
      · have := Heap.lt_size e; rw [e1, hsz] at this; exact Nat.lt_irrefl _ (Nat.lt_of_succ_lt this)
      · cases hm
    have hv : ∃ t, v = .float (mx3 x y z) t := by
      unfold mx3
      cases h1 : (Float64.cmp x y == some .lt)
      · cases h2 : (Float64.cmp x z == some .lt) <;> simp only [h2, Bool.false_eq_true, if_true, if_false] <;> simp [argBest, ltV, h1, h2] at hP <;> exact ⟨_, hP.symm⟩
      · cases h2 : (Float64.cmp y z == some .lt) <;> simp only [h2, Bool.false_eq_true, if_true, if_false] <;> simp [argBest, ltV, h1, h2] at hP <;> exact ⟨_, hP.symm⟩
    obtain ⟨t, rfl⟩ := hv
    exact h h' tk t (F.grownK hold) (N.grown hold)
theorem min_three_f (hh : A.handled = none) (F : Fr h₀ L s.heap m) (N : News h₀ L s.heap news)
    (h : ∀ h' tk v, Fr h₀ L h' m → News h₀ L h' news → Q (.float (mn3 x y z) v) { s with heap := h', toks := tk }) :
    wpAny (model prog w) A (call (.builtin "min") [.float x t1, .float y t2, .float z t3]) Q E s := by
  have hT : (s.heap.push { cls := .type "tuple", data := .seq #[.float x t1, .float y t2, .float z t3] }).IsTuple s.heap.objs.size #[.float x t1, .float y t2, .float z t3] := ⟨_, Heap.get?_push_size _ rfl, rfl, 0, rfl⟩
  refine call_min_three (wpAny_pyIter_tuple hT ?_)
  have hsz : (s.heap.push { cls := .type "tuple", data := .seq #[.float x t1, .float y t2, .float z t3] }).objs.size = s.heap.objs.size + 1 := Heap.size_push ..
  refine ⟨_, [_, s.heap.objs.size], [_], _, _, _, _, rfl, Walks.tuple (A := A.in1) hh _ s.heap.objs.size (by rw [hsz]; exact Nat.ne_of_lt (Nat.lt_succ_self _)) #[.float x t1, .float y t2, .float z t3],
    ⟨⟨_, Heap.get?_push_size _ rfl, rfl, rfl⟩, hT.push _⟩, fun c hc => ?_, by simp, cmpOf_lt #[.float x t1, .float y t2, .float z t3] (by simp [NumV.float]), fun v h' tk hP hk => ?_⟩
  · show c < ((s.heap.push _).push _).objs.size
    rw [Heap.size_push, hsz]
    rcases List.mem_cons.mp hc with rfl | hc
    · rw [hsz]; exact Nat.lt_succ_self _
    · rcases List.mem_cons.mp hc with rfl | hc
      · exact Nat.lt_succ_of_lt (Nat.lt_succ_self _)
      · cases hc
  · have hold : ∀ c o, s.heap.get? c = some o → h'.get? c = some o := fun c o e => by
      refine hk c o (fun hm => ?_) (Heap.get?_push_of_some _ (Heap.get?_push_of_some _ e))
      rcases List.mem_cons.mp hm with e1 | hm
      · have := Heap.lt_size e; rw [e1, hsz] at this; exact Nat.lt_irrefl _ (Nat.lt_of_succ_lt this)
      · cases hm
    have hv : ∃ t, v = .float (mn3 x y z) t := by
      unfold mn3
      cases h1 : (Float64.cmp y x == some .lt)
      · cases h2 : (Float64.cmp z x == some .lt) <;> simp only [h2, Bool.false_eq_true, if_true, if_false] <;> simp [argBest, ltV, h1, h2] at hP <;> exact ⟨_, hP.symm⟩
      · cases h2 : (Float64.cmp z y == some .lt) <;> simp only [h2, Bool.false_eq_true, if_true, if_false] <;> simp [argBest, ltV, h1, h2] at hP <;> exact ⟨_, hP.symm⟩
    obtain ⟨t, rfl⟩ := hv
    exact h h' tk t (F.grownK hold) (N.grown hold)
end
end Mine
end
section
open PySem PySem.W PyProof.Rows
set_option Elab.async false
set_option maxRecDepth 100000
set_option maxHeartbeats 8000000
namespace Mine
theorem kx_MRgb : True := by
  w_top off
  k_with_none
  trivial
noncomputable def rgbF (r g b : UInt64) : UInt64 × UInt64 × UInt64 :=
  let mx := mx3 r g b
  let mn := mn3 r g b
  let rg := Float64.sub mx mn
  let rc := Float64.div (Float64.sub mx r) rg
  let gc := Float64.div (Float64.sub mx g) rg
  let bc := Float64.div (Float64.sub mx b) rg
  let h := if (Float64.cmp r mx == some Ordering.eq) = true then Float64.sub bc gc
    else if (Float64.cmp g mx == some Ordering.eq) = true then Float64.sub (Float64.add C2 rc) bc
    else Float64.sub (Float64.add 4616189618054758400 gc) rc
  ((Float64.divmod (Float64.div h C6) C1).2, Float64.div rg mx, mx)
theorem kx_MRgb_0 : True := by
  k_with "leaving ref" => (exfalso; contradiction)
  trivial
theorem kx_MRgb_1 : True := by
  k_with "call builtin:max" => (k_here; k_dflt (refine' max_three_f ?hhZk ?FZk ?NZk ?_; (case hhZk => exact rfl); (case FZk => k_asm); (case NZk => k_asm); intro h' tk' v' F' N'))
  trivial
theorem kx_MRgb_2 : True := by
  k_with "call builtin:min" => (k_here; k_dflt (refine' min_three_f ?hhZk ?FZk ?NZk ?_; (case hhZk => exact rfl); (case FZk => k_asm); (case NZk => k_asm); intro h' tk' v' F' N'))
  trivial
theorem c_rgb (w : World) {x y z : UInt64} {t1 t2 t3 : Tok} {news : Led} (h0 : ¬ (Float64.cmp (mn3 x y z) (mx3 x y z) == some Ordering.eq) = true)
    (h1 : ¬ Float64.isZero (mx3 x y z) = true) (h2 : ¬ Float64.isZero (Float64.sub (mx3 x y z) (mn3 x y z)) = true) :
    Ctr w 48 [.float x t1, .float y t2, .float z t3] [] news 1 8 (NewTri news (rgbF x y z)) := by
  unfold Ctr
  k_fill
  intro loose mean mg mb dp un gd cn cs aa ccd cl outer A₀ base h₀ L m s Q E B F X N T hk hdp hun hret
  refine wpAny_call ?_
  k_dflt cell_enter
  k_steps
  all_goals first
    | contradiction
    | (refine hret _ _ _ _ (by k_asm) (by k_asm) (newTri_of ?_ (by assumption))
       unfold rgbF
       dsimp only
       repeat (first | rw [if_pos (by assumption)] | rw [if_neg (by simp only [Bool.not_eq_true]; assumption)]))
end Mine
end
section
open PySem PySem.W PyProof.Rows
set_option Elab.async false
set_option maxRecDepth 100000
set_option maxHeartbeats 8000000
namespace Mine
open PySem.Calls
section
variable {prog : Program} {w : World} {A : Around} {E : Value → Shared → Prop} {s : Shared}
theorem nextOf_tuple_item {it l : Addr} {i : Nat} {items} {x : Value} {Q : Value → Shared → Prop} (hit : s.heap.IsTupleIter it l i)
    (hl : s.heap.IsTuple l items) (hx : items[i]? = some x)
    (hQ : ∀ h', h'.IsTupleIter it l (i + 1) → Heap.SameBut it s.heap h' → Q x { s with heap := h' }) :
    wpAny (model prog w) A (Builtin.SmallTypes.nextOf (.ref it)) Q E s := by
  refine el_1_3 (id hit) ?_
  rintro o ho hc hd
  obtain ⟨ol, hol, _, nl, hdl⟩ := hl
  unfold Builtin.SmallTypes.nextOf
  refine wpAny_bind (wpAny_callSpecial?_slot (name := Str.ofString "__next__") hit.typeIs F.slot_tuple_iterator_next
    (wpAny_call_entry F.slot_tuple_iterator_next hit.typeIs F.entry_tuple_iterator_next ?_ (F.args_tuple_iterator_next_1 _)))
  show wpAny _ _ (field (.ref it) 0 >>= _) _ _ s
  refine wpAny_bind (wpAny_field ho hd (x := .ref l) rfl ?_)
  show wpAny _ _ (if (Value.ref l == Value.none) = true then _ else _) _ _ s
  rw [if_neg (show ¬ ((Value.ref l == Value.none) = true) from Bool.false_ne_true)]
  show wpAny _ _ (field (.ref it) 1 >>= _) _ _ s
  refine wpAny_bind (wpAny_field ho hd (x := .int i 0) rfl ?_)
  show wpAny _ _ (seqItems? (.ref l) >>= _) _ _ s
  refine wpAny_bind (wpAny_seqItems hol hdl ?_)
  simp only [Int.toNat_natCast, hx]
  refine wpAny_bind (wpAny_setField ho hd (by simp) (wpAny_pure ⟨x, rfl, wpAny_pure (hQ _ ?_ (Heap.SameBut.update ..))⟩))
  exact ⟨_, Heap.get?_update_self _ ho (Obj.isFreed_of_fields (Obj.data_mapFields hd _)), (Obj.cls_mapFields ..).trans hc, by
    rw [Obj.data_mapFields hd]; simp [rawInt]⟩
theorem nextOf_tuple_end {it l : Addr} {i : Nat} {items} {Q : Value → Shared → Prop} (hh : A.handled = none)
    (hit : s.heap.IsTupleIter it l i) (hl : s.heap.IsTuple l items) (hx : items[i]? = none)
    (hE : ∀ h' e, Heap.ExtBut it s.heap h' → (∃ o, h'.get? e = some o ∧ o.cls = .type "StopIteration") → E (.ref e) { s with heap := h' }) :
    wpAny (model prog w) A (Builtin.SmallTypes.nextOf (.ref it)) Q E s := by
  refine el_1_3 (id hit) ?_
  rintro o ho hc hd
  obtain ⟨ol, hol, _, nl, hdl⟩ := hl
  unfold Builtin.SmallTypes.nextOf
  refine wpAny_bind (wpAny_callSpecial?_slot (name := Str.ofString "__next__") hit.typeIs F.slot_tuple_iterator_next
    (wpAny_call_entry F.slot_tuple_iterator_next hit.typeIs F.entry_tuple_iterator_next ?_ (F.args_tuple_iterator_next_1 _)))
  show wpAny _ _ (field (.ref it) 0 >>= _) _ _ s
  refine wpAny_bind (wpAny_field ho hd (x := .ref l) rfl ?_)
  show wpAny _ _ (if (Value.ref l == Value.none) = true then _ else _) _ _ s
  rw [if_neg (show ¬ ((Value.ref l == Value.none) = true) from Bool.false_ne_true)]
  show wpAny _ _ (field (.ref it) 1 >>= _) _ _ s
  refine wpAny_bind (wpAny_field ho hd (x := .int i 0) rfl ?_)
  show wpAny _ _ (seqItems? (.ref l) >>= _) _ _ s
  refine wpAny_bind (wpAny_seqItems hol hdl ?_)
  simp only [Int.toNat_natCast, hx]
  refine wpAny_bind (wpAny_rule (wpAny_bind (wpAny_setField ho hd (by simp) ?_)))
  show wpAny _ _ (newExc (.type "StopIteration") [] >>= _) _ _ _
  refine wpAny_bind ?_
  simp only [newExc, newTuple]
  refine wpAny_bind (wpAny_newObj_type ?_ (by size_fits))
  refine wpAny_bind (m := firstArgMember _ _) (wpAny_of_eq (a := Value.none) (by first | rfl | (simp only [firstArgMember]; rfl)) ?_)
  refine wpAny_newObj_type ?_ (by size_fits)
  simp only [raiseNew]
  refine wpAny_bind (wpAny_handled ?_)
  first | rw [show A.in1.handled = none from hh] | rw [hh]
  refine wpAny_bind (wpAny_pure (wpAny_throw ?_))
  exact hE _ _ (((Heap.SameBut.update ..).extBut.push _).push _) ⟨_, Heap.get?_push_size _ rfl, rfl⟩
theorem drawsTuple (hh : A.handled = none) (it l : Addr) (hne : l ≠ it) (items : Array Value) :
    Draws prog w A it [it, l] items.size (fun i v => items[i]? = some v) (fun i h => h.IsTupleIter it l i ∧ h.IsTuple l items) where
  live := fun _ _ st => let ⟨o, ho, _⟩ := st.1; ⟨o, ho⟩
  frame := fun _ _ _ st hk => ⟨let ⟨o, ho, r⟩ := st.1; ⟨o, hk it (by simp) o ho, r⟩, let ⟨o, ho, r⟩ := st.2; ⟨o, hk l (by simp) o ho, r⟩⟩
  item := fun i s Q E hi st hQ => by
    refine nextOf_tuple_item st.1 st.2 (x := items[i]) (by simp [hi]) fun h' hit' hs' => ?_
    exact hQ _ h' s.toks (by simp [hi]) ⟨hit', st.2.extBut hs'.extBut hne⟩ hs'
  done := fun s Q E st hE => nextOf_tuple_end hh st.1 st.2 (by simp) hE

/-- what lies apart when two draws are zipped -/
structure ZipD (z TI TO i1 i2 : Addr) (fp1 fp2 : List Addr) : Prop where
  zf1 : z ∉ fp1
  zf2 : z ∉ fp2
  of1 : TO ∉ fp1
  of2 : TO ∉ fp2
  in1 : i1 ∈ fp1
  in2 : i2 ∈ fp2
  a12 : i1 ∉ fp2
  a21 : i2 ∉ fp1
  TIz : TI ≠ z
  TOz : TO ≠ z
  TITO : TI ≠ TO
  TIi1 : TI ≠ i1
  TIi2 : TI ≠ i2
theorem ne_of_mem {a b : Addr} {l : List Addr} (h : a ∈ l) (k : b ∉ l) : a ≠ b := fun e => k (e ▸ h)

variable {z TI TO i1 i2 : Addr} {fp1 fp2 : List Addr} {n1 n2 : Nat} {P1 P2 : Nat → Value → Prop} {St1 St2 : Nat → Heap → Prop}
theorem zipD_item {k : Nat} {a b : Value} {Q : Value → Shared → Prop} (D : ZipD z TI TO i1 i2 fp1 fp2) (D1 : Draws prog w A i1 fp1 n1 P1 St1) (D2 : Draws prog w A i2 fp2 n2 P2 St2)
    (hz : IsZip s.heap z TI TO .none) (hTI : IsPair s.heap TI (.ref i1) (.ref i2)) (hTO : IsPair s.heap TO a b) (h1 : St1 k s.heap) (h2 : St2 k s.heap) (hk1 : k < n1) (hk2 : k < n2)
    (hQ : ∀ h' tk x y, P1 k x → P2 k y → IsZip h' z TI TO (rawInt s.heap.objs.size) → IsPair h' TO x y → St1 (k + 1) h' → St2 (k + 1) h' → IsPair h' s.heap.objs.size x y →
      (∀ c o, c ≠ z → c ≠ TO → c ≠ i1 → c ≠ i2 → s.heap.get? c = some o → h'.get? c = some o) → Q (.ref s.heap.objs.size) { s with heap := h', toks := tk }) :
    wpAny (model prog w) A (Builtin.«zip.__next__» ⟨[.ref z], []⟩) (fun fin s' => ∃ v, fin = .done (.ret v) ∧ Q v s') E s := by
  have i1z : i1 ≠ z := ne_of_mem D.in1 D.zf1
  have i2z : i2 ≠ z := ne_of_mem D.in2 D.zf2
  have TOi1 : TO ≠ i1 := (ne_of_mem D.in1 D.of1).symm
  have TOi2 : TO ≠ i2 := (ne_of_mem D.in2 D.of2).symm
  have i12 : i1 ≠ i2 := ne_of_mem D.in1 D.a21
  show wpAny _ _ (field (.ref z) 2 >>= _) _ _ _
  refine wpAny_bind (wpAny_field hz rfl (x := .bool false) rfl ?_)
  show wpAny _ _ (field (.ref z) 3 >>= _) _ _ _
  refine wpAny_bind (wpAny_field hz rfl (x := .ref TI) rfl ?_)
  refine wpAny_bind (wpAny_seqItems hTI rfl ?_)
  show wpAny _ _ (Builtin.SmallTypes.ownedTupleIsFree (.ref z) >>= _) _ _ _
  refine wpAny_bind ?_
  unfold Builtin.SmallTypes.ownedTupleIsFree
  refine wpAny_bind (wpAny_field hz rfl (x := .none) rfl (wpAny_pure ?_))
  simp only [if_true]
  refine wpAny_bind (wpAny_rule ?_)
  refine wpAny_bind (wpAny_field hz rfl (x := .ref TO) rfl ?_)
  refine wpAny_bind (wpAny_setField_rec hz (by simp) fun h₁ hz₁ hs₁ => ?_)
  replace hz₁ : IsZip h₁ z TI TO .ellipsis := hz₁
  have s1₁ : St1 k h₁ := D1.frame _ _ _ h1 fun b hb o e => hs₁.extBut b o (ne_of_mem hb D.zf1) e
  have s2₁ : St2 k h₁ := D2.frame _ _ _ h2 fun b hb o e => hs₁.extBut b o (ne_of_mem hb D.zf2) e
  refine wpAny_bind ?_
  simp only [List.zipIdx_cons, List.zipIdx_nil, List.forIn_cons, List.forIn_nil]
  refine wpAny_bind (wpAny_bind (wpAny_onRaise ?_))
  show wpAny _ _ (Builtin.SmallTypes.nextOf (.ref i1) >>= _) _ _ _
  refine wpAny_bind (D1.item k _ _ _ hk1 s1₁ fun x h₂ tk₂ hP1 s1₂ hs₂ => wpAny_pure ?_)
  have s2₂ : St2 k h₂ := D2.frame _ _ _ s2₁ fun b hb o e => hs₂.extBut b o (ne_of_mem hb D.a12) e
  have hTO₂ : IsPair h₂ TO a b := hs₂.extBut _ _ TOi1 (hs₁.extBut _ _ D.TOz hTO)
  refine wpAny_bind (wpAny_seqItems hTO₂ rfl ?_)
  refine wpAny_bind (wpAny_updateSeq_pair hTO₂ fun h₃ hTO₃ hs₃ => ?_)
  replace hTO₃ : IsPair h₃ TO x b := hTO₃
  have s1₃ : St1 (k + 1) h₃ := D1.frame _ _ _ s1₂ fun b hb o e => hs₃.extBut b o (ne_of_mem hb D.of1) e
  have s2₃ : St2 k h₃ := D2.frame _ _ _ s2₂ fun b hb o e => hs₃.extBut b o (ne_of_mem hb D.of2) e
  refine wpAny_bind (wpAny_letGo (wpAny_pure ?_))
  refine wpAny_bind (wpAny_bind (wpAny_onRaise ?_))
  show wpAny _ _ (Builtin.SmallTypes.nextOf (.ref i2) >>= _) _ _ _
  refine wpAny_bind (D2.item k _ _ _ hk2 s2₃ fun y h₄ tk₄ hP2 s2₄ hs₄ => wpAny_pure ?_)
  have s1₄ : St1 (k + 1) h₄ := D1.frame _ _ _ s1₃ fun b hb o e => hs₄.extBut b o (ne_of_mem hb D.a21) e
  have hTO₄ : IsPair h₄ TO x b := hs₄.extBut _ _ TOi2 hTO₃
  refine wpAny_bind (wpAny_seqItems hTO₄ rfl ?_)
  refine wpAny_bind (wpAny_updateSeq_pair hTO₄ fun h₅ hTO₅ hs₅ => ?_)
  replace hTO₅ : IsPair h₅ TO x y := hTO₅
  have s1₅ : St1 (k + 1) h₅ := D1.frame _ _ _ s1₄ fun b hb o e => hs₅.extBut b o (ne_of_mem hb D.of1) e
  have s2₅ : St2 (k + 1) h₅ := D2.frame _ _ _ s2₄ fun b hb o e => hs₅.extBut b o (ne_of_mem hb D.of2) e
  refine wpAny_bind (wpAny_letGo (wpAny_pure (wpAny_pure ?_)))
  refine wpAny_bind (wpAny_seqItems hTO₅ rfl ?_)
  refine wpAny_bind (wpAny_newTuple ?_)
  have hsz : h₅.objs.size = s.heap.objs.size := by rw [hs₅.1, hs₄.1, hs₃.1, hs₂.1, hs₁.1]
  have hz₅ : IsZip h₅ z TI TO .ellipsis := hs₅.extBut _ _ D.TOz.symm (hs₄.extBut _ _ i2z.symm (hs₃.extBut _ _ D.TOz.symm (hs₂.extBut _ _ i1z.symm hz₁)))
  have hk₅ : ∀ c o, c ≠ z → c ≠ TO → c ≠ i1 → c ≠ i2 → s.heap.get? c = some o → h₅.get? c = some o := fun c o c1 c2 c3 c4 e =>
    hs₅.extBut _ _ c2 (hs₄.extBut _ _ c4 (hs₃.extBut _ _ c2 (hs₂.extBut _ _ c3 (hs₁.extBut _ _ c1 e))))
  have hzlt : z < h₅.objs.size := Heap.lt_size hz₅
  show wpAny _ _ (Builtin.SmallTypes.ownedTupleHandOut (.ref z) (.ref h₅.objs.size) >>= _) _ _ _
  refine wpAny_bind ?_
  unfold Builtin.SmallTypes.ownedTupleHandOut
  have hz₆ : IsZip (h₅.push { cls := .type "tuple", data := .seq #[x, y] }) z TI TO .ellipsis := Heap.get?_push_of_some _ hz₅
  refine wpAny_bind (wpAny_setField_rec hz₆ (by simp) fun h₇ hz₇ hs₇ => ?_)
  replace hz₇ : IsZip h₇ z TI TO (rawInt h₅.objs.size) := hz₇
  refine wpAny_setField_rec hz₇ (by simp) fun h₈ hz₈ hs₈ => ?_
  replace hz₈ : IsZip h₈ z TI TO (rawInt h₅.objs.size) := hz₈
  have up : ∀ c o, c ≠ z → h₅.get? c = some o → h₈.get? c = some o := fun c o c1 e => hs₈.extBut _ _ c1 (hs₇.extBut _ _ c1 (Heap.get?_push_of_some _ e))
  have hT₈ : IsPair h₈ h₅.objs.size x y := hs₈.extBut _ _ (Nat.ne_of_gt hzlt) (hs₇.extBut _ _ (Nat.ne_of_gt hzlt) (Heap.get?_push_size _ rfl))
  have s1₈ : St1 (k + 1) h₈ := D1.frame _ _ _ s1₅ fun b hb o e => up b o (ne_of_mem hb D.zf1) e
  have s2₈ : St2 (k + 1) h₈ := D2.frame _ _ _ s2₅ fun b hb o e => up b o (ne_of_mem hb D.zf2) e
  rw [hsz] at hz₈ hT₈
  refine wpAny_pure ⟨_, rfl, ?_⟩
  show Q (.ref h₅.objs.size) _
  rw [hsz]
  exact hQ h₈ _ x y hP1 hP2 hz₈ (up _ _ D.TOz hTO₅) s1₈ s2₈ hT₈ fun c o c1 c2 c3 c4 e => up c o c1 (hk₅ c o c1 c2 c3 c4 e)

theorem zipD_end {n : Nat} {a b : Value} {Q : Fin → Shared → Prop} (D : ZipD z TI TO i1 i2 fp1 fp2) (D1 : Draws prog w A i1 fp1 n P1 St1) (D2 : Draws prog w A i2 fp2 n2 P2 St2)
    (hz : IsZip s.heap z TI TO .none) (hTI : IsPair s.heap TI (.ref i1) (.ref i2)) (hTO : IsPair s.heap TO a b) (h1 : St1 n s.heap)
    (hE : ∀ h' e, (∀ c o, c ≠ z → c ≠ TO → c ≠ i1 → c ≠ i2 → s.heap.get? c = some o → h'.get? c = some o) → (∃ o, h'.get? e = some o ∧ o.cls = .type "StopIteration") → E (.ref e) { s with heap := h' }) :
    wpAny (model prog w) A (Builtin.«zip.__next__» ⟨[.ref z], []⟩) Q E s := by
  have i1z : i1 ≠ z := ne_of_mem D.in1 D.zf1
  show wpAny _ _ (field (.ref z) 2 >>= _) _ _ _
  refine wpAny_bind (wpAny_field hz rfl (x := .bool false) rfl ?_)
  show wpAny _ _ (field (.ref z) 3 >>= _) _ _ _
  refine wpAny_bind (wpAny_field hz rfl (x := .ref TI) rfl ?_)
  refine wpAny_bind (wpAny_seqItems hTI rfl ?_)
  show wpAny _ _ (Builtin.SmallTypes.ownedTupleIsFree (.ref z) >>= _) _ _ _
  refine wpAny_bind ?_
  unfold Builtin.SmallTypes.ownedTupleIsFree
  refine wpAny_bind (wpAny_field hz rfl (x := .none) rfl (wpAny_pure ?_))
  simp only [if_true]
  refine wpAny_bind (wpAny_rule ?_)
  refine wpAny_bind (wpAny_field hz rfl (x := .ref TO) rfl ?_)
  refine wpAny_bind (wpAny_setField_rec hz (by simp) fun h₁ hz₁ hs₁ => ?_)
  replace hz₁ : IsZip h₁ z TI TO .ellipsis := hz₁
  have s1₁ : St1 n h₁ := D1.frame _ _ _ h1 fun b hb o e => hs₁.extBut b o (ne_of_mem hb D.zf1) e
  refine wpAny_bind ?_
  simp only [List.zipIdx_cons, List.zipIdx_nil, List.forIn_cons, List.forIn_nil]
  refine wpAny_bind (wpAny_bind (wpAny_onRaise ?_))
  show wpAny _ _ (Builtin.SmallTypes.nextOf (.ref i1) >>= _) _ _ _
  refine wpAny_bind (D1.done _ _ _ s1₁ fun h₂ e hs₂ he => ?_)
  obtain ⟨oe, hoe, hce⟩ := he
  have hz₂ : IsZip h₂ z TI TO .ellipsis := hs₂ _ _ i1z.symm hz₁
  have hez : e ≠ z := fun x => by subst x; rw [hz₂] at hoe; cases hoe; simp at hce
  refine wpAny_setField_rec hz₂ (by simp) fun h₃ _ hs₃ => hE h₃ e (fun c o c1 _ c3 _ x => hs₃.extBut _ _ c1 (hs₂ _ _ c3 (hs₁.extBut _ _ c1 x))) ⟨oe, hs₃.extBut _ _ hez hoe, hce⟩
end
theorem zipD {prog : Program} {w : World} {A : Around} {z TI TO i1 i2 : Addr} {fp1 fp2 : List Addr} {n : Nat} {P1 P2 : Nat → Value → Prop} {St1 St2 : Nat → Heap → Prop}
    (D : ZipD z TI TO i1 i2 fp1 fp2) (D1 : Draws prog w A.in1 i1 fp1 n P1 St1) (D2 : Draws prog w A.in1 i2 fp2 n P2 St2) :
    WalksT prog w A z (z :: TI :: TO :: (fp1 ++ fp2)) [z, TO, i1, i2] n (fun i vals => ∃ x y, P1 i x ∧ P2 i y ∧ vals = #[x, y])
      (fun i h => IsZip h z TI TO .none ∧ IsPair h TI (.ref i1) (.ref i2) ∧ (∃ a b, IsPair h TO a b) ∧ St1 i h ∧ St2 i h)
      (fun i T h => IsZip h z TI TO (rawInt T) ∧ IsPair h TI (.ref i1) (.ref i2) ∧ (∃ a b, IsPair h TO a b) ∧ St1 (i + 1) h ∧ St2 (i + 1) h ∧ T ≠ z ∧ T ≠ TO ∧ T ≠ i1 ∧ T ≠ i2) where
  sub := fun c hc => by
    simp only [List.mem_cons, List.not_mem_nil, or_false] at hc
    rcases hc with rfl | rfl | rfl | rfl
    · simp
    · simp
    · simp [D.in1]
    · simp [D.in2]
  frame := fun i h h' hst hk => by
    refine el_0_5 (hst) ?_
    clear hst
    rintro hz hTI ⟨a, b, hTO⟩ h1 h2
    exact ⟨hk z (by simp) _ hz, hk TI (by simp) _ hTI, ⟨a, b, hk TO (by simp) _ hTO⟩, D1.frame _ _ _ h1 fun b hb o e => hk b (by simp [hb]) o e, D2.frame _ _ _ h2 fun b hb o e => hk b (by simp [hb]) o e⟩
  item := fun i s Q E hi hst hQ => by
    refine el_0_5 (hst) ?_
    clear hst
    rintro hz hTI ⟨a, b, hTO⟩ h1 h2
    have hT : s.TypeIs (.ref z) "zip" := ⟨_, hz, rfl⟩
    have lt : ∀ {c o}, s.heap.get? c = some o → s.heap.objs.size ≠ c := fun e => Nat.ne_of_gt (Heap.lt_size e)
    obtain ⟨o1, e1⟩ := D1.live _ _ h1
    obtain ⟨o2, e2⟩ := D2.live _ _ h2
    unfold pyNext
    refine wpAny_bind (wpAny_attempt (wpAny_callSpecial?_slot (name := Str.ofString "__next__") hT F.slot_zip_next
      (wpAny_call_entry F.slot_zip_next hT F.entry_zip_next (zipD_item D D1 D2 hz hTI hTO h1 h2 hi hi fun h' tk x y p1 p2 a1 a2 a3 a4 a5 hk => wpAny_pure ?_) (F.args_zip_next_1 _))))
    exact hQ s.heap.objs.size #[x, y] h' tk ⟨x, y, p1, p2, rfl⟩ (Nat.le_refl _) ⟨_, a5, rfl, _, rfl⟩
      ⟨a1, hk _ _ D.TIz D.TITO D.TIi1 D.TIi2 hTI, ⟨_, _, a2⟩, a3, a4, lt hz, lt hTO, lt e1, lt e2⟩
      fun c o hc e => hk c o (fun x => hc (by simp [x])) (fun x => hc (by simp [x])) (fun x => hc (by simp [x])) (fun x => hc (by simp [x])) e
  go := fun elts k pos i T s Q E hm hQ => by
    refine el_0_6 (hm) ?_
    clear hm
    rintro hz hTI ⟨a, b, hTO⟩ h1 h2 _
    refine wpAny_letOwnedTupleGo_zip hz fun h' hz' hs' => hQ h' ⟨hz', hs'.extBut _ _ D.TIz hTI, ⟨a, b, hs'.extBut _ _ D.TOz hTO⟩,
      D1.frame _ _ _ h1 fun b hb o e => hs'.extBut b o (ne_of_mem hb D.zf1) e, D2.frame _ _ _ h2 fun b hb o e => hs'.extBut b o (ne_of_mem hb D.zf2) e⟩ fun c o hc e => hs'.extBut _ _ (fun x => hc (by simp [x])) e
  apart := fun i T h hm hT => by
    refine el_0_9 (hm) ?_
    clear hm
    rintro _ _ _ _ _ t1 t2 t3 t4
    simp at hT
    rcases hT with rfl | rfl | rfl | rfl
    · exact t1 rfl
    · exact t2 rfl
    · exact t3 rfl
    · exact t4 rfl
  done := fun s Q E hst hQ => by
    refine el_0_5 (hst) ?_
    clear hst
    rintro hz hTI ⟨a, b, hTO⟩ h1 h2
    have hT : s.TypeIs (.ref z) "zip" := ⟨_, hz, rfl⟩
    unfold pyNext
    refine wpAny_bind (wpAny_attempt (wpAny_callSpecial?_slot (name := Str.ofString "__next__") hT F.slot_zip_next
      (wpAny_call_entry F.slot_zip_next hT F.entry_zip_next (zipD_end D D1 D2 hz hTI hTO h1 fun h' e hk he => ?_) (F.args_zip_next_1 _))))
    obtain ⟨o, ho, hc⟩ := he
    refine wpAny_bind (wpAny_isInstance (T := "StopIteration") (b := true) ⟨o, ho, hc⟩ isSubtype_stop ?_)
    exact wpAny_pure (hQ h' s.toks fun c o hc e => hk c o (fun x => hc (by simp [x])) (fun x => hc (by simp [x])) (fun x => hc (by simp [x])) (fun x => hc (by simp [x])) e)
  self := fun i s Q E hst hQ => wpAny_pyIter_zip hst.1 hQ
end Mine
end
section
open PySem PySem.W PyProof.Rows
set_option Elab.async false
set_option maxRecDepth 100000
set_option maxHeartbeats 8000000
namespace Mine
open PySem.Calls
noncomputable abbrev zt1 (h : Heap) (l1 : Addr) : Heap := h.push { cls := .type "tuple_iterator", data := .fields #[.ref l1, .int 0 0] }
noncomputable abbrev zt2 (h : Heap) (l1 l2 : Addr) : Heap := (zt1 h l1).push { cls := .type "tuple_iterator", data := .fields #[.ref l2, .int 0 0] }
noncomputable abbrev zt3 (h : Heap) (l1 l2 : Addr) : Heap := (zt2 h l1 l2).push { cls := .type "tuple", data := .seq #[.ref h.objs.size, .ref (zt1 h l1).objs.size] }
noncomputable abbrev zt4 (h : Heap) (l1 l2 : Addr) : Heap := (zt3 h l1 l2).push { cls := .type "tuple", data := .seq #[.none, .none] }
noncomputable abbrev zt5 (h : Heap) (l1 l2 : Addr) : Heap := (zt4 h l1 l2).push { cls := .type "zip", data := .fields #[.none, .bool false, .bool false, .ref (zt2 h l1 l2).objs.size, .ref (zt3 h l1 l2).objs.size] }
theorem meets_zip_newT (l1 l2 : Addr) (xs ys : Array Value) :
    Meets (Builtin.«zip.__new__» ⟨[.type "zip", .ref l1, .ref l2], []⟩) (fun _ R s => s.heap.IsTuple l1 xs ∧ s.heap.IsTuple l2 ys ∧
      R (.ok (.ret (.ref (zt4 s.heap l1 l2).objs.size))) { s with heap := zt5 s.heap l1 l2 }) :=
  .of_wp fun prog w A R s h => by
    obtain ⟨hp, g, d, tk, os⟩ := s; obtain ⟨hl1, hl2, h⟩ := h
    have hsub := sub_zip
    have hL1 : Heap.IsTuple (Shared.heap ⟨hp, g, d, tk, os⟩) l1 xs := hl1
    have hL2 : Heap.IsTuple (Shared.heap ⟨hp.push { cls := .type "tuple_iterator", data := .fields #[.ref l1, .int 0 0] }, g, d, tk, os⟩) l2 ys := Heap.IsTuple.push hl2 _
    wp_walk using wpAny_pyIter_tuple hL1, wpAny_pyIter_tuple hL2
    exact ⟨_, rfl, h⟩
section
variable {prog : Program} {w : World} {A : Around} {E : Value → Shared → Prop} {s : Shared}
theorem call_zip_2T {l1 l2 : Addr} {xs ys : Array Value} {Q : Value → Shared → Prop} (hl1 : s.heap.IsTuple l1 xs) (hl2 : s.heap.IsTuple l2 ys)
    (h : ∀ h', IsZip h' (s.heap.objs.size + 4) (s.heap.objs.size + 2) (s.heap.objs.size + 3) .none → IsPair h' (s.heap.objs.size + 2) (.ref s.heap.objs.size) (.ref (s.heap.objs.size + 1)) →
      IsPair h' (s.heap.objs.size + 3) .none .none → h'.IsTupleIter s.heap.objs.size l1 0 → h'.IsTupleIter (s.heap.objs.size + 1) l2 0 →
      (∀ c o, s.heap.get? c = some o → h'.get? c = some o) → Q (.ref (s.heap.objs.size + 4)) { s with heap := h' }) :
    wpAny (model prog w) A (call (.type "zip") [.ref l1, .ref l2]) Q E s := by
  refine callType_new F.called_zip (by decide) (F.typeCall_zip_2 _ _) (F.newCall_zip_2 _ _) (fun obj => F.args_object_init_3 obj _ _) F.entry_zip_new
    (meets_zip_newT l1 l2 xs ys) ⟨hl1, hl2, ?_⟩
  have z1 : (zt1 s.heap l1).objs.size = s.heap.objs.size + 1 := Heap.size_push ..
  have z2 : (zt2 s.heap l1 l2).objs.size = s.heap.objs.size + 2 := by rw [Heap.size_push, z1]
  have z3 : (zt3 s.heap l1 l2).objs.size = s.heap.objs.size + 3 := by rw [Heap.size_push, z2]
  have z4 : (zt4 s.heap l1 l2).objs.size = s.heap.objs.size + 4 := by rw [Heap.size_push, z3]
  have g5 : (zt5 s.heap l1 l2).get? (zt4 s.heap l1 l2).objs.size = some _ := Heap.get?_push_size _ rfl
  have g4 : (zt5 s.heap l1 l2).get? (zt3 s.heap l1 l2).objs.size = some _ := Heap.get?_push_of_some _ (Heap.get?_push_size _ rfl)
  have g3 : (zt5 s.heap l1 l2).get? (zt2 s.heap l1 l2).objs.size = some _ := Heap.get?_push_of_some _ (Heap.get?_push_of_some _ (Heap.get?_push_size _ rfl))
  have g2 : (zt5 s.heap l1 l2).get? (zt1 s.heap l1).objs.size = some _ := Heap.get?_push_of_some _ (Heap.get?_push_of_some _ (Heap.get?_push_of_some _ (Heap.get?_push_size _ rfl)))
  have g1 : (zt5 s.heap l1 l2).get? s.heap.objs.size = some _ := Heap.get?_push_of_some _ (Heap.get?_push_of_some _ (Heap.get?_push_of_some _ (Heap.get?_push_of_some _ (Heap.get?_push_size _ rfl))))
  show _ ∧ _
  rw [z2, z3, z4] at g5
  rw [z1, z2] at g3
  rw [z3] at g4
  rw [z1] at g2
  rw [z4]
  exact ⟨⟨_, g5, rfl⟩, h _ g5 g3 g4 ⟨_, g1, rfl, rfl⟩ ⟨_, g2, rfl, rfl⟩ fun c o x =>
    Heap.get?_push_of_some _ (Heap.get?_push_of_some _ (Heap.get?_push_of_some _ (Heap.get?_push_of_some _ (Heap.get?_push_of_some _ x))))⟩
end
theorem zipD_new {I l1 l2 : Nat} (h1 : l1 < I) (h2 : l2 < I) : ZipD (I + 4) (I + 2) (I + 3) I (I + 1) [I, l1] [I + 1, l2] := by
  constructor
  all_goals first
    | (refine neN ?_; omega)
    | (intro hm; simp only [List.mem_cons, List.not_mem_nil, or_false] at hm; rcases hm with e | e <;> exact absurd e (by refine neN ?_; omega))
    | simp
section
variable {prog : Program} {w : World} {A : Around} {E : Value → Shared → Prop} {s : Shared} {env : Env} {h₀ : Heap} {target : Expr} {body : List Stmt} {Q : Flow → Shared → Prop}
/-- a loop over zip of two tuples of the ledger -/
theorem turns_zipT {elts : List Expr} {k : Nat} {pos : Pos} {l1 l2 : Addr} {xs ys : List Value} {n1 n2 : Nat} {m₀ : Str → Option Value} {news : List (Addr × Obj)}
    (hh : A.handled = none) (F : Fr h₀ env.locals s.heap m₀) (N : News h₀ env.locals s.heap news) (hm1 : (l1, ({ cls := .type "tuple", data := .seq xs.toArray n1 } : Obj)) ∈ news) (hm2 : (l2, ({ cls := .type "tuple", data := .seq ys.toArray n2 } : Obj)) ∈ news) (hlen : xs.length = ys.length)
    (rest₀ : ∀ I : Addr, (∀ p ∈ news, p.1 < I) → ItemsRest prog w A E h₀ env (.Tuple elts k pos) body Q s [(I + 4, "zip"), (I + 2, "tuple"), (I + 3, "tuple"), (I, "tuple_iterator"), (I + 1, "tuple_iterator")] [(l1, { cls := .type "tuple", data := .seq xs.toArray n1 }), (l2, { cls := .type "tuple", data := .seq ys.toArray n2 })] (zipItems xs ys) m₀ news) :
    wpAny (model prog w) A (call (.type "zip") [.ref l1, .ref l2]) (fun xv s₁ => wpAny (model prog w) A (pyIter xv) (fun it s₂ => TurnsAt prog w A h₀ env (.Tuple elts k pos) body Q E it s₂) E s₁) E s := by
  have hax1 := N _ hm1
  have hax2 := N _ hm2
  have hl1 : s.heap.IsTuple l1 xs.toArray := ⟨_, hax1.1, rfl, n1, rfl⟩
  have hl2 : s.heap.IsTuple l2 ys.toArray := ⟨_, hax2.1, rfl, n2, rfl⟩
  have hlt1 : l1 < s.heap.objs.size := Heap.lt_size hax1.1
  have hlt2 : l2 < s.heap.objs.size := Heap.lt_size hax2.1
  have hLs : env.locals < s.heap.objs.size := F.ns.lt
  have D : ZipD (s.heap.objs.size + 4) (s.heap.objs.size + 2) (s.heap.objs.size + 3) s.heap.objs.size (s.heap.objs.size + 1) [s.heap.objs.size, l1] [s.heap.objs.size + 1, l2] := zipD_new hlt1 hlt2
  refine call_zip_2T hl1 hl2 fun h' hz hTI hTO hi1 hi2 hk => ?_
  refine wpAny_pyIter_zip hz ?_
  have D1 := drawsTuple (prog := prog) (w := w) (A := A.in1) hh s.heap.objs.size l1 (Nat.ne_of_lt hlt1) xs.toArray
  have D2 := drawsTuple (prog := prog) (w := w) (A := A.in1) hh (s.heap.objs.size + 1) l2 (ktu_ne 1 hlt2) ys.toArray
  have hsz : xs.toArray.size = ys.toArray.size := by simp [hlen]
  rw [← hsz] at D2
  refine ktu_core (tk0 := s.toks) (keep := [(l1, { cls := .type "tuple", data := .seq xs.toArray n1 }), (l2, { cls := .type "tuple", data := .seq ys.toArray n2 })]) (KTurns.ofWalksU (zipD D D1 D2).toU) (by simp [zipItems_length, hlen]) ?_ ?_ ?_ ?_ ?_ ?_ ?_ ?_ (F.keeps hk) (N.grown hk) (And.intro hm1 (And.intro hm2 trivial)) (rest₀ _ fun p hp => Heap.lt_size (N p hp).1)
  · rintro i v h hJz
    refine el_2_3 (hJz) ?_
    clear hJz
    rintro T vals rfl ⟨x, y, hx, hy, rfl⟩ hT
    exact ⟨_, zipItems_get xs ys i (x := x) (y := y) (by simpa using hx) (by simpa using hy), T, 0, rfl, hT⟩
  · rintro i h hJz
    refine el_0_6 (hJz) ?_
    clear hJz
    rintro hz hTI ⟨a, b, hTO⟩ ⟨⟨o1, ho1, hc1, _⟩, _⟩ ⟨o2, ho2, hc2, _⟩ _
    have e1 : ∃ o : Obj, h.get? (s.heap.objs.size + 4) = some o ∧ o.cls = .type "zip" := ⟨_, hz, rfl⟩
    have e2 : ∃ o : Obj, h.get? (s.heap.objs.size + 2) = some o ∧ o.cls = .type "tuple" := ⟨_, hTI, rfl⟩
    have e3 : ∃ o : Obj, h.get? (s.heap.objs.size + 3) = some o ∧ o.cls = .type "tuple" := ⟨_, hTO, rfl⟩
    obtain ⟨q1, g1, k1⟩ := e1
    obtain ⟨q2, g2, k2⟩ := e2
    obtain ⟨q3, g3, k3⟩ := e3
    refine ⟨[(s.heap.objs.size + 4, q1), (s.heap.objs.size + 2, q2), (s.heap.objs.size + 3, q3), (s.heap.objs.size, o1), (s.heap.objs.size + 1, o2)], ⟨⟨rfl, k1⟩, ⟨rfl, k2⟩, ⟨rfl, k3⟩, ⟨rfl, hc1⟩, ⟨rfl, hc2⟩, trivial⟩, fun p hp => ?_⟩
    simp only [List.mem_cons, List.not_mem_nil, or_false] at hp
    rcases hp with rfl | rfl | rfl | rfl | rfl <;> assumption
  · intro b hb
    have hb' : b = s.heap.objs.size + 4 ∨ b = s.heap.objs.size + 2 ∨ b = s.heap.objs.size + 3 ∨ b = s.heap.objs.size ∨ b = s.heap.objs.size + 1 := by simpa using hb
    rcases hb' with rfl | rfl | rfl | rfl | rfl
    · exact ⟨by simp, ktu_new F (Nat.le_add_right _ _)⟩
    · exact ⟨by simp, ktu_new F (Nat.le_add_right _ _)⟩
    · exact ⟨by simp, ktu_new F (Nat.le_add_right _ _)⟩
    · exact ⟨by simp, ktu_new F (Nat.le_refl _)⟩
    · exact ⟨by simp, ktu_new F (Nat.le_add_right _ _)⟩
  · intro b hb
    have hb' : b = s.heap.objs.size + 4 ∨ b = s.heap.objs.size + 3 ∨ b = s.heap.objs.size ∨ b = s.heap.objs.size + 1 := by simpa using hb
    rcases hb' with rfl | rfl | rfl | rfl <;> simp
  · intro b hb
    have hb' : b = s.heap.objs.size + 4 ∨ b = s.heap.objs.size + 2 ∨ b = s.heap.objs.size + 3 ∨ b = s.heap.objs.size ∨ b = l1 ∨ b = s.heap.objs.size + 1 ∨ b = l2 := by simpa using hb
    rcases hb' with rfl | rfl | rfl | rfl | rfl | rfl | rfl
    · exact .inl (by simp)
    · exact .inl (by simp)
    · exact .inl (by simp)
    · exact .inl (by simp)
    · exact .inr ⟨_, List.mem_cons_self ..⟩
    · exact .inl (by simp)
    · exact .inr ⟨_, List.mem_cons_of_mem _ (List.mem_cons_self ..)⟩
  · intro hI'
    have hb' : env.locals = s.heap.objs.size + 4 ∨ env.locals = s.heap.objs.size + 2 ∨ env.locals = s.heap.objs.size + 3 ∨ env.locals = s.heap.objs.size ∨ env.locals = l1 ∨ env.locals = s.heap.objs.size + 1 ∨ env.locals = l2 := by simpa using hI'
    have n1 := hax1.2.1
    have n2 := hax2.2.1
    rcases hb' with e | e | e | e | e | e | e
    · exact ktu_ne 4 hLs e
    · exact ktu_ne 2 hLs e
    · exact ktu_ne 3 hLs e
    · exact Nat.ne_of_lt hLs e
    · exact n1 e.symm
    · exact ktu_ne 1 hLs e
    · exact n2 e.symm
  · intro p hp hI'
    have hb' : p.1 = s.heap.objs.size + 4 ∨ p.1 = s.heap.objs.size + 3 ∨ p.1 = s.heap.objs.size ∨ p.1 = s.heap.objs.size + 1 := by simpa using hI'
    have hlp := Heap.lt_size (N p hp).1
    rcases hb' with e | e | e | e
    · exact ktu_ne 4 hlp e
    · exact ktu_ne 3 hlp e
    · exact Nat.ne_of_lt hlp e
    · exact ktu_ne 1 hlp e
  · exact ⟨hz, hTI, ⟨_, _, hTO⟩, ⟨hi1, hl1.at fun o e => hk l1 o e⟩, ⟨hi2, hl2.at fun o e => hk l2 o e⟩⟩
end
end Mine
end
section
open PySem PySem.W PyProof.Rows
set_option Elab.async false
set_option maxRecDepth 100000
set_option maxHeartbeats 8000000
namespace Mine
theorem kx_MAr : True := by
  w_top off
  k_with_none
  trivial
theorem kx_MAr_0 : True := by
  k_with "leaving ref" => (exfalso; contradiction)
  trivial
theorem c_add_ff (w : World) {x : UInt64} {y : UInt64} {t1 t2 : Tok} {news : Led} :
    Ctr w 62 [.float x t1, .float y t2] [] news 1 8 (fun v news' => ∃ t, v = .float (Float64.add x y) t ∧ news' = news) := by
  unfold Ctr
  k_fill
  intro loose mean mg mb dp un gd cn cs aa ccd cl outer A₀ base h₀ L m s Q E B F X N T hk hdp hun hret
  refine wpAny_call ?_
  k_dflt cell_enter
  k_steps
  all_goals exact hret _ _ _ _ (by k_asm) (by k_asm) ⟨_, rfl, rfl⟩
theorem c_add_if (w : World) {x : Int} {y : UInt64} {t1 t2 : Tok} {news : Led} (ho : ¬ 2 ^ 1024 - 2 ^ 970 ≤ x.natAbs) :
    Ctr w 62 [.int x t1, .float y t2] [] news 1 8 (fun v news' => ∃ t, v = .float (Float64.add (Float64.ofInt x) y) t ∧ news' = news) := by
  unfold Ctr
  k_fill
  intro loose mean mg mb dp un gd cn cs aa ccd cl outer A₀ base h₀ L m s Q E B F X N T hk hdp hun hret
  refine wpAny_call ?_
  k_dflt cell_enter
  k_steps
  all_goals exact hret _ _ _ _ (by k_asm) (by k_asm) ⟨_, rfl, rfl⟩
theorem c_add_ii (w : World) {x : Int} {y : Int} {t1 t2 : Tok} {news : Led} :
    Ctr w 62 [.int x t1, .int y t2] [] news 1 8 (fun v news' => ∃ t, v = .int (x + y) t ∧ news' = news) := by
  unfold Ctr
  k_fill
  intro loose mean mg mb dp un gd cn cs aa ccd cl outer A₀ base h₀ L m s Q E B F X N T hk hdp hun hret
  refine wpAny_call ?_
  k_dflt cell_enter
  k_steps
  all_goals exact hret _ _ _ _ (by k_asm) (by k_asm) ⟨_, rfl, rfl⟩
theorem c_sub_ff (w : World) {x : UInt64} {y : UInt64} {t1 t2 : Tok} {news : Led} :
    Ctr w 76 [.float x t1, .float y t2] [] news 1 8 (fun v news' => ∃ t, v = .float (Float64.sub x y) t ∧ news' = news) := by
  unfold Ctr
  k_fill
  intro loose mean mg mb dp un gd cn cs aa ccd cl outer A₀ base h₀ L m s Q E B F X N T hk hdp hun hret
  refine wpAny_call ?_
  k_dflt cell_enter
  k_steps
  all_goals exact hret _ _ _ _ (by k_asm) (by k_asm) ⟨_, rfl, rfl⟩
theorem c_sub_ii (w : World) {x : Int} {y : Int} {t1 t2 : Tok} {news : Led} :
    Ctr w 76 [.int x t1, .int y t2] [] news 1 8 (fun v news' => ∃ t, v = .int (x - y) t ∧ news' = news) := by
  unfold Ctr
  k_fill
  intro loose mean mg mb dp un gd cn cs aa ccd cl outer A₀ base h₀ L m s Q E B F X N T hk hdp hun hret
  refine wpAny_call ?_
  k_dflt cell_enter
  k_steps
  all_goals exact hret _ _ _ _ (by k_asm) (by k_asm) ⟨_, rfl, rfl⟩
theorem c_mul_ii (w : World) {x : Int} {y : Int} {t1 t2 : Tok} {news : Led} (h0 : -(2 ^ 64) < x) (h1 : x < 2 ^ 64) :
    Ctr w 69 [.int x t1, .int y t2] [] news 1 8 (fun v news' => ∃ t, v = .int (x * y) t ∧ news' = news) := by
  unfold Ctr
  k_fill
  intro loose mean mg mb dp un gd cn cs aa ccd cl outer A₀ base h₀ L m s Q E B F X N T hk hdp hun hret
  refine wpAny_call ?_
  k_dflt cell_enter
  k_steps
  all_goals exact hret _ _ _ _ (by k_asm) (by k_asm) ⟨_, rfl, rfl⟩
end Mine
end
section
open PySem PySem.W PyProof.Rows
set_option Elab.async false
set_option maxRecDepth 100000
set_option maxHeartbeats 8000000
namespace Mine
theorem kx_MAp : True := by
  w_top off
  k_with_none
  trivial
theorem unrEnd_plain {h₀ h' : Heap} {L : Addr} {s₁ : Shared} {its news keep : Led} {R : (Str → Option Value) → Led → Prop} {tk : Nat} {m' : Str → Option Value} (F : Fr h₀ L h' m') (N : News h₀ L h' (its ++ news)) (off : ∀ p ∈ news, ∀ q ∈ its, p.1 ≠ q.1) (hk : SubL keep news) (r : R m' news) :
    UnrEndW h₀ L s₁ its (fun m' n' => SubL keep n' ∧ R m' n') { s₁ with heap := h', toks := tk } := ⟨h', tk, m', news, rfl, F, N, off, hk, r⟩
theorem off_new {news its : Led} {I : Nat} (l : ∀ p ∈ news, p.1 < I) (hi : ∀ q ∈ its, I ≤ q.1) : ∀ p ∈ news, ∀ q ∈ its, p.1 ≠ q.1 := fun p hp q hq e => by
  have h1 : @LT.lt Nat _ p.1 I := l p hp
  have h2 : @LE.le Nat _ I q.1 := hi q hq
  have e' : @Eq Nat p.1 q.1 := e
  omega
theorem ge_nil {I : Nat} : ∀ q ∈ ([] : Led), I ≤ q.1 := fun _ h => nomatch h
theorem ge_cons {I a : Nat} {o : Obj} {its : Led} (h : I ≤ a) (r : ∀ q ∈ its, I ≤ q.1) : ∀ q ∈ ((a, o) :: its : Led), I ≤ q.1 := fun q hq => by
  rcases List.mem_cons.mp hq with rfl | hq
  · exact h
  · exact r q hq
theorem not_big {n : Int} (h0 : 0 ≤ n) (h1 : n < 1000) : ¬ (2 ^ 1024 - 2 ^ 970 : Nat) ≤ n.natAbs := by
  have : n.natAbs < 1000 := by omega
  intro h
  have h2 : (2 ^ 1024 - 2 ^ 970 : Nat) < 1000 := Nat.lt_of_le_of_lt h this
  exact absurd h2 (by decide +kernel)
noncomputable def dF (x y : UInt64) : UInt64 := if (Float64.cmp (Float64.sub x y) (Float64.sub y x) == some Ordering.lt) = true then Float64.sub y x else Float64.sub x y
noncomputable def farF (x1 x2 x3 y1 y2 y3 : UInt64) : UInt64 := Float64.add (Float64.mul (Float64.add (Float64.add (Float64.add (Float64.ofInt 0) (dF x1 y1)) (dF x2 y2)) (dF x3 y3)) 4629700416936869888) 4602678819172646912
theorem kx_MAp_0 : True := by
  k_with "leaving ref" => (exfalso; contradiction)
  trivial
theorem kx_MAp_1 : True := by
  k_with "call ref" => (first | (k_here; k_dflt (refine' Ctr.use (c_add_ff _) ?kBZk ?kFZk ?kXZk ?kNZk ?kTZk ?kkZk ?kdZk ?kuZk ?_; (case kBZk => k_asm); (case kFZk => k_asm); (case kXZk => k_asm); (case kNZk => k_asm); (case kTZk => k_asm); (case kkZk => first | exact rfl | assumption); (case kdZk => ktr_room); (case kuZk => ktr_units); k_whole; intro v' news' h' tk' F' N' P'; obtain ⟨t', e1', e2'⟩ := P'; subst e1'; subst e2'; (try dsimp only))) | (k_here; k_dflt (refine' Ctr.use (c_add_if _ ?h0Zk) ?kBZk ?kFZk ?kXZk ?kNZk ?kTZk ?kkZk ?kdZk ?kuZk ?_; (case kBZk => k_asm); (case kFZk => k_asm); (case kXZk => k_asm); (case kNZk => k_asm); (case kTZk => k_asm); (case kkZk => first | exact rfl | assumption); (case kdZk => ktr_room); (case kuZk => ktr_units); (case h0Zk => exact not_big (by decide) (by decide)); k_whole; intro v' news' h' tk' F' N' P'; obtain ⟨t', e1', e2'⟩ := P'; subst e1'; subst e2'; (try dsimp only))) | (k_here; k_dflt (refine' Ctr.use (c_sub_ff _) ?kBZk ?kFZk ?kXZk ?kNZk ?kTZk ?kkZk ?kdZk ?kuZk ?_; (case kBZk => k_asm); (case kFZk => k_asm); (case kXZk => k_asm); (case kNZk => k_asm); (case kTZk => k_asm); (case kkZk => first | exact rfl | assumption); (case kdZk => ktr_room); (case kuZk => ktr_units); k_whole; intro v' news' h' tk' F' N' P'; obtain ⟨t', e1', e2'⟩ := P'; subst e1'; subst e2'; (try dsimp only))))
  trivial
theorem kx_MAp_2 : True := by
  k_with "UnrEndW" => (k_here; k_dflt (refine' unrEnd_plain ?FZk ?NZk ?offZk ?hkZk ?_; (case FZk => k_asm); (case NZk => k_asm); (case offZk => refine off_new (by assumption) ?_; repeat (first | exact ge_nil | refine ge_cons (by first | exact Nat.le_refl _ | exact Nat.le_add_right _ _) ?_)); (case hkZk => exact ⟨by assumption, by assumption, trivial⟩); (try dsimp only)))
  trivial
theorem c_apart0 (w : World) {l1 l2 n1 n2 : Nat} {x1 x2 x3 y1 y2 y3 : UInt64} {t1 t2 t3 u1 u2 u3 : Tok} {news : Led} (hm1 : (l1, tri x1 x2 x3 t1 t2 t3 n1) ∈ news) (hm2 : (l2, tri y1 y2 y3 u1 u2 u3 n2) ∈ news)
    (h1 : ¬ Float64.isNaN (farF x1 x2 x3 y1 y2 y3) = true) (h2 : ¬ Float64.isInf (farF x1 x2 x3 y1 y2 y3) = true) :
    Ctr w 109 [.ref l1, .ref l2] [] news 2 16 (fun v news' => ∃ t, v = .int (Flt.toInt Float64.truncOf (farF x1 x2 x3 y1 y2 y3)) t ∧ news' = news) := by
  unfold farF dF at h1 h2 ⊢
  unfold Ctr
  k_fill
  intro loose mean mg mb dp un gd cn cs aa ccd cl outer A₀ base h₀ L m s Q E B F X N T hk hdp hun hret
  refine wpAny_call ?_
  k_dflt cell_enter
  iterate 6 walk1
  rename Fr _ _ _ _ => lF'
  with_unfolding_all (refine' For_turns lF' ?_)
  iterate 8 walk1
  with_unfolding_all (refine turns_zipT (by rfl) lF' (by assumption) hm1 hm2 rfl ?_)
  clear lF'
  intro I' l1'
  k_steps
  exact hret _ _ _ _ (by k_asm) (by k_asm) ⟨_, rfl, rfl⟩
theorem dF_ok : ∀ i j : Fin 33, dF (F32 (i.val : Int)) (F32 (j.val : Int)) = F32 (((i.val : Int) - (j.val : Int)).natAbs : Int) := by decide +kernel
theorem addF_ok : ∀ (i : Fin 65) (j : Fin 33), Float64.add (F32 (i.val : Int)) (F32 (j.val : Int)) = F32 ((i.val + j.val : Nat) : Int) := by decide +kernel
theorem addF_0 : ∀ i : Fin 33, Float64.add (Float64.ofInt 0) (F32 (i.val : Int)) = F32 (i.val : Int) := by decide +kernel
theorem endF_ok : ∀ i : Fin 97, Flt.toInt Float64.truncOf (Float64.add (Float64.mul (F32 (i.val : Int)) 4629700416936869888) 4602678819172646912) = (i.val : Int) ∧
    (¬ Float64.isNaN (Float64.add (Float64.mul (F32 (i.val : Int)) 4629700416936869888) 4602678819172646912) = true) ∧ (¬ Float64.isInf (Float64.add (Float64.mul (F32 (i.val : Int)) 4629700416936869888) 4602678819172646912) = true) := by decide +kernel
noncomputable def In32 (a : Int) : Prop := 0 ≤ a ∧ a ≤ 32
theorem dF_is {a b : Int} (ha : In32 a) (hb : In32 b) : dF (F32 a) (F32 b) = F32 ((a - b).natAbs : Int) := by
  obtain ⟨a0, a1⟩ := ha
  obtain ⟨b0, b1⟩ := hb
  have h := dF_ok ⟨a.toNat, by omega⟩ ⟨b.toNat, by omega⟩
  have e1 : ((⟨a.toNat, by omega⟩ : Fin 33).val : Int) = a := by show (a.toNat : Int) = a; omega
  have e2 : ((⟨b.toNat, by omega⟩ : Fin 33).val : Int) = b := by show (b.toNat : Int) = b; omega
  rw [e1, e2] at h
  exact h
noncomputable def farI (a1 a2 a3 b1 b2 b3 : Int) : Int := ((a1 - b1).natAbs : Int) + ((a2 - b2).natAbs : Int) + ((a3 - b3).natAbs : Int)
theorem farF_is {a1 a2 a3 b1 b2 b3 : Int} (h1 : In32 a1) (h2 : In32 a2) (h3 : In32 a3) (k1 : In32 b1) (k2 : In32 b2) (k3 : In32 b3) :
    Flt.toInt Float64.truncOf (farF (F32 a1) (F32 a2) (F32 a3) (F32 b1) (F32 b2) (F32 b3)) = farI a1 a2 a3 b1 b2 b3 ∧
    (¬ Float64.isNaN (farF (F32 a1) (F32 a2) (F32 a3) (F32 b1) (F32 b2) (F32 b3)) = true) ∧ (¬ Float64.isInf (farF (F32 a1) (F32 a2) (F32 a3) (F32 b1) (F32 b2) (F32 b3)) = true) := by
  unfold farF farI
  rw [dF_is h1 k1, dF_is h2 k2, dF_is h3 k3]
  unfold In32 at *
  generalize e1 : (a1 - b1).natAbs = d1
  generalize e2 : (a2 - b2).natAbs = d2
  generalize e3 : (a3 - b3).natAbs = d3
  have l1 : d1 < 33 := by omega
  have l2 : d2 < 33 := by omega
  have l3 : d3 < 33 := by omega
  have q1 := addF_0 ⟨d1, l1⟩
  have q2 := addF_ok ⟨d1, by omega⟩ ⟨d2, l2⟩
  have q3 := addF_ok ⟨d1 + d2, by omega⟩ ⟨d3, l3⟩
  have q4 := endF_ok ⟨d1 + d2 + d3, by omega⟩
  dsimp only at q1 q2 q3 q4
  rw [q1, q2, q3]
  refine ⟨?_, q4.2⟩
  rw [q4.1]
  omega
theorem c_apart (w : World) {l1 l2 n1 n2 : Nat} {a1 a2 a3 b1 b2 b3 : Int} {t1 t2 t3 u1 u2 u3 : Tok} {news : Led} (hm1 : (l1, tri (F32 a1) (F32 a2) (F32 a3) t1 t2 t3 n1) ∈ news) (hm2 : (l2, tri (F32 b1) (F32 b2) (F32 b3) u1 u2 u3 n2) ∈ news)
    (h1 : In32 a1) (h2 : In32 a2) (h3 : In32 a3) (k1 : In32 b1) (k2 : In32 b2) (k3 : In32 b3) :
    Ctr w 109 [.ref l1, .ref l2] [] news 2 16 (fun v news' => ∃ t, v = .int (farI a1 a2 a3 b1 b2 b3) t ∧ news' = news) := by
  obtain ⟨q1, q2, q3⟩ := farF_is h1 h2 h3 k1 k2 k3
  rw [← q1]
  exact c_apart0 w hm1 hm2 q2 q3
end Mine
end
section
open PySem PySem.W PyProof.Rows
set_option Elab.async false
set_option maxRecDepth 100000
set_option maxHeartbeats 8000000
namespace Mine
theorem kx_MBs : True := by
  w_top off
  k_with_none
  trivial
noncomputable abbrev tup2 (p q : Value) (n : Nat) : Obj := { cls := .type "tuple", data := .seq [p, q].toArray n }
/-- the values are pairs whose first is an int -/
inductive Tones (news : Led) : List Value → List Int → Prop
  | nil : Tones news [] []
  | cons {a : Addr} {t : Int} {tk : Tok} {p : Value} {n : Nat} {vs : List Value} {ts : List Int} : (a, tup2 (.int t tk) p n) ∈ news → Tones news vs ts → Tones news (.ref a :: vs) (t :: ts)
theorem Tones.length {news : Led} {vs : List Value} {ts : List Int} (h : Tones news vs ts) : vs.length = ts.length := by
  induction h with
  | nil => rfl
  | cons _ _ ih => simp [ih]
theorem Tones.get {news : Led} {vs : List Value} {ts : List Int} (h : Tones news vs ts) : ∀ k : Nat, k < ts.length → ∃ a tk p n, vs[k]? = some (.ref a) ∧ (a, tup2 (.int (ts.getD k 0) tk) p n) ∈ news := by
  induction h with
  | nil => intro k hk; simp at hk
  | cons hm _ ih =>
    intro k hk
    cases k with
    | zero => exact ⟨_, _, _, _, rfl, hm⟩
    | succ k => obtain ⟨a, tk, p, n, e, m⟩ := ih k (by simpa using hk); exact ⟨a, tk, p, n, by simpa using e, by simpa using m⟩
noncomputable def Rising (ts : List Int) : Prop := ∀ i j : Nat, i ≤ j → j < ts.length → ts.getD i 0 ≤ ts.getD j 0
noncomputable def IsBR (x : Int) (ts : List Int) (k : Int) : Prop := 0 ≤ k ∧ k ≤ ts.length ∧ (∀ i : Nat, (i : Int) < k → ts.getD i 0 ≤ x) ∧ (∀ i : Nat, k ≤ (i : Int) → i < ts.length → x < ts.getD i 0)
section
variable {prog : Program} {w : World} {A : Around} {E : Value → Shared → Prop} {s : Shared} {h₀ : Heap} {L row : Addr} {news : Led} {vs : List Value} {ts : List Int} {n : Nat} {k : Int} {u : Tok} {Q : Value → Shared → Prop}
theorem item_tones {value slice : PySem.Expr} (N : News h₀ L s.heap news) (hm : (row, listOf vs.toArray n) ∈ news) (T : Tones news vs ts) (hs : ts.length ≤ 64) (k0 : 0 ≤ k) (k1 : k < ts.length)
    (h : ∀ a tk p nn, (a, tup2 (.int (ts.getD k.toNat 0) tk) p nn) ∈ news → Q (.ref a) s)
    (he : subscripted slice false (.ref row) (.int k u) = operate [.ref row, .int k u] (getItem (.ref row) (.int k u)) := by with_unfolding_all rfl) :
    wpAny (model prog w) A (subscriptTail value slice (.ref row) (.int k u)) Q E s := by
  have hl : s.heap.IsList row vs.toArray := ⟨_, (N _ hm).1, rfl, n, rfl⟩
  refine el_4_2 (T.get k.toNat (by omega)) ?_
  rintro a tk p nn e m
  exact tail_any hl.typeIs slot_list_getitem.lookup (wpAny_getItem_list hl k0 (by omega) (by simpa using e) (h a tk p nn m)) he
end
section
variable {prog : Program} {w : World} {A : Around} {E : Value → Shared → Prop} {s : Shared} {h₀ : Heap} {L row : Addr} {news : Led} {vs : List Value} {n : Nat} {Q : Value → Shared → Prop}
theorem len_led (N : News h₀ L s.heap news) (hm : (row, listOf vs.toArray n) ∈ news) (hs : vs.length ≤ 64) (h : Q (.int (vs.length : Nat) (s.toks + 1)) { s with toks := s.toks + 1 + 1 }) :
    wpAny (model prog w) A (call (.builtin "len") [.ref row]) Q E s := by
  have hl : s.heap.IsList row vs.toArray := ⟨_, (N _ hm).1, rfl, n, rfl⟩
  have e : vs.toArray.size = vs.length := by simp
  refine Calls.call_len_list hl (by omega) ?_
  rw [e]
  exact h
end
theorem mid_in {lo hi : Int} (h0 : 0 ≤ lo) (h1 : lo < hi) : lo ≤ (lo + hi).fdiv 2 ∧ (lo + hi).fdiv 2 < hi := by
  have e : (lo + hi).fdiv 2 = (lo + hi) / 2 := Int.fdiv_eq_ediv_of_nonneg _ (by decide)
  omega
noncomputable def BInv (f : Int → Bool) (ts : List Int) (lo hi : Int) : Prop := 0 ≤ lo ∧ lo ≤ hi ∧ hi ≤ ts.length ∧ (∀ i : Nat, (i : Int) < lo → f (ts.getD i 0) = true) ∧ (∀ i : Nat, hi ≤ (i : Int) → i < ts.length → f (ts.getD i 0) = false)
/-- f holds on a front of the list alone -/
noncomputable def Front (f : Int → Bool) (ts : List Int) : Prop := ∀ i j : Nat, i ≤ j → j < ts.length → f (ts.getD j 0) = true → f (ts.getD i 0) = true
noncomputable def IsCut (f : Int → Bool) (ts : List Int) (k : Int) : Prop := 0 ≤ k ∧ k ≤ ts.length ∧ (∀ i : Nat, (i : Int) < k → f (ts.getD i 0) = true) ∧ (∀ i : Nat, k ≤ (i : Int) → i < ts.length → f (ts.getD i 0) = false)
theorem BInv.start {f : Int → Bool} {ts : List Int} : BInv f ts 0 ts.length := ⟨by omega, by omega, by omega, fun i h => absurd h (by omega), fun i h h' => absurd h (by omega)⟩
theorem BInv.up {f : Int → Bool} {ts : List Int} {lo hi : Int} (R : Front f ts) (h : BInv f ts lo hi) (hlt : lo < hi) (hf : f (ts.getD ((lo + hi).fdiv 2).toNat 0) = true) : BInv f ts ((lo + hi).fdiv 2 + 1) hi := by
  refine el_0_5 (h) ?_
  clear h
  rintro a b c d e
  have hm := mid_in a hlt
  refine ⟨by omega, by omega, c, fun i hi' => ?_, e⟩
  exact R i ((lo + hi).fdiv 2).toNat (by omega) (by omega) hf
theorem BInv.down {f : Int → Bool} {ts : List Int} {lo hi : Int} (R : Front f ts) (h : BInv f ts lo hi) (hlt : lo < hi) (hf : f (ts.getD ((lo + hi).fdiv 2).toNat 0) = false) : BInv f ts lo ((lo + hi).fdiv 2) := by
  refine el_0_5 (h) ?_
  clear h
  rintro a b c d e
  have hm := mid_in a hlt
  refine ⟨a, by omega, by omega, d, fun i hi' hl => ?_⟩
  cases q : f (ts.getD i 0) with
  | false => rfl
  | true =>
    rw [R ((lo + hi).fdiv 2).toNat i (by omega) hl q] at hf
    cases hf
theorem BInv.fin {f : Int → Bool} {ts : List Int} {lo hi : Int} (h : BInv f ts lo hi) (hlt : ¬ lo < hi) : IsCut f ts lo := by
  refine el_0_5 (h) ?_
  clear h
  rintro a b c d e
  have : lo = hi := by omega
  subst this
  exact ⟨a, c, d, e⟩
theorem BInv.meas {f : Int → Bool} {ts : List Int} {lo hi : Int} (h : BInv f ts lo hi) (hlt : lo < hi) : (hi - ((lo + hi).fdiv 2 + 1)).toNat < (hi - lo).toNat ∧ ((lo + hi).fdiv 2 - lo).toNat < (hi - lo).toNat := by
  have hm := mid_in h.1 hlt
  omega
theorem BInv.at {f : Int → Bool} {ts : List Int} {lo hi : Int} (h : BInv f ts lo hi) (hlt : lo < hi) : 0 ≤ (lo + hi).fdiv 2 ∧ (lo + hi).fdiv 2 < (ts.length : Int) := by
  have hm := mid_in h.1 hlt
  have := h.1
  have := h.2.2.1
  omega
theorem ksw_end4 {h₀ : Heap} {L : Addr} {s : Shared} {news : Led} {stored : List Str} {m₀ m' : Str → Option Value} {P : Int × Tok × Int × Tok → Prop} {μ : Int × Tok × Int × Tok → Nat} {c : Int × Tok × Int × Tok} {h' : Heap} {tk : Nat} {lo hi : Int} {t1 t2 : Tok}
    (F : Fr h₀ L h' m') (N : News h₀ L h' news) (h1 : m' (Str.ofString "lo") = some (.int lo t1)) (h2 : m' (Str.ofString "hi") = some (.int hi t2))
    (hr : ∀ z, (∀ p ∈ [(Str.ofString "lo", Value.int lo t1), (Str.ofString "hi", Value.int hi t2)], z ≠ p.1) → stored.contains z = false → m' z = m₀ z) (hp : P (lo, t1, hi, t2)) (hm : μ (lo, t1, hi, t2) < μ c) :
    KswEnd h₀ L s (fun _ => news) (fun c : Int × Tok × Int × Tok => [(Str.ofString "lo", .int c.1 c.2.1), (Str.ofString "hi", .int c.2.2.1 c.2.2.2)]) (fun _ => True) stored m₀ P μ c { s with heap := h', toks := tk } :=
  ksw_end (lo, t1, hi, t2) F N (fun _ h => h) trivial (by
    intro p hp
    simp only [List.mem_cons, List.not_mem_nil, or_false] at hp
    rcases hp with rfl | rfl
    · exact h1
    · exact h2) hr hp hm
section
variable {prog : Program} {w : World} {A : Around} {E : Value → Shared → Prop} {s : Shared} {h₀ : Heap} {L row : Addr} {news : Led} {vs : List Value} {ts : List Int} {n : Nat} {k : Int} {u : Tok} {Q : Value → Shared → Prop}
theorem ints_get {vs : List Value} {ts : List Int} (h : IntsAre vs ts) (k : Nat) (hk : k < ts.length) : ∃ t, vs[k]? = some (.int (ts.getD k 0) t) := by
  obtain ⟨t, e⟩ := h.get k (ts.getD k 0) (by simp [hk])
  exact ⟨t, e⟩
theorem item_intsL {value slice : PySem.Expr} (N : News h₀ L s.heap news) (hm : (row, listOf vs.toArray n) ∈ news) (T : IntsAre vs ts) (hs : ts.length ≤ 64) (k0 : 0 ≤ k) (k1 : k < ts.length)
    (h : ∀ tk, Q (.int (ts.getD k.toNat 0) tk) s)
    (he : subscripted slice false (.ref row) (.int k u) = operate [.ref row, .int k u] (getItem (.ref row) (.int k u)) := by with_unfolding_all rfl) :
    wpAny (model prog w) A (subscriptTail value slice (.ref row) (.int k u)) Q E s := by
  have hl : s.heap.IsList row vs.toArray := ⟨_, (N _ hm).1, rfl, n, rfl⟩
  obtain ⟨tk, e⟩ := ints_get T k.toNat (by omega)
  exact tail_any hl.typeIs slot_list_getitem.lookup (wpAny_getItem_list hl k0 (by omega) (by simpa using e) (h tk)) he
end
theorem kx_MBs_0 : True := by
  k_with "KswEnd" => (k_here; k_dflt (refine' ksw_end4 ?FZk ?NZk ?h1Zk ?h2Zk ?hrZk ?hpZk ?hmZk; (case FZk => k_asm); (case NZk => k_asm); (case h1Zk => exact rfl); (case h2Zk => exact rfl); (case hrZk => (intro z h2 h3; (have q1 := h2 _ (List.mem_cons_self ..)); (have q2 := h2 _ (List.mem_cons_of_mem _ (List.mem_cons_self ..))); (have q3 : z ≠ Str.ofString "mid" := by intro e; subst e; exact absurd h3 (by decide)); (dsimp only at q1 q2); (simp only [kstB, q1, q2, q3, h3, Bool.false_eq_true, if_false]))); (case hpZk => first | exact BInv.up (by assumption) (by assumption) (by assumption) (by simp only [decide_eq_true_eq]; omega) | exact BInv.down (by assumption) (by assumption) (by assumption) (by simp only [decide_eq_false_iff_not]; omega)); (case hmZk => first | exact (BInv.meas (by assumption) (by assumption)).1 | exact (BInv.meas (by assumption) (by assumption)).2)))
  trivial
theorem kx_MBs_1 : True := by
  k_with "ENTERK" => (refine' code_def ?k1Zk ?k2Zk ?k3Zk ?k4Zk ?k5Zk ?kAZk ?kFZk ?kKZk ?k6Zk ?k7Zk ?k8Zk ?k9Zk ?kBZk ?_ ?c2Zk ?c3Zk ?c4Zk ?c5Zk; (case kAZk => exact rfl); (case kFZk => exact rfl); (case kKZk => first | exact rfl | assumption); (case k1Zk => k_asm); (case k2Zk => k_asm); (case k3Zk => k_asm); (case k4Zk => k_asm); (case k5Zk => k_asm); (case k6Zk => k_is); (case k7Zk => k_is); (case k8Zk => ktr_room); (case k9Zk => first | exact BindsTo.of_eq rfl | exact binds_K (by k_in) rfl (by k_is) rfl rfl rfl | (refine' kp_binds ?kxZk ?keZk; (case kxZk => k_in); (case keZk => exact fun _ => rfl))); (case c5Zk => decide); (case kBZk => exact locs rfl); (case c2Zk => exact rfl); (case c3Zk => exact rfl); (case c4Zk => exact rfl); k_whole; intro g' L' h' FG' F' N' B' X' T'; (try dsimp only); (try k_lift B'); (try k_fold))
  trivial
theorem kx_MBs_2 : True := by
  k_with "leaving ref" => (exfalso; contradiction)
  trivial
theorem kx_MBs_3 : True := by
  k_with "call builtin:len" => (k_here; k_dflt (refine' len_led ?NZk ?hmZk ?hsZk ?_; (case NZk => k_asm); (case hmZk => assumption); (case hsZk => assumption)))
  trivial
theorem kx_MBs_4 : True := by
  k_with "subscriptTail Name Name ref int" => (k_here; k_dflt (refine' item_tones ?NZk ?hmZk ?TZk ?hsZk ?k0Zk ?k1Zk ?_; (case NZk => k_asm); (case hmZk => assumption); (case TZk => assumption); (case hsZk => assumption); (case k0Zk => exact (BInv.at (by assumption) (by assumption)).1); (case k1Zk => exact (BInv.at (by assumption) (by assumption)).2)); intro a' tk' p' n' hm'; (try dsimp only))
  trivial
theorem kx_MBs_5 : True := by
  k_with "call ref" => (k_here; k_dflt (refine' Ctr.use (c_tone _ ?h0Zk) ?kBZk ?kFZk ?kXZk ?kNZk ?kTZk ?kkZk ?kdZk ?kuZk ?_; (case kBZk => k_asm); (case kFZk => k_asm); (case kXZk => k_asm); (case kNZk => k_asm); (case kTZk => k_asm); (case kkZk => first | exact rfl | assumption); (case kdZk => ktr_room); (case kuZk => ktr_units); (case h0Zk => assumption); k_whole; intro v' news' h' tk' F' N' P'; obtain ⟨e1', e2'⟩ := P'; subst e1'; replace e2' := Eq.symm e2'; subst e2'; (try dsimp only)))
  trivial
theorem kx_MBs_6 : True := by
  k_with "subscriptTail Name Name ref int" => (k_here; k_dflt (refine' item_intsL ?NZk ?hmZk ?TZk ?hsZk ?k0Zk ?k1Zk ?_; (case NZk => k_asm); (case hmZk => assumption); (case TZk => assumption); (case hsZk => assumption); (case k0Zk => exact (BInv.at (by assumption) (by assumption)).1); (case k1Zk => exact (BInv.at (by assumption) (by assumption)).2)); intro tk'; (try dsimp only))
  trivial
theorem c_br_key (w : World) {row n : Nat} {x : Int} {tx t0 : Tok} {vs : List Value} {ts : List Int} {news : Led} (hm : (row, listOf vs.toArray n) ∈ news) (T : Tones news vs ts) (hs : ts.length ≤ 64) (R : Front (fun t => decide (t ≤ x)) ts) :
    Ctr w 32 [.ref row, .int x tx, .int 0 t0, .none] [(Str.ofString "key", .ref 97)] news 2 16 (fun v news' => ∃ t k, v = .int k t ∧ IsCut (fun t => decide (t ≤ x)) ts k ∧ news' = news) := by
  have hs' : vs.length ≤ 64 := by rw [T.length]; exact hs
  unfold Ctr
  k_fill
  intro loose mean mg mb dp un gd cn cs aa ccd cl outer A₀ base h₀ L m s Q E B F X N T' hk hdp hun hret
  refine wpAny_call ?_
  k_dflt walk_at "ENTERK"
  iterate 40 walk1
  rename Fr _ _ _ _ => lF'
  with_unfolding_all (refine' ksw_while (fun _ => news) (fun c : Int × Tok × Int × Tok => [(Str.ofString "lo", .int c.1 c.2.1), (Str.ofString "hi", .int c.2.2.1 c.2.2.2)]) (fun _ => True) [Str.ofString "lo", Str.ofString "hi", Str.ofString "mid"] (fun c => BInv (fun t => decide (t ≤ x)) ts c.1 c.2.2.1) (fun c => (c.2.2.1 - c.1).toNat) (0, _, (vs.length : Nat), _) lF' ?kn trivial ?kk ?kp ?_)
  (case kn => assumption)
  (case kk => (intro p hp; simp only [List.mem_cons, List.not_mem_nil, or_false] at hp; rcases hp with rfl | rfl <;> rfl))
  (case kp => (rw [T.length]; exact BInv.start))
  clear lF'
  rintro ⟨lo, tlo, hi, thi⟩ u hh tk _ hp F1 N1
  dsimp only at hp
  k_steps
  all_goals exact hret _ _ _ _ (by k_asm) (by k_asm) ⟨_, _, rfl, BInv.fin (by assumption) (by assumption), rfl⟩

theorem c_bl_key (w : World) {row n : Nat} {x : Int} {tx : Tok} {vs : List Value} {ts : List Int} {news : Led} (hm : (row, listOf vs.toArray n) ∈ news) (T : Tones news vs ts) (hs : ts.length ≤ 64) (R : Front (fun t => decide (t < x)) ts) :
    Ctr w 41 [.ref row, .int x tx] [(Str.ofString "key", .ref 97)] news 2 16 (fun v news' => ∃ t k, v = .int k t ∧ IsCut (fun t => decide (t < x)) ts k ∧ news' = news) := by
  have hs' : vs.length ≤ 64 := by rw [T.length]; exact hs
  unfold Ctr
  k_fill
  intro loose mean mg mb dp un gd cn cs aa ccd cl outer A₀ base h₀ L m s Q E B F X N T' hk hdp hun hret
  refine wpAny_call ?_
  k_dflt walk_at "ENTERK"
  iterate 40 walk1
  rename Fr _ _ _ _ => lF'
  with_unfolding_all (refine' ksw_while (fun _ => news) (fun c : Int × Tok × Int × Tok => [(Str.ofString "lo", .int c.1 c.2.1), (Str.ofString "hi", .int c.2.2.1 c.2.2.2)]) (fun _ => True) [Str.ofString "lo", Str.ofString "hi", Str.ofString "mid"] (fun c => BInv (fun t => decide (t < x)) ts c.1 c.2.2.1) (fun c => (c.2.2.1 - c.1).toNat) (0, _, (vs.length : Nat), _) lF' ?kn trivial ?kk ?kp ?_)
  (case kn => assumption)
  (case kk => (intro p hp; simp only [List.mem_cons, List.not_mem_nil, or_false] at hp; rcases hp with rfl | rfl <;> rfl))
  (case kp => (rw [T.length]; exact BInv.start))
  clear lF'
  rintro ⟨lo, tlo, hi, thi⟩ u hh tk _ hp F1 N1
  dsimp only at hp
  k_steps
  all_goals exact hret _ _ _ _ (by k_asm) (by k_asm) ⟨_, _, rfl, BInv.fin (by assumption) (by assumption), rfl⟩

theorem c_br_int (w : World) {row n : Nat} {x : Int} {tx : Tok} {vs : List Value} {ts : List Int} {news : Led} (hm : (row, listOf vs.toArray n) ∈ news) (T : IntsAre vs ts) (hs : ts.length ≤ 64) (R : Front (fun t => decide (t ≤ x)) ts) :
    Ctr w 32 [.ref row, .int x tx] [] news 2 16 (fun v news' => ∃ t k, v = .int k t ∧ IsCut (fun t => decide (t ≤ x)) ts k ∧ news' = news) := by
  have hs' : vs.length ≤ 64 := by rw [IntsAre.length T]; exact hs
  unfold Ctr
  k_fill
  intro loose mean mg mb dp un gd cn cs aa ccd cl outer A₀ base h₀ L m s Q E B F X N T' hk hdp hun hret
  refine wpAny_call ?_
  k_dflt walk_at "ENTERK"
  iterate 40 walk1
  rename Fr _ _ _ _ => lF'
  with_unfolding_all (refine' ksw_while (fun _ => news) (fun c : Int × Tok × Int × Tok => [(Str.ofString "lo", .int c.1 c.2.1), (Str.ofString "hi", .int c.2.2.1 c.2.2.2)]) (fun _ => True) [Str.ofString "lo", Str.ofString "hi", Str.ofString "mid"] (fun c => BInv (fun t => decide (t ≤ x)) ts c.1 c.2.2.1) (fun c => (c.2.2.1 - c.1).toNat) (0, _, (vs.length : Nat), _) lF' ?kn trivial ?kk ?kp ?_)
  (case kn => assumption)
  (case kk => (intro p hp; simp only [List.mem_cons, List.not_mem_nil, or_false] at hp; rcases hp with rfl | rfl <;> rfl))
  (case kp => (rw [IntsAre.length T]; exact BInv.start))
  clear lF'
  rintro ⟨lo, tlo, hi, thi⟩ u hh tk _ hp F1 N1
  dsimp only at hp
  k_steps
  all_goals exact hret _ _ _ _ (by k_asm) (by k_asm) ⟨_, _, rfl, BInv.fin (by assumption) (by assumption), rfl⟩

theorem c_bl_int (w : World) {row n : Nat} {x : Int} {tx : Tok} {vs : List Value} {ts : List Int} {news : Led} (hm : (row, listOf vs.toArray n) ∈ news) (T : IntsAre vs ts) (hs : ts.length ≤ 64) (R : Front (fun t => decide (t < x)) ts) :
    Ctr w 41 [.ref row, .int x tx] [] news 2 16 (fun v news' => ∃ t k, v = .int k t ∧ IsCut (fun t => decide (t < x)) ts k ∧ news' = news) := by
  have hs' : vs.length ≤ 64 := by rw [IntsAre.length T]; exact hs
  unfold Ctr
  k_fill
  intro loose mean mg mb dp un gd cn cs aa ccd cl outer A₀ base h₀ L m s Q E B F X N T' hk hdp hun hret
  refine wpAny_call ?_
  k_dflt walk_at "ENTERK"
  iterate 40 walk1
  rename Fr _ _ _ _ => lF'
  with_unfolding_all (refine' ksw_while (fun _ => news) (fun c : Int × Tok × Int × Tok => [(Str.ofString "lo", .int c.1 c.2.1), (Str.ofString "hi", .int c.2.2.1 c.2.2.2)]) (fun _ => True) [Str.ofString "lo", Str.ofString "hi", Str.ofString "mid"] (fun c => BInv (fun t => decide (t < x)) ts c.1 c.2.2.1) (fun c => (c.2.2.1 - c.1).toNat) (0, _, (vs.length : Nat), _) lF' ?kn trivial ?kk ?kp ?_)
  (case kn => assumption)
  (case kk => (intro p hp; simp only [List.mem_cons, List.not_mem_nil, or_false] at hp; rcases hp with rfl | rfl <;> rfl))
  (case kp => (rw [IntsAre.length T]; exact BInv.start))
  clear lF'
  rintro ⟨lo, tlo, hi, thi⟩ u hh tk _ hp F1 N1
  dsimp only at hp
  k_steps
  all_goals exact hret _ _ _ _ (by k_asm) (by k_asm) ⟨_, _, rfl, BInv.fin (by assumption) (by assumption), rfl⟩
end Mine
end
section
open PySem PySem.W PyProof.Rows
set_option Elab.async false
set_option maxRecDepth 100000
set_option maxHeartbeats 8000000
namespace Mine
theorem kx_MIns : True := by
  w_top off
  k_with_none
  trivial
noncomputable def insL {α : Type} (l : List α) (k : Int) (y : α) : List α := l.take k.toNat ++ y :: l.drop k.toNat
theorem kl_ins_is {l : List Value} {k : Int} {y : Value} (h0 : 0 ≤ k) (h1 : k ≤ l.length) : kl_ins l k y = insL l k y := by
  unfold kl_ins insL
  rw [if_neg (by omega), Nat.min_eq_left (by omega)]
section
variable {prog : Program} {w : World} {A : Around} {E : Value → Shared → Prop} {s : Shared} {h₀ : Heap} {L D : Addr} {m : Str → Option Value} {rest : Led} {n : Nat} {l : List Value}
theorem insert_led {x : Int} {u : Tok} {y : Value} {Q : Value → Shared → Prop} (F : Fr h₀ L s.heap m) (N : News h₀ L s.heap ((D, listOf l.toArray n) :: rest)) (off : ∀ p ∈ rest, p.1 ≠ D) (hx : 0 ≤ x ∧ x ≤ l.length) (hz : l.length ≤ 64)
    (h : ∀ h', Fr h₀ L h' m → News h₀ L h' ((D, listOf (insL l x y).toArray (n + 1)) :: rest) → Q .none { s with heap := h' }) :
    wpAny (model prog w) A (call (.builtin "list.insert") [.ref D, .int x u, y]) Q E s := by
  refine kl_insert (its := l.toArray) F N ?_ (kl_ins_is hx.1 hx.2) (Upd.head off) (by rw [sizeLine_eq]; simp; omega) h
  unfold Builtin.List.listFitsIndex
  simp only [Bool.and_eq_true, decide_eq_true_eq]
  omega
end
theorem cut_in {f : Int → Bool} {ts : List Int} {k : Int} {vs : List Value} (h : IsCut f ts k) (e : vs.length = ts.length) : 0 ≤ k ∧ k ≤ vs.length := ⟨h.1, by rw [e]; exact h.2.1⟩
theorem kx_MIns_0 : True := by
  k_with "ENTERK" => (refine' code_def ?k1Zk ?k2Zk ?k3Zk ?k4Zk ?k5Zk ?kAZk ?kFZk ?kKZk ?k6Zk ?k7Zk ?k8Zk ?k9Zk ?kBZk ?_ ?c2Zk ?c3Zk ?c4Zk ?c5Zk; (case kAZk => exact rfl); (case kFZk => exact rfl); (case kKZk => first | exact rfl | assumption); (case k1Zk => k_asm); (case k2Zk => k_asm); (case k3Zk => k_asm); (case k4Zk => k_asm); (case k5Zk => k_asm); (case k6Zk => k_is); (case k7Zk => k_is); (case k8Zk => ktr_room); (case k9Zk => first | exact BindsTo.of_eq rfl | exact binds_K (by k_in) rfl (by k_is) rfl rfl rfl | (refine' kp_binds ?kxZk ?keZk; (case kxZk => k_in); (case keZk => exact fun _ => rfl))); (case c5Zk => decide); (case kBZk => exact locs rfl); (case c2Zk => exact rfl); (case c3Zk => exact rfl); (case c4Zk => exact rfl); k_whole; intro g' L' h' FG' F' N' B' X' T'; (try dsimp only); (try k_lift B'); (try k_fold))
  trivial
theorem kx_MIns_1 : True := by
  k_with "leaving ref" => (exfalso; contradiction)
  trivial
theorem kx_MIns_2 : True := by
  k_with "call ref" => (first | (k_here; k_dflt (refine' Ctr.use (c_tone _ ?h0Zk) ?kBZk ?kFZk ?kXZk ?kNZk ?kTZk ?kkZk ?kdZk ?kuZk ?_; (case kBZk => k_asm); (case kFZk => k_asm); (case kXZk => k_asm); (case kNZk => k_asm); (case kTZk => k_asm); (case kkZk => first | exact rfl | assumption); (case kdZk => ktr_room); (case kuZk => ktr_units); (case h0Zk => assumption); k_whole; intro v' news' h' tk' F' N' P'; obtain ⟨e1', e2'⟩ := P'; subst e1'; replace e2' := Eq.symm e2'; subst e2'; (try dsimp only))) | (k_here; k_dflt (refine' Ctr.use (c_br_key _ ?h0Zk ?h1Zk ?h2Zk ?h3Zk) ?kBZk ?kFZk ?kXZk ?kNZk ?kTZk ?kkZk ?kdZk ?kuZk ?_; (case kBZk => k_asm); (case kFZk => k_asm); (case kXZk => k_asm); (case kNZk => k_asm); (case kTZk => k_asm); (case kkZk => first | exact rfl | assumption); (case kdZk => ktr_room); (case kuZk => ktr_units); (case h0Zk => exact List.mem_cons_self ..); (case h1Zk => assumption); (case h2Zk => assumption); (case h3Zk => assumption); k_whole; intro v' news' h' tk' F' N' P'; refine el_2_3 (P') ?_; clear P'; rintro t' k' e1' c' e2'; subst e1'; replace e2' := Eq.symm e2'; subst e2'; (try dsimp only))))
  trivial
theorem kx_MIns_3 : True := by
  k_with "call builtin:list.insert" => (k_here; k_dflt (refine' insert_led ?FZk ?NZk ?offZk ?hxZk ?hzZk ?_; (case FZk => k_asm); (case NZk => k_asm); (case offZk => assumption); (case hxZk => exact cut_in (by assumption) (by assumption)); (case hzZk => assumption); intro h' F' N'))
  trivial
theorem c_insort0 (w : World) {row n xa nx : Nat} {x : Int} {tx : Tok} {px : Value} {vs : List Value} {ts : List Int} {rest : Led} (hx : (xa, tup2 (.int x tx) px nx) ∈ (row, listOf vs.toArray n) :: rest) (T : Tones ((row, listOf vs.toArray n) :: rest) vs ts) (hs : ts.length ≤ 63) (R : Front (fun t => decide (t ≤ x)) ts) (off : ∀ p ∈ rest, p.1 ≠ row) :
    Ctr w 23 [.ref row, .ref xa] [(Str.ofString "key", .ref 97)] ((row, listOf vs.toArray n) :: rest) 3 32 (fun v news' => v = .none ∧ ∃ k, IsCut (fun t => decide (t ≤ x)) ts k ∧ news' = (row, listOf (insL vs k (.ref xa)).toArray (n + 1)) :: rest) := by
  have hlen := T.length
  have hs2 : ts.length ≤ 64 := by omega
  have hs' : vs.length ≤ 64 := by omega
  unfold Ctr
  k_fill
  intro loose mean mg mb dp un gd cn cs aa ccd cl outer A₀ base h₀ L m s Q E B F X N T' hk hdp hun hret
  refine wpAny_call ?_
  k_dflt walk_at "ENTERK"
  k_steps
  exact hret _ _ _ _ (by k_asm) (by k_asm) ⟨rfl, _, by assumption, rfl⟩
theorem Tones.imp {news news2 : Led} {vs : List Value} {ts : List Int} (h : Tones news vs ts) (hs : ∀ a p q n, (a, tup2 p q n) ∈ news → (a, tup2 p q n) ∈ news2) : Tones news2 vs ts := by
  induction h with
  | nil => exact .nil
  | cons hm _ ih => exact .cons (hs _ _ _ _ hm) ih
theorem news_ne {h₀ h : Heap} {L a b : Addr} {o o' : Obj} {news : Led} (N : News h₀ L h news) (ha : (a, o) ∈ news) (hb : (b, o') ∈ news) (hc : o.cls ≠ o'.cls) : a ≠ b := by
  rintro rfl
  have h1 := (N _ ha).1
  have h2 := (N _ hb).1
  exact hc (congrArg Obj.cls (Option.some.inj (h1.symm.trans h2)))
/-- the ledger less the object at D -/
noncomputable def lessL (D : Addr) (news : Led) : Led := news.filter fun p => decide (p.1 ≠ D)
theorem mem_lessL {D : Addr} {news : Led} {p : Addr × Obj} (h : p ∈ news) (hn : p.1 ≠ D) : p ∈ lessL D news := List.mem_filter.mpr ⟨h, by simpa using hn⟩
theorem lessL_off {D : Addr} {news : Led} : ∀ p ∈ lessL D news, p.1 ≠ D := fun p hp => by simpa using (List.mem_filter.mp hp).2
theorem news_head {h₀ h : Heap} {L D : Addr} {o : Obj} {news : Led} (N : News h₀ L h news) (hm : (D, o) ∈ news) : News h₀ L h ((D, o) :: lessL D news) := fun p hp => by
  rcases List.mem_cons.mp hp with rfl | hp
  · exact N _ hm
  · exact N p (List.mem_filter.mp hp).1
/-- the ledger is as it was but for the object at D, which is o now -/
noncomputable def Turned (D : Addr) (o : Obj) (news news' : Led) : Prop := (D, o) ∈ news' ∧ ∀ p ∈ news, p.1 ≠ D → p ∈ news'
theorem turned_head {D : Addr} {o : Obj} {news : Led} : Turned D o news ((D, o) :: lessL D news) := ⟨List.mem_cons_self .., fun _ hp hn => List.mem_cons_of_mem _ (mem_lessL hp hn)⟩
theorem c_insort (w : World) {row n xa nx : Nat} {x : Int} {tx : Tok} {px : Value} {vs : List Value} {ts : List Int} {news : Led} (hm : (row, listOf vs.toArray n) ∈ news) (hx : (xa, tup2 (.int x tx) px nx) ∈ news) (T : Tones news vs ts) (hs : ts.length ≤ 63) (R : Front (fun t => decide (t ≤ x)) ts) :
    Ctr w 23 [.ref row, .ref xa] [(Str.ofString "key", .ref 97)] news 3 32 (fun v news' => v = .none ∧ ∃ k, IsCut (fun t => decide (t ≤ x)) ts k ∧ Turned row (listOf (insL vs k (.ref xa)).toArray (n + 1)) news news') := by
  intro loose mean mg mb dp un gd cn cs aa ccd cl outer A₀ base h₀ L m s Q E B F X N T' hk hdp hun hret
  have tn : ∀ a p q n, (a, tup2 p q n) ∈ news → (a, tup2 p q n) ∈ lessL row news := fun a p q n' ha => mem_lessL ha (news_ne N ha hm (by intro e; exact absurd (Value.type.inj e) (by decide)))
  refine c_insort0 w (List.mem_cons_of_mem _ (tn _ _ _ _ hx)) (T.imp fun a p q n ha => List.mem_cons_of_mem _ (tn a p q n ha)) hs R lessL_off _ _ _ _ _ _ _ _ _ _ _ _ _ _ _ _ _ _ _ _ _ B F X (news_head N hm) T' hk hdp hun fun v news' h' tk' F' N' P' => ?_
  obtain ⟨e, k, hk', rfl⟩ := P'
  exact hret v _ h' tk' F' N' ⟨e, k, hk', turned_head⟩

end Mine
end
section
open PySem PySem.W PyProof.Rows
set_option Elab.async false
set_option maxRecDepth 100000
set_option maxHeartbeats 8000000
namespace Mine
open PySem.Calls PyProof.Rows.LCg
/-- one turn's end: the iterator's objects, the block's names and the list stand, the rest of the ledger is news' -/
noncomputable def CPEnd (h₀ : Heap) (L : Addr) (m : Str → Option Value) (s₁ : Shared) (its : Led) (C : Addr) (oC : Obj) (D : Addr) (oD : Obj) (keep : Led) (rest : Led → Prop) (s₂ : Shared) : Prop :=
  ∃ h' tk news', s₂ = { s₁ with heap := h', toks := tk } ∧ Fr h₀ L h' m ∧ News h₀ L h' (its ++ (C, oC) :: (D, oD) :: news') ∧ (∀ p ∈ news', p.1 ≠ C ∧ p.1 ≠ D ∧ ∀ q ∈ its, p.1 ≠ q.1) ∧ (∀ p ∈ keep, p ∈ news') ∧ rest news'
noncomputable def CPTurn (prog : Program) (w : World) (A : Around) (elt : PySem.Expr) (ifs : List PySem.Expr) (cenv : Env) (fin : Option Value → Shared → Prop) (E : Value → Shared → Prop) (s : Shared) : Prop :=
  match ifs with
  | [] => wpAny (model prog w) A (eval elt cenv) (fun y s' => fin (some y) s') E s
  | c :: _ => wpAny (model prog w) A (isTrue c cenv (eval c cenv)) (fun b s' => if b = true then wpAny (model prog w) A (eval elt cenv) (fun y s'' => fin (some y) s'') E s' else fin none s') E s
noncomputable def CPRest (prog : Program) (w : World) (A : Around) (h₀ : Heap) (L : Addr) (m : Str → Option Value) (env : Env) (elt : PySem.Expr) (ifs : List PySem.Expr) (a b : Str) (scope : Scope) (cl : List (Str × Addr)) (s : Shared) (ws : List (Addr × String)) (keep : Led)
    (Fin : List Value → Led → Prop) : List ((Tok → Value) × Value) → List Value → Led → Prop
  | [], ys, news => Fin ys news
  | p :: r, ys, news => ∀ (t : Tok) its oC C D m₂ h tk (E' : Value → Shared → Prop), Objs ws its → NsObj oC m₂ → m₂ a = some (p.1 t) → m₂ b = some p.2 → Fr h₀ L h m → News h₀ L h (its ++ (C, oC) :: (D, lst ys) :: news) →
      (∀ q ∈ news, q.1 ≠ C ∧ q.1 ≠ D ∧ ∀ z ∈ its, q.1 ≠ z.1) → (∀ q ∈ its, q.1 < D) → @LT.lt Nat _ D C →
      CPTurn prog w A elt ifs (compEnvC scope cl C env) (fun y => CPEnd h₀ L m { s with heap := h, toks := tk } its C oC D (lst ys) keep (fun news' => CPRest prog w A h₀ L m env elt ifs a b scope cl s ws keep Fin r (ys ++ y.toList) news')) E' { s with heap := h, toks := tk }
section
variable {prog : Program} {w : World} {A : Around} {E : Value → Shared → Prop} {s : Shared} {h₀ : Heap} {L : Addr} {m : Str → Option Value} {env : Env}
theorem cp_loop {elt target iter : PySem.Expr} {ifs : List PySem.Expr} {scope : Scope} {pos : Pos} {it acc : Value} {env : Env} {R : Result → Shared → Prop} (I : Nat → Shared → Prop) (hifs : ifs.length ≤ 1)
    (turn : ∀ n s, I n s → wpAny (model prog w) A (pyNext it) (fun r s₁ => match r with
      | none => R (.ok .next) s₁
      | some v => wpAny (model prog w) A (letOwnedTupleGo target it v) (fun _ s₀ => wpAny (model prog w) A (assign target env v) (fun _ s₂ =>
          CPTurn prog w A elt ifs env (fun y s₄ => match y with
            | none => ∃ m, m < n ∧ I m s₄
            | some x => wpAny (model prog w) A (call (.builtin "list.append") [acc, x]) (fun _ s₅ => ∃ m, m < n ∧ I m s₅) (notedBy (model prog w) A env fun e s' => R (.error e) s') s₄) (notedBy (model prog w) A env fun e s' => R (.error e) s') s₂)
          (notedBy (model prog w) A env fun e s' => R (.error e) s') s₀) (notedBy (model prog w) A env fun e s' => R (.error e) s') s₁) (notedBy (model prog w) A env fun e s' => R (.error e) s') s)
    (n : Nat) (h : I n s) : codeAny (model prog w) A (.compLoop (.ListComp elt [⟨target, iter, ifs, 0⟩] scope pos) 0 it acc env) R s := by
  refine codeAny_loop rfl I (fun n s hI => ?_) n h
  show wpAny _ A ((compTurn (.ListComp elt [⟨target, iter, ifs, 0⟩] scope pos) 0 it acc env).onRaise (fun x => do noteFrame x env; theTreesLotGoes x)) _ _ s
  refine wpAny_noted ?_
  rw [compTurn_list]
  refine wpAny_bind (wpAny_standAt (wpAny_bind (wpAny_mono (turn n s hI) (fun r s₁ h₁ => ?_) fun _ _ h' => h')))
  cases r with
  | none => exact wpAny_pure h₁
  | some v =>
    refine wpAny_bind (wpAny_mono h₁ (fun _ s₀ h₀' => ?_) fun _ _ h' => h')
    refine wpAny_bind (wpAny_mono h₀' (fun _ s₂ h₂ => ?_) fun _ _ h' => h')
    match ifs, hifs with
    | [], _ =>
      refine wpAny_bind (wpAny_tests_nil ?_)
      exact wpAny_bind (wpAny_bind (wpAny_mono h₂ (fun x s₄ h₄ => wpAny_bind (wpAny_mono h₄ (fun _ s₅ h₅ => wpAny_pure (wpAny_pure ⟨rfl, h₅⟩)) fun _ _ h' => h')) fun _ _ h' => h'))
    | [c], _ =>
      refine wpAny_bind (wpAny_tests_one (wpAny_mono h₂ (fun b s₃ h₃ => ?_) fun _ _ h' => h'))
      cases b with
      | true =>
        simp only [if_true] at h₃ ⊢
        exact wpAny_bind (wpAny_bind (wpAny_mono h₃ (fun x s₄ h₄ => wpAny_bind (wpAny_mono h₄ (fun _ s₅ h₅ => wpAny_pure (wpAny_pure ⟨rfl, h₅⟩)) fun _ _ h' => h')) fun _ _ h' => h'))
      | false =>
        simp only [Bool.false_eq_true, if_false] at h₃ ⊢
        exact wpAny_pure ⟨rfl, h₃⟩
    | _ :: _ :: _, h => exact absurd h (by simp)
theorem CPTurn.mono {elt : PySem.Expr} {ifs : List PySem.Expr} {cenv : Env} {f g : Option Value → Shared → Prop} {E E' : Value → Shared → Prop} (h : CPTurn prog w A elt ifs cenv f E s) (hf : ∀ y s, f y s → g y s) (hE : ∀ e s, E e s → E' e s) : CPTurn prog w A elt ifs cenv g E' s := by
  unfold CPTurn at h ⊢
  split at h
  · exact wpAny_mono h (fun _ _ q => hf _ _ q) hE
  · refine wpAny_mono h (fun b s' q => ?_) hE
    cases b with
    | true =>
      simp only [if_true] at q ⊢
      exact wpAny_mono q (fun _ _ q => hf _ _ q) hE
    | false =>
      simp only [Bool.false_eq_true, if_false] at q ⊢
      exact hf _ _ q

/-- the block of a comprehension over pairs -/
theorem cp_block {elt iter : PySem.Expr} {ifs : List PySem.Expr} {a b : Str} {pa pb tp : Pos} {kk : Nat} {scope : Scope} {cl : List (Str × Addr)} {pos : Pos} {s₂ : Shared} {I : Addr} {fp wr : List Addr} {n : Nat} {P Md : Nat → Value → Heap → Prop} {St : Nat → Heap → Prop}
    {ws : List (Addr × String)} {keep news : Led} {xs : List ((Tok → Value) × Value)} {Fin : List Value → Led → Prop} {RR : Value → Addr → Result → Shared → Prop}
    (W : KTurns prog w A (.Tuple [.Name a pa, .Name b pb] kk tp) I fp wr n P Md St) (hn : n = xs.length) (hsz : n ≤ sizeLine) (hh : A.handled = none)
    (hP : ∀ i v h, P i v h → ∃ p, xs[i]? = some p ∧ ∃ T t, v = .ref T ∧ h.IsTuple T #[p.1 t, p.2])
    (hobj : ∀ i h, St i h → ∃ its, Objs ws its ∧ ∀ p ∈ its, h.get? p.1 = some p.2)
    (hws : ∀ b ∈ ws.map (·.1), b ∈ fp ∧ h₀.get? b = none ∧ b ≠ L) (hwr : ∀ b ∈ wr, b ∈ ws.map (·.1)) (hfp : ∀ b ∈ fp, b ∈ ws.map (·.1) ∨ ∃ o, (b, o) ∈ keep) (hfp2 : ∀ b ∈ fp, b < s₂.heap.objs.size)
    (hself : ∀ (s : Shared) (Q : Value → Shared → Prop) (E : Value → Shared → Prop), St 0 s.heap → Q (.ref I) s → wpAny (model prog w) A (pyIter (.ref I)) Q E s)
    (hifs : ifs.length ≤ 1) (hcell : ∀ y ∈ scope.names, y.2 ≠ .cell) (hkind : scope.kind = .function) (hxa : scope.names.lookup a = some .local) (hxb : scope.names.lookup b = some .local) (hab : ¬ a = b)
    (hst : St 0 s₂.heap) (F : Fr h₀ L s₂.heap m) (N : News h₀ L s₂.heap news) (off : ∀ p ∈ news, p.1 ∉ ws.map (·.1)) (hk : ∀ p ∈ keep, p ∈ news)
    (R : CPRest prog w A h₀ L m env elt ifs a b scope cl s₂ ws keep Fin xs [] news)
    (hRR : ∀ D C h tk m' ys news', Fr h₀ L h m → News h₀ L h ((D, lst ys) :: news') → (∀ p ∈ news', p.1 ≠ D) → h.Ns C m' → h₀.get? C = none → h₀.get? D = none → C ≠ L → D ≠ L → C ≠ D → (∀ p ∈ news', p.1 ≠ C) → Fin ys news' → RR (.ref D) C (.ok .next) { s₂ with heap := h, toks := tk }) :
    wpAny (model prog w) A (newList []) (fun acc s₃ => wpAny (model prog w) A (newFunctionEnv scope env.globals cl [] env.qual none .none (some env)) (fun cenv s₄ =>
      codeAny (model prog w) A (.compStart (.ListComp elt [⟨.Tuple [.Name a pa, .Name b pb] kk tp, iter, ifs, 0⟩] scope pos) 0 (.ref I) acc { cenv with scope := relabel scope env }) (RR acc cenv.locals) s₄) E s₃) E s₂ := by
  refine wpAny_newObj_type (wpAny_newFunctionEnv hcell (by intro y hy; simp at hy) (fun h₁ hns₁ hsb₁ => ?_) hkind)
  dsimp only at hns₁ hsb₁ ⊢
  generalize hH2 : s₂.heap.push { cls := .type "list", dict := none, data := .seq ([] : List Value).toArray } = H2 at hns₁ hsb₁ ⊢
  have hC : H2.objs.size = s₂.heap.objs.size + 1 := by rw [← hH2, Heap.size_push]
  have hDC : s₂.heap.objs.size ≠ H2.objs.size := by rw [hC]; exact Nat.ne_of_lt (Nat.lt_succ_self _)
  have below : ∀ b, b < s₂.heap.objs.size → b ≠ H2.objs.size ∧ b ≠ s₂.heap.objs.size := fun b hb => ⟨by rw [hC]; exact Nat.ne_of_lt (Nat.lt_succ_of_lt hb), Nat.ne_of_lt hb⟩
  have old : ∀ b o, s₂.heap.get? b = some o → h₁.get? b = some o := fun b o e => hsb₁.extBut b o (below b (Heap.lt_size e)).1 (Heap.get?_push_of_some _ (hH2 ▸ Heap.get?_push_of_some _ e))
  have hacc : h₁.get? s₂.heap.objs.size = some (lst []) := hsb₁.extBut _ _ hDC (Heap.get?_push_of_some _ (hH2 ▸ Heap.get?_push_size _ rfl))
  have hst₁ : St 0 h₁ := W.frame _ _ _ hst fun b _ o e => old b o e
  have fresh₀ : ∀ a, s₂.heap.objs.size ≤ a → h₀.get? a = none := fun a ha => by
    cases e : h₀.get? a with
    | none => rfl
    | some o' => exact absurd (Heap.lt_size (F.keep a o' e)) (Nat.not_lt.mpr ha)
  have hD₀ : h₀.get? s₂.heap.objs.size = none := fresh₀ _ (Nat.le_refl _)
  have hC₀ : h₀.get? H2.objs.size = none := fresh₀ _ (by rw [hC]; exact Nat.le_succ _)
  have hLlt : L < s₂.heap.objs.size := F.ns.lt
  have hDL : s₂.heap.objs.size ≠ L := Ne.symm (below L hLlt).2
  have hCL : H2.objs.size ≠ L := Ne.symm (below L hLlt).1
  have hwfp : ∀ b ∈ ws.map (·.1), b ≠ H2.objs.size ∧ b ≠ s₂.heap.objs.size := fun b hb => below b (hfp2 b (hws b hb).1)
  have wrC : H2.objs.size ∉ wr := fun hm => (hwfp _ (hwr _ hm)).1 rfl
  have wrD : s₂.heap.objs.size ∉ wr := fun hm => (hwfp _ (hwr _ hm)).2 rfl
  have wrL : L ∉ wr := fun hm => (hws _ (hwr _ hm)).2.2 rfl
  have wr0 : ∀ b o, h₀.get? b = some o → b ∉ wr := fun b o e hm => by rw [(hws _ (hwr _ hm)).2.1] at e; cases e
  have offN : ∀ p ∈ news, p.1 ≠ H2.objs.size ∧ p.1 ≠ s₂.heap.objs.size ∧ p.1 ∉ ws.map (·.1) := fun p hp => ⟨(below _ (Heap.lt_size (N p hp).1)).1, (below _ (Heap.lt_size (N p hp).1)).2, off p hp⟩
  have loop : ∀ s₃ : Shared, s₃ = { s₂ with heap := h₁, toks := s₂.toks + ([] : List (Str × Value)).length } →
      codeAny (model prog w) A (.compLoop (.ListComp elt [⟨.Tuple [.Name a pa, .Name b pb] kk tp, iter, ifs, 0⟩] scope pos) 0 (.ref I) (.ref s₂.heap.objs.size) (compEnvC scope cl H2.objs.size env))
        (RR (.ref s₂.heap.objs.size) H2.objs.size) s₃ := by
    rintro s₃ rfl
    refine cp_loop
      (fun k s' => ∃ h' tk i ys m' news', s' = { s₂ with heap := h', toks := tk } ∧ i ≤ n ∧ k = n + 1 - i ∧ ys.length ≤ i ∧ St i h' ∧ Fr h₀ L h' m ∧ h'.Ns H2.objs.size m' ∧ News h₀ L h' ((s₂.heap.objs.size, lst ys) :: news') ∧
        (∀ p ∈ news', p.1 ≠ H2.objs.size ∧ p.1 ≠ s₂.heap.objs.size ∧ p.1 ∉ ws.map (·.1)) ∧ (∀ p ∈ keep, p ∈ news') ∧ CPRest prog w A h₀ L m env elt ifs a b scope cl s₂ ws keep Fin (xs.drop i) ys news') hifs ?_ (n + 1)
      ⟨h₁, _, 0, [], _, news, rfl, Nat.zero_le _, rfl, Nat.le_refl _, hst₁, F.keeps old, hns₁, fun p hp => ?_, offN, hk, by rw [List.drop_zero]; exact R⟩
    · rintro k s' hJz
      refine el_6_11 (hJz) ?_
      clear hJz
      rintro h' tk i ys m' news' rfl hi rfl hyl hst' F' hn' N' off' hk' R'
      by_cases hlt : i < n
      · refine W.item i _ _ _ hlt hst' fun v h₂ tk₂ hMd hk₂ => ?_
        refine W.go i v _ _ _ hMd fun h₃ hPi hst₃ hk₃ => ?_
        obtain ⟨p, hp, T, t, rfl, hT⟩ := hP i v h₃ hPi
        have up₃ : ∀ c o, c ∉ wr → h'.get? c = some o → h₃.get? c = some o := fun c o hc e => hk₃ c o hc (hk₂ c o hc e)
        refine kcp_assign (env := compEnvC scope cl H2.objs.size env) hh hT (lookup_relabel_local hxa) (lookup_relabel_local hxb) (by simp [compEnvC, relabel, hkind]) (hn'.at' fun o e => up₃ _ o wrC e) fun h₄ tk₄ hn₄ hs₄ => ?_
        have hs₄' : ∀ c o, c ≠ H2.objs.size → h₃.get? c = some o → h₄.get? c = some o := hs₄
        have up : ∀ c o, c ∉ wr → c ≠ H2.objs.size → h'.get? c = some o → h₄.get? c = some o := fun c o h1 h2 e => hs₄' c o h2 (up₃ c o h1 e)
        have hst₄ : St (i + 1) h₄ := W.frame _ _ _ hst₃ fun c hc o e => hs₄' c o (below c (hfp2 c hc)).1 e
        obtain ⟨its, hits, hval⟩ := hobj _ _ hst₄
        have hmap := hits.map
        obtain ⟨oC, heC, hoC⟩ := ns_obj hn₄
        have heC' : h₄.get? H2.objs.size = some oC := heC
        have F₄ : Fr h₀ L h₄ m := ⟨F'.ns.at' fun o e => up _ o wrL (Ne.symm hCL) e, fun c o e => up c o (wr0 c o e) (fun q => by rw [q, hC₀] at e; cases e) (F'.keep c o e), F'.above⟩
        have hdrop : xs.drop i = p :: xs.drop (i + 1) := by
          have hlt' : i < xs.length := hn ▸ hlt
          rw [List.drop_eq_getElem_cons hlt']
          congr 1
          exact Option.some.inj ((List.getElem?_eq_getElem hlt').symm.trans hp)
        have R'' : CPRest prog w A h₀ L m env elt ifs a b scope cl s₂ ws keep Fin (p :: xs.drop (i + 1)) ys news' := by rw [← hdrop]; exact R'
        have inws : ∀ q ∈ its, q.1 ∈ ws.map (·.1) := fun q hq => by rw [← hmap]; exact List.mem_map.mpr ⟨q, hq, rfl⟩
        have N₄ : News h₀ L h₄ (its ++ (H2.objs.size, oC) :: (s₂.heap.objs.size, lst ys) :: news') := fun q hq => by
          rcases List.mem_append.mp hq with hq | hq
          · exact ⟨hval q hq, (hws _ (inws q hq)).2.2, (hws _ (inws q hq)).2.1⟩
          · rcases List.mem_cons.mp hq with rfl | hq
            · exact ⟨heC', hCL, hC₀⟩
            · have z := N' q hq
              refine ⟨up _ _ ?_ ?_ z.1, z.2⟩
              · rcases List.mem_cons.mp hq with rfl | hq
                · exact wrD
                · exact fun hm => (off' q hq).2.2 (hwr _ hm)
              · rcases List.mem_cons.mp hq with rfl | hq
                · exact hDC
                · exact (off' q hq).1
        refine CPTurn.mono (R'' t its oC H2.objs.size s₂.heap.objs.size _ h₄ tk₄ _ hits hoC (by simp [hab]) (by simp) F₄ N₄ (fun q hq => ⟨(off' q hq).1, (off' q hq).2.1, fun z hz e => (off' q hq).2.2 (e ▸ inws z hz)⟩) (fun q hq => hfp2 _ (hws _ (inws q hq)).1) (by rw [hC]; exact Nat.lt_succ_self _)) (fun y s₅ h₅ => ?_) fun _ _ e => e
        refine el_3_6 (h₅) ?_
        clear h₅
        rintro h₅ tk₅ news₅ rfl F₅ N₅ off₅ hk₅ R₅
        have zC := (N₅ (H2.objs.size, oC) (List.mem_append.mpr (.inr (List.mem_cons_self ..)))).1
        have zD := (N₅ (s₂.heap.objs.size, lst ys) (List.mem_append.mpr (.inr (List.mem_cons_of_mem _ (List.mem_cons_self ..))))).1
        have N₅' : News h₀ L h₅ news₅ := fun q hq => N₅ q (List.mem_append.mpr (.inr (List.mem_cons_of_mem _ (List.mem_cons_of_mem _ hq))))
        have off₅' : ∀ p ∈ news₅, p.1 ≠ H2.objs.size ∧ p.1 ≠ s₂.heap.objs.size ∧ p.1 ∉ ws.map (·.1) := fun q hq => ⟨(off₅ q hq).1, (off₅ q hq).2.1, fun hm => by
          rw [← hmap] at hm
          obtain ⟨z, hz, e⟩ := List.mem_map.mp hm
          exact (off₅ q hq).2.2 z hz e.symm⟩
        have hst₅ : St (i + 1) h₅ := W.frame _ _ _ hst₄ fun c hc o e => by
          rcases hfp c hc with h1 | ⟨o', h1⟩
          · rw [← hmap] at h1
            obtain ⟨z, hz, e1⟩ := List.mem_map.mp h1
            have e2 := hval z hz
            rw [e1, e] at e2
            have e3 := (N₅ z (List.mem_append.mpr (.inl hz))).1
            rw [e1] at e3
            rw [e3]; exact e2.symm
          · have e2 := (N₄ _ (List.mem_append.mpr (.inr (List.mem_cons_of_mem _ (List.mem_cons_of_mem _ (hk' _ h1)))))).1
            have e3 := (N₅' _ (hk₅ _ h1)).1
            have e4 : some o = some o' := e.symm.trans e2
            exact e3.trans e4.symm
        cases y with
        | none =>
          exact ⟨n + 1 - (i + 1), by omega, h₅, tk₅, i + 1, ys, _, news₅, rfl, hlt, rfl, by omega, hst₅, F₅, hoC.ns zC, fun q hq => by
            rcases List.mem_cons.mp hq with rfl | hq
            · exact ⟨zD, hDL, hD₀⟩
            · exact N₅' q hq, off₅', hk₅, by simpa using R₅⟩
        | some y =>
          refine append_at (hsz := by show ys.toArray.size ≤ sizeLine; rw [List.size_toArray]; exact Nat.le_trans hyl (Nat.le_trans hi hsz)) zD fun h₆ hs₆ hD₆ => ?_
          refine ⟨n + 1 - (i + 1), by omega, h₆, tk₅, i + 1, ys ++ [y], _, news₅, rfl, hlt, rfl, by rw [List.length_append, List.length_singleton]; omega, W.frame _ _ _ hst₅ fun c hc o e => hs₆.extBut c o (below c (hfp2 c hc)).2 e, F₅.change hs₆ hDL hD₀,
            (hoC.ns zC).sameBut hs₆ (Ne.symm hDC), fun q hq => ?_, off₅', hk₅, by simpa using R₅⟩
          rcases List.mem_cons.mp hq with rfl | hq
          · exact ⟨hD₆.trans (congrArg some (lst_snoc ys y)), hDL, hD₀⟩
          · exact ⟨hs₆.extBut _ _ (off₅' q hq).2.1 (N₅' q hq).1, (N₅' q hq).2⟩
      · have hin : i = n := Nat.le_antisymm hi (Nat.not_lt.mp hlt)
        subst hin
        have hnil : xs.drop i = [] := List.drop_eq_nil_of_le (Nat.le_of_eq hn.symm)
        rw [hnil] at R'
        refine W.done _ _ _ hst' fun h₂ tk₂ hk₂ => ?_
        have hk₂' : ∀ c o, c ∉ wr → h'.get? c = some o → h₂.get? c = some o := hk₂
        refine hRR _ _ h₂ tk₂ _ ys news' ⟨F'.ns.at' fun o e => hk₂' _ o wrL e, fun c o e => hk₂' c o (wr0 c o e) (F'.keep c o e), F'.above⟩ (fun q hq => ?_) (fun q hq => (off' q hq).2.1) (hn'.at' fun o e => hk₂' _ o wrC e) hC₀ hD₀ hCL hDL (Ne.symm hDC) (fun q hq => (off' q hq).1) R'
        refine ⟨hk₂' _ _ ?_ (N' q hq).1, (N' q hq).2⟩
        rcases List.mem_cons.mp hq with rfl | hq
        · exact wrD
        · exact fun hm => (off' q hq).2.2 (hwr _ hm)
    · rcases List.mem_cons.mp hp with rfl | hp
      · exact ⟨hacc, hDL, hD₀⟩
      · exact ⟨old _ _ (N p hp).1, (N p hp).2⟩
  exact codeAny_compStart_list (loop _ rfl) (hself _ _ _ hst₁ (loop _ rfl))
end
end Mine
end
section
open PySem PySem.W PyProof.Rows
set_option Elab.async false
set_option maxRecDepth 100000
set_option maxHeartbeats 8000000
namespace Mine
open PySem.Calls PyProof.Rows.LCg
/-- a pair in the ledger -/
structure Ent where
  a : Addr
  p : Value
  q : Value
  n : Nat
noncomputable abbrev Ent.obj (e : Ent) : Obj := tup2 e.p e.q e.n
noncomputable abbrev refs (es : List Ent) : List Value := es.map fun e => Value.ref e.a
noncomputable def Has (news : Led) (es : List Ent) : Prop := ∀ e ∈ es, (e.a, e.obj) ∈ news
noncomputable def FinC (h₀ : Heap) (L : Addr) (m : Str → Option Value) (s : Shared) (Q : Value → Shared → Prop) (ys : List Value) (news : Led) : Prop :=
  ∀ D h tk, Fr h₀ L h m → News h₀ L h ((D, lst ys) :: news) → (∀ p ∈ news, p.1 ≠ D) → Q (.ref D) { s with heap := h, toks := tk }
noncomputable def FinL (h₀ : Heap) (L : Addr) (m : Str → Option Value) (s : Shared) (y : Str) (Q : Flow → Shared → Prop) (ys : List Value) (news : Led) : Prop :=
  ∀ D h tk, Fr h₀ L h (fun z => if z = y then some (.ref D) else m z) → News h₀ L h ((D, lst ys) :: news) → (∀ p ∈ news, p.1 ≠ D) → Q .next { s with heap := h, toks := tk }
noncomputable def CPAt (prog : Program) (w : World) (A : Around) (h₀ : Heap) (L : Addr) (m : Str → Option Value) (env : Env) (elt : PySem.Expr) (ifs : List PySem.Expr) (a b : Str) (pa pb tp : Pos) (kk : Nat) (scope : Scope) (cl : List (Str × Addr)) (Fin : Shared → List Value → Led → Prop) (it : Value) (s₂ : Shared) : Prop :=
  ∃ (I : Addr) (fp wr : List Addr) (n : Nat) (P Md : Nat → Value → Heap → Prop) (St : Nat → Heap → Prop) (ws : List (Addr × String)) (keep news : Led) (xs : List ((Tok → Value) × Value)), it = .ref I ∧ KTurns prog w A (.Tuple [.Name a pa, .Name b pb] kk tp) I fp wr n P Md St ∧ n = xs.length ∧ n ≤ sizeLine ∧ A.handled = none ∧
    (∀ i v h, P i v h → ∃ p, xs[i]? = some p ∧ ∃ T t, v = .ref T ∧ h.IsTuple T #[p.1 t, p.2]) ∧ (∀ i h, St i h → ∃ its, Objs ws its ∧ ∀ p ∈ its, h.get? p.1 = some p.2) ∧
    (∀ b ∈ ws.map (·.1), b ∈ fp ∧ h₀.get? b = none ∧ b ≠ L) ∧ (∀ b ∈ wr, b ∈ ws.map (·.1)) ∧ (∀ b ∈ fp, b ∈ ws.map (·.1) ∨ ∃ o, (b, o) ∈ keep) ∧ (∀ b ∈ fp, b < s₂.heap.objs.size) ∧
    (∀ (s : Shared) (Q : Value → Shared → Prop) (E : Value → Shared → Prop), St 0 s.heap → Q (.ref I) s → wpAny (model prog w) A (pyIter (.ref I)) Q E s) ∧
    St 0 s₂.heap ∧ Fr h₀ L s₂.heap m ∧ News h₀ L s₂.heap news ∧ (∀ p ∈ news, p.1 ∉ ws.map (·.1)) ∧ (∀ p ∈ keep, p ∈ news) ∧ CPRest prog w A h₀ L m env elt ifs a b scope cl s₂ ws keep (Fin s₂) xs [] news
section
variable {prog : Program} {w : World} {A : Around} {E : Value → Shared → Prop} {s : Shared} {h₀ : Heap} {L : Addr} {m : Str → Option Value} {env : Env}
theorem cp_eval {elt iter : PySem.Expr} {ifs : List PySem.Expr} {a b : Str} {pa pb tp : Pos} {kk : Nat} {scope : Scope} {cl : List (Str × Addr)} {pos : Pos} {Q : Value → Shared → Prop} (_F₀ : Fr h₀ L s.heap m)
    (hclos : closureFor scope env = pure cl) (hcell : ∀ y ∈ scope.names, y.2 ≠ .cell) (hkind : scope.kind = .function)
    (hnames : ∀ y ∈ scope.names, y.2 = .local → scope.names.lookup y.1 = some .local) (hxa : scope.names.lookup a = some .local) (hxb : scope.names.lookup b = some .local) (hab : ¬ a = b) (hifs : ifs.length ≤ 1)
    (h : wpAny (model prog w) A (eval iter env) (fun xv s₁ => wpAny (model prog w) A (pyIter xv) (CPAt prog w A h₀ L m env elt ifs a b pa pb tp kk scope cl (fun s₂ => FinC h₀ L m s₂ Q)) E s₁) E s)
    (hs : ∀ x, foldedSetIterable iter env x = pure x := by intro _; rfl) :
    wpAny (model prog w) A (eval (.ListComp elt [⟨.Tuple [.Name a pa, .Name b pb] kk tp, iter, ifs, 0⟩] scope pos) env) Q E s := by
  rw [eval_ListComp]
  refine wpAny_comprehension_free (use := none) rfl hs hclos hkind hnames (wpAny_mono h (fun xv s₁ h₁ => wpAny_mono h₁ (fun it s₂ h₂ => ?_) fun _ _ e => e) fun _ _ e => e)
  refine el_11_18 (h₂) ?_
  clear h₂
  rintro I fp wr n P Md St ws keep news xs rfl W hn hsz hh hP hobj hws hwr hfp hfp2 hself hst F N off hk R
  refine cp_block W hn hsz hh hP hobj hws hwr hfp hfp2 hself hifs hcell hkind hxa hxb hab hst F N off hk R ?_
  intro D C h tk m' ys news' F' N' offD hn hC₀ hD₀ hCL hDL hCD offC fin
  refine ⟨m', hn, fun h'' hs'' => fin D h'' tk (F'.change hs'' hCL hC₀) (fun p hp => ?_) offD⟩
  refine ⟨hs''.extBut _ _ ?_ (N' p hp).1, (N' p hp).2⟩
  rcases List.mem_cons.mp hp with rfl | hp
  · exact Ne.symm hCD
  · exact offC p hp
theorem cp_assign {elt iter : PySem.Expr} {ifs : List PySem.Expr} {a b y : Str} {pa pb tp py : Pos} {kk : Nat} {scope : Scope} {cl : List (Str × Addr)} {pos spos : Pos} {Q : Flow → Shared → Prop} (_F₀ : Fr h₀ L s.heap m) (hLe : env.locals = L)
    (hsw : swapsWith (.ListComp elt [⟨.Tuple [.Name a pa, .Name b pb] kk tp, iter, ifs, 0⟩] scope pos) (some (.Name y py)) spos.line env = pure true)
    (hclos : closureFor scope env = pure cl) (hcell : ∀ y ∈ scope.names, y.2 ≠ .cell) (hkind : scope.kind = .function)
    (hnames : ∀ y ∈ scope.names, y.2 = .local → scope.names.lookup y.1 = some .local) (hxa : scope.names.lookup a = some .local) (hxb : scope.names.lookup b = some .local) (hab : ¬ a = b) (hifs : ifs.length ≤ 1)
    (hy : env.kindOf y = some .local) (hp : (env.scope.kind == .class || (env.scope.kind == .module && env.locals != env.globals)) = false)
    (h : wpAny (model prog w) A (eval iter env) (fun xv s₁ => wpAny (model prog w) A (pyIter xv) (CPAt prog w A h₀ L m env elt ifs a b pa pb tp kk scope cl (fun s₂ => FinL h₀ L m s₂ y Q)) E s₁) E s)
    (hs : ∀ x, foldedSetIterable iter env x = pure x := by intro _; rfl) :
    wpAny (model prog w) A (exec (.Assign [.Name y py] (.ListComp elt [⟨.Tuple [.Name a pa, .Name b pb] kk tp, iter, ifs, 0⟩] scope pos) spos) env) Q E s := by
  subst hLe
  rw [exec_Assign_Name_used _ _ _ _ hsw]
  refine wpAny_bind (wpAny_standAt (wpAny_bind ?_))
  show wpAny _ A (do let _ ← comprehension (.ListComp elt [⟨.Tuple [.Name a pa, .Name b pb] kk tp, iter, ifs, 0⟩] scope pos) scope env _ (newList []) false (eval iter env) (some (assign (.Name y py) env))) _ _ s
  refine wpAny_bind (wpAny_mono (wpAny_comprehension_free (use := some (assign (.Name y py) env)) (Q := fun _ s' => Q .next s') rfl hs hclos hkind hnames
    (wpAny_mono h (fun xv s₁ h₁ => wpAny_mono h₁ (fun it s₂ h₂ => ?_) fun _ _ e => e) fun _ _ e => e)) (fun _ s' hq => wpAny_pure (wpAny_pure hq)) fun _ _ e => e)
  refine el_11_18 (h₂) ?_
  clear h₂
  rintro I fp wr n P Md St ws keep news xs rfl W hn hsz hh hP hobj hws hwr hfp hfp2 hself hst F N off hk R
  refine cp_block W hn hsz hh hP hobj hws hwr hfp hfp2 hself hifs hcell hkind hxa hxb hab hst F N off hk R ?_
  intro D C h' tk m' ys news' F' N' offD hn hC₀ hD₀ hCL hDL hCD offC fin
  show wpAny _ A (assign (.Name y py) env (.ref D)) _ _ _
  refine wpAny_assign_Name (wpAny_storeName_local hy F'.ns (fun h₂ hn₂ hs₂ => ?_) hp)
  have hL₀ : h₀.get? env.locals = none := Heap.get?_none_of_le F'.above
  have F₂ : Fr h₀ env.locals h₂ (fun z => if z = y then some (.ref D) else m z) := ⟨hn₂, fun b o e => hs₂.extBut b o (fun q => by rw [q, hL₀] at e; cases e) (F'.keep b o e), F'.above⟩
  refine ⟨m', hn.sameBut hs₂ hCL, fun h'' hs'' => fin D h'' _ (F₂.change hs'' hCL hC₀) (fun p hp => ?_) offD⟩
  have z : h₂.get? p.1 = some p.2 := hs₂.extBut _ _ (N' p hp).2.1 (N' p hp).1
  refine ⟨hs''.extBut _ _ ?_ z, (N' p hp).2⟩
  rcases List.mem_cons.mp hp with rfl | hp
  · exact Ne.symm hCD
  · exact offC p hp

variable {elt : PySem.Expr} {ifs : List PySem.Expr} {a b : Str} {pa pb tp : Pos} {kk : Nat} {scope : Scope} {cl : List (Str × Addr)} {Fin : Shared → List Value → Led → Prop}
/-- the source is enumerate of a list of the ledger -/
theorem cps_enum {l n : Nat} {vs : List Value} {news : Led} (hh : A.handled = none) (F : Fr h₀ L s.heap m) (N : News h₀ L s.heap news) (hm : (l, listOf vs.toArray n) ∈ news) (hz : vs.length ≤ sizeLine)
    (R : ∀ (I : Addr) (g : Heap), (∀ p ∈ news, p.1 < I) → CPRest prog w A h₀ L m env elt ifs a b scope cl { s with heap := g } [(I + 1, "enumerate"), (I, "list_iterator")] [(l, listOf vs.toArray n)] (Fin { s with heap := g }) (vs.zipIdx.map fun p => (fun t => Value.int (p.2 : Int) t, p.1)) [] news) :
    wpAny (model prog w) A (call (.type "enumerate") [.ref l]) (fun xv s₁ => wpAny (model prog w) A (pyIter xv) (CPAt prog w A h₀ L m env elt ifs a b pa pb tp kk scope cl Fin) E s₁) E s := by
  have hax := N _ hm
  have hl : s.heap.IsList l vs.toArray := ⟨_, hax.1, rfl, n, rfl⟩
  have hlt : l < s.heap.objs.size := Heap.lt_size hax.1
  have hLs : L < s.heap.objs.size := F.ns.lt
  refine call_enumerate_list hl fun h' hE hI hsz hk => ?_
  refine wpAny_pyIter_enum hE ?_
  refine ⟨s.heap.objs.size + 1, _, _, _, _, _, _, [(s.heap.objs.size + 1, "enumerate"), (s.heap.objs.size, "list_iterator")], [(l, listOf vs.toArray n)], news, _, rfl, KTurns.ofWalksU (WalksT.enumerate hh (s.heap.objs.size + 1) s.heap.objs.size l (Nat.succ_ne_self _) (ktu_ne 1 hlt) (Nat.ne_of_lt hlt) vs.toArray).toU, by simp, by simpa using hz, hh, ?_, ?_, ?_, ?_, ?_, ?_, ?_, ⟨⟨_, hE⟩, hI, hl.at fun o e => hk l o e⟩, F.keeps hk, N.grown hk, ?_, ?_, R _ _ fun p hp => Heap.lt_size (N p hp).1⟩
  · rintro i v h hJz
    refine el_2_3 (hJz) ?_
    clear hJz
    rintro T vals rfl ⟨t, x, hx, rfl⟩ hT
    refine ⟨(fun t => .int (i : Int) t, x), ?_, T, t, rfl, hT⟩
    have hx' : vs[i]? = some x := by simpa using hx
    simp [List.getElem?_map, List.getElem?_zipIdx, hx']
  · rintro i h ⟨⟨old, he⟩, ⟨oi, hoi, hic, _⟩, _⟩
    have he' : ∃ oe : Obj, h.get? (s.heap.objs.size + 1) = some oe ∧ oe.cls = .type "enumerate" := ⟨_, he, rfl⟩
    obtain ⟨oe, h1, h2⟩ := he'
    refine ⟨[(s.heap.objs.size + 1, oe), (s.heap.objs.size, oi)], ⟨⟨rfl, h2⟩, ⟨rfl, hic⟩, trivial⟩, fun p hp => ?_⟩
    simp only [List.mem_cons, List.not_mem_nil, or_false] at hp
    rcases hp with rfl | rfl <;> assumption
  · intro c hc
    have hc' : c = s.heap.objs.size + 1 ∨ c = s.heap.objs.size := by simpa using hc
    rcases hc' with rfl | rfl
    · exact ⟨by simp, ktu_new F (Nat.le_add_right _ _), (ktu_ne 1 hLs).symm⟩
    · exact ⟨by simp, ktu_new F (Nat.le_refl _), (Nat.ne_of_lt hLs).symm⟩
  · intro c hc
    simpa using hc
  · intro c hc
    have hc' : c = s.heap.objs.size + 1 ∨ c = s.heap.objs.size ∨ c = l := by simpa using hc
    rcases hc' with rfl | rfl | rfl
    · exact .inl (by simp)
    · exact .inl (by simp)
    · exact .inr ⟨_, List.mem_cons_self ..⟩
  · intro c hc
    have hc' : c = s.heap.objs.size + 1 ∨ c = s.heap.objs.size ∨ c = l := by simpa using hc
    show c < h'.objs.size
    rw [hsz]
    have h1 : @LT.lt Nat _ l s.heap.objs.size := hlt
    rcases hc' with rfl | rfl | rfl
    · exact Nat.lt_succ_self _
    · exact Nat.lt_succ_of_lt (Nat.lt_succ_self _)
    · exact Nat.lt_succ_of_lt (Nat.lt_succ_of_lt h1)
  · rintro s' Q' E' ⟨⟨old, he⟩, _⟩ q
    exact wpAny_pyIter_enum he q
  · intro p hp hI'
    have hb' : p.1 = s.heap.objs.size + 1 ∨ p.1 = s.heap.objs.size := by simpa using hI'
    have hlp := Heap.lt_size (N p hp).1
    rcases hb' with e | e
    · exact ktu_ne 1 hlp e
    · exact Nat.ne_of_lt hlp e
  · intro p hp
    rw [List.mem_singleton.mp hp]
    exact hm
/-- the source is a list of pairs of the ledger -/
theorem cps_list {l n : Nat} {es : List Ent} {news : Led} (hh : A.handled = none) (F : Fr h₀ L s.heap m) (N : News h₀ L s.heap news) (hm : (l, listOf (refs es).toArray n) ∈ news) (he : Has news es) (hz : es.length ≤ sizeLine)
    (R : ∀ (I : Addr) (g : Heap), (∀ p ∈ news, p.1 < I) → CPRest prog w A h₀ L m env elt ifs a b scope cl { s with heap := g } [(I, "list_iterator")] ((l, listOf (refs es).toArray n) :: es.map fun e => (e.a, e.obj)) (Fin { s with heap := g }) (es.map fun e => (fun _ => e.p, e.q)) [] news) :
    wpAny (model prog w) A (pyIter (.ref l)) (CPAt prog w A h₀ L m env elt ifs a b pa pb tp kk scope cl Fin) E s := by
  have hax := N _ hm
  have hl : s.heap.IsList l (refs es).toArray := ⟨_, hax.1, rfl, n, rfl⟩
  have hlt : l < s.heap.objs.size := Heap.lt_size hax.1
  have hLs : L < s.heap.objs.size := F.ns.lt
  have hlen : (refs es).toArray.size = es.length := by simp
  have helt : ∀ e ∈ es, @LT.lt Nat _ e.a s.heap.objs.size := fun e h => Heap.lt_size (N _ (he e h)).1
  refine wpAny_pyIter_list hl ?_
  have get : ∀ j, j < (refs es).toArray.size → ∃ e, es[j]? = some e := fun j hj => ⟨_, List.getElem?_eq_getElem (by omega)⟩
  have W := WalksU.listOfTuples (prog := prog) (w := w) hh s.heap.objs.size l (Nat.ne_of_lt hlt) (refs es).toArray (fun j => (es[j]?.map (·.a)).getD 0) (fun j => (es[j]?.map fun e => #[e.p, e.q]).getD #[])
    (fun j hj => by obtain ⟨e, q⟩ := get j hj; simp [q]) (fun j hj => by
      obtain ⟨e, q⟩ := get j hj
      rw [q]
      exact Nat.ne_of_lt (helt e (List.mem_of_getElem? q)))
  refine ⟨s.heap.objs.size, _, _, _, _, _, _, [(s.heap.objs.size, "list_iterator")], _, news, _, rfl, KTurns.ofWalksU W.bound, by simp, by simpa using hz, hh, ?_, ?_, ?_, ?_, ?_, ?_, ?_, ⟨⟨_, Heap.get?_push_size _ rfl, rfl, rfl⟩, hl.at fun o e => Heap.get?_push_of_some _ e, ?_⟩, F.push _, (fun p hp => ⟨Heap.get?_push_of_some _ (N p hp).1, (N p hp).2⟩), ?_, ?_, R _ _ fun p hp => Heap.lt_size (N p hp).1⟩
  · rintro i v h hJz
    refine el_2_3 (hJz) ?_
    clear hJz
    rintro T vals rfl ⟨hi, rfl⟩ hT
    obtain ⟨e, q⟩ := get i hi
    rw [q] at hT
    exact ⟨(fun _ => e.p, e.q), by rw [List.getElem?_map, q]; rfl, T, 0, rfl, hT⟩
  · rintro i h ⟨⟨oi, hoi, hic, _⟩, _⟩
    refine ⟨[(s.heap.objs.size, oi)], ⟨⟨rfl, hic⟩, trivial⟩, fun p hp => ?_⟩
    rw [List.mem_singleton.mp hp]; exact hoi
  · intro c hc
    have hc' : c = s.heap.objs.size := by simpa using hc
    subst hc'
    exact ⟨by simp, next_is_new F, (Nat.ne_of_lt hLs).symm⟩
  · intro c hc
    simpa using hc
  · intro c hc
    rcases List.mem_cons.mp hc with rfl | hc
    · exact .inl (by simp)
    · rcases List.mem_cons.mp hc with rfl | hc
      · exact .inr ⟨_, List.mem_cons_self ..⟩
      · obtain ⟨j, hj, rfl⟩ := List.mem_map.mp hc
        obtain ⟨e, q⟩ := get j (List.mem_range.mp hj)
        rw [q]
        exact .inr ⟨_, List.mem_cons_of_mem _ (List.mem_map.mpr ⟨e, List.mem_of_getElem? q, rfl⟩)⟩
  · intro c hc
    show c < (s.heap.push _).objs.size
    rw [Heap.size_push]
    rcases List.mem_cons.mp hc with rfl | hc
    · exact Nat.lt_succ_self _
    · rcases List.mem_cons.mp hc with rfl | hc
      · exact Nat.lt_succ_of_lt hlt
      · obtain ⟨j, hj, rfl⟩ := List.mem_map.mp hc
        obtain ⟨e, q⟩ := get j (List.mem_range.mp hj)
        rw [q]
        exact Nat.lt_succ_of_lt (helt e (List.mem_of_getElem? q))
  · rintro s' Q' E' ⟨h1, _⟩ q
    exact wpAny_pyIter_listiter h1 q
  · intro k hk'
    obtain ⟨e, q⟩ := get k hk'
    dsimp only
    rw [q]
    exact ⟨_, Heap.get?_push_of_some _ (N _ (he e (List.mem_of_getElem? q))).1, rfl, _, rfl⟩
  · intro p hp hI'
    have hb' : p.1 = s.heap.objs.size := by simpa using hI'
    exact Nat.ne_of_lt (Heap.lt_size (N p hp).1) hb'
  · intro p hp
    rcases List.mem_cons.mp hp with rfl | hp
    · exact hm
    · obtain ⟨e, h1, rfl⟩ := List.mem_map.mp hp
      exact he e h1
end
end Mine
end
section
open PySem PySem.W PyProof.Rows
set_option Elab.async false
set_option maxRecDepth 100000
set_option maxHeartbeats 8000000
namespace Mine
noncomputable def RInd {σ α : Type} (ps : σ → List (Str × Value)) (stored : List Str) (m₀ : Str → Option Value) (J : σ → List α → Led → Prop) (r : List α) (m' : Str → Option Value) (n' : Led) : Prop :=
  ∃ c, (∀ p ∈ ps c, m' p.1 = some p.2) ∧ (∀ z, (∀ p ∈ ps c, z ≠ p.1) → stored.contains z = false → m' z = m₀ z) ∧ J c r n'
section
variable {prog : Program} {w : World} {A : Around} {E : Value → Shared → Prop} {s : Shared} {env : Env} {h₀ : Heap} {target : Expr} {body : List Stmt} {Q : Flow → Shared → Prop}
/-- a loop's turns by induction: the state c, the items that are left, the ledger -/
theorem rest_ind {σ α : Type} {ws : List (Addr × String)} {keep : Led} (f : α → Itm) (ps : σ → List (Str × Value)) (stored : List Str) (m₀ : Str → Option Value) (J : σ → List α → Led → Prop)
    (turn : ∀ c a r (u : Str → Option Value) news v h tk, J c (a :: r) news → (f a).Is v h → Fr h₀ env.locals h (kstB (fun z => if stored.contains z then u z else m₀ z) (ps c)) → AllObj ws (fun its => News h₀ env.locals h (its ++ news) →
      wpAny (model prog w) A (assign target env v) (fun _ s₂ => wpAny (model prog w) A (execs body env) (UnrPostW h₀ env.locals { s with heap := h, toks := tk } its (fun m' n' => SubL keep n' ∧ RInd ps stored m₀ J r m' n') Q) E s₂) E { s with heap := h, toks := tk }))
    (done : ∀ c (u : Str → Option Value) news h tk, J c [] news → Fr h₀ env.locals h (kstB (fun z => if stored.contains z then u z else m₀ z) (ps c)) → News h₀ env.locals h news → Q .next { s with heap := h, toks := tk }) :
    ∀ (xs : List α) (m : Str → Option Value) (news : Led), RInd ps stored m₀ J xs m news → ItemsRest prog w A E h₀ env target body Q s ws keep (xs.map f) m news
  | [], m, news, ⟨c, h1, h2, hJ⟩ => fun h tk F N => done c m news h tk hJ (ksw_fr h1 h2 F) N
  | a :: r, m, news, ⟨c, h1, h2, hJ⟩ => by
    intro v h tk hv F
    have t := turn c a r m news v h tk hJ hv (ksw_fr h1 h2 F)
    have ih := rest_ind f ps stored m₀ J turn done r
    have go : ∀ {ws' : List (Addr × String)} {K K' : Led → Prop}, (∀ its, K its → K' its) → AllObj ws' K → AllObj ws' K' := by
      intro ws'
      induction ws' with
      | nil => intro K K' hK x; exact hK _ x
      | cons w r ih' => intro K K' hK x o ho; exact ih' (fun its => hK _) (x o ho)
    refine go (fun its x N => ?_) t
    refine wpAny_mono (x N) (fun _ s₂ y => wpAny_mono y (fun fl s₃ z => ?_) fun _ _ e => e) fun _ _ e => e
    cases fl with
    | ret v => exact z
    | brk => exact z
    | next => obtain ⟨h', tk', m', n', e, F', N', o, k, q⟩ := z; exact ⟨h', tk', m', n', e, F', N', o, k, ih m' n' q⟩
    | cont => obtain ⟨h', tk', m', n', e, F', N', o, k, q⟩ := z; exact ⟨h', tk', m', n', e, F', N', o, k, ih m' n' q⟩
end
theorem enumItems_map : ∀ (vs : List Value) (i : Nat), enumItems i vs = (vs.zipIdx i).map fun p => Itm.pair (fun t => .int (p.2 : Int) t) p.1
  | [], _ => rfl
  | v :: r, i => by
    show _ :: enumItems (i + 1) r = _
    rw [enumItems_map r (i + 1)]
    simp [List.zipIdx_cons]
/-- a colour of the ledger -/
structure Col where
  ad : Addr
  r : Int
  a : Int
  b : Int
  ta : Tok
  tb : Tok
  tc : Tok
  n : Nat
noncomputable abbrev Col.obj (c : Col) : Obj := tri (F32 (partR c.r c.a c.b 0)) (F32 (partR c.r c.a c.b 16)) (F32 (partR c.r c.a c.b 32)) c.ta c.tb c.tc c.n
noncomputable def Col.ok (c : Col) : Prop := (0 ≤ c.r ∧ c.r < 16) ∧ (0 ≤ c.a ∧ c.a < 2) ∧ (0 ≤ c.b ∧ c.b < 2)
noncomputable def HueOk (r a b : Int) : Prop :=
  let x := F32 (partR r a b 0)
  let y := F32 (partR r a b 16)
  let z := F32 (partR r a b 32)
  let h := Float64.add (Float64.mul (rgbF x y z).1 C16) 4602678819172646912
  (¬ (Float64.cmp (mn3 x y z) (mx3 x y z) == some Ordering.eq) = true) ∧ (¬ Float64.isZero (mx3 x y z) = true) ∧ (¬ Float64.isZero (Float64.sub (mx3 x y z) (mn3 x y z)) = true) ∧
  (¬ Float64.isNaN h = true) ∧ (¬ Float64.isInf h = true) ∧ Flt.toInt Float64.truncOf h = r
theorem hue_all : ∀ (r : Fin 16) (a b : Fin 2), HueOk (r.val : Int) (a.val : Int) (b.val : Int) := by
  unfold HueOk
  dsimp only
  decide +kernel
theorem Col.hue {c : Col} (h : c.ok) : HueOk c.r c.a c.b := by
  refine el_0_4 (h) ?_
  clear h
  rintro ⟨r0, r1⟩ ⟨a0, a1⟩ b0 b1
  have q := hue_all ⟨c.r.toNat, by omega⟩ ⟨c.a.toNat, by omega⟩ ⟨c.b.toNat, by omega⟩
  have e1 : ((⟨c.r.toNat, by omega⟩ : Fin 16).val : Int) = c.r := by show (c.r.toNat : Int) = _; omega
  have e2 : ((⟨c.a.toNat, by omega⟩ : Fin 2).val : Int) = c.a := by show (c.a.toNat : Int) = _; omega
  have e3 : ((⟨c.b.toNat, by omega⟩ : Fin 2).val : Int) = c.b := by show (c.b.toNat : Int) = _; omega
  rw [e1, e2, e3] at q
  exact q
end Mine
end
section
open PySem PySem.W PyProof.Rows
set_option Elab.async false
set_option maxRecDepth 100000
set_option maxHeartbeats 8000000
namespace Mine
section
variable {prog : Program} {w : World} {A : Around} {E : Value → Shared → Prop} {s : Shared} {h₀ : Heap} {L l : Addr} {m : Str → Option Value} {news : Led} {value slice : PySem.Expr} {vs : List Value} {n : Nat} {k : Int} {u : Tok} {Q : Value → Shared → Prop}
theorem slice_from (F : Fr h₀ L s.heap m) (N : News h₀ L s.heap news) (hm : (l, listOf vs.toArray n) ∈ news) (hz : vs.length ≤ 64) (hk : 0 ≤ k ∧ k ≤ vs.length)
    (h : ∀ D h', Fr h₀ L h' m → News h₀ L h' ((D, listOf (vs.drop k.toNat).toArray 0) :: news) → (∀ p ∈ news, p.1 < D) → Q (.ref D) { s with heap := h' })
    (hs : subscripted slice false (.ref l) (.ref s.heap.objs.size) = operate [.ref s.heap.objs.size, .ref l] (getItem (.ref l) (.ref s.heap.objs.size)) := by with_unfolding_all rfl) (ht : ∀ r, letTemporaryGo value (.ref l) r = pure () := by intro _; with_unfolding_all rfl) :
    wpAny (model prog w) A (subscriptTail value slice (.ref l) (.ref s.heap.objs.size)) Q E { s with heap := s.heap.push { cls := .type "slice", data := .fields #[.int k u, .none, .none] } } := by
  have hl : s.heap.IsList l vs.toArray := ⟨_, (N _ hm).1, rfl, n, rfl⟩
  refine kms_slice_lit F N hl (IsPart.int k u) IsPart.none ?_ h hs ht (by rw [sizeLine_eq]; simp; omega)
  unfold kms_pick kms_lo kms_hi
  simp only
  rw [if_neg (by omega), Nat.min_eq_left (by simp; omega), List.take_of_length_le (by simp)]
theorem slice_to (F : Fr h₀ L s.heap m) (N : News h₀ L s.heap news) (hm : (l, listOf vs.toArray n) ∈ news) (hz : vs.length ≤ 64) (hk : 0 ≤ k ∧ k ≤ vs.length)
    (h : ∀ D h', Fr h₀ L h' m → News h₀ L h' ((D, listOf (vs.take k.toNat).toArray 0) :: news) → (∀ p ∈ news, p.1 < D) → Q (.ref D) { s with heap := h' })
    (hs : subscripted slice false (.ref l) (.ref s.heap.objs.size) = operate [.ref s.heap.objs.size, .ref l] (getItem (.ref l) (.ref s.heap.objs.size)) := by with_unfolding_all rfl) (ht : ∀ r, letTemporaryGo value (.ref l) r = pure () := by intro _; with_unfolding_all rfl) :
    wpAny (model prog w) A (subscriptTail value slice (.ref l) (.ref s.heap.objs.size)) Q E { s with heap := s.heap.push { cls := .type "slice", data := .fields #[.none, .int k u, .none] } } := by
  have hl : s.heap.IsList l vs.toArray := ⟨_, (N _ hm).1, rfl, n, rfl⟩
  refine kms_slice_lit F N hl IsPart.none (IsPart.int k u) ?_ h hs ht (by rw [sizeLine_eq]; simp; omega)
  unfold kms_pick kms_lo kms_hi
  simp only
  rw [if_neg (by omega), Nat.min_eq_left (by simp; omega), List.drop_zero, Nat.sub_zero]
theorem add_led {a b : Addr} {xs ys : List Value} {n1 n2 : Nat} (F : Fr h₀ L s.heap m) (N : News h₀ L s.heap news) (ha : (a, listOf xs.toArray n1) ∈ news) (hb : (b, listOf ys.toArray n2) ∈ news) (hz : xs.length + ys.length ≤ 128)
    (h : ∀ D h', Fr h₀ L h' m → News h₀ L h' ((D, listOf (xs ++ ys).toArray 0) :: news) → (∀ p ∈ news, p.1 < D) → Q (.ref D) { s with heap := h' }) : wpAny (model prog w) A (binaryOp .Add (.ref a) (.ref b)) Q E s := by
  have h1 : s.heap.IsList a xs.toArray := ⟨_, (N _ ha).1, rfl, n1, rfl⟩
  have h2 : s.heap.IsList b ys.toArray := ⟨_, (N _ hb).1, rfl, n2, rfl⟩
  exact kmk_add_lit F N h1 h2 (by simp) h (by rw [sizeLine_eq]; simp; omega)
end
end Mine
end
section
open PySem PySem.W PyProof.Rows PyProof.Rows.LCg PySem.Calls
set_option Elab.async false
set_option maxRecDepth 100000
set_option maxHeartbeats 400000
namespace Mine
section
variable {prog : Program} {w : World} {A : Around} {E : Value → Shared → Prop} {s : Shared} {h₀ : Heap} {L : Addr} {m : Str → Option Value} {env : Env}
/-- a comprehension over pairs that gives the second of each -/
theorem cprest_snd {a b : Str} {pb : Pos} {scope : Scope} {cl : List (Str × Addr)} {ws : List (Addr × String)} {keep : Led} {Fin : List Value → Led → Prop} (hkind : scope.kind = .function) (hb : scope.names.lookup b = some .local) (hd : (b == ("__debug__" : Str)) = false) :
    ∀ (xs : List ((Tok → Value) × Value)) (ys : List Value) (news : Led), (∀ p ∈ keep, p ∈ news) → Fin (ys ++ xs.map (·.2)) news → CPRest prog w A h₀ L m env (.Name b pb) [] a b scope cl s ws keep Fin xs ys news
  | [], ys, news, _, h => by
    show Fin ys news
    simpa using h
  | p :: r, ys, news, hk, h => by
    intro t its oC C D m₂ h' tk E' hits hoC h1 h2 F N off lt1 lt2
    have hC := (N _ (List.mem_append.mpr (.inr (List.mem_cons_self ..)))).1
    show wpAny _ A (eval (.Name b pb) (compEnvC scope cl C env)) _ _ _
    refine wpAny_Name (wpAny_loadName_local (by simp [compEnvC, relabel, hkind]) (lookup_relabel_local hb) (hoC.ns hC) h2 ?_) hd
    refine ⟨h', tk, news, rfl, F, N, off, hk, ?_⟩
    refine cprest_snd hkind hb hd r (ys ++ [p.2]) news hk ?_
    simpa using h
end
end Mine
end
section
open PySem PySem.W PyProof.Rows PyProof.Rows.LCg
set_option Elab.async false
set_option maxRecDepth 100000
set_option maxHeartbeats 8000000
namespace Mine
theorem kx_MRing : True := by
  w_top off
  k_with_none
  trivial
noncomputable abbrev LexP (p q : Int × Int) : Prop := p.1 < q.1 ∨ (p.1 = q.1 ∧ p.2 < q.2)
noncomputable def rotL (mk : Int) (l : List (Int × Int)) : List Int := (l.filter fun p => decide (mk ≤ p.1)).map (·.2) ++ (l.filter fun p => decide (p.1 < mk)).map (·.2)
noncomputable def EntIs : List Ent → List (Int × Int) → Prop
  | [], [] => True
  | e :: es, p :: l => (∃ t1 t2, e.p = .int p.1 t1 ∧ e.q = .int p.2 t2) ∧ EntIs es l
  | _, _ => False
theorem EntIs.length : ∀ {es : List Ent} {l : List (Int × Int)}, EntIs es l → es.length = l.length
  | [], [], _ => rfl
  | _ :: _, _ :: _, h => congrArg (· + 1) (EntIs.length h.2)
theorem has_cut {news news' : Led} {es : List Ent} {k : Nat} (h : Has news es) (hs : ∀ p ∈ news, p ∈ news') : Has news' (es.drop k ++ es.take k) := fun e he => by
  rcases List.mem_append.mp he with he | he
  · exact hs _ (h e (List.mem_of_mem_drop he))
  · exact hs _ (h e (List.mem_of_mem_take he))
theorem keep_cut {news news' : Led} {es : List Ent} {k : Nat} {p : Addr × Obj} (h : Has news es) (hs : ∀ p ∈ news, p ∈ news') : ∀ q ∈ p :: (es.drop k ++ es.take k).map (fun e => (e.a, e.obj)), q ∈ p :: news' := fun q hq => by
  rcases List.mem_cons.mp hq with rfl | hq
  · exact List.mem_cons_self ..
  · obtain ⟨e, he, rfl⟩ := List.mem_map.mp hq
    exact List.mem_cons_of_mem _ (has_cut h hs e he)
theorem tones_of {news : Led} : ∀ {es : List Ent} {l : List (Int × Int)}, Has news es → EntIs es l → Tones news (refs es) (l.map (·.1))
  | [], [], _, _ => .nil
  | e :: es, p :: l, hh, h => by
    obtain ⟨⟨t1, t2, e1, e2⟩, h⟩ := h
    have h0 := hh e (List.mem_cons_self ..)
    unfold Ent.obj at h0
    rw [e1] at h0
    exact .cons h0 (tones_of (fun x hx => hh x (List.mem_cons_of_mem _ hx)) h)
theorem EntIs.app : ∀ {e1 : List Ent} {l1 : List (Int × Int)} {e2 : List Ent} {l2 : List (Int × Int)}, EntIs e1 l1 → EntIs e2 l2 → EntIs (e1 ++ e2) (l1 ++ l2)
  | [], [], _, _, _, h => h
  | _ :: _, _ :: _, _, _, h, h' => ⟨h.1, EntIs.app h.2 h'⟩
theorem EntIs.take : ∀ {es : List Ent} {l : List (Int × Int)} (k : Nat), EntIs es l → EntIs (es.take k) (l.take k)
  | [], [], k, _ => by simp [EntIs]
  | _ :: _, _ :: _, 0, _ => trivial
  | _ :: _, _ :: _, k + 1, h => ⟨h.1, EntIs.take k h.2⟩
theorem EntIs.drop : ∀ {es : List Ent} {l : List (Int × Int)} (k : Nat), EntIs es l → EntIs (es.drop k) (l.drop k)
  | [], [], k, _ => by simp [EntIs]
  | _ :: _, _ :: _, 0, h => h
  | _ :: _, _ :: _, k + 1, h => EntIs.drop k h.2
theorem EntIs.insL {es : List Ent} {l : List (Int × Int)} {e : Ent} {p : Int × Int} (k : Int) (h : EntIs es l) (he : ∃ t1 t2, e.p = .int p.1 t1 ∧ e.q = .int p.2 t2) : EntIs (Mine.insL es k e) (Mine.insL l k p) :=
  EntIs.app (h.take _) ⟨he, h.drop _⟩
theorem front_le {l : List (Int × Int)} (h : l.Pairwise LexP) (x : Int) : Front (fun t => decide (t ≤ x)) (l.map (·.1)) := by
  intro i j hij hj hf
  rcases Nat.lt_or_ge i j with h1 | h1
  · have hj' : j < l.length := by simpa using hj
    have q := List.pairwise_iff_getElem.mp h i j (by omega) hj' h1
    simp only [List.getD_eq_getElem?_getD, List.getElem?_map, decide_eq_true_eq] at hf ⊢
    rw [List.getElem?_eq_getElem hj'] at hf
    rw [List.getElem?_eq_getElem (by omega)]
    simp only [Option.map_some, Option.getD_some] at hf ⊢
    rcases q with q | q <;> omega
  · have : i = j := by omega
    subst this; exact hf
theorem front_lt {l : List (Int × Int)} (h : l.Pairwise LexP) (x : Int) : Front (fun t => decide (t < x)) (l.map (·.1)) := by
  intro i j hij hj hf
  rcases Nat.lt_or_ge i j with h1 | h1
  · have hj' : j < l.length := by simpa using hj
    have q := List.pairwise_iff_getElem.mp h i j (by omega) hj' h1
    simp only [List.getD_eq_getElem?_getD, List.getElem?_map, decide_eq_true_eq] at hf ⊢
    rw [List.getElem?_eq_getElem hj'] at hf
    rw [List.getElem?_eq_getElem (by omega)]
    simp only [Option.map_some, Option.getD_some] at hf ⊢
    rcases q with q | q <;> omega
  · have : i = j := by omega
    subst this; exact hf
theorem item_tupL {prog : Program} {w : World} {A : Around} {E : Value → Shared → Prop} {s : Shared} {h₀ : Heap} {L a : Addr} {news : Led} {vs : List Value} {n : Nat} {k : Int} {u : Tok} {x : Value} {Q : Value → Shared → Prop} {value slice : PySem.Expr} (N : News h₀ L s.heap news) (hm : (a, ({ cls := .type "tuple", data := .seq vs.toArray n } : Obj)) ∈ news) (h0 : 0 ≤ k) (hk : k < 64) (hx : vs[k.toNat]? = some x) (h : Q x s)
    (he : subscripted slice false (.ref a) (.int k u) = operate [.ref a, .int k u] (getItem (.ref a) (.int k u)) := by with_unfolding_all rfl) :
    wpAny (model prog w) A (subscriptTail value slice (.ref a) (.int k u)) Q E s := by
  have ht : IsTup s.heap a vs.toArray := ⟨_, (N _ hm).1, rfl, n, rfl⟩
  have hlt : k.toNat < vs.length := (List.getElem?_eq_some_iff.mp hx).1
  exact tail_any ht.typeIs slot_tuple_getitem.lookup (getItem_tuple ht (by omega) (by omega) (j := k.toNat) (seqIndex_of h0 (by simp; omega)) (by simpa using hx) h) he
noncomputable def Hue3 (x y z : UInt64) (r : Int) : Prop :=
  (¬ (Float64.cmp (mn3 x y z) (mx3 x y z) == some Ordering.eq) = true) ∧ (¬ Float64.isZero (mx3 x y z) = true) ∧ (¬ Float64.isZero (Float64.sub (mx3 x y z) (mn3 x y z)) = true) ∧
  (¬ Float64.isNaN (Float64.add (Float64.mul (rgbF x y z).1 C16) 4602678819172646912) = true) ∧ (¬ Float64.isInf (Float64.add (Float64.mul (rgbF x y z).1 C16) 4602678819172646912) = true) ∧ Flt.toInt Float64.truncOf (Float64.add (Float64.mul (rgbF x y z).1 C16) 4602678819172646912) = r
/-- what the loop of the ring keeps: dn is done, l tells what stands in the row -/
noncomputable def RingJ (cs : List Col) (row I : Addr) (base : Led) (_ : Unit) (rem : List (Col × Nat)) (news : Led) : Prop :=
  ∃ (dn : List (Col × Nat)) (es : List Ent) (l : List (Int × Int)) (n : Nat), cs.zipIdx = dn ++ rem ∧ (row, listOf (refs es).toArray n) ∈ news ∧ Has news es ∧ EntIs es l ∧ l.Perm (dn.map fun p => (p.1.r, (p.2 : Int))) ∧ l.Pairwise LexP ∧ (∀ p ∈ base, p ∈ news) ∧ (∀ p ∈ news, p.1 ≠ I ∧ p.1 ≠ I + 1)
theorem ring_start {cs : List Col} {row I : Addr} {base : Led} {m : Str → Option Value} {n : Nat} (l1 : ∀ p ∈ ((row, listOf ([] : List Value).toArray n) :: base : Led), p.1 < I) : RInd (fun _ : Unit => []) [Str.ofString "place", Str.ofString "colour", Str.ofString "hue", Str.ofString "share", Str.ofString "value"] m (RingJ cs row I base) cs.zipIdx m ((row, listOf ([] : List Value).toArray n) :: base) :=
  ⟨(), (fun p hp => nomatch hp), (fun _ _ _ => rfl), [], [], [], n, rfl, List.mem_cons_self .., (fun e he => nomatch he), trivial, .refl _, .nil, (fun p hp => List.mem_cons_of_mem _ hp), fun p hp => ⟨Nat.ne_of_lt (l1 p hp), Nat.ne_of_lt (Nat.lt_succ_of_lt (l1 p hp))⟩⟩
theorem cut_take {f : Int → Bool} {l : List (Int × Int)} {k : Int} (h : IsCut f (l.map (·.1)) k) : ∀ p ∈ l.take k.toNat, f p.1 = true := by
  intro p hp
  obtain ⟨j, hj, e⟩ := List.mem_iff_getElem.mp hp
  have hj' : j < k.toNat ∧ j < l.length := by simpa [Nat.lt_min] using hj
  have q := h.2.2.1 j (by omega)
  simp only [List.getD_eq_getElem?_getD, List.getElem?_map, List.getElem?_eq_getElem hj'.2, Option.map_some, Option.getD_some] at q
  rw [List.getElem_take] at e
  rw [← e]; exact q
theorem cut_drop {f : Int → Bool} {l : List (Int × Int)} {k : Int} (h : IsCut f (l.map (·.1)) k) : ∀ p ∈ l.drop k.toNat, f p.1 = false := by
  intro p hp
  obtain ⟨j, hj, e⟩ := List.mem_iff_getElem.mp hp
  have hj' : k.toNat + j < l.length := by simp at hj; omega
  have q := h.2.2.2 (k.toNat + j) (by omega) (by simpa using hj')
  simp only [List.getD_eq_getElem?_getD, List.getElem?_map, List.getElem?_eq_getElem hj', Option.map_some, Option.getD_some] at q
  rw [List.getElem_drop] at e
  rw [← e]; exact q
theorem pw_insL {l : List (Int × Int)} {x i k : Int} (h : l.Pairwise LexP) (c : IsCut (fun t => decide (t ≤ x)) (l.map (·.1)) k) (hi : ∀ p ∈ l, p.2 < i) : (insL l k (x, i)).Pairwise LexP := by
  have e := List.take_append_drop k.toNat l
  have h' := h
  rw [← e] at h'
  obtain ⟨h1, h2, h3⟩ := List.pairwise_append.mp h'
  unfold insL
  refine List.pairwise_append.mpr ⟨h1, List.pairwise_cons.mpr ⟨fun p hp => .inl ?_, h2⟩, fun p hp q hq => ?_⟩
  · have := cut_drop c p hp
    simp only [decide_eq_false_iff_not] at this
    show x < p.1
    omega
  · rcases List.mem_cons.mp hq with rfl | hq
    · have := cut_take c p hp
      simp only [decide_eq_true_eq] at this
      have h4 := hi p (List.mem_of_mem_take hp)
      by_cases e : p.1 < x
      · exact .inl e
      · exact .inr ⟨by show p.1 = x; omega, h4⟩
    · exact h3 p hp q hq
theorem perm_insL {α : Type} {l l' : List α} {k : Int} {y : α} (h : l.Perm l') : (insL l k y).Perm (l' ++ [y]) := by
  unfold insL
  have e := List.take_append_drop k.toNat l
  have h1 : (l.take k.toNat ++ y :: l.drop k.toNat).Perm (y :: (l.take k.toNat ++ l.drop k.toNat)) := List.perm_middle
  rw [e] at h1
  exact h1.trans ((h.cons y).trans (List.perm_append_singleton y l').symm)
theorem zip_less {cs : List Col} {dn r : List (Col × Nat)} {c : Col} {i : Nat} (h : cs.zipIdx = dn ++ (c, i) :: r) : ∀ p ∈ dn, p.2 < i := by
  intro p hp
  obtain ⟨j, hj, e⟩ := List.mem_iff_getElem.mp hp
  have q : ∀ m (hm : m < cs.zipIdx.length), (cs.zipIdx[m]).2 = m := fun m hm => by simp
  have l1 := congrArg List.length h
  simp only [List.length_append, List.length_cons] at l1
  have q1 := q j (by omega)
  have q2 := q dn.length (by omega)
  simp only [h] at q1 q2
  rw [List.getElem_append_left hj, e] at q1
  simp at q2
  omega
theorem allLt_all {d : Addr} : ∀ {l : Led}, AllLt d l → ∀ p ∈ l, p.1 < d
  | [], _, _, hp => nomatch hp
  | q :: l, h, p, hp => by
    rcases List.mem_cons.mp hp with rfl | hp
    · exact h.1
    · exact allLt_all h.2 p hp
theorem refs_insL (es : List Ent) (k : Int) (e : Ent) : Mine.insL (refs es) k (.ref e.a) = refs (Mine.insL es k e) := by
  unfold Mine.insL refs
  simp
theorem ring_turn {cs : List Col} {row I D q : Nat} {base news1 news' : Led} {cc : Col} {i : Nat} {r dn : List (Col × Nat)} {es : List Ent} {l : List (Int × Int)} {n nn : Nat} {g h' : Heap} {L : Addr} {m' m₀ : Str → Option Value} {s₁ : Shared} {tk : Nat} {oq oE oI : Obj} {x k : Int} {tx t : Tok} {stored : List Str} {ca : Addr} {co : Obj}
    (hzip : cs.zipIdx = dn ++ (cc, i) :: r) (hrow : (row, listOf (refs es).toArray n) ∈ news1) (hhas : Has news1 es) (hent : EntIs es l) (hperm : l.Perm (dn.map fun p => (p.1.r, (p.2 : Int)))) (hpw : l.Pairwise LexP) (hbase : ∀ p ∈ base, p ∈ news1) (hoff : ∀ p ∈ news1, p.1 ≠ I ∧ p.1 ≠ I + 1)
    (l0 : ∀ p ∈ base, p.1 < row) (F' : Fr g L h' m') (N' : News g L h' news') (N1 : ∃ h, News g L h news1) (c : IsCut (fun t => decide (t ≤ x)) (l.map (·.1)) k) (ex : x = cc.r)
    (P : Turned row (listOf (Mine.insL (refs es) k (.ref D)).toArray (n + 1)) ((D, { cls := .type "tuple", data := .seq #[.int x tx, .int i t] nn }) :: (q, oq) :: (I + 1, oE) :: (I, oI) :: news1) news')
    (lD : q < D ∧ I + 1 < D ∧ I < D ∧ AllLt D news1) (hr : ∀ z, stored.contains z = false → m' z = m₀ z) (hk : (ca, co) ∈ base) :
    UnrEndW g L s₁ [(I + 1, oE), (I, oI)] (fun m' n' => SubL [(ca, co)] n' ∧ RInd (fun _ : Unit => []) stored m₀ (RingJ cs row I base) r m' n') { s₁ with heap := h', toks := tk } := by
  subst ex
  have hD := allLt_all lD.2.2.2
  have hor : row ≠ I ∧ row ≠ I + 1 := hoff _ hrow
  have hDrow : @LT.lt Nat _ row D := hD _ hrow
  have eR := refs_insL es k ⟨D, .int cc.r tx, .int i t, nn⟩
  have el : ∀ {p : Addr × Obj}, p ∈ news1 → p.1 ≠ row → p ∈ lessL row news1 := fun h hn => mem_lessL h hn
  have tn : ∀ e ∈ es, (e.a, e.obj) ∈ lessL row news1 := fun e he => by
    obtain ⟨h, N1⟩ := N1
    exact el (hhas e he) (news_ne N1 (hhas e he) hrow (by intro e; exact absurd (Value.type.inj e) (by decide)))
  refine unrEnd_plain (news := (row, listOf (Mine.insL (refs es) k (.ref D)).toArray (n + 1)) :: (D, tup2 (.int cc.r tx) (.int i t) nn) :: lessL row news1) F' (fun p hp => ?_) (fun p hp z hz => ?_) ⟨?_, trivial⟩ ⟨(), fun p hp => (nomatch hp), fun z _ h => hr z h, dn ++ [(cc, i)], Mine.insL es k ⟨D, .int cc.r tx, .int i t, nn⟩, Mine.insL l k (cc.r, (i : Int)), n + 1, by rw [hzip]; simp, ?_, ?_, hent.insL k ⟨tx, t, rfl, rfl⟩, ?_, ?_, ?_, ?_⟩
  · simp only [List.cons_append, List.nil_append, List.mem_cons] at hp
    rcases hp with rfl | rfl | rfl | rfl | hp
    · exact N' _ (P.2 _ (by simp) (fun e => (hoff _ hrow).2 e.symm))
    · exact N' _ (P.2 _ (by simp) (fun e => (hoff _ hrow).1 e.symm))
    · exact N' _ P.1
    · exact N' _ (P.2 _ (List.mem_cons_self ..) (Ne.symm (Nat.ne_of_lt hDrow)))
    · exact N' _ (P.2 _ (List.mem_cons_of_mem _ (List.mem_cons_of_mem _ (List.mem_cons_of_mem _ (List.mem_cons_of_mem _ (List.mem_filter.mp hp).1)))) (lessL_off p hp))
  · have hz' : z.1 = I + 1 ∨ z.1 = I := by
      simp only [List.mem_cons, List.not_mem_nil, or_false] at hz
      rcases hz with rfl | rfl
      · exact .inl rfl
      · exact .inr rfl
    have hp' : p.1 ≠ I ∧ p.1 ≠ I + 1 := by
      rcases List.mem_cons.mp hp with rfl | hp
      · exact hor
      · rcases List.mem_cons.mp hp with rfl | hp
        · exact ⟨Ne.symm (Nat.ne_of_lt lD.2.2.1), Ne.symm (Nat.ne_of_lt lD.2.1)⟩
        · exact hoff p (List.mem_filter.mp hp).1
    rcases hz' with e | e
    · rw [e]; exact hp'.2
    · rw [e]; exact hp'.1
  · exact List.mem_cons_of_mem _ (List.mem_cons_of_mem _ (el (hbase _ hk) (Nat.ne_of_lt (l0 _ hk))))
  · rw [← eR]; exact List.mem_cons_self ..
  · intro e he
    unfold Mine.insL at he
    rcases List.mem_append.mp he with he | he
    · exact List.mem_cons_of_mem _ (List.mem_cons_of_mem _ (tn e (List.mem_of_mem_take he)))
    · rcases List.mem_cons.mp he with rfl | he
      · exact List.mem_cons_of_mem _ (List.mem_cons_self ..)
      · exact List.mem_cons_of_mem _ (List.mem_cons_of_mem _ (tn e (List.mem_of_mem_drop he)))
  · rw [List.map_append]
    exact perm_insL hperm
  · refine pw_insL hpw c fun p hp => ?_
    obtain ⟨z, hz, rfl⟩ := List.mem_map.mp (hperm.mem_iff.mp hp)
    have := zip_less hzip z hz
    show (z.2 : Int) < i
    omega
  · exact fun p hp => List.mem_cons_of_mem _ (List.mem_cons_of_mem _ (el (hbase p hp) (Nat.ne_of_lt (l0 p hp))))
  · intro p hp
    rcases List.mem_cons.mp hp with rfl | hp
    · exact hor
    · rcases List.mem_cons.mp hp with rfl | hp
      · exact ⟨Ne.symm (Nat.ne_of_lt lD.2.2.1), Ne.symm (Nat.ne_of_lt lD.2.1)⟩
      · exact hoff p (List.mem_filter.mp hp).1

theorem ints_ent : ∀ {es : List Ent} {l : List (Int × Int)}, EntIs es l → IntsAre (es.map (·.q)) (l.map (·.2))
  | [], [], _ => .nil
  | e :: es, p :: l, h => by
    obtain ⟨⟨t1, t2, e1, e2⟩, h⟩ := h
    have := ints_ent h
    simp only [List.map_cons, e2]
    exact .cons _ _ this
theorem filter_all {f : Int × Int → Bool} {l : List (Int × Int)} (h : ∀ p ∈ l, f p = true) : l.filter f = l := List.filter_eq_self.mpr h
theorem filter_none {f : Int × Int → Bool} {l : List (Int × Int)} (h : ∀ p ∈ l, f p = false) : l.filter f = [] := List.filter_eq_nil_iff.mpr fun p hp => by simp [h p hp]
theorem ints_cut {es : List Ent} {l : List (Int × Int)} {mk k : Int} (h : EntIs es l) (c : IsCut (fun t => decide (t < mk)) (l.map (·.1)) k) :
    IntsAre ([] ++ ((es.drop k.toNat ++ es.take k.toNat).map fun e => (((fun _ => e.p : Tok → Value)), e.q)).map (·.2)) (rotL mk l) := by
  have h1 := cut_take c
  have h2 := cut_drop c
  have e0 := List.take_append_drop k.toNat l
  have e1 : (l.filter fun p => decide (mk ≤ p.1)) = l.drop k.toNat := by
    conv => lhs; rw [← e0]
    have g1 : ∀ p ∈ l.take k.toNat, decide (mk ≤ p.1) = false := fun p hp => by
      have := h1 p hp
      simp only [decide_eq_true_eq] at this
      simp only [decide_eq_false_iff_not]; omega
    have g2 : ∀ p ∈ l.drop k.toNat, decide (mk ≤ p.1) = true := fun p hp => by
      have := h2 p hp
      simp only [decide_eq_false_iff_not] at this
      simp only [decide_eq_true_eq]; omega
    rw [List.filter_append, filter_none (f := fun p => decide (mk ≤ p.1)) g1, filter_all (f := fun p => decide (mk ≤ p.1)) g2, List.nil_append]
  have e2 : (l.filter fun p => decide (p.1 < mk)) = l.take k.toNat := by
    conv => lhs; rw [← e0]
    rw [List.filter_append, filter_all (f := fun p => decide (p.1 < mk)) h1, filter_none (f := fun p => decide (p.1 < mk)) h2, List.append_nil]
  unfold rotL
  rw [e1, e2, List.nil_append, List.map_map, List.map_append]
  have q1 := ints_ent (h.drop k.toNat)
  have q2 := ints_ent (h.take k.toNat)
  exact q1.append q2
theorem zip_items (cs : List Col) : enumItems 0 (cs.map fun c => Value.ref c.ad) = cs.zipIdx.map fun p : Col × Nat => Itm.pair (fun t => .int (p.2 : Int) t) (.ref p.1.ad) := by
  rw [enumItems_map, List.zipIdx_map, List.map_map]
  rfl

theorem kx_MRing_0 : True := by
  k_with "subscriptTail Name Slice ref ref" => (k_here; (with_reducible show wpAny _ _ (subscriptTail _ (PySem.Expr.Slice (some _) none none _) (Value.ref _) (Value.ref _)) _ _ _); k_dflt (refine' slice_from ?FZk ?NZk ?hmZk ?hzZk ?hkZk ?_; (case FZk => k_asm); (case NZk => k_asm); (case hmZk => repeat (first | assumption | exact List.mem_cons_self .. | refine List.mem_cons_of_mem _ ?_)); (case hzZk => assumption); (case hkZk => exact cut_in (by assumption) (by assumption))); intro D' h' F' N' l1)
  trivial
theorem kx_MRing_1 : True := by
  k_with "subscriptTail Name Slice ref ref" => (k_here; (with_reducible show wpAny _ _ (subscriptTail _ (PySem.Expr.Slice none (some _) none _) (Value.ref _) (Value.ref _)) _ _ _); k_dflt (refine' slice_to ?FZk ?NZk ?hmZk ?hzZk ?hkZk ?_; (case FZk => k_asm); (case NZk => k_asm); (case hmZk => repeat (first | assumption | exact List.mem_cons_self .. | refine List.mem_cons_of_mem _ ?_)); (case hzZk => assumption); (case hkZk => exact cut_in (by assumption) (by assumption))); intro D' h' F' N' l1)
  trivial
theorem kx_MRing_2 : True := by
  k_with "binaryOp Add ref ref" => (k_here; k_dflt (refine' add_led ?FZk ?NZk ?haZk ?hbZk ?hzZk ?_; (case FZk => k_asm); (case NZk => k_asm); (case haZk => repeat (first | assumption | exact List.mem_cons_self .. | refine List.mem_cons_of_mem _ ?_)); (case hbZk => repeat (first | assumption | exact List.mem_cons_self .. | refine List.mem_cons_of_mem _ ?_)); (case hzZk => simp only [List.length_drop, List.length_take]; omega)); intro D' h' F' N' l1)
  trivial
theorem kx_MRing_3 : True := by
  k_with "subscriptTail Name Constant ref int" => (k_here; k_dflt (refine' item_tupL ?NZk ?hmZk ?h0Zk ?hkZk ?hxZk ?_; (case NZk => k_asm); (case hmZk => assumption); (case h0Zk => decide); (case hkZk => decide); (case hxZk => exact rfl)))
  trivial
theorem kx_MRing_4 : True := by
  k_with "ENTERK" => (refine' code_def ?k1Zk ?k2Zk ?k3Zk ?k4Zk ?k5Zk ?kAZk ?kFZk ?kKZk ?k6Zk ?k7Zk ?k8Zk ?k9Zk ?kBZk ?_ ?c2Zk ?c3Zk ?c4Zk ?c5Zk; (case kAZk => exact rfl); (case kFZk => exact rfl); (case kKZk => first | exact rfl | assumption); (case k1Zk => k_asm); (case k2Zk => k_asm); (case k3Zk => k_asm); (case k4Zk => k_asm); (case k5Zk => k_asm); (case k6Zk => k_is); (case k7Zk => k_is); (case k8Zk => ktr_room); (case k9Zk => first | exact BindsTo.of_eq rfl | exact binds_K (by k_in) rfl (by k_is) rfl rfl rfl | (refine' kp_binds ?kxZk ?keZk; (case kxZk => k_in); (case keZk => exact fun _ => rfl))); (case c5Zk => decide); (case kBZk => exact locs rfl); (case c2Zk => exact rfl); (case c3Zk => exact rfl); (case c4Zk => exact rfl); k_whole; intro g' L' h' FG' F' N' B' X' T'; (try dsimp only); (try k_lift B'); (try k_fold))
  trivial
theorem kx_MRing_5 : True := by
  k_with "leaving ref" => (exfalso; contradiction)
  trivial
theorem kx_MRing_6 : True := by
  k_with "call ref" => (first | (k_here; k_dflt (refine' Ctr.use (c_rgb _ ?h0Zk ?h1Zk ?h2Zk) ?kBZk ?kFZk ?kXZk ?kNZk ?kTZk ?kkZk ?kdZk ?kuZk ?_; (case kBZk => k_asm); (case kFZk => k_asm); (case kXZk => k_asm); (case kNZk => k_asm); (case kTZk => k_asm); (case kkZk => first | exact rfl | assumption); (case kdZk => ktr_room); (case kuZk => ktr_units); (case h0Zk => assumption); (case h1Zk => assumption); (case h2Zk => assumption); k_whole; intro v' news' h' tk' F' N' P'; refine el_5_3 (P') ?_; clear P'; rintro q' n' ta' tb' tc' e1' e2' l'; subst e1'; subst e2'; (try dsimp only))) | (k_here; k_dflt (refine' Ctr.use (c_insort _ ?h0Zk ?h1Zk ?h2Zk ?h3Zk ?h4Zk) ?kBZk ?kFZk ?kXZk ?kNZk ?kTZk ?kkZk ?kdZk ?kuZk ?_; (case kBZk => k_asm); (case kFZk => k_asm); (case kXZk => k_asm); (case kNZk => k_asm); (case kTZk => k_asm); (case kkZk => first | exact rfl | assumption); (case kdZk => ktr_room); (case kuZk => ktr_units); (case h0Zk => repeat (first | assumption | refine List.mem_cons_of_mem _ ?_)); (case h1Zk => k_mem); (case h2Zk => refine Tones.imp (by assumption) fun _ _ _ _ hx => ?_; repeat (first | exact hx | refine List.mem_cons_of_mem _ ?_)); (case h3Zk => assumption); (case h4Zk => apply_assumption); k_whole; intro v' news' h' tk' F' N' P'; obtain ⟨e1', k', c', P'⟩ := P'; subst e1'; (try dsimp only))) | (k_here; k_dflt (refine' Ctr.use (c_bl_key _ ?h0Zk ?h1Zk ?h2Zk ?h3Zk) ?kBZk ?kFZk ?kXZk ?kNZk ?kTZk ?kkZk ?kdZk ?kuZk ?_; (case kBZk => k_asm); (case kFZk => k_asm); (case kXZk => k_asm); (case kNZk => k_asm); (case kTZk => k_asm); (case kkZk => first | exact rfl | assumption); (case kdZk => ktr_room); (case kuZk => ktr_units); (case h0Zk => repeat (first | assumption | refine List.mem_cons_of_mem _ ?_)); (case h1Zk => assumption); (case h2Zk => assumption); (case h3Zk => apply_assumption); k_whole; intro v' news' h' tk' F' N' P'; refine el_2_3 (P') ?_; clear P'; rintro t' k' e1' c' e2'; subst e1'; replace e2' := Eq.symm e2'; subst e2'; (try dsimp only))))
  trivial
theorem c_ring (w : World) {ca nc : Nat} {cs : List Col} {mk : Int} {tm : Tok} {news : Led} (hm : (ca, listOf (cs.map fun c => Value.ref c.ad).toArray nc) ∈ news) (hc : ∀ c ∈ cs, (c.ad, c.obj) ∈ news ∧ c.ok) (hz : cs.length ≤ 63) :
    Ctr w 102 [.ref ca, .int mk tm] [] news 4 64 (fun v news' => ∃ q ys l, v = .ref q ∧ news' = (q, lst ys) :: news ∧ l.Perm (cs.zipIdx.map fun p => (p.1.r, (p.2 : Int))) ∧ l.Pairwise LexP ∧ IntsAre ys (rotL mk l)) := by
  unfold Ctr
  k_fill
  intro loose mean mg mb dp un gd cn css aa ccd cl outer A₀ base h₀ L m s Q E B F X N T hk hdp hun hret
  refine wpAny_call ?_
  k_dflt cell_enter
  iterate 9 walk1
  rename Fr _ _ _ _ => lF'
  with_unfolding_all (refine' For_turns lF' ?_)
  iterate 6 walk1
  with_unfolding_all (refine ktu_enum (by rfl) lF' (by assumption) (List.mem_cons_of_mem _ hm) rfl rfl (zip_items cs) ?_)
  clear lF'
  intro I' l1'
  with_unfolding_all (refine rest_ind _ (fun _ => []) [Str.ofString "place", Str.ofString "colour", Str.ofString "hue", Str.ofString "share", Str.ofString "value"] _ (RingJ cs _ I' news) ?turn ?done _ _ _ (ring_start l1'))
  case turn =>
    rintro c ⟨cc, i⟩ r u news1 v h tk hJz
    refine el_4_8 (hJz) ?_
    clear hJz
    rintro dn es l n hzip hrow hhas hent hperm hpw hbase hoff
    rintro hJz
    refine el_2_2 (hJz) ?_
    clear hJz
    rintro T' t e hT
    rintro F1
    subst e
    have hcc : cc ∈ cs := by
      have : (cc, i) ∈ cs.zipIdx := by rw [hzip]; exact List.mem_append.mpr (.inr (List.mem_cons_self ..))
      exact (List.mem_zipIdx' this).2 ▸ List.getElem_mem _
    obtain ⟨hcn, hok⟩ := hc cc hcc
    have hcm := hbase _ hcn
    have hlen : (l.map (·.1)).length ≤ 63 := by
      have e1 := hperm.length_eq
      have e2 := congrArg List.length hzip
      simp at e1 e2 ⊢
      omega
    have T0 := tones_of hhas hent
    have R0 := front_le hpw
    have hxyz : ∃ x y z, (cc.ad, tri x y z cc.ta cc.tb cc.tc cc.n) ∈ news1 ∧ Hue3 x y z cc.r := ⟨_, _, _, hcm, Col.hue hok⟩
    clear hcm hok
    refine el_3_7 (hxyz) ?_
    clear hxyz
    rintro x y z hcm g1 g2 g3 g4 g5 g6
    refine AllObj.cons fun oE hcE => AllObj.cons fun oI hcI => AllObj.nil fun N1 => ?_
    have N2 : News _ _ _ ((I' + 1, oE) :: (I', oI) :: news1) := N1
    have N3 : ∃ h, News _ _ h news1 := ⟨_, fun p hp => N2 p (List.mem_cons_of_mem _ (List.mem_cons_of_mem _ hp))⟩
    clear N1
    dsimp only at F1 hT ⊢
    have hcm2 := List.mem_cons_of_mem (I' + 1, oE) (List.mem_cons_of_mem (I', oI) hcm)
    clear hcn
    k_steps
    refine ring_turn hzip hrow hhas hent hperm hpw hbase hoff (by assumption) (by assumption) (by assumption) N3 (by assumption) (by assumption) (by assumption) (by assumption) ?_ hm
    intro z' hz'
    have q0 : z' ≠ Str.ofString "place" := by intro e; subst e; exact absurd hz' (by decide)
    have q1 : z' ≠ Str.ofString "colour" := by intro e; subst e; exact absurd hz' (by decide)
    have q2 : z' ≠ Str.ofString "hue" := by intro e; subst e; exact absurd hz' (by decide)
    have q3 : z' ≠ Str.ofString "share" := by intro e; subst e; exact absurd hz' (by decide)
    have q4 : z' ≠ Str.ofString "value" := by intro e; subst e; exact absurd hz' (by decide)
    simp only [kstB, hz', q0, q1, q2, q3, q4, Bool.false_eq_true, if_false]
  case done =>
    rintro c u news1 h tk hJz
    refine el_4_8 (hJz) ?_
    clear hJz
    rintro dn es l n hzip hrow hhas hent hperm hpw hbase hoff
    rintro F1 N1
    rw [List.append_nil] at hzip
    subst hzip
    have hlen : (l.map (·.1)).length ≤ 64 := by
      have e1 := hperm.length_eq
      simp at e1 ⊢
      omega
    have T0 := tones_of hhas hent
    have R0 := front_lt hpw
    have hvl := T0.length
    have hvs : (refs es).length ≤ 64 := by omega
    dsimp only at F1 ⊢
    iterate 19 walk1
    rename Fr _ _ _ _ => lF'
    with_unfolding_all (refine cp_eval lF' (by rfl) (by decide) (by rfl) (by decide) (by rfl) (by rfl) (by decide) (by decide) ?_)
    iterate 18 walk1
    have key : ∀ k : Int, (refs es).drop k.toNat ++ (refs es).take k.toNat = refs (es.drop k.toNat ++ es.take k.toNat) := by intro k; simp [refs]
    rename IsCut _ _ _ => hcut
    rename News _ _ _ _ => lN
    rename Fr _ _ _ _ => lF
    rw [key] at lN
    refine cps_list (by rfl) lF lN (List.mem_cons_self ..) (has_cut hhas fun p hp => List.mem_cons_of_mem _ (List.mem_cons_of_mem _ (List.mem_cons_of_mem _ hp))) (by rw [sizeLine_eq]; simp only [List.length_append, List.length_drop, List.length_take]; simp at hvs; omega) fun I2 g2 lI => ?_
    refine cprest_snd (by rfl) (by rfl) (by decide) _ _ _ (keep_cut hhas fun p hp => List.mem_cons_of_mem _ (List.mem_cons_of_mem _ hp)) ?_
    intro D h'' tk' F'' N'' off''
    dsimp only
    k_steps
    rename News h₀ _ _ _ => kN'
    refine hret _ _ _ _ (by k_asm) (fun p hp => kN' p ?_) ⟨_, _, l, rfl, rfl, hperm, hpw, ints_cut hent hcut⟩
    rcases List.mem_cons.mp hp with rfl | hp
    · exact List.mem_cons_self ..
    · exact List.mem_cons_of_mem _ (List.mem_cons_of_mem _ (List.mem_cons_of_mem _ (List.mem_cons_of_mem _ (hbase p hp))))
end Mine
end
section
open PySem PySem.W PyProof.Rows
set_option Elab.async false
set_option maxRecDepth 100000
set_option maxHeartbeats 4000000
namespace Mine
theorem kx_MDel : True := by
  w_top off
  k_with_none
  trivial
theorem offb {news : Led} {I : Nat} {o : Obj} (h : ∀ p ∈ news, p.1 < I) : ∀ p ∈ news, ∀ q ∈ [((I : Addr), o)], p.1 ≠ q.1 := fun p hp q hq => by
  rw [List.mem_singleton.mp hq]; exact Nat.ne_of_lt (h p hp)
theorem offc {news : Led} {I a : Nat} {o oa : Obj} (h : @LT.lt Nat _ a I) (r : ∀ p ∈ news, ∀ q ∈ [((I : Addr), o)], p.1 ≠ q.1) : ∀ p ∈ (((a : Addr), oa) :: news : Led), ∀ q ∈ [((I : Addr), o)], p.1 ≠ q.1 := fun p hp q hq => by
  rw [List.mem_singleton.mp hq]
  rcases List.mem_cons.mp hp with rfl | hp
  · exact Nat.ne_of_lt h
  · exact r p hp (I, o) (List.mem_singleton.mpr rfl)
theorem lt_head {news : Led} {I a : Nat} {o : Obj} (h : ∀ p ∈ (((a : Addr), o) :: news : Led), p.1 < I) : @LT.lt Nat _ a I ∧ ∀ p ∈ news, p.1 < I := ⟨h _ (List.mem_cons_self ..), fun p hp => h p (List.mem_cons_of_mem _ hp)⟩
theorem del_led {prog : Program} {w : World} {A : Around} {E : Value → Shared → Prop} {s : Shared} {h₀ : Heap} {L D : Addr} {m : Str → Option Value} {rest : Led} {n : Nat} {l : List Value} {x : Int} {u : Tok} {Q : Unit → Shared → Prop} (F : Fr h₀ L s.heap m) (N : News h₀ L s.heap ((D, listOf l.toArray n) :: rest)) (off : ∀ p ∈ rest, p.1 ≠ D) (hx : 0 ≤ x ∧ x < l.length) (hz : l.length ≤ 64)
    (h : ∀ h', Fr h₀ L h' m → News h₀ L h' ((D, listOf (l.eraseIdx x.toNat).toArray (n + 1)) :: rest) → Q () { s with heap := h' }) :
    wpAny (model prog w) A (delItem (.ref D) (.int x u)) Q E s := by
  refine delItem_head F N off ?_ (seqIndex_of hx.1 (by simpa using hx.2)) h (by rw [sizeLine_eq]; simp; omega)
  unfold Builtin.List.listFitsIndex
  simp only [Bool.and_eq_true, decide_eq_true_eq]
  omega
theorem kx_MDel_0 : True := by
  k_with "delItem ref int" => (k_here; k_dflt (refine' del_led ?FZk ?NZk ?offZk ?hxZk ?hzZk ?_; (case FZk => k_asm); (case NZk => k_asm); (case offZk => assumption); (case hxZk => assumption); (case hzZk => assumption)); intro h' F' N')
  trivial
theorem kx_MDel_1 : True := by
  k_with "UnrEndW" => (k_here; k_dflt (refine' unrEnd_plain ?FZk ?NZk ?offZk ?hkZk ?_; (case FZk => k_asm); (case NZk => k_asm); (case offZk => repeat (first | exact offb (by assumption) | refine offc (by assumption) ?_)); (case hkZk => exact ⟨by k_mem, trivial⟩); (try dsimp only)))
  trivial
theorem c_del0 (w : World) {row n : Nat} {x : Int} {tx : Tok} {vs : List Value} {rest : Led} (hx : 0 ≤ x ∧ x < vs.length) (hz : vs.length ≤ 64) (off : ∀ p ∈ rest, p.1 ≠ row) :
    Ctr w 83 [.ref row, .int x tx] [] ((row, listOf vs.toArray n) :: rest) 1 8 (fun v news' => v = .none ∧ news' = (row, listOf (vs.eraseIdx x.toNat).toArray (n + 1)) :: rest) := by
  unfold Ctr
  k_fill
  intro loose mean mg mb dp un gd cn cs aa ccd cl outer A₀ base h₀ L m s Q E B F X N T' hk hdp hun hret
  refine wpAny_call ?_
  k_dflt cell_enter
  k_steps
  exact hret _ _ _ _ (by k_asm) (by k_asm) ⟨rfl, rfl⟩
theorem c_del (w : World) {row n : Nat} {x : Int} {tx : Tok} {vs : List Value} {news : Led} (hm : (row, listOf vs.toArray n) ∈ news) (hx : 0 ≤ x ∧ x < vs.length) (hz : vs.length ≤ 64) :
    Ctr w 83 [.ref row, .int x tx] [] news 1 8 (fun v news' => v = .none ∧ Turned row (listOf (vs.eraseIdx x.toNat).toArray (n + 1)) news news') := by
  intro loose mean mg mb dp un gd cn cs aa ccd cl outer A₀ base h₀ L m s Q E B F X N T' hk hdp hun hret
  refine c_del0 w hx hz lessL_off _ _ _ _ _ _ _ _ _ _ _ _ _ _ _ _ _ _ _ _ _ B F X (news_head N hm) T' hk hdp hun fun v news' h' tk' F' N' P' => ?_
  obtain ⟨e, rfl⟩ := P'
  exact hret v _ h' tk' F' N' ⟨e, turned_head⟩
noncomputable def partL (dr : Int) : List Int := [partR (dr.fmod 16) ((dr.fdiv 16).fmod 2) ((dr.fdiv 32).fmod 2) 0, partR (dr.fmod 16) ((dr.fdiv 16).fmod 2) ((dr.fdiv 32).fmod 2) 16, partR (dr.fmod 16) ((dr.fdiv 16).fmod 2) ((dr.fdiv 32).fmod 2) 32]
theorem news_2nd {h₀ h : Heap} {L : Addr} {a e b : Addr × Obj} {news : Led} (N : News h₀ L h (a :: e :: b :: news)) : News h₀ L h (e :: news) := fun p hp => N p (by
  rcases List.mem_cons.mp hp with rfl | hp
  · exact List.mem_cons_of_mem _ (List.mem_cons_self ..)
  · exact List.mem_cons_of_mem _ (List.mem_cons_of_mem _ (List.mem_cons_of_mem _ hp)))
theorem part_eq {r a b c F : Int} (h : F = min (max (min (Int.natAbs (3 * r - c) : Int) (48 - (Int.natAbs (3 * r - c) : Int)) - 8) 0) 8) : (1 + b) * (16 - (1 + a) * F) = partR r a b c := by
  rw [h]; rfl
end Mine
end
section
open PySem PySem.W PyProof.Rows
set_option Elab.async false
set_option maxRecDepth 100000
set_option maxHeartbeats 8000000
namespace Mine
open PySem.Calls PyProof.Rows.LCg
section
variable {prog : Program} {w : World} {A : Around} {E : Value → Shared → Prop} {s : Shared} {h₀ : Heap} {L : Addr} {m : Str → Option Value} {env : Env}
variable {elt : PySem.Expr} {ifs : List PySem.Expr} {a b : Str} {pa pb tp : Pos} {kk : Nat} {scope : Scope} {cl : List (Str × Addr)} {Fin : Shared → List Value → Led → Prop}
noncomputable abbrev zipPairs (xs ys : List Value) : List ((Tok → Value) × Value) := (xs.zip ys).map fun p => (fun _ => p.1, p.2)
/-- the source is zip of two lists of the ledger -/
theorem cps_zip {l1 l2 n1 n2 : Nat} {xs ys : List Value} {news : Led} (hh : A.handled = none) (F : Fr h₀ L s.heap m) (N : News h₀ L s.heap news) (hm1 : (l1, listOf xs.toArray n1) ∈ news) (hm2 : (l2, listOf ys.toArray n2) ∈ news) (hlen : xs.length = ys.length) (hz : xs.length ≤ sizeLine)
    (R : ∀ (I : Addr) (g : Heap), (∀ p ∈ news, p.1 < I) → CPRest prog w A h₀ L m env elt ifs a b scope cl { s with heap := g } [(I + 4, "zip"), (I + 2, "tuple"), (I + 3, "tuple"), (I, "list_iterator"), (I + 1, "list_iterator")] [(l1, listOf xs.toArray n1), (l2, listOf ys.toArray n2)] (Fin { s with heap := g }) (zipPairs xs ys) [] news) :
    wpAny (model prog w) A (call (.type "zip") [.ref l1, .ref l2]) (fun xv s₁ => wpAny (model prog w) A (pyIter xv) (CPAt prog w A h₀ L m env elt ifs a b pa pb tp kk scope cl Fin) E s₁) E s := by
  have hax1 := N _ hm1
  have hax2 := N _ hm2
  have hl1 : s.heap.IsList l1 xs.toArray := ⟨_, hax1.1, rfl, n1, rfl⟩
  have hl2 : s.heap.IsList l2 ys.toArray := ⟨_, hax2.1, rfl, n2, rfl⟩
  have hlt1 : @LT.lt Nat _ l1 s.heap.objs.size := Heap.lt_size hax1.1
  have hlt2 : @LT.lt Nat _ l2 s.heap.objs.size := Heap.lt_size hax2.1
  have hLs : L < s.heap.objs.size := F.ns.lt
  have D : ZipApart (s.heap.objs.size + 4) (s.heap.objs.size + 2) (s.heap.objs.size + 3) s.heap.objs.size (s.heap.objs.size + 1) l1 l2 := ktu_apart _ _ _ hlt1 hlt2
  refine call_zip_2 hl1 hl2 fun h' hz' hTI hTO hi1 hi2 hsz hk => ?_
  refine wpAny_pyIter_zip hz' ?_
  refine ⟨s.heap.objs.size + 4, _, _, _, _, _, _, [(s.heap.objs.size + 4, "zip"), (s.heap.objs.size + 2, "tuple"), (s.heap.objs.size + 3, "tuple"), (s.heap.objs.size, "list_iterator"), (s.heap.objs.size + 1, "list_iterator")], [(l1, listOf xs.toArray n1), (l2, listOf ys.toArray n2)], news, zipPairs xs ys, rfl, KTurns.ofWalksU (WalksT.zip2 hh _ _ _ _ _ _ _ D xs.toArray ys.toArray).toU, by simp [hlen], by simp; omega, hh, ?_, ?_, ?_, ?_, ?_, ?_, ?_, ?_, F.keeps hk, N.grown hk, ?_, ?_, R _ _ fun p hp => Heap.lt_size (N p hp).1⟩
  · rintro i v h hJz
    refine el_2_3 (hJz) ?_
    clear hJz
    rintro T vals rfl ⟨x, y, hx, hy, rfl⟩ hT
    have hx' : xs[i]? = some x := by simpa using hx
    have hy' : ys[i]? = some y := by simpa using hy
    have hzz : (xs.zip ys)[i]? = some (x, y) := List.getElem?_zip_eq_some.mpr ⟨hx', hy'⟩
    have hmm : (zipPairs xs ys)[i]? = ((xs.zip ys)[i]?).map (fun p => (fun _ => p.1, p.2)) := List.getElem?_map ..
    rw [hzz] at hmm
    exact ⟨(fun _ => x, y), hmm, T, 0, rfl, hT⟩
  · rintro i h hJz
    refine el_0_6 (hJz) ?_
    clear hJz
    rintro hz hTI ⟨a, b, hTO⟩ ⟨o1, ho1, hc1, _⟩ ⟨o2, ho2, hc2, _⟩ _
    have e1 : ∃ o : Obj, h.get? (s.heap.objs.size + 4) = some o ∧ o.cls = .type "zip" := ⟨_, hz, rfl⟩
    have e2 : ∃ o : Obj, h.get? (s.heap.objs.size + 2) = some o ∧ o.cls = .type "tuple" := ⟨_, hTI, rfl⟩
    have e3 : ∃ o : Obj, h.get? (s.heap.objs.size + 3) = some o ∧ o.cls = .type "tuple" := ⟨_, hTO, rfl⟩
    obtain ⟨q1, g1, k1⟩ := e1
    obtain ⟨q2, g2, k2⟩ := e2
    obtain ⟨q3, g3, k3⟩ := e3
    refine ⟨[(s.heap.objs.size + 4, q1), (s.heap.objs.size + 2, q2), (s.heap.objs.size + 3, q3), (s.heap.objs.size, o1), (s.heap.objs.size + 1, o2)], ⟨⟨rfl, k1⟩, ⟨rfl, k2⟩, ⟨rfl, k3⟩, ⟨rfl, hc1⟩, ⟨rfl, hc2⟩, trivial⟩, fun p hp => ?_⟩
    simp only [List.mem_cons, List.not_mem_nil, or_false] at hp
    rcases hp with rfl | rfl | rfl | rfl | rfl <;> assumption
  · intro c hc
    have hc' : c = s.heap.objs.size + 4 ∨ c = s.heap.objs.size + 2 ∨ c = s.heap.objs.size + 3 ∨ c = s.heap.objs.size ∨ c = s.heap.objs.size + 1 := by simpa using hc
    rcases hc' with rfl | rfl | rfl | rfl | rfl
    · exact ⟨by simp, ktu_new F (Nat.le_add_right _ _), (ktu_ne 4 hLs).symm⟩
    · exact ⟨by simp, ktu_new F (Nat.le_add_right _ _), (ktu_ne 2 hLs).symm⟩
    · exact ⟨by simp, ktu_new F (Nat.le_add_right _ _), (ktu_ne 3 hLs).symm⟩
    · exact ⟨by simp, ktu_new F (Nat.le_refl _), (Nat.ne_of_lt hLs).symm⟩
    · exact ⟨by simp, ktu_new F (Nat.le_add_right _ _), (ktu_ne 1 hLs).symm⟩
  · intro c hc
    have hb' : c = s.heap.objs.size + 4 ∨ c = s.heap.objs.size + 3 ∨ c = s.heap.objs.size ∨ c = s.heap.objs.size + 1 := by simpa using hc
    rcases hb' with rfl | rfl | rfl | rfl <;> simp
  · intro c hc
    have hb' : c = s.heap.objs.size + 4 ∨ c = s.heap.objs.size + 2 ∨ c = s.heap.objs.size + 3 ∨ c = s.heap.objs.size ∨ c = s.heap.objs.size + 1 ∨ c = l1 ∨ c = l2 := by simpa using hc
    rcases hb' with rfl | rfl | rfl | rfl | rfl | rfl | rfl
    · exact .inl (by simp)
    · exact .inl (by simp)
    · exact .inl (by simp)
    · exact .inl (by simp)
    · exact .inl (by simp)
    · exact .inr ⟨_, List.mem_cons_self ..⟩
    · exact .inr ⟨_, List.mem_cons_of_mem _ (List.mem_cons_self ..)⟩
  · intro c hc
    have hb' : c = s.heap.objs.size + 4 ∨ c = s.heap.objs.size + 2 ∨ c = s.heap.objs.size + 3 ∨ c = s.heap.objs.size ∨ c = s.heap.objs.size + 1 ∨ c = l1 ∨ c = l2 := by simpa using hc
    show @LT.lt Nat _ c h'.objs.size
    have hsz' : h'.objs.size = s.heap.objs.size + 5 := hsz
    rw [hsz']
    rcases hb' with rfl | rfl | rfl | rfl | rfl | rfl | rfl <;> omega
  · rintro s' Q' E' ⟨hz, _⟩ q
    exact wpAny_pyIter_zip hz q
  · exact ⟨hz', hTI, ⟨_, _, hTO⟩, hi1, hi2, hl1.at fun o e => hk l1 o e, hl2.at fun o e => hk l2 o e⟩
  · intro p hp hI'
    have hb' : p.1 = s.heap.objs.size + 4 ∨ p.1 = s.heap.objs.size + 2 ∨ p.1 = s.heap.objs.size + 3 ∨ p.1 = s.heap.objs.size ∨ p.1 = s.heap.objs.size + 1 := by simpa using hI'
    have hlp := Heap.lt_size (N p hp).1
    rcases hb' with e | e | e | e | e
    · exact ktu_ne 4 hlp e
    · exact ktu_ne 2 hlp e
    · exact ktu_ne 3 hlp e
    · exact Nat.ne_of_lt hlp e
    · exact ktu_ne 1 hlp e
  · intro p hp
    rcases List.mem_cons.mp hp with rfl | hp
    · exact hm1
    · rw [List.mem_singleton.mp hp]; exact hm2
end
end Mine
end
section
open PySem PySem.W PyProof.Rows
set_option Elab.async false
set_option maxRecDepth 100000
set_option maxHeartbeats 400000
namespace Mine
section
variable {prog : Program} {w : World} {A : Around} {E : Value → Shared → Prop} {s : Shared} {h₀ : Heap} {L D : Addr} {m : Str → Option Value} {news : Led} {n : Nat} {l : List Value}
theorem append_led {y : Value} {Q : Value → Shared → Prop} (F : Fr h₀ L s.heap m) (N : News h₀ L s.heap news) (hm : (D, listOf l.toArray n) ∈ news) (hz : l.length ≤ 64)
    (h : ∀ h' news', Fr h₀ L h' m → News h₀ L h' news' → Turned D (listOf (l ++ [y]).toArray (n + 1)) news news' → Q .none { s with heap := h' }) :
    wpAny (model prog w) A (call (.builtin "list.append") [.ref D, y]) Q E s := by
  have z := N _ hm
  refine append_at z.1 (fun h' hs hD => h h' _ (F.change hs z.2.1 z.2.2) (fun p hp => ?_) turned_head) (by rw [sizeLine_eq, List.size_toArray]; omega)
  rcases List.mem_cons.mp hp with rfl | hp
  · refine ⟨?_, z.2⟩
    rw [hD]; simp
  · have q := N p (List.mem_filter.mp hp).1
    exact ⟨hs.extBut _ _ (lessL_off p hp) q.1, q.2⟩
theorem append_meth {pl : Sem Bool} {Q : Value × List Value → Shared → Prop} (N : News h₀ L s.heap news) (hm : (D, listOf l.toArray n) ∈ news) (h : Q (.builtin "list.append", [.ref D]) s) : wpAny (model prog w) A (getMethod (.ref D) "append" pl) Q E s :=
  kf_method N hm PySem.F.slot_list_append PySem.F.type_list_append h
end
theorem keep2 {a b : Addr × Obj} {news : Led} (ha : a ∈ news) (hb : b ∈ news) : ∀ p ∈ [a, b], p ∈ news := fun p hp => by
  rcases List.mem_cons.mp hp with rfl | hp
  · exact ha
  · rw [List.mem_singleton.mp hp]; exact hb
end Mine
end
section
open PySem PySem.W PyProof.Rows PyProof.Rows.LCg
set_option Elab.async false
set_option maxRecDepth 100000
set_option maxHeartbeats 4000000
namespace Mine
theorem kx_MTab : True := by
  w_top off
  k_with_none
  trivial
/-- a light's parts in the ledger -/
structure Prt where
  ad : Addr
  x : Int
  y : Int
  z : Int
  tx : Tok
  ty : Tok
  tz : Tok
  n : Nat
noncomputable abbrev Prt.obj (p : Prt) : Obj := listOf [.int p.x p.tx, .int p.y p.ty, .int p.z p.tz].toArray p.n
noncomputable def Prt.far (p q : Prt) : Int := farI p.x p.y p.z q.x q.y q.z
noncomputable abbrev prefs (ps : List Prt) : List Value := ps.map fun p => Value.ref p.ad
theorem zip_prts (ps : List Prt) : enumItems 0 (prefs ps) = ps.zipIdx.map fun p : Prt × Nat => Itm.pair (fun t => .int (p.2 : Int) t) (.ref p.1.ad) := by
  rw [enumItems_map, List.zipIdx_map, List.map_map]
  rfl
/-- the values are lists of ints that lie behind lo -/
noncomputable def RowsAre (lo : Nat) (news : Led) : List Value → List (List Int) → Prop
  | [], [] => True
  | v :: vs, r :: rs => (∃ (a : Nat) (xs : List Value) (n : Nat), v = .ref a ∧ lo < a ∧ (a, listOf xs.toArray n) ∈ news ∧ IntsAre xs r) ∧ RowsAre lo news vs rs
  | _, _ => False
noncomputable def cellF (p q : Prt × Nat) : Int := if (p.2 : Int) < (q.2 : Int) then p.1.far q.1 else - p.1.far q.1
noncomputable def rowF (ps : List Prt) (p : Prt × Nat) : List Int := ps.zipIdx.map (cellF p)
noncomputable def tabF (ps : List Prt) : List (List Int) := ps.zipIdx.map (rowF ps)
noncomputable def TabJ (ps : List Prt) (tb I : Nat) (base : Led) (_ : Unit) (rem : List (Prt × Nat)) (news : Led) : Prop :=
  ∃ (dn : List (Prt × Nat)) (vs : List Value) (n : Nat), ps.zipIdx = dn ++ rem ∧ (tb, listOf vs.toArray n) ∈ news ∧ vs.length = dn.length ∧ RowsAre tb news vs (dn.map (rowF ps)) ∧ (∀ p ∈ base, p ∈ news) ∧ (∀ p ∈ news, p.1 ≠ I ∧ p.1 ≠ I + 1)
noncomputable def LineJ (ps : List Prt) (p : Prt × Nat) (ln I : Nat) (base : Led) (_ : Unit) (rem : List (Prt × Nat)) (news : Led) : Prop :=
  ∃ (dn : List (Prt × Nat)) (ys : List Value) (n : Nat), ps.zipIdx = dn ++ rem ∧ (ln, listOf ys.toArray n) ∈ news ∧ IntsAre ys (dn.map (cellF p)) ∧ (∀ p ∈ base, p ∈ news) ∧ (∀ p ∈ news, p.1 ≠ I ∧ p.1 ≠ I + 1)
theorem tab_start {ps : List Prt} {tb I n : Nat} {base : Led} {m : Str → Option Value} (l1 : ∀ p ∈ ((tb, listOf ([] : List Value).toArray n) :: base : Led), p.1 < I) : RInd (fun _ : Unit => []) [Str.ofString "here", Str.ofString "one", Str.ofString "line", Str.ofString "there", Str.ofString "other", Str.ofString "far"] m (TabJ ps tb I base) ps.zipIdx m ((tb, listOf ([] : List Value).toArray n) :: base) :=
  ⟨(), (fun p hp => nomatch hp), (fun _ _ _ => rfl), [], [], n, rfl, List.mem_cons_self .., rfl, trivial, (fun p hp => List.mem_cons_of_mem _ hp), fun p hp => ⟨Nat.ne_of_lt (l1 p hp), Nat.ne_of_lt (Nat.lt_succ_of_lt (l1 p hp))⟩⟩
theorem line_start {ps : List Prt} {p : Prt × Nat} {ln I n : Nat} {base : Led} {m : Str → Option Value} (l1 : ∀ p ∈ ((ln, listOf ([] : List Value).toArray n) :: base : Led), p.1 < I) : RInd (fun _ : Unit => []) [Str.ofString "there", Str.ofString "other", Str.ofString "far"] m (LineJ ps p ln I base) ps.zipIdx m ((ln, listOf ([] : List Value).toArray n) :: base) :=
  ⟨(), (fun p hp => nomatch hp), (fun _ _ _ => rfl), [], [], n, rfl, List.mem_cons_self .., .nil, (fun p hp => List.mem_cons_of_mem _ hp), fun p hp => ⟨Nat.ne_of_lt (l1 p hp), Nat.ne_of_lt (Nat.lt_succ_of_lt (l1 p hp))⟩⟩
theorem ints_snoc {x : Int} {tx : Tok} : ∀ {vs : List Value} {ns : List Int}, IntsAre vs ns → IntsAre (vs ++ [.int x tx]) (ns ++ [x])
  | _, _, .nil => .cons x tx .nil
  | _, _, .cons n t h => .cons n t (ints_snoc h)
theorem RowsAre.imp {lo : Nat} {news news' : Led} (hs : ∀ (a : Nat) (xs : List Value) (n : Nat), lo < a → (a, listOf xs.toArray n) ∈ news → (a, listOf xs.toArray n) ∈ news') : ∀ {vs : List Value} {rs : List (List Int)}, RowsAre lo news vs rs → RowsAre lo news' vs rs
  | [], [], _ => trivial
  | _ :: _, _ :: _, h => by
    obtain ⟨⟨a, xs, n, e, l, hm, hi⟩, h⟩ := h
    exact ⟨⟨a, xs, n, e, l, hs a xs n l hm, hi⟩, RowsAre.imp hs h⟩
theorem RowsAre.snoc {lo : Nat} {news : Led} {a n : Nat} {xs : List Value} {r : List Int} (l : lo < a) (hm : (a, listOf xs.toArray n) ∈ news) (hi : IntsAre xs r) : ∀ {vs : List Value} {rs : List (List Int)}, RowsAre lo news vs rs → RowsAre lo news (vs ++ [.ref a]) (rs ++ [r])
  | [], [], _ => ⟨⟨a, xs, n, rfl, l, hm, hi⟩, trivial⟩
  | _ :: _, _ :: _, h => ⟨h.1, RowsAre.snoc l hm hi h.2⟩
theorem subL_of {new : Led} : ∀ {keep : Led}, (∀ p ∈ keep, p ∈ new) → SubL keep new
  | [], _ => trivial
  | _ :: _, h => ⟨h _ (List.mem_cons_self ..), subL_of fun p hp => h p (List.mem_cons_of_mem _ hp)⟩
/-- a turn that writes one object of the ledger alone, and makes those of more -/
theorem turn_end {g h' : Heap} {L D : Addr} {s₁ : Shared} {its news1 led news' keep more : Led} {R : (Str → Option Value) → Led → Prop} {tk : Nat} {m' : Str → Option Value} {o : Obj} (F' : Fr g L h' m') (N' : News g L h' news')
    (P : Turned D o led news') (sub : ∀ p ∈ its ++ news1, p ∈ led) (hmore : ∀ p ∈ more, p ∈ led ∧ p.1 ≠ D ∧ ∀ q ∈ its, p.1 ≠ q.1) (hoff : ∀ p ∈ news1, ∀ q ∈ its, p.1 ≠ q.1) (hD : ∀ q ∈ its, D ≠ q.1) (hk : SubL keep (lessL D news1)) (r : R m' ((D, o) :: (more ++ lessL D news1))) :
    UnrEndW g L s₁ its (fun m' n' => SubL keep n' ∧ R m' n') { s₁ with heap := h', toks := tk } := by
  refine unrEnd_plain (news := (D, o) :: (more ++ lessL D news1)) F' (fun p hp => N' p ?_) (fun p hp q hq => ?_) ?_ r
  · rcases List.mem_append.mp hp with hp | hp
    · exact P.2 _ (sub _ (List.mem_append.mpr (.inl hp))) (Ne.symm (hD p hp))
    · rcases List.mem_cons.mp hp with rfl | hp
      · exact P.1
      · rcases List.mem_append.mp hp with hp | hp
        · exact P.2 _ (hmore p hp).1 (hmore p hp).2.1
        · exact P.2 _ (sub _ (List.mem_append.mpr (.inr (List.mem_filter.mp hp).1))) (lessL_off p hp)
  · rcases List.mem_cons.mp hp with rfl | hp
    · exact hD q hq
    · rcases List.mem_append.mp hp with hp | hp
      · exact (hmore p hp).2.2 q hq
      · exact hoff p (List.mem_filter.mp hp).1 q hq
  · exact subL_of fun p hp => List.mem_cons_of_mem _ (List.mem_append.mpr (.inr (hk.mem p hp)))
theorem its2 {I : Nat} {o1 o2 : Obj} {a : Nat} (h : a ≠ I ∧ a ≠ I + 1) : ∀ q ∈ ([(I + 1, o1), (I, o2)] : Led), a ≠ q.1 := fun q hq => by
  rcases List.mem_cons.mp hq with rfl | hq
  · exact h.2
  · rw [List.mem_singleton.mp hq]; exact h.1
theorem nil_all {P : Addr × Obj → Prop} : ∀ p ∈ ([] : Led), P p := fun _ hp => nomatch hp
theorem ln_off {I ln : Nat} {oE oI : Obj} {news : Led} (h : I + 1 < ln ∧ I < ln ∧ AllLt ln news) : ∀ p ∈ ((I + 1, oE) :: (I, oI) :: news : Led), p.1 ≠ ln := fun p hp => by
  rcases List.mem_cons.mp hp with rfl | hp
  · exact Nat.ne_of_lt h.1
  · rcases List.mem_cons.mp hp with rfl | hp
    · exact Nat.ne_of_lt h.2.1
    · exact Nat.ne_of_lt (allLt_all h.2.2 p hp)
theorem cell_lt {p q : Prt} {i j : Nat} (h : (i : Int) < j) : (if p.x - q.x < 0 then -(p.x - q.x) else p.x - q.x) + ((if p.y - q.y < 0 then -(p.y - q.y) else p.y - q.y) + ((if p.z - q.z < 0 then -(p.z - q.z) else p.z - q.z) + 0)) = cellF (p, i) (q, j) := by
  unfold cellF Prt.far farI
  rw [if_pos h]
  dsimp only
  omega
theorem cell_ge {p q : Prt} {i j : Nat} (h : ¬ (i : Int) < j) : -((if p.x - q.x < 0 then -(p.x - q.x) else p.x - q.x) + ((if p.y - q.y < 0 then -(p.y - q.y) else p.y - q.y) + ((if p.z - q.z < 0 then -(p.z - q.z) else p.z - q.z) + 0))) = cellF (p, i) (q, j) := by
  unfold cellF Prt.far farI
  rw [if_neg h]
  dsimp only
  omega
theorem line_turn {ps : List Prt} {p q : Prt} {i j ln I n : Nat} {base news1 news' led : Led} {dn r : List (Prt × Nat)} {ys : List Value} {g h' : Heap} {L : Addr} {m' m₀ : Str → Option Value} {s₁ : Shared} {tk : Nat} {oE oI : Obj} {x : Int} {tx : Tok} {stored : List Str} {ca : Addr} {co : Obj}
    (hzip : ps.zipIdx = dn ++ (q, j) :: r) (hln : (ln, listOf ys.toArray n) ∈ news1) (hys : IntsAre ys (dn.map (cellF (p, i)))) (hbase : ∀ p ∈ base, p ∈ news1) (hoff : ∀ p ∈ news1, p.1 ≠ I ∧ p.1 ≠ I + 1)
    (l0 : ∀ p ∈ base, p.1 ≠ ln) (F' : Fr g L h' m') (N' : News g L h' news') (P : Turned ln (listOf (ys ++ [Value.int x tx]).toArray (n + 1)) led news') (sub : ∀ p ∈ (I + 1, oE) :: (I, oI) :: news1, p ∈ led)
    (ex : x = cellF (p, i) (q, j)) (hr : ∀ z, stored.contains z = false → m' z = m₀ z) (hk : (ca, co) ∈ base) :
    UnrEndW g L s₁ [(I + 1, oE), (I, oI)] (fun m' n' => SubL [(ca, co)] n' ∧ RInd (fun _ : Unit => []) stored m₀ (LineJ ps (p, i) ln I base) r m' n') { s₁ with heap := h', toks := tk } := by
  subst ex
  have hl := hoff _ hln
  refine turn_end (more := []) F' N' P sub nil_all (fun p hp => its2 (hoff p hp)) (its2 hl) ⟨mem_lessL (hbase _ hk) (l0 _ hk), trivial⟩ ⟨(), fun p hp => (nomatch hp), fun z _ h => hr z h, dn ++ [(q, j)], ys ++ [.int (cellF (p, i) (q, j)) tx], n + 1, by rw [hzip]; simp, List.mem_cons_self .., ?_, ?_, ?_⟩
  · rw [List.map_append]
    exact ints_snoc hys
  · exact fun p hp => List.mem_cons_of_mem _ (mem_lessL (hbase p hp) (l0 p hp))
  · intro p hp
    rcases List.mem_cons.mp hp with rfl | hp
    · exact hl
    · exact hoff p (List.mem_filter.mp hp).1
theorem tab_turn {ps : List Prt} {p : Prt} {i tb ln I n nl : Nat} {base news1 news' led : Led} {dn r : List (Prt × Nat)} {vs ys : List Value} {g h' : Heap} {L : Addr} {m' m₀ : Str → Option Value} {s₁ : Shared} {tk : Nat} {oE oI : Obj} {stored : List Str} {ca : Addr} {co : Obj}
    (hzip : ps.zipIdx = dn ++ (p, i) :: r) (htb : (tb, listOf vs.toArray n) ∈ news1) (hvl : vs.length = dn.length) (hrows : RowsAre tb news1 vs (dn.map (rowF ps))) (hys : IntsAre ys (rowF ps (p, i))) (hbase : ∀ p ∈ base, p ∈ news1) (hoff : ∀ p ∈ news1, p.1 ≠ I ∧ p.1 ≠ I + 1)
    (l0 : ∀ p ∈ base, p.1 < tb) (l1 : I + 1 < ln ∧ I < ln ∧ AllLt ln news1) (F' : Fr g L h' m') (N' : News g L h' news') (P : Turned tb (listOf (vs ++ [Value.ref ln]).toArray (n + 1)) led news') (sub : ∀ p ∈ (I + 1, oE) :: (I, oI) :: news1, p ∈ led) (hln : (ln, listOf ys.toArray nl) ∈ led)
    (hr : ∀ z, stored.contains z = false → m' z = m₀ z) (hk : (ca, co) ∈ base) :
    UnrEndW g L s₁ [(I + 1, oE), (I, oI)] (fun m' n' => SubL [(ca, co)] n' ∧ RInd (fun _ : Unit => []) stored m₀ (TabJ ps tb I base) r m' n') { s₁ with heap := h', toks := tk } := by
  have hl := hoff _ htb
  have htl : @LT.lt Nat _ tb ln := allLt_all l1.2.2 _ htb
  have hnl : ln ≠ I ∧ ln ≠ I + 1 := ⟨Ne.symm (Nat.ne_of_lt l1.2.1), Ne.symm (Nat.ne_of_lt l1.1)⟩
  have ml : ∀ p ∈ base, p ∈ lessL tb news1 := fun p hp => mem_lessL (hbase p hp) (Nat.ne_of_lt (l0 p hp))
  refine turn_end (more := [(ln, listOf ys.toArray nl)]) F' N' P sub (fun p hp => by rw [List.mem_singleton.mp hp]; exact ⟨hln, Ne.symm (Nat.ne_of_lt htl), its2 hnl⟩) (fun p hp => its2 (hoff p hp)) (its2 hl) ⟨ml _ hk, trivial⟩ ⟨(), fun p hp => (nomatch hp), fun z _ h => hr z h, dn ++ [(p, i)], vs ++ [.ref ln], n + 1, by rw [hzip]; simp, List.mem_cons_self .., by simp [hvl], ?_, ?_, ?_⟩
  · rw [List.map_append]
    refine RowsAre.snoc htl (List.mem_cons_of_mem _ (List.mem_cons_self ..)) hys (hrows.imp fun a xs n' l hm => List.mem_cons_of_mem _ (List.mem_cons_of_mem _ (mem_lessL hm (Ne.symm (Nat.ne_of_lt l)))))
  · exact fun p hp => List.mem_cons_of_mem _ (List.mem_cons_of_mem _ (ml p hp))
  · intro p hp
    rcases List.mem_cons.mp hp with rfl | hp
    · exact hl
    · rcases List.mem_cons.mp hp with rfl | hp
      · exact hnl
      · exact hoff p (List.mem_filter.mp hp).1
theorem kx_MTab_0 : True := by
  k_with "getMethod ref" => (k_here; (with_reducible show wpAny _ _ (getMethod (Value.ref _) (PySem.Str.ofString "append") _) _ _ _); k_dflt (refine' append_meth ?NZk ?mZk ?_; (case NZk => k_asm); (case mZk => repeat (first | assumption | exact List.mem_cons_self .. | refine List.mem_cons_of_mem _ ?_))))
  trivial
theorem kx_MTab_1 : True := by
  k_with "call builtin:list.append" => (k_here; k_dflt (refine' append_led ?FZk ?NZk ?hmZk ?hzZk ?_; (case FZk => k_asm); (case NZk => k_asm); (case hmZk => repeat (first | assumption | exact List.mem_cons_self .. | refine List.mem_cons_of_mem _ ?_)); (case hzZk => assumption)); intro h' news' F' N' P'; (try dsimp only))
  trivial
theorem c_table (w : World) {pa np : Nat} {ps : List Prt} {news : Led} (hm : (pa, listOf (prefs ps).toArray np) ∈ news) (hp : ∀ p ∈ ps, (p.ad, p.obj) ∈ news) (hz : ps.length ≤ 63) :
    Ctr w 133 [.ref pa] [] news 4 64 (fun v news' => ∃ (q : Nat) (vs : List Value) (n lo : Nat), v = .ref q ∧ (q, listOf vs.toArray n) ∈ news' ∧ RowsAre lo news' vs (tabF ps) ∧ (∀ p ∈ news, p ∈ news')) := by
  unfold Ctr
  k_fill
  intro loose mean mg mb dp un gd cn css aa ccd cl outer A₀ base h₀ L m s Q E B F X N T hk hdp hun hret
  refine wpAny_call ?_
  k_dflt cell_enter
  iterate 9 walk1
  rename Fr _ _ _ _ => lF'
  with_unfolding_all (refine' For_turns lF' ?_)
  iterate 6 walk1
  with_unfolding_all (refine ktu_enum (by rfl) lF' (by assumption) (List.mem_cons_of_mem _ hm) rfl rfl (zip_prts ps) ?_)
  clear lF'
  intro I' l1'
  with_unfolding_all (refine rest_ind _ (fun _ => []) [Str.ofString "here", Str.ofString "one", Str.ofString "line", Str.ofString "there", Str.ofString "other", Str.ofString "far"] _ (TabJ ps _ I' news) ?turn ?done _ _ _ (tab_start l1'))
  case turn =>
    rintro c ⟨p, i⟩ r u news1 v h tk hJz
    refine el_3_6 (hJz) ?_
    clear hJz
    rintro dn vs n hzip htb hvl hrows hbase hoff
    rintro hJz
    refine el_2_2 (hJz) ?_
    clear hJz
    rintro T' t e hT
    rintro F1
    subst e
    have hpp : p ∈ ps := by
      have : (p, i) ∈ ps.zipIdx := by rw [hzip]; exact List.mem_append.mpr (.inr (List.mem_cons_self ..))
      exact (List.mem_zipIdx' this).2 ▸ List.getElem_mem _
    have hpm := hbase _ (hp p hpp)
    refine AllObj.cons fun oE hcE => AllObj.cons fun oI hcI => AllObj.nil fun N1 => ?_
    have N2 : News _ _ _ ((I' + 1, oE) :: (I', oI) :: news1) := N1
    clear N1
    dsimp only at F1 hT ⊢
    iterate 17 walk1
    rename Fr _ _ _ _ => lF'
    with_unfolding_all (refine' For_turns lF' ?_)
    iterate 6 walk1
    with_unfolding_all (refine ktu_enum (by rfl) lF' (by assumption) (List.mem_cons_of_mem _ (List.mem_cons_of_mem _ (List.mem_cons_of_mem _ (hbase _ hm)))) rfl rfl (zip_prts ps) ?_)
    clear lF'
    intro I2 l2'
    with_unfolding_all (refine rest_ind _ (fun _ => []) [Str.ofString "there", Str.ofString "other", Str.ofString "far"] _ (LineJ ps (p, i) _ I2 _) ?turn2 ?done2 _ _ _ (line_start l2'))
    case turn2 =>
      rintro c ⟨q, j⟩ r2 u2 news2 v2 h2 tk2 hJz
      refine el_3_5 (hJz) ?_
      clear hJz
      rintro dn2 ys n2 hzip2 hln hys hbase2 hoff2
      rintro hJz
      refine el_2_2 (hJz) ?_
      clear hJz
      rintro T2 t2 e2 hT2
      rintro F2
      subst e2
      have hqq : q ∈ ps := by
        have : (q, j) ∈ ps.zipIdx := by rw [hzip2]; exact List.mem_append.mpr (.inr (List.mem_cons_self ..))
        exact (List.mem_zipIdx' this).2 ▸ List.getElem_mem _
      have hpm2 := hbase2 _ (List.mem_cons_of_mem _ (List.mem_cons_of_mem _ (hbase _ (hp p hpp))))
      have hyz : ys.length ≤ 64 := by
        have e1 := hys.length
        have e2 := congrArg List.length hzip2
        simp at e1 e2
        omega
      have hqm2 := hbase2 _ (List.mem_cons_of_mem _ (List.mem_cons_of_mem _ (hbase _ (hp q hqq))))
      refine AllObj.cons fun oE2 hcE2 => AllObj.cons fun oI2 hcI2 => AllObj.nil fun N1 => ?_
      have N3 : News _ _ _ ((I2 + 1, oE2) :: (I2, oI2) :: news2) := N1
      clear N1
      dsimp only at F2 hT2 ⊢
      iterate 15 walk1
      rename Fr _ _ _ _ => lF'
      with_unfolding_all (refine cp_eval lF' (by rfl) (by decide) (by rfl) (by decide) (by rfl) (by rfl) (by decide) (by decide) ?_)
      iterate 8 walk1
      with_unfolding_all (refine cps_zip (by rfl) (by assumption) (by assumption) (List.mem_cons_of_mem _ (List.mem_cons_of_mem _ hpm2)) (List.mem_cons_of_mem _ (List.mem_cons_of_mem _ hqm2)) rfl (by rw [sizeLine_eq]; exact Nat.le_of_ble_eq_true rfl) fun I3 g3 l3 => ?_)
      intro t' its' oC' C' D' m' h' tk' E' hits' hoC' ha' hb' F' N' off' lt1' lt2'
      dsimp only at ha' hb'
      dsimp only [CPTurn]
      iterate 10 walk1
      refine ⟨_, _, _, rfl, by k_asm, N', off', keep2 (by (repeat (first | assumption | refine List.mem_cons_of_mem _ ?_))) (by (repeat (first | assumption | refine List.mem_cons_of_mem _ ?_))), ?_⟩
      clear off' lt1' lt2' ha' hb' hoC' hits' N' F'
      intro t' its' oC' C' D' m' h' tk' E' hits' hoC' ha' hb' F' N' off' lt1' lt2'
      dsimp only at ha' hb'
      dsimp only [CPTurn]
      iterate 10 walk1
      refine ⟨_, _, _, rfl, by k_asm, N', off', keep2 (by (repeat (first | assumption | refine List.mem_cons_of_mem _ ?_))) (by (repeat (first | assumption | refine List.mem_cons_of_mem _ ?_))), ?_⟩
      clear off' lt1' lt2' ha' hb' hoC' hits' N' F'
      intro t' its' oC' C' D' m' h' tk' E' hits' hoC' ha' hb' F' N' off' lt1' lt2'
      dsimp only at ha' hb'
      dsimp only [CPTurn]
      iterate 10 walk1
      refine ⟨_, _, _, rfl, by k_asm, N', off', keep2 (by (repeat (first | assumption | refine List.mem_cons_of_mem _ ?_))) (by (repeat (first | assumption | refine List.mem_cons_of_mem _ ?_))), ?_⟩
      clear off' lt1' lt2' ha' hb' hoC' hits' N' F'
      intro D h'' tk' F'' N'' off''
      dsimp only
      k_steps
      all_goals
        rename Turned _ _ _ _ => P9
        rename News _ _ _ _ => N9
        rename Fr _ _ _ _ => F9
        refine line_turn hzip2 hln hys hbase2 hoff2 (ln_off ‹_ ∧ _ ∧ AllLt _ news1›) F9 N9 P9 (fun _ h => List.mem_cons_of_mem _ h) (by first | exact cell_lt (by assumption) | exact cell_ge (by assumption)) ?_ (List.mem_cons_of_mem _ (List.mem_cons_of_mem _ (hbase _ hm)))
        intro z' hz'
        have q0 : z' ≠ Str.ofString "there" := by intro e; subst e; exact absurd hz' (by decide)
        have q1 : z' ≠ Str.ofString "other" := by intro e; subst e; exact absurd hz' (by decide)
        have q2 : z' ≠ Str.ofString "far" := by intro e; subst e; exact absurd hz' (by decide)
        simp only [kstB, hz', q0, q1, q2, Bool.false_eq_true, if_false]
    case done2 =>
      rintro c u2 news2 h2 tk2 hJz
      refine el_3_5 (hJz) ?_
      clear hJz
      rintro dn2 ys n2 hzip2 hln hys hbase2 hoff2
      rintro F2 N2
      rw [List.append_nil] at hzip2
      subst hzip2
      have htb2 := hbase2 _ (List.mem_cons_of_mem _ (List.mem_cons_of_mem _ htb))
      have hvz : vs.length ≤ 64 := by
        have e2 := congrArg List.length hzip
        simp at e2
        omega
      dsimp only at F2 ⊢
      k_steps
      rename Turned _ _ _ _ => P9
      rename News _ _ _ _ => N9
      rename Fr _ _ _ _ => F9
      refine tab_turn hzip htb hvl hrows hys hbase hoff (by assumption) (by assumption) F9 N9 P9 hbase2 hln ?_ hm
      intro z' hz'
      have q0 : z' ≠ Str.ofString "there" := by intro e; subst e; exact absurd hz' (by decide)
      have q1 : z' ≠ Str.ofString "other" := by intro e; subst e; exact absurd hz' (by decide)
      have q2 : z' ≠ Str.ofString "far" := by intro e; subst e; exact absurd hz' (by decide)
      have q3 : z' ≠ Str.ofString "here" := by intro e; subst e; exact absurd hz' (by decide)
      have q4 : z' ≠ Str.ofString "one" := by intro e; subst e; exact absurd hz' (by decide)
      have q5 : z' ≠ Str.ofString "line" := by intro e; subst e; exact absurd hz' (by decide)
      have q6 : [Str.ofString "there", Str.ofString "other", Str.ofString "far"].contains z' = false := by simp [q0, q1, q2]
      simp only [kstB, hz', q0, q1, q2, q3, q4, q5, q6, Bool.false_eq_true, if_false]
  case done =>
    rintro c u news1 h tk hJz
    refine el_3_6 (hJz) ?_
    clear hJz
    rintro dn vs n hzip htb hvl hrows hbase hoff
    rintro F1 N1
    rw [List.append_nil] at hzip
    subst hzip
    dsimp only at F1 ⊢
    k_steps
    exact hret _ news1 _ _ (by k_asm) (by k_asm) ⟨_, _, _, _, rfl, htb, hrows, hbase⟩
end Mine
end
section
open PySem PySem.W PyProof.Rows PyProof.V
set_option Elab.async false
set_option maxRecDepth 100000
set_option maxHeartbeats 8000000
namespace Mine
theorem kx_MParts : True := by
  w_top off
  k_with_none
  trivial
noncomputable def Part3J (cs : List (Int × Tok)) (f : Int → Int) (q I : Nat) (base : Led) (_ : Unit) (rem : List (Int × Tok)) (news : Led) : Prop :=
  ∃ (dn : List (Int × Tok)) (ys : List Value) (n : Nat), cs = dn ++ rem ∧ (q, listOf ys.toArray n) ∈ news ∧ IntsAre ys (dn.map fun p => f p.1) ∧ (∀ p ∈ base, p ∈ news) ∧ (∀ p ∈ news, p.1 ≠ I)
theorem part3_start {cs : List (Int × Tok)} {f : Int → Int} {q I n : Nat} {T0 T1 : Addr × Obj} {news : Led} {m : Str → Option Value} {stored : List Str} (l1 : ∀ p ∈ (T1 :: (q, listOf ([] : List Value).toArray n) :: T0 :: news : Led), p.1 < I) :
    RInd (fun _ : Unit => []) stored m (Part3J cs f q I (T1 :: T0 :: news)) cs m (T1 :: (q, listOf ([] : List Value).toArray n) :: T0 :: news) :=
  ⟨(), (fun p hp => nomatch hp), (fun _ _ _ => rfl), [], [], n, rfl, List.mem_cons_of_mem _ (List.mem_cons_self ..), .nil, (fun p hp => by
    rcases List.mem_cons.mp hp with rfl | hp
    · exact List.mem_cons_self ..
    · exact List.mem_cons_of_mem _ (List.mem_cons_of_mem _ hp)), fun p hp => Nat.ne_of_lt (l1 p hp)⟩
theorem part3_its {I : Nat} {o : Obj} {a : Nat} (h : a ≠ I) : ∀ q ∈ ([(I, o)] : Led), a ≠ q.1 := fun q hq => by
  rw [List.mem_singleton.mp hq]; exact h
theorem part3_turn {cs dn r : List (Int × Tok)} {k : Int} {tk0 : Tok} {f : Int → Int} {q I n : Nat} {base news1 news' led : Led} {ys : List Value} {g h' : Heap} {L : Addr} {m' m₀ : Str → Option Value} {s₁ : Shared} {tk : Nat} {oI : Obj} {x : Int} {tx : Tok} {stored : List Str} {ca : Addr} {co : Obj}
    (hcs : cs = dn ++ (k, tk0) :: r) (hq : (q, listOf ys.toArray n) ∈ news1) (hys : IntsAre ys (dn.map fun p => f p.1)) (hbase : ∀ p ∈ base, p ∈ news1) (hoff : ∀ p ∈ news1, p.1 ≠ I)
    (l0 : ∀ p ∈ base, p.1 ≠ q) (F' : Fr g L h' m') (N' : News g L h' news') (P : Turned q (listOf (ys ++ [Value.int x tx]).toArray (n + 1)) led news') (sub : ∀ p ∈ (I, oI) :: news1, p ∈ led)
    (ex : x = f k) (hr : ∀ z, stored.contains z = false → m' z = m₀ z) (hk : (ca, co) ∈ base) :
    UnrEndW g L s₁ [(I, oI)] (fun m' n' => SubL [(ca, co)] n' ∧ RInd (fun _ : Unit => []) stored m₀ (Part3J cs f q I base) r m' n') { s₁ with heap := h', toks := tk } := by
  subst ex
  have hl := hoff _ hq
  refine turn_end (more := []) F' N' P sub nil_all (fun p hp => part3_its (hoff p hp)) (part3_its hl) ⟨mem_lessL (hbase _ hk) (l0 _ hk), trivial⟩ ⟨(), fun p hp => (nomatch hp), fun z _ h => hr z h, dn ++ [(k, tk0)], ys ++ [.int (f k) tx], n + 1, by rw [hcs]; simp, List.mem_cons_self .., ?_, ?_, ?_⟩
  · rw [List.map_append]
    exact ints_snoc hys
  · exact fun p hp => List.mem_cons_of_mem _ (mem_lessL (hbase p hp) (l0 p hp))
  · intro p hp
    rcases List.mem_cons.mp hp with rfl | hp
    · exact hl
    · exact hoff p (List.mem_filter.mp hp).1
theorem part3_off {q a0 a1 : Nat} {o0 o1 : Obj} {news : Led} (h1 : q < a1 ∧ a0 < a1 ∧ AllLt a1 news) (h0 : a0 < q ∧ AllLt q news) : ∀ p ∈ ((a1, o1) :: (a0, o0) :: news : Led), p.1 ≠ q := fun p hp => by
  rcases List.mem_cons.mp hp with rfl | hp
  · exact Ne.symm (Nat.ne_of_lt h1.1)
  · rcases List.mem_cons.mp hp with rfl | hp
    · exact Nat.ne_of_lt h0.1
    · exact Nat.ne_of_lt (allLt_all h0.2 p hp)
theorem part3_ints {ys : List Value} {a b c : Int} (h : IntsAre ys [a, b, c]) : ∃ t1 t2 t3, ys = [.int a t1, .int b t2, .int c t3] := by
  cases h with
  | cons _ t1 h =>
  cases h with
  | cons _ t2 h =>
  cases h with
  | cons _ t3 h =>
  cases h
  exact ⟨t1, t2, t3, rfl⟩
theorem kx_MParts_0 : True := by
  k_with "getMethod ref" => (k_here; (with_reducible show wpAny _ _ (getMethod (Value.ref _) (PySem.Str.ofString "append") _) _ _ _); k_dflt (refine' append_meth ?NZk ?mZk ?_; (case NZk => k_asm); (case mZk => repeat (first | assumption | exact List.mem_cons_self .. | refine List.mem_cons_of_mem _ ?_))))
  trivial
theorem kx_MParts_1 : True := by
  k_with "call builtin:list.append" => (k_here; k_dflt (refine' append_led ?FZk ?NZk ?hmZk ?hzZk ?_; (case FZk => k_asm); (case NZk => k_asm); (case hmZk => repeat (first | assumption | exact List.mem_cons_self .. | refine List.mem_cons_of_mem _ ?_)); (case hzZk => assumption)); intro h' news' F' N' P'; (try dsimp only))
  trivial
theorem c_parts (w : World) {dr : Int} {t : Tok} {news : Led} :
    Ctr w 128 [.int dr t] [] news 2 16 (fun v news' => ∃ q n i1 i2 i3 t1 t2 t3, v = .ref q ∧ news' = (q, listOf [.int i1 t1, .int i2 t2, .int i3 t3].toArray n) :: news ∧ (∀ p ∈ news, p.1 < q) ∧ i1 = partR (dr.fmod 16) ((dr.fdiv 16).fmod 2) ((dr.fdiv 32).fmod 2) 0 ∧ i2 = partR (dr.fmod 16) ((dr.fdiv 16).fmod 2) ((dr.fdiv 32).fmod 2) 16 ∧ i3 = partR (dr.fmod 16) ((dr.fdiv 16).fmod 2) ((dr.fdiv 32).fmod 2) 32) := by
  unfold Ctr
  k_fill
  intro loose mean mg mb dp un gd cn cs aa ccd cl outer A₀ base h₀ L m s Q E B F X N T' hk hdp hun hret
  refine wpAny_call ?_
  k_dflt cell_enter
  iterate 66 walk1
  rename News _ _ _ _ => lN'
  rename Fr _ _ _ _ => lF'
  with_unfolding_all (refine iter_tupTurns (by rfl) lF' lN' (List.mem_cons_self ..) (by rfl) (by rfl) ?_)
  clear lN' lF'
  intro I' l1'
  have hbO := fun o0 o1 => part3_off (o0 := o0) (o1 := o1) (by assumption) (by assumption)
  with_unfolding_all (refine rest_ind (fun p : Int × Tok => Itm.val (.int p.1 p.2)) (fun _ => []) [Str.ofString "corner", Str.ofString "way", Str.ofString "fall"] _ (Part3J _ (partR (dr.fmod 16) ((dr.fdiv 16).fmod 2) ((dr.fdiv 32).fmod 2)) _ I' _) ?turn ?done [(0, _), (16, _), (32, _)] _ _ (part3_start l1'))
  case turn =>
    rintro c ⟨k, tk0⟩ rem u news1 v h tk hJz
    refine hide fun Xz backz => ?_
    obtain ⟨dn, ys, n, hcs, hq, hys, hbase, hoff⟩ := hJz
    refine backz ?_
    clear backz Xz
    rintro hv F1
    replace hv : v = Value.int k tk0 := hv
    subst hv
    have hyz : ys.length ≤ 64 := by
      have e1 := hys.length
      have e2 := congrArg List.length hcs
      simp at e1 e2
      omega
    refine AllObj.cons fun oI hcI => AllObj.nil fun N1 => ?_
    have N2 : News _ _ _ ((I', oI) :: news1) := N1
    clear N1
    dsimp only at F1 ⊢
    k_steps
    rename Turned _ _ _ _ => P9
    rename News _ _ _ _ => N9
    rename Fr _ _ _ _ => F9
    refine part3_turn hcs hq hys hbase hoff (hbO _ _) F9 N9 P9 (fun _ h => by (repeat (first | assumption | refine List.mem_cons_of_mem _ ?_))) (part_eq ?_) ?_ (List.mem_cons_self ..)
    · generalize dr.fmod 16 = r
      omega
    · intro z' hz'
      have q0 : z' ≠ Str.ofString "corner" := by intro e; subst e; exact absurd hz' (by decide)
      have q1 : z' ≠ Str.ofString "way" := by intro e; subst e; exact absurd hz' (by decide)
      have q2 : z' ≠ Str.ofString "fall" := by intro e; subst e; exact absurd hz' (by decide)
      simp only [kstB, hz', q0, q1, q2, Bool.false_eq_true, if_false]
  case done =>
    intro c u news1 h tk hJz
    refine hide fun Xz backz => ?_
    obtain ⟨dn, ys, n, hcs, hq, hys, hbase, hoff⟩ := hJz
    refine backz ?_
    clear backz Xz
    rintro F1 N1
    rw [List.append_nil] at hcs
    subst hcs
    obtain ⟨t1, t2, t3, rfl⟩ := part3_ints hys
    dsimp only at F1 ⊢
    k_steps
    rename News _ _ _ _ => N9
    refine hret _ _ _ _ (by k_asm) (fun p hp => N9 p ?_) ⟨_, n, _, _, _, t1, t2, t3, rfl, rfl, allLt_all (And.right ‹_ ∧ AllLt _ _›), rfl, rfl, rfl⟩
    rcases List.mem_cons.mp hp with rfl | hp
    · exact hq
    · exact hbase _ (List.mem_cons_of_mem _ (List.mem_cons_of_mem _ hp))
end Mine
end
section
open PySem PySem.W PyProof.Rows PyProof.V
set_option Elab.async false
set_option maxRecDepth 100000
set_option maxHeartbeats 400000
namespace Mine
/-- a dict of ints stands in the ledger -/
noncomputable def DIn (prog : Program) (w : World) (news : Led) (d : Nat) (c : List (Int × Int)) : Prop :=
  ∃ (o : Obj) (kvs : List (Int × Value)), (d, o) ∈ news ∧ ((d : Addr) == sysModules) = false ∧ o.IsDictOf (PySem.intKind prog w) kvs ∧ FlatPairs PyData.int kvs (kdfD c)
theorem DIn.imp {prog : Program} {w : World} {news news' : Led} {d : Nat} {c : List (Int × Int)} (h : DIn prog w news d c) (hs : ∀ o, (d, o) ∈ news → (d, o) ∈ news') : DIn prog w news' d c := by
  obtain ⟨o, kvs, hm, r⟩ := h
  exact ⟨o, kvs, hs o hm, r⟩
theorem DIn.mem {prog : Program} {w : World} {news : Led} {d : Nat} {c : List (Int × Int)} (h : DIn prog w news d c) : ∃ o, (d, o) ∈ news := ⟨_, h.choose_spec.choose_spec.1⟩
section
variable {prog : Program} {w : World} {A : Around} {E : Value → Shared → Prop} {s : Shared} {h₀ : Heap} {L : Addr} {d : Nat} {m : Str → Option Value} {news : Led} {c : List (Int × Int)} {k e : Int} {tk te : Tok}
theorem din_tab (N : News h₀ L s.heap news) (h : DIn prog w news d c) : IntTab prog w s.heap d (kdfD c) := by
  obtain ⟨o, kvs, hm, lo, hd, hf⟩ := h
  exact TabAt.ofObj lo (N _ hm).1 hd hf
theorem din_set {Q : Unit → Shared → Prop} (F : Fr h₀ L s.heap m) (N : News h₀ L s.heap news) (h : DIn prog w news d c) (hc : c.length ≤ 16777216)
    (hQ : ∀ h' o' news' tk', Fr h₀ L h' m → News h₀ L h' news' → Turned d o' news news' → DIn prog w [(d, o')] d (kdfPut c k e) → Q () { s with heap := h', toks := tk' }) :
    wpAny (model prog w) A (setItem (.ref d) (.int k tk) (.int e te)) Q E s := by
  obtain ⟨o, kvs, hm, lo, hd, hf⟩ := h
  refine kdf_setItem F (news_head N hm) (.head lessL_off) hd hf hc fun h' o' kvs' F' N' hd' hf' => ?_
  exact hQ h' o' _ _ F' N' turned_head ⟨o', kvs', List.mem_cons_self .., lo, hd', hf'⟩
theorem din_meth {name : Str} {id : String} {pl : Sem Bool} {Q : Value × List Value → Shared → Prop} (slot : Slot "dict" name id) (ty : typeOf (.builtin id) = pure (.type "method_descriptor")) (N : News h₀ L s.heap news) (h : DIn prog w news d c) (hQ : Q (.builtin id, [.ref d]) s) :
    wpAny (model prog w) A (getMethod (.ref d) name pl) Q E s := by
  obtain ⟨o, kvs, hm, lo, hd, hf⟩ := h
  exact kdl_method slot ty N hm hd hQ
theorem din_items {R : Value → Shared → Prop} (F : Fr h₀ L s.heap m) (N : News h₀ L s.heap news) (h : DIn prog w news d c)
    (hR : ∀ h' (vw : Nat), (∃ ov, h'.get? vw = some ov ∧ ov.cls = .type "dict_items" ∧ ov.data = .fields #[.ref d]) → Fr h₀ L h' m → News h₀ L h' news → R (.ref vw) { s with heap := h' }) : wpAny (model prog w) A (call (.builtin "dict.items") [.ref d]) R E s := by
  obtain ⟨o, kvs, hm, lo, hd, hf⟩ := h
  exact kta_callItems F N hm hd lo fun h' hv F' N' => hR h' _ hv F' N'
theorem kyInt : ∀ (k : Int) (v : Value), (PySem.intKind prog w).is k v = true → ∃ t, v = kyVal (PyData.int k) t := fun k v h => by
  obtain ⟨t, e⟩ := Value.isInt_shape h
  exact ⟨t, e⟩
/-- a loop over the items of a dict of ints -/
theorem turns_din {env : Env} {body : List Stmt} {Q : Flow → Shared → Prop} {elts : List Expr} {kk : Nat} {pos : Pos} {vw : Addr} {m₀ : Str → Option Value} (hh : A.handled = none) (F : Fr h₀ env.locals s.heap m₀) (N : News h₀ env.locals s.heap news)
    (hvw : ∃ ov, s.heap.get? vw = some ov ∧ ov.cls = .type "dict_items" ∧ ov.data = .fields #[.ref d]) (h : DIn prog w news d c)
    (rest₀ : ∀ (od : Obj) (I : Addr), (d, od) ∈ news → (∀ p ∈ news, p.1 < I) → ItemsRest prog w A E h₀ env (.Tuple elts kk pos) body Q s [(I, "dict_itemiterator")] [(d, od)] (c.map fun p => Itm.pairF (fun t => .int p.1 t) (PyData.int p.2)) m₀ news) :
    wpAny (model prog w) A (pyIter (.ref vw)) (fun it s₂ => TurnsAt prog w A h₀ env (.Tuple elts kk pos) body Q E it s₂) E s := by
  have T := din_tab N h
  obtain ⟨o, kvs, hm, lo, hd, hf⟩ := h
  refine kti_items hh F N hvw T hm kyInt ?_ fun I l => rest₀ o I hm l
  unfold kdfD
  rw [List.map_map]
  rfl
end
end Mine
end
section
open PySem PySem.W PyProof.Rows
set_option Elab.async false
set_option maxRecDepth 100000
set_option maxHeartbeats 400000
namespace Mine
noncomputable def inStep (line : List Int) (taken : Int) (st : List (Int × Int) × Int) (cm : Int × Int) : List (Int × Int) × Int :=
  if (taken.fdiv cm.2).fmod 2 = 1 then (st.1, - st.2) else (kdfPut st.1 (taken + cm.2) (kdfLook st.1 (taken + cm.2) 0 + st.2 * line.getD cm.1.toNat 0), st.2)
noncomputable def colM : List (Int × Int) := [(5, 32), (4, 16), (3, 8), (2, 4), (1, 2), (0, 1)]
noncomputable def midStep (line : List Int) (grown : List (Int × Int)) (p : Int × Int) : List (Int × Int) := (colM.foldl (inStep line p.1) (grown, p.2)).1
noncomputable def rowStep (sums : List (Int × Int)) (line : List Int) : List (Int × Int) := sums.foldl (midStep line) []
theorem inStep_len (line : List Int) (t : Int) (st : List (Int × Int) × Int) (cm : Int × Int) : (inStep line t st cm).1.length ≤ st.1.length + 1 := by
  unfold inStep
  split
  · exact Nat.le_succ _
  · exact kdfPut_len _ _ _
theorem inFold_len (line : List Int) (t : Int) : ∀ (cs : List (Int × Int)) (st : List (Int × Int) × Int), (cs.foldl (inStep line t) st).1.length ≤ st.1.length + cs.length
  | [], _ => Nat.le_refl _
  | c :: cs, st => by
    have h1 := inFold_len line t cs (inStep line t st c)
    have h2 := inStep_len line t st c
    rw [List.foldl_cons, List.length_cons]
    omega
theorem midFold_len (line : List Int) : ∀ (ps : List (Int × Int)) (g : List (Int × Int)), (ps.foldl (midStep line) g).length ≤ g.length + 6 * ps.length
  | [], _ => by simp
  | p :: ps, g => by
    have h1 := midFold_len line ps (midStep line g p)
    have h2 := inFold_len line p.1 colM (g, p.2)
    have h3 : (midStep line g p).length ≤ g.length + 6 := h2
    rw [List.foldl_cons, List.length_cons]
    omega
theorem rowFold_len : ∀ (rows : List (List Int)) (c : List (Int × Int)), (rows.foldl rowStep c).length ≤ c.length * 6 ^ rows.length
  | [], c => by simp
  | r :: rows, c => by
    have h1 := rowFold_len rows (rowStep c r)
    have h2 : (rowStep c r).length ≤ 0 + 6 * c.length := midFold_len r c []
    rw [List.foldl_cons, List.length_cons, Nat.pow_succ]
    refine Nat.le_trans h1 ?_
    have h3 : (rowStep c r).length ≤ c.length * 6 := by omega
    calc (rowStep c r).length * 6 ^ rows.length ≤ (c.length * 6) * 6 ^ rows.length := Nat.mul_le_mul_right _ h3
      _ = c.length * (6 ^ rows.length * 6) := by rw [Nat.mul_assoc, Nat.mul_comm 6]
end Mine
end
section
open PySem PySem.W PyProof.Rows PyProof.Rows.LCg PyProof.V
set_option Elab.async false
set_option maxRecDepth 100000
set_option maxHeartbeats 4000000
namespace Mine
theorem kx_MDet : True := by
  w_top off
  k_with_none
  trivial
noncomputable def DetJ (prog : Program) (w : World) (rows : List (List Int)) (lo I : Nat) (base : Led) (d : Nat) (rem : List Value) (news : Led) : Prop :=
  ∃ (dn rr : List (List Int)), rows = dn ++ rr ∧ RowsAre lo base rem rr ∧ DIn prog w news d (dn.foldl rowStep [(0, 1)]) ∧ (∀ p ∈ base, p ∈ news) ∧ (∀ p ∈ news, p.1 ≠ I)
noncomputable def MidJ (prog : Program) (w : World) (r : List Int) (cc : List (Int × Int)) (gd I : Nat) (base : Led) (_ : Unit) (rem : List (Int × Int)) (news : Led) : Prop :=
  ∃ (dn : List (Int × Int)), cc = dn ++ rem ∧ DIn prog w news gd (dn.foldl (midStep r) []) ∧ (∀ p ∈ base, p ∈ news) ∧ (∀ p ∈ news, p.1 ≠ I)
noncomputable abbrev colT (t : Fin 12 → Tok) : List ((Int × Tok) × (Int × Tok)) := [((5, t 0), (32, t 6)), ((4, t 1), (16, t 7)), ((3, t 2), (8, t 8)), ((2, t 3), (4, t 9)), ((1, t 4), (2, t 10)), ((0, t 5), (1, t 11))]
noncomputable def InJ (prog : Program) (w : World) (r : List Int) (g : List (Int × Int)) (p : Int × Int) (gd I : Nat) (keep base : Led) (c : Int × Tok) (rem : List ((Int × Tok) × (Int × Tok))) (news : Led) : Prop :=
  ∃ (dn : List (Int × Int)), colM = dn ++ rem.map (fun z => (z.1.1, z.2.1)) ∧ DIn prog w news gd (dn.foldl (inStep r p.1) (g, p.2)).1 ∧ c.1 = (dn.foldl (inStep r p.1) (g, p.2)).2 ∧ (∀ p ∈ keep, p ∈ news ∧ p.1 ≠ gd) ∧ (∀ p ∈ base, p.1 ≠ gd → p ∈ news) ∧ (∀ p ∈ news, ∀ q ∈ [I + 4, I + 2, I + 3, I, I + 1], p.1 ≠ q)
theorem RowsAre.at {lo : Nat} {news : Led} {v : Value} {vs : List Value} : ∀ {rs : List (List Int)}, RowsAre lo news (v :: vs) rs → ∃ (a : Nat) (xs : List Value) (n : Nat) (r : List Int) (rr : List (List Int)), v = .ref a ∧ rs = r :: rr ∧ (a, listOf xs.toArray n) ∈ news ∧ IntsAre xs r ∧ RowsAre lo news vs rr
  | [], h => h.elim
  | r :: rr, h => by
    obtain ⟨⟨a, xs, n, e, _, hm, hi⟩, h⟩ := h
    exact ⟨a, xs, n, r, rr, e, rfl, hm, hi, h⟩
theorem RowsAre.nil_of {lo : Nat} {news : Led} : ∀ {rs : List (List Int)}, RowsAre lo news [] rs → rs = []
  | [], _ => rfl
  | _ :: _, h => h.elim
theorem din_new {prog : Program} {w : World} {h₀ h : Heap} {L : Addr} {d : Nat} {o : Obj} {rest : Led} (_N : News h₀ L h ((d, o) :: rest)) (lo : ((d : Addr) == sysModules) = false) (hd : o.IsDictOf (PySem.intKind prog w) []) (hf : FlatPairs PyData.int [] []) : DIn prog w ((d, o) :: rest) d [] := ⟨o, [], List.mem_cons_self .., lo, hd, hf⟩
theorem col_in : ∀ z ∈ colM, (0 ≤ z.1 ∧ z.1 < 6) ∧ (0 < z.2 ∧ z.2 ≤ 32) := by decide
theorem getD_mem {r : List Int} {k : Nat} (h : k < r.length) : r.getD k 0 ∈ r := by
  have e : r.getD k 0 = r[k] := by simp [h]
  rw [e]; exact List.getElem_mem h
theorem off5 {I a : Nat} (h : a < I) : ∀ q ∈ [I + 4, I + 2, I + 3, I, I + 1], a ≠ q := fun q hq => by
  simp only [List.mem_cons, List.not_mem_nil, or_false] at hq
  omega
theorem det_len {rows dn rr : List (List Int)} (h : rows = dn ++ rr) (hl : rows.length ≤ 6) : (dn.foldl rowStep [(0, 1)]).length ≤ 46656 := by
  have h1 := rowFold_len dn [(0, 1)]
  have h2 := congrArg List.length h
  rw [List.length_append] at h2
  have h3 : 6 ^ dn.length ≤ 6 ^ 6 := Nat.pow_le_pow_right (by decide) (by omega)
  have h4 : (6 : Nat) ^ 6 = 46656 := by decide
  simp only [List.length_cons, List.length_nil, Nat.zero_add, Nat.one_mul] at h1
  omega
theorem in_len {rows dn rr : List (List Int)} {r : List Int} {dn2 rem2 dn3 rem3 : List (Int × Int)} {t v : Int} (h : rows = dn ++ rr) (hl : rows.length ≤ 6) (h2 : dn.foldl rowStep [(0, 1)] = dn2 ++ rem2) (h3 : colM = dn3 ++ rem3) : (dn3.foldl (inStep r t) (dn2.foldl (midStep r) [], v)).1.length ≤ 16777216 := by
  have e1 := det_len h hl
  have e2 := congrArg List.length h2
  have e3 := congrArg List.length h3
  have e4 := inFold_len r t dn3 (dn2.foldl (midStep r) [], v)
  have e5 := midFold_len r dn2 []
  have e6 : colM.length = 6 := rfl
  simp only [List.length_append, List.length_nil, Nat.zero_add] at e2 e3 e5
  dsimp only at e4
  omega
noncomputable abbrev its5 (I : Nat) (o5 o4 o3 o2 o1 : Obj) : Led := [(I + 4, o5), (I + 2, o4), (I + 3, o3), (I, o2), (I + 1, o1)]
theorem its5_off {I a : Nat} {o5 o4 o3 o2 o1 : Obj} (h : ∀ q ∈ [I + 4, I + 2, I + 3, I, I + 1], a ≠ q) : ∀ q ∈ its5 I o5 o4 o3 o2 o1, a ≠ q.1 := fun q hq => h q.1 (by
  have : q.1 ∈ (its5 I o5 o4 o3 o2 o1).map (·.1) := List.mem_map.mpr ⟨q, hq, rfl⟩
  exact this)
theorem in_yes {r : List Int} {t : Int} {st : List (Int × Int) × Int} {dn : List (Int × Int)} {cm : Int × Int} (h : (t.fdiv cm.2).fmod 2 = 1) : (dn ++ [cm]).foldl (inStep r t) st = ((dn.foldl (inStep r t) st).1, - (dn.foldl (inStep r t) st).2) := by
  rw [List.foldl_append]
  show inStep r t _ cm = _
  unfold inStep
  rw [if_pos h]
theorem in_no {r : List Int} {t : Int} {st : List (Int × Int) × Int} {dn : List (Int × Int)} {cm : Int × Int} (h : ¬ (t.fdiv cm.2).fmod 2 = 1) : (dn ++ [cm]).foldl (inStep r t) st = (kdfPut (dn.foldl (inStep r t) st).1 (t + cm.2) (kdfLook (dn.foldl (inStep r t) st).1 (t + cm.2) 0 + (dn.foldl (inStep r t) st).2 * r.getD cm.1.toNat 0), (dn.foldl (inStep r t) st).2) := by
  rw [List.foldl_append]
  show inStep r t _ cm = _
  unfold inStep
  rw [if_neg h]
theorem din_ne {prog : Program} {w : World} {h₀ h : Heap} {L : Addr} {news : Led} {d b : Nat} {c : List (Int × Int)} {ob : Obj} (N : News h₀ L h news) (hD : DIn prog w news d c) (hb : (b, ob) ∈ news) (hn : ∀ es ep, ob.data ≠ .dict es ep) : b ≠ d := by
  rintro rfl
  refine el_2_4 (hD) ?_
  clear hD
  rintro o kvs hm lo ⟨es, ep, _, hd, _⟩ hf
  have h1 := (N _ hb).1
  have h2 := (N _ hm).1
  have h3 : ob = o := Option.some.inj (h1.symm.trans h2)
  subst h3
  exact hn es ep hd
theorem din_led {prog : Program} {w : World} {h₀ h : Heap} {L : Addr} {news led : Led} {d : Nat} {c : List (Int × Int)} (_N : News h₀ L h led) (hD : DIn prog w news d c) (hs : ∀ p ∈ news, p ∈ led) : DIn prog w led d c := hD.imp fun _ h => hs _ h
theorem keep_tup {prog : Program} {w : World} {h₀ h : Heap} {L : Addr} {news : Led} {d a b na nb : Nat} {xs ys : List Value} {c : List (Int × Int)} (N : News h₀ L h news) (hD : DIn prog w news d c) (ha : (a, ({ cls := .type "tuple", data := .seq xs.toArray na } : Obj)) ∈ news) (hb : (b, ({ cls := .type "tuple", data := .seq ys.toArray nb } : Obj)) ∈ news) :
    ∀ p ∈ ([(a, { cls := .type "tuple", data := .seq xs.toArray na }), (b, { cls := .type "tuple", data := .seq ys.toArray nb })] : Led), p ∈ news ∧ p.1 ≠ d := fun p hp => by
  rcases List.mem_cons.mp hp with rfl | hp
  · exact ⟨ha, din_ne N hD ha fun _ _ e => nomatch e⟩
  · rw [List.mem_singleton.mp hp]; exact ⟨hb, din_ne N hD hb fun _ _ e => nomatch e⟩
section
variable {prog : Program} {w : World} {r : List Int} {g : List (Int × Int)} {t vl : Int} {gd I : Nat} {keep base news1 : Led} {dn : List (Int × Int)} {cm mk : Int} {tc tm : Tok} {rem : List ((Int × Tok) × (Int × Tok))} {G h' : Heap} {L : Addr} {m' m₀ : Str → Option Value} {s₁ : Shared} {tk : Nat} {o5 o4 o3 o2 o1 : Obj} {stored : List Str} {sg : Int} {tsg t' : Tok}
theorem in_end1 (hcol : colM = dn ++ (((cm, tc), (mk, tm)) :: rem).map (fun z => (z.1.1, z.2.1))) (hD : DIn prog w news1 gd (dn.foldl (inStep r t) (g, vl)).1) (hsg : sg = (dn.foldl (inStep r t) (g, vl)).2) (hkeep : ∀ p ∈ keep, p ∈ news1 ∧ p.1 ≠ gd) (hbase : ∀ p ∈ base, p.1 ≠ gd → p ∈ news1) (hoff : ∀ p ∈ news1, ∀ q ∈ [I + 4, I + 2, I + 3, I, I + 1], p.1 ≠ q)
    (F' : Fr G L h' m') (N' : News G L h' (its5 I o5 o4 o3 o2 o1 ++ news1)) (hb : (t.fdiv mk).fmod 2 = 1) (hs : m' (Str.ofString "signed") = some (.int (-sg) t')) (hr : ∀ z, z ≠ Str.ofString "signed" → stored.contains z = false → m' z = m₀ z) :
    UnrEndW G L s₁ (its5 I o5 o4 o3 o2 o1) (fun m' n' => SubL keep n' ∧ RInd (fun c : Int × Tok => [(Str.ofString "signed", Value.int c.1 c.2)]) stored m₀ (InJ prog w r g (t, vl) gd I keep base) rem m' n') { s₁ with heap := h', toks := tk } := by
  refine unrEnd_plain F' N' (fun p hp => its5_off (hoff p hp)) (subL_of fun p hp => (hkeep p hp).1) ⟨(-sg, t'), (fun p hp => by rw [List.mem_singleton.mp hp]; exact hs), (fun z hz h => hr z (hz _ (List.mem_cons_self ..)) h), dn ++ [(cm, mk)], by rw [hcol]; simp, ?_, ?_, hkeep, hbase, hoff⟩
  · rw [in_yes (cm := (cm, mk)) hb]; exact hD
  · rw [in_yes (cm := (cm, mk)) hb, hsg]
theorem in_end2 {o' : Obj} {led news' : Led} (hcol : colM = dn ++ (((cm, tc), (mk, tm)) :: rem).map (fun z => (z.1.1, z.2.1))) (hD : DIn prog w news1 gd (dn.foldl (inStep r t) (g, vl)).1) (hsg : sg = (dn.foldl (inStep r t) (g, vl)).2) (hkeep : ∀ p ∈ keep, p ∈ news1 ∧ p.1 ≠ gd) (hbase : ∀ p ∈ base, p.1 ≠ gd → p ∈ news1) (hoff : ∀ p ∈ news1, ∀ q ∈ [I + 4, I + 2, I + 3, I, I + 1], p.1 ≠ q)
    (F' : Fr G L h' m') (N' : News G L h' news') (P : Turned gd o' led news') (sub : ∀ p ∈ its5 I o5 o4 o3 o2 o1 ++ news1, p ∈ led) (hb : ¬ (t.fdiv mk).fmod 2 = 1) (hD' : DIn prog w [(gd, o')] gd (kdfPut (dn.foldl (inStep r t) (g, vl)).1 (t + mk) (kdfLook (dn.foldl (inStep r t) (g, vl)).1 (t + mk) 0 + sg * r.getD cm.toNat 0)))
    (hs : m' (Str.ofString "signed") = some (.int sg t')) (hr : ∀ z, z ≠ Str.ofString "signed" → stored.contains z = false → m' z = m₀ z) :
    UnrEndW G L s₁ (its5 I o5 o4 o3 o2 o1) (fun m' n' => SubL keep n' ∧ RInd (fun c : Int × Tok => [(Str.ofString "signed", Value.int c.1 c.2)]) stored m₀ (InJ prog w r g (t, vl) gd I keep base) rem m' n') { s₁ with heap := h', toks := tk } := by
  have bl : ∀ p ∈ base, p.1 ≠ gd → p ∈ lessL gd news1 := fun p hp hn => mem_lessL (hbase p hp hn) hn
  have kl : ∀ p ∈ keep, p ∈ lessL gd news1 := fun p hp => mem_lessL (hkeep p hp).1 (hkeep p hp).2
  obtain ⟨og, hog⟩ := hD.mem
  have hgo := hoff _ hog
  refine turn_end (more := []) F' N' P sub nil_all (fun p hp => its5_off (hoff p hp)) (its5_off hgo) (subL_of kl) ⟨(sg, t'), (fun p hp => by rw [List.mem_singleton.mp hp]; exact hs), (fun z hz h => hr z (hz _ (List.mem_cons_self ..)) h), dn ++ [(cm, mk)], by rw [hcol]; simp, ?_, ?_, ?_, ?_, ?_⟩
  · rw [in_no (cm := (cm, mk)) hb, ← hsg]
    exact hD'.imp fun o h => by rw [List.mem_singleton.mp h]; exact List.mem_cons_self ..
  · rw [in_no (cm := (cm, mk)) hb, hsg]
  · exact fun p hp => ⟨List.mem_cons_of_mem _ (kl p hp), (hkeep p hp).2⟩
  · exact fun p hp hn => List.mem_cons_of_mem _ (bl p hp hn)
  · intro p hp
    rcases List.mem_cons.mp hp with rfl | hp
    · exact hgo
    · exact hoff p (List.mem_filter.mp hp).1
end
section
variable {prog : Program} {w : World} {G h' : Heap} {L : Addr} {m' m₀ : Str → Option Value} {s₁ : Shared} {tk : Nat} {oI : Obj} {stored : List Str} {r : List Int} {kd : Nat} {ko : Obj}
theorem mid_end {t vl : Int} {gd I : Nat} {base news2 news3 : Led} {cc dn rem : List (Int × Int)} (hcc : cc = dn ++ (t, vl) :: rem) (hD : DIn prog w news3 gd (colM.foldl (inStep r t) (dn.foldl (midStep r) [], vl)).1) (hbase2 : ∀ p ∈ base, p ∈ news2) (hoff2 : ∀ p ∈ news2, p.1 ≠ I) (hbase3 : ∀ p ∈ ((I, oI) :: news2 : Led), p.1 ≠ gd → p ∈ news3) (hgb : ∀ p ∈ base, p.1 ≠ gd) (hgI : gd ≠ I)
    (F' : Fr G L h' m') (N' : News G L h' news3) (hr : ∀ z, stored.contains z = false → m' z = m₀ z) (hk : (kd, ko) ∈ base) :
    UnrEndW G L s₁ [(I, oI)] (fun m' n' => SubL [(kd, ko)] n' ∧ RInd (fun _ : Unit => []) stored m₀ (MidJ prog w r cc gd I base) rem m' n') { s₁ with heap := h', toks := tk } := by
  refine el_2_2 (hD) ?_
  clear hD
  rintro o kvs hm rD
  have bl : ∀ p ∈ base, p ∈ lessL gd news2 := fun p hp => mem_lessL (hbase2 p hp) (hgb p hp)
  refine unrEnd_plain (news := (gd, o) :: lessL gd news2) F' (fun p hp => N' p ?_) (fun p hp q hq => ?_) ⟨List.mem_cons_of_mem _ (bl _ hk), trivial⟩ ⟨(), fun p hp => (nomatch hp), fun z _ h => hr z h, dn ++ [(t, vl)], by rw [hcc]; simp, ?_, fun p hp => List.mem_cons_of_mem _ (bl p hp), ?_⟩
  · rcases List.mem_cons.mp hp with rfl | hp
    · exact hbase3 _ (List.mem_cons_self ..) (Ne.symm hgI)
    · rcases List.mem_cons.mp hp with rfl | hp
      · exact hm
      · exact hbase3 _ (List.mem_cons_of_mem _ (List.mem_filter.mp hp).1) (lessL_off p hp)
  · rw [List.mem_singleton.mp hq]
    rcases List.mem_cons.mp hp with rfl | hp
    · exact hgI
    · exact hoff2 p (List.mem_filter.mp hp).1
  · rw [List.foldl_append]
    exact ⟨o, kvs, List.mem_cons_self .., rD⟩
  · intro p hp
    rcases List.mem_cons.mp hp with rfl | hp
    · exact hgI
    · exact hoff2 p (List.mem_filter.mp hp).1
theorem det_end {gd I lo : Nat} {base news1 news2 : Led} {rows dn rr : List (List Int)} {rem : List Value} (hrows : rows = dn ++ r :: rr) (hrr : RowsAre lo base rem rr) (hD : DIn prog w news2 gd ((dn.foldl rowStep [(0, 1)]).foldl (midStep r) [])) (hbase : ∀ p ∈ base, p ∈ news1) (hoff : ∀ p ∈ news1, p.1 ≠ I) (hbase2 : ∀ p ∈ ((I, oI) :: news1 : Led), p ∈ news2) (hgI : gd ≠ I)
    (F' : Fr G L h' m') (N' : News G L h' news2) (hs : m' (Str.ofString "sums") = some (.ref gd)) (hr : ∀ z, z ≠ Str.ofString "sums" → stored.contains z = false → m' z = m₀ z) (hk : (kd, ko) ∈ base) :
    UnrEndW G L s₁ [(I, oI)] (fun m' n' => SubL [(kd, ko)] n' ∧ RInd (fun d : Nat => [(Str.ofString "sums", Value.ref d)]) stored m₀ (DetJ prog w rows lo I base) rem m' n') { s₁ with heap := h', toks := tk } := by
  refine el_2_2 (hD) ?_
  clear hD
  rintro o kvs hm rD
  refine unrEnd_plain (news := (gd, o) :: news1) F' (fun p hp => N' p ?_) (fun p hp q hq => ?_) ⟨List.mem_cons_of_mem _ (hbase _ hk), trivial⟩ ⟨gd, (fun p hp => by rw [List.mem_singleton.mp hp]; exact hs), (fun z hz h => hr z (hz _ (List.mem_cons_self ..)) h), dn ++ [r], rr, by rw [hrows]; simp, hrr, ?_, fun p hp => List.mem_cons_of_mem _ (hbase p hp), ?_⟩
  · rcases List.mem_cons.mp hp with rfl | hp
    · exact hbase2 _ (List.mem_cons_self ..)
    · rcases List.mem_cons.mp hp with rfl | hp
      · exact hm
      · exact hbase2 _ (List.mem_cons_of_mem _ hp)
  · rw [List.mem_singleton.mp hq]
    rcases List.mem_cons.mp hp with rfl | hp
    · exact hgI
    · exact hoff p hp
  · rw [List.foldl_append]
    exact ⟨o, kvs, List.mem_cons_self .., rD⟩
  · intro p hp
    rcases List.mem_cons.mp hp with rfl | hp
    · exact hgI
    · exact hoff p hp
end
theorem kx_MDet_0 : True := by
  k_with "getMethod ref" => (k_here; (with_reducible show wpAny _ _ (getMethod (Value.ref _) (PySem.Str.ofString "items") _) _ _ _); k_dflt (refine' din_meth PySem.F.slot_dict_items PySem.F.type_dict_items ?NZk ?mZk ?_; (case NZk => k_asm); (case mZk => exact DIn.imp (by assumption) (fun _ h => by repeat (first | assumption | exact List.mem_cons_self .. | refine List.mem_cons_of_mem _ ?_)))))
  trivial
theorem kx_MDet_1 : True := by
  k_with "getMethod ref" => (k_here; (with_reducible show wpAny _ _ (getMethod (Value.ref _) (PySem.Str.ofString "get") _) _ _ _); k_dflt (refine' din_meth PySem.F.slot_dict_get PySem.F.type_dict_get ?NZk ?mZk ?_; (case NZk => k_asm); (case mZk => exact DIn.imp (by assumption) (fun _ h => by repeat (first | assumption | exact List.mem_cons_self .. | refine List.mem_cons_of_mem _ ?_)))))
  trivial
theorem kx_MDet_2 : True := by
  k_with "call builtin:dict.items" => (k_here; k_dflt (refine' din_items ?FZk ?NZk ?mZk ?_; (case FZk => k_asm); (case NZk => k_asm); (case mZk => exact DIn.imp (by assumption) (fun _ h => by repeat (first | assumption | exact List.mem_cons_self .. | refine List.mem_cons_of_mem _ ?_)))); intro h' vw' hv' F' N'; (try dsimp only))
  trivial
theorem kx_MDet_3 : True := by
  k_with "call builtin:dict.get" => (k_here; k_dflt (refine' kdf_get2 (din_tab ?NZk ?mZk) ?_; (case NZk => k_asm); (case mZk => exact DIn.imp (by assumption) (fun _ h => by repeat (first | assumption | exact List.mem_cons_self .. | refine List.mem_cons_of_mem _ ?_)))); intro t'; (try dsimp only))
  trivial
theorem kx_MDet_4 : True := by
  k_with "setItem ref int" => (k_here; k_dflt (refine' din_set ?FZk ?NZk ?mZk ?zZk ?_; (case FZk => k_asm); (case NZk => k_asm); (case mZk => exact DIn.imp (by assumption) (fun _ h => by repeat (first | assumption | exact List.mem_cons_self .. | refine List.mem_cons_of_mem _ ?_))); (case zZk => assumption)); intro h' o' news' tk' F' N' P' D'; (try dsimp only))
  trivial
theorem kx_MDet_5 : True := by
  k_with "subscriptTail Name Constant ref int" => (k_here; k_dflt (refine' kdf_item (din_tab ?NZk ?mZk) ?kZk ?_; (case NZk => k_asm); (case mZk => exact DIn.imp (by assumption) (fun _ h => by repeat (first | assumption | exact List.mem_cons_self .. | refine List.mem_cons_of_mem _ ?_))); (case kZk => assumption)); intro t'; (try dsimp only))
  trivial
theorem kx_MDet_6 : True := by
  k_with "binaryOp Mult int int" => (k_here; (refine mul_int ?_ (IntMulOk.of_right (intBits_le_64 (And.left (by assumption)) (And.right (by assumption))))))
  trivial
theorem kx_MDet_7 : True := by
  k_with "subscriptTail Name Name ref int" => (k_here; k_dflt (refine' item_intsL ?NZk ?hmZk ?TZk ?hsZk ?k0Zk ?k1Zk ?_; (case NZk => k_asm); (case hmZk => repeat (first | assumption | exact List.mem_cons_self .. | refine List.mem_cons_of_mem _ ?_)); (case TZk => assumption); (case hsZk => assumption); (case k0Zk => assumption); (case k1Zk => assumption)); intro tk'; (try dsimp only))
  trivial
theorem c_det (w : World) {ta nt lo : Nat} {vs : List Value} {rows : List (List Int)} {news : Led} (hm : (ta, listOf vs.toArray nt) ∈ news) (hr : RowsAre lo news vs rows) (hl : rows.length ≤ 6) (hc : ∀ r ∈ rows, r.length = 6) (hb : ∀ r ∈ rows, ∀ x ∈ r, -(2 ^ 64) < x ∧ x < 2 ^ 64) (h63 : kdfHas (rows.foldl rowStep [(0, 1)]) 63 = true) :
    Ctr w 140 [.ref ta] [] news 4 64 (fun v news' => ∃ t, v = .int (kdfLook (rows.foldl rowStep [(0, 1)]) 63 0) t ∧ (∀ p ∈ news, p ∈ news')) := by
  unfold Ctr
  k_fill
  intro loose mean mg mb dp un gd cn css aa ccd cl outer A₀ base h₀ L m s Q E B F X N T hk hdp hun hret
  refine wpAny_call ?_
  k_dflt cell_enter
  iterate 11 walk1
  rename Fr _ _ _ _ => lF'
  with_unfolding_all (refine' For_turns lF' ?_)
  iterate 1 walk1
  with_unfolding_all (refine iter_listTurns (vs := vs) (n := nt) (by rfl) lF' (by assumption) (List.mem_cons_of_mem _ hm) rfl rfl ?_)
  clear lF'
  intro I' l1'
  rename FlatPairs _ _ _ => hfp
  rename Obj.IsDictOf _ _ _ => hdd
  have hD0 : DIn Challenge.rw_wf0034_01.row.prog w ((_, _) :: news) _ [(0, 1)] := ⟨_, _, List.mem_cons_self .., by assumption, hdd, hfp⟩
  have hoff0 : ∀ p ∈ ((_, _) :: news : Led), p.1 ≠ I' := fun p hp => Nat.ne_of_lt (l1' p hp)
  with_unfolding_all (refine rest_ind (fun v => Itm.val v) (fun d : Nat => [(Str.ofString "sums", Value.ref d)]) [Str.ofString "line", Str.ofString "grown", Str.ofString "taken", Str.ofString "value", Str.ofString "signed", Str.ofString "column", Str.ofString "mark"] _ (DetJ Challenge.rw_wf0034_01.row.prog w rows lo I' news) ?turn ?done _ _ _ ⟨_, (fun p hp => by rw [List.mem_singleton.mp hp]; rfl), (fun _ _ _ => rfl), [], rows, rfl, hr, hD0, (fun p hp => List.mem_cons_of_mem _ hp), hoff0⟩)
  clear hD0 hoff0 hfp hdd
  case turn =>
    rintro d v rem u news1 v' h tk hJz
    refine el_2_5 (hJz) ?_
    clear hJz
    rintro dn rr hrows hrr hD hbase hoff
    rintro hv F1
    refine el_5_5 (hrr.at) ?_
    rintro a xs na r rr' e1 e2 hma hxs hrr'
    replace hv : v' = v := hv
    subst e1
    subst hv
    subst e2
    refine AllObj.cons fun oI hcI => AllObj.nil fun N1 => ?_
    have N2 : News _ _ _ ((I', oI) :: news1) := N1
    clear N1
    dsimp only at F1 ⊢
    iterate 8 walk1
    rename Fr _ _ _ _ => lF'
    with_unfolding_all (refine' For_turns lF' ?_)
    iterate 5 walk1
    rename News _ _ _ _ => lN
    rename Fr _ _ _ _ => lF'
    have hDg := din_new lN (by assumption) (by assumption) (by assumption)
    with_unfolding_all (refine turns_din (by rfl) lF' lN (by assumption) (hD.imp fun _ h => List.mem_cons_of_mem _ (List.mem_cons_of_mem _ h)) ?_)
    clear lF'
    intro od I2 hod l2'
    have hfr := allLt_all (l := (I', oI) :: news1) ‹_ ∧ AllLt _ news1›
    have hod2 : (d, od) ∈ ((I', oI) :: news1 : Led) := by
      rcases List.mem_cons.mp hod with e | h
      · exfalso
        obtain ⟨o9, h9⟩ := hD.mem
        have h8 := hfr _ (List.mem_cons_of_mem _ h9)
        have h7 := congrArg Prod.fst e
        dsimp only at h7 h8
        exact Nat.ne_of_lt h8 h7
      · exact h
    have hoff0 : ∀ p ∈ ((_, _) :: (I', oI) :: news1 : Led), p.1 ≠ I2 := fun p hp => Nat.ne_of_lt (l2' p hp)
    with_unfolding_all (refine rest_ind (fun p : Int × Int => Itm.pairF (fun t => .int p.1 t) (PyData.int p.2)) (fun _ : Unit => []) [Str.ofString "taken", Str.ofString "value", Str.ofString "signed", Str.ofString "column", Str.ofString "mark"] _ (MidJ Challenge.rw_wf0034_01.row.prog w r (dn.foldl rowStep [(0, 1)]) _ I2 ((I', oI) :: news1)) ?turn2 ?done2 _ _ _ ⟨(), (fun p hp => nomatch hp), (fun _ _ _ => rfl), [], rfl, hDg, (fun p hp => List.mem_cons_of_mem _ hp), hoff0⟩)
    clear hDg hoff0
    case turn2 =>
      rintro c ⟨tk0, vl⟩ rem2 u2 news2 v2 h2 tk2 hJz
      refine el_1_4 (hJz) ?_
      clear hJz
      rintro dn2 hcc hDg hbase2 hoff2
      rintro hJz
      refine el_3_3 (hJz) ?_
      clear hJz
      rintro T2 t2 x2 e2 hfl hT2
      rintro F2
      subst e2
      obtain ⟨t3, e3⟩ := Flat.int_inv hfl
      subst e3
      refine AllObj.cons fun oI2 hcI2 => AllObj.nil fun N1 => ?_
      have N3 : News _ _ _ ((I2, oI2) :: news2) := N1
      clear N1
      dsimp only at F2 hT2 ⊢
      iterate 14 walk1
      rename Fr _ _ _ _ => lF'
      with_unfolding_all (refine' For_turns lF' ?_)
      iterate 36 walk1
      rename News _ _ _ _ => lN
      rename Fr _ _ _ _ => lF'
      with_unfolding_all (refine turns_zipT (xs := [.int 5 _, .int 4 _, .int 3 _, .int 2 _, .int 1 _, .int 0 _]) (ys := [.int 32 _, .int 16 _, .int 8 _, .int 4 _, .int 2 _, .int 1 _]) (by rfl) lF' lN (List.mem_cons_of_mem _ (List.mem_cons_self ..)) (List.mem_cons_self ..) rfl ?_)
      clear lF'
      intro I3 l3'
      have hoff0 : ∀ p ∈ ((_, _) :: (_, _) :: (I2, oI2) :: news2 : Led), ∀ q ∈ [I3 + 4, I3 + 2, I3 + 3, I3, I3 + 1], p.1 ≠ q := fun p hp => off5 (l3' p hp)
      have hDg5 := din_led lN hDg (fun _ h => List.mem_cons_of_mem _ (List.mem_cons_of_mem _ (List.mem_cons_of_mem _ h)))
      with_unfolding_all (refine rest_ind (fun z : (Int × Tok) × (Int × Tok) => Itm.pair (fun _ => .int z.1.1 z.1.2) (.int z.2.1 z.2.2)) (fun c : Int × Tok => [(Str.ofString "signed", Value.int c.1 c.2)]) [Str.ofString "column", Str.ofString "mark"] _ (InJ Challenge.rw_wf0034_01.row.prog w r (dn2.foldl (midStep r) []) (tk0, vl) _ I3 _ ((I2, oI2) :: news2)) ?turn3 ?done3 [((5, _), (32, _)), ((4, _), (16, _)), ((3, _), (8, _)), ((2, _), (4, _)), ((1, _), (2, _)), ((0, _), (1, _))] _ _ ⟨(vl, _), (fun p hp => by rw [List.mem_singleton.mp hp]; rfl), (fun _ _ _ => rfl), [], rfl, hDg5, rfl, keep_tup lN hDg5 (List.mem_cons_of_mem _ (List.mem_cons_self ..)) (List.mem_cons_self ..), (fun p hp _ => List.mem_cons_of_mem _ (List.mem_cons_of_mem _ hp)), hoff0⟩)
      clear hoff0 hDg5
      case turn3 =>
        rintro ⟨sg, tsg⟩ ⟨⟨cm, tc⟩, ⟨mk, tm⟩⟩ rem3 u3 news3 v3 h3 tk3 hJz
        refine el_1_6 (hJz) ?_
        clear hJz
        rintro dn3 hcol hDg3 hsg hkeep3 hbase3 hoff3
        rintro hJz
        refine el_2_2 (hJz) ?_
        clear hJz
        rintro T3 t4 e3 hT3
        rintro F3
        subst e3
        have hcm : (cm, mk) ∈ colM := by rw [hcol]; exact List.mem_append.mpr (.inr (List.mem_cons_self ..))
        obtain ⟨⟨c0, c1⟩, m0, m1⟩ := col_in _ hcm
        dsimp only at c0 c1 m0 m1
        have hrm : r ∈ rows := by rw [hrows]; exact List.mem_append.mpr (.inr (List.mem_cons_self ..))
        have hr6 := hc r hrm
        have hr64 : r.length ≤ 64 := by omega
        have c1' : cm < r.length := by omega
        have hxb := hb r hrm _ (getD_mem (r := r) (k := cm.toNat) (by omega))
        have hma2 := hbase2 _ (List.mem_cons_of_mem _ (hbase _ hma))
        have hma3 := hbase3 _ (List.mem_cons_of_mem _ hma2) (din_ne (fun p hp => lN p (List.mem_cons_of_mem _ (List.mem_cons_of_mem _ (List.mem_cons_of_mem _ hp)))) hDg hma2 fun _ _ e => nomatch e)
        refine AllObj.cons fun o5 _ => AllObj.cons fun o4 _ => AllObj.cons fun o3 _ => AllObj.cons fun o2 _ => AllObj.cons fun o1 _ => AllObj.nil fun N1 => ?_
        have N4 : News _ _ _ ((I3 + 4, o5) :: (I3 + 2, o4) :: (I3 + 3, o3) :: (I3, o2) :: (I3 + 1, o1) :: news3) := N1
        clear N1 lN
        dsimp only at F3 hT3 hsg ⊢
        have hlen3 := in_len (r := r) (t := tk0) (v := vl) hrows hl hcc hcol
        k_steps
        all_goals
          rename News _ _ _ _ => N9
          rename Fr _ _ _ _ => F9
        · refine in_end1 hcol hDg3 hsg hkeep3 hbase3 hoff3 F9 N9 (by assumption) rfl ?_
          intro z' hz1 hz'
          have q0 : z' ≠ Str.ofString "column" := by intro e; subst e; exact absurd hz' (by decide)
          have q1 : z' ≠ Str.ofString "mark" := by intro e; subst e; exact absurd hz' (by decide)
          simp only [kstB, hz', hz1, q0, q1, Bool.false_eq_true, if_false]
        · rename Turned _ _ _ _ => P9
          refine in_end2 hcol hDg3 hsg hkeep3 hbase3 hoff3 F9 N9 P9 (fun _ h => h) (by assumption) (by assumption) rfl ?_
          intro z' hz1 hz'
          have q0 : z' ≠ Str.ofString "column" := by intro e; subst e; exact absurd hz' (by decide)
          have q1 : z' ≠ Str.ofString "mark" := by intro e; subst e; exact absurd hz' (by decide)
          simp only [kstB, hz', hz1, q0, q1, Bool.false_eq_true, if_false]
      case done3 =>
        rintro ⟨sg, tsg⟩ u3 news3 h3 tk3 hJz
        refine el_1_6 (hJz) ?_
        clear hJz
        rintro dn3 hcol hDg3 hsg hkeep3 hbase3 hoff3
        rintro F3 N3
        rw [List.map_nil, List.append_nil] at hcol
        subst hcol
        dsimp only at F3 ⊢
        k_steps
        rename News _ _ _ _ => N9
        rename Fr _ _ _ _ => F9
        have hfr := allLt_all (l := (I', oI) :: news1) ‹_ ∧ AllLt _ news1›
        obtain ⟨og, hog⟩ := hDg.mem
        refine mid_end hcc hDg3 hbase2 hoff2 hbase3 (fun p hp => Nat.ne_of_lt (hfr p hp)) (hoff2 _ hog) F9 N9 ?_ hod2
        intro z' hz'
        have q0 : z' ≠ Str.ofString "column" := by intro e; subst e; exact absurd hz' (by decide)
        have q1 : z' ≠ Str.ofString "mark" := by intro e; subst e; exact absurd hz' (by decide)
        have q2 : z' ≠ Str.ofString "taken" := by intro e; subst e; exact absurd hz' (by decide)
        have q3 : z' ≠ Str.ofString "value" := by intro e; subst e; exact absurd hz' (by decide)
        have q4 : z' ≠ Str.ofString "signed" := by intro e; subst e; exact absurd hz' (by decide)
        have q5 : [Str.ofString "column", Str.ofString "mark"].contains z' = false := by simp [q0, q1]
        simp only [kstB, hz', q0, q1, q2, q3, q4, q5, Bool.false_eq_true, if_false]
    case done2 =>
      rintro c u2 news2 h2 tk2 hJz
      refine el_1_4 (hJz) ?_
      clear hJz
      rintro dn2 hcc hDg hbase2 hoff2
      rintro F2 N2
      rw [List.append_nil] at hcc
      subst hcc
      dsimp only at F2 ⊢
      k_steps
      rename News _ _ _ _ => N9
      rename Fr _ _ _ _ => F9
      have hfr := allLt_all (l := (I', oI) :: news1) ‹_ ∧ AllLt _ news1›
      refine det_end hrows hrr' hDg hbase hoff hbase2 (Ne.symm (Nat.ne_of_lt (hfr _ (List.mem_cons_self ..)))) F9 N9 rfl ?_ hm
      intro z' hz1 hz'
      have q0 : z' ≠ Str.ofString "line" := by intro e; subst e; exact absurd hz' (by decide)
      have q1 : z' ≠ Str.ofString "grown" := by intro e; subst e; exact absurd hz' (by decide)
      have q2 : z' ≠ Str.ofString "taken" := by intro e; subst e; exact absurd hz' (by decide)
      have q3 : z' ≠ Str.ofString "value" := by intro e; subst e; exact absurd hz' (by decide)
      have q4 : z' ≠ Str.ofString "signed" := by intro e; subst e; exact absurd hz' (by decide)
      have q5 : z' ≠ Str.ofString "column" := by intro e; subst e; exact absurd hz' (by decide)
      have q6 : z' ≠ Str.ofString "mark" := by intro e; subst e; exact absurd hz' (by decide)
      have q7 : [Str.ofString "taken", Str.ofString "value", Str.ofString "signed", Str.ofString "column", Str.ofString "mark"].contains z' = false := by simp [q2, q3, q4, q5, q6]
      simp only [kstB, hz', hz1, q0, q1, q2, q3, q4, q5, q6, q7, Bool.false_eq_true, if_false]
  case done =>
    rintro d u news1 h tk hJz
    refine el_2_5 (hJz) ?_
    clear hJz
    rintro dn rr hrows hrr hD hbase hoff
    rintro F1 N1
    cases hrr.nil_of
    rw [List.append_nil] at hrows
    subst hrows
    dsimp only at F1 ⊢
    k_steps
    rename News _ _ _ _ => N9
    exact hret _ news1 _ _ (by k_asm) N9 ⟨_, rfl, hbase⟩
end Mine
end
section
open PySem PySem.W PyProof.Rows
set_option Elab.async false
set_option maxRecDepth 100000
set_option maxHeartbeats 400000
namespace Mine
open PySem.Calls
section
variable {prog : Program} {w : World} {A : Around} {E : Value → Shared → Prop} {s : Shared} {env : Env} {h₀ : Heap} {body : List Stmt} {Q : Flow → Shared → Prop}
noncomputable abbrev rangeItms (a : Int) (n : Nat) : List Itm := (List.range n).map fun i : Nat => Itm.tok fun t => .int (a + (i : Int)) t
/-- a loop over a range by ones -/
theorem turns_range {x : Str} {xp : Pos} {r : Addr} {a b : Int} {t₀ u₀ v₀ : Tok} {n : Nat} {m₀ : Str → Option Value} {news : Led}
    (hh : A.handled = none) (hr : IsRange s.heap r a b 1 t₀ u₀ v₀) (hsmall : Builtin.Range.small a b 1 = true) (hn : Builtin.Range.rangeSize a b 1 = (n : Int)) (F : Fr h₀ env.locals s.heap m₀) (N : News h₀ env.locals s.heap news)
    (rest₀ : ∀ I : Addr, (∀ p ∈ news, p.1 < I) → ItemsRest prog w A E h₀ env (.Name x xp) body Q s [(I, "range_iterator")] [] (rangeItms a n) m₀ news) :
    wpAny (model prog w) A (pyIter (.ref r)) (fun it s₂ => TurnsAt prog w A h₀ env (.Name x xp) body Q E it s₂) E s := by
  refine wpAny_pyIter_range hr hsmall ?_
  refine ktu_core (tk0 := s.toks) (keep := []) (KTurns.ofWalks (target := .Name x xp) (Walks.range hh s.heap.objs.size a 1 n).bound fun i v s Q E st q => ?_) (by simp) (fun i v h hp => ?_) (fun i h st => ?_) (fun b hb => ?_) (fun b hb => by simpa using hb) (fun b hb => ?_) ?_ (fun p hp hI => ?_) ?_ (F.push _) (fun p hp => ⟨Heap.get?_push_of_some _ (N p hp).1, (N p hp).2⟩) trivial (rest₀ _ fun p hp => Heap.lt_size (N p hp).1)
  · unfold letOwnedTupleGo
    exact wpAny_pure q
  · refine hide fun Xz backz => ?_
    obtain ⟨hi, t, e⟩ := hp
    refine backz ?_
    clear backz Xz
    refine ⟨.tok fun t => .int (a + (i : Int)) t, ?_, t, by rw [e, Int.mul_one]⟩
    rw [List.getElem?_map, List.getElem?_range hi]; rfl
  · exact ⟨[(s.heap.objs.size, _)], ⟨⟨rfl, rfl⟩, trivial⟩, fun p hp => by rw [List.mem_singleton.mp hp]; exact st⟩
  · have hb' : b = s.heap.objs.size := by simpa using hb
    rw [hb']
    exact ⟨List.mem_singleton.mpr rfl, next_is_new F⟩
  · exact .inl (by simpa using hb)
  · intro hI
    exact absurd F.ns.lt ((List.mem_singleton.mp hI) ▸ Nat.lt_irrefl _)
  · exact absurd (Heap.lt_size (N p hp).1) ((List.mem_singleton.mp hI) ▸ Nat.lt_irrefl _)
  · show IsRangeIter _ _ _ _ _
    rw [hn]
    simpa using Heap.get?_push_size _ rfl
end
end Mine
end
section
open PySem PySem.W PyProof.Rows
set_option Elab.async false
set_option maxRecDepth 100000
set_option maxHeartbeats 400000
namespace Mine
theorem cut_count {f : Int → Bool} : ∀ {ts : List Int} {k : Int}, IsCut f ts k → k = (ts.countP f : Nat)
  | [], k, h => by
    have h1 := h.1
    have h2 := h.2.1
    simp at h2 ⊢
    omega
  | t :: ts, k, h => by
    obtain ⟨h1, h2, h3, h4⟩ := h
    by_cases hk : k = 0
    · subst hk
      have e : f t = false := by simpa using h4 0 (by omega) (by simp)
      have ih := cut_count (f := f) (ts := ts) (k := 0) ⟨by omega, by omega, fun i hi => absurd hi (by omega), fun i hi hl => by simpa using h4 (i + 1) (by omega) (by simpa using hl)⟩
      rw [List.countP_cons_of_neg (by simp [e])]
      exact ih
    · have e : f t = true := by simpa using h3 0 (by omega)
      have ih := cut_count (f := f) (ts := ts) (k := k - 1) ⟨by omega, by simp at h2; omega, fun i hi => by simpa using h3 (i + 1) (by omega), fun i hi hl => by simpa using h4 (i + 1) (by omega) (by simpa using hl)⟩
      rw [List.countP_cons_of_pos e]
      omega
theorem front_asc {f : Int → Bool} {ts : List Int} (h : ts.Pairwise (· ≤ ·)) (hf : ∀ a b, a ≤ b → f b = true → f a = true) : Front f ts := by
  intro i j hij hj hb
  rcases Nat.lt_or_ge i j with h1 | h1
  · have q := List.pairwise_iff_getElem.mp h i j (by omega) hj h1
    have e1 : ts.getD i 0 = ts[i] := by simp [show i < ts.length by omega]
    have e2 : ts.getD j 0 = ts[j] := by simp [hj]
    rw [e2] at hb
    rw [e1]
    exact hf _ _ q hb
  · have : i = j := by omega
    subst this; exact hb
noncomputable def metStep (fr : List (Int × Int)) (st : List Int × Int × Int) (p : Int) : Option (List Int × Int × Int) :=
  if kdfHas fr p = true then
    if lks_asc st.1 = true ∧ st.1.countP (fun t => decide (t < kdfLook fr p 0)) < st.1.length then
      some (st.1.eraseIdx (st.1.countP fun t => decide (t < kdfLook fr p 0)), st.2.1 + ((st.1.length : Int) - ((st.1.countP fun t => decide (t ≤ kdfLook fr p 0) : Nat) : Int)), st.2.2 + ((st.1.countP fun t => decide (t < kdfLook fr p 0) : Nat) : Int))
    else none
  else some (st.1 ++ [p], st.2)
noncomputable def metGo (fr : List (Int × Int)) : List Int → List Int × Int × Int → Option (List Int × Int × Int)
  | [], st => some st
  | p :: r, st => (metStep fr st p).bind (metGo fr r)
noncomputable def frontsM (ps : List (Int × Int)) : List (Int × Int) := ps.foldl (fun c p => kdfPut c p.2 p.1) []
theorem frontsM_len : ∀ (ps c : List (Int × Int)), (ps.foldl (fun c p => kdfPut c p.2 p.1) c).length ≤ c.length + ps.length
  | [], _ => Nat.le_refl _
  | p :: ps, c => by
    have h1 := frontsM_len ps (kdfPut c p.2 p.1)
    have h2 := kdfPut_len c p.2 p.1
    rw [List.foldl_cons, List.length_cons]
    omega
section
variable {fr : List (Int × Int)} {p : Int} {r l : List Int} {c w : Int} {fin : List Int × Int × Int}
theorem met_no (h : metGo fr (p :: r) (l, c, w) = some fin) (hn : kdfHas fr p = false) : metGo fr r (l ++ [p], c, w) = some fin := by
  unfold metGo metStep at h
  rw [if_neg (by simp [hn])] at h
  exact h
theorem met_yes (h : metGo fr (p :: r) (l, c, w) = some fin) (hn : kdfHas fr p = true) : l.Pairwise (· ≤ ·) ∧ (l.countP fun t => decide (t < kdfLook fr p 0)) < l.length ∧
    metGo fr r (l.eraseIdx (l.countP fun t => decide (t < kdfLook fr p 0)), c + ((l.length : Int) - ((l.countP fun t => decide (t ≤ kdfLook fr p 0) : Nat) : Int)), w + ((l.countP fun t => decide (t < kdfLook fr p 0) : Nat) : Int)) = some fin := by
  unfold metGo metStep at h
  rw [if_pos hn] at h
  by_cases q : lks_asc l = true ∧ l.countP (fun t => decide (t < kdfLook fr p 0)) < l.length
  · rw [if_pos q] at h
    exact ⟨lks_asc_spec q.1, q.2, h⟩
  · rw [if_neg q] at h
    cases h
end
end Mine
end
section
open PySem PySem.W PyProof.Rows PyProof.Rows.LCg PyProof.V
set_option Elab.async false
set_option maxRecDepth 100000
set_option maxHeartbeats 4000000
namespace Mine
theorem kx_MMet : True := by
  w_top off
  k_with_none
  trivial
noncomputable def MetJ1 (prog : Program) (w : World) (ps : List (Int × Int)) (fd I : Nat) (base : Led) (_ : Unit) (rem : List Value) (news : Led) : Prop :=
  ∃ (er : List Ent) (dn pr : List (Int × Int)), rem = refs er ∧ EntIs er pr ∧ ps = dn ++ pr ∧ Has news er ∧ DIn prog w news fd (frontsM dn) ∧ (∀ p ∈ base, p.1 ≠ fd → p ∈ news) ∧ (∀ p ∈ news, p.1 ≠ I)
noncomputable def MetJ2 (prog : Program) (w : World) (fr : List (Int × Int)) (fin : List Int × Int × Int) (fd wa I : Nat) (base : Led) (c : (Int × Tok) × (Int × Tok)) (rem : List Nat) (news : Led) : Prop :=
  ∃ (wi : List Int) (xs : List Value) (n : Nat), metGo fr (rem.map fun i : Nat => 0 + (i : Int)) (wi, c.1.1, c.2.1) = some fin ∧ (wa, listOf xs.toArray n) ∈ news ∧ IntsAre xs wi ∧ wi.length + rem.length ≤ 6 ∧ DIn prog w news fd fr ∧ (∀ p ∈ base, p.1 ≠ wa → p ∈ news) ∧ (∀ p ∈ news, p.1 ≠ I)
section
variable {prog : Program} {w : World} {G h' : Heap} {L : Addr} {m' m₀ : Str → Option Value} {s₁ : Shared} {tk : Nat} {oI : Obj} {stored : List Str}
theorem its1 {I : Nat} {o : Obj} {a : Nat} (h : a ≠ I) : ∀ q ∈ ([(I, o)] : Led), a ≠ q.1 := fun q hq => by
  rw [List.mem_singleton.mp hq]; exact h
theorem met_end1 {ps dn pr : List (Int × Int)} {x y : Int} {fd I pa : Nat} {pb : Array Value} {pn : Nat} {base news1 led news' : Led} {er : List Ent} {o' : Obj} {G0 : Heap} (hps : ps = dn ++ (x, y) :: pr) (hr : EntIs er pr) (hh : Has news1 er) (hD : DIn prog w news1 fd (frontsM dn)) (hbase : ∀ p ∈ base, p.1 ≠ fd → p ∈ news1) (hoff : ∀ p ∈ news1, p.1 ≠ I) (N1 : ∃ h, News G0 L h news1)
    (F' : Fr G L h' m') (N' : News G L h' news') (P : Turned fd o' led news') (sub : ∀ p ∈ (I, oI) :: news1, p ∈ led) (hD' : DIn prog w [(fd, o')] fd (kdfPut (frontsM dn) y x)) (hst : ∀ z, stored.contains z = false → m' z = m₀ z) (hk : (pa, listOf pb pn) ∈ news1) :
    UnrEndW G L s₁ [(I, oI)] (fun m' n' => SubL [(pa, listOf pb pn)] n' ∧ RInd (fun _ : Unit => []) stored m₀ (MetJ1 prog w ps fd I base) (refs er) m' n') { s₁ with heap := h', toks := tk } := by
  obtain ⟨og, hog⟩ := hD.mem
  have hfI : fd ≠ I := hoff _ hog
  obtain ⟨_, N1⟩ := N1
  have ne : ∀ {b : Nat} {ob : Obj}, (b, ob) ∈ news1 → (∀ es ep, ob.data ≠ .dict es ep) → b ≠ fd := fun hb hn => din_ne N1 hD hb hn
  refine turn_end (more := []) F' N' P sub nil_all (fun p hp => its1 (hoff p hp)) (its1 (hoff _ hog)) ⟨mem_lessL hk (ne hk fun _ _ e => nomatch e), trivial⟩ ⟨(), fun p hp => (nomatch hp), fun z _ h => hst z h, er, dn ++ [(x, y)], pr, rfl, hr, by rw [hps]; simp, ?_, ?_, ?_, ?_⟩
  · exact fun z hz => List.mem_cons_of_mem _ (mem_lessL (hh z hz) (ne (hh z hz) fun _ _ e => nomatch e))
  · unfold frontsM
    rw [List.foldl_append]
    exact hD'.imp fun o h => by rw [List.mem_singleton.mp h]; exact List.mem_cons_self ..
  · exact fun p hp hn => List.mem_cons_of_mem _ (mem_lessL (hbase p hp hn) hn)
  · intro p hp
    rcases List.mem_cons.mp hp with rfl | hp
    · exact hfI
    · exact hoff p (List.mem_filter.mp hp).1
theorem met_end2 {fr : List (Int × Int)} {fin : List Int × Int × Int} {fd wa I n : Nat} {base news1 led news' : Led} {rem : List Nat} {xs ys : List Value} {wi : List Int} {cr wn : Int} {t1 t2 : Tok} {G0 : Heap} (hgo : metGo fr (rem.map fun i : Nat => 0 + (i : Int)) (wi, cr, wn) = some fin) (hi : IntsAre ys wi) (hl : wi.length + rem.length ≤ 6) (hwa : (wa, listOf xs.toArray n) ∈ news1) (hD : DIn prog w news1 fd fr) (hbase : ∀ p ∈ base, p.1 ≠ wa → p ∈ news1) (hoff : ∀ p ∈ news1, p.1 ≠ I) (N1 : ∃ h, News G0 L h news1)
    (F' : Fr G L h' m') (N' : News G L h' news') (P : Turned wa (listOf ys.toArray (n + 1)) led news') (sub : ∀ p ∈ (I, oI) :: news1, p ∈ led) (h1 : m' (Str.ofString "crossed") = some (.int cr t1)) (h2 : m' (Str.ofString "within") = some (.int wn t2)) (hst : ∀ z, z ≠ Str.ofString "crossed" → z ≠ Str.ofString "within" → stored.contains z = false → m' z = m₀ z) :
    UnrEndW G L s₁ [(I, oI)] (fun m' n' => SubL [] n' ∧ RInd (fun c : (Int × Tok) × (Int × Tok) => [(Str.ofString "crossed", Value.int c.1.1 c.1.2), (Str.ofString "within", Value.int c.2.1 c.2.2)]) stored m₀ (MetJ2 prog w fr fin fd wa I base) rem m' n') { s₁ with heap := h', toks := tk } := by
  have hwI : wa ≠ I := hoff _ hwa
  have hne : fd ≠ wa := by
    obtain ⟨_, N1⟩ := N1
    exact Ne.symm (din_ne N1 hD hwa fun _ _ e => nomatch e)
  refine turn_end (more := []) F' N' P sub nil_all (fun p hp => its1 (hoff p hp)) (its1 (hoff _ hwa)) trivial ⟨((cr, t1), (wn, t2)), ?_, fun z hz h => hst z (hz _ (List.mem_cons_self ..)) (hz _ (List.mem_cons_of_mem _ (List.mem_cons_self ..))) h, wi, ys, n + 1, hgo, List.mem_cons_self .., hi, hl, ?_, ?_, ?_⟩
  · intro p hp
    rcases List.mem_cons.mp hp with rfl | hp
    · exact h1
    · rw [List.mem_singleton.mp hp]; exact h2
  · exact hD.imp fun o h => List.mem_cons_of_mem _ (mem_lessL h hne)
  · exact fun p hp hn => List.mem_cons_of_mem _ (mem_lessL (hbase p hp hn) hn)
  · intro p hp
    rcases List.mem_cons.mp hp with rfl | hp
    · exact hwI
    · exact hoff p (List.mem_filter.mp hp).1
end
theorem ints_erase : ∀ {vs : List Value} {ns : List Int}, IntsAre vs ns → ∀ k : Nat, IntsAre (vs.eraseIdx k) (ns.eraseIdx k)
  | _, _, .nil, _ => .nil
  | _, _, .cons _ _ h, 0 => h
  | _, _, .cons n t h, k + 1 => .cons n t (ints_erase h k)
theorem refs_cons {v : Value} {r : List Value} : ∀ {er : List Ent} {pr : List (Int × Int)}, v :: r = refs er → EntIs er pr → ∃ e er' x y pr' t1 t2, er = e :: er' ∧ pr = (x, y) :: pr' ∧ v = .ref e.a ∧ r = refs er' ∧ e.p = .int x t1 ∧ e.q = .int y t2 ∧ EntIs er' pr'
  | [], _, h, _ => nomatch h
  | e :: er, [], _, h => h.elim
  | e :: er, (x, y) :: pr, h, hi => by
    obtain ⟨⟨t1, t2, e1, e2⟩, hi⟩ := hi
    have h' : v :: r = Value.ref e.a :: refs er := h
    injection h' with h1 h2
    exact ⟨e, er, x, y, pr, t1, t2, rfl, rfl, h1, h2, e1, e2, hi⟩
theorem ps_two {m : Str → Option Value} {a b : Str} {x y : Value} (h1 : m a = some x) (h2 : m b = some y) : ∀ p ∈ [(a, x), (b, y)], m p.1 = some p.2 := fun p hp => by
  rcases List.mem_cons.mp hp with rfl | hp
  · exact h1
  · rw [List.mem_singleton.mp hp]; exact h2
noncomputable def DelOk (f : Int → Bool) (ts : List Int) (n : Nat) : Prop := ∀ k : Int, IsCut f ts k → 0 ≤ k ∧ k < n
theorem DelOk.at {f : Int → Bool} {ts : List Int} {n : Nat} {k : Int} (c : IsCut f ts k) (h : DelOk f ts n) : 0 ≤ k ∧ k < n := h k c
theorem kx_MMet_0 : True := by
  k_with "setItem ref int" => (k_here; k_dflt (refine' din_set ?FZk ?NZk ?mZk ?zZk ?_; (case FZk => k_asm); (case NZk => k_asm); (case mZk => exact DIn.imp (by assumption) (fun _ h => by repeat (first | assumption | exact List.mem_cons_self .. | refine List.mem_cons_of_mem _ ?_))); (case zZk => assumption)); intro h' o' news' tk' F' N' P' D'; (try dsimp only))
  trivial
theorem kx_MMet_1 : True := by
  k_with "getMethod ref" => (k_here; (with_reducible show wpAny _ _ (getMethod (Value.ref _) (PySem.Str.ofString "append") _) _ _ _); k_dflt (refine' append_meth ?NZk ?mZk ?_; (case NZk => k_asm); (case mZk => repeat (first | assumption | exact List.mem_cons_self .. | refine List.mem_cons_of_mem _ ?_))))
  trivial
theorem kx_MMet_2 : True := by
  k_with "call builtin:list.append" => (k_here; k_dflt (refine' append_led ?FZk ?NZk ?hmZk ?hzZk ?_; (case FZk => k_asm); (case NZk => k_asm); (case hmZk => repeat (first | assumption | exact List.mem_cons_self .. | refine List.mem_cons_of_mem _ ?_)); (case hzZk => assumption)); intro h' news' F' N' P'; (try dsimp only))
  trivial
theorem kx_MMet_3 : True := by
  k_with "call builtin:len" => (k_here; k_dflt (refine' len_led ?NZk ?hmZk ?hsZk ?_; (case NZk => k_asm); (case hmZk => repeat (first | assumption | exact List.mem_cons_self .. | refine List.mem_cons_of_mem _ ?_)); (case hsZk => assumption)))
  trivial
theorem kx_MMet_4 : True := by
  k_with "compareOp NotIn int ref" => (k_here; k_dflt (refine' kdf_notin (din_tab ?NZk ?mZk) ?_; (case NZk => k_asm); (case mZk => exact DIn.imp (by assumption) (fun _ h => by repeat (first | assumption | exact List.mem_cons_self .. | refine List.mem_cons_of_mem _ ?_)))))
  trivial
theorem kx_MMet_5 : True := by
  k_with "subscriptTail Name Name ref int" => (k_here; k_dflt (refine' kdf_item (din_tab ?NZk ?mZk) ?kZk ?_; (case NZk => k_asm); (case mZk => exact DIn.imp (by assumption) (fun _ h => by repeat (first | assumption | exact List.mem_cons_self .. | refine List.mem_cons_of_mem _ ?_))); (case kZk => assumption)); intro t'; (try dsimp only))
  trivial
theorem kx_MMet_6 : True := by
  k_with "call ref" => (first | (k_here; k_dflt (refine' Ctr.use (c_add_ii _) ?kBZk ?kFZk ?kXZk ?kNZk ?kTZk ?kkZk ?kdZk ?kuZk ?_; (case kBZk => k_asm); (case kFZk => k_asm); (case kXZk => k_asm); (case kNZk => k_asm); (case kTZk => k_asm); (case kkZk => first | exact rfl | assumption); (case kdZk => ktr_room); (case kuZk => ktr_units); k_whole; intro v' news' h' tk' F' N' P'; obtain ⟨t', e1', e2'⟩ := P'; subst e1'; replace e2' := Eq.symm e2'; subst e2'; (try dsimp only))) | (k_here; k_dflt (refine' Ctr.use (c_sub_ii _) ?kBZk ?kFZk ?kXZk ?kNZk ?kTZk ?kkZk ?kdZk ?kuZk ?_; (case kBZk => k_asm); (case kFZk => k_asm); (case kXZk => k_asm); (case kNZk => k_asm); (case kTZk => k_asm); (case kkZk => first | exact rfl | assumption); (case kdZk => ktr_room); (case kuZk => ktr_units); k_whole; intro v' news' h' tk' F' N' P'; obtain ⟨t', e1', e2'⟩ := P'; subst e1'; replace e2' := Eq.symm e2'; subst e2'; (try dsimp only))) | (k_here; k_dflt (refine' Ctr.use (c_br_int _ ?h0Zk ?h1Zk ?h2Zk ?h3Zk) ?kBZk ?kFZk ?kXZk ?kNZk ?kTZk ?kkZk ?kdZk ?kuZk ?_; (case kBZk => k_asm); (case kFZk => k_asm); (case kXZk => k_asm); (case kNZk => k_asm); (case kTZk => k_asm); (case kkZk => first | exact rfl | assumption); (case kdZk => ktr_room); (case kuZk => ktr_units); (case h0Zk => repeat (first | assumption | exact List.mem_cons_self .. | refine List.mem_cons_of_mem _ ?_)); (case h1Zk => assumption); (case h2Zk => assumption); (case h3Zk => exact front_asc (by assumption) (fun a b h1 h2 => by simp only [decide_eq_true_eq] at h2 ⊢; omega)); k_whole; intro v' news' h' tk' F' N' P'; refine el_2_3 (P') ?_; clear P'; rintro t' k' e1' c' e2'; subst e1'; replace e2' := Eq.symm e2'; subst e2'; (try dsimp only))) | (k_here; k_dflt (refine' Ctr.use (c_bl_int _ ?h0Zk ?h1Zk ?h2Zk ?h3Zk) ?kBZk ?kFZk ?kXZk ?kNZk ?kTZk ?kkZk ?kdZk ?kuZk ?_; (case kBZk => k_asm); (case kFZk => k_asm); (case kXZk => k_asm); (case kNZk => k_asm); (case kTZk => k_asm); (case kkZk => first | exact rfl | assumption); (case kdZk => ktr_room); (case kuZk => ktr_units); (case h0Zk => repeat (first | assumption | exact List.mem_cons_self .. | refine List.mem_cons_of_mem _ ?_)); (case h1Zk => assumption); (case h2Zk => assumption); (case h3Zk => exact front_asc (by assumption) (fun a b h1 h2 => by simp only [decide_eq_true_eq] at h2 ⊢; omega)); k_whole; intro v' news' h' tk' F' N' P'; refine el_2_3 (P') ?_; clear P'; rintro t' k' e1' c' e2'; subst e1'; replace e2' := Eq.symm e2'; subst e2'; (try dsimp only))) | (k_here; k_dflt (refine' Ctr.use (c_del _ ?h0Zk ?h1Zk ?h2Zk) ?kBZk ?kFZk ?kXZk ?kNZk ?kTZk ?kkZk ?kdZk ?kuZk ?_; (case kBZk => k_asm); (case kFZk => k_asm); (case kXZk => k_asm); (case kNZk => k_asm); (case kTZk => k_asm); (case kkZk => first | exact rfl | assumption); (case kdZk => ktr_room); (case kuZk => ktr_units); (case h0Zk => repeat (first | assumption | exact List.mem_cons_self .. | refine List.mem_cons_of_mem _ ?_)); (case h1Zk => exact DelOk.at (by assumption) (by assumption)); (case h2Zk => assumption); k_whole; intro v' news' h' tk' F' N' P'; obtain ⟨e1', P'⟩ := P'; subst e1'; (try dsimp only))))
  trivial
theorem c_met (w : World) {pa np : Nat} {es : List Ent} {ps : List (Int × Int)} {l : List Int} {cr wn : Int} {news : Led} (hm : (pa, listOf (refs es).toArray np) ∈ news) (he : Has news es) (hi : EntIs es ps) (hl : ps.length ≤ 63) (hgo : metGo (frontsM ps) [0, 1, 2, 3, 4, 5] ([], 0, 0) = some (l, cr, wn)) :
    Ctr w 121 [.ref pa] [] news 4 64 (fun v news' => ∃ (q n : Nat) (t1 t2 : Tok), v = .ref q ∧ (q, tup2 (.int cr t1) (.int wn t2) n) ∈ news' ∧ (∀ p ∈ news, p ∈ news')) := by
  unfold Ctr
  k_fill
  intro loose mean mg mb dp un gd cn css aa ccd cl outer A₀ base h₀ L m s Q E B F X N T hk hdp hun hret
  refine wpAny_call ?_
  k_dflt cell_enter
  iterate 32 walk1
  rename Fr _ _ _ _ => lF'
  with_unfolding_all (refine' For_turns lF' ?_)
  iterate 1 walk1
  rename News _ _ _ _ => lN
  with_unfolding_all (refine iter_listTurns (vs := refs es) (n := np) (by rfl) lF' lN (List.mem_cons_of_mem _ (List.mem_cons_of_mem _ (List.mem_cons_of_mem _ hm))) rfl rfl ?_)
  clear lF'
  intro I' l1'
  have hD0 := din_new (fun p hp => lN p (List.mem_cons_of_mem _ (List.mem_cons_of_mem _ hp))) (by assumption) (by assumption) (by assumption)
  have hD1 := din_led lN hD0 (fun _ h => List.mem_cons_of_mem _ (List.mem_cons_of_mem _ h))
  have hoff0 : ∀ p ∈ ((_, _) :: (_, _) :: (_, _) :: news : Led), p.1 ≠ I' := fun p hp => Nat.ne_of_lt (l1' p hp)
  with_unfolding_all (refine rest_ind (fun v => Itm.val v) (fun _ : Unit => []) [Str.ofString "front", Str.ofString "back"] _ (MetJ1 Challenge.rw_wf0034_01.row.prog w ps _ I' ((_, _) :: (_, _) :: (_, _) :: news)) ?turn ?done _ _ _ ⟨(), (fun p hp => nomatch hp), (fun _ _ _ => rfl), es, [], ps, rfl, hi, rfl, (fun e h => List.mem_cons_of_mem _ (List.mem_cons_of_mem _ (List.mem_cons_of_mem _ (he e h)))), hD1, (fun p hp _ => hp), hoff0⟩)
  clear hD0 hD1 hoff0
  case turn =>
    rintro c v rem u news1 v' h tk hJz
    refine el_3_7 (hJz) ?_
    clear hJz
    rintro er dn pr hrem her hps hhas hD hbase hoff
    rintro hv F1
    replace hv : v' = v := hv
    subst hv
    refine el_7_7 (refs_cons hrem her) ?_
    rintro e er' x y pr' t1 t2 e1 e2 e3 e4 e5 e6 her'
    subst e1
    subst e2
    subst e3
    subst e4
    have hem := hhas e (List.mem_cons_self ..)
    have hlen : (frontsM dn).length ≤ 16777216 := by
      have h1 := frontsM_len dn []
      have h2 := congrArg List.length hps
      unfold frontsM
      simp at h1 h2
      omega
    refine AllObj.cons fun oI hcI => AllObj.nil fun N1 => ?_
    have N2 : News _ _ _ ((I', oI) :: news1) := N1
    clear N1
    have hT : IsTup h e.a #[.int x t1, .int y t2] := ⟨_, (N2 _ (List.mem_cons_of_mem _ hem)).1, rfl, e.n, by show Data.seq [e.p, e.q].toArray e.n = _; rw [e5, e6]⟩
    have N3 : ∃ h, News _ _ h news1 := ⟨_, fun p hp => N2 p (List.mem_cons_of_mem _ hp)⟩
    dsimp only at F1 ⊢
    k_steps
    rename Turned _ _ _ _ => P9
    rename News _ _ _ _ => N9
    rename Fr _ _ _ _ => F9
    refine met_end1 hps her' (fun z hz => hhas z (List.mem_cons_of_mem _ hz)) hD hbase hoff N3 F9 N9 P9 (fun _ h => h) (by assumption) ?_ (hbase _ (List.mem_cons_of_mem _ (List.mem_cons_of_mem _ (List.mem_cons_of_mem _ hm))) ?_)
    · intro z' hz'
      have q0 : z' ≠ Str.ofString "front" := by intro e; subst e; exact absurd hz' (by decide)
      have q1 : z' ≠ Str.ofString "back" := by intro e; subst e; exact absurd hz' (by decide)
      simp only [kstB, hz', q0, q1, Bool.false_eq_true, if_false]
    · exact Nat.ne_of_lt (‹∀ p ∈ news, p.1 < _› _ hm)
  case done =>
    rintro c u news1 h tk hJz
    refine el_3_7 (hJz) ?_
    clear hJz
    rintro er dn pr hrem her hps hhas hD hbase hoff
    rintro F1 N1
    have her0 : er = [] := by
      cases er with
      | nil => rfl
      | cons _ _ => exact nomatch hrem
    subst her0
    have hpr : pr = [] := by
      cases pr with
      | nil => rfl
      | cons _ _ => exact her.elim
    subst hpr
    rw [List.append_nil] at hps
    subst hps
    dsimp only at F1 ⊢
    have lfd := ‹∀ p ∈ news, p.1 < _›
    have lwa := ‹_ ∧ AllLt _ news›
    have hwa1 := hbase _ (List.mem_cons_of_mem _ (List.mem_cons_self ..)) (Ne.symm (Nat.ne_of_lt lwa.1))
    have hnews1 : ∀ p ∈ news, p ∈ news1 := fun p hp => hbase p (List.mem_cons_of_mem _ (List.mem_cons_of_mem _ (List.mem_cons_of_mem _ hp))) (Nat.ne_of_lt (lfd p hp))
    have lwn := allLt_all lwa.2
    clear hbase
    iterate 1 walk1
    rename Fr _ _ _ _ => lF'
    with_unfolding_all (refine' For_turns lF' ?_)
    iterate 7 walk1
    with_unfolding_all (refine turns_range (n := 6) (by rfl) (by assumption) (by rfl) (by rfl) (by assumption) (by assumption) ?_)
    intro I2 l2'
    have hoff0 : ∀ p ∈ news1, p.1 ≠ I2 := fun p hp => Nat.ne_of_lt (l2' p hp)
    with_unfolding_all (refine rest_ind (fun i : Nat => Itm.tok fun t => .int (0 + (i : Int)) t) (fun c : (Int × Tok) × (Int × Tok) => [(Str.ofString "crossed", Value.int c.1.1 c.1.2), (Str.ofString "within", Value.int c.2.1 c.2.2)]) [Str.ofString "place", Str.ofString "spot"] _ (MetJ2 Challenge.rw_wf0034_01.row.prog w (frontsM ps) (l, cr, wn) _ _ I2 news) ?turn2 ?done2 (List.range 6) _ _ ⟨((0, _), (0, _)), ps_two (by rfl) (by rfl), (fun _ _ _ => rfl), [], [], _, hgo, hwa1, .nil, (by decide), hD, (fun p hp _ => hnews1 p hp), hoff0⟩)
    clear hoff0
    case turn2 =>
      rintro ⟨⟨cr0, tc⟩, wn0, tw⟩ i rem2 u2 news2 v2 h2 tk2 hJz
      refine el_3_7 (hJz) ?_
      clear hJz
      rintro wi xs n2 hgo2 hwa2 hxs hlen2 hD2 hbase2 hoff2
      rintro ⟨t2, e2⟩ F2
      subst e2
      have hgo3 : metGo (frontsM ps) ((0 + (i : Int)) :: rem2.map fun i : Nat => 0 + (i : Int)) (wi, cr0, wn0) = some (l, cr, wn) := hgo2
      have hxl := hxs.length
      have hl64 : wi.length ≤ 64 := by simp only [List.length_cons] at hlen2; omega
      have hx64 : xs.length ≤ 64 := by omega
      refine AllObj.cons fun oI2 hcI2 => AllObj.nil fun N4 => ?_
      have N5 : News _ _ _ ((I2, oI2) :: news2) := N4
      clear N4
      have N6 : ∃ h, News _ _ h news2 := ⟨_, fun p hp => N5 p (List.mem_cons_of_mem _ hp)⟩
      dsimp only at F2 ⊢
      cases hfr : kdfHas (frontsM ps) (0 + (i : Int)) with
      | false =>
        k_steps
        rename Turned _ _ _ _ => P9
        rename News _ _ _ _ => N9
        rename Fr _ _ _ _ => F9
        refine met_end2 (met_no hgo3 hfr) (ints_snoc hxs) (by simp only [List.length_append, List.length_cons, List.length_nil] at hlen2 ⊢; omega) hwa2 hD2 hbase2 hoff2 N6 F9 N9 P9 (fun _ h => h) rfl rfl ?_
        intro z' hz1 hz2 hz'
        have q0 : z' ≠ Str.ofString "place" := by intro e; subst e; exact absurd hz' (by decide)
        have q1 : z' ≠ Str.ofString "spot" := by intro e; subst e; exact absurd hz' (by decide)
        simp only [kstB, hz', hz1, hz2, q0, q1, Bool.false_eq_true, if_false]
      | true =>
        obtain ⟨hasc, hlt, hgo4⟩ := met_yes hgo3 hfr
        have hdel : DelOk (fun t => decide (t < kdfLook (frontsM ps) (0 + (i : Int)) 0)) wi xs.length := fun k hk => by
          have := cut_count hk
          omega
        k_steps
        rename Turned _ _ _ _ => P9
        rename News _ _ _ _ => N9
        rename Fr _ _ _ _ => F9
        have c1 := cut_count ‹IsCut (fun t => decide (t ≤ kdfLook (frontsM ps) (0 + (i : Int)) 0)) wi _›
        have c2 := cut_count ‹IsCut (fun t => decide (t < kdfLook (frontsM ps) (0 + (i : Int)) 0)) wi _›
        rw [c2] at P9 F9
        rw [c1, hxl] at F9
        refine met_end2 hgo4 (ints_erase hxs _) (by rw [List.length_eraseIdx]; split <;> (simp only [List.length_cons] at hlen2; omega)) hwa2 hD2 hbase2 hoff2 N6 F9 N9 P9 (fun _ h => h) rfl rfl ?_
        intro z' hz1 hz2 hz'
        have q0 : z' ≠ Str.ofString "place" := by intro e; subst e; exact absurd hz' (by decide)
        have q1 : z' ≠ Str.ofString "spot" := by intro e; subst e; exact absurd hz' (by decide)
        simp only [kstB, hz', hz1, hz2, q0, q1, Bool.false_eq_true, if_false]
    case done2 =>
      rintro ⟨⟨cr0, tc⟩, wn0, tw⟩ u2 news2 h2 tk2 hJz
      refine el_3_7 (hJz) ?_
      clear hJz
      rintro wi xs n2 hgo2 hwa2 hxs hlen2 hD2 hbase2 hoff2
      rintro F2 N2
      have e9 : (wi, cr0, wn0) = (l, cr, wn) := Option.some.inj hgo2
      injection e9 with e1 e9
      injection e9 with e2 e3
      subst e1
      subst e2
      subst e3
      dsimp only at F2 ⊢
      k_steps
      rename News _ _ _ _ => N9
      refine hret _ _ _ _ (by k_asm) N9 ⟨_, _, _, _, rfl, List.mem_cons_self .., fun p hp => List.mem_cons_of_mem _ (hbase2 p hp (Nat.ne_of_lt (lwn p hp)))⟩
end Mine
end
section
open PySem PySem.W PyProof.Rows PyProof.Rows.LCg
set_option Elab.async false
set_option maxRecDepth 100000
set_option maxHeartbeats 1000000
namespace Mine
open PySem.Calls
section
variable {prog : Program} {w : World} {A : Around} {E : Value → Shared → Prop} {s : Shared} {h₀ : Heap} {L D : Addr} {m : Str → Option Value} {news : Led} {n : Nat} {l : List Value}
theorem truthy_led {Q : Bool → Shared → Prop} (N : News h₀ L s.heap news) (hm : (D, listOf l.toArray n) ∈ news) (hz : l.length ≤ 64) (h : Q (!l.isEmpty) { s with toks := s.toks + 1 + 1 }) : wpAny (model prog w) A (truthy (.ref D)) Q E s := by
  have hl : s.heap.IsList D l.toArray := ⟨_, (N _ hm).1, rfl, n, rfl⟩
  refine wpAny_truthy_list hl (by simp; omega) ?_
  have e : (!l.toArray.isEmpty) = !l.isEmpty := by simp
  rw [e]; exact h
theorem truthy_cons {x : Value} {Q : Bool → Shared → Prop} (N : News h₀ L s.heap news) (hm : (D, listOf (x :: l).toArray n) ∈ news) (hz : (x :: l).length ≤ 64) (h : Q true { s with toks := s.toks + 1 + 1 }) : wpAny (model prog w) A (truthy (.ref D)) Q E s := truthy_led N hm hz h
theorem truthy_nil {Q : Bool → Shared → Prop} (N : News h₀ L s.heap news) (hm : (D, listOf ([] : List Value).toArray n) ∈ news) (h : Q false { s with toks := s.toks + 1 + 1 }) : wpAny (model prog w) A (truthy (.ref D)) Q E s := truthy_led N hm (Nat.zero_le _) h
theorem iadd_led {b : Addr} {k : Nat} {r : List Value} {Q : Value → Shared → Prop} (F : Fr h₀ L s.heap m) (N : News h₀ L s.heap news) (hm : (D, listOf l.toArray n) ∈ news) (hb : (b, listOf r.toArray k) ∈ news) (hz : l.length + r.length ≤ 1000)
    (h : ∀ h' news' n', Fr h₀ L h' m → News h₀ L h' news' → Turned D (listOf (l ++ r).toArray n') news news' → Q (.ref D) { s with heap := h' }) :
    wpAny (model prog w) A (inplaceOp .Add (.ref D) (.ref b)) Q E s := by
  have z := N _ hm
  have zb := N _ hb
  have ha : s.TypeIs (.ref D) "list" := ⟨_, z.1, rfl⟩
  have hb' : s.TypeIs (.ref b) "list" := ⟨_, zb.1, rfl⟩
  have hlk : typeLookup (.type "list") (dunderI "add") = pure (some (.builtin "list.__iadd__")) := PySem.F.slot_list_iadd.lookup
  have hsq : isSeqSlot (some (.builtin "list.__iadd__")) = true := by decide +kernel
  unfold inplaceOp
  refine wpAny_holding ?_
  have hfi : fillsInplaceSlot (.type "list") "add" (Operator.Add == .Add) = pure false := by
    unfold fillsInplaceSlot
    show (typeLookup (.type "list") (dunderI "add") >>= fun fi => pure (fi.isSome && !isSeqSlot fi)) = pure false
    rw [hlk]
    show pure ((some (Value.builtin "list.__iadd__")).isSome && !isSeqSlot (some (.builtin "list.__iadd__"))) = (pure false : Sem Bool)
    rw [hsq]; rfl
  have hsi : seqSlot? (.type "list") (dunderI "add") = pure (some (.builtin "list.__iadd__")) := by
    unfold seqSlot?
    rw [hlk]
    show (if (!isSeqSlot (some (.builtin "list.__iadd__"))) = true then (pure none : Sem (Option Value)) else _) = _
    rw [hsq]; rfl
  refine wpAny_bind (wpAny_typeOf ha (wpAny_bind (wpAny_of_eq hfi ?_)))
  show wpAny _ A (if false = true then _ else _) Q E s
  rw [if_neg Bool.false_ne_true]
  refine wpAny_bind (binaryOp1_none (nm := "add") ha hb' ?_ ?_)
  · exact PySem.noFill_list_add
  refine wpAny_bind (wpAny_of_eq hsi ?_)
  have hs1 : l.toArray.size ≤ sizeLine := by rw [sizeLine_eq]; simp; omega
  have hs2 : l.toArray.size + r.toArray.size ≤ sizeLine + 1 := by rw [sizeLine_eq]; simp; omega
  have hs0 : ¬ (!l.toArray.isEmpty && Builtin.List.listTooLong (l.toArray.size + r.toArray.size)) = true := by
    have e : Builtin.List.listTooLong (l.toArray.size + r.toArray.size) = false := by
      unfold Builtin.List.listTooLong
      exact decide_eq_false (by rw [sizeLine_eq]; simp; omega)
    rw [e]; simp
  have s1 := Heap.SameBut.update s.heap D (Obj.mapSeq fun x => x ++ r.toArray)
  have g1 := get?_update_seq z.1 fun x => x ++ r.toArray
  refine wpAny_bind (wpAny_rule (call_meets PySem.F.slot_list_iadd ha PySem.F.entry_list_iadd (PySem.F.args_list_iadd_2 _ _) (PySem.AutoSeq1.list___iadd___list_list_0 D l.toArray n b r.toArray k hs0 hs1 hs2) ⟨z.1, zb.1, ?_⟩))
  obtain ⟨n', g2⟩ : ∃ n', (s.heap.update D (Obj.mapSeq fun x => x ++ r.toArray)).get? D = some (listOf (l ++ r).toArray n') := ⟨_, by
    have e : l.toArray ++ r.toArray = (l ++ r).toArray := List.append_toArray ..
    rw [← e]; exact g1⟩
  refine h _ _ n' (F.change s1 z.2.1 z.2.2) (fun p hp => ?_) turned_head
  rcases List.mem_cons.mp hp with rfl | hp
  · exact ⟨g2, z.2⟩
  · have q := N p (List.mem_filter.mp hp).1
    exact ⟨s1.extBut _ _ (lessL_off p hp) q.1, q.2⟩
/-- a name of the frame that is a cell is stored: the cell stands at the ledger's head but one -/
theorem cell_store {cn : Str} {cs : Scope} {a c : Addr} {ccd : Value} {cl : List (Str × Addr)} {x : Str} {v : Value} {v₀ : Option Value} {o : Obj} {it : Addr × Obj} {rest : Led} {Q : Unit → Shared → Prop} (F : Fr h₀ L s.heap m) (N : News h₀ L s.heap (it :: (c, o) :: rest)) (hc : cl.lookup x = some c) (hi : it.1 ≠ c) (off : ∀ p ∈ rest, p.1 ≠ c) (hd : o.data = .cell v₀)
    (h : ∀ h' o', Fr h₀ L h' m → News h₀ L h' (it :: (c, o') :: rest) → o'.data = .cell (some v) → Q () { s with heap := h' })
    (hk : cs.kind = .function := by rfl) (hx : (envX cn cs L a ccd cl).kindOf x = some .cell := by rfl) : wpAny (model prog w) A (storeName (envX cn cs L a ccd cl) x v) Q E s :=
  storeX_C F N hc (.tail hi (.head off)) hd h hk hx
theorem item_listL {a : Addr} {vs : List Value} {i : Nat} {k : Int} {u : Tok} {y : Value} {Q : Value → Shared → Prop} {value slice : PySem.Expr} (N : News h₀ L s.heap news) (hm : (a, listOf vs.toArray i) ∈ news) (h0 : 0 ≤ k) (hk : k < 64) (hx : vs[k.toNat]? = some y) (h : Q y s)
    (he : subscripted slice false (.ref a) (.int k u) = operate [.ref a, .int k u] (getItem (.ref a) (.int k u)) := by with_unfolding_all rfl) :
    wpAny (model prog w) A (subscriptTail value slice (.ref a) (.int k u)) Q E s := by
  have hl : s.heap.IsList a vs.toArray := ⟨_, (N _ hm).1, rfl, i, rfl⟩
  exact tail_any hl.typeIs slot_list_getitem.lookup (wpAny_getItem_list hl h0 (by omega) (by simpa using hx) h) he
theorem cell_load {cn : Str} {cs : Scope} {a c : Addr} {ccd : Value} {cl : List (Str × Addr)} {x : Str} {pos : Pos} {v : Value} {o : Obj} {Q : Value → Shared → Prop} (N : News h₀ L s.heap news) (hc : cl.lookup x = some c) (hm : (c, o) ∈ news) (hd : o.data = .cell (some v)) (h : Q v s)
    (hk : cs.kind = .function := by rfl) (hx : (envX cn cs L a ccd cl).kindOf x = some .cell := by rfl) (hb : (x == ("__debug__" : Str)) = false := by decide) : wpAny (model prog w) A (eval (.Name x pos) (envX cn cs L a ccd cl)) Q E s :=
  wpAny_Name (wpAny_loadName_cell hk hx hc ⟨o, N.get hm, hd⟩ h) hb
end
section
variable {prog : Program} {w : World} {A : Around} {s : Shared} {h₀ : Heap} {L : Addr} {m : Str → Option Value} {env : Env} {ct elt : Expr} {x : Str} {scope : Scope} {cl : List (Str × Addr)} {S : Led → Prop} {Fin : List Value → Led → Prop}
theorem compEnd_mono {I C D : Addr} {s₁ s₂ : Shared} {oI oC oD : Obj} {f g : Value → Led → Prop} {y : Value} (h : CompEnd h₀ L m s₁ I oI C oC D oD S f y s₂) (hf : ∀ y n, f y n → g y n) : CompEnd h₀ L m s₁ I oI C oC D oD S g y s₂ := by
  obtain ⟨h', tk, n', e, F, N, o, hS, r⟩ := h
  exact ⟨h', tk, n', e, F, N, o, hS, hf _ _ r⟩
/-- a comprehension over a list of the ledger, by induction: what is left, what is made, the ledger -/
theorem comp_ind (J : List Value → List Value → Led → Prop) (vs : List Value)
    (turn : ∀ v r ys news, J (v :: r) ys news → ∀ I oI C oC D m₂ h tk (E' : Value → Shared → Prop), NsObj oC m₂ → m₂ x = some v → Fr h₀ L h m → News h₀ L h ((I, oI) :: (C, oC) :: (D, lst ys) :: news) → Off3 I C D news → ((@Ne Nat I C) ∧ (@Ne Nat I D) ∧ (@Ne Nat C D)) →
      wpAny (model prog w) A (eval elt (compEnvC scope cl C env)) (CompEnd h₀ L m { s with heap := h, toks := tk } I oI C oC D (lst ys) S (fun y news' => J r (ys ++ [y]) news')) E' { s with heap := h, toks := tk })
    (fin : ∀ ys news, J [] ys news → Fin ys news) :
    ∀ (k i : Nat) (ys : List Value) (news : Led), k + i = vs.length → J (vs.drop i) ys news → CompRest prog w A h₀ L m env elt x scope cl s S (fun i v => vs.toArray[i]? = some v) Fin k i ys news
  | 0, i, ys, news, e, h => by
    rw [List.drop_eq_nil_of_le (by omega)] at h
    exact fin ys news h
  | k + 1, i, ys, news, e, h => by
    have hi : i < vs.length := by omega
    refine CompRest.succ fun v I oI C oC D m₂ g tk E' hv hC hx F N off ne => ?_
    have hv' : vs[i] = v := by
      have q : vs[i]? = some v := by simpa using hv
      exact (List.getElem?_eq_some_iff.mp q).2
    rw [List.drop_eq_getElem_cons hi, hv'] at h
    exact wpAny_mono (turn v _ ys news h I oI C oC D m₂ g tk E' hC hx F N off ne) (fun y s₂ q => compEnd_mono q fun y n j => comp_ind J vs turn fin k (i + 1) (ys ++ [y]) n (by omega) j) fun _ _ q => q
theorem compT_ind (J : List Value → List Value → Led → Prop) (vs : List Value)
    (turn : ∀ v r ys news, J (v :: r) ys news → ∀ I oI C oC D m₂ h tk (E' : Value → Shared → Prop), NsObj oC m₂ → m₂ x = some v → Fr h₀ L h m → News h₀ L h ((I, oI) :: (C, oC) :: (D, lst ys) :: news) → Off3 I C D news → ((@Ne Nat I C) ∧ (@Ne Nat I D) ∧ (@Ne Nat C D)) →
      wpAny (model prog w) A (isTrue ct (compEnvC scope cl C env) (eval ct (compEnvC scope cl C env))) (fun ok s' => if ok = true then
        wpAny (model prog w) A (eval elt (compEnvC scope cl C env)) (CompEnd h₀ L m { s with heap := h, toks := tk } I oI C oC D (lst ys) S (fun y news' => J r (ys ++ [y]) news')) E' s'
        else CompEnd h₀ L m { s with heap := h, toks := tk } I oI C oC D (lst ys) S (fun _ news' => J r ys news') Value.none s') E' { s with heap := h, toks := tk })
    (fin : ∀ ys news, J [] ys news → Fin ys news) :
    ∀ (k i : Nat) (ys : List Value) (news : Led), k + i = vs.length → J (vs.drop i) ys news → LCt.CompRestT prog w A h₀ L m env ct elt x scope cl s S (fun i v => vs.toArray[i]? = some v) Fin k i ys news
  | 0, i, ys, news, e, h => by
    rw [List.drop_eq_nil_of_le (by omega)] at h
    exact fin ys news h
  | k + 1, i, ys, news, e, h => by
    have hi : i < vs.length := by omega
    refine LCt.CompRestT.succ fun v I oI C oC D m₂ g tk E' hv hC hx F N off ne => ?_
    have hv' : vs[i] = v := by
      have q : vs[i]? = some v := by simpa using hv
      exact (List.getElem?_eq_some_iff.mp q).2
    rw [List.drop_eq_getElem_cons hi, hv'] at h
    refine wpAny_mono (turn v _ ys news h I oI C oC D m₂ g tk E' hC hx F N off ne) (fun ok s₂ q => ?_) fun _ _ q => q
    cases ok with
    | true =>
      simp only [if_true] at q ⊢
      exact wpAny_mono q (fun y s₃ q => compEnd_mono q fun y n j => compT_ind J vs turn fin k (i + 1) (ys ++ [y]) n (by omega) j) fun _ _ q => q
    | false =>
      simp only [Bool.false_eq_true, if_false] at q ⊢
      exact compEnd_mono q fun _ n j => compT_ind J vs turn fin k (i + 1) ys n (by omega) j
end
end Mine
end
section
open PySem PySem.W PyProof.Rows PyProof.Rows.LCg PyProof.V
set_option Elab.async false
set_option maxRecDepth 100000
set_option maxHeartbeats 2000000
namespace Mine
theorem kx_MPair : True := by
  w_top off
  k_with_none
  trivial
/-- the values are lists of pairs that lie behind lo -/
noncomputable def WaysAre (lo : Nat) (news : Led) : List Value → List (List (Int × Int)) → Prop
  | [], [] => True
  | v :: vs, W :: Ws => (∃ (a : Nat) (es : List Ent) (n : Nat), v = .ref a ∧ lo ≤ a ∧ (a, listOf (refs es).toArray n) ∈ news ∧ Has news es ∧ EntIs es W) ∧ WaysAre lo news vs Ws
  | _, _ => False
noncomputable def pairF : Nat → List Int → List (List (Int × Int))
  | 0, _ => [[]]
  | _ + 1, [] => [[]]
  | k + 1, p :: ps => ps.flatMap fun o => (pairF k (ps.filter fun z => z != o)).map fun way => (p, o) :: way
noncomputable abbrev PairPost (news : Led) (W : List (List (Int × Int))) (v : Value) (news' : Led) : Prop := ∃ (q : Nat) (vs : List Value) (n lo : Nat), v = .ref q ∧ (q, listOf vs.toArray n) ∈ news' ∧ WaysAre lo news' vs W ∧ (∀ p ∈ news, p ∈ news')
theorem Ctr.mono {w : World} {f : Addr} {vs : List Value} {kw : List (Str × Value)} {news : Led} {d u d' u' : Nat} {post : Value → Led → Prop} (C : Ctr w f vs kw news d u post) (hd : d ≤ d') (hu : u ≤ u') : Ctr w f vs kw news d' u' post := by
  intro loose mean mg mb dp un gd cn cs aa ccd cl outer A₀ base h₀ L m s Q E B F X N T' hk hdp hun hret
  exact C _ _ _ _ _ _ _ _ _ _ _ _ _ _ _ _ _ _ _ _ _ B F X N T' hk (by omega) (by omega) hret
theorem pair_nil_post {q a n k : Nat} {c1 c2 : Addr × Obj} {news : Led} : PairPost news [[]] (.ref q) ((q, listOf [Value.ref a].toArray n) :: (a, listOf ([] : List Value).toArray k) :: c1 :: c2 :: news) :=
  ⟨q, [.ref a], n, 0, rfl, List.mem_cons_self .., ⟨⟨a, [], k, rfl, Nat.zero_le _, List.mem_cons_of_mem _ (List.mem_cons_self ..), (fun _ h => nomatch h), trivial⟩, trivial⟩, fun _ hp => List.mem_cons_of_mem _ (List.mem_cons_of_mem _ (List.mem_cons_of_mem _ (List.mem_cons_of_mem _ hp)))⟩
theorem kx_MPair_0 : True := by
  k_with "ENTERC" => (refine' code_defC ?k1Zk ?k2Zk ?k3Zk ?k4Zk ?k5Zk ?kAZk ?kFZk ?kKZk ?k6Zk ?k7Zk ?k8Zk ?k9Zk ?kBZk ?kDZk ?_ ?c2Zk ?c3Zk ?c4Zk; (case kAZk => exact rfl); (case kFZk => exact rfl); (case kKZk => first | exact rfl | assumption); (case k1Zk => k_asm); (case k2Zk => k_asm); (case k3Zk => k_asm); (case k4Zk => k_asm); (case k5Zk => k_asm); (case k6Zk => k_is); (case k7Zk => k_is); (case k8Zk => ktr_room); (case k9Zk => exact BindsTo.of_eq rfl); (case kBZk => exact rfl); (case kDZk => decide +kernel); (case c2Zk => exact rfl); (case c3Zk => exact rfl); (case c4Zk => exact rfl); k_whole; intro g' L' h' tk' cells' FG' F' N' Y' B' X' T' l1; (try k_lt l1); k_cells Y'; (try simp only [List.cons_append, List.nil_append] at N'); (try dsimp only); (try k_lift B'); (try k_fold))
  trivial
theorem kx_MPair_1 : True := by
  k_with "subscriptTail Name Slice ref ref" => (k_here; (with_reducible show wpAny _ _ (subscriptTail _ (PySem.Expr.Slice (some _) none none _) (Value.ref _) (Value.ref _)) _ _ _); k_dflt (refine' slice_from ?FZk ?NZk ?hmZk ?hzZk ?hkZk ?_; (case FZk => k_asm); (case NZk => k_asm); (case hmZk => repeat (first | assumption | exact List.mem_cons_self .. | refine List.mem_cons_of_mem _ ?_)); (case hzZk => assumption); (case hkZk => assumption)); intro D' h' F' N' l1)
  trivial
theorem kx_MPair_2 : True := by
  k_with "storeName" => (k_here; k_dflt (refine' cell_store ?FZk ?NZk ?hcZk ?hiZk ?offZk ?hdZk ?_; (case FZk => k_asm); (case NZk => k_asm); (case hcZk => exact rfl); (case hiZk => assumption); (case offZk => assumption); (case hdZk => assumption)); intro h' o' F' N' d')
  trivial
theorem kx_MPair_3 : True := by
  k_with "subscriptTail Name Constant ref int" => (k_here; k_dflt (refine' item_listL ?NZk ?hmZk ?h0Zk ?hkZk ?hxZk ?_; (case NZk => k_asm); (case hmZk => repeat (first | assumption | exact List.mem_cons_self .. | refine List.mem_cons_of_mem _ ?_)); (case h0Zk => decide); (case hkZk => decide); (case hxZk => exact rfl)))
  trivial
theorem kx_MPair_4 : True := by
  k_with "binaryOp Add ref ref" => (k_here; k_dflt (refine' add_led ?FZk ?NZk ?haZk ?hbZk ?hzZk ?_; (case FZk => k_asm); (case NZk => k_asm); (case haZk => repeat (first | assumption | exact List.mem_cons_self .. | refine List.mem_cons_of_mem _ ?_)); (case hbZk => repeat (first | assumption | exact List.mem_cons_self .. | refine List.mem_cons_of_mem _ ?_)); (case hzZk => apply_assumption)); intro D' h' F' N' l1)
  trivial
theorem kx_MPair_5 : True := by
  k_with "inplaceOp Add ref ref" => (k_here; k_dflt (refine' iadd_led ?FZk ?NZk ?haZk ?hbZk ?hzZk ?_; (case FZk => k_asm); (case NZk => k_asm); (case haZk => repeat (first | assumption | exact List.mem_cons_self .. | refine List.mem_cons_of_mem _ ?_)); (case hbZk => repeat (first | assumption | exact List.mem_cons_self .. | refine List.mem_cons_of_mem _ ?_)); (case hzZk => assumption)); intro h' news' n' F' N' P')
  trivial
theorem kx_MPair_6 : True := by
  k_with "eval Name" => (k_here; (fail_if_success (with_reducible show wpAny _ _ (eval (PySem.Expr.Name _ _) (compEnvC _ _ _ _)) _ _ _)); k_dflt (refine' cell_load ?NZk ?hcZk ?hmZk ?hdZk ?_; (case NZk => k_asm); (case hcZk => exact rfl); (case hmZk => repeat (first | assumption | exact List.mem_cons_self .. | refine List.mem_cons_of_mem _ ?_)); (case hdZk => assumption)))
  trivial
theorem kx_MPair_7 : True := by
  k_with "eval Name" => (k_here; (with_reducible show wpAny _ _ (eval (PySem.Expr.Name _ _) (compEnvC _ _ _ _)) _ _ _); k_dflt (refine' lcf_cell ?NZk ?cZk ?mZk ?dZk ?_ ?aZk ?bZk; (case aZk => rfl); (case bZk => rfl); (case NZk => k_asm); (case cZk => rfl); (case mZk => repeat (first | assumption | exact List.mem_cons_self .. | refine List.mem_cons_of_mem _ ?_)); (case dZk => assumption)))
  trivial
theorem kx_MPair_8 : True := by
  k_with "truthy ref" => (first | (k_here; k_dflt (refine' truthy_cons ?NZk ?hmZk ?hzZk ?_; (case NZk => k_asm); (case hmZk => repeat (first | assumption | exact List.mem_cons_self .. | refine List.mem_cons_of_mem _ ?_)); (case hzZk => assumption))) | (k_here; k_dflt (refine' truthy_nil ?NZk ?hmZk ?_; (case NZk => k_asm); (case hmZk => repeat (first | assumption | exact List.mem_cons_self .. | refine List.mem_cons_of_mem _ ?_)))))
  trivial
theorem c_pair_nil (w : World) {pa np : Nat} {news : Led} (hm : (pa, listOf ([] : List Value).toArray np) ∈ news) : Ctr w 114 [.ref pa] [] news 1 8 (PairPost news [[]]) := by
  unfold Ctr
  k_fill
  intro loose mean mg mb dp un gd cn css aa ccd cl outer A₀ base h₀ L m s Q E B F X N T hk hdp hun hret
  refine wpAny_call ?_
  k_dflt walk_at "ENTERC"
  rename Frag.In _ _ => lX
  k_steps
  rename News _ _ _ _ => N9
  exact hret _ _ _ _ (by k_asm) N9 pair_nil_post
theorem WaysAre.imp {lo : Nat} {news news' : Led} (hs : ∀ (a : Nat) (o : Obj), (∃ xs n, o.data = .seq xs n) → (o.cls = .type "list" ∧ lo ≤ a ∨ o.cls = .type "tuple") → (a, o) ∈ news → (a, o) ∈ news') : ∀ {vs : List Value} {Ws : List (List (Int × Int))}, WaysAre lo news vs Ws → WaysAre lo news' vs Ws
  | [], [], _ => trivial
  | _ :: _, _ :: _, h => by
    obtain ⟨⟨a, es, n, e, l, hm, hh, hi⟩, h⟩ := h
    exact ⟨⟨a, es, n, e, l, hs a _ ⟨_, _, rfl⟩ (.inl ⟨rfl, l⟩) hm, fun z hz => hs _ _ ⟨_, _, rfl⟩ (.inr rfl) (hh z hz), hi⟩, WaysAre.imp hs h⟩
theorem WaysAre.append {lo : Nat} {news : Led} {us : List Value} {Us : List (List (Int × Int))} (hu : WaysAre lo news us Us) : ∀ {vs : List Value} {Ws : List (List (Int × Int))}, WaysAre lo news vs Ws → WaysAre lo news (vs ++ us) (Ws ++ Us)
  | [], [], _ => hu
  | _ :: _, _ :: _, h => ⟨h.1, WaysAre.append hu h.2⟩
noncomputable def bF : Nat → Nat
  | 0 => 1
  | k + 1 => 1 + k * bF k
theorem flat_len {α : Type} (f : Int → List α) (b : Nat) : ∀ ns : List Int, (∀ o ∈ ns, (f o).length ≤ b) → (ns.flatMap f).length ≤ ns.length * b
  | [], _ => by simp
  | o :: ns, h => by
    have h1 := h o (List.mem_cons_self ..)
    have h2 := flat_len f b ns fun z hz => h z (List.mem_cons_of_mem _ hz)
    rw [List.flatMap_cons, List.length_append, List.length_cons, Nat.add_mul, Nat.one_mul]
    omega
theorem pairF_len : ∀ (k : Nat) (ns : List Int), ns.length ≤ k → (pairF k ns).length ≤ bF k
  | 0, _, _ => Nat.le_refl _
  | k + 1, [], _ => by
    show 1 ≤ 1 + k * bF k
    omega
  | k + 1, p :: ps, h => by
    have hp : ps.length ≤ k := by simpa using h
    show (ps.flatMap fun o => (pairF k (ps.filter fun z => z != o)).map fun way => (p, o) :: way).length ≤ 1 + k * bF k
    refine Nat.le_trans (flat_len _ (bF k) ps fun o _ => ?_) ?_
    · rw [List.length_map]
      exact pairF_len k _ (Nat.le_trans (List.length_filter_le _ _) hp)
    · have := Nat.mul_le_mul_right (bF k) hp
      omega
noncomputable abbrev wayStep (k : Nat) (n0 : Int) (ns : List Int) (o : Int) : List (List (Int × Int)) := (pairF k (ns.filter fun z => z != o)).map fun way => (n0, o) :: way
theorem WaysAre.length {lo : Nat} {news : Led} : ∀ {vs : List Value} {Ws : List (List (Int × Int))}, WaysAre lo news vs Ws → vs.length = Ws.length
  | [], [], _ => rfl
  | _ :: _, _ :: _, h => congrArg (· + 1) (WaysAre.length h.2)
noncomputable def PairJ (k wa I oc : Nat) (n0 : Int) (ns : List Int) (base : Led) (_ : Unit) (rem : List Value) (news : Led) : Prop :=
  ∃ (dn rr : List Int) (vs : List Value) (n : Nat) (oo : Obj) (v₀ : Option Value) (rest : Led), news = (oc, oo) :: rest ∧ (∀ p ∈ rest, p.1 ≠ oc) ∧ oo.data = .cell v₀ ∧ ns = dn ++ rr ∧ IntsAre rem rr ∧ (wa, listOf vs.toArray n) ∈ rest ∧ WaysAre (wa + 1) rest vs (dn.flatMap (wayStep k n0 ns)) ∧ (∀ p ∈ base, p.1 ≠ wa → p ∈ rest) ∧ (∀ p ∈ news, p.1 ≠ I)
theorem pair_start {k L0 wa D I : Nat} {h₀ h : Heap} {L : Addr} {n0 : Int} {ns : List Int} {xs : List Value} {oo op : Obj} {v₀ : Option Value} {news : Led} {stored : List Str} {m : Str → Option Value} (_N : News h₀ L h ((L0 + 1 + 1, oo) :: (D, listOf xs.toArray 0) :: (wa, listOf ([] : List Value).toArray 0) :: (L0 + 1, op) :: news)) (hoo : oo.data = .cell v₀) (h1 : L0 + 1 + 1 < wa ∧ L0 + 1 < wa ∧ AllLt wa news) (lD : ∀ p ∈ ((wa, listOf ([] : List Value).toArray 0) :: (L0 + 1 + 1, oo) :: (L0 + 1, op) :: news : Led), p.1 < D) (l0 : ∀ p ∈ news, p.1 < L0) (hi : IntsAre xs ns) (hw : m (Str.ofString "ways") = some (.ref wa))
    (hoff : ∀ p ∈ ((L0 + 1 + 1, oo) :: (D, listOf xs.toArray 0) :: (wa, listOf ([] : List Value).toArray 0) :: (L0 + 1, op) :: news : Led), p.1 ≠ I) :
    RInd (fun _ : Unit => [(Str.ofString "ways", Value.ref wa)]) stored m (PairJ k wa I (L0 + 1 + 1) n0 ns ((D, listOf xs.toArray 0) :: (L0 + 1, op) :: news)) xs m ((L0 + 1 + 1, oo) :: (D, listOf xs.toArray 0) :: (wa, listOf ([] : List Value).toArray 0) :: (L0 + 1, op) :: news) := by
  have l2 : @LT.lt Nat _ wa D := lD _ (List.mem_cons_self ..)
  have l3 := h1.1
  refine ⟨(), (fun p hp => by rw [List.mem_singleton.mp hp]; exact hw), (fun _ _ _ => rfl), [], ns, [], 0, oo, v₀, _, rfl, fun p hp => ?_, hoo, rfl, hi, List.mem_cons_of_mem _ (List.mem_cons_self ..), trivial, fun p hp _ => ?_, hoff⟩
  · rcases List.mem_cons.mp hp with rfl | hp
    · show D ≠ L0 + 1 + 1
      omega
    · rcases List.mem_cons.mp hp with rfl | hp
      · show wa ≠ L0 + 1 + 1
        omega
      · rcases List.mem_cons.mp hp with rfl | hp
        · show L0 + 1 ≠ L0 + 1 + 1
          omega
        · have l4 : @LT.lt Nat _ p.1 L0 := l0 p hp
          show p.1 ≠ L0 + 1 + 1
          intro e
          rw [e] at l4
          omega
  · rcases List.mem_cons.mp hp with rfl | hp
    · exact List.mem_cons_self ..
    · exact List.mem_cons_of_mem _ (List.mem_cons_of_mem _ hp)
noncomputable def LeftJ (led : Led) (o : Int) (ns : List Int) (rem ys : List Value) (news : Led) : Prop :=
  news = led ∧ ∃ dn rr : List Int, ns = dn ++ rr ∧ IntsAre rem rr ∧ IntsAre ys (dn.filter fun z => z != o)
theorem left_yes {led : Led} {o b : Int} {tb : Tok} {ns dn rr : List Int} {r ys : List Value} (hns : ns = dn ++ b :: rr) (hr : IntsAre r rr) (hys : IntsAre ys (dn.filter fun z => z != o)) (hb : (b != o) = true) : LeftJ led o ns r (ys ++ [.int b tb]) led :=
  ⟨rfl, dn ++ [b], rr, by rw [hns]; simp, hr, by rw [List.filter_append, List.filter_cons_of_pos (p := fun z => z != o) hb]; exact ints_snoc hys⟩
theorem left_no {led : Led} {o b : Int} {ns dn rr : List Int} {r ys : List Value} (hns : ns = dn ++ b :: rr) (hr : IntsAre r rr) (hys : IntsAre ys (dn.filter fun z => z != o)) (hb : ¬ (b != o) = true) : LeftJ led o ns r ys led :=
  ⟨rfl, dn ++ [b], rr, by rw [hns]; simp, hr, by rw [List.filter_append, List.filter_cons_of_neg (p := fun z => z != o) hb]; simpa using hys⟩
noncomputable def WayJ (k lo wa : Nat) (n0 o : Int) (ns : List Int) (base : Led) (rem ys : List Value) (news : Led) : Prop :=
  ∃ Wd Wr : List (List (Int × Int)), pairF k (ns.filter fun z => z != o) = Wd ++ Wr ∧ WaysAre lo base rem Wr ∧ WaysAre (wa + 1) news ys (Wd.map fun way => (n0, o) :: way) ∧ (∀ p ∈ base, p ∈ news)
section
variable {k lo wa : Nat} {n0 o : Int} {ns : List Int} {g h' : Heap} {L : Addr} {m : Str → Option Value} {s₁ : Shared} {tk : Nat}
theorem way_end {q n4 n5 Dn l t I C D : Nat} {ol oI oC oD : Obj} {t0 to : Tok} {es : List Ent} {W0 : List (Int × Int)} {Wd Wr : List (List (Int × Int))} {ry ys vs vs4 : List Value} {base news5 : Led} (F : Fr g L h' m)
    (N : News g L h' ((Dn, listOf ([Value.ref t] ++ refs es).toArray 0) :: (l, ol) :: (t, tup2 (.int n0 t0) (.int o to) 0) :: (I, oI) :: (C, oC) :: (D, oD) :: news5)) (ht : I < t ∧ C < t ∧ D < t ∧ AllLt t news5) (hD : ∀ p ∈ ((l, ol) :: (t, tup2 (.int n0 t0) (.int o to) 0) :: (I, oI) :: (C, oC) :: (D, oD) :: news5 : Led), p.1 < Dn) (off : Off3 I C D news5)
    (hq : (q, listOf vs4.toArray n4) ∈ news5) (hwa : (wa, listOf vs.toArray n5) ∈ news5) (hWW : pairF k (ns.filter fun z => z != o) = Wd ++ W0 :: Wr) (hWr : WaysAre lo base ry Wr) (hWd : WaysAre (wa + 1) news5 ys (Wd.map fun way => (n0, o) :: way)) (hsub : ∀ p ∈ base, p ∈ news5) (hh : Has base es) (hi : EntIs es W0) :
    CompEnd g L m s₁ I oI C oC D oD (SrcAt g q vs4.toArray) (fun y news' => WayJ k lo wa n0 o ns base ry (ys ++ [y]) news') (.ref Dn) { s₁ with heap := h', toks := tk } := by
  have c2 : ∀ {p : Addr × Obj}, p ∈ news5 → p ∈ ((Dn, listOf ([Value.ref t] ++ refs es).toArray 0) :: (t, tup2 (.int n0 t0) (.int o to) 0) :: news5 : Led) := fun h => List.mem_cons_of_mem _ (List.mem_cons_of_mem _ h)
  have d1 : @LT.lt Nat _ t Dn := hD _ (List.mem_cons_of_mem _ (List.mem_cons_self ..))
  have d2 : @LT.lt Nat _ wa Dn := hD _ (List.mem_cons_of_mem _ (List.mem_cons_of_mem _ (List.mem_cons_of_mem _ (List.mem_cons_of_mem _ (List.mem_cons_of_mem _ hwa)))))
  refine ⟨h', tk, (Dn, listOf ([Value.ref t] ++ refs es).toArray 0) :: (t, tup2 (.int n0 t0) (.int o to) 0) :: news5, rfl, F, fun p hp => N p ?_, ⟨⟨?_, ?_, ?_⟩, ⟨?_, ?_, ?_⟩, off⟩, .inr ⟨_, c2 hq, rfl, _, rfl⟩, Wd ++ [W0], Wr, by rw [hWW]; simp, hWr, ?_, fun p hp => c2 (hsub p hp)⟩
  · simp only [List.mem_cons] at hp ⊢
    rcases hp with h | h | h | h | h | h
    · exact .inr (.inr (.inr (.inl h)))
    · exact .inr (.inr (.inr (.inr (.inl h))))
    · exact .inr (.inr (.inr (.inr (.inr (.inl h)))))
    · exact .inl h
    · exact .inr (.inr (.inl h))
    · exact .inr (.inr (.inr (.inr (.inr (.inr h)))))
  · exact Nat.ne_of_gt (Nat.lt_trans ht.1 d1)
  · exact Nat.ne_of_gt (Nat.lt_trans ht.2.1 d1)
  · exact Nat.ne_of_gt (Nat.lt_trans ht.2.2.1 d1)
  · exact Nat.ne_of_gt ht.1
  · exact Nat.ne_of_gt ht.2.1
  · exact Nat.ne_of_gt ht.2.2.1
  · rw [List.map_append]
    refine WaysAre.append (us := [.ref Dn]) (Us := [(n0, o) :: W0]) ⟨⟨Dn, ⟨t, .int n0 t0, .int o to, 0⟩ :: es, 0, rfl, d2, List.mem_cons_self .., fun e he => ?_, ⟨t0, to, rfl, rfl⟩, hi⟩, trivial⟩ (hWd.imp fun a o _ _ h => c2 h)
    rcases List.mem_cons.mp he with rfl | he
    · exact List.mem_cons_of_mem _ (List.mem_cons_self ..)
    · exact c2 (hsub _ (hh e he))
theorem pair_end {I oc D n n' : Nat} {oI oo : Obj} {v₀ : Option Value} {base rest news5 led news' : Led} {dn rr : List Int} {rem vs ys : List Value} {m' m₀ : Str → Option Value} {stored : List Str} {od : Obj} (hns : ns = dn ++ o :: rr) (hrem : IntsAre rem rr) (hrest : ∀ p ∈ rest, p.1 ≠ oc) (hoI : oI.cls = .type "list_iterator") (hoo : oo.data = .cell v₀) (hoI2 : oc ≠ I) (hoff : ∀ p ∈ rest, p.1 ≠ I) (hwa : (wa, listOf vs.toArray n) ∈ rest) (hways : WaysAre (wa + 1) rest vs (dn.flatMap (wayStep k n0 ns))) (hbase : ∀ p ∈ base, p.1 ≠ wa → p ∈ rest)
    (h5s : ∀ p ∈ ((I, oI) :: (oc, oo) :: rest : Led), p ∈ news5) (N5 : ∃ h, News g L h news5) (hnew : WaysAre (wa + 1) news5 ys (wayStep k n0 ns o)) (F' : Fr g L h' m') (N' : News g L h' news') (P : Turned wa (listOf (vs ++ ys).toArray n') led news') (sub : ∀ p ∈ news5, p ∈ led) (hw : m' (Str.ofString "ways") = some (.ref wa)) (hst : ∀ z, z ≠ Str.ofString "ways" → stored.contains z = false → m' z = m₀ z) (hk : (D, od) ∈ base) (hD : D ≠ wa) :
    UnrEndW g L s₁ [(I, oI)] (fun m' n' => SubL [(D, od)] n' ∧ RInd (fun _ : Unit => [(Str.ofString "ways", Value.ref wa)]) stored m₀ (PairJ k wa I oc n0 ns base) rem m' n') { s₁ with heap := h', toks := tk } := by
  have hwo : wa ≠ oc := hrest _ hwa
  have hwI : wa ≠ I := hoff _ hwa
  obtain ⟨_, N5⟩ := N5
  have i5 := N5 _ (h5s _ (List.mem_cons_self ..))
  have c5 := N5 _ (h5s _ (List.mem_cons_of_mem _ (List.mem_cons_self ..)))
  have w5 := N5 _ (h5s _ (List.mem_cons_of_mem _ (List.mem_cons_of_mem _ hwa)))
  have inF : ∀ {p : Addr × Obj}, p ∈ news5 → p.1 ≠ wa → p.1 ≠ oc → p.1 ≠ I → p ∈ lessL wa (lessL oc (lessL I news5)) := fun h1 h2 h3 h4 => mem_lessL (mem_lessL (mem_lessL h1 h4) h3) h2
  have seq5 : ∀ (a : Nat) (ob : Obj), (∃ xs n, ob.data = .seq xs n) → (ob.cls = .type "list" ∧ wa + 1 ≤ a ∨ ob.cls = .type "tuple") → (a, ob) ∈ news5 → (a, ob) ∈ lessL wa (lessL oc (lessL I news5)) := by
    intro a ob ⟨xs, nn, hd⟩ hc hm
    have a5 := N5 _ hm
    refine inF hm ?_ ?_ ?_
    · rcases hc with ⟨_, hc⟩ | hc
      · exact Ne.symm (Nat.ne_of_lt hc)
      · rintro rfl
        have e : ob = _ := Option.some.inj (a5.1.symm.trans w5.1)
        rw [e] at hc
        exact absurd (Value.type.inj hc) (by decide)
    · rintro rfl
      have e : ob = _ := Option.some.inj (a5.1.symm.trans c5.1)
      rw [e] at hd
      have e2 : oo.data = _ := hd
      rw [hoo] at e2
      cases e2
    · rintro rfl
      have e : ob = _ := Option.some.inj (a5.1.symm.trans i5.1)
      rw [e] at hc
      have hc2 : oI.cls = .type "list" ∧ wa + 1 ≤ a ∨ oI.cls = .type "tuple" := hc
      rw [hoI] at hc2
      rcases hc2 with ⟨hc2, _⟩ | hc2 <;> exact absurd (Value.type.inj hc2) (by decide)
  have restF : ∀ p ∈ rest, p.1 ≠ wa → p ∈ lessL wa (lessL oc (lessL I news5)) := fun p hp hn => inF (h5s p (List.mem_cons_of_mem _ (List.mem_cons_of_mem _ hp))) hn (hrest p hp) (hoff p hp)
  have oF : ∀ p ∈ lessL wa (lessL oc (lessL I news5)), p ∈ news5 ∧ p.1 ≠ wa ∧ p.1 ≠ oc ∧ p.1 ≠ I := fun p hp => by
    have h1 := List.mem_filter.mp hp
    have h2 := List.mem_filter.mp h1.1
    have h3 := List.mem_filter.mp h2.1
    exact ⟨h3.1, lessL_off p hp, lessL_off p h1.1, lessL_off p h2.1⟩
  refine unrEnd_plain (news := (oc, oo) :: (wa, listOf (vs ++ ys).toArray n') :: lessL wa (lessL oc (lessL I news5))) F' (fun p hp => N' p ?_) (fun p hp => its1 ?_) ⟨List.mem_cons_of_mem _ (List.mem_cons_of_mem _ (restF _ (hbase _ hk hD) hD)), trivial⟩ ⟨(), (fun p hp => by rw [List.mem_singleton.mp hp]; exact hw), (fun z hz h => hst z (hz _ (List.mem_cons_self ..)) h), dn ++ [o], rr, vs ++ ys, n', oo, v₀, _, rfl, ?_, hoo, by rw [hns]; simp, hrem, List.mem_cons_self .., ?_, fun p hp hn => List.mem_cons_of_mem _ (restF p (hbase p hp hn) hn), ?_⟩
  · rcases List.mem_cons.mp hp with rfl | hp
    · exact P.2 _ (sub _ (h5s _ (List.mem_cons_self ..))) (Ne.symm hwI)
    · rcases List.mem_cons.mp hp with rfl | hp
      · exact P.2 _ (sub _ (h5s _ (List.mem_cons_of_mem _ (List.mem_cons_self ..)))) (Ne.symm hwo)
      · rcases List.mem_cons.mp hp with rfl | hp
        · exact P.1
        · exact P.2 _ (sub _ (oF p hp).1) (oF p hp).2.1
  · rcases List.mem_cons.mp hp with rfl | hp
    · exact hoI2
    · rcases List.mem_cons.mp hp with rfl | hp
      · exact hwI
      · exact (oF p hp).2.2.2
  · intro p hp
    rcases List.mem_cons.mp hp with rfl | hp
    · exact hwo
    · exact (oF p hp).2.2.1
  · rw [List.flatMap_append, List.flatMap_singleton]
    refine WaysAre.append (hnew.imp fun a ob h1 h2 h3 => List.mem_cons_of_mem _ (seq5 a ob h1 h2 h3)) (hways.imp fun a ob h1 h2 h3 => List.mem_cons_of_mem _ (seq5 a ob h1 h2 (h5s _ (List.mem_cons_of_mem _ (List.mem_cons_of_mem _ h3)))))
  · intro p hp
    rcases List.mem_cons.mp hp with rfl | hp
    · exact hoI2
    · rcases List.mem_cons.mp hp with rfl | hp
      · exact hwI
      · exact (oF p hp).2.2.2
end
theorem way_start {k lo wa n : Nat} {n0 o : Int} {ns : List Int} {vs xs : List Value} {rest news : Led} (_h : (wa, listOf xs.toArray n) ∈ rest) (hW : WaysAre lo news vs (pairF k (ns.filter fun z => z != o))) : WayJ k lo wa n0 o ns news vs [] news :=
  ⟨[], _, rfl, hW, trivial, fun _ h => h⟩
theorem bF_le {k : Nat} (h : k ≤ 5) : bF k ≤ 65 := by
  have : ∀ k : Fin 6, bF k.val ≤ 65 := by decide
  exact this ⟨k, by omega⟩
theorem way_len : ∀ (k : Nat) (ns : List Int) (W : List (Int × Int)), W ∈ pairF k ns → W.length ≤ k
  | 0, _, W, h => by rw [List.mem_singleton.mp h]; simp
  | k + 1, [], W, h => by rw [List.mem_singleton.mp h]; simp
  | k + 1, p :: ps, W, h => by
    obtain ⟨o, _, h⟩ := List.mem_flatMap.mp h
    obtain ⟨V, hV, rfl⟩ := List.mem_map.mp h
    have := way_len k _ V hV
    simp only [List.length_cons]; omega
theorem EntIs.len_le {es : List Ent} {W : List (Int × Int)} {n : Nat} (h : EntIs es W) (hn : W.length ≤ n) : (refs es).length ≤ n := by
  have := h.length
  simp only [List.length_map]; omega
theorem ways_len {k wa n : Nat} {n0 : Int} {ns dn rr : List Int} {news : Led} {vs : List Value} (hk : k ≤ 5) (hl : ns.length ≤ k) (hns : ns = dn ++ rr) (h : WaysAre n news vs (dn.flatMap (wayStep k n0 ns))) : vs.length ≤ 325 := by
  have h1 := h.length
  have h2 := flat_len (wayStep k n0 ns) 65 dn fun o _ => by
    rw [List.length_map]
    exact Nat.le_trans (pairF_len k _ (Nat.le_trans (List.length_filter_le _ _) hl)) (bF_le hk)
  have h3 := congrArg List.length hns
  rw [List.length_append] at h3
  have h4 : dn.length * 65 ≤ 5 * 65 := Nat.mul_le_mul_right _ (by omega)
  omega
theorem news_swap {h₀ h : Heap} {L : Addr} {a b c : Addr × Obj} {r : Led} (N : News h₀ L h (a :: b :: c :: r)) : News h₀ L h (c :: a :: b :: r) := fun p hp => N p (by
  simp only [List.mem_cons] at hp ⊢
  rcases hp with h | h | h | h
  · exact .inr (.inr (.inl h))
  · exact .inl h
  · exact .inr (.inl h)
  · exact .inr (.inr (.inr h)))
theorem off_of_lt {I : Nat} {led : Led} (l : ∀ p ∈ led, p.1 < I) : ∀ p ∈ led, p.1 ≠ I := fun p hp => Nat.ne_of_lt (l p hp)
theorem pair_step (w : World) (k : Nat) (IH : ∀ {pa np : Nat} {xs : List Value} {ns : List Int} {news : Led}, ns.length ≤ k → (pa, listOf xs.toArray np) ∈ news → IntsAre xs ns → Ctr w 114 [.ref pa] [] news (k + 1) (16 * (k + 1)) (PairPost news (pairF k ns)))
    (hk6 : k ≤ 5) {pa np : Nat} {x0 : Value} {xs : List Value} {n0 : Int} {ns : List Int} {news : Led} (hl : ns.length ≤ k) (hm : (pa, listOf (x0 :: xs).toArray np) ∈ news) (hi : IntsAre (x0 :: xs) (n0 :: ns)) :
    Ctr w 114 [.ref pa] [] news (k + 2) (16 * (k + 2)) (PairPost news (pairF (k + 1) (n0 :: ns))) := by
  have hxl := hi.length
  have hx64 : (x0 :: xs).length ≤ 64 := by simp only [List.length_cons] at hxl ⊢; omega
  have hsl : (0 : Int) ≤ 1 ∧ (1 : Int) ≤ (x0 :: xs).length := by simp only [List.length_cons]; omega
  unfold Ctr
  k_fill
  intro loose mean mg mb dp un gd cn css aa ccd cl outer A₀ base h₀ L m s Q E B F X N T hk hdp hun hret
  refine wpAny_call ?_
  k_dflt walk_at "ENTERC"
  iterate 17 walk1
  rename Fr _ _ _ _ => lF'
  with_unfolding_all (refine' For_turns lF' ?_)
  iterate 8 walk1
  rename News _ _ _ _ => lN
  rename Fr _ _ _ _ => lF'
  have lN2 := news_swap lN
  with_unfolding_all (refine iter_listTurns (vs := xs) (n := 0) (by rfl) lF' lN2 (List.mem_cons_of_mem _ (List.mem_cons_self ..)) rfl rfl ?_)
  clear lF'
  intro I' l1'
  have lwa := ‹_ ∧ _ ∧ AllLt _ news›
  have lD := (by assumption : ∀ p ∈ ((_, W.listOf [].toArray 0) :: _ :: _ :: news : Led), p.1 < _)
  have hi' : IntsAre xs ns := by cases hi with | cons _ _ h => exact h
  have hoff0 := off_of_lt l1'
  have l0 := (by assumption : ∀ p ∈ news, p.1 < _)
  have hpc := (by assumption : Obj.data _ = Data.cell (bindC _ _ _ (Str.ofString "places")))
  replace hpc : Obj.data _ = Data.cell (some (Value.ref pa)) := hpc
  with_unfolding_all (refine rest_ind (fun v => Itm.val v) (fun _ : Unit => [(Str.ofString "ways", Value.ref _)]) [Str.ofString "left"] _ (PairJ k _ I' _ n0 ns ((_, listOf xs.toArray 0) :: (_, _) :: news)) ?turn ?done _ _ _ (pair_start lN2 (by assumption) lwa lD l0 hi' (by rfl) hoff0))
  case turn =>
    rintro c v rem u news1 v' h tk hJz
    refine el_7_9 (hJz) ?_
    clear hJz
    rintro dn rr vs n oo v₀ rest e0 hrest hoo hns hrem hwa hways hbase hoff
    rintro hv F1
    subst e0
    replace hv : v' = v := hv
    subst hv
    cases hrem with
    | cons o t hrem =>
    rename_i rr' _
    have hpcm := hbase _ (List.mem_cons_of_mem _ (List.mem_cons_self ..)) (Nat.ne_of_lt lwa.2.1)
    have hpam := hbase _ (List.mem_cons_of_mem _ (List.mem_cons_of_mem _ hm)) (Nat.ne_of_lt (allLt_all lwa.2.2 _ hm))
    have hIoc := Ne.symm (hoff _ (List.mem_cons_self ..))
    refine AllObj.cons fun oI hcI => AllObj.nil fun N1 => ?_
    have N2 : News _ _ _ ((I', oI) :: (_, oo) :: rest) := N1
    clear N1
    dsimp only at F1 hIoc ⊢
    iterate 4 walk1
    with_unfolding_all (refine LCt.Assign_ListComp_T (F₀ := by k_asm) (by rfl) (by with_unfolding_all rfl) (by with_unfolding_all rfl) (by decide) (by rfl) (by decide) (by rfl) (by rfl) (by rfl) ?_)
    iterate 8 walk1
    rename News _ _ _ _ => lN
    rename Fr _ _ _ _ => lF
    with_unfolding_all (refine LCt.CompSrcT.ledger (its := xs.toArray) (by rfl) lF lN (List.mem_cons_self ..) (by rw [sizeLine_eq]; simp only [List.length_cons] at hx64; simp; omega) fun g => ?_)
    refine compT_ind (LeftJ ((_, _) :: (I', oI) :: (_, _) :: rest) o ns) xs ?lturn ?lfin _ 0 [] _ (by simp) ⟨rfl, [], ns, rfl, hi', .nil⟩
    case lturn =>
      rintro y ry ys3 news3 ⟨e3, dn3, rr3, hns3, hrem3, hys3⟩ I3 oI3 C3 oC3 D3 m3 h3 tk3 E3 hC3 hx3 F3 N3 off3 ne3
      subst e3
      cases hrem3 with
      | cons b tb hrem3 =>
      k_steps
      · exact ⟨_, _, _, rfl, by k_asm, N3, off3, .inr ⟨_, List.mem_cons_self .., rfl, _, rfl⟩, left_yes hns3 hrem3 hys3 (bne_iff_ne.mpr (by assumption))⟩
      · exact ⟨_, _, _, rfl, by k_asm, N3, off3, .inr ⟨_, List.mem_cons_self .., rfl, _, rfl⟩, left_no hns3 hrem3 hys3 (fun e => bne_iff_ne.mp e (by assumption))⟩
    case lfin =>
      rintro ys3 news3 ⟨e3, dn3, rr3, hns3, hrem3, hys3⟩
      subst e3
      cases hrem3
      rw [List.append_nil] at hns3
      subst hns3
      intro D3 h3 tk3 F3 N3 off3
      dsimp only
      iterate 3 walk1
      with_unfolding_all (refine LCg.ListComp_U (F₀ := by k_asm) (by with_unfolding_all rfl) (by decide) (by rfl) (by decide) (by rfl) ?_)
      iterate 7 walk1
      have hwl := hways.length
      k_dflt (refine' Ctr.use (IH (ns := ns.filter fun z => z != o) ?h0 (List.mem_cons_self ..) hys3) ?kB ?kF ?kX N3 ?kT ?kk ?kd ?ku ?_)
      case h0 => exact Nat.le_trans (List.length_filter_le _ _) hl
      case kB => k_asm
      case kF => k_asm
      case kX => k_asm
      case kT => k_asm
      case kk => first | exact rfl | assumption
      case kd => ktr_room
      case ku => ktr_units
      rintro _ news4 h4 tk4 F4 N4 hJz
      refine el_4_4 (hJz) ?_
      clear hJz
      rintro q vs4 n4 lo4 rfl hq4 hW4 hsub4
      dsimp only
      have hlen4 := hW4.length
      have hbnd := pairF_len k (ns.filter fun z => z != o) (Nat.le_trans (List.length_filter_le _ _) hl)
      have hbF : bF k ≤ 65 := bF_le hk6
      have hoc4 := hsub4 _ (List.mem_cons_of_mem _ (List.mem_cons_of_mem _ (List.mem_cons_of_mem _ (List.mem_cons_self ..))))
      have hpc4 := hsub4 _ (List.mem_cons_of_mem _ (List.mem_cons_of_mem _ (List.mem_cons_of_mem _ (List.mem_cons_of_mem _ hpcm))))
      have hpa4 := hsub4 _ (List.mem_cons_of_mem _ (List.mem_cons_of_mem _ (List.mem_cons_of_mem _ (List.mem_cons_of_mem _ hpam))))
      have hwa4 := hsub4 _ (List.mem_cons_of_mem _ (List.mem_cons_of_mem _ (List.mem_cons_of_mem _ (List.mem_cons_of_mem _ hwa))))
      with_unfolding_all (refine CompSrc.ledger (its := vs4.toArray) (by rfl) F4 N4 hq4 (by rw [sizeLine_eq]; simp; omega) fun g => ?_)
      refine comp_ind (WayJ k lo4 _ n0 o ns news4) vs4 ?wturn ?wfin _ 0 [] _ (by simp) (way_start hwa hW4)
      case wturn =>
        rintro y ry ys5 news5 hJz
        refine el_2_4 (hJz) ?_
        clear hJz
        rintro Wd Wr hWW hWr hWd hsub5
        rintro I5 oI5 C5 oC5 D5 m5 h5 tk5 E5 hC5 hx5 F5 N5 off5 ne5
        cases Wr with
        | nil => exact hWr.elim
        | cons W0 Wr =>
        obtain ⟨⟨a5, es5, n5, e5, _, hm5, hh5, hi5⟩, hWr⟩ := hWr
        subst e5
        have hoc5 := hsub5 _ hoc4
        have hpc5 := hsub5 _ hpc4
        have hpa5 := hsub5 _ hpa4
        have hwa5 := hsub5 _ hwa4
        have hq5 := hsub5 _ hq4
        have hm6 := hsub5 _ hm5
        have hes5 := hi5.len_le (way_len k _ W0 (by rw [hWW]; exact List.mem_append.mpr (.inr (List.mem_cons_self ..))))
        have hz5 : ∀ z : Value, [z].length + (refs es5).length ≤ 128 := fun z => by simp only [List.length_cons, List.length_nil] at hes5 ⊢; omega
        cases hi with
        | cons n0 t0 hi =>
        k_steps
        rename News _ _ _ _ => N9
        rename Fr _ _ _ _ => F9
        exact way_end F9 N9 (by assumption) (by assumption) off5 hq5 hwa5 hWW hWr hWd hsub5 hh5 hi5
      case wfin =>
        rintro ys5 news5 hJz
        refine el_2_4 (hJz) ?_
        clear hJz
        rintro Wd Wr hWW hWr hWd hsub5
        cases Wr with
        | cons _ _ => exact hWr.elim
        | nil =>
        rw [List.append_nil] at hWW
        subst hWW
        intro D5 h5 tk5 F5 N5 off5
        have hz6 : vs.length + ys5.length ≤ 1000 := by
          have q1 := ways_len (wa := 0) hk6 hl hns hways
          have q2 := hWd.length
          rw [List.length_map] at q2
          omega
        have hwa5 := hsub5 _ hwa4
        have N6 : ∃ h, News _ _ h news5 := ⟨_, fun p hp => N5 p (List.mem_cons_of_mem _ hp)⟩
        dsimp only
        k_steps
        rename Turned _ _ _ _ => P9
        rename News _ _ _ _ => N9
        rename Fr _ _ _ _ => F9
        refine pair_end hns hrem hrest hcI (by assumption) (Ne.symm hIoc) (fun p hp => hoff p (List.mem_cons_of_mem _ hp)) hwa hways hbase (fun p hp => hsub5 p (hsub4 p (List.mem_cons_of_mem _ (List.mem_cons_of_mem _ hp)))) N6 hWd F9 N9 P9 (fun _ h => List.mem_cons_of_mem _ h) rfl ?_ (List.mem_cons_self ..) (Ne.symm (Nat.ne_of_lt (lD _ (List.mem_cons_self ..))))
        intro z' hz1 hz'
        have q0 : z' ≠ Str.ofString "left" := by intro e; subst e; exact absurd hz' (by decide)
        simp only [kstB, hz', hz1, q0, Bool.false_eq_true, if_false]
  case done =>
    rintro c u news1 h tk hJz
    refine el_7_9 (hJz) ?_
    clear hJz
    rintro dn rr vs n oo v₀ rest e0 hrest hoo hns hrem hwa hways hbase hoff
    rintro F1 N1
    subst e0
    cases hrem
    rw [List.append_nil] at hns
    subst hns
    dsimp only at F1 ⊢
    k_steps
    rename News _ _ _ _ => N9
    refine hret _ rest _ _ (by k_asm) (fun p hp => N9 p (List.mem_cons_of_mem _ hp)) ⟨_, vs, _, _, rfl, hwa, hways, fun p hp => hbase p (List.mem_cons_of_mem _ (List.mem_cons_of_mem _ hp)) (Nat.ne_of_lt (allLt_all lwa.2.2 p hp))⟩
theorem c_pair (w : World) : ∀ (k : Nat), k ≤ 6 → ∀ {pa np : Nat} {xs : List Value} {ns : List Int} {news : Led}, ns.length ≤ k → (pa, listOf xs.toArray np) ∈ news → IntsAre xs ns → Ctr w 114 [.ref pa] [] news (k + 1) (16 * (k + 1)) (PairPost news (pairF k ns))
  | 0, _, pa, np, xs, ns, news, hl, hm, hi => by
    cases hi with
    | nil => exact (c_pair_nil w hm).mono (by omega) (by omega)
    | cons _ _ _ => exact absurd hl (by simp)
  | k + 1, hk, pa, np, xs, ns, news, hl, hm, hi => by
    cases hi with
    | nil => exact (c_pair_nil w hm).mono (by omega) (by omega)
    | cons n0 t0 hi => exact pair_step w k (fun hl hm hi => c_pair w k (by omega) hl hm hi) (by omega) (by simpa using hl) hm (.cons n0 t0 hi)
end Mine
end
section
open PySem PySem.W PyProof.Rows
set_option Elab.async false
set_option maxRecDepth 100000
set_option maxHeartbeats 1000000
namespace Mine
open PySem.Calls
/-- the sort's questions answered by ans: what comes out, if each question is within n -/
noncomputable def kRun {α : Type} (ans : Nat → Nat → Bool) (n : Nat) : KasT α → Option α
  | .ret a => some a
  | .ask i j k => if i < n ∧ j < n then kRun ans n (k (ans i j)) else none
theorem kRun_congr {α : Type} {a b : Nat → Nat → Bool} {n : Nat} (h : ∀ i j, i < n → j < n → a i j = b i j) : ∀ t : KasT α, kRun a n t = kRun b n t
  | .ret _ => rfl
  | .ask i j k => by
    show (if i < n ∧ j < n then kRun a n (k (a i j)) else none) = if i < n ∧ j < n then kRun b n (k (b i j)) else none
    by_cases q : i < n ∧ j < n
    · rw [if_pos q, if_pos q, h i j q.1 q.2]
      exact kRun_congr h _
    · rw [if_neg q, if_neg q]
theorem kas_wp_run {α : Type} {cmp : Nat → Nat → (Bool → Shared → Prop) → Shared → Prop} {Q : α → Shared → Prop} {ans : Nat → Nat → Bool} {n : Nat} {s : Shared} (h : ∀ i j (C : Bool → Shared → Prop), i < n → j < n → C (ans i j) s → cmp i j C s) :
    ∀ (t : KasT α) (a : α), kRun ans n t = some a → Q a s → t.kasWp cmp Q s
  | .ret b, a, e, q => by
    have : b = a := Option.some.inj e
    subst this; exact q
  | .ask i j k, a, e, q => by
    have e' : (if i < n ∧ j < n then kRun ans n (k (ans i j)) else none) = some a := e
    by_cases c : i < n ∧ j < n
    · rw [if_pos c] at e'
      exact h i j _ c.1 c.2 (kas_wp_run h (k (ans i j)) a e' q)
    · rw [if_neg c] at e'
      cases e'
noncomputable def lexB (p q : Int × Int) : Bool := if p.1 == q.1 then decide (p.2 < q.2) else decide (p.1 < q.1)
noncomputable abbrev lexAns (l : List (Int × Int)) (i j : Nat) : Bool := lexB (l.getD i (0, 0)) (l.getD j (0, 0))
noncomputable def entAt (es : List Ent) (i : Nat) : Ent := es.getD i ⟨0, .none, .none, 0⟩
theorem EntIs.at : ∀ {es : List Ent} {l : List (Int × Int)}, EntIs es l → ∀ i, i < l.length → ∃ t1 t2, (entAt es i).p = .int (l.getD i (0, 0)).1 t1 ∧ (entAt es i).q = .int (l.getD i (0, 0)).2 t2 ∧ entAt es i ∈ es
  | [], [], _, i, h => absurd h (by simp)
  | e :: es, p :: l, h, 0, _ => by
    obtain ⟨⟨t1, t2, e1, e2⟩, _⟩ := h
    exact ⟨t1, t2, e1, e2, List.mem_cons_self ..⟩
  | e :: es, p :: l, h, i + 1, hi => by
    refine el_2_3 (EntIs.at h.2 i (by simpa using hi)) ?_
    rintro t1 t2 e1 e2 e3
    exact ⟨t1, t2, by simpa [entAt] using e1, by simpa [entAt] using e2, by simpa [entAt] using Or.inr e3⟩
theorem EntIs.pick {es : List Ent} {l : List (Int × Int)} (h : EntIs es l) : ∀ ps : List Nat, (∀ i ∈ ps, i < l.length) → EntIs (ps.map (entAt es)) (ps.map fun i => l.getD i (0, 0))
  | [], _ => trivial
  | i :: ps, hp => by
    refine el_2_3 (h.at i (hp i (List.mem_cons_self ..))) ?_
    rintro t1 t2 e1 e2 _
    exact ⟨⟨t1, t2, e1, e2⟩, h.pick ps fun j hj => hp j (List.mem_cons_of_mem _ hj)⟩
theorem refs_pick {es : List Ent} : ∀ ps : List Nat, (∀ i ∈ ps, i < es.length) → (ps.map fun i => (refs es).getD i Value.none) = refs (ps.map (entAt es))
  | [], _ => rfl
  | i :: ps, hp => by
    have hi := hp i (List.mem_cons_self ..)
    have e : (refs es).getD i Value.none = .ref (entAt es i).a := by
      simp [entAt, hi]
    rw [List.map_cons, e, refs_pick ps fun j hj => hp j (List.mem_cons_of_mem _ hj)]
    rfl
theorem Has.pick {news : Led} {es : List Ent} {l : List (Int × Int)} (hh : Has news es) (h : EntIs es l) (ps : List Nat) (hp : ∀ i ∈ ps, i < l.length) : Has news (ps.map (entAt es)) := fun e he => by
  obtain ⟨i, hi, rfl⟩ := List.mem_map.mp he
  refine el_2_3 (h.at i (hp i hi)) ?_
  rintro _ _ _ _ h3
  exact hh _ h3
section
variable {prog : Program} {w : World} {A : Around} {E : Value → Shared → Prop} {s : Shared} {h₀ : Heap} {L row : Addr} {m : Str → Option Value} {news : Led}
theorem kat_tups {h : Heap} : ∀ {_es : List Ent}, (∀ e ∈ _es, h.get? e.a = some e.obj) → KatTups h (refs _es) (_es.map fun e => e.p)
  | [], _ => KatTups.nil
  | e :: es, hh => KatTups.cons (hh e (List.mem_cons_self ..)) rfl rfl rfl (kat_tups fun z hz => hh z (List.mem_cons_of_mem _ hz))
theorem ent_firsts : ∀ {es : List Ent} {l : List (Int × Int)}, EntIs es l → ∀ v ∈ es.map (fun e => e.p), ∃ i t, v = .int i t
  | [], [], _, _, h => nomatch h
  | e :: es, p :: l, hi, v, h => by
    obtain ⟨⟨t1, _, e1, _⟩, hi⟩ := hi
    rcases List.mem_cons.mp h with rfl | h
    · exact ⟨_, _, e1⟩
    · exact ent_firsts hi v h
theorem lex_lt {x y : Ent} {a b : Int × Int} {Q : Bool → Shared → Prop} (hx : s.heap.get? x.a = some x.obj) (hy : s.heap.get? y.a = some y.obj) (ex : ∃ t1 t2, x.p = .int a.1 t1 ∧ x.q = .int a.2 t2) (ey : ∃ t1 t2, y.p = .int b.1 t1 ∧ y.q = .int b.2 t2) (h : Q (lexB a b) s) :
    wpAny (model prog w) A (keyLt' (tuples' true) (.ref x.a) (.ref y.a)) Q E s := by
  refine el_2_2 (ex) ?_
  clear ex
  rintro t1 t2 e1 e2
  refine el_2_2 (ey) ?_
  clear ey
  rintro u1 u2 e3 e4
  refine kat_lt hx rfl hy rfl ?_
  show KatLex prog w A true _ Q [(x.p, y.p), (x.q, y.q)] 0 s
  rw [e1, e2, e3, e4]
  unfold lexB at h
  refine kat_cons (wpAny_eqBool_int ?_)
  cases q : (a.1 == b.1) with
  | true =>
    rw [q, if_pos rfl] at h
    refine kat_yes (kat_cons (wpAny_eqBool_int ?_))
    cases q2 : (a.2 == b.2) with
    | true =>
      refine kat_yes (kat_nil ?_)
      have e : decide (a.2 < b.2) = false := by
        have : a.2 = b.2 := by simpa using q2
        rw [this]
        simp
      rw [e] at h
      exact h
    | false =>
      refine kat_no (kat_one _ _ (lt_int ?_))
      exact h
  | false =>
    rw [q, if_neg (by simp)] at h
    exact kat_no (oneLt_int h)
/-- sorted of a list of pairs of ints -/
theorem sorted_led {n : Nat} {es : List Ent} {l : List (Int × Int)} {p : Array Nat} {Q : Value → Shared → Prop} (F : Fr h₀ L s.heap m) (N : News h₀ L s.heap news) (hm : (row, listOf (refs es).toArray n) ∈ news) (hh : Has news es) (hi : EntIs es l) (h2 : 2 ≤ l.length) (h64 : l.length < 64) (hr : kRun (lexAns l) l.length (kas_sort l.length) = some p) (hp : ∀ i ∈ p.toList, i < l.length)
    (h : ∀ D c h', Fr h₀ L h' m → News h₀ L h' ((D, listOf (refs (p.toList.map (entAt es))).toArray c) :: news) → (∀ q ∈ news, q.1 < D) → Q (.ref D) { s with heap := h' }) :
    wpAny (model prog w) A (call (.builtin "sorted") [.ref row]) Q E s := by
  have hl : s.heap.IsList row (refs es).toArray := ⟨_, (N _ hm).1, rfl, n, rfl⟩
  have hlen := hi.length
  have hrl : (refs es).length = l.length := by simp [hlen]
  refine kat_sorted F N hl (by omega) (by omega) fun D e1 h' F' N' lD => ?_
  have hg : ∀ e ∈ es, h'.get? e.a = some e.obj := fun e he => (N' _ (List.mem_cons_of_mem _ (hh e he))).1
  refine kat_kind (kat_tups hg) (by simp; omega) (T := .type "int") (fun v hv => ?_) rfl ?_
  · obtain ⟨i, t, rfl⟩ := ent_firsts hi v hv
    exact Looks.of_pure rfl
  rw [hrl]
  refine kas_wp_run (ans := lexAns l) (n := l.length) (fun i j C hi' hj' hC => ?_) _ p hr ?_
  · unfold kas_ask
    refine el_2_3 (hi.at i hi') ?_
    rintro t1 t2 a1 a2 a3
    refine el_2_3 (hi.at j hj') ?_
    rintro u1 u2 b1 b2 b3
    have ei : (refs es).getD i Value.none = .ref (entAt es i).a := by simp [entAt, hlen, hi']
    have ej : (refs es).getD j Value.none = .ref (entAt es j).a := by simp [entAt, hlen, hj']
    rw [ei, ej]
    exact lex_lt (hg _ a3) (hg _ b3) ⟨t1, t2, a1, a2⟩ ⟨u1, u2, b1, b2⟩ hC
  · rw [refs_pick _ fun i hi' => by rw [hlen]; exact hp i hi']
    exact KasFin.intro F' N' (.head fun q hq => Nat.ne_of_lt (lD q hq)) fun h2 c F2 N2 => h D c h2 F2 N2 lD
end
end Mine
end
section
open PySem PySem.W PyProof.Rows
set_option Elab.async false
set_option maxRecDepth 100000
set_option maxHeartbeats 1000000
namespace Mine
noncomputable def inserts (x : Nat) : List Nat → List (List Nat)
  | [] => [[x]]
  | y :: r => (x :: y :: r) :: (inserts x r).map (y :: ·)
noncomputable def perms : List Nat → List (List Nat)
  | [] => [[]]
  | x :: r => (perms r).flatMap (inserts x)
theorem mem_inserts (x : Nat) : ∀ a b : List Nat, a ++ x :: b ∈ inserts x (a ++ b)
  | [], [] => List.mem_cons_self ..
  | [], _ :: _ => List.mem_cons_self ..
  | _ :: a, b => List.mem_cons_of_mem _ (List.mem_map.mpr ⟨_, mem_inserts x a b, rfl⟩)
theorem mem_perms : ∀ (r l : List Nat), l.Perm r → l ∈ perms r
  | [], l, h => by rw [h.eq_nil]; exact List.mem_cons_self ..
  | x :: r, l, h => by
    obtain ⟨a, b, rfl⟩ := List.append_of_mem (h.mem_iff.mpr (List.mem_cons_self ..))
    have h2 : (a ++ b).Perm r := List.Perm.cons_inv ((List.perm_middle).symm.trans h)
    exact List.mem_flatMap.mpr ⟨_, mem_perms r _ h2, mem_inserts x a b⟩
noncomputable def sortOk (r : List Nat) : Bool := match kRun (fun i j => Nat.blt (r.getD i 0) (r.getD j 0)) 6 (kas_sort 6) with
  | some p => p.toList.all (fun i => Nat.blt i 6) && (p.toList.map (fun i => r.getD i 0) == [0, 1, 2, 3, 4, 5])
  | none => false
theorem sort_all : (perms [0, 1, 2, 3, 4, 5]).all sortOk = true := by decide +kernel
theorem sort_six {r : List Nat} (h : r.Perm [0, 1, 2, 3, 4, 5]) : ∃ p : Array Nat, kRun (fun i j => Nat.blt (r.getD i 0) (r.getD j 0)) 6 (kas_sort 6) = some p ∧ (∀ i ∈ p.toList, i < 6) ∧ p.toList.map (fun i => r.getD i 0) = [0, 1, 2, 3, 4, 5] := by
  have h1 := List.all_eq_true.mp sort_all r (mem_perms _ _ h)
  unfold sortOk at h1
  split at h1
  · rename_i p e
    simp only [Bool.and_eq_true, List.all_eq_true, beq_iff_eq] at h1
    exact ⟨p, e, fun i hi => Nat.le_of_ble_eq_true (h1.1 i hi), h1.2⟩
  · cases h1
theorem lexB_iff {p q : Int × Int} : lexB p q = true ↔ LexP p q := by
  unfold lexB LexP
  split
  · rename_i h
    have : p.1 = q.1 := by simpa using h
    simp only [decide_eq_true_eq]
    omega
  · rename_i h
    have : ¬ p.1 = q.1 := by simpa using h
    simp only [decide_eq_true_eq]
    omega
theorem sort_pairs6 {l l' : List (Int × Int)} (hp : l.Perm l') (hs : l'.Pairwise LexP) (h6 : l.length = 6) : ∃ p : Array Nat, kRun (lexAns l) 6 (kas_sort 6) = some p ∧ (∀ i ∈ p.toList, i < 6) ∧ p.toList.map (fun i => l.getD i (0, 0)) = l' := by
  have h6' : l'.length = 6 := by rw [← hp.length_eq]; exact h6
  have hnd : l'.Nodup := hs.imp fun {a b} h e => by
    subst e
    rcases h with h | h <;> omega
  have hidx : l'.map (fun z => l'.idxOf z) = [0, 1, 2, 3, 4, 5] := by
    have e : ([0, 1, 2, 3, 4, 5] : List Nat) = List.range 6 := by decide
    rw [e]
    refine List.ext_getElem (by simp [h6']) fun i h1 h2 => ?_
    rw [List.getElem_map, List.getElem_range]
    exact hnd.idxOf_getElem i (by simpa using h1)
  obtain ⟨p, e1, e2, e3⟩ := sort_six (r := l.map fun z => l'.idxOf z) (hidx ▸ hp.map _)
  have hr : ∀ i, i < 6 → ((l.map fun z => l'.idxOf z).getD i 0 < 6 ∧ l'.getD ((l.map fun z => l'.idxOf z).getD i 0) (0, 0) = l.getD i (0, 0)) := by
    intro i hi
    have hi' : i < l.length := by omega
    have hm : l[i] ∈ l' := hp.mem_iff.mp (List.getElem_mem hi')
    have hlt := List.idxOf_lt_length_iff.mpr hm
    have eq1 : (l.map fun z => l'.idxOf z).getD i 0 = l'.idxOf l[i] := by simp [hi']
    have eq2 : l.getD i (0, 0) = l[i] := by simp [hi']
    rw [eq1, eq2]
    refine ⟨by omega, ?_⟩
    have eq3 : l'.getD (l'.idxOf l[i]) (0, 0) = l'[l'.idxOf l[i]] := by simp [hlt]
    rw [eq3, List.getElem_idxOf]
  have hans : ∀ i j, i < 6 → j < 6 → lexAns l i j = Nat.blt ((l.map fun z => l'.idxOf z).getD i 0) ((l.map fun z => l'.idxOf z).getD j 0) := by
    intro i j hi hj
    obtain ⟨a1, a2⟩ := hr i hi
    obtain ⟨b1, b2⟩ := hr j hj
    unfold lexAns
    rw [← a2, ← b2]
    generalize (l.map fun z => l'.idxOf z).getD i 0 = x at *
    generalize (l.map fun z => l'.idxOf z).getD j 0 = y at *
    have gx : l'.getD x (0, 0) = l'[x] := by simp [h6', a1]
    have gy : l'.getD y (0, 0) = l'[y] := by simp [h6', b1]
    rw [gx, gy]
    have pw := List.pairwise_iff_getElem.mp hs
    have key : LexP l'[x] l'[y] ↔ x < y := by
      constructor
      · intro h
        rcases Nat.lt_trichotomy x y with q | q | q
        · exact q
        · subst q
          rcases h with h | h <;> omega
        · have := pw y x (by omega) (by omega) q
          unfold LexP at *
          omega
      · intro h
        exact pw x y (by omega) (by omega) h
    have k2 : Nat.blt x y = true ↔ x < y := ⟨fun h => Nat.le_of_ble_eq_true h, fun h => Nat.ble_eq_true_of_le h⟩
    exact Bool.eq_iff_iff.mpr (lexB_iff.trans (key.trans k2.symm))
  refine ⟨p, by rw [kRun_congr hans]; exact e1, e2, ?_⟩
  have f1 : p.toList.map (fun i => l.getD i (0, 0)) = (p.toList.map fun i => (l.map fun z => l'.idxOf z).getD i 0).map fun k => l'.getD k (0, 0) := by
    rw [List.map_map]
    exact List.map_congr_left fun i hi => (hr i (e2 i hi)).2.symm
  rw [f1, e3]
  refine List.ext_getElem (by simp [h6']) fun i h1 h2 => ?_
  have e : ([0, 1, 2, 3, 4, 5] : List Nat) = List.range 6 := by decide
  simp only [e, List.getElem_map, List.getElem_range]
  simp [h2]
end Mine
end
section
open PySem PySem.W PyProof.Rows
set_option Elab.async false
set_option maxRecDepth 100000
set_option maxHeartbeats 4000000
namespace Mine
open PySem.Calls PyProof.Rows.LCg
/-- a comprehension over pairs by induction -/
theorem CPTurn.mono2 {prog : Program} {w : World} {A : Around} {elt : PySem.Expr} {ifs : List PySem.Expr} {cenv : Env} {f g : Option Value → Shared → Prop} {E : Value → Shared → Prop} {s : Shared} (h : CPTurn prog w A elt ifs cenv f E s) (hf : ∀ y s, f y s → g y s) : CPTurn prog w A elt ifs cenv g E s := CPTurn.mono h hf fun _ _ e => e
theorem cpEnd_mono {h₀ : Heap} {L C D : Addr} {m : Str → Option Value} {s₁ s₂ : Shared} {its keep : Led} {oC oD : Obj} {f g : Led → Prop} (h : CPEnd h₀ L m s₁ its C oC D oD keep f s₂) (hf : ∀ n, f n → g n) : CPEnd h₀ L m s₁ its C oC D oD keep g s₂ := by
  refine el_3_6 (h) ?_
  clear h
  rintro h' tk n' e F N o k r
  exact ⟨h', tk, n', e, F, N, o, k, hf _ r⟩
theorem cp_ind {prog : Program} {w : World} {A : Around} {h₀ : Heap} {L : Addr} {m : Str → Option Value} {env : Env} {elt : PySem.Expr} {ifs : List PySem.Expr} {a b : Str} {scope : Scope} {cl : List (Str × Addr)} {s : Shared} {ws : List (Addr × String)} {keep : Led} {Fin : List Value → Led → Prop}
    (J : List ((Tok → Value) × Value) → List Value → Led → Prop)
    (turn : ∀ p r ys news, J (p :: r) ys news → ∀ (t : Tok) its oC C D m₂ h tk (E' : Value → Shared → Prop), Objs ws its → NsObj oC m₂ → m₂ a = some (p.1 t) → m₂ b = some p.2 → Fr h₀ L h m → News h₀ L h (its ++ (C, oC) :: (D, lst ys) :: news) →
      (∀ q ∈ news, q.1 ≠ C ∧ q.1 ≠ D ∧ ∀ z ∈ its, q.1 ≠ z.1) → (∀ q ∈ its, q.1 < D) → @LT.lt Nat _ D C →
      CPTurn prog w A elt ifs (compEnvC scope cl C env) (fun y => CPEnd h₀ L m { s with heap := h, toks := tk } its C oC D (lst ys) keep (fun news' => J r (ys ++ y.toList) news')) E' { s with heap := h, toks := tk })
    (fin : ∀ ys news, J [] ys news → Fin ys news) : ∀ xs ys news, J xs ys news → CPRest prog w A h₀ L m env elt ifs a b scope cl s ws keep Fin xs ys news
  | [], ys, news, h => fin ys news h
  | p :: r, ys, news, h => fun t its oC C D m₂ hh tk E' h1 h2 h3 h4 F N o l1 l2 =>
    CPTurn.mono2 (turn p r ys news h t its oC C D m₂ hh tk E' h1 h2 h3 h4 F N o l1 l2) fun y _ q => cpEnd_mono q fun n j => cp_ind J turn fin r (ys ++ y.toList) n j
/-- the same where the second name is a cell of the block's own -/
noncomputable def CCEnd (h₀ : Heap) (L : Addr) (m : Str → Option Value) (s₁ : Shared) (its : Led) (C : Addr) (oC : Obj) (Cb : Addr) (oB : Obj) (D : Addr) (oD : Obj) (keep : Led) (rest : Led → Prop) (s₂ : Shared) : Prop :=
  ∃ h' tk news', s₂ = { s₁ with heap := h', toks := tk } ∧ Fr h₀ L h' m ∧ News h₀ L h' (its ++ (C, oC) :: (Cb, oB) :: (D, oD) :: news') ∧ (∀ p ∈ news', p.1 ≠ C ∧ p.1 ≠ Cb ∧ p.1 ≠ D ∧ ∀ q ∈ its, p.1 ≠ q.1) ∧ (∀ p ∈ keep, p ∈ news') ∧ rest news'
noncomputable def CCRest (prog : Program) (w : World) (A : Around) (h₀ : Heap) (L : Addr) (m : Str → Option Value) (env : Env) (elt : PySem.Expr) (a b : Str) (scope : Scope) (cl : List (Str × Addr)) (s : Shared) (ws : List (Addr × String)) (keep : Led)
    (Fin : List Value → Led → Prop) : List ((Tok → Value) × Value) → List Value → Led → Prop
  | [], ys, news => Fin ys news
  | p :: r, ys, news => ∀ (t : Tok) its oC C oB Cb D m₂ h tk (E' : Value → Shared → Prop), Objs ws its → NsObj oC m₂ → m₂ a = some (p.1 t) → oB.data = .cell (some p.2) → Fr h₀ L h m → News h₀ L h (its ++ (C, oC) :: (Cb, oB) :: (D, lst ys) :: news) →
      (∀ q ∈ news, q.1 ≠ C ∧ q.1 ≠ Cb ∧ q.1 ≠ D ∧ ∀ z ∈ its, q.1 ≠ z.1) → (∀ q ∈ its, q.1 < D) → @LT.lt Nat _ D C → @LT.lt Nat _ C Cb →
      wpAny (model prog w) A (eval elt (compEnvC scope ((b, Cb) :: cl) C env)) (fun y => CCEnd h₀ L m { s with heap := h, toks := tk } its C oC Cb oB D (lst ys) keep (fun news' => CCRest prog w A h₀ L m env elt a b scope cl s ws keep Fin r (ys ++ [y]) news')) E' { s with heap := h, toks := tk }
theorem ccEnd_mono {h₀ : Heap} {L C Cb D : Addr} {m : Str → Option Value} {s₁ s₂ : Shared} {its keep : Led} {oC oB oD : Obj} {f g : Led → Prop} (h : CCEnd h₀ L m s₁ its C oC Cb oB D oD keep f s₂) (hf : ∀ n, f n → g n) : CCEnd h₀ L m s₁ its C oC Cb oB D oD keep g s₂ := by
  refine el_3_6 (h) ?_
  clear h
  rintro h' tk n' e F N o k r
  exact ⟨h', tk, n', e, F, N, o, k, hf _ r⟩
theorem cc_ind {prog : Program} {w : World} {A : Around} {h₀ : Heap} {L : Addr} {m : Str → Option Value} {env : Env} {elt : PySem.Expr} {a b : Str} {scope : Scope} {cl : List (Str × Addr)} {s : Shared} {ws : List (Addr × String)} {keep : Led} {Fin : List Value → Led → Prop}
    (J : List ((Tok → Value) × Value) → List Value → Led → Prop)
    (turn : ∀ p r ys news, J (p :: r) ys news → ∀ (t : Tok) its oC C oB Cb D m₂ h tk (E' : Value → Shared → Prop), Objs ws its → NsObj oC m₂ → m₂ a = some (p.1 t) → oB.data = .cell (some p.2) → Fr h₀ L h m → News h₀ L h (its ++ (C, oC) :: (Cb, oB) :: (D, lst ys) :: news) →
      (∀ q ∈ news, q.1 ≠ C ∧ q.1 ≠ Cb ∧ q.1 ≠ D ∧ ∀ z ∈ its, q.1 ≠ z.1) → (∀ q ∈ its, q.1 < D) → @LT.lt Nat _ D C → @LT.lt Nat _ C Cb →
      wpAny (model prog w) A (eval elt (compEnvC scope ((b, Cb) :: cl) C env)) (fun y => CCEnd h₀ L m { s with heap := h, toks := tk } its C oC Cb oB D (lst ys) keep (fun news' => J r (ys ++ [y]) news')) E' { s with heap := h, toks := tk })
    (fin : ∀ ys news, J [] ys news → Fin ys news) : ∀ xs ys news, J xs ys news → CCRest prog w A h₀ L m env elt a b scope cl s ws keep Fin xs ys news
  | [], ys, news, h => fin ys news h
  | p :: r, ys, news, h => fun t its oC C oB Cb D m₂ hh tk E' h1 h2 h3 h4 F N o l1 l2 l3 =>
    wpAny_mono (turn p r ys news h t its oC C oB Cb D m₂ hh tk E' h1 h2 h3 h4 F N o l1 l2 l3) (fun y _ q => ccEnd_mono q fun n j => cc_ind J turn fin r (ys ++ [y]) n j) fun _ _ e => e
section
variable {prog : Program} {w : World} {A : Around} {E : Value → Shared → Prop} {s : Shared} {h₀ : Heap} {L : Addr} {m : Str → Option Value} {env : Env}
theorem cc_assign {env : Env} {a b : Str} {pa pb tp : Pos} {kk : Nat} {T Cb : Addr} {x y : Value} {v₀ : Option Value} {m : Str → Option Value} {Q : Unit → Shared → Prop} (hh : A.handled = none) (ht : s.heap.IsTuple T #[x, y])
    (ha : env.kindOf a = some .local) (hb : env.kindOf b = some .cell) (hcb : env.cells.lookup b = some Cb) (hk : env.scope.kind = .function) (hn : s.heap.Ns env.locals m) (hc : s.heap.IsCell Cb v₀) (hne : Cb ≠ env.locals)
    (h : ∀ (h' : Heap) (tk : Nat), h'.Ns env.locals (fun z => if z = a then some x else m z) → h'.IsCell Cb (some y) → (∀ c o, c ≠ env.locals → c ≠ Cb → s.heap.get? c = some o → h'.get? c = some o) → Q () { s with heap := h', toks := tk }) :
    wpAny (model prog w) A (assign (.Tuple [.Name a pa, .Name b pb] kk tp) env (.ref T)) Q E s := by
  refine wpAny_assign_Tuple hh ht rfl rfl fun h₁ he₁ => ?_
  have hL : env.locals ≠ s.heap.objs.size := Nat.ne_of_lt hn.lt
  have hn₁ : h₁.Ns env.locals m := hn.at' fun o e => he₁ _ o hL e
  have up₁ : ∀ c o, s.heap.get? c = some o → h₁.get? c = some o := fun c o e => he₁ c o (Nat.ne_of_lt (Heap.lt_size e)) e
  show wpAny _ _ (assignInOrder [assign (.Name a pa) env, assign (.Name b pb) env] [x, y]) _ _ _
  refine assignInOrder_cons ?_
  refine wpAny_assign_Name (wpAny_storeName_local ha hn₁ (fun h₂ hn₂ hs₂ => ?_) (by simp [hk]))
  have hc₂ : h₂.IsCell Cb v₀ := by
    obtain ⟨o, e, d⟩ := hc
    exact ⟨o, hs₂.extBut _ _ hne (up₁ _ _ e), d⟩
  refine assignInOrder_cons ?_
  refine wpAny_assign_Name (wpAny_storeName_cell hk hb hcb hc₂ fun h₃ hc₃ hs₃ => ?_)
  refine assignInOrder_nil ?_
  exact h h₃ _ (hn₂.sameBut hs₃ (Ne.symm hne)) hc₃ fun c o hc hc' e => hs₃.extBut c o hc' (hs₂.extBut c o hc (up₁ c o e))
theorem cc_loop {elt target iter : PySem.Expr} {scope : Scope} {pos : Pos} {it acc : Value} {env : Env} {R : Result → Shared → Prop} (I : Nat → Shared → Prop)
    (turn : ∀ n s, I n s → wpAny (model prog w) A (pyNext it) (fun r s₁ => match r with
      | none => R (.ok .next) s₁
      | some v => wpAny (model prog w) A (letOwnedTupleGo target it v) (fun _ s₀ => wpAny (model prog w) A (assign target env v) (fun _ s₂ =>
          wpAny (model prog w) A (eval elt env) (fun x s₄ => wpAny (model prog w) A (call (.builtin "list.append") [acc, x]) (fun _ s₅ => ∃ m, m < n ∧ I m s₅) (notedBy (model prog w) A env fun e s' => R (.error e) s') s₄) (notedBy (model prog w) A env fun e s' => R (.error e) s') s₂)
          (notedBy (model prog w) A env fun e s' => R (.error e) s') s₀) (notedBy (model prog w) A env fun e s' => R (.error e) s') s₁) (notedBy (model prog w) A env fun e s' => R (.error e) s') s)
    (n : Nat) (h : I n s) : codeAny (model prog w) A (.compLoop (.ListComp elt [⟨target, iter, [], 0⟩] scope pos) 0 it acc env) R s := by
  refine cp_loop (ifs := []) I (by simp) (fun n s hI => ?_) n h
  refine wpAny_mono (turn n s hI) (fun r s₁ h₁ => ?_) fun _ _ e => e
  cases r with
  | none => exact h₁
  | some v => exact wpAny_mono h₁ (fun _ s₀ h₂ => wpAny_mono h₂ (fun _ s₂ h₃ => h₃) fun _ _ e => e) fun _ _ e => e
theorem newEnv_cell {scope : Scope} {globals : Addr} {cl : List (Str × Addr)} {qual : Str} {outer : Env} {b : Str} {Q : Env → Shared → Prop} (hcf : ∀ n, cellsFrom n scope.names cl = (b, n) :: cl) (hpc : ∀ h : Heap, pushCells h scope.names = h.push { cls := .type "cell", data := .cell none })
    (hQ : Q (newEnv scope s.heap.objs.size globals ((b, s.heap.objs.size + 1) :: cl) qual none .none (some outer) builtinsNs) { s with heap := (s.heap.push { cls := .type "dict", data := .dict #[] }).push { cls := .type "cell", data := .cell none } }) :
    wpAny (model prog w) A (newFunctionEnv scope globals cl [] qual none .none (some outer)) Q E s := by
  simp only [newFunctionEnv, Option.isSome_some, if_true]
  refine wpAny_bind (wpAny_alloc ?_)
  refine wpAny_bind (wpAny_layCells _ (fun name kind cells => by cases hkc : kind == NameKind.cell <;> simp [hkc]) _ _ _ _ ?_)
  rw [hcf, hpc]
  have e : (({ s with heap := s.heap.push { cls := .type "dict", data := .dict #[] } } : Shared).heap.objs.size) = s.heap.objs.size + 1 := Heap.size_push ..
  rw [e]
  refine wpAny_bind ?_
  rw [List.forIn_nil]
  exact wpAny_pure (wpAny_pure hQ)
end
end Mine
end
section
open PySem PySem.W PyProof.Rows
set_option Elab.async false
set_option maxRecDepth 100000
set_option maxHeartbeats 4000000
namespace Mine
open PySem.Calls PyProof.Rows.LCg
noncomputable def CCAt (prog : Program) (w : World) (A : Around) (h₀ : Heap) (L : Addr) (m : Str → Option Value) (env : Env) (elt : PySem.Expr) (a b : Str) (pa pb tp : Pos) (kk : Nat) (scope : Scope) (cl : List (Str × Addr)) (Fin : Shared → List Value → Led → Prop) (it : Value) (s₂ : Shared) : Prop :=
  ∃ (I : Addr) (fp wr : List Addr) (n : Nat) (P Md : Nat → Value → Heap → Prop) (St : Nat → Heap → Prop) (ws : List (Addr × String)) (keep news : Led) (xs : List ((Tok → Value) × Value)), it = .ref I ∧ KTurns prog w A (.Tuple [.Name a pa, .Name b pb] kk tp) I fp wr n P Md St ∧ n = xs.length ∧ n ≤ sizeLine ∧ A.handled = none ∧
    (∀ i v h, P i v h → ∃ p, xs[i]? = some p ∧ ∃ T t, v = .ref T ∧ h.IsTuple T #[p.1 t, p.2]) ∧ (∀ i h, St i h → ∃ its, Objs ws its ∧ ∀ p ∈ its, h.get? p.1 = some p.2) ∧
    (∀ b ∈ ws.map (·.1), b ∈ fp ∧ h₀.get? b = none ∧ b ≠ L) ∧ (∀ b ∈ wr, b ∈ ws.map (·.1)) ∧ (∀ b ∈ fp, b ∈ ws.map (·.1) ∨ ∃ o, (b, o) ∈ keep) ∧ (∀ b ∈ fp, b < s₂.heap.objs.size) ∧
    (∀ (s : Shared) (Q : Value → Shared → Prop) (E : Value → Shared → Prop), St 0 s.heap → Q (.ref I) s → wpAny (model prog w) A (pyIter (.ref I)) Q E s) ∧
    St 0 s₂.heap ∧ Fr h₀ L s₂.heap m ∧ News h₀ L s₂.heap news ∧ (∀ p ∈ news, p.1 ∉ ws.map (·.1)) ∧ (∀ p ∈ keep, p ∈ news) ∧ CCRest prog w A h₀ L m env elt a b scope cl s₂ ws keep (Fin s₂) xs [] news
section
variable {prog : Program} {w : World} {A : Around} {E : Value → Shared → Prop} {s : Shared} {h₀ : Heap} {L : Addr} {m : Str → Option Value} {env : Env}
theorem cc_block {elt iter : PySem.Expr} {a b : Str} {pa pb tp : Pos} {kk : Nat} {scope : Scope} {cl : List (Str × Addr)} {pos : Pos} {s₂ : Shared} {I : Addr} {fp wr : List Addr} {n : Nat} {P Md : Nat → Value → Heap → Prop} {St : Nat → Heap → Prop}
    {ws : List (Addr × String)} {keep news : Led} {xs : List ((Tok → Value) × Value)} {Fin : List Value → Led → Prop} {RR : Value → Addr → Result → Shared → Prop}
    (W : KTurns prog w A (.Tuple [.Name a pa, .Name b pb] kk tp) I fp wr n P Md St) (hn : n = xs.length) (hsz : n ≤ sizeLine) (hh : A.handled = none)
    (hP : ∀ i v h, P i v h → ∃ p, xs[i]? = some p ∧ ∃ T t, v = .ref T ∧ h.IsTuple T #[p.1 t, p.2])
    (hobj : ∀ i h, St i h → ∃ its, Objs ws its ∧ ∀ p ∈ its, h.get? p.1 = some p.2)
    (hws : ∀ b ∈ ws.map (·.1), b ∈ fp ∧ h₀.get? b = none ∧ b ≠ L) (hwr : ∀ b ∈ wr, b ∈ ws.map (·.1)) (hfp : ∀ b ∈ fp, b ∈ ws.map (·.1) ∨ ∃ o, (b, o) ∈ keep) (hfp2 : ∀ b ∈ fp, b < s₂.heap.objs.size)
    (hself : ∀ (s : Shared) (Q : Value → Shared → Prop) (E : Value → Shared → Prop), St 0 s.heap → Q (.ref I) s → wpAny (model prog w) A (pyIter (.ref I)) Q E s)
    (hcf : ∀ n, cellsFrom n scope.names cl = (b, n) :: cl) (hpc : ∀ h : Heap, pushCells h scope.names = h.push { cls := .type "cell", data := .cell none }) (hkind : scope.kind = .function) (hxa : scope.names.lookup a = some .local) (hxb : (relabel scope env).names.lookup b = some .cell)
    (hst : St 0 s₂.heap) (F : Fr h₀ L s₂.heap m) (N : News h₀ L s₂.heap news) (off : ∀ p ∈ news, p.1 ∉ ws.map (·.1)) (hk : ∀ p ∈ keep, p ∈ news)
    (R : CCRest prog w A h₀ L m env elt a b scope cl s₂ ws keep Fin xs [] news)
    (hRR : ∀ D C h tk m' ys news', Fr h₀ L h m → News h₀ L h ((D, lst ys) :: news') → (∀ p ∈ news', p.1 ≠ D) → h.Ns C m' → h₀.get? C = none → h₀.get? D = none → C ≠ L → D ≠ L → C ≠ D → (∀ p ∈ news', p.1 ≠ C) → Fin ys news' → RR (.ref D) C (.ok .next) { s₂ with heap := h, toks := tk }) :
    wpAny (model prog w) A (newList []) (fun acc s₃ => wpAny (model prog w) A (newFunctionEnv scope env.globals cl [] env.qual none .none (some env)) (fun cenv s₄ =>
      codeAny (model prog w) A (.compStart (.ListComp elt [⟨.Tuple [.Name a pa, .Name b pb] kk tp, iter, [], 0⟩] scope pos) 0 (.ref I) acc { cenv with scope := relabel scope env }) (RR acc cenv.locals) s₄) E s₃) E s₂ := by
  refine wpAny_newObj_type (newEnv_cell hcf hpc ?_)
  dsimp only
  generalize hH2 : s₂.heap.push { cls := .type "list", dict := none, data := .seq ([] : List Value).toArray } = H2
  have hC : H2.objs.size = s₂.heap.objs.size + 1 := by rw [← hH2, Heap.size_push]
  generalize hH3 : H2.push { cls := .type "dict", data := .dict #[] } = H3
  have hB3 : H3.objs.size = H2.objs.size + 1 := by rw [← hH3, Heap.size_push]
  generalize hH4 : H3.push { cls := .type "cell", data := .cell none } = h₁
  have hDC : s₂.heap.objs.size ≠ H2.objs.size := by rw [hC]; exact Nat.ne_of_lt (Nat.lt_succ_self _)
  have hCB : H2.objs.size ≠ H2.objs.size + 1 := Nat.ne_of_lt (Nat.lt_succ_self _)
  have hDB : s₂.heap.objs.size ≠ H2.objs.size + 1 := by rw [hC]; exact Nat.ne_of_lt (Nat.lt_succ_of_lt (Nat.lt_succ_self _))
  have below : ∀ b, b < s₂.heap.objs.size → b ≠ H2.objs.size ∧ b ≠ H2.objs.size + 1 ∧ b ≠ s₂.heap.objs.size := fun b hb => ⟨by rw [hC]; exact Nat.ne_of_lt (Nat.lt_succ_of_lt hb), by rw [hC]; exact Nat.ne_of_lt (Nat.lt_succ_of_lt (Nat.lt_succ_of_lt hb)), Nat.ne_of_lt hb⟩
  have old : ∀ b o, s₂.heap.get? b = some o → h₁.get? b = some o := fun b o e => hH4 ▸ Heap.get?_push_of_some _ (hH3 ▸ Heap.get?_push_of_some _ (hH2 ▸ Heap.get?_push_of_some _ e))
  have hacc : h₁.get? s₂.heap.objs.size = some (lst []) := hH4 ▸ Heap.get?_push_of_some _ (hH3 ▸ Heap.get?_push_of_some _ (hH2 ▸ Heap.get?_push_size _ rfl))
  have hns₁ : h₁.Ns H2.objs.size fun _ => none := by
    have q := Heap.Ns.new H2 (.type "dict")
    rw [hH3] at q
    rw [← hH4]
    exact q.at' fun o e => Heap.get?_push_of_some _ e
  have hcell₁ : h₁.IsCell (H2.objs.size + 1) none := ⟨_, by rw [← hB3, ← hH4]; exact Heap.get?_push_size _ rfl, rfl⟩
  have hst₁ : St 0 h₁ := W.frame _ _ _ hst fun b _ o e => old b o e
  have fresh₀ : ∀ a, s₂.heap.objs.size ≤ a → h₀.get? a = none := fun a ha => by
    cases e : h₀.get? a with
    | none => rfl
    | some o' => exact absurd (Heap.lt_size (F.keep a o' e)) (Nat.not_lt.mpr ha)
  have hD₀ : h₀.get? s₂.heap.objs.size = none := fresh₀ _ (Nat.le_refl _)
  have hC₀ : h₀.get? H2.objs.size = none := fresh₀ _ (by rw [hC]; exact Nat.le_succ _)
  have hB₀ : h₀.get? (H2.objs.size + 1) = none := fresh₀ _ (by rw [hC]; exact Nat.le_trans (Nat.le_succ _) (Nat.le_succ _))
  have hLlt : L < s₂.heap.objs.size := F.ns.lt
  have hDL : s₂.heap.objs.size ≠ L := Ne.symm (below L hLlt).2.2
  have hCL : H2.objs.size ≠ L := Ne.symm (below L hLlt).1
  have hBL : H2.objs.size + 1 ≠ L := Ne.symm (below L hLlt).2.1
  have hwfp : ∀ b ∈ ws.map (·.1), b ≠ H2.objs.size ∧ b ≠ H2.objs.size + 1 ∧ b ≠ s₂.heap.objs.size := fun b hb => below b (hfp2 b (hws b hb).1)
  have wrC : H2.objs.size ∉ wr := fun hm => (hwfp _ (hwr _ hm)).1 rfl
  have wrB : H2.objs.size + 1 ∉ wr := fun hm => (hwfp _ (hwr _ hm)).2.1 rfl
  have wrD : s₂.heap.objs.size ∉ wr := fun hm => (hwfp _ (hwr _ hm)).2.2 rfl
  have wrL : L ∉ wr := fun hm => (hws _ (hwr _ hm)).2.2 rfl
  have wr0 : ∀ b o, h₀.get? b = some o → b ∉ wr := fun b o e hm => by rw [(hws _ (hwr _ hm)).2.1] at e; cases e
  have offN : ∀ p ∈ news, p.1 ≠ H2.objs.size ∧ p.1 ≠ H2.objs.size + 1 ∧ p.1 ≠ s₂.heap.objs.size ∧ p.1 ∉ ws.map (·.1) := fun p hp => ⟨(below _ (Heap.lt_size (N p hp).1)).1, (below _ (Heap.lt_size (N p hp).1)).2.1, (below _ (Heap.lt_size (N p hp).1)).2.2, off p hp⟩
  have loop : ∀ s₃ : Shared, s₃ = { s₂ with heap := h₁ } →
      codeAny (model prog w) A (.compLoop (.ListComp elt [⟨.Tuple [.Name a pa, .Name b pb] kk tp, iter, [], 0⟩] scope pos) 0 (.ref I) (.ref s₂.heap.objs.size) (compEnvC scope ((b, H2.objs.size + 1) :: cl) H2.objs.size env))
        (RR (.ref s₂.heap.objs.size) H2.objs.size) s₃ := by
    rintro s₃ rfl
    refine cc_loop
      (fun k s' => ∃ h' tk i ys m' v₀ news', s' = { s₂ with heap := h', toks := tk } ∧ i ≤ n ∧ k = n + 1 - i ∧ ys.length ≤ i ∧ St i h' ∧ Fr h₀ L h' m ∧ h'.Ns H2.objs.size m' ∧ h'.IsCell (H2.objs.size + 1) v₀ ∧ News h₀ L h' ((s₂.heap.objs.size, lst ys) :: news') ∧
        (∀ p ∈ news', p.1 ≠ H2.objs.size ∧ p.1 ≠ H2.objs.size + 1 ∧ p.1 ≠ s₂.heap.objs.size ∧ p.1 ∉ ws.map (·.1)) ∧ (∀ p ∈ keep, p ∈ news') ∧ CCRest prog w A h₀ L m env elt a b scope cl s₂ ws keep Fin (xs.drop i) ys news') ?_ (n + 1)
      ⟨h₁, _, 0, [], _, none, news, rfl, Nat.zero_le _, rfl, Nat.le_refl _, hst₁, F.keeps old, hns₁, hcell₁, fun p hp => ?_, offN, hk, by rw [List.drop_zero]; exact R⟩
    · rintro k s' hJz
      refine el_7_12 (hJz) ?_
      clear hJz
      rintro h' tk i ys m' v₀ news' rfl hi rfl hyl hst' F' hn' hc' N' off' hk' R'
      by_cases hlt : i < n
      · refine W.item i _ _ _ hlt hst' fun v h₂ tk₂ hMd hk₂ => ?_
        refine W.go i v _ _ _ hMd fun h₃ hPi hst₃ hk₃ => ?_
        obtain ⟨p, hp, T, t, rfl, hT⟩ := hP i v h₃ hPi
        have up₃ : ∀ c o, c ∉ wr → h'.get? c = some o → h₃.get? c = some o := fun c o hc e => hk₃ c o hc (hk₂ c o hc e)
        have hc₃ : h₃.IsCell (H2.objs.size + 1) v₀ := by
          obtain ⟨o, e, d⟩ := hc'
          exact ⟨o, up₃ _ _ wrB e, d⟩
        refine cc_assign (env := compEnvC scope ((b, H2.objs.size + 1) :: cl) H2.objs.size env) (Cb := H2.objs.size + 1) hh hT (lookup_relabel_local hxa) hxb (by simp [compEnvC]) (by simp [compEnvC, relabel, hkind]) (hn'.at' fun o e => up₃ _ o wrC e) hc₃ (Ne.symm hCB) fun h₄ tk₄ hn₄ hc₄ hs₄ => ?_
        have hs₄' : ∀ c o, c ≠ H2.objs.size → c ≠ H2.objs.size + 1 → h₃.get? c = some o → h₄.get? c = some o := hs₄
        have up : ∀ c o, c ∉ wr → c ≠ H2.objs.size → c ≠ H2.objs.size + 1 → h'.get? c = some o → h₄.get? c = some o := fun c o h1 h2 h3 e => hs₄' c o h2 h3 (up₃ c o h1 e)
        have hst₄ : St (i + 1) h₄ := W.frame _ _ _ hst₃ fun c hc o e => hs₄' c o (below c (hfp2 c hc)).1 (below c (hfp2 c hc)).2.1 e
        obtain ⟨its, hits, hval⟩ := hobj _ _ hst₄
        have hmap := hits.map
        obtain ⟨oC, heC, hoC⟩ := ns_obj hn₄
        have heC' : h₄.get? H2.objs.size = some oC := heC
        obtain ⟨oB, heB, hoB⟩ := hc₄
        have F₄ : Fr h₀ L h₄ m := ⟨F'.ns.at' fun o e => up _ o wrL (Ne.symm hCL) (Ne.symm hBL) e, fun c o e => up c o (wr0 c o e) (fun q => by rw [q, hC₀] at e; cases e) (fun q => by rw [q, hB₀] at e; cases e) (F'.keep c o e), F'.above⟩
        have hdrop : xs.drop i = p :: xs.drop (i + 1) := by
          have hlt' : i < xs.length := hn ▸ hlt
          rw [List.drop_eq_getElem_cons hlt']
          congr 1
          exact Option.some.inj ((List.getElem?_eq_getElem hlt').symm.trans hp)
        have R'' : CCRest prog w A h₀ L m env elt a b scope cl s₂ ws keep Fin (p :: xs.drop (i + 1)) ys news' := by rw [← hdrop]; exact R'
        have inws : ∀ q ∈ its, q.1 ∈ ws.map (·.1) := fun q hq => by rw [← hmap]; exact List.mem_map.mpr ⟨q, hq, rfl⟩
        have N₄ : News h₀ L h₄ (its ++ (H2.objs.size, oC) :: (H2.objs.size + 1, oB) :: (s₂.heap.objs.size, lst ys) :: news') := fun q hq => by
          rcases List.mem_append.mp hq with hq | hq
          · exact ⟨hval q hq, (hws _ (inws q hq)).2.2, (hws _ (inws q hq)).2.1⟩
          · rcases List.mem_cons.mp hq with rfl | hq
            · exact ⟨heC', hCL, hC₀⟩
            · rcases List.mem_cons.mp hq with rfl | hq
              · exact ⟨heB, hBL, hB₀⟩
              · have z := N' q hq
                refine ⟨up _ _ ?_ ?_ ?_ z.1, z.2⟩
                · rcases List.mem_cons.mp hq with rfl | hq
                  · exact wrD
                  · exact fun hm => (off' q hq).2.2.2 (hwr _ hm)
                · rcases List.mem_cons.mp hq with rfl | hq
                  · exact hDC
                  · exact (off' q hq).1
                · rcases List.mem_cons.mp hq with rfl | hq
                  · exact hDB
                  · exact (off' q hq).2.1
        refine wpAny_mono (R'' t its oC H2.objs.size oB (H2.objs.size + 1) s₂.heap.objs.size _ h₄ tk₄ _ hits hoC (by simp) hoB F₄ N₄ (fun q hq => ⟨(off' q hq).1, (off' q hq).2.1, (off' q hq).2.2.1, fun z hz e => (off' q hq).2.2.2 (e ▸ inws z hz)⟩) (fun q hq => hfp2 _ (hws _ (inws q hq)).1) (by rw [hC]; exact Nat.lt_succ_self _) (Nat.lt_succ_self _)) (fun y s₅ h₅ => ?_) fun _ _ e => e
        refine el_3_6 (h₅) ?_
        clear h₅
        rintro h₅ tk₅ news₅ rfl F₅ N₅ off₅ hk₅ R₅
        have zC := (N₅ (H2.objs.size, oC) (List.mem_append.mpr (.inr (List.mem_cons_self ..)))).1
        have zB := (N₅ (H2.objs.size + 1, oB) (List.mem_append.mpr (.inr (List.mem_cons_of_mem _ (List.mem_cons_self ..))))).1
        have zD := (N₅ (s₂.heap.objs.size, lst ys) (List.mem_append.mpr (.inr (List.mem_cons_of_mem _ (List.mem_cons_of_mem _ (List.mem_cons_self ..)))))).1
        have N₅' : News h₀ L h₅ news₅ := fun q hq => N₅ q (List.mem_append.mpr (.inr (List.mem_cons_of_mem _ (List.mem_cons_of_mem _ (List.mem_cons_of_mem _ hq)))))
        have off₅' : ∀ p ∈ news₅, p.1 ≠ H2.objs.size ∧ p.1 ≠ H2.objs.size + 1 ∧ p.1 ≠ s₂.heap.objs.size ∧ p.1 ∉ ws.map (·.1) := fun q hq => ⟨(off₅ q hq).1, (off₅ q hq).2.1, (off₅ q hq).2.2.1, fun hm => by
          rw [← hmap] at hm
          obtain ⟨z, hz, e⟩ := List.mem_map.mp hm
          exact (off₅ q hq).2.2.2 z hz e.symm⟩
        have hst₅ : St (i + 1) h₅ := W.frame _ _ _ hst₄ fun c hc o e => by
          rcases hfp c hc with h1 | ⟨o', h1⟩
          · rw [← hmap] at h1
            obtain ⟨z, hz, e1⟩ := List.mem_map.mp h1
            have e2 := hval z hz
            rw [e1, e] at e2
            have e3 := (N₅ z (List.mem_append.mpr (.inl hz))).1
            rw [e1] at e3
            rw [e3]; exact e2.symm
          · have e2 := (N₄ _ (List.mem_append.mpr (.inr (List.mem_cons_of_mem _ (List.mem_cons_of_mem _ (List.mem_cons_of_mem _ (hk' _ h1))))))).1
            have e3 := (N₅' _ (hk₅ _ h1)).1
            have e4 : some o = some o' := e.symm.trans e2
            exact e3.trans e4.symm
        refine append_at (hsz := by show ys.toArray.size ≤ sizeLine; rw [List.size_toArray]; exact Nat.le_trans hyl (Nat.le_trans hi hsz)) zD fun h₆ hs₆ hD₆ => ?_
        refine ⟨n + 1 - (i + 1), by omega, h₆, tk₅, i + 1, ys ++ [y], _, _, news₅, rfl, hlt, rfl, by rw [List.length_append, List.length_singleton]; omega, W.frame _ _ _ hst₅ fun c hc o e => hs₆.extBut c o (below c (hfp2 c hc)).2.2 e, F₅.change hs₆ hDL hD₀,
          (hoC.ns zC).sameBut hs₆ (Ne.symm hDC), ⟨oB, hs₆.extBut _ _ (Ne.symm hDB) zB, hoB⟩, fun q hq => ?_, off₅', hk₅, R₅⟩
        rcases List.mem_cons.mp hq with rfl | hq
        · exact ⟨hD₆.trans (congrArg some (lst_snoc ys y)), hDL, hD₀⟩
        · exact ⟨hs₆.extBut _ _ (off₅' q hq).2.2.1 (N₅' q hq).1, (N₅' q hq).2⟩
      · have hin : i = n := Nat.le_antisymm hi (Nat.not_lt.mp hlt)
        subst hin
        have hnil : xs.drop i = [] := List.drop_eq_nil_of_le (Nat.le_of_eq hn.symm)
        rw [hnil] at R'
        refine W.done _ _ _ hst' fun h₂ tk₂ hk₂ => ?_
        have hk₂' : ∀ c o, c ∉ wr → h'.get? c = some o → h₂.get? c = some o := hk₂
        refine hRR _ _ h₂ tk₂ _ ys news' ⟨F'.ns.at' fun o e => hk₂' _ o wrL e, fun c o e => hk₂' c o (wr0 c o e) (F'.keep c o e), F'.above⟩ (fun q hq => ?_) (fun q hq => (off' q hq).2.2.1) (hn'.at' fun o e => hk₂' _ o wrC e) hC₀ hD₀ hCL hDL (Ne.symm hDC) (fun q hq => (off' q hq).1) R'
        refine ⟨hk₂' _ _ ?_ (N' q hq).1, (N' q hq).2⟩
        rcases List.mem_cons.mp hq with rfl | hq
        · exact wrD
        · exact fun hm => (off' q hq).2.2.2 (hwr _ hm)
    · rcases List.mem_cons.mp hp with rfl | hp
      · exact ⟨hacc, hDL, hD₀⟩
      · exact ⟨old _ _ (N p hp).1, (N p hp).2⟩
  exact codeAny_compStart_list (loop _ rfl) (hself _ _ _ hst₁ (loop _ rfl))
theorem cc_assignL {elt iter : PySem.Expr} {a b y : Str} {pa pb tp py : Pos} {kk : Nat} {scope : Scope} {cl : List (Str × Addr)} {pos spos : Pos} {Q : Flow → Shared → Prop} (_F₀ : Fr h₀ L s.heap m) (hLe : env.locals = L)
    (hsw : swapsWith (.ListComp elt [⟨.Tuple [.Name a pa, .Name b pb] kk tp, iter, [], 0⟩] scope pos) (some (.Name y py)) spos.line env = pure true)
    (hclos : closureFor scope env = pure cl) (hcf : ∀ n, cellsFrom n scope.names cl = (b, n) :: cl) (hpc : ∀ h : Heap, pushCells h scope.names = h.push { cls := .type "cell", data := .cell none }) (hkind : scope.kind = .function)
    (hnames : ∀ y ∈ scope.names, y.2 = .local → scope.names.lookup y.1 = some .local) (hxa : scope.names.lookup a = some .local) (hxb : (relabel scope env).names.lookup b = some .cell)
    (hy : env.kindOf y = some .local) (hp : (env.scope.kind == .class || (env.scope.kind == .module && env.locals != env.globals)) = false)
    (h : wpAny (model prog w) A (eval iter env) (fun xv s₁ => wpAny (model prog w) A (pyIter xv) (CCAt prog w A h₀ L m env elt a b pa pb tp kk scope cl (fun s₂ => FinL h₀ L m s₂ y Q)) E s₁) E s)
    (hs : ∀ x, foldedSetIterable iter env x = pure x := by intro _; rfl) :
    wpAny (model prog w) A (exec (.Assign [.Name y py] (.ListComp elt [⟨.Tuple [.Name a pa, .Name b pb] kk tp, iter, [], 0⟩] scope pos) spos) env) Q E s := by
  subst hLe
  rw [exec_Assign_Name_used _ _ _ _ hsw]
  refine wpAny_bind (wpAny_standAt (wpAny_bind ?_))
  show wpAny _ A (do let _ ← comprehension (.ListComp elt [⟨.Tuple [.Name a pa, .Name b pb] kk tp, iter, [], 0⟩] scope pos) scope env _ (newList []) false (eval iter env) (some (assign (.Name y py) env))) _ _ s
  refine wpAny_bind (wpAny_mono (wpAny_comprehension_free (use := some (assign (.Name y py) env)) (Q := fun _ s' => Q .next s') rfl hs hclos hkind hnames
    (wpAny_mono h (fun xv s₁ h₁ => wpAny_mono h₁ (fun it s₂ h₂ => ?_) fun _ _ e => e) fun _ _ e => e)) (fun _ s' hq => wpAny_pure (wpAny_pure hq)) fun _ _ e => e)
  refine el_11_18 (h₂) ?_
  clear h₂
  rintro I fp wr n P Md St ws keep news xs rfl W hn hsz hh hP hobj hws hwr hfp hfp2 hself hst F N off hk R
  refine cc_block W hn hsz hh hP hobj hws hwr hfp hfp2 hself hcf hpc hkind hxa hxb hst F N off hk R ?_
  intro D C h' tk m' ys news' F' N' offD hn hC₀ hD₀ hCL hDL hCD offC fin
  show wpAny _ A (assign (.Name y py) env (.ref D)) _ _ _
  refine wpAny_assign_Name (wpAny_storeName_local hy F'.ns (fun h₂ hn₂ hs₂ => ?_) hp)
  have hL₀ : h₀.get? env.locals = none := Heap.get?_none_of_le F'.above
  have F₂ : Fr h₀ env.locals h₂ (fun z => if z = y then some (.ref D) else m z) := ⟨hn₂, fun b o e => hs₂.extBut b o (fun q => by rw [q, hL₀] at e; cases e) (F'.keep b o e), F'.above⟩
  refine ⟨m', hn.sameBut hs₂ hCL, fun h'' hs'' => fin D h'' _ (F₂.change hs'' hCL hC₀) (fun p hp => ?_) offD⟩
  have z : h₂.get? p.1 = some p.2 := hs₂.extBut _ _ (N' p hp).2.1 (N' p hp).1
  refine ⟨hs''.extBut _ _ ?_ z, (N' p hp).2⟩
  rcases List.mem_cons.mp hp with rfl | hp
  · exact Ne.symm hCD
  · exact offC p hp
variable {elt : PySem.Expr} {a b : Str} {pa pb tp : Pos} {kk : Nat} {scope : Scope} {cl : List (Str × Addr)} {Fin : Shared → List Value → Led → Prop}
/-- the source is enumerate of a list of the ledger -/
theorem ccs_enum {l n : Nat} {vs : List Value} {news : Led} (hh : A.handled = none) (F : Fr h₀ L s.heap m) (N : News h₀ L s.heap news) (hm : (l, listOf vs.toArray n) ∈ news) (hz : vs.length ≤ sizeLine)
    (R : ∀ (I : Addr) (g : Heap), (∀ p ∈ news, p.1 < I) → CCRest prog w A h₀ L m env elt a b scope cl { s with heap := g } [(I + 1, "enumerate"), (I, "list_iterator")] [(l, listOf vs.toArray n)] (Fin { s with heap := g }) (vs.zipIdx.map fun p => (fun t => Value.int (p.2 : Int) t, p.1)) [] news) :
    wpAny (model prog w) A (call (.type "enumerate") [.ref l]) (fun xv s₁ => wpAny (model prog w) A (pyIter xv) (CCAt prog w A h₀ L m env elt a b pa pb tp kk scope cl Fin) E s₁) E s := by
  have hax := N _ hm
  have hl : s.heap.IsList l vs.toArray := ⟨_, hax.1, rfl, n, rfl⟩
  have hlt : l < s.heap.objs.size := Heap.lt_size hax.1
  have hLs : L < s.heap.objs.size := F.ns.lt
  refine call_enumerate_list hl fun h' hE hI hsz hk => ?_
  refine wpAny_pyIter_enum hE ?_
  refine ⟨s.heap.objs.size + 1, _, _, _, _, _, _, [(s.heap.objs.size + 1, "enumerate"), (s.heap.objs.size, "list_iterator")], [(l, listOf vs.toArray n)], news, _, rfl, KTurns.ofWalksU (WalksT.enumerate hh (s.heap.objs.size + 1) s.heap.objs.size l (Nat.succ_ne_self _) (ktu_ne 1 hlt) (Nat.ne_of_lt hlt) vs.toArray).toU, by simp, by simpa using hz, hh, ?_, ?_, ?_, ?_, ?_, ?_, ?_, ⟨⟨_, hE⟩, hI, hl.at fun o e => hk l o e⟩, F.keeps hk, N.grown hk, ?_, ?_, R _ _ fun p hp => Heap.lt_size (N p hp).1⟩
  · rintro i v h hJz
    refine el_2_3 (hJz) ?_
    clear hJz
    rintro T vals rfl ⟨t, x, hx, rfl⟩ hT
    refine ⟨(fun t => .int (i : Int) t, x), ?_, T, t, rfl, hT⟩
    have hx' : vs[i]? = some x := by simpa using hx
    simp [List.getElem?_map, List.getElem?_zipIdx, hx']
  · rintro i h ⟨⟨old, he⟩, ⟨oi, hoi, hic, _⟩, _⟩
    have he' : ∃ oe : Obj, h.get? (s.heap.objs.size + 1) = some oe ∧ oe.cls = .type "enumerate" := ⟨_, he, rfl⟩
    obtain ⟨oe, h1, h2⟩ := he'
    refine ⟨[(s.heap.objs.size + 1, oe), (s.heap.objs.size, oi)], ⟨⟨rfl, h2⟩, ⟨rfl, hic⟩, trivial⟩, fun p hp => ?_⟩
    simp only [List.mem_cons, List.not_mem_nil, or_false] at hp
    rcases hp with rfl | rfl <;> assumption
  · intro c hc
    have hc' : c = s.heap.objs.size + 1 ∨ c = s.heap.objs.size := by simpa using hc
    rcases hc' with rfl | rfl
    · exact ⟨by simp, ktu_new F (Nat.le_add_right _ _), (ktu_ne 1 hLs).symm⟩
    · exact ⟨by simp, ktu_new F (Nat.le_refl _), (Nat.ne_of_lt hLs).symm⟩
  · intro c hc
    simpa using hc
  · intro c hc
    have hc' : c = s.heap.objs.size + 1 ∨ c = s.heap.objs.size ∨ c = l := by simpa using hc
    rcases hc' with rfl | rfl | rfl
    · exact .inl (by simp)
    · exact .inl (by simp)
    · exact .inr ⟨_, List.mem_cons_self ..⟩
  · intro c hc
    have hc' : c = s.heap.objs.size + 1 ∨ c = s.heap.objs.size ∨ c = l := by simpa using hc
    show c < h'.objs.size
    rw [hsz]
    have h1 : @LT.lt Nat _ l s.heap.objs.size := hlt
    rcases hc' with rfl | rfl | rfl
    · exact Nat.lt_succ_self _
    · exact Nat.lt_succ_of_lt (Nat.lt_succ_self _)
    · exact Nat.lt_succ_of_lt (Nat.lt_succ_of_lt h1)
  · rintro s' Q' E' ⟨⟨old, he⟩, _⟩ q
    exact wpAny_pyIter_enum he q
  · intro p hp hI'
    have hb' : p.1 = s.heap.objs.size + 1 ∨ p.1 = s.heap.objs.size := by simpa using hI'
    have hlp := Heap.lt_size (N p hp).1
    rcases hb' with e | e
    · exact ktu_ne 1 hlp e
    · exact Nat.ne_of_lt hlp e
  · intro p hp
    rw [List.mem_singleton.mp hp]
    exact hm
end
end Mine
end
section
open PySem PySem.W PyProof.Rows
set_option Elab.async false
set_option maxRecDepth 100000
set_option maxHeartbeats 1000000
namespace Mine
open PySem.Calls PyProof.Rows.LCg
section
variable {prog : Program} {w : World} {A : Around} {E : Value → Shared → Prop} {s : Shared} {h₀ : Heap} {L l : Addr} {m : Str → Option Value} {news : Led} {value slice : PySem.Expr} {vs : List Value} {ns : List Int} {n : Nat} {Q : Value → Shared → Prop}
theorem sum_led (hh : A.handled = none) (F : Fr h₀ L s.heap m) (N : News h₀ L s.heap news) (hm : (l, listOf vs.toArray n) ∈ news) (T : IntsAre vs ns)
    (h : ∀ h' tk t', Fr h₀ L h' m → News h₀ L h' news → Q (.int ns.sum t') { s with heap := h', toks := tk }) :
    wpAny (model prog w) A (call (.builtin "sum") [.ref l]) Q E s :=
  sumK hh F N ⟨_, (N _ hm).1, rfl, n, rfl⟩ T h
end
theorem ints_opt {vs : List Value} {ns : List Int} (h : IntsAre vs ns) : ∀ i : Nat, (vs[i]? = none ∧ ns[i]? = none) ∨ ∃ n t, vs[i]? = some (.int n t) ∧ ns[i]? = some n := by
  induction h with
  | nil => intro i; exact .inl ⟨rfl, rfl⟩
  | cons n t _ ih =>
    intro i
    cases i with
    | zero => exact .inr ⟨n, t, rfl, rfl⟩
    | succ i => simpa using ih i
theorem ints_pick {vs : List Value} {ns : List Int} (h : IntsAre vs ns) : ∀ r : List Nat, IntsAre (r.filterMap fun x => vs.toArray[x]?) (r.filterMap fun x => ns[x]?)
  | [] => .nil
  | i :: r => by
    have ih := ints_pick h r
    rcases ints_opt h i with ⟨e1, e2⟩ | ⟨n, t, e1, e2⟩
    · rw [List.filterMap_cons_none (by simpa using e1), List.filterMap_cons_none e2]
      exact ih
    · rw [List.filterMap_cons_some (b := .int n t) (by simpa using e1), List.filterMap_cons_some e2]
      exact .cons n t ih
theorem objs1 {w1 : Addr × String} : ∀ {its : Led}, Objs [w1] its → ∃ o1, its = [(w1.1, o1)]
  | [], h => (show False from h).elim
  | (_, o) :: its, h => by
    have e : _ = w1.1 := h.1.1
    cases its with
    | nil => exact ⟨o, by rw [← e]⟩
    | cons _ _ => exact (show False from h.2).elim
theorem objs2 {w1 w2 : Addr × String} : ∀ {its : Led}, Objs [w1, w2] its → ∃ o1 o2, its = [(w1.1, o1), (w2.1, o2)]
  | [], h => (show False from h).elim
  | (_, o) :: its, h => by
    have e : _ = w1.1 := h.1.1
    obtain ⟨o2, e2⟩ := objs1 (show Objs [w2] its from h.2)
    exact ⟨o, o2, by rw [e2, ← e]⟩
/-- the draws' comprehension: what is left are six ints with their places -/
noncomputable def DrawJ (led : Led) (rem : List ((Tok → Value) × Value)) (ys : List Value) (news : Led) : Prop :=
  news = led ∧ rem.length + ys.length = 6 ∧ (∃ ds, IntsAre ys ds) ∧ ∀ p ∈ rem, ∃ (j : Nat) (f : Int) (t : Tok), p = (fun u => Value.int (j : Int) u, Value.int f t)
theorem draw_next {led : Led} {p : (Tok → Value) × Value} {r : List ((Tok → Value) × Value)} {ys : List Value} {news : Led} (h : DrawJ led (p :: r) ys news) {x : Int} {tx : Tok} : DrawJ led r (ys ++ [.int x tx]) led := by
  refine el_0_4 (h) ?_
  clear h
  rintro _ hl ⟨ds, hd⟩ hr
  exact ⟨rfl, by simp only [List.length_cons, List.length_append, List.length_nil] at hl ⊢; omega, ⟨ds ++ [x], ints_snoc hd⟩, fun p hp => hr p (List.mem_cons_of_mem _ hp)⟩
theorem cells_len {ys : List Value} {f : Int → Int} {ns : List Int} (h : IntsAre ys (List.map f (List.take 12 ns))) : ys.length ≤ 64 := by
  have := h.length
  simp only [List.length_map, List.length_take] at this
  omega
theorem draw_start {h₀ h : Heap} {L : Addr} {led : Led} (_N : News h₀ L h led) {t1 t2 t3 t4 t5 t6 : Tok} : DrawJ led ([Value.int 60 t1, .int 18 t2, .int 48 t3, .int 42 t4, .int 52 t5, .int 56 t6].zipIdx.map fun p => (fun t => Value.int (p.2 : Int) t, p.1)) [] led := by
  refine ⟨rfl, rfl, ⟨[], .nil⟩, fun p hp => ?_⟩
  simp only [List.zipIdx_cons, List.zipIdx_nil, List.map_cons, List.map_nil, List.mem_cons, List.not_mem_nil, or_false] at hp
  rcases hp with rfl | rfl | rfl | rfl | rfl | rfl <;> exact ⟨_, _, _, rfl⟩
theorem off1_of {D : Addr} : ∀ {l : Led}, (∀ p ∈ l, p.1 ≠ D) → Off1 D l
  | [], _ => trivial
  | _ :: _, h => ⟨h _ (List.mem_cons_self ..), off1_of fun p hp => h p (List.mem_cons_of_mem _ hp)⟩
noncomputable abbrev rab (d : Int) : Int × Int × Int := (d.fmod 16, (d.fdiv 16).fmod 2, (d.fdiv 32).fmod 2)
noncomputable abbrev Col.ent (c : Col) : Addr × Obj := (c.ad, c.obj)
noncomputable abbrev crefs (cs : List Col) : List Value := cs.map fun c => Value.ref c.ad
noncomputable def PaintJ (base : Led) (ds : List Int) (rem ys : List Value) (news : Led) : Prop :=
  ∃ (cs : List Col) (dn rr : List Int), ds = dn ++ rr ∧ IntsAre rem rr ∧ ys = crefs cs ∧ cs.map (fun c => (c.r, c.a, c.b)) = dn.map rab ∧ (∀ c ∈ cs, c.ent ∈ news) ∧ (∀ p ∈ base, p ∈ news)
theorem paint_start {base : Led} {ds : List Int} {vs : List Value} (h : IntsAre vs ds) : PaintJ base ds vs [] base :=
  ⟨[], [], ds, rfl, h, rfl, rfl, (fun _ h => nomatch h), fun _ h => h⟩
theorem paint_next {base : Led} {ds : List Int} {rem ys : List Value} {news : Led} {d : Int} {t ta tb tc : Tok} {q n : Nat} (h : PaintJ base ds (.int d t :: rem) ys news) :
    PaintJ base ds rem (ys ++ [.ref q]) ((q, tri (F32 (partR (d.fmod 16) ((d.fdiv 16).fmod 2) ((d.fdiv 32).fmod 2) 0)) (F32 (partR (d.fmod 16) ((d.fdiv 16).fmod 2) ((d.fdiv 32).fmod 2) 16)) (F32 (partR (d.fmod 16) ((d.fdiv 16).fmod 2) ((d.fdiv 32).fmod 2) 32)) ta tb tc n) :: news) := by
  refine el_3_6 (h) ?_
  clear h
  rintro cs dn rr e hr ey hc hm hb
  cases hr with
  | cons _ _ hr =>
  rename_i rr
  refine ⟨cs ++ [⟨q, d.fmod 16, (d.fdiv 16).fmod 2, (d.fdiv 32).fmod 2, ta, tb, tc, n⟩], dn ++ [d], rr, by simp [e], hr, by simp [ey], by simp [hc], fun c hc => ?_, fun p hp => List.mem_cons_of_mem _ (hb p hp)⟩
  rcases List.mem_append.mp hc with hc | hc
  · exact List.mem_cons_of_mem _ (hm c hc)
  · rw [List.mem_singleton.mp hc]
    exact List.mem_cons_self ..
theorem rab_ok (d : Int) : (0 ≤ (rab d).1 ∧ (rab d).1 < 16) ∧ (0 ≤ (rab d).2.1 ∧ (rab d).2.1 < 2) ∧ (0 ≤ (rab d).2.2 ∧ (rab d).2.2 < 2) :=
  ⟨⟨fmod_lo d (n := 16) (by decide), fmod_hi d (n := 16) (by decide)⟩, ⟨fmod_lo (d.fdiv 16) (n := 2) (by decide), fmod_hi (d.fdiv 16) (n := 2) (by decide)⟩, fmod_lo (d.fdiv 32) (n := 2) (by decide), fmod_hi (d.fdiv 32) (n := 2) (by decide)⟩
theorem cols_ok {cs : List Col} {ds : List Int} (h : cs.map (fun c => (c.r, c.a, c.b)) = ds.map rab) : ∀ c ∈ cs, c.ok := fun c hc => by
  have : (c.r, c.a, c.b) ∈ ds.map rab := h ▸ List.mem_map.mpr ⟨c, hc, rfl⟩
  obtain ⟨d, _, e⟩ := List.mem_map.mp this
  have k := rab_ok d
  rw [e] at k
  exact k
section
variable {prog : Program} {w : World} {A : Around} {E : Value → Shared → Prop} {s : Shared} {h₀ : Heap} {L D : Addr} {m : Str → Option Value} {news : Led}
/-- a name that is a cell is stored; what is kept stands apart from it -/
theorem cell_keep {cn : Str} {cs : Scope} {a c : Addr} {ccd : Value} {cl : List (Str × Addr)} {x : Str} {v : Value} {v₀ : Option Value} {o : Obj} {Q : Unit → Shared → Prop} (keep : Led) (F : Fr h₀ L s.heap m) (N : News h₀ L s.heap news) (hc : cl.lookup x = some c) (hm : (c, o) ∈ news) (hd : o.data = .cell v₀) (hk : ∀ p ∈ keep, p ∈ news ∧ p.1 ≠ c)
    (h : ∀ h' o', Fr h₀ L h' m → News h₀ L h' ((c, o') :: keep) → o'.data = .cell (some v) → Q () { s with heap := h' })
    (hk' : cs.kind = .function := by rfl) (hx : (envX cn cs L a ccd cl).kindOf x = some .cell := by rfl) : wpAny (model prog w) A (storeName (envX cn cs L a ccd cl) x v) Q E s := by
  have N2 : News h₀ L s.heap ((c, o) :: keep) := fun p hp => by
    rcases List.mem_cons.mp hp with rfl | hp
    · exact N _ hm
    · exact N _ (hk p hp).1
  exact storeX_C F N2 hc (UpdF.head fun p hp => (hk p hp).2) hd h hk' hx
end
theorem news_cell {h₀ h : Heap} {L : Addr} {news : Led} {a c : Addr} {o o' : Obj} {v : Option Value} (N : News h₀ L h news) (ha : (a, o) ∈ news) (hc : (c, o') ∈ news) (hd : o'.data = .cell v) (hn : ∀ v, o.data ≠ .cell v) : a ≠ c := fun e => by
  subst e
  have h1 := (N _ ha).1
  have h2 := (N _ hc).1
  have h3 : o = o' := Option.some.inj (h1.symm.trans h2)
  exact hn v (h3 ▸ hd)
section
variable {h₀ h h2 : Heap} {L : Addr} {I C D q : Nat} {oI oC oD o : Obj} {news : Led}
theorem new_swap3 (N : News h₀ L h ((q, o) :: (I, oI) :: (C, oC) :: (D, oD) :: news)) : News h₀ L h ((I, oI) :: (C, oC) :: (D, oD) :: (q, o) :: news) := fun p hp => N p (by
  simp only [List.mem_cons] at hp ⊢
  rcases hp with h | h | h | h | h <;> simp [h])
theorem new_off3 (off : Off3 I C D news) (l : ∀ p ∈ ((I, oI) :: (C, oC) :: (D, oD) :: news : Led), p.1 < q) : Off3 I C D ((q, o) :: news) :=
  ⟨⟨Ne.symm (Nat.ne_of_lt (l _ (List.mem_cons_self ..))), Ne.symm (Nat.ne_of_lt (l _ (List.mem_cons_of_mem _ (List.mem_cons_self ..)))), Ne.symm (Nat.ne_of_lt (l _ (List.mem_cons_of_mem _ (List.mem_cons_of_mem _ (List.mem_cons_self ..)))))⟩, off⟩
theorem ent_mem {cs : List Col} {c : Col} (h : c ∈ cs) : c.ent ∈ cs.map Col.ent := List.mem_map.mpr ⟨c, h, rfl⟩
theorem keep_colours {hx : Heap} {cs : List Col} {D1 D3 L0 : Nat} {ys1 : List Value} {x1 x2 x3 : Addr × Obj} {o1 o2 o3 o4 o5 : Obj} {v : Option Value} (_lN : News h₀ L hx [(D1, lst ys1), x1, x2, x3, (L0 + 1 + 1 + 1 + 1 + 1, o5), (L0 + 1 + 1 + 1 + 1, o4), (L0 + 1 + 1 + 1, o3), (L0 + 1 + 1, o2), (L0 + 1, o1)])
    (hb : ∀ p ∈ ([(D1, lst ys1), x1, x2, x3, (L0 + 1 + 1 + 1 + 1 + 1, o5), (L0 + 1 + 1 + 1 + 1, o4), (L0 + 1 + 1 + 1, o3), (L0 + 1 + 1, o2), (L0 + 1, o1)] : Led), p ∈ news) (N : News h₀ L h ((D3, lst (crefs cs)) :: news)) (hm : ∀ c ∈ cs, c.ent ∈ news) (hd : o4.data = .cell v) :
    ∀ p ∈ ((D3, lst (crefs cs)) :: (L0 + 1 + 1 + 1 + 1 + 1, o5) :: (L0 + 1 + 1 + 1, o3) :: (L0 + 1 + 1, o2) :: (D1, lst ys1) :: cs.map Col.ent : Led), p ∈ ((D3, lst (crefs cs)) :: news : Led) ∧ p.1 ≠ (L0 + 1 + 1 + 1 + 1 : Nat) := by
  have h4 : ((L0 + 1 + 1 + 1 + 1 : Nat), o4) ∈ ((D3, lst (crefs cs)) :: news : Led) := List.mem_cons_of_mem _ (hb _ (by simp))
  intro p hp
  simp only [List.mem_cons, List.mem_map] at hp
  rcases hp with rfl | rfl | rfl | rfl | rfl | ⟨c, hc, rfl⟩
  · exact ⟨List.mem_cons_self .., news_cell N (List.mem_cons_self ..) h4 hd fun v e => by cases e⟩
  · exact ⟨List.mem_cons_of_mem _ (hb _ (by simp)), by show L0 + 1 + 1 + 1 + 1 + 1 ≠ _; omega⟩
  · exact ⟨List.mem_cons_of_mem _ (hb _ (by simp)), by show L0 + 1 + 1 + 1 ≠ _; omega⟩
  · exact ⟨List.mem_cons_of_mem _ (hb _ (by simp)), by show L0 + 1 + 1 ≠ _; omega⟩
  · have hq : ((D1 : Addr), lst ys1) ∈ ((D3, lst (crefs cs)) :: news : Led) := List.mem_cons_of_mem _ (hb _ (List.mem_cons_self ..))
    exact ⟨hq, news_cell N hq h4 hd fun v e => by cases e⟩
  · exact ⟨List.mem_cons_of_mem _ (hm c hc), news_cell N (List.mem_cons_of_mem _ (hm c hc)) h4 hd fun v e => by cases e⟩
theorem keep_ring {cs : List Col} {D1 D3 L0 q : Nat} {ys1 rs : List Value} {o2 o3 o4 o5 : Obj} {v : Option Value}
    (N : News h₀ L h ((q, lst rs) :: (L0 + 1 + 1 + 1 + 1, o4) :: (D3, lst (crefs cs)) :: (L0 + 1 + 1 + 1 + 1 + 1, o5) :: (L0 + 1 + 1 + 1, o3) :: (L0 + 1 + 1, o2) :: (D1, lst ys1) :: cs.map Col.ent)) (hd : o5.data = .cell v) :
    ∀ p ∈ ((q, lst rs) :: (L0 + 1 + 1 + 1 + 1, o4) :: (D3, lst (crefs cs)) :: (L0 + 1 + 1 + 1, o3) :: (L0 + 1 + 1, o2) :: (D1, lst ys1) :: cs.map Col.ent : Led), p ∈ ((q, lst rs) :: (L0 + 1 + 1 + 1 + 1, o4) :: (D3, lst (crefs cs)) :: (L0 + 1 + 1 + 1 + 1 + 1, o5) :: (L0 + 1 + 1 + 1, o3) :: (L0 + 1 + 1, o2) :: (D1, lst ys1) :: cs.map Col.ent : Led) ∧ p.1 ≠ (L0 + 1 + 1 + 1 + 1 + 1 : Nat) := by
  intro p hp
  have h5 : ((L0 + 1 + 1 + 1 + 1 + 1 : Nat), o5) ∈ ((q, lst rs) :: (L0 + 1 + 1 + 1 + 1, o4) :: (D3, lst (crefs cs)) :: (L0 + 1 + 1 + 1 + 1 + 1, o5) :: (L0 + 1 + 1 + 1, o3) :: (L0 + 1 + 1, o2) :: (D1, lst ys1) :: cs.map Col.ent : Led) := by simp
  have hp' : p ∈ ((q, lst rs) :: (L0 + 1 + 1 + 1 + 1, o4) :: (D3, lst (crefs cs)) :: (L0 + 1 + 1 + 1 + 1 + 1, o5) :: (L0 + 1 + 1 + 1, o3) :: (L0 + 1 + 1, o2) :: (D1, lst ys1) :: cs.map Col.ent : Led) := by
    simp only [List.mem_cons] at hp ⊢
    rcases hp with h | h | h | h | h | h | h <;> simp [h]
  refine ⟨hp', ?_⟩
  simp only [List.mem_cons, List.mem_map] at hp
  rcases hp with rfl | rfl | rfl | rfl | rfl | rfl | ⟨c, hc, rfl⟩
  · exact news_cell N hp' h5 hd fun v e => by cases e
  · show L0 + 1 + 1 + 1 + 1 ≠ _
    omega
  · exact news_cell N hp' h5 hd fun v e => by cases e
  · show L0 + 1 + 1 + 1 ≠ _
    omega
  · show L0 + 1 + 1 ≠ _
    omega
  · exact news_cell N hp' h5 hd fun v e => by cases e
  · exact news_cell N hp' h5 hd fun v e => by cases e
end
end Mine
end
section
open PySem PySem.W PyProof.Rows
set_option Elab.async false
set_option maxRecDepth 100000
set_option maxHeartbeats 1000000
namespace Mine
open PySem.Calls PyProof.Rows.LCg
/-- enumerate's items that are left -/
noncomputable def EnumOf : List ((Tok → Value) × Value) → List (Int × Nat) → Prop
  | [], [] => True
  | p :: r, q :: qs => (∃ t, p = (fun u => Value.int (q.2 : Int) u, Value.int q.1 t)) ∧ EnumOf r qs
  | _, _ => False
theorem enumOf_ints {vs : List Value} {ns : List Int} (h : IntsAre vs ns) : ∀ k : Nat, EnumOf ((vs.zipIdx k).map fun p => (fun t => Value.int (p.2 : Int) t, p.1)) (ns.zipIdx k) := by
  induction h with
  | nil => intro k; exact trivial
  | cons n t _ ih => intro k; exact ⟨⟨t, rfl⟩, ih (k + 1)⟩
noncomputable abbrev toneF (q : Int × Nat) : Int × Int := (q.1.fmod 16, (q.2 : Int))
noncomputable def DrawnJ (base : Led) (all : List (Int × Nat)) (rem : List ((Tok → Value) × Value)) (ys : List Value) (news : Led) : Prop :=
  ∃ (dn rr : List (Int × Nat)) (es : List Ent), all = dn ++ rr ∧ EnumOf rem rr ∧ ys = refs es ∧ EntIs es (dn.map toneF) ∧ Has news es ∧ (∀ p ∈ base, p ∈ news)
theorem drawn_start {base : Led} {vs : List Value} {ns : List Int} (h : IntsAre vs ns) : DrawnJ base ns.zipIdx (vs.zipIdx.map fun p => (fun t => Value.int (p.2 : Int) t, p.1)) [] base :=
  ⟨[], _, [], rfl, enumOf_ints h 0, rfl, trivial, (fun _ h => nomatch h), fun _ h => h⟩
theorem drawn_next {base : Led} {all : List (Int × Nat)} {rem : List ((Tok → Value) × Value)} {ys : List Value} {news : Led} {q : Int × Nat} {dn rr : List (Int × Nat)} {es : List Ent} {a n : Nat} {t1 t2 : Tok} (e : all = dn ++ q :: rr) (hr : EnumOf rem rr) (ey : ys = refs es) (hi : EntIs es (dn.map toneF)) (hh : Has news es) (hb : ∀ p ∈ base, p ∈ news) :
    DrawnJ base all rem (ys ++ [.ref a]) ((a, tup2 (.int (q.1.fmod 16) t1) (.int (q.2 : Int) t2) n) :: news) := by
  refine ⟨dn ++ [q], rr, es ++ [⟨a, .int (q.1.fmod 16) t1, .int (q.2 : Int) t2, n⟩], by simp [e], hr, by simp [ey], ?_, fun e he => ?_, fun p hp => List.mem_cons_of_mem _ (hb p hp)⟩
  · rw [List.map_append]
    exact hi.app ⟨⟨_, _, rfl, rfl⟩, trivial⟩
  · rcases List.mem_append.mp he with he | he
    · exact List.mem_cons_of_mem _ (hh e he)
    · rw [List.mem_singleton.mp he]
      exact List.mem_cons_self ..
section
variable {h₀ h : Heap} {L : Addr} {i1 i2 C D a : Nat} {o1 o2 oC oD o : Obj} {news : Led}
theorem new_swap5 (N : News h₀ L h ((a, o) :: (i1, o1) :: (i2, o2) :: (C, oC) :: (D, oD) :: news)) : News h₀ L h ([((i1 : Addr), o1), ((i2 : Addr), o2)] ++ (C, oC) :: (D, oD) :: (a, o) :: news) := fun p hp => N p (by
  simp only [List.cons_append, List.nil_append, List.mem_cons] at hp ⊢
  rcases hp with h | h | h | h | h | h <;> simp [h])
theorem new_off5 (off : ∀ q ∈ news, q.1 ≠ C ∧ q.1 ≠ D ∧ ∀ z ∈ [((i1 : Addr), o1), ((i2 : Addr), o2)], q.1 ≠ z.1) (l : @LT.lt Nat _ i1 a ∧ @LT.lt Nat _ i2 a ∧ @LT.lt Nat _ C a ∧ @LT.lt Nat _ D a ∧ AllLt a news) :
    ∀ q ∈ (((a : Addr), o) :: news : Led), q.1 ≠ C ∧ q.1 ≠ D ∧ ∀ z ∈ [((i1 : Addr), o1), ((i2 : Addr), o2)], q.1 ≠ z.1 := fun q hq => by
  rcases List.mem_cons.mp hq with rfl | hq
  · refine ⟨Ne.symm (Nat.ne_of_lt l.2.2.1), Ne.symm (Nat.ne_of_lt l.2.2.2.1), fun z hz => ?_⟩
    simp only [List.mem_cons, List.not_mem_nil, or_false] at hz
    rcases hz with rfl | rfl
    · exact Ne.symm (Nat.ne_of_lt l.1)
    · exact Ne.symm (Nat.ne_of_lt l.2.1)
  · exact off q hq
end
theorem cols_tones {cs : List Col} {ds : List Int} (h : cs.map (fun c => (c.r, c.a, c.b)) = ds.map rab) : cs.zipIdx.map (fun p => (p.1.r, (p.2 : Int))) = ds.zipIdx.map toneF := by
  have hl : cs.length = ds.length := by simpa using congrArg List.length h
  refine List.ext_getElem (by simp [hl]) fun i h1 h2 => ?_
  have hi1 : i < cs.length := by simpa using h1
  have hi2 : i < ds.length := by simpa using h2
  have e := congrArg (fun l => l[i]?) h
  simp only [List.getElem?_map, List.getElem?_eq_getElem hi1, List.getElem?_eq_getElem hi2, Option.map_some, Option.some.injEq, Prod.mk.injEq] at e
  simp [e.1]
/-- sorted: what comes out of it, told as pairs -/
theorem sorted_pick {es : List Ent} {l l' : List (Int × Int)} {p : Array Nat} {news : Led} (hi : EntIs es l) (hh : Has news es) (hp : ∀ i ∈ p.toList, i < 6) (h6 : l.length = 6) (hm : p.toList.map (fun i => l.getD i (0, 0)) = l') : EntIs (p.toList.map (entAt es)) l' ∧ Has news (p.toList.map (entAt es)) :=
  ⟨hm ▸ hi.pick _ fun i h => by rw [h6]; exact hp i h, hh.pick hi _ fun i h => by rw [h6]; exact hp i h⟩
end Mine
end
section
open PySem PySem.W PyProof.Rows
set_option Elab.async false
set_option maxRecDepth 100000
set_option maxHeartbeats 1000000
namespace Mine
open PySem.Calls PyProof.Rows.LCg
/-- the pairs that are left -/
noncomputable def PairsOf : List ((Tok → Value) × Value) → List (Int × Int) → Prop
  | [], [] => True
  | p :: r, q :: qs => (∃ t1 t2, p = (fun _ => Value.int q.1 t1, Value.int q.2 t2)) ∧ PairsOf r qs
  | _, _ => False
theorem pairs_of : ∀ {es : List Ent} {l : List (Int × Int)}, EntIs es l → PairsOf (es.map fun e => (fun _ => e.p, e.q)) l
  | [], [], _ => trivial
  | e :: es, p :: l, h => by
    obtain ⟨⟨t1, t2, e1, e2⟩, h⟩ := h
    exact ⟨⟨t1, t2, by simp only [e1, e2]⟩, pairs_of h⟩
noncomputable def RotJ (base : Led) (f : Int → Bool) (all : List (Int × Int)) (rem : List ((Tok → Value) × Value)) (ys : List Value) (news : Led) : Prop :=
  ∃ (dn rr : List (Int × Int)), all = dn ++ rr ∧ PairsOf rem rr ∧ IntsAre ys ((dn.filter fun p => f p.1).map (·.2)) ∧ news = base
theorem rot_start {base : Led} {f : Int → Bool} {es : List Ent} {l : List (Int × Int)} (h : EntIs es l) : RotJ base f l (es.map fun e => (fun _ => e.p, e.q)) [] base :=
  ⟨[], l, rfl, pairs_of h, .nil, rfl⟩
theorem rot_yes {base : Led} {f : Int → Bool} {all dn rr : List (Int × Int)} {q : Int × Int} {rem : List ((Tok → Value) × Value)} {ys : List Value} {t : Tok} (e : all = dn ++ q :: rr) (hr : PairsOf rem rr) (hy : IntsAre ys ((dn.filter fun p => f p.1).map (·.2))) (hq : f q.1 = true) : RotJ base f all rem (ys ++ [.int q.2 t]) base := by
  refine ⟨dn ++ [q], rr, by simp [e], hr, ?_, rfl⟩
  rw [List.filter_append, List.map_append, List.filter_cons, hq, if_pos rfl]
  exact ints_snoc hy
theorem rot_no {base : Led} {f : Int → Bool} {all dn rr : List (Int × Int)} {q : Int × Int} {rem : List ((Tok → Value) × Value)} {ys : List Value} (e : all = dn ++ q :: rr) (hr : PairsOf rem rr) (hy : IntsAre ys ((dn.filter fun p => f p.1).map (·.2))) (hq : f q.1 = false) : RotJ base f all rem (ys ++ (none : Option Value).toList) base := by
  rw [Option.toList_none, List.append_nil]
  refine ⟨dn ++ [q], rr, by simp [e], hr, ?_, rfl⟩
  rw [List.filter_append, List.map_append, List.filter_cons, hq, if_neg (by simp)]
  simpa using hy
theorem ints_app {xs ys : List Value} {a b : List Int} (h : IntsAre xs a) (k : IntsAre ys b) : IntsAre (xs ++ ys) (a ++ b) := by
  induction h with
  | nil => exact k
  | cons n t _ ih => exact .cons n t ih
section
variable {prog : Program} {w : World} {A : Around} {E : Value → Shared → Prop} {s : Shared} {h₀ : Heap} {L a b : Addr} {i j : Nat} {news : Led} {xs ys : List Value} {ns ms : List Int} {Q : Value → Shared → Prop}
/-- two lists of the same ints: `!=` tells False -/
theorem ne_led (N : News h₀ L s.heap news) (ha : (a, listOf xs.toArray i) ∈ news) (hb : (b, listOf ys.toArray j) ∈ news) (hi : IntsAre xs ns) (hj : IntsAre ys ms) (e : ns = ms) (hu : A.units + 64 < cLine) (h : Q (.bool false) s) :
    wpAny (model prog w) A (compareOp .NotEq (.ref a) (.ref b)) Q E s :=
  ke_ne_ints ⟨_, (N _ ha).1, rfl, i, rfl⟩ ⟨_, (N _ hb).1, rfl, j, rfl⟩ hi hj hu (by rw [decide_eq_true e]; exact h)
end
theorem rot_len {ys : List Value} {f : Int × Int → Bool} {l : List (Int × Int)} (h : IntsAre ys ((l.filter f).map (·.2))) (h6 : l.length = 6) : ys.length ≤ 6 := by
  have h1 := h.length
  have h2 := List.length_filter_le f l
  rw [List.length_map] at h1
  omega
end Mine
end
section
open PySem PySem.W PyProof.Rows
set_option Elab.async false
set_option maxRecDepth 100000
set_option maxHeartbeats 1000000
namespace Mine
open PySem.Calls PyProof.Rows.LCg
noncomputable def colAt (cs : List Col) (i : Int) : Col := cs.getD i.toNat ⟨0, 0, 0, 0, 0, 0, 0, 0⟩
theorem col_get {cs : List Col} {i : Int} (h6 : cs.length = 6) (h : 0 ≤ i ∧ i < 6) : (crefs cs)[i.toNat]? = some (.ref (colAt cs i).ad) ∧ colAt cs i ∈ cs := by
  have h1 : i.toNat < cs.length := by omega
  constructor
  · simp [colAt, h1]
  · simp [colAt, h1]
noncomputable def farC (c d : Col) : Int := farI (partR c.r c.a c.b 0) (partR c.r c.a c.b 16) (partR c.r c.a c.b 32) (partR d.r d.a d.b 0) (partR d.r d.a d.b 16) (partR d.r d.a d.b 32)
theorem part_in {r a b k : Int} (ha : 0 ≤ a ∧ a < 2) (hb : 0 ≤ b ∧ b < 2) : In32 (partR r a b k) := by
  unfold partR In32
  generalize hf : min (max (min (Int.natAbs (3 * r - k) : Int) (48 - (Int.natAbs (3 * r - k) : Int)) - 8) 0) 8 = f
  have f0 : 0 ≤ f ∧ f ≤ 8 := by omega
  have e1 : a = 0 ∨ a = 1 := by omega
  have e2 : b = 0 ∨ b = 1 := by omega
  rcases e1 with rfl | rfl <;> rcases e2 with rfl | rfl <;> omega
theorem col_in32 {c : Col} (h : c.ok) : In32 (partR c.r c.a c.b 0) ∧ In32 (partR c.r c.a c.b 16) ∧ In32 (partR c.r c.a c.b 32) :=
  ⟨part_in h.2.1 h.2.2, part_in h.2.1 h.2.2, part_in h.2.1 h.2.2⟩
theorem off1_mem {D : Addr} : ∀ {l : Led}, Off1 D l → ∀ p ∈ l, p.1 ≠ D
  | [], _, _, hp => absurd hp (List.not_mem_nil)
  | _ :: _, h, p, hp => by
    rcases List.mem_cons.mp hp with rfl | hp
    · exact h.1
    · exact off1_mem h.2 p hp
noncomputable def FarIn (base : Led) (cs : List Col) (o : Int) (row : List Int) (rem ys : List Value) (news : Led) : Prop :=
  ∃ dn rr, row = dn ++ rr ∧ IntsAre rem rr ∧ IntsAre ys (dn.map fun i => farC (colAt cs i) (colAt cs o)) ∧ news = base
theorem farIn_start {base : Led} {cs : List Col} {o : Int} {row : List Int} {vs : List Value} (h : IntsAre vs row) : FarIn base cs o row vs [] base := ⟨[], row, rfl, h, .nil, rfl⟩
theorem farIn_next {base : Led} {cs : List Col} {o i : Int} {row dn rr : List Int} {rem ys : List Value} {t : Tok} (e : row = dn ++ i :: rr) (hr : IntsAre rem rr) (hy : IntsAre ys (dn.map fun i => farC (colAt cs i) (colAt cs o))) :
    FarIn base cs o row rem (ys ++ [.int (farC (colAt cs i) (colAt cs o)) t]) base :=
  ⟨dn ++ [i], rr, by simp [e], hr, by rw [List.map_append]; exact ints_snoc hy, rfl⟩
noncomputable abbrev farRow (cs : List Col) (ns : List Int) (q : Int × Nat) : List Int := (ns.take q.2).map fun i => farC (colAt cs i) (colAt cs q.1)
/-- the values are lists of ints of the ledger -/
noncomputable def FarRows (news : Led) : List Value → List (List Int) → Prop
  | [], [] => True
  | v :: vs, r :: rs => (∃ (a : Nat) (xs : List Value) (n : Nat), v = .ref a ∧ (a, listOf xs.toArray n) ∈ news ∧ IntsAre xs r) ∧ FarRows news vs rs
  | _, _ => False
theorem FarRows.imp {news news' : Led} (hs : ∀ (a : Nat) (xs : List Value) (n : Nat), (a, listOf xs.toArray n) ∈ news → (a, listOf xs.toArray n) ∈ news') : ∀ {vs : List Value} {rs : List (List Int)}, FarRows news vs rs → FarRows news' vs rs
  | [], [], _ => trivial
  | _ :: _, _ :: _, h => by
    obtain ⟨⟨a, xs, n, e, hm, hi⟩, h⟩ := h
    exact ⟨⟨a, xs, n, e, hs a xs n hm, hi⟩, FarRows.imp hs h⟩
theorem FarRows.snoc {news : Led} {a n : Nat} {xs : List Value} {r : List Int} (hm : (a, listOf xs.toArray n) ∈ news) (hi : IntsAre xs r) : ∀ {vs : List Value} {rs : List (List Int)}, FarRows news vs rs → FarRows news (vs ++ [.ref a]) (rs ++ [r])
  | [], [], _ => ⟨⟨a, xs, n, rfl, hm, hi⟩, trivial⟩
  | _ :: _, _ :: _, h => ⟨h.1, FarRows.snoc hm hi h.2⟩
theorem FarRows.at {news : Led} : ∀ {vs : List Value} {rs : List (List Int)}, FarRows news vs rs → ∀ i, i < rs.length → ∃ (a : Nat) (xs : List Value) (n : Nat), vs[i]? = some (.ref a) ∧ (a, listOf xs.toArray n) ∈ news ∧ IntsAre xs (rs.getD i [])
  | [], [], _, _, hi => absurd hi (by simp)
  | _ :: _, _ :: _, h, 0, _ => by
    obtain ⟨⟨a, xs, n, e, hm, hx⟩, _⟩ := h
    exact ⟨a, xs, n, by rw [e]; rfl, hm, hx⟩
  | _ :: _, _ :: _, h, i + 1, hi => by
    refine el_3_3 (FarRows.at h.2 i (by simpa using hi)) ?_
    rintro a xs n e hm hx
    exact ⟨a, xs, n, by simpa using e, hm, by simpa using hx⟩
theorem FarRows.length {news : Led} : ∀ {vs : List Value} {rs : List (List Int)}, FarRows news vs rs → vs.length = rs.length
  | [], [], _ => rfl
  | _ :: _, _ :: _, h => congrArg (· + 1) (FarRows.length h.2)
noncomputable def FarJ (base : Led) (cs : List Col) (ns : List Int) (rem : List ((Tok → Value) × Value)) (ys : List Value) (news : Led) : Prop :=
  ∃ dn rr, ns.zipIdx = dn ++ rr ∧ EnumOf rem rr ∧ FarRows news ys (dn.map (farRow cs ns)) ∧ (∀ p ∈ base, p ∈ news)
theorem far_start {base : Led} {cs : List Col} {vs : List Value} {ns : List Int} (h : IntsAre vs ns) : FarJ base cs ns (vs.zipIdx.map fun p => (fun t => Value.int (p.2 : Int) t, p.1)) [] base :=
  ⟨[], _, rfl, enumOf_ints h 0, trivial, fun _ h => h⟩
theorem far_next {base news : Led} {cs : List Col} {ns : List Int} {rem : List ((Tok → Value) × Value)} {ys zs : List Value} {q : Int × Nat} {dn rr : List (Int × Nat)} {a : Nat} (e : ns.zipIdx = dn ++ q :: rr) (hr : EnumOf rem rr) (hy : FarRows news ys (dn.map (farRow cs ns))) (hb : ∀ p ∈ base, p ∈ news) (hz : IntsAre zs (farRow cs ns q)) :
    FarJ base cs ns rem (ys ++ [.ref a]) ((a, lst zs) :: news) := by
  refine ⟨dn ++ [q], rr, by simp [e], hr, ?_, fun p hp => List.mem_cons_of_mem _ (hb p hp)⟩
  rw [List.map_append]
  exact FarRows.snoc (List.mem_cons_self ..) hz (hy.imp fun _ _ _ h => List.mem_cons_of_mem _ h)
theorem zip_at {ns : List Int} {dn rr : List (Int × Nat)} {q : Int × Nat} (e : ns.zipIdx = dn ++ q :: rr) : q.2 < ns.length ∧ q.1 ∈ ns := by
  have h : q ∈ ns.zipIdx := by rw [e]; simp
  have h2 := List.mem_zipIdx h
  have h3 : q.2 < ns.length := by omega
  refine ⟨h3, ?_⟩
  have := h2.2.2
  rw [this]
  exact List.getElem_mem _
theorem ring_in {l : List (Int × Int)} {ds : List Int} {mk : Int} (h : l.Perm (ds.zipIdx.map toneF)) (h6 : ds.length = 6) : ∀ i ∈ rotL mk l, 0 ≤ i ∧ i < 6 := by
  have key : ∀ p ∈ l, 0 ≤ p.2 ∧ p.2 < 6 := fun p hp => by
    obtain ⟨q, hq, rfl⟩ := List.mem_map.mp (h.mem_iff.mp hp)
    have := List.mem_zipIdx hq
    show 0 ≤ (q.2 : Int) ∧ (q.2 : Int) < 6
    omega
  intro i hi
  rcases List.mem_append.mp hi with hi | hi
  · obtain ⟨p, hp, rfl⟩ := List.mem_map.mp hi
    exact key p (List.mem_filter.mp hp).1
  · obtain ⟨p, hp, rfl⟩ := List.mem_map.mp hi
    exact key p (List.mem_filter.mp hp).1
theorem rot_length {l : List (Int × Int)} {mk : Int} : (rotL mk l).length = l.length := by
  unfold rotL
  simp only [List.length_append, List.length_map]
  induction l with
  | nil => rfl
  | cons p l ih =>
    simp only [List.filter_cons]
    by_cases h : mk ≤ p.1
    · have h2 : ¬ p.1 < mk := by omega
      simp [h, h2]
      omega
    · have h2 : p.1 < mk := by omega
      simp [h, h2]
      omega
section
variable {h₀ h : Heap} {L : Addr} {i1 i2 C Cb D a : Nat} {o1 o2 oC oB oD o x : Obj} {news : Led}
theorem far_swap {sl : Addr × Obj} (N : News h₀ L h ((a, o) :: sl :: (i1, o1) :: (i2, o2) :: (C, oC) :: (Cb, oB) :: (D, oD) :: news)) : News h₀ L h ([((i1 : Addr), o1), ((i2 : Addr), o2)] ++ (C, oC) :: (Cb, oB) :: (D, oD) :: (a, o) :: news) := fun p hp => N p (by
  simp only [List.cons_append, List.nil_append, List.mem_cons] at hp ⊢
  rcases hp with h | h | h | h | h | h | h <;> simp [h])
theorem far_off {sl : Addr × Obj} (off : ∀ q ∈ news, q.1 ≠ C ∧ q.1 ≠ Cb ∧ q.1 ≠ D ∧ ∀ z ∈ [((i1 : Addr), o1), ((i2 : Addr), o2)], q.1 ≠ z.1) (l : Off1 a (sl :: (i1, o1) :: (i2, o2) :: (C, oC) :: (Cb, oB) :: (D, oD) :: news)) :
    ∀ q ∈ (((a : Addr), o) :: news : Led), q.1 ≠ C ∧ q.1 ≠ Cb ∧ q.1 ≠ D ∧ ∀ z ∈ [((i1 : Addr), o1), ((i2 : Addr), o2)], q.1 ≠ z.1 := fun q hq => by
  have m := off1_mem l
  rcases List.mem_cons.mp hq with rfl | hq
  · refine ⟨Ne.symm (m (C, oC) (by simp)), Ne.symm (m (Cb, oB) (by simp)), Ne.symm (m (D, oD) (by simp)), fun z hz => ?_⟩
    simp only [List.mem_cons, List.not_mem_nil, or_false] at hz
    rcases hz with rfl | rfl
    · exact Ne.symm (m (i1, o1) (by simp))
    · exact Ne.symm (m (i2, o2) (by simp))
  · exact off q hq
end
theorem rot_len6 {l l2 : List (Int × Int)} {mk : Int} (h : l.Perm l2) (h6 : l2.length = 6) : (rotL mk l).length = 6 := by rw [rot_length, h.length_eq, h6]
/-- what a light's colour tells in a walk -/
theorem col_facts {cs : List Col} {i : Int} {led : Led} (h6 : cs.length = 6) (hi : 0 ≤ i ∧ i < 6) (hok : ∀ c ∈ cs, c.ok) (hm : ∀ c ∈ cs, c.ent ∈ led) : (crefs cs)[i.toNat]? = some (.ref (colAt cs i).ad) ∧ (colAt cs i).ent ∈ led ∧ In32 (partR (colAt cs i).r (colAt cs i).a (colAt cs i).b 0) ∧ In32 (partR (colAt cs i).r (colAt cs i).a (colAt cs i).b 16) ∧ In32 (partR (colAt cs i).r (colAt cs i).a (colAt cs i).b 32) :=
  ⟨(col_get h6 hi).1, hm _ (col_get h6 hi).2, col_in32 (hok _ (col_get h6 hi).2)⟩
theorem ints_take {vs : List Value} {ns : List Int} (h : IntsAre vs ns) : ∀ k : Nat, IntsAre (vs.take k) (ns.take k) := by
  induction h with
  | nil => intro k; simp; exact .nil
  | cons n t _ ih =>
    intro k
    cases k with
    | zero => exact .nil
    | succ k => exact .cons n t (ih k)
end Mine
end
section
open PySem PySem.W PyProof.Rows
set_option Elab.async false
set_option maxRecDepth 100000
set_option maxHeartbeats 1000000
namespace Mine
open PySem.Calls PyProof.Rows.LCg
noncomputable def ways15 : List (List (Int × Int)) := pairF 6 [0, 1, 2, 3, 4, 5]
noncomputable def metF (W : List (Int × Int)) : Int × Int := match metGo (frontsM W) [0, 1, 2, 3, 4, 5] ([], 0, 0) with
  | some (_, c, w) => (c, w)
  | none => (0, 0)
noncomputable def wayOk (W : List (Int × Int)) : Bool := (metGo (frontsM W) [0, 1, 2, 3, 4, 5] ([], 0, 0)).isSome && W.length == 3 && W.all fun p => decide (0 ≤ p.1) && decide (p.1 < p.2) && decide (p.2 < 6)
theorem ways_ok : ways15.all wayOk = true := by decide +kernel
theorem ways_len15 : ways15.length = 15 := by decide +kernel
theorem way_at {dn rr : List (List (Int × Int))} {W : List (Int × Int)} (e : ways15 = dn ++ W :: rr) : (∃ l, metGo (frontsM W) [0, 1, 2, 3, 4, 5] ([], 0, 0) = some (l, (metF W).1, (metF W).2)) ∧ W.length = 3 ∧ ∀ p ∈ W, 0 ≤ p.1 ∧ p.1 < p.2 ∧ p.2 < 6 := by
  have h := List.all_eq_true.mp ways_ok W (by rw [e]; simp)
  unfold wayOk at h
  simp only [Bool.and_eq_true, List.all_eq_true, beq_iff_eq, decide_eq_true_eq] at h
  obtain ⟨⟨h1, h2⟩, h3⟩ := h
  refine ⟨?_, h2, fun p hp => ⟨(h3 p hp).1.1, (h3 p hp).1.2, (h3 p hp).2⟩⟩
  cases hg : metGo (frontsM W) [0, 1, 2, 3, 4, 5] ([], 0, 0) with
  | none => rw [hg] at h1; cases h1
  | some x =>
    obtain ⟨l, c, w⟩ := x
    exact ⟨l, by unfold metF; rw [hg]⟩
noncomputable def weightF (g : Int → Int → Int) (W : List (Int × Int)) : Int := W.foldl (fun a p => a * g p.1 p.2) 1
noncomputable def toldStep (g : Int → Int → Int) (t : Int) (W : List (Int × Int)) : Int := if (metF W).1.fmod 2 = 0 then t + weightF g W else t - weightF g W
noncomputable def fF (cs : List Col) (ns : List Int) (x y : Int) : Int := farC (colAt cs (ns.getD x.toNat 0)) (colAt cs (ns.getD y.toNat 0))
noncomputable abbrev farTab (cs : List Col) (ns : List Int) : List (List Int) := ns.zipIdx.map (farRow cs ns)
theorem far_row {cs : List Col} {ns : List Int} {x y : Int} (h6 : ns.length = 6) (h0 : 0 ≤ x) (hxy : x < y) (hy : y < 6) : y.toNat < (farTab cs ns).length ∧ x.toNat < ((farTab cs ns).getD y.toNat []).length ∧ ((farTab cs ns).getD y.toNat []).getD x.toNat 0 = fF cs ns x y ∧ ((farTab cs ns).getD y.toNat []).length ≤ 64 := by
  have hy' : y.toNat < ns.length := by omega
  have e : (farTab cs ns).getD y.toNat [] = farRow cs ns (ns[y.toNat], y.toNat) := by
    simp [farTab, List.getD, hy']
  have hx' : x.toNat < (ns.take y.toNat).length := by simp; omega
  rw [e]
  refine ⟨by simp [farTab, hy'], by simp; omega, ?_, by simp; omega⟩
  unfold farRow fF
  have h1 : x.toNat < ns.length := by omega
  have h2 : x.toNat < y.toNat := by omega
  simp [List.getD, hy', h1, List.getElem?_take, h2]
theorem far_le {c d : Col} (hc : c.ok) (hd : d.ok) : 0 ≤ farC c d ∧ farC c d ≤ 96 := by
  refine el_0_4 (col_in32 hc) ?_
  rintro ⟨a0, a1⟩ ⟨b0, b1⟩ c0 c1
  refine el_0_4 (col_in32 hd) ?_
  rintro ⟨d0, d1⟩ ⟨e0, e1⟩ f0 f1
  unfold farC farI
  omega
theorem weight_le {g : Int → Int → Int} (hg : ∀ x y, 0 ≤ x → x < y → y < 6 → 0 ≤ g x y ∧ g x y ≤ 96) : ∀ (dn : List (Int × Int)) (a b : Int), 0 ≤ a → a ≤ b → (∀ p ∈ dn, 0 ≤ p.1 ∧ p.1 < p.2 ∧ p.2 < 6) → 0 ≤ dn.foldl (fun a p => a * g p.1 p.2) a ∧ dn.foldl (fun a p => a * g p.1 p.2) a ≤ b * 96 ^ dn.length
  | [], a, b, h0, h1, _ => ⟨h0, by simpa using h1⟩
  | p :: dn, a, b, h0, h1, h => by
    have hp := h p (List.mem_cons_self ..)
    obtain ⟨g0, g1⟩ := hg p.1 p.2 hp.1 hp.2.1 hp.2.2
    have ha : a * g p.1 p.2 ≤ b * 96 := Int.mul_le_mul h1 g1 g0 (by omega)
    have := weight_le hg dn (a * g p.1 p.2) (b * 96) (Int.mul_nonneg h0 g0) ha fun q hq => h q (List.mem_cons_of_mem _ hq)
    refine ⟨this.1, ?_⟩
    have e : b * 96 * 96 ^ dn.length = b * 96 ^ (p :: dn).length := by rw [List.length_cons, Int.pow_succ, Int.mul_assoc, Int.mul_comm 96]
    rw [← e]
    exact this.2
theorem weight_in {g : Int → Int → Int} (hg : ∀ x y, 0 ≤ x → x < y → y < 6 → 0 ≤ g x y ∧ g x y ≤ 96) {W dn rr : List (Int × Int)} (e : W = dn ++ rr) (h3 : W.length = 3) (h : ∀ p ∈ W, 0 ≤ p.1 ∧ p.1 < p.2 ∧ p.2 < 6) : -(2 ^ 64) < weightF g dn ∧ weightF g dn < 2 ^ 64 ∧ 0 ≤ weightF g dn ∧ weightF g dn ≤ 884736 := by
  have hl : dn.length ≤ 3 := by rw [← h3, e, List.length_append]; omega
  obtain ⟨h0, h1⟩ := weight_le hg dn 1 1 (by omega) (by omega) fun p hp => h p (by rw [e]; exact List.mem_append_left _ hp)
  have h2 : (96 : Int) ^ dn.length ≤ 884736 := by
    have : dn.length = 0 ∨ dn.length = 1 ∨ dn.length = 2 ∨ dn.length = 3 := by omega
    rcases this with q | q | q | q <;> rw [q] <;> decide
  have h4 : weightF g dn ≤ 884736 := by
    show dn.foldl (fun a p => a * g p.1 p.2) 1 ≤ 884736
    rw [Int.one_mul] at h1
    exact Int.le_trans h1 h2
  have h5 : 0 ≤ weightF g dn := h0
  refine ⟨?_, ?_, h5, h4⟩
  · have : (-(2 ^ 64) : Int) < 0 := by decide
    omega
  · have : (884736 : Int) < 2 ^ 64 := by decide
    omega
theorem weight_snoc {g : Int → Int → Int} {dn : List (Int × Int)} {p : Int × Int} : weightF g (dn ++ [p]) = weightF g dn * g p.1 p.2 := by
  unfold weightF
  rw [List.foldl_append]
  rfl
noncomputable def WJ (W : List (Int × Int)) (g : Int → Int → Int) (base : Led) (c : Int × Tok) (rem : List Value) (news : Led) : Prop :=
  ∃ (dn rr : List (Int × Int)) (er : List Ent), W = dn ++ rr ∧ rem = refs er ∧ EntIs er rr ∧ Has base er ∧ c.1 = weightF g dn ∧ news = base
noncomputable def TJ (Mt I : Nat) (g : Int → Int → Int) (base : Led) (c : Int × Tok) (rem : List Value) (news : Led) : Prop :=
  ∃ (dn rr : List (List (Int × Int))) (es : List Ent) (n : Nat), ways15 = dn ++ rr ∧ WaysAre 0 news rem rr ∧ (∀ v ∈ rem, v ≠ .ref Mt) ∧ c.1 = dn.foldl (toldStep g) 0 ∧ (Mt, listOf (refs es).toArray n) ∈ news ∧ EntIs es (dn.map metF) ∧ Has news es ∧ (∀ p ∈ base, p ∈ news) ∧ (∀ p ∈ news, p.1 ≠ I)
theorem ways_lo {lo : Nat} {news : Led} : ∀ {vs : List Value} {Ws : List (List (Int × Int))}, WaysAre lo news vs Ws → WaysAre 0 news vs Ws
  | [], [], _ => trivial
  | _ :: _, _ :: _, h => by
    obtain ⟨⟨a, es, n, e, _, hm, hh, hi⟩, h⟩ := h
    exact ⟨⟨a, es, n, e, Nat.zero_le _, hm, hh, hi⟩, ways_lo h⟩
theorem ways_ne {h₀ h : Heap} {L : Addr} {Mt n : Nat} {news : Led} (N : News h₀ L h news) (hm : (Mt, listOf ([] : List Value).toArray n) ∈ news) : ∀ {vs : List Value} {Ws : List (List (Int × Int))}, WaysAre 0 news vs Ws → (∀ W ∈ Ws, W.length = 3) → ∀ v ∈ vs, v ≠ .ref Mt
  | [], [], _, _, v, hv => absurd hv (List.not_mem_nil)
  | _ :: _, W :: _, h, hW, v, hv => by
    rcases List.mem_cons.mp hv with rfl | hv
    · obtain ⟨⟨a, es, k, e, _, ha, _, hi⟩, _⟩ := h
      intro q
      have qa : a = Mt := by rw [e] at q; exact Value.ref.inj q
      subst qa
      have h1 := (N _ ha).1.symm.trans (N _ hm).1
      have h2 := congrArg Obj.data (Option.some.inj h1)
      have h3 : (refs es).toArray = ([] : List Value).toArray := by injection h2
      have h4 := congrArg Array.size h3
      have h5 := hi.length
      have h6 := hW W (List.mem_cons_self ..)
      simp at h4
      subst h4
      simp at h5
      omega
    · exact ways_ne N hm h.2 (fun W hW' => hW W (List.mem_cons_of_mem _ hW')) v hv
theorem ways_imp_tail {h₀ h : Heap} {L : Addr} {Mt n : Nat} {xs : Array Value} {news news2 : Led} (sub : ∀ p ∈ news, p.1 ≠ Mt → p ∈ news2) (N : News h₀ L h news) (hm : (Mt, listOf xs n) ∈ news) : ∀ {vs : List Value} {Ws : List (List (Int × Int))}, (∀ v ∈ vs, v ≠ .ref Mt) → WaysAre 0 news vs Ws → WaysAre 0 news2 vs Ws
  | [], [], _, _ => trivial
  | v :: _, _ :: _, hne, hwa => by
    have hv := hne v (List.mem_cons_self ..)
    obtain ⟨⟨a, ew, k, e, l, ha, hh, hi⟩, hwa⟩ := hwa
    have hn : a ≠ Mt := fun q => hv (by rw [e, q])
    exact ⟨⟨a, ew, k, e, l, sub _ ha hn, fun z hz => sub _ (hh z hz) (Ne.symm (news_ne N hm (hh z hz) (by simp))), hi⟩, ways_imp_tail sub N hm (fun z hz => hne z (List.mem_cons_of_mem _ hz)) hwa⟩
noncomputable abbrev toldPs (Mt : Nat) (c : Int × Tok) : List (Str × Value) := [(Str.ofString "told", Value.int c.1 c.2), (Str.ofString "met", Value.ref Mt)]
theorem told_start {Mt I n : Nat} {g : Int → Int → Int} {base news : Led} {h₀ h : Heap} {L : Addr} {vs : List Value} {m : Str → Option Value} {stored : List Str} {t0 : Tok} (N : News h₀ L h news) (hm : (Mt, listOf ([] : List Value).toArray n) ∈ news) (hW : WaysAre 0 news vs ways15) (hA : ∀ p ∈ base, p ∈ news) (h1 : m (Str.ofString "told") = some (.int 0 t0)) (h2 : m (Str.ofString "met") = some (.ref Mt)) (hoff : ∀ p ∈ news, p.1 ≠ I) :
    RInd (toldPs Mt) stored m (TJ Mt I g base) vs m news :=
  ⟨(0, t0), ps_two h1 h2, fun _ _ _ => rfl, [], ways15, [], n, rfl, hW, ways_ne N hm hW fun W hWm => by
    obtain ⟨a, b, e⟩ := List.append_of_mem hWm
    exact (way_at e).2.1, rfl, hm, trivial, (fun _ h => nomatch h), hA, hoff⟩
theorem met_ne {h₀ h : Heap} {L : Addr} {q Mt n k : Nat} {vs : List Value} {news : Led} (N : News h₀ L h news) (hq : (q, listOf vs.toArray k) ∈ news) (hm : (Mt, listOf ([] : List Value).toArray n) ∈ news) (hW : WaysAre 0 news vs ways15) : q ≠ Mt := fun e => by
  subst e
  have h1 := (N _ hq).1.symm.trans (N _ hm).1
  have h2 := congrArg Obj.data (Option.some.inj h1)
  have h3 : vs.toArray = ([] : List Value).toArray := by injection h2
  have h4 := congrArg Array.size h3
  have h5 := hW.length
  rw [ways_len15] at h5
  simp at h4
  subst h4
  simp at h5
section
variable {prog : Program} {w : World} {G h' : Heap} {L : Addr} {m' m₀ : Str → Option Value} {s₁ : Shared} {tk : Nat} {oI : Obj} {stored : List Str}
theorem told_end {Mt I q T nq n nt : Nat} {g : Int → Int → Int} {base news1 led news' : Led} {vs0 rem : List Value} {dn rr : List (List (Int × Int))} {W : List (Int × Int)} {es : List Ent} {tv : Int} {tt t1 t2 : Tok} {G0 : Heap}
    (edn : ways15 = dn ++ W :: rr) (hwa : WaysAre 0 news1 rem rr) (hne : ∀ v ∈ rem, v ≠ .ref Mt) (etv : tv = toldStep g (dn.foldl (toldStep g) 0) W) (hMt : (Mt, listOf (refs es).toArray n) ∈ news1) (hes : EntIs es (dn.map metF)) (hhas : Has news1 es) (hbase : ∀ p ∈ base, p ∈ news1) (hbne : ∀ p ∈ base, p.1 ≠ Mt) (hoff : ∀ p ∈ news1, p.1 ≠ I) (N1 : ∃ h, News G0 L h news1)
    (F' : Fr G L h' m') (N' : News G L h' news') (P : Turned Mt (listOf (refs es ++ [Value.ref T]).toArray (n + 1)) led news') (sub : ∀ p ∈ (I, oI) :: news1, p ∈ led) (hT : (T, tup2 (.int (metF W).1 t1) (.int (metF W).2 t2) nt) ∈ led) (hTM : T ≠ Mt) (hTI : T ≠ I) (h1 : m' (Str.ofString "told") = some (.int tv tt)) (h2 : m' (Str.ofString "met") = some (.ref Mt))
    (hst : ∀ z, z ≠ Str.ofString "told" → z ≠ Str.ofString "met" → stored.contains z = false → m' z = m₀ z) (hk : (q, listOf vs0.toArray nq) ∈ base) :
    UnrEndW G L s₁ [(I, oI)] (fun m' n' => SubL [(q, listOf vs0.toArray nq)] n' ∧ RInd (toldPs Mt) stored m₀ (TJ Mt I g base) rem m' n') { s₁ with heap := h', toks := tk } := by
  have hMI : Mt ≠ I := hoff _ hMt
  obtain ⟨_, N1⟩ := N1
  have kb : ∀ p ∈ base, p ∈ lessL Mt news1 := fun p hp => mem_lessL (hbase p hp) (hbne p hp)
  refine turn_end (more := [(T, tup2 (.int (metF W).1 t1) (.int (metF W).2 t2) nt)]) F' N' P sub (fun p hp => ?_) (fun p hp => its1 (hoff p hp)) (its1 hMI) ⟨kb _ hk, trivial⟩
    ⟨(tv, tt), ps_two h1 h2, fun z hz h => hst z (hz _ (List.mem_cons_self ..)) (hz _ (List.mem_cons_of_mem _ (List.mem_cons_self ..))) h, dn ++ [W], rr, es ++ [⟨T, .int (metF W).1 t1, .int (metF W).2 t2, nt⟩], n + 1, by simp [edn], ?_, hne, ?_, ?_, ?_, ?_, ?_, ?_⟩
  · rw [List.mem_singleton.mp hp]
    exact ⟨hT, hTM, its1 hTI⟩
  · exact ways_imp_tail (fun p hp hn => List.mem_cons_of_mem _ (List.mem_cons_of_mem _ (mem_lessL hp hn))) N1 hMt hne hwa
  · rw [List.foldl_append]
    exact etv
  · rw [show refs (es ++ [⟨T, .int (metF W).1 t1, .int (metF W).2 t2, nt⟩]) = refs es ++ [Value.ref T] by simp]
    exact List.mem_cons_self ..
  · rw [List.map_append]
    exact hes.app ⟨⟨_, _, rfl, rfl⟩, trivial⟩
  · intro e he
    rcases List.mem_append.mp he with he | he
    · exact List.mem_cons_of_mem _ (List.mem_cons_of_mem _ (mem_lessL (hhas e he) (Ne.symm (news_ne N1 hMt (hhas e he) (by simp)))))
    · rw [List.mem_singleton.mp he]
      exact List.mem_cons_of_mem _ (List.mem_cons_self ..)
  · exact fun p hp => List.mem_cons_of_mem _ (List.mem_cons_of_mem _ (kb p hp))
  · intro p hp
    rcases List.mem_cons.mp hp with rfl | hp
    · exact hMI
    · rcases List.mem_cons.mp hp with rfl | hp
      · exact hTI
      · exact hoff p (List.mem_filter.mp hp).1
end
theorem base_in {x A B C : Addr × Obj} {l news : Led} (hq : x ∈ news) (hs : ∀ p ∈ A :: B :: C :: l, p ∈ news) : ∀ p ∈ x :: l, p ∈ news := fun p hp => by
  rcases List.mem_cons.mp hp with rfl | hp
  · exact hq
  · exact hs p (List.mem_cons_of_mem _ (List.mem_cons_of_mem _ (List.mem_cons_of_mem _ hp)))
theorem base_ne {x : Addr × Obj} {D Mt : Nat} {o : Obj} {l news : Led} (_hq : x ∈ news) (h : x.1 ≠ Mt) (k : @LT.lt Nat _ D Mt ∧ AllLt Mt l) : ∀ p ∈ (x :: (D, o) :: l : Led), p.1 ≠ Mt := fun p hp => by
  rcases List.mem_cons.mp hp with rfl | hp
  · exact h
  · rcases List.mem_cons.mp hp with rfl | hp
    · exact Nat.ne_of_lt k.1
    · exact Nat.ne_of_lt (allLt_all k.2 p hp)
theorem far_g {news : Led} {ys : List Value} {cs : List Col} {ns : List Int} (_h : FarRows news ys (ns.zipIdx.map (farRow cs ns))) : ∃ g, g = fF cs ns := ⟨_, rfl⟩
/-- what the loops read of far -/
theorem far_at {news led : Led} {ys : List Value} {cs : List Col} {ns : List Int} {g : Int → Int → Int} (hg : g = fF cs ns) (h : FarRows news ys (ns.zipIdx.map (farRow cs ns))) (h6 : ns.length = 6) (hb : ∀ p ∈ news, p ∈ led) {x y : Int} (h0 : 0 ≤ x) (hxy : x < y) (hy : y < 6) :
    ∃ (a : Nat) (xs : List Value) (n : Nat) (ts : List Int), ys[y.toNat]? = some (.ref a) ∧ (a, listOf xs.toArray n) ∈ led ∧ IntsAre xs ts ∧ ts.length ≤ 64 ∧ x < ts.length ∧ ts.getD x.toNat 0 = g x y := by
  refine el_0_4 (far_row (cs := cs) h6 h0 hxy hy) ?_
  rintro r1 r2 r3 r4
  refine el_3_3 (h.at y.toNat r1) ?_
  rintro a xs n e hm hi
  have r5 : x < (((farTab cs ns).getD y.toNat []).length : Int) := by omega
  exact ⟨a, xs, n, (farTab cs ns).getD y.toNat [], e, hb _ hm, hi, r4, r5, by rw [hg]; exact r3⟩
theorem far_b {cs : List Col} {ns : List Int} {g : Int → Int → Int} (hg : g = fF cs ns) (h6 : cs.length = 6) (hn : ns.length = 6) (hok : ∀ c ∈ cs, c.ok) (hin : ∀ i ∈ ns, 0 ≤ i ∧ i < 6) : ∀ x y, 0 ≤ x → x < y → y < 6 → 0 ≤ g x y ∧ g x y ≤ 96 := fun x y h0 h1 h2 => by
  have at' : ∀ z : Int, 0 ≤ z → z < 6 → colAt cs (ns.getD z.toNat 0) ∈ cs := fun z z0 z1 => by
    have hz : z.toNat < ns.length := by omega
    refine (col_get h6 (hin _ ?_)).2
    rw [List.getD_eq_getElem?_getD, List.getElem?_eq_getElem hz]
    exact List.getElem_mem hz
  rw [hg]
  exact far_le (hok _ (at' x h0 (by omega))) (hok _ (at' y (by omega) h2))
theorem wj_start {W : List (Int × Int)} {g : Int → Int → Int} {base : Led} {ew : List Ent} {m : Str → Option Value} {stored : List Str} {t : Tok} (hi : EntIs ew W) (hh : Has base ew) (h1 : m (Str.ofString "weight") = some (.int 1 t)) :
    RInd (fun c : Int × Tok => [(Str.ofString "weight", Value.int c.1 c.2)]) stored m (WJ W g base) (refs ew) m base :=
  ⟨(1, t), (fun p hp => by rw [List.mem_singleton.mp hp]; exact h1), (fun _ _ _ => rfl), [], W, ew, rfl, rfl, hi, hh, rfl, rfl⟩
end Mine
end
section
open PySem PySem.W PyProof.Rows
set_option Elab.async false
set_option maxRecDepth 100000
set_option maxHeartbeats 1000000
namespace Mine
open PySem.Calls PyProof.Rows.LCg
section
variable {G h' : Heap} {L : Addr} {m' m₀ : Str → Option Value} {s₁ : Shared} {tk : Nat} {stored : List Str}
theorem wj_end {W dn2 pr : List (Int × Int)} {x y : Int} {g : Int → Int → Int} {news2 : Led} {I2 a n : Nat} {oI2 : Obj} {xs : Array Value} {e : Ent} {er : List Ent} {t : Tok} (F' : Fr G L h' m') (N' : News G L h' ((I2, oI2) :: news2)) (hoff : ∀ p ∈ news2, p.1 ≠ I2) (hk : (a, listOf xs n) ∈ news2) (eW : W = dn2 ++ (x, y) :: pr) (hi : EntIs er pr) (hh : Has news2 (e :: er))
    (h1 : m' (Str.ofString "weight") = some (.int (weightF g dn2 * g x y) t)) (hst : ∀ z, z ≠ Str.ofString "weight" → stored.contains z = false → m' z = m₀ z) :
    UnrEndW G L s₁ [(I2, oI2)] (fun m' n' => SubL [(a, listOf xs n)] n' ∧ RInd (fun c : Int × Tok => [(Str.ofString "weight", Value.int c.1 c.2)]) stored m₀ (WJ W g news2) (refs er) m' n') { s₁ with heap := h', toks := tk } :=
  unrEnd_plain (news := news2) F' N' (fun p hp => its1 (hoff p hp)) ⟨hk, trivial⟩
    ⟨(weightF g dn2 * g x y, t), (fun p hp => by rw [List.mem_singleton.mp hp]; exact h1), fun z hz h => hst z (hz _ (List.mem_cons_self ..)) h, dn2 ++ [(x, y)], pr, er, by simp [eW], rfl, hi, fun z hz => hh z (List.mem_cons_of_mem _ hz), (weight_snoc (p := (x, y))).symm, rfl⟩
end
theorem contains_tail {a z : Str} {l : List Str} (h : (a :: l).contains z = false) : l.contains z = false := by
  rw [List.contains_cons] at h
  exact (Bool.or_eq_false_iff.mp h).2
theorem contains_head {a z : Str} {l : List Str} (h : (a :: l).contains z = false) : z ≠ a := by
  rw [List.contains_cons] at h
  exact fun e => absurd (Bool.or_eq_false_iff.mp h).1 (by simp [e])
theorem told_yes {g : Int → Int → Int} {t : Int} {W : List (Int × Int)} (h : (metF W).1.fmod 2 = 0) : t + weightF g W = toldStep g t W := by unfold toldStep; rw [if_pos h]
theorem told_no {g : Int → Int → Int} {t : Int} {W : List (Int × Int)} (h : ¬ (metF W).1.fmod 2 = 0) : t - weightF g W = toldStep g t W := by unfold toldStep; rw [if_neg h]
end Mine
end
section
open PySem PySem.W PyProof.Rows
set_option Elab.async false
set_option maxRecDepth 100000
set_option maxHeartbeats 1000000
namespace Mine
open PySem.Calls PyProof.Rows.LCg
noncomputable def M15 : List (Int × Int) := ways15.map metF
noncomputable def swp (p : Int × Int) : Int × Int := (p.2, p.1)
noncomputable def E15 : List Int := [0, 0, 0, 0, 0, 1, 1, 1, 1, 1, 1, 2, 2, 2, 3]
noncomputable def sort15 (l : List (Int × Int)) : Option (List (Int × Int)) := match kRun (lexAns l) 15 (kas_sort 15) with
  | some p => if p.toList.all (fun i => Nat.blt i 15) then some (p.toList.map fun i => l.getD i (0, 0)) else none
  | none => none
noncomputable def S15 : List (Int × Int) := (sort15 M15).getD []
theorem s15_a : sort15 M15 = some S15 := by decide +kernel
theorem s15_b : sort15 (M15.map swp) = some S15 := by decide +kernel
theorem m15_len : M15.length = 15 := by decide +kernel
theorem m15_perm : (M15.map (·.1)).isPerm E15 = true := by decide +kernel
theorem e15_up : E15.Pairwise (· ≤ ·) := by decide +kernel
theorem e15_uniq {ns : List Int} (h : ns.Perm (M15.map (·.1))) (hp : ns.Pairwise (· ≤ ·)) : ns = E15 := lks_uniq (h.trans (List.isPerm_iff.mp m15_perm)) hp e15_up
theorem sort15_run {l r : List (Int × Int)} (h : sort15 l = some r) (hl : l.length = 15) : ∃ p : Array Nat, kRun (lexAns l) l.length (kas_sort l.length) = some p ∧ (∀ i ∈ p.toList, i < l.length) ∧ p.toList.map (fun i => l.getD i (0, 0)) = r := by
  unfold sort15 at h
  rw [hl]
  split at h
  · rename_i p e
    split at h
    · rename_i q
      exact ⟨p, e, fun i hi => Nat.le_of_ble_eq_true (List.all_eq_true.mp q i hi), Option.some.inj h⟩
    · cases h
  · cases h
theorem sorted_pick15 {es : List Ent} {l l' : List (Int × Int)} {p : Array Nat} {news : Led} (hi : EntIs es l) (hh : Has news es) (hp : ∀ i ∈ p.toList, i < l.length) (hm : p.toList.map (fun i => l.getD i (0, 0)) = l') : EntIs (p.toList.map (entAt es)) l' ∧ Has news (p.toList.map (entAt es)) :=
  ⟨hm ▸ hi.pick _ hp, hh.pick hi _ hp⟩
noncomputable abbrev dat2 (l : List (Int × Int)) : PyData := .list (l.map fun p => .tuple [.int p.1, .int p.2])
theorem s15_shaped : SeqAt.shaped (dat2 S15) = true := by decide +kernel
theorem s15_eqv : PyData.eqv (dat2 S15) (dat2 S15) = true := by decide +kernel
theorem reads_pairs {h : Heap} : ∀ {es : List Ent} {l : List (Int × Int)}, (∀ e ∈ es, h.get? e.a = some e.obj) → EntIs es l → ∃ as, ReadsAll h (refs es) (l.map fun p => PyData.tuple [.int p.1, .int p.2]) as
  | [], [], _, _ => ⟨_, ReadsAll.nil⟩
  | e :: es, p :: l, hg, hi => by
    obtain ⟨⟨t1, t2, e1, e2⟩, hi⟩ := hi
    obtain ⟨as, r⟩ := reads_pairs (fun z hz => hg z (List.mem_cons_of_mem _ hz)) hi
    exact ⟨_, ReadsAll.cons (reads_tuple_at (hg e (List.mem_cons_self ..)) rfl rfl (by rw [e1, e2]; exact ReadsAll.cons (Reads.int _ _) (ReadsAll.cons (Reads.int _ _) ReadsAll.nil))) r⟩
section
variable {prog : Program} {w : World} {A : Around} {E : Value → Shared → Prop} {s : Shared} {h₀ : Heap} {L a b : Addr} {i j : Nat} {news : Led} {Q : Value → Shared → Prop}
theorem ne_s15 {es es' : List Ent} (N : News h₀ L s.heap news) (ha : (a, listOf (refs es).toArray i) ∈ news) (hb : (b, listOf (refs es').toArray j) ∈ news) (hh : Has news es) (hh' : Has news es') (hi : EntIs es S15) (hj : EntIs es' S15) (hu : A.units + 64 < cLine) (h : Q (.bool false) s) :
    wpAny (model prog w) A (compareOp .NotEq (.ref a) (.ref b)) Q E s := by
  obtain ⟨as, r1⟩ := reads_pairs (fun e he => (N _ (hh e he)).1) hi
  obtain ⟨bs, r2⟩ := reads_pairs (fun e he => (N _ (hh' e he)).1) hj
  exact ne_dataH (da := dat2 S15) (db := dat2 S15) (reads_list_at (N _ ha).1 rfl rfl (by simpa [W.listOf] using r1)) (reads_list_at (N _ hb).1 rfl rfl (by simpa [W.listOf] using r2)) s15_shaped s15_shaped hu (by rw [s15_eqv]; exact h)
theorem ne_e15 {xs ys : List Value} {ns : List Int} (N : News h₀ L s.heap news) (ha : (a, listOf xs.toArray i) ∈ news) (hb : (b, listOf ys.toArray j) ∈ news) (hi : IntsAre xs ns) (hj : IntsAre ys E15) (hp : ns.Perm (M15.map (·.1))) (hs : ns.Pairwise (· ≤ ·)) (hu : A.units + 64 < cLine) (h : Q (.bool false) s) :
    wpAny (model prog w) A (compareOp .NotEq (.ref a) (.ref b)) Q E s := ne_led N ha hb hi hj (e15_uniq hp hs) hu h
theorem sorted_ints_led {m : Str → Option Value} {l n : Nat} {vs : List Value} {ns : List Int} (F : Fr h₀ L s.heap m) (N : News h₀ L s.heap news) (hm : (l, listOf vs.toArray n) ∈ news) (hi : IntsAre vs ns) (h64 : ns.length < 64)
    (h : ∀ D vs' ns' c h', Fr h₀ L h' m → News h₀ L h' ((D, listOf vs'.toArray c) :: news) → (∀ q ∈ news, q.1 < D) → IntsAre vs' ns' → ns'.Perm ns → ns'.Pairwise (· ≤ ·) → Q (.ref D) { s with heap := h' }) :
    wpAny (model prog w) A (call (.builtin "sorted") [.ref l]) Q E s :=
  kso_sorted F N ⟨_, (N _ hm).1, rfl, n, rfl⟩ hi h64 fun D vs' ns' c h' F' N' l' i' _ p' s' _ => h D vs' ns' c h' F' N' l' i' p' s'
end
noncomputable def FstJ (base : Led) (all : List (Int × Int)) (rem : List ((Tok → Value) × Value)) (ys : List Value) (news : Led) : Prop :=
  ∃ (dn rr : List (Int × Int)), all = dn ++ rr ∧ PairsOf rem rr ∧ IntsAre ys (dn.map (·.1)) ∧ news = base
theorem fst_start {base : Led} {es : List Ent} {l : List (Int × Int)} (h : EntIs es l) : FstJ base l (es.map fun e => (fun _ => e.p, e.q)) [] base := ⟨[], l, rfl, pairs_of h, .nil, rfl⟩
theorem fst_next {base : Led} {all dn rr : List (Int × Int)} {q : Int × Int} {rem : List ((Tok → Value) × Value)} {ys : List Value} {t : Tok} (e : all = dn ++ q :: rr) (hr : PairsOf rem rr) (hy : IntsAre ys (dn.map (·.1))) : FstJ base all rem (ys ++ [.int q.1 t]) base :=
  ⟨dn ++ [q], rr, by simp [e], hr, by rw [List.map_append]; exact ints_snoc hy, rfl⟩
noncomputable def SwapJ (base : Led) (all : List (Int × Int)) (rem : List ((Tok → Value) × Value)) (ys : List Value) (news : Led) : Prop :=
  ∃ (dn rr : List (Int × Int)) (es : List Ent), all = dn ++ rr ∧ PairsOf rem rr ∧ ys = refs es ∧ EntIs es (dn.map swp) ∧ Has news es ∧ (∀ p ∈ base, p ∈ news)
theorem swap_start {base : Led} {es : List Ent} {l : List (Int × Int)} (h : EntIs es l) : SwapJ base l (es.map fun e => (fun _ => e.p, e.q)) [] base :=
  ⟨[], l, [], rfl, pairs_of h, rfl, trivial, (fun _ h => nomatch h), fun _ h => h⟩
theorem swap_next {base news : Led} {all dn rr : List (Int × Int)} {q : Int × Int} {rem : List ((Tok → Value) × Value)} {ys : List Value} {es : List Ent} {a n : Nat} {t1 t2 : Tok} (e : all = dn ++ q :: rr) (hr : PairsOf rem rr) (ey : ys = refs es) (hi : EntIs es (dn.map swp)) (hh : Has news es) (hb : ∀ p ∈ base, p ∈ news) :
    SwapJ base all rem (ys ++ [.ref a]) ((a, tup2 (.int q.2 t1) (.int q.1 t2) n) :: news) := by
  refine ⟨dn ++ [q], rr, es ++ [⟨a, .int q.2 t1, .int q.1 t2, n⟩], by simp [e], hr, by simp [ey], ?_, fun e he => ?_, fun p hp => List.mem_cons_of_mem _ (hb p hp)⟩
  · rw [List.map_append]
    exact hi.app ⟨⟨_, _, rfl, rfl⟩, trivial⟩
  · rcases List.mem_append.mp he with he | he
    · exact List.mem_cons_of_mem _ (hh e he)
    · rw [List.mem_singleton.mp he]
      exact List.mem_cons_self ..
section
variable {h₀ h : Heap} {L : Addr} {i1 C D a : Nat} {o1 oC oD o : Obj} {news : Led}
theorem new_swap4 (N : News h₀ L h ((a, o) :: (i1, o1) :: (C, oC) :: (D, oD) :: news)) : News h₀ L h ([((i1 : Addr), o1)] ++ (C, oC) :: (D, oD) :: (a, o) :: news) := fun p hp => N p (by
  simp only [List.cons_append, List.nil_append, List.mem_cons] at hp ⊢
  rcases hp with h | h | h | h | h <;> simp [h])
theorem new_off4 (off : ∀ q ∈ news, q.1 ≠ C ∧ q.1 ≠ D ∧ ∀ z ∈ [((i1 : Addr), o1)], q.1 ≠ z.1) (l : @LT.lt Nat _ i1 a ∧ @LT.lt Nat _ C a ∧ @LT.lt Nat _ D a ∧ AllLt a news) :
    ∀ q ∈ (((a : Addr), o) :: news : Led), q.1 ≠ C ∧ q.1 ≠ D ∧ ∀ z ∈ [((i1 : Addr), o1)], q.1 ≠ z.1 := fun q hq => by
  rcases List.mem_cons.mp hq with rfl | hq
  · refine ⟨Ne.symm (Nat.ne_of_lt l.2.1), Ne.symm (Nat.ne_of_lt l.2.2.1), fun z hz => ?_⟩
    rw [List.mem_singleton.mp hz]
    exact Ne.symm (Nat.ne_of_lt l.1)
  · exact off q hq
end
theorem told_sum {g : Int → Int → Int} (hg : ∀ x y, 0 ≤ x → x < y → y < 6 → 0 ≤ g x y ∧ g x y ≤ 96) : ∀ (l : List (List (Int × Int))) (t : Int), (∀ W ∈ l, W ∈ ways15) → t - 884736 * l.length ≤ l.foldl (toldStep g) t ∧ l.foldl (toldStep g) t ≤ t + 884736 * l.length
  | [], t, _ => by simp
  | W :: l, t, h => by
    obtain ⟨a, b, e⟩ := List.append_of_mem (h W (List.mem_cons_self ..))
    obtain ⟨_, h3, hp⟩ := way_at e
    obtain ⟨_, _, w0, w1⟩ := weight_in hg (W := W) (dn := W) (rr := []) (by simp) h3 hp
    obtain ⟨i0, i1⟩ := told_sum hg l (toldStep g t W) fun V hV => h V (List.mem_cons_of_mem _ hV)
    rw [List.foldl_cons, List.length_cons]
    have hs : t - 884736 ≤ toldStep g t W ∧ toldStep g t W ≤ t + 884736 := by
      unfold toldStep
      split <;> omega
    omega
theorem told_in {g : Int → Int → Int} (hg : ∀ x y, 0 ≤ x → x < y → y < 6 → 0 ≤ g x y ∧ g x y ≤ 96) {tv : Int} (e : tv = ways15.foldl (toldStep g) 0) : -(2 ^ 64) < tv ∧ tv < 2 ^ 64 := by
  have h := told_sum hg ways15 0 fun _ h => h
  rw [← e, ways_len15] at h
  have e1 : ((2 : Int) ^ 64) = 18446744073709551616 := by decide
  rw [e1]
  omega
end Mine
end
section
open PySem PySem.W PyProof.Rows
set_option Elab.async false
set_option maxRecDepth 100000
set_option maxHeartbeats 1000000
namespace Mine
open PySem.Calls PyProof.Rows.LCg
noncomputable abbrev prt3 (d : Int) : Int × Int × Int := (partR (d.fmod 16) ((d.fdiv 16).fmod 2) ((d.fdiv 32).fmod 2) 0, partR (d.fmod 16) ((d.fdiv 16).fmod 2) ((d.fdiv 32).fmod 2) 16, partR (d.fmod 16) ((d.fdiv 16).fmod 2) ((d.fdiv 32).fmod 2) 32)
noncomputable abbrev Prt.xyz (p : Prt) : Int × Int × Int := (p.x, p.y, p.z)
noncomputable def PartsJ (base : Led) (ds : List Int) (all : List (Int × Int)) (rem : List ((Tok → Value) × Value)) (ys : List Value) (news : Led) : Prop :=
  ∃ (dn rr : List (Int × Int)) (ps : List Prt), all = dn ++ rr ∧ PairsOf rem rr ∧ ys = prefs ps ∧ ps.map Prt.xyz = dn.map (fun q => prt3 (ds.getD q.2.toNat 0)) ∧ (∀ p ∈ ps, (p.ad, p.obj) ∈ news) ∧ (∀ p ∈ base, p ∈ news)
theorem parts_start {base : Led} {ds : List Int} {es : List Ent} {l : List (Int × Int)} (h : EntIs es l) : PartsJ base ds l (es.map fun e => (fun _ => e.p, e.q)) [] base :=
  ⟨[], l, [], rfl, pairs_of h, rfl, rfl, (fun _ h => nomatch h), fun _ h => h⟩
theorem parts_next {base news : Led} {ds : List Int} {all dn rr : List (Int × Int)} {q : Int × Int} {rem : List ((Tok → Value) × Value)} {ys : List Value} {ps : List Prt} {a n : Nat} {i1 i2 i3 : Int} {t1 t2 t3 : Tok} (e : all = dn ++ q :: rr) (hr : PairsOf rem rr) (ey : ys = prefs ps) (hp : ps.map Prt.xyz = dn.map (fun q => prt3 (ds.getD q.2.toNat 0))) (hm : ∀ p ∈ ps, (p.ad, p.obj) ∈ news) (hb : ∀ p ∈ base, p ∈ news)
    (e1 : i1 = (prt3 (ds.getD q.2.toNat 0)).1) (e2 : i2 = (prt3 (ds.getD q.2.toNat 0)).2.1) (e3 : i3 = (prt3 (ds.getD q.2.toNat 0)).2.2) :
    PartsJ base ds all rem (ys ++ [.ref a]) ((a, listOf [.int i1 t1, .int i2 t2, .int i3 t3].toArray n) :: news) := by
  refine ⟨dn ++ [q], rr, ps ++ [⟨a, i1, i2, i3, t1, t2, t3, n⟩], by simp [e], hr, by simp [ey], ?_, fun p hp' => ?_, fun p hp => List.mem_cons_of_mem _ (hb p hp)⟩
  · rw [List.map_append, List.map_append, hp]
    simp [Prt.xyz, e1, e2, e3]
  · rcases List.mem_append.mp hp' with hp' | hp'
    · exact List.mem_cons_of_mem _ (hm p hp')
    · rw [List.mem_singleton.mp hp']
      exact List.mem_cons_self ..
theorem ints_at {vs : List Value} {ns : List Int} (h : IntsAre vs ns) {k : Nat} (hk : k < ns.length) : ∃ t, vs[k]? = some (.int (ns.getD k 0) t) := ints_get h k hk
theorem row_in {l : List (Int × Int)} {ds : List Int} (h : l.Perm (ds.zipIdx.map toneF)) (h6 : ds.length = 6) {dn rr : List (Int × Int)} {q : Int × Int} (e : l = dn ++ q :: rr) : 0 ≤ q.2 ∧ q.2 < 6 := by
  obtain ⟨z, hz, rfl⟩ := List.mem_map.mp (h.mem_iff.mp (by rw [e]; simp : q ∈ l))
  have := List.mem_zipIdx hz
  show 0 ≤ (z.2 : Int) ∧ (z.2 : Int) < 6
  omega
section
variable {h₀ h : Heap} {L : Addr} {i1 C D a : Nat} {o1 oC oD o : Obj} {news : Led}
theorem new_lt4 {l : Led} (h : ∀ p ∈ ((i1, o1) :: (C, oC) :: (D, oD) :: l : Led), p.1 < a) : @LT.lt Nat _ i1 a ∧ @LT.lt Nat _ C a ∧ @LT.lt Nat _ D a ∧ AllLt a l :=
  ⟨h (i1, o1) (by simp), h (C, oC) (by simp), h (D, oD) (by simp), allLt_of fun p hp => h p (by simp [hp])⟩
end
end Mine
end
section
open PySem PySem.W PyProof.Rows
set_option Elab.async false
set_option maxRecDepth 100000
set_option maxHeartbeats 1000000
namespace Mine
open PySem.Calls PyProof.Rows.LCg
theorem prt_in (d : Int) : In32 (prt3 d).1 ∧ In32 (prt3 d).2.1 ∧ In32 (prt3 d).2.2 := by
  have h := rab_ok d
  exact ⟨part_in h.2.1 h.2.2, part_in h.2.1 h.2.2, part_in h.2.1 h.2.2⟩
theorem prts_in {ps : List Prt} {l : List (Int × Int)} {ds : List Int} (h : ps.map Prt.xyz = l.map (fun q => prt3 (ds.getD q.2.toNat 0))) : ∀ p ∈ ps, In32 p.x ∧ In32 p.y ∧ In32 p.z := fun p hp => by
  have : p.xyz ∈ l.map (fun q => prt3 (ds.getD q.2.toNat 0)) := h ▸ List.mem_map.mpr ⟨p, hp, rfl⟩
  obtain ⟨q, _, e⟩ := List.mem_map.mp this
  have k := prt_in (ds.getD q.2.toNat 0)
  rw [e] at k
  exact k
theorem table_ok {ps : List Prt} (h6 : ps.length = 6) (h : ∀ p ∈ ps, In32 p.x ∧ In32 p.y ∧ In32 p.z) : (tabF ps).length ≤ 6 ∧ (∀ r ∈ tabF ps, r.length = 6) ∧ (∀ r ∈ tabF ps, ∀ x ∈ r, -(2 ^ 64) < x ∧ x < 2 ^ 64) := by
  have e1 : ((2 : Int) ^ 64) = 18446744073709551616 := by decide
  have hz : ∀ q ∈ ps.zipIdx, q.1 ∈ ps := fun q hq => by
    have := (List.mem_zipIdx hq).2.2
    rw [this]
    exact List.getElem_mem _
  refine ⟨by simp [tabF, h6], fun r hr => ?_, fun r hr x hx => ?_⟩
  · obtain ⟨q, _, rfl⟩ := List.mem_map.mp hr
    simp [rowF, h6]
  · obtain ⟨q, hq, rfl⟩ := List.mem_map.mp hr
    obtain ⟨z, hz', rfl⟩ := List.mem_map.mp hx
    obtain ⟨⟨a0, a1⟩, ⟨b0, b1⟩, c0, c1⟩ := h _ (hz q hq)
    obtain ⟨⟨d0, d1⟩, ⟨f0, f1⟩, g0, g1⟩ := h _ (hz z hz')
    rw [e1]
    unfold cellF Prt.far farI
    split <;> omega
end Mine
end
section
open PySem PySem.W PyProof.Rows
set_option Elab.async false
set_option maxRecDepth 100000
set_option maxHeartbeats 1000000
namespace Mine
/-- polynomials: sorted terms, each with its sorted list of letters -/
noncomputable abbrev Pol := List (List Nat × Int)
noncomputable def monV (v : Nat → Int) : List Nat → Int
  | [] => 1
  | i :: m => v i * monV v m
noncomputable def denV (v : Nat → Int) : Pol → Int
  | [] => 0
  | t :: p => t.2 * monV v t.1 + denV v p
noncomputable def letB : List Nat → List Nat → Bool
  | [], _ => true
  | _ :: _, [] => false
  | a :: m, b :: n => if Nat.blt a b then true else if Nat.beq a b then letB m n else false
noncomputable def insV (i : Nat) : List Nat → List Nat
  | [] => [i]
  | j :: m => if Nat.ble i j then i :: j :: m else j :: insV i m
noncomputable def insT (m : List Nat) (c : Int) : Pol → Pol
  | [] => [(m, c)]
  | t :: p => if m = t.1 then (if c + t.2 = 0 then p else (m, c + t.2) :: p) else if letB m t.1 then (m, c) :: t :: p else t :: insT m c p
noncomputable def addP (p q : Pol) : Pol := p.foldr (fun t acc => insT t.1 t.2 acc) q
noncomputable def mmul (m n : List Nat) : List Nat := m.foldr insV n
noncomputable def mulT (m : List Nat) (c : Int) (p : Pol) (acc : Pol) : Pol := p.foldr (fun t acc => insT (mmul m t.1) (c * t.2) acc) acc
noncomputable def mulP (p q : Pol) : Pol := p.foldr (fun t acc => mulT t.1 t.2 q acc) []
noncomputable def negP (p : Pol) : Pol := p.map fun t => (t.1, - t.2)
noncomputable def varP (i : Nat) : Pol := [([i], 1)]
section
variable {v : Nat → Int}
theorem mon_insV (i : Nat) : ∀ m : List Nat, monV v (insV i m) = v i * monV v m
  | [] => rfl
  | j :: m => by
    unfold insV
    split
    · rfl
    · show v j * monV v (insV i m) = v i * (v j * monV v m)
      rw [mon_insV i m, Int.mul_left_comm]
theorem mon_mmul : ∀ m n : List Nat, monV v (mmul m n) = monV v m * monV v n
  | [], n => (Int.one_mul _).symm
  | i :: m, n => by
    show monV v (insV i (mmul m n)) = v i * monV v m * monV v n
    rw [mon_insV, mon_mmul m n, Int.mul_assoc]
theorem den_insT (m : List Nat) (c : Int) : ∀ p : Pol, denV v (insT m c p) = c * monV v m + denV v p
  | [] => rfl
  | t :: p => by
    unfold insT
    split
    · rename_i h
      split
      · rename_i h0
        show denV v p = c * monV v m + (t.2 * monV v t.1 + denV v p)
        rw [← h, ← Int.add_assoc, ← Int.add_mul, h0, Int.zero_mul, Int.zero_add]
      · show (c + t.2) * monV v m + denV v p = c * monV v m + (t.2 * monV v t.1 + denV v p)
        rw [← h, ← Int.add_assoc, ← Int.add_mul]
    · split
      · rfl
      · show t.2 * monV v t.1 + denV v (insT m c p) = c * monV v m + (t.2 * monV v t.1 + denV v p)
        rw [den_insT m c p, Int.add_left_comm]
theorem den_add : ∀ p q : Pol, denV v (addP p q) = denV v p + denV v q
  | [], q => (Int.zero_add _).symm
  | t :: p, q => by
    show denV v (insT t.1 t.2 (addP p q)) = t.2 * monV v t.1 + denV v p + denV v q
    rw [den_insT, den_add p q, Int.add_assoc]
theorem den_mulT (m : List Nat) (c : Int) : ∀ p acc : Pol, denV v (mulT m c p acc) = c * monV v m * denV v p + denV v acc
  | [], acc => by
    show denV v acc = c * monV v m * 0 + denV v acc
    rw [Int.mul_zero, Int.zero_add]
  | t :: p, acc => by
    show denV v (insT (mmul m t.1) (c * t.2) (mulT m c p acc)) = c * monV v m * (t.2 * monV v t.1 + denV v p) + denV v acc
    rw [den_insT, den_mulT m c p acc, mon_mmul, Int.mul_add, ← Int.add_assoc]
    congr 2
    rw [Int.mul_assoc, Int.mul_assoc, Int.mul_left_comm t.2]
theorem den_mul : ∀ p q : Pol, denV v (mulP p q) = denV v p * denV v q
  | [], q => (Int.zero_mul _).symm
  | t :: p, q => by
    show denV v (mulT t.1 t.2 q (mulP p q)) = (t.2 * monV v t.1 + denV v p) * denV v q
    rw [den_mulT, den_mul p q, Int.add_mul]
theorem den_neg : ∀ p : Pol, denV v (negP p) = - denV v p
  | [] => rfl
  | t :: p => by
    show - t.2 * monV v t.1 + denV v (negP p) = - (t.2 * monV v t.1 + denV v p)
    rw [den_neg p, Int.neg_mul, Int.neg_add]
theorem den_var (i : Nat) : denV v (varP i) = v i := by
  show 1 * (v i * 1) + 0 = v i
  rw [Int.mul_one, Int.one_mul, Int.add_zero]
end
end Mine
end
section
open PySem PySem.W PyProof.Rows
set_option Elab.async false
set_option maxRecDepth 100000
set_option maxHeartbeats 1000000
namespace Mine
noncomputable def hasP (c : List (Int × Pol)) (k : Int) : Bool := c.any fun p => decide (p.1 = k)
noncomputable def putP (c : List (Int × Pol)) (k : Int) (x : Pol) : List (Int × Pol) := if hasP c k then c.map (fun p => if decide (p.1 = k) then (p.1, x) else p) else c ++ [(k, x)]
noncomputable def lookP (c : List (Int × Pol)) (k : Int) : Pol := ((c.find? fun p => decide (p.1 = k)).map (·.2)).getD []
noncomputable def inStepP (line : List Pol) (taken : Int) (st : List (Int × Pol) × Pol) (cm : Int × Int) : List (Int × Pol) × Pol :=
  if (taken.fdiv cm.2).fmod 2 = 1 then (st.1, negP st.2) else (putP st.1 (taken + cm.2) (addP (mulP st.2 (line.getD cm.1.toNat [])) (lookP st.1 (taken + cm.2))), st.2)
noncomputable def midStepP (line : List Pol) (grown : List (Int × Pol)) (p : Int × Pol) : List (Int × Pol) := (colM.foldl (inStepP line p.1) (grown, p.2)).1
noncomputable def rowStepP (sums : List (Int × Pol)) (line : List Pol) : List (Int × Pol) := sums.foldl (midStepP line) []
noncomputable abbrev evS (v : Nat → Int) (c : List (Int × Pol)) : List (Int × Int) := c.map fun p => (p.1, denV v p.2)
section
variable {v : Nat → Int}
theorem ev_has (c : List (Int × Pol)) (k : Int) : kdfHas (evS v c) k = hasP c k := by
  unfold kdfHas hasP evS
  rw [List.any_map]
  rfl
theorem ev_look (c : List (Int × Pol)) (k : Int) : kdfLook (evS v c) k 0 = denV v (lookP c k) := by
  unfold kdfLook lookP evS
  rw [List.find?_map]
  show ((Option.map (fun p : Int × Pol => (p.1, denV v p.2)) (c.find? fun p => decide (p.1 = k))).map (·.2)).getD 0 = _
  cases c.find? fun p => decide (p.1 = k) <;> rfl
theorem ev_put (c : List (Int × Pol)) (k : Int) (x : Pol) : kdfPut (evS v c) k (denV v x) = evS v (putP c k x) := by
  have h := ev_has (v := v) c k
  unfold kdfHas at h
  unfold kdfPut putP
  rw [h]
  split
  · unfold evS
    rw [List.map_map, List.map_map]
    refine List.map_congr_left fun p _ => ?_
    show (if decide (p.1 = k) = true then (p.1, denV v x) else (p.1, denV v p.2)) = (fun p : Int × Pol => (p.1, denV v p.2)) (if decide (p.1 = k) = true then (p.1, x) else p)
    split <;> rfl
  · simp [evS]
theorem ev_in (line : List Pol) (taken : Int) (st : List (Int × Pol) × Pol) (cm : Int × Int) : inStep (line.map (denV v)) taken (evS v st.1, denV v st.2) cm = (evS v (inStepP line taken st cm).1, denV v (inStepP line taken st cm).2) := by
  unfold inStep inStepP
  split
  · rw [← den_neg]
  · have e : (line.map (denV v)).getD cm.1.toNat 0 = denV v (line.getD cm.1.toNat []) := by
      rw [List.getD_eq_getElem?_getD, List.getD_eq_getElem?_getD, List.getElem?_map]
      cases line[cm.1.toNat]? <;> rfl
    rw [e, ev_look, ← ev_put, den_add, den_mul, Int.add_comm (denV v st.2 * _)]
theorem ev_fold (line : List Pol) (taken : Int) : ∀ (cs : List (Int × Int)) (st : List (Int × Pol) × Pol), cs.foldl (inStep (line.map (denV v)) taken) (evS v st.1, denV v st.2) = (evS v (cs.foldl (inStepP line taken) st).1, denV v (cs.foldl (inStepP line taken) st).2)
  | [], _ => rfl
  | c :: cs, st => by
    rw [List.foldl_cons, List.foldl_cons, ev_in]
    exact ev_fold line taken cs (inStepP line taken st c)
theorem ev_mid (line : List Pol) (g : List (Int × Pol)) (p : Int × Pol) : midStep (line.map (denV v)) (evS v g) (p.1, denV v p.2) = evS v (midStepP line g p) := by
  unfold midStep midStepP
  rw [ev_fold line p.1 colM (g, p.2)]
theorem ev_mids (line : List Pol) : ∀ (ps g : List (Int × Pol)), (evS v ps).foldl (midStep (line.map (denV v))) (evS v g) = evS v (ps.foldl (midStepP line) g)
  | [], _ => rfl
  | p :: ps, g => by
    show (evS v ps).foldl (midStep (line.map (denV v))) (midStep (line.map (denV v)) (evS v g) (p.1, denV v p.2)) = _
    rw [ev_mid, ev_mids line ps]
    rfl
theorem ev_row (sums : List (Int × Pol)) (line : List Pol) : rowStep (evS v sums) (line.map (denV v)) = evS v (rowStepP sums line) := ev_mids line sums []
theorem ev_rows : ∀ (rows : List (List Pol)) (sums : List (Int × Pol)), (rows.map fun r => r.map (denV v)).foldl rowStep (evS v sums) = evS v (rows.foldl rowStepP sums)
  | [], _ => rfl
  | r :: rows, sums => by
    rw [List.map_cons, List.foldl_cons, List.foldl_cons, ev_row]
    exact ev_rows rows (rowStepP sums r)
end
/-- the told weight as a polynomial -/
noncomputable def weightP (g : Int → Int → Pol) (W : List (Int × Int)) : Pol := W.foldl (fun a p => mulP a (g p.1 p.2)) [([], 1)]
noncomputable def toldStepP (g : Int → Int → Pol) (t : Pol) (W : List (Int × Int)) : Pol := if (metF W).1.fmod 2 = 0 then addP t (weightP g W) else addP t (negP (weightP g W))
section
variable {v : Nat → Int} {g : Int → Int → Pol} {g' : Int → Int → Int}
theorem ev_weight (h : ∀ x y, 0 ≤ x → x < y → y < 6 → denV v (g x y) = g' x y) : ∀ (W : List (Int × Int)) (a : Pol) (b : Int), denV v a = b → (∀ p ∈ W, 0 ≤ p.1 ∧ p.1 < p.2 ∧ p.2 < 6) → denV v (W.foldl (fun a p => mulP a (g p.1 p.2)) a) = W.foldl (fun a p => a * g' p.1 p.2) b
  | [], _, _, e, _ => e
  | p :: W, a, b, e, hp => by
    have q := hp p (List.mem_cons_self ..)
    exact ev_weight h W _ _ (by rw [den_mul, e, h _ _ q.1 q.2.1 q.2.2]) fun z hz => hp z (List.mem_cons_of_mem _ hz)
theorem ev_told (h : ∀ x y, 0 ≤ x → x < y → y < 6 → denV v (g x y) = g' x y) : ∀ (Ws : List (List (Int × Int))) (t : Pol) (u : Int), denV v t = u → (∀ W ∈ Ws, W ∈ ways15) → denV v (Ws.foldl (toldStepP g) t) = Ws.foldl (toldStep g') u
  | [], _, _, e, _ => e
  | W :: Ws, t, u, e, hW => by
    obtain ⟨a, b, e15⟩ := List.append_of_mem (hW W (List.mem_cons_self ..))
    have hp := (way_at e15).2.2
    have hw : denV v (weightP g W) = weightF g' W := ev_weight h W _ _ (by show 1 * 1 + 0 = (1 : Int); rfl) hp
    refine ev_told h Ws _ _ ?_ fun V hV => hW V (List.mem_cons_of_mem _ hV)
    unfold toldStepP toldStep
    split
    · rw [den_add, e, hw]
    · rw [den_add, den_neg, e, hw, Int.sub_eq_add_neg]
end
noncomputable def varIJ (i j : Nat) : Pol := varP (6 * min i j + max i j)
noncomputable def rowsP : List (List Pol) := (List.range 6).map fun i => (List.range 6).map fun j => if i < j then varIJ i j else if i = j then [] else negP (varIJ i j)
noncomputable def gP (k : Nat) (x y : Int) : Pol := varIJ ((x.toNat + k) % 6) ((y.toNat + k) % 6)
noncomputable def toldP (k : Nat) : Pol := ways15.foldl (toldStepP (gP k)) []
noncomputable def detP : List (Int × Pol) := rowsP.foldl rowStepP [(0, [([], 1)])]
end Mine
end
section
open PySem PySem.W PyProof.Rows
set_option Elab.async false
set_option maxRecDepth 100000
set_option maxHeartbeats 1000000
namespace Mine
theorem det_has : hasP detP 63 = true := by decide +kernel
theorem pf_0 : mulP (toldP 0) (toldP 0) = lookP detP 63 := by decide +kernel
theorem pf_turn : ∀ k : Fin 7, toldP k.val = toldP 0 := by decide +kernel
theorem told_det {v : Nat → Int} {k : Nat} (hk : k ≤ 6) {g' : Int → Int → Int} (h : ∀ x y, 0 ≤ x → x < y → y < 6 → denV v (gP k x y) = g' x y) : denV v (lookP detP 63) = ways15.foldl (toldStep g') 0 * ways15.foldl (toldStep g') 0 := by
  have e := pf_turn ⟨k, by omega⟩
  have e2 : denV v (toldP k) = ways15.foldl (toldStep g') 0 := ev_told h ways15 [] 0 rfl fun _ h => h
  rw [← e2, ← den_mul]
  rw [show toldP k = toldP 0 from e, pf_0]
theorem det_det {v : Nat → Int} {rows : List (List Int)} (h : rows = rowsP.map fun r => r.map (denV v)) : kdfHas (rows.foldl rowStep [(0, 1)]) 63 = true ∧ kdfLook (rows.foldl rowStep [(0, 1)]) 63 0 = denV v (lookP detP 63) := by
  have e : rows.foldl rowStep [(0, 1)] = evS v detP := by
    rw [h]
    exact ev_rows rowsP [(0, [([], 1)])]
  rw [e, ev_has, ev_look]
  exact ⟨det_has, rfl⟩
/-- the row's cut: the ring is the row from the k-th on round -/
theorem rot_cut {l : List (Int × Int)} {mk : Int} : l.Pairwise LexP → ∃ k, k ≤ l.length ∧ rotL mk l = (l.drop k ++ l.take k).map (·.2) := by
  intro h
  have key : ∃ k, k ≤ l.length ∧ (l.filter fun p => decide (mk ≤ p.1)) = l.drop k ∧ (l.filter fun p => decide (p.1 < mk)) = l.take k := by
    induction h with
    | nil => exact ⟨0, Nat.le_refl _, rfl, rfl⟩
    | @cons p l hp _ ih =>
      by_cases hq : mk ≤ p.1
      · refine ⟨0, Nat.zero_le _, ?_, ?_⟩
        · rw [List.drop_zero, List.filter_eq_self]
          intro z hz
          rcases List.mem_cons.mp hz with rfl | hz
          · simpa using hq
          · have := hp z hz
            unfold LexP at this
            simp only [decide_eq_true_eq]
            omega
        · rw [List.take_zero, List.filter_eq_nil_iff]
          intro z hz
          rcases List.mem_cons.mp hz with rfl | hz
          · simp; omega
          · have := hp z hz
            unfold LexP at this
            simp only [decide_eq_true_eq]
            omega
      · obtain ⟨k, k1, k2, k3⟩ := ih
        have hq2 : p.1 < mk := by omega
        refine ⟨k + 1, by simpa using k1, ?_, ?_⟩
        · rw [List.filter_cons, if_neg (by simpa using hq2), k2]
          rfl
        · rw [List.filter_cons, if_pos (by simpa using hq2), k3]
          rfl
  obtain ⟨k, k1, k2, k3⟩ := key
  exact ⟨k, k1, by unfold rotL; rw [k2, k3, List.map_append]⟩
theorem far_comm (a b c d e f : Int) : farI a b c d e f = farI d e f a b c := by
  unfold farI
  omega
theorem far_self (a b c : Int) : farI a b c a b c = 0 := by
  unfold farI
  omega
end Mine
end
section
open PySem PySem.W PyProof.Rows
set_option Elab.async false
set_option maxRecDepth 100000
set_option maxHeartbeats 1000000
namespace Mine
noncomputable def farT (a b : Int × Int × Int) : Int := farI a.1 a.2.1 a.2.2 b.1 b.2.1 b.2.2
theorem farT_comm (a b : Int × Int × Int) : farT a b = farT b a := far_comm ..
noncomputable def trF (l : List (Int × Int)) (ds : List Int) (i : Nat) : Int × Int × Int := prt3 (ds.getD (l.getD i (0, 0)).2.toNat 0)
noncomputable def vF (l : List (Int × Int)) (ds : List Int) (n : Nat) : Int := farT (trF l ds (n / 6)) (trF l ds (n % 6))
theorem den_ij {l : List (Int × Int)} {ds : List Int} {i j : Nat} (hi : i < 6) (hj : j < 6) : denV (vF l ds) (varIJ i j) = farT (trF l ds i) (trF l ds j) := by
  unfold varIJ
  rw [den_var]
  unfold vF
  rw [show (6 * min i j + max i j) / 6 = min i j by omega, show (6 * min i j + max i j) % 6 = max i j by omega]
  rcases Nat.le_total i j with h | h
  · rw [Nat.min_eq_left h, Nat.max_eq_right h]
  · rw [Nat.min_eq_right h, Nat.max_eq_left h, farT_comm]
theorem tab_rows {ps : List Prt} {l : List (Int × Int)} {ds : List Int} (h6 : l.length = 6) (hps : ps.map Prt.xyz = l.map (fun q => prt3 (ds.getD q.2.toNat 0))) : tabF ps = rowsP.map fun r => r.map (denV (vF l ds)) := by
  have hp6 : ps.length = 6 := by simpa [h6] using congrArg List.length hps
  have hx : ∀ i (hi : i < ps.length), ps[i].xyz = trF l ds i := fun i hi => by
    have hl : i < l.length := by omega
    have e := congrArg (fun z => z[i]?) hps
    simp only [List.getElem?_map, List.getElem?_eq_getElem hi, List.getElem?_eq_getElem hl, Option.map_some, Option.some.injEq] at e
    unfold trF
    rw [e]
    simp [hl]
  have hf : ∀ i j (hi : i < ps.length) (hj : j < ps.length), ps[i].far ps[j] = farT (trF l ds i) (trF l ds j) := fun i j hi hj => by
    rw [← hx i hi, ← hx j hj]
    rfl
  refine List.ext_getElem (by simp [tabF, rowsP, hp6]) fun i h1 h2 => ?_
  have hi : i < ps.length := by simpa [tabF] using h1
  have e1 : (tabF ps)[i] = rowF ps (ps[i], i) := by simp [tabF]
  have e2 : (rowsP.map fun r => r.map (denV (vF l ds)))[i] = ((List.range 6).map fun j => if i < j then varIJ i j else if i = j then [] else negP (varIJ i j)).map (denV (vF l ds)) := by simp [rowsP]
  rw [e1, e2]
  refine List.ext_getElem (by simp [rowF, hp6]) fun j h3 h4 => ?_
  have hj : j < ps.length := by simpa [rowF] using h3
  have e3 : (rowF ps (ps[i], i))[j] = cellF (ps[i], i) (ps[j], j) := by simp [rowF]
  have e4 : (((List.range 6).map fun j => if i < j then varIJ i j else if i = j then [] else negP (varIJ i j)).map (denV (vF l ds)))[j] = denV (vF l ds) (if i < j then varIJ i j else if i = j then [] else negP (varIJ i j)) := by simp
  rw [e3, e4]
  unfold cellF
  show (if (i : Int) < (j : Int) then ps[i].far ps[j] else - ps[i].far ps[j]) = _
  rw [hf i j hi hj]
  by_cases c1 : i < j
  · rw [if_pos c1, if_pos (by omega), den_ij (by omega) (by omega)]
  · rw [if_neg c1, if_neg (by omega)]
    by_cases c2 : i = j
    · rw [if_pos c2, c2]
      show - farT _ _ = 0
      unfold farT
      rw [far_self]
      rfl
    · rw [if_neg c2, den_neg, den_ij (by omega) (by omega)]
theorem rot_at {l : List (Int × Int)} {k x : Nat} (h6 : l.length = 6) (hk : k ≤ 6) (hx : x < 6) : ((l.drop k ++ l.take k).map (·.2)).getD x 0 = (l.getD ((x + k) % 6) (0, 0)).2 := by
  have e : (l.drop k ++ l.take k)[x]? = l[(x + k) % 6]? := by
    by_cases c : x < 6 - k
    · rw [List.getElem?_append_left (by simp [h6]; omega), List.getElem?_drop, show (x + k) % 6 = k + x by omega]
    · rw [List.getElem?_append_right (by simp [h6]; omega), List.length_drop, h6, List.getElem?_take, if_pos (by omega), show (x + k) % 6 = x - (6 - k) by omega]
  rw [List.getD_eq_getElem?_getD, List.getElem?_map, e, List.getD_eq_getElem?_getD]
  have hb : (x + k) % 6 < l.length := by omega
  rw [List.getElem?_eq_getElem hb]
  rfl
theorem far_prt {cs : List Col} {ds : List Int} (hcs : cs.map (fun c => (c.r, c.a, c.b)) = ds.map rab) (h6 : ds.length = 6) {a b : Int} (ha : 0 ≤ a ∧ a < 6) (hb : 0 ≤ b ∧ b < 6) : farC (colAt cs a) (colAt cs b) = farT (prt3 (ds.getD a.toNat 0)) (prt3 (ds.getD b.toNat 0)) := by
  have hc6 : cs.length = 6 := by simpa [h6] using congrArg List.length hcs
  have hz : ∀ z : Int, 0 ≤ z ∧ z < 6 → ((colAt cs z).r, (colAt cs z).a, (colAt cs z).b) = rab (ds.getD z.toNat 0) := fun z hz => by
    have h1 : z.toNat < cs.length := by omega
    have h2 : z.toNat < ds.length := by omega
    have e := congrArg (fun y => y[z.toNat]?) hcs
    simp only [List.getElem?_map, List.getElem?_eq_getElem h1, List.getElem?_eq_getElem h2, Option.map_some, Option.some.injEq] at e
    have e1 : colAt cs z = cs[z.toNat] := by simp [colAt, h1]
    have e2 : ds.getD z.toNat 0 = ds[z.toNat] := by simp [h2]
    rw [e1, e2]
    exact e
  have ea := hz a ha
  have eb := hz b hb
  simp only [rab, Prod.mk.injEq] at ea eb
  obtain ⟨a1, a2, a3⟩ := ea
  obtain ⟨b1, b2, b3⟩ := eb
  unfold farC farT
  rw [a1, a2, a3, b1, b2, b3]
theorem pf_law {cs : List Col} {ds : List Int} {l : List (Int × Int)} {mk tv : Int} {g : Int → Int → Int} {ps : List Prt} (hcs : cs.map (fun c => (c.r, c.a, c.b)) = ds.map rab) (h6 : ds.length = 6) (hP : l.Perm (ds.zipIdx.map toneF)) (hPw : l.Pairwise LexP) (hg : g = fF cs (rotL mk l)) (htv : tv = ways15.foldl (toldStep g) 0)
    (hps : ps.map Prt.xyz = l.map (fun q => prt3 (ds.getD q.2.toNat 0))) : kdfHas ((tabF ps).foldl rowStep [(0, 1)]) 63 = true ∧ kdfLook ((tabF ps).foldl rowStep [(0, 1)]) 63 0 = tv * tv := by
  have hl6 : l.length = 6 := by rw [hP.length_eq]; simp [h6]
  obtain ⟨k, k6, ek⟩ := rot_cut (mk := mk) hPw
  rw [hl6] at k6
  have hin : ∀ i : Nat, i < 6 → 0 ≤ (l.getD i (0, 0)).2 ∧ (l.getD i (0, 0)).2 < 6 := fun i hi => by
    have hil : i < l.length := by omega
    have e : l.getD i (0, 0) = l[i] := by simp [hil]
    rw [e]
    obtain ⟨a, b, e2⟩ := List.append_of_mem (List.getElem_mem hil)
    exact row_in hP h6 e2
  obtain ⟨d1, d2⟩ := det_det (tab_rows hl6 hps)
  refine ⟨d1, ?_⟩
  rw [d2, htv]
  refine told_det k6 fun x y h0 hxy hy => ?_
  have hx6 : x.toNat < 6 := by omega
  have hy6 : y.toNat < 6 := by omega
  unfold gP
  rw [den_ij (Nat.mod_lt _ (by omega)) (Nat.mod_lt _ (by omega)), hg]
  unfold fF
  rw [ek, rot_at hl6 k6 hx6, rot_at hl6 k6 hy6, far_prt hcs h6 (hin _ (Nat.mod_lt _ (by omega))) (hin _ (Nat.mod_lt _ (by omega)))]
  rfl
end Mine
end
section
open PySem PySem.W PyProof.Rows PyProof.Rows.LCg PyProof.V
set_option Elab.async false
set_option maxRecDepth 100000
set_option maxHeartbeats 100000000
namespace Mine
theorem kx_MLaw : True := by
  w_top off
  k_with_none
  trivial
theorem kx_MLaw_0 : True := by
  k_with "getMethod ref" => (k_here; (with_reducible show wpAny _ _ (getMethod (Value.ref _) (PySem.Str.ofString "append") _) _ _ _); k_dflt (refine' append_meth ?NZk ?mZk ?_; (case NZk => k_asm); (case mZk => repeat (first | assumption | exact List.mem_cons_self .. | refine List.mem_cons_of_mem _ ?_))))
  trivial
theorem kx_MLaw_1 : True := by
  k_with "call builtin:list.append" => (k_here; k_dflt (refine' append_led ?FZk ?NZk ?hmZk ?hzZk ?_; (case FZk => k_asm); (case NZk => k_asm); (case hmZk => repeat (first | assumption | exact List.mem_cons_self .. | refine List.mem_cons_of_mem _ ?_)); (case hzZk => assumption)); intro h' news' F' N' P'; (try dsimp only))
  trivial
theorem kx_MLaw_2 : True := by
  k_with "subscriptTail Subscript Name ref int" => (k_here; k_dflt (refine' item_intsL ?NZk ?hmZk ?TZk ?hsZk ?k0Zk ?k1Zk ?_; (case NZk => k_asm); (case hmZk => repeat (first | assumption | exact List.mem_cons_self .. | refine List.mem_cons_of_mem _ ?_)); (case TZk => assumption); (case hsZk => assumption); (case k0Zk => omega); (case k1Zk => omega)))
  trivial
theorem kx_MLaw_3 : True := by
  k_with "subscriptTail Name Slice ref ref" => (k_here; (with_reducible show wpAny _ _ (subscriptTail _ (PySem.Expr.Slice none (some _) none _) (Value.ref _) (Value.ref _)) _ _ _); k_dflt (refine' slice_to ?FZk ?NZk ?hmZk ?hzZk ?hkZk ?_; (case FZk => k_asm); (case NZk => k_asm); (case hmZk => repeat (first | assumption | exact List.mem_cons_self .. | refine List.mem_cons_of_mem _ ?_)); (case hzZk => assumption); (case hkZk => assumption)); intro D' h' F' N' l1)
  trivial
theorem kx_MLaw_4 : True := by
  k_with "subscriptTail Name Name ref int" => (k_here; k_dflt (refine' item_listL ?NZk ?hmZk ?h0Zk ?hkZk ?hxZk ?_; (case NZk => k_asm); (case hmZk => repeat (first | assumption | exact List.mem_cons_self .. | refine List.mem_cons_of_mem _ ?_)); (case h0Zk => omega); (case hkZk => omega); (case hxZk => assumption)))
  trivial
theorem kx_MLaw_5 : True := by
  k_with "compareOp NotEq ref ref" => (k_here; k_dflt (refine' ne_led ?NZk ?haZk ?hbZk ?hiZk ?hjZk ?eZk ?huZk ?_; (case NZk => k_asm); (case haZk => repeat (first | assumption | exact List.mem_cons_self .. | refine List.mem_cons_of_mem _ ?_)); (case hbZk => repeat (first | assumption | exact List.mem_cons_self .. | refine List.mem_cons_of_mem _ ?_)); (case hiZk => assumption); (case hjZk => exact ints_app (by assumption) (by assumption)); (case eZk => rfl); (case huZk => ke_room)))
  trivial
theorem kx_MLaw_6 : True := by
  k_with "binaryOp Add ref ref" => (k_here; k_dflt (refine' add_led ?FZk ?NZk ?haZk ?hbZk ?hzZk ?_; (case FZk => k_asm); (case NZk => k_asm); (case haZk => repeat (first | assumption | exact List.mem_cons_self .. | refine List.mem_cons_of_mem _ ?_)); (case hbZk => repeat (first | assumption | exact List.mem_cons_self .. | refine List.mem_cons_of_mem _ ?_)); (case hzZk => omega)); intro D' h' F' N' l1)
  trivial
theorem kx_MLaw_7 : True := by
  k_with "eval Name" => (k_here; k_dflt (refine' cell_load ?NZk ?cZk ?mZk ?dZk ?_ ?aZk ?bZk; (case aZk => rfl); (case bZk => rfl); (case NZk => k_asm); (case cZk => rfl); (case mZk => repeat (first | assumption | exact List.mem_cons_self .. | refine List.mem_cons_of_mem _ ?_)); (case dZk => assumption)))
  trivial
theorem kx_MLaw_8 : True := by
  k_with "eval Name" => (k_here; (with_reducible show wpAny _ _ (eval (PySem.Expr.Name _ _) (compEnvC _ _ _ _)) _ _ _); k_dflt (refine' lcf_cell ?NZk ?cZk ?mZk ?dZk ?_ ?aZk ?bZk; (case aZk => rfl); (case bZk => rfl); (case NZk => k_asm); (case cZk => rfl); (case mZk => repeat (first | assumption | exact List.mem_cons_self .. | refine List.mem_cons_of_mem _ ?_)); (case dZk => assumption)))
  trivial
theorem kx_MLaw_9 : True := by
  k_with "call builtin:sum" => (k_here; k_dflt (refine' sum_led ?hhZk ?FZk ?NZk ?hmZk ?TZk ?_; (case hhZk => with_unfolding_all rfl); (case FZk => k_asm); (case NZk => k_asm); (case hmZk => repeat (first | assumption | exact List.mem_cons_self .. | refine List.mem_cons_of_mem _ ?_)); (case TZk => first | assumption | exact ints_pick (by assumption) _)); intro h' tk' t' F' N')
  trivial
theorem kx_MLaw_10 : True := by
  k_with "call ref" => (k_here; k_dflt (refine' Ctr.use (c_painted _ rfl rfl rfl) ?kBZk ?kFZk ?kXZk ?kNZk ?kTZk ?kkZk ?kdZk ?kuZk ?_; (case kBZk => k_asm); (case kFZk => k_asm); (case kXZk => k_asm); (case kNZk => k_asm); (case kTZk => k_asm); (case kkZk => first | exact rfl | assumption); (case kdZk => ktr_room); (case kuZk => ktr_units); k_whole; intro v' news' h' tk' F' N' P'; refine el_5_3 (P') ?_; clear P'; rintro q' n' ta' tb' tc' e1' e2' l'; subst e1'; subst e2'; (try dsimp only)))
  trivial
theorem kx_MLaw_11 : True := by
  k_with "call ref" => (k_here; k_dflt (refine' Ctr.use (c_ring _ ?h0Zk ?h1Zk ?h2Zk) ?kBZk ?kFZk ?kXZk ?kNZk ?kTZk ?kkZk ?kdZk ?kuZk ?_; (case kBZk => k_asm); (case kFZk => k_asm); (case kXZk => k_asm); (case kNZk => k_asm); (case kTZk => k_asm); (case kkZk => first | exact rfl | assumption); (case kdZk => ktr_room); (case kuZk => ktr_units); (case h0Zk => repeat (first | assumption | exact List.mem_cons_self .. | refine List.mem_cons_of_mem _ ?_)); (case h1Zk => exact fun c hc => ⟨by (repeat (first | exact ent_mem hc | refine List.mem_cons_of_mem _ ?_)), cols_ok (by assumption) c hc⟩); (case h2Zk => assumption); k_whole; intro v' news' h' tk' F' N' P'; refine el_3_5 (P') ?_; clear P'; rintro q' ys' l' e1' e2' hp' hw' hi'; subst e1'; subst e2'; (try dsimp only)))
  trivial
theorem kx_MLaw_12 : True := by
  k_with "call ref" => (k_here; k_dflt (refine' Ctr.use (c_apart _ ?h0Zk ?h1Zk ?i1Zk ?i2Zk ?i3Zk ?i4Zk ?i5Zk ?i6Zk) ?kBZk ?kFZk ?kXZk ?kNZk ?kTZk ?kkZk ?kdZk ?kuZk ?_; (case kBZk => k_asm); (case kFZk => k_asm); (case kXZk => k_asm); (case kNZk => k_asm); (case kTZk => k_asm); (case kkZk => first | exact rfl | assumption); (case kdZk => ktr_room); (case kuZk => ktr_units); (case h0Zk => repeat (first | assumption | exact List.mem_cons_self .. | refine List.mem_cons_of_mem _ ?_)); (case h1Zk => repeat (first | assumption | exact List.mem_cons_self .. | refine List.mem_cons_of_mem _ ?_)); (case i1Zk => assumption); (case i2Zk => assumption); (case i3Zk => assumption); (case i4Zk => assumption); (case i5Zk => assumption); (case i6Zk => assumption); k_whole; intro v' news' h' tk' F' N' P'; obtain ⟨t', e1', e2'⟩ := P'; subst e1'; replace e2' := Eq.symm e2'; subst e2'; (try dsimp only)))
  trivial
theorem kx_MLaw_13 : True := by
  k_with "call ref" => (k_here; k_dflt (refine' Ctr.use (c_parts _) ?kBZk ?kFZk ?kXZk ?kNZk ?kTZk ?kkZk ?kdZk ?kuZk ?_; (case kBZk => k_asm); (case kFZk => k_asm); (case kXZk => k_asm); (case kNZk => k_asm); (case kTZk => k_asm); (case kkZk => first | exact rfl | assumption); (case kdZk => ktr_room); (case kuZk => ktr_units); k_whole; intro v' news' h' tk' F' N' P'; refine el_8_6 (P') ?_; clear P'; rintro q' n' i1' i2' i3' t1' t2' t3' e1' e2' l' j1' j2' j3'; subst e1'; subst e2'; (try dsimp only)))
  trivial
theorem kx_MLaw_14 : True := by
  k_with "call ref" => (k_here; k_dflt (refine' Ctr.use (c_table _ ?h0Zk ?h1Zk ?h2Zk) ?kBZk ?kFZk ?kXZk ?kNZk ?kTZk ?kkZk ?kdZk ?kuZk ?_; (case kBZk => k_asm); (case kFZk => k_asm); (case kXZk => k_asm); (case kNZk => k_asm); (case kTZk => k_asm); (case kkZk => first | exact rfl | assumption); (case kdZk => ktr_room); (case kuZk => ktr_units); (case h0Zk => repeat (first | assumption | exact List.mem_cons_self .. | refine List.mem_cons_of_mem _ ?_)); (case h1Zk => assumption); (case h2Zk => assumption); k_whole; intro v' news' h' tk' F' N' P'; refine el_4_4 (P') ?_; clear P'; rintro q' vs' n' lo' e1' hq' hR' hs'; subst e1'; (try dsimp only)))
  trivial
theorem kx_MLaw_15 : True := by
  k_with "call ref" => (k_here; k_dflt (refine' Ctr.use (c_det _ ?h0Zk ?h1Zk ?h2Zk ?h3Zk ?h4Zk ?h5Zk) ?kBZk ?kFZk ?kXZk ?kNZk ?kTZk ?kkZk ?kdZk ?kuZk ?_; (case kBZk => k_asm); (case kFZk => k_asm); (case kXZk => k_asm); (case kNZk => k_asm); (case kTZk => k_asm); (case kkZk => first | exact rfl | assumption); (case kdZk => ktr_room); (case kuZk => ktr_units); (case h0Zk => repeat (first | assumption | exact List.mem_cons_self .. | refine List.mem_cons_of_mem _ ?_)); (case h1Zk => assumption); (case h2Zk => assumption); (case h3Zk => assumption); (case h4Zk => assumption); (case h5Zk => assumption); k_whole; intro v' news' h' tk' F' N' P'; obtain ⟨t', e1', hs'⟩ := P'; subst e1'; (try dsimp only)))
  trivial
theorem kx_MLaw_16 : True := by
  k_with "call ref" => (k_here; k_dflt (refine' Ctr.use (c_pair _ 6 (by decide) ?h0Zk ?h1Zk ?h2Zk) ?kBZk ?kFZk ?kXZk ?kNZk ?kTZk ?kkZk ?kdZk ?kuZk ?_; (case kBZk => k_asm); (case kFZk => k_asm); (case kXZk => k_asm); (case kNZk => k_asm); (case kTZk => k_asm); (case kkZk => first | exact rfl | assumption); (case kdZk => ktr_room); (case kuZk => ktr_units); (case h1Zk => repeat (first | assumption | exact List.mem_cons_self .. | refine List.mem_cons_of_mem _ ?_)); (case h2Zk => exact .cons _ _ (.cons _ _ (.cons _ _ (.cons _ _ (.cons _ _ (.cons _ _ .nil)))))); (case h0Zk => decide); k_whole; intro v' news' h' tk' F' N' P'; refine el_4_4 (P') ?_; clear P'; rintro q' vs' n' lo' e1' hq' hW' hs'; subst e1'; (try dsimp only)))
  trivial
theorem kx_MLaw_17 : True := by
  k_with "call ref" => (k_here; k_dflt (refine' Ctr.use (c_met _ ?h0Zk ?h1Zk ?h2Zk ?h3Zk ?h4Zk) ?kBZk ?kFZk ?kXZk ?kNZk ?kTZk ?kkZk ?kdZk ?kuZk ?_; (case kBZk => k_asm); (case kFZk => k_asm); (case kXZk => k_asm); (case kNZk => k_asm); (case kTZk => k_asm); (case kkZk => first | exact rfl | assumption); (case kdZk => ktr_room); (case kuZk => ktr_units); (case h0Zk => repeat (first | assumption | exact List.mem_cons_self .. | refine List.mem_cons_of_mem _ ?_)); (case h1Zk => assumption); (case h2Zk => assumption); (case h3Zk => omega); (case h4Zk => assumption); k_whole; intro v' news' h' tk' F' N' P'; refine el_4_3 (P') ?_; clear P'; rintro q' n' t1' t2' e1' hq' hs'; subst e1'; (try dsimp only)))
  trivial
theorem kx_MLaw_18 : True := by
  k_with "call ref" => (k_here; k_dflt (refine' Ctr.use (c_add_ii _) ?kBZk ?kFZk ?kXZk ?kNZk ?kTZk ?kkZk ?kdZk ?kuZk ?_; (case kBZk => k_asm); (case kFZk => k_asm); (case kXZk => k_asm); (case kNZk => k_asm); (case kTZk => k_asm); (case kkZk => first | exact rfl | assumption); (case kdZk => ktr_room); (case kuZk => ktr_units); k_whole; intro v' news' h' tk' F' N' P'; obtain ⟨t', e1', e2'⟩ := P'; subst e1'; replace e2' := Eq.symm e2'; subst e2'; (try dsimp only)))
  trivial
theorem kx_MLaw_19 : True := by
  k_with "call ref" => (k_here; k_dflt (refine' Ctr.use (c_sub_ii _) ?kBZk ?kFZk ?kXZk ?kNZk ?kTZk ?kkZk ?kdZk ?kuZk ?_; (case kBZk => k_asm); (case kFZk => k_asm); (case kXZk => k_asm); (case kNZk => k_asm); (case kTZk => k_asm); (case kkZk => first | exact rfl | assumption); (case kdZk => ktr_room); (case kuZk => ktr_units); k_whole; intro v' news' h' tk' F' N' P'; obtain ⟨t', e1', e2'⟩ := P'; subst e1'; replace e2' := Eq.symm e2'; subst e2'; (try dsimp only)))
  trivial
theorem kx_MLaw_20 : True := by
  k_with "call ref" => (k_here; k_dflt (refine' Ctr.use (c_mul_ii _ ?h0Zk ?h1Zk) ?kBZk ?kFZk ?kXZk ?kNZk ?kTZk ?kkZk ?kdZk ?kuZk ?_; (case kBZk => k_asm); (case kFZk => k_asm); (case kXZk => k_asm); (case kNZk => k_asm); (case kTZk => k_asm); (case kkZk => first | exact rfl | assumption); (case kdZk => ktr_room); (case kuZk => ktr_units); (case h0Zk => assumption); (case h1Zk => assumption); k_whole; intro v' news' h' tk' F' N' P'; obtain ⟨t', e1', e2'⟩ := P'; subst e1'; replace e2' := Eq.symm e2'; subst e2'; (try dsimp only)))
  trivial
theorem law_holds : PySem.Challenge.rw_wf0034_01.Holds := by
  w_on
  refine holds_law hd.said fun said => ?_
  refine holds_open (q := hd.view_39) (loose := hd.loose) (Xt := fun s => xlAt hd.view_39 [] s && recOk (RowW.records PySem.Challenge.rw_wf0034_01.row.toRowW) s) (XP := XL hd.view_39 []) (Yf := Hook.obs (kHook hd.heap_39 hd.adrs hd.keys)) (Ya := Hook.val (kHook hd.heap_39 hd.adrs hd.keys)) (YP := Hook.says (kHook hd.heap_39 hd.adrs hd.keys)) (N := 1444) hd.left (Hook.of (kHook hd.heap_39 hd.adrs hd.keys)) (Hook.keeps (kHook hd.heap_39 hd.adrs hd.keys)) (fun s e => xl_of s (Bool.and_eq_true_iff.mp e).1) XL.keeps (by rfl) (by rfl) (by rfl) (fun s e => recFacts_of (Bool.and_eq_true_iff.mp e).2) (by rfl) (by first | assumption | decide +kernel) (by decide +kernel) ⟨rfl, rfl, rfl, rfl, rfl, by decide +kernel⟩ ?hw ?hc
  case hw => w_witness2
  clear said
  k_go0
  (all_goals try k_fold)
  rename Fr _ _ _ _ => lF0
  with_unfolding_all (have lF1 : Fr _ _ _ (fun y => if y = Str.ofString "script" then some _ else none) := lF0)
  clear lF0
  iterate 3 walk1
  iterate 21 (first | (k_unfold; (try dsimp only)) | (k_end; kc_close) | walk1 | (dsimp only; walk1) | (leave1; walk_say "STEP leave1"; (try dsimp only)))
  refine wpAny_Assign_Name ?_
  rename Fr _ _ _ _ => lF'
  with_unfolding_all (refine cp_eval lF' (by with_unfolding_all rfl) (by decide) (by rfl) (by decide) (by rfl) (by rfl) (by decide) (by decide) ?_)
  iterate 20 (first | (k_unfold; (try dsimp only)) | (k_end; kc_close) | walk1 | (dsimp only; walk1) | (leave1; walk_say "STEP leave1"; (try dsimp only)))
  rename News _ _ _ _ => lN
  rename Fr _ _ _ _ => lF
  have hcl := ‹IntsAre _ (List.map _ (List.take 12 _))›
  have hclz : _ ≤ 64 := cells_len hcl
  with_unfolding_all (refine cps_enum (vs := [.int 60 _, .int 18 _, .int 48 _, .int 42 _, .int 52 _, .int 56 _]) (by rfl) lF lN (List.mem_cons_self ..) (by rw [sizeLine_eq]; exact Nat.le_of_ble_eq_true rfl) fun I1 g1 l1 => ?_)
  refine cp_ind (DrawJ _) ?dturn ?dfin _ _ _ (draw_start lN)
  case dturn =>
    rintro p r ys2 news2 hJ t its oC C D m₂ h tk E' hits hoC ha hb F2 N2 off2 lt1 lt2
    have hJ2 := hJ
    refine el_0_4 (hJ) ?_
    clear hJ
    rintro e2 hl2 ⟨ds, hds⟩ hr
    refine el_3_1 (hr p (List.mem_cons_self ..)) ?_
    rintro j f tf e3
    subst e2
    subst e3
    obtain ⟨oi1, oi2, e4⟩ := objs2 hits
    subst e4
    simp only [List.cons_append, List.nil_append] at N2
    dsimp only at ha hb
    dsimp only [CPTurn]
    repeat' (first | (k_unfold; (try dsimp only)) | (k_end; kc_close) | walk1 | (dsimp only; walk1) | (leave1; walk_say "STEP leave1"; (try dsimp only)))
    rename News _ _ _ _ => N9
    exact ⟨_, _, _, rfl, by k_asm, fun p hp => N9 p (List.mem_cons_of_mem _ hp), off2, fun p hp => by rw [List.mem_singleton.mp hp]; exact List.mem_cons_self .., draw_next hJ2⟩
  clear lF
  rintro ys1 news1 hJz
  refine el_0_4 (hJz) ?_
  clear hJz
  rintro e1 hl1 ⟨ds, hds⟩ _
  rintro D1 h1 tk1 F1 N1 off1
  subst e1
  dsimp only
  replace off1 := off1_of off1
  simp only [LCg.Off1, and_true] at off1
  iterate 17 (first | (k_unfold; (try dsimp only)) | (k_end; kc_close) | walk1 | (dsimp only; walk1) | (leave1; walk_say "STEP leave1"; (try dsimp only)))
  refine wpAny_Assign_Name ?_
  with_unfolding_all (refine LCg.ListComp_U (F₀ := by k_asm) (by with_unfolding_all rfl) (by decide) (by rfl) (by decide) (by rfl) ?_)
  iterate 1 (first | (k_unfold; (try dsimp only)) | (k_end; kc_close) | walk1 | (dsimp only; walk1) | (leave1; walk_say "STEP leave1"; (try dsimp only)))
  rename News _ _ _ _ => lN
  rename Fr _ _ _ _ => lF
  have hl6 : ys1.length = 6 := by simpa using hl1
  have hds6 : ds.length = 6 := by rw [← hds.length]; exact hl6
  with_unfolding_all (refine LCg.CompSrc.ledger (its := ys1.toArray) (by rfl) lF lN (List.mem_cons_self ..) (by rw [sizeLine_eq]; simp; omega) fun g => ?_)
  refine comp_ind (PaintJ _ ds) ys1 ?pturn ?pfin _ 0 [] _ (by simp) (paint_start hds)
  case pturn =>
    rintro v r ys3 news3 hJ I3 oI3 C3 oC3 D3 m3 h3 tk3 E3 hC3 hx3 F3 N3 off3 ne3
    have hJ2 := hJ
    refine el_3_6 (hJ) ?_
    clear hJ
    rintro cs3 dn3 rr3 e3 hr3 ey3 hc3 hm3 hb3
    cases hr3 with
    | cons d3 t3 hr3 =>
    iterate 9 (first | (k_unfold; (try dsimp only)) | (k_end; kc_close) | walk1 | (dsimp only; walk1) | (leave1; walk_say "STEP leave1"; (try dsimp only)))
    rename News _ _ _ _ => N9
    have l9 := (by assumption : ∀ p ∈ ((I3, oI3) :: (C3, oC3) :: (D3, lst ys3) :: news3 : Led), p.1 < _)
    exact ⟨_, _, _, rfl, by k_asm, new_swap3 N9, new_off3 off3 l9, .inr ⟨_, List.mem_cons_of_mem _ (hb3 _ (List.mem_cons_self ..)), rfl, _, rfl⟩, paint_next hJ2⟩
  rintro ys3 news3 hJz
  refine el_3_6 (hJz) ?_
  clear hJz
  rintro cs dn3 rr3 e3 hr3 ey3 hc3 hm3 hb3
  cases hr3
  rw [List.append_nil] at e3
  subst e3
  subst ey3
  have hcs6 : cs.length = 6 := by have := congrArg List.length hc3; simpa [hds6] using this
  intro D3 h3 tk3 F3 N3 off3
  dsimp only
  refine' cell_keep _ F3 N3 rfl (List.mem_cons_of_mem _ (hb3 _ (by repeat (first | exact List.mem_cons_self .. | refine List.mem_cons_of_mem _ ?_)))) ?hd (keep_colours lN hb3 N3 hm3 ?hd) fun h4 o4 F4 N4 d4 => ?_
  case hd => assumption
  have hcs63 : cs.length ≤ 63 := by omega
  iterate 12 (first | (k_unfold; (try dsimp only)) | (k_end; kc_close) | walk1 | (dsimp only; walk1) | (leave1; walk_say "STEP leave1"; (try dsimp only)))
  rename News _ _ _ _ => lN
  rename Fr _ _ _ _ => lF
  refine' cell_keep _ lF lN rfl (by repeat (first | exact List.mem_cons_self .. | refine List.mem_cons_of_mem _ ?_)) ?hd (keep_ring lN ?hd) fun h5 o5 F5 N5 d5 => ?_
  case hd => assumption
  clear lF lN
  iterate 7 (first | (k_unfold; (try dsimp only)) | (k_end; kc_close) | walk1 | (dsimp only; walk1) | (leave1; walk_say "STEP leave1"; (try dsimp only)))
  rename Fr _ _ _ _ => lF'
  with_unfolding_all (refine cp_eval lF' (by with_unfolding_all rfl) (by decide) (by rfl) (by decide) (by rfl) (by rfl) (by decide) (by decide) ?_)
  iterate 6 (first | (k_unfold; (try dsimp only)) | (k_end; kc_close) | walk1 | (dsimp only; walk1) | (leave1; walk_say "STEP leave1"; (try dsimp only)))
  rename Fr _ _ _ _ => lF
  with_unfolding_all (refine cps_enum (vs := ys1) (by rfl) lF N5 (by repeat (first | exact List.mem_cons_self .. | refine List.mem_cons_of_mem _ ?_)) (by rw [sizeLine_eq]; omega) fun I6 g6 l6 => ?_)
  refine cp_ind (DrawnJ _ ds.zipIdx) ?turn6 ?fin6 _ _ _ (drawn_start hds)
  case turn6 =>
    rintro p r ys6 news6 hJz
    refine el_3_6 (hJz) ?_
    clear hJz
    rintro dn6 rr6 es6 e6 hr6 ey6 hi6 hh6 hb6
    rintro t its oC C D m₂ h tk E' hits hoC ha hb F6 N6 off6 lt1 lt2
    cases rr6 with
    | nil => exact hr6.elim
    | cons q6 rr6 =>
    obtain ⟨⟨t6, e7⟩, hr6⟩ := hr6
    subst e7
    obtain ⟨oi1, oi2, e8⟩ := objs2 hits
    subst e8
    simp only [List.cons_append, List.nil_append] at N6
    dsimp only at ha hb
    dsimp only [CPTurn]
    iterate 10 (first | (k_unfold; (try dsimp only)) | (k_end; kc_close) | walk1 | (dsimp only; walk1) | (leave1; walk_say "STEP leave1"; (try dsimp only)))
    rename News _ _ _ _ => N9
    have l9 := (by assumption : @LT.lt Nat _ (I6 + 1) _ ∧ @LT.lt Nat _ I6 _ ∧ @LT.lt Nat _ C _ ∧ @LT.lt Nat _ D _ ∧ AllLt _ news6)
    exact ⟨_, _, _, rfl, by k_asm, new_swap5 N9, new_off5 off6 l9, fun p hp => by rw [List.mem_singleton.mp hp]; exact List.mem_cons_of_mem _ (hb6 _ (by repeat (first | exact List.mem_cons_self .. | refine List.mem_cons_of_mem _ ?_))), drawn_next e6 hr6 ey6 hi6 hh6 hb6⟩
  rintro ys6 news6 hJz
  refine el_3_6 (hJz) ?_
  clear hJz
  rintro dn6 rr6 es6 e6 hr6 ey6 hi6 hh6 hb6
  cases rr6 with
  | cons _ _ => exact hr6.elim
  | nil =>
  rw [List.append_nil] at e6
  subst e6
  subst ey6
  intro D6 h6 tk6 F6 N6 off6
  dsimp only
  have hP := ‹List.Perm _ (List.map _ cs.zipIdx)›
  have hPw := ‹List.Pairwise LexP _›
  have hRing := ‹IntsAre _ (rotL _ _)›
  have hl66 : (ds.zipIdx.map toneF).length = 6 := by simp [hds6]
  rw [cols_tones hc3] at hP
  refine el_1_3 (sort_pairs6 hP.symm hPw hl66) ?_
  rintro p6 hk6 hlt6 hm6
  iterate 1 (first | (k_unfold; (try dsimp only)) | (k_end; kc_close) | walk1 | (dsimp only; walk1) | (leave1; walk_say "STEP leave1"; (try dsimp only)))
  refine sorted_led F6 N6 (List.mem_cons_self ..) (fun e he => List.mem_cons_of_mem _ (hh6 e he)) hi6 (by omega) (by omega) (by rw [hl66]; exact hk6) (by rw [hl66]; exact hlt6) fun D7 c7 h7 F7 N7 l7 => ?_
  obtain ⟨hi7, hh7⟩ := sorted_pick hi6 hh6 hlt6 hl66 hm6
  revert hi7 hh7 N7
  generalize p6.toList.map (entAt es6) = es7
  intro N7 hi7 hh7
  have m5 := hb6 _ (List.mem_cons_self ..)
  have mq := hb6 _ (List.mem_cons_of_mem _ (List.mem_cons_self ..))
  have m4 := hb6 _ (List.mem_cons_of_mem _ (List.mem_cons_of_mem _ (List.mem_cons_self ..)))
  have mD3 := hb6 _ (List.mem_cons_of_mem _ (List.mem_cons_of_mem _ (List.mem_cons_of_mem _ (List.mem_cons_self ..))))
  have m3 := hb6 _ (List.mem_cons_of_mem _ (List.mem_cons_of_mem _ (List.mem_cons_of_mem _ (List.mem_cons_of_mem _ (List.mem_cons_self ..)))))
  have m2 := hb6 _ (List.mem_cons_of_mem _ (List.mem_cons_of_mem _ (List.mem_cons_of_mem _ (List.mem_cons_of_mem _ (List.mem_cons_of_mem _ (List.mem_cons_self ..))))))
  have mD1 := hb6 _ (List.mem_cons_of_mem _ (List.mem_cons_of_mem _ (List.mem_cons_of_mem _ (List.mem_cons_of_mem _ (List.mem_cons_of_mem _ (List.mem_cons_of_mem _ (List.mem_cons_self ..)))))))
  have hce : ∀ c ∈ cs, c.ent ∈ news6 := fun c hc => hb6 _ (by (repeat (first | exact ent_mem hc | refine List.mem_cons_of_mem _ ?_)))
  clear hb6
  dsimp only
  iterate 7 (first | (k_unfold; (try dsimp only)) | (k_end; kc_close) | walk1 | (dsimp only; walk1) | (leave1; walk_say "STEP leave1"; (try dsimp only)))
  have h64 : es7.length ≤ 64 := by have := hi7.length; have := hP.length_eq; omega
  rename News _ _ _ _ => lN
  rename Fr _ _ _ _ => lF'
  with_unfolding_all (refine cp_eval lF' (by with_unfolding_all rfl) (by decide) (by rfl) (by decide) (by rfl) (by rfl) (by decide) (by decide) ?_)
  iterate 1 (first | (k_unfold; (try dsimp only)) | (k_end; kc_close) | walk1 | (dsimp only; walk1) | (leave1; walk_say "STEP leave1"; (try dsimp only)))
  rename Fr _ _ _ _ => lF
  with_unfolding_all (refine cps_list (by rfl) lF lN (List.mem_cons_self ..) (fun e he => List.mem_cons_of_mem _ (List.mem_cons_of_mem _ (hh7 e he))) (by rw [sizeLine_eq]; omega) fun I8 g8 l8 => ?_)
  refine cp_ind (RotJ _ (fun x => decide (ds.sum.fmod 17 ≤ x)) _) ?turn8 ?fin8 _ _ _ (rot_start hi7)
  case turn8 =>
    rintro p r ys8 news8 hJz
    refine el_2_4 (hJz) ?_
    clear hJz
    rintro dn8 rr8 e8 hr8 hy8 en8
    rintro t its oC C D m₂ h tk E' hits hoC ha hb F8 N8 off8 lt1 lt2
    subst en8
    cases rr8 with
    | nil => exact hr8.elim
    | cons q8 rr8 =>
    obtain ⟨⟨t6, t7, e7⟩, hr8⟩ := hr8
    subst e7
    obtain ⟨oi1, e99⟩ := objs1 hits
    subst e99
    simp only [List.cons_append, List.nil_append] at N8
    dsimp only at ha hb
    dsimp only [CPTurn]
    iterate 6 walk1
    · iterate 1 walk1
      exact ⟨_, _, _, rfl, by k_asm, N8, off8, fun p hp => by
        rcases List.mem_cons.mp hp with rfl | hp
        · (repeat (first | exact List.mem_cons_self .. | refine List.mem_cons_of_mem _ ?_))
        · obtain ⟨e, he, rfl⟩ := List.mem_map.mp hp
          (repeat (first | exact hh7 e he | refine List.mem_cons_of_mem _ ?_)), rot_yes e8 hr8 hy8 (decide_eq_true (by assumption))⟩
    · exact ⟨_, _, _, rfl, by k_asm, N8, off8, fun p hp => by
        rcases List.mem_cons.mp hp with rfl | hp
        · (repeat (first | exact List.mem_cons_self .. | refine List.mem_cons_of_mem _ ?_))
        · obtain ⟨e, he, rfl⟩ := List.mem_map.mp hp
          (repeat (first | exact hh7 e he | refine List.mem_cons_of_mem _ ?_)), rot_no e8 hr8 hy8 (decide_eq_false (by assumption))⟩
  rintro ys8 news8 hJz
  refine el_2_4 (hJz) ?_
  clear hJz
  rintro dn8 rr8 e8 hr8 hy8 en8
  cases rr8 with
  | cons _ _ => exact hr8.elim
  | nil =>
  subst en8
  rw [List.append_nil] at e8
  intro D8 h8 tk8 F8 N8 off8
  subst e8
  dsimp only
  rename News _ _ _ _ => lN
  rename Fr _ _ _ _ => lF'
  with_unfolding_all (refine cp_eval lF' (by with_unfolding_all rfl) (by decide) (by rfl) (by decide) (by rfl) (by rfl) (by decide) (by decide) ?_)
  iterate 1 (first | (k_unfold; (try dsimp only)) | (k_end; kc_close) | walk1 | (dsimp only; walk1) | (leave1; walk_say "STEP leave1"; (try dsimp only)))
  rename Fr _ _ _ _ => lF
  with_unfolding_all (refine cps_list (by rfl) lF lN (List.mem_cons_of_mem _ (List.mem_cons_self ..)) (fun e he => List.mem_cons_of_mem _ (List.mem_cons_of_mem _ (List.mem_cons_of_mem _ (hh7 e he)))) (by rw [sizeLine_eq]; omega) fun I9 g9 l9 => ?_)
  refine cp_ind (RotJ _ (fun x => decide (x < ds.sum.fmod 17)) _) ?turn9 ?fin9 _ _ _ (rot_start hi7)
  case turn9 =>
    rintro p r ys9 news9 hJz
    refine el_2_4 (hJz) ?_
    clear hJz
    rintro dn9 rr9 e9 hr9 hy9 en9
    rintro t its oC C D m₂ h tk E' hits hoC ha hb F9 N9 off9 lt1 lt2
    subst en9
    cases rr9 with
    | nil => exact hr9.elim
    | cons q9 rr9 =>
    obtain ⟨⟨t6, t7, e7⟩, hr9⟩ := hr9
    subst e7
    obtain ⟨oi1, e99⟩ := objs1 hits
    subst e99
    simp only [List.cons_append, List.nil_append] at N9
    dsimp only at ha hb
    dsimp only [CPTurn]
    iterate 6 walk1
    · iterate 1 walk1
      exact ⟨_, _, _, rfl, by k_asm, N9, off9, fun p hp => by
        rcases List.mem_cons.mp hp with rfl | hp
        · (repeat (first | exact List.mem_cons_self .. | refine List.mem_cons_of_mem _ ?_))
        · obtain ⟨e, he, rfl⟩ := List.mem_map.mp hp
          (repeat (first | exact hh7 e he | refine List.mem_cons_of_mem _ ?_)), rot_yes e9 hr9 hy9 (decide_eq_true (by assumption))⟩
    · exact ⟨_, _, _, rfl, by k_asm, N9, off9, fun p hp => by
        rcases List.mem_cons.mp hp with rfl | hp
        · (repeat (first | exact List.mem_cons_self .. | refine List.mem_cons_of_mem _ ?_))
        · obtain ⟨e, he, rfl⟩ := List.mem_map.mp hp
          (repeat (first | exact hh7 e he | refine List.mem_cons_of_mem _ ?_)), rot_no e9 hr9 hy9 (decide_eq_false (by assumption))⟩
  rintro ys9 news9 hJz
  refine el_2_4 (hJz) ?_
  clear hJz
  rintro dn9 rr9 e9 hr9 hy9 en9
  cases rr9 with
  | cons _ _ => exact hr9.elim
  | nil =>
  subst en9
  rw [List.append_nil] at e9
  intro D9 h9 tk9 F9 N9 off9
  subst e9
  dsimp only
  have hs8 := rot_len hy8 (by have := hP.length_eq; omega)
  have hs9 := rot_len hy9 (by have := hP.length_eq; omega)
  iterate 7 (first | (k_unfold; (try dsimp only)) | (k_end; kc_close) | walk1 | (dsimp only; walk1) | (leave1; walk_say "STEP leave1"; (try dsimp only)))
  rename News _ _ _ _ => lN8
  rename Fr _ _ _ _ => lF'
  have lN : News _ _ _ ((D7, listOf (refs es7).toArray c7) :: news6) := fun p hp => lN8 p (by rcases List.mem_cons.mp hp with h | h <;> simp [h])
  clear lN8
  with_unfolding_all (refine cc_assignL lF' (by rfl) (by with_unfolding_all rfl) (by with_unfolding_all rfl) (fun _ => by rfl) (fun _ => by rfl) (by rfl) (by decide) (by rfl) (by rfl) (by rfl) (by rfl) ?_)
  iterate 6 (first | (k_unfold; (try dsimp only)) | (k_end; kc_close) | walk1 | (dsimp only; walk1) | (leave1; walk_say "STEP leave1"; (try dsimp only)))
  rename Fr _ _ _ _ => lF
  have hl7 := rot_len6 (mk := ds.sum.fmod 17) hP hl66
  have hin := ring_in (mk := ds.sum.fmod 17) hP hds6
  have hrl := hRing.length
  have hrl64 : _ ≤ 64 := Nat.le_trans (Nat.le_of_eq (hrl.trans hl7)) (by omega)
  with_unfolding_all (refine ccs_enum (by rfl) lF lN (List.mem_cons_of_mem _ mq) (by rw [sizeLine_eq]; omega) fun I6 g6 l6 => ?_)
  refine cc_ind (FarJ _ cs (rotL (ds.sum.fmod 17) _)) ?turnA ?finA _ _ _ (far_start hRing)
  case turnA =>
    rintro p r ysA newsA hJz
    refine el_2_4 (hJz) ?_
    clear hJz
    rintro dnA rrA eA hrA hyA hbA
    rintro t its oC C oB Cb D m₂ h tk E' hits hoC ha hB FA NA offA lt1 lt2 lt3
    cases rrA with
    | nil => exact hrA.elim
    | cons qA rrA =>
    obtain ⟨⟨tA, e7⟩, hrA⟩ := hrA
    subst e7
    obtain ⟨oi1, oi2, e8⟩ := objs2 hits
    subst e8
    simp only [List.cons_append, List.nil_append] at NA
    dsimp only at ha hB
    have hzA := zip_at eA
    have hk : 0 ≤ (qA.2 : Int) ∧ (qA.2 : Int) ≤ (_ : List Value).length := ⟨by omega, by rw [hrl]; omega⟩
    have m5A := hbA _ (List.mem_cons_of_mem _ m5)
    have m4A := hbA _ (List.mem_cons_of_mem _ m4)
    have mqA := hbA _ (List.mem_cons_of_mem _ mq)
    have mD3A := hbA _ (List.mem_cons_of_mem _ mD3)
    with_unfolding_all (refine LCg.ListComp_U (F₀ := by k_asm) (by with_unfolding_all rfl) (by decide) (by rfl) (by decide) (by rfl) ?_)
    iterate 8 (first | (k_unfold; (try dsimp only)) | (k_end; kc_close) | walk1 | (dsimp only; walk1) | (leave1; walk_say "STEP leave1"; (try dsimp only)))
    rename News _ _ _ _ => NB
    rename Fr _ _ _ _ => FB
    have hceA : ∀ c ∈ cs, c.ent ∈ newsA := fun c hc => hbA _ (List.mem_cons_of_mem _ (hce c hc))
    have hok := cols_ok hc3
    refine el_0_5 (col_facts hcs6 (hin _ hzA.2) hok hceA) ?_
    rintro go mo o1' o2' o3'
    with_unfolding_all (refine LCg.CompSrc.ledger (its := (_ : List Value).toArray) (by rfl) FB NB (List.mem_cons_self ..) (by rw [sizeLine_eq]; simp; omega) fun g => ?_)
    refine comp_ind (FarIn _ cs qA.1 ((rotL (ds.sum.fmod 17) _).take qA.2)) _ ?turnB ?finB _ 0 [] _ (by simp) (farIn_start (ints_take hRing qA.2))
    case turnB =>
      rintro v r3 ysB newsB hJz
      refine el_2_4 (hJz) ?_
      clear hJz
      rintro dnB rrB eB hrB hyB enB
      rintro I3 oI3 C3 oC3 D3' m3' h3 tk3 E3 hC3 hx3 F3 N3 off3 ne3
      subst enB
      cases hrB with
      | cons iB tB hrB =>
      have hiB := hin iB (List.mem_of_mem_take (by rw [eB]; simp))
      refine el_0_5 (col_facts hcs6 hiB hok hceA) ?_
      rintro gi mi i1' i2' i3'
      have hzi := hin _ hzA.2
      iterate 17 (first | (k_unfold; (try dsimp only)) | (k_end; kc_close) | walk1 | (dsimp only; walk1) | (leave1; walk_say "STEP leave1"; (try dsimp only)))
      rename News _ _ _ _ => N9
      exact ⟨_, _, _, rfl, by k_asm, N9, off3, .inr ⟨_, List.mem_cons_self .., rfl, _, rfl⟩, farIn_next eB hrB hyB⟩
    rintro ysB newsB hJz
    refine el_2_4 (hJz) ?_
    clear hJz
    rintro dnB rrB eB hrB hyB enB
    subst enB
    cases hrB
    rw [List.append_nil] at eB
    subst eB
    intro DB hB2 tkB FB2 NB2 offB
    dsimp only
    exact ⟨_, _, _, rfl, FB2, far_swap NB2, far_off offA offB, fun p hp => by rw [List.mem_singleton.mp hp]; exact List.mem_cons_of_mem _ mqA, far_next eA hrA hyA hbA hyB⟩
  rintro ysA newsA hJz
  refine el_2_4 (hJz) ?_
  clear hJz
  rintro dnA rrA eA hrA hyA hbA
  cases rrA with
  | cons _ _ => exact hrA.elim
  | nil =>
  rw [List.append_nil] at eA
  subst eA
  intro DA hA tkA FA NA offA
  dsimp only
  iterate 21 (first | (k_unfold; (try dsimp only)) | (k_end; kc_close) | walk1 | (dsimp only; walk1) | (leave1; walk_say "STEP leave1"; (try dsimp only)))
  rename Fr _ _ _ _ => lF'
  with_unfolding_all (refine' For_turns lF' ?_)
  iterate 22 (first | (k_unfold; (try dsimp only)) | (k_end; kc_close) | walk1 | (dsimp only; walk1) | (leave1; walk_say "STEP leave1"; (try dsimp only)))
  obtain ⟨g, hg⟩ := far_g hyA
  have hgb := far_b hg hcs6 hl7 (cols_ok hc3) hin
  rename News _ _ _ _ => lN
  rename Fr _ _ _ _ => lF'
  have hq := (by assumption : (_, listOf (_ : List Value).toArray _) ∈ (_ : Led))
  have hW := ways_lo ‹WaysAre _ _ _ (pairF 6 _)›
  have lMt := (by assumption : @LT.lt Nat _ DA _ ∧ AllLt _ newsA)
  have hsub := (by assumption : ∀ p ∈ ((_, _) :: (_, _) :: (_, _) :: (DA, lst ysA) :: newsA : Led), p ∈ _)
  have hMt0 := hsub _ (List.mem_cons_of_mem _ (List.mem_cons_of_mem _ (List.mem_cons_self ..)))
  have hqM := met_ne lN hq hMt0 hW
  have hbA := base_in hq hsub
  have hbM := base_ne (o := lst ysA) hq hqM lMt
  with_unfolding_all (refine iter_listTurns (by rfl) lF' lN hq rfl rfl ?_)
  clear lF'
  intro I' l1'
  have hoff0 : ∀ p ∈ (_ : Led), p.1 ≠ I' := fun p hp => Nat.ne_of_lt (l1' p hp)
  with_unfolding_all (refine rest_ind (fun v => Itm.val v) (toldPs _) [Str.ofString "pairs", Str.ofString "crossed", Str.ofString "within", Str.ofString "weight", Str.ofString "one", Str.ofString "other"] _ (TJ _ I' g _) ?turnT ?doneT _ _ _ (told_start lN hMt0 hW hbA (by rfl) (by rfl) hoff0))
  case turnT =>
    rintro ⟨tv, tt⟩ v rem u news1 v' h tk hJz
    refine el_4_9 (hJz) ?_
    clear hJz
    rintro dn rr es n edn hwa hne ec hMt hes hhas hbase hoff
    rintro hv F1
    replace hv : v' = v := hv
    subst hv
    cases rr with
    | nil => exact hwa.elim
    | cons W rr =>
    obtain ⟨⟨a, ew, nw, eW, _, hmW, hhW, hiW⟩, hwa⟩ := hwa
    subst eW
    obtain ⟨⟨lW, hgo⟩, h3, hpW⟩ := way_at edn
    refine AllObj.cons fun oI hcI => AllObj.nil fun N1 => ?_
    have N2 : News _ _ _ ((I', oI) :: news1) := N1
    clear N1
    have N3 : ∃ h, News _ _ h news1 := ⟨_, fun p hp => N2 p (List.mem_cons_of_mem _ hp)⟩
    have hhW2 : Has ((I', oI) :: news1) ew := fun e he => List.mem_cons_of_mem _ (hhW e he)
    dsimp only at F1 ec ⊢
    iterate 27 (first | (k_unfold; (try dsimp only)) | (k_end; kc_close) | walk1 | (dsimp only; walk1) | (leave1; walk_say "STEP leave1"; (try dsimp only)))
    rename News _ _ _ _ => lN
    rename Fr _ _ _ _ => lF'
    have hs2 := (by assumption : ∀ p ∈ ((I', oI) :: news1 : Led), p ∈ _)
    have htup := (by assumption : (_, tup2 (.int (metF W).1 _) (.int (metF W).2 _) _) ∈ (_ : Led))
    clear N2
    with_unfolding_all (refine' For_turns lF' ?_)
    iterate 1 (first | (k_unfold; (try dsimp only)) | (k_end; kc_close) | walk1 | (dsimp only; walk1) | (leave1; walk_say "STEP leave1"; (try dsimp only)))
    have hmW2 := hs2 _ (List.mem_cons_of_mem _ hmW)
    have hhW3 : Has _ ew := fun e he => hs2 _ (List.mem_cons_of_mem _ (hhW e he))
    with_unfolding_all (refine iter_listTurns (by rfl) lF' lN hmW2 rfl rfl ?_)
    clear lF'
    intro I2 l2'
    have hoff2 : ∀ p ∈ (_ : Led), p.1 ≠ I2 := fun p hp => Nat.ne_of_lt (l2' p hp)
    with_unfolding_all (refine rest_ind (fun v => Itm.val v) (fun c : Int × Tok => [(Str.ofString "weight", Value.int c.1 c.2)]) [Str.ofString "one", Str.ofString "other"] _ (WJ W g _) ?turnW ?doneW _ _ _ (wj_start hiW hhW3 (by rfl)))
    case turnW =>
      rintro ⟨wv, wt⟩ v rem2 u2 news2 v2 h2 tk2 hJz
      refine el_3_6 (hJz) ?_
      clear hJz
      rintro dn2 rr2 er eW2 erem hier hher ewv en2
      rintro hv2 F2
      subst en2
      replace hv2 : v2 = v := hv2
      subst hv2
      refine el_7_7 (refs_cons erem hier) ?_
      rintro e er' x y pr' t1 t2 e1 e2 e3 e4 e5 e6 her'
      subst e1
      subst e2
      subst e3
      subst e4
      dsimp only at ewv
      subst ewv
      have hem := hher e (List.mem_cons_self ..)
      refine AllObj.cons fun oI2 hcI2 => AllObj.nil fun N4 => ?_
      have N5 : News _ _ _ ((I2, oI2) :: news2) := N4
      clear N4
      have hT : IsTup h2 e.a #[.int x t1, .int y t2] := ⟨_, (N5 _ (List.mem_cons_of_mem _ hem)).1, rfl, e.n, by show Data.seq [e.p, e.q].toArray e.n = _; rw [e5, e6]⟩
      obtain ⟨q0, q1, q2⟩ := hpW (x, y) (by rw [eW2]; simp)
      refine el_0_4 (weight_in hgb eW2 h3 hpW) ?_
      rintro wl wh _ _
      refine el_4_6 (far_at hg hyA hl7 (fun p hp => hs2 p (List.mem_cons_of_mem _ (hbase p (List.mem_cons_of_mem _ (List.mem_cons_of_mem _ hp))))) q0 q1 q2) ?_
      rintro af xf nf tf ef1 ef2 ef3 ef4 ef5 ef6
      have hDA2 := hs2 _ (List.mem_cons_of_mem _ (hbase _ (List.mem_cons_of_mem _ (List.mem_cons_self ..))))
      dsimp only at F2 q0 q1 q2 ef1 ef5 ef6 ⊢
      iterate 23 (first | (k_unfold; (try dsimp only)) | (k_end; kc_close) | walk1 | (dsimp only; walk1) | (leave1; walk_say "STEP leave1"; (try dsimp only)))
      rename News _ _ _ _ => N6
      refine item_intsL N6 (List.mem_cons_of_mem _ ef2) ef3 ef4 q0 ef5 fun tkX => ?_
      rw [ef6]
      iterate 7 (first | (k_unfold; (try dsimp only)) | (k_end; kc_close) | walk1 | (dsimp only; walk1) | (leave1; walk_say "STEP leave1"; (try dsimp only)))
      rename News _ _ _ _ => N9
      rename Fr _ _ _ _ => F9
      refine wj_end F9 N9 hoff2 hmW2 eW2 her' hher (by rfl) ?_
      intro z' hz1 hz'
      have q0 : z' ≠ Str.ofString "one" := by intro e; subst e; exact absurd hz' (by decide)
      have q1 : z' ≠ Str.ofString "other" := by intro e; subst e; exact absurd hz' (by decide)
      simp only [kstB, hz', hz1, q0, q1, Bool.false_eq_true, if_false]
    rintro ⟨wv, wt⟩ u2 news2 h2 tk2 hJz
    refine el_3_6 (hJz) ?_
    clear hJz
    rintro dn2 rr2 er eW2 erem hier hher ewv en2
    rintro F2 N2
    subst en2
    have her0 : er = [] := by
      cases er with
      | nil => rfl
      | cons _ _ => exact nomatch erem
    subst her0
    have hpr : rr2 = [] := by
      cases rr2 with
      | nil => rfl
      | cons _ _ => exact hier.elim
    subst hpr
    rw [List.append_nil] at eW2
    subst eW2
    dsimp only at ewv F2 ⊢
    subst ewv
    have hMt2 := hs2 _ (List.mem_cons_of_mem _ hMt)
    have hes64 : (refs es).length ≤ 64 := by
      have e1 := hes.length
      have e2 := congrArg List.length edn
      rw [ways_len15] at e2
      simp at e1 e2 ⊢
      omega
    repeat' (first | (k_unfold; (try dsimp only)) | (k_end; kc_close) | walk1 | (dsimp only; walk1) | (leave1; walk_say "STEP leave1"; (try dsimp only)))
    · rename Turned _ _ _ _ => P9
      rename News _ _ _ _ => N9
      rename Fr _ _ _ _ => F9
      have l9 := (by assumption : ∀ p ∈ news2, p.1 < _)
      refine told_end edn hwa (fun z hz => hne z (List.mem_cons_of_mem _ hz)) (told_yes (by assumption)) hMt hes hhas hbase hbM hoff N3 F9 N9 P9 (fun p hp => List.mem_cons_of_mem _ (hs2 p hp)) (List.mem_cons_self ..) (Ne.symm (Nat.ne_of_lt (l9 _ hMt2))) (Ne.symm (Nat.ne_of_lt (l9 _ (hs2 _ (List.mem_cons_self ..))))) (by rw [← ec]; rfl) (by rfl) ?_ (List.mem_cons_self ..)
      intro z' hz1 hz2 hz'
      have q1 := contains_head hz'
      have q2 := contains_head (contains_tail hz')
      have q3 := contains_head (contains_tail (contains_tail hz'))
      have q4 := contains_head (contains_tail (contains_tail (contains_tail hz')))
      have q5 := contains_tail (contains_tail (contains_tail (contains_tail hz')))
      simp only [kstB, hz', hz1, hz2, q1, q2, q3, q4, q5, Bool.false_eq_true, if_false]
    · rename Turned _ _ _ _ => P9
      rename News _ _ _ _ => N9
      rename Fr _ _ _ _ => F9
      have l9 := (by assumption : ∀ p ∈ news2, p.1 < _)
      refine told_end edn hwa (fun z hz => hne z (List.mem_cons_of_mem _ hz)) (told_no (by assumption)) hMt hes hhas hbase hbM hoff N3 F9 N9 P9 (fun p hp => List.mem_cons_of_mem _ (hs2 p hp)) (List.mem_cons_self ..) (Ne.symm (Nat.ne_of_lt (l9 _ hMt2))) (Ne.symm (Nat.ne_of_lt (l9 _ (hs2 _ (List.mem_cons_self ..))))) (by rw [← ec]; rfl) (by rfl) ?_ (List.mem_cons_self ..)
      intro z' hz1 hz2 hz'
      have q1 := contains_head hz'
      have q2 := contains_head (contains_tail hz')
      have q3 := contains_head (contains_tail (contains_tail hz'))
      have q4 := contains_head (contains_tail (contains_tail (contains_tail hz')))
      have q5 := contains_tail (contains_tail (contains_tail (contains_tail hz')))
      simp only [kstB, hz', hz1, hz2, q1, q2, q3, q4, q5, Bool.false_eq_true, if_false]
  rintro ⟨tv, tt⟩ u news1 h tk hJz
  refine el_4_9 (hJz) ?_
  clear hJz
  rintro dn rr es n edn hwa hne ec hMt hes hhas hbase hoff
  rintro F1 N1
  cases rr with
  | cons _ _ => exact hwa.elim
  | nil =>
  rw [List.append_nil] at edn
  subst edn
  dsimp only at F1 ec ⊢
  have htold := told_in hgb ec
  have hes15 : es.length = 15 := by rw [hes.length, List.length_map, ways_len15]
  replace hes : EntIs es M15 := hes
  iterate 7 (first | (k_unfold; (try dsimp only)) | (k_end; kc_close) | walk1 | (dsimp only; walk1) | (leave1; walk_say "STEP leave1"; (try dsimp only)))
  rename News _ _ _ _ => lN
  rename Fr _ _ _ _ => lF'
  with_unfolding_all (refine cp_eval lF' (by with_unfolding_all rfl) (by decide) (by rfl) (by decide) (by rfl) (by rfl) (by decide) (by decide) ?_)
  iterate 1 (first | (k_unfold; (try dsimp only)) | (k_end; kc_close) | walk1 | (dsimp only; walk1) | (leave1; walk_say "STEP leave1"; (try dsimp only)))
  rename Fr _ _ _ _ => lF
  with_unfolding_all (refine cps_list (by rfl) lF lN hMt hhas (by rw [sizeLine_eq]; omega) fun I8 g8 l8 => ?_)
  refine cp_ind (FstJ _ M15) ?turnF ?finF _ _ _ (fst_start hes)
  case turnF =>
    rintro p r ysF newsF hJz
    refine el_2_4 (hJz) ?_
    clear hJz
    rintro dnF rrF eF hrF hyF enF
    rintro t its oC C D m₂ h tk E' hits hoC ha hb FF NF offF lt1 lt2
    subst enF
    cases rrF with
    | nil => exact hrF.elim
    | cons qF rrF =>
    obtain ⟨⟨t6, t7, e7⟩, hrF⟩ := hrF
    subst e7
    obtain ⟨oi1, e99⟩ := objs1 hits
    subst e99
    simp only [List.cons_append, List.nil_append] at NF
    dsimp only at ha hb
    dsimp only [CPTurn]
    iterate 1 (first | (k_unfold; (try dsimp only)) | (k_end; kc_close) | walk1 | (dsimp only; walk1) | (leave1; walk_say "STEP leave1"; (try dsimp only)))
    exact ⟨_, _, _, rfl, by k_asm, NF, offF, fun p hp => by
        rcases List.mem_cons.mp hp with rfl | hp
        · exact hMt
        · obtain ⟨e, he, rfl⟩ := List.mem_map.mp hp
          exact hhas e he, fst_next eF hrF hyF⟩
  rintro ysF newsF hJz
  refine el_2_4 (hJz) ?_
  clear hJz
  rintro dnF rrF eF hrF hyF enF
  cases rrF with
  | cons _ _ => exact hrF.elim
  | nil =>
  subst enF
  rw [List.append_nil] at eF
  subst eF
  intro DF hF tkF FF NF offF
  dsimp only
  iterate 1 (first | (k_unfold; (try dsimp only)) | (k_end; kc_close) | walk1 | (dsimp only; walk1) | (leave1; walk_say "STEP leave1"; (try dsimp only)))
  refine sorted_ints_led FF NF (List.mem_cons_self ..) hyF (by rw [List.length_map, m15_len]; omega) fun DG vsG nsG cG hG FG NG lG iG pG sG => ?_
  iterate 35 (first | (k_unfold; (try dsimp only)) | (k_end; kc_close) | walk1 | (dsimp only; walk1) | (leave1; walk_say "STEP leave1"; (try dsimp only)))
  rename News _ _ _ _ => lN2
  refine ne_e15 lN2 (by repeat (first | exact List.mem_cons_self .. | refine List.mem_cons_of_mem _ ?_)) (List.mem_cons_self ..) iG ?hj pG sG (by ke_room) ?_
  case hj => exact .cons _ _ (.cons _ _ (.cons _ _ (.cons _ _ (.cons _ _ (.cons _ _ (.cons _ _ (.cons _ _ (.cons _ _ (.cons _ _ (.cons _ _ (.cons _ _ (.cons _ _ (.cons _ _ (.cons _ _ (.nil)))))))))))))))
  have lN3 : News _ _ _ newsF := fun p hp => lN2 p (by repeat (first | exact hp | refine List.mem_cons_of_mem _ ?_))
  clear lN2
  iterate 13 (first | (k_unfold; (try dsimp only)) | (k_end; kc_close) | walk1 | (dsimp only; walk1) | (leave1; walk_say "STEP leave1"; (try dsimp only)))
  rename News _ _ _ _ => lN4
  rename Fr _ _ _ _ => lF4
  refine el_1_3 (sort15_run s15_a m15_len) ?_
  rintro pH rH hH mH
  obtain ⟨iH, hhH⟩ := sorted_pick15 hes hhas hH mH
  refine sorted_led lF4 lN4 hMt hhas hes (by rw [m15_len]; omega) (by rw [m15_len]; omega) rH hH fun DH cH gH FH NH lH => ?_
  revert iH hhH NH
  generalize pH.toList.map (entAt es) = esH
  intro iH hhH NH
  dsimp only
  iterate 4 (first | (k_unfold; (try dsimp only)) | (k_end; kc_close) | walk1 | (dsimp only; walk1) | (leave1; walk_say "STEP leave1"; (try dsimp only)))
  rename News _ _ _ _ => lN
  rename Fr _ _ _ _ => lF'
  with_unfolding_all (refine cp_eval lF' (by with_unfolding_all rfl) (by decide) (by rfl) (by decide) (by rfl) (by rfl) (by decide) (by decide) ?_)
  iterate 1 (first | (k_unfold; (try dsimp only)) | (k_end; kc_close) | walk1 | (dsimp only; walk1) | (leave1; walk_say "STEP leave1"; (try dsimp only)))
  rename Fr _ _ _ _ => lF
  with_unfolding_all (refine cps_list (by rfl) lF lN (List.mem_cons_of_mem _ hMt) (fun e he => List.mem_cons_of_mem _ (hhas e he)) (by rw [sizeLine_eq]; omega) fun I8 g8 l8 => ?_)
  refine cp_ind (SwapJ _ M15) ?turnK ?finK _ _ _ (swap_start hes)
  case turnK =>
    rintro p r ysK newsK hJz
    refine el_3_6 (hJz) ?_
    clear hJz
    rintro dnK rrK esK eK hrK eyK hiK hhK hbK
    rintro t its oC C D m₂ h tk E' hits hoC ha hb FK NK offK lt1 lt2
    cases rrK with
    | nil => exact hrK.elim
    | cons qK rrK =>
    obtain ⟨⟨t6, t7, e7⟩, hrK⟩ := hrK
    subst e7
    obtain ⟨oi1, e99⟩ := objs1 hits
    subst e99
    simp only [List.cons_append, List.nil_append] at NK
    dsimp only at ha hb
    dsimp only [CPTurn]
    iterate 7 (first | (k_unfold; (try dsimp only)) | (k_end; kc_close) | walk1 | (dsimp only; walk1) | (leave1; walk_say "STEP leave1"; (try dsimp only)))
    rename News _ _ _ _ => N9
    have l9 := (by assumption : @LT.lt Nat _ I8 _ ∧ @LT.lt Nat _ C _ ∧ @LT.lt Nat _ D _ ∧ AllLt _ newsK)
    exact ⟨_, _, _, rfl, by k_asm, new_swap4 N9, new_off4 offK l9, fun p hp => by
        rcases List.mem_cons.mp hp with rfl | hp
        · exact List.mem_cons_of_mem _ (hbK _ (List.mem_cons_of_mem _ hMt))
        · obtain ⟨e, he, rfl⟩ := List.mem_map.mp hp
          exact List.mem_cons_of_mem _ (hbK _ (List.mem_cons_of_mem _ (hhas e he))), swap_next eK hrK eyK hiK hhK hbK⟩
  rintro ysK newsK hJz
  refine el_3_6 (hJz) ?_
  clear hJz
  rintro dnK rrK esK eK hrK eyK hiK hhK hbK
  cases rrK with
  | cons _ _ => exact hrK.elim
  | nil =>
  rw [List.append_nil] at eK
  subst eK
  subst eyK
  intro DK hK tkK FK NK offK
  dsimp only
  iterate 1 (first | (k_unfold; (try dsimp only)) | (k_end; kc_close) | walk1 | (dsimp only; walk1) | (leave1; walk_say "STEP leave1"; (try dsimp only)))
  refine el_1_3 (sort15_run s15_b (by rw [List.length_map, m15_len])) ?_
  rintro pJ rJ hJ mJ
  obtain ⟨iJ, hhJ⟩ := sorted_pick15 hiK (fun e he => List.mem_cons_of_mem _ (hhK e he)) hJ mJ
  refine sorted_led FK NK (List.mem_cons_self ..) (fun e he => List.mem_cons_of_mem _ (hhK e he)) hiK (by rw [List.length_map, m15_len]; omega) (by rw [List.length_map, m15_len]; omega) rJ hJ fun DJ cJ gJ FJ NJ lJ => ?_
  revert iJ hhJ NJ
  generalize pJ.toList.map (entAt esK) = esJ
  intro iJ hhJ NJ
  dsimp only
  skip
  rename News _ _ _ _ => lN5
  refine ne_s15 lN5 (List.mem_cons_of_mem _ (List.mem_cons_of_mem _ (hbK _ (List.mem_cons_self ..)))) (List.mem_cons_self ..) (fun e he => List.mem_cons_of_mem _ (List.mem_cons_of_mem _ (hbK _ (List.mem_cons_of_mem _ (hhH e he))))) (fun e he => List.mem_cons_of_mem _ (hhJ e he)) iH iJ (by ke_room) ?_
  have lN6 : News _ _ _ newsF := fun p hp => lN5 p (List.mem_cons_of_mem _ (List.mem_cons_of_mem _ (hbK p (List.mem_cons_of_mem _ hp))))
  clear lN5
  have ht0 := htold.1
  have ht1 := htold.2
  iterate 18 (first | (k_unfold; (try dsimp only)) | (k_end; kc_close) | walk1 | (dsimp only; walk1) | (leave1; walk_say "STEP leave1"; (try dsimp only)))
  have hbA2 := (by assumption : ∀ p ∈ ((D7, listOf (refs es7).toArray c7) :: news6 : Led), p ∈ newsA)
  have hbF : ∀ p ∈ ((D7, listOf (refs es7).toArray c7) :: news6 : Led), p ∈ newsF := fun p hp => hbase p (List.mem_cons_of_mem _ (List.mem_cons_of_mem _ (hbA2 p hp)))
  have m2F := hbF _ (List.mem_cons_of_mem _ m2)
  have mD1F := hbF _ (List.mem_cons_of_mem _ mD1)
  rename News _ _ _ _ => lN
  rename Fr _ _ _ _ => lF'
  with_unfolding_all (refine cp_eval lF' (by with_unfolding_all rfl) (by decide) (by rfl) (by decide) (by rfl) (by rfl) (by decide) (by decide) ?_)
  iterate 1 (first | (k_unfold; (try dsimp only)) | (k_end; kc_close) | walk1 | (dsimp only; walk1) | (leave1; walk_say "STEP leave1"; (try dsimp only)))
  rename Fr _ _ _ _ => lF
  with_unfolding_all (refine cps_list (by rfl) lF lN (hbF _ (List.mem_cons_self ..)) (fun e he => hbF _ (List.mem_cons_of_mem _ (hh7 e he))) (by rw [sizeLine_eq]; omega) fun I8 g8 l8 => ?_)
  refine cp_ind (PartsJ _ ds _) ?turnP ?finP _ _ _ (parts_start hi7)
  case turnP =>
    rintro p r ysP newsP hJz
    refine el_3_6 (hJz) ?_
    clear hJz
    rintro dnP rrP psP eP hrP eyP hpP hmP hbP
    rintro t its oC C D m₂ h tk E' hits hoC ha hb FP NP offP lt1 lt2
    cases rrP with
    | nil => exact hrP.elim
    | cons qP rrP =>
    obtain ⟨⟨t6, t7, e7⟩, hrP⟩ := hrP
    subst e7
    obtain ⟨oi1, e99⟩ := objs1 hits
    subst e99
    simp only [List.cons_append, List.nil_append] at NP
    dsimp only at ha hb
    have m2P := hbP _ m2F
    have mD1P := hbP _ mD1F
    obtain ⟨q0, q1⟩ := row_in hP hds6 eP
    obtain ⟨tq, hget⟩ := ints_at hds (k := qP.2.toNat) (by omega)
    dsimp only [CPTurn]
    iterate 12 (first | (k_unfold; (try dsimp only)) | (k_end; kc_close) | walk1 | (dsimp only; walk1) | (leave1; walk_say "STEP leave1"; (try dsimp only)))
    rename News _ _ _ _ => N9
    have l9 := new_lt4 (by assumption : ∀ p ∈ ((I8, oi1) :: (C, oC) :: (D, lst ysP) :: newsP : Led), p.1 < _)
    exact ⟨_, _, _, rfl, by k_asm, new_swap4 N9, new_off4 offP l9, fun p hp => by
        rcases List.mem_cons.mp hp with rfl | hp
        · exact List.mem_cons_of_mem _ (hbP _ (hbF _ (List.mem_cons_self ..)))
        · obtain ⟨e, he, rfl⟩ := List.mem_map.mp hp
          exact List.mem_cons_of_mem _ (hbP _ (hbF _ (List.mem_cons_of_mem _ (hh7 e he)))), parts_next eP hrP eyP hpP hmP hbP (by assumption) (by assumption) (by assumption)⟩
  rintro ysP newsP hJz
  refine el_3_6 (hJz) ?_
  clear hJz
  rintro dnP rrP psP eP hrP eyP hpP hmP hbP
  cases rrP with
  | cons _ _ => exact hrP.elim
  | nil =>
  rw [List.append_nil] at eP
  subst eP
  subst eyP
  intro DP hPh tkP FP NP offP
  dsimp only
  have hps6 : psP.length = 6 := by
    have e1 := congrArg List.length hpP
    have e2 := hP.length_eq
    simp only [List.length_map] at e1
    rw [e1, e2, hl66]
  have hps63 : psP.length ≤ 63 := by omega
  have hpm : ∀ p ∈ psP, (p.ad, p.obj) ∈ ((DP, lst (prefs psP)) :: newsP : Led) := fun p hp => List.mem_cons_of_mem _ (hmP p hp)
  obtain ⟨tb1, tb2, tb3⟩ := table_ok hps6 (prts_in hpP)
  obtain ⟨tb4, tb5⟩ := pf_law hc3 hds6 hP hPw hg ec hpP
  repeat' (first | (k_unfold; (try dsimp only)) | (k_end; kc_close) | walk1 | (dsimp only; walk1) | (leave1; walk_say "STEP leave1"; (try dsimp only)))

end Mine
end
set_option Elab.async false
theorem PySem.Challenge.cw_wf0034_01_holds : PySem.Challenge.rw_wf0034_01.Holds :=
  Mine.law_holds
