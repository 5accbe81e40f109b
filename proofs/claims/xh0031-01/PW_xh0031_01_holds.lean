import PyProof.Rows.All
import Wide.All
import OpenK.AllK
import Wide.FinOn
import Lean
import PySem.Challenge.RW_xh0031_01

set_option Elab.async false
section
open PySem PySem.W PyProof.Rows
set_option maxRecDepth 100000
namespace Mine
/-! the written part of the top: read off the program's own term -/
def argsAt (i : Nat) : Arguments := match PySem.Challenge.pw_xh0031_01.main.body[i]? with
  | some (.FunctionDef _ a _ _ _ _ _ _ _ _) => a
  | _ => ⟨[], [], none, [], [], none, []⟩
def bodyAt (i : Nat) : List Stmt := match PySem.Challenge.pw_xh0031_01.main.body[i]? with
  | some (.FunctionDef _ _ b _ _ _ _ _ _ _) => b
  | _ => []
def scopeAt (i : Nat) : Scope := match PySem.Challenge.pw_xh0031_01.main.body[i]? with
  | some (.FunctionDef _ _ _ _ _ _ sc _ _ _) => sc
  | _ => PySem.Challenge.pw_xh0031_01.main.scope
abbrev pick {α : Type} {a : α} (b : α) (_ : a = b) : α := b
abbrev args2 : Arguments := pick (a := argsAt 2) _ (by conv => lhs; whnf)
abbrev body2 : List Stmt := pick (a := bodyAt 2) _ (by conv => lhs; whnf)
abbrev scope2 : Scope := pick (a := scopeAt 2) _ (by conv => lhs; whnf)
abbrev args4 : Arguments := pick (a := argsAt 4) _ (by conv => lhs; whnf)
abbrev body4 : List Stmt := pick (a := bodyAt 4) _ (by conv => lhs; whnf)
abbrev scope4 : Scope := pick (a := scopeAt 4) _ (by conv => lhs; whnf)
abbrev args5 : Arguments := pick (a := argsAt 5) _ (by conv => lhs; whnf)
abbrev body5 : List Stmt := pick (a := bodyAt 5) _ (by conv => lhs; whnf)
abbrev scope5 : Scope := pick (a := scopeAt 5) _ (by conv => lhs; whnf)
abbrev args6 : Arguments := pick (a := argsAt 6) _ (by conv => lhs; whnf)
abbrev body6 : List Stmt := pick (a := bodyAt 6) _ (by conv => lhs; whnf)
abbrev scope6 : Scope := pick (a := scopeAt 6) _ (by conv => lhs; whnf)
abbrev args7 : Arguments := pick (a := argsAt 7) _ (by conv => lhs; whnf)
abbrev body7 : List Stmt := pick (a := bodyAt 7) _ (by conv => lhs; whnf)
abbrev scope7 : Scope := pick (a := scopeAt 7) _ (by conv => lhs; whnf)
abbrev args8 : Arguments := pick (a := argsAt 8) _ (by conv => lhs; whnf)
abbrev body8 : List Stmt := pick (a := bodyAt 8) _ (by conv => lhs; whnf)
abbrev scope8 : Scope := pick (a := scopeAt 8) _ (by conv => lhs; whnf)
abbrev args9 : Arguments := pick (a := argsAt 9) _ (by conv => lhs; whnf)
abbrev body9 : List Stmt := pick (a := bodyAt 9) _ (by conv => lhs; whnf)
abbrev scope9 : Scope := pick (a := scopeAt 9) _ (by conv => lhs; whnf)
abbrev args10 : Arguments := pick (a := argsAt 10) _ (by conv => lhs; whnf)
abbrev body10 : List Stmt := pick (a := bodyAt 10) _ (by conv => lhs; whnf)
abbrev scope10 : Scope := pick (a := scopeAt 10) _ (by conv => lhs; whnf)
abbrev args11 : Arguments := pick (a := argsAt 11) _ (by conv => lhs; whnf)
abbrev body11 : List Stmt := pick (a := bodyAt 11) _ (by conv => lhs; whnf)
abbrev scope11 : Scope := pick (a := scopeAt 11) _ (by conv => lhs; whnf)
abbrev args12 : Arguments := pick (a := argsAt 12) _ (by conv => lhs; whnf)
abbrev body12 : List Stmt := pick (a := bodyAt 12) _ (by conv => lhs; whnf)
abbrev scope12 : Scope := pick (a := scopeAt 12) _ (by conv => lhs; whnf)
abbrev args14 : Arguments := pick (a := argsAt 14) _ (by conv => lhs; whnf)
abbrev body14 : List Stmt := pick (a := bodyAt 14) _ (by conv => lhs; whnf)
abbrev scope14 : Scope := pick (a := scopeAt 14) _ (by conv => lhs; whnf)
abbrev args18 : Arguments := pick (a := argsAt 18) _ (by conv => lhs; whnf)
abbrev body18 : List Stmt := pick (a := bodyAt 18) _ (by conv => lhs; whnf)
abbrev scope18 : Scope := pick (a := scopeAt 18) _ (by conv => lhs; whnf)
abbrev args20 : Arguments := pick (a := argsAt 20) _ (by conv => lhs; whnf)
abbrev body20 : List Stmt := pick (a := bodyAt 20) _ (by conv => lhs; whnf)
abbrev scope20 : Scope := pick (a := scopeAt 20) _ (by conv => lhs; whnf)

abbrev entS (P : Params) (x : String) (t : Nat) (v : Value) : DictEntry := ⟨PyData.keyHash P (Str.ofString x), .str (Str.ofString x) t, v⟩
/-- a code object: its name, the first token, the line, the count of its arguments, its addresses -/
abbrev coO (x : String) (t : Nat) (line n a b : Nat) (names nm : Value) (f l : Nat) : Obj :=
  { cls := .type "code", data := .fields #[.str (Str.ofString x) t, .str (Str.ofString x) (t + 1), .str (Str.ofString "/claim/cut.py") (t + 2), .int line 0, .int n 0, .int 0 0, .int 0 0, .int 3 0,
      .ref a, .bool true, .int 181 0, .ref b, .none, names, nm, .ref f, .int l 0, .int line 0, .str (Str.ofString "/claim/cut.py") (l + 1)] }
abbrev fnO (x : String) (params : Arguments) (body : List Stmt) (scope : Scope) (dflt : Value) (m : String) (t : Nat) (c : Nat) : Obj :=
  { cls := .type "function", data := .func { name := Str.ofString x, qualname := Str.ofString x, params, body := .stmts body, scope, globals := 3, closure := [], defaults := dflt, kwdefaults := .none, pyModule := .str (Str.ofString m) t, code := .ref c } }
def keysAt : List (Option Expr) := match PySem.Challenge.pw_xh0031_01.main.body[1]? with
  | some (PySem.Stmt.Assign _ (PySem.Expr.Dict ks _ _) _) => ks
  | _ => []
def valsAt : List Expr := match PySem.Challenge.pw_xh0031_01.main.body[1]? with
  | some (PySem.Stmt.Assign _ (PySem.Expr.Dict _ vs _) _) => vs
  | _ => []
def keyOf : Option Expr → Int
  | some (.Constant (.int k) _ _) => k
  | _ => 0
def strOf : Expr → Str
  | .Constant (.str x) _ _ => x
  | _ => ⟨#[]⟩
/-- the table as it is written: keys, texts -/
def tab : List (Int × Str) := (keysAt.map keyOf).zip (valsAt.map strOf)
/-- the entries that groups of seventeen make, each number three tokens on; the last four: first the pairs, then the hashes -/
def entsL : Nat → List (Int × Str) → List DictEntry
  | _, [] => []
  | t, (k, x) :: r => ⟨hashInt k, .int k t, .str x (t + 1)⟩ :: entsL (t + 3) r
def entsS : Nat → List (Int × Str) → List DictEntry
  | _, [] => []
  | t, (k, x) :: r => ⟨hashInt k, .int k t, .str x (t + 1)⟩ :: entsS (t + 2) r
def tabEs : List DictEntry := entsL 189 (tab.take 646) ++ entsS (189 + 3 * 646) (tab.drop 646)
def tabO : Obj := { cls := .type "dict", data := .dict tabEs.toArray 650 }

def heap (P : Params) : Frag := [
  (nat_lit 2, { cls := .none, data := .dict #[] }),
  (nat_lit 3, { cls := .type "dict", data := .dict [entS P "__name__" 165 (.str (Str.ofString "law_xh0031_01") 2237), entS P "__doc__" 166 .none, entS P "__package__" 167 .none,
    entS P "__loader__" 168 (.builtin "__main__.__loader__#opaque"), entS P "__spec__" 169 .none, entS P "__annotations__" 170 (.ref 6), entS P "__builtins__" 171 (.ref 4),
    entS P "__file__" 173 (.str (Str.ofString "/claim/cut.py") 172), entS P "__cached__" 174 .none, entS P "b3_exceptions" 2139 (.ref 15), entS P "map_table_b3" 2147 (.ref 60),
    entS P "_ctoi" 2156 (.ref 67), entS P "isalnum" 2163 (.ref 74), entS P "isalpha" 2170 (.ref 81), entS P "isdigit" 2177 (.ref 88), entS P "isgraph" 2184 (.ref 95), entS P "islower" 2191 (.ref 102),
    entS P "ispunct" 2198 (.ref 109), entS P "isspace" 2205 (.ref 116), entS P "isupper" 2212 (.ref 123), entS P "capwords" 2222 (.ref 131), entS P "_MOVE_COST" 2226 (.int 2 2225),
    entS P "_CASE_COST" 2228 (.int 1 2227), entS P "_substitution_cost" 2236 (.ref 138), entS P "law" 2244 (.ref 143)].toArray 25 }),
  (nat_lit 15, tabO),
  (nat_lit 59, coO "map_table_b3" 2140 3 1 54 55 (.ref 56) (.ref 57) 58 2145),
  (nat_lit 60, fnO "map_table_b3" args2 body2 scope2 .none "cpy313.stringprep" 187 59),
  (nat_lit 66, coO "_ctoi" 2150 9 1 61 62 (.ref 63) (.ref 64) 65 2154),
  (nat_lit 67, fnO "_ctoi" args4 body4 scope4 .none "cpy313.curses.ascii" 2148 66),
  (nat_lit 73, coO "isalnum" 2157 14 1 68 69 (.ref 70) (.ref 71) 72 2161),
  (nat_lit 74, fnO "isalnum" args5 body5 scope5 .none "cpy313.curses.ascii" 2148 73),
  (nat_lit 80, coO "isalpha" 2164 16 1 75 76 (.ref 77) (.ref 78) 79 2168),
  (nat_lit 81, fnO "isalpha" args6 body6 scope6 .none "cpy313.curses.ascii" 2148 80),
  (nat_lit 87, coO "isdigit" 2171 18 1 82 83 (.ref 84) (.ref 85) 86 2175),
  (nat_lit 88, fnO "isdigit" args7 body7 scope7 .none "cpy313.curses.ascii" 2148 87),
  (nat_lit 94, coO "isgraph" 2178 20 1 89 90 (.ref 91) (.ref 92) 93 2182),
  (nat_lit 95, fnO "isgraph" args8 body8 scope8 .none "cpy313.curses.ascii" 2148 94),
  (nat_lit 101, coO "islower" 2185 22 1 96 97 (.ref 98) (.ref 99) 100 2189),
  (nat_lit 102, fnO "islower" args9 body9 scope9 .none "cpy313.curses.ascii" 2148 101),
  (nat_lit 108, coO "ispunct" 2192 24 1 103 104 (.ref 105) (.ref 106) 107 2196),
  (nat_lit 109, fnO "ispunct" args10 body10 scope10 .none "cpy313.curses.ascii" 2148 108),
  (nat_lit 115, coO "isspace" 2199 26 1 110 111 (.ref 112) (.ref 113) 114 2203),
  (nat_lit 116, fnO "isspace" args11 body11 scope11 .none "cpy313.curses.ascii" 2148 115),
  (nat_lit 122, coO "isupper" 2206 28 1 117 118 (.ref 119) (.ref 120) 121 2210),
  (nat_lit 123, fnO "isupper" args12 body12 scope12 .none "cpy313.curses.ascii" 2148 122),
  (nat_lit 124, { cls := .type "tuple", data := .seq #[.none] }),
  (nat_lit 130, coO "capwords" 2215 31 2 125 126 (.ref 127) (.ref 128) 129 2220),
  (nat_lit 131, fnO "capwords" args14 body14 scope14 (.ref 124) "cpy313.string" 2213 130),
  (nat_lit 137, coO "_substitution_cost" 2229 36 2 132 133 (.ref 134) (.ref 135) 136 2234),
  (nat_lit 138, fnO "_substitution_cost" args18 body18 scope18 .none "cpy313.traceback" 2223 137),
  (nat_lit 142, coO "law" 2239 43 1 139 140 .none .none 141 2242),
  (nat_lit 143, fnO "law" args20 body20 scope20 .none "law_xh0031_01" 2237 142)]
abbrev heapAs : List Addr := [2, 3, 15, 59, 60, 66, 67, 73, 74, 80, 81, 87, 88, 94, 95, 101, 102, 108, 109, 115, 116, 122, 123, 124, 130, 131, 137, 138, 142, 143]
theorem heap_as (P : Params) : heapAs = (heap P).map (·.1) := by kernel_rfl
abbrev hook : Hook := kHook heap heapAs heap_as
def q : Program := { PySem.Challenge.pw_xh0031_01 with main := { PySem.Challenge.pw_xh0031_01.main with body := [2, 4, 5, 6, 7, 8, 9, 10, 11, 12, 16, 17, 18, 20].filterMap fun i => PySem.Challenge.pw_xh0031_01.main.body[i]? } }
abbrev loose : List Str := [Str.ofString "b3_exceptions", Str.ofString "capwords"]
abbrev Xt (s : Shared) : Bool := xlAt q [] s && recOk (RowW.records PySem.Challenge.rw_xh0031_01.row.toRowW) s
abbrev Left (N : Nat) : Prop := LeftO PySem.Challenge.pw_xh0031_01 q loose Xt hook.obs hook.val N
end Mine
end

section
open PySem PySem.W PyProof.Rows
set_option maxRecDepth 100000
set_option maxHeartbeats 4000000
namespace Mine
/-- what a call of the text's def at f hands back, wherever it is called; k: how many frames it wants -/
abbrev Spec1 (w : World) (f : Addr) (k : Nat) (pre : Prop) (vs : List Value) (R : Tok → Value) : Prop :=
  ∀ (mean : ExcName → Option Value) (mg mb : Str → Option Value) (news : List (Addr × Obj)) (dp un : Nat) (gd : Option (List Code)) (cn : Str) (cs : Scope) (a : Addr) (ccd : Value) (cl : List (Str × Addr)) (outer : List Env) (A₀ : Around) (base h₀ : Heap) (L : Addr) (m : Str → Option Value) (s : Shared) (Q E : Value → Shared → Prop),
    Below A₀ base outer h₀ → Fr h₀ L s.heap m → (heap w.params).In h₀ → News h₀ L s.heap news → Top q (looseW q loose) mean mg mb h₀ → cs.kind = .function → pre → dp + k < recursionLimit → un + 8 * k < cLine →
      (∀ (t : Tok) (h' : Heap) (tk' : Nat), Fr h₀ L h' m → News h₀ L h' news → Q (R t) { s with heap := h', toks := tk' }) →
      wpAny (model PySem.Challenge.rw_xh0031_01.row.prog w) (ktrTop dp un gd cn cs L a ccd cl outer) (call (.ref f) vs) Q E s
section
variable {w : World} {f : Addr} {k : Nat} {pre : Prop} {vs : List Value} {R : Tok → Value} {mean : ExcName → Option Value} {mg mb : Str → Option Value} {news : List (Addr × Obj)} {dp un : Nat} {gd : Option (List Code)} {cn : Str} {cs : Scope} {a : Addr} {ccd : Value} {cl : List (Str × Addr)} {outer : List Env} {A₀ : Around} {base h₀ : Heap} {L : Addr} {m : Str → Option Value} {s : Shared} {Q E : Value → Shared → Prop}
theorem use1 (S : Spec1 w f k pre vs R) (B : Below A₀ base outer h₀) (F : Fr h₀ L s.heap m) (X : (heap w.params).In h₀) (N : News h₀ L s.heap news) (T : Top q (looseW q loose) mean mg mb h₀) (hk : cs.kind = .function) (hp : pre) (hd : dp + k < recursionLimit) (hu : un + 8 * k < cLine)
    (ret : ∀ (t : Tok) (h' : Heap) (tk' : Nat), Fr h₀ L h' m → News h₀ L h' news → Q (R t) { s with heap := h', toks := tk' }) :
    wpAny (model PySem.Challenge.rw_xh0031_01.row.prog w) (ktrTop dp un gd cn cs L a ccd cl outer) (call (.ref f) vs) Q E s :=
  S mean mg mb news dp un gd cn cs a ccd cl outer A₀ base h₀ L m s Q E B F X N T hk hp hd hu ret
end
/-- the number of a text's first sign -/
def cp (x : Str) : Nat := x.cps.getD 0 0
def upF (x : Str) : Bool := 65 ≤ cp x && cp x ≤ 90
def lowF (x : Str) : Bool := 97 ≤ cp x && cp x ≤ 122
def digF (x : Str) : Bool := 48 ≤ cp x && cp x ≤ 57
def graF (x : Str) : Bool := 33 ≤ cp x && cp x ≤ 126
def alpF (x : Str) : Bool := upF x || lowF x
def alnF (x : Str) : Bool := alpF x || digF x
def punF (x : Str) : Bool := graF x && !alnF x
def spaF (x : Str) : Bool := [9, 10, 11, 12, 13, 32].any fun (y : Int) => y == (cp x : Int)
theorem ctoi (w : World) (x : Str) (t : Tok) : Spec1 w 67 1 (x.length = 1) [.str x t] (fun t => .int (cp x) t) := by
  w_on
  (unfold Spec1; k_fill; intros; rename_i hret; refine wpAny_call ?_; k_dflt cell_enter)
  k_steps
  all_goals cb_end hret
local macro_rules | `(tactic| walk_at "call ref") => `(tactic| (k_here; (with_reducible show wpAny _ _ (call (Value.ref 67) [Value.str _ _]) _ _ _); (refine' use1 (ctoi _ _ _) ?k1 ?k2 ?k3 ?k4 ?k5 ?kK ?kp ?kd ?ku ?_); (case k1 => k_asm); (case k2 => k_asm); (case k3 => k_asm); (case k4 => k_asm); (case k5 => k_asm); (case kK => first | exact rfl | assumption); (case kp => assumption); (case kd => ktr_room); (case ku => ktr_units); intro t9 h9 tk9 F9 N9; (try dsimp only); (try k_fold)))
theorem isupper (w : World) (x : Str) (t : Tok) : Spec1 w 123 2 (x.length = 1) [.str x t] (fun _ => .bool (upF x)) := by
  w_on
  (unfold Spec1; k_fill; intros; rename_i hret; refine wpAny_call ?_; k_dflt cell_enter)
  k_steps
  all_goals (refine' cb_retB hret ?e1 ?e2 ?e3; (case e2 => k_asm); (case e3 => first | k_asm | (refine' cb_drop ?cbN ?cbS; (case cbN => assumption); (case cbS => kcj_all))); (case e1 => (first | rfl | ((try simp only [decide_eq_true_eq, decide_eq_false_iff_not, Bool.not_eq_true] at *); (rw [Bool.eq_iff_iff]); (simp only [upF, lowF, digF, graF, spaF, Bool.and_eq_true, Bool.or_eq_true, decide_eq_true_eq, beq_iff_eq]); omega) | (simp_all [alpF, alnF, punF]; done) | trace_state)))
local macro_rules | `(tactic| walk_at "call ref") => `(tactic| (k_here; (with_reducible show wpAny _ _ (call (Value.ref 123) [Value.str _ _]) _ _ _); (refine' use1 (isupper _ _ _) ?k1 ?k2 ?k3 ?k4 ?k5 ?kK ?kp ?kd ?ku ?_); (case k1 => k_asm); (case k2 => k_asm); (case k3 => k_asm); (case k4 => k_asm); (case k5 => k_asm); (case kK => first | exact rfl | assumption); (case kp => assumption); (case kd => ktr_room); (case ku => ktr_units); intro t9 h9 tk9 F9 N9; (try dsimp only); (try k_fold)))
theorem islower (w : World) (x : Str) (t : Tok) : Spec1 w 102 2 (x.length = 1) [.str x t] (fun _ => .bool (lowF x)) := by
  w_on
  (unfold Spec1; k_fill; intros; rename_i hret; refine wpAny_call ?_; k_dflt cell_enter)
  k_steps
  all_goals (refine' cb_retB hret ?e1 ?e2 ?e3; (case e2 => k_asm); (case e3 => first | k_asm | (refine' cb_drop ?cbN ?cbS; (case cbN => assumption); (case cbS => kcj_all))); (case e1 => (first | rfl | ((try simp only [decide_eq_true_eq, decide_eq_false_iff_not, Bool.not_eq_true] at *); (rw [Bool.eq_iff_iff]); (simp only [upF, lowF, digF, graF, spaF, Bool.and_eq_true, Bool.or_eq_true, decide_eq_true_eq, beq_iff_eq]); omega) | (simp_all [alpF, alnF, punF]; done) | trace_state)))
local macro_rules | `(tactic| walk_at "call ref") => `(tactic| (k_here; (with_reducible show wpAny _ _ (call (Value.ref 102) [Value.str _ _]) _ _ _); (refine' use1 (islower _ _ _) ?k1 ?k2 ?k3 ?k4 ?k5 ?kK ?kp ?kd ?ku ?_); (case k1 => k_asm); (case k2 => k_asm); (case k3 => k_asm); (case k4 => k_asm); (case k5 => k_asm); (case kK => first | exact rfl | assumption); (case kp => assumption); (case kd => ktr_room); (case ku => ktr_units); intro t9 h9 tk9 F9 N9; (try dsimp only); (try k_fold)))
theorem isdigit (w : World) (x : Str) (t : Tok) : Spec1 w 88 2 (x.length = 1) [.str x t] (fun _ => .bool (digF x)) := by
  w_on
  (unfold Spec1; k_fill; intros; rename_i hret; refine wpAny_call ?_; k_dflt cell_enter)
  k_steps
  all_goals (refine' cb_retB hret ?e1 ?e2 ?e3; (case e2 => k_asm); (case e3 => first | k_asm | (refine' cb_drop ?cbN ?cbS; (case cbN => assumption); (case cbS => kcj_all))); (case e1 => (first | rfl | ((try simp only [decide_eq_true_eq, decide_eq_false_iff_not, Bool.not_eq_true] at *); (rw [Bool.eq_iff_iff]); (simp only [upF, lowF, digF, graF, spaF, Bool.and_eq_true, Bool.or_eq_true, decide_eq_true_eq, beq_iff_eq]); omega) | (simp_all [alpF, alnF, punF]; done) | trace_state)))
local macro_rules | `(tactic| walk_at "call ref") => `(tactic| (k_here; (with_reducible show wpAny _ _ (call (Value.ref 88) [Value.str _ _]) _ _ _); (refine' use1 (isdigit _ _ _) ?k1 ?k2 ?k3 ?k4 ?k5 ?kK ?kp ?kd ?ku ?_); (case k1 => k_asm); (case k2 => k_asm); (case k3 => k_asm); (case k4 => k_asm); (case k5 => k_asm); (case kK => first | exact rfl | assumption); (case kp => assumption); (case kd => ktr_room); (case ku => ktr_units); intro t9 h9 tk9 F9 N9; (try dsimp only); (try k_fold)))
theorem isgraph (w : World) (x : Str) (t : Tok) : Spec1 w 95 2 (x.length = 1) [.str x t] (fun _ => .bool (graF x)) := by
  w_on
  (unfold Spec1; k_fill; intros; rename_i hret; refine wpAny_call ?_; k_dflt cell_enter)
  k_steps
  all_goals (refine' cb_retB hret ?e1 ?e2 ?e3; (case e2 => k_asm); (case e3 => first | k_asm | (refine' cb_drop ?cbN ?cbS; (case cbN => assumption); (case cbS => kcj_all))); (case e1 => (first | rfl | ((try simp only [decide_eq_true_eq, decide_eq_false_iff_not, Bool.not_eq_true] at *); (rw [Bool.eq_iff_iff]); (simp only [upF, lowF, digF, graF, spaF, Bool.and_eq_true, Bool.or_eq_true, decide_eq_true_eq, beq_iff_eq]); omega) | (simp_all [alpF, alnF, punF]; done) | trace_state)))
local macro_rules | `(tactic| walk_at "call ref") => `(tactic| (k_here; (with_reducible show wpAny _ _ (call (Value.ref 95) [Value.str _ _]) _ _ _); (refine' use1 (isgraph _ _ _) ?k1 ?k2 ?k3 ?k4 ?k5 ?kK ?kp ?kd ?ku ?_); (case k1 => k_asm); (case k2 => k_asm); (case k3 => k_asm); (case k4 => k_asm); (case k5 => k_asm); (case kK => first | exact rfl | assumption); (case kp => assumption); (case kd => ktr_room); (case ku => ktr_units); intro t9 h9 tk9 F9 N9; (try dsimp only); (try k_fold)))
theorem isspace (w : World) (x : Str) (t : Tok) : Spec1 w 116 2 (x.length = 1) [.str x t] (fun _ => .bool (spaF x)) := by
  w_on
  (unfold Spec1; k_fill; intros; rename_i hret; refine wpAny_call ?_; k_dflt cell_enter)
  k_steps
  all_goals (refine' cb_retB hret ?e1 ?e2 ?e3; (case e2 => k_asm); (case e3 => first | k_asm | (refine' cb_drop ?cbN ?cbS; (case cbN => assumption); (case cbS => kcj_all))); (case e1 => (first | rfl | ((try simp only [decide_eq_true_eq, decide_eq_false_iff_not, Bool.not_eq_true] at *); (rw [Bool.eq_iff_iff]); (simp only [upF, lowF, digF, graF, spaF, Bool.and_eq_true, Bool.or_eq_true, decide_eq_true_eq, beq_iff_eq]); omega) | (simp_all [alpF, alnF, punF]; done) | trace_state)))
local macro_rules | `(tactic| walk_at "call ref") => `(tactic| (k_here; (with_reducible show wpAny _ _ (call (Value.ref 116) [Value.str _ _]) _ _ _); (refine' use1 (isspace _ _ _) ?k1 ?k2 ?k3 ?k4 ?k5 ?kK ?kp ?kd ?ku ?_); (case k1 => k_asm); (case k2 => k_asm); (case k3 => k_asm); (case k4 => k_asm); (case k5 => k_asm); (case kK => first | exact rfl | assumption); (case kp => assumption); (case kd => ktr_room); (case ku => ktr_units); intro t9 h9 tk9 F9 N9; (try dsimp only); (try k_fold)))
theorem isalpha (w : World) (x : Str) (t : Tok) : Spec1 w 81 3 (x.length = 1) [.str x t] (fun _ => .bool (alpF x)) := by
  w_on
  (unfold Spec1; k_fill; intros; rename_i hret; refine wpAny_call ?_; k_dflt cell_enter)
  k_steps
  all_goals (refine' cb_retB hret ?e1 ?e2 ?e3; (case e2 => k_asm); (case e3 => first | k_asm | (refine' cb_drop ?cbN ?cbS; (case cbN => assumption); (case cbS => kcj_all))); (case e1 => (first | rfl | ((try simp only [decide_eq_true_eq, decide_eq_false_iff_not, Bool.not_eq_true] at *); (rw [Bool.eq_iff_iff]); (simp only [upF, lowF, digF, graF, spaF, Bool.and_eq_true, Bool.or_eq_true, decide_eq_true_eq, beq_iff_eq]); omega) | (simp_all [alpF, alnF, punF]; done) | trace_state)))
local macro_rules | `(tactic| walk_at "call ref") => `(tactic| (k_here; (with_reducible show wpAny _ _ (call (Value.ref 81) [Value.str _ _]) _ _ _); (refine' use1 (isalpha _ _ _) ?k1 ?k2 ?k3 ?k4 ?k5 ?kK ?kp ?kd ?ku ?_); (case k1 => k_asm); (case k2 => k_asm); (case k3 => k_asm); (case k4 => k_asm); (case k5 => k_asm); (case kK => first | exact rfl | assumption); (case kp => assumption); (case kd => ktr_room); (case ku => ktr_units); intro t9 h9 tk9 F9 N9; (try dsimp only); (try k_fold)))
theorem isalnum (w : World) (x : Str) (t : Tok) : Spec1 w 74 4 (x.length = 1) [.str x t] (fun _ => .bool (alnF x)) := by
  w_on
  (unfold Spec1; k_fill; intros; rename_i hret; refine wpAny_call ?_; k_dflt cell_enter)
  k_steps
  all_goals (refine' cb_retB hret ?e1 ?e2 ?e3; (case e2 => k_asm); (case e3 => first | k_asm | (refine' cb_drop ?cbN ?cbS; (case cbN => assumption); (case cbS => kcj_all))); (case e1 => (first | rfl | ((try simp only [decide_eq_true_eq, decide_eq_false_iff_not, Bool.not_eq_true] at *); (rw [Bool.eq_iff_iff]); (simp only [upF, lowF, digF, graF, spaF, Bool.and_eq_true, Bool.or_eq_true, decide_eq_true_eq, beq_iff_eq]); omega) | (simp_all [alpF, alnF, punF]; done) | trace_state)))
local macro_rules | `(tactic| walk_at "call ref") => `(tactic| (k_here; (with_reducible show wpAny _ _ (call (Value.ref 74) [Value.str _ _]) _ _ _); (refine' use1 (isalnum _ _ _) ?k1 ?k2 ?k3 ?k4 ?k5 ?kK ?kp ?kd ?ku ?_); (case k1 => k_asm); (case k2 => k_asm); (case k3 => k_asm); (case k4 => k_asm); (case k5 => k_asm); (case kK => first | exact rfl | assumption); (case kp => assumption); (case kd => ktr_room); (case ku => ktr_units); intro t9 h9 tk9 F9 N9; (try dsimp only); (try k_fold)))
theorem ispunct (w : World) (x : Str) (t : Tok) : Spec1 w 109 5 (x.length = 1) [.str x t] (fun _ => .bool (punF x)) := by
  w_on
  (unfold Spec1; k_fill; intros; rename_i hret; refine wpAny_call ?_; k_dflt cell_enter)
  k_steps
  all_goals (refine' cb_retB hret ?e1 ?e2 ?e3; (case e2 => k_asm); (case e3 => first | k_asm | (refine' cb_drop ?cbN ?cbS; (case cbN => assumption); (case cbS => kcj_all))); (case e1 => (first | rfl | ((try simp only [decide_eq_true_eq, decide_eq_false_iff_not, Bool.not_eq_true] at *); (rw [Bool.eq_iff_iff]); (simp only [upF, lowF, digF, graF, spaF, Bool.and_eq_true, Bool.or_eq_true, decide_eq_true_eq, beq_iff_eq]); omega) | (simp_all [alpF, alnF, punF]; done) | trace_state)))
local macro_rules | `(tactic| walk_at "call ref") => `(tactic| (k_here; (with_reducible show wpAny _ _ (call (Value.ref 109) [Value.str _ _]) _ _ _); (refine' use1 (ispunct _ _ _) ?k1 ?k2 ?k3 ?k4 ?k5 ?kK ?kp ?kd ?ku ?_); (case k1 => k_asm); (case k2 => k_asm); (case k3 => k_asm); (case k4 => k_asm); (case k5 => k_asm); (case kK => first | exact rfl | assumption); (case kp => assumption); (case kd => ktr_room); (case ku => ktr_units); intro t9 h9 tk9 F9 N9; (try dsimp only); (try k_fold)))
end Mine
end

section
open PySem PySem.W PyProof.Rows PyProof.V
set_option maxRecDepth 100000
set_option maxHeartbeats 4000000
namespace Mine
def signCps : List Nat := [97, 98, 65, 66, 49, 45, 46, 32]
theorem entsL_keys : ∀ (r : List (Int × Str)) (t : Nat), ∀ e ∈ entsL t r, ∃ k u, e.key = .int k u ∧ e.hash = hashInt k
  | [], _, _, h => nomatch h
  | (k, x) :: r, t, e, h => by
    unfold entsL at h
    rcases List.mem_cons.mp h with rfl | h
    · exact ⟨k, t, rfl, rfl⟩
    · exact entsL_keys r _ e h
theorem entsS_keys : ∀ (r : List (Int × Str)) (t : Nat), ∀ e ∈ entsS t r, ∃ k u, e.key = .int k u ∧ e.hash = hashInt k
  | [], _, _, h => nomatch h
  | (k, x) :: r, t, e, h => by
    unfold entsS at h
    rcases List.mem_cons.mp h with rfl | h
    · exact ⟨k, t, rfl, rfl⟩
    · exact entsS_keys r _ e h
theorem tabEs_keys : ∀ e ∈ tabEs.toArray, ∃ k u, e.key = .int k u ∧ e.hash = hashInt k := fun e he => by
  have he := Array.mem_toList_iff.mpr he
  rcases List.mem_append.mp he with h | h
  · exact entsL_keys _ _ _ h
  · exact entsS_keys _ _ _ h
def tabNone (c : Nat) : Bool := tabEs.all fun e => match e.key with | .int k _ => k != (c : Int) | _ => true
theorem tabNone_all : signCps.all tabNone = true := by decide +kernel

section
variable {prog : Program} {w : World} {A : Around} {E : Value → Shared → Prop} {s : Shared} {h₀ : Heap} {L : Addr} {m : Str → Option Value} {P : Params}
theorem tab_map (X : (heap P).In s.heap) : s.heap.MapOf (intKind prog w) 15 (fun k => findBy (intKind prog w).is tabEs.toArray k) :=
  ⟨tabO, tabEs.toArray, 650, X 15 tabO rfl, ⟨rfl, rfl, rfl⟩, rfl, fun e he => by obtain ⟨k, u, h1, h2⟩ := tabEs_keys e he; exact ⟨k, by rw [h1]; exact beq_self_eq_true k, h2⟩, fun _ => rfl⟩
theorem tab_none {c : Nat} (hc : c ∈ signCps) : findBy (intKind prog w).is tabEs.toArray (c : Int) = none := by
  have h := List.all_eq_true.mp tabNone_all c hc
  unfold findBy
  rw [List.find?_toArray, List.find?_eq_none.mpr]
  · rfl
  · intro e he
    obtain ⟨k, u, h1, h2⟩ := tabEs_keys e (Array.mem_toList_iff.mp he)
    have h3 := List.all_eq_true.mp h e he
    rw [h1] at h3
    rw [h1]
    show ¬ (k == (c : Int)) = true
    simpa using h3
theorem tab_method {pl : Sem Bool} {Q : Value × List Value → Shared → Prop} (F : Fr h₀ L s.heap m) (X : (heap P).In h₀) (h : Q (.builtin "dict.get", [.ref 15]) s) :
    wpAny (model prog w) A (getMethod (.ref 15) (Str.ofString "get") pl) Q E s :=
  have hm := tab_map (prog := prog) (w := w) (X.keeps F.keep)
  getMethod_builtin hm.typeIs PySem.F.plainAttrs_dict PySem.F.slot_dict_get PySem.F.type_dict_get hm.noDict h
theorem tab_get {c : Nat} {t : Tok} {Q : Value → Shared → Prop} (hc : c ∈ signCps) (F : Fr h₀ L s.heap m) (X : (heap P).In h₀) (h : Q .none { s with toks := s.toks + 1 }) :
    wpAny (model prog w) A (call (.builtin "dict.get") [.ref 15, .int (c : Int) t]) Q E s :=
  have hm := tab_map (prog := prog) (w := w) (X.keeps F.keep)
  call_meetsIn PySem.F.slot_dict_get hm.typeIs PySem.F.entry_dict_get (PySem.F.args_dict_get_2 _ _) (meets_dict_get (intKind prog w) 15 (intKind_is prog w c t) rfl) ⟨_, hm, by
    show Q ((findBy (intKind prog w).is tabEs.toArray (c : Int)).getD .none) _
    rw [tab_none hc]; exact h⟩
end
theorem low_short : signCps.all (fun c => (Txt.lower ⟨#[c]⟩).length == 1) = true := by decide +kernel
theorem low_len {c : Nat} (hc : c ∈ signCps) : (Txt.lower ⟨#[c]⟩).length = 1 := by simpa using List.all_eq_true.mp low_short c hc
theorem cp_one (c : Nat) : cp ⟨#[c]⟩ = c := rfl
local macro_rules | `(tactic| walk_at "getMethod ref") => `(tactic| (k_here; (with_reducible show wpAny _ _ (getMethod (Value.ref 15) _ _) _ _ _); (refine' tab_method ?k1 ?k2 ?_); (case k1 => k_asm); (case k2 => k_asm); (try dsimp only)))
local macro_rules | `(tactic| walk_at "call builtin:dict.get") => `(tactic| (k_here; (show wpAny _ _ (call (Value.builtin "dict.get") [Value.ref 15, Value.int _ _]) _ _ _); (refine' tab_get ?k0 ?k1 ?k2 ?_); (case k0 => assumption); (case k1 => k_asm); (case k2 => k_asm); (try dsimp only)))
local macro_rules | `(tactic| walk_at "call builtin:str.lower") => `(tactic| (k_here; (show wpAny _ _ (call (Value.builtin "str.lower") [Value.str _ _]) _ _ _); (refine' SCL.lower ?k0 ?_); (case k0 => first | exact Nat.le_of_ble_eq_true rfl | omega); intro l9; (try dsimp only)))
theorem mapb3 (w : World) (c : Nat) (t : Tok) : Spec1 w 60 1 (c ∈ signCps) [.str ⟨#[c]⟩ t] (fun t => .str (Txt.lower ⟨#[c]⟩) t) := by
  w_on
  (unfold Spec1; k_fill; intros; rename_i hret; refine wpAny_call ?_; k_dflt cell_enter)
  k_steps
  all_goals cb_end hret
end Mine
end

section
open PySem PySem.W PyProof.Rows PyProof.V
set_option maxRecDepth 100000
set_option maxHeartbeats 4000000
namespace Mine
def costF (a b : Str) : Int := if a = b then 0 else if Txt.lower a = Txt.lower b then 1 else 2
local macro_rules | `(tactic| walk_at "call builtin:str.lower") => `(tactic| (k_here; (show wpAny _ _ (call (Value.builtin "str.lower") [Value.str _ _]) _ _ _); (refine' SCL.lower ?k0 ?_); (case k0 => first | exact Nat.le_of_ble_eq_true rfl | omega); intro l9; (try dsimp only)))
theorem cost (w : World) (a b : Str) (t u : Tok) : Spec1 w 138 1 (a.length = 1 ∧ b.length = 1) [.str a t, .str b u] (fun t => .int (costF a b) t) := by
  w_on
  (unfold Spec1; k_fill; intros; rename_i hret; (rename (_ = 1 ∧ _ = 1) => hp); obtain ⟨hp1, hp2⟩ := hp; refine wpAny_call ?_; k_dflt cell_enter)
  k_steps
  all_goals (refine' cb_retI hret ?e1 ?e2 ?e3; (case e2 => k_asm); (case e3 => k_asm); (case e1 => first | (unfold costF; simp_all; done) | trace_state))
end Mine
end

section
open PySem PySem.W PyProof.Rows
set_option maxRecDepth 100000
set_option maxHeartbeats 4000000
namespace Mine
/-! map(str.capitalize, a list of texts), joined -/
namespace MapF
theorem owner_map : Manifest.owners.lookup (String.ofList ['p', 'a', 'm'].reverse) = some Manifest.sig_map := by kernel_rfl
theorem slot_init : Slot "map" "__init__" "object.__init__" :=
  .of (owner := "object") (n := "__init__") (by rw [typeLookup_type, builtinLookup_eq_fast]; kernel_rfl) (by decide +kernel) (by decide +kernel) (by decide +kernel)
    (by first | exact .inl (by decide +kernel) | exact .inr (by decide +kernel)) (by rw [isSubtype_type]; kernel_rfl)
theorem slot_iter : Slot "map" "__iter__" "map.__iter__" :=
  .of (owner := "map") (n := "__iter__") (by rw [typeLookup_type, builtinLookup_eq_fast]; kernel_rfl) (by decide +kernel) (by decide +kernel) (by decide +kernel)
    (by first | exact .inl (by decide +kernel) | exact .inr (by decide +kernel)) (by rw [isSubtype_type]; kernel_rfl)
theorem args_iter (a : Value) : argsOk "map.__iter__" ⟨[a], []⟩ := by
  unfold argsOk; rw [signature?_of (id := "map.__iter__") (n := ['_', '_', 'r', 'e', 't', 'i', '_', '_']) (o := ['p', 'a', 'm']) (by kernel_rfl) owner_map]; kernel_rfl
theorem slot_next : Slot "map" "__next__" "map.__next__" :=
  .of (owner := "map") (n := "__next__") (by rw [typeLookup_type, builtinLookup_eq_fast]; kernel_rfl) (by decide +kernel) (by decide +kernel) (by decide +kernel)
    (by first | exact .inl (by decide +kernel) | exact .inr (by decide +kernel)) (by rw [isSubtype_type]; kernel_rfl)
theorem entry_next : entryFor table "map.__next__" = some Builtin.«map.__next__» := entryFor_of_tree (by kernel_rfl)
theorem args_next (a : Value) : argsOk "map.__next__" ⟨[a], []⟩ := by
  unfold argsOk; rw [signature?_of (id := "map.__next__") (n := ['_', '_', 't', 'x', 'e', 'n', '_', '_']) (o := ['p', 'a', 'm']) (by kernel_rfl) owner_map]; kernel_rfl
theorem entry_iter : entryFor table "map.__iter__" = some Builtin.«dict_keyiterator.__iter__» :=
  entryFor_alias (id' := "dict_keyiterator.__iter__") (by kernel_rfl) (by first | rfl | decide +kernel | (unfold String.splitOn; simp +decide [String.splitOnAux])) (by decide +kernel) (by kernel_rfl)
theorem mro_map : mroOf (.type "map") = pure [.type "map", .type "object"] := by rw [mroOf_type]; kernel_rfl
theorem lookup_new : typeLookup (.type "map") "__new__" = pure (some (.builtin "map.__new__")) := by rw [typeLookup_type, builtinLookup_eq_fast]; kernel_rfl
theorem sub_map : isSubtype (.type "map") (.type "map") = pure true := by rw [isSubtype_type]; kernel_rfl
theorem called_map : TypeCalled "map" "map.__new__" "object.__init__" :=
  ⟨by decide +kernel, by decide +kernel, ⟨_, _, mro_map⟩, madeBy_type mro_map lookup_new (by decide +kernel), by decide +kernel, sub_map, slot_init⟩
theorem typeCall (a b : Value) : checkTypeCall "map" ⟨[a, b], []⟩ = pure () := by kernel_rfl
theorem newCall (a b : Value) : checkBuiltinCall "map.__new__" ⟨[.type "map", a, b], []⟩ = pure () := by kernel_rfl
theorem entry_new : entryFor table "map.__new__" = some Builtin.«map.__new__» := entryFor_of_tree (by kernel_rfl)
theorem no_len : typeLookup (.type "map") "__len__" = pure none := by rw [typeLookup_type, builtinLookup_eq_fast]; kernel_rfl
theorem no_hint : typeLookup (.type "map") "__length_hint__" = pure none := by rw [typeLookup_type, builtinLookup_eq_fast]; kernel_rfl
end MapF
end Mine
end

section
open PySem PySem.W PyProof.Rows
open Sem (wp)
set_option maxRecDepth 100000
set_option maxHeartbeats 4000000
namespace Mine
abbrev IsMap (h : Heap) (z T : Addr) (f : Value) : Prop := h.get? z = some { cls := .type "map", dict := none, data := .fields #[.ref T, f], slots := #[] }
abbrev IsOne (h : Heap) (T I : Addr) : Prop := h.get? T = some { cls := .type "tuple", data := .seq #[.ref I] }
section
variable {prog : Program} {w : World} {A : Around} {E : Value → Shared → Prop} {s : Shared}
theorem attr_capitalize {expr : Bool} {Q : Value → Shared → Prop} (h : Q (.builtin "str.capitalize") { s with toks := s.toks + 1 }) :
    wpAny (model prog w) A (getAttr (.type "str") (Str.ofString "capitalize") expr) Q E s := by
  have X : Frag.In [] s.heap := fun _ _ e => by cases e
  have hs : Manifest.isStub "str" = false := by decide +kernel
  have hstub : opaqueClassAbove (.type "str") = pure none := by unfold opaqueClassAbove; dsimp only; rw [hs]; rfl
  have ht : typeOf (.type "str") = pure (.type "type") := kitMeta_of (by decide +kernel)
  have e : findCls [] (.type "str") (.type "type") (Str.ofString "capitalize") = some (.val (.builtin "str.capitalize")) := by kernel_rfl
  exact cls_open X (Looks.of_pure hstub) (Looks.of_pure ht) type_tga (looks_hook X (r := none) (by rfl)) (by show subIn [] _ _ = _; rfl) e
    (wpAny_pure (by show wpAny _ _ (handedOut (.builtin "str.capitalize")) _ _ _; exact handed_on (by decide +kernel) h))

theorem map_next_item {z T I l : Addr} {k : Nat} {items : Array Value} {x : Str} {t : Tok} {Q : Value → Shared → Prop} (hIz : z ≠ I)
    (hz : IsMap s.heap z T (.builtin "str.capitalize")) (hT : IsOne s.heap T I) (hI : s.heap.IsListIter I l k) (hl : s.heap.IsList l items) (hx : items[k]? = some (.str x t)) (hfit : x.length ≤ 5592405)
    (hQ : ∀ h' tk t', h'.IsListIter I l (k + 1) → Heap.SameBut I s.heap h' → Q (.str (Txt.capitalize x) t') { s with heap := h', toks := tk }) :
    wpAny (model prog w) A (Builtin.«map.__next__» ⟨[.ref z], []⟩) (fun fin s' => ∃ v, fin = .done (.ret v) ∧ Q v s') E s := by
  show wpAny _ _ (field (.ref z) 0 >>= _) _ _ _
  refine wpAny_bind (wpAny_field hz rfl (x := .ref T) rfl ?_)
  refine wpAny_bind (wpAny_seqItems hT rfl ?_)
  refine wpAny_bind ?_
  simp only [List.forIn_toArray, List.forIn_cons, List.forIn_nil]
  refine wpAny_bind (wpAny_bind (wpAny_holding (wpAny_nextOf_list_item hI hl hx fun h₁ hI₁ hs₁ => ?_)))
  refine wpAny_pure (wpAny_pure ?_)
  have hz₁ : IsMap h₁ z T (.builtin "str.capitalize") := hs₁.extBut _ _ hIz hz
  refine wpAny_bind (wpAny_field hz₁ rfl (x := .builtin "str.capitalize") rfl ?_)
  refine wpAny_bind (wpAny_holding ?_)
  show wpAny _ _ (call (.builtin "str.capitalize") [.str x t]) _ _ _
  refine SCL.capitalize hfit fun t' tk _ => ?_
  refine wpAny_bind (wpAny_letGo ?_)
  exact wpAny_pure ⟨_, rfl, hQ h₁ tk t' hI₁ hs₁⟩

theorem map_next_end {z T I l : Addr} {k : Nat} {items : Array Value} {f : Value} {Q : Fin → Shared → Prop} (hh : A.handled = none)
    (hz : IsMap s.heap z T f) (hT : IsOne s.heap T I) (hI : s.heap.IsListIter I l k) (hl : s.heap.IsList l items) (hx : items[k]? = none)
    (hE : ∀ h' e, Heap.ExtBut I s.heap h' → (∃ o, h'.get? e = some o ∧ o.cls = .type "StopIteration") → E (.ref e) { s with heap := h' }) :
    wpAny (model prog w) A (Builtin.«map.__next__» ⟨[.ref z], []⟩) Q E s := by
  show wpAny _ _ (field (.ref z) 0 >>= _) _ _ _
  refine wpAny_bind (wpAny_field hz rfl (x := .ref T) rfl ?_)
  refine wpAny_bind (wpAny_seqItems hT rfl ?_)
  refine wpAny_bind ?_
  simp only [List.forIn_toArray, List.forIn_cons, List.forIn_nil]
  exact wpAny_bind (wpAny_bind (wpAny_holding (wpAny_nextOf_list_end hh hI hl hx hE)))

theorem map_pyNext_item {z T I l : Addr} {k : Nat} {items : Array Value} {x : Str} {t : Tok} {Q : Option Value → Shared → Prop} (hIz : z ≠ I)
    (hz : IsMap s.heap z T (.builtin "str.capitalize")) (hT : IsOne s.heap T I) (hI : s.heap.IsListIter I l k) (hl : s.heap.IsList l items) (hx : items[k]? = some (.str x t)) (hfit : x.length ≤ 5592405)
    (hQ : ∀ h' tk t', h'.IsListIter I l (k + 1) → Heap.SameBut I s.heap h' → Q (some (.str (Txt.capitalize x) t')) { s with heap := h', toks := tk }) : wpAny (model prog w) A (pyNext (.ref z)) Q E s := by
  have hTy : s.TypeIs (.ref z) "map" := ⟨_, hz, rfl⟩
  unfold pyNext
  exact wpAny_bind (wpAny_attempt (wpAny_callSpecial?_slot (name := Str.ofString "__next__") hTy MapF.slot_next
    (wpAny_call_entry MapF.slot_next hTy MapF.entry_next
      (map_next_item hIz hz hT hI hl hx hfit fun h' tk t' a b => wpAny_pure (hQ h' tk t' a b)) (MapF.args_next _))))

theorem map_pyNext_end {z T I l : Addr} {k : Nat} {items : Array Value} {f : Value} {Q : Option Value → Shared → Prop} (hh : A.handled = none)
    (hz : IsMap s.heap z T f) (hT : IsOne s.heap T I) (hI : s.heap.IsListIter I l k) (hl : s.heap.IsList l items) (hx : items[k]? = none)
    (hQ : ∀ h', Heap.ExtBut I s.heap h' → Q none { s with heap := h' }) : wpAny (model prog w) A (pyNext (.ref z)) Q E s := by
  have hTy : s.TypeIs (.ref z) "map" := ⟨_, hz, rfl⟩
  unfold pyNext
  refine wpAny_bind (wpAny_attempt (wpAny_callSpecial?_slot (name := Str.ofString "__next__") hTy MapF.slot_next
    (wpAny_call_entry MapF.slot_next hTy MapF.entry_next (map_next_end hh hz hT hI hl hx fun h' e hk he => ?_) (MapF.args_next _))))
  obtain ⟨o, ho, hc⟩ := he
  refine wpAny_bind (wpAny_isInstance (T := "StopIteration") (b := true) ⟨o, ho, hc⟩ isSubtype_stop ?_)
  exact wpAny_pure (hQ _ hk)

theorem map_pyIter {z T : Addr} {f : Value} {Q : Value → Shared → Prop} (hz : IsMap s.heap z T f) (h : Q (.ref z) s) : wpAny (model prog w) A (pyIter (.ref z)) Q E s := by
  have hTy : s.TypeIs (.ref z) "map" := ⟨_, hz, rfl⟩
  refine wpAny_pyIter_slot hTy MapF.slot_iter (wpAny_call_entry MapF.slot_iter hTy MapF.entry_iter ?_ (MapF.args_iter _))
  show wpAny _ _ (ret (.ref z)) _ _ s
  exact wpAny_pure ⟨_, rfl, "map", _, hTy, MapF.slot_next.lookup, h⟩

/-- the texts that a list holds -/
def TextsAt (items : Array Value) (xs : List Str) : Prop := items.size = xs.length ∧ ∀ (i : Nat) (x : Str), xs[i]? = some x → ∃ t, items[i]? = some (Value.str x t)

theorem map_walks (hh : A.handled = none) (z T I l : Addr) (hz : z ≠ I) (hT : T ≠ I) (hl : l ≠ I) (items : Array Value) (xs : List Str) (hx : TextsAt items xs) (hfit : ∀ x ∈ xs, x.length ≤ 5592405) :
    Walks prog w A z [z, T, I, l] [I] xs.length (fun (i : Nat) v => ∃ (x : Str) (t : Tok), xs[i]? = some x ∧ v = Value.str (Txt.capitalize x) t)
      (fun i h => IsMap h z T (.builtin "str.capitalize") ∧ IsOne h T I ∧ h.IsListIter I l i ∧ h.IsList l items) where
  sub := fun b hb => by simp at hb; simp [hb]
  frame := fun i h h' hst hk => by
    obtain ⟨a, b, c, d⟩ := hst
    exact ⟨hk z (by simp) _ a, hk T (by simp) _ b, c.at fun o e => hk I (by simp) o e, d.at fun o e => hk l (by simp) o e⟩
  item := fun i s Q E hi hst hQ => by
    obtain ⟨a, b, c, d⟩ := hst
    have hxi := List.getElem?_eq_getElem hi
    obtain ⟨t, ht⟩ := hx.2 i _ hxi
    exact map_pyNext_item hz a b c d ht (hfit _ (List.getElem_mem hi)) fun h' tk t' c' hs => hQ _ h' tk ⟨_, t', hxi, rfl⟩
      ⟨hs.extBut _ _ hz a, hs.extBut _ _ hT b, c', d.extBut hs.extBut hl⟩ fun b o hb e => hs.extBut b o (fun h => hb (by simp [h])) e
  done := fun s Q E hst hQ => by
    obtain ⟨a, b, c, d⟩ := hst
    exact map_pyNext_end hh a b c d (Array.getElem?_eq_none (Nat.le_of_eq hx.1)) fun h' hk => hQ h' s.toks fun b o hb e => hk b o (fun h => hb (by simp [h])) e
  self := fun i s Q E hst hQ => map_pyIter hst.1 hQ
end

abbrev mapH1 (h : Heap) (l : Addr) : Heap := h.push { cls := .type "list_iterator", data := .fields #[.ref l, .int 0 0] }
abbrev mapH2 (h : Heap) (l : Addr) : Heap := (mapH1 h l).push { cls := .type "tuple", data := .seq #[.ref h.objs.size] }
abbrev mapH3 (h : Heap) (l : Addr) : Heap := (mapH2 h l).push { cls := .type "map", data := .fields #[.ref (mapH1 h l).objs.size, .builtin "str.capitalize"] }
theorem meets_map_new (l : Addr) (items : Array Value) :
    Meets (Builtin.«map.__new__» ⟨[.type "map", .builtin "str.capitalize", .ref l], []⟩) (fun _ R s => s.heap.IsList l items ∧
      R (.ok (.ret (.ref (mapH2 s.heap l).objs.size))) { s with heap := mapH3 s.heap l }) :=
  .of_wp fun prog w A R s h => by
    obtain ⟨hp, g, d, tk, os⟩ := s; obtain ⟨hl, h⟩ := h
    have hsub := MapF.sub_map
    have hL : Heap.IsList (Shared.heap ⟨hp, g, d, tk, os⟩) l items := hl
    wp_walk using wpAny_pyIter_list hL
    exact ⟨_, rfl, h⟩
end Mine
end

section
open PySem PySem.W PyProof.Rows
open Sem (wp)
open Builtin Builtin.Str Builtin.Int
set_option maxRecDepth 100000
set_option maxHeartbeats 4000000
namespace Mine
section
variable {prog : Program} {w : World} {A : Around} {E : Value → Shared → Prop} {s : Shared}
/-- a list with nothing in it yet -/
abbrev bare (k : Nat) : Obj := { cls := .type "list", data := .seq #[] k }
/-- making room changes the list's count of writes, and nothing else -/
theorem touch_bare {a : Addr} {k : Nat} {Q : Unit → Shared → Prop} (e : s.heap.get? a = some (bare k))
    (next : ∀ g k', g.get? a = some (bare k') → (∀ b o, b ≠ a → s.heap.get? b = some o → g.get? b = some o) → Q () { s with heap := g }) :
    wpAny (model prog w) A (Builtin.List.listTouch (.ref a)) Q E s := by
  have pushed := Heap.get?_update_self (Obj.mapSeq fun xs => xs.push Value.none) e rfl
  have popped := Heap.get?_update_self (Obj.mapSeq fun xs => xs.pop) pushed rfl
  refine wpAny_bind (wpAny_updateSeq e rfl (wpAny_updateSeq pushed rfl (next _ _ popped ?_)))
  intro b o ne eb
  rw [Heap.get?_update_other _ _ ne.symm, Heap.get?_update_other _ _ ne.symm, eb]
/-- a map object tells no length -/
theorem map_hint {z : Addr} {Q : Bool → Shared → Prop} (t : s.TypeIs (.ref z) "map") (next : Q true s) : wpAny (model prog w) A (Builtin.List.listLengthHint (.ref z)) Q E s :=
  wpAny_bind (wpAny_specialOf t MapF.no_len (wpAny_bind (m := specialOf (.ref z) (Str.ofString "__length_hint__")) (wpAny_specialOf t MapF.no_hint (wpAny_pure next))))
/-- the way to the filling loop: a bare list, and a map object that is its own iterator -/
theorem to_loop {a z : Addr} {k : Nat} {Q : Fin → Shared → Prop} (e : s.heap.get? a = some (bare k)) (t : s.TypeIs (.ref z) "map") (ne : a ≠ z)
    (self : ∀ R : Value → Shared → Prop, R (.ref z) s → wpAny (model prog w) A (pyIter (.ref z)) R E s)
    (next : ∀ g k', g.get? a = some (bare k') → (∀ b o, b ≠ a → s.heap.get? b = some o → g.get? b = some o) → Q (.again (.builtin "list.extend.loop" ⟨[.ref a, .ref z, .ref a], []⟩)) { s with heap := g }) :
    wpAny (model prog w) A (Builtin.List.listExtendWith (.ref a) (.ref z) (.ref a)) Q E s := by
  have other : ¬(Builtin.List.listSameRef (.ref a) (.ref z) || Value.type "map" == .type "list" || Value.type "map" == .type "tuple") = true := by
    simp only [Builtin.List.listSameRef, beq_eq_false_iff_ne.mpr ne, Bool.false_or]; decide
  refine wpAny_bind (wpAny_typeOf t ?_)
  rw [if_neg other]
  refine wpAny_bind (self _ (wpAny_bind (wpAny_holding (map_hint t ?_))))
  refine wpAny_bind (m := rule "list.extend.makes-room") (wpAny_rule (wpAny_bind (m := Builtin.List.listTouch (.ref a)) (touch_bare e fun g k' eg kept => wpAny_pure (next g k' eg kept))))
end
section
variable {prog : Program} {w : World} {A : Around} {E : Value → Shared → Prop} {s : Shared} {z : Addr} {fp wr : List Addr} {G : Array GenState → Array GenState → Prop} {n : Nat} {P : Nat → Value → Prop} {St : Nat → Shared → Prop}
/-- a map object drawn to its end -/
theorem collect_map {Q : List Value → Shared → Prop} (W : WalksS prog w A.in1 z fp wr G n P St) (t : ∀ i s, St i s → s.TypeIs (.ref z) "map") (st : St 0 s) (low : ∀ b ∈ fp, b < s.heap.objs.size) (mem : z ∈ fp)
    (next : ∀ s' acc, Moved wr G s s' → ItemsOf P acc n → Q acc.toList s') (hn : n ≤ sizeLine) : wpAny (model prog w) A (collect (.ref z)) Q E s := by
  have out : s.heap.objs.size ∉ fp := fun h => absurd (low _ h) (Nat.lt_irrefl _)
  have keep : ∀ g : Heap, (∀ b o, b ≠ s.heap.objs.size → (s.heap.push (bare 0)).get? b = some o → g.get? b = some o) → ∀ b o, s.heap.get? b = some o → g.get? b = some o :=
    fun g hg b o e => hg b o (Nat.ne_of_lt (Heap.lt_size e)) (Heap.get?_push_of_some _ e)
  have at0 : ∀ g : Heap, (∀ b o, b ≠ s.heap.objs.size → (s.heap.push (bare 0)).get? b = some o → g.get? b = some o) → St 0 { s with heap := g } :=
    fun g hg => W.frame 0 s g s.toks st (Nat.le_refl _) fun b _ o e => keep g hg b o e
  have first := at0 (s.heap.push (bare 0)) fun _ _ _ e => e
  unfold collect
  refine wpAny_bind (wpAny_runValue (codeAny_builtin F.entry_proto_collect ?_))
  rw [Around.under_plainId F.plain_proto_collect]
  refine wpAny_bind (m := newList []) (wpAny_newObj_type (wpAny_pure ⟨plainId_quiet F.plain_list_iadd _, codeAny_builtin F.entry_list_iadd ?_⟩))
  rw [Around.under_plainId F.plain_list_iadd]
  refine to_loop (Heap.get?_push_size _ rfl) (t 0 _ first) (fun e => out (e ▸ mem)) (fun R h => W.self 0 _ _ _ first h) fun g k' eg kept => ⟨plainId_quiet F.plain_extend_loop _, ?_⟩
  refine codeAny_extend_loopS W hn _ out _ n 0 _ _ _ rfl (Nat.zero_le _) (at0 g kept) eg (ItemsOf.nil P) fun s' acc c moved full items => ?_
  refine wpAny_bind (wpAny_load full (wpAny_pure (next s' acc ⟨fun b o nb e => ?_, moved.gens, moved.drawn, moved.os, moved.toks⟩ items)))
  refine moved.heap b o ?_ (keep g kept b o e)
  rw [List.mem_cons]
  exact fun h => h.elim (Nat.ne_of_lt (Heap.lt_size e)) nb
end
section
variable {prog : Program} {w : World} {A : Around} {E : Value → Shared → Prop} {s : Shared}
theorem texts_of {acc : Array Value} {xs : List Str} (h : ItemsOf (fun (i : Nat) v => ∃ (x : Str) (t : Tok), xs[i]? = some x ∧ v = Value.str (Txt.capitalize x) t) acc xs.length) :
    ∃ l : List (Str × Tok), strValues l = acc.toList ∧ l.map (·.1) = xs.map Txt.capitalize := by
  obtain ⟨l, hl⟩ := exists_strValues acc.toList fun v hv => by
    obtain ⟨j, hj, rfl⟩ := Array.mem_iff_getElem.mp (Array.mem_toList_iff.mp hv)
    obtain ⟨x, t, _, e⟩ := h.2 j _ (Array.getElem?_eq_getElem hj)
    exact ⟨_, _, e⟩
  refine ⟨l, hl, List.ext_getElem? fun i => ?_⟩
  have hlen : l.length = xs.length := by rw [← h.1, ← Array.length_toList, ← hl]; simp [strValues]
  rw [List.getElem?_map, List.getElem?_map]
  by_cases hi : i < l.length
  · have e1 : acc[i]? = some (Value.str l[i].1 l[i].2) := by
      rw [← Array.getElem?_toList, ← hl]; simp [strValues, hi]
    obtain ⟨x, t, hx, e⟩ := h.2 i _ e1
    rw [List.getElem?_eq_getElem hi, hx]
    simp only [Value.str.injEq] at e
    simp [e.1]
  · rw [List.getElem?_eq_none (by omega), List.getElem?_eq_none (by omega)]
    rfl
theorem join_map {sep : Str} {t : Tok} {Q : Value → Shared → Prop} (hh : A.handled = none) {z T I l : Addr} (hzI : z ≠ I) (hTI : T ≠ I) (hlI : l ≠ I) {items : Array Value} {xs : List Str} (hx : TextsAt items xs) (hfit : ∀ x ∈ xs, x.length ≤ 5592405)
    (hz : IsMap s.heap z T (.builtin "str.capitalize")) (hT : IsOne s.heap T I) (hI : s.heap.IsListIter I l 0) (hl : s.heap.IsList l items) (hsz : xs.length ≤ sizeLine) (hok : JoinOk sep (xs.map Txt.capitalize) = true)
    (hQ : ∀ (s' : Shared) (t' : Tok) (k : Nat), (∀ b o, b ≠ I → s.heap.get? b = some o → s'.heap.get? b = some o) → s'.gens = s.gens → s'.drawn = s.drawn → s'.os = s.os → Q (.str (Txt.join sep (xs.map Txt.capitalize)) t') { s' with toks := k }) :
    wpAny (model prog w) A (call (.builtin "str.join") [.str sep t, .ref z]) Q E s := by
  have W := (map_walks (prog := prog) (w := w) (A := A.in1.in1) hh z T I l hzI hTI hlI items xs hx hfit).toS
  have hTy : s.TypeIs (.ref z) "map" := ⟨_, hz, rfl⟩
  refine wpAny_call (codeAny_call_builtin F.slot_str_join.plain F.entry_str_join (F.slot_str_join.check _ _ _ _ _ _ _ _ (typeIs_str _ _ _) (F.args_str_join_2 _ _) ?_))
  rw [join_tree_other]
  refine wpAny_bind (wpAny_typeOf hTy ?_)
  show wpAny _ A.in1 ((pyIter (.ref z)).tryCatch _ >>= fun it => collect it >>= fun items => joinTail sep items) _ _ s
  refine wpAny_bind (wpAny_tryCatch (W.of_in1.self 0 s _ _ ⟨hz, hT, hI, hl⟩ ?_))
  refine wpAny_bind (collect_map W (fun i s st => ⟨_, st.1, rfl⟩) ⟨hz, hT, hI, hl⟩ (fun b hb => ?_) (by simp) (fun s' acc hm hacc => ?_) hsz)
  · simp only [List.mem_cons, List.not_mem_nil, or_false] at hb
    rcases hb with rfl | rfl | rfl | rfl
    · exact Heap.lt_size hz
    · exact Heap.lt_size hT
    · obtain ⟨_, e, _⟩ := hI; exact Heap.lt_size e
    · obtain ⟨_, e, _⟩ := hl; exact Heap.lt_size e
  · obtain ⟨tx, hl', hmap⟩ := texts_of hacc
    rw [← hl']
    rw [← hmap] at hok
    unfold JoinOk at hok
    rw [Bool.not_eq_true'] at hok
    have g : Gives (joinTail sep (strValues tx)) (joinMade sep tx) := by
      have g0 := gives_joinTail sep tx hok
      cases tx with
      | nil => exact g0
      | cons p r => cases r with
        | nil => exact g0
        | cons q r' => exact g0
    exact g prog w A (wants Q E) s' (post_join tx ⟨joinFit_length hok, fun t' k => by
      rw [hmap]
      exact hQ s' t' k (fun b o hb e => hm.heap b o (fun h => hb (List.mem_singleton.mp h)) e) hm.gens hm.drawn hm.os⟩)
end
end Mine
end

section
open PySem PySem.W PyProof.Rows PyProof.V
set_option maxRecDepth 100000
set_option maxHeartbeats 4000000
namespace Mine
abbrev mapO (T : Addr) : Obj := { cls := .type "map", dict := none, data := .fields #[.ref T, .builtin "str.capitalize"], slots := #[] }
abbrev oneO (I : Addr) : Obj := { cls := .type "tuple", data := .seq #[.ref I] }
abbrev iterO (l : Addr) : Obj := { cls := .type "list_iterator", data := .fields #[.ref l, .int 0 0] }
section
variable {prog : Program} {w : World} {A : Around} {E : Value → Shared → Prop} {s : Shared} {h₀ : Heap} {L : Addr} {m : Str → Option Value} {news : List (Addr × Obj)}
theorem callMapN {l : Addr} {items : Array Value} {k : Nat} {Q : Value → Shared → Prop} (F : Fr h₀ L s.heap m) (N : News h₀ L s.heap news) (hm : (l, W.listOf items k) ∈ news)
    (h : ∀ z T I h', @Ne Nat z I → @Ne Nat T I → (∀ p ∈ news, @Ne Nat p.1 I) → Fr h₀ L h' m → News h₀ L h' ((z, mapO T) :: (T, oneO I) :: (I, iterO l) :: news) → Q (.ref z) { s with heap := h' }) :
    wpAny (model prog w) A (call (.type "map") [.builtin "str.capitalize", .ref l]) Q E s := by
  have hl : s.heap.IsList l items := ⟨_, (N _ hm).1, rfl, k, rfl⟩
  refine callType_new MapF.called_map (by decide) (MapF.typeCall _ _) (MapF.newCall _ _) (fun obj => PySem.F.args_object_init_3 obj _ _) MapF.entry_new (meets_map_new l items) ⟨hl, ?_⟩
  have F1 := F.push (iterO l)
  have N1 := News.push F N (iterO l)
  have F2 := F1.push (oneO s.heap.objs.size)
  have N2 := News.push F1 N1 (oneO s.heap.objs.size)
  have F3 := F2.push (mapO (mapH1 s.heap l).objs.size)
  have N3 := News.push F2 N2 (mapO (mapH1 s.heap l).objs.size)
  have z1 : (mapH1 s.heap l).objs.size = s.heap.objs.size + 1 := Heap.size_push ..
  have z2 : (mapH2 s.heap l).objs.size = s.heap.objs.size + 2 := by rw [Heap.size_push, z1]
  have e3 : (mapH3 s.heap l).get? (mapH2 s.heap l).objs.size = some (mapO (mapH1 s.heap l).objs.size) := Heap.get?_push_size _ rfl
  exact ⟨⟨_, e3, rfl⟩, h _ _ s.heap.objs.size _ (by rw [z2]; omega) (by rw [z1]; omega) (fun p hp => Nat.ne_of_lt (Heap.lt_size (N p hp).1)) F3 N3⟩
theorem cap_ok {x sep : Str} (hx : x.length ≤ 60) (hs : sep.length ≤ 4) : JoinOk sep ((Txt.words x).map Txt.capitalize) = true := by
  refine joinOk_of ?_
  have h1 := StrLaws.words_weight x
  have h2 : ∀ l : List Str, ((l.map Txt.capitalize).map (·.length)).sum ≤ 3 * (l.map (·.length)).sum := fun l => by
    induction l with
    | nil => simp
    | cons a r ih =>
      have := len_capitalize a
      simp only [List.map_cons, List.sum_cons]
      omega
  have h3 := h2 (Txt.words x)
  have h4 : ((Txt.words x).map Txt.capitalize).length * sep.length ≤ 61 * 4 := by
    rw [List.length_map]
    exact Nat.mul_le_mul (by omega) hs
  omega
theorem joinMapN {sep : Str} {t : Tok} {Q : Value → Shared → Prop} {z T I l : Addr} {tx : List (Str × Tok)} {k : Nat} {x : Str} (hh : A.handled = none) (F : Fr h₀ L s.heap m) (N : News h₀ L s.heap ((z, mapO T) :: (T, oneO I) :: (I, iterO l) :: news))
    (hzI : @Ne Nat z I) (hTI : @Ne Nat T I) (offI : ∀ p ∈ news, @Ne Nat p.1 I) (hm : (l, W.listOf (strValues tx).toArray k) ∈ news) (hw : tx.map (·.1) = Txt.words x) (hx : x.length ≤ 60) (hs : sep.length ≤ 4)
    (h : ∀ h' t' k', Fr h₀ L h' m → News h₀ L h' news → Q (.str (Txt.join sep ((Txt.words x).map Txt.capitalize)) t') { s with heap := h', toks := k' }) :
    wpAny (model prog w) A (call (.builtin "str.join") [.str sep t, .ref z]) Q E s := by
  have hz := (N _ (.head _)).1
  have hT := (N _ (.tail _ (.head _))).1
  have hI := (N _ (.tail _ (.tail _ (.head _))))
  have hl := (N _ (.tail _ (.tail _ (.tail _ hm)))).1
  have hlen : (Txt.words x).length ≤ 61 := by have := StrLaws.words_weight x; omega
  have htx : TextsAt (strValues tx).toArray (Txt.words x) := by
    rw [← hw]
    refine ⟨by simp [strValues], fun i y hy => ?_⟩
    rw [List.getElem?_map] at hy
    obtain ⟨p, hp, rfl⟩ := Option.map_eq_some_iff.mp hy
    exact ⟨p.2, by simp [strValues, hp]⟩
  refine join_map (A := A) hh hzI hTI (offI _ hm) htx (fun y hy => ?_) hz hT ⟨_, hI.1, rfl, rfl⟩ ⟨_, hl, rfl, k, rfl⟩ (by rw [sizeLine_eq]; omega) (cap_ok hx hs) fun s' t' k' hk hg hd ho => ?_
  · have := word_short hy
    omega
  · have hs' : s' = { s with heap := s'.heap, toks := s'.toks } := by
      obtain ⟨a, b, c, d, e⟩ := s'
      simp only at hg hd ho
      subst hg hd ho
      rfl
    rw [hs']
    have hk' : ∀ b o, b ∉ [I] → s.heap.get? b = some o → s'.heap.get? b = some o := fun b o hb e => hk b o (fun q => hb (by simp [q])) e
    exact h s'.heap t' k' (LCg.fr_but F hk' (Ne.symm hI.2.1) hI.2.2) (LCg.news_but (fun p hp => N p (.tail _ (.tail _ (.tail _ hp)))) hk' offI)
end
end Mine
end

section
open PySem PySem.W PyProof.Rows PyProof.V
set_option maxRecDepth 100000
set_option maxHeartbeats 4000000
namespace Mine
def capF (x : Str) : Str := Txt.join (Str.ofString " ") ((Txt.words x).map Txt.capitalize)
local macro_rules | `(tactic| walk_at "getAttr type:str") => `(tactic| (k_here; (with_reducible show wpAny _ _ (getAttr (Value.type "str") (Str.ofString "capitalize") _) _ _ _); (refine' attr_capitalize ?_); (try dsimp only)))
local macro_rules | `(tactic| walk_at "call builtin:str.split") => `(tactic| (k_here; (show wpAny _ _ (call (Value.builtin "str.split") [Value.str _ _, Value.none]) _ _ _); (refine' splitN0None ?k1 ?k2 ?_ ?k3); (case k1 => k_asm); (case k2 => k_asm); (case k3 => (rw [sizeLine_eq]; omega)); intro l9 h9 tk9 e9 a9 b9 i9 F9 N9; clear a9 b9 i9; (try dsimp only); (try k_fold)))
local macro_rules | `(tactic| walk_at "call type:map") => `(tactic| (k_here; (show wpAny _ _ (call (Value.type "map") [Value.builtin "str.capitalize", Value.ref _]) _ _ _); (refine' callMapN ?k1 ?k2 ?k3 ?_); (case k1 => k_asm); (case k2 => k_asm); (case k3 => k_mem); intro z9 T9 I9 h9 n1 n2 n3 F9 N9; (try dsimp only); (try k_fold)))
local macro_rules | `(tactic| walk_at "call builtin:str.join") => `(tactic| (k_here; (show wpAny _ _ (call (Value.builtin "str.join") [Value.str _ _, Value.ref _]) _ _ _); (refine' joinMapN ?k0 ?k1 ?k2 ?k3 ?k4 ?k5 ?k6 ?k7 ?k8 ?k9 ?_); (case k0 => exact rfl); (case k1 => k_asm); (case k2 => k_asm); (case k3 => assumption); (case k4 => assumption); (case k5 => assumption); (case k6 => k_mem); (case k7 => assumption); (case k8 => assumption); (case k9 => exact Nat.le_of_ble_eq_true rfl); intro h9 t9 k9 F9 N9; (try dsimp only); (try k_fold)))
theorem capwords (w : World) (x : Str) (t : Tok) : Spec1 w 131 2 (x.length ≤ 60) [.str x t] (fun t => .str (capF x) t) := by
  w_on
  (unfold Spec1; k_fill; intros; rename_i hret; refine wpAny_call ?_)
  k_dflt (refine' code_def ?k1 ?k2 ?k3 ?k4 ?k5 ?kA ?kF ?kK ?k6 ?k7 ?k8 ?k9 ?kB ?_ ?c2 ?c3 ?c4 ?c5; (case kA => exact rfl); (case kF => exact rfl); (case kK => assumption); (case k1 => k_asm); (case k2 => k_asm); (case k3 => k_asm); (case k4 => k_asm); (case k5 => k_asm); (case k6 => k_is); (case k7 => k_is); (case k8 => ktr_room); (case k9 => exact binds_K (Frag.In.keeps (by assumption) (Fr.keep (by assumption))) rfl (by k_is) rfl rfl rfl); (case c5 => decide); (case kB => exact locs rfl); (case c2 => exact rfl); (case c3 => exact rfl); (case c4 => exact rfl); k_whole; intro g' L' h' FG' F' N' B' X' T'; (try dsimp only); (try k_lift B'); (try k_fold))
  k_steps
  all_goals (refine' cb_retS hret ?e1 ?e2 ?e3; (case e2 => k_asm); (case e3 => first | k_asm | (refine' cb_drop ?cbN ?cbS; (case cbN => assumption); (case cbS => kcj_all))); (case e1 => rfl))
end Mine
end

section
open PySem PySem.W PyProof.Rows PySem.Calls
open Sem (wp)
set_option maxRecDepth 100000
set_option maxHeartbeats 4000000
namespace Mine
/-- two lists, item by item -/
inductive All2 {α β : Type} (Y : α → β → Prop) : List α → List β → Prop
  | nil : All2 Y [] []
  | cons {a b l r} : Y a b → All2 Y l r → All2 Y (a :: l) (b :: r)
theorem All2.snoc {α β : Type} {Y : α → β → Prop} {a : α} {b : β} : ∀ {l : List α} {r : List β}, All2 Y l r → Y a b → All2 Y (l ++ [a]) (r ++ [b])
  | _, _, .nil, h => .cons h .nil
  | _, _, .cons x r, h => .cons x (r.snoc h)
theorem All2.length {α β : Type} {Y : α → β → Prop} : ∀ {l : List α} {r : List β}, All2 Y l r → r.length = l.length
  | _, _, .nil => rfl
  | _, _, .cons _ r => congrArg (· + 1) r.length

/-- where a turn's test or element comes back: the frame, the ledger as they stood -/
def Same (h₀ : Heap) (L : Addr) (m : Str → Option Value) (s : Shared) (led : List (Addr × Obj)) (s' : Shared) : Prop :=
  ∃ h' tk, s' = { s with heap := h', toks := tk } ∧ Fr h₀ L h' m ∧ News h₀ L h' led
/-- a test's end, an element's end -/
def TestEnd (h₀ : Heap) (L : Addr) (m : Str → Option Value) (s : Shared) (led : List (Addr × Obj)) (b o : Bool) (s' : Shared) : Prop := o = b ∧ Same h₀ L m s led s'
def EltEnd (h₀ : Heap) (L : Addr) (m : Str → Option Value) (s : Shared) (led : List (Addr × Obj)) (Y : Value → Prop) (y : Value) (s' : Shared) : Prop := Y y ∧ Same h₀ L m s led s'
theorem TestEnd.mk' {h₀ : Heap} {L : Addr} {m : Str → Option Value} {s : Shared} {led : List (Addr × Obj)} {b o : Bool} {h' : Heap} {tk : Tok} (e : o = b) (F : Fr h₀ L h' m) (N : News h₀ L h' led) : TestEnd h₀ L m s led b o { s with heap := h', toks := tk } := ⟨e, h', tk, rfl, F, N⟩
theorem EltEnd.mk' {h₀ : Heap} {L : Addr} {m : Str → Option Value} {s : Shared} {led : List (Addr × Obj)} {Y : Value → Prop} {y : Value} {h' : Heap} {tk : Tok} (e : Y y) (F : Fr h₀ L h' m) (N : News h₀ L h' led) : EltEnd h₀ L m s led Y y { s with heap := h', toks := tk } := ⟨e, h', tk, rfl, F, N⟩
/-- a turn that leaves the ledger as it stood ends as the library's block wants it -/
theorem Same.toEnd {h₀ : Heap} {L : Addr} {m : Str → Option Value} {s s' : Shared} {h : Heap} {tk : Tok} {I C D : Addr} {oI oC oD : Obj} {news : List (Addr × Obj)} {S : List (Addr × Obj) → Prop} {rest : Value → List (Addr × Obj) → Prop} {y : Value}
    (x : Same h₀ L m s ((I, oI) :: (C, oC) :: (D, oD) :: news) s') (off : LCg.Off3 I C D news) (hS : S news) (r : rest y news) : LCg.CompEnd h₀ L m { s with heap := h, toks := tk } I oI C oC D oD S rest y s' := by
  obtain ⟨h', tk', rfl, F, N⟩ := x
  exact ⟨h', tk', news, rfl, F, N, off, hS, r⟩

section
variable {prog : Program} {w : World} {A : Around} {E : Value → Shared → Prop} {s : Shared} {h₀ : Heap} {L : Addr} {m : Str → Option Value} {env : Env} {news : List (Addr × Obj)}
/-- a turn of a comprehension: whatever its iterator, its cell and its list, M comes to R with the ledger as it stood -/
abbrev TurnAt (h₀ : Heap) (L : Addr) (m : Str → Option Value) (news : List (Addr × Obj)) (x : Str) (v : Value) (s : Shared) (G : Addr → List (Addr × Obj) → (Value → Shared → Prop) → Shared → Prop) : Prop :=
  ∀ I oI C oC D ys m₂ h tk (E' : Value → Shared → Prop), LCg.NsObj oC m₂ → m₂ x = some v → Fr h₀ L h m → News h₀ L h ((I, oI) :: (C, oC) :: (D, LCg.lst ys) :: news) → LCg.Off3 I C D news → ((@Ne Nat I C) ∧ (@Ne Nat I D) ∧ (@Ne Nat C D)) →
    G C ((I, oI) :: (C, oC) :: (D, LCg.lst ys) :: news) E' { s with heap := h, toks := tk }
/-- its test: none, or one -/
def TestAt (prog : Program) (w : World) (A : Around) (h₀ : Heap) (L : Addr) (m : Str → Option Value) (news : List (Addr × Obj)) (x : Str) (ifs : List Expr) (scope : Scope) (cl : List (Str × Addr)) (env : Env) (ok : Bool) (v : Value) (s : Shared) : Prop :=
  match ifs with
  | [] => ok = true
  | t :: _ => TurnAt h₀ L m news x v s fun C led E' s' => wpAny (model prog w) A (isTrue t (compEnvC scope cl C env) (eval t (compEnvC scope cl C env))) (TestEnd h₀ L m s led ok) E' s'
/-- its element -/
def EltAt (prog : Program) (w : World) (A : Around) (h₀ : Heap) (L : Addr) (m : Str → Option Value) (news : List (Addr × Obj)) (x : Str) (elt : Expr) (scope : Scope) (cl : List (Str × Addr)) (env : Env) (Y : Value → Prop) (v : Value) (s : Shared) : Prop :=
  TurnAt h₀ L m news x v s fun C led E' s' => wpAny (model prog w) A (eval elt (compEnvC scope cl C env)) (EltEnd h₀ L m s led Y) E' s'
theorem TestAt.none {x : Str} {scope : Scope} {cl : List (Str × Addr)} {v : Value} : TestAt prog w A h₀ L m news x [] scope cl env true v s := rfl
theorem TestAt.one {x : Str} {t : Expr} {scope : Scope} {cl : List (Str × Addr)} {ok : Bool} {v : Value}
    (h : ∀ I oI C oC D ys m₂ h tk (E' : Value → Shared → Prop), LCg.NsObj oC m₂ → m₂ x = some v → Fr h₀ L h m → News h₀ L h ((I, oI) :: (C, oC) :: (D, LCg.lst ys) :: news) → LCg.Off3 I C D news → ((@Ne Nat I C) ∧ (@Ne Nat I D) ∧ (@Ne Nat C D)) →
      wpAny (model prog w) A (isTrue t (compEnvC scope cl C env) (eval t (compEnvC scope cl C env))) (TestEnd h₀ L m s ((I, oI) :: (C, oC) :: (D, LCg.lst ys) :: news) ok) E' { s with heap := h, toks := tk }) :
    TestAt prog w A h₀ L m news x [t] scope cl env ok v s := h
theorem EltAt.of {x : Str} {elt : Expr} {scope : Scope} {cl : List (Str × Addr)} {Y : Value → Prop} {v : Value}
    (h : ∀ I oI C oC D ys m₂ h tk (E' : Value → Shared → Prop), LCg.NsObj oC m₂ → m₂ x = some v → Fr h₀ L h m → News h₀ L h ((I, oI) :: (C, oC) :: (D, LCg.lst ys) :: news) → LCg.Off3 I C D news → ((@Ne Nat I C) ∧ (@Ne Nat I D) ∧ (@Ne Nat C D)) →
      wpAny (model prog w) A (eval elt (compEnvC scope cl C env)) (EltEnd h₀ L m s ((I, oI) :: (C, oC) :: (D, LCg.lst ys) :: news) Y) E' { s with heap := h, toks := tk }) :
    EltAt prog w A h₀ L m news x elt scope cl env Y v s := h

section
variable {α : Type} {as : List α} {R : α → Value → Prop} {Y : α → Value → Prop} {elt : Expr} {x : Str} {scope : Scope} {cl : List (Str × Addr)} {P : Nat → Value → Prop} {S : List (Addr × Obj) → Prop} {Fin : List Value → List (Addr × Obj) → Prop}
theorem item_eq {l r : List α} {a b : α} (e : as = l ++ a :: r) (h : as[l.length]? = some b) : b = a := by
  subst e; simpa using h.symm
/-- all turns, without a test -/
theorem turns0 (n : Nat) (hn : as.length = n) (hP : ∀ i v, P i v → ∃ a, as[i]? = some a ∧ R a v) (hS : S news)
    (turnE : ∀ a ∈ as, ∀ v, R a v → EltAt prog w A h₀ L m news x elt scope cl env (Y a) v s)
    (fin : ∀ ys, All2 Y as ys → Fin ys news) : LCg.CompRest prog w A h₀ L m env elt x scope cl s S P Fin n 0 [] news := by
  subst hn
  have go : ∀ (r l : List α) (ys : List Value), as = l ++ r → All2 Y l ys → LCg.CompRest prog w A h₀ L m env elt x scope cl s S P Fin r.length l.length ys news := by
    intro r
    induction r with
    | nil => exact fun l ys e hy => .zero (fin ys (by rw [e, List.append_nil]; exact hy))
    | cons a r ih =>
      intro l ys e hy
      refine .succ fun v I oI C oC D m₂ h tk E' hv hC hx F N off ne => ?_
      obtain ⟨b, hb, hR⟩ := hP _ _ hv
      obtain rfl := item_eq e hb
      refine wpAny_mono (turnE b (List.mem_of_getElem? hb) v hR I oI C oC D ys m₂ h tk E' hC hx F N off ne) (fun y s' z => z.2.toEnd off hS ?_) fun _ _ q => q
      have next := ih (l ++ [b]) (ys ++ [y]) (by rw [e, List.append_assoc]; rfl) (hy.snoc z.1)
      rwa [List.length_append] at next
  exact go as [] [] rfl .nil
/-- all turns, with one test -/
theorem turns1 (p : α → Bool) {t : Expr} (n : Nat) (hn : as.length = n) (hP : ∀ i v, P i v → ∃ a, as[i]? = some a ∧ R a v) (hS : S news)
    (turn : ∀ a ∈ as, ∀ v, R a v → TestAt prog w A h₀ L m news x [t] scope cl env (p a) v s)
    (turnE : ∀ a ∈ as, p a = true → ∀ v, R a v → EltAt prog w A h₀ L m news x elt scope cl env (Y a) v s)
    (fin : ∀ ys, All2 Y (as.filter p) ys → Fin ys news) : LCt.CompRestT prog w A h₀ L m env t elt x scope cl s S P Fin n 0 [] news := by
  subst hn
  have go : ∀ (r l : List α) (ys : List Value), as = l ++ r → All2 Y (l.filter p) ys → LCt.CompRestT prog w A h₀ L m env t elt x scope cl s S P Fin r.length l.length ys news := by
    intro r
    induction r with
    | nil => exact fun l ys e hy => .zero (fin ys (by rw [e, List.append_nil]; exact hy))
    | cons a r ih =>
      intro l ys e hy
      refine .succ fun v I oI C oC D m₂ h tk E' hv hC hx F N off ne => ?_
      obtain ⟨b, hb, hR⟩ := hP _ _ hv
      obtain rfl := item_eq e hb
      have e' : as = (l ++ [b]) ++ r := by rw [e, List.append_assoc]; rfl
      refine wpAny_mono (turn b (List.mem_of_getElem? hb) v hR I oI C oC D ys m₂ h tk E' hC hx F N off ne) (fun ok s' z => ?_) fun _ _ q => q
      obtain ⟨rfl, z⟩ := z
      cases hp : p b with
      | false =>
        rw [if_neg Bool.false_ne_true]
        refine z.toEnd off hS ?_
        have next := ih (l ++ [b]) ys e' (by rw [List.filter_append]; simpa [hp] using hy)
        rwa [List.length_append] at next
      | true =>
        obtain ⟨h', tk', rfl, F', N'⟩ := z
        rw [if_pos rfl]
        refine wpAny_mono (turnE b (List.mem_of_getElem? hb) hp v hR I oI C oC D ys m₂ h' tk' E' hC hx F' N' off ne) (fun y s' z => z.2.toEnd off hS ?_) fun _ _ q => q
        have next := ih (l ++ [b]) (ys ++ [y]) e' (by rw [List.filter_append]; simpa [hp] using hy.snoc z.1)
        rwa [List.length_append] at next
  exact go as [] [] rfl .nil
end
end
end Mine
end

section
open PySem PySem.W PyProof.Rows PySem.Calls
open Sem (wp)
set_option maxRecDepth 100000
set_option maxHeartbeats 4000000
namespace Mine
section
variable {prog : Program} {w : World} {A : Around} {E : Value → Shared → Prop} {s : Shared} {h₀ : Heap} {L : Addr} {m : Str → Option Value} {env : Env} {news : List (Addr × Obj)}
/-- what follows a comprehension -/
def FinT (h₀ : Heap) (L : Addr) (m : Str → Option Value) (news : List (Addr × Obj)) (s : Shared) {α : Type} (Y : α → Value → Prop) (l : List α) (Q : Value → Shared → Prop) : Prop :=
  ∀ D ys h tk, Fr h₀ L h m → News h₀ L h ((D, LCg.lst ys) :: news) → LCg.Off1 D news → All2 Y l ys → Q (.ref D) { s with heap := h, toks := tk }
def FinV (h₀ : Heap) (L : Addr) (m : Str → Option Value) (news : List (Addr × Obj)) (s : Shared) (y : Str) {α : Type} (Y : α → Value → Prop) (l : List α) (Q : Flow → Shared → Prop) : Prop :=
  ∀ D ys h tk, Fr h₀ L h (fun z => if z = y then some (.ref D) else m z) → News h₀ L h ((D, LCg.lst ys) :: news) → LCg.Off1 D news → All2 Y l ys → Q .next { s with heap := h, toks := tk }
/-- the ledger stands over a change at an address of none of its objects -/
theorem stands {h h' : Heap} {C : Addr} {led : List (Addr × Obj)} (N : News h₀ L h led) (hs : Heap.SameBut C h h') (off : ∀ p ∈ led, p.1 ≠ C) : News h₀ L h' led :=
  LCg.news_but N (fun b o hb e => hs.extBut b o (fun e' => hb (e' ▸ List.mem_singleton.mpr rfl)) e) off

/-- the block of a comprehension over a text, from its iterator on -/
theorem over_text {elt iter : Expr} {x : Str} {px : Pos} {ifs : List Expr} {scope : Scope} {pos : Pos} {tx : Str} {u : Tok} {RR : Value → Addr → Result → Shared → Prop} (p : Nat → Bool) (Y : Nat → Value → Prop) (hif : ifs.length ≤ 1)
    (hh : A.handled = none) (F : Fr h₀ L s.heap m) (N : News h₀ L s.heap news) (hsz : tx.cps.size ≤ sizeLine) (hasc : tx.cps.all (· < 128) = true)
    (hcell : ∀ y ∈ scope.names, y.2 ≠ .cell) (hkind : scope.kind = .function) (hx : scope.names.lookup x = some .local)
    (turn : ∀ c ∈ tx.cps.toList, ∀ t s', TestAt prog w A h₀ L m news x ifs scope [] env (p c) (.str ⟨#[c]⟩ t) s')
    (turnE : ∀ c ∈ tx.cps.toList, p c = true → ∀ t s', EltAt prog w A h₀ L m news x elt scope [] env (Y c) (.str ⟨#[c]⟩ t) s')
    (fin : ∀ D C h tk m' ys, Fr h₀ L h m → News h₀ L h ((D, LCg.lst ys) :: news) → LCg.Off1 D news → h.Ns C m' → h₀.get? C = none → C ≠ L → (∀ q ∈ (D, LCg.lst ys) :: news, q.1 ≠ C) → All2 Y (tx.cps.toList.filter p) ys → RR (.ref D) C (.ok .next) { s with heap := h, toks := tk }) :
    wpAny (model prog w) A (pyIter (.str tx u)) (fun it s₂ => wpAny (model prog w) A (newList []) (fun acc s₃ => wpAny (model prog w) A (newFunctionEnv scope env.globals [] [] env.qual none .none (some env)) (fun cenv s₄ =>
      codeAny (model prog w) A (.compStart (.ListComp elt [⟨.Name x px, iter, ifs, 0⟩] scope pos) 0 it acc { cenv with scope := relabel scope env }) (RR acc cenv.locals) s₄) E s₃) E s₂) E s := by
  refine wpAny_pyIter_ascii hasc ?_
  let J : Obj := { cls := .type "str_ascii_iterator", data := .fields #[.str tx u, .int 0 0] }
  have grown : ∀ b o, s.heap.get? b = some o → (s.heap.push J).get? b = some o := fun b o e => Heap.get?_push_of_some J e
  have W := Walks.strAscii (prog := prog) (w := w) (A := A) hh s.heap.objs.size tx u
  have start : (s.heap.push J).IsStrIter s.heap.objs.size "str_ascii_iterator" tx u 0 := ⟨J, Heap.get?_push_size _ rfl, rfl, rfl⟩
  have sign : ∀ i v, SignAt tx i v → ∃ c, tx.cps.toList[i]? = some c ∧ ∃ t, v = Value.str ⟨#[c]⟩ t := fun i v hv => by
    obtain ⟨c, t, hc, rfl⟩ := hv
    exact ⟨c, (Array.getElem?_toList).trans hc, t, rfl⟩
  have one : ∀ b ∈ [s.heap.objs.size], b < (s.heap.push J).objs.size := fun b hb => by
    rw [List.mem_singleton.mp hb, Heap.size_push]; exact Nat.lt_succ_self _
  have some_obj : ∀ i h, Heap.IsStrIter h s.heap.objs.size "str_ascii_iterator" tx u i → ∃ o, h.get? s.heap.objs.size = some o := fun i h st => st.imp fun _ e => e.1
  have moved : ∀ i (h h' : Heap) (o : Obj) (nw : List (Addr × Obj)), Heap.IsStrIter h s.heap.objs.size "str_ascii_iterator" tx u i → h.get? s.heap.objs.size = some o → h'.get? s.heap.objs.size = some o →
      (∀ b o, h₀.get? b = some o → h'.get? b = some o) → News h₀ L h' nw → True → Heap.IsStrIter h' s.heap.objs.size "str_ascii_iterator" tx u i := fun i h h' o nw st e e' _ _ _ => by
    obtain ⟨o', q, r⟩ := st
    obtain rfl := Option.some.inj (e.symm.trans q)
    exact ⟨o, e', r⟩
  have apart : ∀ {D C : Addr} {ys : List Value}, C ≠ D → (∀ q ∈ news, q.1 ≠ C) → ∀ q ∈ (D, LCg.lst ys) :: news, q.1 ≠ C := fun hCD hq => List.forall_mem_cons.mpr ⟨hCD.symm, hq⟩
  have end' : ∀ D C h tk m' ys (nw : List (Addr × Obj)), Fr h₀ L h m → News h₀ L h ((D, LCg.lst ys) :: nw) → LCg.Off1 D nw → h.Ns C m' → h₀.get? C = none → h₀.get? D = none → C ≠ L → D ≠ L → C ≠ D → (∀ q ∈ nw, q.1 ≠ C) →
      (nw = news ∧ All2 Y (tx.cps.toList.filter p) ys) → RR (.ref D) C (.ok .next) { s with heap := h, toks := tk } := fun D C h tk m' ys nw g1 g2 g3 g4 g5 _ g7 _ g9 g10 g11 => by
    obtain ⟨rfl, hY⟩ := g11
    exact fin D C h tk m' ys g1 g2 g3 g4 g5 g7 (apart g9 g10) hY
  match ifs, hif with
  | [], _ =>
    have all : tx.cps.toList.filter p = tx.cps.toList := List.filter_eq_self.mpr fun c hc => turn c hc 0 s
    exact LCg.block_U W hsz some_obj moved hcell hkind hx start one (F.keeps grown) (N.grown grown) (Nat.ne_of_lt F.ns.lt) (next_is_new F) (fun q hq => Nat.ne_of_lt (Heap.lt_size (N q hq).1)) trivial
      (turns0 (Y := Y) (Fin := fun ys nw => nw = news ∧ All2 Y (tx.cps.toList.filter p) ys) _ (Array.length_toList) sign trivial (fun c hc v hv => by obtain ⟨t, rfl⟩ := hv; exact turnE c hc (turn c hc 0 s) t _) fun ys hY => ⟨rfl, all.symm ▸ hY⟩) end'
  | [t], _ =>
    exact LCt.block_T W hsz some_obj moved hcell hkind hx start one (F.keeps grown) (N.grown grown) (Nat.ne_of_lt F.ns.lt) (next_is_new F) (fun q hq => Nat.ne_of_lt (Heap.lt_size (N q hq).1)) trivial
      (turns1 (Y := Y) (Fin := fun ys nw => nw = news ∧ All2 Y (tx.cps.toList.filter p) ys) p _ (Array.length_toList) sign trivial (fun c hc v hv => by obtain ⟨t, rfl⟩ := hv; exact turn c hc t _)
        (fun c hc hp v hv => by obtain ⟨t, rfl⟩ := hv; exact turnE c hc hp t _) fun ys hY => ⟨rfl, hY⟩) end'

/-- over a text -/
theorem LC_text {elt : Expr} {x nm : Str} {px pn : Pos} {ifs : List Expr} {scope : Scope} {pos : Pos} {tx : Str} {u : Tok} {Q : Value → Shared → Prop} (p : Nat → Bool) (Y : Nat → Value → Prop) (hh : A.handled = none) (F : Fr h₀ L s.heap m) (N : News h₀ L s.heap news)
    (hld : wpAny (model prog w) A (eval (.Name nm pn) env) (fun v s' => v = .str tx u ∧ s' = s) E s) (hsz : tx.cps.size ≤ sizeLine) (hasc : tx.cps.all (· < 128) = true)
    (hclos : closureFor scope env = pure []) (hcell : ∀ y ∈ scope.names, y.2 ≠ .cell) (hkind : scope.kind = .function)
    (hnames : ∀ y ∈ scope.names, y.2 = .local → scope.names.lookup y.1 = some .local) (hx : scope.names.lookup x = some .local)
    (turn : ∀ c ∈ tx.cps.toList, ∀ t s', TestAt prog w A h₀ L m news x ifs scope [] env (p c) (.str ⟨#[c]⟩ t) s')
    (turnE : ∀ c ∈ tx.cps.toList, p c = true → ∀ t s', EltAt prog w A h₀ L m news x elt scope [] env (Y c) (.str ⟨#[c]⟩ t) s')
    (fin : FinT h₀ L m news s Y (tx.cps.toList.filter p) Q)
    (hs : ∀ x, foldedSetIterable (.Name nm pn) env x = pure x) (hif : ifs.length ≤ 1 := by exact Nat.le_of_ble_eq_true rfl) :
    wpAny (model prog w) A (eval (.ListComp elt [⟨.Name x px, .Name nm pn, ifs, 0⟩] scope pos) env) Q E s := by
  rw [eval_ListComp]
  refine wpAny_comprehension_free (use := none) rfl hs hclos hkind hnames (wpAny_mono hld (fun v s' e => ?_) fun _ _ e => e)
  obtain ⟨rfl, rfl⟩ := e
  exact over_text p Y hif hh F N hsz hasc hcell hkind hx turn turnE fun D C h tk m' ys F' N' o hn hC hCL off hY =>
    ⟨m', hn, fun g hg => fin D ys g tk (F'.change hg hCL hC) (stands N' hg off) o hY⟩

/-- over a text, its value stored under a name -/
theorem LCA_text {elt : Expr} {x nm y : Str} {px pn py : Pos} {ifs : List Expr} {scope : Scope} {pos spos : Pos} {tx : Str} {u : Tok} {Q : Flow → Shared → Prop} (p : Nat → Bool) (Y : Nat → Value → Prop) (hh : A.handled = none) (F : Fr h₀ L s.heap m) (N : News h₀ L s.heap news) (hLe : env.locals = L)
    (hld : wpAny (model prog w) A (eval (.Name nm pn) env) (fun v s' => v = .str tx u ∧ s' = s) E s) (hsz : tx.cps.size ≤ sizeLine) (hasc : tx.cps.all (· < 128) = true)
    (hsw : swapsWith (.ListComp elt [⟨.Name x px, .Name nm pn, ifs, 0⟩] scope pos) (some (.Name y py)) spos.line env = pure true)
    (hclos : closureFor scope env = pure []) (hcell : ∀ y ∈ scope.names, y.2 ≠ .cell) (hkind : scope.kind = .function)
    (hnames : ∀ y ∈ scope.names, y.2 = .local → scope.names.lookup y.1 = some .local) (hx : scope.names.lookup x = some .local)
    (hy : env.kindOf y = some .local) (hp : (env.scope.kind == .class || (env.scope.kind == .module && env.locals != env.globals)) = false)
    (turn : ∀ c ∈ tx.cps.toList, ∀ t s', TestAt prog w A h₀ L m news x ifs scope [] env (p c) (.str ⟨#[c]⟩ t) s')
    (turnE : ∀ c ∈ tx.cps.toList, p c = true → ∀ t s', EltAt prog w A h₀ L m news x elt scope [] env (Y c) (.str ⟨#[c]⟩ t) s')
    (fin : FinV h₀ L m news s y Y (tx.cps.toList.filter p) Q)
    (hs : ∀ x, foldedSetIterable (.Name nm pn) env x = pure x) (hif : ifs.length ≤ 1 := by exact Nat.le_of_ble_eq_true rfl) :
    wpAny (model prog w) A (exec (.Assign [.Name y py] (.ListComp elt [⟨.Name x px, .Name nm pn, ifs, 0⟩] scope pos) spos) env) Q E s := by
  rw [exec_Assign_Name_used _ _ _ _ hsw]
  refine wpAny_bind (wpAny_standAt (wpAny_bind (m := comprehension (.ListComp elt [⟨.Name x px, .Name nm pn, ifs, 0⟩] scope pos) scope env _ (newList []) false (eval (.Name nm pn) env) (some (assign (.Name y py) env)) >>= fun _ => pure ()) (wpAny_bind ?_)))
  refine wpAny_mono (wpAny_comprehension_free (use := some (assign (.Name y py) env)) (Q := fun _ s' => Q .next s') rfl hs hclos hkind hnames (wpAny_mono hld (fun v s' e => ?_) fun _ _ e => e)) (fun _ _ q => wpAny_pure (wpAny_pure q)) fun _ _ e => e
  obtain ⟨rfl, rfl⟩ := e
  refine over_text p Y hif hh F N hsz hasc hcell hkind hx turn turnE fun D C h tk m' ys F' N' o hn hC hCL off hY => ?_
  subst hLe
  have unknown : h₀.get? env.locals = none := Heap.get?_none_of_le F'.above
  show wpAny _ A (assign (.Name y py) env (.ref D)) _ _ _
  refine wpAny_assign_Name (wpAny_storeName_local hy F'.ns (fun g ns bound => ⟨m', hn.sameBut bound hCL, fun g' freed => ?_⟩) hp)
  have stored : Fr h₀ env.locals g (fun z => if z = y then some (.ref D) else m z) :=
    ⟨ns, fun b o e => bound.extBut b o (fun q => absurd (unknown.symm.trans (q ▸ e)) (Option.some_ne_none o).symm) (F'.keep b o e), F'.above⟩
  exact fin D ys g' _ (stored.change freed hCL hC) (stands (stands N' bound fun q hq => (N' q hq).2.1) freed off) o hY

/-- over a list of texts that the call has made -/
theorem LC_list {elt : Expr} {x nm : Str} {px pn : Pos} {ifs : List Expr} {scope : Scope} {pos : Pos} {ax : Addr} {l : List (Str × Tok)} {k : Nat} {Q : Value → Shared → Prop} (p : Str → Bool) (Y : Str → Value → Prop) (hh : A.handled = none) (F : Fr h₀ L s.heap m) (N : News h₀ L s.heap news)
    (hld : wpAny (model prog w) A (eval (.Name nm pn) env) (fun v s' => v = .ref ax ∧ s' = s) E s) (hm : (ax, W.listOf (strValues l).toArray k) ∈ news) (hsz : l.length ≤ sizeLine)
    (hclos : closureFor scope env = pure []) (hcell : ∀ y ∈ scope.names, y.2 ≠ .cell) (hkind : scope.kind = .function)
    (hnames : ∀ y ∈ scope.names, y.2 = .local → scope.names.lookup y.1 = some .local) (hx : scope.names.lookup x = some .local)
    (turn : ∀ c ∈ l.map (·.1), ∀ t s', TestAt prog w A h₀ L m news x ifs scope [] env (p c) (.str c t) s')
    (turnE : ∀ c ∈ l.map (·.1), p c = true → ∀ t s', EltAt prog w A h₀ L m news x elt scope [] env (Y c) (.str c t) s')
    (fin : FinT h₀ L m news s Y ((l.map (·.1)).filter p) Q)
    (hs : ∀ x, foldedSetIterable (.Name nm pn) env x = pure x) (hif : ifs.length ≤ 1 := by exact Nat.le_of_ble_eq_true rfl) :
    wpAny (model prog w) A (eval (.ListComp elt [⟨.Name x px, .Name nm pn, ifs, 0⟩] scope pos) env) Q E s := by
  have len : (strValues l).toArray.size = l.length := by simp [strValues]
  have fits : (strValues l).toArray.size ≤ sizeLine := len ▸ hsz
  have many : (l.map (·.1)).length = (strValues l).toArray.size := by rw [len, List.length_map]
  have item : ∀ (i : Nat) v, (strValues l).toArray[i]? = some v → ∃ c, (l.map (·.1))[i]? = some c ∧ ∃ t, v = Value.str c t := fun i v hv => by
    rw [List.getElem?_toArray, strValues, List.getElem?_map] at hv
    obtain ⟨q, hq, rfl⟩ := Option.map_eq_some_iff.mp hv
    exact ⟨q.1, by rw [List.getElem?_map, hq]; rfl, q.2, rfl⟩
  match ifs, hif with
  | [], _ =>
    have all : (l.map (·.1)).filter p = l.map (·.1) := List.filter_eq_self.mpr fun c hc => turn c hc 0 s
    refine LCg.ListComp_U F hclos hcell hkind hnames hx (wpAny_mono hld (fun v s' e => ?_) fun _ _ e => e) hs
    obtain ⟨rfl, rfl⟩ := e
    refine .ledger hh F N hm fits fun g => turns0 (Y := Y) _ many item (.inr ⟨_, hm, rfl, _, rfl⟩) (fun c hc v hv => ?_) fun ys hY D h tk F' N' o => fin D ys h tk F' N' o (all.symm ▸ hY)
    obtain ⟨t, rfl⟩ := hv
    exact turnE c hc (turn c hc 0 s') t _
  | [t], _ =>
    refine LCt.ListComp_T F hclos hcell hkind hnames hx (wpAny_mono hld (fun v s' e => ?_) fun _ _ e => e) hs
    obtain ⟨rfl, rfl⟩ := e
    refine .ledger hh F N hm fits fun g => turns1 (Y := Y) p _ many item (.inr ⟨_, hm, rfl, _, rfl⟩) (fun c hc v hv => ?_) (fun c hc hp v hv => ?_) fun ys hY D h tk F' N' o => fin D ys h tk F' N' o hY
    · obtain ⟨t, rfl⟩ := hv
      exact turn c hc t _
    · obtain ⟨t, rfl⟩ := hv
      exact turnE c hc hp t _
end
end Mine
end

section
open PySem PySem.W PyProof.Rows PySem.Calls
open Sem (wp)
set_option maxRecDepth 100000
set_option maxHeartbeats 4000000
namespace Mine
/-- how a loop's turn ends: all names but two, and the ledger, stand -/
def TurnTwo (h₀ : Heap) (L : Addr) (x y : Str) (m : Str → Option Value) (led : List (Addr × Obj)) (s : Shared) (Q : Flow → Shared → Prop) (f : Flow) (s' : Shared) : Prop :=
  match f with
  | .ret v => Q (.ret v) s'
  | .brk => Q .next s'
  | _ => ∃ h' tk m', s' = { s with heap := h', toks := tk } ∧ Fr h₀ L h' m' ∧ News h₀ L h' led ∧ ∀ z, z ≠ x → z ≠ y → m' z = m z
/-- a turn of a loop over a text's signs or a list's texts: x the loop's name, y another that the body stores -/
def Turn2 (prog : Program) (w : World) (A : Around) (E : Value → Shared → Prop) (s : Shared) (h₀ : Heap) (m : Str → Option Value) (env : Env) (news : List (Addr × Obj)) (x y : Str) (body : List Stmt) (Q : Flow → Shared → Prop) (v : Value) : Prop :=
  ∀ (u : Str → Option Value) (I : Addr) (oI : Obj) (h : Heap) (tk : Nat), Fr h₀ env.locals h (fun z => if z = x then some v else if z = y then u z else m z) → News h₀ env.locals h ((I, oI) :: news) →
    wpAny (model prog w) A (execs body env) (TurnTwo h₀ env.locals x y m ((I, oI) :: news) { s with heap := h, toks := tk } Q) E { s with heap := h, toks := tk }
def Done2 (s : Shared) (h₀ : Heap) (m : Str → Option Value) (env : Env) (news : List (Addr × Obj)) (x y : Str) (Q : Flow → Shared → Prop) : Prop :=
  ∀ (u : Str → Option Value) (h : Heap) (tk : Nat), Fr h₀ env.locals h (fun z => if z = x then u z else if z = y then u z else m z) → News h₀ env.locals h news → Q .next { s with heap := h, toks := tk }
theorem TurnTwo.next' {h₀ : Heap} {L : Addr} {x y : Str} {m m' : Str → Option Value} {led : List (Addr × Obj)} {s : Shared} {Q : Flow → Shared → Prop} {h' : Heap} {tk : Tok} (F : Fr h₀ L h' m') (N : News h₀ L h' led) (hm : ∀ z, z ≠ x → z ≠ y → m' z = m z) :
    TurnTwo h₀ L x y m led s Q .next { s with heap := h', toks := tk } := ⟨h', tk, m', rfl, F, N, hm⟩
section
variable {prog : Program} {w : World} {A : Around} {E : Value → Shared → Prop} {s : Shared} {h₀ : Heap} {m : Str → Option Value} {env : Env} {news : List (Addr × Obj)}
theorem loopTwo {α : Type} (as : List α) (R : α → Value → Prop) {x y : Str} {body : List Stmt} {I : Addr} {fp : List Addr} {P : Nat → Value → Prop} {St : Nat → Heap → Prop} {Q : Flow → Shared → Prop}
    (W : Walks prog w A I fp [I] as.length P St) (hP : ∀ i v, P i v → ∃ a, as[i]? = some a ∧ R a v) (hIo : ∀ i h, St i h → ∃ o, h.get? I = some o) (hfpk : ∀ b ∈ fp, b = I ∨ ∃ o, (b, o) ∈ news) (hLf : env.locals ∉ fp) (hI₀ : h₀.get? I = none) (hnw : ∀ p ∈ news, p.1 ≠ I) (hst : St 0 s.heap)
    (F : Fr h₀ env.locals s.heap m) (N : News h₀ env.locals s.heap news)
    (turn : ∀ a ∈ as, ∀ v, R a v → Turn2 prog w A E s h₀ m env news x y body Q v)
    (done : Done2 s h₀ m env news x y Q) :
    LoopAtV prog w A h₀ env x body Q E (.ref I) s := by
  refine ⟨I, fp, [I], as.length, P, St, m, news, fun _ m₁ news₁ => news₁ = news ∧ ∀ z, z ≠ x → z ≠ y → m₁ z = m z, rfl, W, hLf, fun b hb => by rw [List.mem_singleton.mp hb]; exact hI₀,
    fun p hp hb => hnw p hp (List.mem_singleton.mp hb), hst, F, N, ⟨rfl, fun _ _ _ => rfl⟩, ?_, ?_⟩
  · rintro i v m₁ news s₁ own ⟨h, tk, rfl⟩ hi hPv ⟨rfl, hm₁⟩ hnw₁ hsub hget hall hst₁ F₁ N₁
    obtain ⟨a, ha, hR⟩ := hP i v hPv
    obtain ⟨oI, hoI⟩ := hIo _ _ hst₁
    have hoI' : h.get? I = some oI := hoI
    have hIf : I ∈ fp := W.sub I (List.mem_singleton.mpr rfl)
    have F₂ : Fr h₀ env.locals h (fun z => if z = x then some v else if z = y then m₁ z else m z) := by
      have e : (fun z => if z = x then some v else if z = y then m₁ z else m z) = (fun z => if z = x then some v else m₁ z) := by
        funext z
        by_cases hx : z = x
        · rw [if_pos hx, if_pos hx]
        · rw [if_neg hx, if_neg hx]
          by_cases hy : z = y
          · rw [if_pos hy]
          · rw [if_neg hy, hm₁ z hx hy]
      rw [e]
      exact F₁
    have N₂ : News h₀ env.locals h ((I, oI) :: news) := fun p hp => by
      rcases List.mem_cons.mp hp with rfl | hp
      · exact N₁ _ (List.mem_append_left _ (hall I hIf hI₀ oI hoI))
      · exact N₁ _ (List.mem_append_right _ hp)
    refine wpAny_mono (turn a (List.mem_of_getElem? ha) v hR m₁ I oI h tk F₂ N₂) (fun f s₂ hf => ?_) fun _ _ e => e
    have fin : (∃ h' tk' m', s₂ = { s with heap := h', toks := tk' } ∧ Fr h₀ env.locals h' m' ∧ News h₀ env.locals h' ((I, oI) :: news) ∧ ∀ z, z ≠ x → z ≠ y → m' z = m z) →
        LoopStepU h₀ env.locals [I] own (fun m₁ news₁ => news₁ = news ∧ ∀ z, z ≠ x → z ≠ y → m₁ z = m z) { s with heap := h, toks := tk } .next s₂ := by
      rintro ⟨h', tk', m', rfl, F', N', hm'⟩
      refine ⟨rfl, h', tk', m', news, rfl, F', fun p hp => ?_, fun p hp hb => hnw p hp (List.mem_singleton.mp hb), rfl, hm'⟩
      rcases List.mem_append.mp hp with hp | hp
      · have hg : h.get? p.1 = some p.2 := hget p hp
        rcases hfpk _ (hsub p hp) with e | ⟨o, ho⟩
        · have e2 : p = (I, oI) := by
            rw [e, hoI'] at hg
            obtain ⟨p1, p2⟩ := p
            simp only [Option.some.injEq] at hg e
            rw [e, ← hg]
          rw [e2]
          exact N' _ (.head _)
        · have z := (N₁ _ (List.mem_append_right _ ho)).1
          have z' : h.get? p.1 = some o := z
          rw [hg] at z'
          have e2 : p = (p.1, o) := by
            obtain ⟨p1, p2⟩ := p
            simp only [Option.some.injEq] at z'
            rw [z']
          rw [e2]
          exact N' _ (.tail _ ho)
      · exact N' _ (.tail _ hp)
    cases f with
    | ret v => exact .ret hf
    | brk => exact .brk hf
    | next => exact .next (fin hf)
    | cont => exact .cont (fin hf)
  · rintro h' tk m' news' F' N' _ ⟨rfl, hm'⟩
    have e : (fun z => if z = x then m' z else if z = y then m' z else m z) = m' := by
      funext z
      by_cases hx : z = x
      · rw [if_pos hx]
      · rw [if_neg hx]
        by_cases hy : z = y
        · rw [if_pos hy]
        · rw [if_neg hy, hm' z hx hy]
    refine done m' h' tk ?_ N'
    rw [e]
    exact F'

/-- the loop over a list of texts that the call has made -/
theorem loop_texts (y : Str) {x : Str} {body : List Stmt} {Q : Flow → Shared → Prop} {ax : Addr} {l : List (Str × Tok)} {k : Nat} (hh : A.handled = none) (F : Fr h₀ env.locals s.heap m) (N : News h₀ env.locals s.heap news)
    (hm : (ax, W.listOf (strValues l).toArray k) ∈ news)
    (turn : ∀ a ∈ l.map (·.1), ∀ t, Turn2 prog w A E s h₀ m env news x y body Q (.str a t))
    (done : Done2 s h₀ m env news x y Q) :
    wpAny (model prog w) A (pyIter (.ref ax)) (fun it s₂ => LoopAtV prog w A h₀ env x body Q E it s₂) E s := by
  have hl : s.heap.IsList ax (strValues l).toArray := ⟨_, (N _ hm).1, rfl, k, rfl⟩
  have hlt : ax < s.heap.objs.size := Heap.lt_size (N _ hm).1
  refine wpAny_pyIter_list hl ?_
  have hlen : (l.map (·.1)).length = (strValues l).toArray.size := by simp [strValues]
  have W := Walks.list (prog := prog) (w := w) (A := A) hh s.heap.objs.size ax (Nat.ne_of_lt hlt) (strValues l).toArray
  rw [← hlen] at W
  refine loopTwo (y := y) (l.map (·.1)) (fun c v => ∃ t, v = Value.str c t) W (fun i v hv => ?_) (fun i h st => ?_) (fun b hb => ?_) (fun hm' => ?_) (next_is_new F) (fun p hp => Nat.ne_of_lt (Heap.lt_size (N p hp).1)) ⟨⟨_, Heap.get?_push_size _ rfl, rfl, rfl⟩, hl.push _⟩ (F.push _) (fun p hp => ⟨Heap.get?_push_of_some _ (N p hp).1, (N p hp).2⟩) (fun c hc v hv => ?_) ?_
  · have hv : (strValues l).toArray[i]? = some v := hv
    rw [List.getElem?_toArray] at hv
    unfold strValues at hv
    rw [List.getElem?_map] at hv
    obtain ⟨q, hq, rfl⟩ := Option.map_eq_some_iff.mp hv
    exact ⟨q.1, by rw [List.getElem?_map, hq]; rfl, q.2, rfl⟩
  · obtain ⟨⟨o, e, _⟩, _⟩ := st; exact ⟨o, e⟩
  · rcases List.mem_cons.mp hb with rfl | hb
    · exact .inl rfl
    · rw [List.mem_singleton.mp hb]; exact .inr ⟨_, hm⟩
  · rcases List.mem_cons.mp hm' with e | hb
    · exact absurd F.ns.lt (e ▸ Nat.lt_irrefl _)
    · exact (N _ hm).2.1 (List.mem_singleton.mp hb).symm
  · obtain ⟨t, rfl⟩ := hv
    exact turn c hc t
  · exact done

/-- the loop over a text -/
theorem loop_signs (y : Str) {x : Str} {body : List Stmt} {Q : Flow → Shared → Prop} {tx : Str} {u : Tok} (hh : A.handled = none) (F : Fr h₀ env.locals s.heap m) (N : News h₀ env.locals s.heap news)
    (hasc : tx.cps.all (· < 128) = true)
    (turn : ∀ c ∈ tx.cps.toList, ∀ t, Turn2 prog w A E s h₀ m env news x y body Q (.str ⟨#[c]⟩ t))
    (done : Done2 s h₀ m env news x y Q) :
    wpAny (model prog w) A (pyIter (.str tx u)) (fun it s₂ => LoopAtV prog w A h₀ env x body Q E it s₂) E s := by
  refine wpAny_pyIter_ascii hasc ?_
  have hlen : tx.cps.toList.length = tx.cps.size := Array.length_toList
  have W := Walks.strAscii (prog := prog) (w := w) (A := A) hh s.heap.objs.size tx u
  rw [← hlen] at W
  refine loopTwo (y := y) tx.cps.toList (fun c v => ∃ t, v = Value.str ⟨#[c]⟩ t) W (fun i v hv => ?_) (fun i h st => ?_) (fun b hb => .inl (List.mem_singleton.mp hb)) (fun hm' => ?_) (next_is_new F) (fun p hp => Nat.ne_of_lt (Heap.lt_size (N p hp).1)) ⟨_, Heap.get?_push_size _ rfl, rfl, rfl⟩ (F.push _) (fun p hp => ⟨Heap.get?_push_of_some _ (N p hp).1, (N p hp).2⟩) (fun c hc v hv => ?_) ?_
  · obtain ⟨c, t, hc, rfl⟩ := hv
    exact ⟨c, by rw [Array.getElem?_toList]; exact hc, t, rfl⟩
  · obtain ⟨o, e, _⟩ := st; exact ⟨o, e⟩
  · have e := List.mem_singleton.mp hm'
    exact absurd F.ns.lt (e ▸ Nat.lt_irrefl _)
  · obtain ⟨t, rfl⟩ := hv
    exact turn c hc t
  · exact done
end
section
variable {prog : Program} {w : World} {A : Around} {E : Value → Shared → Prop} {s : Shared} {h₀ : Heap} {L : Addr} {m : Str → Option Value} {news : List (Addr × Obj)}
theorem All2.strs {g : Nat → Str} : ∀ {l : List Nat} {ys : List Value}, All2 (fun c v => ∃ t, v = Value.str (g c) t) l ys → StrsAre ys (l.map g)
  | _, _, .nil => .nil
  | _, _, .cons ⟨t, e⟩ r => by subst e; exact .cons _ t r.strs
theorem All2.strs_all {g : Nat → Str} {l : List Nat} {ys : List Value} (h : All2 (fun c v => ∃ t, v = Value.str (g c) t) (l.filter fun _ => true) ys) : StrsAre ys (l.map g) := by
  rw [List.filter_eq_self.mpr (fun _ _ => rfl)] at h
  exact h.strs
theorem All2.none {α : Type} {Y : α → Value → Prop} {l : List α} {ys : List Value} (h : All2 Y (l.filter fun _ => false) ys) : ys = [] := by
  rw [List.filter_eq_nil_iff.mpr (fun _ _ => Bool.false_ne_true)] at h
  cases h
  rfl
theorem joinN {D : Addr} {ys : List Value} {ts : List Str} {sep : Str} {t : Tok} {Q : Value → Shared → Prop} {k : Nat} (N : News h₀ L s.heap news) (hm : (D, W.listOf ys.toArray k) ∈ news) (hy : StrsAre ys ts) (hok : (ts.map (·.length)).sum + ts.length * sep.length ≤ 16777216)
    (h : ∀ t' k, Q (.str (Txt.join sep ts) t') { s with toks := k }) : wpAny (model prog w) A (call (.builtin "str.join") [.str sep t, .ref D]) Q E s :=
  join_list (items := ys.toArray) ⟨_, (N _ hm).1, rfl, k, rfl⟩ (by simpa using hy) hok h
end
section
variable {prog : Program} {w : World} {A : Around} {E : Value → Shared → Prop} {s : Shared} {h₀ : Heap} {L : Addr} {m : Str → Option Value} {news : List (Addr × Obj)}
/-- the words of what capwords told -/
def wordsF (x : Str) : List Str := if (capF x != Str.ofString "") = true then Txt.split (capF x) (Str.ofString " ") else []
def WordsPost (x : Str) (h₀ : Heap) (L : Addr) (m : Str → Option Value) (news : List (Addr × Obj)) (s : Shared) (v : Value) (s' : Shared) : Prop :=
  ∃ D l h tk, v = .ref D ∧ s' = { s with heap := h, toks := tk } ∧ l.map (·.1) = wordsF x ∧ Fr h₀ L h m ∧ News h₀ L h ((D, W.listOf (strValues l).toArray 0) :: news)
def WordsNext (x : Str) (h₀ : Heap) (L : Addr) (m : Str → Option Value) (news : List (Addr × Obj)) (s : Shared) (Q : Value → Shared → Prop) : Prop :=
  ∀ D l h tk, l.map (·.1) = wordsF x → Fr h₀ L h m → News h₀ L h ((D, W.listOf (strValues l).toArray 0) :: news) → Q (.ref D) { s with heap := h, toks := tk }
theorem ifWords {e : Expr} {env : Env} {x told : Str} {t : Tok} {Q : Value → Shared → Prop} (_F : Fr h₀ L s.heap m) (_N : News h₀ L s.heap news) (_hm : m told = some (.str (capF x) t))
    (h : wpAny (model prog w) A (eval e env) (WordsPost x h₀ L m news s) E s) (next : WordsNext x h₀ L m news s Q) : wpAny (model prog w) A (eval e env) Q E s :=
  wpAny_mono h (fun v s' ⟨D, l, hh, tk, e1, e2, e3, F', N'⟩ => by subst e1 e2; exact next D l hh tk e3 F' N') fun _ _ e => e
theorem WordsPost.split {x : Str} {D : Addr} {l : List (Str × Tok)} {h : Heap} {tk : Tok} (hne : (capF x != Str.ofString "") = true) (e : l.map (·.1) = Txt.split (capF x) (Str.ofString " ")) (F : Fr h₀ L h m) (N : News h₀ L h ((D, W.listOf (strValues l).toArray 0) :: news)) :
    WordsPost x h₀ L m news s (.ref D) { s with heap := h, toks := tk } := ⟨D, l, h, tk, rfl, rfl, by unfold wordsF; rw [if_pos hne]; exact e, F, N⟩
theorem WordsPost.none {x : Str} {D : Addr} {h : Heap} {tk : Tok} (hne : (capF x != Str.ofString "") = false) (F : Fr h₀ L h m) (N : News h₀ L h ((D, W.listOf #[] 0) :: news)) :
    WordsPost x h₀ L m news s (.ref D) { s with heap := h, toks := tk } := ⟨D, [], h, tk, rfl, rfl, by unfold wordsF; rw [hne]; rfl, F, N⟩
theorem ite_yes {c : Prop} [Decidable c] {P Q : Prop} (hc : c) (h : P) : if c then P else Q := by rw [if_pos hc]; exact h
theorem ite_no {c : Prop} [Decidable c] {P Q : Prop} (hc : ¬ c) (h : Q) : if c then P else Q := by rw [if_neg hc]; exact h
def cnt5 (b1 b2 b3 b4 b5 : Bool) : Nat := ([Value.bool b1, .bool b2, .bool b3, .bool b4, .bool b5]).countP (isBoolOf true)
theorem count5 {D : Addr} {b1 b2 b3 b4 b5 : Bool} {k : Nat} {Q : Value → Shared → Prop} (N : News h₀ L s.heap news) (hm : (D, W.listOf #[.bool b1, .bool b2, .bool b3, .bool b4, .bool b5] k) ∈ news)
    (h : Q (.int (cnt5 b1 b2 b3 b4 b5 : Nat) s.toks) { s with toks := s.toks + 1 }) : wpAny (model prog w) A (call (.builtin "list.count") [.ref D, .bool true]) Q E s := by
  have ho := (N _ hm).1
  refine call_meets PySem.F.slot_list_count ⟨_, ho, rfl⟩ PySem.F.entry_list_count (PySem.F.args_list_count_2 _ _) (PySem.SeqAt.list_countAt D #[.bool b1, .bool b2, .bool b3, .bool b4, .bool b5] k none #[] (.bool true) (isBoolOf true)) ⟨ho, fun y hy => ?_, h⟩
  have hy' : y ∈ [Value.bool b1, .bool b2, .bool b3, .bool b4, .bool b5] := Array.mem_toList_iff.mpr hy
  simp only [List.mem_cons, List.not_mem_nil, or_false] at hy'
  rcases hy' with rfl | rfl | rfl | rfl | rfl <;> exact PySem.SeqAt.EqAt.bool_bool _ true
theorem method_count {D : Addr} {items : Array Value} {k : Nat} {pl : Sem Bool} {Q : Value × List Value → Shared → Prop} (N : News h₀ L s.heap news) (hm : (D, W.listOf items k) ∈ news) (h : Q (.builtin "list.count", [.ref D]) s) :
    wpAny (model prog w) A (getMethod (.ref D) (Str.ofString "count") pl) Q E s :=
  getMethod_list_of PySem.F.slot_list_count PySem.F.type_list_count (items := items) ⟨_, (N _ hm).1, rfl, k, rfl⟩ ⟨_, (N _ hm).1, rfl⟩ h
end
section
variable {prog : Program} {w : World} {A : Around} {E : Value → Shared → Prop} {s : Shared} {h₀ : Heap} {L : Addr} {m : Str → Option Value} {env : Env} {news : List (Addr × Obj)}
/-- what follows a comprehension, its count of tokens told -/
def FinTT (h₀ : Heap) (L : Addr) (m : Str → Option Value) (news : List (Addr × Obj)) (s : Shared) {α : Type} (Y : α → Value → Prop) (l : List α) (Q : Value → Shared → Prop) : Prop :=
  ∀ D ys h tk, s.toks ≤ tk → Fr h₀ L h m → News h₀ L h ((D, LCg.lst ys) :: news) → LCg.Off1 D news → All2 Y l ys → Q (.ref D) { s with heap := h, toks := tk }
theorem LC_textT {elt : Expr} {x nm : Str} {px pn : Pos} {ifs : List Expr} {scope : Scope} {pos : Pos} {tx : Str} {u : Tok} {Q : Value → Shared → Prop} (p : Nat → Bool) (Y : Nat → Value → Prop) (hh : A.handled = none) (F : Fr h₀ L s.heap m) (N : News h₀ L s.heap news)
    (hld : ∀ E', wpAny (model prog w) A (eval (.Name nm pn) env) (fun v s' => v = .str tx u ∧ s' = s) E' s) (hsz : tx.cps.size ≤ sizeLine) (hasc : tx.cps.all (· < 128) = true)
    (hclos : closureFor scope env = pure []) (hcell : ∀ y ∈ scope.names, y.2 ≠ .cell) (hkind : scope.kind = .function)
    (hnames : ∀ y ∈ scope.names, y.2 = .local → scope.names.lookup y.1 = some .local) (hx : scope.names.lookup x = some .local)
    (turn : ∀ c ∈ tx.cps.toList, ∀ t s', TestAt prog w A h₀ L m news x ifs scope [] env (p c) (.str ⟨#[c]⟩ t) s')
    (turnE : ∀ c ∈ tx.cps.toList, p c = true → ∀ t s', EltAt prog w A h₀ L m news x elt scope [] env (Y c) (.str ⟨#[c]⟩ t) s')
    (fin : FinTT h₀ L m news s Y (tx.cps.toList.filter p) Q)
    (hs : ∀ x, foldedSetIterable (.Name nm pn) env x = pure x) (hif : ifs.length ≤ 1 := by exact Nat.le_of_ble_eq_true rfl) :
    wpAny (model prog w) A (eval (.ListComp elt [⟨.Name x px, .Name nm pn, ifs, 0⟩] scope pos) env) Q E s :=
  wpAny_with_toks (Nat.le_refl s.toks) (LC_text p Y hh F N (hld _) hsz hasc hclos hcell hkind hnames hx turn turnE (fun D ys h tk F' N' o hY htk => fin D ys h tk htk F' N' o hY) hs hif)
theorem joinNT {D : Addr} {ys : List Value} {ts : List Str} {sep : Str} {t : Tok} {Q : Value → Shared → Prop} {k : Nat} (N : News h₀ L s.heap news) (hm : (D, W.listOf ys.toArray k) ∈ news) (hy : StrsAre ys ts) (hok : (ts.map (·.length)).sum + ts.length * sep.length ≤ 16777216)
    (h : ∀ t' k, s.toks ≤ k → Q (.str (Txt.join sep ts) t') { s with toks := k }) : wpAny (model prog w) A (call (.builtin "str.join") [.str sep t, .ref D]) Q E s :=
  wpAny_with_toks (Nat.le_refl s.toks) (joinN N hm hy hok fun t' k htk => h t' k htk)
theorem replaceNT {x y z : Str} {t u v : Tok} {Q : Value → Shared → Prop} (hu : u ≠ 0) (hv : v ≠ 0) (huv : u ≠ v) (hyz : (y == z) = false) (hx : x.length ≤ 1048576) (hz : z.length ≤ 14)
    (h : ∀ t' k, s.toks ≤ k → Q (.str (Txt.replace x y z) t') { s with toks := k }) : wpAny (model prog w) A (call (.builtin "str.replace") [.str x t, .str y u, .str z v]) Q E s :=
  wpAny_with_toks (Nat.le_refl s.toks) (SC.replaceW hu hv huv hyz hx hz fun t' k htk => h t' k htk)
end
theorem ne0 {a b c : Nat} (h2 : b ≤ c) (h1 : a + 1 ≤ b) : c ≠ 0 := by omega
theorem ne0' {a c : Nat} (h1 : a + 1 ≤ c) : c ≠ 0 := by omega
/-- a statement that leaves the names and the ledger as they stood -/
def SamePost (h₀ : Heap) (L : Addr) (m : Str → Option Value) (news : List (Addr × Obj)) (s : Shared) (f : Flow) (s' : Shared) : Prop :=
  f = .next ∧ ∃ h tk, s' = { s with heap := h, toks := tk } ∧ Fr h₀ L h m ∧ News h₀ L h news
def SameNext (h₀ : Heap) (L : Addr) (m : Str → Option Value) (news : List (Addr × Obj)) (s : Shared) (Q : Flow → Shared → Prop) : Prop :=
  ∀ h tk, Fr h₀ L h m → News h₀ L h news → Q .next { s with heap := h, toks := tk }
theorem ifSame {prog : Program} {w : World} {A : Around} {E : Value → Shared → Prop} {s : Shared} {h₀ : Heap} {L : Addr} {m : Str → Option Value} {news : List (Addr × Obj)} {st : Stmt} {env : Env} {Q : Flow → Shared → Prop} (_F : Fr h₀ L s.heap m) (_N : News h₀ L s.heap news)
    (h : wpAny (model prog w) A (exec st env) (SamePost h₀ L m news s) E s) (next : SameNext h₀ L m news s Q) : wpAny (model prog w) A (exec st env) Q E s :=
  wpAny_mono h (fun f s' ⟨e1, hh, tk, e2, F', N'⟩ => by subst e1 e2; exact next hh tk F' N') fun _ _ e => e
theorem SamePost.mk' {h₀ : Heap} {L : Addr} {m : Str → Option Value} {news : List (Addr × Obj)} {s : Shared} {h : Heap} {tk : Tok} (F : Fr h₀ L h m) (N : News h₀ L h news) : SamePost h₀ L m news s .next { s with heap := h, toks := tk } := ⟨rfl, h, tk, rfl, F, N⟩
section
variable {prog : Program} {w : World} {A : Around} {E : Value → Shared → Prop} {s : Shared} {h₀ : Heap} {L : Addr} {m : Str → Option Value} {news : List (Addr × Obj)}
theorem len_texts {D : Addr} {l : List (Str × Tok)} {ws : List Str} {k : Nat} {Q : Value → Shared → Prop} (N : News h₀ L s.heap news) (hm : (D, W.listOf (strValues l).toArray k) ∈ news) (e : l.map (·.1) = ws) (hz : l.length ≤ sizeLine)
    (h : Q (.int (ws.length : Nat) (s.toks + 1)) { s with toks := s.toks + 1 + 1 }) : wpAny (model prog w) A (call (.builtin "len") [.ref D]) Q E s := by
  have hs : (strValues l).toArray.size = ws.length := by rw [← e]; simp [strValues]
  refine len_list (items := (strValues l).toArray) ⟨_, (N _ hm).1, rfl, k, rfl⟩ ?_ ?_
  · rw [hs, ← e, List.length_map]; rw [sizeLine_eq] at hz; omega
  · rw [hs]; exact h
theorem len_comp {α : Type} {Y : α → Value → Prop} {D : Addr} {l : List α} {ys : List Value} {Q : Value → Shared → Prop} (N : News h₀ L s.heap news) (hm : (D, LCg.lst ys) ∈ news) (hY : All2 Y l ys) (hz : l.length ≤ sizeLine)
    (h : Q (.int (l.length : Nat) (s.toks + 1)) { s with toks := s.toks + 1 + 1 }) : wpAny (model prog w) A (call (.builtin "len") [.ref D]) Q E s := by
  have hs : ys.toArray.size = l.length := by rw [List.size_toArray]; exact hY.length
  refine len_list (items := ys.toArray) ⟨_, (N _ hm).1, rfl, _, rfl⟩ ?_ ?_
  · rw [hs]; rw [sizeLine_eq] at hz; omega
  · rw [hs]; exact h
end
end Mine
end

section
open PySem PySem.W PyProof.Rows
set_option maxRecDepth 100000
namespace Mine
/-! plain lists -/
def J : List (List Nat) → List Nat
  | [] => []
  | [a] => a
  | a :: b :: r => a ++ 32 :: J (b :: r)
def splitL : List Nat → List (List Nat)
  | [] => [[]]
  | c :: r => if c = 32 then [] :: splitL r else match splitL r with
    | [] => [[c]]
    | h :: t => (c :: h) :: t
theorem splitL_app : ∀ (a : List Nat) (r : List Nat), 32 ∉ a → splitL (a ++ 32 :: r) = a :: splitL r
  | [], r, _ => by simp [splitL]
  | c :: a, r, h => by
    have hc : c ≠ 32 := fun e => h (by simp [e])
    have ih := splitL_app a r (fun hm => h (List.mem_cons_of_mem _ hm))
    rw [List.cons_append, splitL, if_neg hc, ih]
theorem splitL_one : ∀ (a : List Nat), 32 ∉ a → splitL a = [a]
  | [], _ => rfl
  | c :: a, h => by
    have hc : c ≠ 32 := fun e => h (by simp [e])
    rw [splitL, if_neg hc, splitL_one a (fun hm => h (List.mem_cons_of_mem _ hm))]
theorem splitL_J : ∀ (l : List (List Nat)), l ≠ [] → (∀ a ∈ l, 32 ∉ a) → splitL (J l) = l
  | [], h, _ => absurd rfl h
  | [a], _, h => splitL_one a (h a (List.mem_singleton.mpr rfl))
  | a :: b :: r, _, h => by
    rw [J, splitL_app _ _ (h a (List.mem_cons_self ..)), splitL_J (b :: r) (by simp) fun x hx => h x (List.mem_cons_of_mem _ hx)]
theorem J_filter : ∀ (l : List (List Nat)), (∀ a ∈ l, 32 ∉ a) → (J l).filter (· != 32) = l.flatten
  | [], _ => rfl
  | [a], h => by
    have : a.filter (· != 32) = a := List.filter_eq_self.mpr fun c hc => by
      have := h a (List.mem_singleton.mpr rfl)
      simp only [bne_iff_ne, ne_eq]
      rintro rfl
      exact this hc
    simpa [J] using this
  | a :: b :: r, h => by
    have h1 : a.filter (· != 32) = a := List.filter_eq_self.mpr fun c hc => by
      have := h a (List.mem_cons_self ..)
      simp only [bne_iff_ne, ne_eq]
      rintro rfl
      exact this hc
    have ih := J_filter (b :: r) fun x hx => h x (List.mem_cons_of_mem _ hx)
    rw [J, List.filter_append, h1, List.filter_cons_of_neg (by simp), ih]
    rfl
theorem J_mem : ∀ (l : List (List Nat)) (c : Nat), c ∈ J l → c = 32 ∨ ∃ a ∈ l, c ∈ a
  | [], _, h => nomatch h
  | [a], c, h => .inr ⟨a, List.mem_singleton.mpr rfl, h⟩
  | a :: b :: r, c, h => by
    rw [J] at h
    rcases List.mem_append.mp h with h | h
    · exact .inr ⟨a, List.mem_cons_self .., h⟩
    · rcases List.mem_cons.mp h with h | h
      · exact .inl h
      · rcases J_mem (b :: r) c h with h | ⟨x, hx, hc⟩
        · exact .inl h
        · exact .inr ⟨x, List.mem_cons_of_mem _ hx, hc⟩
theorem J_blanks : ∀ (l : List (List Nat)), (∀ a ∈ l, 32 ∉ a) → ((J l).filter (· == 32)).length = l.length - 1
  | [], _ => rfl
  | [a], h => by
    have : a.filter (· == 32) = [] := List.filter_eq_nil_iff.mpr fun c hc => by
      have := h a (List.mem_singleton.mpr rfl)
      simp only [beq_iff_eq]
      rintro rfl
      exact this hc
    simp [J, this]
  | a :: b :: r, h => by
    have h1 : a.filter (· == 32) = [] := List.filter_eq_nil_iff.mpr fun c hc => by
      have := h a (List.mem_cons_self ..)
      simp only [beq_iff_eq]
      rintro rfl
      exact this hc
    have ih := J_blanks (b :: r) fun x hx => h x (List.mem_cons_of_mem _ hx)
    rw [J, List.filter_append, h1, List.nil_append, List.filter_cons_of_pos (by simp), List.length_cons, ih]
    simp
theorem J_length : ∀ (l : List (List Nat)), l ≠ [] → (J l).length + 1 = (l.map List.length).sum + l.length
  | [], h => absurd rfl h
  | [a], _ => by simp [J]
  | a :: b :: r, _ => by
    have ih := J_length (b :: r) (by simp)
    rw [J, List.length_append, List.length_cons]
    simp only [List.map_cons, List.sum_cons, List.length_cons] at ih ⊢
    omega
theorem cps_ext {a b : Str} (h : a.cps.toList = b.cps.toList) : a = b := Str.ext' (Array.toList_inj.mp h)
theorem join_J : ∀ (l : List Str), (Str.join (Str.ofString " ") l).cps.toList = J (l.map (·.cps.toList))
  | [] => rfl
  | [a] => rfl
  | a :: b :: r => by
    have ih := join_J (b :: r)
    show (a ++ Str.ofString " " ++ Str.join (Str.ofString " ") (b :: r)).cps.toList = _
    rw [Str.cps_append, Str.cps_append, Array.toList_append, Array.toList_append, ih]
    show a.cps.toList ++ [32] ++ _ = a.cps.toList ++ 32 :: J ((b :: r).map (·.cps.toList))
    simp
/-! the signs' two faces -/
def tF (c : Nat) : Nat := if c = 97 then 65 else if c = 98 then 66 else c
def lF (c : Nat) : Nat := if c = 65 then 97 else if c = 66 then 98 else c
theorem title_all : signCps.all (fun c => Unicode.titleOf c == [tF c]) = true := by decide +kernel
theorem lower_all : signCps.all (fun c => Unicode.lowerOf c == [lF c]) = true := by decide +kernel
theorem title_of {c : Nat} (h : c ∈ signCps) : Unicode.titleOf c = [tF c] := by simpa using List.all_eq_true.mp title_all c h
theorem lower_of {c : Nat} (h : c ∈ signCps) : Unicode.lowerOf c = [lF c] := by simpa using List.all_eq_true.mp lower_all c h
theorem space_all : signCps.all (fun c => Unicode.isSpace c == (c == 32)) = true := by decide +kernel
theorem space_of {c : Nat} (h : c ∈ signCps) : Unicode.isSpace c = (c == 32) := by simpa using List.all_eq_true.mp space_all c h
def faces (c : Nat) : Bool := signCps.contains (tF c) && signCps.contains (lF c) && lF (tF c) == lF c && lF (lF c) == lF c && ((tF c == 32) == (c == 32)) && ((lF c == 32) == (c == 32)) &&
  upF ⟨#[tF c]⟩ == alpF ⟨#[tF c]⟩ && !upF ⟨#[lF c]⟩ && (spaF ⟨#[c]⟩ == (c == 32)) && c != 0x3A3
theorem faces_all : signCps.all faces = true := by decide +kernel
theorem faces_of {c : Nat} (h : c ∈ signCps) : faces c = true := List.all_eq_true.mp faces_all c h
theorem tF_mem {c : Nat} (h : c ∈ signCps) : tF c ∈ signCps := by
  have := faces_of h
  simp only [faces, Bool.and_eq_true, List.contains_iff_mem] at this
  exact this.1.1.1.1.1.1.1.1.1
theorem lF_mem {c : Nat} (h : c ∈ signCps) : lF c ∈ signCps := by
  have := faces_of h
  simp only [faces, Bool.and_eq_true, List.contains_iff_mem] at this
  exact this.1.1.1.1.1.1.1.1.2
theorem lF_tF {c : Nat} (h : c ∈ signCps) : lF (tF c) = lF c := by
  have := faces_of h
  simp only [faces, Bool.and_eq_true, beq_iff_eq] at this
  exact this.1.1.1.1.1.1.1.2
theorem lF_lF {c : Nat} (h : c ∈ signCps) : lF (lF c) = lF c := by
  have := faces_of h
  simp only [faces, Bool.and_eq_true, beq_iff_eq] at this
  exact this.1.1.1.1.1.1.2
theorem tF_32 {c : Nat} (h : c ∈ signCps) : (tF c == 32) = (c == 32) := by
  have := faces_of h
  simp only [faces, Bool.and_eq_true] at this
  exact eq_of_beq this.1.1.1.1.1.2
theorem lF_32 {c : Nat} (h : c ∈ signCps) : (lF c == 32) = (c == 32) := by
  have := faces_of h
  simp only [faces, Bool.and_eq_true] at this
  exact eq_of_beq this.1.1.1.1.2
theorem up_tF {c : Nat} (h : c ∈ signCps) : upF ⟨#[tF c]⟩ = alpF ⟨#[tF c]⟩ := by
  have := faces_of h
  simp only [faces, Bool.and_eq_true] at this
  exact eq_of_beq this.1.1.1.2
theorem up_lF {c : Nat} (h : c ∈ signCps) : upF ⟨#[lF c]⟩ = false := by
  have := faces_of h
  simp only [faces, Bool.and_eq_true] at this
  simpa using this.1.1.2
theorem spa_32 {c : Nat} (h : c ∈ signCps) : spaF ⟨#[c]⟩ = (c == 32) := by
  have := faces_of h
  simp only [faces, Bool.and_eq_true] at this
  exact eq_of_beq this.1.2
theorem no_sigma {c : Nat} (h : c ∈ signCps) : (c == 0x3A3) = false := by
  have := faces_of h
  simp only [faces, Bool.and_eq_true] at this
  simpa using this.2
def capL : List Nat → List Nat
  | [] => []
  | c :: r => tF c :: r.map lF
theorem map_mapIdx' {α β γ : Type} (g : β → γ) : ∀ (l : List α) (f : Nat → α → β), (l.mapIdx f).map g = l.mapIdx fun i a => g (f i a)
  | [], _ => rfl
  | a :: r, f => by
    rw [List.mapIdx_cons, List.mapIdx_cons, List.map_cons, map_mapIdx' g r]
theorem mapIdx_map {α β : Type} (g : α → β) : ∀ (l : List α), (l.mapIdx fun _ a => g a) = l.map g
  | [] => rfl
  | a :: r => by rw [List.mapIdx_cons, List.map_cons, mapIdx_map g r]
theorem placed_list (x : Str) (f : Nat → Nat → List Nat) : (placed x f).toList = (x.cps.toList.mapIdx f).flatten := by
  unfold placed
  simp [Array.toList_flatten, map_mapIdx']
theorem mapIdx_one {g : Nat → Nat → Nat} (l : List Nat) (f : Nat → Nat → List Nat) (h : ∀ i c, l[i]? = some c → f i c = [g i c]) : (l.mapIdx f).flatten = l.mapIdx g := by
  have singles : l.mapIdx f = (l.mapIdx g).map fun c => [c] := List.ext_getElem? fun i => by
    rw [List.getElem?_map, List.getElem?_mapIdx, List.getElem?_mapIdx]
    cases e : l[i]? with
    | none => rfl
    | some c => simp [h i c e]
  rw [singles, ← List.flatMap_def, List.flatMap_singleton']
theorem lowerAt_of {s : Array Nat} {i c : Nat} (hi : s.toList[i]? = some c) (h : c ∈ signCps) : Unicode.lowerAt s i = [lF c] := by
  unfold Unicode.lowerAt
  rw [← Array.getElem?_toList, hi]
  show (if (c == 0x3A3 && Unicode.endsWord s i) = true then _ else _) = _
  rw [no_sigma h]
  simp [lower_of h]
theorem cap_list (w : Str) (hs : ∀ c ∈ w.cps.toList, c ∈ signCps) : (Txt.capitalize w).cps.toList = capL w.cps.toList := by
  unfold Txt.capitalize
  split
  · rename_i h
    have : w.cps.toList = [] := by
      have h0 : w.cps.size = 0 := eq_of_beq h
      simpa using Array.eq_empty_of_size_eq_zero h0
    rw [this]; rfl
  · unfold Txt.capitalized
    rw [placed_list, mapIdx_one (g := fun i c => if i = 0 then tF c else lF c)]
    · cases w.cps.toList with
      | nil => rfl
      | cons c r =>
        rw [List.mapIdx_cons]
        simp [capL, mapIdx_map]
    · intro i c hc
      have hm := hs c (List.mem_of_getElem? hc)
      by_cases h0 : i = 0
      · simp [h0, title_of hm]
      · simp [h0, lowerAt_of hc hm]
theorem lower_sign {c : Nat} (h : c ∈ signCps) : Txt.lower ⟨#[c]⟩ = ⟨#[lF c]⟩ := by
  apply cps_ext
  unfold Txt.lower
  rw [placed_list]
  show ([c].mapIdx _).flatten = [lF c]
  rw [List.mapIdx_cons]
  simp [lowerAt_of (s := #[c]) (i := 0) (c := c) rfl h]
end Mine
end

section
open PySem PySem.W PyProof.Rows
set_option maxRecDepth 100000
namespace Mine
/-- what holds of words that were drawn out of signs -/
def WsOk (ws : List Str) : Prop := ∀ w ∈ ws, w.cps.toList ≠ [] ∧ ∀ c ∈ w.cps.toList, c ∈ signCps ∧ c ≠ 32
theorem scan_ok : ∀ (l : List Nat) (st : KWd.St), (∀ c ∈ l, c ∈ signCps) → WsOk st.1 → (∀ c ∈ st.2.cps.toList, c ∈ signCps ∧ c ≠ 32) →
    WsOk (l.foldl KWd.step st).1 ∧ (∀ c ∈ (l.foldl KWd.step st).2.cps.toList, c ∈ signCps ∧ c ≠ 32) ∧
      ((l.foldl KWd.step st).1.map (·.cps.toList)).flatten ++ (l.foldl KWd.step st).2.cps.toList = (st.1.map (·.cps.toList)).flatten ++ st.2.cps.toList ++ l.filter (· != 32)
  | [], st, _, h1, h2 => ⟨h1, h2, by simp⟩
  | c :: r, st, h, h1, h2 => by
    have hc := h c (List.mem_cons_self ..)
    have hr : ∀ c ∈ r, c ∈ signCps := fun x hx => h x (List.mem_cons_of_mem _ hx)
    rw [List.foldl_cons]
    by_cases hb : c = 32
    · have hsp : Unicode.isSpace c = true := by rw [space_of hc]; simpa using hb
      have hf : (c :: r).filter (· != 32) = r.filter (· != 32) := List.filter_cons_of_neg (by simpa using hb)
      rw [hf]
      by_cases hl : st.2.length = 0
      · have e : KWd.step st c = st := by unfold KWd.step; rw [if_pos hsp, if_pos hl]
        rw [e]
        exact scan_ok r st hr h1 h2
      · have e : KWd.step st c = (st.1 ++ [st.2], Str.empty) := by unfold KWd.step; rw [if_pos hsp, if_neg hl]
        rw [e]
        have ih := scan_ok r (st.1 ++ [st.2], Str.empty) hr (fun w hw => by
          rcases List.mem_append.mp hw with hw | hw
          · exact h1 w hw
          · rw [List.mem_singleton.mp hw]
            refine ⟨fun e0 => hl ?_, h2⟩
            have : st.2.cps.toList.length = 0 := by rw [e0]; rfl
            rw [Array.length_toList] at this
            exact this) (fun c hc => absurd hc (by simp [Str.empty]))
        refine ⟨ih.1, ih.2.1, ih.2.2.trans ?_⟩
        simp [Str.empty]
    · have hsp : Unicode.isSpace c = false := by rw [space_of hc]; simpa using hb
      have hf : (c :: r).filter (· != 32) = c :: r.filter (· != 32) := List.filter_cons_of_pos (by simpa using hb)
      rw [hf]
      have e : KWd.step st c = (st.1, st.2 ++ ⟨#[c]⟩) := by unfold KWd.step; rw [hsp]; rfl
      rw [e]
      have e2 : (st.2 ++ (⟨#[c]⟩ : Str)).cps.toList = st.2.cps.toList ++ [c] := by rw [Str.cps_append, Array.toList_append]
      have ih := scan_ok r (st.1, st.2 ++ ⟨#[c]⟩) hr h1 (fun x hx => by
        have hx' : x ∈ st.2.cps.toList ++ [c] := by rw [← e2]; exact hx
        rcases List.mem_append.mp hx' with hx | hx
        · exact h2 x hx
        · rw [List.mem_singleton.mp hx]; exact ⟨hc, hb⟩)
      refine ⟨ih.1, ih.2.1, ih.2.2.trans ?_⟩
      show (st.1.map (·.cps.toList)).flatten ++ (st.2 ++ (⟨#[c]⟩ : Str)).cps.toList ++ _ = _
      rw [e2]
      simp
theorem words_ok (x : Str) (h : ∀ c ∈ x.cps.toList, c ∈ signCps) : WsOk (Txt.words x) ∧ ((Txt.words x).map (·.cps.toList)).flatten = x.cps.toList.filter (· != 32) := by
  obtain ⟨h1, h2, h3⟩ := scan_ok x.cps.toList ([], Str.empty) h (fun _ hw => nomatch hw) (fun _ hc => absurd hc (by simp [Str.empty]))
  have hs : x.cps.toList.foldl KWd.step ([], Str.empty) = KWd.scan x := rfl
  rw [hs] at h1 h2 h3
  rw [KWd.words_scan]
  unfold KWd.fin
  split
  · rename_i hl
    have e : (KWd.scan x).2.cps.toList = [] := by
      have h0 : (KWd.scan x).2.cps.size = 0 := hl
      simpa using Array.eq_empty_of_size_eq_zero h0
    rw [e] at h3
    exact ⟨h1, by simpa [Str.empty] using h3⟩
  · rename_i hl
    refine ⟨fun w hw => ?_, by simpa [Str.empty] using h3⟩
    rcases List.mem_append.mp hw with hw | hw
    · exact h1 w hw
    · rw [List.mem_singleton.mp hw]
      refine ⟨fun e0 => hl ?_, h2⟩
      have : (KWd.scan x).2.cps.toList.length = 0 := by rw [e0]; rfl
      rw [Array.length_toList] at this
      exact this
/-- the words, each with its first sign raised -/
def capsL (x : Str) : List (List Nat) := (Txt.words x).map fun w => capL w.cps.toList
theorem capL_ne {l : List Nat} (h : l ≠ []) : capL l ≠ [] := by
  cases l with
  | nil => exact absurd rfl h
  | cons c r => exact List.cons_ne_nil _ _
theorem capL_sign {l : List Nat} (h : ∀ c ∈ l, c ∈ signCps ∧ c ≠ 32) : ∀ c ∈ capL l, c ∈ signCps ∧ c ≠ 32 := by
  cases l with
  | nil => exact fun _ hc => nomatch hc
  | cons a r =>
    intro c hc
    rcases List.mem_cons.mp hc with rfl | hc
    · obtain ⟨h1, h2⟩ := h a (List.mem_cons_self ..)
      refine ⟨tF_mem h1, fun e => h2 ?_⟩
      have := tF_32 h1
      rw [e] at this
      simpa using this.symm
    · obtain ⟨b, hb, rfl⟩ := List.mem_map.mp hc
      obtain ⟨h1, h2⟩ := h b (List.mem_cons_of_mem _ hb)
      refine ⟨lF_mem h1, fun e => h2 ?_⟩
      have := lF_32 h1
      rw [e] at this
      simpa using this.symm
theorem capL_low {l : List Nat} (h : ∀ c ∈ l, c ∈ signCps) : (capL l).map lF = l.map lF := by
  cases l with
  | nil => rfl
  | cons a r =>
    rw [capL, List.map_cons, List.map_cons, lF_tF (h a (List.mem_cons_self ..)), List.map_map]
    congr 1
    exact List.map_congr_left fun c hc => lF_lF (h c (List.mem_cons_of_mem _ hc))
theorem capL_length (l : List Nat) : (capL l).length = l.length := by
  cases l with
  | nil => rfl
  | cons a r => simp [capL]
section
variable {x : Str}
theorem caps_ok (h : ∀ c ∈ x.cps.toList, c ∈ signCps) : ∀ a ∈ capsL x, a ≠ [] ∧ ∀ c ∈ a, c ∈ signCps ∧ c ≠ 32 := by
  intro a ha
  obtain ⟨w, hw, rfl⟩ := List.mem_map.mp ha
  obtain ⟨h1, h2⟩ := (words_ok x h).1 w hw
  exact ⟨capL_ne h1, capL_sign h2⟩
theorem caps_free (h : ∀ c ∈ x.cps.toList, c ∈ signCps) : ∀ a ∈ capsL x, 32 ∉ a := fun a ha hm => ((caps_ok h a ha).2 32 hm).2 rfl
theorem caps_map (h : ∀ c ∈ x.cps.toList, c ∈ signCps) : ((Txt.words x).map Txt.capitalize).map (·.cps.toList) = capsL x := by
  rw [List.map_map]
  exact List.map_congr_left fun w hw => cap_list w fun c hc => (((words_ok x h).1 w hw).2 c hc).1
theorem told_list (h : ∀ c ∈ x.cps.toList, c ∈ signCps) : (capF x).cps.toList = J (capsL x) := by
  unfold capF
  show (PySem.Builtin.Str.glued (Str.ofString " ") _).cps.toList = _
  rw [StrLaws.glued_eq_join, join_J, caps_map h]
theorem told_sign' (h : ∀ c ∈ x.cps.toList, c ∈ signCps) : ∀ c ∈ (capF x).cps.toList, c ∈ signCps := by
  rw [told_list h]
  intro c hc
  rcases J_mem _ _ hc with rfl | ⟨a, ha, hc⟩
  · decide
  · exact ((caps_ok h a ha).2 c hc).1
theorem told_len (h : ∀ c ∈ x.cps.toList, c ∈ signCps) : (capF x).length ≤ x.length := by
  have e : (capF x).length = (J (capsL x)).length := by
    rw [← told_list h, Array.length_toList]; rfl
  rw [e]
  by_cases hn : capsL x = []
  · rw [hn]; exact Nat.zero_le _
  · have h1 := J_length (capsL x) hn
    have h2 := StrLaws.words_weight x
    have e1 : ((capsL x).map List.length).sum = ((Txt.words x).map (·.length)).sum := by
      unfold capsL
      rw [List.map_map]
      congr 1
      refine List.map_congr_left fun w _ => ?_
      show (capL w.cps.toList).length = w.length
      rw [capL_length, Array.length_toList]; rfl
    have e2 : (capsL x).length = (Txt.words x).length := List.length_map ..
    omega
theorem words_list (h : ∀ c ∈ x.cps.toList, c ∈ signCps) : (wordsF x).map (·.cps.toList) = capsL x := by
  unfold wordsF
  split
  · rename_i hne
    have hne' : capF x ≠ Str.ofString "" := by simpa using hne
    have hJ : Str.join (Str.ofString " ") (Txt.split (capF x) (Str.ofString " ")) = capF x := StrLaws.join_split _ _
    have hfree : ∀ p ∈ Txt.split (capF x) (Str.ofString " "), 32 ∉ p.cps.toList := StrLaws.split_free (capF x) 32
    have hl1 : (Txt.split (capF x) (Str.ofString " ")).map (·.cps.toList) ≠ [] := by
      intro e
      have : Txt.split (capF x) (Str.ofString " ") = [] := List.map_eq_nil_iff.mp e
      rw [this] at hJ
      exact hne' hJ.symm
    have hl2 : capsL x ≠ [] := by
      intro e
      apply hne'
      apply cps_ext
      rw [told_list h, e]
      rfl
    have e1 : J ((Txt.split (capF x) (Str.ofString " ")).map (·.cps.toList)) = J (capsL x) := by
      rw [← join_J, hJ, told_list h]
    have s1 := splitL_J _ hl1 (fun a ha => by obtain ⟨p, hp, rfl⟩ := List.mem_map.mp ha; exact hfree p hp)
    have s2 := splitL_J _ hl2 (caps_free h)
    rw [← s1, e1, s2]
  · rename_i hne
    have he : capF x = Str.ofString "" := by simpa using hne
    have e : J (capsL x) = [] := by rw [← told_list h, he]; rfl
    cases hc : capsL x with
    | nil => rfl
    | cons a r =>
      have ha := (caps_ok h a (by rw [hc]; exact List.mem_cons_self ..)).1
      rw [hc] at e
      cases r with
      | nil => exact absurd e ha
      | cons b r => simp [J] at e
theorem gaps_count (h : ∀ c ∈ x.cps.toList, c ∈ signCps) : ((capF x).cps.toList.filter fun c => spaF ⟨#[c]⟩).length = (wordsF x).length - 1 := by
  have e1 : (capF x).cps.toList.filter (fun c => spaF ⟨#[c]⟩) = (capF x).cps.toList.filter (· == 32) :=
    List.filter_congr fun c hc => spa_32 (told_sign' h c hc)
  have e2 : (wordsF x).length = (capsL x).length := by rw [← words_list h, List.length_map]
  rw [e1, told_list h, J_blanks _ (caps_free h), e2]
/-- a text's signs, each lowered -/
theorem lowJ_list {y : Str} (h : ∀ c ∈ y.cps.toList, c ∈ signCps) : (Txt.join (Str.ofString "") (y.cps.toList.map fun c => Txt.lower ⟨#[c]⟩)) = ⟨(y.cps.toList.map lF).toArray⟩ := by
  have e : (y.cps.toList.map fun c => Txt.lower ⟨#[c]⟩) = (y.cps.toList.map lF).map fun k => (⟨#[k]⟩ : Str) := by
    rw [List.map_map]
    exact List.map_congr_left fun c hc => lower_sign (h c hc)
  rw [e]
  show PySem.Builtin.Str.glued (Str.ofString "") _ = _
  rw [StrLaws.glued_eq_join]
  exact join_ones _
theorem replace_list {y : Str} (h : ∀ c ∈ y.cps.toList, c ∈ signCps) : (Txt.replace (Txt.join (Str.ofString "") (y.cps.toList.map fun c => Txt.lower ⟨#[c]⟩)) (Str.ofString " ") (Str.ofString "")).cps.toList = (y.cps.toList.filter (· != 32)).map lF := by
  rw [lowJ_list h]
  have := replace_strikes (⟨(y.cps.toList.map lF).toArray⟩ : Str) 32
  refine this.trans ?_
  show (y.cps.toList.map lF).filter (· != 32) = _
  rw [List.filter_map]
  congr 1
  refine List.filter_congr fun c hc => ?_
  show (lF c != 32) = (c != 32)
  have := lF_32 (h c hc)
  simp only [bne, this]
theorem replace_eq' (h : ∀ c ∈ x.cps.toList, c ∈ signCps) : Txt.replace (Txt.join (Str.ofString "") ((capF x).cps.toList.map fun c => Txt.lower ⟨#[c]⟩)) (Str.ofString " ") (Str.ofString "") = Txt.replace (Txt.join (Str.ofString "") (x.cps.toList.map fun c => Txt.lower ⟨#[c]⟩)) (Str.ofString " ") (Str.ofString "") := by
  apply cps_ext
  rw [replace_list (told_sign' h), replace_list h, told_list h, J_filter _ (caps_free h), ← (words_ok x h).2]
  unfold capsL
  rw [List.map_flatten, List.map_flatten, List.map_map, List.map_map]
  congr 1
  exact List.map_congr_left fun w hw => capL_low fun c hc => (((words_ok x h).1 w hw).2 c hc).1
end
end Mine
end

section
open PySem PySem.W PyProof.Rows
namespace Mine
/-- the sign that the law draws for a number -/
def sgn (k : Int) : Nat := signCps.getD (k.fmod 8).toNat 0
theorem item_sgn (k : Int) : Txt.item (Str.ofString "abAB1-. ") (k.fmod 8) = ⟨#[sgn k]⟩ := by
  have h1 : 0 ≤ k.fmod 8 := Int.fmod_nonneg_of_pos k (by decide)
  have h2 : k.fmod 8 < 8 := Int.fmod_lt_of_pos k (by decide)
  unfold sgn
  generalize k.fmod 8 = r at *
  have h : r = 0 ∨ r = 1 ∨ r = 2 ∨ r = 3 ∨ r = 4 ∨ r = 5 ∨ r = 6 ∨ r = 7 := by omega
  rcases h with rfl | rfl | rfl | rfl | rfl | rfl | rfl | rfl <;> rfl
theorem sgn_mem (k : Int) : sgn k ∈ signCps := by
  have h1 : 0 ≤ k.fmod 8 := Int.fmod_nonneg_of_pos k (by decide)
  have h2 : k.fmod 8 < 8 := Int.fmod_lt_of_pos k (by decide)
  unfold sgn
  generalize k.fmod 8 = r at *
  have h : r = 0 ∨ r = 1 ∨ r = 2 ∨ r = 3 ∨ r = 4 ∨ r = 5 ∨ r = 6 ∨ r = 7 := by omega
  rcases h with rfl | rfl | rfl | rfl | rfl | rfl | rfl | rfl <;> decide
theorem take_size {ws : List Value} {l : List Int} (h : IntsAre ws (l.take 60)) : ws.toArray.size ≤ sizeLine := by
  have := h.length
  rw [List.size_toArray, this, sizeLine_eq]
  exact Nat.le_trans (List.length_take_le _ _) (by decide)
/-- a text of the eight signs, at most sixty -/
def SignText (x : Str) : Prop := x.length ≤ 60 ∧ ∀ c ∈ x.cps.toList, c ∈ signCps
/-- what the law looks at in a word -/
def WordOk (a : Str) : Prop := 0 < a.length ∧ a.length ≤ 400 ∧ ∀ i : Int, 0 ≤ i → i < a.length → upF (Txt.item a i) = (i == 0 && alpF (Txt.item a i))
theorem word_no1 {a : Str} {n : Int} (h3 : ∀ i : Int, 0 ≤ i → i < a.length → upF (Txt.item a i) = (i == 0 && alpF (Txt.item a i))) (h0 : 0 ≤ n) (hl : n < 0 + (((a.length : Int) - 0).toNat : Int)) (hn : n = 0) (h : (upF (Txt.item a n) != alpF (Txt.item a n)) = true) : False := by
  have := h3 n h0 (by omega)
  subst hn
  rw [this] at h
  simp at h
theorem word_no2 {a : Str} {n : Int} (h3 : ∀ i : Int, 0 ≤ i → i < a.length → upF (Txt.item a i) = (i == 0 && alpF (Txt.item a i))) (h0 : 0 ≤ n) (hl : n < 0 + (((a.length : Int) - 0).toNat : Int)) (hn : n ≠ 0) (h : (upF (Txt.item a n) != (n == 0)) = true) : False := by
  have := h3 n h0 (by omega)
  have e : (n == 0) = false := by simpa using hn
  rw [this, e] at h
  simp at h
theorem txt_ok (ns : List Int) : SignText (Txt.join (Str.ofString "") (List.map (fun a => ({ cps := #[sgn a] } : Str)) (List.take 60 ns))) := by
  have e : Txt.join (Str.ofString "") (List.map (fun a => ({ cps := #[sgn a] } : Str)) (List.take 60 ns)) = ⟨((List.take 60 ns).map sgn).toArray⟩ := by
    have e1 : List.map (fun a => ({ cps := #[sgn a] } : Str)) (List.take 60 ns) = ((List.take 60 ns).map sgn).map fun k => (⟨#[k]⟩ : Str) := by rw [List.map_map]; rfl
    rw [e1]
    show PySem.Builtin.Str.glued (Str.ofString "") _ = _
    rw [StrLaws.glued_eq_join]
    exact join_ones _
  rw [e]
  refine ⟨?_, fun c hc => ?_⟩
  · show (((List.take 60 ns).map sgn).toArray).size ≤ 60
    rw [List.size_toArray, List.length_map]
    exact List.length_take_le _ _
  · have hc' : c ∈ (List.take 60 ns).map sgn := hc
    obtain ⟨k, _, rfl⟩ := List.mem_map.mp hc'
    exact sgn_mem k
theorem told_size {x : Str} (h : SignText x) : (capF x).length + 2 ≤ sizeLine := by
  have h1 := told_len h.2
  have h2 := h.1
  rw [sizeLine_eq]; omega
theorem item_at {a : Str} {i : Nat} {c : Nat} (hi : a.cps.toList[i]? = some c) : Txt.item a (i : Int) = ⟨#[c]⟩ :=
  item_meets (Int.natCast_nonneg i) (by rw [Int.toNat_natCast, ← Array.getElem?_toList]; exact hi)
theorem capL_at {l : List Nat} (hl : ∀ c ∈ l, c ∈ signCps) : ∀ (i c : Nat), (capL l)[i]? = some c → upF ⟨#[c]⟩ = ((i : Int) == 0 && alpF ⟨#[c]⟩) := by
  cases l with
  | nil => intro i c h; simp [capL] at h
  | cons a r =>
    intro i c h
    cases i with
    | zero =>
      have e : tF a = c := by simpa [capL] using h
      rw [← e]
      simpa using up_tF (hl a (List.mem_cons_self ..))
    | succ i =>
      have h' : (r.map lF)[i]? = some c := by simpa [capL] using h
      rw [List.getElem?_map] at h'
      obtain ⟨b, hb, rfl⟩ := Option.map_eq_some_iff.mp h'
      rw [up_lF (hl b (List.mem_cons_of_mem _ (List.mem_of_getElem? hb)))]
      have : (((i + 1 : Nat) : Int) == 0) = false := by
        rw [beq_eq_false_iff_ne]; omega
      rw [this]; rfl
theorem word_ok {x a : Str} (h : SignText x) (ha : a ∈ wordsF x) : WordOk a := by
  have hm : a.cps.toList ∈ capsL x := by rw [← words_list h.2]; exact List.mem_map.mpr ⟨a, ha, rfl⟩
  obtain ⟨w, hw, he⟩ := List.mem_map.mp hm
  have hlen : a.length = w.length := by
    have e1 : a.length = a.cps.toList.length := by rw [Array.length_toList]; rfl
    have e2 : w.length = w.cps.toList.length := by rw [Array.length_toList]; rfl
    rw [e1, e2, ← he, capL_length]
  have hws := (words_ok x h.2).1 w hw
  refine ⟨?_, ?_, fun i h0 hi => ?_⟩
  · have := StrLaws.words_pos x w hw
    omega
  · have h1 := word_short hw
    have h2 := h.1
    omega
  · obtain ⟨n, rfl⟩ := Int.eq_ofNat_of_zero_le h0
    have hn : n < a.cps.toList.length := by rw [Array.length_toList]; exact_mod_cast hi
    have hg : a.cps.toList[n]? = some a.cps.toList[n] := List.getElem?_eq_getElem hn
    rw [item_at hg]
    exact capL_at (l := w.cps.toList) (fun c hc => (hws.2 c hc).1) n _ (by rw [he]; exact hg)
theorem sign_asc {x : Str} (h : ∀ c ∈ x.cps.toList, c ∈ signCps) : x.cps.all (· < 128) = true := by
  rw [← Array.all_toList, List.all_eq_true]
  intro c hc
  have h1 := h c hc
  have h2 : signCps.all (· < 128) = true := by decide
  exact List.all_eq_true.mp h2 c h1
theorem told_sign {x : Str} (h : SignText x) : ∀ c ∈ (capF x).cps.toList, c ∈ signCps := told_sign' h.2
theorem txt_asc {x : Str} (h : SignText x) : x.cps.all (· < 128) = true := sign_asc h.2
theorem told_asc {x : Str} (h : SignText x) : (capF x).cps.all (· < 128) = true := sign_asc (told_sign h)
theorem txt_fits {x : Str} (h : SignText x) : x.cps.size ≤ sizeLine := by
  have := h.1
  rw [sizeLine_eq]
  exact Nat.le_trans this (by decide)
theorem told_fits {x : Str} (h : SignText x) : (capF x).cps.size ≤ sizeLine := Nat.le_of_succ_le (Nat.le_of_succ_le (told_size h))
theorem txt_sign {x : Str} {c : Nat} (h : ∀ c ∈ x.cps.toList, c ∈ signCps) (hc : c ∈ x.cps.toList) : c ∈ signCps := h c hc
theorem txt_low {x : Str} (h : SignText x) : x.length ≤ 1000 := Nat.le_trans h.1 (by decide)
theorem told_low {x : Str} (h : SignText x) : (capF x).length ≤ 1000 := by
  have h1 := told_len h.2
  have h2 := h.1
  omega
/-- the signs of a text, each in its folded form -/
abbrev lowJ (x : Str) : Str := Txt.join (Str.ofString "") (x.cps.toList.map fun c => Txt.lower ⟨#[c]⟩)
theorem low_fits {x : Str} (h : x.length ≤ 1000) : ((x.cps.toList.map fun c => Txt.lower ⟨#[c]⟩).map (·.length)).sum + (x.cps.toList.map fun c => Txt.lower ⟨#[c]⟩).length * (Str.ofString "").length ≤ 16777216 := by
  have h1 : ∀ l : List Nat, ((l.map fun c => Txt.lower ⟨#[c]⟩).map (·.length)).sum ≤ 3 * l.length := fun l => by
    induction l with
    | nil => exact Nat.le_refl _
    | cons a r ih =>
      have h3 := len_lower (⟨#[a]⟩ : Str)
      have h4 : (⟨#[a]⟩ : Str).length = 1 := rfl
      simp only [List.map_cons, List.sum_cons, List.length_cons]
      omega
  have h2 := h1 x.cps.toList
  have h3 : x.cps.toList.length = x.length := by rw [Array.length_toList]; rfl
  have h4 : (Str.ofString "").length = 0 := rfl
  rw [h4, Nat.mul_zero]
  omega
theorem low_cps {y : Str} (h : ∀ c ∈ y.cps.toList, c ∈ signCps) : (lowJ y).cps.toList = y.cps.toList.map lF := by
  show (Txt.join (Str.ofString "") (y.cps.toList.map fun c => Txt.lower ⟨#[c]⟩)).cps.toList = _
  rw [lowJ_list h]
theorem low_len' {y : Str} (h : ∀ c ∈ y.cps.toList, c ∈ signCps) : (lowJ y).length = y.length := by
  have e1 : (lowJ y).length = (lowJ y).cps.toList.length := by rw [Array.length_toList]; rfl
  have e2 : y.length = y.cps.toList.length := by rw [Array.length_toList]; rfl
  rw [e1, e2, low_cps h, List.length_map]
theorem small_asc {x : Str} (h : SignText x) : (lowJ x).cps.all (· < 128) = true := sign_asc fun c hc => by
  rw [low_cps h.2] at hc
  obtain ⟨b, hb, rfl⟩ := List.mem_map.mp hc
  exact lF_mem (h.2 b hb)
theorem small_fits {x : Str} (h : SignText x) : (lowJ x).cps.size ≤ sizeLine := by
  have h1 : (lowJ x).cps.size = x.length := low_len' h.2
  have h2 := h.1
  rw [h1, sizeLine_eq]; omega
theorem small_up {x : Str} (h : SignText x) : ∀ c ∈ (lowJ x).cps.toList, upF ⟨#[c]⟩ = false := fun c hc => by
  rw [low_cps h.2] at hc
  obtain ⟨b, hb, rfl⟩ := List.mem_map.mp hc
  exact up_lF (h.2 b hb)
theorem small_len {x : Str} (h : SignText x) : (lowJ x).length ≤ 1048576 := by
  rw [low_len' h.2]; exact Nat.le_trans h.1 (by decide)
theorem told_small_len {x : Str} (h : SignText x) : (lowJ (capF x)).length ≤ 1048576 := by
  rw [low_len' (told_sign h)]; exact Nat.le_trans (told_low h) (by decide)
theorem replace_eq {x : Str} (h : SignText x) : Txt.replace (lowJ (capF x)) (Str.ofString " ") (Str.ofString "") = Txt.replace (lowJ x) (Str.ofString " ") (Str.ofString "") := replace_eq' h.2
theorem replace_no {x : Str} (h : SignText x) : ¬ (Txt.replace (lowJ (capF x)) (Str.ofString " ") (Str.ofString "") != Txt.replace (lowJ x) (Str.ofString " ") (Str.ofString "")) = true := by
  rw [replace_eq h]; simp
/-- what the law looks at in a sign -/
def signFact (c : Nat) : Bool :=
  (costF ⟨#[c]⟩ (Txt.lower ⟨#[c]⟩) == if upF ⟨#[c]⟩ = true then 1 else 0) && (!(digF ⟨#[c]⟩ || punF ⟨#[c]⟩ || spaF ⟨#[c]⟩) || Txt.lower ⟨#[c]⟩ == ⟨#[c]⟩) &&
    cnt5 (upF ⟨#[c]⟩) (lowF ⟨#[c]⟩) (digF ⟨#[c]⟩) (punF ⟨#[c]⟩) (spaF ⟨#[c]⟩) == 1 && !upF (Txt.lower ⟨#[c]⟩)
theorem signFacts : signCps.all signFact = true := by decide +kernel
theorem sign_fact {c : Nat} (h : c ∈ signCps) : signFact c = true := List.all_eq_true.mp signFacts c h
theorem cost_no {c : Nat} (h : c ∈ signCps) : ¬ (costF ⟨#[c]⟩ (Txt.lower ⟨#[c]⟩) != if upF ⟨#[c]⟩ = true then 1 else 0) = true := by
  have := sign_fact h
  simp only [signFact, Bool.and_eq_true] at this
  have h2 := eq_of_beq this.1.1.1
  rw [h2]; simp
theorem same_sign {c : Nat} (h : c ∈ signCps) (hk : digF ⟨#[c]⟩ = true ∨ punF ⟨#[c]⟩ = true ∨ spaF ⟨#[c]⟩ = true) : Txt.lower ⟨#[c]⟩ = ⟨#[c]⟩ := by
  have := sign_fact h
  simp only [signFact, Bool.and_eq_true] at this
  have h2 := this.1.1.2
  rcases hk with e | e | e <;> simp [e] at h2 <;> exact h2
theorem same_no {c : Nat} (h : c ∈ signCps) (hk : digF ⟨#[c]⟩ = true ∨ punF ⟨#[c]⟩ = true ∨ spaF ⟨#[c]⟩ = true) : ¬ (Txt.lower ⟨#[c]⟩ != (⟨#[c]⟩ : Str)) = true := by
  rw [same_sign h hk]; simp
theorem cnt_no {c : Nat} (h : c ∈ signCps) : ¬ (((cnt5 (upF ⟨#[c]⟩) (lowF ⟨#[c]⟩) (digF ⟨#[c]⟩) (punF ⟨#[c]⟩) (spaF ⟨#[c]⟩) : Nat) : Int) != 1) = true := by
  have := sign_fact h
  simp only [signFact, Bool.and_eq_true] at this
  have h2 : cnt5 (upF ⟨#[c]⟩) (lowF ⟨#[c]⟩) (digF ⟨#[c]⟩) (punF ⟨#[c]⟩) (spaF ⟨#[c]⟩) = 1 := by simpa using this.1.2
  rw [h2]; simp
theorem word_ne {x a : Str} (h : SignText x) (ha : a ∈ wordsF x) : (a == Str.ofString "") = false := by
  have h1 := (word_ok h ha).1
  rw [beq_eq_false_iff_ne]
  rintro rfl
  exact absurd h1 (by decide)
theorem words_count {x : Str} (h : SignText x) : (wordsF x).length ≤ 61 := by
  have e1 : (wordsF x).length = (Txt.words x).length := by
    have := congrArg List.length (words_list h.2)
    rw [List.length_map] at this
    rw [this]
    exact List.length_map ..
  have h2 := StrLaws.words_weight x
  have h3 := h.1
  omega
theorem words_fits {x : Str} {l : List (Str × Tok)} (h : SignText x) (e : l.map (·.1) = wordsF x) : l.length ≤ sizeLine := by
  have h1 := words_count h
  rw [← e, List.length_map] at h1
  rw [sizeLine_eq]; omega
theorem gaps_fits {x : Str} (h : SignText x) (p : Nat → Bool) : ((capF x).cps.toList.filter p).length ≤ sizeLine := Nat.le_trans (List.length_filter_le _ _) (by rw [Array.length_toList]; exact told_fits h)
theorem gaps_yes {x : Str} (h : SignText x) : ((((capF x).cps.toList.filter fun c => spaF ⟨#[c]⟩).length : Int) == (if ((wordsF x).length : Int) - 1 > 0 then ((wordsF x).length : Int) - 1 else 0)) = true := by
  rw [gaps_count h.2, beq_iff_eq]
  split <;> omega
end Mine
end

section
open PySem PySem.W PyProof.Rows PySem.Calls
set_option maxRecDepth 100000
set_option maxHeartbeats 4000000
namespace Mine.E
section
variable {tb : String → Option Builtin} {P : Program} {w : World} {n₀ : Nat} {ann : Option Value}
/-- one more step, taken apart -/
theorem topGo_succ {n : Nat} {s : Shared} {t : Thread} {r : Shared × Thread} : topGo tb P w n₀ ann (n + 1) s t = some r ↔
    through t = false ∧ stepOk n₀ ann t = true ∧ ∃ s₁ t₁, step (denote tb) P w s t = .go s₁ t₁ ∧ topGo tb P w n₀ ann n s₁ t₁ = some r := by
  rw [topGo]
  generalize through t = b
  generalize stepOk n₀ ann t = c
  generalize step (denote tb) P w s t = d
  rcases b with _ | _ <;> rcases c with _ | _ <;> rcases d with ⟨s', t'⟩ | _ <;> simp
  exact ⟨fun h => ⟨_, _, ⟨rfl, rfl⟩, h⟩, fun ⟨_, _, ⟨e1, e2⟩, h⟩ => e1 ▸ e2 ▸ h⟩
theorem topGo_add {n m : Nat} {r : Shared × Thread} : ∀ {s s' : Shared} {t t' : Thread}, topGo tb P w n₀ ann n s t = some (s', t') → topGo tb P w n₀ ann m s' t' = some r → topGo tb P w n₀ ann (n + m) s t = some r := by
  induction n with
  | zero =>
    intro s s' t t' h k
    rw [Nat.zero_add]
    cases h
    exact k
  | succ n ih =>
    intro s s' t t' h k
    obtain ⟨b, c, s₁, t₁, d, rest⟩ := topGo_succ.mp h
    rw [Nat.succ_add]
    exact topGo_succ.mpr ⟨b, c, s₁, t₁, d, ih rest k⟩
theorem topGo_one {s s' : Shared} {t t' : Thread} (h1 : through t = false) (h2 : stepOk n₀ ann t = true) (h3 : step (denote tb) P w s t = .go s' t') : topGo tb P w n₀ ann 1 s t = some (s', t') := by
  unfold topGo
  rw [h1, h2, h3]
  rfl
end
section
variable (P : Program) (w : World) (n₀ : Nat) (ann : Option Value)
/-- the machine comes from one state to another in at most c steps, inside one statement of the top -/
def Go (c : Nat) (s : Shared) (t : Thread) (s' : Shared) (t' : Thread) : Prop := ∃ n, n ≤ c ∧ topGo treeTable P w n₀ ann n s t = some (s', t')
/-- a tree comes through, whatever stands about it -/
def Ev {α : Type} (c : Nat) (m : Sem α) (s : Shared) (p : Pos) (a : α) (s' : Shared) (p' : Pos) : Prop :=
  ∀ (K : α → Sem Fin) (H : Value → Sem Fin) (gd : Bool → Bool) (lv : List Value → List Value) (code : Code) (x : Frame), Go P w n₀ ann c s ⟨m.wrap K H gd lv, code, p, [x]⟩ s' ⟨K a, code, p', [x]⟩
end
section
variable {P : Program} {w : World} {n₀ : Nat} {ann : Option Value} {α β : Type}
theorem Go.refl {s : Shared} {t : Thread} : Go P w n₀ ann 0 s t s t := ⟨0, Nat.le_refl _, rfl⟩
theorem Go.trans {c d : Nat} {s s₁ s₂ : Shared} {t t₁ t₂ : Thread} (h : Go P w n₀ ann c s t s₁ t₁) (k : Go P w n₀ ann d s₁ t₁ s₂ t₂) : Go P w n₀ ann (c + d) s t s₂ t₂ := by
  obtain ⟨n, hn, h⟩ := h
  obtain ⟨m, hm, k⟩ := k
  exact ⟨n + m, Nat.add_le_add hn hm, topGo_add h k⟩
theorem Go.one {s s' : Shared} {t t' : Thread} (h1 : through t = false) (h2 : stepOk n₀ ann t = true) (h3 : step (denote treeTable) P w s t = .go s' t') : Go P w n₀ ann 1 s t s' t' := ⟨1, Nat.le_refl _, topGo_one h1 h2 h3⟩
theorem Go.mono {c d : Nat} {s s' : Shared} {t t' : Thread} (h : Go P w n₀ ann c s t s' t') (hc : c ≤ d) : Go P w n₀ ann d s t s' t' := by
  obtain ⟨n, hn, h⟩ := h
  exact ⟨n, Nat.le_trans hn hc, h⟩
theorem Ev.mono {c d : Nat} {m : Sem α} {s s' : Shared} {p p' : Pos} {a : α} (h : Ev P w n₀ ann c m s p a s' p') (hc : c ≤ d) : Ev P w n₀ ann d m s p a s' p' := fun K H gd lv code x => (h K H gd lv code x).mono hc
theorem Ev.pure {s : Shared} {p : Pos} {a : α} : Ev P w n₀ ann 0 (Pure.pure a : Sem α) s p a s p := fun _ _ _ _ _ _ => Go.refl
theorem Ev.bind {c d : Nat} {m : Sem α} {f : α → Sem β} {s s₁ s₂ : Shared} {p p₁ p₂ : Pos} {a : α} {b : β} (h : Ev P w n₀ ann c m s p a s₁ p₁) (k : Ev P w n₀ ann d (f a) s₁ p₁ b s₂ p₂) : Ev P w n₀ ann (c + d) (m >>= f) s p b s₂ p₂ := fun K H gd lv code x => by
  rw [Sem.bind_eq_wrap', Sem.wrap_wrap]
  exact (h _ _ _ _ code x).trans (k K H gd lv code x)
theorem Ev.keep {c : Nat} {m : Sem α} {s s' : Shared} {p p' : Pos} {a : α} {vs : List Value} (h : Ev P w n₀ ann c m s p a s' p') : Ev P w n₀ ann c (m.keep vs) s p a s' p' := fun K H gd lv code x => by
  rw [Sem.keep_eq_wrap, Sem.wrap_wrap]
  exact h _ _ _ _ code x
theorem Ev.holding {c : Nat} {m : Sem α} {s s' : Shared} {p p' : Pos} {a : α} {vs : List Value} (h : Ev P w n₀ ann c m s p a s' p') : Ev P w n₀ ann c (holding vs m) s p a s' p' := by
  unfold PySem.holding
  split
  · exact h
  · exact h.keep
theorem Ev.tryCatch {c : Nat} {m : Sem α} {s s' : Shared} {p p' : Pos} {a : α} {g : Value → Sem α} (h : Ev P w n₀ ann c m s p a s' p') : Ev P w n₀ ann c (m.tryCatch g) s p a s' p' := fun K H gd lv code x => by
  rw [Sem.tryCatch_eq_wrap, Sem.wrap_wrap]
  exact h _ _ _ _ code x
theorem Ev.onRaise {c : Nat} {m : Sem α} {s s' : Shared} {p p' : Pos} {a : α} {g : Value → Sem Unit} (h : Ev P w n₀ ann c m s p a s' p') : Ev P w n₀ ann c (m.onRaise g) s p a s' p' := fun K H gd lv code x => by
  rw [Sem.onRaise_eq_wrap, Sem.wrap_wrap]
  exact h _ _ _ _ code x
theorem Ev.rule {s : Shared} {p : Pos} {r : String} : Ev P w n₀ ann 1 (rule r) s p () s p := fun K H gd lv code x => by
  obtain ⟨hp, g, d, tk, o⟩ := s
  exact Go.one rfl rfl rfl
theorem Ev.standAt {s : Shared} {p p' : Pos} : Ev P w n₀ ann 1 (standAt p') s p () s p' := fun K H gd lv code x => by
  obtain ⟨hp, g, d, tk, o⟩ := s
  exact Go.one rfl rfl rfl
theorem Ev.fresh {s : Shared} {p : Pos} : Ev P w n₀ ann 1 fresh s p s.toks { s with toks := s.toks + 1 } p := fun K H gd lv code x => by
  obtain ⟨hp, g, d, tk, o⟩ := s
  exact Go.one rfl rfl rfl
theorem Ev.ask {s : Shared} {p : Pos} : Ev P w n₀ ann 1 ask s p ⟨P, w.params⟩ s p := fun K H gd lv code x => by
  obtain ⟨hp, g, d, tk, o⟩ := s
  exact Go.one rfl rfl rfl
theorem Ev.alloc {s : Shared} {p : Pos} {o : Obj} : Ev P w n₀ ann 1 (alloc o) s p s.heap.objs.size { s with heap := s.heap.push o } p := fun K H gd lv code x => by
  obtain ⟨hp, g, d, tk, os⟩ := s
  exact Go.one rfl rfl rfl
theorem Ev.loadPart {s : Shared} {p : Pos} {a : Addr} {part : Option Value} {o : Obj} (h : s.heap.get? a = some o) : Ev P w n₀ ann 1 (loadPart a part) s p o s p := fun K H gd lv code x => by
  obtain ⟨hp, g, d, tk, os⟩ := s
  have h' : hp.get? a = some o := h
  exact Go.one rfl rfl (by simp [PySem.loadPart, Sem.wrap, step, h'])
theorem Ev.updatePart {s : Shared} {p : Pos} {a : Addr} {part : Option Value} {f : Obj → Obj} {o : Obj} (h : s.heap.get? a = some o) (ha : n₀ ≤ a) : Ev P w n₀ ann 1 (updatePart a part f) s p () { s with heap := s.heap.update a f } p := fun K H gd lv code x => by
  obtain ⟨hp, g, d, tk, os⟩ := s
  have h' : hp.get? a = some o := h
  refine Go.one rfl ?_ (by simp [PySem.updatePart, Sem.wrap, step, h'])
  have : Nat.ble n₀ a = true := Nat.ble_eq_true_of_le ha
  simp [stepOk, PySem.updatePart, Sem.wrap, this]
  rfl
end
end Mine.E
end

section
open PySem PySem.W PyProof.Rows PySem.Calls
set_option maxRecDepth 100000
set_option maxHeartbeats 4000000
namespace Mine.E
section
variable {P : Program} {w : World} {n₀ : Nat} {ann : Option Value} {α β : Type}
theorem Ev.call_hash {s : Shared} {p : Pos} {k : Int} {t : Tok} : Ev P w n₀ ann 4 (call (.builtin "int.__hash__") [.int k t]) s p (.int (rawHash k) s.toks) { s with toks := s.toks + 1 } p := fun K H gd lv code x => by
  obtain ⟨hp, g, d, tk, os⟩ := s
  exact ⟨4, Nat.le_refl _, by kernel_rfl⟩
theorem Ev.bindP {c : Nat} {m : Sem α} {a : α} {f : α → Sem β} {s s₂ : Shared} {p p₂ : Pos} {b : β} (e : m = Pure.pure a) (k : Ev P w n₀ ann c (f a) s p b s₂ p₂) : Ev P w n₀ ann c (m >>= f) s p b s₂ p₂ := by
  subst e; exact k
theorem Ev.bind1 {c : Nat} {m : Sem α} {f : α → Sem β} {s s₁ s₂ : Shared} {p p₁ p₂ : Pos} {a : α} {b : β} (h : Ev P w n₀ ann 1 m s p a s₁ p₁) (k : Ev P w n₀ ann c (f a) s₁ p₁ b s₂ p₂) : Ev P w n₀ ann (c + 1) (m >>= f) s p b s₂ p₂ := by
  rw [Nat.add_comm]; exact h.bind k
theorem special_hash (k : Int) (t : Tok) : specialOf (.int k t) (Str.ofString "__hash__") = Pure.pure (some (.builtin "int.__hash__")) := by
  show (Pure.pure (Value.type "int") >>= fun T => typeLookup T (Str.ofString "__hash__") : Sem (Option Value)) = _
  exact slot_int_hash.lookup
theorem Ev.pyHash_int {s : Shared} {p : Pos} {k : Int} {t : Tok} : Ev P w n₀ ann 5 (pyHash (.int k t)) s p (hashInt k) { s with toks := s.toks + 1 } p := by
  have hr := rawHash_range k
  unfold pyHash
  show Ev P w n₀ ann 5 (pyHashByItsType (.int k t)) s p _ _ p
  unfold pyHashByItsType
  have hv : [Value.int k t].any Value.onHeap = false := rfl
  refine Ev.bindP (a := ()) (by rw [cRoomFor, if_neg (by rw [hv]; exact Bool.false_ne_true)]) ?_
  refine Ev.bindP (special_hash k t) ?_
  show Ev _ _ _ _ _ (if (some (Value.builtin "int.__hash__") == some Value.none) = true then _ else _) _ _ _ _ _
  rw [if_neg (by rw [beq_builtin_none]; exact Bool.false_ne_true)]
  refine Ev.bindP (special_hash k t) ?_
  have fin : ∀ refuse : Sem Value, Ev P w n₀ ann 5 (callSpecialIfBoundUnlessNone? (.int k t) (Str.ofString "__hash__") refuse) s p (some (.int (rawHash k) s.toks)) { s with toks := s.toks + 1 } p := fun refuse => by
    unfold callSpecialIfBoundUnlessNone? bindSpecialIfBound?
    refine Ev.holding ?_
    have tl : Ev P w n₀ ann 4 (if (Value.builtin "int.__hash__" == Value.none) = true then (refuse >>= fun v => Pure.pure (some v)) else (call (.builtin "int.__hash__") [.int k t] >>= fun v => Pure.pure (some v))) s p (some (.int (rawHash k) s.toks)) { s with toks := s.toks + 1 } p := by
      rw [if_neg (by rw [builtin_beq_none]; exact Bool.false_ne_true)]
      exact Ev.bind (c := 4) (d := 0) Ev.call_hash Ev.pure
    have hq : Ev P w n₀ ann 1 (do let st ← PySem.ask; if st.params.followText "special-get-raises" = true then (do return some (← bindSpecial (.builtin "int.__hash__") (.int k t))) else (do return some (← bindSpecial (.builtin "int.__hash__") (.int k t))).tryCatch fun _ => do PySem.rule "special.get-raises-dropped"; Pure.pure none : Sem (Option (Value × List Value))) s p (some (.builtin "int.__hash__", [.int k t])) s p := by
      refine Ev.bind1 (c := 0) Ev.ask ?_
      rw [slot_int_hash.bind]
      split
      · exact Ev.pure
      · exact Ev.tryCatch Ev.pure
    refine Ev.bind (c := 1) (d := 4) (a := some (.builtin "int.__hash__", [.int k t])) (s₁ := s) (p₁ := p) ?_ tl
    rw [special_hash]
    exact hq
  refine Ev.bind (c := 5) (d := 0) (fin _) ?_
  show Ev _ _ _ _ _ (if (decide (-(2 : Int) ^ 63 ≤ rawHash k) && decide (rawHash k < 2 ^ 63)) = true then _ else _) _ _ _ _ _
  rw [if_pos (by rw [decide_eq_true hr.1, decide_eq_true hr.2]; rfl)]
  exact Ev.pure
end
end Mine.E
end

section
open PySem PySem.W PyProof.Rows PySem.Calls
set_option maxRecDepth 100000
set_option maxHeartbeats 4000000
namespace Mine.E
abbrev dO (es : Array DictEntry) (n : Nat) : Obj := { cls := .type "dict", data := .dict es n }
theorem places_nil {es : Array DictEntry} {h : Int} (hn : ∀ e ∈ es, e.hash ≠ h) : placesWithHash es.size (fun i => es[i]?.map (·.hash)) h = [] := by
  unfold placesWithHash
  refine List.filter_eq_nil_iff.mpr fun i hi => ?_
  have hlt : i < es.size := List.mem_range.mp hi
  simp only [Array.getElem?_eq_getElem hlt, Option.map_some]
  intro e
  have := eq_of_beq e
  exact hn _ (Array.getElem_mem hlt) (Option.some.inj this)
section
variable {P : Program} {w : World} {n₀ : Nat} {ann : Option Value} {α β : Type}
theorem Ev.dictEntries {s : Shared} {p : Pos} {a : Addr} {part : Option Value} {es : Array DictEntry} {n : Nat} (h : s.heap.get? a = some (dO es n)) : Ev P w n₀ ann 1 (PySem.dictEntries a part) s p es s p := by
  unfold PySem.dictEntries
  exact Ev.bind1 (c := 0) (Ev.loadPart h) Ev.pure
theorem Ev.dictEpoch {s : Shared} {p : Pos} {a : Addr} {part : Option Value} {es : Array DictEntry} {n : Nat} (h : s.heap.get? a = some (dO es n)) : Ev P w n₀ ann 1 (PySem.dictEpoch a part) s p n s p := by
  unfold PySem.dictEpoch
  exact Ev.bind1 (c := 0) (Ev.loadPart h) Ev.pure
theorem Ev.dictFind_none {s : Shared} {p : Pos} {a : Addr} {es : Array DictEntry} {n : Nat} {k : Int} {t : Tok} {hs : Int} (h : s.heap.get? a = some (dO es n)) (hn : ∀ e ∈ es, e.hash ≠ hs) : Ev P w n₀ ann 1 (dictFind a (.int k t) hs) s p none s p := by
  unfold dictFind
  refine Ev.holding (Ev.bind1 (c := 0) (Ev.dictEntries h) ?_)
  rw [places_nil hn]
  exact Ev.pure
theorem Ev.updateDictKeys {s : Shared} {p : Pos} {a : Addr} {part : Option Value} {es : Array DictEntry} {n : Nat} {f : Array DictEntry → Array DictEntry} (h : s.heap.get? a = some (dO es n)) (ha : n₀ ≤ a) (hz : (f es).size ≤ sizeLine) :
    Ev P w n₀ ann 3 (PySem.updateDictKeys a f part) s p () { s with heap := s.heap.update a (Obj.mapDictKeys f) } p := by
  unfold PySem.updateDictKeys
  refine Ev.bind1 (c := 2) (Ev.loadPart h) ?_
  show Ev _ _ _ _ 2 (PySem.updatePart a part (Obj.mapDictKeys f) >>= fun _ => lookBehind a part) _ _ _ _ _
  refine Ev.bind1 (c := 1) (Ev.updatePart h ha) ?_
  unfold lookBehind
  refine Ev.bind1 (c := 0) (Ev.loadPart (Heap.get?_update_self _ h rfl)) ?_
  have e : (Obj.mapDictKeys f (dO es n)).data.pastItsLine = none := by
    show (if (f es).size > sizeLine + 1 then some _ else none) = none
    rw [if_neg (Nat.not_lt.mpr (Nat.le_succ_of_le hz))]
  rw [e]
  exact Ev.pure
/-- the heap when a new entry has been set -/
abbrev putE (h : Heap) (a : Addr) (e : DictEntry) : Heap := h.update a (Obj.mapDictKeys (·.push e))
theorem Ev.dictSet_new {s : Shared} {p : Pos} {a : Addr} {es : Array DictEntry} {n : Nat} {k : Int} {t : Tok} {v : Value} (h : s.heap.get? a = some (dO es n)) (ha : n₀ ≤ a) (hn : ∀ e ∈ es, e.hash ≠ hashInt k) (hz : es.size < sizeLine) :
    Ev P w n₀ ann 10 (dictSet a (.int k t) v) s p () { s with heap := putE s.heap a ⟨hashInt k, .int k t, v⟩, toks := s.toks + 1 } p := by
  unfold dictSet
  refine Ev.holding (Ev.bind (c := 5) (d := 5) Ev.pyHash_int ?_)
  unfold dictSetHashed
  refine Ev.holding (Ev.bind1 (c := 4) (Ev.dictFind_none h hn) ?_)
  refine Ev.bind1 (c := 3) Ev.rule ?_
  exact Ev.updateDictKeys h ha (by rw [Array.size_push]; exact hz)
theorem Ev.dictPut_new {s : Shared} {p : Pos} {a : Addr} {es : Array DictEntry} {n : Nat} {k : Int} {t : Tok} {v : Value} (h : s.heap.get? a = some (dO es n)) (ha : n₀ ≤ a) (hn : ∀ e ∈ es, e.hash ≠ hashInt k) (hz : es.size < sizeLine) :
    Ev P w n₀ ann 4 (dictPut a (hashInt k) (.int k t) v) s p () { s with heap := putE s.heap a ⟨hashInt k, .int k t, v⟩ } p := by
  unfold dictPut
  refine Ev.bind1 (c := 3) (Ev.dictFind_none h hn) ?_
  exact Ev.updateDictKeys h ha (by rw [Array.size_push]; exact hz)
end
end Mine.E
end

section
open PySem PySem.W PyProof.Rows PySem.Calls
set_option maxRecDepth 100000
set_option maxHeartbeats 4000000
namespace Mine.E
def HP (b : List Obj) (m : Obj) (subs : List Obj) (life : Life) : Heap := ⟨(b ++ m :: subs).toArray, life⟩
section
variable {b : List Obj} {m : Obj} {subs : List Obj} {life : Life} {es : Array DictEntry} {n : Nat} {e : DictEntry} {o : Obj}
theorem HP_push : (HP b m subs life).push o = HP b m (subs ++ [o]) life := by
  unfold HP Heap.push
  simp
theorem HP_size : (HP b m subs life).objs.size = b.length + 1 + subs.length := by
  unfold HP
  simp; omega
theorem HP_main : (HP b (dO es n) subs life).get? b.length = some (dO es n) := by
  refine Heap.get?_some_iff.mpr ⟨?_, rfl⟩
  unfold HP
  simp
theorem HP_last : (HP b m (subs ++ [dO es n]) life).get? (b.length + 1 + subs.length) = some (dO es n) := by
  refine Heap.get?_some_iff.mpr ⟨?_, rfl⟩
  unfold HP
  simp only [List.getElem?_toArray]
  rw [show b ++ m :: (subs ++ [dO es n]) = (b ++ m :: subs) ++ [dO es n] by simp, List.getElem?_append_right (by simp; omega)]
  have : b.length + 1 + subs.length - (b ++ m :: subs).length = 0 := by simp; omega
  rw [this]; rfl
theorem modify_at {x : Obj} {f : Obj → Obj} {r : List Obj} : ∀ l : List Obj, (l ++ x :: r).modify l.length f = l ++ f x :: r
  | [] => rfl
  | a :: l => by
    show a :: (l ++ x :: r).modify l.length f = _
    rw [modify_at l]; rfl
theorem modify_list {l r : List Obj} {x : Obj} {f : Obj → Obj} {i : Nat} (hi : i = l.length) : ((l ++ x :: r).toArray).modify i f = (l ++ f x :: r).toArray := by
  subst hi
  apply Array.toList_inj.mp
  rw [Array.toList_modify]
  exact modify_at l
theorem HP_put_main : putE (HP b (dO es n) subs life) b.length e = HP b (dO (es.push e) (n + 1)) subs life := by
  unfold putE HP
  show (⟨((b ++ dO es n :: subs).toArray).modify b.length _, life⟩ : Heap) = _
  rw [modify_list rfl]
  rfl
theorem HP_put_last : putE (HP b m (subs ++ [dO es n]) life) (b.length + 1 + subs.length) e = HP b m (subs ++ [dO (es.push e) (n + 1)]) life := by
  unfold putE HP
  have e1 : b ++ m :: (subs ++ [dO es n]) = (b ++ m :: subs) ++ dO es n :: [] := by simp
  have e2 : b ++ m :: (subs ++ [dO (es.push e) (n + 1)]) = (b ++ m :: subs) ++ dO (es.push e) (n + 1) :: [] := by simp
  rw [e1, e2]
  show (⟨(((b ++ m :: subs) ++ dO es n :: []).toArray).modify _ _, life⟩ : Heap) = _
  rw [modify_list (by simp; omega)]
  rfl
end
section
variable {P : Program} {w : World} {n₀ : Nat} {ann : Option Value} {α β : Type}
/-- a pair of the display: a number, then a text -/
def PairIs (P : Program) (w : World) (n₀ : Nat) (ann : Option Value) (pos : Pos) (kv : Sem Value × Sem Value) (e : Int × Str) : Prop :=
  (∀ s, Ev P w n₀ ann 1 kv.1 s pos (.int e.1 s.toks) { s with toks := s.toks + 1 } pos) ∧ ∀ s, Ev P w n₀ ann 2 kv.2 s pos (.str e.2 s.toks) { s with toks := s.toks + 1 } pos
inductive PairsAre (P : Program) (w : World) (n₀ : Nat) (ann : Option Value) (pos : Pos) : List (Sem Value × Sem Value) → List (Int × Str) → Prop
  | nil : PairsAre P w n₀ ann pos [] []
  | cons {kv e l r} : PairIs P w n₀ ann pos kv e → PairsAre P w n₀ ann pos l r → PairsAre P w n₀ ann pos (kv :: l) (e :: r)
theorem PairsAre.length {pos : Pos} : ∀ {l : List (Sem Value × Sem Value)} {r : List (Int × Str)}, PairsAre P w n₀ ann pos l r → l.length = r.length
  | _, _, .nil => rfl
  | _, _, .cons _ h => congrArg (· + 1) h.length
/-- keys that are new to a table -/
def NewTo (es : List DictEntry) (l : List (Int × Str)) : Prop := (∀ x ∈ l, ∀ e ∈ es, e.hash ≠ hashInt x.1) ∧ l.Pairwise fun x y => hashInt x.1 ≠ hashInt y.1
theorem NewTo.head {es : List DictEntry} {x : Int × Str} {l : List (Int × Str)} (h : NewTo es (x :: l)) : ∀ e ∈ es, e.hash ≠ hashInt x.1 := h.1 x (List.mem_cons_self ..)
theorem NewTo.tail {es : List DictEntry} {x : Int × Str} {l : List (Int × Str)} (h : NewTo es (x :: l)) {k v : Value} : NewTo (es ++ [⟨hashInt x.1, k, v⟩]) l := by
  refine ⟨fun y hy e he => ?_, (List.pairwise_cons.mp h.2).2⟩
  rcases List.mem_append.mp he with he | he
  · exact h.1 y (List.mem_cons_of_mem _ hy) e he
  · rw [List.mem_singleton.mp he]
    exact (List.pairwise_cons.mp h.2).1 y hy
/-- a heap with one growing table at a -/
structure Grow (H : List DictEntry → Nat → Heap) (a : Addr) : Prop where
  get : ∀ es n, (H es n).get? a = some (dO es.toArray n)
  put : ∀ es n e, putE (H es n) a e = H (es ++ [e]) (n + 1)
abbrev longLoop (d : Addr) (pairs : List (Sem Value × Sem Value)) : Sem PUnit := forIn pairs PUnit.unit fun x _ => do
  let kv ← x.1
  let vv ← holding [kv] x.2
  holding [kv, vv] (dictSet d kv vv)
  pure (ForInStep.yield PUnit.unit)
theorem Ev.longLoop {H : List DictEntry → Nat → Heap} {a : Addr} (G : Grow H a) (ha : n₀ ≤ a) {pos : Pos} : ∀ {pairs : List (Sem Value × Sem Value)} {l : List (Int × Str)} {es : List DictEntry} {n tk : Nat} {g : Array GenState} {d : Drawn} {os : OsState}, PairsAre P w n₀ ann pos pairs l → NewTo es l → es.length + l.length < 10000 →
    Ev P w n₀ ann (13 * l.length) (Mine.E.longLoop a pairs) ⟨H es n, g, d, tk, os⟩ pos PUnit.unit ⟨H (es ++ entsL tk l) (n + l.length), g, d, tk + 3 * l.length, os⟩ pos
  | _, _, es, n, tk, g, d, os, .nil, _, _ => by
    show Ev P w n₀ ann 0 (Pure.pure PUnit.unit) _ _ _ _ _
    have e : es ++ entsL tk [] = es := by simp [entsL]
    rw [e]
    exact Ev.pure
  | kv :: pairs, x :: l, es, n, tk, g, d, os, .cons h hs, hn, hz => by
    have ih := Ev.longLoop G ha (es := es ++ [⟨hashInt x.1, .int x.1 tk, .str x.2 (tk + 1)⟩]) (n := n + 1) (tk := tk + 3) (g := g) (d := d) (os := os) hs hn.tail (by simp at hz ⊢; omega)
    have e1 : es ++ [(⟨hashInt x.1, .int x.1 tk, .str x.2 (tk + 1)⟩ : DictEntry)] ++ entsL (tk + 3) l = es ++ entsL tk (x :: l) := by
      obtain ⟨k, v⟩ := x
      simp [entsL]
    have e2 : n + 1 + l.length = n + (x :: l).length := by simp; omega
    have e3 : tk + 3 + 3 * l.length = tk + 3 * (x :: l).length := by simp; omega
    rw [e1, e2, e3] at ih
    unfold Mine.E.longLoop at ih ⊢
    rw [List.forIn_cons]
    refine Ev.mono (c := 13 + 13 * l.length) ?_ (by simp; omega)
    refine Ev.bind (c := 13) (a := ForInStep.yield PUnit.unit) (s₁ := ⟨H (es ++ [⟨hashInt x.1, .int x.1 tk, .str x.2 (tk + 1)⟩]) (n + 1), g, d, tk + 3, os⟩) (p₁ := pos) ?_ ih
    refine Ev.bind1 (c := 12) (h.1 _) ?_
    refine Ev.bind (c := 2) (d := 10) (Ev.holding (h.2 _)) ?_
    refine Ev.bind (c := 10) (d := 0) (a := ()) (s₁ := ⟨H (es ++ [⟨hashInt x.1, .int x.1 tk, .str x.2 (tk + 1)⟩]) (n + 1), g, d, tk + 3, os⟩) (p₁ := pos) (Ev.holding ?_) Ev.pure
    have q := Ev.dictSet_new (P := P) (w := w) (ann := ann) (s := ⟨H es n, g, d, tk + 1 + 1, os⟩) (p := pos) (k := x.1) (t := tk) (v := .str x.2 (tk + 1)) (G.get es n) ha (fun e he => hn.head e (by simpa using he)) (by rw [sizeLine_eq]; simp at hz ⊢; omega)
    have e4 : putE (H es n) a ⟨hashInt x.1, .int x.1 tk, .str x.2 (tk + 1)⟩ = H (es ++ [⟨hashInt x.1, .int x.1 tk, .str x.2 (tk + 1)⟩]) (n + 1) := G.put ..
    rw [← e4]
    exact q
end
end Mine.E
end

section
open PySem PySem.W PyProof.Rows PySem.Calls
set_option maxRecDepth 100000
set_option maxHeartbeats 4000000
namespace Mine.E
section
variable {P : Program} {w : World} {n₀ : Nat} {ann : Option Value} {α β : Type}
theorem Ev.subLong {H : List DictEntry → Nat → Heap} {a : Addr} (G : Grow H a) (ha : n₀ ≤ a) {pos : Pos} {pairs : List (Sem Value × Sem Value)} {l : List (Int × Str)} {hp : Heap} {tk : Nat} {g : Array GenState} {d : Drawn} {os : OsState}
    (hps : PairsAre P w n₀ ann pos pairs l) (hn : NewTo [] l) (hz : l.length < 10000) (hl : ¬ pairs.length ≤ 15) (hsz : hp.objs.size = a) (hpush : hp.push (dO #[] 0) = H [] 0) :
    Ev P w n₀ ann (13 * l.length + 2) (subDict pairs) ⟨hp, g, d, tk, os⟩ pos a ⟨H (entsL tk l) l.length, g, d, tk + 3 * l.length, os⟩ pos := by
  subst hsz
  unfold subDict
  refine Ev.bind1 (c := 13 * l.length + 1) Ev.alloc ?_
  refine Ev.bind (c := 13 * l.length + 1) (d := 0) (a := ()) (s₁ := ⟨H (entsL tk l) l.length, g, d, tk + 3 * l.length, os⟩) (p₁ := pos) (Ev.holding ?_) Ev.pure
  rw [if_neg hl]
  refine Ev.bind1 (c := 13 * l.length) Ev.rule ?_
  have q := Ev.longLoop (P := P) (w := w) (ann := ann) G ha (es := []) (n := 0) (tk := tk) (g := g) (d := d) (os := os) hps hn (by simpa using hz)
  rw [List.nil_append, Nat.zero_add] at q
  show Ev P w n₀ ann (13 * l.length) (Mine.E.longLoop hp.objs.size pairs >>= fun _ => Pure.pure ()) ⟨hp.push (dO #[] 0), g, d, tk, os⟩ _ _ _ _
  rw [hpush]
  exact Ev.bind (c := 13 * l.length) (d := 0) q Ev.pure
/-- an entry whose key is a number -/
def IntE (e : DictEntry) : Prop := ∃ k t, e.key = .int k t ∧ e.hash = hashInt k
abbrev mergeLoop (d a : Addr) (epoch : Nat) (idx : List Nat) : Sem PUnit := forIn idx PUnit.unit fun i _ => do
  let r ← dictEntries a
  match r[i]? with
    | some e => do
      holding [e.key, e.val] (dictPut d e.hash e.key e.val)
      let r ← dictEpoch a
      if (r != epoch) = true then do
          PySem.unsupported "dict.changed-during-merge"
          pure (ForInStep.yield PUnit.unit)
        else pure (ForInStep.yield PUnit.unit)
    | _ => do
      PySem.unsupported "dict.changed-during-merge"
      pure (ForInStep.yield PUnit.unit)
theorem Ev.mergeLoop {b : List Obj} {subs : List Obj} {life : Life} {se : List DictEntry} {sn : Nat} (ha : n₀ ≤ b.length) {pos : Pos} {g : Array GenState} {d : Drawn} {os : OsState} {tk : Nat} : ∀ {l done es : List DictEntry} {n : Nat}, se = done ++ l → (∀ e ∈ l, IntE e) →
    (∀ x ∈ l, ∀ e ∈ es, e.hash ≠ x.hash) → (l.Pairwise fun x y => x.hash ≠ y.hash) → es.length + l.length < 10000 →
    Ev P w n₀ ann (6 * l.length) (Mine.E.mergeLoop b.length (b.length + 1 + subs.length) sn (List.range' done.length l.length)) ⟨HP b (dO es.toArray n) (subs ++ [dO se.toArray sn]) life, g, d, tk, os⟩ pos PUnit.unit
      ⟨HP b (dO (es ++ l).toArray (n + l.length)) (subs ++ [dO se.toArray sn]) life, g, d, tk, os⟩ pos
  | [], done, es, n, _, _, _, _, _ => by
    show Ev P w n₀ ann 0 (Pure.pure PUnit.unit) _ _ _ _ _
    rw [List.append_nil]
    exact Ev.pure
  | e :: l, done, es, n, hse, hI, hn, hp, hz => by
    have ih := Ev.mergeLoop (b := b) (subs := subs) (life := life) (se := se) (sn := sn) ha (pos := pos) (g := g) (d := d) (os := os) (tk := tk) (l := l) (done := done ++ [e]) (es := es ++ [e]) (n := n + 1) (by rw [hse]; simp) (fun x hx => hI x (List.mem_cons_of_mem _ hx))
      (fun x hx y hy => by
        rcases List.mem_append.mp hy with hy | hy
        · exact hn x (List.mem_cons_of_mem _ hx) y hy
        · rw [List.mem_singleton.mp hy]; exact (List.pairwise_cons.mp hp).1 x hx) (List.pairwise_cons.mp hp).2 (by simp at hz ⊢; omega)
    have e1 : es ++ [e] ++ l = es ++ e :: l := by simp
    have e2 : n + 1 + l.length = n + (e :: l).length := by simp; omega
    have e3 : (done ++ [e]).length = done.length + 1 := by simp
    rw [e1, e2, e3] at ih
    unfold Mine.E.mergeLoop at ih ⊢
    rw [List.length_cons, List.range'_succ, List.forIn_cons]
    refine Ev.mono (c := 6 + 6 * l.length) ?_ (by omega)
    refine Ev.bind (c := 6) (a := ForInStep.yield PUnit.unit) (s₁ := ⟨HP b (dO (es ++ [e]).toArray (n + 1)) (subs ++ [dO se.toArray sn]) life, g, d, tk, os⟩) (p₁ := pos) ?_ ih
    have gs : ∀ m, (HP b m (subs ++ [dO se.toArray sn]) life).get? (b.length + 1 + subs.length) = some (dO se.toArray sn) := fun m => HP_last
    refine Ev.bind1 (c := 5) (Ev.dictEntries (gs _)) ?_
    have hi : se.toArray[done.length]? = some e := by
      rw [List.getElem?_toArray, hse, List.getElem?_append_right (Nat.le_refl _), Nat.sub_self]; rfl
    rw [hi]
    obtain ⟨k, t, hk, hh⟩ := hI e (List.mem_cons_self ..)
    have hnew : ∀ e' ∈ es.toArray, e'.hash ≠ hashInt k := fun e' he' => by
      rw [← hh]; exact hn e (List.mem_cons_self ..) e' (by simpa using he')
    have q := Ev.dictPut_new (P := P) (w := w) (ann := ann) (s := ⟨HP b (dO es.toArray n) (subs ++ [dO se.toArray sn]) life, g, d, tk, os⟩) (p := pos) (k := k) (t := t) (v := e.val) (a := b.length) HP_main ha hnew (by rw [sizeLine_eq]; simp at hz ⊢; omega)
    have e4 : putE (HP b (dO es.toArray n) (subs ++ [dO se.toArray sn]) life) b.length ⟨hashInt k, .int k t, e.val⟩ = HP b (dO (es ++ [e]).toArray (n + 1)) (subs ++ [dO se.toArray sn]) life := by
      rw [HP_put_main]
      have : (⟨hashInt k, .int k t, e.val⟩ : DictEntry) = e := by rw [← hh, ← hk]
      rw [this]; simp
    show Ev P w n₀ ann 5 (PySem.holding [e.key, e.val] (dictPut b.length e.hash e.key e.val) >>= _) _ _ _ _ _
    rw [hk, hh]
    refine Ev.bind (c := 4) (d := 1) (Ev.holding q) ?_
    show Ev P w n₀ ann 1 _ ⟨putE (HP b (dO es.toArray n) (subs ++ [dO se.toArray sn]) life) b.length ⟨hashInt k, .int k t, e.val⟩, g, d, tk, os⟩ pos _ _ _
    rw [e4]
    refine Ev.bind1 (c := 0) (Ev.dictEpoch (gs _)) ?_
    have : (sn != sn) = false := by simp
    rw [this]
    exact Ev.pure
end
end Mine.E
end

section
open PySem PySem.W PyProof.Rows PySem.Calls
set_option maxRecDepth 100000
set_option maxHeartbeats 4000000
namespace Mine.E
theorem dict_sub : isSubtype (.type "dict") (.type "dict") = (Pure.pure true : Sem Bool) := by kernel_rfl
theorem dict_iter : typeLookup (.type "dict") (Str.ofString "__iter__") = (Pure.pure (some (.builtin "dict.__iter__")) : Sem (Option Value)) := by
  first | exact PySem.F.slot_dict_iter.lookup | exact PySem.F.slot_dict___iter__.lookup | kernel_rfl
section
variable {P : Program} {w : World} {n₀ : Nat} {ann : Option Value} {α β : Type}
theorem Ev.typeOf_dict {s : Shared} {p : Pos} {a : Addr} {es : Array DictEntry} {n : Nat} (h : s.heap.get? a = some (dO es n)) : Ev P w n₀ ann 1 (typeOf (.ref a)) s p (.type "dict") s p := by
  show Ev P w n₀ ann 1 (PySem.loadPart a (some headPart) >>= fun o => Pure.pure o.cls) s p _ _ _
  exact Ev.bind1 (c := 0) (Ev.loadPart h) Ev.pure
theorem Ev.merge {b : List Obj} {subs : List Obj} {life : Life} {se es : List DictEntry} {n sn : Nat} (ha : n₀ ≤ b.length) (hb : 1 ≤ b.length) {pos : Pos} {g : Array GenState} {d : Drawn} {os : OsState} {tk : Nat} (hI : ∀ e ∈ se, IntE e)
    (hn : ∀ x ∈ se, ∀ e ∈ es, e.hash ≠ x.hash) (hp : se.Pairwise fun x y => x.hash ≠ y.hash) (hz : es.length + se.length < 10000) (hne : es ≠ []) :
    Ev P w n₀ ann (6 * se.length + 5) (mergeMapping b.length (.ref (b.length + 1 + subs.length)) false) ⟨HP b (dO es.toArray n) (subs ++ [dO se.toArray sn]) life, g, d, tk, os⟩ pos ()
      ⟨HP b (dO (es ++ se).toArray (n + se.length)) (subs ++ [dO se.toArray sn]) life, g, d, tk, os⟩ pos := by
  have gs : ∀ m, (HP b m (subs ++ [dO se.toArray sn]) life).get? (b.length + 1 + subs.length) = some (dO se.toArray sn) := fun m => HP_last
  unfold mergeMapping isInstance specialOf
  refine Ev.bind (c := 1) (d := 6 * se.length + 4) (a := true) (s₁ := ⟨HP b (dO es.toArray n) (subs ++ [dO se.toArray sn]) life, g, d, tk, os⟩) (p₁ := pos) ?_ ?_ |>.mono (by omega)
  · refine Ev.bind1 (c := 0) (Ev.typeOf_dict (gs _)) ?_
    rw [dict_sub]; exact Ev.pure
  rw [if_pos rfl]
  refine Ev.bind (c := 1) (d := 6 * se.length + 3) (a := some (.builtin "dict.__iter__")) (s₁ := ⟨HP b (dO es.toArray n) (subs ++ [dO se.toArray sn]) life, g, d, tk, os⟩) (p₁ := pos) ?_ ?_ |>.mono (by omega)
  · refine Ev.bind1 (c := 0) (Ev.typeOf_dict (gs _)) ?_
    rw [dict_iter]; exact Ev.pure
  have hbeq : ((some (Value.builtin "dict.__iter__") : Option Value) == some (Value.builtin "dict.__iter__")) = true := by decide +kernel
  refine Ev.bindP (a := true) (by rw [hbeq]) ?_
  have hsys : ((b.length + 1 + subs.length) == sysModules) = false := by
    rw [beq_eq_false_iff_ne]; unfold sysModules; show ¬ _ = 1; omega
  dsimp only
  rw [hsys, if_neg Bool.false_ne_true]
  refine Ev.bind1 (c := 6 * se.length + 2) (Ev.dictEntries HP_main) ?_
  have hemp : es.toArray.isEmpty = false := by
    cases es with
    | nil => exact absurd rfl hne
    | cons a r => rfl
  rw [hemp, if_neg Bool.false_ne_true]
  refine Ev.bind1 (c := 6 * se.length + 1) (Ev.dictEntries (gs _)) ?_
  refine Ev.bind1 (c := 6 * se.length) (Ev.dictEpoch (gs _)) ?_
  have q := Ev.mergeLoop (P := P) (w := w) (ann := ann) (b := b) (subs := subs) (life := life) (se := se) (sn := sn) ha (pos := pos) (g := g) (d := d) (os := os) (tk := tk) (l := se) (done := []) (es := es) (n := n) rfl hI hn hp hz
  have hr : List.range se.toArray.size = List.range' ([] : List DictEntry).length se.length := by
    rw [List.size_toArray, List.range_eq_range']; rfl
  rw [hr]
  exact Ev.bind (c := 6 * se.length) (d := 0) q Ev.pure
/-- a short group: first the pairs, then the hashes -/
def valsS : Nat → List (Int × Str) → List (Value × Value)
  | _, [] => []
  | t, (k, x) :: r => (.int k t, .str x (t + 1)) :: valsS (t + 2) r
theorem Ev.evalPairs {hp : Heap} {g : Array GenState} {d : Drawn} {os : OsState} {pos : Pos} : ∀ {pairs : List (Sem Value × Sem Value)} {l : List (Int × Str)} {tk : Nat}, PairsAre P w n₀ ann pos pairs l →
    Ev P w n₀ ann (3 * l.length) (PySem.evalPairs pairs) ⟨hp, g, d, tk, os⟩ pos (valsS tk l) ⟨hp, g, d, tk + 2 * l.length, os⟩ pos
  | _, _, tk, .nil => Ev.pure
  | kv :: pairs, x :: l, tk, .cons h hs => by
    obtain ⟨kt, vt⟩ := kv
    obtain ⟨k, v⟩ := x
    have ih := Ev.evalPairs (hp := hp) (g := g) (d := d) (os := os) (tk := tk + 2) hs
    have e3 : tk + 2 + 2 * l.length = tk + 2 * ((k, v) :: l).length := by simp; omega
    rw [e3] at ih
    show Ev P w n₀ ann _ (kt >>= fun kv => PySem.holding [kv] vt >>= fun vv => PySem.holding [kv, vv] (PySem.evalPairs pairs) >>= fun r => Pure.pure ((kv, vv) :: r)) _ _ _ _ _
    refine Ev.mono (c := 3 * l.length + 3) ?_ (by simp; omega)
    refine Ev.bind1 (c := 3 * l.length + 2) (h.1 _) ?_
    refine Ev.bind (c := 2) (d := 3 * l.length) (Ev.holding (h.2 _)) ?_ |>.mono (by omega)
    exact Ev.bind (c := 3 * l.length) (d := 0) (Ev.holding ih) Ev.pure
def hashesS (t : Nat) (l : List (Int × Str)) : List DictEntry := entsS t l
theorem Ev.shortLoop {H : List DictEntry → Nat → Heap} {a : Addr} (G : Grow H a) (ha : n₀ ≤ a) {pos : Pos} {g : Array GenState} {d : Drawn} {os : OsState} : ∀ {l : List (Int × Str)} {es : List DictEntry} {n tk t : Nat}, NewTo es l → es.length + l.length < 10000 →
    Ev P w n₀ ann (10 * l.length) (forIn (valsS t l) PUnit.unit fun x _ => do
      dictSet a x.1 x.2
      Pure.pure (ForInStep.yield PUnit.unit)) ⟨H es n, g, d, tk, os⟩ pos PUnit.unit ⟨H (es ++ entsS t l) (n + l.length), g, d, tk + l.length, os⟩ pos
  | [], es, n, tk, t, _, _ => by
    have e : es ++ entsS t [] = es := by simp [entsS]
    rw [e]
    exact Ev.pure
  | (k, v) :: l, es, n, tk, t, hn, hz => by
    have ih := Ev.shortLoop G ha (pos := pos) (g := g) (d := d) (os := os) (l := l) (es := es ++ [⟨hashInt k, .int k t, .str v (t + 1)⟩]) (n := n + 1) (tk := tk + 1) (t := t + 2) hn.tail (by simp at hz ⊢; omega)
    have e1 : es ++ [(⟨hashInt k, .int k t, .str v (t + 1)⟩ : DictEntry)] ++ entsS (t + 2) l = es ++ entsS t ((k, v) :: l) := by simp [entsS]
    have e2 : n + 1 + l.length = n + ((k, v) :: l).length := by simp; omega
    have e3 : tk + 1 + l.length = tk + ((k, v) :: l).length := by simp; omega
    rw [e1, e2, e3] at ih
    rw [valsS, List.forIn_cons]
    refine Ev.mono (c := 10 + 10 * l.length) ?_ (by simp; omega)
    refine Ev.bind (c := 10) (a := ForInStep.yield PUnit.unit) (s₁ := ⟨H (es ++ [⟨hashInt k, .int k t, .str v (t + 1)⟩]) (n + 1), g, d, tk + 1, os⟩) (p₁ := pos) ?_ ih
    refine Ev.bind (c := 10) (d := 0) (a := ()) (s₁ := ⟨H (es ++ [⟨hashInt k, .int k t, .str v (t + 1)⟩]) (n + 1), g, d, tk + 1, os⟩) (p₁ := pos) ?_ Ev.pure
    have q := Ev.dictSet_new (P := P) (w := w) (ann := ann) (s := ⟨H es n, g, d, tk, os⟩) (p := pos) (k := k) (t := t) (v := .str v (t + 1)) (G.get es n) ha (fun e he => hn.head e (by simpa using he)) (by rw [sizeLine_eq]; simp at hz ⊢; omega)
    have e4 : putE (H es n) a ⟨hashInt k, .int k t, .str v (t + 1)⟩ = H (es ++ [⟨hashInt k, .int k t, .str v (t + 1)⟩]) (n + 1) := G.put ..
    rw [← e4]
    exact q
theorem Ev.subShort {H : List DictEntry → Nat → Heap} {a : Addr} (G : Grow H a) (ha : n₀ ≤ a) {pos : Pos} {pairs : List (Sem Value × Sem Value)} {l : List (Int × Str)} {hp : Heap} {tk : Nat} {g : Array GenState} {d : Drawn} {os : OsState}
    (hps : PairsAre P w n₀ ann pos pairs l) (hn : NewTo [] l) (hz : l.length < 10000) (hl : pairs.length ≤ 15) (hsz : hp.objs.size = a) (hpush : hp.push (dO #[] 0) = H [] 0) :
    Ev P w n₀ ann (13 * l.length + 1) (subDict pairs) ⟨hp, g, d, tk, os⟩ pos a ⟨H (entsS tk l) l.length, g, d, tk + 2 * l.length + l.length, os⟩ pos := by
  subst hsz
  unfold subDict
  refine Ev.bind1 (c := 13 * l.length) Ev.alloc ?_
  refine Ev.bind (c := 13 * l.length) (d := 0) (a := ()) (s₁ := ⟨H (entsS tk l) l.length, g, d, tk + 2 * l.length + l.length, os⟩) (p₁ := pos) (Ev.holding ?_) Ev.pure
  rw [if_pos hl]
  refine Ev.bind (c := 3 * l.length) (d := 10 * l.length) (Ev.evalPairs hps) ?_ |>.mono (by omega)
  refine Ev.holding ?_
  have q := Ev.shortLoop (P := P) (w := w) (ann := ann) G ha (pos := pos) (g := g) (d := d) (os := os) (l := l) (es := []) (n := 0) (tk := tk + 2 * l.length) (t := tk) hn (by simpa using hz)
  rw [List.nil_append, Nat.zero_add] at q
  show Ev P w n₀ ann (10 * l.length) ((forIn (valsS tk l) PUnit.unit fun x _ => do
      dictSet hp.objs.size x.1 x.2
      Pure.pure (ForInStep.yield PUnit.unit)) >>= fun _ => Pure.pure ()) ⟨hp.push (dO #[] 0), g, d, tk + 2 * l.length, os⟩ _ _ _ _
  rw [hpush]
  exact Ev.bind (c := 10 * l.length) (d := 0) q Ev.pure
end
end Mine.E
end

section
open PySem PySem.W PyProof.Rows PySem.Calls
set_option maxRecDepth 100000
set_option maxHeartbeats 4000000
namespace Mine.E
abbrev Pr := Sem Value × Sem Value
def flushS (run : List Pr) (main : Option Addr) : Sem (Option Addr) :=
  if run.isEmpty = true then pure main
  else match main with
    | none => do
      let r ← PySem.subDict run
      pure (some r)
    | some d => do
      let sub ← PySem.holding [PySem.Value.ref d] (PySem.subDict run)
      (PySem.holding [PySem.Value.ref d, PySem.Value.ref sub] (PySem.mergeMapping d (PySem.Value.ref sub) false)).onRaise fun x => do
        let _ ← PySem.holding [PySem.Value.ref d, x] (PySem.runValue (PySem.Code.builtin "proto.let_go" { }))
        pure ()
      pure (some d)
abbrev DSt := Option Addr × List Pr
abbrev DBody := Option (Sem Value) × Sem Value → DSt → Sem (ForInStep DSt)
def GoodB (B : DBody) : Prop := ∀ k v s, B (some k, v) s = if ((s.2 ++ [(k, v)]).length == 17) = true then (do let m ← flushS (s.2 ++ [(k, v)]) s.1; pure (ForInStep.yield (m, []))) else pure (ForInStep.yield (s.1, s.2 ++ [(k, v)]))
theorem display_eq (items : List (Option (Sem Value) × Sem Value)) : ∃ B : DBody, GoodB B ∧ dictDisplay items = (forIn items ((none, []) : DSt) B >>= fun s => flushS s.2 s.1 >>= fun r => match r with
    | some d => pure (.ref d)
    | none => newDict) := by
  refine ⟨?B, ?h1, ?h2⟩
  case h2 =>
    unfold dictDisplay
    exact rfl
  case h1 =>
    intro k v s
    rfl
def somes (l : List Pr) : List (Option (Sem Value) × Sem Value) := l.map fun x => (some x.1, x.2)
section
variable {P : Program} {w : World} {n₀ : Nat} {ann : Option Value} {α β : Type} {B : DBody}
theorem Ev.dispGroup (hB : GoodB B) {main m : Option Addr} {rest : List (Option (Sem Value) × Sem Value)} {s s₁ s₂ : Shared} {p p₁ p₂ : Pos} {a : DSt} {c d : Nat} : ∀ {g r : List Pr}, g ≠ [] → r.length + g.length = 17 →
    Ev P w n₀ ann c (flushS (r ++ g) main) s p m s₁ p₁ → Ev P w n₀ ann d (forIn rest ((m, []) : DSt) B) s₁ p₁ a s₂ p₂ → Ev P w n₀ ann (c + d) (forIn (somes g ++ rest) ((main, r) : DSt) B) s p a s₂ p₂
  | [], _, h, _, _, _ => absurd rfl h
  | [x], r, _, hl, hf, hk => by
    show Ev P w n₀ ann (c + d) (forIn ((some x.1, x.2) :: rest) ((main, r) : DSt) B) s p a s₂ p₂
    rw [List.forIn_cons, hB]
    have e : ((r ++ [x]).length == 17) = true := by simp at hl ⊢; omega
    show Ev P w n₀ ann (c + d) ((if ((r ++ [x]).length == 17) = true then _ else _) >>= _) s p a s₂ p₂
    rw [if_pos e]
    refine Ev.bind (c := c) (d := d) (a := ForInStep.yield ((m, []) : DSt)) (Ev.bind (c := c) (d := 0) hf Ev.pure) hk
  | x :: y :: g, r, _, hl, hf, hk => by
    have ih := Ev.dispGroup hB (g := y :: g) (r := r ++ [x]) (by simp) (by simp at hl ⊢; omega) (by simpa using hf) hk
    show Ev P w n₀ ann (c + d) (forIn ((some x.1, x.2) :: (somes (y :: g) ++ rest)) ((main, r) : DSt) B) s p a s₂ p₂
    rw [List.forIn_cons, hB]
    have e : ¬ ((r ++ [x]).length == 17) = true := by simp at hl ⊢; omega
    show Ev P w n₀ ann (c + d) ((if ((r ++ [x]).length == 17) = true then _ else _) >>= _) s p a s₂ p₂
    rw [if_neg e]
    exact Ev.bindP rfl ih
theorem Ev.dispTail (hB : GoodB B) {main : Option Addr} {s : Shared} {p : Pos} : ∀ {g r : List Pr}, r.length + g.length < 17 → Ev P w n₀ ann 0 (forIn (somes g) ((main, r) : DSt) B) s p ((main, r ++ g) : DSt) s p
  | [], r, _ => by
    rw [List.append_nil]
    exact Ev.pure
  | x :: g, r, hl => by
    have ih := Ev.dispTail hB (main := main) (s := s) (p := p) (g := g) (r := r ++ [x]) (by simp at hl ⊢; omega)
    show Ev P w n₀ ann 0 (forIn ((some x.1, x.2) :: somes g) ((main, r) : DSt) B) s p _ s p
    rw [List.forIn_cons, hB]
    have e : ¬ ((r ++ [x]).length == 17) = true := by simp at hl ⊢; omega
    show Ev P w n₀ ann 0 ((if ((r ++ [x]).length == 17) = true then _ else _) >>= _) s p _ s p
    rw [if_neg e]
    refine Ev.bindP rfl ?_
    have e2 : r ++ [x] ++ g = r ++ x :: g := by simp
    rw [e2] at ih
    exact ih
theorem growLast (b : List Obj) (m : Obj) (subs : List Obj) (life : Life) : Grow (fun es n => HP b m (subs ++ [dO es.toArray n]) life) (b.length + 1 + subs.length) :=
  ⟨fun es n => HP_last, fun es n e => by
    show putE (HP b m (subs ++ [dO es.toArray n]) life) _ e = _
    rw [HP_put_last]; simp⟩
theorem growMain (b : List Obj) (subs : List Obj) (life : Life) : Grow (fun es n => HP b (dO es.toArray n) subs life) b.length :=
  ⟨fun es n => HP_main, fun es n e => by
    show putE (HP b (dO es.toArray n) subs life) _ e = _
    rw [HP_put_main]; simp⟩
theorem entsL_int : ∀ (l : List (Int × Str)) (t : Nat), ∀ e ∈ entsL t l, IntE e
  | [], _, _, h => nomatch h
  | (k, x) :: r, t, e, h => by
    unfold entsL at h
    rcases List.mem_cons.mp h with rfl | h
    · exact ⟨k, t, rfl, rfl⟩
    · exact entsL_int r _ e h
theorem entsS_int : ∀ (l : List (Int × Str)) (t : Nat), ∀ e ∈ entsS t l, IntE e
  | [], _, _, h => nomatch h
  | (k, x) :: r, t, e, h => by
    unfold entsS at h
    rcases List.mem_cons.mp h with rfl | h
    · exact ⟨k, t, rfl, rfl⟩
    · exact entsS_int r _ e h
theorem entsL_hash : ∀ (l : List (Int × Str)) (t : Nat), (entsL t l).map (·.hash) = l.map fun x => hashInt x.1
  | [], _ => rfl
  | (k, x) :: r, t => by
    unfold entsL
    rw [List.map_cons, List.map_cons, entsL_hash r]
theorem entsS_hash : ∀ (l : List (Int × Str)) (t : Nat), (entsS t l).map (·.hash) = l.map fun x => hashInt x.1
  | [], _ => rfl
  | (k, x) :: r, t => by
    unfold entsS
    rw [List.map_cons, List.map_cons, entsS_hash r]
theorem ents_len {es : List DictEntry} {l : List (Int × Str)} (h : es.map (·.hash) = l.map fun x => hashInt x.1) : es.length = l.length := by
  have := congrArg List.length h
  simpa using this
theorem ents_pair {es : List DictEntry} {l : List (Int × Str)} (h : es.map (·.hash) = l.map fun x => hashInt x.1) (hp : l.Pairwise fun x y => hashInt x.1 ≠ hashInt y.1) : es.Pairwise fun x y => x.hash ≠ y.hash := by
  have h1 : (es.map (·.hash)).Pairwise (· ≠ ·) := by
    rw [h]
    exact List.pairwise_map.mpr hp
  exact List.pairwise_map.mp h1
/-- what a later group does: a table of its own, then its entries in the main one -/
theorem Ev.flushLong {b : List Obj} {subs : List Obj} {life : Life} {es : List DictEntry} {n : Nat} (ha : n₀ ≤ b.length) (hb : 1 ≤ b.length) {pos : Pos} {g : Array GenState} {d : Drawn} {os : OsState} {tk : Nat} {run : List Pr} {l : List (Int × Str)}
    (hps : PairsAre P w n₀ ann pos run l) (hl : ¬ run.length ≤ 15) (hn : NewTo es l) (hz : es.length + l.length < 10000) (hne : es ≠ []) :
    Ev P w n₀ ann (19 * l.length + 7) (flushS run (some b.length)) ⟨HP b (dO es.toArray n) subs life, g, d, tk, os⟩ pos (some b.length)
      ⟨HP b (dO (es ++ entsL tk l).toArray (n + l.length)) (subs ++ [dO (entsL tk l).toArray l.length]) life, g, d, tk + 3 * l.length, os⟩ pos := by
  have hre : ¬ run.isEmpty = true := by
    cases run with
    | nil => exact absurd (Nat.zero_le _) hl
    | cons a r => simp
  unfold flushS
  rw [if_neg hre]
  have hN : NewTo [] l := ⟨fun _ _ _ he => absurd he List.not_mem_nil, hn.2⟩
  have q1 := Ev.subLong (P := P) (w := w) (ann := ann) (growLast b (dO es.toArray n) subs life) (by omega) hps hN (by omega) hl (hp := HP b (dO es.toArray n) subs life) (tk := tk) (g := g) (d := d) (os := os) HP_size HP_push
  have hlen := ents_len (entsL_hash l tk)
  have hsub : ∀ x ∈ entsL tk l, ∀ e ∈ es, e.hash ≠ x.hash := fun x hx e he => by
    have : x.hash ∈ (entsL tk l).map (·.hash) := List.mem_map.mpr ⟨x, hx, rfl⟩
    rw [entsL_hash] at this
    obtain ⟨y, hy, e2⟩ := List.mem_map.mp this
    rw [← e2]
    exact hn.1 y hy e he
  have q2 := Ev.merge (P := P) (w := w) (ann := ann) (b := b) (subs := subs) (life := life) (se := entsL tk l) (es := es) (n := n) (sn := l.length) ha hb (pos := pos) (g := g) (d := d) (os := os) (tk := tk + 3 * l.length) (entsL_int l tk) hsub (ents_pair (entsL_hash l tk) hn.2) (by omega) hne
  rw [hlen] at q2
  refine Ev.mono (c := (13 * l.length + 2) + (6 * l.length + 5)) ?_ (by omega)
  exact Ev.bind (Ev.holding q1) (Ev.bind (c := 6 * l.length + 5) (d := 0) (Ev.onRaise (Ev.holding q2)) Ev.pure)
theorem Ev.flushShort {b : List Obj} {subs : List Obj} {life : Life} {es : List DictEntry} {n : Nat} (ha : n₀ ≤ b.length) (hb : 1 ≤ b.length) {pos : Pos} {g : Array GenState} {d : Drawn} {os : OsState} {tk : Nat} {run : List Pr} {l : List (Int × Str)}
    (hps : PairsAre P w n₀ ann pos run l) (hl : run.length ≤ 15) (hre : ¬ run.isEmpty = true) (hn : NewTo es l) (hz : es.length + l.length < 10000) (hne : es ≠ []) :
    Ev P w n₀ ann (19 * l.length + 7) (flushS run (some b.length)) ⟨HP b (dO es.toArray n) subs life, g, d, tk, os⟩ pos (some b.length)
      ⟨HP b (dO (es ++ entsS tk l).toArray (n + l.length)) (subs ++ [dO (entsS tk l).toArray l.length]) life, g, d, tk + 2 * l.length + l.length, os⟩ pos := by
  unfold flushS
  rw [if_neg hre]
  have hN : NewTo [] l := ⟨fun _ _ _ he => absurd he List.not_mem_nil, hn.2⟩
  have q1 := Ev.subShort (P := P) (w := w) (ann := ann) (growLast b (dO es.toArray n) subs life) (by omega) hps hN (by omega) hl (hp := HP b (dO es.toArray n) subs life) (tk := tk) (g := g) (d := d) (os := os) HP_size HP_push
  have hlen := ents_len (entsS_hash l tk)
  have hsub : ∀ x ∈ entsS tk l, ∀ e ∈ es, e.hash ≠ x.hash := fun x hx e he => by
    have : x.hash ∈ (entsS tk l).map (·.hash) := List.mem_map.mpr ⟨x, hx, rfl⟩
    rw [entsS_hash] at this
    obtain ⟨y, hy, e2⟩ := List.mem_map.mp this
    rw [← e2]
    exact hn.1 y hy e he
  have q2 := Ev.merge (P := P) (w := w) (ann := ann) (b := b) (subs := subs) (life := life) (se := entsS tk l) (es := es) (n := n) (sn := l.length) ha hb (pos := pos) (g := g) (d := d) (os := os) (tk := tk + 2 * l.length + l.length) (entsS_int l tk) hsub (ents_pair (entsS_hash l tk) hn.2) (by omega) hne
  rw [hlen] at q2
  refine Ev.mono (c := (13 * l.length + 1) + (6 * l.length + 5)) ?_ (by omega)
  exact Ev.bind (Ev.holding q1) (Ev.bind (c := 6 * l.length + 5) (d := 0) (Ev.onRaise (Ev.holding q2)) Ev.pure)
end
end Mine.E
end

section
open PySem PySem.W PyProof.Rows PySem.Calls
set_option maxRecDepth 100000
set_option maxHeartbeats 4000000
namespace Mine.E
def subsL : Nat → List (Int × Str) → Nat → List Obj
  | _, _, 0 => []
  | tk, l, m + 1 => dO (entsL tk (l.take 17)).toArray 17 :: subsL (tk + 51) (l.drop 17) m
theorem entsL_app : ∀ (a b : List (Int × Str)) (t : Nat), entsL t (a ++ b) = entsL t a ++ entsL (t + 3 * a.length) b
  | [], b, t => by simp [entsL]
  | (k, x) :: a, b, t => by
    have e : t + 3 + 3 * a.length = t + 3 * ((k, x) :: a).length := by simp; omega
    rw [List.cons_append, entsL, entsL, entsL_app a b, e]
    rfl
section
variable {P : Program} {w : World} {n₀ : Nat} {ann : Option Value} {B : DBody}
theorem PairsAre.split {pos : Pos} : ∀ {l : List Pr} {r : List (Int × Str)}, PairsAre P w n₀ ann pos l r → ∀ k, PairsAre P w n₀ ann pos (l.take k) (r.take k) ∧ PairsAre P w n₀ ann pos (l.drop k) (r.drop k)
  | _, _, .nil, k => by simp only [List.take_nil, List.drop_nil]; exact ⟨.nil, .nil⟩
  | _, _, .cons h hs, 0 => ⟨.nil, .cons h hs⟩
  | _, _, .cons h hs, k + 1 => ⟨.cons h (hs.split k).1, (hs.split k).2⟩
theorem NewTo.take {es : List DictEntry} {l : List (Int × Str)} (h : NewTo es l) (k : Nat) : NewTo es (l.take k) :=
  ⟨fun x hx => h.1 x (List.mem_of_mem_take hx), h.2.sublist (List.take_sublist ..)⟩
theorem NewTo.drop {es : List DictEntry} {l : List (Int × Str)} (h : NewTo es l) (k t : Nat) : NewTo (es ++ entsL t (l.take k)) (l.drop k) := by
  refine ⟨fun x hx e he => ?_, h.2.sublist (List.drop_sublist ..)⟩
  rcases List.mem_append.mp he with he | he
  · exact h.1 x (List.mem_of_mem_drop hx) e he
  · have hm : e.hash ∈ (entsL t (l.take k)).map (·.hash) := List.mem_map.mpr ⟨e, he, rfl⟩
    rw [entsL_hash] at hm
    obtain ⟨y, hy, e2⟩ := List.mem_map.mp hm
    rw [← e2]
    have hp := h.2
    rw [← List.take_append_drop k l] at hp
    exact (List.pairwise_append.mp hp).2.2 y hy x hx
theorem Ev.groups (hB : GoodB B) {b : List Obj} {life : Life} (ha : n₀ ≤ b.length) (hb : 1 ≤ b.length) {pos : Pos} {g : Array GenState} {d : Drawn} {os : OsState} {r : Nat} (hr : r < 17) : ∀ (m : Nat) {pairs : List Pr} {l : List (Int × Str)} {es : List DictEntry} {n tk : Nat} {subs : List Obj},
    PairsAre P w n₀ ann pos pairs l → l.length = 17 * m + r → es ≠ [] → NewTo es l → es.length + l.length < 10000 →
    Ev P w n₀ ann (330 * m) (forIn (somes pairs) ((some b.length, []) : DSt) B) ⟨HP b (dO es.toArray n) subs life, g, d, tk, os⟩ pos ((some b.length, pairs.drop (17 * m)) : DSt)
      ⟨HP b (dO (es ++ entsL tk (l.take (17 * m))).toArray (n + 17 * m)) (subs ++ subsL tk l m) life, g, d, tk + 51 * m, os⟩ pos
  | 0, pairs, l, es, n, tk, subs, hps, hl, _, _, _ => by
    have q := Ev.dispTail (P := P) (w := w) (n₀ := n₀) (ann := ann) hB (main := some b.length) (s := ⟨HP b (dO es.toArray n) subs life, g, d, tk, os⟩) (p := pos) (g := pairs) (r := []) (by rw [hps.length]; simp; omega)
    simpa [entsL, subsL] using q
  | m + 1, pairs, l, es, n, tk, subs, hps, hl, hne, hn, hz => by
    have hlt : (l.take 17).length = 17 := by rw [List.length_take]; omega
    have hpt : (pairs.take 17).length = 17 := by rw [(hps.split 17).1.length, hlt]
    have ih := Ev.groups hB (life := life) ha hb (pos := pos) (g := g) (d := d) (os := os) hr m (es := es ++ entsL tk (l.take 17)) (n := n + 17) (tk := tk + 51) (subs := subs ++ [dO (entsL tk (l.take 17)).toArray 17]) (hps.split 17).2 (by rw [List.length_drop]; omega) (by simp [hne]) (hn.drop 17 tk)
      (by rw [List.length_append, ents_len (entsL_hash (l.take 17) tk), hlt, List.length_drop]; omega)
    have q := Ev.flushLong (P := P) (w := w) (ann := ann) (b := b) (subs := subs) (life := life) (es := es) (n := n) ha hb (pos := pos) (g := g) (d := d) (os := os) (tk := tk) (hps.split 17).1 (by omega) (hn.take 17) (by rw [hlt]; omega) hne
    rw [hlt] at q
    have e1 : es ++ entsL tk (l.take 17) ++ entsL (tk + 51) ((l.drop 17).take (17 * m)) = es ++ entsL tk (l.take (17 * (m + 1))) := by
      rw [show 17 * (m + 1) = 17 + 17 * m by omega, List.take_add, entsL_app, hlt, List.append_assoc]
    have e2 : n + 17 + 17 * m = n + 17 * (m + 1) := by omega
    have e3 : tk + 51 + 51 * m = tk + 51 * (m + 1) := by omega
    have e4 : subs ++ [dO (entsL tk (l.take 17)).toArray 17] ++ subsL (tk + 51) (l.drop 17) m = subs ++ subsL tk l (m + 1) := by simp [subsL]
    have e5 : (pairs.drop 17).drop (17 * m) = pairs.drop (17 * (m + 1)) := by rw [List.drop_drop]; congr 1; omega
    rw [e1, e2, e3, e4, e5] at ih
    have hsp : somes pairs = somes (pairs.take 17) ++ somes (pairs.drop 17) := by
      unfold somes
      rw [← List.map_append, List.take_append_drop]
    rw [hsp]
    refine Ev.mono (c := (19 * 17 + 7) + 330 * m) ?_ (by omega)
    exact Ev.dispGroup hB (by intro e; rw [e] at hpt; cases hpt) (by simpa using hpt) (by simpa using q) ih
theorem base_push {b : List Obj} {o : Obj} {life : Life} : (⟨b.toArray, life⟩ : Heap).push o = HP b o [] life := by
  unfold HP Heap.push
  simp
/-- the whole display: 17 + 17 m pairs, then r more -/
theorem Ev.display {b : List Obj} {life : Life} (ha : n₀ ≤ b.length) (hb : 1 ≤ b.length) {pos : Pos} {g : Array GenState} {d : Drawn} {os : OsState} {r m tk : Nat} (hr : r ≤ 15) (hr0 : 0 < r) {pairs : List Pr} {l : List (Int × Str)}
    (hps : PairsAre P w n₀ ann pos pairs l) (hl : l.length = 17 * m + r + 17) (hn : NewTo [] l) (hz : l.length < 10000) :
    Ev P w n₀ ann (330 * m + 600) (dictDisplay (somes pairs)) ⟨⟨b.toArray, life⟩, g, d, tk, os⟩ pos (.ref b.length)
      ⟨HP b (dO (entsL tk (l.take (17 * m + 17)) ++ entsS (tk + 3 * (17 * m + 17)) (l.drop (17 * m + 17))).toArray l.length) (subsL (tk + 51) (l.drop 17) m ++ [dO (entsS (tk + 3 * (17 * m + 17)) (l.drop (17 * m + 17))).toArray r]) life, g, d, tk + 3 * (17 * m + 17) + 2 * r + r, os⟩ pos := by
  obtain ⟨B, hB, he⟩ := display_eq (somes pairs)
  rw [he]
  have hlt : (l.take 17).length = 17 := by rw [List.length_take]; omega
  have hpt : (pairs.take 17).length = 17 := by rw [(hps.split 17).1.length, hlt]
  have hre : ¬ (pairs.take 17).isEmpty = true := by
    intro e
    rw [List.isEmpty_iff.mp e] at hpt
    cases hpt
  have q0 : Ev P w n₀ ann (13 * 17 + 2) (flushS ([] ++ pairs.take 17) none) ⟨⟨b.toArray, life⟩, g, d, tk, os⟩ pos (some b.length) ⟨HP b (dO (entsL tk (l.take 17)).toArray 17) [] life, g, d, tk + 51, os⟩ pos := by
    rw [List.nil_append]
    unfold flushS
    rw [if_neg hre]
    have q := Ev.subLong (P := P) (w := w) (ann := ann) (growMain b [] life) ha (hps.split 17).1 (hn.take 17) (by omega) (by omega) (hp := ⟨b.toArray, life⟩) (tk := tk) (g := g) (d := d) (os := os) (by simp) base_push
    rw [hlt] at q
    exact Ev.bind (c := 13 * 17 + 2) (d := 0) q Ev.pure
  have hent : entsL tk (l.take 17) ≠ [] := by
    intro e
    have := ents_len (entsL_hash (l.take 17) tk)
    rw [e, hlt] at this
    cases this
  have q1 := Ev.groups (P := P) (w := w) (n₀ := n₀) (ann := ann) hB (life := life) ha hb (pos := pos) (g := g) (d := d) (os := os) (r := r) (by omega) m (es := entsL tk (l.take 17)) (n := 17) (tk := tk + 51) (subs := []) (hps.split 17).2 (by rw [List.length_drop]; omega) hent (by simpa using hn.drop 17 tk)
    (by rw [ents_len (entsL_hash (l.take 17) tk), hlt, List.length_drop]; omega)
  have e1 : entsL tk (l.take 17) ++ entsL (tk + 51) ((l.drop 17).take (17 * m)) = entsL tk (l.take (17 * m + 17)) := by
    rw [show 17 * m + 17 = 17 + 17 * m by omega, List.take_add, entsL_app, hlt]
  have e2 : (pairs.drop 17).drop (17 * m) = pairs.drop (17 * m + 17) := by rw [List.drop_drop]; congr 1; omega
  have e3 : tk + 51 + 51 * m = tk + 3 * (17 * m + 17) := by omega
  have e4 : 17 + 17 * m = 17 * m + 17 := by omega
  rw [e1, e2, e3, e4, List.nil_append] at q1
  have hsp : somes pairs = somes (pairs.take 17) ++ somes (pairs.drop 17) := by
    unfold somes
    rw [← List.map_append, List.take_append_drop]
  have q2 := Ev.dispGroup hB (by intro e; rw [e] at hpt; cases hpt) (by simpa using hpt) q0 q1
  rw [← hsp] at q2
  have hd : (l.drop (17 * m + 17)).length = r := by rw [List.length_drop]; omega
  have hpd : (pairs.drop (17 * m + 17)).length = r := by rw [(hps.split (17 * m + 17)).2.length, hd]
  have hre2 : ¬ (pairs.drop (17 * m + 17)).isEmpty = true := by
    intro e
    rw [List.isEmpty_iff.mp e] at hpd
    exact absurd hpd.symm (Nat.ne_of_gt hr0)
  have hent2 : entsL tk (l.take (17 * m + 17)) ≠ [] := by
    intro e
    have h1 := ents_len (entsL_hash (l.take (17 * m + 17)) tk)
    rw [e, List.length_take] at h1
    simp at h1; omega
  have q3 := Ev.flushShort (P := P) (w := w) (ann := ann) (b := b) (subs := subsL (tk + 51) (l.drop 17) m) (life := life) (es := entsL tk (l.take (17 * m + 17))) (n := 17 * m + 17) ha hb (pos := pos) (g := g) (d := d) (os := os) (tk := tk + 3 * (17 * m + 17)) (hps.split (17 * m + 17)).2 (by omega) hre2
    (by simpa using hn.drop (17 * m + 17) tk) (by rw [ents_len (entsL_hash (l.take (17 * m + 17)) tk), List.length_take, hd]; omega) hent2
  rw [hd, show 17 * m + 17 + r = l.length by omega] at q3
  refine Ev.mono (c := (13 * 17 + 2 + 330 * m) + (19 * r + 7)) ?_ (by omega)
  exact Ev.bind q2 (Ev.bind (c := 19 * r + 7) (d := 0) q3 Ev.pure)
end
end Mine.E
end

section
open PySem PySem.W PyProof.Rows PySem.Calls
set_option maxRecDepth 100000
set_option maxHeartbeats 4000000
namespace Mine.E
def isIntC : Option Expr → Bool
  | some (.Constant (.int _) _ _) => true
  | _ => false
def isStrC : Expr → Bool
  | .Constant (.str x) _ _ => x.length ≤ 100
  | _ => false
section
variable {P : Program} {w : World} {n₀ : Nat} {ann : Option Value}
def pairsOf (env : Env) (pos : Pos) : List (Option Expr) → List Expr → List Pr
  | some k :: ks, v :: vs => (eval k env, do let x ← eval v env; standAt pos; pure x) :: pairsOf env pos ks vs
  | _, _ => []
theorem items_eq (env : Env) (pos : Pos) : ∀ (ks : List (Option Expr)) (vs : List Expr), ks.all isIntC = true → ((evalEachOpt ks env).zip ((evalEach vs env).map fun v => do let x ← v; standAt pos; pure x)) = somes (pairsOf env pos ks vs)
  | [], vs, _ => rfl
  | k :: ks, [], h => by
    cases k with
    | none => simp [isIntC] at h
    | some k => rfl
  | k :: ks, v :: vs, h => by
    rw [List.all_cons, Bool.and_eq_true] at h
    cases k with
    | none => simp [isIntC] at h
    | some k =>
      have ih := items_eq env pos ks vs h.2
      show (some (eval k env), _) :: ((evalEachOpt ks env).zip _) = _
      rw [ih]
      rfl
theorem pairs_are (env : Env) (pos : Pos) (hi : ∀ k kk p, eval (.Constant (.int k) kk p) env = (do return .int k (← fresh))) (hs : ∀ x kk p, x.length ≤ 100 → eval (.Constant (.str x) kk p) env = (do return .str x (← fresh))) : ∀ (ks : List (Option Expr)) (vs : List Expr), ks.all isIntC = true → vs.all isStrC = true → ks.length = vs.length →
    PairsAre P w n₀ ann pos (pairsOf env pos ks vs) ((ks.map keyOf).zip (vs.map strOf))
  | [], [], _, _, _ => .nil
  | [], _ :: _, _, _, h => nomatch h
  | _ :: _, [], _, _, h => nomatch h
  | k :: ks, v :: vs, h1, h2, h3 => by
    rw [List.all_cons, Bool.and_eq_true] at h1 h2
    have ih := pairs_are env pos hi hs ks vs h1.2 h2.2 (Nat.succ.inj h3)
    obtain ⟨k', kk, kp, rfl⟩ : ∃ k' kk kp, k = some (.Constant (.int k') kk kp) := by
      cases k with
      | none => simp [isIntC] at h1
      | some e => cases e with
        | Constant c kk kp => cases c with
          | int k' => exact ⟨k', kk, kp, rfl⟩
          | _ => simp [isIntC] at h1
        | _ => simp [isIntC] at h1
    obtain ⟨x, vk, vp, rfl, hx⟩ : ∃ x vk vp, v = .Constant (.str x) vk vp ∧ x.length ≤ 100 := by
      cases v with
      | Constant c vk vp => cases c with
        | str x => exact ⟨x, vk, vp, rfl, by simpa [isStrC] using h2.1⟩
        | _ => simp [isStrC] at h2
      | _ => simp [isStrC] at h2
    refine .cons ⟨fun s => ?_, fun s => ?_⟩ ih
    · show Ev P w n₀ ann 1 (eval (.Constant (.int k') kk kp) env) s pos _ _ pos
      rw [hi]
      exact Ev.bind1 (c := 0) Ev.fresh Ev.pure
    · show Ev P w n₀ ann 2 (do let x ← eval (.Constant (.str x) vk vp) env; standAt pos; pure x) s pos _ _ pos
      rw [hs _ _ _ hx]
      exact Ev.bind (c := 1) (d := 1) (Ev.bind1 (c := 0) Ev.fresh Ev.pure) (Ev.bind1 (c := 0) Ev.standAt Ev.pure)
end
def ascI : List (Int × Str) → Bool
  | [] => true
  | [_] => true
  | a :: b :: r => a.1 < b.1 && ascI (b :: r)
theorem asc_lt : ∀ (a : Int × Str) (r : List (Int × Str)), ascI (a :: r) = true → ∀ x ∈ r, a.1 < x.1
  | _, [], _, _, h => nomatch h
  | a, b :: r, h, x, hx => by
    rw [ascI, Bool.and_eq_true, decide_eq_true_eq] at h
    rcases List.mem_cons.mp hx with rfl | hx
    · exact h.1
    · exact Int.lt_trans h.1 (asc_lt b r h.2 x hx)
theorem asc_tail {a : Int × Str} {r : List (Int × Str)} (h : ascI (a :: r) = true) : ascI r = true := by
  cases r with
  | nil => rfl
  | cons b r => rw [ascI, Bool.and_eq_true] at h; exact h.2
theorem hash_same {k : Int} (h0 : 0 ≤ k) (h1 : k < 1000000) : hashInt k = k := by
  have hr : rawHash k = k := by
    have e : ((k.natAbs : Int) % ((2 ^ 61 - 1 : Nat) : Int)) = k := by
      rw [Int.natAbs_of_nonneg h0]
      exact Int.emod_eq_of_lt h0 (Int.lt_trans h1 (by decide))
    unfold rawHash
    show (if ((if k < 0 then -((k.natAbs : Int) % ((2 ^ 61 - 1 : Nat) : Int)) else (k.natAbs : Int) % ((2 ^ 61 - 1 : Nat) : Int)) == -1) = true then -2 else (if k < 0 then -((k.natAbs : Int) % ((2 ^ 61 - 1 : Nat) : Int)) else (k.natAbs : Int) % ((2 ^ 61 - 1 : Nat) : Int))) = k
    rw [e, if_neg (Int.not_lt.mpr h0), if_neg (by rw [beq_iff_eq]; omega)]
  unfold hashInt
  rw [hr, if_neg (by rw [beq_iff_eq]; omega)]
theorem asc_new : ∀ {l : List (Int × Str)}, ascI l = true → (l.all fun x => 0 ≤ x.1 && x.1 < 1000000) = true → l.Pairwise fun x y => hashInt x.1 ≠ hashInt y.1
  | [], _, _ => .nil
  | a :: r, h, hb => by
    rw [List.all_cons, Bool.and_eq_true] at hb
    refine .cons (fun x hx => ?_) (asc_new (asc_tail h) hb.2)
    have h1 := asc_lt a r h x hx
    have h2 := List.all_eq_true.mp hb.2 x hx
    simp only [Bool.and_eq_true, decide_eq_true_eq] at h2 hb
    rw [hash_same hb.1.1 hb.1.2, hash_same h2.1 h2.2]
    exact Int.ne_of_lt h1
theorem tab_asc : ascI tab = true := by decide +kernel
theorem tab_small : (tab.all fun x => 0 ≤ x.1 && x.1 < 1000000) = true := by decide +kernel
theorem tab_len : tab.length = 650 := by decide +kernel
theorem tab_new : NewTo [] tab := ⟨fun _ _ _ he => absurd he List.not_mem_nil, asc_new tab_asc tab_small⟩
theorem keys_ok : keysAt.all isIntC = true := by decide +kernel
theorem vals_ok : valsAt.all isStrC = true := by decide +kernel
theorem same_len : keysAt.length = valsAt.length := by decide +kernel
end Mine.E
end

section
open PySem PySem.W PyProof.Rows PySem.Calls
set_option maxRecDepth 100000
set_option maxHeartbeats 4000000
namespace Mine.E
abbrev pw : Program := PySem.Challenge.pw_xh0031_01
abbrev annA : Option Value := some (.ref 6)
noncomputable def S0 (w : World) (os : OsState) : Shared := ⟨boot_heap w.params, Array.mk [], boot_drawn, boot_toks, os⟩
/-- where the run stands ahead of the text's body -/
noncomputable def R1 (w : World) (os : OsState) : Option (Shared × Thread) := topGo treeTable pw w 11 annA 12 (S0 w os) (topStub pw)
noncomputable def s1 (w : World) (os : OsState) : Shared := match R1 w os with
  | some r => r.1
  | none => S0 w os
noncomputable def t1 (w : World) (os : OsState) : Thread := match R1 w os with
  | some r => r.2
  | none => topStub pw
noncomputable def env1 (w : World) (os : OsState) : Env := match (t1 w os).code with
  | .body _ e => e
  | _ => default
noncomputable def q1 (w : World) (os : OsState) : Pos := match (t1 w os).stack with
  | [.ret _ _ _ _ _ q _] => q
  | _ => default
theorem run1 (w : World) (os : OsState) : R1 w os = some (s1 w os, t1 w os) := by kernel_rfl
theorem stk1 (w : World) (os : OsState) : (t1 w os).stack = [topFrame (q1 w os)] := by kernel_rfl
theorem cod1 (w : World) (os : OsState) : (t1 w os).code = .body pw.main.body (env1 w os) := by kernel_rfl
theorem cur1 (w : World) (os : OsState) : (t1 w os).cur = denote treeTable (.body pw.main.body (env1 w os)) := by kernel_rfl
theorem body_is : pw.main.body = pw.main.body.take 1 ++ pw.main.body.drop 1 := (List.take_append_drop 1 _).symm
noncomputable abbrev restT (w : World) (os : OsState) (k : Nat) (p : Pos) : Thread := ⟨(execs (pw.main.body.drop k) (env1 w os)).wrap doneF (leaveH (env1 w os)) id id, (t1 w os).code, p, [topFrame (q1 w os)]⟩
theorem start1 (w : World) (os : OsState) : t1 w os = restT w os 0 (t1 w os).pos := by
  have h : t1 w os = ⟨(t1 w os).cur, (t1 w os).code, (t1 w os).pos, (t1 w os).stack⟩ := rfl
  have e : denote treeTable (.body pw.main.body (env1 w os)) = (execs (pw.main.body.drop 0) (env1 w os)).wrap doneF (leaveH (env1 w os)) id id := by
    rw [body_wrap]
    kernel_rfl
  rw [h, cur1, stk1, e]
/-- the first statement's run -/
noncomputable def R2 (w : World) (os : OsState) : Option (Shared × Thread) := topGo treeTable pw w 11 annA 9 (s1 w os) (restT w os 0 (t1 w os).pos)
noncomputable def s2 (w : World) (os : OsState) : Shared := match R2 w os with
  | some r => r.1
  | none => S0 w os
noncomputable def p2 (w : World) (os : OsState) : Pos := match R2 w os with
  | some r => r.2.pos
  | none => default
theorem run2 (w : World) (os : OsState) : R2 w os = some (s2 w os, restT w os 1 (p2 w os)) := by kernel_rfl
theorem size2 (w : World) (os : OsState) : (s2 w os).heap.objs.toList.length = 15 := by kernel_rfl
theorem toks2 (w : World) (os : OsState) : (s2 w os).toks = 189 := by kernel_rfl
theorem ahead (w : World) (os : OsState) : topGo treeTable pw w 11 annA 21 (S0 w os) (topStub pw) = some (s2 w os, restT w os 1 (p2 w os)) := by
  have h1 : topGo treeTable pw w 11 annA 12 (S0 w os) (topStub pw) = some (s1 w os, t1 w os) := run1 w os
  rw [start1] at h1
  exact topGo_add (n := 12) (m := 9) h1 (run2 w os)
end Mine.E
end

section
open PySem PySem.W PyProof.Rows PySem.Calls
set_option maxRecDepth 100000
set_option maxHeartbeats 4000000
namespace Mine.E
theorem Ev.goBind {P : Program} {w : World} {n₀ : Nat} {ann : Option Value} {α β : Type} {c : Nat} {m : Sem α} {f : α → Sem β} {s s' : Shared} {p p' : Pos} {a : α} (h : Ev P w n₀ ann c m s p a s' p') (K : β → Sem Fin) (H : Value → Sem Fin) (gd : Bool → Bool) (lv : List Value → List Value) (code : Code) (x : Frame) :
    Go P w n₀ ann c s ⟨(m >>= f).wrap K H gd lv, code, p, [x]⟩ s' ⟨(f a).wrap K H gd lv, code, p', [x]⟩ := by
  rw [Sem.bind_eq_wrap', Sem.wrap_wrap]
  exact h _ _ _ _ code x
def dposN : Pos := match pw.main.body[1]? with
  | some (PySem.Stmt.Assign _ (PySem.Expr.Dict _ _ p) _) => p
  | _ => default
def aposN : Pos := match pw.main.body[1]? with
  | some (PySem.Stmt.Assign _ _ p) => p
  | _ => default
def nposN : Pos := match pw.main.body[1]? with
  | some (PySem.Stmt.Assign [PySem.Expr.Name _ p] _ _) => p
  | _ => default
abbrev nameN : Str := Str.ofString "b3_exceptions"
theorem drop1 : pw.main.body.drop 1 = Stmt.Assign [.Name nameN nposN] (.Dict keysAt valsAt dposN) aposN :: pw.main.body.drop 2 := by kernel_rfl
noncomputable abbrev base (w : World) (os : OsState) : List Obj := (s2 w os).heap.objs.toList
noncomputable abbrev subsA : List Obj := subsL (189 + 51) (tab.drop 17) 37 ++ [dO (entsS (189 + 3 * 646) (tab.drop 646)).toArray 4]
/-- where the run stands when the dict has been made -/
noncomputable def S3 (w : World) (os : OsState) : Shared := ⟨HP (base w os) tabO subsA (s2 w os).heap.life, (s2 w os).gens, (s2 w os).drawn, 2139, (s2 w os).os⟩
theorem evalDict (w : World) (os : OsState) (env : Env) (p : Pos) : Ev pw w 11 annA 13000 (eval (.Dict keysAt valsAt dposN) env) (s2 w os) p (.ref 15) (S3 w os) dposN := by
  show Ev pw w 11 annA 13000 (PySem.standAt dposN >>= fun _ => dictDisplay ((evalEachOpt keysAt env).zip ((evalEach valsAt env).map fun v => do let x ← v; PySem.standAt dposN; pure x))) _ _ _ _ _
  rw [items_eq env dposN keysAt valsAt keys_ok]
  have hb : (base w os).length = 15 := size2 w os
  have hps : PairsAre pw w 11 annA dposN (pairsOf env dposN keysAt valsAt) tab := pairs_are env dposN (fun _ _ _ => rfl) (fun _ _ _ _ => rfl) keysAt valsAt keys_ok vals_ok same_len
  have q := Ev.display (P := pw) (w := w) (n₀ := 11) (ann := annA) (b := base w os) (life := (s2 w os).heap.life) (by rw [hb]; decide) (by rw [hb]; decide) (pos := dposN) (g := (s2 w os).gens) (d := (s2 w os).drawn) (os := (s2 w os).os) (r := 4) (m := 37) (tk := 189) (by decide) (by decide) hps (by rw [tab_len]) tab_new (by rw [tab_len]; decide)
  rw [tab_len, hb] at q
  refine Ev.mono (c := (330 * 37 + 600) + 1) ?_ (by decide)
  refine Ev.bind1 Ev.standAt ?_
  have e : s2 w os = ⟨⟨(base w os).toArray, (s2 w os).heap.life⟩, (s2 w os).gens, (s2 w os).drawn, 189, (s2 w os).os⟩ := by
    have := toks2 w os
    unfold base
    generalize s2 w os = s at this ⊢
    obtain ⟨⟨a, l⟩, g, d, tk, o⟩ := s
    simp only at this
    subst this
    rfl
  rw [e]
  exact q
/-- the thread right behind the dict -/
noncomputable def T3 (w : World) (os : OsState) : Thread :=
  ⟨((PySem.standAt nposN >>= fun _ => bindName (env1 w os) nameN (.ref 15) >>= fun _ => (pure Flow.next : Sem Flow)) : Sem Flow).wrap
    (fun f => match f with | .next => (execs (pw.main.body.drop 2) (env1 w os)).wrap doneF (leaveH (env1 w os)) id id | f => doneF f) (leaveH (env1 w os)) id id, (t1 w os).code, dposN, [topFrame (q1 w os)]⟩
theorem swaps_no (env : Env) : swapsWith (.Dict keysAt valsAt dposN) (some (.Name nameN nposN)) aposN.line env = (pure false : Sem Bool) := by first | rfl | kernel_rfl
theorem dict_go (w : World) (os : OsState) : Go pw w 11 annA 13001 (s2 w os) (restT w os 1 (p2 w os)) (S3 w os) (T3 w os) := by
  unfold T3
  show Go pw w 11 annA 13001 (s2 w os) ⟨(execs (pw.main.body.drop 1) (env1 w os)).wrap doneF (leaveH (env1 w os)) id id, _, _, _⟩ _ _
  rw [drop1, execs_cons_wrap, exec_Assign_Name _ _ _ _ _ (swaps_no _)]
  refine Go.mono (c := 1 + 13000) ?_ (by decide)
  refine Go.trans (Ev.goBind Ev.standAt _ _ _ _ _ _) ?_
  exact Ev.goBind (evalDict w os (env1 w os) aposN) _ _ _ _ _ _
end Mine.E
end

section
open PySem PySem.W PyProof.Rows PySem.Calls
set_option maxRecDepth 100000
set_option maxHeartbeats 4000000
namespace Mine.E
theorem looks (w : World) (os : OsState) : (topRun treeTable pw w 11 annA 500 (S3 w os) (T3 w os)).map (fun r => ((staticsOk (importedModules pw.main.body) (boot_heap w.params) r.heap && namesBound pw r.heap && gensDone r && laidKept (boot_heap w.params) r.heap), openSeen q loose (importedModules pw.main.body) Xt true r, hook.obs r)) = some (true, openGood q loose, hook.val w) := by kernel_rfl
end Mine.E
end

section
open PySem PySem.W PyProof.Rows PySem.Calls
set_option maxRecDepth 100000
set_option maxHeartbeats 4000000
namespace Mine.E
theorem left : Left 40000 := fun w => by
  obtain ⟨⟨h, gs, d, k, os⟩, e, e'⟩ := Option.map_eq_some_iff.mp (boot_open (p := pw) (N := 40000) (by rfl) (by decide) (fun s => by rfl) w)
  obtain ⟨rfl, rfl, rfl, rfl⟩ : h = boot_heap w.params ∧ gs = Array.mk [] ∧ d = boot_drawn ∧ k = boot_toks := by simpa using e'
  obtain ⟨r, hr, hl⟩ := Option.map_eq_some_iff.mp (looks w os)
  obtain ⟨n, hn, hg⟩ := dict_go w os
  have run := topRun_mono (40000 - (21 + (n + 500))) _ _ _ _ (go_top (ahead w os) (go_top hg hr))
  rw [show 21 + (n + 500) + (40000 - (21 + (n + 500))) = 40000 by omega] at run
  obtain ⟨l1, l2, l3⟩ : _ ∧ _ ∧ _ := by simpa only [Prod.mk.injEq] using hl
  have t : topFrom treeTable pw w 40000 (S0 w os) = some r := by
    unfold topFrom
    have z1 : ((S0 w os).heap.isNs mainGlobals && (S0 w os).gens.size == 0) = true := by kernel_rfl
    have z2 : (S0 w os).heap.objs.size = 11 := by kernel_rfl
    have z3 : (S0 w os).heap.nsMap mainGlobals "__annotations__" = annA := by kernel_rfl
    rw [z1, z2, z3, run]
    show (match staticsOk (importedModules pw.main.body) (boot_heap w.params) r.heap && namesBound pw r.heap && gensDone r && laidKept (boot_heap w.params) r.heap with | true => _ | false => _) = _
    rw [l1]
  unfold openEnds
  rw [e]
  show (topFrom treeTable pw w 40000 (S0 w os)).map _ = _
  rw [t]
  exact congrArg some (Prod.ext l2 l3)
end Mine.E
end

open PySem PySem.W PyProof.Rows PyProof.V
set_option maxRecDepth 100000
set_option maxHeartbeats 0
namespace Mine
theorem filled (w : World) (h : Heap) : (heap w.params).In h → PySem.Challenge.rw_xh0031_01.row.prog = PySem.Challenge.rw_xh0031_01.row.prog := by
  k_fill
  intro _
  rfl
theorem of_eq_mem {α : Type} {a : α} {l r : List α} (e : l = r) (h : a ∈ l) : a ∈ r := e ▸ h
end Mine
open Mine
local macro_rules | `(tactic| walk_at "CompSrc") => `(tactic| (k_here; k_dflt (refine LCg.CompSrc.ledger (by rfl) (by k_asm) (by k_asm) (by k_mem) (take_size (by assumption)) ?_; intro g'; (refine' kct_list (fun k => ⟨#[sgn k]⟩) (by assumption) (fun k' t' I' oI' C' oC' D' m' ys' h' tk' E' hk' hC' hx' F' N' off' ne' => ?_) ?_); (all_goals (try (simp only [LCg.Off3, and_true] at off'))); (all_goals (try ((show KPfMark → _); intro hMark'))); kcf_last)))
local macro_rules | `(tactic| walk_at "KCtEl") => `(tactic| exact kct_el (item_sgn _).symm rfl rfl)
local macro_rules | `(tactic| walk_at "call ref") => `(tactic| (k_here; (with_reducible show wpAny _ _ (call (Value.ref 67) [Value.str _ _]) _ _ _); (k_dflt (refine' use1 (ctoi _ _ _) ?k1 ?k2 ?k3 ?k4 ?k5 ?kK ?kp ?kd ?ku ?_; (case k2 => k_asm); (case k4 => k_asm); (case k1 => k_asm); (case k3 => k_asm); (case k5 => k_asm); (case kK => first | exact rfl | assumption); (case kp => first | assumption | rfl | omega); (case kd => ktr_room); (case ku => ktr_units))); intro t9 h9 tk9 F9 N9; (try dsimp only); (try k_fold)))
local macro_rules | `(tactic| walk_at "call ref") => `(tactic| (k_here; (with_reducible show wpAny _ _ (call (Value.ref 123) [Value.str _ _]) _ _ _); (k_dflt (refine' use1 (isupper _ _ _) ?k1 ?k2 ?k3 ?k4 ?k5 ?kK ?kp ?kd ?ku ?_; (case k2 => k_asm); (case k4 => k_asm); (case k1 => k_asm); (case k3 => k_asm); (case k5 => k_asm); (case kK => first | exact rfl | assumption); (case kp => first | assumption | rfl | omega); (case kd => ktr_room); (case ku => ktr_units))); intro t9 h9 tk9 F9 N9; (try dsimp only); (try k_fold)))
local macro_rules | `(tactic| walk_at "call ref") => `(tactic| (k_here; (with_reducible show wpAny _ _ (call (Value.ref 102) [Value.str _ _]) _ _ _); (k_dflt (refine' use1 (islower _ _ _) ?k1 ?k2 ?k3 ?k4 ?k5 ?kK ?kp ?kd ?ku ?_; (case k2 => k_asm); (case k4 => k_asm); (case k1 => k_asm); (case k3 => k_asm); (case k5 => k_asm); (case kK => first | exact rfl | assumption); (case kp => first | assumption | rfl | omega); (case kd => ktr_room); (case ku => ktr_units))); intro t9 h9 tk9 F9 N9; (try dsimp only); (try k_fold)))
local macro_rules | `(tactic| walk_at "call ref") => `(tactic| (k_here; (with_reducible show wpAny _ _ (call (Value.ref 88) [Value.str _ _]) _ _ _); (k_dflt (refine' use1 (isdigit _ _ _) ?k1 ?k2 ?k3 ?k4 ?k5 ?kK ?kp ?kd ?ku ?_; (case k2 => k_asm); (case k4 => k_asm); (case k1 => k_asm); (case k3 => k_asm); (case k5 => k_asm); (case kK => first | exact rfl | assumption); (case kp => first | assumption | rfl | omega); (case kd => ktr_room); (case ku => ktr_units))); intro t9 h9 tk9 F9 N9; (try dsimp only); (try k_fold)))
local macro_rules | `(tactic| walk_at "call ref") => `(tactic| (k_here; (with_reducible show wpAny _ _ (call (Value.ref 116) [Value.str _ _]) _ _ _); (k_dflt (refine' use1 (isspace _ _ _) ?k1 ?k2 ?k3 ?k4 ?k5 ?kK ?kp ?kd ?ku ?_; (case k2 => k_asm); (case k4 => k_asm); (case k1 => k_asm); (case k3 => k_asm); (case k5 => k_asm); (case kK => first | exact rfl | assumption); (case kp => first | assumption | rfl | omega); (case kd => ktr_room); (case ku => ktr_units))); intro t9 h9 tk9 F9 N9; (try dsimp only); (try k_fold)))
local macro_rules | `(tactic| walk_at "call ref") => `(tactic| (k_here; (with_reducible show wpAny _ _ (call (Value.ref 81) [Value.str _ _]) _ _ _); (k_dflt (refine' use1 (isalpha _ _ _) ?k1 ?k2 ?k3 ?k4 ?k5 ?kK ?kp ?kd ?ku ?_; (case k2 => k_asm); (case k4 => k_asm); (case k1 => k_asm); (case k3 => k_asm); (case k5 => k_asm); (case kK => first | exact rfl | assumption); (case kp => first | assumption | rfl | omega); (case kd => ktr_room); (case ku => ktr_units))); intro t9 h9 tk9 F9 N9; (try dsimp only); (try k_fold)))
local macro_rules | `(tactic| walk_at "call ref") => `(tactic| (k_here; (with_reducible show wpAny _ _ (call (Value.ref 109) [Value.str _ _]) _ _ _); (k_dflt (refine' use1 (ispunct _ _ _) ?k1 ?k2 ?k3 ?k4 ?k5 ?kK ?kp ?kd ?ku ?_; (case k2 => k_asm); (case k4 => k_asm); (case k1 => k_asm); (case k3 => k_asm); (case k5 => k_asm); (case kK => first | exact rfl | assumption); (case kp => first | assumption | rfl | omega); (case kd => ktr_room); (case ku => ktr_units))); intro t9 h9 tk9 F9 N9; (try dsimp only); (try k_fold)))
local macro_rules | `(tactic| walk_at "call ref") => `(tactic| (k_here; (with_reducible show wpAny _ _ (call (Value.ref 131) [Value.str _ _]) _ _ _); (k_dflt (refine' use1 (capwords _ _ _) ?k1 ?k2 ?k3 ?k4 ?k5 ?kK ?kp ?kd ?ku ?_; (case k2 => k_asm); (case k4 => k_asm); (case k1 => k_asm); (case k3 => k_asm); (case k5 => k_asm); (case kK => first | exact rfl | assumption); (case kp => exact (txt_ok _).1); (case kd => ktr_room); (case ku => ktr_units))); intro t9 h9 tk9 F9 N9; (try dsimp only); (try k_fold)))
local macro_rules | `(tactic| walk_at "call ref") => `(tactic| (k_here; (with_reducible show wpAny _ _ (call (Value.ref 60) [Value.str _ _]) _ _ _); (k_dflt (refine' use1 (mapb3 _ _ _) ?k1 ?k2 ?k3 ?k4 ?k5 ?kK ?kp ?kd ?ku ?_; (case k2 => k_asm); (case k4 => k_asm); (case k1 => k_asm); (case k3 => k_asm); (case k5 => k_asm); (case kK => first | exact rfl | assumption); (case kp => assumption); (case kd => ktr_room); (case ku => ktr_units))); intro t9 h9 tk9 F9 N9; (try dsimp only); (try k_fold)))
local macro_rules | `(tactic| walk_at "call builtin:str.split") => `(tactic| (k_here; (with_reducible show wpAny _ _ (call (Value.builtin "str.split") [Value.str _ _, Value.str _ _]) _ _ _); k_dflt (refine' KSpl.split1 ?k1 ?k2 ?k3 ?_ ?k4); (case k1 => k_asm); (case k2 => k_asm); (case k3 => exact rfl); (case k4 => k_dflt exact told_size (txt_ok _)); intro D9 l9 h9 k9 e9 a9 F9 N9 b9; (try dsimp only); (try k_fold)))
local macro_rules | `(tactic| walk_at "pyIter ref") => `(tactic| (k_here; (with_reducible show wpAny _ _ (pyIter (Value.ref _)) (fun it s₂ => LoopAtV _ _ _ _ _ _ _ _ _ it s₂) _ _); k_dflt (refine' loop_texts (Str.ofString "k") ?k0 ?k1 ?k2 ?k3 ?_ ?_); (case k0 => exact rfl); (case k1 => k_asm); (case k2 => k_asm); (case k3 => k_mem)))
local macro_rules | `(tactic| walk_at "Turn2") => `(tactic| first
  | ((with_reducible rename _ ∈ List.map _ _ => ha9); (k_dflt (have hw9 := word_ok (txt_ok _) (of_eq_mem (by assumption) ha9))); obtain ⟨hw1, hw2, hw3⟩ := hw9; unfold Turn2; intro u9 I9 oI9 h9 tk9 F9 N9; (try dsimp only); (try k_fold))
  | ((with_reducible rename _ ∈ Array.toList _ => hc9); (k_dflt (have hs9 := (txt_ok _).2 _ hc9)); unfold Turn2; intro u9 I9 oI9 h9 tk9 F9 N9; (try dsimp only); (try k_fold)))
local macro_rules | `(tactic| walk_at "Done2") => `(tactic| (unfold Done2; intro u9 h9 tk9 F9 N9; (try dsimp only); (try k_fold)))
local macro_rules | `(tactic| walk_at "eval ListComp") => `(tactic| (k_here; (with_reducible show wpAny _ _ (eval (Expr.ListComp (Expr.Call (Expr.Name (Str.ofString "map_table_b3") _) _ _ _) _ _ _) _) _ _ _); (k_dflt (refine' LC_textT (fun _ => true) (fun c v => ∃ t, v = Value.str (Txt.lower ⟨#[c]⟩) t) ?hh ?F ?N ?hld ?hsz ?hasc ?hclos ?hcell ?hkind ?hnames ?hx ?_ ?_ ?_ ?hs; (case hh => with_unfolding_all rfl); (case F => k_asm); (case N => k_asm); (case hld => (intro _; refine' ld ?k1 ?k2 ?_; (case k1 => k_asm); (case k2 => exact rfl); exact ⟨rfl, rfl⟩)); (case hsz => first | exact txt_fits (txt_ok _) | exact told_fits (txt_ok _) | exact small_fits (txt_ok _)); (case hasc => first | exact txt_asc (txt_ok _) | exact told_asc (txt_ok _) | exact small_asc (txt_ok _)); (case hclos => with_unfolding_all rfl); (case hcell => decide); (case hkind => rfl); (case hnames => decide); (case hx => rfl); (case hs => intro _; with_unfolding_all rfl)))))
local macro_rules | `(tactic| walk_at "eval ListComp") => `(tactic| (k_here; (with_reducible show wpAny _ _ (eval (Expr.ListComp (Expr.Name (Str.ofString "sign") _) _ _ _) _) _ _ _); (k_dflt (refine' LC_textT (fun _ => false) (fun _ _ => True) ?hh ?F ?N ?hld ?hsz ?hasc ?hclos ?hcell ?hkind ?hnames ?hx ?_ ?_ ?_ ?hs; (case hh => with_unfolding_all rfl); (case F => k_asm); (case N => k_asm); (case hld => (intro _; refine' ld ?k1 ?k2 ?_; (case k1 => k_asm); (case k2 => exact rfl); exact ⟨rfl, rfl⟩)); (case hsz => first | exact txt_fits (txt_ok _) | exact told_fits (txt_ok _) | exact small_fits (txt_ok _)); (case hasc => first | exact txt_asc (txt_ok _) | exact told_asc (txt_ok _) | exact small_asc (txt_ok _)); (case hclos => with_unfolding_all rfl); (case hcell => decide); (case hkind => rfl); (case hnames => decide); (case hx => rfl); (case hs => intro _; with_unfolding_all rfl)))))
local macro_rules | `(tactic| walk_at "TestAt") => `(tactic| first | exact TestAt.none | (refine TestAt.one ?_; intro I9 oI9 C9 oC9 D9 ys9 m9 h9 tk9 E9 hC9 hx9 F9 N9 off9 ne9; (try simp only [LCg.Off3, and_true] at off9); (try dsimp only); (try k_fold)))
local macro_rules | `(tactic| walk_at "EltAt") => `(tactic| first | (exfalso; exact Bool.false_ne_true (by assumption)) | ((with_reducible rename _ ∈ Array.toList _ => hc9); k_dflt (have hs9 := txt_sign (by first | exact (txt_ok _).2 | exact told_sign (txt_ok _)) hc9); refine EltAt.of ?_; intro I9 oI9 C9 oC9 D9 ys9 m9 h9 tk9 E9 hC9 hx9 F9 N9 off9 ne9; (try simp only [LCg.Off3, and_true] at off9); (try dsimp only); (try k_fold)))
local macro_rules | `(tactic| walk_at "EltEnd") => `(tactic| (refine' EltEnd.mk' ?e1 ?e2 ?e3; (case e1 => first | exact ⟨_, rfl⟩ | trivial); (case e2 => k_asm); (case e3 => first | k_asm | (refine' cb_drop ?cbN ?cbS; (case cbN => assumption); (case cbS => kcj_all)))))
local macro_rules | `(tactic| walk_at "TestEnd") => `(tactic| (refine' TestEnd.mk' ?e1 ?e2 ?e3; (case e1 => first | rfl | exact small_up (txt_ok _) _ (by assumption)); (case e2 => k_asm); (case e3 => first | k_asm | (refine' cb_drop ?cbN ?cbS; (case cbN => assumption); (case cbS => kcj_all)))))
local macro_rules | `(tactic| walk_at "FinTT") => `(tactic| (unfold FinTT; intro D9 ys9 h9 tk9 htk9 F9 N9 off9 hY9; (try dsimp only at htk9); (try simp only [LCg.Off1, and_true] at off9); (try (have hZ9 := All2.none hY9; subst hZ9)); (try dsimp only); (try k_fold)))
local macro_rules | `(tactic| walk_at "call builtin:str.join") => `(tactic| (k_here; (show wpAny _ _ (call (Value.builtin "str.join") [Value.str _ _, Value.ref _]) _ _ _); (k_dflt (refine' joinNT ?k1 ?k2 ?k3 ?k4 ?_; (case k1 => k_asm); (case k2 => k_mem); (case k3 => exact All2.strs_all (by assumption)); (case k4 => first | exact low_fits (txt_low (txt_ok _)) | exact low_fits (told_low (txt_ok _))))); intro t9 k9 hk9; (try dsimp only at hk9); (try dsimp only); (try k_fold)))
local macro_rules | `(tactic| walk_at "TurnTwo") => `(tactic| first | (k_dflt (exfalso; first | exact word_no1 (by assumption) (by assumption) (by assumption) (by assumption) (by assumption) | exact word_no2 (by assumption) (by assumption) (by assumption) (by assumption) (by assumption))) | (k_dflt (refine' TurnTwo.next' ?e1 ?e2 ?e3; (case e1 => k_asm); (case e2 => first | k_asm | (refine' cb_drop ?cbN ?cbS; (case cbN => assumption); (case cbS => kcj_all))); (case e3 => intro z hz1 hz2; simp [hz1, hz2]))))
local macro_rules | `(tactic| walk_at "compareOp") => `(tactic| (fail "x"))
local macro_rules | `(tactic| walk_at "eval IfExp") => `(tactic| (k_here; (fail_if_success (with_reducible show wpAny _ _ _ (WordsPost _ _ _ _ _ _) _ _)); k_dflt (refine' ifWords (told := Str.ofString "told") ?F ?N ?hm ?_ ?_; (case F => k_asm); (case N => k_asm); (case hm => exact rfl))))
local macro_rules | `(tactic| walk_at "WordsPost") => `(tactic| first
  | (k_dflt (refine' WordsPost.split ?a ?b ?c ?d; (case c => k_asm); (case b => assumption); (case a => assumption); (case d => k_asm)))
  | (k_dflt (refine' WordsPost.none ?a ?c ?d; (case c => k_asm); (case d => k_asm); (case a => assumption))))
local macro_rules | `(tactic| walk_at "WordsNext") => `(tactic| (unfold WordsNext; intro D9 l9 h9 tk9 e9 F9 N9; (try dsimp only); (try k_fold)))
local macro_rules | `(tactic| walk_at "pyIter str") => `(tactic| (k_here; (with_reducible show wpAny _ _ (pyIter (Value.str _ _)) (fun it s₂ => LoopAtV _ _ _ _ _ _ _ _ _ it s₂) _ _); k_dflt (refine' loop_signs (Str.ofString "cost") ?k0 ?k1 ?k2 ?k3 ?_ ?_; (case k0 => exact rfl); (case k1 => k_asm); (case k2 => k_asm); (case k3 => exact txt_asc (txt_ok _)))))
local macro_rules | `(tactic| walk_at "call builtin:str.replace") => `(tactic| (k_here; (show wpAny _ _ (call (Value.builtin "str.replace") [Value.str _ _, Value.str _ _, Value.str _ _]) _ _ _); (k_dflt (refine' replaceNT ?h1 ?h2 ?h3 ?h4 ?h5 ?h6 ?_; (case h1 => first | exact Nat.succ_ne_zero _ | exact ne0' (by assumption) | exact ne0 (by assumption) (by assumption)); (case h2 => exact Nat.succ_ne_zero _); (case h3 => exact Nat.ne_of_lt (Nat.lt_succ_self _)); (case h4 => decide); (case h5 => first | exact small_len (txt_ok _) | exact told_small_len (txt_ok _)); (case h6 => decide))); intro t9 k9 hk9; (try dsimp only at hk9); (try dsimp only); (try k_fold)))
local macro_rules | `(tactic| walk_at "ite") => `(tactic| k_dflt (first | refine' ite_no (replace_no (txt_ok _)) ?_ | refine' ite_no (cost_no (by assumption)) ?_ | refine' ite_no (same_no (by assumption) (by first | exact Or.inl (by assumption) | exact Or.inr (Or.inl (by assumption)) | exact Or.inr (Or.inr (by assumption)))) ?_ | refine' ite_no (cnt_no (by assumption)) ?_))
local macro_rules | `(tactic| walk_at "getMethod ref") => `(tactic| (k_here; (with_reducible show wpAny _ _ (getMethod (Value.ref _) (Str.ofString "count") _) _ _ _); k_dflt (refine' method_count ?N ?m ?_; (case N => k_asm); (case m => k_mem))))
local macro_rules | `(tactic| walk_at "call builtin:list.count") => `(tactic| (k_here; (show wpAny _ _ (call (Value.builtin "list.count") [Value.ref _, Value.bool true]) _ _ _); (k_dflt (refine' count5 ?N ?m ?_; (case N => k_asm); (case m => k_mem))); (try dsimp only); (try k_fold)))
local macro_rules | `(tactic| walk_at "call ref") => `(tactic| (k_here; (with_reducible show wpAny _ _ (call (Value.ref 138) [Value.str _ _, Value.str _ _]) _ _ _); (k_dflt (refine' use1 (Mine.cost _ _ _ _ _) ?k1 ?k2 ?k3 ?k4 ?k5 ?kK ?kp ?kd ?ku ?_; (case k2 => k_asm); (case k4 => k_asm); (case k1 => k_asm); (case k3 => k_asm); (case k5 => k_asm); (case kK => first | exact rfl | assumption); (case kp => exact ⟨rfl, low_len (by assumption)⟩); (case kd => ktr_room); (case ku => ktr_units))); intro t9 h9 tk9 F9 N9; (try dsimp only); (try k_fold)))
local macro_rules | `(tactic| walk_at "exec If") => `(tactic| (k_here; (with_reducible show wpAny _ _ (exec (Stmt.If (Expr.BoolOp BoolOp.Or _ _) _ _ _) _) _ _ _); (fail_if_success (with_reducible show wpAny _ _ _ (SamePost _ _ _ _ _) _ _)); k_dflt (refine' ifSame ?F ?N ?_ ?_; (case F => k_asm); (case N => k_asm))))
local macro_rules | `(tactic| walk_at "SamePost") => `(tactic| (k_dflt (refine' SamePost.mk' ?e1 ?e2; (case e1 => k_asm); (case e2 => first | k_asm | (refine' cb_drop ?cbN ?cbS; (case cbN => assumption); (case cbS => kcj_all))))))
local macro_rules | `(tactic| walk_at "SameNext") => `(tactic| (unfold SameNext; intro h9 tk9 F9 N9; (try dsimp only); (try k_fold)))
local macro_rules | `(tactic| walk_at "exec Assign cons ListComp") => `(tactic| (k_here; (k_dflt (refine' LCA_text (fun c => spaF ⟨#[c]⟩) (fun _ _ => True) ?hh ?F ?N ?hLe ?hld ?hsz ?hasc ?hsw ?hclos ?hcell ?hkind ?hnames ?hx ?hy ?hp ?_ ?_ ?_ ?hs; (case hh => with_unfolding_all rfl); (case F => k_asm); (case N => k_asm); (case hLe => rfl); (case hld => (refine' ld ?k1 ?k2 ?_; (case k1 => k_asm); (case k2 => exact rfl); exact ⟨rfl, rfl⟩)); (case hsz => exact told_fits (txt_ok _)); (case hasc => exact told_asc (txt_ok _)); (case hsw => with_unfolding_all rfl); (case hclos => with_unfolding_all rfl); (case hcell => decide); (case hkind => rfl); (case hnames => decide); (case hx => rfl); (case hy => rfl); (case hp => rfl); (case hs => intro _; with_unfolding_all rfl)))))
local macro_rules | `(tactic| walk_at "FinV") => `(tactic| (unfold FinV; intro D9 ys9 h9 tk9 F9 N9 off9 hY9; (try simp only [LCg.Off1, and_true] at off9); (try dsimp only); (try k_fold)))
local macro_rules | `(tactic| walk_at "FinT") => `(tactic| (unfold FinT; intro D9 ys9 h9 tk9 F9 N9 off9 hY9; (try simp only [LCg.Off1, and_true] at off9); (try (have hZ9 := All2.none hY9; subst hZ9)); (try dsimp only); (try k_fold)))
local macro_rules | `(tactic| walk_at "eval ListComp") => `(tactic| (k_here; (with_reducible show wpAny _ _ (eval (Expr.ListComp (Expr.Name (Str.ofString "word") _) _ _ _) _) _ _ _); (k_dflt (refine' LC_list (fun _ => false) (fun _ _ => True) ?hh ?F ?N ?hld ?hm ?hsz ?hclos ?hcell ?hkind ?hnames ?hx ?_ ?_ ?_ ?hs; (case hh => with_unfolding_all rfl); (case F => k_asm); (case N => k_asm); (case hld => (refine' ld ?k1 ?k2 ?_; (case k1 => k_asm); (case k2 => exact rfl); exact ⟨rfl, rfl⟩)); (case hm => k_mem); (case hsz => exact words_fits (txt_ok _) (by assumption)); (case hclos => with_unfolding_all rfl); (case hcell => decide); (case hkind => rfl); (case hnames => decide); (case hx => rfl); (case hs => intro _; with_unfolding_all rfl)))))
local macro_rules | `(tactic| walk_at "TestEnd") => `(tactic| ((with_reducible rename _ ∈ List.map _ _ => ha9); k_dflt (refine' TestEnd.mk' ?e1 ?e2 ?e3; (case e1 => exact word_ne (txt_ok _) (of_eq_mem (by assumption) ha9)); (case e2 => k_asm); (case e3 => first | k_asm | (refine' cb_drop ?cbN ?cbS; (case cbN => assumption); (case cbS => kcj_all))))))
local macro_rules | `(tactic| walk_at "call builtin:len") => `(tactic| (k_here; (show wpAny _ _ (call (Value.builtin "len") [Value.ref _]) _ _ _); k_dflt (first
  | (refine' len_texts ?N ?m ?e ?z ?_; (case N => k_asm); (case m => k_mem); (case e => assumption); (case z => exact words_fits (txt_ok _) (by assumption)))
  | (refine' len_comp ?N ?m ?e ?z ?_; (case N => k_asm); (case m => k_mem); (case e => assumption); (case z => exact gaps_fits (txt_ok _) _)))))
local macro_rules | `(tactic| walk_at "ite") => `(tactic| k_dflt (refine' ite_yes (gaps_yes (txt_ok _)) ?_))
theorem PySem.Challenge.cw_xh0031_01_holds : PySem.Challenge.rw_xh0031_01.Holds := by
  w_on
  o_law
  refine holds_open (q := Mine.q) (loose := Mine.loose) (Xt := Mine.Xt) (XP := XL Mine.q []) (Yf := Hook.obs Mine.hook) (Ya := Hook.val Mine.hook) (YP := Hook.says Mine.hook) (N := 40000) Mine.E.left (Hook.of Mine.hook) (Hook.keeps Mine.hook) (fun s e => xl_of s (Bool.and_eq_true_iff.mp e).1) XL.keeps (by rfl) (by rfl) (by rfl) (fun s e => recFacts_of (Bool.and_eq_true_iff.mp e).2) (by rfl) (by first | assumption | decide +kernel) (by decide +kernel) ⟨rfl, rfl, rfl, rfl, rfl, by decide +kernel⟩ ?hw ?hc
  case hw => w_witness2
  w_strict (k_go0; (all_goals try k_fold); k_steps; (all_goals (try k_data)); all_goals w_report)
