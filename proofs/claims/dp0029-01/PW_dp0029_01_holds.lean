import PyProof.Rows.All
import Wide.All
import OpenK.AllK
import Wide.FinOn
import PySem.Challenge.RW_dp0029_01
open PySem PySem.W PyProof.Rows
set_option Elab.async false
set_option rowWalk.seconds 0
namespace Mine
section
set_option maxRecDepth 100000
set_option maxHeartbeats 8000000
abbrev pw0 : Program := PySem.Challenge.pw_dp0029_01
abbrev row0 : OpenRow := PySem.Challenge.rw_dp0029_01.row
noncomputable def hd.heap_39 : Params → Frag := by
  refine (?f : ∀ (a0 : Arguments) (b0 : List Stmt) (c0 : Scope) (_ : pw0.theDef (Str.ofString "_error") = some (a0, b0, c0)) (a1 : Arguments) (b1 : List Stmt) (c1 : Scope) (_ : pw0.theDef (Str.ofString "_parse") = some (a1, b1, c1)) (a2 : Arguments) (b2 : List Stmt) (c2 : Scope) (_ : pw0.theDef (Str.ofString "_law_leaf") = some (a2, b2, c2)) (a3 : Arguments) (b3 : List Stmt) (c3 : Scope) (_ : pw0.theDef (Str.ofString "_law_bracketed") = some (a3, b3, c3)) (a4 : Arguments) (b4 : List Stmt) (c4 : Scope) (_ : pw0.theDef (Str.ofString "_law_pair") = some (a4, b4, c4)) (a5 : Arguments) (b5 : List Stmt) (c5 : Scope) (_ : pw0.theDef (Str.ofString "_law_choice") = some (a5, b5, c5)) (a6 : Arguments) (b6 : List Stmt) (c6 : Scope) (_ : pw0.theDef (Str.ofString "law") = some (a6, b6, c6)), Params → Frag) _ _ _ (by rfl) _ _ _ (by rfl) _ _ _ (by rfl) _ _ _ (by rfl) _ _ _ (by rfl) _ _ _ (by rfl) _ _ _ (by rfl)
  exact fun a0 b0 c0 _ a1 b1 c1 _ a2 b2 c2 _ a3 b3 c3 _ a4 b4 c4 _ a5 b5 c5 _ a6 b6 c6 _ P =>
    (nat_lit 2, { cls := Value.none, data := Data.dict #[] }) ::
    (nat_lit 3, { cls := Value.type "dict", data := Data.dict #[{ hash := PyData.keyHash P (Str.ofString "__name__"), key := Value.str (Str.ofString "__name__") 165, val := Value.str (Str.ofString "law_dp0029_01") 286 }, { hash := PyData.keyHash P (Str.ofString "__doc__"), key := Value.str (Str.ofString "__doc__") 166, val := Value.none }, { hash := PyData.keyHash P (Str.ofString "__package__"), key := Value.str (Str.ofString "__package__") 167, val := Value.none }, { hash := PyData.keyHash P (Str.ofString "__loader__"), key := Value.str (Str.ofString "__loader__") 168, val := Value.builtin "__main__.__loader__#opaque" }, { hash := PyData.keyHash P (Str.ofString "__spec__"), key := Value.str (Str.ofString "__spec__") 169, val := Value.none }, { hash := PyData.keyHash P (Str.ofString "__annotations__"), key := Value.str (Str.ofString "__annotations__") 170, val := Value.ref 6 }, { hash := PyData.keyHash P (Str.ofString "__builtins__"), key := Value.str (Str.ofString "__builtins__") 171, val := Value.ref 4 }, { hash := PyData.keyHash P (Str.ofString "__file__"), key := Value.str (Str.ofString "__file__") 173, val := Value.str (Str.ofString "/claim/cut.py") 172 }, { hash := PyData.keyHash P (Str.ofString "__cached__"), key := Value.str (Str.ofString "__cached__") 174, val := Value.none }, { hash := PyData.keyHash P (Str.ofString "_error"), key := Value.str (Str.ofString "_error") 195, val := Value.ref 21 }, { hash := PyData.keyHash P (Str.ofString "_binary_ops"), key := Value.str (Str.ofString "_binary_ops") 209, val := Value.ref 31 }, { hash := PyData.keyHash P (Str.ofString "_c2py_ops"), key := Value.str (Str.ofString "_c2py_ops") 265, val := Value.ref 77 }, { hash := PyData.keyHash P (Str.ofString "_parse"), key := Value.str (Str.ofString "_parse") 285, val := Value.ref 85 }, { hash := PyData.keyHash P (Str.ofString "_law_leaf"), key := Value.str (Str.ofString "_law_leaf") 295, val := Value.ref 92 }, { hash := PyData.keyHash P (Str.ofString "_law_bracketed"), key := Value.str (Str.ofString "_law_bracketed") 302, val := Value.ref 99 }, { hash := PyData.keyHash P (Str.ofString "_law_pair"), key := Value.str (Str.ofString "_law_pair") 315, val := Value.ref 106 }, { hash := PyData.keyHash P (Str.ofString "_law_choice"), key := Value.str (Str.ofString "_law_choice") 326, val := Value.ref 113 }, { hash := PyData.keyHash P (Str.ofString "law"), key := Value.str (Str.ofString "law") 332, val := Value.ref 118 }] 18 }) ::
    (nat_lit 6, { cls := Value.type "dict", data := Data.dict #[] }) ::
    (nat_lit 15, { cls := Value.type "tuple", data := Data.seq #[] }) ::
    (nat_lit 17, { cls := Value.type "tuple", data := Data.seq #[Value.str (Str.ofString "value") 192] }) ::
    (nat_lit 18, { cls := Value.type "tuple", data := Data.seq #[] }) ::
    (nat_lit 20, { cls := Value.type "code", data := Data.fields #[Value.str (Str.ofString "_error") 189, Value.str (Str.ofString "_error") 190, Value.str (Str.ofString "/claim/cut.py") 191, Value.int 2 0, Value.int 1 0, Value.int 0 0, Value.int 0 0, Value.int 3 0, Value.ref 15, Value.bool true, Value.int 181 0, Value.ref 16, Value.none, Value.ref 17, Value.ref 18, Value.ref 19, Value.int 193 0, Value.int 2 0, Value.str (Str.ofString "/claim/cut.py") 194] }) ::
    (nat_lit 21, { cls := Value.type "function", data := Data.func { name := Str.ofString "_error", qualname := Str.ofString "_error", params := a0, body := .stmts b0, scope := c0, globals := 3, closure := [], defaults := Value.none, kwdefaults := Value.none, pyModule := Value.str (Str.ofString "cpy313.gettext") 187, code := Value.ref 20 } }) ::
    (nat_lit 31, { cls := Value.type "dict", data := Data.dict #[{ hash := PyData.keyHash P (Str.ofString "||"), key := Value.str (Str.ofString "||") 196, val := Value.int 1 211 }, { hash := PyData.keyHash P (Str.ofString "&&"), key := Value.str (Str.ofString "&&") 197, val := Value.int 2 216 }, { hash := PyData.keyHash P (Str.ofString "=="), key := Value.str (Str.ofString "==") 198, val := Value.int 3 221 }, { hash := PyData.keyHash P (Str.ofString "!="), key := Value.str (Str.ofString "!=") 199, val := Value.int 3 221 }, { hash := PyData.keyHash P (Str.ofString "<"), key := Value.str (Str.ofString "<") 200, val := Value.int 4 228 }, { hash := PyData.keyHash P (Str.ofString ">"), key := Value.str (Str.ofString ">") 201, val := Value.int 4 228 }, { hash := PyData.keyHash P (Str.ofString "<="), key := Value.str (Str.ofString "<=") 202, val := Value.int 4 228 }, { hash := PyData.keyHash P (Str.ofString ">="), key := Value.str (Str.ofString ">=") 203, val := Value.int 4 228 }, { hash := PyData.keyHash P (Str.ofString "+"), key := Value.str (Str.ofString "+") 204, val := Value.int 5 239 }, { hash := PyData.keyHash P (Str.ofString "-"), key := Value.str (Str.ofString "-") 205, val := Value.int 5 239 }, { hash := PyData.keyHash P (Str.ofString "*"), key := Value.str (Str.ofString "*") 206, val := Value.int 6 246 }, { hash := PyData.keyHash P (Str.ofString "/"), key := Value.str (Str.ofString "/") 207, val := Value.int 6 246 }, { hash := PyData.keyHash P (Str.ofString "%"), key := Value.str (Str.ofString "%") 208, val := Value.int 6 246 }] 13 }) ::
    (nat_lit 77, { cls := Value.type "dict", data := Data.dict #[{ hash := PyData.keyHash P (Str.ofString "||"), key := Value.str (Str.ofString "||") 256, val := Value.str (Str.ofString "or") 257 }, { hash := PyData.keyHash P (Str.ofString "&&"), key := Value.str (Str.ofString "&&") 258, val := Value.str (Str.ofString "and") 259 }, { hash := PyData.keyHash P (Str.ofString "/"), key := Value.str (Str.ofString "/") 260, val := Value.str (Str.ofString "//") 261 }] 3 }) ::
    (nat_lit 78, { cls := Value.type "tuple", data := Data.seq #[Value.int (-1) 267] }) ::
    (nat_lit 79, { cls := Value.type "tuple", data := Data.seq #[] }) ::
    (nat_lit 81, { cls := Value.type "tuple", data := Data.seq #[Value.str (Str.ofString "tokens") 271, Value.str (Str.ofString "priority") 272, Value.str (Str.ofString "result") 273, Value.str (Str.ofString "nexttok") 274, Value.str (Str.ofString "sub") 275, Value.str (Str.ofString "value") 276, Value.str (Str.ofString "j") 277, Value.str (Str.ofString "i") 278, Value.str (Str.ofString "op") 279, Value.str (Str.ofString "right") 280, Value.str (Str.ofString "if_true") 281, Value.str (Str.ofString "if_false") 282] }) ::
    (nat_lit 82, { cls := Value.type "tuple", data := Data.seq #[] }) ::
    (nat_lit 84, { cls := Value.type "code", data := Data.fields #[Value.str (Str.ofString "_parse") 268, Value.str (Str.ofString "_parse") 269, Value.str (Str.ofString "/claim/cut.py") 270, Value.int 10 0, Value.int 2 0, Value.int 0 0, Value.int 0 0, Value.int 3 0, Value.ref 79, Value.bool true, Value.int 181 0, Value.ref 80, Value.none, Value.ref 81, Value.ref 82, Value.ref 83, Value.int 283 0, Value.int 10 0, Value.str (Str.ofString "/claim/cut.py") 284] }) ::
    (nat_lit 85, { cls := Value.type "function", data := Data.func { name := Str.ofString "_parse", qualname := Str.ofString "_parse", params := a1, body := .stmts b1, scope := c1, globals := 3, closure := [], defaults := Value.ref 78, kwdefaults := Value.none, pyModule := Value.str (Str.ofString "cpy313.gettext") 187, code := Value.ref 84 } }) ::
    (nat_lit 86, { cls := Value.type "tuple", data := Data.seq #[] }) ::
    (nat_lit 88, { cls := Value.type "tuple", data := Data.seq #[Value.str (Str.ofString "x") 291, Value.str (Str.ofString "number") 292] }) ::
    (nat_lit 89, { cls := Value.type "tuple", data := Data.seq #[] }) ::
    (nat_lit 91, { cls := Value.type "code", data := Data.fields #[Value.str (Str.ofString "_law_leaf") 288, Value.str (Str.ofString "_law_leaf") 289, Value.str (Str.ofString "/claim/cut.py") 290, Value.int 53 0, Value.int 1 0, Value.int 0 0, Value.int 0 0, Value.int 3 0, Value.ref 86, Value.bool true, Value.int 181 0, Value.ref 87, Value.none, Value.ref 88, Value.ref 89, Value.ref 90, Value.int 293 0, Value.int 53 0, Value.str (Str.ofString "/claim/cut.py") 294] }) ::
    (nat_lit 92, { cls := Value.type "function", data := Data.func { name := Str.ofString "_law_leaf", qualname := Str.ofString "_law_leaf", params := a2, body := .stmts b2, scope := c2, globals := 3, closure := [], defaults := Value.none, kwdefaults := Value.none, pyModule := Value.str (Str.ofString "law_dp0029_01") 286, code := Value.ref 91 } }) ::
    (nat_lit 93, { cls := Value.type "tuple", data := Data.seq #[] }) ::
    (nat_lit 95, { cls := Value.type "tuple", data := Data.seq #[Value.str (Str.ofString "part") 299] }) ::
    (nat_lit 96, { cls := Value.type "tuple", data := Data.seq #[] }) ::
    (nat_lit 98, { cls := Value.type "code", data := Data.fields #[Value.str (Str.ofString "_law_bracketed") 296, Value.str (Str.ofString "_law_bracketed") 297, Value.str (Str.ofString "/claim/cut.py") 298, Value.int 58 0, Value.int 1 0, Value.int 0 0, Value.int 0 0, Value.int 3 0, Value.ref 93, Value.bool true, Value.int 181 0, Value.ref 94, Value.none, Value.ref 95, Value.ref 96, Value.ref 97, Value.int 300 0, Value.int 58 0, Value.str (Str.ofString "/claim/cut.py") 301] }) ::
    (nat_lit 99, { cls := Value.type "function", data := Data.func { name := Str.ofString "_law_bracketed", qualname := Str.ofString "_law_bracketed", params := a3, body := .stmts b3, scope := c3, globals := 3, closure := [], defaults := Value.none, kwdefaults := Value.none, pyModule := Value.str (Str.ofString "law_dp0029_01") 286, code := Value.ref 98 } }) ::
    (nat_lit 100, { cls := Value.type "tuple", data := Data.seq #[] }) ::
    (nat_lit 102, { cls := Value.type "tuple", data := Data.seq #[Value.str (Str.ofString "op") 306, Value.str (Str.ofString "left") 307, Value.str (Str.ofString "right") 308, Value.str (Str.ofString "rank") 309, Value.str (Str.ofString "row") 310, Value.str (Str.ofString "words") 311, Value.str (Str.ofString "part") 312] }) ::
    (nat_lit 103, { cls := Value.type "tuple", data := Data.seq #[] }) ::
    (nat_lit 105, { cls := Value.type "code", data := Data.fields #[Value.str (Str.ofString "_law_pair") 303, Value.str (Str.ofString "_law_pair") 304, Value.str (Str.ofString "/claim/cut.py") 305, Value.int 60 0, Value.int 3 0, Value.int 0 0, Value.int 0 0, Value.int 3 0, Value.ref 100, Value.bool true, Value.int 181 0, Value.ref 101, Value.none, Value.ref 102, Value.ref 103, Value.ref 104, Value.int 313 0, Value.int 60 0, Value.str (Str.ofString "/claim/cut.py") 314] }) ::
    (nat_lit 106, { cls := Value.type "function", data := Data.func { name := Str.ofString "_law_pair", qualname := Str.ofString "_law_pair", params := a4, body := .stmts b4, scope := c4, globals := 3, closure := [], defaults := Value.none, kwdefaults := Value.none, pyModule := Value.str (Str.ofString "law_dp0029_01") 286, code := Value.ref 105 } }) ::
    (nat_lit 107, { cls := Value.type "tuple", data := Data.seq #[] }) ::
    (nat_lit 109, { cls := Value.type "tuple", data := Data.seq #[Value.str (Str.ofString "cond") 319, Value.str (Str.ofString "yes") 320, Value.str (Str.ofString "no") 321, Value.str (Str.ofString "words") 322, Value.str (Str.ofString "tokens") 323] }) ::
    (nat_lit 110, { cls := Value.type "tuple", data := Data.seq #[] }) ::
    (nat_lit 112, { cls := Value.type "code", data := Data.fields #[Value.str (Str.ofString "_law_choice") 316, Value.str (Str.ofString "_law_choice") 317, Value.str (Str.ofString "/claim/cut.py") 318, Value.int 85 0, Value.int 3 0, Value.int 0 0, Value.int 0 0, Value.int 3 0, Value.ref 107, Value.bool true, Value.int 181 0, Value.ref 108, Value.none, Value.ref 109, Value.ref 110, Value.ref 111, Value.int 324 0, Value.int 85 0, Value.str (Str.ofString "/claim/cut.py") 325] }) ::
    (nat_lit 113, { cls := Value.type "function", data := Data.func { name := Str.ofString "_law_choice", qualname := Str.ofString "_law_choice", params := a5, body := .stmts b5, scope := c5, globals := 3, closure := [], defaults := Value.none, kwdefaults := Value.none, pyModule := Value.str (Str.ofString "law_dp0029_01") 286, code := Value.ref 112 } }) ::
    (nat_lit 114, { cls := Value.type "tuple", data := Data.seq #[] }) ::
    (nat_lit 117, { cls := Value.type "code", data := Data.fields #[Value.str (Str.ofString "law") 327, Value.str (Str.ofString "law") 328, Value.str (Str.ofString "/claim/cut.py") 329, Value.int 91 0, Value.int 1 0, Value.int 0 0, Value.int 0 0, Value.int 3 0, Value.ref 114, Value.bool true, Value.int 181 0, Value.ref 115, Value.none, Value.none, Value.none, Value.ref 116, Value.int 330 0, Value.int 91 0, Value.str (Str.ofString "/claim/cut.py") 331] }) ::
    (nat_lit 118, { cls := Value.type "function", data := Data.func { name := Str.ofString "law", qualname := Str.ofString "law", params := a6, body := .stmts b6, scope := c6, globals := 3, closure := [], defaults := Value.none, kwdefaults := Value.none, pyModule := Value.str (Str.ofString "law_dp0029_01") 286, code := Value.ref 117 } }) :: []
noncomputable def hd.view_39 : Program := by
  refine (?f : ∀ (s0 s1 s2 s3 s4 s5 s6 s7 s8 s9 s10 s11 : Stmt) (_ : pw0.main.body = [s0, s1, s2, s3, s4, s5, s6, s7, s8, s9, s10, s11]), Program) _ _ _ _ _ _ _ _ _ _ _ _ (by rfl)
  exact fun s0 s1 s2 s3 s4 s5 s6 s7 s8 s9 s10 s11 _ => { pw0 with main := { pw0.main with body := [s1, s3, s4, s7, s8, s9, s10, s11] } }
abbrev as0 : List Addr := [nat_lit 2, nat_lit 3, nat_lit 6, nat_lit 15, nat_lit 17, nat_lit 18, nat_lit 20, nat_lit 21, nat_lit 31, nat_lit 77, nat_lit 78, nat_lit 79, nat_lit 81, nat_lit 82, nat_lit 84, nat_lit 85, nat_lit 86, nat_lit 88, nat_lit 89, nat_lit 91, nat_lit 92, nat_lit 93, nat_lit 95, nat_lit 96, nat_lit 98, nat_lit 99, nat_lit 100, nat_lit 102, nat_lit 103, nat_lit 105, nat_lit 106, nat_lit 107, nat_lit 109, nat_lit 110, nat_lit 112, nat_lit 113, nat_lit 114, nat_lit 117, nat_lit 118]
abbrev loose0 : List PySem.Str := [Str.ofString "_binary_ops", Str.ofString "_c2py_ops", Str.ofString "_parse"]
theorem as0_eq (P : Params) : as0 = (hd.heap_39 P).map (·.1) := by kernel_rfl
noncomputable abbrev hook0 : Hook := kHook hd.heap_39 as0 as0_eq
noncomputable abbrev Xt0 (s : Shared) : Bool := xlAt hd.view_39 [] s && recOk (RowW.records row0.toRowW) s
abbrev LeftAt : World → Prop := by
  refine (?f : ∀ (B : World → Prop) (_ : LeftO row0.prog hd.view_39 loose0 Xt0 hook0.obs hook0.val 3644 = ∀ w, B w), World → Prop) _ rfl
  exact fun B _ => B
theorem left_ff (w : World) : LeftAt ((w.withFollow "comprehension-iter-twice" false).withFollow "special-get-raises" false) := by kernel_rfl
theorem left_ft (w : World) : LeftAt ((w.withFollow "comprehension-iter-twice" false).withFollow "special-get-raises" true) := by kernel_rfl
theorem left_tf (w : World) : LeftAt ((w.withFollow "comprehension-iter-twice" true).withFollow "special-get-raises" false) := by kernel_rfl
theorem left_tt (w : World) : LeftAt ((w.withFollow "comprehension-iter-twice" true).withFollow "special-get-raises" true) := by kernel_rfl
theorem left0 (w : World) : LeftAt w := byRow2 "special-get-raises" (P := LeftAt)
  (byRow2 "comprehension-iter-twice" (P := fun w => LeftAt (w.withFollow "special-get-raises" false)) left_ff left_tf)
  (byRow2 "comprehension-iter-twice" (P := fun w => LeftAt (w.withFollow "special-get-raises" true)) left_ft left_tt) w
theorem hd {d : DefRec} {kwd : List (PySem.Str × PySem.Expr)} (h1 : defOf hd.view_39 row0.name = some (d, kwd)) (h2 : row0.prog.theDef row0.name = some (d.params, d.body, d.scope)) (h3 : kwWritten? d.params.kwonlyargs d.params.kw_defaults = some kwd)
    (walk : WalkO hd.view_39 loose0 (XL hd.view_39 []) hook0.says row0.toRowW d kwd fun f vs => PySem.call f vs) : PySem.Challenge.rw_dp0029_01.Holds := by
  refine holds_law (by decide +kernel) fun said => ?_
  refine holds_open (q := hd.view_39) (loose := loose0) (Xt := Xt0) (XP := XL hd.view_39 []) (Yf := hook0.obs) (Ya := hook0.val) (YP := hook0.says) (N := 3644) left0 hook0.of hook0.keeps (fun s e => xl_of s (Bool.and_eq_true_iff.mp e).1) XL.keeps h1 h2 h3
    (fun s e => recFacts_of (Bool.and_eq_true_iff.mp e).2) (by rfl) said (by decide +kernel) ⟨rfl, rfl, rfl, rfl, rfl, by decide +kernel⟩ ?hw walk
  case hw => w_witness2
end
section

abbrev Led := List (Addr × Obj)
abbrev Does (w : World) (f : Addr) (args : List Value) (need : Nat) (news : Led) (Out : Value → Led → Prop) : Prop :=
  ∀ (loose : List PySem.Str) (mean : ExcName → Option Value) (mg mb : PySem.Str → Option Value) (dp un : Nat) (gd : Option (List Code)) (cn : PySem.Str) (cs : Scope) (a : Addr) (ccd : Value) (cl : List (PySem.Str × Addr)) (outer : List Env) (A₀ : Around) (base h₀ : Heap) (L : Addr) (m : PySem.Str → Option Value) (s : Shared) (Q E : Value → Shared → Prop),
    Below A₀ base outer h₀ → Fr h₀ L s.heap m → (hd.heap_39 w.params).In h₀ → News h₀ L s.heap news → Top hd.view_39 loose mean mg mb h₀ → cs.kind = .function → dp + need < recursionLimit → un + 8 * need + 50 < cLine →
    (∀ r news' h' tk', Fr h₀ L h' m → News h₀ L h' news' → Out r news' → Q r { s with heap := h', toks := tk' }) →
    wpAny (model PySem.Challenge.rw_dp0029_01.row.prog w) (ktrTop dp un gd cn cs L a ccd cl outer) (call (.ref f) args) Q E s
end
set_option maxRecDepth 100000
set_option maxHeartbeats 8000000
local macro_rules | `(tactic| walk_at "execs cons") => `(tactic| ((try dsimp only); refine wpAny_execs_cons ?_))
local macro_rules | `(tactic| walk_at "storeName") => `(tactic| (k_here; k_dflt (refine' storeX_L ?F ?N ?_ ?a ?b; (case F => k_asm); (case N => k_asm); (case a => rfl); (case b => rfl); k_whole; intro h' F' N'; (try dsimp only at F' N'); (try k_sweep))))

section
abbrev tupO (vs : Array Value) (n : Nat) : Obj := { cls := .type "tuple", data := .seq vs n }
section
variable {prog : Program} {w : World} {A : Around} {E : Value → Shared → Prop} {s : Shared} {h₀ : Heap} {L : Addr} {m : PySem.Str → Option Value} {news : Led} {Q : Value → Shared → Prop}
theorem r_item {value slice : PySem.Expr} {t : Addr} {vs : List Value} {n : Nat} {k : Int} {u : Tok} {x : Value} (N : News h₀ L s.heap news) (hm : (t, tupO vs.toArray n) ∈ news)
    (hj : seqIndex? k vs.length = some k.toNat) (hx : vs[k.toNat]? = some x) (h : Q x s) (hlo : -(2 ^ 63) ≤ k) (hhi : k < 2 ^ 63)
    (hs : subscripted slice false (.ref t) (.int k u) = operate [.ref t, .int k u] (getItem (.ref t) (.int k u))) :
    wpAny (model prog w) A (subscriptTail value slice (.ref t) (.int k u)) Q E s :=
  item_tupleT (News.isTup N hm) hlo hhi hj hx h hs
theorem r_addL {a b : Addr} {vs ws : List Value} {n n' : Nat} (F : Fr h₀ L s.heap m) (N : News h₀ L s.heap news) (ha : (a, listOf vs.toArray n) ∈ news) (hb : (b, listOf ws.toArray n') ∈ news)
    (h : ∀ D h', Fr h₀ L h' m → News h₀ L h' ((D, listOf (vs ++ ws).toArray 0) :: news) → (∀ p ∈ news, p.1 < D) → Q (.ref D) { s with heap := h' }) (hsz : vs.length + ws.length ≤ sizeLine) :
    wpAny (model prog w) A (binaryOp .Add (.ref a) (.ref b)) Q E s :=
  add_lists (hsz := hsz) F N (News.isList N ha) (News.isList N hb) fun h' F' N' => h _ h' F' N' fun p hp => Heap.lt_size (N p hp).1
end
theorem slen_lp : (PySem.Str.ofString "(").length = 1 := by decide
theorem slen_rp : (PySem.Str.ofString ")").length = 1 := by decide
/-- what a helper adds to the ledger: objects younger than all of it -/
def Grew (news n' : Led) : Prop := ∃ add, n' = add ++ news ∧ ∀ q ∈ news, ∀ p ∈ add, q.1 < p.1
theorem Grew.refl (news : Led) : Grew news news := ⟨[], rfl, fun _ _ _ h => nomatch h⟩
theorem Grew.cons {news n' : Led} {a : Addr} {o : Obj} (h : Grew news n') (ha : ∀ q ∈ news, q.1 < a) : Grew news ((a, o) :: n') := by
  obtain ⟨add, rfl, h2⟩ := h
  refine ⟨(a, o) :: add, rfl, fun q hq p hp => ?_⟩
  rcases List.mem_cons.mp hp with e | hp
  · subst e; exact ha q hq
  · exact h2 q hq p hp
theorem Grew.mem {news n' : Led} (h : Grew news n') : ∀ q ∈ news, q ∈ n' := by
  obtain ⟨add, rfl, _⟩ := h
  exact fun q hq => List.mem_append.mpr (.inr hq)
theorem Grew.trans {n1 n2 n3 : Led} (h : Grew n1 n2) (k : Grew n2 n3) : Grew n1 n3 := by
  obtain ⟨a, rfl, ha⟩ := h
  obtain ⟨b, rfl, hb⟩ := k
  refine ⟨b ++ a, by simp, fun q hq p hp => ?_⟩
  rcases List.mem_append.mp hp with hp | hp
  · exact hb q (List.mem_append.mpr (.inr hq)) p hp
  · exact ha q hq p hp
theorem ltA {a b : Addr} (h : @LT.lt Nat _ a b) : a < b := h
theorem ltB {a b : Addr} (h : a < b) : @LT.lt Nat _ a b := h
theorem use_does {w : World} {f : Addr} {args : List Value} {need : Nat} {news : Led} {Out : Value → Led → Prop} {loose : List PySem.Str} {mean : ExcName → Option Value} {mg mb : PySem.Str → Option Value} {dp un : Nat} {gd : Option (List Code)} {cn : PySem.Str} {cs : Scope} {a : Addr} {ccd : Value} {cl : List (PySem.Str × Addr)} {outer : List Env} {A₀ : Around} {base h₀ : Heap} {L : Addr} {m : PySem.Str → Option Value} {s : Shared} {Q E : Value → Shared → Prop}
    (B : Below A₀ base outer h₀) (F : Fr h₀ L s.heap m) (X : (hd.heap_39 w.params).In h₀) (N : News h₀ L s.heap news) (T : Top hd.view_39 loose mean mg mb h₀) (hk : cs.kind = .function)
    (D : Does w f args need news Out) (hd9 : dp + need < recursionLimit) (hu : un + 8 * need + 50 < cLine)
    (ret : ∀ r news' h' tk', Fr h₀ L h' m → News h₀ L h' news' → Out r news' → Q r { s with heap := h', toks := tk' }) :
    wpAny (model PySem.Challenge.rw_dp0029_01.row.prog w) (ktrTop dp un gd cn cs L a ccd cl outer) (call (.ref f) args) Q E s :=
  D _ _ _ _ _ _ _ _ _ _ _ _ _ _ _ _ _ _ _ _ _ B F X N T hk hd9 hu ret
structure Stop (p : Prop) : Prop where
  out : p
theorem cutS {M : Model} {A : Around} {E : Value → Shared → Prop} {s : Shared} {env : Env} {st : Stmt} {rest : List Stmt} {Q : Flow → Shared → Prop} (Mid : Shared → Prop)
    (h1 : wpAny M A (exec st env) (fun fl s' => Stop (fl = .next ∧ Mid s')) E s) (h2 : ∀ s', Mid s' → wpAny M A (execs rest env) Q E s') : wpAny M A (execs (st :: rest) env) Q E s := by
  refine wpAny_execs_cons (wpAny_mono h1 (fun fl s' h => ?_) fun _ _ h => h)
  obtain ⟨rfl, hm⟩ := h.out
  exact h2 s' hm
theorem unrEnd9 {h₀ : Heap} {L I : Addr} {it : Obj} {rest : (PySem.Str → Option Value) → Led → Prop} {s₁ : Shared} {h' : Heap} {tk : Nat} {m' : PySem.Str → Option Value} {all nl : Led} (F : Fr h₀ L h' m') (N : News h₀ L h' all)
    (off : ∀ p ∈ nl, p.1 < I) (sub : ∀ p ∈ (I, it) :: nl, p ∈ all) (r : rest m' nl) : UnrEnd h₀ L s₁ I it rest { s₁ with heap := h', toks := tk } :=
  UnrEnd.intro F N nl sub (fun p hp => Nat.ne_of_lt (off p hp)) r
theorem neOfLt {a b : Addr} (h : a < b) : a ≠ b := Nat.ne_of_lt h
theorem Fr.cg {h₀ h : Heap} {L : Addr} {m m' : PySem.Str → Option Value} (F : Fr h₀ L h m) (e : ∀ y, m y = m' y) : Fr h₀ L h m' := by
  have : m = m' := funext e
  subst this; exact F
theorem Fr.cg2 {h₀ h : Heap} {L : Addr} {m m' : PySem.Str → Option Value} {va : Value} {r z : Int} {tb : Tok} (F : Fr h₀ L h m) (a b : PySem.Str) (ha : m a = some va) (hb : m b = some (.int z tb)) (hz : r = z) (e : ∀ y, y ≠ a → y ≠ b → m y = m' y) :
    Fr h₀ L h (fun y => if y = a then some va else if y = b then some (.int r tb) else m' y) := by
  subst hz
  refine Fr.cg F fun y => ?_
  by_cases h1 : y = a
  · subst h1; rw [if_pos rfl]; exact ha
  · by_cases h2 : y = b
    · subst h2; rw [if_neg h1, if_pos rfl]; exact hb
    · rw [if_neg h1, if_neg h2]; exact e y h1 h2
end
local macro_rules | `(tactic| walk_at "subscriptTail Name Constant ref int") => `(tactic| (k_here; (with_reducible show wpAny _ _ (subscriptTail _ _ (Value.ref _) (Value.int _ _)) _ _ _); k_dflt (refine' r_item ?N ?hm ?hj ?hx ?_ ?hlo ?hhi ?hs; (case N => k_asm); (case hm => k_mem); (case hj => rfl); (case hx => rfl); (case hlo => decide); (case hhi => decide); (case hs => with_unfolding_all rfl); k_whole)))
local macro_rules | `(tactic| walk_at "binaryOp Add ref ref") => `(tactic| (k_here; (with_reducible show wpAny _ _ (binaryOp _ (Value.ref _) (Value.ref _)) _ _ _); k_dflt (refine' r_addL ?F ?N ?ha ?hb ?_ ?hz; (case F => k_asm); (case N => k_asm); (case ha => k_mem); (case hb => k_mem); (case hz => walk_at "Mine.size"); k_whole); intro D' h' F' N' l1; (try k_lt l1); (try k_sweep)))
local macro_rules | `(tactic| walk_at "binaryOp Add str str") => `(tactic| (k_here; (with_reducible show wpAny _ _ (binaryOp _ (Value.str _ _) (Value.str _ _)) _ _ _); (refine PyProof.Rows.add_str (hsz := ?hz) ?_; (case hz => walk_at "Mine.size"); intro _ _)))
local macro_rules | `(tactic| walk_at "Mine.size") => `(tactic| (have hSz9 := sizeLine_eq; (try simp only [PySem.Str.length_append, List.length_append, List.length_cons, List.length_nil, Mine.slen_lp, Mine.slen_rp]); (try dsimp only at *); omega))
local macro_rules | `(tactic| walk_at "Mine.grew") => `(tactic| focus ((rename ∀ p : Addr × Obj, p ∈ _ → p.1 < _ => hfr9); (repeat (first | exact Mine.Grew.refl _ | refine Mine.Grew.cons ?_ (fun q9 hq9 => by have hq8 := Mine.ltB (hfr9 q9 hq9); refine Mine.ltA ?_; (try dsimp only at *); omega))); done))
local macro_rules | `(tactic| walk_at "Mine.fresh") => `(tactic| focus ((rename ∀ p : Addr × Obj, p ∈ _ → p.1 < _ => hfr9); (intro q9 hq9; have hq8 := Mine.ltB (hfr9 q9 hq9); refine Mine.ltA ?_; (try dsimp only at *); omega)))
section
def leafTok (x : Int) : PySem.Str := if x.fmod 3 = 0 then PySem.Str.ofString "n" else Txt.mul (PySem.Str.ofString "0") ((x.fdiv 3).fmod 3) ++ PySem.Str.ofString (toString ((x.fdiv 9).fmod 200))
def leafText (x : Int) : PySem.Str := if x.fmod 3 = 0 then PySem.Str.ofString "n" else PySem.Str.ofString (toString ((x.fdiv 9).fmod 200))
structure Part where
  rank : Int
  toks : List PySem.Str
  text : PySem.Str
def leaf (x : Int) : Part := ⟨7, [leafTok x], leafText x⟩
structure PartAt (news : Led) (v : Value) (p : Part) : Prop where
  ex : ∃ (a l : Addr) (t1 t2 : Tok) (vs : List Value) (n1 n2 : Nat), v = .ref a ∧ (a, tupO #[.int p.rank t1, .ref l, .str p.text t2] n1) ∈ news ∧ (l, listOf vs.toArray n2) ∈ news ∧ StrsAre vs p.toks
theorem PartAt.mk' {news : Led} {a l : Addr} {t1 t2 : Tok} {vs : List Value} {n1 n2 : Nat} {r : Int} {ts : List PySem.Str} {tx : PySem.Str} {p : Part}
    (h1 : (a, tupO #[.int r t1, .ref l, .str tx t2] n1) ∈ news) (h2 : (l, listOf vs.toArray n2) ∈ news) (h3 : StrsAre vs ts) (e : p = ⟨r, ts, tx⟩) : PartAt news (.ref a) p := by
  subst e; exact ⟨a, l, t1, t2, vs, n1, n2, rfl, h1, h2, h3⟩
theorem PartAt.mono {news news' : Led} {v : Value} {p : Part} (h : PartAt news v p) (hs : ∀ q ∈ news, q ∈ news') : PartAt news' v p := by
  obtain ⟨a, l, t1, t2, vs, n1, n2, e, h1, h2, h3⟩ := h.ex
  exact ⟨a, l, t1, t2, vs, n1, n2, e, hs _ h1, hs _ h2, h3⟩
theorem of_allLt {d : Addr} : ∀ {l : Led}, AllLt d l → ∀ p ∈ l, p.1 < d
  | [], _, _, h => nomatch h
  | q :: r, h, p, hp => by
    rcases List.mem_cons.mp hp with e | e
    · subst e; exact h.1
    · exact of_allLt h.2 p e
theorem fmod_range (x : Int) {k : Int} (h : 0 < k) : 0 ≤ x.fmod k ∧ x.fmod k < k := by
  have h1 := Int.fmod_nonneg_of_pos x h
  have h2 := Int.fmod_lt_of_pos x h
  exact ⟨h1, h2⟩
theorem leaf_num_len (x : Int) : (PySem.Str.ofString (toString ((x.fdiv 9).fmod 200))).length ≤ 3 := by
  obtain ⟨h1, h2⟩ := fmod_range (x.fdiv 9) (k := 200) (by decide)
  exact toString_length_le h1 (by decide) (by omega)
theorem leaf_zero_len (x : Int) : (Txt.mul (PySem.Str.ofString "0") ((x.fdiv 3).fmod 3)).length ≤ 2 := by
  obtain ⟨h1, h2⟩ := fmod_range (x.fdiv 3) (k := 3) (by decide)
  generalize (x.fdiv 3).fmod 3 = k at *
  have : k = 0 ∨ k = 1 ∨ k = 2 := by omega
  rcases this with rfl | rfl | rfl <;> decide +kernel
/-- a part that a helper has made: it lies in what the ledger has gained -/
def Made (news n' : Led) (r : Value) (p : Part) : Prop := ∃ add, n' = add ++ news ∧ (∀ q ∈ news, ∀ x ∈ add, q.1 < x.1) ∧ PartAt add r p
theorem mem_add {news add : Led} {a : Addr} {o : Obj} (h : (a, o) ∈ add ++ news) (hf : ∀ q ∈ news, q.1 < a) : (a, o) ∈ add := by
  rcases List.mem_append.mp h with h | h
  · exact h
  · exact absurd (hf _ h) (Nat.lt_irrefl _)
theorem made {news n' : Led} {a l : Addr} {t1 t2 : Tok} {vs : List Value} {n1 n2 : Nat} {r : Int} {ts : List PySem.Str} {tx : PySem.Str} {p : Part} (g : Grew news n')
    (h1 : (a, tupO #[.int r t1, .ref l, .str tx t2] n1) ∈ n') (h2 : (l, listOf vs.toArray n2) ∈ n') (h3 : StrsAre vs ts) (e : p = ⟨r, ts, tx⟩) (ha : ∀ q ∈ news, q.1 < a) (hl : ∀ q ∈ news, q.1 < l) : Made news n' (.ref a) p := by
  obtain ⟨add, rfl, hf⟩ := g
  exact ⟨add, rfl, hf, PartAt.mk' (mem_add h1 ha) (mem_add h2 hl) h3 e⟩
theorem Made.part {news n' : Led} {r : Value} {p : Part} (h : Made news n' r p) : PartAt n' r p ∧ Grew news n' := by
  obtain ⟨add, rfl, hf, hp⟩ := h
  exact ⟨hp.mono fun q hq => List.mem_append.mpr (.inl hq), add, rfl, hf⟩
theorem leaf_ok (w : World) (x : Int) (tx : Tok) (news : Led) : Does w 92 [.int x tx] 1 news (fun r n' => Made news n' r (leaf x)) := by
  w_on
  unfold Does
  k_fill
  intro loose mean mg mb dp un gd cn cs a ccd cl outer A₀ base h₀ L m s Q E B F X N T hk hd9 hu9 hret
  refine wpAny_call ?_
  have hb1 : (Txt.mul (PySem.Str.ofString "0") ((x.fdiv 3).fmod 3)).length + (PySem.Str.ofString (toString ((x.fdiv 9).fmod 200))).length ≤ sizeLine := by
    have := leaf_num_len x
    have := leaf_zero_len x
    have := sizeLine_eq
    omega
  k_dflt (refine' code_def (binds := [(PySem.Str.ofString "x", Value.int x tx)]) ?k1 ?k2 ?k3 ?k4 ?k5 ?kA ?kF ?kK ?k6 ?k7 ?k8 ?k9 ?kB ?_ ?c2 ?c3 ?c4 ?c5; (case kA => exact rfl); (case kF => exact rfl); (case kK => assumption); (case k1 => k_asm); (case k2 => k_asm); (case k3 => k_asm); (case k4 => k_asm); (case k5 => k_asm); (case k6 => k_is); (case k7 => k_is); (case k8 => ktr_room); (case k9 => exact BindsTo.of_eq rfl); (case c5 => decide); (case kB => exact locs rfl); (case c2 => exact rfl); (case c3 => exact rfl); (case c4 => exact rfl); k_whole; intro g' L' h' FG' F' N' B' X' T'; (try dsimp only); (try k_fold))
  k_steps
  all_goals (
    try dsimp only
    (rename News h₀ L _ _ => kN)
    (rename Fr h₀ L _ _ => kF)
    (try dsimp only at kN kF)
    refine hret _ _ _ _ kF kN (made (vs := [_]) ?_ (.head _) (.tail _ (.head _)) (.cons _ _ .nil) ?_ (by walk_at "Mine.fresh") (by walk_at "Mine.fresh"))
    walk_at "Mine.grew"
    (first
      | (rename x.fmod 3 = 0 => he; simp [leaf, leafTok, leafText, he])
      | (rename x.fmod 3 ≠ 0 => he; simp [leaf, leafTok, leafText, he])))
end
local macro_rules | `(tactic| k_mem) => `(tactic| (refine Mine.Grew.mem (by assumption) _ ?_; k_mem))
local macro_rules | `(tactic| walk_at "Mine.part") => `(tactic| (first | assumption | exact Mine.PartAt.mk' (by k_mem) (by k_mem) (by assumption) rfl))
local macro_rules | `(tactic| k_mem) => `(tactic| assumption)
section
def brk (p : Part) : Part := ⟨7, [PySem.Str.ofString "("] ++ p.toks ++ [PySem.Str.ofString ")"], PySem.Str.ofString "(" ++ p.text ++ PySem.Str.ofString ")"⟩
structure Fits (p : Part) : Prop where
  toks : p.toks.length ≤ 100000
  text : p.text.length ≤ 100000
theorem brk_made (w : World) (v : Value) (p : Part) (news : Led) (hp : PartAt news v p) (hf : Fits p) : Does w 99 [v] 1 news (fun r n' => Made news n' r (brk p)) := by
  w_on
  unfold Does
  k_fill
  intro loose mean mg mb dp un gd cn cs a ccd cl outer A₀ base h₀ L m s Q E B F X N T hk hd9 hu9 hret
  obtain ⟨pa, pl, pt1, pt2, pvs, pn1, pn2, rfl, hm1, hm2, hstr⟩ := hp.ex
  have hl1 := hstr.length
  have hl2 := hf.toks
  have hl3 := hf.text
  refine wpAny_call ?_
  k_dflt (refine' code_def (binds := [(PySem.Str.ofString "part", Value.ref pa)]) ?k1 ?k2 ?k3 ?k4 ?k5 ?kA ?kF ?kK ?k6 ?k7 ?k8 ?k9 ?kB ?_ ?c2 ?c3 ?c4 ?c5; (case kA => exact rfl); (case kF => exact rfl); (case kK => assumption); (case k1 => k_asm); (case k2 => k_asm); (case k3 => k_asm); (case k4 => k_asm); (case k5 => k_asm); (case k6 => k_is); (case k7 => k_is); (case k8 => ktr_room); (case k9 => exact BindsTo.of_eq rfl); (case c5 => decide); (case kB => exact locs rfl); (case c2 => exact rfl); (case c3 => exact rfl); (case c4 => exact rfl); k_whole; intro g' L' h' FG' F' N' B' X' T'; (try dsimp only); (try k_fold))
  k_steps
  all_goals (
    try dsimp only
    (rename News h₀ L _ _ => kN)
    (rename Fr h₀ L _ _ => kF)
    (try dsimp only at kN kF)
    refine hret _ _ _ _ kF kN (made ?_ (.head _) (.tail _ (.head _)) (StrsAre.append' (StrsAre.append' (.cons _ _ .nil) hstr) (.cons _ _ .nil)) rfl (by walk_at "Mine.fresh") (by walk_at "Mine.fresh"))
    walk_at "Mine.grew")
theorem brk_len {p : Part} (hf : Fits p) : (brk p).toks.length ≤ 100002 ∧ (brk p).text.length ≤ 100002 := by
  have h1 := hf.toks
  have h2 := hf.text
  constructor
  · simp only [brk, List.length_append, List.length_cons, List.length_nil]; omega
  · simp only [brk, PySem.Str.length_append, slen_lp, slen_rp]; omega
theorem brk_ok2 (w : World) (v : Value) (p : Part) (news : Led) (hp : PartAt news v p) (hf : Fits p) : Does w 99 [v] 1 news (fun r n' => (PartAt n' r (brk p) ∧ Grew news n') ∧ (brk p).toks.length ≤ 100002 ∧ (brk p).text.length ≤ 100002) := by
  intro loose mean mg mb dp un gd cn cs a ccd cl outer A₀ base h₀ L m s Q E B F X N T hk hd9 hu9 hret
  exact brk_made w v p news hp hf _ _ _ _ _ _ _ _ _ _ _ _ _ _ _ _ _ _ _ _ _ B F X N T hk hd9 hu9 (fun r n' h' tk' F' N' o => hret r n' h' tk' F' N' ⟨o.part, brk_len hf⟩)
end
section
def choice (c y n : Part) : Part :=
  let c' := if c.rank = 0 then brk c else c
  let ws := if y.rank = 0 then PySem.Str.ofString "(" ++ y.text ++ PySem.Str.ofString ")" else y.text
  ⟨0, c'.toks ++ [PySem.Str.ofString "?"] ++ y.toks ++ [PySem.Str.ofString ":"] ++ n.toks, ws ++ PySem.Str.ofString " if " ++ c'.text ++ PySem.Str.ofString " else " ++ n.text⟩
local macro_rules | `(tactic| walk_at "call ref") => `(tactic| (k_here; (with_reducible show wpAny _ _ (call (Value.ref 99) _) _ _ _); k_dflt (refine' use_does ?k1 ?k2 ?k3 ?k4 ?k5 ?k6 (brk_ok2 _ _ _ _ ?kp ?kf) ?kd ?ku ?_; (case k1 => k_asm); (case k2 => k_asm); (case k3 => k_asm); (case k4 => k_asm); (case k5 => k_asm); (case k6 => first | exact rfl | assumption); (case kp => walk_at "Mine.part"); (case kf => assumption); (case kd => ktr_room); (case ku => ktr_units)); intro r9 n9 h' tk' F' N' o9; obtain ⟨⟨p9, g9⟩, z9⟩ := o9; obtain ⟨a9, l9, t9, u9, vs9, x9, y9, e9, m9, q9, s9⟩ := Mine.PartAt.ex p9; subst e9; (have y8 := StrsAre.length s9); (try k_sweep); (try dsimp only)))
theorem choice_ok (w : World) (vc vy vn : Value) (c y n : Part) (news : Led) (hc : PartAt news vc c) (hy : PartAt news vy y) (hn : PartAt news vn n) (fc : Fits c) (fy : Fits y) (fn : Fits n) :
    Does w 113 [vc, vy, vn] 2 news (fun r n' => Made news n' r (choice c y n)) := by
  w_on
  unfold Does
  k_fill
  intro loose mean mg mb dp un gd cn cs a ccd cl outer A₀ base h₀ L m s Q E B F X N T hk hd9 hu9 hret
  obtain ⟨ca, cl1, ct1, ct2, cvs, cn1, cn2, rfl, hm1, hm2, hstr⟩ := hc.ex
  obtain ⟨ya, yl, yt1, yt2, yvs, yn1, yn2, rfl, hm3, hm4, hstry⟩ := hy.ex
  obtain ⟨na, nl, nt1, nt2, nvs, nn1, nn2, rfl, hm5, hm6, hstrn⟩ := hn.ex
  have hl1 := hstr.length
  have hl2 := fc.toks
  have hl3 := fc.text
  have hl4 := hstry.length
  have hl5 := fy.toks
  have hl6 := fy.text
  have hl7 := hstrn.length
  have hl8 := fn.toks
  have hl9 := fn.text
  refine wpAny_call ?_
  k_dflt (refine' code_def (binds := [(PySem.Str.ofString "cond", Value.ref ca), (PySem.Str.ofString "yes", Value.ref ya), (PySem.Str.ofString "no", Value.ref na)]) ?k1 ?k2 ?k3 ?k4 ?k5 ?kA ?kF ?kK ?k6 ?k7 ?k8 ?k9 ?kB ?_ ?c2 ?c3 ?c4 ?c5; (case kA => exact rfl); (case kF => exact rfl); (case kK => assumption); (case k1 => k_asm); (case k2 => k_asm); (case k3 => k_asm); (case k4 => k_asm); (case k5 => k_asm); (case k6 => k_is); (case k7 => k_is); (case k8 => ktr_room); (case k9 => exact BindsTo.of_eq rfl); (case c5 => decide); (case kB => exact locs rfl); (case c2 => exact rfl); (case c3 => exact rfl); (case c4 => exact rfl); k_whole; intro g' L' h' FG' F' N' B' X' T'; (try dsimp only); (try k_fold))
  k_steps
  all_goals (
    try dsimp only
    (rename News h₀ L _ _ => kN)
    (rename Fr h₀ L _ _ => kF)
    (try dsimp only at kN kF)
    first
      | exact hret _ _ _ _ kF kN (made (by walk_at "Mine.grew") (.head _) (.tail _ (.head _)) (StrsAre.append' (StrsAre.append' (StrsAre.append' (StrsAre.append' (by assumption) (.cons _ _ .nil)) hstry) (.cons _ _ .nil)) hstrn) (by unfold choice; dsimp only; (repeat' split) <;> (first | rfl | (exfalso; omega))) (by walk_at "Mine.fresh") (by walk_at "Mine.fresh"))
      | ((rename Grew news _ => g8); exact hret _ _ _ _ kF kN (made (Grew.trans g8 (by walk_at "Mine.grew")) (.head _) (.tail _ (.head _)) (StrsAre.append' (StrsAre.append' (StrsAre.append' (StrsAre.append' (by assumption) (.cons _ _ .nil)) hstry) (.cons _ _ .nil)) hstrn) (by unfold choice; dsimp only; (repeat' split) <;> (first | rfl | (exfalso; omega))) (fun q hq => (by walk_at "Mine.fresh" : ∀ q ∈ _, q.1 < _) q (g8.mem q hq)) (fun q hq => (by walk_at "Mine.fresh" : ∀ q ∈ _, q.1 < _) q (g8.mem q hq)))))
end
section
theorem unrEnd8 {h₀ : Heap} {L I : Addr} {it : Obj} {rest : (PySem.Str → Option Value) → Led → Prop} {s₁ : Shared} {h' : Heap} {tk : Nat} {m' : PySem.Str → Option Value} {all nl nl' : Led} (F : Fr h₀ L h' m') (N : News h₀ L h' all)
    (sub : ∀ p ∈ (I, it) :: nl', p ∈ all) (off : ∀ p ∈ nl, p.1 < I) (hmap : nl'.map (·.1) = nl.map (·.1)) (r : rest m' nl') : UnrEnd h₀ L s₁ I it rest { s₁ with heap := h', toks := tk } := by
  refine UnrEnd.intro F N nl' sub (fun p hp => ?_) r
  have h1 : p.1 ∈ nl'.map (·.1) := List.mem_map.mpr ⟨p, hp, rfl⟩
  rw [hmap] at h1
  obtain ⟨q, hq, e⟩ := List.mem_map.mp h1
  rw [← e]
  exact Nat.ne_of_lt (off q hq)
theorem Fr.cg1 {h₀ h : Heap} {L : Addr} {m m' : PySem.Str → Option Value} {va : Value} (F : Fr h₀ L h m) (a : PySem.Str) (ha : m a = some va) (e : ∀ y, y ≠ a → m y = m' y) :
    Fr h₀ L h (fun y => if y = a then some va else m' y) := by
  refine Fr.cg F fun y => ?_
  by_cases h1 : y = a
  · subst h1; rw [if_pos rfl]; exact ha
  · rw [if_neg h1]; exact e y h1
theorem News.sub {h₀ h : Heap} {L : Addr} {n n' : Led} (N : News h₀ L h n) (hs : ∀ p ∈ n', p ∈ n) : News h₀ L h n' := fun p hp => N p (hs p hp)
theorem mapsD {l : Led} : l.map (·.1) = l.map (·.1) := rfl
theorem if_len {p : Part} {c : Prop} [Decidable c] (hf : Fits p) : (if c then brk p else p).toks.length ≤ 100002 ∧ (if c then brk p else p).text.length ≤ 100002 := by
  split
  · exact brk_len hf
  · exact ⟨Nat.le_trans hf.toks (by decide), Nat.le_trans hf.text (by decide)⟩
theorem PartAt.mem2 {news n' : Led} {v : Value} {p : Part} (h : PartAt news v p) (g : Grew news n') : PartAt n' v p := h.mono g.mem
theorem slen_sp : (PySem.Str.ofString " ").length = 1 := by decide
end
section
local macro_rules | `(tactic| walk_at "pyIter ref") => `(tactic| (k_here; k_dflt (refine' iter_listUnr ?hh ?F ?N ?hm ?hc ?hd ?_; (case hh => rfl); (case F => k_asm); (case N => k_asm); (case hm => k_mem); (case hc => rfl); (case hd => rfl)); intro I' l1; (have l2 := l1); (try k_lt l2)))
local macro_rules | `(tactic| walk_at "UnrEnd") => `(tactic| (refine' Mine.unrEnd8 ?F ?N ?sub ?off ?hmap ?_; (case F => k_asm); (case N => k_asm); (case sub => (intro p9 hp9; repeat (first | exact hp9 | apply List.Mem.tail))); (case off => assumption); (case hmap => exact rfl); refine ⟨by k_mem, ?_⟩))
local macro_rules | `(tactic| k_all) => `(tactic| (exact fun p9 hp9 => Mine.neOfLt ((by assumption : ∀ p : Addr × Obj, p ∈ _ → p.1 < _) p9 (by repeat (first | exact hp9 | apply List.Mem.tail)))))
local macro_rules | `(tactic| walk_at "newList") => `(tactic| (k_here; k_dflt (refine' newList_K ?k1 ?k2 ?_; (case k1 => k_asm); (case k2 => k_asm); k_whole); intro l' h' F' N' l1; (have l2 := l1); (try k_lt l2); (try dsimp only at F' N'); (try k_sweep)))
local macro_rules | `(tactic| walk_at "call ref") => `(tactic| (k_here; (with_reducible show wpAny _ _ (call (Value.ref 99) _) _ _ _); k_dflt (refine' use_does ?k1 ?k2 ?k3 ?k4 ?k5 ?k6 (brk_ok2 _ _ _ _ ?kp ?kf) ?kd ?ku ?_; (case k1 => k_asm); (case k2 => k_asm); (case k3 => k_asm); (case k4 => k_asm); (case k5 => k_asm); (case k6 => first | exact rfl | assumption); (case kp => walk_at "Mine.part"); (case kf => assumption); (case kd => ktr_room); (case ku => ktr_units)); intro r9 n9 h' tk' F' N' o9; obtain ⟨⟨p9, g9⟩, z9⟩ := o9; obtain ⟨a9, l9, t9, u9, vs9, x9, y9, e9, m9, q9, s9⟩ := Mine.PartAt.ex p9; subst e9; (have y8 := StrsAre.length s9); (try k_sweep); (try dsimp only)))
local macro_rules | `(tactic| walk_at "Mine.part") => `(tactic| (first | assumption | exact Mine.PartAt.mem2 (by assumption) (by assumption) | exact Mine.PartAt.mk' (by k_mem) (by k_mem) (by assumption) rfl))
local macro_rules | `(tactic| walk_at "call builtin:list.append") => `(tactic| (k_here; k_dflt (refine' append_K ?k1 ?k2 ?k3 ?_ ?z; (case k1 => k_asm); (case k2 => k_asm); (case k3 => k_upd); (case z => first | size_fits | walk_at "Mine.size")); intro h' F' N'; (try k_sweep)))
local macro_rules | `(tactic| walk_at "call builtin:list.insert") => `(tactic| (k_here; k_dflt (refine' kl_insert ?F ?N ?f ?e ?U ?z ?_; (case F => k_asm); (case N => k_asm); (case U => k_upd); (case f => rfl); (case e => exact rfl); (case z => exact Nat.le_of_ble_eq_true rfl)); intro h' F' N'; (try k_sweep)))
local macro_rules | `(tactic| walk_at "call builtin:str.join") => `(tactic| (k_here; k_dflt (refine' PyProof.Rows.join_list ?F ?N ?z ?_; (case F => exact News.isList (by k_asm) (by k_mem)); (case N => exact .cons _ _ (.cons _ _ (.cons _ _ .nil))); (case z => (simp only [List.map_cons, List.map_nil, List.sum_cons, List.sum_nil, List.length_cons, List.length_nil, Mine.slen_sp]; omega))); intro _ _))
section
theorem cutZ {M : Model} {A : Around} {E : Value → Shared → Prop} {s : Shared} {env : Env} {st : Stmt} {rest : List Stmt} {Q : Flow → Shared → Prop} (Mid : Shared → Prop)
    (h1 : ∀ (Z : Flow → Shared → Prop), (∀ s', Mid s' → Z .next s') → wpAny M A (exec st env) Z E s) (h2 : ∀ s', Mid s' → wpAny M A (execs rest env) Q E s') : wpAny M A (execs (st :: rest) env) Q E s := by
  refine wpAny_execs_cons (wpAny_mono (h1 (fun fl s' => fl = .next ∧ Mid s') (fun s' h => ⟨rfl, h⟩)) (fun fl s' h => ?_) fun _ _ h => h)
  obtain ⟨rfl, hm⟩ := h
  exact h2 s' hm
/-- is op one of these texts -/
abbrev opIn (op : PySem.Str) (l : List PySem.Str) : Bool := l.any fun x => x == op
def rankOf (op : PySem.Str) : Int :=
  if opIn op [⟨#[124, 124]⟩] = true then 1 else if opIn op [⟨#[38, 38]⟩] = true then 2 else if opIn op [⟨#[61, 61]⟩, ⟨#[33, 61]⟩] = true then 3 else if opIn op [⟨#[60]⟩, ⟨#[62]⟩, ⟨#[60, 61]⟩, ⟨#[62, 61]⟩] = true then 4 else if opIn op [⟨#[43]⟩, ⟨#[45]⟩] = true then 5 else 6
theorem rank1 {op : PySem.Str}  (h1 : opIn op [⟨#[124, 124]⟩] = true) : rankOf op = 0 + 1 := by simp [rankOf, h1]
theorem rank2 {op : PySem.Str} (h1 : opIn op [⟨#[124, 124]⟩] = false) (h2 : opIn op [⟨#[38, 38]⟩] = true) : rankOf op = 0 + 1 + 1 := by simp [rankOf, h1, h2]
theorem rank3 {op : PySem.Str} (h1 : opIn op [⟨#[124, 124]⟩] = false) (h2 : opIn op [⟨#[38, 38]⟩] = false) (h3 : opIn op [⟨#[61, 61]⟩, ⟨#[33, 61]⟩] = true) : rankOf op = 0 + 1 + 1 + 1 := by simp [rankOf, h1, h2, h3]
theorem rank4 {op : PySem.Str} (h1 : opIn op [⟨#[124, 124]⟩] = false) (h2 : opIn op [⟨#[38, 38]⟩] = false) (h3 : opIn op [⟨#[61, 61]⟩, ⟨#[33, 61]⟩] = false) (h4 : opIn op [⟨#[60]⟩, ⟨#[62]⟩, ⟨#[60, 61]⟩, ⟨#[62, 61]⟩] = true) : rankOf op = 0 + 1 + 1 + 1 + 1 := by simp [rankOf, h1, h2, h3, h4]
theorem rank5 {op : PySem.Str} (h1 : opIn op [⟨#[124, 124]⟩] = false) (h2 : opIn op [⟨#[38, 38]⟩] = false) (h3 : opIn op [⟨#[61, 61]⟩, ⟨#[33, 61]⟩] = false) (h4 : opIn op [⟨#[60]⟩, ⟨#[62]⟩, ⟨#[60, 61]⟩, ⟨#[62, 61]⟩] = false) (h5 : opIn op [⟨#[43]⟩, ⟨#[45]⟩] = true) : rankOf op = 0 + 1 + 1 + 1 + 1 + 1 := by simp [rankOf, h1, h2, h3, h4, h5]
theorem rank6 {op : PySem.Str} (h1 : opIn op [⟨#[124, 124]⟩] = false) (h2 : opIn op [⟨#[38, 38]⟩] = false) (h3 : opIn op [⟨#[61, 61]⟩, ⟨#[33, 61]⟩] = false) (h4 : opIn op [⟨#[60]⟩, ⟨#[62]⟩, ⟨#[60, 61]⟩, ⟨#[62, 61]⟩] = false) (h5 : opIn op [⟨#[43]⟩, ⟨#[45]⟩] = false) : rankOf op = 0 + 1 + 1 + 1 + 1 + 1 + 1 := by simp [rankOf, h1, h2, h3, h4, h5]
abbrev in34 (z : Int) : Bool := [(3 : Int), 4].any fun x => x == z
def wordOf (r : Int) (p : Part) : PySem.Str := if in34 r = true then (if in34 p.rank = true then PySem.Str.ofString "(" ++ p.text ++ PySem.Str.ofString ")" else p.text) else p.text
theorem word_tt {r : Int} {p : Part} (h1 : in34 r = true) (h2 : in34 p.rank = true) : wordOf r p = PySem.Str.ofString "(" ++ p.text ++ PySem.Str.ofString ")" := by
  unfold wordOf; rw [if_pos h1, if_pos h2]
theorem word_tf {r : Int} {p : Part} (h2 : in34 p.rank = false) : wordOf r p = p.text := by
  unfold wordOf; rw [h2]; simp
theorem word_f {r : Int} {p : Part} (h1 : in34 r = false) : wordOf r p = p.text := by
  unfold wordOf; rw [h1]; simp
theorem word_len {r : Int} {p : Part} (h : p.text.length ≤ 100002) : (wordOf r p).length ≤ 100004 := by
  unfold wordOf
  split
  · split
    · simp only [PySem.Str.length_append, slen_lp, slen_rp]; omega
    · omega
  · omega
def opWord (op : PySem.Str) : PySem.Str := if op = PySem.Str.ofString "||" then PySem.Str.ofString "or" else if op = PySem.Str.ofString "&&" then PySem.Str.ofString "and" else if op = PySem.Str.ofString "/" then PySem.Str.ofString "//" else op
theorem opw1 {op : PySem.Str} (h : (op == PySem.Str.ofString "||") = true) : opWord op = PySem.Str.ofString "or" := by
  unfold opWord; rw [if_pos (eq_of_beq h)]
theorem opw2 {op : PySem.Str} (h : (op == PySem.Str.ofString "||") = false) (h2 : (op == PySem.Str.ofString "&&") = true) : opWord op = PySem.Str.ofString "and" := by
  unfold opWord; rw [if_neg (ne_of_beq_false h), if_pos (eq_of_beq h2)]
theorem opw3 {op : PySem.Str} (h : (op == PySem.Str.ofString "||") = false) (h2 : (op == PySem.Str.ofString "&&") = false) (h3 : (op == PySem.Str.ofString "/") = true) : opWord op = PySem.Str.ofString "//" := by
  unfold opWord; rw [if_neg (ne_of_beq_false h), if_neg (ne_of_beq_false h2), if_pos (eq_of_beq h3)]
theorem opw4 {op : PySem.Str} (h : (op == PySem.Str.ofString "||") = false) (h2 : (op == PySem.Str.ofString "&&") = false) (h3 : (op == PySem.Str.ofString "/") = false) : opWord op = op := by
  unfold opWord; rw [if_neg (ne_of_beq_false h), if_neg (ne_of_beq_false h2), if_neg (ne_of_beq_false h3)]
theorem opWord_len {op : PySem.Str} (h : op.length ≤ 2) : (opWord op).length ≤ 3 := by
  have h1 : (PySem.Str.ofString "or").length = 2 := by decide
  have h2 : (PySem.Str.ofString "and").length = 3 := by decide
  have h3 : (PySem.Str.ofString "//").length = 2 := by decide
  unfold opWord
  (repeat' split) <;> omega
theorem fin_op {g h : Heap} {L D : Addr} {n3 : Led} {v1 v2 : Value} {a b : PySem.Str} {t : Tok} {k : Nat} (kN : News g L h ((D, listOf #[v1, .str a t, v2] k) :: n3)) (hb : b = a) :
    News g L h ((D, listOf #[v1, .str b t, v2] k) :: n3) := by
  subst hb; exact kN
theorem fin_words {g h : Heap} {L D l2 : Addr} {o2 : Obj} {n3 : Led} {r : Int} {pl pr : Part} {a b : PySem.Str} {t1 t2 : Tok} {k : Nat} (kN : News g L h ((l2, o2) :: (D, listOf #[.str a t1, .str b t2] k) :: n3)) (ha : wordOf r pl = a) (hb : wordOf r pr = b) :
    News g L h ((D, listOf #[.str (wordOf r pl) t1, .str (wordOf r pr) t2] k) :: n3) := by
  subst ha hb
  exact fun p hp => kN p (.tail _ hp)
def pair (op : PySem.Str) (p q : Part) : Part :=
  ⟨rankOf op, (if p.rank < rankOf op then brk p else p).toks ++ [op] ++ (if q.rank ≤ rankOf op then brk q else q).toks,
    Txt.join (PySem.Str.ofString " ") [wordOf (rankOf op) (if p.rank < rankOf op then brk p else p), opWord op, wordOf (rankOf op) (if q.rank ≤ rankOf op then brk q else q)]⟩
theorem pair_ok (w : World) (vl vr : Value) (op : PySem.Str) (to : Tok) (p q : Part) (news : Led) (hp : PartAt news vl p) (hq : PartAt news vr q) (fp : Fits p) (fq : Fits q) (fo : op.length ≤ 2) :
    Does w 106 [.str op to, vl, vr] 2 news (fun r n' => Made news n' r (pair op p q)) := by
  w_on
  unfold Does
  k_fill
  intro loose mean mg mb dp un gd cn cs a ccd cl outer A₀ base h₀ L m s Q E B F X N T hk hd9 hu9 hret
  obtain ⟨ca, cl1, ct1, ct2, cvs, cn1, cn2, rfl, hm1, hm2, hstr⟩ := hp.ex
  obtain ⟨ya, yl, yt1, yt2, yvs, yn1, yn2, rfl, hm3, hm4, hstry⟩ := hq.ex
  have hl1 := hstr.length
  have hl2 := fp.toks
  have hl3 := fp.text
  have hl4 := hstry.length
  have hl5 := fq.toks
  have hl6 := fq.text
  refine wpAny_call ?_
  k_dflt (refine' code_def (binds := [(PySem.Str.ofString "op", Value.str op to), (PySem.Str.ofString "left", Value.ref ca), (PySem.Str.ofString "right", Value.ref ya)]) ?k1 ?k2 ?k3 ?k4 ?k5 ?kA ?kF ?kK ?k6 ?k7 ?k8 ?k9 ?kB ?_ ?c2 ?c3 ?c4 ?c5; (case kA => exact rfl); (case kF => exact rfl); (case kK => assumption); (case k1 => k_asm); (case k2 => k_asm); (case k3 => k_asm); (case k4 => k_asm); (case k5 => k_asm); (case k6 => k_is); (case k7 => k_is); (case k8 => ktr_room); (case k9 => exact BindsTo.of_eq rfl); (case c5 => decide); (case kB => exact locs rfl); (case c2 => exact rfl); (case c3 => exact rfl); (case c4 => exact rfl); k_whole; intro g' L' h' FG' F' N' B' X' T'; (try dsimp only); (try k_fold))
  iterate 4 walk1
  dsimp only
  refine cutZ (fun s' => ∃ h' tk' t v', s' = { s with heap := h', toks := tk' } ∧ Fr g' L' h' (fun y => if y = PySem.Str.ofString "row" then some v' else if y = PySem.Str.ofString "rank" then some (.int (rankOf op) t) else [(PySem.Str.ofString "op", Value.str op to), (PySem.Str.ofString "left", Value.ref ca), (PySem.Str.ofString "right", Value.ref ya)].reverse.lookup y) ∧ News g' L' h' news) ?_ ?_
  · clear hret
    intro Z hZ
    k_steps
    all_goals (
      (try dsimp only)
      (rename News g' L' _ _ => kN)
      (rename Fr g' L' _ _ => kF)
      (try dsimp only at kN kF)
      have hr : ∃ z, rankOf op = z ∧ z = z := ⟨_, rfl, rfl⟩
      (first
        | (have hr := rank1 (op := op) (by assumption))
        | (have hr := rank2 (op := op) (by assumption) (by assumption))
        | (have hr := rank3 (op := op) (by assumption) (by assumption) (by assumption))
        | (have hr := rank4 (op := op) (by assumption) (by assumption) (by assumption) (by assumption))
        | (have hr := rank5 (op := op) (by assumption) (by assumption) (by assumption) (by assumption) (by assumption))
        | (have hr := rank6 (op := op) (by assumption) (by assumption) (by assumption) (by assumption) (by assumption)))
      refine hZ _ ⟨_, _, _, _, rfl, Fr.cg2 kF (PySem.Str.ofString "row") (PySem.Str.ofString "rank") rfl rfl hr (fun y h1 h2 => by simp only [if_neg h1, if_neg h2]), fun p hp => kN p (by repeat (first | exact hp | apply List.Mem.tail))⟩)
  rintro s' ⟨h1, tk1, t, v', rfl, F1, N1⟩
  refine cutZ (fun s' => ∃ h' tk' vl' n', s' = { s with heap := h', toks := tk' } ∧ Fr g' L' h' (fun y => if y = PySem.Str.ofString "left" then some vl' else if y = PySem.Str.ofString "row" then some v' else if y = PySem.Str.ofString "rank" then some (.int (rankOf op) t) else [(PySem.Str.ofString "op", Value.str op to), (PySem.Str.ofString "left", Value.ref ca), (PySem.Str.ofString "right", Value.ref ya)].reverse.lookup y) ∧ News g' L' h' n' ∧ PartAt n' vl' (if p.rank < rankOf op then brk p else p) ∧ Grew news n') ?_ ?_
  · clear hret
    intro Z hZ
    k_steps
    all_goals (
      (try dsimp only)
      (rename News g' L' _ _ => kN)
      (rename Fr g' L' _ _ => kF)
      (try dsimp only at kN kF)
      refine hZ _ ⟨_, _, _, _, rfl, Fr.cg1 kF (PySem.Str.ofString "left") rfl (fun y h1 => by simp only [if_neg h1]), kN, ?_, ?_⟩
      · first
          | (rw [if_pos (by assumption)]; walk_at "Mine.part")
          | (rw [if_neg (by assumption)]; walk_at "Mine.part")
      · first
          | assumption
          | exact Grew.refl _)
  rintro s' ⟨h2, tk2, vl', n2, rfl, F2, N2, hpl, hg2⟩
  clear F1 N1
  refine cutZ (fun s' => ∃ h' tk' vr' n', s' = { s with heap := h', toks := tk' } ∧ Fr g' L' h' (fun y => if y = PySem.Str.ofString "right" then some vr' else if y = PySem.Str.ofString "left" then some vl' else if y = PySem.Str.ofString "row" then some v' else if y = PySem.Str.ofString "rank" then some (.int (rankOf op) t) else [(PySem.Str.ofString "op", Value.str op to), (PySem.Str.ofString "left", Value.ref ca), (PySem.Str.ofString "right", Value.ref ya)].reverse.lookup y) ∧ News g' L' h' n' ∧ PartAt n' vr' (if q.rank ≤ rankOf op then brk q else q) ∧ Grew n2 n') ?_ ?_
  · clear hret
    intro Z hZ
    k_steps
    all_goals (
      (try dsimp only)
      (rename News g' L' _ _ => kN)
      (rename Fr g' L' _ _ => kF)
      (try dsimp only at kN kF)
      refine hZ _ ⟨_, _, _, _, rfl, Fr.cg1 kF (PySem.Str.ofString "right") rfl (fun y h1 => by simp only [if_neg h1]), kN, ?_, ?_⟩
      · first
          | (rw [if_pos (by assumption)]; walk_at "Mine.part")
          | (rw [if_neg (by assumption)]; walk_at "Mine.part")
      · first
          | assumption
          | exact Grew.refl _)
  rintro s' ⟨h3, tk3, vr', n3, rfl, F3, N3, hpr, hg3⟩
  clear F2 N2
  replace hpl := PartAt.mono hpl hg3.mem
  have bl := if_len (c := p.rank < rankOf op) fp
  have br := if_len (c := q.rank ≤ rankOf op) fq
  generalize epl : (if p.rank < rankOf op then brk p else p) = pl at hpl bl
  generalize epr : (if q.rank ≤ rankOf op then brk q else q) = pr at hpr br
  have hg := Grew.trans hg2 hg3
  clear hg2 hg3 hm1 hm2 hm3 hm4 hstr hstry hl1 hl2 hl3 hl4 hl5 hl6 hp hq
  obtain ⟨la, ll, lt1, lt2, lvs, ln1, ln2, rfl, hm1, hm2, hstr⟩ := hpl.ex
  obtain ⟨ra, rl, rt1, rt2, rvs, rn1, rn2, rfl, hm3, hm4, hstry⟩ := hpr.ex
  have hl1 := hstr.length
  have hl2 := hstry.length
  refine wpAny_execs_cons ?_
  iterate 3 walk1
  refine newList_K F3 N3 (fun D h4 F4 N4 hD => ?_) (by decide)
  refine storeX_L F4 N4 (fun h5 F5 N5 => ?_)
  clear F3 N3 F4 N4
  dsimp only at F5 N5 ⊢
  refine cutZ (fun s' => ∃ h' tk' t1 t2 k vp, s' = { s with heap := h', toks := tk' } ∧ Fr g' L' h' (fun y => if y = PySem.Str.ofString "part" then some vp else if y = PySem.Str.ofString "words" then some (.ref D) else if y = PySem.Str.ofString "right" then some (.ref ra) else if y = PySem.Str.ofString "left" then some (.ref la) else if y = PySem.Str.ofString "row" then some v' else if y = PySem.Str.ofString "rank" then some (.int (rankOf op) t) else [(PySem.Str.ofString "op", Value.str op to), (PySem.Str.ofString "left", Value.ref ca), (PySem.Str.ofString "right", Value.ref ya)].reverse.lookup y) ∧ News g' L' h' ((D, listOf #[.str (wordOf (rankOf op) pl) t1, .str (wordOf (rankOf op) pr) t2] k) :: n3)) ?_ ?_
  · clear hret
    intro Z hZ
    k_steps
    all_goals (
      (try dsimp only)
      (rename News g' L' _ _ => kN)
      (rename Fr g' L' _ _ => kF)
      (try dsimp only at kN kF)
      simp only [List.push_toArray, List.nil_append, List.cons_append] at kN
      refine hZ _ ⟨_, _, _, _, _, _, rfl, Fr.cg1 kF (PySem.Str.ofString "part") rfl (fun y h1 => by simp only [if_neg h1]), fin_words kN ?_ ?_⟩
      all_goals (first
        | exact word_tt (by assumption) (by assumption)
        | exact word_tf (by assumption)
        | exact word_f (by assumption)))
  rintro s' ⟨h6, tk6, t1, t2, k, vp, rfl, F6, N6⟩
  clear F5 N5
  have hw1 := word_len (r := rankOf op) bl.2
  have hw2 := word_len (r := rankOf op) br.2
  generalize ew1 : wordOf (rankOf op) pl = w1 at hw1 N6
  generalize ew2 : wordOf (rankOf op) pr = w2 at hw2 N6
  refine cutZ (fun s' => ∃ h' tk' t3 k, s' = { s with heap := h', toks := tk' } ∧ Fr g' L' h' (fun y => if y = PySem.Str.ofString "part" then some vp else if y = PySem.Str.ofString "words" then some (.ref D) else if y = PySem.Str.ofString "right" then some (.ref ra) else if y = PySem.Str.ofString "left" then some (.ref la) else if y = PySem.Str.ofString "row" then some v' else if y = PySem.Str.ofString "rank" then some (.int (rankOf op) t) else [(PySem.Str.ofString "op", Value.str op to), (PySem.Str.ofString "left", Value.ref ca), (PySem.Str.ofString "right", Value.ref ya)].reverse.lookup y) ∧ News g' L' h' ((D, listOf #[.str w1 t1, .str (opWord op) t3, .str w2 t2] k) :: n3)) ?_ ?_
  · clear hret
    intro Z hZ
    k_steps
    all_goals (
      (try dsimp only)
      (rename News g' L' _ _ => kN)
      (rename Fr g' L' _ _ => kF)
      (try dsimp only at kN kF)
      refine hZ _ ⟨_, _, _, _, rfl, kF, fin_op kN ?_⟩
      first
        | exact opw1 (by assumption)
        | exact opw2 (by assumption) (by assumption)
        | exact opw3 (by assumption) (by assumption) (by assumption)
        | exact opw4 (by assumption) (by assumption) (by assumption))
  rintro s' ⟨h7, tk7, t3, k2, rfl, F7, N7⟩
  clear F6 N6
  have how := opWord_len fo
  have hb1 := bl.1
  have hb2 := br.1
  k_steps
  all_goals (
    try dsimp only
    (rename News h₀ L _ _ => kN)
    (rename Fr h₀ L _ _ => kF)
    (try dsimp only at kN kF)
    refine hret _ _ _ _ kF kN (made (Grew.trans hg ?_) (.head _) (.tail _ (.head _)) (StrsAre.append' (StrsAre.append' hstr (.cons _ _ .nil)) hstry) (by subst ew1 ew2 epl epr; rfl) (fun q9 hq9 => by have hq8 := ltB (hD q9 (hg.mem q9 hq9)); refine ltA ?_; omega) (fun q9 hq9 => by have hq8 := ltB (hD q9 (hg.mem q9 hq9)); refine ltA ?_; omega))
    repeat (first | exact Grew.refl _ | refine Grew.cons ?_ (fun q9 hq9 => by have hq8 := ltB (hD q9 hq9); refine ltA ?_; omega)))
end
section
section
variable {prog : Program} {w : World} {A : Around} {E : Value → Shared → Prop} {s : Shared} {h₀ : Heap} {L b : Addr} {news : Led} {x y z : PySem.Str} {t u v tf : Tok} {n : Nat} {i : Int} {Q : Value → Shared → Prop}
theorem fmt_int (N : News h₀ L s.heap news) (hb : (b, tupO #[.str x t, .int i u] n) ∈ news) (hx : x.length ≤ 100000) (hi : 0 ≤ i) (hi2 : i < 1000) (h : ∀ t' k, Q (.str (x ++ PySem.Str.ofString (toString i)) t') { s with toks := k }) :
    wpAny (model prog w) A (binaryOp .Mod (.str (PySem.Str.ofString "%s%d") tf) (.ref b)) Q E s := by
  refine' KPt.mod_tuple N hb ?f ?m ?_
  case f => kpt_eq
  case m => kpt_run
  exact h
theorem fmt_par (hx : x.length ≤ 100000) (h : ∀ t' k, Q (.str (PySem.Str.ofString "(" ++ x ++ PySem.Str.ofString ")") t') { s with toks := k }) :
    wpAny (model prog w) A (binaryOp .Mod (.str (PySem.Str.ofString "(%s)") tf) (.str x t)) Q E s := by
  refine' KPc.mod_str ?f ?l ?m ?_
  case f => kpc_eq
  case l => exact Nat.le_trans hx (by decide)
  case m => kpc_run_s
  exact h
end
end
section
open PySem.Calls in
/-- the iterator's object: over the list l, at place i -/
def IterIs (o : Obj) (l : Addr) (i : Nat) : Prop := o.cls = .type "list_iterator" ∧ o.data = .fields #[.ref l, .int i 0]
theorem IterIs.at {o : Obj} {l it : Addr} {i : Nat} {h : Heap} (a : IterIs o l i) (ho : h.get? it = some o) : h.IsListIter it l i := ⟨o, ho, a.1, a.2⟩
theorem strs_next {vs : List Value} {i : Nat} {t : PySem.Str} {rest : List PySem.Str} (h : StrsAre (vs.drop i) (t :: rest)) : ∃ tk, vs[i]? = some (.str t tk) ∧ StrsAre (vs.drop (i + 1)) rest := by
  generalize e : vs.drop i = d at h
  cases h with
  | cons y tk r =>
    have h1 : vs[i]? = (vs.drop i)[0]? := by rw [List.getElem?_drop]; simp
    refine ⟨tk, by rw [h1, e]; rfl, ?_⟩
    have h2 : vs.drop (i + 1) = (vs.drop i).drop 1 := by rw [List.drop_drop]
    rw [h2, e]
    exact r
section
open PySem.Calls
variable {prog : Program} {w : World} {A : Around} {E : Value → Shared → Prop} {s : Shared} {h₀ : Heap} {L it l : Addr} {m : PySem.Str → Option Value} {news : Led} {Q : Value → Shared → Prop} {o : Obj} {i nn : Nat} {vs : List Value} {t : PySem.Str} {rest : List PySem.Str}
theorem special_next {Q : Option Value → Shared → Prop} {items : Array Value} {x : Value} (hit : s.heap.IsListIter it l i) (hl : s.heap.IsList l items) (hx : items[i]? = some x)
    (hQ : ∀ h', h'.IsListIter it l (i + 1) → Heap.SameBut it s.heap h' → Q (some x) { s with heap := h' }) :
    wpAny (model prog w) A (callSpecial? (.ref it) (PySem.Str.ofString "__next__")) Q E s := by
  obtain ⟨o, ho, hc, hd⟩ := id hit
  obtain ⟨ol, hol, _, nl, hdl⟩ := hl
  refine wpAny_callSpecial?_slot (name := PySem.Str.ofString "__next__") hit.typeIs slot_listiter_next
    (wpAny_call_entry slot_listiter_next hit.typeIs entry_listiter_next ?_ (args_listiter_next _))
  show wpAny _ _ (field (.ref it) 0 >>= _) _ _ s
  refine wpAny_bind (wpAny_field ho hd (x := .ref l) rfl ?_)
  show wpAny _ _ (if (Value.ref l == Value.none) = true then _ else _) _ _ s
  rw [if_neg (show ¬ ((Value.ref l == Value.none) = true) from Bool.false_ne_true)]
  show wpAny _ _ (field (.ref it) 1 >>= _) _ _ s
  refine wpAny_bind (wpAny_field ho hd (x := .int i 0) rfl ?_)
  show wpAny _ _ (seqItems? (.ref l) >>= _) _ _ s
  refine wpAny_bind (wpAny_seqItems hol hdl ?_)
  simp only [Int.toNat_natCast, hx]
  refine wpAny_bind (wpAny_setField ho hd (by simp) (wpAny_pure ⟨x, rfl, hQ _ ?_ (Heap.SameBut.update ..)⟩))
  exact ⟨_, Heap.get?_update_self _ ho (Obj.isFreed_of_fields (Obj.data_mapFields hd _)), (Obj.cls_mapFields ..).trans hc, by
    rw [Obj.data_mapFields hd]; simp [rawInt]⟩
theorem r_next (F : Fr h₀ L s.heap m) (N : News h₀ L s.heap ((it, o) :: news)) (hne : ∀ q ∈ news, q.1 ≠ it) (hl : (l, listOf vs.toArray nn) ∈ news) (hI : IterIs o l i) (hS : StrsAre (vs.drop i) (t :: rest))
    (h : ∀ h' o' tk, Fr h₀ L h' m → News h₀ L h' ((it, o') :: news) → IterIs o' l (i + 1) → StrsAre (vs.drop (i + 1)) rest → Q (.str t tk) { s with heap := h' }) :
    wpAny (model prog w) A (call (.builtin "next") [.ref it]) Q E s := by
  have hm := N (it, o) (.head _)
  have hit := hI.at hm.1
  obtain ⟨tk, hx, hr⟩ := strs_next hS
  refine call_function_entry (by decide +kernel) (by decide +kernel) kdk_entry_next (kdk_args_next _) ?_
  unfold Builtin.«next»
  refine wpAny_bind (m := someArgs "next" 1 2 _) (wpAny_of_eq (a := [Value.ref it]) (by first | rfl | kernel_rfl!) ?_)
  dsimp only
  refine wpAny_bind (wpAny_specialOf (name := PySem.Str.ofString "__next__") hit.typeIs slot_listiter_next.lookup ?_)
  refine wpAny_ite_split (fun hab => absurd hab (by decide)) (fun _ => ?_)
  refine wpAny_bind (special_next hit (News.isList N (.tail _ hl)) (x := .str t tk) (by simpa using hx) fun h' hit' hs => ?_)
  obtain ⟨o', ho', hc', hd'⟩ := hit'
  exact wpAny_pure ⟨_, rfl, h h' o' tk (F.change hs hm.2.1 hm.2.2) ((show News h₀ L s.heap ([] ++ (it, o) :: news) from N).setIn (fun _ h => nomatch h) hne hs ho') ⟨hc', hd'⟩ hr⟩
end
end
section
section
open PySem PySem.Calls PySem.NumText PyProof.Rows PySem.W.KIN
theorem typeCall_int_2 (a b : Value) : checkTypeCall "int" ⟨[a, b], []⟩ = pure () := by kernel_rfl
theorem newCall_int_2 (a b : Value) : checkBuiltinCall "int.__new__" ⟨[.type "int", a, b], []⟩ = pure () := by kernel_rfl
set_option maxHeartbeats 4000000 in
theorem gives_text10 {x : PySem.Str} {u v : Tok} {n : Int} (hl : x.length ≤ 640) (hn : PySem.intText? x = some n) : Gives (Builtin.«int.__new__» ⟨[.type "int", .str x u, .int 10 v], []⟩) (.int n) :=
  .of_wp fun M A E s Q h => by
    obtain ⟨hp, g, d, tk, os⟩ := s
    have f1 := F.conv_sub_int
    have f2 := F.madeHere_int
    have f3 := str_int
    have f4 := str_idx
    have f5 := str_trunc
    have f6 : typeOf (.str x u) = pure (.type "str") := rfl
    have hs : (numSeenOf x).length ≤ 640 := Nat.le_trans (seen_length x) hl
    have hr : (int_private% "readNumeral") 0 10 (numSeenOf x) = (int_private% "Numeral.value") n ∧ ((numSeenOf x).length == (numTextOf x).length) = true := by
      rcases read0 x hs with ⟨m, h1, h2, h3⟩ | ⟨h1, _⟩
      · rw [hn] at h1
        injection h1 with h1
        subst h1
        exact ⟨h3, h2⟩
      · rw [hn] at h1
        cases h1
    have hk := KIN.Hid.mk (And.intro hs hr)
    clear hs hr hl hn
    repeat (any_goals (first
      | assumption
      | ((with_reducible show wpAny _ _ ((int_private% "intFromText") _ _ _) _ _ _); refine wp_text hk.out.1 hk.out.2.1 hk.out.2.2 ?_)
      | wp_step))
    all_goals first | exact ⟨_, rfl, h⟩ | skip
    all_goals trace_state
end
section
open PySem PySem.Calls PyProof.Rows
variable {prog : Program} {w : World} {A : Around} {E : Value → Shared → Prop} {s : Shared} {Q : Value → Shared → Prop} {x : PySem.Str} {t u : Tok} {n : Int}
theorem call_int10 (hn : PySem.intText? x = some n) (hl : x.length ≤ 640) (h : Q (.int n s.toks) { s with toks := s.toks + 1 }) : wpAny (model prog w) A (call (.type "int") [.str x t, .int 10 u]) Q E s :=
  callType_new F.called_int F.newNe_int (typeCall_int_2 _ _) (newCall_int_2 _ _) (fun obj => F.args_object_init_3 obj _ _) F.entry_int_new (gives_text10 hl hn).meets (show (Made.int n).post _ s from ⟨rfl, h⟩)
end
end
section
section
open PyProof.Rows.KTD
def opTab : List (PySem.Str × Int) := [(PySem.Str.ofString "||", 1), (PySem.Str.ofString "&&", 2), (PySem.Str.ofString "==", 3), (PySem.Str.ofString "!=", 3), (PySem.Str.ofString "<", 4), (PySem.Str.ofString ">", 4), (PySem.Str.ofString "<=", 4), (PySem.Str.ofString ">=", 4), (PySem.Str.ofString "+", 5), (PySem.Str.ofString "-", 5), (PySem.Str.ofString "*", 6), (PySem.Str.ofString "/", 6), (PySem.Str.ofString "%", 6)]
def pyTab : List (PySem.Str × PySem.Str) := [(PySem.Str.ofString "||", PySem.Str.ofString "or"), (PySem.Str.ofString "&&", PySem.Str.ofString "and"), (PySem.Str.ofString "/", PySem.Str.ofString "//")]
def binRank (x : PySem.Str) : Option Int := datumAt x opTab
def D31 : List (PySem.Str × KTD.Dat) := opTab.map fun p => (p.1, .flat (.int p.2))
def D77 : List (PySem.Str × KTD.Dat) := pyTab.map fun p => (p.1, .flat (.str p.2))
theorem tab31 {w : World} {h : Heap} (X : (hd.heap_39 w.params).In h) : TextTab h 31 D31 := kt_text_in X (by kernel_rfl)
theorem tab77 {w : World} {h : Heap} (X : (hd.heap_39 w.params).In h) : TextTab h 77 D77 := kt_text_in X (by kernel_rfl)
theorem datum_map {α β : Type} (f : α → β) (k : PySem.Str) : ∀ D : List (PySem.Str × α), datumAt k (D.map fun p => (p.1, f p.2)) = (datumAt k D).map f
  | [] => rfl
  | (x, d) :: D => by
    show (if decide (k = x) = true then some (f d) else datumAt k (D.map _)) = (if decide (k = x) = true then some d else datumAt k D).map f
    rw [datum_map f k D]
    split <;> rfl
theorem eachL_of {h : Heap} {k : PySem.Str} {P : Value → Prop} : ∀ {D : List (PySem.Str × KTD.Dat)}, (∀ d, datumAt k D = some d → Opened h P d) → EachL h k P D
  | [], _ => trivial
  | [(x, d)], H => fun e => H d (by show (if decide (k = x) = true then some d else none) = some d; rw [if_pos (by simp [e])])
  | (x, d) :: p :: D, H => by
    show if decide (k = x) = true then Opened h P d else EachL h k P (p :: D)
    by_cases hx : k = x
    · rw [if_pos (by simp [hx])]; exact H d (by show (if decide (k = x) = true then some d else _) = some d; rw [if_pos (by simp [hx])])
    · rw [if_neg (by simp [hx])]; exact eachL_of fun d' hd => H d' (by show (if decide (k = x) = true then some d else datumAt k (p :: D)) = some d'; rw [if_neg (by simp [hx])]; exact hd)
theorem each_of {h : Heap} {k : PySem.Str} {P : Value → Prop} {els : Prop} : ∀ {D : List (PySem.Str × KTD.Dat)}, (∀ d, datumAt k D = some d → Opened h P d) → (datumAt k D = none → els) → Each h k P els D
  | [], _, H => H rfl
  | (x, d) :: D, H, H2 => by
    show if decide (k = x) = true then Opened h P d else Each h k P els D
    by_cases hx : k = x
    · rw [if_pos (by simp [hx])]; exact H d (by show (if decide (k = x) = true then some d else _) = some d; rw [if_pos (by simp [hx])])
    · rw [if_neg (by simp [hx])]
      exact each_of (fun d' hd => H d' (by show (if decide (k = x) = true then some d else datumAt k D) = some d'; rw [if_neg (by simp [hx])]; exact hd))
        (fun hd => H2 (by show (if decide (k = x) = true then some d else datumAt k D) = none; rw [if_neg (by simp [hx])]; exact hd))
section
variable {prog : Program} {w : World} {A : Around} {E : Value → Shared → Prop} {s : Shared} {h₀ : Heap} {L : Addr} {m : PySem.Str → Option Value} {Q : Value → Shared → Prop} {k : PySem.Str} {tk : Tok}
theorem r_in31 (F : Fr h₀ L s.heap m) (X : (hd.heap_39 w.params).In h₀) (h : Q (.bool (binRank k).isSome) { s with toks := s.toks + 1 }) : wpAny (model prog w) A (compareOp .In (.str k tk) (.ref 31)) Q E s := by
  refine in_text (D := D31) ⟨tab31 X, F.keep⟩ ?_
  have e : inKeys k D31 = (binRank k).isSome := by
    rw [← isSome_datumAt]
    unfold D31 binRank
    rw [datum_map (fun p : Int => KTD.Dat.flat (.int p)) k opTab]
    cases datumAt k opTab <;> rfl
  rw [e]; exact h
theorem r_item31 {value slice : PySem.Expr} {r : Int} (F : Fr h₀ L s.heap m) (X : (hd.heap_39 w.params).In h₀) (hr : binRank k = some r) (h : ∀ t, Q (.int r t) { s with toks := s.toks + 1 })
    (hs : subscripted slice false (.ref 31) (.str k tk) = operate [.ref 31, .str k tk] (getItem (.ref 31) (.str k tk))) :
    wpAny (model prog w) A (subscriptTail value slice (.ref 31) (.str k tk)) Q E s := by
  have e : datumAt k D31 = some (.flat (.int r)) := by
    unfold D31
    rw [datum_map (fun p : Int => KTD.Dat.flat (.int p)) k opTab]
    unfold binRank at hr
    rw [hr]; rfl
  refine item_textA (D := D31) ⟨tab31 X, F.keep⟩ (by decide) ?_ (eachL_of fun d hd => ?_) hs
  · rw [← isSome_datumAt, e]; rfl
  · rw [e] at hd; cases hd; exact h
theorem r_get77 (F : Fr h₀ L s.heap m) (X : (hd.heap_39 w.params).In h₀) (h : ∀ t, Q (.str (opWord k) t) { s with toks := s.toks + 1 }) :
    wpAny (model prog w) A (call (.builtin "dict.get") [.ref 77, .str k tk, .str k tk]) Q E s := by
  have e : datumAt k D77 = (datumAt k pyTab).map fun p => KTD.Dat.flat (.str p) := by
    unfold D77
    rw [datum_map (fun p : PySem.Str => KTD.Dat.flat (.str p)) k pyTab]
  have e2 : opWord k = (datumAt k pyTab).getD k := by
    unfold opWord pyTab
    simp only [datumAt]
    by_cases h1 : k = PySem.Str.ofString "||"
    · simp [h1]
    · by_cases h2 : k = PySem.Str.ofString "&&"
      · simp [h2]; decide
      · by_cases h3 : k = PySem.Str.ofString "/"
        · simp [h3]; decide
        · simp [h1, h2, h3]
  refine get2_text (D := D77) ⟨tab77 X, F.keep⟩ (each_of (fun d hd => ?_) fun hd => ?_)
  · rw [e] at hd
    cases hp : datumAt k pyTab with
    | none => rw [hp] at hd; cases hd
    | some y =>
      rw [hp] at hd; cases hd
      rw [hp] at e2
      have e3 : opWord k = y := e2
      rw [← e3]
      exact fun t => h t
  · rw [e] at hd
    cases hp : datumAt k pyTab with
    | some y => rw [hp] at hd; cases hd
    | none =>
      rw [hp] at e2
      have e3 : opWord k = k := e2
      rw [e3] at h
      exact h tk
theorem r_meth77 {pl : Sem Bool} {Q : Value × List Value → Shared → Prop} (F : Fr h₀ L s.heap m) (X : (hd.heap_39 w.params).In h₀) (h : Q (.builtin "dict.get", [.ref 77]) s) : wpAny (model prog w) A (getMethod (.ref 77) (PySem.Str.ofString "get") pl) Q E s :=
  getMethod_text (D := D77) ⟨tab77 X, F.keep⟩ h
end
end
end
section
/-- the plain reading of _parse: a list of tokens and a priority in; the text, the next token and the tokens left out. d bounds the depth of calls. -/
abbrev S (x : String) : PySem.Str := PySem.Str.ofString x
def numOf (t : PySem.Str) : Option Int := if t.length ≤ 10 then (match PySem.intText? t with | some v => if 0 ≤ v ∧ v < 1000 then some v else none | none => none) else none
noncomputable def bangs : List PySem.Str → PySem.Str → Option (PySem.Str × PySem.Str × List PySem.Str)
  | [], _ => none
  | t :: rest, res => if (t == S "!") = true then bangs rest (res ++ S "not ") else some (res, t, rest)
abbrev Out := PySem.Str × PySem.Str × List PySem.Str
def atomP (parse : List PySem.Str → Int → Option Out) (res t : PySem.Str) (rest : List PySem.Str) : Option (PySem.Str × List PySem.Str) :=
  if (t == S "(") = true then
    match parse rest (-1) with
    | some (sub, nt, rest') => if (nt == S ")") = true then some (res ++ S "(" ++ sub ++ S ")", rest') else none
    | none => none
  else if (t == S "n") = true then some (res ++ t, rest)
  else match numOf t with
    | some v => some (res ++ S (toString v), rest)
    | none => none
noncomputable def loopP (parse : List PySem.Str → Int → Option Out) (prio : Int) : Nat → PySem.Str → PySem.Str → Int → List PySem.Str → Option (PySem.Str × PySem.Str × Int × List PySem.Str)
  | 0, res, nt, j, rest => match binRank nt with
    | none => some (res, nt, j, rest)
    | some i => if i < prio then some (res, nt, j, rest) else none
  | n + 1, res, nt, j, rest => match binRank nt with
    | none => some (res, nt, j, rest)
    | some i => if i < prio then some (res, nt, j, rest) else
      match parse rest (i + 1) with
      | none => none
      | some (right, nt', rest') => loopP parse prio n ((if in34 i = true ∧ in34 j = true then S "(" ++ res ++ S ")" else res) ++ S " " ++ opWord nt ++ S " " ++ right) nt' i rest'
noncomputable def parseP : Nat → List PySem.Str → Int → Option Out
  | 0, _, _ => none
  | d + 1, toks, prio =>
    match bangs toks (S "") with
    | none => none
    | some (res0, t, rest) =>
    match atomP (parseP d) res0 t rest with
    | none => none
    | some (_, []) => none
    | some (res1, nt :: rest2) =>
    match loopP (parseP d) prio toks.length res1 nt 100 rest2 with
    | none => none
    | some (res3, nt3, j, rest3) =>
    let res4 := if j = prio ∧ prio = 4 then S "(" ++ res3 ++ S ")" else res3
    if (nt3 == S "?") = true ∧ prio ≤ 0 then
      match parseP d rest3 0 with
      | none => none
      | some (yes, nt4, rest4) =>
      if (nt4 == S ":") = true then
        match parseP d rest4 (-1) with
        | none => none
        | some (no, nt5, rest5) => some (if prio = 0 then S "(" ++ (yes ++ S " if " ++ res4 ++ S " else " ++ no) ++ S ")" else yes ++ S " if " ++ res4 ++ S " else " ++ no, nt5, rest5)
      else none
    else some (res4, nt3, rest3)
/-- what the tokens pay for -/
noncomputable def wt : List PySem.Str → Nat
  | [] => 0
  | t :: r => t.length + 12 + wt r
theorem slen_empty : PySem.Str.empty.length = 0 := by decide
theorem slen_not : (S "not ").length = 4 := by decide
theorem slen_if : (S " if ").length = 4 := by decide
theorem slen_else : (S " else ").length = 6 := by decide
theorem bangs_wt : ∀ (toks : List PySem.Str) (res res' t : PySem.Str) (rest : List PySem.Str), bangs toks res = some (res', t, rest) → res'.length + t.length + 12 + wt rest ≤ res.length + wt toks
  | [], _, _, _, _, h => by cases h
  | x :: r, res, res', t, rest, h => by
    unfold bangs at h
    split at h
    · have := bangs_wt r _ _ _ _ h
      rw [PySem.Str.length_append, slen_not] at this
      simp only [wt]; omega
    · cases h; simp only [wt]; omega
theorem num_len {v : Int} (h0 : 0 ≤ v) (h1 : v < 1000) : (S (toString v)).length ≤ 3 := toString_length_le h0 (by decide) (by omega)
theorem numOf_some {t : PySem.Str} {v : Int} (h : numOf t = some v) : t.length ≤ 10 ∧ PySem.intText? t = some v ∧ 0 ≤ v ∧ v < 1000 := by
  unfold numOf at h
  split at h
  · split at h
    · rename_i v' e
      split at h
      · cases h; refine ⟨by assumption, e, by omega, by omega⟩
      · cases h
    · cases h
  · cases h
abbrev Pays (parse : List PySem.Str → Int → Option Out) : Prop := ∀ toks p res nt rest, parse toks p = some (res, nt, rest) → res.length + nt.length + 12 + wt rest ≤ wt toks
theorem atom_wt {parse : List PySem.Str → Int → Option Out} (hp : Pays parse) {res t res' : PySem.Str} {rest rest' : List PySem.Str} (h : atomP parse res t rest = some (res', rest')) : res'.length + wt rest' ≤ res.length + t.length + 12 + wt rest := by
  unfold atomP at h
  split at h
  · split at h
    · rename_i sub nt r' e
      split at h
      · cases h
        have := hp _ _ _ _ _ e
        simp only [PySem.Str.length_append, slen_lp, slen_rp]
        omega
      · cases h
    · cases h
  · split at h
    · cases h; rw [PySem.Str.length_append]; omega
    · split at h
      · rename_i v e
        cases h
        obtain ⟨_, _, h0, h1⟩ := numOf_some e
        have := num_len h0 h1
        rw [PySem.Str.length_append]; omega
      · cases h
theorem datum_mem {α : Type} {k : PySem.Str} {d : α} : ∀ {D : List (PySem.Str × α)}, PyProof.Rows.KTD.datumAt k D = some d → (k, d) ∈ D
  | [], h => by cases h
  | (x, e) :: D, h => by
    have h' : (if decide (k = x) = true then some e else PyProof.Rows.KTD.datumAt k D) = some d := h
    by_cases hx : k = x
    · rw [if_pos (by simp [hx])] at h'; cases h'; subst hx; exact .head _
    · rw [if_neg (by simp [hx])] at h'; exact .tail _ (datum_mem h')
theorem opTab_ok : ∀ p ∈ opTab, 1 ≤ p.2 ∧ p.2 ≤ 6 ∧ p.1.length ≤ 2 ∧ 1 ≤ p.1.length := by decide
theorem binRank_range {x : PySem.Str} {r : Int} (h : binRank x = some r) : 1 ≤ r ∧ r ≤ 6 ∧ x.length ≤ 2 ∧ 1 ≤ x.length := opTab_ok _ (datum_mem h)
theorem loop_wt {parse : List PySem.Str → Int → Option Out} (hp : Pays parse) {prio : Int} : ∀ (n : Nat) {res nt res' nt' : PySem.Str} {j j' : Int} {rest rest' : List PySem.Str}, loopP parse prio n res nt j rest = some (res', nt', j', rest') →
    res'.length + (if j' = 100 then 0 else 2) + nt'.length + 12 + wt rest' ≤ res.length + (if j = 100 then 0 else 2) + nt.length + 12 + wt rest
  | 0, res, nt, res', nt', j, j', rest, rest', h => by
    unfold loopP at h
    split at h
    · cases h; omega
    · split at h
      · cases h; omega
      · cases h
  | n + 1, res, nt, res', nt', j, j', rest, rest', h => by
    unfold loopP at h
    split at h
    · cases h; omega
    · rename_i i hi
      split at h
      · cases h; omega
      · split at h
        · cases h
        · rename_i right nt2 rest2 e
          have h1 := loop_wt hp n h
          have h2 := hp _ _ _ _ _ e
          obtain ⟨r1, r2, r3, r4⟩ := binRank_range hi
          have h3 := opWord_len r3
          simp only [PySem.Str.length_append, slen_sp] at h1
          have h4 : (if in34 i = true ∧ in34 j = true then S "(" ++ res ++ S ")" else res).length ≤ res.length + 2 := by
            split
            · simp only [PySem.Str.length_append, slen_lp, slen_rp]; omega
            · omega
          rw [if_neg (show ¬ i = 100 by omega)] at h1
          generalize (if in34 i = true ∧ in34 j = true then S "(" ++ res ++ S ")" else res).length = R at h1 h4
          generalize (if j' = 100 then 0 else 2) = z at h1 ⊢
          generalize (if j = 100 then 0 else 2) = y
          omega
theorem parse_wt : ∀ d, Pays (parseP d)
  | 0 => fun _ _ _ _ _ h => by cases h
  | d + 1 => fun toks p res nt rest h => by
    have ih := parse_wt d
    unfold parseP at h
    split at h
    · cases h
    rename_i res0 t rest0 e0
    split at h
    · cases h
    · cases h
    rename_i res1 nt1 rest2 e1
    split at h
    · cases h
    rename_i res3 nt3 j rest3 e3
    have b0 := bangs_wt _ _ _ _ _ e0
    have b1 := atom_wt ih e1
    have b3 := loop_wt ih _ e3
    have bz : (S "").length = 0 := by decide
    simp only [wt] at b1
    rw [if_pos rfl] at b3
    have b4 : (if j = p ∧ p = 4 then S "(" ++ res3 ++ S ")" else res3).length ≤ res3.length + (if j = 100 then 0 else 2) := by
      split
      · rename_i hj
        rw [if_neg (by omega)]
        simp only [PySem.Str.length_append, slen_lp, slen_rp]; omega
      · omega
    dsimp only at h
    generalize (if j = p ∧ p = 4 then S "(" ++ res3 ++ S ")" else res3) = res4 at h b4
    split at h
    · split at h
      · cases h
      rename_i yes nt4 rest4 e4
      have b5 := ih _ _ _ _ _ e4
      split at h
      · split at h
        · cases h
        rename_i no nt5 rest5 e5
        have b6 := ih _ _ _ _ _ e5
        cases h
        split
        · simp only [PySem.Str.length_append, slen_lp, slen_rp, slen_if, slen_else]; omega
        · simp only [PySem.Str.length_append, slen_if, slen_else]; omega
      · cases h
    · cases h; omega
end
section
theorem cutF {M : Model} {A : Around} {E : Value → Shared → Prop} {s : Shared} {env : Env} {st : Stmt} {rest : List Stmt} {Q : Flow → Shared → Prop} (Mid : Shared → Prop)
    (h1 : wpAny M A (exec st env) (fun fl s' => Stop (fl = .next ∧ Mid s')) (fun _ _ => False) s) (h2 : ∀ s', Mid s' → wpAny M A (execs rest env) Q E s') : wpAny M A (execs (st :: rest) env) Q E s := by
  refine wpAny_execs_cons (wpAny_mono h1 (fun fl s' h => ?_) fun _ _ h => h.elim)
  obtain ⟨rfl, hm⟩ := h.out
  exact h2 s' hm
/-- the end of a while's turn -/
def TurnEnd {α : Type} (meas : α → Nat) (Inv : α → Shared → Prop) (Q : Flow → Shared → Prop) (a : α) (fl : Flow) (s : Shared) : Prop := match fl with
  | .next => Stop (∃ a', meas a' < meas a ∧ Inv a' s)
  | .cont => Stop (∃ a', meas a' < meas a ∧ Inv a' s)
  | .brk => Q .next s
  | .ret v => Q (.ret v) s
theorem whileInd {α : Type} {prog : Program} {w : World} {A : Around} {env : Env} {test : PySem.Expr} {body orelse : List Stmt} {pos : Pos} {Q : Flow → Shared → Prop} (meas : α → Nat) (Inv : α → Shared → Prop)
    (turn : ∀ a s, Inv a s → wpAny (model prog w) A (isTrue test env (eval test env)) (fun b s₂ => WhlIf b (wpAny (model prog w) A (execs body env) (TurnEnd meas Inv Q a) (fun _ _ => False) s₂) (wpAny (model prog w) A (execs orelse env) Q (fun _ _ => False) s₂)) (fun _ _ => False) s)
    (a : α) (s : Shared) (h : Inv a s) : wpAny (model prog w) A (exec (.While test body orelse pos) env) Q (fun _ _ => False) s := by
  have all : ∀ n a s, meas a < n → Inv a s → WhlRest prog w A (fun _ _ => False) env test body orelse Q 0 s := by
    intro n
    induction n with
    | zero => intro a s h; exact absurd h (Nat.not_lt_zero _)
    | succ n ih =>
      intro a s hn hi
      refine whl_turn (k := 0) PassesOwn.never (wpAny_mono (turn a s hi) (fun b s₂ h₂ => ?_) fun _ _ h => h)
      cases b with
      | false => exact WhlIf.no rfl (by unfold WhlIf at h₂; rw [if_neg Bool.false_ne_true] at h₂; exact h₂)
      | true =>
        have h₃ : wpAny (model prog w) A (execs body env) (TurnEnd meas Inv Q a) (fun _ _ => False) s₂ := by unfold WhlIf at h₂; rw [if_pos rfl] at h₂; exact h₂
        refine WhlIf.yes rfl (wpAny_mono h₃ (fun fl s₃ h₄ => ?_) fun _ _ h => h)
        cases fl with
        | next => obtain ⟨a', h1, h2⟩ := Stop.out h₄; exact ih a' s₃ (by omega) h2
        | cont => obtain ⟨a', h1, h2⟩ := Stop.out h₄; exact ih a' s₃ (by omega) h2
        | brk => exact h₄
        | ret v => exact h₄
  exact whl_start 0 (all _ a s (Nat.lt_succ_self _) h)
theorem News.drop1 {h₀ h : Heap} {L : Addr} {x : Addr × Obj} {n : Led} (N : News h₀ L h (x :: n)) : News h₀ L h n := fun p hp => N p (.tail _ hp)
abbrev pmap (it : Addr) (p : Int) (tp : Tok) (res nt : Value) (u : PySem.Str → Option Value) : PySem.Str → Option Value := fun y =>
  if y = S "nexttok" then some nt else if y = S "result" then some res else if y = S "tokens" then some (.ref it) else if y = S "priority" then some (.int p tp) else u y
abbrev jmap (it : Addr) (p : Int) (tp : Tok) (res nt j : Value) (u : PySem.Str → Option Value) : PySem.Str → Option Value := fun y =>
  if y = S "j" then some j else if y = S "nexttok" then some nt else if y = S "result" then some res else if y = S "tokens" then some (.ref it) else if y = S "priority" then some (.int p tp) else u y
theorem Fr.pm {h₀ h : Heap} {L it : Addr} {m : PySem.Str → Option Value} {p : Int} {tp : Tok} {res nt : Value} (F : Fr h₀ L h m) (h1 : m (S "nexttok") = some nt) (h2 : m (S "result") = some res) (h3 : m (S "tokens") = some (.ref it)) (h4 : m (S "priority") = some (.int p tp)) :
    Fr h₀ L h (pmap it p tp res nt m) := by
  refine Fr.cg F fun y => ?_
  unfold pmap
  split
  · rename_i e; subst e; exact h1
  · split
    · rename_i e; subst e; exact h2
    · split
      · rename_i e; subst e; exact h3
      · split
        · rename_i e; subst e; exact h4
        · rfl
theorem Fr.jm {h₀ h : Heap} {L it : Addr} {m : PySem.Str → Option Value} {p : Int} {tp : Tok} {res nt j : Value} (F : Fr h₀ L h m) (h0 : m (S "j") = some j) (h1 : m (S "nexttok") = some nt) (h2 : m (S "result") = some res) (h3 : m (S "tokens") = some (.ref it)) (h4 : m (S "priority") = some (.int p tp)) :
    Fr h₀ L h (jmap it p tp res nt j m) := by
  refine Fr.cg F fun y => ?_
  unfold jmap
  split
  · rename_i e; subst e; exact h0
  · split
    · rename_i e; subst e; exact h1
    · split
      · rename_i e; subst e; exact h2
      · split
        · rename_i e; subst e; exact h3
        · split
          · rename_i e; subst e; exact h4
          · rfl
def ParsesAt (w : World) (d : Nat) : Prop := ∀ (toks : List PySem.Str) (p : Int) (res nt : PySem.Str) (rest : List PySem.Str), parseP d toks p = some (res, nt, rest) → wt toks ≤ 90000 →
  ∀ (args : List Value) (it l : Addr) (o : Obj) (i nn : Nat) (vs : List Value) (news : Led), ((∃ tp, args = [.ref it, .int p tp]) ∨ (p = -1 ∧ args = [.ref it])) → (l, listOf vs.toArray nn) ∈ news → (∀ q ∈ news, q.1 ≠ it) → IterIs o l i → StrsAre (vs.drop i) toks →
  Does w 85 args d ((it, o) :: news) (fun r n' => ∃ a o' i' t1 t2 n1, r = .ref a ∧ n' = (a, tupO #[.str res t1, .str nt t2] n1) :: (it, o') :: news ∧ IterIs o' l i' ∧ StrsAre (vs.drop i') rest ∧ ∀ q ∈ (it, o') :: news, q.1 < a)
end
section
local macro_rules | `(tactic| walk_at "Mine.led") => `(tactic| (first | k_asm | exact Mine.News.drop1 (by k_asm) | exact Mine.News.drop1 (Mine.News.drop1 (by k_asm)) | exact Mine.News.drop1 (Mine.News.drop1 (Mine.News.drop1 (by k_asm))) | exact Mine.News.drop1 (Mine.News.drop1 (Mine.News.drop1 (Mine.News.drop1 (by k_asm))))))
local macro_rules | `(tactic| walk_at "call builtin:next") => `(tactic| (k_here; k_dflt (refine' Mine.r_next ?F ?N ?hne ?hl ?hI ?hS ?_; (case F => k_asm); (case N => walk_at "Mine.led"); (case hI => assumption); (case hl => assumption); (case hne => assumption); (case hS => assumption)); intro h' o' tk' F' N' hI' hS'; (try k_sweep)))
local macro_rules | `(tactic| walk_at "WhlIf") => `(tactic| (first | refine WhlIf.yes (by assumption) ?_ | refine WhlIf.no (by assumption) ?_))
local macro_rules | `(tactic| walk_at "compareOp In str ref") => `(tactic| (k_here; k_dflt (refine' Mine.r_in31 ?F ?X ?_; (case F => k_asm); (case X => k_asm)); (try dsimp only)))
local macro_rules | `(tactic| walk_at "subscriptTail Name Name ref str") => `(tactic| (k_here; k_dflt (refine' Mine.r_item31 ?F ?X ?hr ?_ ?hs; (case F => k_asm); (case X => k_asm); (case hr => assumption); (case hs => with_unfolding_all rfl)); intro t9; (try dsimp only)))
local macro_rules | `(tactic| walk_at "getMethod ref") => `(tactic| (k_here; k_dflt (refine' Mine.r_meth77 ?F ?X ?_; (case F => k_asm); (case X => k_asm))))
local macro_rules | `(tactic| walk_at "call builtin:dict.get") => `(tactic| (k_here; k_dflt (refine' Mine.r_get77 ?F ?X ?_; (case F => k_asm); (case X => k_asm)); intro t9; (try dsimp only)))
local macro_rules | `(tactic| walk_at "call type:int") => `(tactic| (k_here; k_dflt (refine' Mine.call_int10 ?hn ?hl ?_; (case hn => assumption); (case hl => omega)); (try dsimp only)))
local macro_rules | `(tactic| walk_at "binaryOp Mod str str") => `(tactic| (k_here; (refine' Mine.fmt_par ?hx ?_; (case hx => walk_at "Mine.fit")); intro t9 k9))
local macro_rules | `(tactic| walk_at "Mine.fit") => `(tactic| ((try simp only [PySem.Str.length_append, Mine.slen_lp, Mine.slen_rp, Mine.slen_sp, Mine.slen_if, Mine.slen_else, Mine.slen_not, Mine.slen_empty]); omega))
local macro_rules | `(tactic| walk_at "binaryOp Mod str ref") => `(tactic| (k_here; k_dflt (refine' Mine.fmt_int ?N ?hb ?hx ?hi ?hj ?_; (case N => k_asm); (case hb => k_mem); (case hx => walk_at "Mine.fit"); (case hi => assumption); (case hj => assumption)); intro t9 k9))
local macro_rules | `(tactic| walk_at "Mine.size2") => `(tactic| (have hSz9 := sizeLine_eq; (try simp only [PySem.Str.length_append, Mine.slen_lp, Mine.slen_rp, Mine.slen_sp, Mine.slen_if, Mine.slen_else, Mine.slen_not, Mine.slen_empty]); omega))
local macro_rules | `(tactic| walk_at "And") => `(tactic| ((with_reducible show PySem.Str.length (_ ++ _) ≤ sizeLine ∧ wpAny _ _ (joinParts _ _) _ _ _); refine ⟨by walk_at "Mine.size2", ?_⟩))
local macro_rules | `(tactic| walk_at "joinParts") => `(tactic| (k_here; (first | (with_reducible show wpAny _ _ (joinParts _ []) _ _ _) | (with_reducible show wpAny _ _ (joinParts _ (evalEach [] _)) _ _ _)); k_dflt (refine joinParts_nil ?_ (by walk_at "Mine.size2"))))
local macro_rules | `(tactic| walk_at "convS str") => `(tactic| ((refine PySem.SB.convS_str (hsz := ?hsz) ?_); (case hsz => walk_at "Mine.size2"); intro _ _))
local macro_rules | `(tactic| walk_at "formatField str") => `(tactic| ((refine formatField_str (hsz := ?hsz) ?_); (case hsz => walk_at "Mine.size2"); intro _ _))
local macro_rules | `(tactic| walk_at "newTuple") => `(tactic| (k_here; k_dflt (refine' kup_newTuple ?F ?N ?_ ?z; (case F => k_asm); (case N => k_asm); (case z => kmk_size)); intro D' h' F' N' l1; (have l2 := l1); (try k_lt l2); (try dsimp only at F' N'); (try k_sweep)))
theorem ParsesAt.use {w : World} {d : Nat} (H : ParsesAt w d) {toks : List PySem.Str} {p : Int} {res nt : PySem.Str} {rest : List PySem.Str} {args : List Value} {it l : Addr} {o : Obj} {i nn : Nat} {vs : List Value} {news : Led} (hp : parseP d toks p = some (res, nt, rest)) (hw : wt toks ≤ 90000)
    (ha : (∃ tp, args = [.ref it, .int p tp]) ∨ (p = -1 ∧ args = [.ref it])) (hl : (l, listOf vs.toArray nn) ∈ news) (hne : ∀ q ∈ news, q.1 ≠ it) (hI : IterIs o l i) (hS : StrsAre (vs.drop i) toks) :
    Does w 85 args d ((it, o) :: news) (fun r n' => ∃ a o' i' t1 t2 n1, r = .ref a ∧ n' = (a, tupO #[.str res t1, .str nt t2] n1) :: (it, o') :: news ∧ IterIs o' l i' ∧ StrsAre (vs.drop i') rest ∧ ∀ q ∈ (it, o') :: news, q.1 < a) :=
  H toks p res nt rest hp hw args it l o i nn vs news ha hl hne hI hS
local macro_rules | `(tactic| walk_at "call ref") => `(tactic| (k_here; (with_reducible show wpAny _ _ (call (Value.ref 85) _) _ _ _); k_dflt (refine' use_does ?k1 ?k2 ?k3 ?k4 ?k5 ?k6 (ParsesAt.use (by assumption) ?hp ?hw ?ha ?hl ?hne ?hI ?hS) ?kd ?ku ?_; (case ha => first | exact Or.inl ⟨_, rfl⟩ | exact Or.inr ⟨rfl, rfl⟩); (case k2 => k_asm); (case k4 => walk_at "Mine.led"); (case hI => assumption); (case hl => assumption); (case hne => assumption); (case hS => assumption); (case hp => assumption); (case hw => omega); (case k1 => k_asm); (case k3 => k_asm); (case k5 => k_asm); (case k6 => first | exact rfl | assumption); (case kd => ktr_room); (case ku => ktr_units)); intro r9 n9 h' tk' F' N' o9; obtain ⟨a9, o8, i9, t9, u9, n8, e9, e8, hI', hS', l9⟩ := o9; subst e9; subst e8; (have l8 := l9); (try k_lt l8); (try k_sweep); (try dsimp only)))
theorem sel_tt {r j : Int} {a b : PySem.Str} (h1 : in34 r = true) (h2 : in34 j = true) : (if in34 r = true ∧ in34 j = true then a else b) = a := if_pos ⟨h1, h2⟩
theorem sel_f1 {r j : Int} {a b : PySem.Str} (h1 : in34 r = false) : (if in34 r = true ∧ in34 j = true then a else b) = b := if_neg (fun h => by rw [h1] at h; exact absurd h.1 Bool.false_ne_true)
theorem sel_f2 {r j : Int} {a b : PySem.Str} (h1 : in34 j = false) : (if in34 r = true ∧ in34 j = true then a else b) = b := if_neg (fun h => by rw [h1] at h; exact absurd h.2 Bool.false_ne_true)
theorem fin_parse {h₀ h : Heap} {L a it : Addr} {o' ob : Obj} {n news : Led} (kN : News h₀ L h ((a, ob) :: n)) (hs : ∀ q ∈ (it, o') :: news, q ∈ n) : News h₀ L h ((a, ob) :: (it, o') :: news) := by
  intro q hq
  rcases List.mem_cons.mp hq with e | hq
  · exact kN q (e ▸ .head _)
  · exact kN q (.tail _ (hs q hq))
theorem parse_step (w : World) (d : Nat) (IH : ParsesAt w d) : ParsesAt w (d + 1) := by
  intro toks p res nt rest hparse hwt args it l o i nn vs news hargs hl hne hI hS
  unfold parseP at hparse
  split at hparse
  · cases hparse
  rename_i res0 t0 rest0 e0
  split at hparse
  · cases hparse
  · cases hparse
  rename_i res1 nt1 rest2 e1
  split at hparse
  · cases hparse
  rename_i res3 nt3 j3 rest3 e3
  have b0 := bangs_wt _ _ _ _ _ e0
  have b1 := atom_wt (parse_wt d) e1
  have b3 := loop_wt (parse_wt d) _ e3
  have bz : (S "").length = 0 := by decide
  rw [bz] at b0
  simp only [wt] at b1
  rw [if_pos rfl] at b3
  obtain ⟨tp, hcase⟩ : ∃ tp, args = [.ref it, .int p tp] ∨ (tp = 267 ∧ p = -1 ∧ args = [.ref it]) := by
    rcases hargs with ⟨tp, rfl⟩ | ⟨rfl, rfl⟩
    · exact ⟨tp, .inl rfl⟩
    · exact ⟨267, .inr ⟨rfl, rfl, rfl⟩⟩
  clear hargs
  w_on
  unfold Does
  k_fill
  intro loose mean mg mb dp un gd cn cs a ccd cl outer A₀ base h₀ L m s Q E B F X N T hk hd9 hu9 hret
  refine wpAny_call ?_
  k_dflt (refine' code_def (binds := [(PySem.Str.ofString "tokens", Value.ref it), (PySem.Str.ofString "priority", Value.int p tp)]) ?k1 ?k2 ?k3 ?k4 ?k5 ?kA ?kF ?kK ?k6 ?k7 ?k8 ?k9 ?kB ?_ ?c2 ?c3 ?c4 ?c5; (case kA => exact rfl); (case kF => exact rfl); (case kK => assumption); (case k1 => k_asm); (case k2 => k_asm); (case k3 => k_asm); (case k4 => k_asm); (case k5 => k_asm); (case k6 => k_is); (case k7 => k_is); (case k8 => ktr_room); (case k9 => (rcases hcase with rfl | ⟨rfl, rfl, rfl⟩ <;> exact binds_K (by k_in) rfl (by k_is) rfl rfl rfl)); (case c5 => decide); (case kB => exact locs rfl); (case c2 => exact rfl); (case c3 => exact rfl); (case c4 => exact rfl); k_whole; intro g' L' h' FG' F' N' B' X' T'; (try dsimp only); (try k_fold))
  clear hcase
  obtain ⟨tt, tr0, rfl⟩ : ∃ tt tr0, toks = tt :: tr0 := by
    cases toks with
    | nil => cases e0
    | cons x y => exact ⟨x, y, rfl⟩
  iterate 14 walk1
  dsimp only
  (rename News g' L' _ _ => kN)
  (rename Fr g' L' _ _ => kF)
  (rename IterIs _ l _ => hI0)
  (rename StrsAre (vs.drop _) _ => hS0)
  refine cutF (fun s' => ∃ h' tk' o' i' tr tn u, s' = { s with heap := h', toks := tk' } ∧ Fr g' L' h' (pmap it p tp (.str res0 tr) (.str t0 tn) u) ∧ News g' L' h' ((it, o') :: news) ∧ IterIs o' l i' ∧ StrsAre (vs.drop i') rest0) ?_ ?_
  · clear hret hparse e1 e3 b1 b3 hI hS
    refine whileInd (α := List PySem.Str × PySem.Str) (fun a => a.1.length) (fun a s' => ∃ h' tk' o' i' tr tn u nt rst, a.1 = nt :: rst ∧ s' = { s with heap := h', toks := tk' } ∧ Fr g' L' h' (pmap it p tp (.str a.2 tr) (.str nt tn) u) ∧ News g' L' h' ((it, o') :: news) ∧ IterIs o' l i' ∧ StrsAre (vs.drop i') rst ∧ bangs a.1 a.2 = some (res0, t0, rest0) ∧ a.2.length + wt a.1 ≤ 90000) ?_ (tt :: tr0, S "") _ ?_
    · clear kN kF hI0 hS0 e0
      rintro ⟨tks, res⟩ s1 ⟨h1, tk1, o1, i1, tr1, tn1, u1, nt2, rst, e, rfl, F1, N1, hI1, hS1, hb, hw⟩
      dsimp only at e hb hw F1
      subst e
      unfold bangs at hb
      cases hq : (nt2 == S "!") with
      | true =>
        rw [hq, if_pos rfl] at hb
        cases rst with
        | nil => cases hb
        | cons x y =>
          simp only [wt] at hw
          k_steps
          all_goals (
            (try dsimp only)
            (rename News g' L' _ _ => kN)
            (rename Fr g' L' _ _ => kF)
            (try dsimp only at kN kF)
            (rename IterIs _ l _ => hI2)
            (rename StrsAre (vs.drop _) _ => hS2)
            unfold TurnEnd
            exact ⟨(x :: y, res ++ S "not "), by simp, _, _, _, _, _, _, _, _, _, rfl, rfl, Fr.pm kF rfl rfl rfl rfl, kN, hI2, hS2, hb, by simp only [wt, PySem.Str.length_append, slen_not]; omega⟩)
      | false =>
        rw [hq, if_neg Bool.false_ne_true] at hb
        k_steps
        all_goals (
            (try dsimp only)
            (rename News g' L' _ _ => kN)
            (rename Fr g' L' _ _ => kF)
            (try dsimp only at kN kF)
            cases hb
            exact ⟨rfl, _, _, _, _, _, _, _, rfl, Fr.pm kF rfl rfl rfl rfl, kN, hI1, hS1⟩)
    · exact ⟨_, _, _, _, _, _, _, _, _, rfl, rfl, Fr.pm kF rfl rfl rfl rfl, kN, hI0, hS0, e0, by simp only [wt] at hwt ⊢; rw [bz]; omega⟩
  clear kN kF hI0 hS0 hI hS e0
  rintro s' ⟨h2, tk2, o2, i2, tr2, tn2, u2, rfl, F2, N2, hI2, hS2⟩
  have bp := parse_wt d
  refine cutF (fun s' => ∃ h' tk' o' i' tr vn u, s' = { s with heap := h', toks := tk' } ∧ Fr g' L' h' (pmap it p tp (.str res1 tr) vn u) ∧ News g' L' h' ((it, o') :: news) ∧ IterIs o' l i' ∧ StrsAre (vs.drop i') (nt1 :: rest2)) ?_ ?_
  · clear hret hparse e3 b3
    unfold atomP at e1
    split at e1
    · rename_i hq
      split at e1
      · rename_i sub ntx r' epar
        split at e1
        · rename_i hq2
          cases e1
          have b5 := bp _ _ _ _ _ epar
          k_steps
          all_goals (
            (try dsimp only)
            (rename News g' L' _ _ => kN)
            (rename Fr g' L' _ _ => kF)
            (try dsimp only at kN kF)
            (try simp only [PySem.Str.empty_append] at kF)
            (rename IterIs _ l _ => hI5)
            (rename StrsAre (vs.drop _) _ => hS5)
            first
              | exact ⟨rfl, _, _, _, _, _, _, _, rfl, Fr.pm kF rfl rfl rfl rfl, kN, hI5, hS5⟩
              | exact ⟨rfl, _, _, _, _, _, _, _, rfl, Fr.pm kF rfl rfl rfl rfl, News.drop1 kN, hI5, hS5⟩)
        · cases e1
      · cases e1
    · rename_i hq
      split at e1
      · rename_i hq2
        cases e1
        k_steps
        all_goals (
            (try dsimp only)
            (rename News g' L' _ _ => kN)
            (rename Fr g' L' _ _ => kF)
            (try dsimp only at kN kF)
            (try simp only [PySem.Str.empty_append] at kF)
            (rename IterIs _ l _ => hI5)
            (rename StrsAre (vs.drop _) _ => hS5)
            first
              | exact ⟨rfl, _, _, _, _, _, _, _, rfl, Fr.pm kF rfl rfl rfl rfl, kN, hI5, hS5⟩
              | exact ⟨rfl, _, _, _, _, _, _, _, rfl, Fr.pm kF rfl rfl rfl rfl, News.drop1 kN, hI5, hS5⟩)
      · rename_i hq2
        split at e1
        · rename_i v ev
          cases e1
          obtain ⟨hv1, hv2, hv3, hv4⟩ := numOf_some ev
          k_steps
          all_goals (
            (try dsimp only)
            (rename News g' L' _ _ => kN)
            (rename Fr g' L' _ _ => kF)
            (try dsimp only at kN kF)
            (try simp only [PySem.Str.empty_append] at kF)
            (rename IterIs _ l _ => hI5)
            (rename StrsAre (vs.drop _) _ => hS5)
            first
              | exact ⟨rfl, _, _, _, _, _, _, _, rfl, Fr.pm kF rfl rfl rfl rfl, kN, hI5, hS5⟩
              | exact ⟨rfl, _, _, _, _, _, _, _, rfl, Fr.pm kF rfl rfl rfl rfl, News.drop1 kN, hI5, hS5⟩)
        · cases e1
  rintro s' ⟨h4, tk4, o4, i4, tr4, vn4, u4, rfl, F4, N4, hI4, hS4⟩
  clear F2 N2 hI2 hS2
  iterate 14 walk1
  dsimp only
  (rename News g' L' _ _ => kN)
  (rename Fr g' L' _ _ => kF)
  (rename IterIs _ l _ => hI0)
  (rename StrsAre (vs.drop _) _ => hS0)
  clear e1
  refine cutF (fun s' => ∃ h' tk' o' i' tr tn tj u, s' = { s with heap := h', toks := tk' } ∧ Fr g' L' h' (jmap it p tp (.str res3 tr) (.str nt3 tn) (.int j3 tj) u) ∧ News g' L' h' ((it, o') :: news) ∧ IterIs o' l i' ∧ StrsAre (vs.drop i') rest3) ?_ ?_
  · clear hret hparse b3 hI4 hS4
    refine whileInd (α := Nat × PySem.Str × PySem.Str × Int × List PySem.Str) (fun a => a.1) (fun a s' => ∃ h' tk' o' i' tr tn tj u, s' = { s with heap := h', toks := tk' } ∧ Fr g' L' h' (jmap it p tp (.str a.2.1 tr) (.str a.2.2.1 tn) (.int a.2.2.2.1 tj) u) ∧ News g' L' h' ((it, o') :: news) ∧ IterIs o' l i' ∧ StrsAre (vs.drop i') a.2.2.2.2 ∧ loopP (parseP d) p a.1 a.2.1 a.2.2.1 a.2.2.2.1 a.2.2.2.2 = some (res3, nt3, j3, rest3) ∧ a.2.1.length + a.2.2.1.length + 12 + wt a.2.2.2.2 ≤ 90000) ?_ ((tt :: tr0).length, res1, nt1, 100, rest2) _ ?_
    · clear kN kF hI0 hS0 e3 b0 b1 hwt
      rintro ⟨n, res, nt', j, rst⟩ s1 ⟨h1, tk1, o1, i1, tr1, tn1, tj1, u1, rfl, F1, N1, hI1, hS1, hlp, hw⟩
      dsimp only at F1 hS1 hlp hw
      cases hb : binRank nt' with
      | none =>
        have hq : (binRank nt').isSome = false := by rw [hb]; rfl
        have hlp2 : some (res, nt', j, rst) = some (res3, nt3, j3, rest3) := by
          rw [← hlp]; cases n <;> (unfold loopP; rw [hb])
        cases hlp2
        k_steps
        all_goals (
            (try dsimp only)
            (rename News g' L' _ _ => kN)
            (rename Fr g' L' _ _ => kF)
            (try dsimp only at kN kF)
            exact ⟨rfl, _, _, _, _, _, _, _, _, rfl, Fr.jm kF rfl rfl rfl rfl rfl, kN, hI1, hS1⟩)
      | some r =>
        have hq : (binRank nt').isSome = true := by rw [hb]; rfl
        obtain ⟨hr1, hr2, hr3, hr4⟩ := binRank_range hb
        by_cases hlt : r < p
        · have hlp2 : some (res, nt', j, rst) = some (res3, nt3, j3, rest3) := by
            rw [← hlp]; cases n <;> (unfold loopP; rw [hb]; simp [hlt])
          cases hlp2
          k_steps
          all_goals (
            (try dsimp only)
            (rename News g' L' _ _ => kN)
            (rename Fr g' L' _ _ => kF)
            (try dsimp only at kN kF)
            unfold TurnEnd
            exact ⟨rfl, _, _, _, _, _, _, _, _, rfl, Fr.jm kF rfl rfl rfl rfl rfl, kN, hI1, hS1⟩)
        · cases n with
          | zero => exfalso; unfold loopP at hlp; rw [hb] at hlp; simp [hlt] at hlp
          | succ n =>
            unfold loopP at hlp
            rw [hb] at hlp
            dsimp only at hlp
            rw [if_neg hlt] at hlp
            split at hlp
            · cases hlp
            · rename_i right nt'' rest' epar
              have b5 := bp _ _ _ _ _ epar
              have how := opWord_len hr3
              k_steps
              all_goals (
                (try dsimp only)
                (rename News g' L' _ _ => kN)
                (rename Fr g' L' _ _ => kF)
                (try dsimp only at kN kF)
                (try simp only [PySem.Str.empty_append] at kF)
                (rename IterIs _ l _ => hI5)
                (rename StrsAre (vs.drop _) _ => hS5)
                first
                  | rw [sel_tt (r := r) (j := j) (by assumption) (by assumption)] at hlp
                  | rw [sel_f1 (r := r) (j := j) (by assumption)] at hlp
                  | rw [sel_f2 (r := r) (j := j) (by assumption)] at hlp
                unfold TurnEnd
                exact ⟨(n, _, nt'', r, rest'), Nat.lt_succ_self n, _, _, _, _, _, _, _, _, rfl, Fr.jm kF rfl rfl rfl rfl rfl, News.drop1 kN, hI5, hS5, hlp, by dsimp only; simp only [PySem.Str.length_append, slen_lp, slen_rp, slen_sp]; omega⟩)
    · exact ⟨_, _, _, _, _, _, _, _, rfl, Fr.jm kF rfl rfl rfl rfl rfl, kN, hI0, hS0, e3, by dsimp only; omega⟩
  rintro s' ⟨h6, tk6, o6, i6, tr6, tn6, tj6, u6, rfl, F6, N6, hI6, hS6⟩
  clear hI4 hS4 hI0 hS0 kN kF e3
  refine cutF (fun s' => ∃ h' tk' tr u, s' = { s with heap := h', toks := tk' } ∧ Fr g' L' h' (jmap it p tp (.str (if j3 = p ∧ p = 4 then S "(" ++ res3 ++ S ")" else res3) tr) (.str nt3 tn6) (.int j3 tj6) u) ∧ News g' L' h' ((it, o6) :: news)) ?_ ?_
  · clear hret hparse
    k_steps
    all_goals (
      (try dsimp only)
      (rename News g' L' _ _ => kN)
      (rename Fr g' L' _ _ => kF)
      (try dsimp only at kN kF)
      first
        | rw [if_pos ⟨by assumption, by assumption⟩]
        | rw [if_neg (by omega)]
      exact ⟨rfl, _, _, _, _, rfl, Fr.jm kF rfl rfl rfl rfl rfl, kN⟩)
  rintro s' ⟨h7, tk7, tr7, u7, rfl, F7, N7⟩
  clear F6 N6
  have b4 : (if j3 = p ∧ p = 4 then S "(" ++ res3 ++ S ")" else res3).length ≤ res3.length + (if j3 = 100 then 0 else 2) := by
    split
    · rename_i hj
      rw [if_neg (by omega)]
      simp only [PySem.Str.length_append, slen_lp, slen_rp]; omega
    · omega
  dsimp only at hparse
  generalize (if j3 = p ∧ p = 4 then S "(" ++ res3 ++ S ")" else res3) = res4 at hparse b4 F7
  generalize (if j3 = 100 then 0 else 2) = z3 at b3 b4
  split at hparse
  · rename_i hq
    obtain ⟨hq1, hq2⟩ := hq
    split at hparse
    · cases hparse
    rename_i yes nt4 rest4 e4
    have b5 := bp _ _ _ _ _ e4
    split at hparse
    · rename_i hq3
      split at hparse
      · cases hparse
      rename_i no nt5 rest5 e5
      have b6 := bp _ _ _ _ _ e5
      have hq4 : (nt4 != S ":") = false := by simp [bne, hq3]
      generalize hres : (if p = 0 then S "(" ++ (yes ++ S " if " ++ res4 ++ S " else " ++ no) ++ S ")" else yes ++ S " if " ++ res4 ++ S " else " ++ no) = rr at hparse
      cases hparse
      k_steps
      all_goals first
        | exact absurd (by assumption : (nt4 != S ":") = true) (by rw [hq4]; decide)
        | ((try dsimp only)
           (rename News h₀ L _ _ => kN)
           (rename Fr h₀ L _ _ => kF)
           (try dsimp only at kN kF)
           (try simp only [PySem.Str.empty_append] at kN)
           (rename IterIs _ l _ => hI5)
           (rename StrsAre (vs.drop _) _ => hS5)
           (rename ∀ p : Addr × Obj, p ∈ _ → p.1 < _ => hfr)
           first
             | rw [if_pos (by assumption)] at hres
             | rw [if_neg (by assumption)] at hres
           subst hres
           exact hret _ _ _ _ kF (fin_parse kN (fun q hq => by repeat (first | exact hq | apply List.Mem.tail))) ⟨_, _, _, _, _, _, rfl, rfl, hI5, hS5, fun q hq => hfr q (by repeat (first | exact hq | apply List.Mem.tail))⟩)
    · cases hparse
  · rename_i hq
    cases hparse
    k_steps
    all_goals first
        | exact absurd ⟨by assumption, by assumption⟩ hq
        | ((try dsimp only)
           (rename News h₀ L _ _ => kN)
           (rename Fr h₀ L _ _ => kF)
           (try dsimp only at kN kF)
           (rename ∀ p : Addr × Obj, p ∈ _ → p.1 < _ => hfr)
           exact hret _ _ _ _ kF (fin_parse kN (fun q hq => by repeat (first | exact hq | apply List.Mem.tail))) ⟨_, _, _, _, _, _, rfl, rfl, hI6, hS6, fun q hq => hfr q (by repeat (first | exact hq | apply List.Mem.tail))⟩)
theorem parse_ok (w : World) : ∀ d, ParsesAt w d
  | 0 => fun _ _ _ _ _ h => by cases h
  | d + 1 => parse_step w d (parse_ok w d)
end
section
/-- the ledger with the object at a changed -/
def upd (a : Addr) (o : Obj) (n : Led) : Led := n.map fun p => if p.1 = a then (a, o) else p
/-- the ledger but for the object at a -/
def off (a : Addr) (n : Led) : Led := n.filter fun p => decide (p.1 ≠ a)
theorem mem_off {a : Addr} {n : Led} {q : Addr × Obj} : q ∈ off a n ↔ q ∈ n ∧ q.1 ≠ a := by
  unfold off; rw [List.mem_filter]; simp
theorem off_upd {a : Addr} {o : Obj} {n : Led} : ∀ q, q ∈ off a (upd a o n) ↔ q ∈ off a n := by
  intro q
  rw [mem_off, mem_off]
  unfold upd
  constructor
  · rintro ⟨h, hq⟩
    obtain ⟨p, hp, e⟩ := List.mem_map.mp h
    by_cases hpa : p.1 = a
    · rw [if_pos hpa] at e; subst e; exact absurd rfl hq
    · rw [if_neg hpa] at e; subst e; exact ⟨hp, hpa⟩
  · rintro ⟨h, hq⟩
    exact ⟨List.mem_map.mpr ⟨q, h, by rw [if_neg hq]⟩, hq⟩
theorem mem_upd_self {a : Addr} {o o' : Obj} {n : Led} (h : (a, o') ∈ n) : (a, o) ∈ upd a o n := List.mem_map.mpr ⟨_, h, by simp⟩
theorem mem_upd {a : Addr} {o : Obj} {n : Led} {q : Addr × Obj} (h : q ∈ n) (hq : q.1 ≠ a) : q ∈ upd a o n := List.mem_map.mpr ⟨q, h, by rw [if_neg hq]⟩
theorem off_mono {a : Addr} {n n' : Led} (h : ∀ q ∈ n, q ∈ n') : ∀ q ∈ off a n, q ∈ off a n' := fun q hq => mem_off.mpr ⟨h q (mem_off.mp hq).1, (mem_off.mp hq).2⟩
theorem upd_adr {a : Addr} {o : Obj} {n : Led} {q : Addr × Obj} (h : q ∈ upd a o n) : ∃ q' ∈ n, q'.1 = q.1 := by
  obtain ⟨p, hp, e⟩ := List.mem_map.mp h
  by_cases hpa : p.1 = a
  · rw [if_pos hpa] at e; subst e; exact ⟨p, hp, hpa⟩
  · rw [if_neg hpa] at e; subst e; exact ⟨p, hp, rfl⟩
theorem news_upd {h₀ h h' : Heap} {L a : Addr} {o o' : Obj} {n : Led} (N : News h₀ L h n) (hm : (a, o) ∈ n) (hs : Heap.SameBut a h h') (ho : h'.get? a = some o') : News h₀ L h' (upd a o' n) := by
  intro q hq
  obtain ⟨p, hp, e⟩ := List.mem_map.mp hq
  by_cases hpa : p.1 = a
  · rw [if_pos hpa] at e; subst e; exact ⟨ho, (N _ hm).2⟩
  · rw [if_neg hpa] at e; subst e; exact ⟨(hs.2 _ hpa).trans (N p hp).1, (N p hp).2⟩
section
open PySem.Calls
variable {prog : Program} {w : World} {A : Around} {E : Value → Shared → Prop} {s : Shared} {h₀ : Heap} {L D : Addr} {m : PySem.Str → Option Value} {n : Led} {Q : Value → Shared → Prop} {vs : List Value} {k : Nat} {v : Value}
theorem r_append (F : Fr h₀ L s.heap m) (N : News h₀ L s.heap n) (hm : (D, listOf vs.toArray k) ∈ n) (hsz : vs.length ≤ sizeLine)
    (h : ∀ h', Fr h₀ L h' m → News h₀ L h' (upd D (listOf (vs ++ [v]).toArray (k + 1)) n) → Q .none { s with heap := h' }) : wpAny (model prog w) A (call (.builtin "list.append") [.ref D, v]) Q E s := by
  have z := N _ hm
  refine append_at (hsz := by rw [List.size_toArray]; exact hsz) z.1 fun h' hs ho' => h h' (F.change hs z.2.1 z.2.2) ?_
  rw [List.push_toArray] at ho'
  exact news_upd N hm hs ho'
theorem r_pop (F : Fr h₀ L s.heap m) (N : News h₀ L s.heap n) (hm : (D, listOf (vs ++ [v]).toArray k) ∈ n) (hsz : (vs ++ [v]).length ≤ sizeLine)
    (h : ∀ h', Fr h₀ L h' m → News h₀ L h' (upd D (listOf vs.toArray (k + 1)) n) → Q v { s with heap := h' }) : wpAny (model prog w) A (call (.builtin "list.pop") [.ref D]) Q E s := by
  have z := N _ hm
  have hz' : (vs ++ [v]).toArray.size ≤ sizeLine := by rw [List.size_toArray]; exact hsz
  have hk : (vs ++ [v]).toArray.size - 1 = vs.length := by rw [List.size_toArray, List.length_append]; rfl
  have hy : (vs ++ [v]).toArray[(vs ++ [v]).toArray.size - 1]? = some v := by rw [hk]; simp
  refine call_meets PySem.F.slot_list_pop ⟨_, z.1, rfl⟩ PySem.F.entry_list_pop (PySem.F.args_list_pop_1 _) (PySem.MeetsSeq.list_pop_last D _ k v hy hz') ⟨z.1, h _ (F.change (Heap.SameBut.update ..) z.2.1 z.2.2) (news_upd N hm (Heap.SameBut.update ..) ?_)⟩
  have q := PySem.IsL.update z.1 (fun x => x.eraseIdxIfInBounds ((vs ++ [v]).toArray.size - 1))
  have he : (vs ++ [v]).toArray.eraseIdxIfInBounds ((vs ++ [v]).toArray.size - 1) = vs.toArray := by rw [hk, kl_erase, List.append_nil]
  rw [he, if_neg (by simp)] at q
  exact q
theorem r_meth {name : PySem.Str} {id : String} {pl : Sem Bool} {Q : Value × List Value → Shared → Prop} (N : News h₀ L s.heap n) (hm : (D, listOf vs.toArray k) ∈ n) (slot : Slot "list" name id) (hty : typeOf (.builtin id) = pure (.type "method_descriptor"))
    (h : Q (.builtin id, [.ref D]) s) : wpAny (model prog w) A (getMethod (.ref D) name pl) Q E s := kl_method N hm slot hty h
end
section
variable {prog : Program} {w : World} {A : Around} {E : Value → Shared → Prop} {s : Shared} {h₀ : Heap} {L D D2 : Addr} {n : Led} {Q : Value → Shared → Prop} {vs : List Value} {k k2 : Nat}
theorem r_neN (N : News h₀ L s.heap n) (h1 : (D, listOf ([] : List Value).toArray k) ∈ n) (h2 : (D2, listOf ([] : List Value).toArray k2) ∈ n) (hu : A.units < cLine) (h : Q (.bool false) s) : wpAny (model prog w) A (compareOp .NotEq (.ref D) (.ref D2)) Q E s :=
  cmp_ofNotEq (PySem.SeqAt.RcNeAt.lists (e := fun _ => true) (News.isList N h1) (News.isList N h2) rfl hu (fun j h1 _ => absurd h1 (Nat.not_lt_zero j)) prog w E Q (by simpa using h))
theorem r_neY (N : News h₀ L s.heap n) (h1 : (D, listOf vs.toArray k) ∈ n) (h2 : (D2, listOf ([] : List Value).toArray k2) ∈ n) (hv : vs.length ≠ 0) (hu : A.units < cLine) (h : Q (.bool true) s) : wpAny (model prog w) A (compareOp .NotEq (.ref D) (.ref D2)) Q E s :=
  cmp_ofNotEq (PySem.SeqAt.RcNeAt.lists_lengths (News.isList N h1) (News.isList N h2) (by simpa using hv) hu prog w E Q h)
end
end
section
def opsL : List PySem.Str := [S "||", S "&&", S "==", S "!=", S "<", S ">", S "<=", S ">=", S "+", S "-", S "*", S "/", S "%"]
def opAt (k : Nat) : PySem.Str := opsL.getD k (S "")
def neg (p : Part) : Part := ⟨7, [S "!"] ++ (if p.rank = 7 then p else brk p).toks, S "not " ++ (if p.rank = 7 then p else brk p).text⟩
def lastOf (hp : List Part) (x : Int) : Part := match hp with | [] => leaf x | p :: _ => p
/-- one number of the script; the heap's top comes first -/
def step (hp : List Part) (x : Int) : List Part :=
  if x.fmod 24 < 7 then leaf (x.fdiv 24) :: hp
  else if x.fmod 24 < 20 then pair (opAt (x.fmod 24 - 7).toNat) (lastOf hp.tail (x.fdiv 24 + 1)) (lastOf hp (x.fdiv 24)) :: hp.tail.tail
  else if x.fmod 24 < 22 then choice (lastOf hp.tail.tail (x.fdiv 24 + 2)) (lastOf hp.tail (x.fdiv 24 + 1)) (lastOf hp (x.fdiv 24)) :: hp.tail.tail.tail
  else if x.fmod 24 = 22 then neg (lastOf hp (x.fdiv 24)) :: hp.tail
  else brk (lastOf hp (x.fdiv 24)) :: hp.tail
def hpOf (l : List Int) : List Part := l.foldl step []
theorem wt_append : ∀ a b : List PySem.Str, wt (a ++ b) = wt a + wt b
  | [], b => by simp [wt]
  | x :: a, b => by simp only [List.cons_append, wt, wt_append a b]; omega
theorem len_wt : ∀ a : List PySem.Str, a.length ≤ wt a
  | [] => by simp [wt]
  | x :: a => by have := len_wt a; simp only [List.length_cons, wt]; omega
theorem leaf_wt (x : Int) : wt (leaf x).toks ≤ 17 ∧ (leaf x).text.length ≤ 3 := by
  have h1 := leaf_num_len x
  have h2 := leaf_zero_len x
  have h3 : (PySem.Str.ofString "n").length = 1 := by decide
  constructor
  · simp only [leaf, wt, leafTok]
    split
    · rw [h3]; omega
    · rw [PySem.Str.length_append]; omega
  · simp only [leaf, leafText]
    split
    · rw [h3]; omega
    · exact h1
theorem brk_wt (p : Part) : wt (brk p).toks = wt p.toks + 26 ∧ (brk p).text.length = p.text.length + 2 := by
  constructor
  · simp only [brk, wt_append, wt, slen_lp, slen_rp]; omega
  · simp only [brk, PySem.Str.length_append, slen_lp, slen_rp]; omega
/-- a part's text is no longer than what its tokens pay -/
def Ok (p : Part) : Prop := p.text.length ≤ wt p.toks
theorem ok_leaf (x : Int) : Ok (leaf x) := by
  have := leaf_wt x
  unfold Ok
  simp only [leaf, wt] at *
  omega
theorem ok_brk {p : Part} (h : Ok p) : Ok (brk p) := by
  have := brk_wt p
  unfold Ok at *
  omega
theorem ite_wt {c : Prop} [Decidable c] {p : Part} (h : Ok p) : wt (if c then brk p else p).toks ≤ wt p.toks + 26 ∧ Ok (if c then brk p else p) := by
  have := brk_wt p
  split
  · exact ⟨by omega, ok_brk h⟩
  · exact ⟨by omega, h⟩
theorem word_len2 {r : Int} {p : Part} : (wordOf r p).length ≤ p.text.length + 2 := by
  unfold wordOf
  split
  · split
    · simp only [PySem.Str.length_append, slen_lp, slen_rp]; omega
    · omega
  · omega
theorem join3 (a b c : PySem.Str) : Txt.join (S " ") [a, b, c] = a ++ S " " ++ (b ++ S " " ++ c) := by
  have h := join_closes (sep := S " ") (sep' := S " ") (ys := [a, b, c]) rfl
  exact (eq_of_beq h).trans rfl
theorem opAt_len (k : Nat) : (opAt k).length ≤ 2 := by
  unfold opAt
  by_cases h : k < 13
  · have : ∀ k : Fin 13, (opsL.getD k.val (S "")).length ≤ 2 := by decide
    exact this ⟨k, h⟩
  · have : opsL.getD k (S "") = S "" := by
      have h13 : opsL.length = 13 := rfl
      rw [List.getD_eq_getElem?_getD, List.getElem?_eq_none (by omega)]; rfl
    rw [this]; decide
theorem pair_wt {op : PySem.Str} {p q : Part} (ho : op.length ≤ 2) (hp : Ok p) (hq : Ok q) : wt (pair op p q).toks ≤ wt p.toks + wt q.toks + 66 ∧ Ok (pair op p q) := by
  have h1 := ite_wt (c := p.rank < rankOf op) hp
  have h2 := ite_wt (c := q.rank ≤ rankOf op) hq
  have h3 := opWord_len ho
  constructor
  · simp only [pair, wt_append, wt]; omega
  · unfold Ok at *
    simp only [pair, wt_append, wt]
    rw [join3]
    simp only [PySem.Str.length_append, slen_sp]
    have w1 := word_len2 (r := rankOf op) (p := if p.rank < rankOf op then brk p else p)
    have w2 := word_len2 (r := rankOf op) (p := if q.rank ≤ rankOf op then brk q else q)
    omega
theorem choice_wt {c y n : Part} (hc : Ok c) (hy : Ok y) (hn : Ok n) : wt (choice c y n).toks ≤ wt c.toks + wt y.toks + wt n.toks + 52 ∧ Ok (choice c y n) := by
  have h1 := ite_wt (c := c.rank = 0) hc
  have s1 : (PySem.Str.ofString "?").length = 1 := by decide
  have s2 : (PySem.Str.ofString ":").length = 1 := by decide
  have s3 : (if y.rank = 0 then PySem.Str.ofString "(" ++ y.text ++ PySem.Str.ofString ")" else y.text).length ≤ y.text.length + 2 := by
    split
    · simp only [PySem.Str.length_append, slen_lp, slen_rp]; omega
    · omega
  constructor
  · simp only [choice, wt_append, wt, s1, s2]; omega
  · unfold Ok at *
    simp only [choice, wt_append, wt, s1, s2, PySem.Str.length_append, slen_if, slen_else]
    omega
theorem neg_wt {p : Part} (h : Ok p) : wt (neg p).toks ≤ wt p.toks + 39 ∧ Ok (neg p) := by
  have h1 := brk_wt p
  have s1 : (S "!").length = 1 := by decide
  unfold Ok at *
  simp only [neg, wt_append, wt, s1, PySem.Str.length_append, slen_not]
  split <;> constructor <;> omega
noncomputable def wsum : List Part → Nat
  | [] => 0
  | p :: r => wt p.toks + wsum r
def Oks (hp : List Part) : Prop := ∀ p ∈ hp, Ok p
theorem ok_last {hp : List Part} {x : Int} (h : Oks hp) : Ok (lastOf hp x) := by
  cases hp with
  | nil => exact ok_leaf x
  | cons p r => exact h p (.head _)
theorem oks_tail {hp : List Part} (h : Oks hp) : Oks hp.tail := by
  cases hp with
  | nil => exact h
  | cons p r => exact fun q hq => h q (.tail _ hq)
theorem oks_cons {p : Part} {hp : List Part} (h1 : Ok p) (h : Oks hp) : Oks (p :: hp) := fun q hq => by
  rcases List.mem_cons.mp hq with e | hq
  · subst e; exact h1
  · exact h q hq
theorem last_wt (hp : List Part) (x : Int) : wt (lastOf hp x).toks + wsum hp.tail ≤ wsum hp + 17 := by
  cases hp with
  | nil => have := (leaf_wt x).1; simp only [lastOf, List.tail_nil, wsum]; omega
  | cons p r => simp only [lastOf, List.tail_cons, wsum]; omega
theorem step_ok {hp : List Part} (x : Int) (h : Oks hp) : Oks (step hp x) ∧ wsum (step hp x) ≤ wsum hp + 200 ∧ (step hp x).length ≤ hp.length + 1 := by
  have a1 := ok_last (x := x.fdiv 24) h
  have a2 := ok_last (x := x.fdiv 24 + 1) (oks_tail h)
  have a3 := ok_last (x := x.fdiv 24 + 2) (oks_tail (oks_tail h))
  have b1 := last_wt hp (x.fdiv 24)
  have b2 := last_wt hp.tail (x.fdiv 24 + 1)
  have b3 := last_wt hp.tail.tail (x.fdiv 24 + 2)
  have t1 := oks_tail h
  have t2 := oks_tail t1
  have t3 := oks_tail t2
  have l1 : hp.tail.length ≤ hp.length := by simp
  have l2 : hp.tail.tail.length ≤ hp.length := by simp; omega
  have l3 : hp.tail.tail.tail.length ≤ hp.length := by simp; omega
  unfold step
  split
  · have := (leaf_wt (x.fdiv 24)).1
    exact ⟨oks_cons (ok_leaf _) h, by simp only [wsum]; omega, by simp⟩
  · split
    · have := pair_wt (op := opAt (x.fmod 24 - 7).toNat) (opAt_len _) a2 a1
      exact ⟨oks_cons this.2 t2, by simp only [wsum]; omega, by simp only [List.length_cons]; omega⟩
    · split
      · have := choice_wt a3 a2 a1
        exact ⟨oks_cons this.2 t3, by simp only [wsum]; omega, by simp only [List.length_cons]; omega⟩
      · split
        · have := neg_wt a1
          exact ⟨oks_cons this.2 t1, by simp only [wsum]; omega, by simp only [List.length_cons]; omega⟩
        · have := brk_wt (lastOf hp (x.fdiv 24))
          exact ⟨oks_cons (ok_brk a1) t1, by simp only [wsum]; omega, by simp only [List.length_cons]; omega⟩
theorem hp_fold : ∀ (l : List Int) (hp : List Part), Oks hp → Oks (l.foldl step hp) ∧ wsum (l.foldl step hp) ≤ wsum hp + 200 * l.length ∧ (l.foldl step hp).length ≤ hp.length + l.length
  | [], hp, h => ⟨h, by simp, by simp⟩
  | x :: l, hp, h => by
    have s := step_ok x h
    have r := hp_fold l (step hp x) s.1
    simp only [List.foldl_cons, List.length_cons]
    exact ⟨r.1, by omega, by omega⟩
theorem hp_ok (l : List Int) : Oks (hpOf l) ∧ wsum (hpOf l) ≤ 200 * l.length ∧ (hpOf l).length ≤ l.length := by
  have := hp_fold l [] (fun _ h => nomatch h)
  simp only [wsum, List.length_nil] at this
  exact ⟨this.1, by have := this.2.1; unfold hpOf; omega, by have := this.2.2; unfold hpOf; omega⟩
theorem wsum_mem {p : Part} : ∀ {hp : List Part}, p ∈ hp → wt p.toks ≤ wsum hp
  | q :: r, h => by
    simp only [wsum]
    rcases List.mem_cons.mp h with e | h
    · subst e; omega
    · have := wsum_mem h; omega
theorem fits_of {p : Part} (h : Ok p) (hw : wt p.toks ≤ 100000) : Fits p := ⟨Nat.le_trans (len_wt _) hw, Nat.le_trans h hw⟩
theorem fits_last {hp : List Part} {x : Int} (h : Oks hp) (hw : wsum hp ≤ 90000) : Fits (lastOf hp x) := by
  refine fits_of (ok_last h) ?_
  have := last_wt hp x
  omega
theorem wsum_tail (hp : List Part) : wsum hp.tail ≤ wsum hp := by
  cases hp with
  | nil => exact Nat.le_refl _
  | cons p r => simp only [List.tail_cons, wsum]; omega
end
section
/-- the ledger but for some addresses -/
def offs (as : List Addr) (n : Led) : Led := n.filter fun p => decide (p.1 ∉ as)
theorem mem_offs {as : List Addr} {n : Led} {q : Addr × Obj} : q ∈ offs as n ↔ q ∈ n ∧ q.1 ∉ as := by
  unfold offs; rw [List.mem_filter]; simp
inductive PartsAt (n : Led) : List Value → List Part → Prop
  | nil : PartsAt n [] []
  | snoc {vs : List Value} {v : Value} {p : Part} {hp : List Part} : PartsAt n vs hp → PartAt n v p → PartsAt n (vs ++ [v]) (p :: hp)
theorem PartsAt.mono {n n' : Led} {vs : List Value} {hp : List Part} (h : PartsAt n vs hp) (hs : ∀ q ∈ n, q ∈ n') : PartsAt n' vs hp := by
  induction h with
  | nil => exact .nil
  | snoc _ hp ih => exact .snoc ih (hp.mono hs)
theorem PartsAt.length {n : Led} {vs : List Value} {hp : List Part} (h : PartsAt n vs hp) : vs.length = hp.length := by
  induction h with
  | nil => rfl
  | snoc _ _ ih => simp [ih]
structure TurnSt (as : List Addr) (own : Led) (lH lO D : Addr) (oO oD : Obj) (n : Led) (vs : List Value) (k : Nat) (hp : List Part) : Prop where
  hA : lH ∈ as
  hHm : (lH, listOf vs.toArray k) ∈ n
  hO : (lO, oO) ∈ offs as n
  hD : (D, oD) ∈ offs as n
  hown : ∀ q ∈ own, q ∈ n ∧ q.1 ≠ lH
  hin : ∀ a ∈ as, ∃ q ∈ n, q.1 = a
  hP : PartsAt (offs as n) vs hp
section
variable {as : List Addr} {own : Led} {lH lO D : Addr} {oO oD : Obj} {n n' : Led} {vs : List Value} {k : Nat} {hp : List Part}
theorem TurnSt.mono (t : TurnSt as own lH lO D oO oD n vs k hp) (hs : ∀ q ∈ n, q ∈ n') : TurnSt as own lH lO D oO oD n' vs k hp := by
  have h2 : ∀ q ∈ offs as n, q ∈ offs as n' := fun q hq => mem_offs.mpr ⟨hs q (mem_offs.mp hq).1, (mem_offs.mp hq).2⟩
  exact ⟨t.hA, hs _ t.hHm, h2 _ t.hO, h2 _ t.hD, fun q hq => ⟨hs _ (t.hown q hq).1, (t.hown q hq).2⟩, fun a ha => let ⟨q, hq, e⟩ := t.hin a ha; ⟨q, hs q hq, e⟩, t.hP.mono h2⟩
theorem TurnSt.made (t : TurnSt as own lH lO D oO oD n vs k hp) {n1 : Led} {r : Value} {p : Part} (h1 : ∀ q ∈ n, q ∈ n1) (h : Made n1 n' r p) : TurnSt as own lH lO D oO oD n' vs k hp ∧ PartAt (offs as n') r p := by
  obtain ⟨add, rfl, hf, hp⟩ := h
  refine ⟨t.mono fun q hq => List.mem_append.mpr (.inr (h1 q hq)), hp.mono fun q hq => mem_offs.mpr ⟨List.mem_append.mpr (.inl hq), fun ha => ?_⟩⟩
  obtain ⟨q', hq', e⟩ := t.hin _ ha
  exact absurd (hf q' (h1 q' hq') q hq) (by rw [e]; exact Nat.lt_irrefl _)
theorem TurnSt.upd (t : TurnSt as own lH lO D oO oD n vs k hp) {vs' : List Value} {k' : Nat} {hp' : List Part} (h : PartsAt (offs as n) vs' hp') : TurnSt as own lH lO D oO oD (upd lH (listOf vs'.toArray k') n) vs' k' hp' := by
  have h2 : ∀ q ∈ offs as n, q ∈ offs as (Mine.upd lH (listOf vs'.toArray k') n) := fun q hq =>
    mem_offs.mpr ⟨mem_upd (mem_offs.mp hq).1 (fun e => (mem_offs.mp hq).2 (e ▸ t.hA)), (mem_offs.mp hq).2⟩
  refine ⟨t.hA, mem_upd_self t.hHm, h2 _ t.hO, h2 _ t.hD, fun q hq => ⟨mem_upd (t.hown q hq).1 (t.hown q hq).2, (t.hown q hq).2⟩, fun a ha => ?_, h.mono h2⟩
  obtain ⟨q, hq, e⟩ := t.hin a ha
  by_cases hql : q.1 = lH
  · exact ⟨_, mem_upd_self t.hHm, by rw [← e, hql]⟩
  · exact ⟨q, mem_upd hq hql, e⟩
theorem part_upd {o : Obj} {v : Value} {p : Part} (hA : lH ∈ as) (h : PartAt (offs as n) v p) : PartAt (offs as (upd lH o n)) v p :=
  h.mono fun q hq => mem_offs.mpr ⟨mem_upd (mem_offs.mp hq).1 (fun e => (mem_offs.mp hq).2 (e ▸ hA)), (mem_offs.mp hq).2⟩
theorem part_offs {v : Value} {p : Part} (h : PartAt (offs as n) v p) : PartAt n v p := h.mono fun q hq => (mem_offs.mp hq).1
theorem part_mono {v : Value} {p : Part} (hs : ∀ q ∈ n, q ∈ n') (h : PartAt (offs as n) v p) : PartAt (offs as n') v p := h.mono fun q hq => mem_offs.mpr ⟨hs q (mem_offs.mp hq).1, (mem_offs.mp hq).2⟩
end
/-- a frame by what some names hold -/
noncomputable def AllM (m : PySem.Str → Option Value) : List (PySem.Str × Value) → Prop
  | [] => True
  | p :: r => m p.1 = some p.2 ∧ AllM m r
abbrev lmap (l : List (PySem.Str × Value)) (u : PySem.Str → Option Value) : PySem.Str → Option Value := fun y => match l.lookup y with | some v => some v | none => u y
theorem Fr.lm {h₀ h : Heap} {L : Addr} {m : PySem.Str → Option Value} (F : Fr h₀ L h m) (l : List (PySem.Str × Value)) (hl : AllM m l) : Fr h₀ L h (lmap l m) := by
  refine Fr.cg F fun y => ?_
  unfold lmap
  induction l with
  | nil => rfl
  | cons p r ih =>
    obtain ⟨h1, h2⟩ := hl
    rw [List.lookup_cons]
    by_cases hy : y = p.1
    · subst hy; simp [h1]
    · rw [show (y == p.1) = false from beq_eq_false_iff_ne.mpr hy]; exact ih h2
structure LawInv (lH lO lS D : Addr) (oO oD : Obj) (m : PySem.Str → Option Value) (nx : Led) (vs : List Value) (k : Nat) (hp : List Part) : Prop where
  mm : AllM m [(S "heap", .ref lH), (S "ops", .ref lO), (S "script", .ref lS)]
  hH : (lH, listOf vs.toArray k) ∈ nx
  hO : (lO, oO) ∈ offs [lH] nx
  hD : (D, oD) ∈ offs [lH] nx
  hP : PartsAt (offs [lH] nx) vs hp
theorem offs_app {lH : Addr} {nx own : Led} (ho : ∀ q ∈ own, q.1 ≠ lH) (hoff : OwnOff own (nx.map (·.1))) : ∀ q ∈ offs [lH] nx, q ∈ offs (lH :: own.map (·.1)) (nx ++ own) := by
  intro q hq
  obtain ⟨h1, h2⟩ := mem_offs.mp hq
  refine mem_offs.mpr ⟨List.mem_append.mpr (.inl h1), fun h => ?_⟩
  rcases List.mem_cons.mp h with e | h
  · exact h2 (by simp [e])
  · obtain ⟨p, hp, e⟩ := List.mem_map.mp h
    exact hoff p hp q.1 (List.mem_map.mpr ⟨q, h1, rfl⟩) e
theorem inv_start {lH lO lS D : Addr} {oO oD : Obj} {m : PySem.Str → Option Value} {nx own : Led} {vs : List Value} {k : Nat} {hp : List Part} (I : LawInv lH lO lS D oO oD m nx vs k hp) (hoff : OwnOff own (nx.map (·.1))) :
    TurnSt (lH :: own.map (·.1)) own lH lO D oO oD (nx ++ own) vs k hp := by
  have ho : ∀ q ∈ own, q.1 ≠ lH := fun q hq => hoff q hq lH (List.mem_map.mpr ⟨_, I.hH, rfl⟩)
  have hs := offs_app ho hoff
  refine ⟨.head _, List.mem_append.mpr (.inl I.hH), hs _ I.hO, hs _ I.hD, fun q hq => ⟨List.mem_append.mpr (.inr hq), ho q hq⟩, fun a ha => ?_, I.hP.mono hs⟩
  rcases List.mem_cons.mp ha with e | ha
  · exact ⟨_, List.mem_append.mpr (.inl I.hH), e.symm⟩
  · obtain ⟨q, hq, e⟩ := List.mem_map.mp ha
    exact ⟨q, List.mem_append.mpr (.inr hq), e⟩
/-- the end of a turn -/
theorem inv_end {h₀ : Heap} {L lH lO lS D : Addr} {oO oD : Obj} {m : PySem.Str → Option Value} {n own : Led} {vs : List Value} {k : Nat} {hp : List Part} {s₁ : Shared} {h' : Heap} {tk : Nat} {J : (PySem.Str → Option Value) → Led → Prop} (F : Fr h₀ L h' m) (N : News h₀ L h' n)
    (t : TurnSt (lH :: own.map (·.1)) own lH lO D oO oD n vs k hp) (hm : AllM m [(S "heap", .ref lH), (S "ops", .ref lO), (S "script", .ref lS)])
    (hj : ∀ nx, LawInv lH lO lS D oO oD m nx vs k hp → J m nx) : InvEndG h₀ L J own s₁ { s₁ with heap := h', toks := tk } := by
  have hsub : ∀ q ∈ offs (lH :: own.map (·.1)) n, q ∈ offs [lH] (offs (own.map (·.1)) n) := fun q hq => by
    obtain ⟨h1, h2⟩ := mem_offs.mp hq
    exact mem_offs.mpr ⟨mem_offs.mpr ⟨h1, fun h => h2 (.tail _ h)⟩, fun h => h2 (by rw [List.mem_singleton.mp h]; exact .head _)⟩
  refine InvEndG.intro F N (hj (offs (own.map (·.1)) n) ⟨hm, mem_offs.mpr ⟨t.hHm, fun h => ?_⟩, hsub _ t.hO, hsub _ t.hD, t.hP.mono hsub⟩) (fun p hp b hb => ?_) (fun p hp => (mem_offs.mp hp).1) (fun p hp => (t.hown p hp).1)
  · obtain ⟨q, hq, e⟩ := List.mem_map.mp h
    exact (t.hown q hq).2 e
  · obtain ⟨q, hq, rfl⟩ := List.mem_map.mp hb
    exact fun e => (mem_offs.mp hq).2 (List.mem_map.mpr ⟨p, hp, e⟩)
theorem strs_get : ∀ {vs : List Value} {ss : List PySem.Str}, StrsAre vs ss → ∀ {j : Nat}, j < ss.length → ∃ t, vs[j]? = some (.str (ss.getD j (S "")) t)
  | _, _, .nil, j, h => absurd h (Nat.not_lt_zero _)
  | _, _, .cons y t _, 0, _ => ⟨t, rfl⟩
  | _, _, .cons y t r, j + 1, h => by
    obtain ⟨t', e⟩ := strs_get r (j := j) (by simpa using h)
    exact ⟨t', by simpa using e⟩
section
open PySem.Calls
variable {prog : Program} {w : World} {A : Around} {E : Value → Shared → Prop} {s : Shared} {h₀ : Heap} {L lO : Addr} {n : Led} {Q : Value → Shared → Prop} {ovs : List Value} {k : Nat} {z : Int} {u : Tok}
theorem r_ops {value slice : PySem.Expr} (N : News h₀ L s.heap n) (hm : (lO, listOf ovs.toArray k) ∈ n) (ho : StrsAre ovs opsL) (h0 : 0 ≤ z) (h1 : z < 13) (h : ∀ t, Q (.str (opAt z.toNat) t) s)
    (hs : subscripted slice false (.ref lO) (.int z u) = operate [.ref lO, .int z u] (getItem (.ref lO) (.int z u))) :
    wpAny (model prog w) A (subscriptTail value slice (.ref lO) (.int z u)) Q E s := by
  have hl := News.isList N hm
  have h13 : opsL.length = 13 := rfl
  obtain ⟨t, e⟩ := strs_get ho (j := z.toNat) (by omega)
  exact tail_any hl.typeIs slot_list_getitem.lookup (wpAny_getItem_list hl h0 (by omega) (by rw [List.getElem?_toArray]; exact e) (h t)) hs
end
theorem Made.mem {news n' : Led} {r : Value} {p : Part} (h : Made news n' r p) : ∀ q ∈ news, q ∈ n' := h.part.2.mem
theorem offs_tail {as : List Addr} {x : Addr × Obj} {n : Led} : ∀ q ∈ offs as n, q ∈ offs as (x :: n) := fun _ hq => mem_offs.mpr ⟨.tail _ (mem_offs.mp hq).1, (mem_offs.mp hq).2⟩
theorem TurnSt.put {as : List Addr} {own : Led} {lH lO D : Addr} {oO oD : Obj} {n n' : Led} {vs : List Value} {k k' : Nat} {hp : List Part} {r : Value} {p : Part} (t : TurnSt as own lH lO D oO oD n vs k hp) (h : Made n n' r p) :
    TurnSt as own lH lO D oO oD (Mine.upd lH (listOf (vs ++ [r]).toArray k') n') (vs ++ [r]) k' (p :: hp) :=
  let h2 := t.made (fun _ h => h) h
  h2.1.upd (.snoc h2.1.hP h2.2)
theorem ifn_len {p : Part} {c : Prop} [Decidable c] (hf : Fits p) : (if c then p else brk p).toks.length ≤ 100002 ∧ (if c then p else brk p).text.length ≤ 100002 := by
  split
  · exact ⟨Nat.le_trans hf.toks (by decide), Nat.le_trans hf.text (by decide)⟩
  · exact brk_len hf
noncomputable def joinN : Nat → List Part → List Part
  | f + 1, a :: b :: r => joinN f (pair (opAt (r.length % 13)) b a :: r)
  | _, hp => hp
section
variable {prog : Program} {w : World} {A : Around} {E : Value → Shared → Prop} {s : Shared} {h₀ : Heap} {L D : Addr} {n : Led} {Q : Value → Shared → Prop} {vs : List Value} {k : Nat}
theorem r_len (N : News h₀ L s.heap n) (hm : (D, listOf vs.toArray k) ∈ n) (hv : vs.length ≤ 1000) (h : Q (.int (vs.length : Int) (s.toks + 1)) { s with toks := s.toks + 1 + 1 }) : wpAny (model prog w) A (call (.builtin "len") [.ref D]) Q E s := by
  have e : vs.toArray.size = vs.length := List.size_toArray
  exact Calls.call_len_list (News.isList N hm) (by rw [e]; omega) (by rw [e]; exact h)
end
theorem turn_of {lH lO lS D : Addr} {oO oD : Obj} {m : PySem.Str → Option Value} {nx : Led} {vs : List Value} {k : Nat} {hp : List Part} (I : LawInv lH lO lS D oO oD m nx vs k hp) : TurnSt [lH] [] lH lO D oO oD nx vs k hp :=
  ⟨.head _, I.hH, I.hO, I.hD, (fun _ h => nomatch h), fun a ha => ⟨_, I.hH, (List.mem_singleton.mp ha).symm⟩, I.hP⟩
theorem fmod13 (n : Nat) : ((n : Int).fmod 13).toNat = n % 13 := by
  rw [Int.fmod_eq_emod_of_nonneg _ (by decide)]
  omega
theorem PartsAt.pop {n : Led} {vs : List Value} {v : Value} {p : Part} {hp : List Part} (h : PartsAt n (vs ++ [v]) (p :: hp)) : PartsAt n vs hp := by
  generalize e : vs ++ [v] = ws at h
  cases h with
  | snoc a b =>
    have := List.append_inj_left' e rfl
    subst this
    exact a
theorem joinN_len : ∀ (f : Nat) (hp : List Part), hp.length ≤ f + 1 → (joinN f hp).length ≤ 1
  | 0, hp, h => by simpa [joinN] using h
  | f + 1, [], _ => by simp [joinN]
  | f + 1, [a], _ => by simp [joinN]
  | f + 1, a :: b :: r, h => by
    unfold joinN
    exact joinN_len f _ (by simp only [List.length_cons] at h ⊢; omega)
def tailsL : List PySem.Str := [S "", S ")", S ":", S "n", S "7", S "(", S "!"]
section
open PySem.Calls
variable {prog : Program} {w : World} {A : Around} {E : Value → Shared → Prop} {s : Shared} {h₀ : Heap} {L D : Addr} {n : Led} {Q : Value → Shared → Prop} {v : Value} {k : Nat} {u : Tok} {z : Int} {tvs : List Value}
theorem r_item0 {value slice : PySem.Expr} (N : News h₀ L s.heap n) (hm : (D, listOf [v].toArray k) ∈ n) (h : Q v s)
    (hs : subscripted slice false (.ref D) (.int 0 u) = operate [.ref D, .int 0 u] (getItem (.ref D) (.int 0 u))) : wpAny (model prog w) A (subscriptTail value slice (.ref D) (.int 0 u)) Q E s :=
  tail_any (News.isList N hm).typeIs slot_list_getitem.lookup (wpAny_getItem_list (News.isList N hm) (by decide) (by decide) (by rfl) h) hs
theorem r_tails {value slice : PySem.Expr} (N : News h₀ L s.heap n) (hm : (D, listOf tvs.toArray k) ∈ n) (ho : StrsAre tvs tailsL) (h0 : 0 ≤ z) (h1 : z < 7) (h : ∀ t, Q (.str (tailsL.getD z.toNat (S "")) t) s)
    (hs : subscripted slice false (.ref D) (.int z u) = operate [.ref D, .int z u] (getItem (.ref D) (.int z u))) :
    wpAny (model prog w) A (subscriptTail value slice (.ref D) (.int z u)) Q E s := by
  have hl := News.isList N hm
  have h13 : tailsL.length = 7 := rfl
  obtain ⟨t, e⟩ := strs_get ho (j := z.toNat) (by omega)
  exact tail_any hl.typeIs slot_list_getitem.lookup (wpAny_getItem_list hl h0 (by omega) (by rw [List.getElem?_toArray]; exact e) (h t)) hs
end
section
open PySem.Calls PyProof.V PySem.Spec
variable {prog : Program} {w : World} {A : Around} {E : Value → Shared → Prop} {s : Shared} {h₀ : Heap} {L t : Addr} {m : PySem.Str → Option Value} {news : Led}
theorem sum_G {xs : Array (Int × Tok)} {Q : Value → Shared → Prop} (hh : A.handled = none) (ht : s.heap.IsList t (intItems xs))
    (h : ∀ h' tk t', (∀ b o, s.heap.get? b = some o → h'.get? b = some o) → Q (.int (preSum (numAt xs) xs.size) t') { s with heap := h', toks := tk }) :
    wpAny (model prog w) A (call (.builtin "sum") [.ref t]) Q E s := by
  obtain ⟨o, ho, hc, n, hd⟩ := id ht
  have hne : t ≠ s.heap.objs.size := Nat.ne_of_lt (Heap.lt_size ho)
  have hsz : (intItems xs).size = xs.size := by simp [intItems]
  have W := (Walks.list (prog := prog) (w := w) (A := A.in1) hh s.heap.objs.size t hne (intItems xs)).toS
  rw [hsz] at W
  refine call_sum_walkAnyS (wpAny_pyIter_list ht ?_)
  refine ⟨s.heap.objs.size, _, _, _, _, _, _, numAt xs, rfl, W, ⟨⟨_, Heap.get?_push_size _ rfl, rfl, rfl⟩, ht.at fun o e => Heap.get?_push_of_some _ e⟩, fun b hb => ?_, fun i v hP => intItems_at hP, fun s' t' hm => ?_⟩
  · rcases List.mem_cons.mp hb with rfl | hb
    · exact Heap.lt_size (Heap.get?_push_size _ rfl)
    · obtain rfl := List.mem_singleton.mp hb
      exact Heap.lt_size (Heap.get?_push_of_some _ ho)
  · obtain ⟨h', g', d', tk', os'⟩ := s'
    have e1 : g' = s.gens := hm.gens
    have e2 : d' = s.drawn := hm.drawn
    have e3 : os' = s.os := hm.os
    subst e1 e2 e3
    exact h h' tk' t' fun b o e => hm.heap b o (fun hb => absurd (Heap.lt_size e) ((List.mem_singleton.mp hb) ▸ Nat.lt_irrefl _)) (Heap.get?_push_of_some _ e)
theorem r_sum {vs : List Value} {ns : List Int} {Q : Value → Shared → Prop} (hh : A.handled = none) (F : Fr h₀ L s.heap m) (N : News h₀ L s.heap news) (hl0 : h₀.IsList t vs.toArray) (hi : IntsAre vs ns)
    (h : ∀ z h' tk t', z = ns.sum → Fr h₀ L h' m → News h₀ L h' news → Q (.int z t') { s with heap := h', toks := tk }) :
    wpAny (model prog w) A (call (.builtin "sum") [.ref t]) Q E s := by
  have hl : s.heap.IsList t vs.toArray := hl0.at fun o e => F.keep t o e
  obtain ⟨xs, hx⟩ := hi.allInts.items
  have hn : numsOf vs.toArray.toList = ns := by rw [show vs.toArray.toList = vs from rfl, hi.numsOf]
  rw [hx] at hl hn
  rw [nums_intItems] at hn
  refine sum_G hh hl fun h' tk t' hk => ?_
  have := h _ h' tk t' rfl (F.keeps hk) (N.grown hk)
  rw [preSum_eq, List.take_of_length_le (by simp), hn]
  exact this
end
end
section
section
open PySem.Calls
variable {prog : Program} {w : World} {A : Around} {E : Value → Shared → Prop} {s : Shared} {h₀ : Heap} {L it l : Addr} {m : PySem.Str → Option Value} {news : Led} {Q : Value → Shared → Prop} {o : Obj} {i nn : Nat} {vs : List Value}
theorem r_iter (F : Fr h₀ L s.heap m) (N : News h₀ L s.heap news) (hl : (l, listOf vs.toArray nn) ∈ news)
    (h : ∀ I h' oI, Fr h₀ L h' m → News h₀ L h' ((I, oI) :: news) → (∀ p ∈ news, p.1 < I) → IterIs oI l 0 → Q (.ref I) { s with heap := h' }) :
    wpAny (model prog w) A (call (.builtin "iter") [.ref l]) Q E s := by
  refine call_function_entry (by decide +kernel) (by decide +kernel) kdk_entry_iter (kdk_args_iter _) ?_
  unfold Builtin.«iter»
  refine wpAny_bind (m := someArgs "iter" 1 2 _) (wpAny_of_eq (a := [Value.ref l]) (by first | rfl | kernel_rfl!) ?_)
  show wpAny _ _ (pyIter (.ref l) >>= _) _ _ _
  refine wpAny_bind (wpAny_pyIter_list (News.isList N hl) ?_)
  exact wpAny_pure ⟨_, rfl, h _ _ _ (F.push _) (News.push F N _ rfl) (fun q hq => Heap.lt_size (N q hq).1) ⟨rfl, rfl⟩⟩
end
-- LISTITER
section
open PySem.Calls
variable {prog : Program} {w : World} {A : Around} {E : Value → Shared → Prop} {s : Shared} {R : Result → Shared → Prop}
theorem walksFrom (hh : A.handled = none) (I ax : Addr) (hne : ax ≠ I) (items : Array Value) (k : Nat) :
    Walks prog w A I [I, ax] [I] (items.size - k) (fun i v => items[k + i]? = some v) (fun i h => h.IsListIter I ax (k + i) ∧ h.IsList ax items) where
  sub := fun b hb => by simp at hb; simp [hb]
  frame := fun _ _ _ st hk => ⟨st.1.at fun o e => hk I (by simp) o e, st.2.at fun o e => hk ax (by simp) o e⟩
  item := fun i s Q E hi st hQ => by
    have hlt : k + i < items.size := by omega
    refine wpAny_pyNext_list_item st.1 st.2 (x := items[k + i]) (by simp [hlt]) fun h' hit' hs' => ?_
    exact hQ _ h' s.toks (by simp [hlt]) ⟨hit', st.2.extBut hs'.extBut hne⟩ fun b o hb e => hs'.extBut b o (fun h => hb (by simp [h])) e
  done := fun s Q E st hQ => wpAny_pyNext_list_end hh st.1 st.2 (Array.getElem?_eq_none (by omega)) fun h' he' => hQ h' s.toks fun b o hb e => he' b o (fun h => hb (by simp [h])) e
  self := fun _ _ _ _ st hQ => wpAny_pyIter_listiter st.1 hQ
variable {I : Addr} {fp wr : List Addr} {G : Array GenState → Array GenState → Prop} {n : Nat} {P : Nat → Value → Prop} {St : Nat → Shared → Prop}
theorem extend_listIter (W : WalksS prog w A.in1 I fp wr G n P St) (hT : ∀ i s, St i s → s.TypeIs (.ref I) "list_iterator") (S : Addr) (res : Value) (c₀ : Nat) (hst : St 0 s) (hSf : S ∉ fp) (hI : I ∈ fp)
    (hS : s.heap.get? S = some { cls := .type "list", data := .seq #[] c₀ })
    (hR : ∀ s' acc' c', Moved (S :: wr) G s s' → s'.heap.get? S = some { cls := .type "list", dict := none, data := .seq acc' c', slots := #[] } → ItemsOf P acc' n → R (.ok (.ret res)) s') (hn : n ≤ sizeLine) :
    wpAny (model prog w) A.in1 (Builtin.List.listExtendWith (.ref S) (.ref I) res)
      (fun fin s' => match fin with | .done f => R (.ok f) s' | .again c' => c'.quiet = true ∧ codeAny (model prog w) A c' R s') (fun e s' => R (.error e) s') s := by
  have hSI : S ≠ I := fun e => hSf (e ▸ hI)
  unfold Builtin.List.listExtendWith
  refine wpAny_bind (wpAny_typeOf (hT 0 _ hst) ?_)
  have h1 : Builtin.List.listSameRef (.ref S) (.ref I) = false := by simp [Builtin.List.listSameRef, hSI]
  rw [if_neg (by rw [h1]; decide)]
  refine wpAny_bind (W.self 0 _ _ _ hst ?_)
  refine wpAny_bind (wpAny_holding ?_)
  unfold Builtin.List.listLengthHint
  refine wpAny_bind (wpAny_specialOf (hT 0 _ hst) PySem.F.nolen_li ?_)
  show wpAny _ A.in1 (specialOf (Value.ref I) (PySem.Str.ofString "__length_hint__") >>= _) _ _ _
  refine wpAny_bind (wpAny_specialOf (hT 0 _ hst) PySem.F.hint_li ?_)
  (generalize hid : ("list_iterator.__length_hint__" : String) = id0; (fail_if_success (clear hid id0)); wp_delta; rw [show splitId id0 = some ("list_iterator", "__length_hint__") from by subst hid; decide +kernel]; subst hid)
  refine wpAny_bind (wpAny_isInstance (b := true) (hT 0 _ hst) (by rw [isSubtype_type]; kernel_rfl) ?_)
  refine wpAny_pure ?_
  rw [if_neg (by decide)]
  exact wpAny_pure ⟨plainId_quiet PySem.F.plain_extend_loop _, codeAny_extend_loopS W hn _ hSf _ n 0 _ _ _ rfl (Nat.zero_le _) hst hS (ItemsOf.nil P) fun s' acc' c' hm hS' hacc => hR s' acc' c' hm hS' hacc⟩
theorem init_listIter (W : WalksS prog w A.in1 I fp wr G n P St) (hT : ∀ i s, St i s → s.TypeIs (.ref I) "list_iterator") (S : Addr) (hst : St 0 s) (hSf : S ∉ fp) (hI : I ∈ fp)
    (hS : s.heap.get? S = some { cls := .type "list", data := .seq #[] })
    (hR : ∀ s' acc' c', Moved (S :: wr) G s s' → s'.heap.get? S = some { cls := .type "list", dict := none, data := .seq acc' c', slots := #[] } → ItemsOf P acc' n → R (.ok (.ret .none)) s') (hn : n ≤ sizeLine) :
    wpAny (model prog w) A.in1 (Builtin.«list.__init__» ⟨[.ref S, .ref I], []⟩)
      (fun fin s' => match fin with | .done f => R (.ok f) s' | .again c' => c'.quiet = true ∧ codeAny (model prog w) A c' R s') (fun e s' => R (.error e) s') s := by
  show wpAny _ A.in1 (do let old ← Builtin.List.listItems (.ref S); Builtin.List.listUpdate (.ref S) (fun _ => #[]); letGo old.toList.reverse; Builtin.List.listExtendWith (.ref S) (.ref I) .none) _ _ s
  refine wpAny_bind ?_
  unfold Builtin.List.listItems
  refine wpAny_bind (wpAny_seqItems hS rfl (wpAny_pure ?_))
  show wpAny _ A.in1 (updateSeq S (fun _ => #[]) >>= fun _ => letGo (#[] : Array Value).toList.reverse >>= fun _ => Builtin.List.listExtendWith (.ref S) (.ref I) .none) _ _ s
  refine wpAny_bind (wpAny_updateSeq hS rfl ?_)
  have hS₂ := Heap.get?_update_self (Obj.mapSeq (fun _ => (#[] : Array Value))) hS rfl
  have oth : ∀ b o, b ≠ S → s.heap.get? b = some o → (s.heap.update S (Obj.mapSeq (fun _ => (#[] : Array Value)))).get? b = some o :=
    fun b o hb e => (Heap.get?_update_other _ _ (Ne.symm hb)).trans e
  refine wpAny_bind (wpAny_letGo ?_)
  refine extend_listIter (hn := hn) W hT S .none _ (W.frame 0 s _ s.toks hst (Nat.le_refl _) fun b hb o e => oth b o (fun h => hSf (h ▸ hb)) e) hSf hI hS₂ fun s' acc' c' hm hS' hacc => ?_
  exact hR s' acc' c' (Moved.trans W.gtrans ((Moved.refl W.grefl).then_heap (Nat.le_refl _) fun b o hb e => oth b o (fun h => hb (h ▸ List.mem_cons_self)) e) hm) hS' hacc
theorem call_listIter {Q : Value → Shared → Prop} (W : WalksS prog w A.in1.in1 I fp wr G n P St) (hT : ∀ i s, St i s → s.TypeIs (.ref I) "list_iterator") (hst : St 0 s) (hfp : ∀ b ∈ fp, b < s.heap.objs.size) (hI : I ∈ fp)
    (hQ : ∀ s' acc' c', Moved (s.heap.objs.size :: wr) G { s with heap := s.heap.push { cls := .type "list", data := .seq #[] } } s' →
      s'.heap.get? s.heap.objs.size = some { cls := .type "list", dict := none, data := .seq acc' c', slots := #[] } → ItemsOf P acc' n → Q (.ref s.heap.objs.size) s') (hn : n ≤ sizeLine) :
    wpAny (model prog w) A (call (.type "list") [.ref I]) Q E s := by
  have hSf : s.heap.objs.size ∉ fp := fun hm => Nat.lt_irrefl _ (hfp _ hm)
  refine callType_codes (Q₁ := fun obj s₁ => obj = .ref s.heap.objs.size ∧ s₁ = { s with heap := s.heap.push { cls := .type "list", data := .seq #[] } }) PySem.F.called_list (PySem.F.typeCall_list_1 _) PySem.F.entry_list_init
    (code_list_new _ ⟨rfl, rfl⟩) fun obj s₁ h₁ => ?_
  obtain ⟨rfl, rfl⟩ := h₁
  have hS : (s.heap.push { cls := .type "list", data := .seq #[] }).get? s.heap.objs.size = some { cls := .type "list", data := .seq #[] } := Heap.get?_push_size _ rfl
  refine ⟨⟨_, hS, rfl⟩, PySem.F.args_list_init_2 _ _, init_listIter (hn := hn) W hT _ (W.frame 0 s _ s.toks hst (Nat.le_refl _) fun b _ o e => Heap.get?_push_of_some _ e) hSf hI hS fun s' acc' c' hm hS' hacc => ?_⟩
  exact ⟨rfl, hQ s' acc' c' hm hS' hacc⟩
end
section
open PySem.Calls
variable {prog : Program} {w : World} {A : Around} {E : Value → Shared → Prop} {s : Shared} {h₀ : Heap} {L it l : Addr} {m : PySem.Str → Option Value} {news : Led} {Q : Value → Shared → Prop} {o : Obj} {i nn : Nat} {vs : List Value}
theorem items_from {vs : List Value} {k : Nat} {acc : Array Value} (h : ItemsOf (fun j v => vs.toArray[k + j]? = some v) acc (vs.toArray.size - k)) : acc = (vs.drop k).toArray := by
  obtain ⟨h1, h2⟩ := h
  apply Array.toList_inj.mp
  apply List.ext_getElem?
  intro j
  have h3 := h2 j
  simp only [Array.getElem?_toList, List.getElem?_drop]
  cases e : acc[j]? with
  | some v => have := h3 v e; simpa using this.symm
  | none =>
    have hj : acc.size ≤ j := Array.getElem?_eq_none_iff.mp e
    symm
    rw [List.getElem?_eq_none_iff]
    simp only [List.size_toArray] at h1
    omega
theorem r_listIter (hh : A.handled = none) (F : Fr h₀ L s.heap m) (N : News h₀ L s.heap news) (hit : (it, o) ∈ news) (hl : (l, listOf vs.toArray nn) ∈ news) (hne : l ≠ it) (hI : IterIs o l i) (hz : vs.length ≤ sizeLine)
    (h : ∀ D h' tk' c, Fr h₀ L h' m → News h₀ L h' ((D, listOf (vs.drop i).toArray c) :: news.filter (fun q => q.1 != it)) → (∀ p ∈ news, p.1 < D) → Q (.ref D) { s with heap := h', toks := tk' }) :
    wpAny (model prog w) A (call (.type "list") [.ref it]) Q E s := by
  have hm := N (it, o) hit
  have hml := N _ hl
  have W := (walksFrom (prog := prog) (w := w) (A := A.in1.in1) hh it l hne vs.toArray i).toS
  refine call_listIter W (fun j s' hs' => hs'.1.typeIs) ⟨hI.at hm.1, News.isList N hl⟩ ?_ (.head _) (fun s' acc' c' hmv hS' hacc => ?_) (by rw [List.size_toArray]; omega)
  · intro b hb
    rcases List.mem_cons.mp hb with rfl | hb
    · exact Heap.lt_size hm.1
    · rw [List.mem_singleton.mp hb]; exact Heap.lt_size hml.1
  · have e := items_from hacc
    subst e
    have hs' : s' = { s with heap := s'.heap, toks := s'.toks } := by
      obtain ⟨h9, g9, d9, t9, o9⟩ := s'
      have a := hmv.gens; have b := hmv.drawn; have c := hmv.os
      simp only at a b c
      subst a b c
      rfl
    have up : ∀ b o', b ≠ it → s.heap.get? b = some o' → s'.heap.get? b = some o' := fun b o' hb e =>
      hmv.heap b o' (fun hmem => by
        rcases List.mem_cons.mp hmem with rfl | hmem
        · exact Nat.lt_irrefl _ (Heap.lt_size e)
        · exact hb (List.mem_singleton.mp hmem)) (Heap.get?_push_of_some _ e)
    have hL : L ≠ it := Ne.symm hm.2.1
    rw [hs']
    refine h _ s'.heap s'.toks c' ⟨F.ns.at' fun o e => up _ o hL e, fun b o' e => up b o' (fun hb => ?_) (F.keep b o' e), F.above⟩ ?_ (fun p hp => Heap.lt_size (N p hp).1)
    · rw [hb, hm.2.2] at e; cases e
    · intro q hq
      rcases List.mem_cons.mp hq with rfl | hq
      · refine ⟨hS', Nat.ne_of_gt F.ns.lt, ?_⟩
        cases e : h₀.get? s.heap.objs.size with
        | none => rfl
        | some o => exact absurd (Heap.lt_size (F.keep _ _ e)) (Nat.lt_irrefl _)
      · obtain ⟨hq1, hq2⟩ := List.mem_filter.mp hq
        exact ⟨up _ _ (by simpa using hq2) (N q hq1).1, (N q hq1).2⟩
end
section
open PySem.Calls
variable {prog : Program} {w : World} {A : Around} {E : Value → Shared → Prop} {s : Shared} {h₀ : Heap} {L a b : Addr} {news : Led} {Q : Value → Shared → Prop} {n1 n2 : Nat}
theorem strs_eqAt : ∀ {xs ys : List Value} {ts : List PySem.Str}, StrsAre xs ts → StrsAre ys ts → xs.length = ys.length ∧ ∀ (A : Around) (s : Shared) j (h1 : j < xs.length) (h2 : j < ys.length), PySem.SeqAt.EqAt A s xs[j] ys[j] true
  | _, _, _, .nil, .nil => ⟨rfl, fun _ _ j h1 _ => absurd h1 (Nat.not_lt_zero j)⟩
  | _, _, _, .cons x t1 r1, .cons _ t2 r2 => by
    obtain ⟨e, h⟩ := strs_eqAt r1 r2
    refine ⟨by simp [e], fun A s j h1 h2 => ?_⟩
    cases j with
    | zero =>
      have := PySem.SeqAt.EqAt.str_str (A := A) (s := s) x t1 x t2
      rw [beq_self_eq_true] at this
      exact this
    | succ j => exact h A s j (by simpa using h1) (by simpa using h2)
theorem all_tt (l : List Nat) : (l.all fun _ => true) = true := List.all_eq_true.mpr fun _ _ => rfl
theorem r_eqL {xs ys : List Value} {ts : List PySem.Str} (N : News h₀ L s.heap news) (h1 : (a, listOf xs.toArray n1) ∈ news) (h2 : (b, listOf ys.toArray n2) ∈ news) (hx : StrsAre xs ts) (hy : StrsAre ys ts) (hu : A.units < cLine) (h : Q (.bool true) s) :
    wpAny (model prog w) A (compareOp .Eq (.ref a) (.ref b)) Q E s := by
  obtain ⟨e, he⟩ := strs_eqAt hx hy
  refine cmp_ofEq (PySem.SeqAt.RcAt.lists (e := fun _ => true) (News.isList N h1) (News.isList N h2) (by simpa using e) hu (fun j h1 h2 => ?_) prog w E Q (by rw [all_tt]; simpa using h))
  have := he A.in1 s j (by simpa using h1) (by simpa using h2)
  simpa using this
theorem r_eqT {x y : PySem.Str} {t1 t2 t3 t4 : Tok} (N : News h₀ L s.heap news) (h1 : (a, tupO #[.str x t1, .str y t2] n1) ∈ news) (h2 : (b, tupO #[.str x t3, .str y t4] n2) ∈ news) (hu : A.units < cLine) (h : Q (.bool true) s) :
    wpAny (model prog w) A (compareOp .Eq (.ref a) (.ref b)) Q E s := by
  have hx : StrsAre [.str x t1, .str y t2] [x, y] := .cons _ _ (.cons _ _ .nil)
  have hy : StrsAre [.str x t3, .str y t4] [x, y] := .cons _ _ (.cons _ _ .nil)
  obtain ⟨e, he⟩ := strs_eqAt hx hy
  refine cmp_ofEq (PySem.SeqAt.RcAt.tuples (e := fun _ => true) ⟨_, (N _ h1).1, rfl, _, rfl⟩ ⟨_, (N _ h2).1, rfl, _, rfl⟩ hu (fun j h1 h2 => ?_) prog w E Q (by rw [all_tt]; simpa using h))
  have := he A.in1 s j (by simpa using h1) (by simpa using h2)
  simpa using this
end
end
section
noncomputable def startP (d : Nat) (toks : List PySem.Str) (res : PySem.Str) : Option (PySem.Str × List PySem.Str) :=
  match bangs toks res with
  | none => none
  | some (r, t, rest) => atomP (parseP d) r t rest
def jOf (p : Part) : Int := if p.rank = 7 then 100 else p.rank
def textAt (prio : Int) (p : Part) : PySem.Str := if (prio = 4 ∧ p.rank = 4) ∨ (prio = 0 ∧ p.rank = 0) then S "(" ++ p.text ++ S ")" else p.text
/-- a token at which a parse of this priority ends -/
def Stopper (prio : Int) (t : PySem.Str) : Prop := (∀ i, binRank t = some i → i < prio) ∧ (t ≠ S "?" ∨ 0 < prio)
theorem S_nil (a : PySem.Str) : S "" ++ a = a := PySem.Str.empty_append a
theorem parse_start {d : Nat} {toks rest2 rest3 : List PySem.Str} {prio j : Int} {res1 nt res3 nt3 : PySem.Str} (h1 : startP d toks (S "") = some (res1, nt :: rest2)) (h2 : loopP (parseP d) prio toks.length res1 nt 100 rest2 = some (res3, nt3, j, rest3)) :
    parseP (d + 1) toks prio = (
    let res4 := if j = prio ∧ prio = 4 then S "(" ++ res3 ++ S ")" else res3
    if (nt3 == S "?") = true ∧ prio ≤ 0 then
      match parseP d rest3 0 with
      | none => none
      | some (yes, nt4, rest4) =>
      if (nt4 == S ":") = true then
        match parseP d rest4 (-1) with
        | none => none
        | some (no, nt5, rest5) => some (if prio = 0 then S "(" ++ (yes ++ S " if " ++ res4 ++ S " else " ++ no) ++ S ")" else yes ++ S " if " ++ res4 ++ S " else " ++ no, nt5, rest5)
      else none
    else some (res4, nt3, rest3)) := by
  unfold startP at h1
  split at h1
  · cases h1
  · rename_i r t rest e
    rw [parseP]
    simp only [e, h1, h2] <;> rfl
theorem loop_stop {parse : List PySem.Str → Int → Option Out} {prio j : Int} {res t : PySem.Str} {rest : List PySem.Str} (h : ∀ i, binRank t = some i → i < prio) (n : Nat) : loopP parse prio n res t j rest = some (res, t, j, rest) := by
  cases n <;> (
    unfold loopP
    split
    · rfl
    · rename_i i e
      rw [if_pos (h i e)])
theorem loop_go {parse : List PySem.Str → Int → Option Out} {prio i j : Int} {res op right nt' : PySem.Str} {rest rest' : List PySem.Str} (h : binRank op = some i) (hi : ¬ i < prio) (hp : parse rest (i + 1) = some (right, nt', rest')) (n : Nat) :
    loopP parse prio (n + 1) res op j rest = loopP parse prio n ((if in34 i = true ∧ in34 j = true then S "(" ++ res ++ S ")" else res) ++ S " " ++ opWord op ++ S " " ++ right) nt' i rest' := by
  rw [loopP]
  simp only [h, if_neg hi, hp]
def AtomOk (d : Nat) (p : Part) : Prop := ∀ res t rest, startP d (p.toks ++ t :: rest) res = some (res ++ p.text, t :: rest)
def LeadOk (d : Nat) (p : Part) : Prop := ∀ prio t rest, prio ≤ p.rank → (∀ i, binRank t = some i → i ≤ p.rank) → ∃ m res1 nt1 rest2, m ≤ p.toks.length ∧ startP d (p.toks ++ t :: rest) (S "") = some (res1, nt1 :: rest2) ∧
  ∀ n, loopP (parseP d) prio (m + n) res1 nt1 100 rest2 = loopP (parseP d) prio n p.text t (jOf p) rest
def ParseOk (d : Nat) (p : Part) : Prop := ∀ prio t rest, (prio ≤ 0 ∨ prio ≤ p.rank) → Stopper prio t → parseP d (p.toks ++ t :: rest) prio = some (textAt prio p, t, rest)
theorem lead_of_atom {d : Nat} {p : Part} (h7 : p.rank = 7) (h : AtomOk d p) : LeadOk d p := by
  intro prio t rest _ _
  refine ⟨0, _, _, _, Nat.zero_le _, h (S "") t rest, fun n => ?_⟩
  rw [S_nil, Nat.zero_add, jOf, if_pos h7]
theorem parse_of_lead {d : Nat} {p : Part} (h0 : 1 ≤ p.rank) (L : LeadOk d p) : ParseOk (d + 1) p := by
  intro prio t rest hp hs
  have hpr : prio ≤ p.rank := by omega
  obtain ⟨m, res1, nt1, rest2, hm, h1, h2⟩ := L prio t rest hpr (fun i hi => by have := hs.1 i hi; omega)
  have hlen : (p.toks ++ t :: rest).length = m + (p.toks.length - m + 1 + rest.length) := by simp; omega
  rw [parse_start h1 (res3 := p.text) (nt3 := t) (j := jOf p) (rest3 := rest) (by rw [hlen, h2, loop_stop hs.1])]
  dsimp only
  rw [if_neg (by
    rintro ⟨a, b⟩
    rcases hs.2 with c | c
    · exact c (eq_of_beq a)
    · omega)]
  have e1 : (jOf p = prio ∧ prio = 4) ↔ ((prio = 4 ∧ p.rank = 4) ∨ (prio = 0 ∧ p.rank = 0)) := by
    unfold jOf
    split <;> omega
  unfold textAt
  simp only [e1]
structure Good (k : Nat) (p : Part) : Prop where
  lo : 0 ≤ p.rank
  hi : p.rank ≤ 7
  parse : ∀ d, k ≤ d → ParseOk d p
  lead : p.rank ≠ 0 → ∀ d, k ≤ d + 1 → LeadOk d p
  atom : p.rank = 7 → ∀ d, k ≤ d + 1 → AtomOk d p
theorem Good.mono {k k' : Nat} {p : Part} (h : Good k p) (hk : k ≤ k') : Good k' p :=
  ⟨h.lo, h.hi, fun d hd => h.parse d (by omega), fun h0 d hd => h.lead h0 d (by omega), fun h0 d hd => h.atom h0 d (by omega)⟩
theorem good_lead {k : Nat} {p : Part} (hk : 1 ≤ k) (h1 : 1 ≤ p.rank) (h6 : p.rank ≤ 6) (L : ∀ d, k ≤ d + 1 → LeadOk d p) : Good k p := by
  refine ⟨by omega, by omega, fun d hd => ?_, fun _ => L, fun h => by omega⟩
  obtain ⟨d', rfl⟩ : ∃ d', d = d' + 1 := ⟨d - 1, by omega⟩
  exact parse_of_lead h1 (L d' hd)
theorem good_atom {k : Nat} {p : Part} (hk : 1 ≤ k) (h7 : p.rank = 7) (h : ∀ d, k ≤ d + 1 → AtomOk d p) : Good k p := by
  have L : ∀ d, k ≤ d + 1 → LeadOk d p := fun d hd => lead_of_atom h7 (h d hd)
  refine ⟨by omega, by omega, fun d hd => ?_, fun _ => L, fun _ => h⟩
  obtain ⟨d', rfl⟩ : ∃ d', d = d' + 1 := ⟨d - 1, by omega⟩
  exact parse_of_lead (by omega) (L d' hd)
theorem bang_ne {t r : PySem.Str} {rest : List PySem.Str} (h : t ≠ S "!") : bangs (t :: rest) r = some (r, t, rest) := by
  unfold bangs
  rw [if_neg (fun e => h (eq_of_beq e))]
theorem lp_ne : S "(" ≠ S "!" := by decide
theorem good_brk {k : Nat} {p : Part} (h : Good k p) : Good (k + 1) (brk p) := by
  refine good_atom (by omega) rfl fun d hd res t rest => ?_
  have e : (brk p).toks ++ t :: rest = S "(" :: (p.toks ++ S ")" :: t :: rest) := by simp [brk]
  have hp := h.parse d (by omega) (-1) (S ")") (t :: rest) (Or.inl (by decide)) ⟨fun i hi => (by rw [show binRank (S ")") = none from (by decide)] at hi; cases hi), Or.inl (by decide)⟩
  unfold startP
  rw [e, bang_ne lp_ne]
  dsimp only
  unfold atomP
  rw [if_pos (by decide), hp]
  dsimp only
  rw [if_pos (by decide)]
  have e2 : textAt (-1) p = p.text := if_neg (by omega)
  rw [e2]
  simp only [brk, PySem.Str.append_assoc]
theorem good_neg {k : Nat} {p : Part} (hk : 1 ≤ k) (h : Good k p) : Good (k + 1) (neg p) := by
  have hg : Good (k + 1) (if p.rank = 7 then p else brk p) := by
    split
    · exact h.mono (by omega)
    · exact good_brk h
  have h7 : (if p.rank = 7 then p else brk p).rank = 7 := by
    split
    · assumption
    · rfl
  refine good_atom (by omega) rfl fun d hd res t rest => ?_
  have ha := hg.atom h7 d hd (res ++ S "not ") t rest
  unfold startP at ha ⊢
  have e : bangs ((neg p).toks ++ t :: rest) res = bangs ((if p.rank = 7 then p else brk p).toks ++ t :: rest) (res ++ S "not ") := by
    show bangs (S "!" :: _) res = _
    rw [bangs, if_pos (by decide)]
    rfl
  rw [e, ha]
  simp only [neg, PySem.Str.append_assoc]
theorem numTok_ok : ∀ k : Fin 3, ∀ n : Fin 200, (let t := Txt.mul (PySem.Str.ofString "0") (k.val : Int) ++ PySem.Str.ofString (toString (n.val : Int)); (t == S "!") = false ∧ (t == S "(") = false ∧ (t == S "n") = false ∧ numOf t = some (n.val : Int)) := by decide +kernel
theorem good_leaf (x : Int) : Good 1 (leaf x) := by
  refine good_atom (by omega) rfl fun d hd res t rest => ?_
  show startP d (leafTok x :: t :: rest) res = some (res ++ leafText x, t :: rest)
  unfold leafTok leafText
  split
  · unfold startP
    rw [bang_ne (by decide)]
    dsimp only
    unfold atomP
    rw [if_neg (by decide), if_pos (by decide)]
  · have h1 := fmod_range (x.fdiv 3) (k := 3) (by decide)
    have h2 := fmod_range (x.fdiv 9) (k := 200) (by decide)
    generalize (x.fdiv 3).fmod 3 = a at h1
    generalize (x.fdiv 9).fmod 200 = b at h2
    have h := numTok_ok ⟨a.toNat, by omega⟩ ⟨b.toNat, by omega⟩
    have ea : ((a.toNat : Nat) : Int) = a := by omega
    have eb : ((b.toNat : Nat) : Int) = b := by omega
    simp only [ea, eb] at h
    obtain ⟨n1, n2, n3, n4⟩ := h
    unfold startP
    rw [bang_ne (ne_of_beq_false n1)]
    dsimp only
    unfold atomP
    rw [if_neg (by rw [n2]; decide), if_neg (by rw [n3]; decide), n4]
/-- the thirteen operations -/
theorem op_rank : ∀ op ∈ opsL, binRank op = some (rankOf op) := by decide
theorem rank_range : ∀ op ∈ opsL, 1 ≤ rankOf op ∧ rankOf op ≤ 6 := by decide
theorem good_pair {k : Nat} {op : PySem.Str} {p q : Part} (hk : 1 ≤ k) (ho : op ∈ opsL) (hp : Good k p) (hq : Good k q) : Good (k + 2) (pair op p q) := by
  have hb := op_rank op ho
  obtain ⟨r1, r6⟩ := rank_range op ho
  have hL : Good (k + 1) (if p.rank < rankOf op then brk p else p) ∧ rankOf op ≤ (if p.rank < rankOf op then brk p else p).rank := by
    split
    · exact ⟨good_brk hp, by show rankOf op ≤ 7; omega⟩
    · exact ⟨hp.mono (by omega), by omega⟩
  have hR : Good (k + 1) (if q.rank ≤ rankOf op then brk q else q) ∧ rankOf op + 1 ≤ (if q.rank ≤ rankOf op then brk q else q).rank := by
    split
    · exact ⟨good_brk hq, by show rankOf op + 1 ≤ 7; omega⟩
    · exact ⟨hq.mono (by omega), by omega⟩
  unfold pair
  generalize (if p.rank < rankOf op then brk p else p) = P at hL
  generalize (if q.rank ≤ rankOf op then brk q else q) = R at hR
  generalize rankOf op = r at hb r1 r6 hL hR
  obtain ⟨gL, rL⟩ := hL
  obtain ⟨gR, rR⟩ := hR
  refine good_lead (by omega) r1 r6 fun d hd prio t rest hpr ht => ?_
  dsimp only at hpr ht ⊢
  obtain ⟨m, res1, nt1, rest2, hm, h1, h2⟩ := gL.lead (by omega) d (by omega) prio op (R.toks ++ t :: rest) (by omega) (fun i hi => by rw [hb] at hi; cases hi; exact rL)
  have e : P.toks ++ [op] ++ R.toks ++ t :: rest = P.toks ++ op :: (R.toks ++ t :: rest) := by simp
  refine ⟨m + 1, res1, nt1, rest2, by simp; omega, by rw [e]; exact h1, fun n => ?_⟩
  rw [show m + 1 + n = m + (n + 1) by omega, h2]
  have hs : Stopper (r + 1) t := ⟨fun i hi => by have := ht i hi; omega, Or.inr (by omega)⟩
  rw [loop_go hb (by omega) (gR.parse d (by omega) (r + 1) t rest (Or.inr rR) hs)]
  have j7 := gL.hi
  have j8 := gR.hi
  have e1 : (if in34 r = true ∧ in34 (jOf P) = true then S "(" ++ P.text ++ S ")" else P.text) = wordOf r P := by
    unfold wordOf
    by_cases a : in34 r = true
    · rw [if_pos a]
      by_cases b : P.rank = 7
      · rw [if_neg (by rw [jOf, if_pos b]; simp [in34]), if_neg (by rw [b]; simp [in34])]
      · rw [jOf, if_neg b]
        by_cases c : in34 P.rank = true
        · rw [if_pos ⟨a, c⟩, if_pos c]
        · rw [if_neg (fun h => c h.2), if_neg c]
    · rw [if_neg a, if_neg (fun h => a h.1)]
  have e2 : textAt (r + 1) R = wordOf r R := by
    unfold textAt wordOf
    by_cases a : r = 3 ∧ R.rank = 4
    · obtain ⟨a, b⟩ := a
      rw [if_pos (by omega), a, b]
      rfl
    · rw [if_neg (by omega)]
      by_cases c : in34 r = true
      · rw [if_pos c, if_neg]
        simp [in34] at c ⊢
        omega
      · rw [if_neg c]
  rw [e1, e2, join3]
  have e3 : jOf (⟨r, P.toks ++ [op] ++ R.toks, wordOf r P ++ S " " ++ (opWord op ++ S " " ++ wordOf r R)⟩ : Part) = r := if_neg (by show ¬ r = 7; omega)
  rw [e3]
  simp only [PySem.Str.append_assoc]
theorem good_choice {k : Nat} {c y n : Part} (hk : 1 ≤ k) (hc : Good k c) (hy : Good k y) (hn : Good k n) : Good (k + 2) (choice c y n) := by
  have hC : Good (k + 1) (if c.rank = 0 then brk c else c) ∧ 1 ≤ (if c.rank = 0 then brk c else c).rank := by
    split
    · exact ⟨good_brk hc, by show (1 : Int) ≤ 7; omega⟩
    · exact ⟨hc.mono (by omega), by have := hc.lo; omega⟩
  unfold choice
  dsimp only
  generalize (if c.rank = 0 then brk c else c) = C at hC
  obtain ⟨gC, rC⟩ := hC
  refine ⟨Int.le_refl _, by show (0 : Int) ≤ 7; omega, fun d hd => ?_, fun h => absurd rfl h, fun h => by cases h⟩
  obtain ⟨d', rfl⟩ : ∃ d', d = d' + 1 := ⟨d - 1, by omega⟩
  intro prio t rest hp hs
  dsimp only at hp ⊢
  have hp0 : prio ≤ 0 := by omega
  have hq : binRank (S "?") = none := by decide
  have hcn : binRank (S ":") = none := by decide
  obtain ⟨m, res1, nt1, rest2, hm, h1, h2⟩ := gC.lead (by omega) d' (by omega) prio (S "?") (y.toks ++ S ":" :: (n.toks ++ t :: rest)) (by omega) (fun i hi => by rw [hq] at hi; cases hi)
  have e : C.toks ++ [S "?"] ++ y.toks ++ [S ":"] ++ n.toks ++ t :: rest = C.toks ++ S "?" :: (y.toks ++ S ":" :: (n.toks ++ t :: rest)) := by simp
  rw [e]
  have hlen : (C.toks ++ S "?" :: (y.toks ++ S ":" :: (n.toks ++ t :: rest))).length = m + (C.toks.length - m + 1 + (y.toks ++ S ":" :: (n.toks ++ t :: rest)).length) := by
    simp only [List.length_append, List.length_cons]; omega
  rw [parse_start h1 (res3 := C.text) (nt3 := S "?") (j := jOf C) (rest3 := y.toks ++ S ":" :: (n.toks ++ t :: rest)) (by rw [hlen, h2, loop_stop (fun i hi => by rw [hq] at hi; cases hi)])]
  dsimp only
  have hst : Stopper (-1) t := ⟨fun i hi => (by have a := hs.1 i hi; have b := binRank_range hi; omega), (by rcases hs.2 with a | a; exact Or.inl a; omega)⟩
  rw [if_pos ⟨by decide, hp0⟩, hy.parse d' (by omega) 0 (S ":") _ (Or.inl (Int.le_refl _)) ⟨fun i hi => (by rw [hcn] at hi; cases hi), Or.inl (by decide)⟩]
  dsimp only
  rw [if_pos (by decide), hn.parse d' (by omega) (-1) t rest (Or.inl (by decide)) hst]
  dsimp only
  have e4 : (if jOf C = prio ∧ prio = 4 then S "(" ++ C.text ++ S ")" else C.text) = C.text := if_neg (by omega)
  have e5 : textAt (-1) n = n.text := if_neg (by omega)
  have e6 : textAt 0 y = (if y.rank = 0 then S "(" ++ y.text ++ S ")" else y.text) := by
    unfold textAt
    by_cases a : y.rank = 0
    · rw [if_pos (Or.inr ⟨rfl, a⟩), if_pos a]
    · rw [if_neg (by omega), if_neg a]
  rw [e4, e5, e6]
  generalize (if y.rank = 0 then S "(" ++ y.text ++ S ")" else y.text) = Y
  unfold textAt
  dsimp only
  by_cases a : prio = 0
  · rw [if_pos a, if_pos (Or.inr ⟨a, rfl⟩)]
  · rw [if_neg a, if_neg (by omega)]
def AllGood (k : Nat) (hp : List Part) : Prop := ∀ p ∈ hp, Good k p
theorem AllGood.mono {k k' : Nat} {hp : List Part} (h : AllGood k hp) (hk : k ≤ k') : AllGood k' hp := fun p hq => (h p hq).mono hk
theorem AllGood.tail {k : Nat} {hp : List Part} (h : AllGood k hp) : AllGood k hp.tail := fun p hq => h p (List.mem_of_mem_tail hq)
theorem AllGood.last {k : Nat} {hp : List Part} (hk : 1 ≤ k) (h : AllGood k hp) (x : Int) : Good k (lastOf hp x) := by
  cases hp with
  | nil => exact (good_leaf x).mono hk
  | cons p r => exact h p (.head _)
theorem AllGood.cons {k : Nat} {p : Part} {hp : List Part} (h1 : Good k p) (h : AllGood k hp) : AllGood k (p :: hp) := fun q hq => by
  rcases List.mem_cons.mp hq with e | hq
  · subst e; exact h1
  · exact h q hq
theorem opAt_mem {k : Nat} (h : k < 13) : opAt k ∈ opsL := by
  have : ∀ k : Fin 13, opAt k.val ∈ opsL := by decide
  exact this ⟨k, h⟩
theorem good_step {k : Nat} {hp : List Part} (hk : 1 ≤ k) (h : AllGood k hp) (x : Int) : AllGood (k + 2) (step hp x) := by
  have hr := fmod_range x (k := 24) (by decide)
  have m2 : ∀ {l : List Part}, AllGood k l → AllGood (k + 2) l := fun hl => hl.mono (by omega)
  unfold step
  split
  · exact .cons ((good_leaf _).mono (by omega)) (m2 h)
  split
  · exact .cons (good_pair hk (opAt_mem (by omega)) (h.tail.last hk _) (h.last hk _)) (m2 h.tail.tail)
  split
  · exact .cons (good_choice hk (h.tail.tail.last hk _) (h.tail.last hk _) (h.last hk _)) (m2 h.tail.tail.tail)
  split
  · exact .cons ((good_neg hk (h.last hk _)).mono (by omega)) (m2 h.tail)
  · exact .cons ((good_brk (h.last hk _)).mono (by omega)) (m2 h.tail)
theorem good_fold : ∀ (l : List Int) {k : Nat} {hp : List Part}, 1 ≤ k → AllGood k hp → AllGood (k + 2 * l.length) (l.foldl step hp)
  | [], _, _, _, h => h
  | x :: l, k, hp, hk, h => by
    have := good_fold l (by omega) (good_step hk h x)
    rw [List.foldl_cons, List.length_cons]
    exact this.mono (by omega)
theorem good_join : ∀ (f : Nat) {k : Nat} {hp : List Part}, 1 ≤ k → AllGood k hp → AllGood (k + 2 * f) (joinN f hp)
  | 0, _, _, _, h => h
  | f + 1, _, [], _, h => fun _ hq => nomatch hq
  | f + 1, _, [a], _, h => by
    unfold joinN
    exact h.mono (by omega)
  | f + 1, k, a :: b :: r, hk, h => by
    unfold joinN
    have h1 : AllGood (k + 2) (pair (opAt (r.length % 13)) b a :: r) :=
      .cons (good_pair hk (opAt_mem (Nat.mod_lt _ (by decide))) (h b (.tail _ (.head _))) (h a (.head _))) (AllGood.mono (fun q hq => h q (.tail _ (.tail _ hq))) (by omega))
    exact (good_join f (by omega) h1).mono (by omega)
theorem tail_stop : ∀ t ∈ tailsL, Stopper (-1) t := by
  have h : ∀ t ∈ tailsL, binRank t = none ∧ t ≠ S "?" := by decide
  exact fun t ht => ⟨fun i hi => (by rw [(h t ht).1] at hi; cases hi), Or.inl (h t ht).2⟩
theorem tail_mem (z : Int) : tailsL.getD (z.fmod 7).toNat (S "") ∈ tailsL := by
  have hr := fmod_range z (k := 7) (by decide)
  have : ∀ k : Fin 7, tailsL.getD k.val (S "") ∈ tailsL := by decide
  exact this ⟨(z.fmod 7).toNat, by omega⟩
/-- the plain law: the formula's tokens, a token that can't go on and any others behind -/
theorem plain_law {ns : List Int} (hn : ns.length ≤ 63) {t : PySem.Str} (ht : t ∈ tailsL) (R : List PySem.Str) :
    parseP 260 ((lastOf (joinN (hpOf ns).length (hpOf ns)) 0).toks ++ [t] ++ R) (-1) = some ((lastOf (joinN (hpOf ns).length (hpOf ns)) 0).text, t, R) := by
  have h1 : AllGood (1 + 2 * ns.length) (hpOf ns) := good_fold ns (by omega) (fun _ h => nomatch h)
  have h2 := good_join (hpOf ns).length (by omega) h1
  have h3 := h2.last (by omega) 0
  have h4 := (hp_ok ns).2.2
  generalize lastOf (joinN (hpOf ns).length (hpOf ns)) 0 = P at h3
  have h5 := h3.parse 260 (by omega) (-1) t R (Or.inl (by decide)) (tail_stop t ht)
  rw [List.append_assoc]
  rw [show textAt (-1) P = P.text from if_neg (by omega)] at h5
  exact h5
theorem join_wt : ∀ (f : Nat) (hp : List Part), Oks hp → wsum (joinN f hp) ≤ wsum hp + 66 * hp.length
  | 0, hp, _ => by unfold joinN; omega
  | f + 1, [], _ => by simp [joinN, wsum]
  | f + 1, [a], _ => by unfold joinN; omega
  | f + 1, a :: b :: r, h => by
    unfold joinN
    have hpw := pair_wt (op := opAt (r.length % 13)) (opAt_len _) (h b (.tail _ (.head _))) (h a (.head _))
    have := join_wt f (pair (opAt (r.length % 13)) b a :: r) (oks_cons hpw.2 (fun q hq => h q (.tail _ (.tail _ hq))))
    simp only [wsum, List.length_cons] at this ⊢
    omega
theorem rest_wt : ∀ ns : List Int, wt (ns.map fun x => S (toString (x.fmod 1000))) ≤ 15 * ns.length
  | [] => by simp [wt]
  | x :: r => by
    have h := fmod_range x (k := 1000) (by decide)
    have h1 := num_len h.1 h.2
    have := rest_wt r
    simp only [List.map_cons, wt, List.length_cons]
    omega
theorem plain_wt {ns : List Int} (hn : ns.length ≤ 63) {t : PySem.Str} (ht : t ∈ tailsL) :
    wt ((lastOf (joinN (hpOf ns).length (hpOf ns)) 0).toks ++ [t] ++ ns.map fun x => S (toString (x.fmod 1000))) ≤ 90000 := by
  obtain ⟨h1, h2, h3⟩ := hp_ok ns
  have h4 := join_wt (hpOf ns).length (hpOf ns) h1
  have h5 := last_wt (joinN (hpOf ns).length (hpOf ns)) 0
  have h6 := rest_wt ns
  have h7 : t.length ≤ 1 := (by decide : ∀ t ∈ tailsL, t.length ≤ 1) t ht
  simp only [wt_append, wt]
  omega
end
end
section
local macro_rules | `(tactic| walk_at "newList") => `(tactic| (k_here; k_dflt (refine' newList_K ?k1 ?k2 ?_; (case k1 => k_asm); (case k2 => k_asm); k_whole); intro l' h' F' N' l1; (try dsimp only at F' N'); (try k_sweep)))
local macro_rules | `(tactic| walk_at "Mine.lpart") => `(tactic| (first | exact Mine.part_offs (by assumption) | exact Mine.PartAt.mono (Mine.part_offs (by assumption)) (fun q9 hq9 => by repeat (first | exact hq9 | apply List.Mem.tail))))
local macro_rules | `(tactic| walk_at "call ref") => `(tactic| (k_here; (with_reducible show wpAny _ _ (call (Value.ref 92) _) _ _ _); k_dflt (refine' Mine.use_does ?k1 ?k2 ?k3 ?k4 ?k5 ?k6 (Mine.leaf_ok _ _ _ _) ?kd ?ku ?_; (case k1 => k_asm); (case k2 => k_asm); (case k3 => k_asm); (case k4 => k_asm); (case k5 => k_asm); (case k6 => exact rfl); (case kd => exact Nat.le_of_ble_eq_true rfl); (case ku => exact Nat.le_of_ble_eq_true rfl)); intro r9 n9 h' tk' F' N' o9; (try k_sweep); (try dsimp only)))
local macro_rules | `(tactic| walk_at "call ref") => `(tactic| (k_here; (with_reducible show wpAny _ _ (call (Value.ref 99) _) _ _ _); k_dflt (refine' Mine.use_does ?k1 ?k2 ?k3 ?k4 ?k5 ?k6 (Mine.brk_made _ _ _ _ ?kp ?kf) ?kd ?ku ?_; (case k1 => k_asm); (case k2 => k_asm); (case k3 => k_asm); (case k4 => k_asm); (case k5 => k_asm); (case k6 => exact rfl); (case kp => walk_at "Mine.lpart"); (case kf => assumption); (case kd => exact Nat.le_of_ble_eq_true rfl); (case ku => exact Nat.le_of_ble_eq_true rfl)); intro r9 n9 h' tk' F' N' o9; (try k_sweep); (try dsimp only)))
local macro_rules | `(tactic| walk_at "call ref") => `(tactic| (k_here; (with_reducible show wpAny _ _ (call (Value.ref 106) _) _ _ _); k_dflt (refine' Mine.use_does ?k1 ?k2 ?k3 ?k4 ?k5 ?k6 (Mine.pair_ok _ _ _ _ _ _ _ _ ?kp ?kq ?kf ?kg ?ko) ?kd ?ku ?_; (case k1 => k_asm); (case k2 => k_asm); (case k3 => k_asm); (case k4 => k_asm); (case k5 => k_asm); (case k6 => exact rfl); (case kp => walk_at "Mine.lpart"); (case kq => walk_at "Mine.lpart"); (case kf => assumption); (case kg => assumption); (case ko => exact Mine.opAt_len _); (case kd => exact Nat.le_of_ble_eq_true rfl); (case ku => exact Nat.le_of_ble_eq_true rfl)); intro r9 n9 h' tk' F' N' o9; (try k_sweep); (try dsimp only)))
local macro_rules | `(tactic| walk_at "call ref") => `(tactic| (k_here; (with_reducible show wpAny _ _ (call (Value.ref 113) _) _ _ _); k_dflt (refine' Mine.use_does ?k1 ?k2 ?k3 ?k4 ?k5 ?k6 (Mine.choice_ok _ _ _ _ _ _ _ _ ?kp ?kq ?kr ?kf ?kg ?kh) ?kd ?ku ?_; (case k1 => k_asm); (case k2 => k_asm); (case k3 => k_asm); (case k4 => k_asm); (case k5 => k_asm); (case k6 => exact rfl); (case kp => walk_at "Mine.lpart"); (case kq => walk_at "Mine.lpart"); (case kr => walk_at "Mine.lpart"); (case kf => assumption); (case kg => assumption); (case kh => assumption); (case kd => exact Nat.le_of_ble_eq_true rfl); (case ku => exact Nat.le_of_ble_eq_true rfl)); intro r9 n9 h' tk' F' N' o9; (try k_sweep); (try dsimp only)))
local macro_rules | `(tactic| walk_at "getMethod ref") => `(tactic| (k_here; k_dflt (first | (refine' Mine.r_meth ?N ?m PySem.F.slot_list_append PySem.F.type_list_append ?_; (case N => k_asm); (case m => k_mem)) | (refine' Mine.r_meth ?N ?m PySem.F.slot_list_pop PySem.F.type_list_pop ?_; (case N => k_asm); (case m => k_mem)))))
local macro_rules | `(tactic| walk_at "call builtin:list.append") => `(tactic| (k_here; k_dflt (refine' Mine.r_append ?F ?N ?m ?z ?_; (case F => k_asm); (case N => k_asm); (case m => k_mem); (case z => (have hSz9 := sizeLine_eq; omega))); intro h' F' N'; (try k_sweep)))
local macro_rules | `(tactic| walk_at "call builtin:list.pop") => `(tactic| (k_here; k_dflt (refine' Mine.r_pop ?F ?N ?m ?z ?_; (case F => k_asm); (case N => k_asm); (case m => k_mem); (case z => (have hSz9 := sizeLine_eq; simp only [List.length_append, List.length_cons, List.length_nil] at *; omega))); intro h' F' N'; (try k_sweep)))
local macro_rules | `(tactic| walk_at "compareOp NotEq ref ref") => `(tactic| (k_here; k_dflt (first | (refine' Mine.r_neN ?N ?m ?m2 ?hu ?_; (case N => k_asm); (case m => k_mem); (case m2 => exact .head _); (case hu => exact Nat.le_of_ble_eq_true rfl)) | (refine' Mine.r_neY ?N ?m ?m2 ?hv ?hu ?_; (case N => k_asm); (case m => k_mem); (case m2 => exact .head _); (case hv => simp); (case hu => exact Nat.le_of_ble_eq_true rfl))); (try dsimp only)))
local macro_rules | `(tactic| walk_at "subscriptTail Name BinOp ref int") => `(tactic| (k_here; k_dflt (refine' Mine.r_ops ?N ?m ?ho ?h0 ?h1 ?_ ?hs; (case N => k_asm); (case m => k_mem); (case ho => assumption); (case h0 => omega); (case h1 => omega); (case hs => with_unfolding_all rfl)); intro t9; (try dsimp only)))
local macro_rules | `(tactic| k_mem) => `(tactic| (refine Mine.Made.mem (by assumption) _ ?_; k_mem))
local macro_rules | `(tactic| k_mem) => `(tactic| assumption)
local macro_rules | `(tactic| walk_at "binaryOp Add ref ref") => `(tactic| (k_here; (with_reducible show wpAny _ _ (binaryOp _ (Value.ref _) (Value.ref _)) _ _ _); k_dflt (refine' r_addL ?F ?N ?ha ?hb ?_ ?hz; (case F => k_asm); (case N => k_asm); (case ha => k_mem); (case hb => k_mem); (case hz => walk_at "Mine.size"); k_whole); intro D' h' F' N' l1; (try k_sweep)))
local macro_rules | `(tactic| walk_at "newTuple") => `(tactic| (k_here; k_dflt (refine' kup_newTuple ?F ?N ?_ ?z; (case F => k_asm); (case N => k_asm); (case z => kmk_size)); intro D' h' F' N' l1; (try dsimp only at F' N'); (try k_sweep)))
local macro_rules | `(tactic| walk_at "call builtin:len") => `(tactic| (k_here; k_dflt (refine' Mine.r_len ?N ?m ?z ?_; (case N => k_asm); (case m => k_mem); (case z => (simp only [List.length_append, List.length_cons, List.length_nil] at *; omega))); (try dsimp only)))
local macro_rules | `(tactic| walk_at "WhlIf") => `(tactic| (first | refine WhlIf.yes (by assumption) ?_ | refine WhlIf.no (by assumption) ?_))
local macro_rules | `(tactic| walk_at "subscriptTail Name Constant ref int") => `(tactic| (k_here; (with_reducible show wpAny _ _ (subscriptTail _ _ (Value.ref _) (Value.int _ _)) _ _ _); k_dflt (first | (refine' r_item ?N ?hm ?hj ?hx ?_ ?hlo ?hhi ?hs; (case N => k_asm); (case hm => k_mem); (case hj => rfl); (case hx => rfl); (case hlo => decide); (case hhi => decide); (case hs => with_unfolding_all rfl); k_whole) | (refine' Mine.r_item0 ?N ?hm ?_ ?hs; (case N => k_asm); (case hm => k_mem); (case hs => with_unfolding_all rfl)))))
local macro_rules | `(tactic| walk_at "subscriptTail List BinOp ref int") => `(tactic| (k_here; k_dflt (refine' Mine.r_tails ?N ?m ?ho ?h0 ?h1 ?_ ?hs; (case N => k_asm); (case m => exact .head _); (case ho => (repeat (first | exact .nil | refine .cons _ _ ?_))); (case h0 => omega); (case h1 => omega); (case hs => with_unfolding_all rfl)); intro t9; (try dsimp only)))
local macro_rules | `(tactic| walk_at "call builtin:sum") => `(tactic| (k_here; k_dflt (refine' Mine.r_sum ?hh ?F ?N ?hl ?hi ?_; (case hh => rfl); (case F => k_asm); (case N => k_asm); (case hl => assumption); (case hi => assumption)); intro z9 h' tk' t' hz9 F' N'; (have hr9 := Mine.fmod_range z9 (k := 7) (by decide)); (try k_sweep); (try dsimp only)))
local macro_rules | `(tactic| walk_at "call builtin:iter") => `(tactic| (k_here; k_dflt (refine' Mine.r_iter ?F ?N ?m ?_; (case F => k_asm); (case N => k_asm); (case m => k_mem)); intro I' h' o' F' N' l1 hI9; (try k_sweep)))
local macro_rules | `(tactic| walk_at "call ref") => `(tactic| (k_here; (with_reducible show wpAny _ _ (call (Value.ref 85) _) _ _ _); k_dflt (refine' Mine.use_does ?k1 ?k2 ?k3 ?k4 ?k5 ?k6 ?kz ?kd ?ku ?_; (case kz => assumption); (case k1 => k_asm); (case k2 => k_asm); (case k3 => k_asm); (case k4 => k_asm); (case k5 => k_asm); (case k6 => exact rfl); (case kd => exact Nat.le_of_ble_eq_true rfl); (case ku => exact Nat.le_of_ble_eq_true rfl)); intro r9 n9 h' tk' F' N' o9; obtain ⟨a9, o8, i9, t9, u9, n8, e9, e8, hI', hS', l9⟩ := o9; subst e9; subst e8; (try k_sweep); (try dsimp only)))
local macro_rules | `(tactic| walk_at "call type:list") => `(tactic| (k_here; k_dflt (refine' Mine.r_listIter ?hh ?F ?N ?hit ?hl ?hne ?hI ?hz ?_; (case hh => rfl); (case F => k_asm); (case N => k_asm); (case hI => assumption); (case hit => k_mem); (case hl => k_mem); (case hne => assumption); (case hz => (have hSz9 := sizeLine_eq; omega))); intro D' h' tk' c' F' N' l1; (try k_sweep); (try dsimp only)))
local macro_rules | `(tactic| walk_at "compareOp Eq ref ref") => `(tactic| (k_here; k_dflt (first | (refine' Mine.r_eqT ?N ?m ?m2 ?hu ?_; (case N => k_asm); (case m2 => exact .head _); (case m => k_mem); (case hu => exact Nat.le_of_ble_eq_true rfl)) | (refine' Mine.r_eqL ?N ?m ?m2 ?hx ?hy ?hu ?_; (case N => k_asm); (case m => exact .head _); (case m2 => exact .tail _ (List.mem_filter.mpr ⟨by k_mem, by assumption⟩)); (case hx => assumption); (case hy => assumption); (case hu => exact Nat.le_of_ble_eq_true rfl)))))
theorem news_gen {h₀ h : Heap} {L lO : Addr} {vs : List Value} (N : News h₀ L h [(lO, listOf vs.toArray 0)]) (hv : StrsAre vs opsL) : ∃ ovs, StrsAre ovs opsL ∧ News h₀ L h [(lO, listOf ovs.toArray 0)] := ⟨vs, hv, N⟩
theorem law_ok : PySem.Challenge.rw_dp0029_01.Holds := hd rfl rfl rfl (by
  delta loose0 hook0 row0
  k_go0
  rename_i w s₀ s₁ mg mb G Y fa o pm doc kV ho hg KX X V GL T BT TE TW wa wo BM wc wd hcd ns hs hlay0 hLl hr1 hl2 wl4 wl3 lS items wl hL ra w1 r0 hI hr hcond1 hcond2 K0 hD h₁ F N0
  clear hD hcd
  have hlen : ns.length ≤ 63 := by omega
  iterate 30 walk1
  refine newList_K F N0 (fun lO h2 F2 N2 hlO => ?_) (Nat.le_of_ble_eq_true rfl)
  obtain ⟨ovs, hovs, N2'⟩ := news_gen N2 (by repeat (first | exact .nil | refine .cons _ _ ?_))
  clear N2
  refine storeX_L F2 N2' (fun h3 F3 N3 => ?_)
  clear F2 N2' F N0
  dsimp only at F3 N3 ⊢
  iterate 4 walk1
  refine newList_K F3 N3 (fun lH h4 F4 N4 hlH => ?_) (Nat.le_of_ble_eq_true rfl)
  refine storeX_L F4 N4 (fun h5 F5 N5 => ?_)
  clear F4 N4 F3 N3
  dsimp only at F5 N5 ⊢
  have hne : lO ≠ lH := neOfLt (hlH _ (.head _))
  refine cutS (fun s' => ∃ h' tk' m' nx vs k D oD, s' = { s₁ with heap := h', toks := tk' } ∧ Fr s₁.heap s₁.heap.objs.size h' m' ∧ News s₁.heap s₁.heap.objs.size h' nx ∧ LawInv lH lO lS D (listOf ovs.toArray 0) oD m' nx vs k (hpOf ns)) ?_ ?_
  · (with_unfolding_all refine' For_invVF F5 ?k1 ?k2 ?_; (case k1 => exact rfl); (case k2 => exact rfl))
    iterate 8 walk1
    rename_i D ws h6 F6 N6 hI6 hC6 hL6 hl6
    rw [List.take_of_length_le hlen] at hI6
    have hwl : ws.length = ns.length := hI6.length
    refine' kdl_iter (l := D) (vs := ws) (nn := 0) (fun i m nx => ∃ vs k, LawInv lH lO lS D (listOf ovs.toArray 0) (listOf ws.toArray 0) m nx vs k (hpOf (ns.take i))) ?hh ?hl ?F ?N ?hj ?turn ?done
    case hh => rfl
    case F => exact F6
    case N => exact N6
    case hl => exact .head _
    case hj =>
      refine ⟨[], 0, ⟨rfl, rfl, rfl, trivial⟩, .tail _ (.head _), mem_offs.mpr ⟨.tail _ (.tail _ (.head _)), by simpa using hne⟩, mem_offs.mpr ⟨.head _, fun h => absurd (List.mem_singleton.mp h) (Ne.symm (neOfLt (ltA hl6.1)))⟩, .nil⟩
    case turn =>
      rintro i v m₁ nx h tk own hv hoff hDm ⟨vs, k, I⟩ F1 N1
      obtain ⟨hil, _⟩ := List.getElem?_eq_some_iff.mp hv
      have hin : i < ns.length := by omega
      obtain ⟨t, hx⟩ := hI6.get i (ns[i]'hin) (List.getElem?_eq_getElem hin)
      have ev : v = .int (ns[i]'hin) t := by rw [hx] at hv; exact (Option.some.inj hv).symm
      subst ev
      have hstep : hpOf (ns.take (i + 1)) = step (hpOf (ns.take i)) (ns[i]'hin) := by
        unfold hpOf; rw [List.take_add_one, List.getElem?_eq_getElem hin, List.foldl_append]; rfl
      have hok := hp_ok (ns.take i)
      have hle : (ns.take i).length ≤ 63 := by rw [List.length_take]; omega
      rw [hstep]
      generalize ns[i]'hin = x at F1
      generalize hpOf (ns.take i) = hp at I hok
      have st := inv_start I hoff
      have FF : Fr s₁.heap s₁.heap.objs.size h (lmap [(S "x", .int x t), (S "heap", .ref lH), (S "ops", .ref lO), (S "script", .ref lS)] _) := Fr.lm F1 [(S "x", .int x t), (S "heap", .ref lH), (S "ops", .ref lO), (S "script", .ref lS)] ⟨rfl, I.mm.1, I.mm.2.1, I.mm.2.2.1, trivial⟩
      have NN : News s₁.heap s₁.heap.objs.size h (nx ++ own) := N1
      clear F1 N1 F6 N6 I hx hv hstep
      generalize hn : nx ++ own = n at NN st
      generalize hm9 : (fun y => if y = PySem.Str.ofString "x" then some (Value.int x t) else m₁ y) = u at FF
      clear hm9 hn
      refine cutS (fun s' => ∃ h' tk' tp tr u', s' = { s₁ with heap := h', toks := tk' } ∧ Fr s₁.heap s₁.heap.objs.size h' (lmap [(S "pick", .int (x.fmod 24) tp), (S "rest", .int (x.fdiv 24) tr), (S "heap", .ref lH), (S "ops", .ref lO), (S "script", .ref lS)] u') ∧ News s₁.heap s₁.heap.objs.size h' n) ?_ ?_
      · k_steps
        all_goals (
          (rename News s₁.heap s₁.heap.objs.size _ _ => kN)
          (rename Fr s₁.heap s₁.heap.objs.size _ _ => kF)
          (try dsimp only at kN kF)
          exact ⟨by first | rfl | trivial, _, _, _, _, _, rfl, Fr.lm kF [(S "pick", .int (x.fmod 24) _), (S "rest", .int (x.fdiv 24) _), (S "heap", .ref lH), (S "ops", .ref lO), (S "script", .ref lS)] ⟨rfl, rfl, rfl, rfl, rfl, trivial⟩, News.drop1 kN⟩)
      rintro s' ⟨h7, tk7, tp, tr, u7, rfl, F7, N7⟩
      clear FF NN
      have hpk := fmod_range x (k := 24) (by decide)
      unfold step
      generalize x.fmod 24 = pk at F7 hpk ⊢
      generalize x.fdiv 24 = rs at F7 ⊢
      have hf1 : Fits (lastOf hp rs) := fits_last hok.1 (by omega)
      have hf2 : Fits (lastOf hp.tail (rs + 1)) := fits_last (oks_tail hok.1) (by have := wsum_tail hp; omega)
      have hf3 : Fits (lastOf hp.tail.tail (rs + 2)) := fits_last (oks_tail (oks_tail hok.1)) (by have := wsum_tail hp; have := wsum_tail hp.tail; omega)
      have hhl : hp.length ≤ 63 := by omega
      clear hok
      have hHm := st.hHm
      have hll := st.hP.length
      by_cases hp7 : pk < 7
      · rw [if_pos hp7]
        k_steps
        all_goals (
          (rename News s₁.heap s₁.heap.objs.size _ _ => kN)
          (rename Fr s₁.heap s₁.heap.objs.size _ _ => kF)
          (try dsimp only at kN kF)
          (rename Made _ _ _ _ => hM)
          have hst := st.made (fun q hq => hq) hM
          exact inv_end (lS := lS) kF kN (hst.1.upd (.snoc hst.1.hP hst.2)) ⟨rfl, rfl, rfl, trivial⟩ (fun nx J => ⟨(mem_offs.mp J.hD).1, _, _, J⟩))

      rw [if_neg hp7]
      refine cutS (fun s' => ∃ tk', s' = { s₁ with heap := h7, toks := tk' }) ?_ ?_
      · k_steps
        all_goals exact ⟨by first | rfl | trivial, _, rfl⟩
      rintro s' ⟨tk8, rfl⟩
      clear hHm hll
      refine cutS (fun s' => ∃ h' tk' u n' vs' k' v, s' = { s₁ with heap := h', toks := tk' } ∧ Fr s₁.heap s₁.heap.objs.size h' (lmap [(S "last", v), (S "pick", .int pk tp), (S "rest", .int rs tr), (S "heap", .ref lH), (S "ops", .ref lO), (S "script", .ref lS)] u) ∧ News s₁.heap s₁.heap.objs.size h' n' ∧ TurnSt (lH :: own.map (·.1)) own lH lO D (listOf ovs.toArray 0) (listOf ws.toArray 0) n' vs' k' hp.tail ∧ PartAt (offs (lH :: own.map (·.1)) n') v (lastOf hp (rs))) ?_ ?_
      · cases hp with
        | nil =>
          have e0 : vs = [] := by have := st.hP; cases this; rfl
          subst e0
          have hHm := st.hHm
          k_steps
          all_goals (
            (rename News s₁.heap s₁.heap.objs.size _ _ => kN)
            (rename Fr s₁.heap s₁.heap.objs.size _ _ => kF)
            (try dsimp only at kN kF)
            (rename Made _ _ _ _ => hM)
            have hst := st.made (fun q hq => .tail _ hq) hM
            exact ⟨by first | rfl | trivial, _, _, _, _, _, _, _, rfl, Fr.lm kF [(S "last", _), (S "pick", .int pk tp), (S "rest", .int rs tr), (S "heap", .ref lH), (S "ops", .ref lO), (S "script", .ref lS)] ⟨rfl, rfl, rfl, rfl, rfl, rfl, trivial⟩, kN, hst.1, hst.2⟩)
        | cons p0 r0 =>
          obtain ⟨vs0, v0, e0, hP0, hp0⟩ : ∃ vs0 v0, vs = vs0 ++ [v0] ∧ PartsAt (offs (lH :: own.map (·.1)) n) vs0 r0 ∧ PartAt (offs (lH :: own.map (·.1)) n) v0 p0 := by
            have := st.hP
            cases this with
            | snoc a b => exact ⟨_, _, rfl, a, b⟩
          subst e0
          have hHm := st.hHm
          have hll := st.hP.length
          k_steps
          all_goals (
            (rename News s₁.heap s₁.heap.objs.size _ _ => kN)
            (rename Fr s₁.heap s₁.heap.objs.size _ _ => kF)
            (try dsimp only at kN kF)
            exact ⟨by first | rfl | trivial, _, _, _, _, _, _, _, rfl, Fr.lm kF [(S "last", _), (S "pick", .int pk tp), (S "rest", .int rs tr), (S "heap", .ref lH), (S "ops", .ref lO), (S "script", .ref lS)] ⟨rfl, rfl, rfl, rfl, rfl, rfl, trivial⟩, kN, (st.mono (fun q hq => .tail _ hq)).upd (hP0.mono offs_tail), part_upd st.hA (hp0.mono offs_tail)⟩)

      rintro s' ⟨h8, tk9, u8, n8, vs8, k8, vl, rfl, F8, N8, st8, hvl⟩
      clear F7 N7 st
      have hl8 : hp.tail.length ≤ 63 := by rw [List.length_tail]; omega
      generalize hp.tail = hp1 at *
      generalize lastOf hp rs = pl at *
      generalize hvs : vs8 = vs at *
      rename TurnSt _ _ _ _ _ _ _ n8 _ _ _ => st
      have hHm := st.hHm
      have hll := st.hP.length
      have hOm := (mem_offs.mp st.hO).1
      by_cases hp20 : pk < 20
      · rw [if_pos hp20]
        iterate 8 walk1
        refine cutS (fun s' => ∃ h' tk' u n' vs' k' v, s' = { s₁ with heap := h', toks := tk' } ∧ Fr s₁.heap s₁.heap.objs.size h' (lmap [(S "first", v), (S "last", vl), (S "pick", .int pk tp), (S "rest", .int rs tr), (S "heap", .ref lH), (S "ops", .ref lO), (S "script", .ref lS)] u) ∧ News s₁.heap s₁.heap.objs.size h' n' ∧ TurnSt (lH :: own.map (·.1)) own lH lO D (listOf ovs.toArray 0) (listOf ws.toArray 0) n' vs' k' hp1.tail ∧ PartAt (offs (lH :: own.map (·.1)) n') v (lastOf hp1 (rs + 1)) ∧ PartAt (offs (lH :: own.map (·.1)) n') vl pl) ?_ ?_
        · cases hp1 with
          | nil =>
            have e0 : vs = [] := by have := st.hP; cases this; rfl
            subst e0
            have hHm := st.hHm
            k_steps
            all_goals (
              (rename News s₁.heap s₁.heap.objs.size _ _ => kN)
              (rename Fr s₁.heap s₁.heap.objs.size _ _ => kF)
              (try dsimp only at kN kF)
              (rename Made _ _ _ _ => hM)
              have hst := st.made (fun q hq => .tail _ hq) hM
              exact ⟨by first | rfl | trivial, _, _, _, _, _, _, _, rfl, Fr.lm kF [(S "first", _), (S "last", vl), (S "pick", .int pk tp), (S "rest", .int rs tr), (S "heap", .ref lH), (S "ops", .ref lO), (S "script", .ref lS)] ⟨rfl, rfl, rfl, rfl, rfl, rfl, rfl, trivial⟩, kN, hst.1, hst.2, part_mono (fun q hq => hM.mem q (.tail _ hq)) hvl⟩)
          | cons p0 r0 =>
            obtain ⟨vs0, v0, e0, hP0, hp0⟩ : ∃ vs0 v0, vs = vs0 ++ [v0] ∧ PartsAt (offs (lH :: own.map (·.1)) n8) vs0 r0 ∧ PartAt (offs (lH :: own.map (·.1)) n8) v0 p0 := by
              have := st.hP
              cases this with
              | snoc a b => exact ⟨_, _, rfl, a, b⟩
            subst e0
            have hHm := st.hHm
            have hll := st.hP.length
            k_steps
            all_goals (
              (rename News s₁.heap s₁.heap.objs.size _ _ => kN)
              (rename Fr s₁.heap s₁.heap.objs.size _ _ => kF)
              (try dsimp only at kN kF)
              exact ⟨by first | rfl | trivial, _, _, _, _, _, _, _, rfl, Fr.lm kF [(S "first", _), (S "last", vl), (S "pick", .int pk tp), (S "rest", .int rs tr), (S "heap", .ref lH), (S "ops", .ref lO), (S "script", .ref lS)] ⟨rfl, rfl, rfl, rfl, rfl, rfl, rfl, trivial⟩, kN, (st.mono (fun q hq => .tail _ hq)).upd (hP0.mono offs_tail), part_upd st.hA (hp0.mono offs_tail), part_upd st.hA (hvl.mono offs_tail)⟩)

        rintro s' ⟨h9, tk10, u9, n9, vs9, k9, vf, rfl, F9, N9, st9, hvf, hvl9⟩
        clear F8 N8 st hHm hll hvl hOm
        have hl9 : hp1.tail.length ≤ 63 := by rw [List.length_tail]; omega
        generalize hp1.tail = hp2 at *
        generalize lastOf hp1 (rs + 1) = pf at *
        rename TurnSt _ _ _ _ _ _ _ n9 _ _ _ => st
        have hHm := st.hHm
        have hll := st.hP.length
        have hOm := (mem_offs.mp st.hO).1
        k_steps
        all_goals (
          (rename News s₁.heap s₁.heap.objs.size _ _ => kN)
          (rename Fr s₁.heap s₁.heap.objs.size _ _ => kF)
          (try dsimp only at kN kF)
          (rename Made _ _ _ _ => hM)
          have hst := st.made (fun q hq => hq) hM
          exact inv_end (lS := lS) kF kN (hst.1.upd (.snoc hst.1.hP hst.2)) ⟨rfl, rfl, rfl, trivial⟩ (fun nx J => ⟨(mem_offs.mp J.hD).1, _, _, J⟩))

      rw [if_neg hp20]
      by_cases hp22 : pk < 22
      · rw [if_pos hp22]
        iterate 8 walk1
        iterate 8 walk1
        refine cutS (fun s' => ∃ h' tk' u n' vs' k' v, s' = { s₁ with heap := h', toks := tk' } ∧ Fr s₁.heap s₁.heap.objs.size h' (lmap [(S "yes", v), (S "last", vl), (S "pick", .int pk tp), (S "rest", .int rs tr), (S "heap", .ref lH), (S "ops", .ref lO), (S "script", .ref lS)] u) ∧ News s₁.heap s₁.heap.objs.size h' n' ∧ TurnSt (lH :: own.map (·.1)) own lH lO D (listOf ovs.toArray 0) (listOf ws.toArray 0) n' vs' k' hp1.tail ∧ PartAt (offs (lH :: own.map (·.1)) n') v (lastOf hp1 (rs + 1)) ∧ PartAt (offs (lH :: own.map (·.1)) n') vl pl) ?_ ?_
        · cases hp1 with
          | nil =>
            have e0 : vs = [] := by have := st.hP; cases this; rfl
            subst e0
            have hHm := st.hHm
            k_steps
            all_goals (
              (rename News s₁.heap s₁.heap.objs.size _ _ => kN)
              (rename Fr s₁.heap s₁.heap.objs.size _ _ => kF)
              (try dsimp only at kN kF)
              (rename Made _ _ _ _ => hM)
              have hst := st.made (fun q hq => .tail _ hq) hM
              exact ⟨by first | rfl | trivial, _, _, _, _, _, _, _, rfl, Fr.lm kF [(S "yes", _), (S "last", vl), (S "pick", .int pk tp), (S "rest", .int rs tr), (S "heap", .ref lH), (S "ops", .ref lO), (S "script", .ref lS)] ⟨rfl, rfl, rfl, rfl, rfl, rfl, rfl, trivial⟩, kN, hst.1, hst.2, part_mono (fun q hq => hM.mem q (.tail _ hq)) hvl⟩)
          | cons p0 r0 =>
            obtain ⟨vs0, v0, e0, hP0, hp0⟩ : ∃ vs0 v0, vs = vs0 ++ [v0] ∧ PartsAt (offs (lH :: own.map (·.1)) n8) vs0 r0 ∧ PartAt (offs (lH :: own.map (·.1)) n8) v0 p0 := by
              have := st.hP
              cases this with
              | snoc a b => exact ⟨_, _, rfl, a, b⟩
            subst e0
            have hHm := st.hHm
            have hll := st.hP.length
            k_steps
            all_goals (
              (rename News s₁.heap s₁.heap.objs.size _ _ => kN)
              (rename Fr s₁.heap s₁.heap.objs.size _ _ => kF)
              (try dsimp only at kN kF)
              exact ⟨by first | rfl | trivial, _, _, _, _, _, _, _, rfl, Fr.lm kF [(S "yes", _), (S "last", vl), (S "pick", .int pk tp), (S "rest", .int rs tr), (S "heap", .ref lH), (S "ops", .ref lO), (S "script", .ref lS)] ⟨rfl, rfl, rfl, rfl, rfl, rfl, rfl, trivial⟩, kN, (st.mono (fun q hq => .tail _ hq)).upd (hP0.mono offs_tail), part_upd st.hA (hp0.mono offs_tail), part_upd st.hA (hvl.mono offs_tail)⟩)

        rintro s' ⟨h9, tk10, u9, n9, vs9, k9, vy, rfl, F9, N9, st9, hvy, hvl9⟩
        clear F8 N8 st hHm hll hvl hOm
        have hl9 : hp1.tail.length ≤ 63 := by rw [List.length_tail]; omega
        generalize hp1.tail = hp2 at *
        generalize lastOf hp1 (rs + 1) = py at *
        clear hvs
        generalize hvs9 : vs9 = vs at *
        rename TurnSt _ _ _ _ _ _ _ n9 _ _ _ => st
        refine cutS (fun s' => ∃ h' tk' u n' vs' k' v, s' = { s₁ with heap := h', toks := tk' } ∧ Fr s₁.heap s₁.heap.objs.size h' (lmap [(S "cond", v), (S "yes", vy), (S "last", vl), (S "pick", .int pk tp), (S "rest", .int rs tr), (S "heap", .ref lH), (S "ops", .ref lO), (S "script", .ref lS)] u) ∧ News s₁.heap s₁.heap.objs.size h' n' ∧ TurnSt (lH :: own.map (·.1)) own lH lO D (listOf ovs.toArray 0) (listOf ws.toArray 0) n' vs' k' hp2.tail ∧ PartAt (offs (lH :: own.map (·.1)) n') v (lastOf hp2 (rs + 2)) ∧ PartAt (offs (lH :: own.map (·.1)) n') vy py ∧ PartAt (offs (lH :: own.map (·.1)) n') vl pl) ?_ ?_
        · cases hp2 with
          | nil =>
            have e0 : vs = [] := by have := st.hP; cases this; rfl
            subst e0
            have hHm := st.hHm
            k_steps
            all_goals (
              (rename News s₁.heap s₁.heap.objs.size _ _ => kN)
              (rename Fr s₁.heap s₁.heap.objs.size _ _ => kF)
              (try dsimp only at kN kF)
              (rename Made _ _ _ _ => hM)
              have hst := st.made (fun q hq => .tail _ hq) hM
              exact ⟨by first | rfl | trivial, _, _, _, _, _, _, _, rfl, Fr.lm kF [(S "cond", _), (S "yes", vy), (S "last", vl), (S "pick", .int pk tp), (S "rest", .int rs tr), (S "heap", .ref lH), (S "ops", .ref lO), (S "script", .ref lS)] ⟨rfl, rfl, rfl, rfl, rfl, rfl, rfl, rfl, trivial⟩, kN, hst.1, hst.2, part_mono (fun q hq => hM.mem q (.tail _ hq)) hvy, part_mono (fun q hq => hM.mem q (.tail _ hq)) hvl9⟩)
          | cons p0 r0 =>
            obtain ⟨vs0, v0, e0, hP0, hp0⟩ : ∃ vs0 v0, vs = vs0 ++ [v0] ∧ PartsAt (offs (lH :: own.map (·.1)) n9) vs0 r0 ∧ PartAt (offs (lH :: own.map (·.1)) n9) v0 p0 := by
              have := st.hP
              cases this with
              | snoc a b => exact ⟨_, _, rfl, a, b⟩
            subst e0
            have hHm := st.hHm
            have hll := st.hP.length
            k_steps
            all_goals (
              (rename News s₁.heap s₁.heap.objs.size _ _ => kN)
              (rename Fr s₁.heap s₁.heap.objs.size _ _ => kF)
              (try dsimp only at kN kF)
              exact ⟨by first | rfl | trivial, _, _, _, _, _, _, _, rfl, Fr.lm kF [(S "cond", _), (S "yes", vy), (S "last", vl), (S "pick", .int pk tp), (S "rest", .int rs tr), (S "heap", .ref lH), (S "ops", .ref lO), (S "script", .ref lS)] ⟨rfl, rfl, rfl, rfl, rfl, rfl, rfl, rfl, trivial⟩, kN, (st.mono (fun q hq => .tail _ hq)).upd (hP0.mono offs_tail), part_upd st.hA (hp0.mono offs_tail), part_upd st.hA (hvy.mono offs_tail), part_upd st.hA (hvl9.mono offs_tail)⟩)

        rintro s' ⟨h10, tk11, u10, n10, vs10, k10, vc, rfl, F10, N10, st10, hvc, hvy10, hvl10⟩
        clear F9 N9 st hvy hvl9
        have hl10 : hp2.tail.length ≤ 63 := by rw [List.length_tail]; omega
        generalize hp2.tail = hp3 at *
        generalize lastOf hp2 (rs + 2) = pc at *
        rename TurnSt _ _ _ _ _ _ _ n10 _ _ _ => st
        have hHm := st.hHm
        have hll := st.hP.length
        k_steps
        all_goals (
          (rename News s₁.heap s₁.heap.objs.size _ _ => kN)
          (rename Fr s₁.heap s₁.heap.objs.size _ _ => kF)
          (try dsimp only at kN kF)
          (rename Made _ _ _ _ => hM)
          have hst := st.made (fun q hq => hq) hM
          exact inv_end (lS := lS) kF kN (hst.1.upd (.snoc hst.1.hP hst.2)) ⟨rfl, rfl, rfl, trivial⟩ (fun nx J => ⟨(mem_offs.mp J.hD).1, _, _, J⟩))

      rw [if_neg hp22]
      by_cases hp23 : pk = 22
      · rw [if_pos hp23]
        iterate 8 walk1
        iterate 8 walk1
        iterate 8 walk1
        refine cutS (fun s' => ∃ h' tk' u n' v, s' = { s₁ with heap := h', toks := tk' } ∧ Fr s₁.heap s₁.heap.objs.size h' (lmap [(S "inner", v), (S "pick", .int pk tp), (S "rest", .int rs tr), (S "heap", .ref lH), (S "ops", .ref lO), (S "script", .ref lS)] u) ∧ News s₁.heap s₁.heap.objs.size h' n' ∧ TurnSt (lH :: own.map (·.1)) own lH lO D (listOf ovs.toArray 0) (listOf ws.toArray 0) n' vs k8 hp1 ∧ PartAt (offs (lH :: own.map (·.1)) n') v (if pl.rank = 7 then pl else brk pl)) ?_ ?_
        · have hvl0 := hvl
          obtain ⟨la, ll, lt1, lt2, lvs, ln1, ln2, rfl, hm1, hm2, hstr⟩ := (part_offs hvl).ex
          by_cases hr7 : pl.rank = 7
          · rw [if_pos hr7]
            k_steps
            all_goals first
              | (exfalso; omega)
              | (
                (rename News s₁.heap s₁.heap.objs.size _ _ => kN)
                (rename Fr s₁.heap s₁.heap.objs.size _ _ => kF)
                (try dsimp only at kN kF)
                exact ⟨by first | rfl | trivial, _, _, _, _, _, rfl, Fr.lm kF [(S "inner", _), (S "pick", .int pk tp), (S "rest", .int rs tr), (S "heap", .ref lH), (S "ops", .ref lO), (S "script", .ref lS)] ⟨rfl, rfl, rfl, rfl, rfl, rfl, trivial⟩, kN, st, hvl0⟩)
          · rw [if_neg hr7]
            k_steps
            all_goals first
             | (exfalso; omega)
             | (
              (rename News s₁.heap s₁.heap.objs.size _ _ => kN)
              (rename Fr s₁.heap s₁.heap.objs.size _ _ => kF)
              (try dsimp only at kN kF)
              (rename Made _ _ _ _ => hM)
              have hst := st.made (fun q hq => hq) hM
              exact ⟨by first | rfl | trivial, _, _, _, _, _, rfl, Fr.lm kF [(S "inner", _), (S "pick", .int pk tp), (S "rest", .int rs tr), (S "heap", .ref lH), (S "ops", .ref lO), (S "script", .ref lS)] ⟨rfl, rfl, rfl, rfl, rfl, rfl, trivial⟩, kN, hst.1, hst.2⟩)
        rintro s' ⟨h9, tk10, u9, n9, vi, rfl, F9, N9, st9, hvi⟩
        clear F8 N8 st hHm hll hvl hOm
        have hbi := ifn_len (c := pl.rank = 7) hf1
        have eneg : neg pl = ⟨7, [S "!"] ++ (if pl.rank = 7 then pl else brk pl).toks, S "not " ++ (if pl.rank = 7 then pl else brk pl).text⟩ := rfl
        rw [eneg]
        generalize (if pl.rank = 7 then pl else brk pl) = pi at *
        obtain ⟨la, ll, lt1, lt2, lvs, ln1, ln2, rfl, hm1, hm2, hstr⟩ := (part_offs hvi).ex
        have hz1 := hstr.length
        have hz2 := hbi.1
        have hz3 := hbi.2
        have hnt : (PySem.Str.ofString "not ").length = 4 := by decide
        rename TurnSt _ _ _ _ _ _ _ n9 _ _ _ => st
        have hHm := st.hHm
        have hll := st.hP.length
        k_steps
        all_goals first
          | (exfalso; omega)
          | (
            (rename News s₁.heap s₁.heap.objs.size _ _ => kN)
            (rename Fr s₁.heap s₁.heap.objs.size _ _ => kF)
            (try dsimp only at kN kF)
            refine inv_end (lS := lS) kF kN (st.put ?_) ⟨rfl, rfl, rfl, trivial⟩ (fun nx J => ⟨(mem_offs.mp J.hD).1, _, _, J⟩)
            refine made (Grew.cons (Grew.cons (Grew.cons (Grew.refl _) ?_) ?_) ?_) (.head _) (.tail _ (.head _)) (StrsAre.append' (.cons _ _ .nil) ?_) rfl ?_ ?_
            all_goals first
              | assumption
              | (intro q hq; exact (by assumption : ∀ p : Addr × Obj, p ∈ _ → p.1 < _) q (by repeat (first | exact hq | apply List.Mem.tail))))
      rw [if_neg hp23]

      k_steps
      all_goals first
        | (exfalso; omega)
        | (
          (rename News s₁.heap s₁.heap.objs.size _ _ => kN)
          (rename Fr s₁.heap s₁.heap.objs.size _ _ => kF)
          (try dsimp only at kN kF)
          (rename Made _ _ _ _ => hM)
          have hst := st.made (fun q hq => hq) hM
          exact inv_end (lS := lS) kF kN (hst.1.upd (.snoc hst.1.hP hst.2)) ⟨rfl, rfl, rfl, trivial⟩ (fun nx J => ⟨(mem_offs.mp J.hD).1, _, _, J⟩))
    case done =>
      rintro m₁ nx h tk ⟨vs, k, I⟩ F N
      rw [hwl, List.take_length] at I
      exact ⟨rfl, _, _, _, _, _, _, _, _, rfl, F, N, I⟩
  rintro s' ⟨hA, tkA, mA, nA, vsA, kA, D, oD, rfl, FA0, NA, IA⟩
  have FA := Fr.lm FA0 [(S "heap", .ref lH), (S "ops", .ref lO), (S "script", .ref lS)] IA.mm
  have stA := turn_of IA
  have hokA := hp_ok ns
  clear FA0 IA
  generalize hgen : hpOf ns = hp0 at stA hokA
  refine cutF (fun s' => ∃ h' tk' u n' vs k, s' = { s₁ with heap := h', toks := tk' } ∧ Fr s₁.heap s₁.heap.objs.size h' (lmap [(S "heap", .ref lH), (S "ops", .ref lO), (S "script", .ref lS)] u) ∧ News s₁.heap s₁.heap.objs.size h' n' ∧ TurnSt [lH] [] lH lO D (listOf ovs.toArray 0) oD n' vs k (joinN hp0.length hp0)) ?_ ?_
  · refine whileInd (α := List Part) (fun a => a.length) (fun hp s' => ∃ h' tk' u n' vs k, s' = { s₁ with heap := h', toks := tk' } ∧ Fr s₁.heap s₁.heap.objs.size h' (lmap [(S "heap", .ref lH), (S "ops", .ref lO), (S "script", .ref lS)] u) ∧ News s₁.heap s₁.heap.objs.size h' n' ∧ TurnSt [lH] [] lH lO D (listOf ovs.toArray 0) oD n' vs k hp ∧ joinN hp.length hp = joinN hp0.length hp0 ∧ Oks hp ∧ wsum hp + 66 * hp.length ≤ 20000 ∧ hp.length ≤ 63) ?_ hp0 _ ?_
    · clear stA hokA NA FA
      rintro hp s' ⟨h1, tk1, u1, n, vs, k, rfl, F1, N1, st, hj, hok, hws, hhl⟩
      have hHm := st.hHm
      have hll := st.hP.length
      have hOm := (mem_offs.mp st.hO).1
      have hv1 : vs.length ≤ 1000 := by omega
      rcases hp with _ | ⟨a, _ | ⟨b, r⟩⟩
      · have hq : decide ((1 : Int) < (vs.length : Int)) = false := by rw [hll]; rfl
        k_steps
        all_goals (
          (rename News s₁.heap s₁.heap.objs.size _ _ => kN)
          (rename Fr s₁.heap s₁.heap.objs.size _ _ => kF)
          (try dsimp only at kN kF)
          rw [← hj]
          exact ⟨by first | rfl | trivial, _, _, _, _, _, _, rfl, kF, kN, st⟩)
      · have hq : decide ((1 : Int) < (vs.length : Int)) = false := by rw [hll]; rfl
        k_steps
        all_goals (
          (rename News s₁.heap s₁.heap.objs.size _ _ => kN)
          (rename Fr s₁.heap s₁.heap.objs.size _ _ => kF)
          (try dsimp only at kN kF)
          rw [← hj]
          exact ⟨by first | rfl | trivial, _, _, _, _, _, _, rfl, kF, kN, st⟩)
      · have hq : decide ((1 : Int) < (vs.length : Int)) = true := by rw [hll]; simp only [List.length_cons, decide_eq_true_eq]; omega
        obtain ⟨vs1, v0, v1, e0, hP1, hp1, hp0⟩ : ∃ vs1 v0 v1, vs = vs1 ++ [v1] ++ [v0] ∧ PartsAt (offs [lH] n) vs1 r ∧ PartAt (offs [lH] n) v1 b ∧ PartAt (offs [lH] n) v0 a := by
          have := st.hP
          cases this with
          | snoc x y => cases x with
            | snoc x z => exact ⟨_, _, _, rfl, x, z, y⟩
        subst e0
        have hfa : Fits a := fits_of (hok a (.head _)) (by simp only [wsum] at hws; omega)
        have hfb : Fits b := fits_of (hok b (.tail _ (.head _))) (by simp only [wsum] at hws; omega)
        have hpw := pair_wt (op := opAt (r.length % 13)) (opAt_len _) (hok b (.tail _ (.head _))) (hok a (.head _))
        have hvl := hP1.length
        iterate 12 walk1
        refine cutS (fun s' => ∃ h' tk' u n' k', s' = { s₁ with heap := h', toks := tk' } ∧ Fr s₁.heap s₁.heap.objs.size h' (lmap [(S "last", v0), (S "heap", .ref lH), (S "ops", .ref lO), (S "script", .ref lS)] u) ∧ News s₁.heap s₁.heap.objs.size h' n' ∧ TurnSt [lH] [] lH lO D (listOf ovs.toArray 0) oD n' (vs1 ++ [v1]) k' (b :: r) ∧ PartsAt (offs [lH] n') vs1 r ∧ PartAt (offs [lH] n') v1 b ∧ PartAt (offs [lH] n') v0 a) ?_ ?_
        · k_steps
          all_goals (
            (rename News s₁.heap s₁.heap.objs.size _ _ => kN)
            (rename Fr s₁.heap s₁.heap.objs.size _ _ => kF)
            (try dsimp only at kN kF)
            exact ⟨by first | rfl | trivial, _, _, _, _, _, rfl, Fr.lm kF [(S "last", v0), (S "heap", .ref lH), (S "ops", .ref lO), (S "script", .ref lS)] ⟨rfl, rfl, rfl, rfl, trivial⟩, kN, st.upd (.snoc hP1 hp1), (st.upd (.snoc hP1 hp1)).hP.pop, part_upd st.hA hp1, part_upd st.hA hp0⟩)
        rintro s' ⟨h2, tk2, u2, n2, k2, rfl, F2, N2, st2, hP2, hq1, hq0⟩
        clear F1 N1 st hP1 hp1 hp0 hHm hOm hll hv1
        have hHm := st2.hHm
        have hll := st2.hP.length
        refine cutS (fun s' => ∃ h' tk' u n' k', s' = { s₁ with heap := h', toks := tk' } ∧ Fr s₁.heap s₁.heap.objs.size h' (lmap [(S "first", v1), (S "last", v0), (S "heap", .ref lH), (S "ops", .ref lO), (S "script", .ref lS)] u) ∧ News s₁.heap s₁.heap.objs.size h' n' ∧ TurnSt [lH] [] lH lO D (listOf ovs.toArray 0) oD n' vs1 k' r ∧ PartAt (offs [lH] n') v1 b ∧ PartAt (offs [lH] n') v0 a) ?_ ?_
        · k_steps
          all_goals (
            (rename News s₁.heap s₁.heap.objs.size _ _ => kN)
            (rename Fr s₁.heap s₁.heap.objs.size _ _ => kF)
            (try dsimp only at kN kF)
            exact ⟨by first | rfl | trivial, _, _, _, _, _, rfl, Fr.lm kF [(S "first", v1), (S "last", v0), (S "heap", .ref lH), (S "ops", .ref lO), (S "script", .ref lS)] ⟨rfl, rfl, rfl, rfl, rfl, trivial⟩, kN, st2.upd hP2, part_upd st2.hA hq1, part_upd st2.hA hq0⟩)
        rintro s' ⟨h3, tk3, u3, n3, k3, rfl, F3, N3, st3, hr1, hr0⟩
        clear F2 N2 st2 hP2 hq1 hq0 hHm hll
        have hHm := st3.hHm
        have hll := st3.hP.length
        have hOm := (mem_offs.mp st3.hO).1
        have hfm := fmod_range (vs1.length : Int) (k := 13) (by decide)
        have hf13 := fmod13 vs1.length
        have hv1 : vs1.length ≤ 1000 := by simp only [List.length_cons] at hhl; omega
        k_steps
        all_goals (
          (rename News s₁.heap s₁.heap.objs.size _ _ => kN)
          (rename Fr s₁.heap s₁.heap.objs.size _ _ => kF)
          (try dsimp only at kN kF)
          (rename Made _ _ _ _ => hM)
          rw [hf13, hll] at hM
          unfold TurnEnd
          exact ⟨pair (opAt (r.length % 13)) b a :: r, by simp, _, _, _, _, _, _, rfl, Fr.lm kF [(S "heap", .ref lH), (S "ops", .ref lO), (S "script", .ref lS)] ⟨rfl, rfl, rfl, trivial⟩, kN, st3.put hM, hj, oks_cons hpw.2 (fun q hq => hok q (.tail _ (.tail _ hq))), by simp only [wsum, List.length_cons] at hws ⊢; omega, by simp only [List.length_cons] at hhl ⊢; omega⟩)
    · exact ⟨_, _, _, _, _, _, rfl, FA, NA, stA, rfl, hokA.1, by omega, by omega⟩
  rintro s' ⟨hB, tkB, uB, nB, vsB, kB, rfl, FB, NB, stB⟩
  have hlB := joinN_len hp0.length hp0 (by omega)
  clear FA NA stA
  refine cutS (fun s' => ∃ h' tk' u n' v, s' = { s₁ with heap := h', toks := tk' } ∧ Fr s₁.heap s₁.heap.objs.size h' (lmap [(S "part", v), (S "script", .ref lS)] u) ∧ News s₁.heap s₁.heap.objs.size h' n' ∧ PartAt n' v (lastOf (joinN hp0.length hp0) 0)) ?_ ?_
  · rcases hpF : joinN hp0.length hp0 with _ | ⟨p0, _ | ⟨p1, r⟩⟩
    · rw [hpF] at stB
      have e0 : vsB = [] := by have := stB.hP; cases this; rfl
      subst e0
      have hHm := stB.hHm
      k_steps
      all_goals (
        (rename News s₁.heap s₁.heap.objs.size _ _ => kN)
        (rename Fr s₁.heap s₁.heap.objs.size _ _ => kF)
        (try dsimp only at kN kF)
        (rename Made _ _ _ _ => hM)
        exact ⟨by first | rfl | trivial, _, _, _, _, _, rfl, Fr.lm kF [(S "part", _), (S "script", .ref lS)] ⟨rfl, rfl, trivial⟩, kN, hM.part.1⟩)
    · rw [hpF] at stB
      obtain ⟨v0, e0, hp0⟩ : ∃ v0, vsB = [v0] ∧ PartAt (offs [lH] nB) v0 p0 := by
        have := stB.hP
        cases this with
        | snoc x y => cases x; exact ⟨_, rfl, y⟩
      subst e0
      have hHm := stB.hHm
      k_steps
      all_goals (
        (rename News s₁.heap s₁.heap.objs.size _ _ => kN)
        (rename Fr s₁.heap s₁.heap.objs.size _ _ => kF)
        (try dsimp only at kN kF)
        exact ⟨by first | rfl | trivial, _, _, _, _, _, rfl, Fr.lm kF [(S "part", _), (S "script", .ref lS)] ⟨rfl, rfl, trivial⟩, kN, (part_offs hp0).mono (fun q hq => by repeat (first | exact hq | apply List.Mem.tail))⟩)
    · exfalso; rw [hpF] at hlB; simp at hlB
  rintro s' ⟨hC, tkC, uC, nC, vP, rfl, FC, NC, hPC⟩
  clear FB NB stB
  clear hokA hlB
  refine cutS (fun s' => ∃ h' tk' u tt, s' = { s₁ with heap := h', toks := tk' } ∧ Fr s₁.heap s₁.heap.objs.size h' (lmap [(S "tail", .str (tailsL.getD ((ns.sum).fmod 7).toNat (S "")) tt), (S "part", vP), (S "script", .ref lS)] u) ∧ News s₁.heap s₁.heap.objs.size h' nC) ?_ ?_
  · iterate 29 walk1
    rename_i lT hT1 hlT z hT2 tkT tT hz FT NT hrT
    refine r_tails NT (.head _) (by repeat (first | exact .nil | refine .cons _ _ ?_)) hrT.1 hrT.2 (fun t9 => ?_) (by with_unfolding_all rfl)
    subst hz
    k_steps
    all_goals (
      (rename News s₁.heap s₁.heap.objs.size _ _ => kN)
      (rename Fr s₁.heap s₁.heap.objs.size _ _ => kF)
      (try dsimp only at kN kF)
      exact ⟨by first | rfl | trivial, _, _, _, _, rfl, Fr.lm kF [(S "tail", _), (S "part", vP), (S "script", .ref lS)] ⟨rfl, rfl, rfl, trivial⟩, News.drop1 kN⟩)
  rintro s' ⟨hE, tkE, uE, tt, rfl, FE, NE⟩
  clear FC NC
  generalize htl : tailsL.getD ((ns.sum).fmod 7).toNat (S "") = tl at FE
  refine cutS (fun s' => ∃ h' tk' u Dr ys kr, s' = { s₁ with heap := h', toks := tk' } ∧ Fr s₁.heap s₁.heap.objs.size h' (lmap [(S "rest", .ref Dr), (S "tail", .str tl tt), (S "part", vP), (S "script", .ref lS)] u) ∧ News s₁.heap s₁.heap.objs.size h' ((Dr, listOf ys.toArray kr) :: nC) ∧ StrsAre ys (ns.map fun x => S (toString (x.fmod 1000)))) ?_ ?_
  · refine Assign_ListComp_DCn (K := ItemKind.int) (pz := fun _ => true) (d := fun a => .str (S (toString (a.fmod 1000)))) (cl := []) (h₀ := s₁.heap) (L := s₁.heap.objs.size) (m := lmap [(S "tail", .str tl tt), (S "part", vP), (S "script", .ref lS)] uE) ?_ ?_ ?_ ?_ ?_ ?_ ?_ ?_ ?_ ?_ ?_ ?_
    case refine_1 => with_unfolding_all rfl
    case refine_2 => with_unfolding_all rfl
    case refine_3 => with_unfolding_all rfl
    case refine_4 => with_unfolding_all rfl
    case refine_5 => decide
    case refine_6 => with_unfolding_all rfl
    case refine_7 => decide
    case refine_8 => with_unfolding_all rfl
    case refine_9 => with_unfolding_all rfl
    case refine_10 => with_unfolding_all rfl
    case refine_12 => intro _; with_unfolding_all rfl
    walk1
    refine ⟨nC, lS, items, ns, rfl, FE.lst hL, hI.areOf, by unfold sizeLine; omega, FE, NE, ?_, ?_, ?_⟩
    · intro C a v s₂ m₂ E' hC ha hk hn hm hkeep
      k_steps
      all_goals exact ⟨_, _, rfl, fun _ _ e => e⟩
    · intro C a v s₂ m₂ E' hC ha hk hp hn hm hkeep
      obtain ⟨tv, rfl⟩ := ItemKind.int_is hk
      have Fc := frInComp hn hkeep hC
      have Gc := globFor Fc (Glob.keeps GL FE.keep)
      have hfm := fmod_range a (k := 1000) (by decide)
      refine wpAny_leafK ?_
      k_steps
    · intro Dr ys h' tk' F' N' hnD hlD hP hc
      obtain ⟨kr, N2, _⟩ := gn_enter hP F' N' hnD
      rw [pv_filter_true] at hc
      exact ⟨rfl, _, _, _, _, _, _, rfl, Fr.lm F' [(S "rest", .ref Dr), (S "tail", .str tl tt), (S "part", vP), (S "script", .ref lS)] ⟨rfl, rfl, rfl, rfl, trivial⟩, N2, hc.strsOf⟩
  rintro s' ⟨hG, tkG, uG, Dr, ys, kr, rfl, FG, NG, hys⟩
  clear FE NE
  obtain ⟨hplain, hwt⟩ : (parseP 260 ((lastOf (joinN hp0.length hp0) 0).toks ++ [tl] ++ ns.map fun x => S (toString (x.fmod 1000))) (-1) = some ((lastOf (joinN hp0.length hp0) 0).text, tl, ns.map fun x => S (toString (x.fmod 1000)))) ∧ wt ((lastOf (joinN hp0.length hp0) 0).toks ++ [tl] ++ ns.map fun x => S (toString (x.fmod 1000))) ≤ 90000 := by
    subst hgen htl
    exact ⟨plain_law hlen (tail_mem _) _, plain_wt hlen (tail_mem _)⟩
  have hlw := len_wt ((lastOf (joinN hp0.length hp0) 0).toks ++ [tl] ++ ns.map fun x => S (toString (x.fmod 1000)))
  generalize lastOf (joinN hp0.length hp0) 0 = P at hPC hplain hwt hlw
  generalize (ns.map fun x => S (toString (x.fmod 1000))) = R at hys hplain hwt hlw
  obtain ⟨aP, lP, p1, p2, pvs, n1, n2, rfl, hm1, hm2, hpv⟩ := hPC.ex
  have hl1 := hpv.length
  have hl3 := hys.length
  simp only [List.length_append, List.length_cons, List.length_nil] at hlw
  clear hPC
  refine cutS (fun s' => ∃ h' tk' u n' it o lT vsT kT, s' = { s₁ with heap := h', toks := tk' } ∧ Fr s₁.heap s₁.heap.objs.size h' (lmap [(S "tokens", .ref it), (S "rest", .ref Dr), (S "tail", .str tl tt), (S "part", .ref aP)] u) ∧ News s₁.heap s₁.heap.objs.size h' ((it, o) :: n') ∧ (∀ q ∈ n', q.1 ≠ it) ∧ (lT, listOf vsT.toArray kT) ∈ n' ∧ IterIs o lT 0 ∧ StrsAre vsT (P.toks ++ [tl] ++ R) ∧ (Dr, listOf ys.toArray kr) ∈ n' ∧ (aP, tupO #[.int P.rank p1, .ref lP, .str P.text p2] n1) ∈ n') ?_ ?_
  · have hm3 : (aP, tupO #[.int P.rank p1, .ref lP, .str P.text p2] n1) ∈ (Dr, listOf ys.toArray kr) :: nC := .tail _ hm1
    have hm4 : (lP, listOf pvs.toArray n2) ∈ (Dr, listOf ys.toArray kr) :: nC := .tail _ hm2
    k_steps
    all_goals (
      (rename News s₁.heap s₁.heap.objs.size _ _ => kN)
      (rename Fr s₁.heap s₁.heap.objs.size _ _ => kF)
      (try dsimp only at kN kF)
      (rename IterIs _ _ _ => hI9)
      (rename (∀ p : Addr × Obj, p ∈ _ → p.1 < _) => hl9)
      exact ⟨by first | rfl | trivial, _, _, _, _, _, _, _, _, _, rfl, Fr.lm kF [(S "tokens", _), (S "rest", .ref Dr), (S "tail", .str tl tt), (S "part", .ref aP)] ⟨rfl, rfl, rfl, rfl, trivial⟩, kN, fun q hq => Nat.ne_of_lt (hl9 q hq), .head _, hI9, StrsAre.append' (StrsAre.append' hpv (.cons _ _ .nil)) hys, .tail _ (.tail _ (.tail _ (.head _))), .tail _ (.tail _ (.tail _ hm3))⟩)
  rintro s' ⟨hT, tkT, uT, nT, it, oT, lT, vsT, kT, rfl, FT, NT, hne, hlT, hIT, hsT, hmR, hmP⟩
  clear FG NG hm1 hm2 hpv
  refine cutS (fun s' => ∃ h' tk' u a o' i' t1 t2 n1', s' = { s₁ with heap := h', toks := tk' } ∧ Fr s₁.heap s₁.heap.objs.size h' (lmap [(S "told", .ref a), (S "tokens", .ref it), (S "rest", .ref Dr), (S "tail", .str tl tt), (S "part", .ref aP)] u) ∧ News s₁.heap s₁.heap.objs.size h' ((a, tupO #[.str P.text t1, .str tl t2] n1') :: (it, o') :: nT) ∧ IterIs o' lT i' ∧ StrsAre (vsT.drop i') R) ?_ ?_
  · have hm5 := ParsesAt.use (args := [.ref it]) (parse_ok w 260) hplain hwt (Or.inr ⟨rfl, rfl⟩) hlT hne hIT (by simpa using hsT)
    k_steps
    all_goals (
      (rename News s₁.heap s₁.heap.objs.size _ _ => kN)
      (rename Fr s₁.heap s₁.heap.objs.size _ _ => kF)
      (try dsimp only at kN kF)
      exact ⟨by first | rfl | trivial, _, _, _, _, _, _, _, _, _, rfl, Fr.lm kF [(S "told", _), (S "tokens", .ref it), (S "rest", .ref Dr), (S "tail", .str tl tt), (S "part", .ref aP)] ⟨rfl, rfl, rfl, rfl, rfl, trivial⟩, kN, by assumption, by assumption⟩)
  rintro s' ⟨hU, tkU, uU, aT, oU, iU, q1, q2, nq, rfl, FU, NU, hIU, hsU⟩
  have hn1 : lT ≠ it := hne _ hlT
  have hn2 : (Dr != it) = true := bne_iff_ne.mpr (hne _ hmR)
  have hm6 : (aP, tupO #[.int P.rank p1, .ref lP, .str P.text p2] n1) ∈ (aT, tupO #[.str P.text q1, .str tl q2] nq) :: (it, oU) :: nT := .tail _ (.tail _ hmP)
  have hm7 : (Dr, listOf ys.toArray kr) ∈ (aT, tupO #[.str P.text q1, .str tl q2] nq) :: (it, oU) :: nT := .tail _ (.tail _ hmR)
  have hm8 : (lT, listOf vsT.toArray kT) ∈ (aT, tupO #[.str P.text q1, .str tl q2] nq) :: (it, oU) :: nT := .tail _ (.tail _ hlT)
  have hlv := hsT.length
  simp only [List.length_append, List.length_cons, List.length_nil] at hlv
  clear FT NT hsT hlT hmR hmP hne hplain
  k_steps)
end
end Mine
theorem PySem.Challenge.cw_dp0029_01_holds : PySem.Challenge.rw_dp0029_01.Holds :=
  Mine.law_ok
