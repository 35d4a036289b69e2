import PyProof.Rows.All
import Wide.All
import OpenK.AllK
import Wide.FinOn
import PySem.Challenge.RW_pe0220_01
set_option Elab.async false
set_option linter.all false
set_option compiler.extract_closed false

section
open PySem PySem.W PyProof.Rows
namespace Mine
set_option maxRecDepth 100000
set_option maxHeartbeats 8000000
noncomputable def topS (i : Nat) : Stmt := PySem.Challenge.pw_pe0220_01.main.body.getD i (.Pass default)
noncomputable def clsS (i j : Nat) : Stmt := match topS i with
  | .ClassDef _ _ _ b _ _ _ _ _ _ _ => b.getD j (.Pass default)
  | _ => .Pass default
noncomputable def fnA (s : Stmt) : Arguments := match s with
  | .FunctionDef _ a _ _ _ _ _ _ _ _ => a
  | _ => default
noncomputable def fnB (s : Stmt) : List Stmt := match s with
  | .FunctionDef _ _ b _ _ _ _ _ _ _ => b
  | _ => []
noncomputable def fnS (s : Stmt) : Scope := match s with
  | .FunctionDef _ _ _ _ _ _ c _ _ _ => c
  | _ => default
noncomputable def heapK : Params → Frag := fun P =>
  (nat_lit 2, { cls := .none, data := .dict #[] }) ::
  (nat_lit 3, { cls := .type "dict", data := .dict #[{ hash := PyData.keyHash P (Str.ofString "__name__"), key := .str (Str.ofString "__name__") 165, val := .str (Str.ofString "law_pe0220_01") 438 }, { hash := PyData.keyHash P (Str.ofString "__doc__"), key := .str (Str.ofString "__doc__") 166, val := .none }, { hash := PyData.keyHash P (Str.ofString "__package__"), key := .str (Str.ofString "__package__") 167, val := .none }, { hash := PyData.keyHash P (Str.ofString "__loader__"), key := .str (Str.ofString "__loader__") 168, val := .builtin "__main__.__loader__#opaque" }, { hash := PyData.keyHash P (Str.ofString "__spec__"), key := .str (Str.ofString "__spec__") 169, val := .none }, { hash := PyData.keyHash P (Str.ofString "__annotations__"), key := .str (Str.ofString "__annotations__") 170, val := .ref 6 }, { hash := PyData.keyHash P (Str.ofString "__builtins__"), key := .str (Str.ofString "__builtins__") 171, val := .ref 4 }, { hash := PyData.keyHash P (Str.ofString "__file__"), key := .str (Str.ofString "__file__") 173, val := .str (Str.ofString "/claim/cut.py") 172 }, { hash := PyData.keyHash P (Str.ofString "__cached__"), key := .str (Str.ofString "__cached__") 174, val := .none }, { hash := PyData.keyHash P (Str.ofString "_wall"), key := .str (Str.ofString "_wall") 193, val := .ref 21 }, { hash := PyData.keyHash P (Str.ofString "NL"), key := .str (Str.ofString "NL") 197, val := .str (Str.ofString "\n") 196 }, { hash := PyData.keyHash P (Str.ofString "EMPTYSTRING"), key := .str (Str.ofString "EMPTYSTRING") 199, val := .str (Str.ofString "") 198 }, { hash := PyData.keyHash P (Str.ofString "_ValueFormatter"), key := .str (Str.ofString "_ValueFormatter") 307, val := .ref 94 }, { hash := PyData.keyHash P (Str.ofString "_Accumulator"), key := .str (Str.ofString "_Accumulator") 403, val := .ref 178 }, { hash := PyData.keyHash P (Str.ofString "_iter_escaped_chars"), key := .str (Str.ofString "_iter_escaped_chars") 415, val := .ref 189 }, { hash := PyData.keyHash P (Str.ofString "_strip_quoted_realnames"), key := .str (Str.ofString "_strip_quoted_realnames") 427, val := .ref 196 }, { hash := PyData.keyHash P (Str.ofString "_check_parenthesis"), key := .str (Str.ofString "_check_parenthesis") 437, val := .ref 203 }, { hash := PyData.keyHash P (Str.ofString "_law_words"), key := .str (Str.ofString "_law_words") 455, val := .ref 210 }, { hash := PyData.keyHash P (Str.ofString "_law_spans"), key := .str (Str.ofString "_law_spans") 465, val := .ref 217 }, { hash := PyData.keyHash P (Str.ofString "_law_folded"), key := .str (Str.ofString "_law_folded") 477, val := .ref 224 }, { hash := PyData.keyHash P (Str.ofString "_law_ways"), key := .str (Str.ofString "_law_ways") 483, val := .ref 229 }, { hash := PyData.keyHash P (Str.ofString "law"), key := .str (Str.ofString "law") 489, val := .ref 234 }] 22 }) ::
  (nat_lit 15, { cls := .type "tuple", data := .seq #[] }) ::
  (nat_lit 17, { cls := .type "tuple", data := .seq #[.str (Str.ofString "k") 190] }) ::
  (nat_lit 18, { cls := .type "tuple", data := .seq #[] }) ::
  (nat_lit 20, { cls := .type "code", data := .fields #[.str (Str.ofString "_wall") 187, .str (Str.ofString "_wall") 188, .str (Str.ofString "/claim/cut.py") 189, .int 1 0, .int 1 0, .int 0 0, .int 0 0, .int 3 0, .ref 15, .bool true, .int 181 0, .ref 16, .none, .ref 17, .ref 18, .ref 19, .int 191 0, .int 1 0, .str (Str.ofString "/claim/cut.py") 192] }) ::
  (nat_lit 21, letI pa : Arguments := _; letI pb : List Stmt := _; letI ps : Scope := _; haveI : fnA (topS 0) = pa := (by conv => lhs; whnf); haveI : fnB (topS 0) = pb := (by conv => lhs; whnf); haveI : fnS (topS 0) = ps := (by conv => lhs; whnf); { cls := .type "function", data := .func { name := Str.ofString "_wall", qualname := Str.ofString "_wall", params := pa, body := .stmts pb, scope := ps, globals := 3, closure := [], defaults := .none, kwdefaults := .none, pyModule := .str (Str.ofString "__main__") 164, code := .ref 20 } }) ::
  (nat_lit 29, { cls := .type "tuple", data := .seq #[] }) ::
  (nat_lit 31, { cls := .type "tuple", data := .seq #[.str (Str.ofString "self") 215, .str (Str.ofString "headerlen") 216, .str (Str.ofString "maxlen") 217, .str (Str.ofString "continuation_ws") 218, .str (Str.ofString "splitchars") 219] }) ::
  (nat_lit 32, { cls := .type "tuple", data := .seq #[] }) ::
  (nat_lit 34, { cls := .type "code", data := .fields #[.str (Str.ofString "__init__") 212, .str (Str.ofString "_ValueFormatter.__init__") 213, .str (Str.ofString "/claim/cut.py") 214, .int 9 0, .int 5 0, .int 0 0, .int 0 0, .int 3 0, .ref 29, .bool true, .int 181 0, .ref 30, .none, .ref 31, .ref 32, .ref 33, .int 220 0, .int 9 0, .str (Str.ofString "/claim/cut.py") 221] }) ::
  (nat_lit 35, letI pa : Arguments := _; letI pb : List Stmt := _; letI ps : Scope := _; haveI : fnA (clsS 4 0) = pa := (by conv => lhs; whnf); haveI : fnB (clsS 4 0) = pb := (by conv => lhs; whnf); haveI : fnS (clsS 4 0) = ps := (by conv => lhs; whnf); { cls := .type "function", data := .func { name := Str.ofString "__init__", qualname := Str.ofString "_ValueFormatter.__init__", params := pa, body := .stmts pb, scope := ps, globals := 3, closure := [], defaults := .none, kwdefaults := .none, pyModule := .str (Str.ofString "cpy313.email.header") 194, code := .ref 34 } }) ::
  (nat_lit 36, { cls := .type "tuple", data := .seq #[] }) ::
  (nat_lit 38, { cls := .type "tuple", data := .seq #[.str (Str.ofString "self") 226, .str (Str.ofString "linesep") 227] }) ::
  (nat_lit 39, { cls := .type "tuple", data := .seq #[] }) ::
  (nat_lit 41, { cls := .type "code", data := .fields #[.str (Str.ofString "_str") 223, .str (Str.ofString "_ValueFormatter._str") 224, .str (Str.ofString "/claim/cut.py") 225, .int 17 0, .int 2 0, .int 0 0, .int 0 0, .int 3 0, .ref 36, .bool true, .int 181 0, .ref 37, .none, .ref 38, .ref 39, .ref 40, .int 228 0, .int 17 0, .str (Str.ofString "/claim/cut.py") 229] }) ::
  (nat_lit 42, letI pa : Arguments := _; letI pb : List Stmt := _; letI ps : Scope := _; haveI : fnA (clsS 4 1) = pa := (by conv => lhs; whnf); haveI : fnB (clsS 4 1) = pb := (by conv => lhs; whnf); haveI : fnS (clsS 4 1) = ps := (by conv => lhs; whnf); { cls := .type "function", data := .func { name := Str.ofString "_str", qualname := Str.ofString "_ValueFormatter._str", params := pa, body := .stmts pb, scope := ps, globals := 3, closure := [], defaults := .none, kwdefaults := .none, pyModule := .str (Str.ofString "cpy313.email.header") 194, code := .ref 41 } }) ::
  (nat_lit 43, { cls := .type "tuple", data := .seq #[] }) ::
  (nat_lit 45, { cls := .type "tuple", data := .seq #[.str (Str.ofString "self") 234] }) ::
  (nat_lit 46, { cls := .type "tuple", data := .seq #[] }) ::
  (nat_lit 48, { cls := .type "code", data := .fields #[.str (Str.ofString "__str__") 231, .str (Str.ofString "_ValueFormatter.__str__") 232, .str (Str.ofString "/claim/cut.py") 233, .int 21 0, .int 1 0, .int 0 0, .int 0 0, .int 3 0, .ref 43, .bool true, .int 181 0, .ref 44, .none, .ref 45, .ref 46, .ref 47, .int 235 0, .int 21 0, .str (Str.ofString "/claim/cut.py") 236] }) ::
  (nat_lit 49, letI pa : Arguments := _; letI pb : List Stmt := _; letI ps : Scope := _; haveI : fnA (clsS 4 2) = pa := (by conv => lhs; whnf); haveI : fnB (clsS 4 2) = pb := (by conv => lhs; whnf); haveI : fnS (clsS 4 2) = ps := (by conv => lhs; whnf); { cls := .type "function", data := .func { name := Str.ofString "__str__", qualname := Str.ofString "_ValueFormatter.__str__", params := pa, body := .stmts pb, scope := ps, globals := 3, closure := [], defaults := .none, kwdefaults := .none, pyModule := .str (Str.ofString "cpy313.email.header") 194, code := .ref 48 } }) ::
  (nat_lit 50, { cls := .type "tuple", data := .seq #[] }) ::
  (nat_lit 52, { cls := .type "tuple", data := .seq #[.str (Str.ofString "self") 241, .str (Str.ofString "end_of_line") 242] }) ::
  (nat_lit 53, { cls := .type "tuple", data := .seq #[] }) ::
  (nat_lit 55, { cls := .type "code", data := .fields #[.str (Str.ofString "newline") 238, .str (Str.ofString "_ValueFormatter.newline") 239, .str (Str.ofString "/claim/cut.py") 240, .int 24 0, .int 1 0, .int 0 0, .int 0 0, .int 3 0, .ref 50, .bool true, .int 181 0, .ref 51, .none, .ref 52, .ref 53, .ref 54, .int 243 0, .int 24 0, .str (Str.ofString "/claim/cut.py") 244] }) ::
  (nat_lit 56, letI pa : Arguments := _; letI pb : List Stmt := _; letI ps : Scope := _; haveI : fnA (clsS 4 3) = pa := (by conv => lhs; whnf); haveI : fnB (clsS 4 3) = pb := (by conv => lhs; whnf); haveI : fnS (clsS 4 3) = ps := (by conv => lhs; whnf); { cls := .type "function", data := .func { name := Str.ofString "newline", qualname := Str.ofString "_ValueFormatter.newline", params := pa, body := .stmts pb, scope := ps, globals := 3, closure := [], defaults := .none, kwdefaults := .none, pyModule := .str (Str.ofString "cpy313.email.header") 194, code := .ref 55 } }) ::
  (nat_lit 57, { cls := .type "tuple", data := .seq #[] }) ::
  (nat_lit 59, { cls := .type "tuple", data := .seq #[.str (Str.ofString "self") 249] }) ::
  (nat_lit 60, { cls := .type "tuple", data := .seq #[] }) ::
  (nat_lit 62, { cls := .type "code", data := .fields #[.str (Str.ofString "add_transition") 246, .str (Str.ofString "_ValueFormatter.add_transition") 247, .str (Str.ofString "/claim/cut.py") 248, .int 35 0, .int 1 0, .int 0 0, .int 0 0, .int 3 0, .ref 57, .bool true, .int 181 0, .ref 58, .none, .ref 59, .ref 60, .ref 61, .int 250 0, .int 35 0, .str (Str.ofString "/claim/cut.py") 251] }) ::
  (nat_lit 63, letI pa : Arguments := _; letI pb : List Stmt := _; letI ps : Scope := _; haveI : fnA (clsS 4 4) = pa := (by conv => lhs; whnf); haveI : fnB (clsS 4 4) = pb := (by conv => lhs; whnf); haveI : fnS (clsS 4 4) = ps := (by conv => lhs; whnf); { cls := .type "function", data := .func { name := Str.ofString "add_transition", qualname := Str.ofString "_ValueFormatter.add_transition", params := pa, body := .stmts pb, scope := ps, globals := 3, closure := [], defaults := .none, kwdefaults := .none, pyModule := .str (Str.ofString "cpy313.email.header") 194, code := .ref 62 } }) ::
  (nat_lit 64, { cls := .type "tuple", data := .seq #[] }) ::
  (nat_lit 66, { cls := .type "tuple", data := .seq #[.str (Str.ofString "self") 256, .str (Str.ofString "fws") 257, .str (Str.ofString "string") 258, .str (Str.ofString "charset") 259] }) ::
  (nat_lit 67, { cls := .type "tuple", data := .seq #[] }) ::
  (nat_lit 69, { cls := .type "code", data := .fields #[.str (Str.ofString "feed") 253, .str (Str.ofString "_ValueFormatter.feed") 254, .str (Str.ofString "/claim/cut.py") 255, .int 38 0, .int 4 0, .int 0 0, .int 0 0, .int 3 0, .ref 64, .bool true, .int 181 0, .ref 65, .none, .ref 66, .ref 67, .ref 68, .int 260 0, .int 38 0, .str (Str.ofString "/claim/cut.py") 261] }) ::
  (nat_lit 70, letI pa : Arguments := _; letI pb : List Stmt := _; letI ps : Scope := _; haveI : fnA (clsS 4 5) = pa := (by conv => lhs; whnf); haveI : fnB (clsS 4 5) = pb := (by conv => lhs; whnf); haveI : fnS (clsS 4 5) = ps := (by conv => lhs; whnf); { cls := .type "function", data := .func { name := Str.ofString "feed", qualname := Str.ofString "_ValueFormatter.feed", params := pa, body := .stmts pb, scope := ps, globals := 3, closure := [], defaults := .none, kwdefaults := .none, pyModule := .str (Str.ofString "cpy313.email.header") 194, code := .ref 69 } }) ::
  (nat_lit 71, { cls := .type "tuple", data := .seq #[] }) ::
  (nat_lit 73, { cls := .type "tuple", data := .seq #[.str (Str.ofString "self") 266] }) ::
  (nat_lit 74, { cls := .type "tuple", data := .seq #[] }) ::
  (nat_lit 76, { cls := .type "code", data := .fields #[.str (Str.ofString "_maxlengths") 263, .str (Str.ofString "_ValueFormatter._maxlengths") 264, .str (Str.ofString "/claim/cut.py") 265, .int 41 0, .int 1 0, .int 0 0, .int 0 0, .int 3 0, .ref 71, .bool true, .int 181 0, .ref 72, .none, .ref 73, .ref 74, .ref 75, .int 267 0, .int 41 0, .str (Str.ofString "/claim/cut.py") 268] }) ::
  (nat_lit 77, letI pa : Arguments := _; letI pb : List Stmt := _; letI ps : Scope := _; haveI : fnA (clsS 4 6) = pa := (by conv => lhs; whnf); haveI : fnB (clsS 4 6) = pb := (by conv => lhs; whnf); haveI : fnS (clsS 4 6) = ps := (by conv => lhs; whnf); { cls := .type "function", data := .func { name := Str.ofString "_maxlengths", qualname := Str.ofString "_ValueFormatter._maxlengths", params := pa, body := .stmts pb, scope := ps, globals := 3, closure := [], defaults := .none, kwdefaults := .none, pyModule := .str (Str.ofString "cpy313.email.header") 194, code := .ref 76 } }) ::
  (nat_lit 78, { cls := .type "tuple", data := .seq #[] }) ::
  (nat_lit 80, { cls := .type "tuple", data := .seq #[.str (Str.ofString "self") 273, .str (Str.ofString "fws") 274, .str (Str.ofString "string") 275, .str (Str.ofString "splitchars") 276] }) ::
  (nat_lit 81, { cls := .type "tuple", data := .seq #[] }) ::
  (nat_lit 83, { cls := .type "code", data := .fields #[.str (Str.ofString "_ascii_split") 270, .str (Str.ofString "_ValueFormatter._ascii_split") 271, .str (Str.ofString "/claim/cut.py") 272, .int 44 0, .int 4 0, .int 0 0, .int 0 0, .int 3 0, .ref 78, .bool true, .int 181 0, .ref 79, .none, .ref 80, .ref 81, .ref 82, .int 277 0, .int 44 0, .str (Str.ofString "/claim/cut.py") 278] }) ::
  (nat_lit 84, letI pa : Arguments := _; letI pb : List Stmt := _; letI ps : Scope := _; haveI : fnA (clsS 4 7) = pa := (by conv => lhs; whnf); haveI : fnB (clsS 4 7) = pb := (by conv => lhs; whnf); haveI : fnS (clsS 4 7) = ps := (by conv => lhs; whnf); { cls := .type "function", data := .func { name := Str.ofString "_ascii_split", qualname := Str.ofString "_ValueFormatter._ascii_split", params := pa, body := .stmts pb, scope := ps, globals := 3, closure := [], defaults := .none, kwdefaults := .none, pyModule := .str (Str.ofString "cpy313.email.header") 194, code := .ref 83 } }) ::
  (nat_lit 85, { cls := .type "tuple", data := .seq #[] }) ::
  (nat_lit 87, { cls := .type "tuple", data := .seq #[.str (Str.ofString "self") 283, .str (Str.ofString "fws") 284, .str (Str.ofString "string") 285, .str (Str.ofString "ch") 286, .str (Str.ofString "i") 287, .str (Str.ofString "prevpart") 288, .str (Str.ofString "part") 289, .str (Str.ofString "remainder") 290] }) ::
  (nat_lit 88, { cls := .type "tuple", data := .seq #[] }) ::
  (nat_lit 90, { cls := .type "code", data := .fields #[.str (Str.ofString "_append_chunk") 280, .str (Str.ofString "_ValueFormatter._append_chunk") 281, .str (Str.ofString "/claim/cut.py") 282, .int 47 0, .int 3 0, .int 0 0, .int 0 0, .int 3 0, .ref 85, .bool true, .int 181 0, .ref 86, .none, .ref 87, .ref 88, .ref 89, .int 291 0, .int 47 0, .str (Str.ofString "/claim/cut.py") 292] }) ::
  (nat_lit 91, letI pa : Arguments := _; letI pb : List Stmt := _; letI ps : Scope := _; haveI : fnA (clsS 4 8) = pa := (by conv => lhs; whnf); haveI : fnB (clsS 4 8) = pb := (by conv => lhs; whnf); haveI : fnS (clsS 4 8) = ps := (by conv => lhs; whnf); { cls := .type "function", data := .func { name := Str.ofString "_append_chunk", qualname := Str.ofString "_ValueFormatter._append_chunk", params := pa, body := .stmts pb, scope := ps, globals := 3, closure := [], defaults := .none, kwdefaults := .none, pyModule := .str (Str.ofString "cpy313.email.header") 194, code := .ref 90 } }) ::
  (nat_lit 92, { cls := .type "tuple", data := .seq #[.str (Str.ofString "_continuation_ws") 294, .str (Str.ofString "_continuation_ws_len") 295, .str (Str.ofString "_current_line") 296, .str (Str.ofString "_lines") 297, .str (Str.ofString "_maxlen") 298, .str (Str.ofString "_splitchars") 299] }) ::
  (nat_lit 93, { cls := .type "dict", data := .dict #[{ hash := PyData.keyHash P (Str.ofString "__module__"), key := .str (Str.ofString "__module__") 207, val := .str (Str.ofString "cpy313.email.header") 194 }, { hash := PyData.keyHash P (Str.ofString "__firstlineno__"), key := .str (Str.ofString "__firstlineno__") 211, val := .int 7 210 }, { hash := PyData.keyHash P (Str.ofString "__init__"), key := .str (Str.ofString "__init__") 222, val := .ref 35 }, { hash := PyData.keyHash P (Str.ofString "_str"), key := .str (Str.ofString "_str") 230, val := .ref 42 }, { hash := PyData.keyHash P (Str.ofString "__str__"), key := .str (Str.ofString "__str__") 237, val := .ref 49 }, { hash := PyData.keyHash P (Str.ofString "newline"), key := .str (Str.ofString "newline") 245, val := .ref 56 }, { hash := PyData.keyHash P (Str.ofString "add_transition"), key := .str (Str.ofString "add_transition") 252, val := .ref 63 }, { hash := PyData.keyHash P (Str.ofString "feed"), key := .str (Str.ofString "feed") 262, val := .ref 70 }, { hash := PyData.keyHash P (Str.ofString "_maxlengths"), key := .str (Str.ofString "_maxlengths") 269, val := .ref 77 }, { hash := PyData.keyHash P (Str.ofString "_ascii_split"), key := .str (Str.ofString "_ascii_split") 279, val := .ref 84 }, { hash := PyData.keyHash P (Str.ofString "_append_chunk"), key := .str (Str.ofString "_append_chunk") 293, val := .ref 91 }, { hash := PyData.keyHash P (Str.ofString "__static_attributes__"), key := .str (Str.ofString "__static_attributes__") 300, val := .ref 92 }, { hash := PyData.keyHash P (Str.ofString "__dict__"), key := .str (Str.ofString "__dict__") 302, val := .ref 95 }, { hash := PyData.keyHash P (Str.ofString "__weakref__"), key := .str (Str.ofString "__weakref__") 304, val := .ref 96 }, { hash := PyData.keyHash P (Str.ofString "__doc__"), key := .str (Str.ofString "__doc__") 305, val := .none }] 4 }) ::
  (nat_lit 94, { cls := .type "type", data := .cls { name := Str.ofString "_ValueFormatter", bases := [.type "object"], mro := [.ref 94, .type "object"], ns := 93, qualname := Str.ofString "_ValueFormatter" }, slots := #[none, none, some (.str (Str.ofString "_ValueFormatter") 200), some (.str (Str.ofString "_ValueFormatter") 208), some (.builtin "object.__new__"), some (.bool true)] }) ::
  (nat_lit 95, { cls := .type "getset_descriptor", data := .fields #[.str (Str.ofString "__dict__") 301, .ref 94, .builtin "function.__dict__", .builtin "function.__dict__#set"] }) ::
  (nat_lit 96, { cls := .type "getset_descriptor", data := .fields #[.str (Str.ofString "__weakref__") 303, .ref 94, .builtin "ExceptionGroup.__weakref__", .none] }) ::
  (nat_lit 99, { cls := .type "tuple", data := .seq #[.type "list"] }) ::
  (nat_lit 102, { cls := .type "cell", data := .cell (some (.ref 178)) }) ::
  (nat_lit 107, { cls := .type "tuple", data := .seq #[.int 0 320] }) ::
  (nat_lit 108, { cls := .type "tuple", data := .seq #[.ref 102] }) ::
  (nat_lit 109, { cls := .type "tuple", data := .seq #[.str (Str.ofString "__class__") 324] }) ::
  (nat_lit 111, { cls := .type "tuple", data := .seq #[.str (Str.ofString "self") 325, .str (Str.ofString "initial_size") 326] }) ::
  (nat_lit 112, { cls := .type "tuple", data := .seq #[] }) ::
  (nat_lit 114, { cls := .type "code", data := .fields #[.str (Str.ofString "__init__") 321, .str (Str.ofString "_Accumulator.__init__") 322, .str (Str.ofString "/claim/cut.py") 323, .int 75 0, .int 2 0, .int 0 0, .int 0 0, .int 3 0, .ref 109, .bool true, .int 181 0, .ref 110, .none, .ref 111, .ref 112, .ref 113, .int 327 0, .int 75 0, .str (Str.ofString "/claim/cut.py") 328] }) ::
  (nat_lit 115, letI pa : Arguments := _; letI pb : List Stmt := _; letI ps : Scope := _; haveI : fnA (clsS 5 0) = pa := (by conv => lhs; whnf); haveI : fnB (clsS 5 0) = pb := (by conv => lhs; whnf); haveI : fnS (clsS 5 0) = ps := (by conv => lhs; whnf); { cls := .type "function", data := .func { name := Str.ofString "__init__", qualname := Str.ofString "_Accumulator.__init__", params := pa, body := .stmts pb, scope := ps, globals := 3, closure := [(Str.ofString "__class__", 102)], defaults := .ref 107, kwdefaults := .none, pyModule := .str (Str.ofString "cpy313.email.header") 194, code := .ref 114, closureTuple := .ref 108 } }) ::
  (nat_lit 116, { cls := .type "tuple", data := .seq #[] }) ::
  (nat_lit 118, { cls := .type "tuple", data := .seq #[.str (Str.ofString "self") 333, .str (Str.ofString "fws") 334, .str (Str.ofString "string") 335] }) ::
  (nat_lit 119, { cls := .type "tuple", data := .seq #[] }) ::
  (nat_lit 121, { cls := .type "code", data := .fields #[.str (Str.ofString "push") 330, .str (Str.ofString "_Accumulator.push") 331, .str (Str.ofString "/claim/cut.py") 332, .int 79 0, .int 3 0, .int 0 0, .int 0 0, .int 3 0, .ref 116, .bool true, .int 181 0, .ref 117, .none, .ref 118, .ref 119, .ref 120, .int 336 0, .int 79 0, .str (Str.ofString "/claim/cut.py") 337] }) ::
  (nat_lit 122, letI pa : Arguments := _; letI pb : List Stmt := _; letI ps : Scope := _; haveI : fnA (clsS 5 1) = pa := (by conv => lhs; whnf); haveI : fnB (clsS 5 1) = pb := (by conv => lhs; whnf); haveI : fnS (clsS 5 1) = ps := (by conv => lhs; whnf); { cls := .type "function", data := .func { name := Str.ofString "push", qualname := Str.ofString "_Accumulator.push", params := pa, body := .stmts pb, scope := ps, globals := 3, closure := [], defaults := .none, kwdefaults := .none, pyModule := .str (Str.ofString "cpy313.email.header") 194, code := .ref 121 } }) ::
  (nat_lit 123, { cls := .type "tuple", data := .seq #[.int 0 339] }) ::
  (nat_lit 124, { cls := .type "tuple", data := .seq #[] }) ::
  (nat_lit 126, { cls := .type "tuple", data := .seq #[.str (Str.ofString "self") 343, .str (Str.ofString "i") 344, .str (Str.ofString "popped") 345] }) ::
  (nat_lit 127, { cls := .type "tuple", data := .seq #[] }) ::
  (nat_lit 129, { cls := .type "code", data := .fields #[.str (Str.ofString "pop_from") 340, .str (Str.ofString "_Accumulator.pop_from") 341, .str (Str.ofString "/claim/cut.py") 342, .int 82 0, .int 2 0, .int 0 0, .int 0 0, .int 3 0, .ref 124, .bool true, .int 181 0, .ref 125, .none, .ref 126, .ref 127, .ref 128, .int 346 0, .int 82 0, .str (Str.ofString "/claim/cut.py") 347] }) ::
  (nat_lit 130, letI pa : Arguments := _; letI pb : List Stmt := _; letI ps : Scope := _; haveI : fnA (clsS 5 2) = pa := (by conv => lhs; whnf); haveI : fnB (clsS 5 2) = pb := (by conv => lhs; whnf); haveI : fnS (clsS 5 2) = ps := (by conv => lhs; whnf); { cls := .type "function", data := .func { name := Str.ofString "pop_from", qualname := Str.ofString "_Accumulator.pop_from", params := pa, body := .stmts pb, scope := ps, globals := 3, closure := [], defaults := .ref 123, kwdefaults := .none, pyModule := .str (Str.ofString "cpy313.email.header") 194, code := .ref 129 } }) ::
  (nat_lit 131, { cls := .type "tuple", data := .seq #[.ref 102] }) ::
  (nat_lit 132, { cls := .type "tuple", data := .seq #[.str (Str.ofString "__class__") 352] }) ::
  (nat_lit 134, { cls := .type "tuple", data := .seq #[.str (Str.ofString "self") 353] }) ::
  (nat_lit 135, { cls := .type "tuple", data := .seq #[] }) ::
  (nat_lit 137, { cls := .type "code", data := .fields #[.str (Str.ofString "pop") 349, .str (Str.ofString "_Accumulator.pop") 350, .str (Str.ofString "/claim/cut.py") 351, .int 87 0, .int 1 0, .int 0 0, .int 0 0, .int 3 0, .ref 132, .bool true, .int 181 0, .ref 133, .none, .ref 134, .ref 135, .ref 136, .int 354 0, .int 87 0, .str (Str.ofString "/claim/cut.py") 355] }) ::
  (nat_lit 138, letI pa : Arguments := _; letI pb : List Stmt := _; letI ps : Scope := _; haveI : fnA (clsS 5 3) = pa := (by conv => lhs; whnf); haveI : fnB (clsS 5 3) = pb := (by conv => lhs; whnf); haveI : fnS (clsS 5 3) = ps := (by conv => lhs; whnf); { cls := .type "function", data := .func { name := Str.ofString "pop", qualname := Str.ofString "_Accumulator.pop", params := pa, body := .stmts pb, scope := ps, globals := 3, closure := [(Str.ofString "__class__", 102)], defaults := .none, kwdefaults := .none, pyModule := .str (Str.ofString "cpy313.email.header") 194, code := .ref 137, closureTuple := .ref 131 } }) ::
  (nat_lit 139, { cls := .type "tuple", data := .seq #[] }) ::
  (nat_lit 141, { cls := .type "tuple", data := .seq #[.str (Str.ofString "self") 360] }) ::
  (nat_lit 142, { cls := .type "tuple", data := .seq #[] }) ::
  (nat_lit 144, { cls := .type "code", data := .fields #[.str (Str.ofString "__len__") 357, .str (Str.ofString "_Accumulator.__len__") 358, .str (Str.ofString "/claim/cut.py") 359, .int 92 0, .int 1 0, .int 0 0, .int 0 0, .int 3 0, .ref 139, .bool true, .int 181 0, .ref 140, .none, .ref 141, .ref 142, .ref 143, .int 361 0, .int 92 0, .str (Str.ofString "/claim/cut.py") 362] }) ::
  (nat_lit 145, letI pa : Arguments := _; letI pb : List Stmt := _; letI ps : Scope := _; haveI : fnA (clsS 5 4) = pa := (by conv => lhs; whnf); haveI : fnB (clsS 5 4) = pb := (by conv => lhs; whnf); haveI : fnS (clsS 5 4) = ps := (by conv => lhs; whnf); { cls := .type "function", data := .func { name := Str.ofString "__len__", qualname := Str.ofString "_Accumulator.__len__", params := pa, body := .stmts pb, scope := ps, globals := 3, closure := [], defaults := .none, kwdefaults := .none, pyModule := .str (Str.ofString "cpy313.email.header") 194, code := .ref 144 } }) ::
  (nat_lit 146, { cls := .type "tuple", data := .seq #[] }) ::
  (nat_lit 148, { cls := .type "tuple", data := .seq #[.str (Str.ofString "self") 367] }) ::
  (nat_lit 149, { cls := .type "tuple", data := .seq #[] }) ::
  (nat_lit 151, { cls := .type "code", data := .fields #[.str (Str.ofString "__str__") 364, .str (Str.ofString "_Accumulator.__str__") 365, .str (Str.ofString "/claim/cut.py") 366, .int 95 0, .int 1 0, .int 0 0, .int 0 0, .int 3 0, .ref 146, .bool true, .int 181 0, .ref 147, .none, .ref 148, .ref 149, .ref 150, .int 368 0, .int 95 0, .str (Str.ofString "/claim/cut.py") 369] }) ::
  (nat_lit 152, letI pa : Arguments := _; letI pb : List Stmt := _; letI ps : Scope := _; haveI : fnA (clsS 5 5) = pa := (by conv => lhs; whnf); haveI : fnB (clsS 5 5) = pb := (by conv => lhs; whnf); haveI : fnS (clsS 5 5) = ps := (by conv => lhs; whnf); { cls := .type "function", data := .func { name := Str.ofString "__str__", qualname := Str.ofString "_Accumulator.__str__", params := pa, body := .stmts pb, scope := ps, globals := 3, closure := [], defaults := .none, kwdefaults := .none, pyModule := .str (Str.ofString "cpy313.email.header") 194, code := .ref 151 } }) ::
  (nat_lit 153, { cls := .type "tuple", data := .seq #[.none] }) ::
  (nat_lit 154, { cls := .type "tuple", data := .seq #[] }) ::
  (nat_lit 156, { cls := .type "tuple", data := .seq #[.str (Str.ofString "self") 374, .str (Str.ofString "startval") 375] }) ::
  (nat_lit 157, { cls := .type "tuple", data := .seq #[] }) ::
  (nat_lit 159, { cls := .type "code", data := .fields #[.str (Str.ofString "reset") 371, .str (Str.ofString "_Accumulator.reset") 372, .str (Str.ofString "/claim/cut.py") 373, .int 98 0, .int 2 0, .int 0 0, .int 0 0, .int 3 0, .ref 154, .bool true, .int 181 0, .ref 155, .none, .ref 156, .ref 157, .ref 158, .int 376 0, .int 98 0, .str (Str.ofString "/claim/cut.py") 377] }) ::
  (nat_lit 160, letI pa : Arguments := _; letI pb : List Stmt := _; letI ps : Scope := _; haveI : fnA (clsS 5 6) = pa := (by conv => lhs; whnf); haveI : fnB (clsS 5 6) = pb := (by conv => lhs; whnf); haveI : fnS (clsS 5 6) = ps := (by conv => lhs; whnf); { cls := .type "function", data := .func { name := Str.ofString "reset", qualname := Str.ofString "_Accumulator.reset", params := pa, body := .stmts pb, scope := ps, globals := 3, closure := [], defaults := .ref 153, kwdefaults := .none, pyModule := .str (Str.ofString "cpy313.email.header") 194, code := .ref 159 } }) ::
  (nat_lit 161, { cls := .type "tuple", data := .seq #[] }) ::
  (nat_lit 163, { cls := .type "tuple", data := .seq #[.str (Str.ofString "self") 382] }) ::
  (nat_lit 164, { cls := .type "tuple", data := .seq #[] }) ::
  (nat_lit 166, { cls := .type "code", data := .fields #[.str (Str.ofString "is_onlyws") 379, .str (Str.ofString "_Accumulator.is_onlyws") 380, .str (Str.ofString "/claim/cut.py") 381, .int 104 0, .int 1 0, .int 0 0, .int 0 0, .int 3 0, .ref 161, .bool true, .int 181 0, .ref 162, .none, .ref 163, .ref 164, .ref 165, .int 383 0, .int 104 0, .str (Str.ofString "/claim/cut.py") 384] }) ::
  (nat_lit 167, letI pa : Arguments := _; letI pb : List Stmt := _; letI ps : Scope := _; haveI : fnA (clsS 5 7) = pa := (by conv => lhs; whnf); haveI : fnB (clsS 5 7) = pb := (by conv => lhs; whnf); haveI : fnS (clsS 5 7) = ps := (by conv => lhs; whnf); { cls := .type "function", data := .func { name := Str.ofString "is_onlyws", qualname := Str.ofString "_Accumulator.is_onlyws", params := pa, body := .stmts pb, scope := ps, globals := 3, closure := [], defaults := .none, kwdefaults := .none, pyModule := .str (Str.ofString "cpy313.email.header") 194, code := .ref 166 } }) ::
  (nat_lit 168, { cls := .type "tuple", data := .seq #[.ref 102] }) ::
  (nat_lit 169, { cls := .type "tuple", data := .seq #[.str (Str.ofString "__class__") 389] }) ::
  (nat_lit 171, { cls := .type "tuple", data := .seq #[.str (Str.ofString "self") 390] }) ::
  (nat_lit 172, { cls := .type "tuple", data := .seq #[] }) ::
  (nat_lit 174, { cls := .type "code", data := .fields #[.str (Str.ofString "part_count") 386, .str (Str.ofString "_Accumulator.part_count") 387, .str (Str.ofString "/claim/cut.py") 388, .int 107 0, .int 1 0, .int 0 0, .int 0 0, .int 3 0, .ref 169, .bool true, .int 181 0, .ref 170, .none, .ref 171, .ref 172, .ref 173, .int 391 0, .int 107 0, .str (Str.ofString "/claim/cut.py") 392] }) ::
  (nat_lit 175, letI pa : Arguments := _; letI pb : List Stmt := _; letI ps : Scope := _; haveI : fnA (clsS 5 8) = pa := (by conv => lhs; whnf); haveI : fnB (clsS 5 8) = pb := (by conv => lhs; whnf); haveI : fnS (clsS 5 8) = ps := (by conv => lhs; whnf); { cls := .type "function", data := .func { name := Str.ofString "part_count", qualname := Str.ofString "_Accumulator.part_count", params := pa, body := .stmts pb, scope := ps, globals := 3, closure := [(Str.ofString "__class__", 102)], defaults := .none, kwdefaults := .none, pyModule := .str (Str.ofString "cpy313.email.header") 194, code := .ref 174, closureTuple := .ref 168 } }) ::
  (nat_lit 176, { cls := .type "tuple", data := .seq #[.str (Str.ofString "_initial_size") 394] }) ::
  (nat_lit 177, { cls := .type "dict", data := .dict #[{ hash := PyData.keyHash P (Str.ofString "__module__"), key := .str (Str.ofString "__module__") 315, val := .str (Str.ofString "cpy313.email.header") 194 }, { hash := PyData.keyHash P (Str.ofString "__firstlineno__"), key := .str (Str.ofString "__firstlineno__") 319, val := .int 73 318 }, { hash := PyData.keyHash P (Str.ofString "__init__"), key := .str (Str.ofString "__init__") 329, val := .ref 115 }, { hash := PyData.keyHash P (Str.ofString "push"), key := .str (Str.ofString "push") 338, val := .ref 122 }, { hash := PyData.keyHash P (Str.ofString "pop_from"), key := .str (Str.ofString "pop_from") 348, val := .ref 130 }, { hash := PyData.keyHash P (Str.ofString "pop"), key := .str (Str.ofString "pop") 356, val := .ref 138 }, { hash := PyData.keyHash P (Str.ofString "__len__"), key := .str (Str.ofString "__len__") 363, val := .ref 145 }, { hash := PyData.keyHash P (Str.ofString "__str__"), key := .str (Str.ofString "__str__") 370, val := .ref 152 }, { hash := PyData.keyHash P (Str.ofString "reset"), key := .str (Str.ofString "reset") 378, val := .ref 160 }, { hash := PyData.keyHash P (Str.ofString "is_onlyws"), key := .str (Str.ofString "is_onlyws") 385, val := .ref 167 }, { hash := PyData.keyHash P (Str.ofString "part_count"), key := .str (Str.ofString "part_count") 393, val := .ref 175 }, { hash := PyData.keyHash P (Str.ofString "__static_attributes__"), key := .str (Str.ofString "__static_attributes__") 395, val := .ref 176 }, { hash := PyData.keyHash P (Str.ofString "__dict__"), key := .str (Str.ofString "__dict__") 398, val := .ref 179 }, { hash := PyData.keyHash P (Str.ofString "__weakref__"), key := .str (Str.ofString "__weakref__") 400, val := .ref 180 }, { hash := PyData.keyHash P (Str.ofString "__doc__"), key := .str (Str.ofString "__doc__") 401, val := .none }] 5 }) ::
  (nat_lit 178, { cls := .type "type", data := .cls { name := Str.ofString "_Accumulator", bases := [.type "list"], mro := [.ref 178, .type "list", .type "object"], ns := 177, qualname := Str.ofString "_Accumulator" }, slots := #[some (.ref 99), none, some (.str (Str.ofString "_Accumulator") 308), some (.str (Str.ofString "_Accumulator") 316), some (.builtin "list.__new__"), some (.bool true)] }) ::
  (nat_lit 179, { cls := .type "getset_descriptor", data := .fields #[.str (Str.ofString "__dict__") 397, .ref 178, .builtin "function.__dict__", .builtin "function.__dict__#set"] }) ::
  (nat_lit 180, { cls := .type "getset_descriptor", data := .fields #[.str (Str.ofString "__weakref__") 399, .ref 178, .builtin "ExceptionGroup.__weakref__", .none] }) ::
  (nat_lit 183, { cls := .type "tuple", data := .seq #[] }) ::
  (nat_lit 185, { cls := .type "tuple", data := .seq #[.str (Str.ofString "addr") 409, .str (Str.ofString "pos") 410, .str (Str.ofString "escape") 411, .str (Str.ofString "ch") 412] }) ::
  (nat_lit 186, { cls := .type "tuple", data := .seq #[] }) ::
  (nat_lit 188, { cls := .type "code", data := .fields #[.str (Str.ofString "_iter_escaped_chars") 406, .str (Str.ofString "_iter_escaped_chars") 407, .str (Str.ofString "/claim/cut.py") 408, .int 110 0, .int 1 0, .int 0 0, .int 0 0, .int 35 0, .ref 183, .bool true, .int 181 0, .ref 184, .none, .ref 185, .ref 186, .ref 187, .int 413 0, .int 110 0, .str (Str.ofString "/claim/cut.py") 414] }) ::
  (nat_lit 189, letI pa : Arguments := _; letI pb : List Stmt := _; letI ps : Scope := _; haveI : fnA (topS 7) = pa := (by conv => lhs; whnf); haveI : fnB (topS 7) = pb := (by conv => lhs; whnf); haveI : fnS (topS 7) = ps := (by conv => lhs; whnf); { cls := .type "function", data := .func { name := Str.ofString "_iter_escaped_chars", qualname := Str.ofString "_iter_escaped_chars", params := pa, body := .stmts pb, scope := ps, globals := 3, closure := [], defaults := .none, kwdefaults := .none, pyModule := .str (Str.ofString "cpy313.email.utils") 404, code := .ref 188 } }) ::
  (nat_lit 190, { cls := .type "tuple", data := .seq #[] }) ::
  (nat_lit 192, { cls := .type "tuple", data := .seq #[.str (Str.ofString "addr") 419, .str (Str.ofString "start") 420, .str (Str.ofString "open_pos") 421, .str (Str.ofString "result") 422, .str (Str.ofString "pos") 423, .str (Str.ofString "ch") 424] }) ::
  (nat_lit 193, { cls := .type "tuple", data := .seq #[] }) ::
  (nat_lit 195, { cls := .type "code", data := .fields #[.str (Str.ofString "_strip_quoted_realnames") 416, .str (Str.ofString "_strip_quoted_realnames") 417, .str (Str.ofString "/claim/cut.py") 418, .int 123 0, .int 1 0, .int 0 0, .int 0 0, .int 3 0, .ref 190, .bool true, .int 181 0, .ref 191, .none, .ref 192, .ref 193, .ref 194, .int 425 0, .int 123 0, .str (Str.ofString "/claim/cut.py") 426] }) ::
  (nat_lit 196, letI pa : Arguments := _; letI pb : List Stmt := _; letI ps : Scope := _; haveI : fnA (topS 8) = pa := (by conv => lhs; whnf); haveI : fnB (topS 8) = pb := (by conv => lhs; whnf); haveI : fnS (topS 8) = ps := (by conv => lhs; whnf); { cls := .type "function", data := .func { name := Str.ofString "_strip_quoted_realnames", qualname := Str.ofString "_strip_quoted_realnames", params := pa, body := .stmts pb, scope := ps, globals := 3, closure := [], defaults := .none, kwdefaults := .none, pyModule := .str (Str.ofString "cpy313.email.utils") 404, code := .ref 195 } }) ::
  (nat_lit 197, { cls := .type "tuple", data := .seq #[] }) ::
  (nat_lit 199, { cls := .type "tuple", data := .seq #[.str (Str.ofString "addr") 431, .str (Str.ofString "opens") 432, .str (Str.ofString "pos") 433, .str (Str.ofString "ch") 434] }) ::
  (nat_lit 200, { cls := .type "tuple", data := .seq #[] }) ::
  (nat_lit 202, { cls := .type "code", data := .fields #[.str (Str.ofString "_check_parenthesis") 428, .str (Str.ofString "_check_parenthesis") 429, .str (Str.ofString "/claim/cut.py") 430, .int 141 0, .int 1 0, .int 0 0, .int 0 0, .int 3 0, .ref 197, .bool true, .int 181 0, .ref 198, .none, .ref 199, .ref 200, .ref 201, .int 435 0, .int 141 0, .str (Str.ofString "/claim/cut.py") 436] }) ::
  (nat_lit 203, letI pa : Arguments := _; letI pb : List Stmt := _; letI ps : Scope := _; haveI : fnA (topS 9) = pa := (by conv => lhs; whnf); haveI : fnB (topS 9) = pb := (by conv => lhs; whnf); haveI : fnS (topS 9) = ps := (by conv => lhs; whnf); { cls := .type "function", data := .func { name := Str.ofString "_check_parenthesis", qualname := Str.ofString "_check_parenthesis", params := pa, body := .stmts pb, scope := ps, globals := 3, closure := [], defaults := .none, kwdefaults := .none, pyModule := .str (Str.ofString "cpy313.email.utils") 404, code := .ref 202 } }) ::
  (nat_lit 204, { cls := .type "tuple", data := .seq #[] }) ::
  (nat_lit 206, { cls := .type "tuple", data := .seq #[.str (Str.ofString "numbers") 443, .str (Str.ofString "words") 444, .str (Str.ofString "outside") 445, .str (Str.ofString "seen") 446, .str (Str.ofString "inside") 447, .str (Str.ofString "depth") 448, .str (Str.ofString "n") 449, .str (Str.ofString "word") 450, .str (Str.ofString "figure") 451, .str (Str.ofString "unit") 452] }) ::
  (nat_lit 207, { cls := .type "tuple", data := .seq #[] }) ::
  (nat_lit 209, { cls := .type "code", data := .fields #[.str (Str.ofString "_law_words") 440, .str (Str.ofString "_law_words") 441, .str (Str.ofString "/claim/cut.py") 442, .int 153 0, .int 1 0, .int 0 0, .int 0 0, .int 3 0, .ref 204, .bool true, .int 181 0, .ref 205, .none, .ref 206, .ref 207, .ref 208, .int 453 0, .int 153 0, .str (Str.ofString "/claim/cut.py") 454] }) ::
  (nat_lit 210, letI pa : Arguments := _; letI pb : List Stmt := _; letI ps : Scope := _; haveI : fnA (topS 11) = pa := (by conv => lhs; whnf); haveI : fnB (topS 11) = pb := (by conv => lhs; whnf); haveI : fnS (topS 11) = ps := (by conv => lhs; whnf); { cls := .type "function", data := .func { name := Str.ofString "_law_words", qualname := Str.ofString "_law_words", params := pa, body := .stmts pb, scope := ps, globals := 3, closure := [], defaults := .none, kwdefaults := .none, pyModule := .str (Str.ofString "law_pe0220_01") 438, code := .ref 209 } }) ::
  (nat_lit 211, { cls := .type "tuple", data := .seq #[] }) ::
  (nat_lit 213, { cls := .type "tuple", data := .seq #[.str (Str.ofString "words") 459, .str (Str.ofString "spans") 460, .str (Str.ofString "start") 461, .str (Str.ofString "stop") 462] }) ::
  (nat_lit 214, { cls := .type "tuple", data := .seq #[] }) ::
  (nat_lit 216, { cls := .type "code", data := .fields #[.str (Str.ofString "_law_spans") 456, .str (Str.ofString "_law_spans") 457, .str (Str.ofString "/claim/cut.py") 458, .int 182 0, .int 1 0, .int 0 0, .int 0 0, .int 3 0, .ref 211, .bool true, .int 181 0, .ref 212, .none, .ref 213, .ref 214, .ref 215, .int 463 0, .int 182 0, .str (Str.ofString "/claim/cut.py") 464] }) ::
  (nat_lit 217, letI pa : Arguments := _; letI pb : List Stmt := _; letI ps : Scope := _; haveI : fnA (topS 12) = pa := (by conv => lhs; whnf); haveI : fnB (topS 12) = pb := (by conv => lhs; whnf); haveI : fnS (topS 12) = ps := (by conv => lhs; whnf); { cls := .type "function", data := .func { name := Str.ofString "_law_spans", qualname := Str.ofString "_law_spans", params := pa, body := .stmts pb, scope := ps, globals := 3, closure := [], defaults := .none, kwdefaults := .none, pyModule := .str (Str.ofString "law_pe0220_01") 438, code := .ref 216 } }) ::
  (nat_lit 218, { cls := .type "tuple", data := .seq #[] }) ::
  (nat_lit 220, { cls := .type "tuple", data := .seq #[.str (Str.ofString "words") 469, .str (Str.ofString "safe") 470, .str (Str.ofString "width") 471, .str (Str.ofString "maker") 472, .str (Str.ofString "start") 473, .str (Str.ofString "stop") 474] }) ::
  (nat_lit 221, { cls := .type "tuple", data := .seq #[] }) ::
  (nat_lit 223, { cls := .type "code", data := .fields #[.str (Str.ofString "_law_folded") 466, .str (Str.ofString "_law_folded") 467, .str (Str.ofString "/claim/cut.py") 468, .int 188 0, .int 3 0, .int 0 0, .int 0 0, .int 3 0, .ref 218, .bool true, .int 181 0, .ref 219, .none, .ref 220, .ref 221, .ref 222, .int 475 0, .int 188 0, .str (Str.ofString "/claim/cut.py") 476] }) ::
  (nat_lit 224, letI pa : Arguments := _; letI pb : List Stmt := _; letI ps : Scope := _; haveI : fnA (topS 13) = pa := (by conv => lhs; whnf); haveI : fnB (topS 13) = pb := (by conv => lhs; whnf); haveI : fnS (topS 13) = ps := (by conv => lhs; whnf); { cls := .type "function", data := .func { name := Str.ofString "_law_folded", qualname := Str.ofString "_law_folded", params := pa, body := .stmts pb, scope := ps, globals := 3, closure := [], defaults := .none, kwdefaults := .none, pyModule := .str (Str.ofString "law_pe0220_01") 438, code := .ref 223 } }) ::
  (nat_lit 225, { cls := .type "tuple", data := .seq #[] }) ::
  (nat_lit 228, { cls := .type "code", data := .fields #[.str (Str.ofString "_law_ways") 478, .str (Str.ofString "_law_ways") 479, .str (Str.ofString "/claim/cut.py") 480, .int 196 0, .int 5 0, .int 0 0, .int 0 0, .int 3 0, .ref 225, .bool true, .int 181 0, .ref 226, .none, .none, .none, .ref 227, .int 481 0, .int 196 0, .str (Str.ofString "/claim/cut.py") 482] }) ::
  (nat_lit 229, letI pa : Arguments := _; letI pb : List Stmt := _; letI ps : Scope := _; haveI : fnA (topS 14) = pa := (by conv => lhs; whnf); haveI : fnB (topS 14) = pb := (by conv => lhs; whnf); haveI : fnS (topS 14) = ps := (by conv => lhs; whnf); { cls := .type "function", data := .func { name := Str.ofString "_law_ways", qualname := Str.ofString "_law_ways", params := pa, body := .stmts pb, scope := ps, globals := 3, closure := [], defaults := .none, kwdefaults := .none, pyModule := .str (Str.ofString "law_pe0220_01") 438, code := .ref 228 } }) ::
  (nat_lit 230, { cls := .type "tuple", data := .seq #[] }) ::
  (nat_lit 233, { cls := .type "code", data := .fields #[.str (Str.ofString "law") 484, .str (Str.ofString "law") 485, .str (Str.ofString "/claim/cut.py") 486, .int 206 0, .int 1 0, .int 0 0, .int 0 0, .int 3 0, .ref 230, .bool true, .int 181 0, .ref 231, .none, .none, .none, .ref 232, .int 487 0, .int 206 0, .str (Str.ofString "/claim/cut.py") 488] }) ::
  (nat_lit 234, letI pa : Arguments := _; letI pb : List Stmt := _; letI ps : Scope := _; haveI : fnA (topS 15) = pa := (by conv => lhs; whnf); haveI : fnB (topS 15) = pb := (by conv => lhs; whnf); haveI : fnS (topS 15) = ps := (by conv => lhs; whnf); { cls := .type "function", data := .func { name := Str.ofString "law", qualname := Str.ofString "law", params := pa, body := .stmts pb, scope := ps, globals := 3, closure := [], defaults := .none, kwdefaults := .none, pyModule := .str (Str.ofString "law_pe0220_01") 438, code := .ref 233 } }) :: []
noncomputable def viewK : Program := letI b0 : Stmt := _; letI b2 : Stmt := _; letI b3 : Stmt := _; letI b4 : Stmt := _; letI b5 : Stmt := _; letI b7 : Stmt := _; letI b8 : Stmt := _; letI b9 : Stmt := _; letI b11 : Stmt := _; letI b12 : Stmt := _; letI b13 : Stmt := _; letI b14 : Stmt := _; letI b15 : Stmt := _; haveI : topS 0 = b0 := (by conv => lhs; whnf); haveI : topS 2 = b2 := (by conv => lhs; whnf); haveI : topS 3 = b3 := (by conv => lhs; whnf); haveI : topS 4 = b4 := (by conv => lhs; whnf); haveI : topS 5 = b5 := (by conv => lhs; whnf); haveI : topS 7 = b7 := (by conv => lhs; whnf); haveI : topS 8 = b8 := (by conv => lhs; whnf); haveI : topS 9 = b9 := (by conv => lhs; whnf); haveI : topS 11 = b11 := (by conv => lhs; whnf); haveI : topS 12 = b12 := (by conv => lhs; whnf); haveI : topS 13 = b13 := (by conv => lhs; whnf); haveI : topS 14 = b14 := (by conv => lhs; whnf); haveI : topS 15 = b15 := (by conv => lhs; whnf); { PySem.Challenge.pw_pe0220_01 with main := { PySem.Challenge.pw_pe0220_01.main with body := [b0, b2, b3, b4, b5, b7, b8, b9, b11, b12, b13, b14, b15] } }

end Mine
end
section
open PySem PySem.W PyProof.Rows PySem.Calls
namespace Mine
noncomputable abbrev tabObj (ps : Array Value) : Obj := { cls := .none, data := .fields ps }
noncomputable def K2 (P : Params) : Frag := heapK P ++ [(140, tabObj #[]), (147, tabObj #[])]
noncomputable def as2 : List Addr := ((heapK { strHash := fun _ => 0, shareClass := fun _ => 0, mergeTok := fun t => t, idOf := fun _ => 0, idOfShared := fun _ _ => 0, followText := fun _ => false, idOfImm := fun _ => 0 }).map (·.1)) ++ [140, 147]
theorem as2_is : ∀ P, as2 = (K2 P).map (·.1) := fun _ => by kernel_rfl

end Mine
end
section
open PySem PySem.W PyProof.Rows PySem.Calls
namespace Mine
set_option maxRecDepth 100000
set_option maxHeartbeats 8000000
theorem head_hl (w : World) : Option.map (fun s => (openSeen viewK [Str.ofString "_Accumulator"] (importedModules PySem.Challenge.rw_pe0220_01.row.prog.main.body) (fun s => xlAt viewK [] s && recOk (RowW.records PySem.Challenge.rw_pe0220_01.row.toRowW) s) true s, Hook.obs (kHook K2 as2 as2_is) s)) (openEnds treeTable PySem.Challenge.rw_pe0220_01.row.prog w 2776) = some (openGood viewK [Str.ofString "_Accumulator"], Hook.val (kHook K2 as2 as2_is) w) := by kernel_rfl
theorem head_said : PySem.Challenge.rw_pe0220_01.wellSaid = true := by kernel_rfl

end Mine
end
section
open PySem PySem.W PyProof.Rows
namespace Mine
set_option maxRecDepth 100000
set_option maxHeartbeats 8000000

noncomputable abbrev PR : Program := PySem.Challenge.rw_pe0220_01.row.prog
noncomputable abbrev LOO : List Str := looseW viewK [Str.ofString "_Accumulator"]

structure Cx (w : World) (mg mb : Str → Option Value) (h : Heap) : Prop where
  X : (heapK w.params).In h
  T : TopRead viewK LOO mg mb h

theorem Cx.keeps {w : World} {mg mb : Str → Option Value} {h h' : Heap} (C : Cx w mg mb h) (hk : ∀ b o, h.get? b = some o → h'.get? b = some o) : Cx w mg mb h' :=
  ⟨C.X.keeps hk, C.T.keeps hk⟩

theorem enter_def {prog : Program} {w : World} {A : Around} {s : Shared} {K : Frag} {R : Result → Shared → Prop} {name qual : Str} {params : Arguments} {body : List Stmt} {scope : Scope} {dV kV doc pm cdv ct oc : Value}
    {an od : Option Addr} {osl : Array (Option Value)} {f : Addr} {args : Args} {binds : List (Str × Value)}
    (X : K.In s.heap) (hlim : s.heap.NoLimit)
    (ho : K.lookup f = some ⟨oc, od, .func (fnOf name qual params body scope dV kV doc pm an cdv ct), osl⟩) (hcd : codeIn K cdv qual = true) (hroom : A.depth < recursionLimit)
    (hbind : BindsTo s (fnOf name qual params body scope dV kV doc pm an cdv ct) args binds) (hloc : ∀ y ∈ binds, scope.names.lookup y.1 = some .local)
    (h : ∀ L h₁, Fr s.heap L h₁ (fun y => binds.reverse.lookup y) → L = s.heap.objs.size →
      wpAny (model prog w) (A.deeper (envOf qual scope L f cdv)) (execs body (envOf qual scope L f cdv))
        (fun fl s' => R (.ok (.ret (match fl with | .ret v => v | _ => .none))) s')
        (fun e s' => wpAny (model prog w) (A.deeper (envOf qual scope L f cdv)) (leaving (envOf qual scope L f cdv) e) (fun _ s'' => R (.error e) s'') (fun e' s'' => R (.error e') s'') s')
        { s with heap := h₁, toks := s.toks + binds.length })
    (hco : scope.isCoroutine = false) (hgen : scope.isGenerator = false) (hk : scope.kind = .function)
    (hcell : ∀ x ∈ scope.names, x.2 ≠ .cell) : codeAny (model prog w) A (.call (.ref f) args) R s := by
  refine codeAny_call_def (fd := fnOf name qual params body scope dV kV doc pm an cdv ct) (body := body) (binds := binds) hroom (X _ _ ho) rfl hlim (codeRec_of X hcd) rfl hbind hcell hloc (fun h₁ hns hk₁ => ?_) hco hgen hk
  exact h s.heap.objs.size h₁ ⟨hns, hk₁, Nat.le_refl _⟩ rfl
/-! small lemmas of order: they stand in for the long proofs of a decision procedure -/
theorem min_sub {a n i k : Nat} (h : n ≤ k) : min a (n - i) ≤ k := Nat.le_trans (Nat.min_le_right _ _) (Nat.le_trans (Nat.sub_le _ _) h)
theorem three {n m X Y : Nat} (h : n ≤ 1000) (h2 : m ≤ 1000) : min X n - 0 + m + (min n n - Y) ≤ 16777216 + 1 :=
  Nat.le_trans (Nat.add_le_add (Nat.add_le_add (Nat.le_trans (Nat.sub_le _ _) (Nat.le_trans (Nat.min_le_right _ _) h)) h2) (Nat.le_trans (Nat.sub_le _ _) (Nat.le_trans (Nat.min_le_left _ _) h))) (Nat.le_of_ble_eq_true rfl)
theorem sub_pred {l j : Nat} (h : j < l) : l - j = l - j - 1 + 1 := (Nat.succ_pred_eq_of_pos (Nat.sub_pos_of_lt h)).symm
theorem sub_next {l j m : Nat} (h : l - j = m + 1) : l - (j + 1) = m := (congrArg Nat.pred h : Nat.pred (l - j) = m)
theorem sub_back {l j m : Nat} (h : j < l) (h1 : l - j = m + 1) : l - 1 - (m + 1 - 1) = j := by
  have e : l = m + 1 + j := Nat.eq_add_of_sub_eq (Nat.le_of_lt h) h1
  subst e
  show m + 1 + j - 1 - m = j
  rw [Nat.add_right_comm, Nat.add_sub_cancel, Nat.add_sub_cancel_left]
theorem lt_back {n i : Nat} (h : i < n) : n + 1 - (i + 1) < n + 1 - i := by
  rw [Nat.succ_sub_succ, Nat.succ_sub (Nat.le_of_lt h)]; exact Nat.lt_succ_self _
theorem sub_split {a b c : Nat} (h1 : a ≤ b) (h2 : b ≤ c) : c - a = b - a + (c - b) :=
  ((Nat.add_comm _ _).trans (Nat.sub_add_sub_cancel h2 h1)).symm
theorem span_step {i j b : Nat} (hb : i + 1 + j = b) (a' b' : Nat) (h : a' < i ∨ a' = i ∧ b' ≤ i + (j + 1)) : a' = i ∧ b' = b ∨ (a' < i ∨ a' = i ∧ b' ≤ i + j) :=
  h.elim (fun h => .inr (.inl h)) fun h => (Nat.lt_or_ge (i + j) b').elim
    (fun h3 => .inl ⟨h.1, hb ▸ Nat.le_antisymm (Nat.le_trans h.2 (Nat.le_of_eq (by rw [Nat.add_right_comm]; rfl))) (Nat.le_trans (Nat.le_of_eq (by rw [Nat.add_right_comm])) h3)⟩)
    (fun h3 => .inr (.inr ⟨h.1, h3⟩))
theorem six {f : Int} (h0 : 0 ≤ f) (h6 : f < 6) : f = 0 ∨ f = 1 ∨ f = 2 ∨ f = 3 ∨ f = 4 ∨ f = 5 := by
  obtain ⟨k, rfl⟩ := Int.eq_ofNat_of_zero_le h0
  exact (by decide : ∀ k : Fin 6, ((k.val : Nat) : Int) = 0 ∨ ((k.val : Nat) : Int) = 1 ∨ ((k.val : Nat) : Int) = 2 ∨ ((k.val : Nat) : Int) = 3 ∨ ((k.val : Nat) : Int) = 4 ∨ ((k.val : Nat) : Int) = 5) ⟨k, Int.ofNat_lt.mp h6⟩
theorem pop_toNat {n : Nat} : ((-1 : Int) + (n : Int)).toNat = n - 1 := (congrArg Int.toNat (Int.add_comm (-1) (n : Int))).trans (Int.toNat_sub n 1)
theorem max_min {l : Nat} : max 0 (min (if (l : Int) < 0 then (l : Int) + ((l : Int) + 1) else (l : Int)) ((l : Int) + 1)) = (l : Int) := by
  rw [if_neg (Int.not_lt.mpr (Int.natCast_nonneg l)), Int.min_eq_left (Int.le_of_lt (Int.lt_succ _)), Int.max_eq_right (Int.natCast_nonneg _)]
theorem max_succ {l : Nat} : (max (l : Int) ((l + 1 : Nat) : Int)).toNat = l + 1 := by
  rw [Int.max_eq_right (Int.ofNat_le.mpr (Nat.le_succ _))]; rfl
theorem pair_inj {n a b a' b' : Nat} (h2 : b ≤ n) (h7 : n ≤ 7) (q2 : b' ≤ n) (q3 : ((8 * a + b : Nat) : Int) = 8 * (a' : Int) + (b' : Int)) : a' = a ∧ b' = b := by
  have e : 8 * a + b = 8 * a' + b' := Int.ofNat.inj q3
  have e8 : ∀ c, c ≤ n → c % 8 = c := fun c h => Nat.mod_eq_of_lt (Nat.lt_succ_of_le (Nat.le_trans h h7))
  have eb : b' = b := (e8 b' q2).symm.trans ((Nat.mul_add_mod 8 a' b').symm.trans ((congrArg (· % 8) e.symm).trans ((Nat.mul_add_mod 8 a b).trans (e8 b h2))))
  subst eb
  exact ⟨(Nat.eq_of_mul_eq_mul_left (by decide) (Nat.add_right_cancel e)).symm, rfl⟩
theorem to5 {n : Nat} (h1 : 1 ≤ n) (h5 : n ≤ 5) : n = 1 ∨ n = 2 ∨ n = 3 ∨ n = 4 ∨ n = 5 :=
  (by decide : ∀ k : Fin 6, 1 ≤ k.val → k.val = 1 ∨ k.val = 2 ∨ k.val = 3 ∨ k.val = 4 ∨ k.val = 5) ⟨n, Nat.lt_succ_of_le h5⟩ h1
theorem cast_pred {n : Nat} (h : 1 ≤ n) : (n : Int) = 1 + ((n - 1 : Nat) : Int) := by
  obtain ⟨m, rfl⟩ := Nat.exists_eq_add_of_le h
  rw [Nat.add_sub_cancel_left]; rfl
theorem key_nat {a b : Nat} : (((8 * a + b : Nat) : Nat) : Int) = (a : Int) * 8 + (b : Int) := congrArg (fun z : Nat => ((z + b : Nat) : Int)) (Nat.mul_comm 8 a)
theorem mid1 {a b i : Nat} (h : i < b - 1 - a) : a + i + 1 < b := by
  have q := Nat.add_lt_of_lt_sub (Nat.add_lt_of_lt_sub h)
  rw [Nat.add_comm a i]; exact q
theorem mid2 {a k : Nat} (h : a < k) : a + (k - a - 1) + 1 = k := by
  rw [Nat.add_assoc, ← sub_pred h]; exact Nat.add_sub_of_le (Nat.le_of_lt h)
theorem mid3 {a b k : Nat} (h1 : a < k) (h2 : k < b) : k - a - 1 < b - 1 - a := by
  rw [Nat.sub_right_comm b 1 a]
  exact Nat.sub_lt_sub_right (Nat.sub_pos_of_lt h1) (Nat.sub_lt_sub_right (Nat.le_of_lt h1) h2)
theorem span_end {a b i n : Nat} (hi : i < n) (hb : b ≤ n) (h : a < i + 1) : a < i ∨ (a = i ∧ b ≤ i + (n - i)) :=
  (Nat.lt_succ_iff_lt_or_eq.mp h).imp id fun e => ⟨e, by rw [Nat.add_sub_of_le (Nat.le_of_lt hi)]; exact hb⟩
theorem lastb {i j n b : Nat} (hb : i + 1 + j = b) (hi : i < n) (hj : j < n - i) : b ≤ n := by
  have h := (Nat.le_sub_iff_add_le (Nat.le_of_lt hi)).mp hj
  rw [← hb, Nat.add_right_comm, Nat.add_comm i j, Nat.add_right_comm]; exact h
theorem cast_rest {i n : Nat} (h : i < n) : (n : Int) + 1 = (i : Int) + 1 + ((n - i : Nat) : Int) :=
  (congrArg (fun z : Nat => (z : Int) + 1) (Nat.add_sub_of_le (Nat.le_of_lt h)).symm).trans (Int.add_right_comm (i : Int) ((n - i : Nat) : Int) 1)
theorem len30 {k i j n : Nat} (h : k ≤ 5 * i + j) (hi : i < n) (hj : j < n - i) (h5 : n ≤ 5) : k ≤ 100 :=
  Nat.le_trans h (Nat.le_trans (Nat.add_le_add (Nat.mul_le_mul_left 5 (Nat.le_trans (Nat.le_of_lt hi) h5)) (Nat.le_trans (Nat.le_of_lt hj) (Nat.le_trans (Nat.sub_le _ _) h5))) (Nat.le_of_ble_eq_true rfl))
theorem next5 {k i n : Nat} (h : k ≤ 5 * i + (n - i)) (h5 : n ≤ 5) : k ≤ 5 * (i + 1) :=
  Nat.le_trans h (Nat.add_le_add_left (Nat.le_trans (Nat.sub_le _ _) h5) _)
theorem seen25 {k n : Nat} (h : k ≤ 5 * n) (h5 : n ≤ 5) : k ≤ 25 := Nat.le_trans h (Nat.mul_le_mul_left 5 h5)
theorem join_lim {j s n b c N K : Nat} (h5 : j ≤ s + n * c) (h6 : s ≤ n * b) (h7 : n ≤ N) (e : Nat.ble (N * b + N * c) K = true) : j ≤ K :=
  Nat.le_trans h5 (Nat.le_trans (Nat.add_le_add (Nat.le_trans h6 (Nat.mul_le_mul_right b h7)) (Nat.mul_le_mul_right c h7)) (Nat.le_of_ble_eq_true e))
theorem back_k {n k : Nat} : n + (k + 1) - 1 - k = n := by rw [← Nat.add_assoc, Nat.add_sub_cancel, Nat.add_sub_cancel]
/-! small lemmas that find their premises by themselves -/
def asmT : Lean.Syntax := .node .none `Lean.Parser.Tactic.tacticSeq #[.node .none `Lean.Parser.Tactic.tacticSeq1Indented #[.node .none `null #[.node .none `Lean.Parser.Tactic.assumption #[.atom .none "assumption"]]]]
def decT : Lean.Syntax := .node .none `Lean.Parser.Tactic.tacticSeq #[.node .none `Lean.Parser.Tactic.tacticSeq1Indented #[.node .none `null #[.node .none `Lean.Parser.Tactic.decide #[.atom .none "decide", .node .none `Lean.Parser.Tactic.optConfig #[.node .none `null #[]]]]]]
def rflT : Lean.Syntax := .node .none `Lean.Parser.Tactic.tacticSeq #[.node .none `Lean.Parser.Tactic.tacticSeq1Indented #[.node .none `null #[.node .none `Lean.Parser.Tactic.tacticRfl #[.atom .none "rfl"]]]]
theorem lt_via {a b c : Nat} (h : autoParam (b < c) asmT) (h2 : a < b) : a < c := Nat.lt_trans h2 h
theorem bud {a k j c : Nat} (h : autoParam (a + k < c) asmT) (e : autoParam (Nat.ble j k = true) decT) : a + j < c := Nat.lt_of_le_of_lt (Nat.add_le_add_left (Nat.le_of_ble_eq_true e) a) h
theorem bud0 {a k c : Nat} (h : autoParam (a + k < c) asmT) : a < c := Nat.lt_of_le_of_lt (Nat.le_add_right a k) h
theorem bud2 {a k i j c : Nat} (h : autoParam (a + k < c) asmT) (e : autoParam (Nat.ble (i + j) k = true) decT) : a + i + j < c := by rw [Nat.add_assoc]; exact bud h e
theorem bud3 {a k i j l c : Nat} (h : autoParam (a + k < c) asmT) (e : autoParam (Nat.ble (i + (j + l)) k = true) decT) : a + i + j + l < c := by rw [Nat.add_assoc, Nat.add_assoc]; exact bud h e
theorem lim {a k j : Nat} (h : autoParam (a ≤ k) asmT) (e : autoParam (Nat.ble k j = true) decT) : a ≤ j := Nat.le_trans h (Nat.le_of_ble_eq_true e)
theorem limt {a k j : Nat} (h : autoParam (a ≤ k) asmT) (e : autoParam (Nat.blt k j = true) decT) : a < j := Nat.lt_of_le_of_lt h (Nat.le_of_ble_eq_true e)
theorem low {a k b : Nat} (h : autoParam (k < b) asmT) (e : autoParam (Nat.ble a k = true) decT) : a < b := Nat.lt_of_le_of_lt (Nat.le_of_ble_eq_true e) h
theorem limZ {a k : Nat} {j : Int} (h : autoParam (a ≤ k) asmT) (e : autoParam ((k : Int) ≤ j) decT) : (a : Int) ≤ j := Int.le_trans (Int.ofNat_le.mpr h) e
theorem limZt {a k : Nat} {j : Int} (h : autoParam (a ≤ k) asmT) (e : autoParam ((k : Int) < j) decT) : (a : Int) < j := Int.lt_of_le_of_lt (Int.ofNat_le.mpr h) e
theorem negZ {a : Nat} {j : Int} (e : autoParam (j < 0) decT) : j < (a : Int) := Int.lt_of_lt_of_le e (Int.natCast_nonneg a)
theorem negZe {a : Nat} {j : Int} (e : autoParam (j ≤ 0) decT) : j ≤ (a : Int) := Int.le_trans e (Int.natCast_nonneg a)
theorem lowe {a k b : Nat} (h : autoParam (k ≤ b) asmT) (e : autoParam (Nat.ble a k = true) decT) : a ≤ b := Nat.le_trans (Nat.le_of_ble_eq_true e) h
theorem lowt {a k b : Nat} (h : autoParam (k ≤ b) asmT) (e : autoParam (Nat.blt a k = true) decT) : a < b := Nat.lt_of_lt_of_le (Nat.le_of_ble_eq_true e) h
theorem slt {i n : Nat} (h : autoParam (i < n) asmT) : i + 1 ≤ n := h
theorem les {k i : Nat} (h : autoParam (k ≤ i) asmT) : k ≤ i + 1 := Nat.le_succ_of_le h
theorem eqg {a b : Nat} (h : autoParam (b = a) asmT) : a ≤ b := Nat.le_of_eq h.symm
theorem addl {a b i j k : Nat} (h : autoParam (a ≤ i) asmT) (h2 : autoParam (b ≤ j) asmT) (e : autoParam (Nat.ble (i + j) k = true) decT) : a + b ≤ k := Nat.le_trans (Nat.add_le_add h h2) (Nat.le_of_ble_eq_true e)
theorem lim2 {a b k j : Nat} (h : autoParam (a ≤ b) asmT) (h2 : autoParam (b ≤ k) asmT) (e : autoParam (Nat.ble k j = true) decT) : a ≤ j := Nat.le_trans h (Nat.le_trans h2 (Nat.le_of_ble_eq_true e))
theorem limE {a b k j : Nat} (h : autoParam (a = b) asmT) (h2 : autoParam (b ≤ k) asmT) (e : autoParam (Nat.ble k j = true) decT) : a ≤ j := h ▸ Nat.le_trans h2 (Nat.le_of_ble_eq_true e)
theorem lowF {a b k j : Nat} (h : autoParam (a = b) asmT) (h2 : autoParam (k ≤ b) asmT) (e : autoParam (Nat.ble j k = true) decT) : j ≤ a := h ▸ Nat.le_trans (Nat.le_of_ble_eq_true e) h2
theorem ltle {a b c : Nat} (h : autoParam (a < b) asmT) (h2 : autoParam (b ≤ c) asmT) : a < c := Nat.lt_of_lt_of_le h h2
theorem lback {n i : Nat} (h : autoParam (i < n) asmT) : n + 1 - (i + 1) < n + 1 - i := lt_back h
theorem snext {l j m : Nat} (h : autoParam (l - j = m + 1) asmT) : l - (j + 1) = m := sub_next h
theorem szero {i l : Nat} (h : autoParam (l - i = 0) asmT) (h2 : autoParam (i ≤ l) asmT) : i = l := Nat.le_antisymm h2 (Nat.le_of_sub_eq_zero h)
theorem slast {l j m : Nat} (h : autoParam (l - j = m + 1) asmT) : j < l := Nat.lt_of_sub_eq_succ h
theorem abstr {α : Type} {M : Model} {A : Around} {t : Sem α} {Q : α → Shared → Prop} {E : Value → Shared → Prop} {s : Shared}
    (h : ∀ (Q' : α → Shared → Prop) (E' : Value → Shared → Prop), (∀ a s', Q a s' → Q' a s') → (∀ e s', E e s' → E' e s') → wpAny M A t Q' E' s) : wpAny M A t Q E s := h Q E (fun _ _ q => q) (fun _ _ q => q)

end Mine
end
section
open PySem PySem.W PyProof.Rows
namespace Mine
set_option hygiene false
local macro_rules | `(tactic| w_left) => `(tactic| first | (with_reducible (first | assumption | exact bud | exact bud0 | exact bud2 | exact bud3 | exact lim | exact limt | exact limZ | exact limZt | exact negZ | exact negZe | exact lowe | exact lowt | exact slt | exact les | exact eqg | exact lim2 | exact addl | exact limE | exact lowF | exact ltle | exact lback | exact snext | exact szero | exact slast | exact low | exact Int.natCast_nonneg _)) | ((with_reducible refine lt_via (h2 := ?_)); w_left) | fail "no chain")
local macro_rules | `(tactic| omega) => `(tactic| first | w_left | (refine Nat.ne_of_lt ?_; w_left) | (refine Nat.ne_of_gt ?_; w_left) | fail "no chain")
local macro_rules | `(tactic| k_all) => `(tactic| first | exact List.forall_mem_nil _ | (refine List.forall_mem_cons.mpr ⟨?_, ?_⟩; (first | k_mem | k_ne | k_all); k_all))
set_option hygiene true
section
open PySem PySem.W PyProof.Rows
set_option hygiene false
local macro_rules | `(tactic| omega) => `(tactic| first | w_left | (refine Nat.ne_of_lt ?_; w_left) | (refine Nat.ne_of_gt ?_; w_left) | lia | fail "no chain")
set_option hygiene true
section
open PySem PySem.W PyProof.Rows
example : True := by
  w_top off
  trivial
set_option maxRecDepth 100000
set_option maxHeartbeats 8000000

section
variable {M : Model} {A : Around} {R : GenEnd} {Y : Protocol} {n : Nat} {s₀ : Shared} {c : Code} {fs : List Frame} {s : Shared} {env : Env}
  {K : Flow → Sem Fin} {H : Value → Sem Fin} {gd : Bool → Bool} {lv : List Value → List Value}

theorem seg_If {test : Expr} {body orelse : List Stmt} {pos : Pos}
    (h : wpAny M (A.over c fs) (isTrue test env (eval test env)) (fun b s' =>
        if b = true then Seg M A R Y n s₀ c ((execs body env).wrap K H gd lv) fs s' else Seg M A R Y n s₀ c ((execs orelse env).wrap K H gd lv) fs s')
      (fun x s' => Seg M A R Y n s₀ c (H x) fs s') s) :
    Seg M A R Y n s₀ c ((exec (.If test body orelse pos) env).wrap K H gd lv) fs s := by
  rw [exec_If]
  refine seg_bind_wrap (wpAny_standAt ?_)
  refine seg_bind_wrap (wpAny_mono h (fun b s' hb => ?_) fun _ _ e => e)
  cases b with
  | true => rw [if_pos rfl] at hb; exact hb
  | false => rw [if_neg Bool.false_ne_true] at hb; exact hb

theorem seg_plain {st : Stmt}
    (h : wpAny M (A.over c fs) (exec st env) (fun f s' => Seg M A R Y n s₀ c (K f) fs s') (fun x s' => Seg M A R Y n s₀ c (H x) fs s') s) :
    Seg M A R Y n s₀ c ((exec st env).wrap K H gd lv) fs s := seg_wrap h

theorem seg_For {target iter : Expr} {body orelse : List Stmt} {pos : Pos}
    (h : wpAny M (A.over c fs) (eval iter env) (fun x s₁ => wpAny M (A.over c fs) (pyIter x) (fun it s₂ =>
        ∀ p, Seg M A R Y n s₀ (.forLoop target it body orelse env) (M.den (.forLoop target it body orelse env))
          (.ret (fun r => ((match r with | .ok f => (.pure f : Sem Flow) | .error e => .raise e).onRaise fun (x : Value) => do
            if (← field x 1) == Value.none then unsupported "frame.own-activation:exception-without-traceback"
            setFlight x env.frame).wrap K H gd lv) none (gd false) (lv []) c p [] :: fs) s₂)
        (fun x s' => Seg M A R Y n s₀ c (H x) fs s') s₁)
      (fun x s' => Seg M A R Y n s₀ c (H x) fs s') s)
    (hs : ∀ x, foldedSetIterable iter env x = pure x := by intro _; rfl) :
    Seg M A R Y n s₀ c ((exec (.For target iter body orelse pos) env).wrap K H gd lv) fs s := by
  rw [exec_For]
  refine seg_bind_wrap (wpAny_standAt ?_)
  refine seg_bind_wrap (wpAny_mono h (fun x s₁ h₁ => ?_) fun _ _ e => e)
  refine seg_bind_wrap (wpAny_of_eq (hs x) ?_)
  refine seg_bind_wrap (wpAny_standAt ?_)
  refine seg_bind_wrap (wpAny_holding (wpAny_mono h₁ (fun it s₂ h₂ => ?_) fun _ _ e => e))
  exact seg_call h₂
end

section
variable {prog : Program} {w : World} {A : Around} {R : GenEnd} {Y : Protocol} {n : Nat} {s₀ : Shared} {fs : List Frame} {s : Shared} {env : Env}

noncomputable abbrev segPass (env : Env) : Value → Sem Fin := fun e => (do noteFrame e env; theTreesLotGoes e : Sem Unit).wrap (fun _ => .raise e) .raise id id

theorem seg_forLoop {target : Expr} {it : Value} {body orelse : List Stmt}
    (h : wpAny (model prog w) (A.over (.forLoop target it body orelse env) fs) (pyNext it) (fun r s₁ => match r with
        | none => Seg (model prog w) A R Y n s₀ (.forLoop target it body orelse env) (.pure (.again (.block orelse env))) fs s₁
        | some v => wpAny (model prog w) (A.over (.forLoop target it body orelse env) fs) (letOwnedTupleGo target it v) (fun _ s₂ =>
            wpAny (model prog w) (A.over (.forLoop target it body orelse env) fs) (assign target env v) (fun _ s₃ =>
              Seg (model prog w) A R Y n s₀ (.forLoop target it body orelse env) ((execs body env).wrap (fun f => match f with
                | .next | .cont => .pure (.again (.forLoop target it body orelse env))
                | .brk => .pure (.done .next)
                | .ret v => .pure (.done (.ret v))) (segPass env) id id) fs s₃) (fun _ _ => False) s₂) (fun _ _ => False) s₁) (fun _ _ => False) s) :
    Seg (model prog w) A R Y n s₀ (.forLoop target it body orelse env) ((model prog w).den (.forLoop target it body orelse env)) fs s := by
  show Seg _ A R Y n s₀ _ ((forTurn target it body orelse env).onRaise (fun x => do noteFrame x env; theTreesLotGoes x)) fs s
  unfold forTurn
  rw [Sem.onRaise_eq_wrap]
  refine seg_bind_wrap (wpAny_standAt ?_)
  refine seg_bind_wrap (wpAny_onRaise (wpAny_mono h (fun r s₁ h₁ => ?_) fun _ _ e => e.elim))
  cases r with
  | none => exact h₁
  | some v =>
    refine seg_bind_wrap (wpAny_mono h₁ (fun _ s₂ h₂ => ?_) fun _ _ e => e.elim)
    refine seg_bind_wrap (wpAny_mono h₂ (fun _ s₃ h₃ => ?_) fun _ _ e => e.elim)
    rw [Sem.bind_eq_wrap', Sem.wrap_wrap]
    rw [Sem.wrap_congr (execs body env) _ _ (K' := fun f => match f with
            | .next | .cont => .pure (.again (.forLoop target it body orelse env))
            | .brk => .pure (.done .next)
            | .ret v => .pure (.done (.ret v))) (H' := segPass env)
        (fun f => by cases f <;> rfl)
        (fun e => by first | exact Sem.bind_eq_wrap _ _ | (show (do noteFrame e env; theTreesLotGoes e : Sem Unit).bind (fun _ => .raise e) = _; rw [Sem.bind_eq_wrap]))]
    exact h₃
end

end
section
open PySem PySem.W PyProof.Rows
example : True := by
  w_top off
  trivial
set_option maxRecDepth 100000
set_option maxHeartbeats 8000000

theorem ne_small {b c : Nat} (h : b < 10) (h' : 10 ≤ c) : b ≠ c := by omega
theorem notin_small {b c d : Nat} (h : b < 10) (h1 : 10 ≤ c) (h2 : 10 ≤ d) : b ∉ [c, d] := by
  simp only [List.mem_cons, List.not_mem_nil, or_false]; omega

theorem draws_str {prog : Program} {w : World} {A : Around} (hh : A.handled = none) (it : Addr) (x : Str) (t : Tok) :
    Draws prog w A it [it] x.cps.size (fun i v => ∃ c u, x.cps[i]? = some c ∧ v = .str ⟨#[c]⟩ u) (fun i h => h.IsStrIter it (strIterType x) x t i) := by
  unfold strIterType
  cases h : x.cps.all (· < 128) with
  | true => simpa [h] using Draws.strAscii (prog := prog) (w := w) hh it x t
  | false => simpa [h] using Draws.strWide (prog := prog) (w := w) hh it x t

noncomputable abbrev Stat (mg mb : Str → Option Value) (h : Heap) : Prop := TopRead viewK LOO mg mb h

theorem stat_keeps {mg mb : Str → Option Value} {h h' : Heap} (T : Stat mg mb h) (hk : ∀ b o, b < 10 → h.get? b = some o → h'.get? b = some o) : Stat mg mb h' :=
  ⟨T.g.at' fun o e => hk _ o (by decide) e, T.b.at' fun o e => hk _ o (by decide) e, let ⟨mc, h1, h2⟩ := T.nolimit; ⟨mc, h1.at' fun o e => hk _ o (by decide) e, h2⟩, T.builtins, T.free⟩

noncomputable def itemsFrom : List Nat → Nat → Bool → List (Int × Str)
  | [], i, esc => if esc = true then [((i : Int) - 1, ⟨#[92]⟩)] else []
  | c :: r, i, esc => if esc = true then ((i : Int), ⟨#[92, c]⟩) :: itemsFrom r (i + 1) false
      else if c = 92 then itemsFrom r (i + 1) true else ((i : Int), ⟨#[c]⟩) :: itemsFrom r (i + 1) false
noncomputable def items (addr : Str) : List (Int × Str) := itemsFrom addr.cps.toList 0 false

noncomputable def itY (mg mb : Str → Option Value) (n1 : Nat) (a C : Addr) (its : List (Int × Str)) : Protocol := fun m s₀ v s kap =>
  ∃ (T : Addr) (own : List Addr) (pos : Int) (ch : Str) (t1 t2 : Tok),
    its[its.length - 1 - m]? = some (pos, ch) ∧ v = .ref T ∧ s.heap.get? T = some { cls := .type "tuple", data := .seq #[.int pos t1, .str ch t2] } ∧
    (∀ b ∈ own, n1 ≤ b) ∧ GenSince C own s₀ s ∧
    ∀ s'' : Shared, Stat mg mb s''.heap → (∀ b ∈ a :: C :: own, ∀ o, s.heap.get? b = some o → s''.heap.get? b = some o) → kap (.send .none) s''

noncomputable def itR (n1 : Nat) (C : Addr) : GenEnd := fun n s₀ r s₁ => r = .ok (.ret .none) ∧ (n = 0 ∧ ∃ own : List Addr, (∀ b ∈ own, n1 ≤ b) ∧ GenSince C own s₀ s₁)

section
variable {prog : Program} {w : World} {A : Around} {E : Value → Shared → Prop} {s : Shared}

theorem pyNext_fnQ {a : Addr} {g n : Nat} {gs : GenState} {P : Nat → Shared → Shared → Prop} {Y : Protocol} {Q : Option Value → Shared → Prop} (hh : A.handled = none)
    (hl : s.heap.NoLimit) (hroom : A.depth < recursionLimit) (hg : s.heap.IsGen a g) (hgs : s.gens[g]? = some gs)
    (hgo : gs.Goes (model prog w) A.in1 (fun n s₀ r s₁ => r = .ok (.ret .none) ∧ P n s₀ s₁) Y n (.send .none) (s.setGen g .running))
    (hY : ∀ v s₁ gs', gs'.bare = true → Y (n - 1) (s.setGen g .running) v s₁ (fun r' s'' => match n with
        | 0 => False
        | m + 1 => gs'.Goes (model prog w) A.in1 (fun n s₀ r s₁ => r = .ok (.ret .none) ∧ P n s₀ s₁) Y m r' s'') → Q (some v) (s₁.setGen g gs'))
    (hP : ∀ s₁, P n (s.setGen g .running) s₁ → ∀ h', (∀ b o, s₁.heap.get? b = some o → h'.get? b = some o) → Q none { s₁.setGen g .finished with heap := h' }) :
    wpAny (model prog w) A (pyNext (.ref a)) Q E s := by
  unfold pyNext
  refine wpAny_bind (wpAny_attempt (wpAny_callSpecial?_slot (name := Str.ofString "__next__") hg.typeIs slot_gen_next
    (wpAny_call_entry slot_gen_next hg.typeIs entry_gen_next ?_ (args_gen_next _))))
  show wpAny _ A.in1 (Builtin.Generator.genWake (.ref a) (.send .none)) _ _ s
  unfold Builtin.Generator.genWake
  refine wpAny_bind (wpAny_holding (wpAny_genNumber hg (wpAny_bind (wpAny_genState hgs ?_))))
  cases gs with
  | running => exact hgo.elim
  | finished => exact hgo.elim
  | _ =>
    refine wpAny_bind (wpAny_roomToWake hl hroom ?_)
    show wpAny _ A.in1 (.resume g (.send .none) [] _) _ _ s
    refine wpAny_resumeQ hgs hgo (fun x s₁ hx => ?_) (fun v s₁ gs' hb hv => ?_)
    · obtain ⟨rfl, hp⟩ := hx
      show wpAny _ A.in1 (newExc (.type "StopIteration") [] >>= _) _ _ _
      refine wpAny_bind ?_
      simp only [newExc, newTuple]
      refine wpAny_bind (wpAny_newObj_type ?_ (by size_fits))
      refine wpAny_bind (m := firstArgMember _ _) (wpAny_of_eq (a := Value.none) (by first | rfl | (simp only [firstArgMember]; rfl)) ?_)
      refine wpAny_newObj_type ?_ (by size_fits)
      unfold raiseNew
      dsimp only
      refine wpAny_bind (wpAny_bind (wpAny_handled ?_))
      first | rw [show A.in1.handled = none from hh] | rw [hh]
      refine wpAny_throw ?_
      refine wpAny_bind (wpAny_isInstance (T := "StopIteration") (b := true) ⟨_, Heap.get?_push_size _ rfl, rfl⟩ isSubtype_stop ?_)
      exact wpAny_pure (hP s₁ hp _ fun b o hb => Heap.get?_push_of_some _ (Heap.get?_push_of_some _ hb))
    · exact wpAny_pure ⟨v, rfl, wpAny_pure (hY v s₁ gs' hb hv)⟩
end

noncomputable def GenIt (w : World) (mg mb : Str → Option Value) (A : Around) (a : Addr) (g n1 : Nat) (C : Addr) (its : List (Int × Str)) (j : Nat) (s : Shared) : Prop :=
  s.heap.IsGen a g ∧ a ≠ C ∧ a < n1 ∧ C < n1 ∧ 10 ≤ C ∧ ∃ gs own, s.gens[g]? = some gs ∧ gs.bare = true ∧ (∀ b ∈ own, n1 ≤ b) ∧
    ∀ s'' : Shared, Stat mg mb s''.heap → (∀ b ∈ a :: C :: own, ∀ o, s.heap.get? b = some o → s''.heap.get? b = some o) →
      gs.Goes (model PR w) A.in1 (itR n1 C) (itY mg mb n1 a C its) (its.length - j) (.send .none) s''

section
variable {w : World} {mg mb : Str → Option Value} {A : Around} {E : Value → Shared → Prop} {s : Shared} {a : Addr} {g n1 : Nat} {C : Addr} {its : List (Int × Str)} {j : Nat}

theorem genIt_item {Q : Option Value → Shared → Prop} (hh : A.handled = none) (hroom : A.depth < recursionLimit) (G : GenIt w mg mb A a g n1 C its j s) (T : Stat mg mb s.heap) (hj : j < its.length)
    (h : ∀ T pos ch t1 t2 s', its[j]? = some (pos, ch) → s'.heap.get? T = some { cls := .type "tuple", data := .seq #[.int pos t1, .str ch t2] } → GenIt w mg mb A a g n1 C its (j + 1) s' →
      (∀ b o, b < n1 → b ≠ C → s.heap.get? b = some o → s'.heap.get? b = some o) → s'.os = s.os → GenOnlyQ g s.gens s'.gens → Q (some (.ref T)) s') :
    wpAny (model PR w) A (pyNext (.ref a)) Q E s := by
  obtain ⟨hg, haC, han, hCn, hC10, gs, own, hgs, hbare, hown, hgo⟩ := G
  obtain ⟨m, hm⟩ : ∃ m, its.length - j = m + 1 := ⟨its.length - j - 1, sub_pred hj⟩
  rw [hm] at hgo
  refine pyNext_fnQ (P := fun n s₀ s₁ => n = 0 ∧ ∃ own : List Addr, (∀ b ∈ own, n1 ≤ b) ∧ GenSince C own s₀ s₁) hh T.nolimit hroom hg hgs (hgo _ T fun _ _ _ e => e) (fun v s₁ gs' hb hv => ?_) (fun s₁ hp h' hk => ?_)
  · obtain ⟨T', own', pos, ch, t1, t2, hi, rfl, hget, hown', ⟨h₁, tk₁, rfl, hk₁⟩, hkap⟩ := hv
    have hidx : its.length - 1 - (m + 1 - 1) = j := sub_back hj hm
    rw [hidx] at hi
    have off : ∀ b, b < n1 → b ∉ own' := fun b hb hm => absurd (hown' b hm) (by omega)
    refine h T' pos ch t1 t2 _ hi hget ⟨let ⟨o, nm, qn, ho, r⟩ := hg; ⟨o, nm, qn, hk₁ a o haC (off a han) ho, r⟩, haC, han, hCn, hC10, gs', own', setGen_self (gs := .running) (setGen_self hgs), hb, hown', fun s'' T'' hal => ?_⟩
      (fun b o hb hbC e => hk₁ b o hbC (off b hb) e) rfl (GenOnlyQ.of ((GenOnly.setGen s g .running).trans (GenOnly.setGen _ g gs')) (setGen_self (gs := .running) (setGen_self hgs)) hb)
    have e : its.length - (j + 1) = m := sub_next hm
    rw [e]
    exact hkap s'' T'' hal
  · exact absurd hp.1 (Nat.succ_ne_zero m)

theorem genIt_done {Q : Option Value → Shared → Prop} (hh : A.handled = none) (hroom : A.depth < recursionLimit) (G : GenIt w mg mb A a g n1 C its its.length s) (T : Stat mg mb s.heap)
    (h : ∀ s', (∀ b o, b < n1 → b ≠ C → s.heap.get? b = some o → s'.heap.get? b = some o) → s'.os = s.os → GenOnlyQ g s.gens s'.gens → Q none s') :
    wpAny (model PR w) A (pyNext (.ref a)) Q E s := by
  obtain ⟨hg, haC, han, hCn, hC10, gs, own, hgs, hbare, hown, hgo⟩ := G
  rw [Nat.sub_self] at hgo
  refine pyNext_fnQ (P := fun n s₀ s₁ => n = 0 ∧ ∃ own : List Addr, (∀ b ∈ own, n1 ≤ b) ∧ GenSince C own s₀ s₁) hh T.nolimit hroom hg hgs (hgo _ T fun _ _ _ e => e) (fun v s₁ gs' hb hv => ?_) (fun s₁ hp h' hk => ?_)
  · obtain ⟨T', own', pos, ch, t1, t2, hi, rfl, hget, hown', ⟨h₁, tk₁, rfl, hk₁⟩, hkap⟩ := hv
    exact False.elim (hkap { s with heap := h₁ } (stat_keeps T fun b o hb e => hk₁ b o (fun q => absurd (q ▸ hb : C < 10) (Nat.not_lt.mpr hC10)) (fun q => absurd (Nat.lt_of_lt_of_le hb hC10) (Nat.not_lt.mpr (Nat.le_trans (Nat.le_of_lt hCn) (hown' b q)))) e) fun _ _ _ e => e)
  · obtain ⟨_, own', hown', h₁, tk₁, rfl, hk₁⟩ := hp
    have off : ∀ b, b < n1 → b ∉ own' := fun b hb hm => absurd (hown' b hm) (by omega)
    exact h _ (fun b o hb hbC e => hk b o (hk₁ b o hbC (off b hb) e)) rfl (GenOnlyQ.of ((GenOnly.setGen s g .running).trans (GenOnly.setGen _ g .finished)) (setGen_self (gs := .running) (setGen_self hgs)) rfl)
end

end
section
open PySem PySem.W PyProof.Rows
example : True := by
  w_top off
  trivial
set_option maxRecDepth 100000
set_option maxHeartbeats 8000000
theorem fillG3 : heapK = heapK ∧ PySem.Challenge.rw_pe0220_01 = PySem.Challenge.rw_pe0220_01 := by
  k_fill
  exact ⟨rfl, rfl⟩

noncomputable def EnAt (e it : Addr) (x : Str) (t : Tok) (i : Nat) (h : Heap) : Prop := (∃ old, IsEnum h e it i old) ∧ h.IsStrIter it (strIterType x) x t i
theorem EnAt.keeps {e it : Addr} {x : Str} {t : Tok} {i : Nat} {h h' : Heap} (H : EnAt e it x t i h) (hk : ∀ b ∈ [e, it], ∀ o, h.get? b = some o → h'.get? b = some o) : EnAt e it x t i h' := by
  obtain ⟨⟨old, he⟩, o, ho, r⟩ := H
  exact ⟨⟨old, hk e (by simp) _ he⟩, o, hk it (by simp) _ ho, r⟩

section
variable {prog : Program} {w : World} {A : Around} {R : GenEnd} {Y : Protocol} {fs : List Frame} {env : Env} {mg mb : Str → Option Value}

theorem seg_enum_loop {xa xb : Str} {pa pb pt : Pos} {kt : Nat} {body orelse : List Stmt} {x : Str} {t : Tok} {e it : Addr}
    (hh : A.handled = none) (hab : xa ≠ xb) (hxa : env.kindOf xa = some .local) (hxb : env.kindOf xb = some .local)
    (hp : (env.scope.kind == .class || (env.scope.kind == .module && env.locals != env.globals)) = false)
    (hei : e ≠ it) (hCe : env.locals ≠ e) (hCi : env.locals ≠ it) (h10 : 10 ≤ env.locals) (he10 : 10 ≤ e) (hi10 : 10 ≤ it)
    (hfs : (A.over (.forLoop (.Tuple [.Name xa pa, .Name xb pb] kt pt) (.ref e) body orelse env) fs).handled = none)
    (J : Nat → Nat → (Str → Option Value) → Prop)
    (turn : ∀ i k c u1 u2 m s₀ s, x.cps[i]? = some c → J i k m → s.heap.Ns env.locals (fun z => if z = xb then some (.str ⟨#[c]⟩ u2) else if z = xa then some (.int i u1) else m z) →
      GenSince env.locals [e, it] s₀ s → Stat mg mb s.heap → EnAt e it x t (i + 1) s.heap →
      (∀ k' m' s₀' s', J (i + 1) k' m' → s'.heap.Ns env.locals m' → GenSince env.locals [e, it] s₀' s' → Stat mg mb s'.heap → EnAt e it x t (i + 1) s'.heap →
        Seg (model prog w) A R Y k' s₀' (.forLoop (.Tuple [.Name xa pa, .Name xb pb] kt pt) (.ref e) body orelse env) (.pure (.again (.forLoop (.Tuple [.Name xa pa, .Name xb pb] kt pt) (.ref e) body orelse env))) fs s') →
      Seg (model prog w) A R Y k s₀ (.forLoop (.Tuple [.Name xa pa, .Name xb pb] kt pt) (.ref e) body orelse env) ((execs body env).wrap (fun f => match f with
        | .next | .cont => .pure (.again (.forLoop (.Tuple [.Name xa pa, .Name xb pb] kt pt) (.ref e) body orelse env))
        | .brk => .pure (.done .next)
        | .ret v => .pure (.done (.ret v))) (segPass env) id id) fs s)
    (fin : ∀ k m s₀ s, J x.cps.size k m → s.heap.Ns env.locals m → GenSince env.locals [e, it] s₀ s → Stat mg mb s.heap →
      Seg (model prog w) A R Y k s₀ (.forLoop (.Tuple [.Name xa pa, .Name xb pb] kt pt) (.ref e) body orelse env) (.pure (.again (.block orelse env))) fs s) :
    ∀ (d i k : Nat) (m : Str → Option Value) (s₀ s : Shared), x.cps.size - i = d → i ≤ x.cps.size → J i k m → s.heap.Ns env.locals m → GenSince env.locals [e, it] s₀ s → Stat mg mb s.heap → EnAt e it x t i s.heap →
      Seg (model prog w) A R Y k s₀ (.forLoop (.Tuple [.Name xa pa, .Name xb pb] kt pt) (.ref e) body orelse env) ((model prog w).den (.forLoop (.Tuple [.Name xa pa, .Name xb pb] kt pt) (.ref e) body orelse env)) fs s := by
  have D : ∀ A' : Around, A'.handled = none → Draws prog w A'.in1 it [it] x.cps.size (fun i v => ∃ c u, x.cps[i]? = some c ∧ v = .str ⟨#[c]⟩ u) (fun i h => h.IsStrIter it (strIterType x) x t i) :=
    fun A' hA' => draws_str (by exact hA') it x t
  have W : ∀ A' : Around, A'.handled = none → _ := fun A' hA' => WalksT.enumerateD (D A' hA') e hei (by simpa using hei) (by simp)
  intro d
  induction d with
  | zero =>
    intro i k m s₀ s hd hi hJ hn hsn hT hE
    have hin : i = x.cps.size := Nat.le_antisymm hi (Nat.le_of_sub_eq_zero hd)
    subst hin
    refine seg_forLoop ((W _ hfs).done s _ _ hE fun h' tk hk => ?_)
    refine fin k m s₀ _ hJ (hn.at' fun o q => hk _ o (by simp [hCe, hCi]) q) (hsn.step fun b o _ hb q => hk b o hb q) (stat_keeps hT fun b o hb q => hk b o (notin_small hb he10 hi10) q)
  | succ d ih =>
    intro i k m s₀ s hd hi hJ hn hsn hT hE
    have hlt : i < x.cps.size := Nat.lt_of_sub_eq_succ hd
    refine seg_forLoop ((W _ hfs).item i s _ _ hlt hE fun T vals h₁ tk₁ hPv hTn hT₁ hmid hk₁ => ?_)
    obtain ⟨u1, v2, ⟨c, u2, hc, rfl⟩, rfl⟩ := hPv
    refine (W _ hfs).go _ _ _ i T _ _ _ hmid fun h₁' hst₁ hk₁' => ?_
    have hT₁' : h₁'.IsTuple T #[.int i u1, .str ⟨#[c]⟩ u2] := let ⟨o, q, r⟩ := hT₁; ⟨o, hk₁' _ o ((W _ hfs).apart i T _ hmid) q, r⟩
    refine wpAny_assign_Tuple hfs hT₁' rfl rfl fun h₁'' hx₁ => ?_
    replace hx₁ : Heap.ExtBut h₁'.objs.size h₁' h₁'' := hx₁
    have old₁ : ∀ b o, h₁'.get? b = some o → h₁''.get? b = some o := fun b o q => hx₁ b o (Nat.ne_of_lt (Heap.lt_size q)) q
    have hCw : env.locals ∉ [e, it] := by simp [hCe, hCi]
    show wpAny _ _ (do holding [Value.str ⟨#[c]⟩ u2] (assign (.Name xa pa) env (.int i u1)); do holding [] (assign (.Name xb pb) env (.str ⟨#[c]⟩ u2)); pure ()) _ _ _
    refine wpAny_bind (wpAny_holding (wpAny_assign_Name (wpAny_storeName_local hxa (hn.at' fun o q => old₁ _ o (hk₁' _ o hCw (hk₁ _ o hCw q))) (fun h₂a hn₂a hs₂a => ?_) hp)))
    replace hs₂a : Heap.SameBut env.locals h₁'' h₂a := hs₂a
    refine wpAny_bind (wpAny_holding (wpAny_assign_Name (wpAny_storeName_local hxb hn₂a (fun h₂ hn₂ hs₂ => wpAny_pure ?_) hp)))
    replace hs₂ : Heap.SameBut env.locals h₂a h₂ := hs₂
    have up₂ : ∀ b o, b ≠ env.locals → b ∉ [e, it] → s.heap.get? b = some o → h₂.get? b = some o := fun b o hbC hbw q => hs₂.extBut b o hbC (hs₂a.extBut b o hbC (old₁ b o (hk₁' b o hbw (hk₁ b o hbw q))))
    have hst₂ : EnAt e it x t (i + 1) h₂ := EnAt.keeps (h := h₁') hst₁ fun b hb o q => by
      have hbC : b ≠ env.locals := fun z => hCw (z ▸ hb)
      exact hs₂.extBut b o hbC (hs₂a.extBut b o hbC (old₁ b o q))
    refine turn i k c u1 u2 m s₀ _ hc hJ hn₂ (hsn.step up₂) (stat_keeps hT fun b o hb q => up₂ b o (ne_small hb h10) (notin_small hb he10 hi10) q) hst₂ ?_
    intro k' m' s₀' s' hJ' hn' hsn' hT' hE'
    exact seg_again rfl (ih (i + 1) k' m' s₀' s' (sub_next hd) hlt hJ' hn' hsn' hT' hE')
end

end
section
open PySem PySem.W PyProof.Rows
example : True := by
  w_top off
  trivial
set_option maxRecDepth 100000
set_option maxHeartbeats 8000000

theorem enter_gen {prog : Program} {w : World} {A : Around} {s : Shared} {K : Frag} {R : Result → Shared → Prop} {name qual : Str} {params : Arguments} {body : List Stmt} {scope : Scope} {dV kV doc pm cdv ct oc : Value}
    {an od : Option Addr} {osl : Array (Option Value)} {f : Addr} {args : Args} {binds : List (Str × Value)}
    (X : K.In s.heap) (hlim : s.heap.NoLimit)
    (ho : K.lookup f = some ⟨oc, od, .func (fnOf name qual params body scope dV kV doc pm an cdv ct), osl⟩) (hcd : codeIn K cdv qual = true) (hroom : A.depth < recursionLimit)
    (hbind : BindsTo s (fnOf name qual params body scope dV kV doc pm an cdv ct) args binds) (hloc : ∀ y ∈ binds, scope.names.lookup y.1 = some .local)
    (h : ∀ (h₁ : Heap) (tk : Nat) (q1 q2 : Value), h₁.Ns s.heap.objs.size (fun y => binds.reverse.lookup y) → (∀ b o, s.heap.get? b = some o → h₁.get? b = some o) → h₁.objs.size = s.heap.objs.size + 1 →
      R (.ok (.ret (.ref h₁.objs.size))) { s with gens := s.gens.push (.fresh (.func body (envOf qual scope s.heap.objs.size f cdv))), toks := tk, heap := h₁.push { cls := .type "generator", data := .fields #[.int s.gens.size 0, q1, q2] } })
    (hco : scope.isCoroutine = false) (hgen : scope.isGenerator = true) (hk : scope.kind = .function)
    (hcell : ∀ x ∈ scope.names, x.2 ≠ .cell) : codeAny (model prog w) A (.call (.ref f) args) R s := by
  refine codeAny_call_generator (fd := fnOf name qual params body scope dV kV doc pm an cdv ct) (body := body) hroom (X _ _ ho) rfl hco hgen rfl (codeRec_of X hcd) ?_
  refine hbind _ _ _ _ (wpAny_newFunctionEnv hcell hloc (fun h₁ hns hsb => ?_) hk)
  have keep : ∀ b o, s.heap.get? b = some o → h₁.get? b = some o := fun b o e => hsb.extBut b o (Nat.ne_of_lt (Heap.lt_size e)) (Heap.get?_push_of_some _ e)
  refine ⟨hlim.keeps keep, ?_⟩
  exact h h₁ _ _ _ hns keep (by rw [hsb.1, Heap.size_push])


section
variable {M : Model} {A : Around} {E : Value → Shared → Prop} {s : Shared} {env : Env} {m : Str → Option Value}
theorem ldN {x : Str} {pos : Pos} {v : Value} {Q : Value → Shared → Prop} (hn : s.heap.Ns env.locals m) (hv : m x = some v) (h : Q v s)
    (hk : autoParam (env.scope.kind = .function) rflT) (hl : autoParam (env.kindOf x = some .local) rflT) (hd : autoParam ((x == ("__debug__" : Str)) = false) decT) :
    wpAny M A (eval (.Name x pos) env) Q E s := wpAny_Name (wpAny_loadName_local hk hl hn hv h) hd
theorem stN' {x : Str} {v : Value} {Q : Unit → Shared → Prop} (hn : s.heap.Ns env.locals m)
    (h : ∀ h', h'.Ns env.locals (fun y => if y = x then some v else m y) → Heap.SameBut env.locals s.heap h' → Q () { s with heap := h', toks := s.toks + 1 })
    (hl : autoParam (env.kindOf x = some .local) rflT) (hp : autoParam ((env.scope.kind == .class || (env.scope.kind == .module && env.locals != env.globals)) = false) rflT) :
    wpAny M A (storeName env x v) Q E s := wpAny_storeName_local hl hn h hp
theorem ldB {mg mb : Str → Option Value} {x : Str} {pos : Pos} (v : Value) {Q : Value → Shared → Prop} (T : Stat mg mb s.heap) (hx : mg x = none) (h : Q v s)
    (hb : autoParam (bootBuiltins x = some v) rflT) (hne : autoParam (x ≠ "__name__") decT)
    (hk : autoParam (env.scope.kind = .function) rflT) (hl : autoParam (env.kindOf x = some .globalImplicit) rflT) (hg : autoParam (env.globals = mainGlobals) rflT) (hbn : autoParam (env.builtins = builtinsNs) rflT) (hd : autoParam ((x == ("__debug__" : Str)) = false) decT) :
    wpAny M A (eval (.Name x pos) env) Q E s :=
  Calls.Name_function_global hk hl (Calls.loadGlobal_builtin (hg ▸ T.g) hx (hbn ▸ T.b) ((T.builtins _ hne).trans hb) h) hd
end

theorem c_iter0 {w : World} {mg mb : Str → Option Value} {A : Around} {s : Shared} {Q E : Value → Shared → Prop} {addr : Str} {t : Tok}
    (C : Cx w mg mb s.heap) (hroom : A.depth < recursionLimit) (h10 : (10 : Nat) ≤ s.heap.objs.size)
    (h : ∀ (a Cg : Addr) (s' : Shared), s.heap.objs.size = Cg → a = Cg + 1 → (∀ b o, s.heap.get? b = some o → s'.heap.get? b = some o) →
      (∀ A₁ : Around, A₁.handled = none → GenIt w mg mb A₁ a s.gens.size (a + 1) Cg (items addr) 0 s') → s'.os = s.os → (∃ gs, s'.gens = s.gens.push gs ∧ gs.bare = true) → Q (.ref a) s') :
    wpAny (model PR w) A (call (.ref 189) [.str addr t]) Q E s := by
  obtain ⟨X, T⟩ := C
  have hmg : mg (Str.ofString "enumerate") = none := mg_none_of X T.g (by k_is)
  refine wpAny_call ?_
  k_dflt (refine' enter_gen (binds := [(Str.ofString "addr", .str addr t)]) ?k1 ?k2 ?k3 ?k4 ?k5 ?k6 ?k7 ?_ ?c1 ?c2 ?c3 ?c4; (case k1 => exact X); (case k2 => exact T.nolimit); (case k3 => k_is); (case k4 => k_is); (case k5 => exact hroom); (case k6 => exact BindsTo.of_eq rfl); (case k7 => exact locs rfl); (case c1 => exact rfl); (case c2 => exact rfl); (case c3 => exact rfl); (case c4 => decide))
  intro h₁ tk q1 q2 hns hkp hsz
  refine h _ _ _ rfl hsz (fun b o e => Heap.get?_push_of_some _ (hkp b o e)) ?_ rfl ⟨_, rfl, rfl⟩
  intro A₁ hA₁
  have hCn : h₁.objs.size ≠ s.heap.objs.size := by rw [hsz]; exact Nat.succ_ne_self _
  refine ⟨⟨_, q1, q2, Heap.get?_push_size _ rfl, rfl, rfl, rfl⟩, hCn, Nat.lt_succ_self _, by rw [hsz]; exact Nat.lt_succ_of_lt (Nat.lt_succ_self _), h10, _, [], Array.getElem?_push_size .., rfl, (fun _ hb => (nomatch hb)), fun s'' T'' hal => ⟨rfl, ?_⟩⟩
  have hns' := hns.at' fun o e => hal _ (List.mem_cons_of_mem _ (List.mem_cons_self ..)) o (Heap.get?_push_of_some _ e)
  have hbig : h₁.objs.size < s''.heap.objs.size := Heap.lt_size (hal _ (List.mem_cons_self ..) _ (Heap.get?_push_size _ rfl))
  clear hal hkp h
  refine seg_func ?_
  refine seg_execs_cons (seg_plain (wpAny_Assign_Name (wpAny_Constant_int (stN' hns' fun h₂ hn₂ hs₂ => ?_))))
  refine seg_execs_cons (seg_plain (wpAny_Assign_Name (wpAny_pure (stN' hn₂ fun h₃ hn₃ hs₃ => ?_))))
  dsimp only
  refine seg_execs_cons (seg_For ?_)
  have T₃ : Stat mg mb h₃ := stat_keeps T'' fun b o hb e => hs₃.extBut b o (ne_small hb h10) (hs₂.extBut b o (ne_small hb h10) e)
  refine Call_ (ldB (.type "enumerate") T₃ hmg ?_)
  refine PyProof.Rows.callWith_type1 (spliced_more (ldN hn₃ rfl (spliced_none (call_enumerate_str fun h₄ hen hsi hsz4 hk₄ => wpAny_pyIter_enum hen ?_))))
  intro p
  have z2 : h₂.objs.size = s''.heap.objs.size := hs₂.1
  have z3 : h₃.objs.size = s''.heap.objs.size := hs₃.1.trans z2
  have hCz : (s.heap.objs.size : Nat) < h₃.objs.size := by omega
  refine' seg_enum_loop (mg := mg) (mb := mb) (it := h₃.objs.size) (e := h₃.objs.size + 1) (x := addr) (t := t) ?g0 ?g1 ?g2 ?g3 ?g4 ?g5 ?g6 ?g7 ?g75 ?g8 ?g9 ?g10
    (fun i k m => ∃ (esc : Bool) (pre : List (Int × Str)), m (Str.ofString "escape") = some (.bool esc) ∧ items addr = pre ++ itemsFrom (addr.cps.toList.drop i) i esc ∧ k = (itemsFrom (addr.cps.toList.drop i) i esc).length ∧ (esc = true → ∃ u, m (Str.ofString "pos") = some (.int ((i : Int) - 1) u)))
    ?turn ?fin addr.cps.size 0 _ ?mm _ _ ?h1 ?h2 ?h3 ?h4 ?h5 ?h6 ?h7
  case g0 => exact hA₁
  case g75 => exact h10
  case g1 => decide
  case g2 => rfl
  case g3 => rfl
  case g4 => rfl
  case g5 => exact Nat.succ_ne_self _
  case g6 => exact Nat.ne_of_lt (Nat.lt_succ_of_lt hCz)
  case g7 => exact Nat.ne_of_lt hCz
  case g8 => exact Nat.le_trans h10 (Nat.le_of_lt (Nat.lt_succ_of_lt hCz))
  case g9 => exact Nat.le_trans h10 (Nat.le_of_lt hCz)
  case g10 => exact hA₁
  case h4 => exact hn₃.keeps hk₄
  case h1 => rfl
  case h2 => exact Nat.zero_le _
  case h3 => exact ⟨false, [], rfl, rfl, rfl, fun h => nomatch h⟩
  case h5 => exact GenSince.step (GenSince.step (GenSince.step (GenSince.refl _ _ _) fun b o hb _ e => hs₂.extBut b o hb e) fun b o hb _ e => hs₃.extBut b o hb e) fun b o _ _ e => hk₄ b o e
  case h6 => exact T₃.keeps hk₄
  case h7 => exact ⟨⟨_, hen⟩, hsi⟩
  case turn =>
    clear hk₄ hen hsi hsz4 hn₃ hs₃ hn₂ hs₂ T₃ hns hns' T''
    intro i k c u1 u2 m s₀ s₁ hc hJ hn hsn hT hE next
    obtain ⟨esc, pre, hm1, hm2, hm3, hm4⟩ := hJ
    have hdrop : addr.cps.toList.drop i = c :: addr.cps.toList.drop (i + 1) := by
      rw [← Array.getElem?_toList] at hc
      exact List.drop_eq_getElem?_toList_append.trans (by rw [hc]; rfl)
    have esc2 : (fun z : Str => if z = Str.ofString "ch" then some (Value.str ⟨#[c]⟩ u2) else if z = Str.ofString "pos" then some (Value.int (i : Int) u1) else m z) (Str.ofString "escape") = some (.bool esc) := by
      rw [← hm1]; exact (if_neg (by decide)).trans (if_neg (by decide))
    -- places that the generator owns
    have eOwn : ∀ b ∈ [h₃.objs.size + 1, h₃.objs.size], h₁.objs.size + 1 ≤ b := by
      intro b hb
      simp only [List.mem_cons, List.not_mem_nil, or_false] at hb
      have : (b : Nat) = h₃.objs.size + 1 ∨ (b : Nat) = h₃.objs.size := hb
      show (h₁.objs.size + 1 : Nat) ≤ b
      omega
    have offC : ∀ b ∈ [h₃.objs.size + 1, h₃.objs.size], b ≠ s.heap.objs.size := fun b hb e => by
      have h1 : (h₁.objs.size + 1 : Nat) ≤ b := eOwn b hb
      have h2 : (b : Nat) = s.heap.objs.size := e
      omega
    refine seg_execs_cons (seg_If (isTrue_plain (ldN hn esc2 (wpAny_truthy_bool ?_))))
    rw [hdrop] at hm2 hm3
    cases esc with
    | true =>
      rw [if_pos rfl]
      simp only [itemsFrom, if_true] at hm2 hm3
      rw [List.length_cons] at hm3
      subst hm3
      refine seg_execs_cons (seg_Expr_Yield rfl rfl rfl (Tuple_ (spliced_more (ldN hn rfl (spliced_more (wpAny_BinOp (wpAny_Constant_str (ldN hn rfl (add_str (fun t' tk' => spliced_none (wpAny_newTuple ?_)) ?_)))))))))
      · intro kap hkap
        refine ⟨_, [h₃.objs.size + 1, h₃.objs.size], _, _, _, _, ?_, rfl, Heap.get?_push_size _ rfl, eOwn, hsn.step fun b o _ _ e => Heap.get?_push_of_some _ e, fun s₂ T₂ hal => hkap .none s₂ ?_⟩
        · rw [hm2, List.length_append, List.length_cons]
          have : pre.length + ((itemsFrom (List.drop (i + 1) addr.cps.toList) (i + 1) false).length + 1) - 1 - (itemsFrom (List.drop (i + 1) addr.cps.toList) (i + 1) false).length = pre.length := back_k
          rw [this, List.getElem?_append_right (Nat.le_refl _), Nat.sub_self]
          rfl
        · have hn2 := hn.at' fun o e => hal _ (List.mem_cons_of_mem _ (List.mem_cons_self ..)) o (Heap.get?_push_of_some _ e)
          refine seg_execs_cons (seg_plain (wpAny_Assign_Name (Constant_bool (stN' hn2 fun h₆ hn₆ hs₆ => seg_execs_nil ?_))))
          refine next _ _ _ _ ⟨false, pre ++ [((i : Int), ⟨#[92, c]⟩)], rfl, ?_, rfl, fun h => nomatch h⟩ hn₆ ?_ ?_ ?_
          · rw [hm2, List.append_assoc]; rfl
          · exact GenSince.step (GenSince.refl _ _ _) fun b o hb _ e => hs₆.extBut b o hb e
          · exact stat_keeps T₂ fun b o hb e => hs₆.extBut b o (ne_small hb h10) e
          · exact hE.keeps fun b hb o e => hs₆.extBut b o (offC b hb) (hal b (List.mem_cons_of_mem _ (List.mem_cons_of_mem _ hb)) o (Heap.get?_push_of_some _ e))
      · show (1 + 1 : Nat) ≤ 2 ^ 24
        decide
    | false =>
      rw [if_neg Bool.false_ne_true]
      refine seg_execs_cons (seg_If (wpAny_isTrue_Compare1 (ldN hn rfl (wpAny_Constant_str (eq_str (wpAny_truthy_bool ?_))))))
      by_cases hc92 : c = 92
      · subst hc92
        simp only [itemsFrom, Bool.false_eq_true, if_false, if_true] at hm2 hm3
        rw [if_pos (by decide)]
        refine seg_execs_cons (seg_plain (wpAny_Assign_Name (Constant_bool (stN' hn fun h₆ hn₆ hs₆ => seg_execs_nil (seg_execs_nil ?_)))))
        refine next _ _ _ _ ⟨true, pre, rfl, hm2, hm3, fun _ => ⟨u1, ?_⟩⟩ hn₆ ?_ ?_ ?_
        · have : ((i + 1 : Nat) : Int) - 1 = (i : Int) := by omega
          rw [this]; rfl
        · exact hsn.step fun b o hb _ e => hs₆.extBut b o hb e
        · exact stat_keeps hT fun b o hb e => hs₆.extBut b o (ne_small hb h10) e
        · exact hE.keeps fun b hb o e => hs₆.extBut b o (offC b hb) e
      · have hne : ((⟨#[c]⟩ : Str) == Str.ofString "\\") = false := by
          rw [beq_eq_false_iff_ne]
          intro e
          have : (#[c] : Array Nat) = #[92] := congrArg Str.cps e
          simp at this
          exact hc92 this
        rw [hne, if_neg Bool.false_ne_true]
        simp only [itemsFrom, Bool.false_eq_true, if_false, if_neg hc92] at hm2 hm3
        rw [List.length_cons] at hm3
        subst hm3
        refine seg_execs_cons (seg_Expr_Yield rfl rfl rfl (Tuple_ (spliced_more (ldN hn rfl (spliced_more (ldN hn rfl (spliced_none (wpAny_newTuple ?_))))))))
        intro kap hkap
        refine ⟨_, [h₃.objs.size + 1, h₃.objs.size], _, _, _, _, ?_, rfl, Heap.get?_push_size _ rfl, eOwn, hsn.step fun b o _ _ e => Heap.get?_push_of_some _ e, fun s₂ T₂ hal => hkap .none s₂ ?_⟩
        · rw [hm2, List.length_append, List.length_cons]
          have : pre.length + ((itemsFrom (List.drop (i + 1) addr.cps.toList) (i + 1) false).length + 1) - 1 - (itemsFrom (List.drop (i + 1) addr.cps.toList) (i + 1) false).length = pre.length := back_k
          rw [this, List.getElem?_append_right (Nat.le_refl _), Nat.sub_self]
          rfl
        · have hn2 := hn.at' fun o e => hal _ (List.mem_cons_of_mem _ (List.mem_cons_self ..)) o (Heap.get?_push_of_some _ e)
          refine seg_execs_nil (seg_execs_nil ?_)
          refine next _ _ _ _ ⟨false, pre ++ [((i : Int), ⟨#[c]⟩)], ?_, ?_, rfl, fun h => nomatch h⟩ hn2 ?_ T₂ ?_
          · exact esc2
          · rw [hm2, List.append_assoc]; rfl
          · exact GenSince.refl _ _ _
          · exact hE.keeps fun b hb o e => hal b (List.mem_cons_of_mem _ (List.mem_cons_of_mem _ hb)) o (Heap.get?_push_of_some _ e)
  case fin =>
    clear hk₄ hen hsi hsz4 hn₃ hs₃ hn₂ hs₂ T₃ hns hns' T''
    intro k m s₀ s₁ hJ hn hsn hT
    obtain ⟨esc, pre, hm1, hm2, hm3, hm4⟩ := hJ
    have hdrop : addr.cps.toList.drop addr.cps.size = [] := List.drop_of_length_le (by simp)
    rw [hdrop] at hm2 hm3
    have eOwn : ∀ b ∈ [h₃.objs.size + 1, h₃.objs.size], h₁.objs.size + 1 ≤ b := by
      intro b hb
      simp only [List.mem_cons, List.not_mem_nil, or_false] at hb
      have : (b : Nat) = h₃.objs.size + 1 ∨ (b : Nat) = h₃.objs.size := hb
      show (h₁.objs.size + 1 : Nat) ≤ b
      omega
    refine seg_again rfl ?_
    refine seg_leaf (.ok Flow.next) ?_
    refine seg_execs_cons (seg_If (isTrue_plain (ldN hn hm1 (wpAny_truthy_bool ?_))))
    cases esc with
    | false =>
      rw [if_neg Bool.false_ne_true]
      simp only [itemsFrom, Bool.false_eq_true, if_false, List.length_nil] at hm3
      subst hm3
      refine seg_execs_nil (seg_execs_nil ?_)
      exact seg_end (.ok (.ret .none)) ⟨rfl, rfl, _, eOwn, hsn⟩
    | true =>
      rw [if_pos rfl]
      obtain ⟨u, hpos⟩ := hm4 rfl
      simp only [itemsFrom, if_true, List.length_cons, List.length_nil] at hm3 hm2
      subst hm3
      refine seg_execs_cons (seg_Expr_Yield rfl rfl rfl (Tuple_ (spliced_more (ldN hn hpos (spliced_more (wpAny_Constant_str (spliced_none (wpAny_newTuple ?_))))))))
      intro kap hkap
      refine ⟨_, [h₃.objs.size + 1, h₃.objs.size], _, _, _, _, ?_, rfl, Heap.get?_push_size _ rfl, eOwn, hsn.step fun b o _ _ e => Heap.get?_push_of_some _ e, fun s₂ T₂ hal => hkap .none s₂ ?_⟩
      · rw [hm2, List.length_append, List.length_cons, List.length_nil]
        have : pre.length + (0 + 1) - 1 - 0 = pre.length := rfl
        rw [this, List.getElem?_append_right (Nat.le_refl _), Nat.sub_self]
        rfl
      · refine seg_execs_nil (seg_execs_nil ?_)
        exact seg_end (.ok (.ret .none)) ⟨rfl, rfl, _, eOwn, GenSince.refl _ _ _⟩

end
section
open PySem PySem.W PyProof.Rows
example : True := by
  w_top off
  trivial
set_option maxRecDepth 100000
set_option maxHeartbeats 8000000

noncomputable def standing (h : Heap) : List Addr → List (Addr × Obj)
  | [] => []
  | b :: r => match h.get? b with
    | some o => (b, o) :: standing h r
    | none => standing h r
theorem standing_nil {h : Heap} : standing h [] = [] := rfl
theorem standing_cons {h : Heap} {b : Addr} {r : List Addr} : standing h (b :: r) = (match h.get? b with | some o => (b, o) :: standing h r | none => standing h r) := rfl
theorem standing_mem {h : Heap} {p : Addr × Obj} (l : List Addr) : p ∈ standing h l → p.1 ∈ l ∧ h.get? p.1 = some p.2 := by
  induction l with
  | nil => intro hp; rw [standing_nil] at hp; exact absurd hp List.not_mem_nil
  | cons b r ih =>
    intro hp
    rw [standing_cons] at hp
    cases q : h.get? b with
    | none => rw [q] at hp; exact ⟨.tail _ (ih hp).1, (ih hp).2⟩
    | some o =>
      rw [q] at hp
      rcases List.mem_cons.mp hp with e | hp
      · subst e; exact ⟨.head _, q⟩
      · exact ⟨.tail _ (ih hp).1, (ih hp).2⟩
theorem mem_standing {h : Heap} {b : Addr} {o : Obj} (l : List Addr) : b ∈ l → h.get? b = some o → (b, o) ∈ standing h l := by
  induction l with
  | nil => intro hb; exact absurd hb List.not_mem_nil
  | cons c r ih =>
    intro hb e
    rw [standing_cons]
    rcases List.mem_cons.mp hb with q | hb
    · subst q; rw [e]; exact .head _
    · cases q : h.get? c with
      | none => exact ih hb e
      | some o' => exact .tail _ (ih hb e)

theorem low_lt {b h L C : Nat} (h1 : h ≤ L) (h2 : L < C) (hb : b < h ∨ b = L) : b < C + 2 ∧ b ≠ C :=
  have e : b < C := hb.elim (fun q => Nat.lt_of_lt_of_le q (Nat.le_trans h1 (Nat.le_of_lt h2))) (fun q => q ▸ h2)
  ⟨Nat.lt_of_lt_of_le e (Nat.le_add_right _ _), Nat.ne_of_lt e⟩
theorem low_lt2 {b C : Nat} (h2 : b < C) : b < C + 2 ∧ b ≠ C := ⟨Nat.lt_of_lt_of_le h2 (Nat.le_add_right _ _), Nat.ne_of_lt h2⟩
theorem ne_of_lt_le {L C b : Nat} (h1 : L < C) (h2 : C ≤ b) : b ≠ L := Nat.ne_of_gt (Nat.lt_of_lt_of_le h1 h2)
theorem ne_of_lt_le' {L h b : Nat} (h1 : b < h) (h2 : h ≤ L) : b ≠ L := Nat.ne_of_lt (Nat.lt_of_lt_of_le h1 h2)
theorem absurd_lt {b h L C : Nat} (h1 : b < h) (h2 : h ≤ L) (h3 : L < C) (h4 : C ≤ b) : False := Nat.lt_irrefl b (Nat.lt_of_lt_of_le (Nat.lt_of_lt_of_le h1 (Nat.le_trans h2 (Nat.le_of_lt h3))) h4)
theorem le_succ2 {b C : Nat} (h : C + 2 ≤ b) : C ≤ b := Nat.le_trans (Nat.le_add_right _ _) h
theorem fr_at {h₀ h h' : Heap} {L : Addr} {m : Str → Option Value} (F : Fr h₀ L h m) (hk : ∀ b o, b < h₀.objs.size ∨ b = L → h.get? b = some o → h'.get? b = some o) : Fr h₀ L h' m :=
  ⟨F.ns.at' fun o e => hk _ o (.inr rfl) e, fun b o e => hk b o (.inl (Heap.lt_size e)) (F.keep b o e), F.above⟩

structure TEnd (h₀ : Heap) (L : Addr) (J : (Str → Option Value) → List (Addr × Obj) → Prop) (own : List (Addr × Obj)) (adr : List Addr) (s₁ s₂ : Shared) : Prop where
  out : InvEndN h₀ L J own adr s₁ s₂
noncomputable def TPost (h₀ : Heap) (L : Addr) (J : (Str → Option Value) → List (Addr × Obj) → Prop) (own : List (Addr × Obj)) (adr : List Addr) (s₁ : Shared) (Q : Flow → Shared → Prop) (f : Flow) (s₂ : Shared) : Prop :=
  match f with
  | .ret v => Q (.ret v) s₂
  | .brk => Q .next s₂
  | _ => TEnd h₀ L J own adr s₁ s₂

section
variable {w : World} {mg mb : Str → Option Value} {A : Around} {R : Result → Shared → Prop} {s : Shared} {env : Env} {h₀ : Heap}

theorem loop_iter {xa xb : Str} {pa pb pt : Pos} {kt : Nat} {body orelse : List Stmt} {a C : Addr} {g : Nat} {its : List (Int × Str)} {m : Str → Option Value} {news : List (Addr × Obj)}
    (hh : A.handled = none) (hroom : A.depth < recursionLimit) (hab : xa ≠ xb) (hxa : env.kindOf xa = some .local) (hxb : env.kindOf xb = some .local)
    (hp : (env.scope.kind == .class || (env.scope.kind == .module && env.locals != env.globals)) = false)
    (G : GenIt w mg mb A a g (C + 2) C its 0 s) (F : Fr h₀ env.locals s.heap m) (N : News h₀ env.locals s.heap news) (T₀ : Stat mg mb h₀) (haC : a = C + 1) (hLC : env.locals < C) (hNC : ∀ p ∈ news, p.1 < C)
    (J : Nat → (Str → Option Value) → List (Addr × Obj) → Prop) (hJ : J 0 m news)
    (turn : ∀ j pos ch t1 t2 m₁ news₁ own s₁, its[j]? = some (pos, ch) → J j m₁ news₁ → news₁.map (·.1) = news.map (·.1) → OwnOff own (news.map (·.1)) →
      Fr h₀ env.locals s₁.heap (fun z => if z = xb then some (.str ch t2) else if z = xa then some (.int pos t1) else m₁ z) → News h₀ env.locals s₁.heap (news₁ ++ own) → s₁.os = s.os → GenOnlyQ g s.gens s₁.gens →
      wpAny (model PR w) A (execs body env) (TPost h₀ env.locals (J (j + 1)) own (news.map (·.1)) s₁ (fun f s' => R (.ok f) s')) (notedBy (model PR w) A env fun e s' => R (.error e) s') s₁)
    (done : ∀ m₁ news₁ s₁, J its.length m₁ news₁ → news₁.map (·.1) = news.map (·.1) → Fr h₀ env.locals s₁.heap m₁ → News h₀ env.locals s₁.heap news₁ → s₁.os = s.os → GenOnlyQ g s.gens s₁.gens →
      wpAny (model PR w) A (execs orelse env) (fun f s₃ => R (.ok f) s₃) (notedBy (model PR w) A env fun e s' => R (.error e) s') s₁) :
    codeAny (model PR w) A (.forLoop (.Tuple [.Name xa pa, .Name xb pb] kt pt) (.ref a) body orelse env) R s := by
  obtain ⟨Inv, hI⟩ : ∃ Inv : Nat → Shared → Prop, ∀ n s₁, Inv n s₁ ↔ (∃ j m₁ news₁, j ≤ its.length ∧ n = its.length + 1 - j ∧ GenIt w mg mb A a g (C + 2) C its j s₁ ∧ J j m₁ news₁ ∧ news₁.map (·.1) = news.map (·.1) ∧ Fr h₀ env.locals s₁.heap m₁ ∧ News h₀ env.locals s₁.heap news₁ ∧ s₁.os = s.os ∧ GenOnlyQ g s.gens s₁.gens) := ⟨_, fun _ _ => Iff.rfl⟩
  refine codeAny_forLoop_any Inv ?_ (its.length + 1) ((hI _ _).mpr ⟨0, m, news, Nat.zero_le _, rfl, G, hJ, rfl, F, N, rfl, .inl rfl⟩)
  intro n s₁ hinv
  obtain ⟨j, m₁, news₁, hj, rfl, G₁, hJ₁, hadr, F₁, N₁, hos₁, hgn₁⟩ := (hI _ _).mp hinv
  clear hinv
  have T₁ : Stat mg mb s₁.heap := T₀.keeps F₁.keep
  have hNC₁ : ∀ p ∈ news₁, p.1 < C := fun p hp => by
    have : p.1 ∈ news.map (·.1) := hadr ▸ List.mem_map_of_mem hp
    obtain ⟨q, hq, e⟩ := List.mem_map.mp this
    have := hNC q hq
    rw [← e]; exact this
  -- what stays of the loop's own when the generator wakes
  have low : ∀ {s₂ : Shared}, (∀ b o, b < C + 2 → b ≠ C → s₁.heap.get? b = some o → s₂.heap.get? b = some o) → Fr h₀ env.locals s₂.heap m₁ ∧ News h₀ env.locals s₂.heap news₁ := fun hk => by
    exact ⟨fr_at F₁ fun b o hb e => hk b o (low_lt F₁.above hLC hb).1 (low_lt F₁.above hLC hb).2 e, fun p hp => ⟨hk _ _ (low_lt2 (hNC₁ p hp)).1 (low_lt2 (hNC₁ p hp)).2 (N₁ p hp).1, (N₁ p hp).2⟩⟩
  by_cases hlt : j < its.length
  · refine genIt_item hh hroom G₁ T₁ hlt fun T pos ch t1 t2 s₂ hit hT G₂ hk₂ hos₂ hgn₂ => ?_
    obtain ⟨F₂, N₂⟩ := low hk₂
    -- nothing is let go: the iterator is a generator
    have hgo : letOwnedTupleGo (.Tuple [.Name xa pa, .Name xb pb] kt pt) (.ref a) (.ref T) = (do
        let o ← load a
        match o.cls, o.data with
        | .type n, .fields vs =>
          if ["enumerate", "zip", "dict_itemiterator", "dict_reverseitemiterator", "odict_iterator", "itertools.zip_longest", "itertools.pairwise"].contains n && vs[0]? == some (rawInt T) then
            rule "for.unpacks-the-owned-tuple"
            updateField a 0 .none
        | _, _ => pure ()) := rfl
    show wpAny _ _ (letOwnedTupleGo (.Tuple [.Name xa pa, .Name xb pb] kt pt) (.ref a) (.ref T)) _ _ _
    rw [hgo]
    obtain ⟨og, nm, qn, hog, hcg, hdg, _⟩ := G₂.1
    refine wpAny_bind (wpAny_load hog ?_)
    rw [hcg, hdg]
    dsimp only
    refine wpAny_ite_false (by simp) (wpAny_pure ?_)
    -- the unpacking
    have hTt : s₂.heap.IsTuple T #[.int pos t1, .str ch t2] := ⟨_, hT, rfl, _, rfl⟩
    refine wpAny_assign_Tuple hh hTt rfl rfl fun h₃ hx₃ => ?_
    replace hx₃ : Heap.ExtBut s₂.heap.objs.size s₂.heap h₃ := hx₃
    have old₃ : ∀ b o, s₂.heap.get? b = some o → h₃.get? b = some o := fun b o e => hx₃ b o (Nat.ne_of_lt (Heap.lt_size e)) e
    show wpAny _ _ (do holding [Value.str ch t2] (assign (.Name xa pa) env (.int pos t1)); do holding [] (assign (.Name xb pb) env (.str ch t2)); pure ()) _ _ _
    refine wpAny_bind (wpAny_holding (wpAny_assign_Name (wpAny_storeName_local hxa (F₂.ns.keeps old₃) (fun h₄ hn₄ hs₄ => ?_) hp)))
    replace hs₄ : Heap.SameBut env.locals h₃ h₄ := hs₄
    refine wpAny_bind (wpAny_holding (wpAny_assign_Name (wpAny_storeName_local hxb hn₄ (fun h₅ hn₅ hs₅ => wpAny_pure ?_) hp)))
    replace hs₅ : Heap.SameBut env.locals h₄ h₅ := hs₅
    have up : ∀ b o, b ≠ env.locals → s₂.heap.get? b = some o → h₅.get? b = some o := fun b o hb e => hs₅.extBut b o hb (hs₄.extBut b o hb (old₃ b o e))
    obtain ⟨hisg, hne, han, hCn, hC10, gs, ow, hgs, hbare, how, hgo₂⟩ := G₂
    have how' : ∀ b ∈ a :: C :: ow, C ≤ b := by
      intro b hb
      rcases List.mem_cons.mp hb with e | hb
      · rw [e, haC]; exact Nat.le_succ _
      rcases List.mem_cons.mp hb with e | hb
      · rw [e]; exact Nat.le_refl _
      · exact le_succ2 (how b hb)
    have owne : ∀ b ∈ a :: C :: ow, b ≠ env.locals := fun b hb => ne_of_lt_le hLC (how' b hb)
    have F₅ : Fr h₀ env.locals h₅ (fun z => if z = xb then some (.str ch t2) else if z = xa then some (.int pos t1) else m₁ z) :=
      ⟨hn₅, fun b o e => up b o (ne_of_lt_le' (Heap.lt_size e) F₂.above) (F₂.keep b o e), F₂.above⟩
    have N₅ : News h₀ env.locals h₅ (news₁ ++ standing s₂.heap (a :: C :: ow)) := by
      intro p hp
      rcases List.mem_append.mp hp with hp | hp
      · exact ⟨up _ _ (N₂ p hp).2.1 (N₂ p hp).1, (N₂ p hp).2⟩
      · obtain ⟨hb, hg⟩ := standing_mem _ hp
        refine ⟨up _ _ (owne _ hb) hg, owne _ hb, ?_⟩
        cases q : h₀.get? p.1 with
        | none => rfl
        | some o => exact (absurd_lt (Heap.lt_size q) F₂.above hLC (how' _ hb)).elim
    have off : OwnOff (standing s₂.heap (a :: C :: ow)) (news.map (·.1)) := by
      intro p hp b hb e
      obtain ⟨hb', _⟩ := standing_mem _ hp
      obtain ⟨q, hq, rfl⟩ := List.mem_map.mp hb
      exact ne_of_lt_le (hNC q hq) (how' _ hb') e
    refine wpAny_mono (turn j pos ch t1 t2 m₁ news₁ _ _ hit hJ₁ hadr off F₅ N₅ (hos₂.trans hos₁) (hgn₁.trans hgn₂)) (fun f s₃ hf => ?_) fun _ _ e => e
    have fin : InvEndN h₀ env.locals (J (j + 1)) (standing s₂.heap (a :: C :: ow)) (news.map (·.1)) { s₂ with heap := h₅, toks := s₂.toks + 1 + 1 } s₃ →
        ∃ n', n' < its.length + 1 - j ∧ Inv n' s₃ := by
      rintro ⟨h', tk', m', news', nx, rfl, F', N', hnx, hown, hadr', hJ'⟩
      have keep' : ∀ b ∈ a :: C :: ow, ∀ o, s₂.heap.get? b = some o → h'.get? b = some o := fun b hb o e => (N' _ (hown _ (mem_standing _ hb e))).1
      refine ⟨its.length + 1 - (j + 1), lt_back hlt, (hI _ _).mpr ⟨j + 1, m', nx, hlt, rfl, ⟨⟨og, nm, qn, keep' a (.head _) _ hog, hcg, hdg, ‹_›⟩, hne, han, hCn, hC10, gs, ow, hgs, hbare, how, fun s'' T'' hal => hgo₂ s'' T'' fun b hb o e => hal b hb o (keep' b hb o e)⟩, hJ', hadr', F', fun p hp => N' p (hnx p hp), hos₂.trans hos₁, hgn₁.trans hgn₂⟩⟩
    cases f with
    | ret v => exact hf
    | brk => exact hf
    | next => exact fin hf.out
    | cont => exact fin hf.out
  · have hje : j = its.length := by omega
    subst hje
    refine genIt_done hh hroom G₁ T₁ fun s₂ hk₂ hos₂ hgn₂ => ?_
    obtain ⟨F₂, N₂⟩ := low hk₂
    exact done m₁ news₁ s₂ hJ₁ hadr F₂ N₂ (hos₂.trans hos₁) (hgn₁.trans hgn₂)
end

end
section
open PySem PySem.W PyProof.Rows
example : True := by
  w_top off
  trivial
set_option maxRecDepth 100000
set_option maxHeartbeats 8000000

noncomputable def GX (a b : Array GenState) : Prop := a.size ≤ b.size ∧ (∀ k, k < a.size → b[k]? = a[k]?) ∧ (AllBare a → AllBare b)
theorem GX.refl (a : Array GenState) : GX a a := ⟨Nat.le_refl _, fun _ _ => rfl, id⟩
theorem GX.trans {a b c : Array GenState} (x : GX a b) (y : GX b c) : GX a c :=
  ⟨Nat.le_trans x.1 y.1, fun k hk => (y.2.1 k (Nat.lt_of_lt_of_le hk x.1)).trans (x.2.1 k hk), fun h => y.2.2 (x.2.2 h)⟩
theorem GX.push {a : Array GenState} {g : GenState} (hg : g.bare = true) : GX a (a.push g) :=
  ⟨by rw [Array.size_push]; exact Nat.le_succ _, fun k hk => by rw [Array.getElem?_push]; rw [if_neg (Nat.ne_of_lt hk)], fun h => h.push hg⟩
theorem GX.only {a b c : Array GenState} {g : Nat} (x : GX a b) (hg : a.size ≤ g) (y : GenOnlyQ g b c) : GX a c := by
  refine ⟨?_, fun k hk => ?_, fun h => (x.2.2 h).moved y⟩
  · rcases y with rfl | ⟨⟨h, _⟩, _⟩
    · exact x.1
    · rw [h]; exact x.1
  · rcases y with rfl | ⟨⟨_, h⟩, _⟩
    · exact x.2.1 k hk
    · rw [h k (Nat.ne_of_lt (Nat.lt_of_lt_of_le hk hg))]; exact x.2.1 k hk

structure Ext (s s' : Shared) : Prop where
  keep : ∀ b o, s.heap.get? b = some o → s'.heap.get? b = some o
  os : s'.os = s.os
  gens : GX s.gens s'.gens
theorem Ext.refl (s : Shared) : Ext s s := ⟨fun _ _ e => e, rfl, .refl _⟩
theorem Ext.trans {s s' s'' : Shared} (x : Ext s s') (y : Ext s' s'') : Ext s s'' := ⟨fun b o e => y.keep b o (x.keep b o e), y.os.trans x.os, x.gens.trans y.gens⟩

theorem Cx.big {w : World} {mg mb : Str → Option Value} {h : Heap} (C : Cx w mg mb h) : 234 < h.objs.size := by
  have q : ∃ o, (heapK w.params).lookup 234 = some o := ⟨_, by k_is⟩
  obtain ⟨o, q⟩ := q
  exact Heap.lt_size (C.X _ _ q)

inductive StrsAre : List Value → List Str → Prop
  | nil : StrsAre [] []
  | cons {x : Str} {t : Tok} {vs : List Value} {xs : List Str} : StrsAre vs xs → StrsAre (.str x t :: vs) (x :: xs)
theorem StrsAre.snoc {vs : List Value} {xs : List Str} {x : Str} {t : Tok} (h : StrsAre vs xs) : StrsAre (vs ++ [.str x t]) (xs ++ [x]) := by
  induction h with
  | nil => exact .cons .nil
  | cons _ ih => exact .cons ih


section
variable {w : World} {mg mb : Str → Option Value} {A : Around} {R : Result → Shared → Prop} {E₁ E₂ : Value → Shared → Prop} {s : Shared} {env : Env} {h₀ : Heap}
theorem iter_for {xa xb : Str} {pa pb pt : Pos} {kt : Nat} {body orelse : List Stmt} {addr : Str} {t : Tok} {m : Str → Option Value} {news : List (Addr × Obj)}
    (C₀ : Cx w mg mb h₀) (F : Fr h₀ env.locals s.heap m) (N : News h₀ env.locals s.heap news)
    (hh : A.handled = none) (hroom : A.depth < recursionLimit) (hab : xa ≠ xb) (hxa : env.kindOf xa = some .local) (hxb : env.kindOf xb = some .local)
    (hp : (env.scope.kind == .class || (env.scope.kind == .module && env.locals != env.globals)) = false)
    (J : Nat → (Str → Option Value) → List (Addr × Obj) → Prop) (hJ : J 0 m news)
    (turn : ∀ j pos ch t1 t2 m₁ news₁ own s₁, (items addr)[j]? = some (pos, ch) → J j m₁ news₁ → news₁.map (·.1) = news.map (·.1) → OwnOff own (news.map (·.1)) →
      Fr h₀ env.locals s₁.heap (fun z => if z = xb then some (.str ch t2) else if z = xa then some (.int pos t1) else m₁ z) → News h₀ env.locals s₁.heap (news₁ ++ own) → s₁.os = s.os → GX s.gens s₁.gens →
      wpAny (model PR w) A (execs body env) (TPost h₀ env.locals (J (j + 1)) own (news.map (·.1)) s₁ (fun f s' => R (.ok f) s')) (notedBy (model PR w) A env fun e s' => R (.error e) s') s₁)
    (done : ∀ m₁ news₁ s₁, J (items addr).length m₁ news₁ → news₁.map (·.1) = news.map (·.1) → Fr h₀ env.locals s₁.heap m₁ → News h₀ env.locals s₁.heap news₁ → s₁.os = s.os → GX s.gens s₁.gens →
      wpAny (model PR w) A (execs orelse env) (fun f s₃ => R (.ok f) s₃) (notedBy (model PR w) A env fun e s' => R (.error e) s') s₁) :
    wpAny (model PR w) A (call (.ref 189) [.str addr t]) (fun x s₁ => wpAny (model PR w) A (pyIter x) (fun it s₂ => codeAny (model PR w) A (.forLoop (.Tuple [.Name xa pa, .Name xb pb] kt pt) it body orelse env) R s₂) E₁ s₁) E₂ s := by
  have C := C₀.keeps F.keep
  refine c_iter0 C hroom (Nat.le_trans (by decide) (Nat.le_of_lt C.big)) fun a Cg s₂ hCg haC hk₂ hG hos₂ hgen₂ => ?_
  subst haC
  obtain ⟨gs, hgs, hb⟩ := hgen₂
  have gx : GX s.gens s₂.gens := hgs ▸ GX.push hb
  refine wpAny_pyIter_gen (hG A hh).1 ?_
  refine loop_iter (m := m) (news := news) (h₀ := h₀) hh hroom hab hxa hxb hp (hG A hh) (F.keeps hk₂) (News.keeps N hk₂) C₀.T rfl (hCg ▸ F.ns.lt) (fun p hp => hCg ▸ Heap.lt_size (N p hp).1) J hJ ?_ ?_
  · intro j pos ch t1 t2 m₁ news₁ own s₁ h1 h2 h3 h4 h5 h6 h7 h8
    exact turn j pos ch t1 t2 m₁ news₁ own s₁ h1 h2 h3 h4 h5 h6 (h7.trans hos₂) (gx.only (Nat.le_refl _) h8)
  · intro m₁ news₁ s₁ h1 h2 h3 h4 h5 h6
    exact done m₁ news₁ s₁ h1 h2 h3 h4 (h5.trans hos₂) (gx.only (Nat.le_refl _) h6)
end

end
section
open PySem PySem.W PyProof.Rows
noncomputable abbrev cl (x : Str) : List Nat := x.cps.toList
theorem cl_inj {x y : Str} (h : cl x = cl y) : x = y := by
  obtain ⟨⟨a⟩⟩ := x; obtain ⟨⟨b⟩⟩ := y; cases h; rfl
theorem cl_app (x y : Str) : cl (x ++ y) = cl x ++ cl y := by
  show ((x.cps ++ y.cps)).toList = _; simp
theorem cl_len (x : Str) : (cl x).length = x.length := by show x.cps.toList.length = x.cps.size; simp
theorem cl_sp : cl (Str.ofString " ") = [32] := by decide +kernel
theorem cl_empty : cl (Str.ofString "") = [] := by decide +kernel
theorem cl_nl : cl (Str.ofString "\n") = [10] := by decide +kernel
theorem join_eq (sep : Str) (xs : List Str) : Txt.join sep xs = Str.join sep xs := StrLaws.glued_eq_join sep xs
noncomputable def jn (sep : List Nat) : List (List Nat) → List Nat
  | [] => []
  | [x] => x
  | x :: y :: r => x ++ sep ++ jn sep (y :: r)
theorem cl_join (sep : Str) : ∀ xs : List Str, cl (Txt.join sep xs) = jn (cl sep) (xs.map cl)
  | [] => by rw [join_eq]; rfl
  | [x] => by rw [join_eq]; rfl
  | x :: y :: r => by
    have h := cl_join sep (y :: r)
    rw [join_eq] at h ⊢
    show cl (x ++ sep ++ Str.join sep (y :: r)) = _
    rw [cl_app, cl_app, h]; rfl
theorem mem_jn {sep : List Nat} {c : Nat} : ∀ {xs : List (List Nat)}, c ∈ jn sep xs → c ∈ sep ∨ ∃ x ∈ xs, c ∈ x
  | [], h => nomatch h
  | [x], h => .inr ⟨x, .head _, h⟩
  | x :: y :: r, h => by
    rcases List.mem_append.mp h with h | h
    · rcases List.mem_append.mp h with h | h
      · exact .inr ⟨x, .head _, h⟩
      · exact .inl h
    · rcases mem_jn h with h | ⟨z, hz, hc⟩
      · exact .inl h
      · exact .inr ⟨z, .tail _ hz, hc⟩
theorem jn_mem {sep : List Nat} {c : Nat} {x : List Nat} : ∀ {xs : List (List Nat)}, x ∈ xs → c ∈ x → c ∈ jn sep xs
  | [], h, _ => nomatch h
  | [y], h, hc => by rw [List.mem_singleton.mp h] at hc; exact hc
  | y :: z :: r, h, hc => by
    rcases List.mem_cons.mp h with rfl | h
    · exact List.mem_append_left _ (List.mem_append_left _ hc)
    · exact List.mem_append_right _ (jn_mem h hc)
noncomputable abbrev signs8 : List Nat := [32, 97, 34, 40, 41, 92, 98, 99]
noncomputable def TOk (x : Str) : Prop := ∀ c ∈ cl x, c ∈ signs8
noncomputable def HasW (x : Str) : Prop := ∃ c ∈ cl x, c ∈ signs8.tail
theorem TOk.join {sep : Str} {xs : List Str} (hs : TOk sep) (h : ∀ x ∈ xs, TOk x) : TOk (Txt.join sep xs) := by
  intro c hc
  rw [cl_join] at hc
  rcases mem_jn hc with hc | ⟨y, hy, hc⟩
  · exact hs c hc
  · obtain ⟨x, hx, rfl⟩ := List.mem_map.mp hy
    exact h x hx c hc
theorem HasW.join {sep x : Str} {xs : List Str} (hx : x ∈ xs) (h : HasW x) : HasW (Txt.join sep xs) := by
  obtain ⟨c, hc, hw⟩ := h
  refine ⟨c, ?_, hw⟩
  rw [cl_join]
  exact jn_mem (List.mem_map_of_mem hx) hc
theorem TOk.sp : TOk (Str.ofString " ") := by intro c hc; rw [cl_sp] at hc; rw [List.mem_singleton.mp hc]; decide
theorem TOk.empty : TOk (Str.ofString "") := by intro c hc; rw [cl_empty] at hc; cases hc
theorem TOk.app {x y : Str} (hx : TOk x) (hy : TOk y) : TOk (x ++ y) := by
  intro c hc; rw [cl_app] at hc; exact (List.mem_append.mp hc).elim (hx c) (hy c)
theorem TOk.ok {x : Str} (h : TOk x) : PyData.strOk x = true := by
  unfold PyData.strOk
  rw [Array.all_eq_true']
  intro c hc
  have := h c (Array.mem_toList_iff.mpr hc)
  have q : ∀ c ∈ signs8, decide (c < 0x110000) = true := by decide
  exact q c this
theorem HasW.nosp {x : Str} (h : HasW x) : Txt.isspace x = false := by
  obtain ⟨c, hc, hw⟩ := h
  unfold Txt.isspace
  have q : ∀ c ∈ signs8.tail, Unicode.isSpace c = false := by decide +kernel
  have : x.cps.all Unicode.isSpace = false := by
    rw [Bool.eq_false_iff]
    intro e
    rw [Array.all_eq_true'] at e
    have := q c hw
    rw [e c (Array.mem_toList_iff.mp hc)] at this
    cases this
  rw [this, Bool.and_false]
theorem HasW.ne {x : Str} (h : HasW x) : x ≠ Str.ofString "" := by
  rintro rfl
  obtain ⟨c, hc, -⟩ := h
  rw [cl_empty] at hc; cases hc
theorem HasW.pos {x : Str} (h : HasW x) : 0 < x.length := by
  obtain ⟨c, hc, -⟩ := h
  rw [← cl_len]; exact List.length_pos_of_mem hc
theorem cut_inj {c : Nat} : ∀ {x y A B : List Nat}, c ∉ x → c ∉ y → x ++ c :: A = y ++ c :: B → x = y ∧ A = B
  | [], [], _, _, _, _, h => ⟨rfl, (List.cons.inj h).2⟩
  | [], b :: y, _, _, _, hy, h => absurd ((List.cons.inj h).1 ▸ .head _) hy
  | a :: x, [], _, _, hx, _, h => absurd ((List.cons.inj h).1 ▸ .head _) hx
  | a :: x, b :: y, A, B, hx, hy, h => by
    obtain ⟨e1, e2⟩ := List.cons.inj h
    obtain ⟨e3, e4⟩ := cut_inj (fun q => hx (.tail _ q)) (fun q => hy (.tail _ q)) e2
    exact ⟨by rw [e1, e3], e4⟩
theorem jn_inj {c : Nat} : ∀ {a b : List (List Nat)}, a ≠ [] → b ≠ [] → (∀ x ∈ a, c ∉ x) → (∀ x ∈ b, c ∉ x) → jn [c] a = jn [c] b → a = b
  | [], _, h, _, _, _, _ => absurd rfl h
  | _, [], _, h, _, _, _ => absurd rfl h
  | [x], [y], _, _, _, _, h => by rw [show x = y from h]
  | [x], y :: z :: r, _, _, ha, _, h => by
    refine absurd ?_ (ha x (.head _))
    rw [show x = y ++ [c] ++ jn [c] (z :: r) from h]
    simp
  | x :: z :: r, [y], _, _, _, hb, h => by
    refine absurd ?_ (hb y (.head _))
    rw [show y = x ++ [c] ++ jn [c] (z :: r) from h.symm]
    simp
  | x :: x' :: r, y :: y' :: r', _, _, ha, hb, h => by
    have h' : x ++ c :: jn [c] (x' :: r) = y ++ c :: jn [c] (y' :: r') := by
      have := h
      simp only [jn, List.append_assoc, List.singleton_append] at this
      exact this
    obtain ⟨e1, e2⟩ := cut_inj (ha x (.head _)) (hb y (.head _)) h'
    rw [e1, jn_inj (List.cons_ne_nil _ _) (List.cons_ne_nil _ _) (fun q hq => ha q (.tail _ hq)) (fun q hq => hb q (.tail _ hq)) e2]
theorem map_cl_inj : ∀ {a b : List Str}, a.map cl = b.map cl → a = b
  | [], [], _ => rfl
  | [], _ :: _, h => nomatch h
  | _ :: _, [], h => nomatch h
  | x :: a, y :: b, h => by
    obtain ⟨e1, e2⟩ := List.cons.inj h
    rw [cl_inj e1, map_cl_inj e2]
theorem split_nl {ls : List Str} (hne : ls ≠ []) (h : ∀ x ∈ ls, TOk x) : Txt.split (Txt.join (Str.ofString "\n") ls) (Str.ofString "\n") = ls := by
  have hnl : Str.ofString "\n" = (⟨#[10]⟩ : Str) := by decide +kernel
  have fr : ∀ x ∈ ls, 10 ∉ cl x := fun x hx hc => by
    have := h x hx 10 hc
    revert this; decide
  have e := StrLaws.join_split (Txt.join (Str.ofString "\n") ls) (Str.ofString "\n")
  rw [← join_eq] at e
  have e2 := congrArg cl e
  rw [cl_join, cl_join, cl_nl] at e2
  have f2 : ∀ p ∈ Txt.split (Txt.join (Str.ofString "\n") ls) (Str.ofString "\n"), 10 ∉ cl p := by rw [hnl]; exact StrLaws.split_free _ 10
  have n2 : Txt.split (Txt.join (Str.ofString "\n") ls) (Str.ofString "\n") ≠ [] := by
    intro q
    have q0 := e
    rw [q] at q0
    rw [← q0] at q
    revert q
    decide +kernel
  refine map_cl_inj (jn_inj (c := 10) ?_ ?_ ?_ ?_ e2)
  · intro q; exact n2 (List.map_eq_nil_iff.mp q)
  · intro q; exact hne (List.map_eq_nil_iff.mp q)
  · intro x hx; obtain ⟨y, hy, rfl⟩ := List.mem_map.mp hx; exact f2 y hy
  · intro x hx; obtain ⟨y, hy, rfl⟩ := List.mem_map.mp hx; exact fr y hy

end
section
open PySem PySem.W PyProof.Rows
example : True := by
  w_top off
  trivial
set_option maxRecDepth 100000
set_option maxHeartbeats 1000000

structure TEnd2 (h₀ : Heap) (L : Addr) (J : (Str → Option Value) → List (Addr × Obj) → Prop) (own : List (Addr × Obj)) (s₁ s₂ : Shared) : Prop where
  out : ∃ m' news' nx, Fr h₀ L s₂.heap m' ∧ News h₀ L s₂.heap news' ∧ (∀ p ∈ nx, p ∈ news') ∧ (∀ p ∈ own, p ∈ news') ∧ OwnOff own (nx.map (·.1)) ∧ s₂.os = s₁.os ∧ GX s₁.gens s₂.gens ∧ J m' nx
noncomputable def TPost2 (h₀ : Heap) (L : Addr) (J : (Str → Option Value) → List (Addr × Obj) → Prop) (own : List (Addr × Obj)) (s₁ : Shared) (Q : Flow → Shared → Prop) (f : Flow) (s₂ : Shared) : Prop :=
  match f with
  | .ret v => Q (.ret v) s₂
  | .brk => Q .next s₂
  | _ => TEnd2 h₀ L J own s₁ s₂

noncomputable def ownOf (h₀ h : Heap) (fp : List Addr) : List (Addr × Obj) := standing h (fp.filter fun b => (h₀.get? b).isNone)

section
variable {prog : Program} {w : World} {A : Around} {R : Result → Shared → Prop} {s : Shared} {env : Env} {h₀ : Heap}

theorem loop_walk {x : Str} {px : Pos} {body orelse : List Stmt} {I : Addr} {fp wr : List Addr} {n : Nat} {P : Nat → Value → Prop} {St : Nat → Heap → Prop} {m : Str → Option Value} {news : List (Addr × Obj)}
    (W : Walks prog w A I fp wr n P St) (hlive : ∀ i h, St i h → ∀ b ∈ fp, ∃ o, h.get? b = some o) (hst : St 0 s.heap) (hx : env.kindOf x = some .local)
    (hp : (env.scope.kind == .class || (env.scope.kind == .module && env.locals != env.globals)) = false)
    (F : Fr h₀ env.locals s.heap m) (N : News h₀ env.locals s.heap news)
    (hL : env.locals ∉ fp) (hwr : ∀ b ∈ wr, h₀.get? b = none) (hfp : ∀ b ∈ fp, ∀ p ∈ news, p.1 ≠ b)
    (J : Nat → (Str → Option Value) → List (Addr × Obj) → Prop) (hJ : J 0 m news)
    (turn : ∀ i v m₁ news₁ own s₁, i < n → P i v → J i m₁ news₁ → OwnOff own (news₁.map (·.1)) →
      Fr h₀ env.locals s₁.heap (fun z => if z = x then some v else m₁ z) → News h₀ env.locals s₁.heap (news₁ ++ own) → s₁.os = s.os → GX s.gens s₁.gens →
      wpAny (model prog w) A (execs body env) (TPost2 h₀ env.locals (J (i + 1)) own s₁ (fun f s' => R (.ok f) s')) (notedBy (model prog w) A env fun e s' => R (.error e) s') s₁)
    (done : ∀ m₁ news₁ s₁, J n m₁ news₁ → Fr h₀ env.locals s₁.heap m₁ → News h₀ env.locals s₁.heap news₁ → s₁.os = s.os → GX s.gens s₁.gens →
      wpAny (model prog w) A (execs orelse env) (fun f s₃ => R (.ok f) s₃) (notedBy (model prog w) A env fun e s' => R (.error e) s') s₁) :
    codeAny (model prog w) A (.forLoop (.Name x px) (.ref I) body orelse env) R s := by
  obtain ⟨Inv, hI⟩ : ∃ Inv : Nat → Shared → Prop, ∀ k s₁, Inv k s₁ ↔ (∃ i m₁ news₁, i ≤ n ∧ k = n + 1 - i ∧ St i s₁.heap ∧ J i m₁ news₁ ∧ Fr h₀ env.locals s₁.heap m₁ ∧ News h₀ env.locals s₁.heap news₁ ∧ (∀ b ∈ fp, h₀.get? b = none → ∀ p ∈ news₁, p.1 ≠ b) ∧ s₁.os = s.os ∧ GX s.gens s₁.gens) := ⟨_, fun _ _ => Iff.rfl⟩
  refine codeAny_forLoop_any Inv ?_ (n + 1) ((hI _ _).mpr ⟨0, m, news, Nat.zero_le _, rfl, hst, hJ, F, N, fun b hb _ => hfp b hb, rfl, .refl _⟩)
  intro k s₁ hinv
  obtain ⟨i, m₁, news₁, hi, rfl, hst₁, hJ₁, F₁, N₁, hoff₁, hos₁, hgx₁⟩ := (hI _ _).mp hinv
  clear hinv
  have hLw : env.locals ∉ wr := fun h => hL (W.sub _ h)
  have low : ∀ {h₂ : Heap}, (∀ b o, b ∉ wr → s₁.heap.get? b = some o → h₂.get? b = some o) → Fr h₀ env.locals h₂ m₁ ∧ News h₀ env.locals h₂ news₁ := fun hk => by
    refine ⟨⟨F₁.ns.at' fun o e => hk _ o hLw e, fun b o e => hk b o (fun hb => by rw [hwr b hb] at e; cases e) (F₁.keep b o e), F₁.above⟩, fun p hp => ⟨hk _ _ (fun hb => hoff₁ _ (W.sub _ hb) (hwr _ hb) p hp rfl) (N₁ p hp).1, (N₁ p hp).2⟩⟩
  by_cases hlt : i < n
  · refine W.item i s₁ _ _ hlt hst₁ fun v h₂ tk₂ hPv hst₂ hk₂ => ?_
    obtain ⟨F₂, N₂⟩ := low hk₂
    show wpAny _ _ (letOwnedTupleGo (.Name x px) (.ref I) v) _ _ _
    refine wpAny_of_eq (rfl : letOwnedTupleGo (.Name x px) (.ref I) v = pure ()) ?_
    refine wpAny_assign_Name (wpAny_storeName_local hx F₂.ns (fun h₃ hn₃ hs₃ => ?_) hp)
    replace hs₃ : Heap.SameBut env.locals h₂ h₃ := hs₃
    have up : ∀ b o, b ≠ env.locals → h₂.get? b = some o → h₃.get? b = some o := fun b o hb e => hs₃.extBut b o hb e
    have F₃ : Fr h₀ env.locals h₃ (fun z => if z = x then some v else m₁ z) := F₂.set hn₃ hs₃
    have hmem : ∀ {p}, p ∈ ownOf h₀ h₂ fp → p.1 ∈ fp ∧ h₀.get? p.1 = none ∧ h₂.get? p.1 = some p.2 := fun {p} hp => by
      obtain ⟨h1, h2⟩ := standing_mem _ hp
      obtain ⟨h3, h4⟩ := List.mem_filter.mp h1
      exact ⟨h3, Option.isNone_iff_eq_none.mp h4, h2⟩
    have N₃ : News h₀ env.locals h₃ (news₁ ++ ownOf h₀ h₂ fp) := by
      intro p hp
      rcases List.mem_append.mp hp with hp | hp
      · exact ⟨up _ _ (N₂ p hp).2.1 (N₂ p hp).1, (N₂ p hp).2⟩
      · obtain ⟨h1, h2, h3⟩ := hmem hp
        have hne : p.1 ≠ env.locals := fun e => hL (e ▸ h1)
        exact ⟨up _ _ hne h3, hne, h2⟩
    have off : OwnOff (ownOf h₀ h₂ fp) (news₁.map (·.1)) := by
      intro p hp b hb e
      obtain ⟨q, hq, rfl⟩ := List.mem_map.mp hb
      obtain ⟨h1, h2, _⟩ := hmem hp
      exact hoff₁ _ h1 h2 q hq e.symm
    refine wpAny_mono (turn i v m₁ news₁ _ _ hlt hPv hJ₁ off F₃ N₃ hos₁ hgx₁) (fun f s₃ hf => ?_) fun _ _ e => e
    have fin : TEnd2 h₀ env.locals (J (i + 1)) (ownOf h₀ h₂ fp) { s₁ with heap := h₃, toks := tk₂ + 1 } s₃ →
        ∃ k', k' < n + 1 - i ∧ Inv k' s₃ := by
      rintro ⟨m', news', nx, F', N', hnx, hown, hoff', hos', hgx', hJ'⟩
      have keep' : ∀ b ∈ fp, ∀ o, h₂.get? b = some o → s₃.heap.get? b = some o := fun b hb o e => by
        cases q : h₀.get? b with
        | some o' =>
          have := F₂.keep b o' q
          rw [e] at this; cases this
          exact F'.keep b o q
        | none => exact (N' _ (hown _ (mem_standing _ (List.mem_filter.mpr ⟨hb, by rw [q]; rfl⟩) e))).1
      refine ⟨n + 1 - (i + 1), lt_back hlt, (hI _ _).mpr ⟨i + 1, m', nx, hlt, rfl, W.frame _ _ _ hst₂ keep', hJ', F', fun p hp => N' p (hnx p hp), fun b hb hb0 p hp e => ?_, hos'.trans hos₁, hgx₁.trans hgx'⟩⟩
      -- a place of the iterator's: it stands in own
      cases q : h₂.get? b with
      | some o => exact hoff' _ (mem_standing _ (List.mem_filter.mpr ⟨hb, by rw [hb0]; rfl⟩) q) _ (List.mem_map_of_mem hp) e.symm
      | none => obtain ⟨o, ho⟩ := hlive _ _ hst₂ b hb; rw [q] at ho; cases ho
    cases f with
    | ret v => exact hf
    | brk => exact hf
    | next => exact fin hf
    | cont => exact fin hf
  · have hie : i = n := by omega
    subst hie
    refine W.done s₁ _ _ hst₁ fun h₂ tk₂ hk₂ => ?_
    obtain ⟨F₂, N₂⟩ := low hk₂
    exact done m₁ news₁ _ hJ₁ F₂ N₂ hos₁ hgx₁

theorem live_list {l I : Addr} {items : Array Value} : ∀ i (h : Heap), h.IsListIter I l i ∧ h.IsList l items → ∀ b ∈ [I, l], ∃ o, h.get? b = some o := by
  rintro i h ⟨⟨o, ho, _⟩, ⟨o', ho', _⟩⟩ b hb
  rcases List.mem_cons.mp hb with e | hb
  · rw [e]; exact ⟨o, ho⟩
  · rw [List.mem_singleton.mp hb]; exact ⟨o', ho'⟩

theorem live_tuple {l I : Addr} {items : Array Value} : ∀ i (h : Heap), h.IsTupleIter I l i ∧ h.IsTuple l items → ∀ b ∈ [I, l], ∃ o, h.get? b = some o := by
  rintro i h ⟨⟨o, ho, _⟩, ⟨o', ho', _⟩⟩ b hb
  rcases List.mem_cons.mp hb with e | hb
  · rw [e]; exact ⟨o, ho⟩
  · rw [List.mem_singleton.mp hb]; exact ⟨o', ho'⟩

theorem for_tuple {x : Str} {px : Pos} {body orelse : List Stmt} {l : Addr} {items : Array Value} {m : Str → Option Value} {news : List (Addr × Obj)} {E₁ : Value → Shared → Prop}
    (hh : A.handled = none) (hl : s.heap.IsTuple l items) (hl0 : h₀.get? l = none) (hlL : l ≠ env.locals) (hln : ∀ p ∈ news, p.1 ≠ l) (hx : env.kindOf x = some .local)
    (hp : (env.scope.kind == .class || (env.scope.kind == .module && env.locals != env.globals)) = false)
    (F : Fr h₀ env.locals s.heap m) (N : News h₀ env.locals s.heap news)
    (J : Nat → (Str → Option Value) → List (Addr × Obj) → Prop) (hJ : J 0 m news)
    (turn : ∀ i v m₁ news₁ own s₁, items[i]? = some v → J i m₁ news₁ → OwnOff own (news₁.map (·.1)) →
      Fr h₀ env.locals s₁.heap (fun z => if z = x then some v else m₁ z) → News h₀ env.locals s₁.heap (news₁ ++ own) → s₁.os = s.os → GX s.gens s₁.gens →
      wpAny (model prog w) A (execs body env) (TPost2 h₀ env.locals (J (i + 1)) own s₁ (fun f s' => R (.ok f) s')) (notedBy (model prog w) A env fun e s' => R (.error e) s') s₁)
    (done : ∀ m₁ news₁ s₁, J items.size m₁ news₁ → Fr h₀ env.locals s₁.heap m₁ → News h₀ env.locals s₁.heap news₁ → s₁.os = s.os → GX s.gens s₁.gens →
      wpAny (model prog w) A (execs orelse env) (fun f s₃ => R (.ok f) s₃) (notedBy (model prog w) A env fun e s' => R (.error e) s') s₁) :
    wpAny (model prog w) A (pyIter (.ref l)) (fun it s₂ => codeAny (model prog w) A (.forLoop (.Name x px) it body orelse env) R s₂) E₁ s := by
  obtain ⟨ol, hol, hol2⟩ := id hl
  have hne : l ≠ s.heap.objs.size := Nat.ne_of_lt (Heap.lt_size hol)
  refine wpAny_pyIter_tuple hl ?_
  have W := Walks.tuple (prog := prog) (w := w) hh s.heap.objs.size l hne items
  refine loop_walk (m := m) (news := news) W live_tuple ⟨⟨_, Heap.get?_push_size _ rfl, rfl, rfl⟩, ⟨ol, Heap.get?_push_of_some _ hol, hol2⟩⟩ hx hp (F.push _) (fun p hp => ⟨Heap.get?_push_of_some _ (N p hp).1, (N p hp).2⟩) ?_ ?_ ?_ J hJ ?_ ?_
  · intro hm
    rcases List.mem_cons.mp hm with e | hm
    · exact absurd F.ns.lt (e ▸ Nat.lt_irrefl _)
    · exact hlL (List.mem_singleton.mp hm).symm
  · intro b hb
    rw [List.mem_singleton.mp hb]
    exact next_is_new F
  · intro b hb p hp e
    rcases List.mem_cons.mp hb with e' | hb
    · exact absurd (Heap.lt_size (N p hp).1) (e ▸ e' ▸ Nat.lt_irrefl _)
    · rw [List.mem_singleton.mp hb] at e
      exact hln p hp e
  · intro i v m₁ news₁ own s₁ _ hP hJ₁ hoff F₁ N₁ hos hgx
    exact turn i v m₁ news₁ own s₁ hP hJ₁ hoff F₁ N₁ hos hgx
  · intro m₁ news₁ s₁ hJ₁ F₁ N₁ hos hgx
    exact done m₁ news₁ s₁ hJ₁ F₁ N₁ hos hgx

theorem for_list {x : Str} {px : Pos} {body orelse : List Stmt} {l : Addr} {items : Array Value} {m : Str → Option Value} {news : List (Addr × Obj)} {E₁ : Value → Shared → Prop}
    (hh : A.handled = none) (hl : h₀.IsList l items) (hx : env.kindOf x = some .local)
    (hp : (env.scope.kind == .class || (env.scope.kind == .module && env.locals != env.globals)) = false)
    (F : Fr h₀ env.locals s.heap m) (N : News h₀ env.locals s.heap news)
    (J : Nat → (Str → Option Value) → List (Addr × Obj) → Prop) (hJ : J 0 m news)
    (turn : ∀ i v m₁ news₁ own s₁, items[i]? = some v → J i m₁ news₁ → OwnOff own (news₁.map (·.1)) →
      Fr h₀ env.locals s₁.heap (fun z => if z = x then some v else m₁ z) → News h₀ env.locals s₁.heap (news₁ ++ own) → s₁.os = s.os → GX s.gens s₁.gens →
      wpAny (model prog w) A (execs body env) (TPost2 h₀ env.locals (J (i + 1)) own s₁ (fun f s' => R (.ok f) s')) (notedBy (model prog w) A env fun e s' => R (.error e) s') s₁)
    (done : ∀ m₁ news₁ s₁, J items.size m₁ news₁ → Fr h₀ env.locals s₁.heap m₁ → News h₀ env.locals s₁.heap news₁ → s₁.os = s.os → GX s.gens s₁.gens →
      wpAny (model prog w) A (execs orelse env) (fun f s₃ => R (.ok f) s₃) (notedBy (model prog w) A env fun e s' => R (.error e) s') s₁) :
    wpAny (model prog w) A (pyIter (.ref l)) (fun it s₂ => codeAny (model prog w) A (.forLoop (.Name x px) it body orelse env) R s₂) E₁ s := by
  have hls : s.heap.IsList l items := hl.at fun o e => F.keep l o e
  obtain ⟨ol, hol, _⟩ := id hl
  have hlt : l < h₀.objs.size := Heap.lt_size hol
  have hlL : l < env.locals := Nat.lt_of_lt_of_le hlt F.above
  have hne : l ≠ s.heap.objs.size := Nat.ne_of_lt (Nat.lt_trans hlL F.ns.lt)
  refine wpAny_pyIter_list hls ?_
  have W := Walks.list (prog := prog) (w := w) hh s.heap.objs.size l hne items
  refine loop_walk (m := m) (news := news) W live_list ⟨⟨_, Heap.get?_push_size _ rfl, rfl, rfl⟩, hls.at fun o e => Heap.get?_push_of_some _ e⟩ hx hp (F.push _) (fun p hp => ⟨Heap.get?_push_of_some _ (N p hp).1, (N p hp).2⟩) ?_ ?_ ?_ J hJ ?_ ?_
  · intro hm
    rcases List.mem_cons.mp hm with e | hm
    · exact absurd F.ns.lt (e ▸ Nat.lt_irrefl _)
    · exact absurd hlL ((List.mem_singleton.mp hm) ▸ Nat.lt_irrefl _)
  · intro b hb
    rw [List.mem_singleton.mp hb]
    exact next_is_new F
  · intro b hb p hp e
    rcases List.mem_cons.mp hb with e' | hb
    · exact absurd (Heap.lt_size (N p hp).1) (e ▸ e' ▸ Nat.lt_irrefl _)
    · rw [List.mem_singleton.mp hb] at e
      have := (N p hp).2.2
      rw [e, hol] at this; cases this
  · intro i v m₁ news₁ own s₁ _ hP hJ₁ hoff F₁ N₁ hos hgx
    exact turn i v m₁ news₁ own s₁ hP hJ₁ hoff F₁ N₁ hos hgx
  · intro m₁ news₁ s₁ hJ₁ F₁ N₁ hos hgx
    exact done m₁ news₁ s₁ hJ₁ F₁ N₁ hos hgx
end

end
section
open PySem PySem.W PyProof.Rows
example : True := by
  w_top off
  trivial
set_option maxRecDepth 100000
set_option maxHeartbeats 1000000

theorem range_small {a b c : Int} (ha : -1000 ≤ a) (ha' : a ≤ 1000) (hb : -1000 ≤ b) (hb' : b ≤ 1000) (hc : c = 1 ∨ c = -1) : Builtin.Range.small a b c = true := by
  have e : Builtin.Range.rangeSize a b c ≤ 2000 ∧ 0 ≤ Builtin.Range.rangeSize a b c := by
    rcases hc with rfl | rfl <;> (unfold Builtin.Range.rangeSize; simp; split <;> omega)
  have fit : ∀ x : Int, -2000 ≤ x → x ≤ 2000 → -9223372036854775808 ≤ x ∧ x < 9223372036854775808 := fun x h h' => ⟨Int.le_trans (by decide) h, Int.lt_of_le_of_lt h' (by decide)⟩
  have fa := fit a (Int.le_trans (by decide) ha) (Int.le_trans ha' (by decide))
  have fb := fit b (Int.le_trans (by decide) hb) (Int.le_trans hb' (by decide))
  have fe := fit _ (Int.le_trans (by decide) e.2) e.1
  unfold Builtin.Range.small Builtin.Range.rangeFitsLong
  rcases hc with rfl | rfl <;> simp <;> exact ⟨⟨⟨fa, fb⟩, fe⟩, .inr fb⟩
theorem rangeSize_up {a b : Int} {n : Nat} (h : b = a + n) : Builtin.Range.rangeSize a b 1 = n := by
  unfold Builtin.Range.rangeSize; simp; split <;> omega
theorem rangeSize_down {a b : Int} {n : Nat} (h : a = b + n) : Builtin.Range.rangeSize a b (-1) = n := by
  unfold Builtin.Range.rangeSize; simp; split <;> omega

section
variable {prog : Program} {w : World} {A : Around} {R : Result → Shared → Prop} {s : Shared} {env : Env} {h₀ : Heap}
theorem live_range {I : Addr} {a c : Int} {n : Nat} : ∀ (i : Nat) (h : Heap), IsRangeIter h I (a + (i : Nat) * c) ((n : Int) - (i : Nat)) c → ∀ b ∈ [I], ∃ o, h.get? b = some o := by
  intro i h st b hb
  rw [List.mem_singleton.mp hb]; exact ⟨_, st⟩
theorem for_range {x : Str} {px : Pos} {body orelse : List Stmt} {r : Addr} {a b c : Int} {t u v : Tok} {n : Nat} {m : Str → Option Value} {news : List (Addr × Obj)} {E₁ : Value → Shared → Prop}
    (hh : A.handled = none) (hr : IsRange s.heap r a b c t u v) (hsm : Builtin.Range.small a b c = true) (hn : Builtin.Range.rangeSize a b c = n) (hx : env.kindOf x = some .local)
    (hp : (env.scope.kind == .class || (env.scope.kind == .module && env.locals != env.globals)) = false)
    (F : Fr h₀ env.locals s.heap m) (N : News h₀ env.locals s.heap news)
    (J : Nat → (Str → Option Value) → List (Addr × Obj) → Prop) (hJ : J 0 m news)
    (turn : ∀ i tk m₁ news₁ own s₁, i < n → J i m₁ news₁ → OwnOff own (news₁.map (·.1)) →
      Fr h₀ env.locals s₁.heap (fun z => if z = x then some (.int (a + i * c) tk) else m₁ z) → News h₀ env.locals s₁.heap (news₁ ++ own) → s₁.os = s.os → GX s.gens s₁.gens →
      wpAny (model prog w) A (execs body env) (TPost2 h₀ env.locals (J (i + 1)) own s₁ (fun f s' => R (.ok f) s')) (notedBy (model prog w) A env fun e s' => R (.error e) s') s₁)
    (done : ∀ m₁ news₁ s₁, J n m₁ news₁ → Fr h₀ env.locals s₁.heap m₁ → News h₀ env.locals s₁.heap news₁ → s₁.os = s.os → GX s.gens s₁.gens →
      wpAny (model prog w) A (execs orelse env) (fun f s₃ => R (.ok f) s₃) (notedBy (model prog w) A env fun e s' => R (.error e) s') s₁) :
    wpAny (model prog w) A (pyIter (.ref r)) (fun it s₂ => codeAny (model prog w) A (.forLoop (.Name x px) it body orelse env) R s₂) E₁ s := by
  refine wpAny_pyIter_range hr hsm ?_
  rw [hn]
  have W := Walks.range (prog := prog) (w := w) hh s.heap.objs.size a c n
  refine loop_walk (m := m) (news := news) W live_range ?_ hx hp (F.push _) (fun p hp => ⟨Heap.get?_push_of_some _ (N p hp).1, (N p hp).2⟩) ?_ ?_ ?_ J hJ ?_ ?_
  · have e1 : a + ((0 : Nat) : Int) * c = a := by simp
    have e2 : (n : Int) - ((0 : Nat) : Int) = n := by simp
    show IsRangeIter _ _ _ _ _
    rw [e1, e2]; exact Heap.get?_push_size _ rfl
  · intro hm
    exact absurd F.ns.lt ((List.mem_singleton.mp hm) ▸ Nat.lt_irrefl _)
  · intro b hb
    rw [List.mem_singleton.mp hb]
    exact next_is_new F
  · intro b hb p hp e
    exact absurd (Heap.lt_size (N p hp).1) (e ▸ (List.mem_singleton.mp hb) ▸ Nat.lt_irrefl _)
  · rintro i v m₁ news₁ own s₁ hi ⟨tk, rfl⟩ hJ₁ hoff F₁ N₁ hos hgx
    exact turn i tk m₁ news₁ own s₁ hi hJ₁ hoff F₁ N₁ hos hgx
  · intro m₁ news₁ s₁ hJ₁ F₁ N₁ hos hgx
    exact done m₁ news₁ s₁ hJ₁ F₁ N₁ hos hgx
end

end
section
open PySem PySem.W PyProof.Rows
example : True := by
  w_top off
  trivial
set_option maxRecDepth 100000
set_option maxHeartbeats 8000000

structure SS where
  start : Int
  opn : Option Int
  res : List Str
noncomputable def stripStep (addr : Str) (st : SS) (it : Int × Str) : SS :=
  if (it.2 == Str.ofString "\"") = true then
    match st.opn with
    | none => { st with opn := some it.1 }
    | some o => ⟨it.1 + 1, none, if st.start ≠ o then st.res ++ [Txt.slice addr (some st.start) (some o)] else st.res⟩
  else st
noncomputable def stripEnd (addr : Str) (st : SS) : List Str := if st.start < addr.length then st.res ++ [Txt.slice addr (some st.start) none] else st.res
noncomputable def stripAll (addr : Str) : SS := (items addr).foldl (stripStep addr) ⟨0, none, []⟩
noncomputable def stripF (addr : Str) : Str := if (Builtin.Str.occurrences addr (Str.ofString "\"") 0 addr.length 1).isEmpty = true then addr else Txt.join (Str.ofString "") (stripEnd addr (stripAll addr))

set_option hygiene false
local macro_rules | `(tactic| walk_at "eval Name") => `(tactic| (k_here; k_dflt (refine ld (by k_asm) (by (first | assumption | (simp (decide := true) only [if_true, if_false]; assumption))) ?_; k_whole)))
set_option hygiene true

theorem itemsFrom_length (cs : List Nat) : ∀ i esc, (itemsFrom cs i esc).length ≤ cs.length + 1 := by
  induction cs with
  | nil => intro i esc; unfold itemsFrom; split <;> simp
  | cons c r ih =>
    intro i esc
    unfold itemsFrom
    split
    · have := ih (i + 1) false; simp only [List.length_cons]; omega
    · split
      · have := ih (i + 1) true; simp only [List.length_cons]; omega
      · have := ih (i + 1) false; simp only [List.length_cons]; omega
theorem items_length (addr : Str) : (items addr).length ≤ addr.length + 1 := by
  have := itemsFrom_length addr.cps.toList 0 false
  simpa [items, Str.length] using this
theorem StrsAre.length {vs : List Value} {xs : List Str} (h : StrsAre vs xs) : vs.length = xs.length := by
  induction h with
  | nil => rfl
  | cons _ ih => simp [ih]

theorem StrsAre.vals {vs : List Value} {xs : List Str} (h : StrsAre vs xs) : ∃ l : List (Str × Tok), vs = strValues l ∧ l.map (·.1) = xs := by
  induction h with
  | nil => exact ⟨[], rfl, rfl⟩
  | cons _ ih => obtain ⟨l, rfl, rfl⟩ := ih; exact ⟨(_, _) :: l, rfl, rfl⟩

theorem join_strs {prog : Program} {w : World} {A : Around} {E : Value → Shared → Prop} {s : Shared} {x : Str} {t : Tok} {Q : Value → Shared → Prop} {h₀ : Heap} {L r : Addr} {news : List (Addr × Obj)} {items : List Value} {xs : List Str} {n : Nat}
    (N : News h₀ L s.heap news) (hm : (r, W.listOf items.toArray n) ∈ news) (hv : StrsAre items xs) (hok : JoinOk x xs = true) (h : ∀ t' k, Q (.str (Txt.join x xs) t') { s with toks := k }) :
    wpAny (model prog w) A (call (.builtin "str.join") [.str x t, .ref r]) Q E s := by
  obtain ⟨l, rfl, hl⟩ := hv.vals
  exact SC.join ⟨_, (N _ hm).1, rfl, _, rfl⟩ hl hok h

theorem sum_le_mul (l : List Str) (b : Nat) (h : ∀ x ∈ l, x.length ≤ b) : (l.map (·.length)).sum ≤ l.length * b := by
  induction l with
  | nil => simp
  | cons a r ih =>
    have h1 := h a (.head _)
    have h2 := ih fun x hx => h x (.tail _ hx)
    simp only [List.map_cons, List.sum_cons, List.length_cons, Nat.succ_mul]
    omega
theorem joinOk_small {x : Str} {xs : List Str} {b : Nat} (hx : x.length ≤ 16) (h : ∀ y ∈ xs, y.length ≤ b) (hb : b ≤ 500) (hn : xs.length ≤ 502) : JoinOk x xs = true := by
  refine joinOk_of_weight ?_ hx
  have h1 := sum_le_mul xs b h
  have h2 : xs.length * b ≤ 502 * 500 := Nat.mul_le_mul hn hb
  exact Nat.le_trans (Nat.add_le_add (Nat.le_trans h1 h2) hn) (Nat.le_of_ble_eq_true rfl)
theorem stripStep_bound {addr : Str} {st : SS} {it : Int × Str} (h : ∀ x ∈ st.res, x.length ≤ addr.length) : ∀ x ∈ (stripStep addr st it).res, x.length ≤ addr.length := by
  intro x hx
  unfold stripStep at hx
  split at hx
  · split at hx
    · exact h x hx
    · dsimp only at hx
      split at hx
      · rcases List.mem_append.mp hx with hx | hx
        · exact h x hx
        · rw [List.mem_singleton.mp hx]; exact PyProof.Txt.length_slice_le _ _ _
      · exact h x hx
  · exact h x hx
theorem strip_bound {addr : Str} : ∀ (its : List (Int × Str)) (st : SS), (∀ x ∈ st.res, x.length ≤ addr.length) → ∀ x ∈ (its.foldl (stripStep addr) st).res, x.length ≤ addr.length := by
  intro its
  induction its with
  | nil => intro st h; exact h
  | cons it r ih => intro st h; exact ih _ (stripStep_bound h)

theorem invEnd1 {h₀ : Heap} {L : Addr} {J : (Str → Option Value) → List (Addr × Obj) → Prop} {own : List (Addr × Obj)} {r : Addr} {s₁ : Shared} {h' : Heap} {tk : Nat} {m' : Str → Option Value} {o : Obj}
    (F : Fr h₀ L h' m') (N : News h₀ L h' ((r, o) :: own)) (hj : J m' [(r, o)]) : TEnd h₀ L J own [r] s₁ { s₁ with heap := h', toks := tk } :=
  ⟨h', tk, m', _, [(r, o)], rfl, F, N, fun p hp => by rw [List.mem_singleton.mp hp]; exact .head _, fun p hp => .tail _ hp, rfl, hj⟩

theorem c_strip {w : World} {mg mb : Str → Option Value} {A : Around} {s : Shared} {Q E : Value → Shared → Prop} {addr : Str} {t : Tok}
    (C : Cx w mg mb s.heap) (hh : A.handled = none) (hroom : A.depth + 10 < recursionLimit) (hlen : addr.length ≤ 500)
    (hQ : ∀ t' s', Ext s s' → Q (.str (stripF addr) t') s') :
    wpAny (model PR w) A (call (.ref 196) [.str addr t]) Q E s := by
  obtain ⟨X, T⟩ := C
  refine wpAny_call ?_
  k_dflt (refine' enter_def (binds := [(Str.ofString "addr", .str addr t)]) ?k1 ?k2 ?k3 ?k4 ?k5 ?k6 ?k7 ?_ ?c1 ?c2 ?c3 ?c4; (case k1 => exact X); (case k2 => exact T.nolimit); (case k3 => k_is); (case k4 => k_is); (case k5 => omega); (case k6 => exact BindsTo.of_eq rfl); (case k7 => exact locs rfl); (case c1 => exact rfl); (case c2 => exact rfl); (case c3 => exact rfl); (case c4 => decide))
  intro L h₁ F hL
  refine abstr ?_
  intro Q0 E0 hP0 hE0
  have N : News s.heap L h₁ [] := News.nil
  (try dsimp only)
  (try k_fold)
  k_steps
  · have e : stripF addr = addr := if_pos (by assumption)
    rw [e] at hQ
    exact hP0 _ _ (hQ _ _ ⟨F.keep, rfl, .refl _⟩)
  rename Fr _ _ _ _ => F'
  rename News _ _ _ _ => N'
  refine wpAny_For ?_
  k_steps
  refine iter_for (h₀ := s.heap) (m := _) (news := _) ⟨X, T⟩ F' N' hh (by show A.depth + 1 < recursionLimit; omega) (by decide) rfl rfl rfl
    (fun j m₁ news₁ => ∃ (st : SS) (vs : List Value) (n : Nat) (u : Tok) (r : Addr), st = ((items addr).take j).foldl (stripStep addr) ⟨0, none, []⟩ ∧ m₁ (Str.ofString "addr") = some (.str addr t) ∧ m₁ (Str.ofString "start") = some (.int st.start u) ∧
      (match st.opn with | none => m₁ (Str.ofString "open_pos") = some .none | some o => ∃ u', m₁ (Str.ofString "open_pos") = some (.int o u')) ∧ m₁ (Str.ofString "result") = some (.ref r) ∧
      StrsAre vs st.res ∧ st.res.length ≤ j ∧ news₁ = [(r, W.listOf vs.toArray n)]) ?_ ?_ ?_
  · exact ⟨_, [], 0, _, _, rfl, rfl, rfl, rfl, rfl, .nil, Nat.le_refl _, rfl⟩
  · rintro j pos ch t1 t2 m₁ news₁ own s₁ hit ⟨st, vs, n, u, r, hst, m1, m2, m3, m4, hvs, hn, rfl⟩ hadr hoff F₁ N₁ hos₁ hgx₁
    simp only [List.map_cons, List.map_nil, List.cons.injEq, and_true] at hadr
    subst hadr
    change Fr s.heap L s₁.heap _ at F₁
    change News s.heap L s₁.heap (_ :: own) at N₁
    change OwnOff own [r] at hoff
    refine abstr ?_
    intro Q1 E1 hP1 hE1
    have hnext : ((items addr).take (j + 1)).foldl (stripStep addr) ⟨0, none, []⟩ = stripStep addr st (pos, ch) := by
      rw [List.take_add_one, hit, List.foldl_append, ← hst]; rfl
    obtain ⟨start, opn, res⟩ := st
    dsimp only at m2 m3 hvs hn hnext
    have hz : vs.toArray.size ≤ sizeLine := by
      have h1 := items_length addr
      have h2 : j < (items addr).length := (List.getElem?_eq_some_iff.mp hit).1
      have h3 := hvs.length
      rw [List.size_toArray, sizeLine_eq]
      omega
    cases opn with
    | none =>
      dsimp only at m3
      k_steps
      · rename (_ == _) = true => hq
        have e : stripStep addr ⟨start, none, res⟩ (pos, ch) = ⟨start, some pos, res⟩ := by simp only [stripStep, hq, if_true]
        rw [e] at hnext
        refine hP1 _ _ (show TEnd _ _ _ _ _ _ _ from invEnd1 (by assumption) (by assumption) ⟨⟨start, some pos, res⟩, vs, n, u, r, hnext.symm, ?_, ?_, ⟨t1, ?_⟩, ?_, hvs, Nat.le_succ_of_le hn, rfl⟩)
        all_goals (first | rfl | assumption)
      · rename (_ == _) = false => hq
        have e : stripStep addr ⟨start, none, res⟩ (pos, ch) = ⟨start, none, res⟩ := by simp only [stripStep, hq, Bool.false_eq_true, if_false]
        rw [e] at hnext
        refine hP1 _ _ (show TEnd _ _ _ _ _ _ _ from invEnd1 (by assumption) (by assumption) ⟨⟨start, none, res⟩, vs, n, u, r, hnext.symm, ?_, ?_, ?_, ?_, hvs, Nat.le_succ_of_le hn, rfl⟩)
        all_goals (first | rfl | assumption)
    | some o =>
      obtain ⟨u', m3⟩ := m3
      k_steps
      · rename (_ == _) = true => hq
        rename ¬ _ = _ => hso
        have e : stripStep addr ⟨start, some o, res⟩ (pos, ch) = ⟨pos + 1, none, res ++ [Txt.slice addr (some start) (some o)]⟩ := by simp only [stripStep, hq, if_true, ne_eq, hso, not_false_eq_true]
        rw [e] at hnext
        rename News _ _ _ _ => N9
        rw [List.push_toArray] at N9
        refine hP1 _ _ (show TEnd _ _ _ _ _ _ _ from invEnd1 (by assumption) N9 ⟨⟨pos + 1, none, res ++ [Txt.slice addr (some start) (some o)]⟩, _, _, _, r, hnext.symm, ?_, rfl, ?_, ?_, hvs.snoc, ?_, rfl⟩)
        · assumption
        · rfl
        · assumption
        · rw [List.length_append]; exact Nat.succ_le_succ hn
      · rename (_ == _) = true => hq
        rename start = o => hso
        have e : stripStep addr ⟨start, some o, res⟩ (pos, ch) = ⟨pos + 1, none, res⟩ := by simp only [stripStep, hq, if_true, ne_eq, hso, not_true_eq_false, if_false]
        rw [e] at hnext
        refine hP1 _ _ (show TEnd _ _ _ _ _ _ _ from invEnd1 (by assumption) (by assumption) ⟨⟨pos + 1, none, res⟩, vs, n, _, r, hnext.symm, ?_, rfl, ?_, ?_, hvs, Nat.le_succ_of_le hn, rfl⟩)
        all_goals (first | rfl | assumption)
      · rename (_ == _) = false => hq
        have e : stripStep addr ⟨start, some o, res⟩ (pos, ch) = ⟨start, some o, res⟩ := by simp only [stripStep, hq, Bool.false_eq_true, if_false]
        rw [e] at hnext
        refine hP1 _ _ (show TEnd _ _ _ _ _ _ _ from invEnd1 (by assumption) (by assumption) ⟨⟨start, some o, res⟩, vs, n, u, r, hnext.symm, ?_, ?_, ⟨u', ?_⟩, ?_, hvs, Nat.le_succ_of_le hn, rfl⟩)
        all_goals (first | rfl | assumption)
  · rintro m₁ news₁ s₁ ⟨st, vs, n, u, r, hst, m1, m2, m3, m4, hvs, hn, rfl⟩ hadr F₁ N₁ hos₁ hgx₁
    change Fr s.heap L s₁.heap _ at F₁
    change News s.heap L s₁.heap _ at N₁
    have hz : vs.toArray.size ≤ sizeLine := by
      have h1 := items_length addr
      have h3 := hvs.length
      rw [List.size_toArray, sizeLine_eq]
      omega
    rw [List.take_length] at hst
    have hb : ∀ x ∈ st.res, x.length ≤ addr.length := hst ▸ strip_bound _ _ (fun _ h => nomatch h)
    have hF : stripF addr = Txt.join (Str.ofString "") (stripEnd addr st) := by
      unfold stripF stripAll
      rw [← hst]
      exact if_neg (by rw [‹List.isEmpty _ = false›]; exact Bool.false_ne_true)
    k_steps
    · rename News _ _ _ _ => N9
      rename Fr _ _ _ _ => F9
      rename st.start < _ => hlt
      rw [List.push_toArray] at N9
      refine join_strs N9 (.head _) hvs.snoc (joinOk_small (by decide) (b := addr.length) ?_ hlen ?_) fun t' k => ?_
      · intro y hy
        rcases List.mem_append.mp hy with hy | hy
        · exact hb y hy
        · rw [List.mem_singleton.mp hy]; exact PyProof.Txt.length_slice_le _ _ _
      · have h1 := items_length addr
        rw [List.length_append]
        show st.res.length + 1 ≤ 502
        omega
      · rw [hF, stripEnd, if_pos hlt] at hQ
        exact hP0 _ _ (hQ _ _ ⟨F9.keep, hos₁, hgx₁⟩)
    · rename ¬ st.start < _ => hlt
      refine join_strs N₁ (.head _) hvs (joinOk_small (by decide) (b := addr.length) hb hlen ?_) fun t' k => ?_
      · have h1 := items_length addr
        omega
      · rw [hF, stripEnd, if_neg hlt] at hQ
        exact hP0 _ _ (hQ _ _ ⟨F₁.keep, hos₁, hgx₁⟩)

end
section
open PySem PySem.W PyProof.Rows
example : True := by
  w_top off
  trivial
set_option maxRecDepth 100000
set_option maxHeartbeats 1000000

noncomputable def checkStep (st : Option Int) (it : Int × Str) : Option Int :=
  match st with
  | none => none
  | some o => if (it.2 == Str.ofString "(") = true then some (o + 1) else if (it.2 == Str.ofString ")") = true then (if o - 1 < 0 then none else some (o - 1)) else some o
noncomputable def checkF (addr : Str) : Bool := match (items (stripF addr)).foldl checkStep (some 0) with
  | none => false
  | some o => o == 0
theorem check_none (its : List (Int × Str)) : its.foldl checkStep none = none := by
  induction its with
  | nil => rfl
  | cons a r ih => exact ih

set_option hygiene false
local macro_rules | `(tactic| walk_at "eval Name") => `(tactic| (k_here; k_dflt (refine ld (by k_asm) (by (first | assumption | (simp (decide := true) only [if_true, if_false]; assumption))) ?_; k_whole)))
set_option hygiene true

set_option hygiene false
local macro_rules | `(tactic| walk_at "loadName") => `(tactic| (k_here; k_dflt (refine ldn (by k_asm) (by (first | assumption | (simp (decide := true) only [if_true, if_false]; assumption))) ?_; k_whole)))
set_option hygiene true

theorem invEnd0 {h₀ : Heap} {L : Addr} {J : (Str → Option Value) → List (Addr × Obj) → Prop} {own : List (Addr × Obj)} {s₁ : Shared} {h' : Heap} {tk : Nat} {m' : Str → Option Value}
    (F : Fr h₀ L h' m') (N : News h₀ L h' own) (hj : J m' []) : TEnd h₀ L J own [] s₁ { s₁ with heap := h', toks := tk } :=
  ⟨h', tk, m', _, [], rfl, F, N, fun _ hp => (nomatch hp), fun _ hp => hp, rfl, hj⟩

theorem c_check {w : World} {mg mb : Str → Option Value} {A : Around} {s : Shared} {Q E : Value → Shared → Prop} {addr : Str} {t : Tok}
    (C : Cx w mg mb s.heap) (hh : A.handled = none) (hroom : A.depth + 20 < recursionLimit) (hlen : addr.length ≤ 500)
    (hQ : ∀ s', Ext s s' → Q (.bool (checkF addr)) s') :
    wpAny (model PR w) A (call (.ref 203) [.str addr t]) Q E s := by
  obtain ⟨X, T⟩ := C
  refine wpAny_call ?_
  k_dflt (refine' enter_def (binds := [(Str.ofString "addr", .str addr t)]) ?k1 ?k2 ?k3 ?k4 ?k5 ?k6 ?k7 ?_ ?c1 ?c2 ?c3 ?c4; (case k1 => exact X); (case k2 => exact T.nolimit); (case k3 => k_is); (case k4 => k_is); (case k5 => omega); (case k6 => exact BindsTo.of_eq rfl); (case k7 => exact locs rfl); (case c1 => exact rfl); (case c2 => exact rfl); (case c3 => exact rfl); (case c4 => decide))
  intro L h₁ F hL
  refine abstr ?_
  intro Q0 E0 hP0 hE0
  have N : News s.heap L h₁ [] := News.nil
  (try dsimp only)
  (try k_fold)
  k_steps
  refine c_strip (Cx.keeps ⟨X, T⟩ F.keep) hh (by show A.depth + 1 + 10 < recursionLimit; omega) hlen fun t' s₁ ex => ?_
  have F₁ := F.keeps ex.keep
  have N₁ := News.keeps N ex.keep
  clear F N
  k_steps
  rename Fr _ _ _ _ => F'
  rename News _ _ _ _ => N'
  refine wpAny_For ?_
  k_steps
  refine iter_for (h₀ := s.heap) (m := _) (news := _) ⟨X, T⟩ F' N' hh (by show A.depth + 1 < recursionLimit; omega) (by decide) rfl rfl rfl
    (fun j m₁ news₁ => ∃ (o : Int) (u : Tok), ((items (stripF addr)).take j).foldl checkStep (some 0) = some o ∧ m₁ (Str.ofString "opens") = some (.int o u) ∧ news₁ = []) ?_ ?_ ?_
  · exact ⟨0, _, rfl, rfl, rfl⟩
  · rintro j pos ch t1 t2 m₁ news₁ own s₂ hit ⟨o, u, hst, m1, rfl⟩ hadr hoff F₂ N₂ hos₂ hgx₂
    change Fr s.heap L s₂.heap _ at F₂
    change News s.heap L s₂.heap own at N₂
    have hnext : ((items (stripF addr)).take (j + 1)).foldl checkStep (some 0) = checkStep (some o) (pos, ch) := by
      rw [List.take_add_one, hit, List.foldl_append, hst]; rfl
    refine abstr ?_
    intro Q1 E1 hP1 hE1
    k_steps
    · rename (_ == _) = true => hq
      refine hP1 _ _ (show TEnd _ _ _ _ _ _ _ from invEnd0 (by assumption) (by assumption) ⟨o + 1, _, ?_, rfl, rfl⟩)
      rw [hnext]; simp only [checkStep, hq, if_true]
    · rename (_ == _) = true => hq
      rename (_ == _) = false => hq'
      rename o - 1 < 0 => hneg
      have hfin : checkF addr = false := by
        unfold checkF
        have e : (items (stripF addr)).foldl checkStep (some 0) = none := by
          rw [← List.take_append_drop (j + 1) (items (stripF addr)), List.foldl_append, hnext]
          simp only [checkStep, hq, hq', if_true, Bool.false_eq_true, if_false, hneg]
          exact check_none _
        rw [e]
      rw [hfin] at hQ
      rename Fr _ _ _ _ => F9
      refine hP1 _ _ ?_
      refine hP0 _ _ ?_
      exact hQ _ ⟨F9.keep, hos₂.trans ex.os, ex.gens.trans hgx₂⟩
    · rename (_ == _) = true => hq
      rename (_ == _) = false => hq'
      rename ¬ o - 1 < 0 => hneg
      refine hP1 _ _ (show TEnd _ _ _ _ _ _ _ from invEnd0 (by assumption) (by assumption) ⟨o - 1, _, ?_, rfl, rfl⟩)
      rw [hnext]; simp only [checkStep, hq, hq', if_true, Bool.false_eq_true, if_false, hneg]
    · rename (ch == Str.ofString "(") = false => hq
      rename (ch == Str.ofString ")") = false => hq'
      refine hP1 _ _ (show TEnd _ _ _ _ _ _ _ from invEnd0 (by assumption) (by assumption) ⟨o, u, ?_, ?_, rfl⟩)
      · rw [hnext]; simp only [checkStep, hq, hq', Bool.false_eq_true, if_false]
      · assumption
  · rintro m₁ news₁ s₂ ⟨o, u, hst, m1, rfl⟩ hadr F₂ N₂ hos₂ hgx₂
    change Fr s.heap L s₂.heap _ at F₂
    change News s.heap L s₂.heap _ at N₂
    rw [List.take_length] at hst
    have hfin : checkF addr = (o == 0) := by unfold checkF; rw [hst]
    rw [hfin] at hQ
    k_steps
    refine hP0 _ _ ?_
    exact hQ _ ⟨F₂.keep, hos₂.trans ex.os, ex.gens.trans hgx₂⟩

end
section
open PySem PySem.W PyProof.Rows PySem.Spec PySem.SeqAt
example : True := by
  w_top off
  trivial
set_option maxRecDepth 100000
set_option maxHeartbeats 1000000

inductive BoolsAre : List Value → List Bool → Prop
  | nil : BoolsAre [] []
  | cons {b : Bool} {vs : List Value} {xs : List Bool} : BoolsAre vs xs → BoolsAre (.bool b :: vs) (b :: xs)
theorem BoolsAre.snoc {vs : List Value} {xs : List Bool} {b : Bool} (h : BoolsAre vs xs) : BoolsAre (vs ++ [.bool b]) (xs ++ [b]) := by
  induction h with
  | nil => exact .cons .nil
  | cons _ ih => exact .cons ih
theorem BoolsAre.eq {vs : List Value} {xs : List Bool} (h : BoolsAre vs xs) : vs = xs.map .bool := by
  induction h with
  | nil => rfl
  | cons _ ih => rw [ih]; rfl
theorem BoolsAre.length {vs : List Value} {xs : List Bool} (h : BoolsAre vs xs) : vs.length = xs.length := by rw [h.eq, List.length_map]

theorem readsAll_strs {h : Heap} {vs : List Value} {xs : List Str} (H : StrsAre vs xs) : ReadsAll h vs (xs.map PyData.str) [] := by
  induction H with
  | nil => exact .nil
  | cons _ ih => simpa using ReadsAll.cons (Reads.str (h := h) _ _) ih
theorem readsAll_bools {h : Heap} {vs : List Value} {xs : List Bool} (H : BoolsAre vs xs) : ReadsAll h vs (xs.map PyData.bool) [] := by
  induction H with
  | nil => exact .nil
  | cons _ ih => simpa using ReadsAll.cons (Reads.bool (h := h) _) ih
theorem reads_strs {h : Heap} {a : Addr} {vs : List Value} {xs : List Str} (hl : h.IsList a vs.toArray) (H : StrsAre vs xs) : Reads h (.ref a) (.list (xs.map PyData.str)) [a] := by
  obtain ⟨o, ho, hc, n, hd⟩ := hl
  exact Reads.list ho hc hd (by simpa using readsAll_strs H)
theorem reads_bools {h : Heap} {a : Addr} {vs : List Value} {xs : List Bool} (hl : h.IsList a vs.toArray) (H : BoolsAre vs xs) : Reads h (.ref a) (.list (xs.map PyData.bool)) [a] := by
  obtain ⟨o, ho, hc, n, hd⟩ := hl
  exact Reads.list ho hc hd (by simpa using readsAll_bools H)
theorem shaped_strs (xs : List Str) (hok : ∀ x ∈ xs, PyData.strOk x = true) : shaped (.list (xs.map PyData.str)) = true := by
  have h1 : PyData.canLayAll0 (xs.map PyData.str) = true := by
    induction xs with
    | nil => rfl
    | cons a r ih => simp [PyData.canLayAll0, PyData.canLay0, ih fun x hx => hok x (.tail _ hx), hok a (.head _)]
  have h2 : ∀ xs : List Str, PyData.depthAll (xs.map PyData.str) = 0 := by
    intro xs; induction xs with
    | nil => rfl
    | cons _ _ ih => simp [PyData.depthAll, PyData.depth, ih]
  simp [shaped, PyData.canLay0, PyData.depth, h1, h2]
theorem shaped_bools (xs : List Bool) : shaped (.list (xs.map PyData.bool)) = true := by
  have h1 : ∀ xs : List Bool, PyData.canLayAll0 (xs.map PyData.bool) = true := by
    intro xs; induction xs with
    | nil => rfl
    | cons _ _ ih => simp [PyData.canLayAll0, PyData.canLay0, ih]
  have h2 : ∀ xs : List Bool, PyData.depthAll (xs.map PyData.bool) = 0 := by
    intro xs; induction xs with
    | nil => rfl
    | cons _ _ ih => simp [PyData.depthAll, PyData.depth, ih]
  simp [shaped, PyData.canLay0, PyData.depth, h1, h2]
theorem same_strs (xs ys : List Str) : Spec.same (.list (xs.map PyData.str)) (.list (ys.map PyData.str)) = decide (xs = ys) := by
  simp only [Spec.same]
  induction xs generalizing ys with
  | nil => cases ys <;> simp [Spec.sameAll]
  | cons a r ih =>
    cases ys with
    | nil => simp [Spec.sameAll]
    | cons b t =>
      simp only [List.map_cons, Spec.sameAll, Spec.same, ih t]
      by_cases h : a = b <;> by_cases h' : r = t <;> simp [h, h']
theorem same_bools (xs ys : List Bool) : Spec.same (.list (xs.map PyData.bool)) (.list (ys.map PyData.bool)) = decide (xs = ys) := by
  simp only [Spec.same]
  induction xs generalizing ys with
  | nil => cases ys <;> simp [Spec.sameAll]
  | cons a r ih =>
    cases ys with
    | nil => simp [Spec.sameAll]
    | cons b t =>
      simp only [List.map_cons, Spec.sameAll, Spec.same, ih t]
      cases a <;> cases b <;> simp

section
variable {prog : Program} {w : World} {A : Around} {E : Value → Shared → Prop} {s : Shared} {a b : Addr} {xs ys : List Value} {Q : Value → Shared → Prop}
theorem ne_strs {ns ms : List Str} (ha : s.heap.IsList a xs.toArray) (hb : s.heap.IsList b ys.toArray) (hi : StrsAre xs ns) (hj : StrsAre ys ms) (ho : ∀ x ∈ ns, PyData.strOk x = true) (ho' : ∀ x ∈ ms, PyData.strOk x = true) (hu : A.units + 64 < cLine) (h : Q (.bool (!decide (ns = ms))) s) :
    wpAny (model prog w) A (compareOp .NotEq (.ref a) (.ref b)) Q E s :=
  ne_dataH_same (reads_strs ha hi) (reads_strs hb hj) (shaped_strs _ ho) (shaped_strs _ ho') hu (noMix_of_shape (.list .str) rfl _ _ (list_map_has fun _ => rfl) (list_map_has fun _ => rfl)) (by rw [same_strs]; exact h)
theorem ne_bools {ns ms : List Bool} (ha : s.heap.IsList a xs.toArray) (hb : s.heap.IsList b ys.toArray) (hi : BoolsAre xs ns) (hj : BoolsAre ys ms) (hu : A.units + 64 < cLine) (h : Q (.bool (!decide (ns = ms))) s) :
    wpAny (model prog w) A (compareOp .NotEq (.ref a) (.ref b)) Q E s :=
  ne_dataH_same (reads_bools ha hi) (reads_bools hb hj) (shaped_bools _) (shaped_bools _) hu (noMix_of_shape (.list .bool) rfl _ _ (list_map_has fun _ => rfl) (list_map_has fun _ => rfl)) (by rw [same_bools]; exact h)
end
theorem erase_last (init : List Value) (y : Value) : (init ++ [y]).toArray.eraseIdxIfInBounds ((init ++ [y]).toArray.size - 1) = init.toArray := by
  apply Array.ext'
  rw [Array.eraseIdxIfInBounds_eq]
  have hs : (init ++ [y]).toArray.size - 1 = init.length := by simp
  rw [hs]
  have e : ∀ (l : List Value), (l ++ [y]).eraseIdx l.length = l := by
    intro l; induction l with
    | nil => rfl
    | cons a r ih => simp [ih]
  simp [e]

section
variable {prog : Program} {w : World} {A : Around} {E : Value → Shared → Prop} {s : Shared} {h₀ : Heap} {L D : Addr} {m : Str → Option Value} {news news' : List (Addr × Obj)}
theorem pop_L {init : List Value} {y : Value} {n : Nat} {Q : Value → Shared → Prop} (F : Fr h₀ L s.heap m) (N : News h₀ L s.heap news) (U : Upd D (W.listOf (init ++ [y]).toArray n) (W.listOf init.toArray (n + 1)) news news')
    (hsz : (init ++ [y]).toArray.size ≤ sizeLine) (h : ∀ h', Fr h₀ L h' m → News h₀ L h' news' → Q y { s with heap := h' }) : wpAny (model prog w) A (call (.builtin "list.pop") [.ref D]) Q E s := by
  obtain ⟨pre, post, rfl, rfl, a, b⟩ := U.split
  have z := N (D, W.listOf (init ++ [y]).toArray n) (List.mem_append.mpr (.inr (.head _)))
  have e : Obj.mapSeq (fun xs => xs.eraseIdxIfInBounds ((init ++ [y]).toArray.size - 1)) (W.listOf (init ++ [y]).toArray n) = W.listOf init.toArray (n + 1) := by
    show ({ cls := .type "list", data := .seq ((init ++ [y]).toArray.eraseIdxIfInBounds ((init ++ [y]).toArray.size - 1)) (if ((init ++ [y]).toArray.eraseIdxIfInBounds ((init ++ [y]).toArray.size - 1)).size == (init ++ [y]).toArray.size then n else n + 1) } : Obj) = _
    rw [erase_last]
    simp
  have q := news_upd F N a b e rfl
  exact call_meets PySem.F.slot_list_pop ⟨_, z.1, rfl⟩ PySem.F.entry_list_pop (PySem.F.args_list_pop_1 _) (MeetsSeq.list_pop_last D _ n y (by simp) hsz) ⟨z.1, h _ q.1 q.2⟩
end
theorem newsList {h₀ h : Heap} {L a : Addr} {news : List (Addr × Obj)} {items : Array Value} {n : Nat} (N : News h₀ L h news) (hm : (a, W.listOf items n) ∈ news) : h.IsList a items := ⟨_, (N _ hm).1, rfl, _, rfl⟩
structure BL (h₀ : Heap) (l : Addr) (vs : List Value) (n : Nat) : Prop where
  is : h₀.IsList l vs.toArray
  len : vs.length = n
  small : n ≤ 100
section
variable {prog : Program} {w : World} {A : Around} {E : Value → Shared → Prop} {s : Shared} {h₀ : Heap} {L : Addr} {m : Str → Option Value} {news : List (Addr × Obj)}
theorem BL.at {l : Addr} {vs : List Value} {n : Nat} (B : BL h₀ l vs n) (F : Fr h₀ L s.heap m) : s.heap.IsList l vs.toArray := B.is.at fun o e => F.keep l o e
theorem len_bl {l : Addr} {vs : List Value} {n : Nat} {Q : Value → Shared → Prop} (F : Fr h₀ L s.heap m) (B : BL h₀ l vs n) (h : ∀ t k, Q (.int n t) { s with toks := k }) :
    wpAny (model prog w) A (call (.builtin "len") [.ref l]) Q E s := by
  have hs := B.small
  have hl := B.len
  refine len_list (B.at F) (by rw [List.size_toArray]; omega) ?_
  rw [List.size_toArray, hl]; exact h _ _
end

end
end
section
open PySem PySem.W PyProof.Rows
example : True := by
  w_top off
  trivial
set_option maxRecDepth 100000
set_option maxHeartbeats 1000000

structure WS where
  word : Str
  inside : Bool
  depth : Int
  seen : Str
noncomputable def unitS (f : Int) : Str :=
  if f = 0 then Str.ofString "a" else if f = 1 then Str.ofString "\"" else if f = 2 then Str.ofString "(" else if f = 3 then Str.ofString ")" else if f = 4 then Str.ofString "\\\"" else Str.ofString "bc"
noncomputable def figStep (st : WS) (f : Int) : WS :=
  if f = 1 then ⟨st.word ++ unitS f, !st.inside, st.depth, st.seen⟩
  else if st.inside = true then ⟨st.word ++ unitS f, st.inside, st.depth, st.seen⟩
  else if f = 2 then ⟨st.word ++ unitS f, st.inside, st.depth + 1, st.seen ++ unitS f⟩
  else if f = 3 then (if 0 < st.depth then ⟨st.word ++ unitS f, st.inside, st.depth - 1, st.seen ++ unitS f⟩ else ⟨st.word ++ Str.ofString "\\)", st.inside, st.depth, st.seen ++ Str.ofString "\\)"⟩)
  else ⟨st.word ++ unitS f, st.inside, st.depth, st.seen ++ unitS f⟩
structure OS where
  words : List Str
  outside : List Bool
  seen : Str
  inside : Bool
  depth : Int
noncomputable def wordUnits (o : OS) (n : Int) : WS :=
  figStep (figStep ⟨Str.ofString "", o.inside, o.depth, if o.words ≠ [] ∧ o.inside = false then o.seen ++ Str.ofString " " else o.seen⟩ (Int.fmod n 6)) (Int.fmod (Int.fdiv n 6) 6)
noncomputable def wordStep (o : OS) (n : Int) : OS :=
  ⟨o.words ++ [(wordUnits o n).word], o.outside ++ [!(wordUnits o n).inside && ((wordUnits o n).depth == 0)], (wordUnits o n).seen, (wordUnits o n).inside, (wordUnits o n).depth⟩
noncomputable def wordsAll (ns : List Int) : OS := ns.foldl wordStep ⟨[], [], Str.ofString "", false, 0⟩

noncomputable def wordsEnd (o : OS) : List Str × List Bool × Str :=
  (o.words.dropLast ++ [(o.words.getLastD (Str.ofString "") ++ (if o.inside then Str.ofString "\"" else Str.ofString "")) ++ Txt.mul (Str.ofString ")") o.depth], o.outside.dropLast, o.seen ++ Txt.mul (Str.ofString ")") o.depth)
theorem strOk_append (x y : Str) (hx : PyData.strOk x = true) (hy : PyData.strOk y = true) : PyData.strOk (x ++ y) = true := by
  unfold PyData.strOk at *
  rw [Str.cps_append, Array.all_append, hx, hy]; rfl
theorem unitS_facts (f : Int) : (unitS f).length ≤ 2 ∧ 1 ≤ (unitS f).length ∧ PyData.strOk (unitS f) = true := by
  unfold unitS
  repeat' split
  all_goals decide +kernel
structure WB (st : WS) (k l : Nat) (d : Int) : Prop where
  word : st.word.length ≤ k
  seen : st.seen.length ≤ l
  lo : 0 ≤ st.depth
  hi : st.depth ≤ d
  ok : PyData.strOk st.word = true
theorem figStep_bound {st : WS} {k l : Nat} {d : Int} (h : WB st k l d) (f : Int) : WB (figStep st f) (k + 2) (l + 2) (d + 1) := by
  obtain ⟨h1, h2, h3, h4, h5⟩ := h
  have u := unitS_facts f
  have v : (Str.ofString "\\)").length = 2 ∧ PyData.strOk (Str.ofString "\\)") = true := by decide +kernel
  unfold figStep
  repeat' split
  all_goals (refine ⟨?_, ?_, ?_, ?_, ?_⟩ <;> dsimp only <;> first | (rw [Str.length_append]; omega) | omega | exact strOk_append _ _ h5 u.2.2 | exact strOk_append _ _ h5 v.2)
theorem fig_at (n : Int) (u u2 : Tok) (j : Nat) (v : Value) (hjv : (#[Value.int (Int.fmod n 6) u, Value.int (Int.fmod (Int.fdiv n 6) 6) u2] : Array Value)[j]? = some v) :
    ∃ f uf, v = .int f uf ∧ [Int.fmod n 6, Int.fmod (Int.fdiv n 6) 6][j]? = some f ∧ 0 ≤ f ∧ f < 6 := by
  have h1 := Int.fmod_nonneg_of_pos n (show (0 : Int) < 6 by decide)
  have h2 := Int.fmod_lt_of_pos n (show (0 : Int) < 6 by decide)
  have h3 := Int.fmod_nonneg_of_pos (Int.fdiv n 6) (show (0 : Int) < 6 by decide)
  have h4 := Int.fmod_lt_of_pos (Int.fdiv n 6) (show (0 : Int) < 6 by decide)
  match j, hjv with
  | 0, hjv => exact ⟨_, _, (Option.some.inj hjv).symm, rfl, h1, h2⟩
  | 1, hjv => exact ⟨_, _, (Option.some.inj hjv).symm, rfl, h3, h4⟩
  | j + 2, hjv => exact absurd (Array.getElem?_eq_some_iff.mp hjv).1 (by simp)
theorem wb_two {st : WS} {a b : Int} (b0 : WB st 0 101 101) : ∀ j, j < 2 → WB (([a, b].take j).foldl figStep st) 2 103 103
  | 0, _ => ⟨Nat.le_trans b0.word (by decide), Nat.le_trans b0.seen (by decide), b0.lo, Int.le_trans b0.hi (by decide), b0.ok⟩
  | 1, _ => have h := figStep_bound b0 a; ⟨h.word, h.seen, h.lo, Int.le_trans h.hi (by decide), h.ok⟩
  | _ + 2, h => absurd h (Nat.not_lt.mpr (Nat.le_add_left 2 _))
structure OB (o : OS) (i : Nat) : Prop where
  words : o.words.length = i
  outside : o.outside.length = i
  seen : o.seen.length ≤ 5 * i
  lo : 0 ≤ o.depth
  hi : o.depth ≤ 2 * i
  each : ∀ x ∈ o.words, x.length ≤ 4 ∧ PyData.strOk x = true
theorem wordUnits_bound {o : OS} {i : Nat} (h : OB o i) (n : Int) : WB (wordUnits o n) 4 (5 * i + 5) (2 * i + 2) := by
  have h0 : WB ⟨Str.ofString "", o.inside, o.depth, if o.words ≠ [] ∧ o.inside = false then o.seen ++ Str.ofString " " else o.seen⟩ 0 (5 * i + 1) (2 * i) := by
    refine ⟨(by decide +kernel : (Str.ofString "").length ≤ 0), ?_, h.lo, h.hi, (by decide +kernel : PyData.strOk (Str.ofString "") = true)⟩
    have := h.seen
    dsimp only
    split
    · rw [Str.length_append]; show o.seen.length + 1 ≤ _; omega
    · omega
  have := figStep_bound (figStep_bound h0 (Int.fmod n 6)) (Int.fmod (Int.fdiv n 6) 6)
  exact ⟨this.word, this.seen, this.lo, by have := this.hi; unfold wordUnits; omega, this.ok⟩
theorem wordStep_bound {o : OS} {i : Nat} (h : OB o i) (n : Int) : OB (wordStep o n) (i + 1) := by
  have b := wordUnits_bound h n
  refine ⟨?_, ?_, ?_, b.lo, ?_, ?_⟩
  · simp [wordStep, h.words]
  · simp [wordStep, h.outside]
  · have := b.seen; simp only [wordStep]; omega
  · have := b.hi; simp only [wordStep]; omega
  · intro x hx
    rcases List.mem_append.mp hx with hx | hx
    · exact h.each x hx
    · rw [List.mem_singleton.mp hx]; exact ⟨b.word, b.ok⟩
theorem wordsAll_bound (ns : List Int) : OB (wordsAll ns) ns.length := by
  unfold wordsAll
  have key : ∀ (ns : List Int) (o : OS) (i : Nat), OB o i → OB (ns.foldl wordStep o) (i + ns.length) := by
    intro ns
    induction ns with
    | nil => intro o i h; exact h
    | cons n r ih =>
      intro o i h
      have := ih _ _ (wordStep_bound h n)
      rw [List.foldl_cons, List.length_cons]
      have e : i + 1 + r.length = i + (r.length + 1) := by omega
      rw [← e]; exact this
  have := key ns ⟨[], [], Str.ofString "", false, 0⟩ 0 ⟨rfl, rfl, by decide +kernel, by decide, by decide, fun _ h => nomatch h⟩
  simpa using this

structure Fresh (s s' : Shared) (a : Addr) (o : Obj) : Prop where
  get : s'.heap.get? a = some o
  new : s.heap.get? a = none
theorem News.fresh {s s' : Shared} {L a : Addr} {o : Obj} {news : List (Addr × Obj)} (N : News s.heap L s'.heap news) (h : (a, o) ∈ news) : Fresh s s' a o := ⟨(N _ h).1, (N _ h).2.2⟩
theorem BoolsAre.dropLast {vs : List Value} {bs : List Bool} (h : BoolsAre vs bs) : BoolsAre vs.dropLast bs.dropLast := by
  induction h with
  | nil => exact .nil
  | @cons b t r h ih =>
    cases h with
    | nil => exact .nil
    | cons h => exact .cons ih
theorem drop_pick (vs : List Value) : slicePick vs.toArray none (some (-1)) none = vs.dropLast.toArray := by
  have := slicePick_butLast vs.toArray 1 (Nat.le_refl _)
  rw [show (-((1 : Nat) : Int)) = -1 from rfl] at this
  rw [this, List.dropLast_eq_take]; simp
theorem str_append_nil (x : Str) : x ++ Str.ofString "" = x := by
  obtain ⟨c⟩ := x
  show (⟨c ++ #[]⟩ : Str) = ⟨c⟩
  rw [Array.append_empty]
structure Hold (P : Prop) : Prop where
  out : P
structure Reach (P : Prop) : Prop where
  out : P
theorem cut_stmt {M : Model} {A : Around} {E : Value → Shared → Prop} {s : Shared} {env : Env} {st : Stmt} {rest : List Stmt} {Q : Flow → Shared → Prop} (Mid : Shared → Prop)
    (h1 : wpAny M A (exec st env) (fun f s' => Reach (f = .next ∧ Mid s')) E s) (h2 : ∀ s', Mid s' → wpAny M A (execs rest env) Q E s') : wpAny M A (execs (st :: rest) env) Q E s :=
  wpAny_execs_cons (wpAny_mono h1 (fun f s' h => by obtain ⟨rfl, hm⟩ := h.out; exact h2 s' hm) fun _ _ e => e)
set_option hygiene false
local macro_rules | `(tactic| walk_at "exec For Name Name cons nil") => `(tactic| refine Hold.out ?_)
set_option hygiene true
set_option hygiene false
local macro_rules | `(tactic| walk_at "subscriptTail Name Name ref int") => `(tactic| refine Hold.out ?_)
set_option hygiene true
set_option hygiene false
local macro_rules | `(tactic| walk_at "exec For Name Tuple cons nil") => `(tactic| refine Hold.out ?_)
set_option hygiene true
noncomputable def IsS (m : Str → Option Value) (x : Str) (v : Str) : Prop := ∃ t, m x = some (.str v t)
noncomputable def IsI (m : Str → Option Value) (x : Str) (v : Int) : Prop := ∃ t, m x = some (.int v t)
theorem IsS.mk {m : Str → Option Value} {x v : Str} {t : Tok} (h : m x = some (.str v t)) : IsS m x v := ⟨t, h⟩
theorem IsI.mk {m : Str → Option Value} {x : Str} {v : Int} {t : Tok} (h : m x = some (.int v t)) : IsI m x v := ⟨t, h⟩
set_option hygiene false
local macro_rules | `(tactic| walk_at "compareOp NotEq ref ref") => `(tactic| refine Hold.out ?_)
set_option hygiene true
set_option hygiene false
local macro_rules | `(tactic| walk_at "pyIter ref") => `(tactic| refine Hold.out ?_)
set_option hygiene true
set_option hygiene false
local macro_rules | `(tactic| walk_at "eval Name") => `(tactic| (k_here; k_dflt (refine ld (by k_asm) (by (first | assumption | (simp (decide := true) only [if_true, if_false]; assumption))) ?_; k_whole)))
set_option hygiene true

theorem StrsAre.unsnoc {vs : List Value} {xs : List Str} {x : Str} (h : StrsAre vs (xs ++ [x])) : ∃ vs' t, vs = vs' ++ [.str x t] ∧ StrsAre vs' xs := by
  induction xs generalizing vs with
  | nil =>
    cases h with
    | cons h => cases h; exact ⟨[], _, rfl, .nil⟩
  | cons a r ih =>
    cases h with
    | cons h => obtain ⟨vs', t, rfl, h'⟩ := ih h; exact ⟨_ :: vs', t, rfl, .cons h'⟩
theorem unit_item {t0 t1 t2 t3 t4 t5 : Tok} {f : Int} (h0 : 0 ≤ f) (h6 : f < 6) : ∃ t, ([Value.str (Str.ofString "a") t0, Value.str (Str.ofString "\"") t1, Value.str (Str.ofString "(") t2, Value.str (Str.ofString ")") t3, Value.str (Str.ofString "\\\"") t4, Value.str (Str.ofString "bc") t5] : List Value)[f.toNat]? = some (.str (unitS f) t) := by
  have : f = 0 ∨ f = 1 ∨ f = 2 ∨ f = 3 ∨ f = 4 ∨ f = 5 := six h0 h6
  rcases this with h | h | h | h | h | h <;> subst h <;> exact ⟨_, rfl⟩
theorem unit_index {f : Int} (h0 : 0 ≤ f) (h6 : f < 6) : seqIndex? f 6 = some f.toNat := by
  have : f = 0 ∨ f = 1 ∨ f = 2 ∨ f = 3 ∨ f = 4 ∨ f = 5 := six h0 h6
  rcases this with h | h | h | h | h | h <;> subst h <;> rfl

theorem c_words {w : World} {mg mb : Str → Option Value} {A : Around} {s : Shared} {Q E : Value → Shared → Prop} {l : Addr} {vs : List Value} {ns : List Int}
    (C : Cx w mg mb s.heap) (hh : A.handled = none) (hroom : A.depth + 20 < recursionLimit) (hu : A.units + 200 < cLine) (hl : s.heap.IsList l vs.toArray) (hi : IntsAre vs ns) (hn1 : 1 ≤ ns.length) (hn5 : ns.length ≤ 5)
    (hQ : ∀ (t rw ro : Addr) (vW vO : List Value) (nW : Nat) (u : Tok) (s' : Shared), Ext s s' → Fresh s s' t { cls := .type "tuple", data := .seq #[.ref rw, .ref ro, .str (wordsEnd (wordsAll ns)).2.2 u] } → Fresh s s' rw (W.listOf vW.toArray nW) → Fresh s s' ro (W.listOf vO.toArray 0) → StrsAre vW (wordsEnd (wordsAll ns)).1 → BoolsAre vO (wordsEnd (wordsAll ns)).2.1 → Q (.ref t) s') :
    wpAny (model PR w) A (call (.ref 210) [.ref l]) Q E s := by
  obtain ⟨X, T⟩ := C
  refine wpAny_call ?_
  k_dflt (refine' enter_def (binds := [(Str.ofString "numbers", .ref l)]) ?k1 ?k2 ?k3 ?k4 ?k5 ?k6 ?k7 ?_ ?c1 ?c2 ?c3 ?c4; (case k1 => exact X); (case k2 => exact T.nolimit); (case k3 => k_is); (case k4 => k_is); (case k5 => omega); (case k6 => exact BindsTo.of_eq rfl); (case k7 => exact locs rfl); (case c1 => exact rfl); (case c2 => exact rfl); (case c3 => exact rfl); (case c4 => decide))
  intro L h₁ F hL
  refine abstr ?_
  intro Q0 E0 hP0 hE0
  have N : News s.heap L h₁ [] := News.nil
  (try dsimp only)
  (try k_fold)
  k_steps
  rename Fr _ _ _ _ => F'
  rename News _ _ _ _ => N'
  refine Hold.mk (wpAny_For ?_)
  k_steps
  refine Hold.mk ?_
  refine for_list (h₀ := s.heap) (m := _) (news := _) hh hl rfl rfl F' N'
    (fun i m₁ news₁ => ∃ (vW vO : List Value) (nW nO : Nat) (rw ro : Addr), m₁ (Str.ofString "words") = some (.ref rw) ∧ m₁ (Str.ofString "outside") = some (.ref ro) ∧
      IsS m₁ (Str.ofString "seen") (wordsAll (ns.take i)).seen ∧ m₁ (Str.ofString "inside") = some (.bool (wordsAll (ns.take i)).inside) ∧ IsI m₁ (Str.ofString "depth") (wordsAll (ns.take i)).depth ∧
      StrsAre vW (wordsAll (ns.take i)).words ∧ BoolsAre vO (wordsAll (ns.take i)).outside ∧ @LT.lt Nat _ rw ro ∧ news₁ = [(ro, W.listOf vO.toArray nO), (rw, W.listOf vW.toArray nW)]) ?_ ?_ ?_
  · exact ⟨[], [], 0, 0, _, _, rfl, rfl, ⟨_, rfl⟩, rfl, ⟨_, rfl⟩, .nil, .nil, by assumption, rfl⟩
  · rintro i v m₁ news₁ own s₁ hiv ⟨vW, vO, nW, nO, rw, ro, m1, m2, ⟨uS, m3⟩, m4, ⟨uD, m5⟩, hW, hO, hlt, rfl⟩ hoff F₁ N₁ hos₁ hgx₁
    change Fr s.heap L s₁.heap _ at F₁
    change News s.heap L s₁.heap (_ :: _ :: own) at N₁
    refine abstr ?_
    intro Q1 E1 hP1 hE1
    have hilt : i < ns.length := by
      have := (Array.getElem?_eq_some_iff.mp hiv).1
      rw [List.size_toArray, hi.length] at this; exact this
    obtain ⟨n, u, rfl, hni⟩ : ∃ n u, v = .int n u ∧ ns[i]? = some n := by
      obtain ⟨u, hx⟩ := hi.get i ns[i] (by simp [hilt])
      refine ⟨ns[i], u, ?_, by simp [hilt]⟩
      rw [List.getElem?_toArray, hx] at hiv
      exact (Option.some.inj hiv).symm
    have bb := wordsAll_bound (ns.take i)
    rw [List.length_take, Nat.min_eq_left (Nat.le_of_lt hilt)] at bb
    generalize ho : wordsAll (ns.take i) = o at *
    have hnext : wordsAll (ns.take (i + 1)) = wordStep o n := by
      unfold wordsAll at *
      rw [List.take_add_one, hni, List.foldl_append, ho]; rfl
    obtain ⟨words, outside, seen, inside, depth⟩ := o
    dsimp only at m3 m4 m5 hW hO
    obtain ⟨b1, b2, b3, b4, b5, b6⟩ := bb
    dsimp only at b1 b2 b3 b4 b5 b6
    have bseen : seen.length ≤ 100 := Nat.le_trans (seen25 b3 (Nat.le_trans (Nat.le_of_lt hilt) hn5)) (by decide)
    have bdep : depth ≤ 100 := by omega
    have bW : vW.toArray.size ≤ 100 := by rw [List.size_toArray, hW.length]; omega
    have bO : vO.toArray.size ≤ 100 := by rw [List.size_toArray, hO.length]; omega
    refine wpAny_execs_cons (wpAny_Assign_Name (wpAny_Constant_str (stN F₁ N₁ fun h₂ F₂ N₂ => ?_)))
    dsimp only
    refine cut_stmt (fun s' => ∃ m₂, Fr s.heap L s'.heap m₂ ∧ News s.heap L s'.heap ((ro, W.listOf vO.toArray nO) :: (rw, W.listOf vW.toArray nW) :: own) ∧ m₂ (Str.ofString "words") = some (.ref rw) ∧ m₂ (Str.ofString "outside") = some (.ref ro) ∧
      IsS m₂ (Str.ofString "seen") (if words ≠ [] ∧ inside = false then seen ++ Str.ofString " " else seen) ∧ m₂ (Str.ofString "inside") = some (.bool inside) ∧ IsI m₂ (Str.ofString "depth") depth ∧
      IsS m₂ (Str.ofString "word") (Str.ofString "") ∧ IsI m₂ (Str.ofString "n") n ∧ s'.os = s₁.os ∧ s'.gens = s₁.gens) ?_ ?_
    · refine abstr ?_
      intro Q2 E2 hP2 hE2
      k_steps
      rename Fr _ _ _ _ => F2
      rename News _ _ _ _ => N2
      rename _ ∧ _ ∧ AllLt _ own => l2
      refine Hold.mk (ne_strs (newsList N2 (.tail _ (.tail _ (.head _)))) (newsList (items := ([] : List Value).toArray) N2 (.head _)) hW .nil (fun x hx => (b6 x hx).2) (fun _ h => nomatch h) (by show A.units + 3 + 64 < cLine; omega) ?_)
      k_steps
      all_goals (rename Fr _ _ _ _ => F3; rename News _ _ _ _ => N3)
      · rename decide _ = true => hd
        refine hP2 _ _ (Reach.mk ⟨rfl, _, F3, fun p hp => N3 p (.tail _ hp), ?_, ?_, ?_, ?_, ?_, ?_, ?_, rfl, rfl⟩)
        rotate_left 2
        · rw [if_neg (fun h => h.1 (of_decide_eq_true hd))]
          exact ⟨uS, m3⟩
        all_goals (first | rfl | exact ⟨_, rfl⟩ | assumption | (apply IsS.mk; assumption) | (apply IsI.mk; assumption))
      · rename decide _ = false => hd
        rename inside = true => hin
        refine hP2 _ _ (Reach.mk ⟨rfl, _, F3, fun p hp => N3 p (.tail _ hp), ?_, ?_, ?_, ?_, ?_, ?_, ?_, rfl, rfl⟩)
        rotate_left 2
        · rw [if_neg (fun h => by rw [hin] at h; cases h.2)]
          exact ⟨uS, m3⟩
        all_goals (first | rfl | exact ⟨_, rfl⟩ | assumption | (apply IsS.mk; assumption) | (apply IsI.mk; assumption))
      · rename decide _ = false => hd
        rename inside = false => hin
        refine hP2 _ _ (Reach.mk ⟨rfl, _, F3, fun p hp => N3 p (.tail _ hp), ?_, ?_, ?_, ?_, ?_, ?_, ?_, rfl, rfl⟩)
        rotate_left 2
        · rw [if_pos ⟨of_decide_eq_false hd, hin⟩]; exact ⟨_, rfl⟩
        all_goals (first | rfl | exact ⟨_, rfl⟩ | assumption | (apply IsS.mk; assumption) | (apply IsI.mk; assumption))
    · rintro s₂ ⟨m₂, F₃, N₃, q1, q2, ⟨u1, q3⟩, q4, ⟨u2, q5⟩, ⟨u3, q6⟩, ⟨u4, q7⟩, hos₂, hgs₂⟩
      have hst0 : wordUnits ⟨words, outside, seen, inside, depth⟩ n = figStep (figStep ⟨Str.ofString "", inside, depth, if words ≠ [] ∧ inside = false then seen ++ Str.ofString " " else seen⟩ (Int.fmod n 6)) (Int.fmod (Int.fdiv n 6) 6) := rfl
      have bs0 : (if words ≠ [] ∧ inside = false then seen ++ Str.ofString " " else seen).length ≤ 101 := by
        split
        · rw [Str.length_append]; show seen.length + 1 ≤ 101; omega
        · omega
      generalize (if words ≠ [] ∧ inside = false then seen ++ Str.ofString " " else seen) = sn at *
      k_steps
      refine Hold.mk ?_
      refine wpAny_For ?_
      k_steps
      refine Hold.mk ?_
      rename Fr _ _ _ _ => F₄
      rename News _ _ _ _ => N₄
      rename _ ∧ _ ∧ AllLt _ own => l4
      refine for_tuple (h₀ := s.heap) (m := m₂) (news := (ro, W.listOf vO.toArray nO) :: (rw, W.listOf vW.toArray nW) :: own) hh ⟨_, (N₄ _ (.head _)).1, rfl, _, rfl⟩ (N₄ _ (.head _)).2.2 (N₄ _ (.head _)).2.1 ?_ rfl rfl F₄ (fun p hp => N₄ p (.tail _ hp))
        (fun j m₁ news₁ => ∃ (st : WS), st = ([Int.fmod n 6, Int.fmod (Int.fdiv n 6) 6].take j).foldl figStep ⟨Str.ofString "", inside, depth, sn⟩ ∧ m₁ (Str.ofString "words") = some (.ref rw) ∧ m₁ (Str.ofString "outside") = some (.ref ro) ∧
          IsS m₁ (Str.ofString "seen") st.seen ∧ m₁ (Str.ofString "inside") = some (.bool st.inside) ∧ IsI m₁ (Str.ofString "depth") st.depth ∧ IsS m₁ (Str.ofString "word") st.word ∧ news₁ = (ro, W.listOf vO.toArray nO) :: (rw, W.listOf vW.toArray nW) :: own) ?_ ?_ ?_
      · intro p hp e
        have hal : ∀ (l : List (Addr × Obj)) (d : Nat), AllLt d l → ∀ p ∈ l, p.1 ≠ d := by
          intro l d
          induction l with
          | nil => intro _ p hp; exact absurd hp List.not_mem_nil
          | cons a r ih =>
            intro h p hp
            rcases List.mem_cons.mp hp with q | hp
            · rw [q]; exact Nat.ne_of_lt h.1
            · exact ih h.2 p hp
        rcases List.mem_cons.mp hp with q | hp
        · rw [q] at e; exact absurd e (Nat.ne_of_lt l4.1)
        rcases List.mem_cons.mp hp with q | hp
        · rw [q] at e; exact absurd e (Nat.ne_of_lt l4.2.1)
        · exact hal _ _ l4.2.2 p hp e
      · exact ⟨_, rfl, q1, q2, ⟨_, q3⟩, q4, ⟨_, q5⟩, ⟨_, q6⟩, rfl⟩
      · rintro j v m₃ news₃ own' s₃ hjv ⟨st, hst, r1, r2, ⟨v1, r3⟩, r4, ⟨v2, r5⟩, ⟨v3, r6⟩, rfl⟩ hoff' F₅ N₅ hos₃ hgx₃
        change Fr s.heap L s₃.heap _ at F₅
        change News s.heap L s₃.heap (_ :: _ :: (own ++ own')) at N₅
        refine abstr ?_
        intro Q3 E3 hP3 hE3
        obtain ⟨f, uf, rfl, hf, hf0, hf6⟩ : ∃ f uf, v = .int f uf ∧ [Int.fmod n 6, Int.fmod (Int.fdiv n 6) 6][j]? = some f ∧ 0 ≤ f ∧ f < 6 := fig_at n _ _ j v hjv
        have hj2 : j < 2 := by
          have := (List.getElem?_eq_some_iff.mp hf).1
          simpa using this
        have bst : WB st 2 103 103 := by
          have b0 : WB ⟨Str.ofString "", inside, depth, sn⟩ 0 101 101 := ⟨(by decide +kernel : (Str.ofString "").length ≤ 0), bs0, b4, (by dsimp only; omega), (by decide +kernel : PyData.strOk (Str.ofString "") = true)⟩
          rw [hst]
          exact wb_two b0 j hj2
        have hstep : ([Int.fmod n 6, Int.fmod (Int.fdiv n 6) 6].take (j + 1)).foldl figStep ⟨Str.ofString "", inside, depth, sn⟩ = figStep st f := by
          rw [List.take_add_one, hf, List.foldl_append, ← hst]; rfl
        have sub2 : ∀ {p}, p ∈ (ro, W.listOf vO.toArray nO) :: (rw, W.listOf vW.toArray nW) :: own → p ∈ (ro, W.listOf vO.toArray nO) :: (rw, W.listOf vW.toArray nW) :: (own ++ own') := fun hp =>
          (List.cons_subset_cons _ (List.cons_subset_cons _ (List.subset_append_left _ _))) hp
        obtain ⟨word, ins, dep, sn'⟩ := st
        obtain ⟨bw, bsn, blo, bhi, _⟩ := bst
        dsimp only at r3 r4 r5 r6 bw bsn blo bhi
        have bu := unitS_facts f
        have bu1 := bu.1
        k_steps
        refine Hold.mk ?_
        rename Fr _ _ _ _ => F₆
        rename News _ _ _ _ => N₆
        obtain ⟨tu, htu⟩ := unit_item (t0 := s₃.toks) (t1 := s₃.toks + 1) (t2 := s₃.toks + 1 + 1) (t3 := s₃.toks + 1 + 1 + 1) (t4 := s₃.toks + 1 + 1 + 1 + 1) (t5 := s₃.toks + 1 + 1 + 1 + 1 + 1) hf0 hf6
        refine item_tupleT ⟨_, (N₆ _ (.head _)).1, rfl, _, rfl⟩ (by omega) (by omega) (unit_index hf0 hf6) htu ?_
        have N₇ : News s.heap L _ (_ :: _ :: (own ++ own')) := fun p hp => N₆ p (.tail _ hp)
        clear N₆ htu
        k_steps
        · rename Fr _ _ _ _ => F9
          rename News _ _ _ _ => N9
          have e : figStep ⟨word, ins, dep, sn'⟩ f = ⟨word ++ unitS f, !ins, dep, sn'⟩ := by unfold figStep; rw [if_pos (by assumption)]
          refine hP3 _ _ (show TEnd2 _ _ _ _ _ _ from ⟨_, _, (ro, W.listOf vO.toArray nO) :: (rw, W.listOf vW.toArray nW) :: own, F9, N9, fun p hp => sub2 hp, fun p hp => .tail _ (.tail _ (List.mem_append_right _ hp)), hoff', rfl, .refl _, ⟨word ++ unitS f, !ins, dep, sn'⟩, (hstep.trans e).symm, ?_, ?_, ?_, ?_, ?_, ?_, rfl⟩)
          all_goals (first | rfl | exact ⟨_, rfl⟩ | assumption | (apply IsS.mk; assumption) | (apply IsI.mk; assumption))
        · rename Fr _ _ _ _ => F9
          rename News _ _ _ _ => N9
          have e : figStep ⟨word, ins, dep, sn'⟩ f = ⟨word ++ unitS f, ins, dep, sn'⟩ := by unfold figStep; rw [if_neg (by assumption), if_pos (by assumption)]
          refine hP3 _ _ (show TEnd2 _ _ _ _ _ _ from ⟨_, _, (ro, W.listOf vO.toArray nO) :: (rw, W.listOf vW.toArray nW) :: own, F9, N9, fun p hp => sub2 hp, fun p hp => .tail _ (.tail _ (List.mem_append_right _ hp)), hoff', rfl, .refl _, ⟨word ++ unitS f, ins, dep, sn'⟩, (hstep.trans e).symm, ?_, ?_, ?_, ?_, ?_, ?_, rfl⟩)
          all_goals (first | rfl | exact ⟨_, rfl⟩ | assumption | (apply IsS.mk; assumption) | (apply IsI.mk; assumption))
        · rename Fr _ _ _ _ => F9
          rename News _ _ _ _ => N9
          have e : figStep ⟨word, ins, dep, sn'⟩ f = ⟨word ++ unitS f, ins, dep + 1, sn' ++ unitS f⟩ := by
            have hx : ¬ ins = true := by (rw [‹ins = false›]; exact Bool.false_ne_true)
            unfold figStep; rw [if_neg (by assumption), if_neg hx, if_pos (by assumption)]
          refine hP3 _ _ (show TEnd2 _ _ _ _ _ _ from ⟨_, _, (ro, W.listOf vO.toArray nO) :: (rw, W.listOf vW.toArray nW) :: own, F9, N9, fun p hp => sub2 hp, fun p hp => .tail _ (.tail _ (List.mem_append_right _ hp)), hoff', rfl, .refl _, ⟨word ++ unitS f, ins, dep + 1, sn' ++ unitS f⟩, (hstep.trans e).symm, ?_, ?_, ?_, ?_, ?_, ?_, rfl⟩)
          all_goals (first | rfl | exact ⟨_, rfl⟩ | assumption | (apply IsS.mk; assumption) | (apply IsI.mk; assumption))
        · rename Fr _ _ _ _ => F9
          rename News _ _ _ _ => N9
          have e : figStep ⟨word, ins, dep, sn'⟩ f = ⟨word ++ unitS f, ins, dep - 1, sn' ++ unitS f⟩ := by
            have hx : ¬ ins = true := by (rw [‹ins = false›]; exact Bool.false_ne_true)
            unfold figStep; rw [if_neg (by assumption), if_neg hx, if_neg (by assumption), if_pos (by assumption), if_pos (by assumption)]
          refine hP3 _ _ (show TEnd2 _ _ _ _ _ _ from ⟨_, _, (ro, W.listOf vO.toArray nO) :: (rw, W.listOf vW.toArray nW) :: own, F9, N9, fun p hp => sub2 hp, fun p hp => .tail _ (.tail _ (List.mem_append_right _ hp)), hoff', rfl, .refl _, ⟨word ++ unitS f, ins, dep - 1, sn' ++ unitS f⟩, (hstep.trans e).symm, ?_, ?_, ?_, ?_, ?_, ?_, rfl⟩)
          all_goals (first | rfl | exact ⟨_, rfl⟩ | assumption | (apply IsS.mk; assumption) | (apply IsI.mk; assumption))
        · rename Fr _ _ _ _ => F9
          rename News _ _ _ _ => N9
          have e : figStep ⟨word, ins, dep, sn'⟩ f = ⟨word ++ Str.ofString "\\)", ins, dep, sn' ++ Str.ofString "\\)"⟩ := by
            have hx : ¬ ins = true := by (rw [‹ins = false›]; exact Bool.false_ne_true)
            unfold figStep; rw [if_neg (by assumption), if_neg hx, if_neg (by assumption), if_pos (by assumption), if_neg (by assumption)]
          refine hP3 _ _ (show TEnd2 _ _ _ _ _ _ from ⟨_, _, (ro, W.listOf vO.toArray nO) :: (rw, W.listOf vW.toArray nW) :: own, F9, N9, fun p hp => sub2 hp, fun p hp => .tail _ (.tail _ (List.mem_append_right _ hp)), hoff', rfl, .refl _, ⟨word ++ Str.ofString "\\)", ins, dep, sn' ++ Str.ofString "\\)"⟩, (hstep.trans e).symm, ?_, ?_, ?_, ?_, ?_, ?_, rfl⟩)
          all_goals (first | rfl | exact ⟨_, rfl⟩ | assumption | (apply IsS.mk; assumption) | (apply IsI.mk; assumption))
        · exact absurd ‹f = 3› ‹f ≠ 3›
        · exact absurd ‹f = 3› ‹f ≠ 3›
        · rename Fr _ _ _ _ => F9
          rename News _ _ _ _ => N9
          have e : figStep ⟨word, ins, dep, sn'⟩ f = ⟨word ++ unitS f, ins, dep, sn' ++ unitS f⟩ := by
            have hx : ¬ ins = true := by (rw [‹ins = false›]; exact Bool.false_ne_true)
            unfold figStep; rw [if_neg (by assumption), if_neg hx, if_neg (by assumption), if_neg ‹f ≠ 3›]
          refine hP3 _ _ (show TEnd2 _ _ _ _ _ _ from ⟨_, _, (ro, W.listOf vO.toArray nO) :: (rw, W.listOf vW.toArray nW) :: own, F9, N9, fun p hp => sub2 hp, fun p hp => .tail _ (.tail _ (List.mem_append_right _ hp)), hoff', rfl, .refl _, ⟨word ++ unitS f, ins, dep, sn' ++ unitS f⟩, (hstep.trans e).symm, ?_, ?_, ?_, ?_, ?_, ?_, rfl⟩)
          all_goals (first | rfl | exact ⟨_, rfl⟩ | assumption | (apply IsS.mk; assumption) | (apply IsI.mk; assumption))
      · rintro m₃ news₃ s₃ ⟨st, hst, r1, r2, ⟨v1, r3⟩, r4, ⟨v2, r5⟩, ⟨v3, r6⟩, rfl⟩ F₅ N₅ hos₃ hgx₃
        change Fr s.heap L s₃.heap _ at F₅
        change News s.heap L s₃.heap (_ :: _ :: own) at N₅
        have hwu : st = wordUnits ⟨words, outside, seen, inside, depth⟩ n := hst.trans hst0.symm
        have hE : wordsAll (ns.take (i + 1)) = ⟨words ++ [st.word], outside ++ [!st.inside && (st.depth == 0)], st.seen, st.inside, st.depth⟩ := by rw [hnext, hwu]; rfl
        have hgx : GX s₁.gens s₃.gens := by rw [← hgs₂]; exact hgx₃
        have hos : s₃.os = s₁.os := hos₃.trans hos₂
        clear hst hst0 hwu
        obtain ⟨word, ins, dep, sn'⟩ := st
        dsimp only at r3 r4 r5 r6 hE
        k_steps
        all_goals (rename Fr _ _ _ _ => F9; rename News _ _ _ _ => N9; rw [List.push_toArray, List.push_toArray] at N9)
        · rename ins = true => hin
          have hb : (!ins) = (!ins && (dep == 0)) := by rw [hin]; rfl
          rw [hb] at N9
          refine hP1 _ _ (show TEnd2 _ _ _ _ _ _ from ⟨_, _, [_, _], F9, N9, fun p hp => (List.cons_subset_cons _ (List.cons_subset_cons _ (List.nil_subset _))) hp, fun p hp => .tail _ (.tail _ hp), hoff, hos, hgx, ?_⟩)
          rw [hE]
          exact ⟨_, _, _, _, rw, ro, r1, r2, ⟨_, r3⟩, r4, ⟨_, r5⟩, hW.snoc, hO.snoc, hlt, rfl⟩
        · rename ins = false => hin
          have hb : (dep == 0) = (!ins && (dep == 0)) := by rw [hin]; rfl
          rw [hb] at N9
          refine hP1 _ _ (show TEnd2 _ _ _ _ _ _ from ⟨_, _, [_, _], F9, N9, fun p hp => (List.cons_subset_cons _ (List.cons_subset_cons _ (List.nil_subset _))) hp, fun p hp => .tail _ (.tail _ hp), hoff, hos, hgx, ?_⟩)
          rw [hE]
          exact ⟨_, _, _, _, rw, ro, r1, r2, ⟨_, r3⟩, r4, ⟨_, r5⟩, hW.snoc, hO.snoc, hlt, rfl⟩
  · rintro m₁ news₁ s₁ ⟨vW, vO, nW, nO, rw, ro, m1, m2, ⟨uS, m3⟩, m4, ⟨uD, m5⟩, hW, hO, hlt, rfl⟩ F₁ N₁ hos₁ hgx₁
    change Fr s.heap L s₁.heap _ at F₁
    change News s.heap L s₁.heap [_, _] at N₁
    have hsz : vs.toArray.size = ns.length := by rw [List.size_toArray, hi.length]
    rw [hsz, List.take_length] at m3 m4 m5 hW hO
    have bb := wordsAll_bound ns
    generalize ho : wordsAll ns = o at *
    obtain ⟨words, outside, seen, inside, depth⟩ := o
    obtain ⟨b1, b2, b3, b4, b5, b6⟩ := bb
    dsimp only at m3 m4 m5 hW hO b1 b2 b3 b4 b5 b6
    obtain ⟨ws, lw, rfl⟩ : ∃ ws lw, words = ws ++ [lw] := by
      rcases List.eq_nil_or_concat words with h | ⟨a, b, h⟩
      · rw [h] at b1; simp at b1; omega
      · exact ⟨a, b, by rw [h, List.concat_eq_append]⟩
    obtain ⟨vW', tl, rfl, hW'⟩ := hW.unsnoc
    have blw := b6 lw (by simp)
    have bsn : seen.length ≤ 25 := seen25 b3 hn5
    have bdp : depth ≤ 10 := by omega
    have blw1 : lw.length ≤ 4 := blw.1
    have bq : (Str.ofString "\"").length ≤ 1 := by decide +kernel
    have blq : (lw ++ Str.ofString "\"").length ≤ 5 := by rw [Str.length_append]; exact Nat.add_le_add blw1 bq
    have hmul : (Txt.mul (Str.ofString ")") depth).length ≤ 10 := PyProof.Rows.len_mul_one (N := 10) (by decide +kernel : Str.ofString ")" = ⟨#[41]⟩) bdp
    have bW : (vW' ++ [Value.str lw tl]).toArray.size ≤ 100 := by
      have := hW.length; rw [List.size_toArray, this]; omega
    have bO : vO.toArray.size ≤ 100 := by rw [List.size_toArray, hO.length]; omega
    k_steps
    all_goals (rename Fr _ _ _ _ => F₂; rename News _ _ _ _ => N₂)
    · show wpAny _ _ (call (.builtin "list.pop") [.ref rw]) _ _ _
      refine pop_L F₂ N₂ (by k_upd) (Nat.le_trans bW (by decide)) fun h₃ F₃ N₃ => ?_
      k_steps
      rename Fr _ _ _ _ => F₄; rename News _ _ _ _ => N₄
      rw [List.push_toArray] at N₄
      show wpAny _ _ (call (.builtin "list.pop") [.ref rw]) _ _ _
      have bW2 : ∀ v, (vW' ++ [v]).toArray.size ≤ 100 := fun v => by rw [List.size_toArray, List.length_append] at *; exact bW
      refine pop_L F₄ N₄ (by k_upd) (Nat.le_trans (bW2 _) (by decide)) fun h₅ F₅ N₅ => ?_
      k_steps
      rename Fr _ _ _ _ => F9; rename News _ _ _ _ => N9
      rw [List.push_toArray] at N9
      have e : wordsEnd ⟨ws ++ [lw], outside, seen, inside, depth⟩ = (ws ++ [(lw ++ Str.ofString "\"") ++ Txt.mul (Str.ofString ")") depth], outside.dropLast, seen ++ Txt.mul (Str.ofString ")") depth) := by
        rename inside = true => hin
        unfold wordsEnd; rw [hin]; simp
      rw [e] at hQ
      refine hP0 _ _ (hQ _ rw _ _ vO.dropLast _ _ _ ⟨F9.keep, hos₁, hgx₁⟩ (News.fresh N9 (.head _)) (News.fresh N9 (.tail _ (.tail _ (.tail _ (.head _))))) ?_ hW'.snoc hO.dropLast)
      have q := N9 _ (.tail _ (.head _))
      rw [drop_pick] at q
      exact ⟨q.1, q.2.2⟩
    · show wpAny _ _ (call (.builtin "list.pop") [.ref rw]) _ _ _
      refine pop_L F₂ N₂ (by k_upd) (Nat.le_trans bW (by decide)) fun h₃ F₃ N₃ => ?_
      k_steps
      rename Fr _ _ _ _ => F9; rename News _ _ _ _ => N9
      rw [List.push_toArray] at N9
      have e : wordsEnd ⟨ws ++ [lw], outside, seen, inside, depth⟩ = (ws ++ [lw ++ Txt.mul (Str.ofString ")") depth], outside.dropLast, seen ++ Txt.mul (Str.ofString ")") depth) := by
        rename inside = false => hin
        unfold wordsEnd; rw [hin]; simp [str_append_nil]
      rw [e] at hQ
      refine hP0 _ _ (hQ _ rw _ _ vO.dropLast _ _ _ ⟨F9.keep, hos₁, hgx₁⟩ (News.fresh N9 (.head _)) (News.fresh N9 (.tail _ (.tail _ (.tail _ (.head _))))) ?_ hW'.snoc hO.dropLast)
      have q := N9 _ (.tail _ (.head _))
      rw [drop_pick] at q
      exact ⟨q.1, q.2.2⟩

end
section
open PySem PySem.W PyProof.Rows
example : True := by
  w_top off
  trivial
set_option maxRecDepth 100000
set_option maxHeartbeats 1000000

structure PD (n : Nat) (P : Nat → Nat → Value → Prop) (D : Nat → Nat → Prop) (kvs : List (Int × Value)) : Prop where
  all : ∀ k v, (k, v) ∈ kvs → ∃ a b : Nat, a < b ∧ b ≤ n ∧ k = 8 * a + b ∧ P a b v
  has : ∀ a b : Nat, a < b → b ≤ n → D a b → (valueAt kvs ((8 * a + b : Nat) : Int)).isSome = true
theorem mem_of_valueAt {kvs : List (Int × Value)} {k : Int} {v : Value} (h : valueAt kvs k = some v) : (k, v) ∈ kvs := by
  unfold valueAt at h
  cases q : kvs.find? fun kv => kv.1 = k with
  | none => rw [q] at h; cases h
  | some p =>
    rw [q] at h
    have h1 := List.mem_of_find?_eq_some q
    have h2 := List.find?_some q
    obtain ⟨a, b⟩ := p
    cases h
    simp at h2; subst h2; exact h1
theorem stored_mem {kvs : List (Int × Value)} {k k' : Int} {v v' : Value} (h : (k', v') ∈ stored kvs k v) : (k' = k ∧ v' = v) ∨ (k', v') ∈ kvs := by
  unfold stored at h
  split at h
  · obtain ⟨p, hp, e⟩ := List.mem_map.mp h
    split at e
    · cases e; rename_i hk; exact .inl ⟨of_decide_eq_true (by simpa using hk), rfl⟩
    · subst e; exact .inr hp
  · rcases List.mem_append.mp h with h | h
    · exact .inr h
    · cases List.mem_singleton.mp h; exact .inl ⟨rfl, rfl⟩
theorem stored_has {kvs : List (Int × Value)} {k k' : Int} {v : Value} (h : k' = k ∨ (valueAt kvs k').isSome = true) : (valueAt (stored kvs k v) k').isSome = true := by
  rw [valueAt_isSome_eq_any] at *
  unfold stored
  rcases h with rfl | h
  · split
    · rename_i h
      obtain ⟨p, hp, e⟩ := List.any_eq_true.mp h
      refine List.any_eq_true.mpr ⟨_, List.mem_map_of_mem hp, ?_⟩
      split
      · exact e
      · exact e
    · simp
  · obtain ⟨p, hp, e⟩ := List.any_eq_true.mp h
    split
    · refine List.any_eq_true.mpr ⟨_, List.mem_map_of_mem hp, ?_⟩
      split
      · exact e
      · exact e
    · exact List.any_eq_true.mpr ⟨p, List.mem_append_left _ hp, e⟩
theorem PD.nil {n : Nat} {P : Nat → Nat → Value → Prop} {D : Nat → Nat → Prop} (h : ∀ a b, a < b → b ≤ n → ¬ D a b) : PD n P D [] := ⟨fun _ _ h => absurd h List.not_mem_nil, fun a b h1 h2 h3 => absurd h3 (h a b h1 h2)⟩
theorem PD.set {n : Nat} {P : Nat → Nat → Value → Prop} {D D' : Nat → Nat → Prop} {kvs : List (Int × Value)} (p : PD n P D kvs) {a b : Nat} {v : Value} {k : Int} (hk : k = ((8 * a + b : Nat) : Int)) (h1 : a < b) (h2 : b ≤ n) (hv : P a b v)
    (hD : ∀ a' b', D' a' b' → (a' = a ∧ b' = b) ∨ D a' b') : PD n P D' (stored kvs k v) := by
  refine ⟨fun k' v' h => ?_, fun a' b' q1 q2 q3 => stored_has ?_⟩
  · rcases stored_mem h with ⟨e1, e2⟩ | h
    · rw [e1, e2]; exact ⟨a, b, h1, h2, by rw [hk]; push_cast; rfl, hv⟩
    · exact p.all k' v' h
  · rcases hD _ _ q3 with ⟨rfl, rfl⟩ | h
    · exact .inl hk.symm
    · exact .inr (p.has _ _ q1 q2 h)
theorem PD.get {n : Nat} {P : Nat → Nat → Value → Prop} {D : Nat → Nat → Prop} {kvs : List (Int × Value)} (p : PD n P D kvs) (h7 : n ≤ 7) {a b : Nat} (h1 : a < b) (h2 : b ≤ n) (h : D a b) : ∃ v, valueAt kvs ((8 * a + b : Nat) : Int) = some v ∧ P a b v := by
  obtain ⟨v, hv⟩ := Option.isSome_iff_exists.mp (p.has a b h1 h2 h)
  refine ⟨v, hv, ?_⟩
  obtain ⟨a', b', q1, q2, q3, q4⟩ := p.all _ _ (mem_of_valueAt hv)
  have e : a' = a ∧ b' = b := pair_inj h2 h7 q2 q3
  rw [e.1, e.2] at q4; exact q4
noncomputable def spanS (ws : List Str) (a b : Nat) : Str := (if 0 < a then Str.ofString " " else Str.ofString "") ++ Txt.join (Str.ofString " ") ((ws.drop a).take (b - a))
noncomputable def IsStrV (x : Str) (v : Value) : Prop := ∃ t, v = .str x t
theorem StrsAre.drop {vs : List Value} {xs : List Str} (h : StrsAre vs xs) : ∀ k, StrsAre (vs.drop k) (xs.drop k) := by
  induction h with
  | nil => intro k; simp; exact .nil
  | cons h ih => intro k; cases k with
    | zero => exact .cons h
    | succ k => exact ih k
theorem StrsAre.take {vs : List Value} {xs : List Str} (h : StrsAre vs xs) : ∀ k, StrsAre (vs.take k) (xs.take k) := by
  induction h with
  | nil => intro k; simp; exact .nil
  | cons h ih => intro k; cases k with
    | zero => exact .nil
    | succ k => exact .cons (ih k)

theorem join_small {xs : List Str} (h : ∀ x ∈ xs, x.length ≤ 40) (hn : xs.length ≤ 5) : (Txt.join (Str.ofString " ") xs).length ≤ 300 := by
  have h1 := StrLaws.join_length_le (Str.ofString " ") xs
  have h2 := sum_le_mul xs 40 h
  have h3 : (Str.ofString " ").length = 1 := by decide +kernel
  rw [h3] at h1
  rw [Txt.join, StrLaws.glued_eq_join]
  exact join_lim h1 h2 hn rfl

set_option hygiene false
local macro_rules | `(tactic| walk_at "pyIter ref") => `(tactic| refine Hold.out ?_)
set_option hygiene true
set_option hygiene false
local macro_rules | `(tactic| walk_at "subscriptTail Name Slice ref ref") => `(tactic| refine Hold.out ?_)
set_option hygiene true
set_option hygiene false
local macro_rules | `(tactic| walk_at "subscriptTail Name Slice ref ref") => `(tactic| refine Hold.out ?_)
set_option hygiene true
set_option hygiene false
local macro_rules | `(tactic| walk_at "call builtin:str.join") => `(tactic| refine Hold.out ?_)
set_option hygiene true
set_option hygiene false
local macro_rules | `(tactic| walk_at "exec For Name Call cons nil") => `(tactic| refine Hold.out ?_)
set_option hygiene true
set_option hygiene false
local macro_rules | `(tactic| walk_at "eval Name") => `(tactic| (k_here; k_dflt (refine ld (by k_asm) (by (first | assumption | (simp (decide := true) only [if_true, if_false]; assumption))) ?_; k_whole)))
set_option hygiene true
local macro_rules | `(tactic| walk_at "call builtin:len") => `(tactic| (k_here; (with_reducible show wpAny _ _ (call (Value.builtin "len") [Value.ref _]) _ _ _); k_dflt (refine len_bl (by k_asm) (by k_asm) ?_); intro tL kL))

theorem c_spans {w : World} {mg mb : Str → Option Value} {A : Around} {s : Shared} {Q E : Value → Shared → Prop} {l : Addr} {vs : List Value} {ws : List Str}
    (C : Cx w mg mb s.heap) (hh : A.handled = none) (hroom : A.depth + 20 < recursionLimit) (hu : A.units + 200 < cLine) (hl : s.heap.IsList l vs.toArray) (hi : StrsAre vs ws) (hn1 : 1 ≤ ws.length) (hn5 : ws.length ≤ 5)
    (hw : ∀ x ∈ ws, x.length ≤ 40)
    (hQ : ∀ (d : Addr) (o : Obj) kvs s', Ext s s' → Fresh s s' d o → o.IsDictOf (intKind PR w) kvs → PD ws.length (fun a b => IsStrV (spanS ws a b)) (fun _ _ => True) kvs → kvs.length ≤ 25 → (d == sysModules) = false → Q (.ref d) s') :
    wpAny (model PR w) A (call (.ref 217) [.ref l]) Q E s := by
  obtain ⟨X, T⟩ := C
  have B : BL s.heap l vs ws.length := ⟨hl, hi.length, by omega⟩
  refine wpAny_call ?_
  k_dflt (refine' enter_def (binds := [(Str.ofString "words", .ref l)]) ?k1 ?k2 ?k3 ?k4 ?k5 ?k6 ?k7 ?_ ?c1 ?c2 ?c3 ?c4; (case k1 => exact X); (case k2 => exact T.nolimit); (case k3 => k_is); (case k4 => k_is); (case k5 => omega); (case k6 => exact BindsTo.of_eq rfl); (case k7 => exact locs rfl); (case c1 => exact rfl); (case c2 => exact rfl); (case c3 => exact rfl); (case c4 => decide))
  intro L h₁ F hL
  refine abstr ?_
  intro Q0 E0 hP0 hE0
  have N : News s.heap L h₁ [] := News.nil
  (try dsimp only)
  (try k_fold)
  generalize hn : ws.length = n at *
  k_steps
  refine Hold.mk (wpAny_For ?_)
  k_steps
  refine Hold.mk ?_
  rename IsRange _ _ _ _ _ _ _ _ => hr
  rename Fr _ _ _ _ => F₁
  rename News _ _ _ _ => N₁
  refine for_range (h₀ := s.heap) (m := _) (news := _) (n := n) hh hr (range_small (by decide) (by decide) (by omega) (by omega) (.inl rfl)) (rangeSize_up (by omega)) rfl rfl F₁ N₁
    (fun i m₁ news₁ => ∃ d o kvs, m₁ (Str.ofString "words") = some (.ref l) ∧ m₁ (Str.ofString "spans") = some (.ref d) ∧ news₁ = [(d, o)] ∧ o.IsDictOf (intKind PR w) kvs ∧ PD n (fun a b => IsStrV (spanS ws a b)) (fun a _ => a < i) kvs ∧ kvs.length ≤ 5 * i ∧ (d == sysModules) = false) ?_ ?_ ?_
  · exact ⟨_, _, [], rfl, rfl, rfl, by assumption, PD.nil (fun _ _ _ _ h => Nat.not_lt_zero _ h), Nat.le_refl _, by assumption⟩
  · rintro i tk m₁ news₁ own s₁ hin ⟨d, o, kvs, m1, m2, rfl, hd, pd, hlen, hsys⟩ hoff F₂ N₂ hos₂ hgx₂
    change Fr s.heap L s₁.heap _ at F₂
    change News s.heap L s₁.heap ((d, o) :: own) at N₂
    refine abstr ?_
    intro Q1 E1 hP1 hE1
    clear F₁ N₁
    rw [show (0 + (i : Int) * 1) = i by omega] at F₂
    k_steps
    refine Hold.mk (wpAny_For ?_)
    k_steps
    refine Hold.mk ?_
    clear hr
    rename IsRange _ _ _ _ _ _ _ _ => hr
    rename Fr _ _ _ _ => F₃
    rename News _ _ _ _ => N₃
    refine for_range (h₀ := s.heap) (m := _) (news := _) (n := n - i) hh hr (range_small (by omega) (by omega) (by omega) (by omega) (.inl rfl)) (rangeSize_up (cast_rest hin)) rfl rfl F₃ N₃
      (fun j m₁ news₁ => ∃ o kvs, m₁ (Str.ofString "words") = some (.ref l) ∧ m₁ (Str.ofString "spans") = some (.ref d) ∧ IsI m₁ (Str.ofString "start") i ∧ news₁ = (d, o) :: own ∧ o.IsDictOf (intKind PR w) kvs ∧ PD n (fun a b => IsStrV (spanS ws a b)) (fun a b => a < i ∨ (a = i ∧ b ≤ i + j)) kvs ∧ kvs.length ≤ 5 * i + j) ?_ ?_ ?_
    · exact ⟨o, kvs, (if_neg (by decide)).trans m1, (if_neg (by decide)).trans m2, ⟨_, rfl⟩, rfl, hd, ⟨pd.all, fun a b h1 h2 h3 => pd.has a b h1 h2 (by omega)⟩, by omega⟩
    · rintro j tk' m₂ news₂ own' s₂ hjn ⟨o₂, kvs₂, r1, r2, ⟨ts, r3⟩, rfl, hd₂, pd₂, hlen₂⟩ hoff' F₄ N₄ hos₄ hgx₄
      change Fr s.heap L s₂.heap _ at F₄
      change News s.heap L s₂.heap ((d, o₂) :: (own ++ own')) at N₄
      refine abstr ?_
      intro Q2 E2 hP2 hE2
      clear F₃ N₃ hr
      rw [show ((i : Int) + 1 + (j : Int) * 1) = ((i + 1 + j : Nat) : Int) by omega] at F₄
      generalize hb : i + 1 + j = b at *
      have hib : i < b := hb ▸ Nat.lt_of_lt_of_le (Nat.lt_succ_self i) (Nat.le_add_right _ _)
      have hbn : b ≤ n := lastb hb hin hjn
      have h5 : ws.length ≤ 5 := Nat.le_trans (Nat.le_of_eq hn) hn5
      have hk2 : kvs₂.length ≤ 100 := len30 hlen₂ hin hjn hn5
      have hD := span_step hb
      have bj : (Txt.join (Str.ofString " ") ((ws.drop i).take (b - i))).length ≤ 300 := join_small (fun x hx => hw x (List.mem_of_mem_drop (List.mem_of_mem_take hx))) (by rw [List.length_take, List.length_drop]; exact min_sub h5)
      have hpick : slicePick vs.toArray (some (i : Int)) (some (b : Int)) none = ((vs.drop i).take (b - i)).toArray := slicePick_run vs.toArray i b (by rw [List.size_toArray, B.len]; omega) (by omega)
      have hjo : JoinOk (Str.ofString " ") ((ws.drop i).take (b - i)) = true := joinOk_small (by decide) (b := 40) (fun x hx => hw x (List.mem_of_mem_drop (List.mem_of_mem_take hx))) (by decide) (by rw [List.length_take, List.length_drop]; exact min_sub (Nat.le_trans h5 (Nat.le_of_ble_eq_true rfl)))
      k_steps
      all_goals (
        refine Hold.mk ?_
        refine slice_list F₄ N₄ (B.at F₄) (.int _ _) (.int _ _) (fun h₅ F₅ N₅ => ?_) (hsz := by rw [List.size_toArray, B.len, sizeLine_eq]; omega)
        rw [hpick] at N₅
        k_steps
        refine Hold.mk ?_
        refine join_strs (n := 0) N₅ (.head _) ((hi.drop i).take (b - i)) hjo fun t' k => ?_
        k_steps
        have N₆ : News s.heap L _ ((d, o₂) :: (own ++ own')) := fun p hp => N₅ p (.tail _ hp)
        clear N₅
        refine kda_set (knd := PySem.intKind _ _) F₅ N₆ (.head fun p hp => (List.mem_append.mp hp).elim (fun h => hoff p h d (.head _)) (fun h => hoff' p h d (.head _))) hd₂ (intKind_is _ _ _ _) (by rw [sizeLine_eq]; omega) fun h₇ o₇ F₇ N₇ hd₇ => ?_
        k_steps
        refine hP2 _ _ (show TEnd2 _ _ _ _ _ _ from ⟨_, _, (d, o₇) :: own, F₇, N₇, fun p hp => (List.cons_subset_cons _ (List.subset_append_left _ _)) hp, fun p hp => .tail _ (List.mem_append_right _ hp), hoff', rfl, .refl _, ?_⟩)
        refine ⟨o₇, _, (if_neg (by decide)).trans r1, (if_neg (by decide)).trans r2, ⟨ts, (if_neg (by decide)).trans r3⟩, rfl, hd₇, pd₂.set (a := i) (b := b) (by push_cast; omega) hib hbn ?_ hD, Nat.le_trans (stored_length_le _ _ _) (Nat.succ_le_succ hlen₂)⟩
        unfold spanS
        first | rw [if_pos (by omega)] | rw [if_neg (by omega)]
        exact ⟨_, rfl⟩)
    · rintro m₂ news₂ s₂ ⟨o₂, kvs₂, r1, r2, ⟨ts, r3⟩, rfl, hd₂, pd₂, hlen₂⟩ F₄ N₄ hos₄ hgx₄
      change Fr s.heap L s₂.heap _ at F₄
      change News s.heap L s₂.heap ((d, o₂) :: own) at N₄
      k_steps
      refine hP1 _ _ (show TEnd2 _ _ _ _ _ _ from ⟨_, _, [(d, o₂)], F₄, N₄, fun p hp => (List.cons_subset_cons _ (List.nil_subset _)) hp, fun p hp => .tail _ hp, hoff, hos₄, hgx₄, ?_⟩)
      exact ⟨d, o₂, kvs₂, r1, r2, rfl, hd₂, ⟨pd₂.all, fun a b h1 h2 h3 => pd₂.has a b h1 h2 (span_end hin h2 h3)⟩, next5 hlen₂ hn5, hsys⟩
  · rintro m₁ news₁ s₁ ⟨d, o, kvs, m1, m2, rfl, hd, pd, hlen, hsys⟩ F₂ N₂ hos₂ hgx₂
    change Fr s.heap L s₁.heap _ at F₂
    change News s.heap L s₁.heap [(d, o)] at N₂
    k_steps
    exact hP0 _ _ (hQ d o kvs _ ⟨F₂.keep, hos₂, hgx₂⟩ (News.fresh N₂ (.head _)) hd ⟨pd.all, fun a b h1 h2 _ => pd.has a b h1 h2 (by omega)⟩ (by omega) hsys)

end
section
open PySem PySem.W PyProof.Rows
set_option hygiene false
local macro_rules | `(tactic| omega) => `(tactic| first | w_left | (refine Nat.ne_of_lt ?_; w_left) | (refine Nat.ne_of_gt ?_; w_left) | lia | fail "no chain")
set_option hygiene true
section
open PySem PySem.W PyProof.Rows
example : True := by
  w_top off
  trivial
set_option maxRecDepth 100000
set_option maxHeartbeats 1000000

noncomputable abbrev seqObj (C d : Addr) (items : Array Value) (n : Nat) : Obj := { cls := .ref C, dict := some d, data := .seq items n }
noncomputable abbrev accObj (d : Addr) (items : Array Value) (n : Nat) : Obj := seqObj 178 d items n

theorem instSeq {h₀ h : Heap} {L x C dx : Addr} {news : List (Addr × Obj)} {od : Obj} {items : Array Value} {n : Nat} (N : News h₀ L h news) (h1 : (x, seqObj C dx items n) ∈ news) (h2 : (dx, od) ∈ news) :
    InstAt h x (seqObj C dx items n) C (some od) := ⟨(N _ h1).1, rfl, rfl, (N _ h2).1⟩

section
variable {prog : Program} {w : World} {A : Around} {E : Value → Shared → Prop} {s : Shared} {K : Frag} {x C : Addr} {ox : Obj} {od : Option Obj}

theorem method_bi {id : String} {name : Str} {pl : Sem Bool} {Q : Value × List Value → Shared → Prop} (X : K.In s.heap) (I : InstAt s.heap x ox C od) (hg : plainGet K C name = true)
    (hf : findIn K (.ref C) name = some (some (.builtin id))) (ht : typeOf (.builtin id) = pure (.type "method_descriptor")) (hs : shadowIn od name = some false) (h : Q (.builtin id, [.ref x]) s) :
    wpAny (model prog w) A (getMethod (.ref x) name pl) Q E s := by
  have hcan := PySem.F.canon_object_ga
  obtain ⟨hga, hk⟩ := plainGet_of hg
  unfold getMethod specialOf
  refine wpAny_bind (wpAny_bind (I.type.here ((looks_findIn X hga).here ?_)))
  dsimp only
  rw [hcan, if_neg (by decide)]
  refine wpAny_bind (wpAny_bind (I.type.here ((looks_findIn X hk).here ?_)))
  refine wpAny_bind (wpAny_bind (I.type.here ((looks_findIn X hf).here (wpAny_bind (wpAny_of_eq ht ?_)))))
  rw [if_neg (by decide +kernel)]
  refine wpAny_bind (wpAny_loadPart I.at_ ?_)
  have hd := I.dict
  cases e : ox.dict with
  | none => exact wpAny_bind (wpAny_rule (wpAny_pure h))
  | some dx =>
    cases od with
    | none => rw [e] at hd; exact hd.elim
    | some o =>
      rw [e] at hd
      obtain ⟨r, a, b⟩ := Option.map_eq_some_iff.mp hs
      refine wpAny_bind (wpAny_bind (wpAny_loadPart hd ?_))
      rw [nsLook_of a]
      refine wpAny_pure ?_
      rw [b]
      exact wpAny_bind (wpAny_rule (wpAny_pure h))

theorem sub_isInstance {T : Value} {b : Bool} {Q : Bool → Shared → Prop} (X : K.In s.heap) (I : InstAt s.heap x ox C od) (hm : mroIn K C T = some b) (h : Q b s) : wpAny (model prog w) A (isInstance (.ref x) T) Q E s := by
  unfold isInstance
  exact wpAny_bind (I.type.here ((looks_mroIn X hm).here h))

structure SubSlot (id owner n : String) : Prop where
  split : splitId id = some (owner, n)
  kind : (Manifest.find? owner).bind (·.attrs.lookup n) = some .slot ∨ (Manifest.find? owner).bind (·.attrs.lookup n) = some .method
  plain : plainId id = true

theorem call_sub {id owner n : String} {B : Builtin} {rest : List Value} {Q : Value → Shared → Prop} (S : SubSlot id owner n) (X : K.In s.heap) (I : InstAt s.heap x ox C od) (hm : mroIn K C (.type owner) = some true)
    (entry : entryFor table id = some B) (ok : argsOk id ⟨.ref x :: rest, []⟩)
    (h : wpAny (model prog w) A.in1 (B ⟨.ref x :: rest, []⟩) (fun fin s' => ∃ v, fin = .done (.ret v) ∧ Q v s') E s) : wpAny (model prog w) A (call (.builtin id) (.ref x :: rest)) Q E s := by
  obtain ⟨hsplit, hkind, hplain⟩ := S
  have hk : builtinKind id = (Manifest.find? owner).bind (·.attrs.lookup n) := by simp only [builtinKind, hsplit]
  refine wpAny_call (codeAny_call_builtin hplain entry ?_)
  rcases hkind with h1 | h1 <;>
    · unfold checkBuiltinCall
      rw [hk, h1, hsplit]
      dsimp only
      refine wpAny_bind (sub_isInstance X I hm ?_)
      rw [Bool.not_true, if_neg Bool.false_ne_true]
      cases hsig : Manifest.signature? id with
      | none => exact wpAny_pure (wpAny_mono h (fun fin s' q => by obtain ⟨v, rfl, hv⟩ := q; exact hv) fun _ _ q => q)
      | some sig =>
        simp only [argsOk, hsig] at ok
        have h2 : Bind.checkArgs id sig ⟨.ref x :: rest, []⟩ = pure () := ok
        show wpAny _ _ (Bind.checkArgs id sig ⟨.ref x :: rest, []⟩) _ _ _
        rw [h2]; exact wpAny_pure (wpAny_mono h (fun fin s' q => by obtain ⟨v, rfl, hv⟩ := q; exact hv) fun _ _ q => q)
end

theorem sub_append : SubSlot "list.append" "list" "append" := ⟨by decide +kernel, .inr (by decide +kernel), by decide +kernel⟩
theorem sub_pop : SubSlot "list.pop" "list" "pop" := ⟨by decide +kernel, .inr (by decide +kernel), by decide +kernel⟩
theorem sub_len : SubSlot "list.__len__" "list" "__len__" := ⟨by decide +kernel, .inl (by decide +kernel), by decide +kernel⟩
theorem sub_init : SubSlot "list.__init__" "list" "__init__" := ⟨by decide +kernel, .inl (by decide +kernel), by decide +kernel⟩
theorem sub_iter : SubSlot "list.__iter__" "list" "__iter__" := ⟨by decide +kernel, .inl (by decide +kernel), by decide +kernel⟩
theorem sub_getitem : SubSlot "list.__getitem__" "list" "__getitem__" := ⟨by decide +kernel, by first | exact .inl (by decide +kernel) | exact .inr (by decide +kernel), by decide +kernel⟩
theorem sub_setitem : SubSlot "list.__setitem__" "list" "__setitem__" := ⟨by decide +kernel, .inl (by decide +kernel), by decide +kernel⟩

section
variable {prog : Program} {w : World} {A : Around} {E : Value → Shared → Prop} {s : Shared} {x C d : Addr} {items : Array Value} {n : Nat}
theorem b_append {v : Value} {Q : Fin → Shared → Prop} (hx : s.heap.get? x = some (seqObj C d items n)) (hsz : items.size ≤ sizeLine) (h : Q (.done (.ret .none)) { s with heap := s.heap.update x (Obj.mapSeq fun xs => xs.push v) }) :
    wpAny (model prog w) A (Builtin.«list.append» ⟨[.ref x, v], []⟩) Q E s := by
  obtain ⟨hp, g, dd, tk, os⟩ := s
  have hz' : (items.push v).size ≤ sizeLine + 1 := by rw [Array.size_push]; omega
  wp_walk using (wpAny_updateSeq hx rfl (hz := hsz) (_hz' := hz'))
  exact h
theorem b_pop {y : Value} {Q : Fin → Shared → Prop} (hx : s.heap.get? x = some (seqObj C d items n)) (hy : items[items.size - 1]? = some y) (hsz : items.size ≤ sizeLine)
    (h : Q (.done (.ret y)) { s with heap := s.heap.update x (Obj.mapSeq fun xs => xs.eraseIdxIfInBounds (items.size - 1)) }) :
    wpAny (model prog w) A (Builtin.«list.pop» ⟨[.ref x], []⟩) Q E s := by
  obtain ⟨hp, g, dd, tk, os⟩ := s
  have hpos : 0 < items.size := by
    rcases Nat.eq_zero_or_pos items.size with h0 | h0
    · simp [h0] at hy
    · exact h0
  have hne : ¬ items.isEmpty = true := by
    intro he; have : items.size = 0 := by simpa using he
    omega
  have hk : seqIndex? (-1) items.size = some (items.size - 1) := by
    rw [MeetsSeq.seqIndex_neg (by omega) (by omega)]; congr 1; exact pop_toNat
  wp_walk using AutoSeq1.wpAny_loadPart' hx
  rw [hk]
  dsimp only [Option.bind_some]
  rw [hy]
  dsimp only [Option.map_some]
  have hz' : (items.eraseIdxIfInBounds (items.size - 1)).size ≤ sizeLine + 1 := Nat.le_trans (MeetsSeq.size_erased items _) (Nat.le_succ_of_le hsz)
  wp_walk using (wpAny_updateSeq hx rfl (hz := hsz) (_hz' := hz')), AutoSeq1.wpAny_loadPart' hx
  exact h
theorem b_len {Q : Fin → Shared → Prop} (hx : s.heap.get? x = some (seqObj C d items n)) (h : ∀ t k, Q (.done (.ret (.int items.size t))) { s with toks := k }) :
    wpAny (model prog w) A (Builtin.«list.__len__» ⟨[.ref x], []⟩) Q E s := by
  obtain ⟨hp, g, dd, tk, os⟩ := s
  wp_walk using AutoSeq1.wpAny_loadPart' hx
  exact h _ _
theorem b_init {Q : Fin → Shared → Prop} (hx : s.heap.get? x = some (seqObj C d #[] n)) (h : Q (.done (.ret .none)) { s with heap := s.heap.update x (Obj.mapSeq fun _ => #[]) }) :
    wpAny (model prog w) A (Builtin.«list.__init__» ⟨[.ref x], []⟩) Q E s := by
  obtain ⟨hp, g, dd, tk, os⟩ := s
  wp_walk using (wpAny_updateSeq hx rfl (hz := by decide) (_hz' := by decide)), AutoSeq1.wpAny_loadPart' hx
  exact h
theorem b_iter {Q : Fin → Shared → Prop} (h : Q (.done (.ret (.ref s.heap.objs.size))) { s with heap := s.heap.push { cls := .type "list_iterator", data := .fields #[.ref x, rawInt 0] } }) :
    wpAny (model prog w) A (Builtin.«list.__iter__» ⟨[.ref x], []⟩) Q E s := by
  obtain ⟨hp, g, dd, tk, os⟩ := s
  wp_walk
  exact h
end

end
section
open PySem PySem.W PyProof.Rows PySem.Calls
example : True := by
  w_top off
  trivial
set_option maxRecDepth 100000
set_option maxHeartbeats 1000000

theorem slot_md_get : Slot "method_descriptor" "__get__" "method_descriptor.__get__" :=
  .of (owner := "method_descriptor") (n := "__get__") (by rw [typeLookup_type, builtinLookup_eq_fast]; kernel_rfl) (by decide +kernel) (by decide +kernel) (by decide +kernel)
    (by first | exact .inl (by decide +kernel) | exact .inr (by decide +kernel)) (by rw [isSubtype_type]; kernel_rfl)
theorem slot_wd_get : Slot "wrapper_descriptor" "__get__" "wrapper_descriptor.__get__" :=
  .of (owner := "wrapper_descriptor") (n := "__get__") (by rw [typeLookup_type, builtinLookup_eq_fast]; kernel_rfl) (by decide +kernel) (by decide +kernel) (by decide +kernel)
    (by first | exact .inl (by decide +kernel) | exact .inr (by decide +kernel)) (by rw [isSubtype_type]; kernel_rfl)
theorem entry_md_get : entryFor table "method_descriptor.__get__" = some Builtin.«method_descriptor.__get__» := entryFor_of_tree (by kernel_rfl)
theorem entry_wd_get : entryFor table "wrapper_descriptor.__get__" = some Builtin.«wrapper_descriptor.__get__» := entryFor_of_tree (by kernel_rfl)
theorem args_md_get (a b c : Value) : argsOk "method_descriptor.__get__" ⟨[a, b, c], []⟩ := by unfold argsOk; kernel_rfl
theorem args_wd_get (a b c : Value) : argsOk "wrapper_descriptor.__get__" ⟨[a, b, c], []⟩ := by unfold argsOk; kernel_rfl
theorem type_pop : typeOf (.builtin "list.pop") = pure (.type "method_descriptor") := by show builtinType _ = _; rw [builtinType_eq_fast]; kernel_rfl
theorem type_append : typeOf (.builtin "list.append") = pure (.type "method_descriptor") := by show builtinType _ = _; rw [builtinType_eq_fast]; kernel_rfl
theorem type_linit : typeOf (.builtin "list.__init__") = pure (.type "wrapper_descriptor") := by show builtinType _ = _; rw [builtinType_eq_fast]; kernel_rfl
theorem type_llen : typeOf (.builtin "list.__len__") = pure (.type "wrapper_descriptor") := by show builtinType _ = _; rw [builtinType_eq_fast]; kernel_rfl

noncomputable abbrev boundObj (T id : String) (x : Addr) : Obj := { cls := .type T, data := .fields #[.builtin id, .ref x] }

section
variable {prog : Program} {w : World} {A : Around} {E : Value → Shared → Prop} {s : Shared} {K : Frag} {x C : Addr} {ox : Obj} {od : Option Obj}
theorem run_get_pop {Q : Fin → Shared → Prop} (X : K.In s.heap) (I : InstAt s.heap x ox C od) (hm : mroIn K C (.type "list") = some true)
    (h : Q (.done (.ret (.ref s.heap.objs.size))) { s with heap := s.heap.push (boundObj "builtin_function_or_method" "list.pop" x) }) :
    wpAny (model prog w) A (Builtin.«method_descriptor.__get__» ⟨[.builtin "list.pop", .ref x, .ref C], []⟩) Q E s := by
  unfold Builtin.«method_descriptor.__get__»
  refine wpAny_bind (wpAny_of_eq (a := (.builtin "list.pop", some (.ref x), some (.ref C))) (by first | rfl | kernel_rfl) ?_)
  dsimp only
  refine wpAny_ite_false (by decide +kernel) ?_
  refine wpAny_bind (wpAny_bind (wpAny_of_eq (a := (Str.ofString "pop", .type "list")) (by kernel_rfl) ?_))
  dsimp only
  refine wpAny_bind (sub_isInstance X I hm ?_)
  refine wpAny_ite_false (by simp) ?_
  refine wpAny_pure ?_
  exact wpAny_bind (wpAny_newObj_type (wpAny_pure h))
theorem run_get_slot {id n : String} {Q : Fin → Shared → Prop} (X : K.In s.heap) (I : InstAt s.heap x ox C od) (hm : mroIn K C (.type "list") = some true) (hid : id = "list.__init__" ∨ id = "list.__len__")
    (h : Q (.done (.ret (.ref s.heap.objs.size))) { s with heap := s.heap.push (boundObj "method-wrapper" id x) }) :
    wpAny (model prog w) A (Builtin.«wrapper_descriptor.__get__» ⟨[.builtin id, .ref x, .ref C], []⟩) Q E s := by
  unfold Builtin.«wrapper_descriptor.__get__»
  refine wpAny_bind (wpAny_of_eq (a := (.builtin id, some (.ref x), some (.ref C))) (by first | rfl | kernel_rfl) ?_)
  rcases hid with rfl | rfl
  · refine wpAny_bind (wpAny_bind (wpAny_of_eq (a := (Str.ofString "__init__", .type "list")) (by kernel_rfl) ?_))
    dsimp only
    refine wpAny_bind (sub_isInstance X I hm ?_)
    refine wpAny_ite_false (by simp) ?_
    refine wpAny_pure ?_
    exact wpAny_bind (wpAny_newObj_type (wpAny_pure h))
  · refine wpAny_bind (wpAny_bind (wpAny_of_eq (a := (Str.ofString "__len__", .type "list")) (by kernel_rfl) ?_))
    dsimp only
    refine wpAny_bind (sub_isInstance X I hm ?_)
    refine wpAny_ite_false (by simp) ?_
    refine wpAny_pure ?_
    exact wpAny_bind (wpAny_newObj_type (wpAny_pure h))
end

section
variable {prog : Program} {w : World} {A : Around} {E : Value → Shared → Prop} {h : Heap} {g : Array GenState} {d : Drawn} {t : Nat} {os : OsState}
theorem super_ga {so D x C : Addr} {T id getId : String} {B : Builtin} {l₀ l : List Value} {K : Frag} {name : Str} {tk : Tok} {Q : Fin → Shared → Prop} {o : Obj}
    (hso : h.get? so = some { cls := .type "super", dict := none, data := .fields #[.ref D, .ref x, .ref C], slots := #[] }) (hno : Looks (model prog w) h (opaqueClassAbove (.ref C)) none)
    (hC : Looks (model prog w) h (mroOf (.ref C)) l₀) (hl : (l₀.dropWhile (· != .ref D)).drop 1 = l) (X : K.In h)
    (hf : alongIn K name l = some (some (.builtin id))) (hT : typeOf (.builtin id) = pure (.type T)) (slot : Slot T "__get__" getId) (entry : entryFor table getId = some B) (args : argsOk getId ⟨[.builtin id, .ref x, .ref C], []⟩)
    (hxC : x ≠ C) (hn : (name == ("__class__" : Str)) = false)
    (hget : ∀ (A : Around) (E : Value → Shared → Prop) (Q : Fin → Shared → Prop) (t' : Nat), Q (.done (.ret (.ref h.objs.size))) ⟨h.push o, g, d, t', os⟩ → wpAny (model prog w) A (B ⟨[.builtin id, .ref x, .ref C], []⟩) Q E ⟨h, g, d, t', os⟩)
    (hq : Q (.done (.ret (.ref h.objs.size))) ⟨h.push o, g, d, t, os⟩) :
    wpAny (model prog w) A (Builtin.«super.__getattribute__» ⟨[.ref so, .str name tk], []⟩) Q E ⟨h, g, d, t, os⟩ := by
  have hlk := slot.lookup
  have hne : (Value.ref x == Value.ref C) = false := by simp [hxC]
  have hTf : (⟨h, g, d, t, os⟩ : Shared).TypeIs (.builtin id) T := hT
  have hdt : ({ cls := .type "super", dict := none, data := .fields #[.ref D, .ref x, .ref C], slots := #[] } : Obj).data = .fields #[.ref D, .ref x, .ref C] := rfl
  have f0 : (#[.ref D, .ref x, .ref C] : Array Value)[0]? = some (.ref D) := rfl
  have f1 : (#[.ref D, .ref x, .ref C] : Array Value)[1]? = some (.ref x) := rfl
  have f2 : (#[.ref D, .ref x, .ref C] : Array Value)[2]? = some (.ref C) := rfl
  unfold Builtin.«super.__getattribute__»
  repeat (first
    | (with_reducible refine wpAny_field hso hdt f0 ?_) | (with_reducible refine wpAny_field hso hdt f1 ?_) | (with_reducible refine wpAny_field hso hdt f2 ?_)
    | (with_reducible refine ks_wpAny_notOpaque hno ?_)
    | (with_reducible refine Looks.at hC ?_; rw [hl])
    | (refine ks_forIn_along X (fun _ _ => rfl) rfl ?_ hf)
    | (with_reducible refine wpAny_typeOf hTf ?_)
    | (with_reducible refine wpAny_call_entry slot hTf entry ?_ args)
    | (with_reducible refine hget _ _ _ _ ?_)
    | (with_reducible refine ⟨_, rfl, ?_⟩)
    | (rw [hn]) | (rw [hne]) | (rw [hlk]) | (rw [Bool.or_false]) | (rw [if_neg Bool.false_ne_true])
    | (simp only [hn, hne, hlk, Bool.or_false, Bool.false_eq_true, if_false])
    | wp_step
    | dsimp only)
  all_goals exact hq

theorem getMethod_super {so D x C : Addr} {T id getId : String} {B : Builtin} {l₀ l : List Value} {K : Frag} {name : Str} {pl : Sem Bool} {Q : Value × List Value → Shared → Prop} {o : Obj}
    (hso : h.get? so = some { cls := .type "super", dict := none, data := .fields #[.ref D, .ref x, .ref C], slots := #[] }) (hno : Looks (model prog w) h (opaqueClassAbove (.ref C)) none)
    (hC : Looks (model prog w) h (mroOf (.ref C)) l₀) (hl : (l₀.dropWhile (· != .ref D)).drop 1 = l) (X : K.In h)
    (hf : alongIn K name l = some (some (.builtin id))) (hT : typeOf (.builtin id) = pure (.type T)) (slot : Slot T "__get__" getId) (entry : entryFor table getId = some B) (args : argsOk getId ⟨[.builtin id, .ref x, .ref C], []⟩)
    (hxC : x ≠ C) (hn : (name == ("__class__" : Str)) = false)
    (hget : ∀ (A : Around) (E : Value → Shared → Prop) (Q : Fin → Shared → Prop) (t' : Nat), Q (.done (.ret (.ref h.objs.size))) ⟨h.push o, g, d, t', os⟩ → wpAny (model prog w) A (B ⟨[.builtin id, .ref x, .ref C], []⟩) Q E ⟨h, g, d, t', os⟩)
    (hq : Q (.ref h.objs.size, []) ⟨h.push o, g, d, t + 1, os⟩) :
    wpAny (model prog w) A (getMethod (.ref so) name pl) Q E ⟨h, g, d, t, os⟩ := by
  have hlk := F.ks_slot_super_ga.lookup
  have hcan := F.ks_canon_super_ga
  have hTs : ∀ t', (⟨h, g, d, t', os⟩ : Shared).TypeIs (.ref so) "super" := fun _ => ⟨_, hso, rfl⟩
  unfold getMethod
  refine wpAny_bind (wpAny_specialOf (hTs _) hlk ?_)
  show wpAny _ _ (if (Manifest.canonical "super.__getattribute__" != "object.__getattribute__") = true then _ else _) _ _ _
  rw [if_pos hcan]
  unfold getAttr getAttrBy
  refine wpAny_bind (wpAny_bind (wpAny_mkText (wpAny_holding (wpAny_bind (wpAny_typeOf (hTs _) (wpAny_bind (wpAny_of_eq hlk ?_)))))))
  show wpAny _ _ (getAttrByItsOwn (.ref so) (.str name t) (.type "super") (.builtin "super.__getattribute__") true false) _ _ _
  unfold getAttrByItsOwn hookBefore callGetattribute boundAndCalled
  refine wpAny_bind (wpAny_of_eq (show (if onTheHeap (.type "super") then typeLookup (.type "super") "__getattr__" else pure none) = pure none from rfl) ?_)
  refine wpAny_bind (wpAny_attempt (wpAny_holding ?_))
  show wpAny _ _ (bindSpecial (.builtin "super.__getattribute__") (.ref so) >>= _) _ _ _
  refine wpAny_bind (wpAny_of_eq (F.ks_slot_super_ga.bind _) ?_)
  refine wpAny_mono (Q := fun v s' => v = .ref h.objs.size ∧ s' = ⟨h.push o, g, d, t + 1, os⟩) (E := fun _ _ => False)
    (wpAny_call_entry F.ks_slot_super_ga (hTs _) F.ks_entry_super_ga (super_ga hso hno hC hl X hf hT slot entry args hxC hn hget ⟨_, rfl, rfl, rfl⟩) (F.ks_gaArgs_super _ _)) (fun v s' hv => ?_) fun _ _ z => z.elim
  obtain ⟨rfl, rfl⟩ := hv
  exact wpAny_pure (wpAny_pure hq)
end

end
section
open PySem PySem.W PyProof.Rows PySem.Calls
example : True := by
  w_top off
  trivial
set_option maxRecDepth 100000
set_option maxHeartbeats 1000000

structure At (h₀ : Heap) (h : Heap) (news : List (Addr × Obj)) : Prop where
  keep : ∀ b o, h₀.get? b = some o → h.get? b = some o
  size : h₀.objs.size ≤ h.objs.size
  news : ∀ p ∈ news, h.get? p.1 = some p.2 ∧ h₀.get? p.1 = none

section
variable {h₀ h h' : Heap} {L : Addr} {m : Str → Option Value} {news lent rest : List (Addr × Obj)}
theorem At.enter (H : At h₀ h news) (F : Fr h L h' m) : Fr h₀ L h' m ∧ News h₀ L h' news :=
  ⟨⟨F.ns, fun b o e => F.keep b o (H.keep b o e), Nat.le_trans H.size F.above⟩, fun p hp => ⟨F.keep _ _ (H.news p hp).1, Nat.ne_of_lt (Nat.lt_of_lt_of_le (Heap.lt_size (H.news p hp).1) F.above), (H.news p hp).2⟩⟩
theorem At.leave (F : Fr h₀ L h m) (N : News h₀ L h news) : At h₀ h news :=
  ⟨F.keep, Nat.le_trans F.above (Nat.le_of_lt F.ns.lt), fun p hp => ⟨(N p hp).1, (N p hp).2.2⟩⟩
theorem lend (F : Fr h₀ L h m) (N : News h₀ L h news) (hs : ∀ p ∈ lent, p ∈ news) :
    At (hideAll h (lent.map (·.1))) h lent ∧ ∀ b o, h₀.get? b = some o → (hideAll h (lent.map (·.1))).get? b = some o := by
  refine ⟨⟨fun b o e => of_hideAll _ e, Nat.le_of_eq (hideAll_size _ _), fun p hp => ⟨(N p (hs p hp)).1, hideAll_none _ (List.mem_map_of_mem hp)⟩⟩, fun b o e => hideAll_get _ (F.keep b o e) fun hb => ?_⟩
  obtain ⟨p, hp, rfl⟩ := List.mem_map.mp hb
  rw [(N p (hs p hp)).2.2] at e; cases e
theorem back {h' : Heap} {news' : List (Addr × Obj)} (F : Fr h₀ L h m) (N : News h₀ L h news) (hs : ∀ p ∈ lent, p ∈ news) (hr : ∀ p ∈ rest, p ∈ news) (hne : ∀ p ∈ rest, ∀ q ∈ lent, p.1 ≠ q.1) (H : At (hideAll h (lent.map (·.1))) h' news') :
    Fr h₀ L h' m ∧ News h₀ L h' (news' ++ rest) := by
  have keep : ∀ b o, h.get? b = some o → b ∉ lent.map (·.1) → h'.get? b = some o := fun b o e hb => H.keep b o (hideAll_get _ e hb)
  have hL : L ∉ lent.map (·.1) := fun hb => by
    obtain ⟨p, hp, e⟩ := List.mem_map.mp hb
    exact (N p (hs p hp)).2.1 e
  have h0 : ∀ b o, h₀.get? b = some o → b ∉ lent.map (·.1) := fun b o e hb => by
    obtain ⟨p, hp, rfl⟩ := List.mem_map.mp hb
    rw [(N p (hs p hp)).2.2] at e; cases e
  obtain ⟨oL, a1, a2, hLo, a3⟩ := F.ns
  refine ⟨⟨⟨oL, a1, a2, keep _ _ hLo hL, a3⟩, fun b o e => keep b o (F.keep b o e) (h0 b o e), F.above⟩, fun p hp => ?_⟩
  rcases List.mem_append.mp hp with hp | hp
  · obtain ⟨g1, g2⟩ := H.news p hp
    refine ⟨g1, fun e => ?_, ?_⟩
    · rw [e, hideAll_get _ hLo hL] at g2; cases g2
    · cases q : h₀.get? p.1 with
      | none => rfl
      | some o => rw [hideAll_get _ (F.keep _ _ q) (h0 _ _ q)] at g2; cases g2
  · refine ⟨keep _ _ (N p (hr p hp)).1 (fun hb => ?_), (N p (hr p hp)).2⟩
    obtain ⟨q, hq, e⟩ := List.mem_map.mp hb
    exact hne p hp q hq e.symm
end

theorem enter_defAt {prog : Program} {w : World} {A : Around} {s : Shared} {K : Frag} {R : Result → Shared → Prop} {name qual : Str} {params : Arguments} {body : List Stmt} {scope : Scope} {dV kV doc pm cdv ct oc : Value}
    {an od : Option Addr} {osl : Array (Option Value)} {f cc : Addr} {args : Args} {binds : List (Str × Value)}
    (X : K.In s.heap) (hlim : s.heap.NoLimit)
    (ho : K.lookup f = some ⟨oc, od, .func (ksFn name qual params body scope dV kV doc pm an cdv ct cc), osl⟩) (hcd : codeIn K cdv qual = true) (hroom : A.depth < recursionLimit)
    (hbind : BindsTo s (ksFn name qual params body scope dV kV doc pm an cdv ct cc) args binds) (hloc : ∀ y ∈ binds, scope.names.lookup y.1 = some .local)
    (h : ∀ L h₁, Fr s.heap L h₁ (fun y => binds.reverse.lookup y) → L = s.heap.objs.size →
      _root_.PySem.wpAt (model prog w) (A.deeper (ksEnv qual scope L f cdv cc)) (.func body (ksEnv qual scope L f cdv cc)) (execs body (ksEnv qual scope L f cdv cc))
        (fun fl s' => R (.ok (.ret (match fl with | .ret v => v | _ => .none))) s')
        (fun e s' => wpAny (model prog w) (A.deeper (ksEnv qual scope L f cdv cc)) (leaving (ksEnv qual scope L f cdv cc) e) (fun _ s'' => R (.error e) s'') (fun e' s'' => R (.error e') s'') s')
        { s with heap := h₁, toks := s.toks + binds.length })
    (hcell : ∀ x ∈ scope.names, x.2 ≠ .cell) (hco : scope.isCoroutine = false) (hgen : scope.isGenerator = false) (hk : scope.kind = .function) : codeAny (model prog w) A (.call (.ref f) args) R s := by
  refine ks_codeAny_call_defAt (fd := ksFn name qual params body scope dV kV doc pm an cdv ct cc) (body := body) (binds := binds) hroom (X _ _ ho) rfl hlim (codeRec_of X hcd) rfl hbind hcell hloc (fun h₁ hns hk₁ => ?_) hco hgen hk
  exact h s.heap.objs.size h₁ ⟨hns, hk₁, Nat.le_refl _⟩ rfl

section
variable {prog : Program} {w : World} {A : Around} {E : Value → Shared → Prop} {s : Shared} {h₀ : Heap} {L : Addr} {m mg mb : Str → Option Value} {news : List (Addr × Obj)} {K : Frag} {loose : List Str} {x C D f cc cda so : Addr} {ox : Obj} {odx : Option Obj} {V : Program}
theorem node_super {body : List Stmt} {q : Str} {scope : Scope} {p0 p1 : Pos} {attr : Str} {whole : Sem Value} {fd : FuncData} {ar : Arg} {vs : Array Value} {file : Str} {tf : Tok} {oc ccl cl : Value} {od cdd cld : Option Addr} {osl ccs csl : Array (Option Value)} {cdD : ClassData} {Q : Value → Shared → Prop}
    (F : Fr h₀ L s.heap m) (X₀ : K.In h₀) (N : News h₀ L s.heap news) (T : TopRead V loose mg mb h₀)
    (hf : K.lookup f = some ⟨oc, od, .func fd, osl⟩) (hp : (fd.params.posonlyargs ++ fd.params.args).head? = some ar) (hv : m ar.arg = some (.ref x)) (I : InstAt s.heap x ox C odx)
    (hcode : K.lookup cda = some ⟨ccl, cdd, .fields vs, ccs⟩) (hvs : vs[2]? = some (.str file tf)) (hfile : ((prog.main.file : Str) == file) = true)
    (hcell : K.lookup cc = some ⟨cl, cld, .cell (some (.ref D)), csl⟩) (hD : clsIn K D = some cdD) (hsub : mroIn K C (.ref D) = some true) (hsuper : nsIn K mainGlobals "super" = some none)
    (hat : (attr == ("__class__" : Str)) = false) (hks : scope.names.lookup ("super" : Str) = some .globalImplicit) (hkc : scope.names.lookup ("__class__" : Str) = some .free) (hka : scope.names.lookup ar.arg = some .local) (hk : scope.kind = .function)
    (htop : (prog.main.scope.names.lookup ("super" : Str)).isSome = false) (hboot : bootBuiltins "super" = some (.type "super"))
    (h : ∀ so h', Fr h₀ L h' m → News h₀ L h' ((so, ks_superObj D x C) :: news) → (∀ p ∈ news, p.1 < so) → Q (.ref so) { s with heap := h' }) :
    _root_.PySem.wpAt (model prog w) A (.func body (ksEnv q scope L f (.ref cda) cc)) (attributeBase (.Call (.Name "super" p0) [] [] p1) attr (ksEnv q scope L f (.ref cda) cc) whole) Q E s := by
  have X : K.In s.heap := X₀.keeps F.keep
  obtain ⟨hh, g, d, t, os⟩ := s
  obtain ⟨oD, hD1, hD2⟩ : ∃ oD, hh.get? D = some oD ∧ oD.data = .cls cdD := by
    unfold clsIn at hD
    revert hD
    rcases ho : K.lookup D with _ | ⟨c, d, dat, sl⟩
    · exact fun hD => (Option.some_ne_none _ hD.symm).elim
    · cases dat <;> intro hD <;> first | exact ⟨_, X _ _ ho, congrArg Data.cls (Option.some.inj hD)⟩ | exact (Option.some_ne_none _ hD.symm).elim
  refine ks_wpAt_super_base (env := ksEnv q scope L f (.ref cda) cc) hks hkc hat rfl (X _ _ hf) rfl hp rfl (X _ _ hcode) rfl hvs hfile htop ?_
  refine ks_loadName_global hk hks (loadGlobal_builtin (env := ksEnv q scope L f (.ref cda) cc) (T.g.keeps F.keep) (mg_none_of X₀ T.g hsuper) (T.b.keeps F.keep) ((T.builtins _ (by decide +kernel)).trans hboot) ⟨rfl, ?_⟩)
  refine wpAny_loadName_free hk hkc rfl ⟨_, X _ _ hcell, rfl⟩ ?_
  refine wpAny_loadName_local hk hka F.ns hv ?_
  refine ks_wpAny_isType_cls hD1 hD2 ⟨rfl, ?_⟩
  refine ks_wpAny_call_super hD1 hD2 I.at_ I.cls (fun c e => ?_) (looks_mroIn X hsub) (fun h' e k => ?_)
  · have := I.no
    unfold notCls at this
    rw [e] at this
    exact Bool.noConfusion this
  · obtain ⟨F', N', l'⟩ := ks_newsPush (s := ⟨hh, g, d, t, os⟩) F N rfl e k
    exact h _ _ F' N' l'
end

end
section
open PySem PySem.W PyProof.Rows PySem.Calls
example : True := by
  w_top off
  trivial
set_option maxRecDepth 100000
set_option maxHeartbeats 1000000

section
variable {prog : Program} {w : World} {A : Around} {E : Value → Shared → Prop} {s : Shared} {K : Frag} {x C q : Addr} {ox : Obj} {od : Option Obj} {env : Env} {pos : Pos}

theorem keeps_bound {M : Model} {T id : String} (hT : T = "builtin_function_or_method" ∨ T = "method-wrapper") (h : Heap) (H : h.get? q = some (boundObj T id x)) :
    ∃ k, (k = Keeper.frame ∨ k = Keeper.machine ∨ k = Keeper.boundFrame) ∧ Looks M h (keeperOf (.ref q)) k := by
  refine ⟨.machine, .inr (.inl rfl), (Looks.ld (part := none) H).andThen ?_⟩
  rcases hT with rfl | rfl
  · exact .now
  · exact .now

theorem bound_call {T id : String} {B : Builtin} {Q : Value → Shared → Prop} (hq : s.heap.get? q = some (boundObj T id x)) (hT : T = "builtin_function_or_method" ∨ T = "method-wrapper") (plain : plainId id = true) (entry : entryFor table id = some B)
    (hcheck : ∀ (A : Around) (E : Value → Shared → Prop) (Q : Unit → Shared → Prop), Q () s → wpAny (model prog w) A (checkBoundCall id ⟨[.ref x], []⟩) Q E s)
    (h : wpAny (model prog w) A.in1 (B ⟨[.ref x], []⟩) (fun fin s' => ∃ v, fin = .done (.ret v) ∧ Q v s') E s) :
    wpAny (model prog w) A (callWith pos (.ref q) [] (backTo pos (starEach [] env)) []) Q E s := by
  refine callWith_of (P := fun h => h.get? q = some (boundObj T id x)) rfl (keeps_bound hT) (evalArgs_nil3 ⟨hq, ?_⟩)
  refine wpAny_call (codeAny_of_tree ?_)
  show wpAny _ A.in1 (callAny (.ref q) ⟨[], []⟩) _ _ _
  unfold callAny
  refine wpAny_bind (wpAny_load hq ?_)
  have hc : ((({ cls := .type T, data := .fields #[.builtin id, .ref x] } : Obj).cls == .type "method") || (({ cls := .type T, data := .fields #[.builtin id, .ref x] } : Obj).cls == .type "builtin_function_or_method") || (({ cls := .type T, data := .fields #[.builtin id, .ref x] } : Obj).cls == .type "method-wrapper")) = true := by
    rcases hT with rfl | rfl <;> (dsimp only; decide +kernel)
  have hc2 : (({ cls := .type T, data := .fields #[.builtin id, .ref x] } : Obj).cls != .type "method") = true := by
    rcases hT with rfl | rfl <;> (dsimp only; decide +kernel)
  show wpAny _ _ (if _ then _ else _) _ _ _
  rw [if_pos hc]
  show wpAny _ _ (if _ then _ else _) _ _ _
  rw [if_pos hc2]
  refine wpAny_bind (hcheck _ _ _ ?_)
  refine wpAny_pure ⟨plainId_quiet plain _, codeAny_builtin entry ?_⟩
  rw [Around.under_plainId plain _]
  exact wpAny_mono h (fun fin s' z => by obtain ⟨v, rfl, hv⟩ := z; exact hv) fun _ _ z => z

theorem check_slot {id : String} (hid : id = "list.__init__" ∨ id = "list.__len__") {Q : Unit → Shared → Prop} (h : Q () s) : wpAny (model prog w) A (checkBoundCall id ⟨[.ref x], []⟩) Q E s := by
  rcases hid with rfl | rfl
  · exact wpAny_of_eq (by kernel_rfl) h
  · exact wpAny_of_eq (by kernel_rfl) h
end

theorem sig_pop : (Manifest.signature? "list.pop").isSome = true := by decide +kernel
section
variable {prog : Program} {w : World} {A : Around} {E : Value → Shared → Prop} {s : Shared} {K : Frag} {x C : Addr} {ox : Obj} {od : Option Obj}
theorem check_pop {cd : ClassData} {Q : Unit → Shared → Prop} (X : K.In s.heap) (I : InstAt s.heap x ox C od) (hm : mroIn K C (.type "module") = some false) (hc : clsIn K C = some cd) (ht : typeIn K (.ref C) = some (.type "type"))
    (hchk : (match Manifest.signature? "list.pop" with | some sig => Bind.checkArgs "list.pop" { sig with full := s!"{cd.qualname.toString}.{Bind.lastOf "list.pop"}" } ⟨[.ref x], []⟩ | none => pure ()) = pure ()) (h : Q () s) :
    wpAny (model prog w) A (checkBoundCall "list.pop" ⟨[.ref x], []⟩) Q E s := by
  unfold checkBoundCall
  obtain ⟨sig, hsig⟩ := Option.isSome_iff_exists.mp sig_pop
  rw [hsig] at hchk ⊢
  dsimp only at hchk ⊢
  rw [show builtinKind "list.pop" = some .method by decide +kernel]
  dsimp only
  refine wpAny_ite_false (by decide +kernel) ?_
  refine wpAny_bind (sub_isInstance X I hm ?_)
  refine wpAny_ite_false (by decide +kernel) ?_
  obtain ⟨hh, gg, dd, tt, os⟩ := s
  refine wpAny_bind (ks_wpAny_isType_inst I.at_ (fun c e => ?_) ?_)
  · have := I.no
    unfold notCls at this
    rw [e] at this
    exact Bool.noConfusion this
  refine wpAny_ite_false (by simp) ?_
  refine wpAny_bind (I.type.here ?_)
  refine wpAny_bind ((looks_clsIn X hc).here ?_)
  refine wpAny_bind ((looks_typeIn X ht).here ?_)
  refine wpAny_ite_true (by decide +kernel) ?_
  exact wpAny_of_eq hchk h
end
theorem entry_linit : entryFor table "list.__init__" = some Builtin.«list.__init__» := entryFor_of_tree (by kernel_rfl)
theorem entry_llen : entryFor table "list.__len__" = some Builtin.«list.__len__» := entryFor_of_tree (by kernel_rfl)
theorem entry_liter : entryFor table "list.__iter__" = some Builtin.«list.__iter__» := entryFor_of_tree (by kernel_rfl)
theorem entry_lpop : entryFor table "list.pop" = some Builtin.«list.pop» := entryFor_of_tree (by kernel_rfl)
theorem entry_lappend : entryFor table "list.append" = some Builtin.«list.append» := entryFor_of_tree (by kernel_rfl)
theorem entry_lget : entryFor table "list.__getitem__" = some Builtin.«list.__getitem__» := entryFor_of_tree (by kernel_rfl)
theorem entry_lset : entryFor table "list.__setitem__" = some Builtin.«list.__setitem__» := entryFor_of_tree (by kernel_rfl)

end
section
open PySem PySem.W PyProof.Rows PySem.Calls PySem.Builtin PySem.Builtin.ObjectAttr
example : True := by
  w_top off
  trivial
set_option maxRecDepth 100000
set_option maxHeartbeats 1000000

noncomputable abbrev sizeS : Str := Str.ofString "_initial_size"
noncomputable abbrev daEs (w : World) (t u : Tok) : List DictEntry := [⟨PyData.keyHash w.params sizeS, .str sizeS t, .int 0 u⟩]

theorem refuse_list (self : Value) : refuseLoop self "__setattr__" [.type "list", .type "object"] = pure () := by kernel_rfl
theorem sub_ga : SubSlot "list.__getattribute__" "list" "__getattribute__" := ⟨by decide +kernel, .inl (by decide +kernel), by decide +kernel⟩
theorem lga_bind (self : Value) : bindSpecial (.builtin "list.__getattribute__") self = pure (.builtin "list.__getattribute__", [self]) := PySem.F.slot_list_getattribute.bind self

section
variable {prog : Program} {w : World} {A : Around} {E : Value → Shared → Prop} {s : Shared} {K : Frag} {x C dx : Addr} {ox : Obj} {n nd n' : Nat} {es es' : List DictEntry} {h₀ : Heap} {L : Addr} {m : Str → Option Value} {news news' : List (Addr × Obj)} {name : Str}

theorem method_seq {f : Value} {T : String} {pl : Sem Bool} {Q : Value × List Value → Shared → Prop} (F : Fr h₀ L s.heap m) (X₀ : K.In h₀) (I : InstAt s.heap x ox C (some (dictOf es nd)))
    (hga : findIn K (.ref C) "__getattribute__" = some (some (.builtin "list.__getattribute__"))) (hk : findIn K (.ref C) "__getattr__" = some none)
    (hf : findIn K (.ref C) name = some (some f)) (ht : Looks (model prog w) s.heap (typeOf f) (.type T)) (hT : (T == "function" || T == "method_descriptor") = true) (hl : getL name es = some none) (h : Q (f, [.ref x]) s) :
    wpAny (model prog w) A (getMethod (.ref x) name pl) Q E s := by
  have X := X₀.keeps F.keep
  have hcan := PySem.canon_list_getattribute
  unfold getMethod specialOf
  refine wpAny_bind (wpAny_bind (I.type.here ((looks_findIn X hga).here ?_)))
  dsimp only
  rw [hcan, if_neg (by decide)]
  refine wpAny_bind (wpAny_bind (I.type.here ((looks_findIn X hk).here ?_)))
  refine wpAny_bind (wpAny_bind (I.type.here ((looks_findIn X hf).here (wpAny_bind (ht.here ?_)))))
  have hT' : ¬ ((Value.type T != .type "function" && Value.type T != .type "method_descriptor" && Value.type T != .type "wrapper_descriptor") = true) := by
    rcases Bool.or_eq_true_iff.mp hT with e | e <;> (rw [beq_iff_eq.mp e]; decide +kernel)
  rw [if_neg hT']
  refine wpAny_bind (wpAny_loadPart I.at_ ?_)
  have hd := I.dict
  cases e : ox.dict with
  | none => exact wpAny_bind (wpAny_rule (wpAny_pure h))
  | some dx =>
    rw [e] at hd
    refine wpAny_bind (wpAny_bind (wpAny_loadPart hd ?_))
    rw [nsLook_of (show lookIn name (dictOf es nd) = some none from hl)]
    exact wpAny_pure (wpAny_bind (wpAny_rule (wpAny_pure h)))
theorem method_seq_fn {f : Addr} {pl : Sem Bool} {Q : Value × List Value → Shared → Prop} (F : Fr h₀ L s.heap m) (X₀ : K.In h₀) (I : InstAt s.heap x ox C (some (dictOf es nd)))
    (hga : findIn K (.ref C) "__getattribute__" = some (some (.builtin "list.__getattribute__"))) (hk : findIn K (.ref C) "__getattr__" = some none)
    (hf : findIn K (.ref C) name = some (some (.ref f))) (ht : isFn K (.ref f) = true) (hl : getL name es = some none) (h : Q (.ref f, [.ref x]) s) :
    wpAny (model prog w) A (getMethod (.ref x) name pl) Q E s :=
  method_seq (T := "function") F X₀ I hga hk hf (looks_typeIn (X₀.keeps F.keep) (beq_iff_eq.mp ht)) rfl hl h
theorem method_seq_bi {id : String} {pl : Sem Bool} {Q : Value × List Value → Shared → Prop} (F : Fr h₀ L s.heap m) (X₀ : K.In h₀) (I : InstAt s.heap x ox C (some (dictOf es nd)))
    (hga : findIn K (.ref C) "__getattribute__" = some (some (.builtin "list.__getattribute__"))) (hk : findIn K (.ref C) "__getattr__" = some none)
    (hf : findIn K (.ref C) name = some (some (.builtin id))) (ht : typeOf (.builtin id) = pure (.type "method_descriptor")) (hl : getL name es = some none) (h : Q (.builtin id, [.ref x]) s) :
    wpAny (model prog w) A (getMethod (.ref x) name pl) Q E s :=
  method_seq (T := "method_descriptor") F X₀ I hga hk hf (Looks.of_pure ht) rfl hl h

theorem get_seq {expr : Bool} {v : Value} {attr : Option Value} {Q : Value → Shared → Prop} (F : Fr h₀ L s.heap m) (X₀ : K.In h₀) (I : InstAt s.heap x ox C (some (dictOf es nd)))
    (hga : findIn K (.ref C) "__getattribute__" = some (some (.builtin "list.__getattribute__"))) (hk : findIn K (.ref C) "__getattr__" = some none) (hm : mroIn K C (.type "list") = some true)
    (hh : hasDictIn K C = true) (ha : findIn K (.ref C) name = some attr) (hn : noGet K attr = true) (hl : getL name es = some (some v)) (hv : handedIn v = true) (h : Q v { s with toks := s.toks + 1 }) :
    wpAny (model prog w) A (getAttr (.ref x) name expr) Q E s := by
  have X := X₀.keeps F.keep
  have hf := findObj_own (od := dictOf es nd) hh ha hn hl
  obtain ⟨hp, g, d, t, os⟩ := s
  have L0 := I.type (M := model prog w)
  have L1 := looks_findIn (M := model prog w) X hga
  have L2 := looks_findIn (M := model prog w) X hk
  have L3 := looks_find (M := model prog w) X I hf
  unfold getAttr getAttrBy
  refine wpAny_bind (wpAny_mkText (wpAny_holding (wpAny_bind (L0.at (wpAny_bind (L1.at ?_))))))
  show wpAny _ _ (getAttrByItsOwn _ _ _ _ _ _) _ _ _
  unfold getAttrByItsOwn hookBefore callGetattribute
  refine wpAny_bind (L2.at ?_)
  refine wpAny_bind (wpAny_attempt (wpAny_holding ?_))
  have e1 : (expr && onTheHeap (.builtin "list.__getattribute__")) = false := by cases expr <;> rfl
  rw [e1, if_neg Bool.false_ne_true]
  unfold boundAndCalled
  rw [lga_bind]
  refine wpAny_bind (wpAny_pure ?_)
  refine call_sub sub_ga X I hm PySem.F.entry_list_ga (PySem.F.args_list_getattribute_2 _ _) ?_
  unfold Builtin.«object.__getattribute__»
  refine wpAny_bind (wpAny_pure (wpAny_bind (wpAny_pure (wpAny_bind (L0.at (wpAny_bind (L3.at ?_)))))))
  refine wpAny_pure ⟨_, rfl, ?_⟩
  show wpAny _ _ (handedOut v) _ _ _
  rw [handedOut_of hv]
  exact wpAny_pure h

theorem set_seq {v : Value} {Q : Unit → Shared → Prop} (F : Fr h₀ L s.heap m) (X₀ : K.In h₀) (N : News h₀ L s.heap news) (I : InstAt s.heap x ox C (some (dictOf es nd))) (hd : ox.dict = some dx)
    (hs : findIn K (.ref C) "__setattr__" = some (some (.builtin "object.__setattr__"))) (hm : (clsIn K C).map (·.mro) = some [.ref C, .type "list", .type "object"]) (ht : takerIn K C name = some none) (hh : hasDictIn K C = true) (hl : (getL name es).isSome = true)
    (e : (putL name (PyData.keyHash w.params name) (.str name (s.toks + 1)) v es, putN name es nd) = (es', n')) (U : Upd dx (dictOf es nd) (dictOf es' n') news news') (hz : es'.length ≤ 1000)
    (h : ∀ h', Fr h₀ L h' m → News h₀ L h' news' → Q () { s with heap := h', toks := s.toks + 2 }) :
    wpAny (model prog w) A (setAttr (.ref x) name v) Q E s := by
  obtain ⟨pre, post, rfl, rfl, h1, h2⟩ := U.split
  obtain ⟨e1, e2⟩ := Prod.mk.inj e
  have X := X₀.keeps F.keep
  have X' : K.In { s with toks := s.toks + 1 }.heap := X
  have SF := PySem.F.store_object
  obtain ⟨cd, hc, hmro⟩ := Option.map_eq_some_iff.mp hm
  refine set_plain X I hs ?_
  have sub : Looks (model prog w) s.heap (isInstance (.ref x) (.type "object")) true := I.type.andThen (looks_mroIn X (by unfold mroIn; rw [hc, Option.bind_some, hmro]; rfl))
  refine codeAny_call_builtin SF.slot.plain SF.entry (@PySem.W.check_slot (model prog w) _ _ { s with toks := s.toks + 1 } "object.__setattr__" "object" "__setattr__" (.ref x) [.str name s.toks, v] [] _ SF.kind SF.split sub (SF.args (.ref x) (.str name s.toks) v) ?_)
  obtain ⟨attr, ha, hr⟩ := Option.bind_eq_some_iff.mp ht
  have hmo : Looks (model prog w) s.heap (mroOf (.ref C)) cd.mro := (looks_clsIn X hc).andThen .now
  have L3 : Looks (model prog w) s.heap (storeTaker? attr) none := by
    cases attr with
    | none => cases hr; exact .now
    | some a =>
      obtain ⟨b, hb, hbb⟩ := Option.map_eq_some_iff.mp hr
      refine (looks_takesIn X hb).andThen ?_
      cases b with
      | true => cases hbb
      | false => exact .now
  rw [osa_eq, refuse_eq]
  have L0 := I.type (M := model prog w)
  have L1 := looks_findIn (M := model prog w) X ha
  have L4 := looks_clsIn (M := model prog w) X hc
  obtain ⟨hp, gg, dd, tt, os⟩ := s
  refine wpAny_bind (wpAny_bind (L0.at (wpAny_bind (hmo.at ?_))))
  rw [hmro, refuseLoop_ref, refuse_list]
  refine wpAny_pure (wpAny_bind (L0.at (wpAny_bind (L1.at (wpAny_bind (L3.at ?_))))))
  have ep : Obj.putName name (PyData.keyHash w.params name) (.str name (tt + 1)) v (dictOf es nd) = dictOf es' n' := by rw [putName_dict, e1, e2]
  obtain ⟨U1, U2⟩ := news_upd (f := Obj.putName name (PyData.keyHash w.params name) (.str name (tt + 1)) v) F N h1 h2 ep rfl
  have D := (N (dx, dictOf es nd) (by simp)).1
  have D' := (U2 (dx, dictOf es' n') (by simp)).1
  obtain ⟨hx, hcl, hn, -⟩ := I
  obtain ⟨oc, odi, oda, osl⟩ := ox
  dsimp only at hcl hd
  subst hcl hd
  have hd' : cd.hasDict = true := by
    obtain ⟨cd', hc', q⟩ := any_some hh
    rw [hc] at hc'; cases hc'; exact q
  refine wpAny_bind (wpAny_pure (wpAny_bind (wpAny_bind (wpAny_loadPart hx (wpAny_bind (L4.at ?_))))))
  rw [hd']
  refine wpAny_pure (a := some dx) (wpAny_bind (wpAny_pure (wpAny_bind ?_)))
  unfold nsSet
  refine wpAny_bind (wpAny_bind (wpAny_askSetting (wpAny_pure (wpAny_bind (wpAny_mkText (wpAny_bind (wpAny_loadPart D ?_)))))))
  have c : (!es.toArray.any (·.key.isStr name) && es.toArray.any (·.refKey)) = false := by
    rw [← Array.any_toList, ← Array.any_toList]
    unfold getL at hl
    split at hl
    · rename_i en he
      rw [List.any_eq_true.mpr ⟨en, List.mem_of_find?_eq_some he, List.find?_some he⟩]; rfl
    · split at hl
      · cases hl
      · rename_i z; rw [Bool.not_eq_true] at z; rw [z, Bool.and_false]
  dsimp only
  rw [aRefKeyMayBeTheName_at, c]
  refine wpAny_updatePart D ?_
  refine wpAny_bind (wpAny_lookBehind D' (pastItsLine_dict (by rw [List.size_toArray, sizeLine_eq]; omega)) ?_)
  exact wpAny_pure (h _ U1 U2)

theorem append_seq {items : Array Value} {od : Obj} {v : Value} {Q : Value → Shared → Prop} (F : Fr h₀ L s.heap m) (X₀ : K.In h₀) (N : News h₀ L s.heap news) (I : InstAt s.heap x (seqObj C dx items n) C (some od)) (hm : mroIn K C (.type "list") = some true)
    (U : Upd x (seqObj C dx items n) (seqObj C dx (items.push v) (n + 1)) news news') (h : ∀ h', Fr h₀ L h' m → News h₀ L h' news' → Q .none { s with heap := h' }) (hsz : items.size ≤ sizeLine := by size_fits) :
    wpAny (model prog w) A (call (.builtin "list.append") [.ref x, v]) Q E s := by
  obtain ⟨pre, post, rfl, rfl, a, b⟩ := U.split
  have z := N (x, seqObj C dx items n) (List.mem_append.mpr (.inr (.head _)))
  have e : Obj.mapSeq (fun xs => xs.push v) (seqObj C dx items n) = seqObj C dx (items.push v) (n + 1) := by
    show ({ cls := .ref C, dict := some dx, data := .seq (items.push v) (if (items.push v).size == items.size then n else n + 1) } : Obj) = _
    simp
  have q := news_upd F N a b e rfl
  exact call_sub sub_append (X₀.keeps F.keep) I hm entry_lappend (by unfold argsOk; kernel_rfl) (b_append z.1 hsz ⟨_, rfl, h _ q.1 q.2⟩)
end

end
end
section
open PySem PySem.W PyProof.Rows PySem.Calls
set_option hygiene false
local macro_rules | `(tactic| k_inst) => `(tactic| (refine instSeq (by k_asm) (by k_mem) (by k_mem)))
set_option hygiene true
set_option hygiene false
local macro_rules | `(tactic| walk_at "getMethod ref") => `(tactic| (k_here; k_dflt (first
  | (refine method_seq_fn (by k_asm) (by k_asm) (by k_inst) (by k_is) (by k_is) (by k_is) (by k_is) (by k_get) ?_; k_whole)
  | (refine method_seq_bi (by k_asm) (by k_asm) (by k_inst) (by k_is) (by k_is) (by k_is) (type_append) (by k_get) ?_; k_whole))))
set_option hygiene true
local macro_rules | `(tactic| walk_at "call builtin:list.append") => `(tactic| (k_here; k_dflt (refine append_seq (by k_asm) (by k_asm) (by k_asm) (by k_inst) (by k_is) (by k_upd) ?_ (by size_fits); k_whole); intro h' F' N'; (try k_sweep)))
section
open PySem PySem.W PyProof.Rows
set_option hygiene false
local macro_rules | `(tactic| omega) => `(tactic| first | w_left | (refine Nat.ne_of_lt ?_; w_left) | (refine Nat.ne_of_gt ?_; w_left) | lia | fail "no chain")
set_option hygiene true
section
open PySem PySem.W PyProof.Rows PySem.Calls
example : True := by
  w_top off
  trivial
set_option maxRecDepth 100000
set_option maxHeartbeats 1000000

theorem c_push {w : World} {mg mb : Str → Option Value} {A : Around} {s : Shared} {h₀ : Heap} {Q E : Value → Shared → Prop} {a d : Addr} {items : Array Value} {n : Nat} {t u : Tok} {fws str : Str} {t1 t2 : Tok}
    (C : Cx w mg mb h₀) (H : At h₀ s.heap [(a, accObj d items n), (d, dictOf (daEs w t u) 1)]) (hda : @LT.lt Nat _ d a) (hroom : A.depth < recursionLimit) (hz : items.size ≤ 100)
    (hQ : ∀ T s', At h₀ s'.heap [(T, { cls := .type "tuple", data := .seq #[.str fws t1, .str str t2] }), (a, accObj d (items.push (.ref T)) (n + 1)), (d, dictOf (daEs w t u) 1)] → (a : Nat) < T → s'.os = s.os → s'.gens = s.gens → Q .none s') :
    wpAny (model PR w) A (call (.ref 122) [.ref a, .str fws t1, .str str t2]) Q E s := by
  obtain ⟨X, T⟩ := C
  refine wpAny_call ?_
  have Xs := X.keeps H.keep
  have Ts := T.keeps H.keep
  k_dflt (refine' enter_def (binds := [(Str.ofString "self", .ref a), (Str.ofString "fws", .str fws t1), (Str.ofString "string", .str str t2)]) ?k1 ?k2 ?k3 ?k4 ?k5 ?k6 ?k7 ?_ ?c1 ?c2 ?c3 ?c4; (case k1 => exact Xs); (case k2 => exact Ts.nolimit); (case k3 => k_is); (case k4 => k_is); (case k5 => exact hroom); (case k6 => exact BindsTo.of_eq rfl); (case k7 => exact locs rfl); (case c1 => exact rfl); (case c2 => exact rfl); (case c3 => exact rfl); (case c4 => decide))
  intro L h₁ F₀ hL
  obtain ⟨F, N⟩ := H.enter F₀
  clear F₀ Xs Ts
  (try dsimp only)
  (try k_fold)
  k_steps
  rename Fr _ _ _ _ => F9
  rename News _ _ _ _ => N9
  rename _ ∧ _ => l9
  exact hQ _ _ (At.leave F9 N9) l9.1 rfl rfl

end
section
open PySem PySem.W PyProof.Rows PySem.Calls
example : True := by
  w_top off
  trivial
set_option maxRecDepth 100000
set_option maxHeartbeats 1000000

section
variable {prog : Program} {w : World} {A : Around} {E : Value → Shared → Prop} {s : Shared} {K : Frag} {x C D so q : Addr} {ox : Obj} {odx od : Option Obj} {dx : Addr} {items : Array Value} {n n' : Nat} {h₀ : Heap} {L : Addr} {m : Str → Option Value} {news news' : List (Addr × Obj)} {name : Str} {pos : Pos} {env : Env}

theorem super_pop {pl : Sem Bool} {Q : Value × List Value → Shared → Prop} (F : Fr h₀ L s.heap m) (X₀ : K.In h₀) (N : News h₀ L s.heap news) (hso : (so, ks_superObj D x C) ∈ news) (I : InstAt s.heap x ox C od) (ho : nsIn K cStatics "thirdparty.any" = some none)
    (hm : ks_superIn K C D name = some (some (.builtin "list.pop"))) (hl : mroIn K C (.type "list") = some true) (hn : (name == ("__class__" : Str)) = false)
    (h : ∀ q h', Fr h₀ L h' m → News h₀ L h' ((q, boundObj "builtin_function_or_method" "list.pop" x) :: news) → (∀ p ∈ news, p.1 < q) → Q (.ref q, []) { s with heap := h', toks := s.toks + 1 }) : wpAny (model prog w) A (getMethod (.ref so) name pl) Q E s := by
  have X : K.In s.heap := X₀.keeps F.keep
  obtain ⟨hh, g, d, t, os⟩ := s
  cases hc : clsIn K C with
  | none => unfold ks_superIn at hm; rw [hc] at hm; cases hm
  | some cd =>
    unfold ks_superIn at hm
    rw [hc] at hm
    refine getMethod_super (o := boundObj "builtin_function_or_method" "list.pop" x) (N _ hso).1 (looks_opaque X ho) (l₀ := cd.mro) ?_ rfl X hm type_pop slot_md_get entry_md_get (args_md_get _ _ _) (ks_ne X I hc) hn (fun A E Q t' z => ?_) ?_
    · exact fun A Q E s k q => wpAny_bind ((looks_clsIn X hc) A _ E s k (wpAny_pure q))
    · exact run_get_pop (s := ⟨hh, g, d, t', os⟩) X I hl z
    · obtain ⟨F', N', l'⟩ := ks_newsPush (s := ⟨hh, g, d, t, os⟩) (o := boundObj "builtin_function_or_method" "list.pop" x) F N rfl (Heap.get?_push_at rfl rfl) (fun b o e => Heap.get?_push_of_some _ e)
      exact h _ _ F' N' l'
theorem super_slot {id : String} {pl : Sem Bool} {Q : Value × List Value → Shared → Prop} (F : Fr h₀ L s.heap m) (X₀ : K.In h₀) (N : News h₀ L s.heap news) (hso : (so, ks_superObj D x C) ∈ news) (I : InstAt s.heap x ox C od) (ho : nsIn K cStatics "thirdparty.any" = some none)
    (hm : ks_superIn K C D name = some (some (.builtin id))) (hid : id = "list.__init__" ∨ id = "list.__len__") (hl : mroIn K C (.type "list") = some true) (hn : (name == ("__class__" : Str)) = false)
    (h : ∀ q h', Fr h₀ L h' m → News h₀ L h' ((q, boundObj "method-wrapper" id x) :: news) → (∀ p ∈ news, p.1 < q) → Q (.ref q, []) { s with heap := h', toks := s.toks + 1 }) : wpAny (model prog w) A (getMethod (.ref so) name pl) Q E s := by
  have X : K.In s.heap := X₀.keeps F.keep
  have hT : typeOf (.builtin id) = pure (.type "wrapper_descriptor") := by
    rcases hid with rfl | rfl
    · exact type_linit
    · exact type_llen
  obtain ⟨hh, g, d, t, os⟩ := s
  cases hc : clsIn K C with
  | none => unfold ks_superIn at hm; rw [hc] at hm; cases hm
  | some cd =>
    unfold ks_superIn at hm
    rw [hc] at hm
    refine getMethod_super (o := boundObj "method-wrapper" id x) (N _ hso).1 (looks_opaque X ho) (l₀ := cd.mro) ?_ rfl X hm hT slot_wd_get entry_wd_get (args_wd_get _ _ _) (ks_ne X I hc) hn (fun A E Q t' z => ?_) ?_
    · exact fun A Q E s k q => wpAny_bind ((looks_clsIn X hc) A _ E s k (wpAny_pure q))
    · exact run_get_slot (n := "") (s := ⟨hh, g, d, t', os⟩) X I hl hid z
    · obtain ⟨F', N', l'⟩ := ks_newsPush (s := ⟨hh, g, d, t, os⟩) (o := boundObj "method-wrapper" id x) F N rfl (Heap.get?_push_at rfl rfl) (fun b o e => Heap.get?_push_of_some _ e)
      exact h _ _ F' N' l'

theorem bound_len {Q : Value → Shared → Prop} (N : News h₀ L s.heap news) (hq : (q, boundObj "method-wrapper" "list.__len__" x) ∈ news) (hx : (x, seqObj C dx items n) ∈ news) (h : ∀ t k, Q (.int items.size t) { s with toks := k }) :
    wpAny (model prog w) A (callWith pos (.ref q) [] (backTo pos (starEach [] env)) []) Q E s :=
  bound_call (N _ hq).1 (.inr rfl) sub_len.plain entry_llen (fun _ _ _ z => Mine.check_slot (.inr rfl) z) (b_len (N _ hx).1 fun t k => ⟨_, rfl, h t k⟩)
theorem bound_init {Q : Value → Shared → Prop} (F : Fr h₀ L s.heap m) (N : News h₀ L s.heap news) (hq : (q, boundObj "method-wrapper" "list.__init__" x) ∈ news) (U : Upd x (seqObj C dx #[] n) (seqObj C dx #[] n) news news)
    (h : ∀ h', Fr h₀ L h' m → News h₀ L h' news → Q .none { s with heap := h' }) :
    wpAny (model prog w) A (callWith pos (.ref q) [] (backTo pos (starEach [] env)) []) Q E s := by
  obtain ⟨pre, post, e1, e2, a, b⟩ := U.split
  have z := N (x, seqObj C dx #[] n) (by rw [e1]; exact List.mem_append.mpr (.inr (.head _)))
  rw [e1] at N h
  have e : Obj.mapSeq (fun _ => #[]) (seqObj C dx #[] n) = seqObj C dx #[] n := rfl
  have w' := news_upd F N a b e rfl
  exact bound_call (N _ (by rw [← e1]; exact hq)).1 (.inr rfl) sub_init.plain entry_linit (fun _ _ _ z => Mine.check_slot (.inl rfl) z) (b_init z.1 ⟨_, rfl, h _ w'.1 w'.2⟩)
theorem bound_pop {cd : ClassData} {init : List Value} {y : Value} {Q : Value → Shared → Prop} (F : Fr h₀ L s.heap m) (X₀ : K.In h₀) (N : News h₀ L s.heap news) (I : InstAt s.heap x ox C od) (hq : (q, boundObj "builtin_function_or_method" "list.pop" x) ∈ news)
    (hm : mroIn K C (.type "module") = some false) (hc : clsIn K C = some cd) (ht : typeIn K (.ref C) = some (.type "type"))
    (hchk : (match Manifest.signature? "list.pop" with | some sig => Bind.checkArgs "list.pop" { sig with full := s!"{cd.qualname.toString}.{Bind.lastOf "list.pop"}" } ⟨[.ref x], []⟩ | none => pure ()) = pure ())
    (U : Upd x (seqObj C dx (init ++ [y]).toArray n) (seqObj C dx init.toArray (n + 1)) news news') (hsz : (init ++ [y]).toArray.size ≤ sizeLine) (h : ∀ h', Fr h₀ L h' m → News h₀ L h' news' → Q y { s with heap := h' }) :
    wpAny (model prog w) A (callWith pos (.ref q) [] (backTo pos (starEach [] env)) []) Q E s := by
  obtain ⟨pre, post, rfl, rfl, a, b⟩ := U.split
  have z := N (x, seqObj C dx (init ++ [y]).toArray n) (List.mem_append.mpr (.inr (.head _)))
  have e : Obj.mapSeq (fun xs => xs.eraseIdxIfInBounds ((init ++ [y]).toArray.size - 1)) (seqObj C dx (init ++ [y]).toArray n) = seqObj C dx init.toArray (n + 1) := by
    show ({ cls := .ref C, dict := some dx, data := .seq ((init ++ [y]).toArray.eraseIdxIfInBounds ((init ++ [y]).toArray.size - 1)) (if ((init ++ [y]).toArray.eraseIdxIfInBounds ((init ++ [y]).toArray.size - 1)).size == (init ++ [y]).toArray.size then n else n + 1) } : Obj) = _
    rw [erase_last]
    simp
  have w' := news_upd F N a b e rfl
  exact bound_call (N _ hq).1 (.inl rfl) sub_pop.plain entry_lpop (fun _ _ _ z => check_pop (X₀.keeps F.keep) I hm hc ht hchk z) (b_pop z.1 (by simp) hsz ⟨_, rfl, h _ w'.1 w'.2⟩)
end

end
section
open PySem PySem.W PyProof.Rows PySem.Calls
example : True := by
  w_top off
  trivial
set_option maxRecDepth 100000
set_option maxHeartbeats 1000000
local macro_rules | `(tactic| walk_at "getMethod ref") => `(tactic| (k_here; k_dflt (first
  | (refine super_slot (by k_asm) (by k_asm) (by k_asm) (by k_mem) (by k_inst) (by k_is) (by ks_is) (by first | exact .inl rfl | exact .inr rfl) (by k_is) (by decide) ?_; intro q' h' F' N' l1; (try k_lt l1))
  | (refine super_pop (by k_asm) (by k_asm) (by k_asm) (by k_mem) (by k_inst) (by k_is) (by ks_is) (by k_is) (by decide) ?_; intro q' h' F' N' l1; (try k_lt l1)))))
local macro_rules | `(tactic| walk_at "callWith ref") => `(tactic| (k_here; k_dflt (refine bound_len (by k_asm) (by k_mem) (by k_mem) ?_; intro t' k')))
local macro_rules | `(tactic| walk_at "callWith ref") => `(tactic| (k_here; k_dflt (refine bound_init (by k_asm) (by k_asm) (by k_mem) (by k_upd) ?_; intro h' F' N')))
local macro_rules | `(tactic| walk_at "wpAt") => `(tactic| (ks_step "attributeBase Call"; k_here; k_dflt (refine node_super (by k_asm) (by k_asm) (by k_asm) (by k_asm) (by k_is) (by rfl) (by rfl) (by k_inst) (by k_is) (by rfl) (by first | rfl | decide +kernel) (by k_is) (by k_is) (by k_is) (by k_is) (by decide) (by rfl) (by rfl) (by rfl) (by rfl) (by decide +kernel) (by first | boot_by_name | rfl | kernel_rfl) ?_; intro so' h' F' N' l1; (try k_lt l1))))

section
variable {M : Model} {A : Around} {c : Code} {E : Value → Shared → Prop} {s : Shared} {env : Env}
theorem if_rest {test : Expr} {body rest : List Stmt} {pos : Pos} {Q : Flow → Shared → Prop} (Mid : Shared → Prop) (h1 : wpAny M A (isTrue test env (eval test env)) (fun b s' => Reach (b = false ∧ Mid s')) E s)
    (h2 : ∀ s', Mid s' → _root_.PySem.wpAt M A c (execs rest env) Q E s') : _root_.PySem.wpAt M A c (execs (.If test body [] pos :: rest) env) Q E s := by
  refine ks_wpAt_execs_cons (ks_wpAt_If (wpAt_of_wpAny (wpAny_mono h1 (fun b s' z => ?_) fun _ _ z => z)))
  obtain ⟨⟨rfl, hm⟩⟩ := z
  rw [if_neg Bool.false_ne_true]
  exact wpAt_of_wpAny (wpAny_execs_nil (h2 s' hm))
end
theorem c_count {w : World} {mg mb : Str → Option Value} {A : Around} {s : Shared} {h₀ : Heap} {Q E : Value → Shared → Prop} {a d : Addr} {items : Array Value} {n : Nat} {t u : Tok}
    (C : Cx w mg mb h₀) (H : At h₀ s.heap [(a, accObj d items n), (d, dictOf (daEs w t u) 1)]) (hda : @LT.lt Nat _ d a) (hroom : A.depth < recursionLimit)
    (hQ : ∀ t' s', At h₀ s'.heap [(a, accObj d items n), (d, dictOf (daEs w t u) 1)] → s'.os = s.os → s'.gens = s.gens → Q (.int items.size t') s') :
    wpAny (model PR w) A (call (.ref 175) [.ref a]) Q E s := by
  obtain ⟨X, T⟩ := C
  refine wpAny_call ?_
  have Xs := X.keeps H.keep
  have Ts := T.keeps H.keep
  k_dflt (refine' enter_defAt (binds := [(Str.ofString "self", .ref a)]) ?k1 ?k2 ?k3 ?k4 ?k5 ?k6 ?k7 ?_ ?c1 ?c2 ?c3 ?c4; (case k1 => exact Xs); (case k2 => exact Ts.nolimit); (case k3 => k_is); (case k4 => k_is); (case k5 => exact hroom); (case k6 => exact BindsTo.of_eq rfl); (case k7 => exact locs rfl); (case c1 => decide); (case c2 => exact rfl); (case c3 => exact rfl); (case c4 => exact rfl))
  intro L h₁ F₀ hL
  obtain ⟨F, N⟩ := H.enter F₀
  clear F₀ Xs Ts
  (try dsimp only)
  (try k_fold)
  k_steps
  rename Fr _ _ _ _ => F9
  rename News _ _ _ _ => N9
  exact hQ _ _ (At.leave F9 fun p hp => N9 p (.tail _ (.tail _ hp))) rfl rfl

theorem c_pop {w : World} {mg mb : Str → Option Value} {A : Around} {s : Shared} {h₀ : Heap} {Q E : Value → Shared → Prop} {a d : Addr} {init : List Value} {y : Value} {n : Nat} {t u : Tok}
    (C : Cx w mg mb h₀) (H : At h₀ s.heap [(a, accObj d (init ++ [y]).toArray n), (d, dictOf (daEs w t u) 1)]) (hda : @LT.lt Nat _ d a) (hroom : A.depth + 5 < recursionLimit) (hz : init.length ≤ 100)
    (hQ : ∀ s', At h₀ s'.heap [(a, accObj d init.toArray (n + 1)), (d, dictOf (daEs w t u) 1)] → s'.os = s.os → s'.gens = s.gens → Q y s') :
    wpAny (model PR w) A (call (.ref 138) [.ref a]) Q E s := by
  have C' := C
  obtain ⟨X, T⟩ := C
  refine wpAny_call ?_
  have Xs := X.keeps H.keep
  have Ts := T.keeps H.keep
  k_dflt (refine' enter_defAt (binds := [(Str.ofString "self", .ref a)]) ?k1 ?k2 ?k3 ?k4 ?k5 ?k6 ?k7 ?_ ?c1 ?c2 ?c3 ?c4; (case k1 => exact Xs); (case k2 => exact Ts.nolimit); (case k3 => k_is); (case k4 => k_is); (case k5 => omega); (case k6 => exact BindsTo.of_eq rfl); (case k7 => exact locs rfl); (case c1 => decide); (case c2 => exact rfl); (case c3 => exact rfl); (case c4 => exact rfl))
  intro L h₁ F₀ hL
  obtain ⟨F, N⟩ := H.enter F₀
  clear F₀ Xs Ts
  (try dsimp only)
  (try k_fold)
  refine if_rest (fun s' => Fr h₀ L s'.heap (fun y => [(Str.ofString "self", Value.ref a)].reverse.lookup y) ∧ News h₀ L s'.heap [(a, accObj d (init ++ [y]).toArray n), (d, dictOf (daEs w t u) 1)] ∧ s'.os = s.os ∧ s'.gens = s.gens) ?_ ?_
  · k_steps
    obtain ⟨HA, hk⟩ := lend (lent := [(a, accObj d (init ++ [y]).toArray n), (d, dictOf (daEs w t u) 1)]) F N (by k_all)
    refine c_count (C'.keeps hk) HA hda (by show A.depth + 1 < recursionLimit; omega) fun t' s' HB hos hgs => ?_
    obtain ⟨F', N'⟩ := back (rest := []) F N (by k_all) (by k_all) (by k_all) HB
    simp only [List.cons_append, List.nil_append, List.append_nil] at N'
    clear F N HA hk HB
    k_steps
    refine Reach.mk ⟨?_, F', N', hos, hgs⟩
    simp
    omega
  · rintro s' ⟨F', N', hos, hgs⟩
    clear F N
    k_steps
    rename Fr _ _ _ _ => F9
    rename News _ _ _ _ => N9
    rename _ ∧ _ => l9
    k_dflt (refine' bound_pop ?k1 ?k2 ?k3 ?k4 ?k5 ?k6 ?k7 ?k8 ?k9 ?k10 ?k11 ?_; (case k1 => exact F9); (case k2 => k_asm); (case k3 => exact N9); (case k4 => k_inst); (case k5 => k_mem); (case k6 => k_is); (case k7 => k_is); (case k8 => k_is); (case k9 => kernel_rfl); (case k10 => k_upd); (case k11 => (rw [List.size_toArray, List.length_append, sizeLine_eq]; simp; omega)))
    intro h'' F'' N''
    exact hQ _ (At.leave F'' fun p hp => N'' p (.tail _ (.tail _ hp))) hos hgs

end
section
open PySem PySem.W PyProof.Rows PySem.Calls
example : True := by
  w_top off
  trivial
set_option maxRecDepth 100000
set_option maxHeartbeats 1000000

section
variable {prog : Program} {w : World} {A : Around} {E : Value → Shared → Prop} {s : Shared} {K : Frag} {x C dx : Addr} {ox : Obj} {od : Option Obj} {od' : Obj} {items new : Array Value} {n n' : Nat} {h₀ : Heap} {L : Addr} {m : Str → Option Value} {news news' : List (Addr × Obj)} {name : Str}

theorem special_sub {id : String} {args : List Value} {Q : Option Value → Shared → Prop} (X : K.In s.heap) (I : InstAt s.heap x ox C od) (hs : findIn K (.ref C) name = some (some (.builtin id))) (hb : bindSpecial (.builtin id) (.ref x) = pure (.builtin id, [.ref x]))
    (h : wpAny (model prog w) A (call (.builtin id) (.ref x :: args)) (fun v => Q (some v)) E s) : wpAny (model prog w) A (callSpecial? (.ref x) name args) Q E s := by
  refine wpAny_bind (wpAny_bind (I.type.here ((looks_findIn X hs).here (wpAny_holding ?_))))
  dsimp only
  rw [hb]
  exact wpAny_bind (wpAny_pure (wpAny_bind (wpAny_mono h (fun _ _ z => wpAny_pure z) fun _ _ z => z)))

theorem b_setslice {sl l : Addr} {vl vu : Value} {lo hi : Option Int} {Q : Fin → Shared → Prop} (hx : s.heap.get? x = some (seqObj C dx items n)) (hl : s.heap.IsList l new) (hne : (x == l) = false)
    (hs : s.heap.IsSliceOf sl vl vu .none) (pl : IsPart vl lo) (pu : IsPart vu hi) (hsz : items.size ≤ 1000) (hsn : new.size ≤ 1000)
    (h : Q (.done (.ret .none)) { s with heap := s.heap.update x (Obj.mapSeq fun xs => xs.extract 0 (sliceBounds lo hi none items.size).1.toNat ++ new ++ xs.extract (max (sliceBounds lo hi none items.size).1 (sliceBounds lo hi none items.size).2.1).toNat xs.size) }) :
    wpAny (model prog w) A (Builtin.«list.__setitem__» ⟨[.ref x, .ref sl, .ref l], []⟩) Q E s := by
  obtain ⟨ol, hol, hlc, nl, hld⟩ := id hl
  obtain ⟨os, hos, hcs, hds⟩ := id hs
  have hTs : s.TypeIs (.ref sl) "slice" := ⟨os, hos, hcs⟩
  have hTl : s.TypeIs (.ref l) "list" := ⟨ol, hol, hlc⟩
  unfold Builtin.«list.__setitem__»
  refine wpAny_bind (wpAny_of_eq (a := (.ref x, [.ref sl, .ref l])) (by rfl) ?_)
  dsimp only
  refine wpAny_bind ?_
  unfold Builtin.List.listSubscript?
  refine wpAny_bind (wpAny_specialOf hTs slice_no_index ?_)
  rw [Option.isNone_none, if_pos rfl]
  refine wpAny_pure ?_
  refine wpAny_bind (wpAny_typeOf hTs ?_)
  rw [if_neg (by decide)]
  rw [listSliceParts_eq]
  refine wpAny_bind (wpAny_bind (wpAny_field hos hds (x := .none) rfl (wpAny_bind (wpAny_listPart .none ?_))))
  rw [if_neg (show ¬ ((rawPart none == rawInt 0) = true) from Bool.false_ne_true)]
  refine wpAny_bind (wpAny_field hos hds (x := vl) rfl (wpAny_bind (wpAny_listPart pl ?_)))
  refine wpAny_bind (wpAny_field hos hds (x := vu) rfl (wpAny_bind (wpAny_listPart pu (wpAny_pure ?_))))
  dsimp only
  rw [if_neg (show ¬ (Builtin.List.listSameRef (.ref x) (.ref l) = true) by show ¬ ((x == l) = true); rw [hne]; exact Bool.false_ne_true)]
  refine wpAny_bind ?_
  unfold Builtin.List.listAllItems
  refine wpAny_bind (wpAny_typeOf hTl ?_)
  rw [if_pos (by decide)]
  unfold Builtin.List.listItems
  refine wpAny_bind (wpAny_seqItems hol hld (wpAny_pure ?_))
  refine wpAny_bind (wpAny_bind (wpAny_seqItems hx rfl (wpAny_pure ?_)))
  refine wpAny_bind (wpAny_of_eq (sliceIndices_raw lo hi none items.size (by simp)) ?_)
  have e1 : ((sliceBounds lo hi none items.size).2.2 == 1) = true := rfl
  rw [if_pos e1]
  refine wpAny_bind (wpAny_rule ?_)
  have e2 : ¬ (Builtin.List.listTooLong (items.size + new.size) = true) := by
    unfold Builtin.List.listTooLong
    rw [decide_eq_true_eq, sizeLine_eq]; omega
  rw [if_neg e2]
  have hz' : (items.extract 0 (sliceBounds lo hi none items.size).1.toNat ++ new ++ items.extract (max (sliceBounds lo hi none items.size).1 (sliceBounds lo hi none items.size).2.1).toNat items.size).size ≤ sizeLine + 1 := by
    simp only [Array.size_append, Array.size_extract]
    rw [sizeLine_eq]; exact three hsz hsn
  refine wpAny_bind (wpAny_updateSeq hx rfl ?_ (hz := by rw [sizeLine_eq]; omega) (_hz' := hz'))
  refine wpAny_bind (wpAny_letGo ?_)
  exact wpAny_pure h

theorem b_getslice {sl : Addr} {vl vu : Value} {lo hi : Option Int} {Q : Fin → Shared → Prop} (hx : s.heap.get? x = some (seqObj C dx items n))
    (hs : s.heap.IsSliceOf sl vl vu .none) (pl : IsPart vl lo) (pu : IsPart vu hi) (hsz : items.size ≤ sizeLine)
    (h : Q (.done (.ret (.ref s.heap.objs.size))) { s with heap := s.heap.push { cls := .type "list", data := .seq (slicePick items lo hi none) } }) :
    wpAny (model prog w) A (Builtin.«list.__getitem__» ⟨[.ref x, .ref sl], []⟩) Q E s := by
  obtain ⟨os, hos, hcs, hds⟩ := id hs
  have hTs : s.TypeIs (.ref sl) "slice" := ⟨os, hos, hcs⟩
  show wpAny _ _ (Builtin.List.listSubscript? (.ref sl) >>= _) _ _ s
  refine wpAny_bind ?_
  unfold Builtin.List.listSubscript?
  refine wpAny_bind (wpAny_specialOf hTs slice_no_index ?_)
  rw [Option.isNone_none, if_pos rfl]
  refine wpAny_pure ?_
  show wpAny _ _ (typeOf (.ref sl) >>= _) _ _ s
  refine wpAny_bind (wpAny_typeOf hTs ?_)
  rw [if_neg (by decide)]
  rw [listSliceParts_eq]
  refine wpAny_bind (wpAny_bind (wpAny_field hos hds (x := .none) rfl (wpAny_bind (wpAny_listPart .none ?_))))
  rw [if_neg (show ¬ ((rawPart none == rawInt 0) = true) from Bool.false_ne_true)]
  refine wpAny_bind (wpAny_field hos hds (x := vl) rfl (wpAny_bind (wpAny_listPart pl ?_)))
  refine wpAny_bind (wpAny_field hos hds (x := vu) rfl (wpAny_bind (wpAny_listPart pu (wpAny_pure ?_))))
  refine wpAny_bind (m := Builtin.List.listItems (.ref x)) ?_
  unfold Builtin.List.listItems
  refine wpAny_bind (wpAny_seqItems hx rfl (wpAny_pure ?_))
  refine wpAny_bind (wpAny_of_eq (sliceIndices_raw lo hi none items.size (by simp)) ?_)
  exact wpAny_bind (wpAny_newObj_type (wpAny_pure h) (Nat.le_trans (slicePick_size_le items lo hi none) hsz))

theorem b_getint {k : Int} {t : Tok} {y : Value} {Q : Fin → Shared → Prop} (hx : s.heap.get? x = some (seqObj C dx items n)) (h0 : 0 ≤ k) (hfit : k < 2 ^ 63) (hy : items[k.toNat]? = some y) (h : Q (.done (.ret y)) s) :
    wpAny (model prog w) A (Builtin.«list.__getitem__» ⟨[.ref x, .int k t], []⟩) Q E s := by
  show wpAny _ _ (Builtin.List.listSubscript? (.int k t) >>= _) _ _ s
  refine wpAny_bind (wpAny_listSubscript_int (fitsIndex_of h0 hfit) ?_)
  clear hfit
  obtain ⟨j, rfl⟩ := Int.eq_ofNat_of_zero_le h0
  have hx' : items[j]? = some y := hy
  show wpAny _ _ ((seqItemAt x j >>= fun r => pure (r.map (j, ·))) >>= _) _ _ s
  refine wpAny_bind (wpAny_bind (wpAny_seqItemAt hx rfl (wpAny_pure ?_)))
  rw [hx']
  exact wpAny_pure h

theorem getItem_sub {i : Value} {Q : Value → Shared → Prop} (X : K.In s.heap) (I : InstAt s.heap x (seqObj C dx items n) C od) (hq : noSeq K C = true) (hs : findIn K (.ref C) "__getitem__" = some (some (.builtin "list.__getitem__"))) (hm : mroIn K C (.type "list") = some true)
    (h : wpAny (model prog w) A.in1 (Builtin.«list.__getitem__» ⟨[.ref x, i], []⟩) (fun fin s' => ∃ v, fin = .done (.ret v) ∧ Q v s') E s) : wpAny (model prog w) A (getItem (.ref x) i) Q E s := by
  unfold getItem sequenceKey
  refine wpAny_holding (wpAny_bind (wpAny_bind (I.type.here ?_)))
  refine wpAny_bind ((anyM_none X hq).here ?_)
  rw [if_pos (show (!false) = true from rfl)]
  refine wpAny_pure (wpAny_bind (special_sub X I hs (slot_list_getitem.bind _) ?_))
  refine call_sub sub_getitem X I hm entry_lget (args_list_getitem _ _) (wpAny_mono h (fun fin s' z => ?_) fun _ _ z => z)
  obtain ⟨v, rfl, hv⟩ := z
  exact ⟨v, rfl, wpAny_pure hv⟩

theorem subTail_sub {value slice : Expr} {i : Value} {ops : List Value} {Q : Value → Shared → Prop} (X : K.In s.heap) (I : InstAt s.heap x ox C od) (hs : findIn K (.ref C) "__getitem__" = some (some (.builtin "list.__getitem__")))
    (h : wpAny (model prog w) A (getItem (.ref x) i) Q E s) (hsl : subscripted slice false (.ref x) i = operate ops (getItem (.ref x) i) := by with_unfolding_all rfl) :
    wpAny (model prog w) A (subscriptTail value slice (.ref x) i) Q E s := by
  unfold subscriptTail getitemInPython
  refine wpAny_bind (wpAny_bind (wpAny_bind (I.type.here ((looks_findIn X hs).here (wpAny_pure ?_)))))
  rw [hsl]
  refine wpAny_bind (wpAny_operating (wpAny_mono h (fun v s' z => ?_) fun _ _ z => z))
  exact wpAny_bind (wpAny_letTemporaryGo (wpAny_pure z))

theorem setItem_sub {sl l : Addr} {vl vu : Value} {lo hi : Option Int} {Q : Unit → Shared → Prop} (F : Fr h₀ L s.heap m) (X₀ : K.In h₀) (N : News h₀ L s.heap news) (I : InstAt s.heap x (seqObj C dx items n) C (some od'))
    (hq : noSeq K C = true) (hf : findIn K (.ref C) "__setitem__" = some (some (.builtin "list.__setitem__"))) (hm : mroIn K C (.type "list") = some true) (hl : s.heap.IsList l new) (hne : x ≠ l) (hs : s.heap.IsSliceOf sl vl vu .none) (pl : IsPart vl lo) (pu : IsPart vu hi) (hsz : items.size ≤ 1000) (hsn : new.size ≤ 1000)
    {R : Array Value} (hR : items.extract 0 (sliceBounds lo hi none items.size).1.toNat ++ new ++ items.extract (max (sliceBounds lo hi none items.size).1 (sliceBounds lo hi none items.size).2.1).toNat items.size = R)
    (U : Upd x (seqObj C dx items n) (seqObj C dx R (if R.size == items.size then n else n + 1)) news news') (h : ∀ h', Fr h₀ L h' m → News h₀ L h' news' → Q () { s with heap := h' }) :
    wpAny (model prog w) A (setItem (.ref x) (.ref sl) (.ref l)) Q E s := by
  obtain ⟨pre, post, rfl, rfl, a, b⟩ := U.split
  have X := X₀.keeps F.keep
  have z := N (x, seqObj C dx items n) (List.mem_append.mpr (.inr (.head _)))
  unfold setItem sequenceKey
  refine wpAny_holding (wpAny_bind (wpAny_bind (I.type.here ?_)))
  refine wpAny_bind ((anyM_none X hq).here ?_)
  rw [if_pos (show (!false) = true from rfl)]
  refine wpAny_pure (wpAny_bind (special_sub X I hf (slot_list_setitem.bind _) ?_))
  have e : Obj.mapSeq (fun xs => xs.extract 0 (sliceBounds lo hi none items.size).1.toNat ++ new ++ xs.extract (max (sliceBounds lo hi none items.size).1 (sliceBounds lo hi none items.size).2.1).toNat xs.size) (seqObj C dx items n) = seqObj C dx R (if R.size == items.size then n else n + 1) := by
    rw [← hR]; rfl
  have q := news_upd F N a b e rfl
  exact call_sub sub_setitem X I hm entry_lset (args_list_setitem _ _ _) (b_setslice z.1 hl (by simpa using hne) hs pl pu hsz hsn ⟨_, rfl, wpAny_pure (h _ q.1 q.2)⟩)
end

end
section
open PySem PySem.W PyProof.Rows PySem.Calls
example : True := by
  w_top off
  trivial
set_option maxRecDepth 100000
set_option maxHeartbeats 1000000
local macro_rules | `(tactic| walk_at "setAttr ref") => `(tactic| (k_here; k_dflt (refine set_seq (by k_asm) (by k_asm) (by k_asm) (by k_inst) (by exact rfl) (by k_is) (by kernel_rfl) (by k_is) (by k_is) (by k_get) (by k_put) (by k_upd) (Nat.le_of_ble_eq_true rfl) ?_; k_whole; intro h' F' N'; (try k_sweep))))

theorem cut_all (items new : Array Value) : items.extract 0 (sliceBounds none none none items.size).1.toNat ++ new ++ items.extract (max (sliceBounds none none none items.size).1 (sliceBounds none none none items.size).2.1).toNat items.size = new := by
  simp [sliceBounds]

theorem c_reset0 {w : World} {mg mb : Str → Option Value} {A : Around} {s : Shared} {h₀ : Heap} {Q E : Value → Shared → Prop} {a d : Addr} {items : Array Value} {n : Nat} {t u : Tok}
    (C : Cx w mg mb h₀) (H : At h₀ s.heap [(a, accObj d items n), (d, dictOf (daEs w t u) 1)]) (hda : @LT.lt Nat _ d a) (hroom : A.depth < recursionLimit) (hz : items.size ≤ 100)
    (hQ : ∀ n' u' s', At h₀ s'.heap [(a, accObj d #[] n'), (d, dictOf (daEs w t u') 1)] → s'.os = s.os → s'.gens = s.gens → Q .none s') :
    wpAny (model PR w) A (call (.ref 160) [.ref a]) Q E s := by
  obtain ⟨X, T⟩ := C
  refine wpAny_call ?_
  have Xs := X.keeps H.keep
  have Ts := T.keeps H.keep
  k_dflt (refine' enter_def (binds := [(Str.ofString "self", .ref a), (Str.ofString "startval", .none)]) ?k1 ?k2 ?k3 ?k4 ?k5 ?k6 ?k7 ?_ ?c1 ?c2 ?c3 ?c4; (case k1 => exact Xs); (case k2 => exact Ts.nolimit); (case k3 => k_is); (case k4 => k_is); (case k5 => exact hroom); (case k6 => exact binds_K Xs rfl (by k_is) rfl rfl rfl); (case k7 => exact locs rfl); (case c1 => exact rfl); (case c2 => exact rfl); (case c3 => exact rfl); (case c4 => decide))
  intro L h₁ F₀ hL
  refine abstr ?_
  intro Q0 E0 hP0 hE0
  obtain ⟨F, N⟩ := H.enter F₀
  clear F₀ Xs Ts
  (try dsimp only)
  (try k_fold)
  k_steps
  rename Fr _ _ _ _ => F2
  rename News _ _ _ _ => N2
  rename _ ∧ _ => l2
  k_dflt (refine' setItem_sub (lo := none) (hi := none) (new := #[]) (F2.push _) X (N2.grown fun _ _ e => Heap.get?_push_of_some _ e) ?I ?k5 ?k6 ?k7 ⟨_, Heap.get?_push_of_some _ (N2 _ (.head _)).1, rfl, _, rfl⟩ ?ne (Heap.IsSliceOf.new ..) .none .none ?sz ?sn (cut_all _ _) ?U ?_; (case I => refine' instSeq (N2.grown fun _ _ e => Heap.get?_push_of_some _ e) ?h1 ?h2; (case h1 => k_mem); (case h2 => k_mem)); (case k5 => k_is); (case k6 => k_is); (case k7 => k_is); (case ne => k_ne); (case sz => omega); (case sn => decide); (case U => k_upd))
  intro h3 F3 N3
  clear F2 N2
  k_steps
  rename Fr _ _ _ _ => F9
  rename News _ _ _ _ => N9
  refine hP0 _ _ ?_
  exact hQ _ _ _ (At.leave F9 fun p hp => N9 p (.tail _ hp)) rfl rfl

theorem c_reset1 {w : World} {mg mb : Str → Option Value} {A : Around} {s : Shared} {h₀ : Heap} {Q E : Value → Shared → Prop} {a d l : Addr} {items new : Array Value} {n : Nat} {t u : Tok}
    (C : Cx w mg mb h₀) (H : At h₀ s.heap [(a, accObj d items n), (d, dictOf (daEs w t u) 1)]) (hda : @LT.lt Nat _ d a) (hroom : A.depth < recursionLimit) (hz : items.size ≤ 100) (hl : h₀.IsList l new) (hn : new.size ≤ 100)
    (hQ : ∀ n' u' s', At h₀ s'.heap [(a, accObj d new n'), (d, dictOf (daEs w t u') 1)] → s'.os = s.os → s'.gens = s.gens → Q .none s') :
    wpAny (model PR w) A (call (.ref 160) [.ref a, .ref l]) Q E s := by
  obtain ⟨X, T⟩ := C
  refine wpAny_call ?_
  have Xs := X.keeps H.keep
  have Ts := T.keeps H.keep
  k_dflt (refine' enter_def (binds := [(Str.ofString "self", .ref a), (Str.ofString "startval", .ref l)]) ?k1 ?k2 ?k3 ?k4 ?k5 ?k6 ?k7 ?_ ?c1 ?c2 ?c3 ?c4; (case k1 => exact Xs); (case k2 => exact Ts.nolimit); (case k3 => k_is); (case k4 => k_is); (case k5 => exact hroom); (case k6 => first | exact BindsTo.of_eq rfl | exact binds_K Xs rfl (by k_is) rfl rfl rfl); (case k7 => exact locs rfl); (case c1 => exact rfl); (case c2 => exact rfl); (case c3 => exact rfl); (case c4 => decide))
  intro L h₁ F₀ hL
  refine abstr ?_
  intro Q0 E0 hP0 hE0
  obtain ⟨F, N⟩ := H.enter F₀
  clear F₀ Xs Ts
  (try dsimp only)
  (try k_fold)
  k_steps
  k_dflt (refine' setItem_sub (lo := none) (hi := none) (new := new) (F.push _) X (N.grown fun _ _ e => Heap.get?_push_of_some _ e) ?I ?k5 ?k6 ?k7 ((hl.at fun o e => F.keep _ o e).push _) ?ne (Heap.IsSliceOf.new ..) .none .none ?sz ?sn (cut_all _ _) ?U ?_; (case I => refine' instSeq (N.grown fun _ _ e => Heap.get?_push_of_some _ e) ?h1 ?h2; (case h1 => k_mem); (case h2 => k_mem)); (case k5 => k_is); (case k6 => k_is); (case k7 => k_is); (case ne => (rintro rfl; obtain ⟨o, ho, _⟩ := hl; rw [(N _ (.head _)).2.2] at ho; cases ho)); (case sz => omega); (case sn => omega); (case U => k_upd))
  intro h3 F3 N3
  clear F N
  k_steps
  rename Fr _ _ _ _ => F9
  rename News _ _ _ _ => N9
  refine hP0 _ _ ?_
  exact hQ _ _ _ (At.leave F9 N9) rfl rfl

end
section
open PySem PySem.W PyProof.Rows PySem.Calls
example : True := by
  w_top off
  trivial
set_option maxRecDepth 100000
set_option maxHeartbeats 1000000

noncomputable def SeqAt (h : Heap) (l : Addr) (items : Array Value) : Prop := ∃ o n, h.get? l = some o ∧ o.data = .seq items n
theorem SeqAt.at {h h' : Heap} {l : Addr} {items : Array Value} (x : SeqAt h l items) (e : ∀ o, h.get? l = some o → h'.get? l = some o) : SeqAt h' l items := let ⟨o, n, a, b⟩ := x; ⟨o, n, e o a, b⟩

section
variable {prog : Program} {w : World} {A : Around} {E : Value → Shared → Prop} {s : Shared}

theorem next_seq {it l : Addr} {i : Nat} {items : Array Value} {x : Value} {Q : Option Value → Shared → Prop} (hit : s.heap.IsListIter it l i) (hl : SeqAt s.heap l items) (hx : items[i]? = some x)
    (hQ : ∀ h', h'.IsListIter it l (i + 1) → Heap.SameBut it s.heap h' → Q (some x) { s with heap := h' }) : wpAny (model prog w) A (pyNext (.ref it)) Q E s := by
  obtain ⟨o, ho, hc, hd⟩ := id hit
  obtain ⟨ol, nl, hol, hdl⟩ := hl
  unfold pyNext
  refine wpAny_bind (wpAny_attempt (wpAny_callSpecial?_slot (name := Str.ofString "__next__") hit.typeIs slot_listiter_next (wpAny_call_entry slot_listiter_next hit.typeIs entry_listiter_next ?_ (args_listiter_next _))))
  show wpAny _ _ (field (.ref it) 0 >>= _) _ _ s
  refine wpAny_bind (wpAny_field ho hd (x := .ref l) rfl (wpAny_ite_false (by rfl) ?_))
  show wpAny _ _ (field (.ref it) 1 >>= _) _ _ s
  refine wpAny_bind (wpAny_field ho hd (x := .int i 0) rfl ?_)
  show wpAny _ _ (seqItems? (.ref l) >>= _) _ _ s
  refine wpAny_bind (wpAny_seqItems hol hdl ?_)
  rw [Int.toNat_natCast]
  dsimp only
  rw [hx]
  dsimp only
  refine wpAny_bind (wpAny_setField ho hd (by simp) (wpAny_pure ⟨x, rfl, wpAny_pure (hQ _ ?_ (Heap.SameBut.update ..))⟩))
  exact ⟨_, Heap.get?_update_self _ ho (Obj.isFreed_of_fields (Obj.data_mapFields hd _)), (Obj.cls_mapFields ..).trans hc, by rw [Obj.data_mapFields hd]; simp [rawInt]⟩

theorem next_seq_end {it l : Addr} {i : Nat} {items : Array Value} {Q : Option Value → Shared → Prop} (hh : A.handled = none) (hit : s.heap.IsListIter it l i) (hl : SeqAt s.heap l items) (hx : items[i]? = none)
    (hQ : ∀ h', Heap.ExtBut it s.heap h' → Q none { s with heap := h' }) : wpAny (model prog w) A (pyNext (.ref it)) Q E s := by
  obtain ⟨o, ho, hc, hd⟩ := id hit
  obtain ⟨ol, nl, hol, hdl⟩ := hl
  unfold pyNext
  refine wpAny_bind (wpAny_attempt (wpAny_callSpecial?_slot (name := Str.ofString "__next__") hit.typeIs slot_listiter_next (wpAny_call_entry slot_listiter_next hit.typeIs entry_listiter_next ?_ (args_listiter_next _))))
  show wpAny _ _ (field (.ref it) 0 >>= _) _ _ s
  refine wpAny_bind (wpAny_field ho hd (x := .ref l) rfl (wpAny_ite_false (by rfl) ?_))
  show wpAny _ _ (field (.ref it) 1 >>= _) _ _ s
  refine wpAny_bind (wpAny_field ho hd (x := .int i 0) rfl ?_)
  show wpAny _ _ (seqItems? (.ref l) >>= _) _ _ s
  refine wpAny_bind (wpAny_seqItems hol hdl ?_)
  rw [Int.toNat_natCast]
  dsimp only
  rw [hx]
  dsimp only
  refine wpAny_bind (wpAny_rule (wpAny_bind (wpAny_setField ho hd (by simp) ?_)))
  show wpAny _ _ (newExc (.type "StopIteration") [] >>= _) _ _ _
  refine wpAny_bind ?_
  delta newExc newTuple
  refine wpAny_bind (wpAny_newObj_type ?_ (by size_fits))
  refine wpAny_bind (m := firstArgMember _ _) (wpAny_of_eq (a := Value.none) (by first | rfl | (simp only [firstArgMember]; rfl)) ?_)
  refine wpAny_newObj_type ?_ (by size_fits)
  unfold raiseNew
  dsimp only
  refine wpAny_bind (wpAny_handled ?_)
  rw [show A.in1.handled = none from hh]
  refine wpAny_bind (wpAny_pure (wpAny_throw ?_))
  refine wpAny_bind (wpAny_isInstance (T := "StopIteration") (b := true) ⟨_, Heap.get?_push_size _ rfl, rfl⟩ isSubtype_stop ?_)
  exact wpAny_pure (hQ _ (((Heap.SameBut.update ..).extBut.push _).push _))
end

theorem walks_seq {prog : Program} {w : World} {A : Around} (hh : A.handled = none) (I ax : Addr) (hne : ax ≠ I) (items : Array Value) (Ts : Nat → Addr) (vals : Nat → Array Value)
    (hit : ∀ j, j < items.size → items[j]? = some (.ref (Ts j))) (hTI : ∀ j, j < items.size → Ts j ≠ I) :
    WalksU prog w A I (I :: ax :: (List.range items.size).map Ts) [I] items.size (fun j v => j < items.size ∧ v = vals j)
      (fun j h => h.IsListIter I ax j ∧ SeqAt h ax items ∧ ∀ k, k < items.size → h.IsTuple (Ts k) (vals k))
      (fun j T h => (j < items.size ∧ T = Ts j) ∧ h.IsListIter I ax (j + 1) ∧ SeqAt h ax items ∧ ∀ k, k < items.size → h.IsTuple (Ts k) (vals k)) where
  sub := fun b hb => by simp at hb; simp [hb]
  frame := fun _ _ _ st hk => ⟨st.1.at fun o e => hk I (by simp) o e, st.2.1.at fun o e => hk ax (by simp) o e,
    fun k hk' => (st.2.2 k hk').at fun o e => hk (Ts k) (List.mem_cons_of_mem _ (List.mem_cons_of_mem _ (List.mem_map.mpr ⟨k, List.mem_range.mpr hk', rfl⟩))) o e⟩
  item := fun i s Q E hi st hQ => by
    refine next_seq st.1 st.2.1 (x := .ref (Ts i)) (hit i hi) fun h' hit' hs' => ?_
    have tup : ∀ k, k < items.size → h'.IsTuple (Ts k) (vals k) := fun k hk' => (st.2.2 k hk').extBut hs'.extBut (hTI k hk')
    exact hQ (Ts i) (vals i) h' s.toks ⟨hi, rfl⟩ (tup i hi) ⟨⟨hi, rfl⟩, hit', st.2.1.at fun o e => hs'.extBut _ o hne e, tup⟩ fun b o hb e => hs'.extBut b o (fun h => hb (by simp [h])) e
  go := fun _ _ _ _ _ s Q _ hm hQ => wpAny_letOwnedTupleGo_listiter hm.2.1 (hQ s.heap hm.2 fun _ _ _ e => e)
  apart := fun j T _ hm hmem => by
    rcases List.mem_cons.mp hmem with e | e
    · exact hTI j hm.1.1 (hm.1.2 ▸ e)
    · cases e
  done := fun s Q E st hQ => next_seq_end hh st.1 st.2.1 (by simp) fun h' he' => hQ h' s.toks fun b o hb e => he' b o (fun h => hb (by simp [h])) e
  self := fun _ _ _ _ st hQ => wpAny_pyIter_listiter st.1 hQ

section
variable {prog : Program} {w : World} {A : Around} {E : Value → Shared → Prop} {s : Shared} {K : Frag} {x C : Addr} {ox : Obj} {od : Option Obj}
theorem iter_sub {Q : Value → Shared → Prop} (X : K.In s.heap) (I : InstAt s.heap x ox C od) (hm : mroIn K C (.type "list") = some true) (hf : findIn K (.ref C) "__iter__" = some (some (.builtin "list.__iter__")))
    (hQ : Q (.ref s.heap.objs.size) { s with heap := s.heap.push { cls := .type "list_iterator", data := .fields #[.ref x, .int 0 0] } }) : wpAny (model prog w) A (pyIter (.ref x)) Q E s := by
  unfold pyIter
  refine wpAny_bind (wpAny_bind (I.type.here ((looks_findIn X hf).here ?_)))
  dsimp only
  refine wpAny_bind ?_
  delta callSpecialIfBoundUnlessNone? bindSpecialIfBound?
  dsimp only
  refine wpAny_holding (wpAny_bind (wpAny_bind (wpAny_bind (I.type.here ((looks_findIn X hf).here ?_)))))
  dsimp only
  rw [slot_list_iter.bind]
  have hc : wpAny (model prog w) A (call (.builtin "list.__iter__") [.ref x]) (fun it s' => it = .ref s.heap.objs.size ∧ s' = { s with heap := s.heap.push { cls := .type "list_iterator", data := .fields #[.ref x, rawInt 0] } }) E s :=
    call_sub sub_iter X I hm entry_liter (args_list_iter _) (b_iter ⟨_, rfl, rfl, rfl⟩)
  have fin : wpAny (model prog w) A (if (Value.builtin "list.__iter__" == Value.none) = true then ((do rule "iter.none"; raiseError "TypeError" s!"'{← typeNameOf (.ref x)}' object is not iterable") >>= fun v => pure (some v)) else (call (.builtin "list.__iter__") [.ref x] >>= fun v => pure (some v)))
      (fun r s' => r = some (.ref s.heap.objs.size) ∧ s' = { s with heap := s.heap.push { cls := .type "list_iterator", data := .fields #[.ref x, rawInt 0] } }) E s := by
    rw [builtin_beq_none, if_neg Bool.false_ne_true]
    exact wpAny_bind (wpAny_mono hc (fun v s' z => by obtain ⟨rfl, rfl⟩ := z; exact wpAny_pure ⟨rfl, rfl⟩) fun _ _ z => z)
  have fin' := wpAny_mono fin (Q' := fun r s' => wpAny (model prog w) A (match r with
      | some it => (do match ← specialOf it "__next__" with
        | none => rule "iter.non-iterator"; raiseError "TypeError" s!"iter() returned non-iterator of type '{← typeNameOf it}'"
        | some _ => pure it)
      | none => (do match ← bindSpecialIfBound? (.ref x) "__getitem__" with
        | none => rule "iter.not-iterable"; raiseError "TypeError" s!"'{← typeNameOf (.ref x)}' object is not iterable"
        | some _ => rule "iter.getitem-fallback"; newFields "iterator" [.ref x, ← mkInt 0])) Q E s') (fun r s' z => by
      obtain ⟨rfl, rfl⟩ := z
      exact wpAny_bind (wpAny_specialOf (T := "list_iterator") ⟨_, Heap.get?_push_size _ rfl, rfl⟩ slot_listiter_next.lookup (wpAny_pure hQ))) fun _ _ z => z
  refine wpAny_bind (wpAny_askSetting (wpAny_ite ?_))
  split
  · exact wpAny_bind (wpAny_pure (wpAny_pure fin'))
  · exact wpAny_tryCatch (wpAny_bind (wpAny_pure (wpAny_pure fin')))
end

end
section
open PySem PySem.W PyProof.Rows PySem.Calls
example : True := by
  w_top off
  trivial
set_option maxRecDepth 100000
set_option maxHeartbeats 1000000


theorem passing_all (n : Nat) : passing (fun _ => true) n 0 = List.range n := by
  unfold passing; rw [List.drop_zero]; exact List.filter_eq_self.mpr fun _ _ => rfl
theorem args_sum2 (a b : Value) : argsOk "sum" ⟨[a, b], []⟩ := by unfold argsOk; kernel_rfl

section
variable {prog : Program} {w : World} {A : Around} {E : Value → Shared → Prop} {s : Shared}

theorem code_step {K : Frag} {env : Env} {c P : Addr} {ps : Array Value} {pos : Pos} {qual : Str} {scope : Scope} {vs : Array Value} {dd : Option Addr} {sl : Array (Option Value)} {Q : Value → Shared → Prop} (X : K.In s.heap)
    (hc : K.lookup c = some ⟨.type "code", dd, .fields vs, sl⟩) (h11 : vs[11]? = some (.ref P)) (h2 : ∃ f t, vs.getD 18 .none = .str f t) (h7 : ∃ a t, vs.getD 7 .none = .int a t) (h9 : ∃ b, vs.getD 9 .none = .bool b) (h10 : ∃ a t, vs.getD 10 .none = .int a t)
    (hP : s.heap.get? P = some (tabObj ps)) (htr : TriplesOk ps.toList) (hne : c ≠ P) (henv : env.code = .ref c)
    (hQ : ∀ code h' tk ps', Heap.ExtBut P s.heap h' → s.heap.objs.size ≤ h'.objs.size → h'.get? P = some (tabObj ps') → TriplesOk ps'.toList → Q code { s with heap := h', toks := tk }) :
    wpAny (model prog w) A (genexprCode env pos qual scope) Q E s := by
  have hg : vs.getD 11 .none = .ref P := by rw [Array.getD_eq_getD_getElem?, h11]; rfl
  obtain ⟨f2, t2, h2⟩ := h2
  obtain ⟨f7, t7, h7⟩ := h7
  obtain ⟨f9, h9⟩ := h9
  obtain ⟨f10, t10, h10⟩ := h10
  have hok : s.heap.IsCode c P ps := ⟨_, vs, f2, t2, f7, t7, f9, f10, t10, _, X _ _ hc, rfl, hg, h2, h7, h9, h10, hP, rfl, htr, hne⟩
  have htab : s.heap.TableAt c P ps := ⟨⟨_, vs, X _ _ hc, rfl, rfl, h11⟩, hP⟩
  cases hca : codeAmong pos ps.toList with
  | some cv => exact wpAny_genexprCode_hit henv hok hca (hQ cv s.heap s.toks ps (fun _ _ _ e => e) (Nat.le_refl _) hP htr)
  | none =>
    refine wpAny_genexprCodeX henv hok htab hca fun c' h' tk hx h1 h2 hok' _ htab' _ => ?_
    obtain ⟨_, _, _, _, _, _, _, _, _, op, _, _, _, _, _, _, _, hop, hpd, htr', _⟩ := hok'
    have e : op = tabObj (ps ++ #[rawInt pos.line, rawInt pos.col, .ref c']) := Option.some.inj (hop.symm.trans htab'.2)
    exact hQ _ h' tk _ hx (Nat.le_trans h1 (Nat.le_of_lt h2)) htab'.2 htr'

theorem sum_start {x : Value} {u : Tok} {Q : Value → Shared → Prop}
    (h : wpAny (model prog w) A.in1 (pyIter x) (fun it s₂ => ∃ I fp wr G n P St val, it = .ref I ∧ WalksS prog w A.in1 I fp wr G n P St ∧ St 0 s₂ ∧ (∀ b ∈ fp, b < s₂.heap.objs.size) ∧
      (∀ i v, P i v → ∃ t, v = .int (val i) t) ∧ ∀ s' t', Moved wr G s₂ s' → Q (.int (preSum val n) t') s') E s) :
    wpAny (model prog w) A (call (.builtin "sum") [x, .int 0 u]) Q E s := by
  refine call_function_tree F.kind_sum F.plain_sum F.entry_sum (args_sum2 _ _) ?_
  unfold Builtin.«sum»
  dsimp only [List.length_cons, List.length_nil]
  rw [if_neg (by decide)]
  refine wpAny_bind (wpAny_of_eq (show Builtin.Builtins.bindParams "sum" ["start"] 0 ⟨[.int 0 u], []⟩ = pure [some (.int 0 u)] from rfl) ?_)
  refine wpAny_bind (wpAny_mono h (fun it s₂ h₂ => ?_) fun _ _ e => e)
  obtain ⟨I, fp, wr, G, n, P, St, val, rfl, W, hst, hfp, hval, hQ⟩ := h₂
  refine wpAny_bind (wpAny_rule (wpAny_bind (wpAny_mkInt (wpAny_bind (wpAny_pure ?_)))))
  rw [List.forIn_cons]
  refine wpAny_bind (wpAny_bind (wpAny_bind (wpAny_isInstance (T := "int") (b := false) (typeIs_int _ _ _) PySem.sub_int_str ?_)))
  rw [if_neg Bool.false_ne_true]
  refine wpAny_pure ?_
  dsimp only
  rw [List.forIn_cons]
  refine (wpAny_bind (wpAny_bind (wpAny_isInstance (T := "int") (b := false) (typeIs_int _ _ _) PySem.sub_int_bytes ?_)))
  rw [if_neg Bool.false_ne_true]
  refine wpAny_pure ?_
  dsimp only
  rw [List.forIn_cons]
  refine (wpAny_bind (wpAny_bind (wpAny_isInstance (T := "int") (b := false) (typeIs_int _ _ _) PySem.sub_int_bytearray ?_)))
  rw [if_neg Bool.false_ne_true]
  refine wpAny_pure ?_
  dsimp only
  rw [List.forIn_nil]
  refine wpAny_pure ?_
  refine wpAny_bind (wpAny_newObj_type ?_)
  have hSf : s₂.heap.objs.size ∉ fp := fun hm => Nat.lt_irrefl _ (hfp _ hm)
  refine wpAny_pure ⟨plainId_quiet F.plain_sum_loop _, codeAny_sum_loopAnyS W val hval s₂.heap.objs.size hSf n 0 _ s₂.toks 0 0 (.inl rfl) rfl (Nat.zero_le _)
    (W.frame 0 s₂ _ _ hst (by first | exact Nat.le_refl _ | exact Nat.le_succ _ | omega) fun b _ o e => Heap.get?_push_of_some _ e) (Heap.get?_push_size _ rfl) fun s' t' hm => ?_⟩
  exact hQ s' t' (hm.drop_new (by first | exact Nat.le_refl _ | exact Nat.le_succ _ | omega))
end

end
section
open PySem PySem.W PyProof.Rows PySem.Calls
example : True := by
  w_top off
  trivial
set_option maxRecDepth 100000
set_option maxHeartbeats 1000000

noncomputable abbrev tupObj (f p : Str) (t1 t2 : Tok) : Obj := { cls := .type "tuple", data := .seq #[.str f t1, .str p t2] }
inductive PartsAt (h : Heap) : List Value → List (Str × Str) → Prop
  | nil : PartsAt h [] []
  | cons {T : Addr} {f p : Str} {t1 t2 : Tok} {vs : List Value} {ps : List (Str × Str)} : h.get? T = some (tupObj f p t1 t2) → PartsAt h vs ps → PartsAt h (.ref T :: vs) ((f, p) :: ps)
theorem PartsAt.keeps {h h' : Heap} {vs : List Value} {ps : List (Str × Str)} (x : PartsAt h vs ps) (hk : ∀ b o, h.get? b = some o → h'.get? b = some o) : PartsAt h' vs ps := by
  induction x with
  | nil => exact .nil
  | cons a _ ih => exact .cons (hk _ _ a) ih
theorem PartsAt.length {h : Heap} {vs : List Value} {ps : List (Str × Str)} (x : PartsAt h vs ps) : vs.length = ps.length := by
  induction x with
  | nil => rfl
  | cons _ _ ih => simp [ih]
theorem PartsAt.get {h : Heap} {vs : List Value} {ps : List (Str × Str)} (x : PartsAt h vs ps) : ∀ j, j < vs.length → ∃ T f p t1 t2, vs[j]? = some (.ref T) ∧ ps[j]? = some (f, p) ∧ h.get? T = some (tupObj f p t1 t2) := by
  induction x with
  | nil => intro j hj; exact absurd hj (Nat.not_lt_zero _)
  | cons a _ ih =>
    intro j hj
    cases j with
    | zero => exact ⟨_, _, _, _, _, rfl, rfl, a⟩
    | succ j => exact ih j (Nat.lt_of_succ_lt_succ hj)
theorem PartsAt.snoc {h : Heap} {vs : List Value} {ps : List (Str × Str)} {T : Addr} {f p : Str} {t1 t2 : Tok} (x : PartsAt h vs ps) (hT : h.get? T = some (tupObj f p t1 t2)) : PartsAt h (vs ++ [.ref T]) (ps ++ [(f, p)]) := by
  induction x with
  | nil => exact .cons hT .nil
  | cons a _ ih => exact .cons a ih
noncomputable def tsOf (vs : List Value) (j : Nat) : Addr := match vs[j]? with
  | some (.ref T) => T
  | _ => 0
noncomputable def valsOf (h : Heap) (vs : List Value) (j : Nat) : Array Value := match h.get? (tsOf vs j) with
  | some ⟨_, _, .seq xs _, _⟩ => xs
  | _ => #[]
theorem PartsAt.walk {h : Heap} {vs : List Value} {ps : List (Str × Str)} (x : PartsAt h vs ps) (j : Nat) (hj : j < vs.length) :
    vs[j]? = some (.ref (tsOf vs j)) ∧ ∃ f p t1 t2, ps[j]? = some (f, p) ∧ valsOf h vs j = #[.str f t1, .str p t2] ∧ h.get? (tsOf vs j) = some (tupObj f p t1 t2) := by
  obtain ⟨T, f, p, t1, t2, a, b, c⟩ := x.get j hj
  have e : tsOf vs j = T := by unfold tsOf; rw [a]
  refine ⟨by rw [e]; exact a, f, p, t1, t2, b, ?_, by rw [e]; exact c⟩
  unfold valsOf; rw [e, c]

section
variable {w : World} {mg mb : Str → Option Value} {A : Around} {E : Value → Shared → Prop} {s : Shared} {h₀ : Heap} {L : Addr} {m : Str → Option Value} {news : List (Addr × Obj)}

theorem gen_parts {a d P c f : Addr} {items : Array Value} {n nd : Nat} {es : List DictEntry} {ps : Array Value} {q : Str} {scope gscope : Scope} {elt : Expr} {p0 p1 p2 p3 pos : Pos} {parts : List (Str × Str)} {vs : Array Value} {dd : Option Addr} {sl : Array (Option Value)} {Q : Value → Shared → Prop} (Fv : Nat → Value → Prop)
    (F : Fr h₀ L s.heap m) (X₀ : (heapK w.params).In h₀) (T : TopRead viewK LOO mg mb h₀) (M : ∃ bm ob, BMod h₀ mainGlobals mg bm ob) (hh : A.handled = none) (hroom : A.depth < recursionLimit)
    (I : InstAt s.heap a (seqObj 178 d items n) 178 (some (dictOf es nd))) (ha : h₀.get? a = none) (hP : s.heap.get? P = some (tabObj ps)) (hP₀ : h₀.get? P = none) (htr : TriplesOk ps.toList) (haP : a ≠ P) (hLP : L ≠ P) (hparts : PartsAt h₀ items.toList parts)
    (hself : m (Str.ofString "self") = some (.ref a))
    (hm : mroIn (heapK w.params) 178 (.type "list") = some true) (hf : findIn (heapK w.params) (.ref 178) "__iter__" = some (some (.builtin "list.__iter__")))
    (hc : (heapK w.params).lookup c = some ⟨.type "code", dd, .fields vs, sl⟩) (h11 : vs[11]? = some (.ref P)) (h2 : ∃ f t, vs.getD 18 .none = .str f t) (h7 : ∃ a t, vs.getD 7 .none = .int a t) (h9 : ∃ b, vs.getD 9 .none = .bool b) (h10 : ∃ a t, vs.getD 10 .none = .int a t) (hne : c ≠ P)
    (hk : scope.kind = .function) (hls : (envOf q scope L f (.ref c)).kindOf (Str.ofString "self") = some .local)
    (hco : gscope.isCoroutine = false) (hclos : closureFor gscope (envOf q scope L f (.ref c)) = pure []) (hcell : ∀ y ∈ gscope.names, y.2 ≠ .cell) (h0 : gscope.names.lookup (".0" : Str) = some NameKind.local)
    (hxa : gscope.names.lookup (Str.ofString "fws") = some .local) (hxb : gscope.names.lookup (Str.ofString "part") = some .local) (hkind : gscope.kind = .function)
    (helt : ∀ (A' : Around) E' (C : Addr) (code : Value) i fw p t1 t2 (s₂ : Shared) m₂, A'.handled = none → parts[i]? = some (fw, p) → s₂.heap.Ns C m₂ → m₂ (Str.ofString "fws") = some (.str fw t1) → m₂ (Str.ofString "part") = some (.str p t2) → TopRead viewK LOO mg mb s₂.heap →
      (heapK w.params).In s₂.heap → wpAny (model PR w) A' (eval elt (genEnv gscope [] C code builtinsNs (envOf q scope L f (.ref c)))) (fun y s₃ => Fv i y ∧ Keeps s₂ s₃) E' s₂)
    (hQ : ∀ (g C I : Addr) (ps' : Array Value) (k : Nat) (St : Nat → Shared → Prop) (fp : List Addr) (P' : Nat → Value → Prop) (s' : Shared), Fr h₀ L s'.heap m → s'.heap.get? P = some (tabObj ps') → TriplesOk ps'.toList → (∀ b o, b ≠ P → s.heap.get? b = some o → s'.heap.get? b = some o) →
      WalksS PR w A.in4 g fp [C, I] (GenOnlyQ k) items.size P' St → St 0 s' → (∀ j v, P' j v → Fv j v) → (∀ i s₁, St i s₁ → s₁.TypeIs (.ref g) "generator") → g ∈ fp → (∀ b ∈ fp, b < s'.heap.objs.size) → s.heap.objs.size ≤ C → s.heap.objs.size ≤ I → s.gens.size ≤ k → GX s.gens s'.gens → s'.os = s.os → Q (.ref g) s') :
    wpAny (model PR w) A (eval (.GeneratorExp elt [⟨.Tuple [.Name (Str.ofString "fws") p0, .Name (Str.ofString "part") p1] 0 p2, .Name (Str.ofString "self") p3, [], 0⟩] gscope pos) (envOf q scope L f (.ref c))) Q E s := by
  obtain ⟨bm, ob, M⟩ := M
  have X := X₀.keeps F.keep
  refine wpAny_GeneratorExp_walksQT hh hco hclos hcell h0 hxa hxb (by decide) hkind hroom (ld F hself ?_ hk hls) (fun x => rfl)
  refine iter_sub X I hm hf ?_
  -- the table of the codes
  have hLs : L < s.heap.objs.size := F.ns.lt
  have keep1 : ∀ b o, s.heap.get? b = some o → (s.heap.push { cls := .type "list_iterator", data := .fields #[.ref a, .int 0 0] }).get? b = some o := fun b o e => Heap.get?_push_of_some _ e
  have T1 := T.keeps fun b o e => keep1 b o (F.keep b o e)
  refine ⟨T1.nolimit, code_step (X.keeps keep1) hc h11 h2 h7 h9 h10 (keep1 _ _ hP) htr hne rfl fun code h₃ tk ps' hx hsz3 hP3 htr3 => ?_⟩
  have keep3 : ∀ b o, b ≠ P → s.heap.get? b = some o → h₃.get? b = some o := fun b o hb e => hx b o hb (keep1 b o e)
  have ne0 : ∀ b o, h₀.get? b = some o → b ≠ P := fun b o e q => by rw [q, hP₀] at e; cases e
  have F3 : Fr h₀ L h₃ m := by
    obtain ⟨oL, a1, a2, hLo, a3⟩ := F.ns
    exact ⟨⟨oL, a1, a2, keep3 _ _ hLP hLo, a3⟩, fun b o e => keep3 b o (ne0 b o e) (F.keep b o e), F.above⟩
  have M3 : BMod h₃ mainGlobals mg bm ob := M.keeps F3.keep
  refine wpAny_builtinsFor M3.ns M3.name M3.ne M3.obj M3.cls M3.dict M3.data ?_
  have T3 := T.keeps F3.keep
  have hIs : s.heap.objs.size < h₃.objs.size := Nat.lt_of_lt_of_le (by rw [Heap.size_push]; exact Nat.lt_succ_self _) hsz3
  have hlt : ∀ j, j < items.size → j < items.toList.length := fun j hj => by simpa using hj
  have haI : a ≠ s.heap.objs.size := Nat.ne_of_lt (Heap.lt_size I.at_)
  have hTI : ∀ j, j < items.size → tsOf items.toList j ≠ s.heap.objs.size := fun j hj => by
    obtain ⟨_, f', p', t1, t2, _, _, hT⟩ := hparts.walk j (hlt j hj)
    exact Nat.ne_of_lt (Heap.lt_size (F.keep _ _ hT))
  refine ⟨s.heap.objs.size, _, _, items.size, _, _, _, fun _ => true, Fv, rfl,
    fun A' hA => walks_seq hA s.heap.objs.size a haI items (tsOf items.toList) (valsOf h₀ items.toList) (fun j hj => by
      obtain ⟨e, _⟩ := hparts.walk j (hlt j hj)
      simpa using e) hTI, ?_, ?_, ?_, T3.nolimit, ?_, ?_, ?_⟩
  · rintro i vals ⟨hi, rfl⟩
    obtain ⟨_, f', p', t1, t2, _, e, _⟩ := hparts.walk i (hlt i hi)
    exact ⟨_, _, e⟩
  · refine ⟨⟨_, hx _ _ (fun e => ?_) (Heap.get?_push_size _ rfl), rfl, rfl⟩, ⟨_, n, keep3 _ _ haP I.at_, rfl⟩, fun k hk' => ?_⟩
    · exact absurd (Heap.lt_size hP) (e ▸ Nat.lt_irrefl _)
    · obtain ⟨_, f', p', t1, t2, _, e, hT⟩ := hparts.walk k (hlt k hk')
      rw [e]
      exact ⟨_, F3.keep _ _ hT, rfl, _, rfl⟩
  · intro b hb
    show b < h₃.objs.size
    rcases List.mem_cons.mp hb with e | hb
    · rw [e]; exact hIs
    rcases List.mem_cons.mp hb with e | hb
    · rw [e]; exact Nat.lt_trans (Heap.lt_size I.at_) hIs
    · obtain ⟨j, hj, rfl⟩ := List.mem_map.mp hb
      obtain ⟨_, f', p', t1, t2, _, e, hT⟩ := hparts.walk j (hlt j (List.mem_range.mp hj))
      exact Heap.lt_size (F3.keep _ _ hT)
  · intro hm'
    have hcs : cStatics < s.heap.objs.size := let ⟨_, hn, _⟩ := (T.keeps F.keep).nolimit; hn.lt
    rw [List.mem_singleton] at hm'
    exact absurd hcs (hm' ▸ Nat.lt_irrefl _)
  · intro href hhref
    have inB : ∀ (s₂ : Shared), (∀ b ∈ List.range h₃.objs.size, b ∉ [s.heap.objs.size] → ∀ o, href.get? b = some o → s₂.heap.get? b = some o) → ∀ b o, h₀.get? b = some o → s₂.heap.get? b = some o := fun s₂ hkp b o e => by
      have e3 := F3.keep b o e
      refine hkp b (List.mem_range.mpr (Heap.lt_size e3)) (fun hb => ?_) o (hhref b o e3)
      rw [List.mem_singleton] at hb
      exact absurd (Nat.lt_of_lt_of_le (Heap.lt_size e) (Nat.le_trans F.above (Nat.le_of_lt hLs))) (hb ▸ Nat.lt_irrefl _)
    refine ⟨fun A' E' i va vb s₂ m₂ hA hPt hn ma mb hkp => wpAny_pure ⟨rfl, s₂.heap, s₂.toks, rfl, fun _ _ e => e⟩, fun A' E' i va vb s₂ m₂ hA hPt _ hn ma mb hkp => ?_⟩
    obtain ⟨hi, he⟩ := hPt
    obtain ⟨_, f', p', t1, t2, hp', e, _⟩ := hparts.walk i (hlt i hi)
    rw [e] at he
    have h1 : va = .str f' t1 ∧ vb = .str p' t2 := by simpa using he
    obtain ⟨rfl, rfl⟩ := h1
    exact helt A' E' _ code i f' p' t1 t2 s₂ m₂ hA hp' hn ma mb (T.keeps (inB s₂ hkp)) (X₀.keeps (inB s₂ hkp))
  · intro g h₅ tk₅ gs hgb hCg hsz5 hk5 W hat
    have hlen : (passing (fun _ => true) items.size 0).length = items.size := by rw [passing_all, List.length_range]
    rw [hlen] at W
    refine hQ g h₃.objs.size s.heap.objs.size ps' s.gens.size _ _ _ _ (F3.keeps hk5) (hk5 _ _ hP3) htr3 (fun b o hb e => hk5 b o (keep3 b o hb e)) W hat (fun j v hv => ?_) (fun i s₁ st => st.1.typeIs) (List.mem_cons_self ..) ?_ (Nat.le_of_lt hIs) (Nat.le_refl _) (Nat.le_refl _) (GX.push hgb) rfl
    · obtain ⟨i, hi, hv⟩ := hv
      rw [passing_all] at hi
      have := List.getElem?_eq_some_iff.mp hi
      obtain ⟨h1, h2⟩ := this
      rw [List.getElem_range] at h2
      rw [← h2] at hv; exact hv
    · intro b hb
      show b < h₅.objs.size
      rw [hsz5]
      rcases List.mem_cons.mp hb with e | hb
      · rw [e]; exact Nat.lt_succ_self _
      rcases List.mem_cons.mp hb with e | hb
      · rw [e]; exact Nat.lt_succ_of_lt hCg
      · exact Nat.lt_succ_of_lt (Nat.lt_trans (List.mem_range.mp hb) hCg)
end

end
section
open PySem PySem.W PyProof.Rows PySem.Calls
set_option hygiene false
local macro_rules | `(tactic| walk_at "getAttr ref") => `(tactic| (k_here; k_dflt (refine get_seq (by k_asm) (by k_asm) (by k_inst) (by k_is) (by k_is) (by k_is) (by k_is) (by k_is) (by k_is) (by k_get) (by k_handed) ?_; k_whole)))
set_option hygiene true
set_option hygiene false
local macro_rules | `(tactic| walk_at "eval GeneratorExp") => `(tactic| refine Hold.out ?_)
set_option hygiene true
section
open PySem PySem.W PyProof.Rows PySem.Calls
example : True := by
  w_top off
  trivial
set_option maxRecDepth 100000
set_option maxHeartbeats 1000000

noncomputable def sizeP (parts : List (Str × Str)) : Nat := (parts.map fun p => p.1.length + p.2.length).sum
theorem preSum_parts (parts : List (Str × Str)) : preSum (fun i => (parts.map fun p => ((p.1.length + p.2.length : Nat) : Int)).getD i 0) parts.length = (sizeP parts : Nat) := by
  rw [preSum_getD, List.take_of_length_le (by simp)]
  unfold sizeP
  induction parts with
  | nil => rfl
  | cons p r ih => simp only [List.map_cons, List.sum_cons, ih]; push_cast; rfl
theorem moved_fr {h₀ : Heap} {L : Addr} {s s' : Shared} {m : Str → Option Value} {news : List (Addr × Obj)} {wr : List Addr} {G : Array GenState → Array GenState → Prop} (F : Fr h₀ L s.heap m) (N : News h₀ L s.heap news) (M : Moved wr G s s')
    (h0 : ∀ b ∈ wr, h₀.objs.size ≤ b) (hL : L ∉ wr) (hn : ∀ p ∈ news, p.1 ∉ wr) : Fr h₀ L s'.heap m ∧ News h₀ L s'.heap news := by
  obtain ⟨oL, a1, a2, hLo, a3⟩ := F.ns
  refine ⟨⟨⟨oL, a1, a2, M.heap _ _ hL hLo, a3⟩, fun b o e => M.heap b o (fun hb => ?_) (F.keep b o e), F.above⟩, fun p hp => ⟨M.heap _ _ (hn p hp) (N p hp).1, (N p hp).2⟩⟩
  exact Nat.lt_irrefl _ (Nat.lt_of_lt_of_le (Heap.lt_size e) (h0 b hb))

theorem c_len {w : World} {mg mb : Str → Option Value} {A : Around} {s : Shared} {h₀ : Heap} {Q E : Value → Shared → Prop} {a d : Addr} {items : Array Value} {n : Nat} {t u : Tok} {ps : Array Value} {parts : List (Str × Str)}
    (C : Cx w mg mb h₀) (M : ∃ bm ob, BMod h₀ mainGlobals mg bm ob) (hh : A.handled = none) (H : At h₀ s.heap [(a, accObj d items n), (d, dictOf (daEs w t u) 1), (140, tabObj ps)]) (htr : TriplesOk ps.toList) (hda : @LT.lt Nat _ d a) (h140 : @LT.lt Nat _ 140 d) (hroom : A.depth + 5 < recursionLimit)
    (hparts : PartsAt h₀ items.toList parts) (hz : items.size ≤ 100) (hlen : ∀ p ∈ parts, p.1.length ≤ 1000 ∧ p.2.length ≤ 1000)
    (hQ : ∀ ps' t' s', TriplesOk ps'.toList → At h₀ s'.heap [(a, accObj d items n), (d, dictOf (daEs w t u) 1), (140, tabObj ps')] → s'.os = s.os → GX s.gens s'.gens → Q (.int (sizeP parts : Nat) t') s') :
    wpAny (model PR w) A (call (.ref 145) [.ref a]) Q E s := by
  have C' := C
  obtain ⟨X, T⟩ := C
  refine wpAny_call ?_
  have Xs := X.keeps H.keep
  have Ts := T.keeps H.keep
  have hmgl : mg (Str.ofString "len") = none := mg_none_of X T.g (by k_is)
  k_dflt (refine' enter_def (binds := [(Str.ofString "self", .ref a)]) ?k1 ?k2 ?k3 ?k4 ?k5 ?k6 ?k7 ?_ ?c1 ?c2 ?c3 ?c4; (case k1 => exact Xs); (case k2 => exact Ts.nolimit); (case k3 => k_is); (case k4 => k_is); (case k5 => omega); (case k6 => exact BindsTo.of_eq rfl); (case k7 => exact locs rfl); (case c1 => exact rfl); (case c2 => exact rfl); (case c3 => exact rfl); (case c4 => decide))
  intro L h₁ F₀ hL
  obtain ⟨F, N⟩ := H.enter F₀
  clear F₀ Xs Ts
  (try dsimp only)
  (try k_fold)
  k_steps
  refine Hold.mk ?_
  have hFv : ∀ i fw p, parts[i]? = some (fw, p) → (parts.map fun p => ((p.1.length + p.2.length : Nat) : Int)).getD i 0 = (fw.length + p.length : Nat) := fun i fw p e => by
    simp [List.getD_eq_getElem?_getD, e]
  k_dflt (refine' gen_parts (a := a) (d := d) (P := 140) (c := 144) (items := items) (n := n) (parts := parts) (Fv := fun i y => ∃ t, y = .int ((parts.map fun p => ((p.1.length + p.2.length : Nat) : Int)).getD i 0) t) F X T M hh ?room ?I ?ha ?hP ?hP0 htr ?haP ?hLP hparts ?self ?g1 ?g2 ?g3 ?g4 ?g5 ?g6 ?g7 ?g8 ?g9 ?g10 ?g11 ?g12 ?g13 ?g14 ?g15 ?g16 ?g17 ?g18 ?helt ?hQ; (case room => (show A.depth + 1 < recursionLimit; omega)); (case I => k_inst); (case ha => exact (N _ (.head _)).2.2); (case hP => exact (N _ (.tail _ (.tail _ (.head _)))).1); (case hP0 => exact (N _ (.tail _ (.tail _ (.head _)))).2.2); (case haP => k_ne); (case hLP => exact fun e => (N _ (.tail _ (.tail _ (.head _)))).2.1 e.symm); (case self => rfl); (case g1 => k_is); (case g2 => k_is); (case g3 => k_is); (case g4 => rfl); (case g5 => exact ⟨_, _, rfl⟩); (case g6 => exact ⟨_, _, rfl⟩); (case g7 => exact ⟨_, rfl⟩); (case g8 => exact ⟨_, _, rfl⟩); (case g9 => decide); (case g10 => rfl); (case g11 => rfl); (case g12 => rfl); (case g13 => rfl); (case g14 => decide); (case g15 => rfl); (case g16 => rfl); (case g17 => rfl); (case g18 => rfl))
  case helt =>
    intro A' E' C code i fw p t1 t2 s₂ m₂ hA hp hn ma mb T₂ X₂
    have hl := hlen _ (List.mem_of_getElem? hp)
    have e1 := hl.1
    have e2 := hl.2
    refine wpAny_BinOp (Call_ (ldB (.builtin "len") T₂ hmgl (PyProof.Rows.callWith_builtin1 (spliced_more (ldN hn ma (spliced_none (P.len_str (by dsimp only at e1; omega) (Call_ (ldB (.builtin "len") T₂ hmgl (PyProof.Rows.callWith_builtin1 (spliced_more (ldN hn mb (spliced_none (P.len_str (by dsimp only at e2; omega) (PyProof.Rows.add_int ?_)))))))))))))))
    refine ⟨?_, _, _, rfl, fun _ _ e => e⟩
    have e3 : ((fw.length + p.length : Nat) : Int) = (fw.length : Int) + p.length := by push_cast; rfl
    rw [hFv i fw p hp, e3]
    exact ⟨_, rfl⟩
  case hQ =>
    intro g C I ps' k St fp P' s' F' hP' htr' hk' W hst hPF hT hgf hfp hC hI hkg hgx hos
    have N' : News h₀ L s'.heap [(a, accObj d items n), (d, dictOf (daEs w t u) 1), (140, tabObj ps')] := by
      intro p hp
      rcases List.mem_cons.mp hp with rfl | hp
      · exact ⟨hk' _ _ (by k_ne) (N _ (.head _)).1, (N _ (.head _)).2⟩
      rcases List.mem_cons.mp hp with rfl | hp
      · exact ⟨hk' _ _ (by k_ne) (N _ (.tail _ (.head _))).1, (N _ (.tail _ (.head _))).2⟩
      · rw [List.mem_singleton.mp hp]
        exact ⟨hP', (N _ (.tail _ (.tail _ (.head _)))).2⟩
    have lt1 : ∀ p ∈ [(a, accObj d items n), (d, dictOf (daEs w t u) 1), (140, tabObj ps')], p.1 < h₁.objs.size := by
      intro p hp
      rcases List.mem_cons.mp hp with rfl | hp
      · exact Heap.lt_size (N _ (.head _)).1
      rcases List.mem_cons.mp hp with rfl | hp
      · exact Heap.lt_size (N _ (.tail _ (.head _))).1
      · rw [List.mem_singleton.mp hp]
        exact Heap.lt_size (N _ (.tail _ (.tail _ (.head _)))).1
    have offw : ∀ b, b < h₁.objs.size → b ∉ [C, I] := fun b hb hm => by
      rcases List.mem_cons.mp hm with e | hm
      · exact absurd (Nat.lt_of_lt_of_le hb hC) (e ▸ Nat.lt_irrefl _)
      · exact absurd (Nat.lt_of_lt_of_le hb hI) ((List.mem_singleton.mp hm) ▸ Nat.lt_irrefl _)
    refine spliced_more (Attribute_Name_ (ld F' rfl ?_))
    k_dflt (refine' get_seq F' X ?I ?k4 ?k5 ?k6 ?k7 ?k8 ?k9 ?k10 ?k11 ?_; (case I => k_inst); (case k4 => k_is); (case k5 => k_is); (case k6 => k_is); (case k7 => k_is); (case k8 => k_is); (case k9 => k_is); (case k10 => k_get); (case k11 => k_handed))
    refine spliced_none ?_
    have hst' : St 0 { s' with toks := s'.toks + 1 } := W.frame 0 s' s'.heap _ hst (Nat.le_succ _) fun _ _ _ e => e
    refine sum_start (W.of_in1.of_in1.of_in1.self 0 _ _ _ hst' ⟨g, fp, [C, I], GenOnlyQ k, items.size, P', St, _, rfl, W.of_in1.of_in1.of_in1, hst', hfp, fun i v hv => hPF i v hv, fun s'' t'' hm => ?_⟩)
    have hlow : ∀ b ∈ [C, I], h₀.objs.size ≤ b := fun b hb => by
      have hL0 : h₀.objs.size ≤ h₁.objs.size := Nat.le_trans F.above (Nat.le_of_lt F.ns.lt)
      rcases List.mem_cons.mp hb with e | hb
      · rw [e]; exact Nat.le_trans hL0 hC
      · rw [List.mem_singleton.mp hb]; exact Nat.le_trans hL0 hI
    obtain ⟨F'', N''⟩ := moved_fr (s := { s' with toks := s'.toks + 1 }) F' N' hm hlow (offw L F.ns.lt) (fun p hp => offw _ (lt1 p hp))
    have hsz : items.size = parts.length := by rw [← hparts.length, Array.length_toList]
    rw [hsz, preSum_parts]
    exact hQ ps' _ _ htr' (At.leave F'' N'') (hm.os.trans hos) (hgx.only hkg hm.gens)

end
section
open PySem PySem.W PyProof.Rows PySem.Calls
example : True := by
  w_top off
  trivial
set_option maxRecDepth 100000
set_option maxHeartbeats 1000000


noncomputable def partS (p : Str × Str) : Str := Txt.join (Str.ofString "") [p.1, p.2]
noncomputable def strP (parts : List (Str × Str)) : Str := Txt.join (Str.ofString "") (parts.map partS)
theorem partS_length (p : Str × Str) : (partS p).length ≤ p.1.length + p.2.length := by
  have h1 := StrLaws.join_length_le (Str.ofString "") [p.1, p.2]
  have h3 : (Str.ofString "").length = 0 := by decide +kernel
  rw [h3] at h1
  unfold partS
  rw [Txt.join, StrLaws.glued_eq_join]
  simp only [List.map_cons, List.map_nil, List.sum_cons, List.sum_nil] at h1
  omega
theorem strValues_length (l : List (Str × Tok)) : (strValues l).length = l.length := by simp [strValues]
theorem strValues_get (l : List (Str × Tok)) (j : Nat) (h : j < l.length) : (strValues l)[j]? = some (.str l[j].1 l[j].2) := by simp [strValues, h]
theorem ldG {M : Model} {A : Around} {E : Value → Shared → Prop} {s : Shared} {env : Env} {mg mb : Str → Option Value} {x : Str} {pos : Pos} {v : Value} {Q : Value → Shared → Prop} (T : Stat mg mb s.heap) (hx : mg x = some v) (h : Q v s)
    (hk : autoParam (env.scope.kind = .function) rflT) (hl : autoParam (env.kindOf x = some .globalImplicit) rflT) (hg : autoParam (env.globals = mainGlobals) rflT) (hd : autoParam ((x == ("__debug__" : Str)) = false) decT) :
    wpAny M A (eval (.Name x pos) env) Q E s :=
  Calls.Name_function_global hk hl (loadGlobal_global (hg ▸ T.g) hx h) hd

theorem c_str {w : World} {mg mb : Str → Option Value} {A : Around} {s : Shared} {h₀ : Heap} {Q E : Value → Shared → Prop} {a d : Addr} {items : Array Value} {n : Nat} {t u : Tok} {ps : Array Value} {parts : List (Str × Str)}
    (C : Cx w mg mb h₀) (M : ∃ bm ob, BMod h₀ mainGlobals mg bm ob) (hh : A.handled = none) (H : At h₀ s.heap [(a, accObj d items n), (d, dictOf (daEs w t u) 1), (147, tabObj ps)]) (htr : TriplesOk ps.toList) (hda : @LT.lt Nat _ d a) (h147 : @LT.lt Nat _ 147 d) (hroom : A.depth + 5 < recursionLimit)
    (hparts : PartsAt h₀ items.toList parts) (hz : items.size ≤ 100) (hlen : ∀ p ∈ parts, p.1.length ≤ 1000 ∧ p.2.length ≤ 1000)
    (hQ : ∀ ps' t' s', TriplesOk ps'.toList → At h₀ s'.heap [(a, accObj d items n), (d, dictOf (daEs w t u) 1), (147, tabObj ps')] → s'.os = s.os → GX s.gens s'.gens → Q (.str (strP parts) t') s') :
    wpAny (model PR w) A (call (.ref 152) [.ref a]) Q E s := by
  have C' := C
  obtain ⟨X, T⟩ := C
  refine wpAny_call ?_
  have Xs := X.keeps H.keep
  have Ts := T.keeps H.keep
  obtain ⟨tE, hmgE⟩ : ∃ tE, mg (Str.ofString "EMPTYSTRING") = some (.str (Str.ofString "") tE) := ⟨_, mg_of X T.g (by k_is)⟩
  k_dflt (refine' enter_def (binds := [(Str.ofString "self", .ref a)]) ?k1 ?k2 ?k3 ?k4 ?k5 ?k6 ?k7 ?_ ?c1 ?c2 ?c3 ?c4; (case k1 => exact Xs); (case k2 => exact Ts.nolimit); (case k3 => k_is); (case k4 => k_is); (case k5 => omega); (case k6 => exact BindsTo.of_eq rfl); (case k7 => exact locs rfl); (case c1 => exact rfl); (case c2 => exact rfl); (case c3 => exact rfl); (case c4 => decide))
  intro L h₁ F₀ hL
  obtain ⟨F, N⟩ := H.enter F₀
  clear F₀ Xs Ts
  (try dsimp only)
  (try k_fold)
  k_steps
  refine Hold.mk ?_
  k_dflt (refine' gen_parts (a := a) (d := d) (P := 147) (c := 151) (items := items) (n := n) (parts := parts) (Fv := fun i y => ∃ p t, parts[i]? = some p ∧ y = .str (partS p) t) F X T M hh ?room ?I ?ha ?hP ?hP0 htr ?haP ?hLP hparts ?self ?g1 ?g2 ?g3 ?g4 ?g5 ?g6 ?g7 ?g8 ?g9 ?g10 ?g11 ?g12 ?g13 ?g14 ?g15 ?g16 ?g17 ?g18 ?helt ?hQ; (case room => (show A.depth + 1 < recursionLimit; omega)); (case I => k_inst); (case ha => exact (N _ (.head _)).2.2); (case hP => exact (N _ (.tail _ (.tail _ (.head _)))).1); (case hP0 => exact (N _ (.tail _ (.tail _ (.head _)))).2.2); (case haP => k_ne); (case hLP => exact fun e => (N _ (.tail _ (.tail _ (.head _)))).2.1 e.symm); (case self => rfl); (case g1 => k_is); (case g2 => k_is); (case g3 => k_is); (case g4 => rfl); (case g5 => exact ⟨_, _, rfl⟩); (case g6 => exact ⟨_, _, rfl⟩); (case g7 => exact ⟨_, rfl⟩); (case g8 => exact ⟨_, _, rfl⟩); (case g9 => decide); (case g10 => rfl); (case g11 => rfl); (case g12 => rfl); (case g13 => rfl); (case g14 => decide); (case g15 => rfl); (case g16 => rfl); (case g17 => rfl); (case g18 => rfl))
  case helt =>
    intro A' E' C code i fw p t1 t2 s₂ m₂ hA hp hn ma mb T₂ X₂
    have hl := hlen _ (List.mem_of_getElem? hp)
    have e1 := hl.1
    have e2 := hl.2
    dsimp only at e1 e2
    refine MethodCall_ (ldG T₂ hmgE (GM.join (callWith_method1 (spliced_more (Tuple_ (spliced_more (ldN hn ma (spliced_more (ldN hn mb (spliced_none (wpAny_newTuple (spliced_none ?_) ?_)))))))))))
    · refine join_tuple ⟨_, Heap.get?_push_size _ rfl, rfl, _, rfl⟩ (PyProof.Rows.StrsAre.cons _ _ (PyProof.Rows.StrsAre.cons _ _ .nil)) ?_ fun t' k => ?_
      · have e3 : (Str.ofString "").length = 0 := by decide +kernel
        simp only [List.map_cons, List.map_nil, List.sum_cons, List.sum_nil, List.length_cons, List.length_nil, e3]
        omega
      · exact ⟨⟨_, _, hp, rfl⟩, _, _, rfl, fun b o e => Heap.get?_push_of_some _ e⟩
    · show (1 + 1 : Nat) ≤ 2 ^ 24
      decide
  case hQ =>
    intro g C I ps' k St fp P' s' F' hP' htr' hk' W hst hPF hT hgf hfp hC hI hkg hgx hos
    have N' : News h₀ L s'.heap [(a, accObj d items n), (d, dictOf (daEs w t u) 1), (147, tabObj ps')] := by
      intro p hp
      rcases List.mem_cons.mp hp with rfl | hp
      · exact ⟨hk' _ _ (by k_ne) (N _ (.head _)).1, (N _ (.head _)).2⟩
      rcases List.mem_cons.mp hp with rfl | hp
      · exact ⟨hk' _ _ (by k_ne) (N _ (.tail _ (.head _))).1, (N _ (.tail _ (.head _))).2⟩
      · rw [List.mem_singleton.mp hp]
        exact ⟨hP', (N _ (.tail _ (.tail _ (.head _)))).2⟩
    have lt1 : ∀ p ∈ [(a, accObj d items n), (d, dictOf (daEs w t u) 1), (147, tabObj ps')], p.1 < h₁.objs.size := by
      intro p hp
      rcases List.mem_cons.mp hp with rfl | hp
      · exact Heap.lt_size (N _ (.head _)).1
      rcases List.mem_cons.mp hp with rfl | hp
      · exact Heap.lt_size (N _ (.tail _ (.head _))).1
      · rw [List.mem_singleton.mp hp]
        exact Heap.lt_size (N _ (.tail _ (.tail _ (.head _)))).1
    have offw : ∀ b, b < h₁.objs.size → b ∉ [C, I] := fun b hb hm => by
      rcases List.mem_cons.mp hm with e | hm
      · exact absurd (Nat.lt_of_lt_of_le hb hC) (e ▸ Nat.lt_irrefl _)
      · exact absurd (Nat.lt_of_lt_of_le hb hI) ((List.mem_singleton.mp hm) ▸ Nat.lt_irrefl _)
    refine spliced_none ?_
    show wpAny _ _ (call (.builtin "str.join") [.str (Str.ofString "") _, .ref g]) _ _ _
    refine SC.joinGen W.of_in1.of_in1 hT hst hfp hgf (fun i v hv => ?_) (fun s'' l hm hit => ?_) (by rw [sizeLine_eq]; omega)
    · obtain ⟨p, t, _, e⟩ := hPF i v hv
      exact ⟨_, _, e⟩
    have hl : l.map (·.1) = parts.map partS := by
      have hn1 : l.length = parts.length := by
        have := hit.1
        rw [List.size_toArray, strValues_length] at this
        rw [this, ← hparts.length, Array.length_toList]
      refine List.ext_getElem (by rw [List.length_map, List.length_map, hn1]) fun j h1 h2 => ?_
      have hj : j < l.length := by simpa using h1
      obtain ⟨p, t, e1, e2⟩ := hPF j _ (hit.2 j (.str l[j].1 l[j].2) (by rw [List.getElem?_toArray, strValues_get _ _ hj]))
      have e3 := Option.some.inj ((List.getElem?_eq_getElem (by omega)).symm.trans e1)
      rw [List.getElem_map, List.getElem_map, e3]
      injection e2
    have hlow : ∀ b ∈ [C, I], h₀.objs.size ≤ b := fun b hb => by
      have hL0 : h₀.objs.size ≤ h₁.objs.size := Nat.le_trans F.above (Nat.le_of_lt F.ns.lt)
      rcases List.mem_cons.mp hb with e | hb
      · rw [e]; exact Nat.le_trans hL0 hC
      · rw [List.mem_singleton.mp hb]; exact Nat.le_trans hL0 hI
    obtain ⟨F'', N''⟩ := moved_fr F' N' hm hlow (offw L F.ns.lt) (fun p hp => offw _ (lt1 p hp))
    rw [hl]
    refine ⟨?_, fun t' k' => ?_⟩
    · refine joinOk_of_weight ?_ (by decide +kernel)
      have b1 := sum_le_mul (parts.map partS) 2000 fun x hx => by
        obtain ⟨p, hp, rfl⟩ := List.mem_map.mp hx
        have b2 := partS_length p
        have b3 := hlen p hp
        omega
      have b4 : (parts.map partS).length ≤ 100 := by rw [List.length_map, ← hparts.length, Array.length_toList]; exact hz
      have b5 : (parts.map partS).length * 2000 ≤ 100 * 2000 := Nat.mul_le_mul_right _ b4
      omega
    · exact hQ ps' _ _ htr' (At.leave F'' N'') (hm.os.trans hos) (hgx.only hkg hm.gens)

end
end
section
open PySem PySem.W PyProof.Rows PySem.Calls
example : True := by
  w_top off
  trivial
set_option maxRecDepth 100000
set_option maxHeartbeats 1000000
section
variable {prog : Program} {w : World} {A : Around} {E : Value → Shared → Prop} {s : Shared} {K : Frag} {x C f : Addr} {ox : Obj} {od : Option Obj}
theorem truthy_len {Q : Bool → Shared → Prop} (X : K.In s.heap) (I : InstAt s.heap x ox C od) (hs : findIn K (.ref C) "__bool__" = some none) (hl : findIn K (.ref C) "__len__" = some (some (.ref f))) (hf : isFn K (.ref f) = true)
    (h : wpAny (model prog w) A.in1 (call (.ref f) [.ref x]) (W.LenBack fun v s' => ∃ n t, v = .int n t ∧ Q (n != 0) s') E s) : wpAny (model prog w) A (truthy (.ref x)) Q E s := by
  unfold truthy
  refine wpAny_bind (m := callSpecial? (.ref x) (Str.ofString "__bool__")) (wpAny_bind (wpAny_bind (I.type.here ((looks_findIn X hs).here (wpAny_pure ?_)))))
  refine wpAny_bind (wpAny_bind (I.type.here ((looks_findIn X hl).here ?_)))
  rw [if_neg (by simp)]
  refine wpAny_bind (wpAny_runValue (codeAny_builtin entry_len ?_))
  rw [Around.under_plainId plain_len _]
  unfold Builtin.«len»
  refine wpAny_bind (m := oneArg "len" _) (wpAny_pure ?_)
  refine wpAny_bind (m := callSpecial? (.ref x) (Str.ofString "__len__")) (special_fn X I hl (beq_iff_eq.mp hf) (wpAny_mono h (fun r s' hr => ?_) fun _ _ y => y))
  cases r <;> first | exact hr.elim | skip
  rename_i n u
  obtain ⟨⟨h0, h1⟩, n', t', e, hq⟩ := hr
  cases e
  refine wpAny_bind (wpAny_holding (wpAny_pure ?_))
  refine wpAny_bind (wpAny_letGo ?_)
  show wpAny _ _ (if n < 0 then _ else _) _ _ _
  rw [if_neg (by omega)]
  show wpAny _ _ (if n ≥ 2 ^ 63 then _ else _) _ _ _
  rw [if_neg (by omega)]
  exact wpAny_bind (wpAny_mkInt (wpAny_pure (wpAny_pure hq)))
end
set_option hygiene false
local macro_rules | `(tactic| walk_at "getAttr ref") => `(tactic| (k_here; k_dflt (refine get_seq (by k_asm) (by k_asm) (by k_inst) (by k_is) (by k_is) (by k_is) (by k_is) (by k_is) (by k_is) (by k_get) (by k_handed) ?_; k_whole)))
set_option hygiene true
set_option hygiene false
local macro_rules | `(tactic| walk_at "truthy ref") => `(tactic| refine Hold.out ?_)
set_option hygiene true
set_option hygiene false
local macro_rules | `(tactic| walk_at "call type:str") => `(tactic| refine Hold.out ?_)
set_option hygiene true

theorem sizeP_le (parts : List (Str × Str)) (h : ∀ p ∈ parts, p.1.length ≤ 1000 ∧ p.2.length ≤ 1000) : sizeP parts ≤ parts.length * 2000 := by
  unfold sizeP
  induction parts with
  | nil => simp
  | cons p r ih =>
    have h1 := h p (.head _)
    have h2 := ih fun q hq => h q (.tail _ hq)
    simp only [List.map_cons, List.sum_cons, List.length_cons, Nat.succ_mul]
    omega

theorem c_only {w : World} {mg mb : Str → Option Value} {A : Around} {s : Shared} {h₀ : Heap} {Q E : Value → Shared → Prop} {a d : Addr} {items : Array Value} {n : Nat} {t u : Tok} {ps ps2 : Array Value} {parts : List (Str × Str)}
    (C : Cx w mg mb h₀) (M : ∃ bm ob, BMod h₀ mainGlobals mg bm ob) (hh : A.handled = none) (hu : A.units + 100 < cLine) (H : At h₀ s.heap [(a, accObj d items n), (d, dictOf (daEs w t u) 1), (140, tabObj ps), (147, tabObj ps2)]) (htr : TriplesOk ps.toList) (htr2 : TriplesOk ps2.toList) (hda : @LT.lt Nat _ d a) (h147 : @LT.lt Nat _ 147 d) (hroom : A.depth + 10 < recursionLimit)
    (hparts : PartsAt h₀ items.toList parts) (hz : items.size ≤ 100) (hlen : ∀ p ∈ parts, p.1.length ≤ 1000 ∧ p.2.length ≤ 1000) (hpos : 0 < sizeP parts) (hsp : Txt.isspace (strP parts) = false)
    (hQ : ∀ ps' ps2' s', TriplesOk ps'.toList → TriplesOk ps2'.toList → At h₀ s'.heap [(a, accObj d items n), (d, dictOf (daEs w t u) 1), (140, tabObj ps'), (147, tabObj ps2')] → s'.os = s.os → GX s.gens s'.gens → Q (.bool false) s') :
    wpAny (model PR w) A (call (.ref 167) [.ref a]) Q E s := by
  have C' := C
  obtain ⟨X, T⟩ := C
  refine wpAny_call ?_
  have Xs := X.keeps H.keep
  have Ts := T.keeps H.keep
  k_dflt (refine' enter_def (binds := [(Str.ofString "self", .ref a)]) ?k1 ?k2 ?k3 ?k4 ?k5 ?k6 ?k7 ?_ ?c1 ?c2 ?c3 ?c4; (case k1 => exact Xs); (case k2 => exact Ts.nolimit); (case k3 => k_is); (case k4 => k_is); (case k5 => omega); (case k6 => exact BindsTo.of_eq rfl); (case k7 => exact locs rfl); (case c1 => exact rfl); (case c2 => exact rfl); (case c3 => exact rfl); (case c4 => decide))
  intro L h₁ F₀ hL
  obtain ⟨F, N⟩ := H.enter F₀
  clear F₀ Xs Ts
  (try dsimp only)
  (try k_fold)
  k_steps
  refine Hold.mk ?_
  k_dflt (refine' truthy_len ?X ?I ?a ?b ?c ?_; (case X => exact X.keeps F.keep); (case I => k_inst); (case a => k_is); (case b => k_is); (case c => k_is))
  obtain ⟨HA, hk⟩ := lend (lent := [(a, accObj d items n), (d, dictOf (daEs w t u) 1), (140, tabObj ps)]) F N (by k_all)
  have b1 := sizeP_le parts hlen
  have b2 : parts.length ≤ 100 := by rw [← hparts.length, Array.length_toList]; exact hz
  refine c_len (C'.keeps hk) (M.imp fun _ m => m.imp fun _ m => m.keeps hk) hh HA htr hda (by omega) (by show A.depth + 1 + 5 < recursionLimit; omega) (hparts.keeps hk) hz hlen fun ps' t' s' htr' HB hos hgx => ?_
  refine ⟨⟨by omega, by omega⟩, _, _, rfl, ?_⟩
  obtain ⟨F', N'⟩ := back (rest := [(147, tabObj ps2)]) F N (by k_all) (by k_all) (by k_all) HB
  dsimp only [List.cons_append, List.nil_append] at N'
  have hne : (((sizeP parts : Nat) : Int) != 0) = true := by simp; omega
  rw [hne]
  clear F N HA hk HB
  k_steps
  refine Hold.mk ?_
  k_dflt (refine' kso_call ?U ?X ?I ?a ?b ?_; (case U => first | (show A.units + 3 + 3 + 3 < cLine; omega) | (show A.units + 3 + 1 + 1 < cLine; omega) | (show A.units + 3 + 2 + 2 < cLine; omega)); (case X => exact X.keeps F'.keep); (case I => k_inst); (case a => k_is); (case b => k_is))
  obtain ⟨HA, hk⟩ := lend (lent := [(a, accObj d items n), (d, dictOf (daEs w t u) 1), (147, tabObj ps2)]) F' N' (by k_all)
  refine c_str (C'.keeps hk) (M.imp fun _ m => m.imp fun _ m => m.keeps hk) hh HA htr2 hda (by omega) (by show A.depth + 1 + 5 < recursionLimit; omega) (hparts.keeps hk) hz hlen fun ps2' t2' s'' htr2' HB hos2 hgx2 => ?_
  show wpAny _ _ _ _ _ _
  obtain ⟨F'', N''⟩ := back (rest := [(140, tabObj ps')]) F' N' (by k_all) (by k_all) (by k_all) HB
  dsimp only [List.cons_append, List.nil_append] at N''
  clear F' N' HA hk HB
  k_steps
  rw [hsp]
  exact hQ ps' ps2' _ htr' htr2' (At.leave F'' fun p hp => N'' p (by
    rcases List.mem_cons.mp hp with rfl | hp
    · k_mem
    rcases List.mem_cons.mp hp with rfl | hp
    · k_mem
    rcases List.mem_cons.mp hp with rfl | hp
    · k_mem
    rw [List.mem_singleton.mp hp]
    k_mem)) (hos2.trans hos) (hgx.trans hgx2)

end
section
open PySem PySem.W PyProof.Rows PySem.Calls
example : True := by
  w_top off
  trivial
set_option maxRecDepth 100000
set_option maxHeartbeats 1000000
set_option hygiene false
local macro_rules | `(tactic| walk_at "subscriptTail Name Slice ref ref") => `(tactic| refine Hold.out ?_)
set_option hygiene true

theorem pick_last (init : List Value) (y : Value) : slicePick (init ++ [y]).toArray (some (init.length : Int)) none none = #[y] := by
  have e : sliceBounds (some (init.length : Int)) none none (init ++ [y]).toArray.size = ((init.length : Int), ((init.length + 1 : Nat) : Int), 1) := by
    simp [sliceBounds]; exact max_min
  unfold slicePick
  rw [e]
  have e2 : sliceRange (init.length : Int) ((init.length + 1 : Nat) : Int) 1 = [init.length] := by
    unfold sliceRange
    simp
    refine ⟨0, ?_, by simp⟩
    have : (if (init.length : Int) < (init.length : Int) + 1 then (init.length : Int) + 1 - (init.length : Int) else 0).toNat = 1 := by
      rw [if_pos (by omega)]; omega
    rw [this]; rfl
  dsimp only
  rw [e2]
  simp
theorem cut_last (init : List Value) (y : Value) : (init ++ [y]).toArray.extract 0 (sliceBounds (some (init.length : Int)) none none (init ++ [y]).toArray.size).1.toNat ++ #[] ++ (init ++ [y]).toArray.extract (max (sliceBounds (some (init.length : Int)) none none (init ++ [y]).toArray.size).1 (sliceBounds (some (init.length : Int)) none none (init ++ [y]).toArray.size).2.1).toNat (init ++ [y]).toArray.size = init.toArray := by
  have e : sliceBounds (some (init.length : Int)) none none (init ++ [y]).toArray.size = ((init.length : Int), ((init.length + 1 : Nat) : Int), 1) := by
    simp [sliceBounds]; exact max_min
  rw [e]
  dsimp only
  have e3 : (max (init.length : Int) ((init.length + 1 : Nat) : Int)).toNat = init.length + 1 := max_succ
  rw [e3]
  apply Array.ext'
  simp

section
variable {prog : Program} {w : World} {A : Around} {E : Value → Shared → Prop} {s : Shared} {K : Frag} {x C dx : Addr} {od' : Obj} {items : Array Value} {n : Nat} {h₀ : Heap} {L : Addr} {m : Str → Option Value} {news : List (Addr × Obj)}
theorem slice_seq {value slice : Expr} {vl vu : Value} {lo hi : Option Int} {Q : Value → Shared → Prop} (F : Fr h₀ L s.heap m) (X₀ : K.In h₀) (N : News h₀ L s.heap news) (I : InstAt s.heap x (seqObj C dx items n) C (some od'))
    (hq : noSeq K C = true) (hf : findIn K (.ref C) "__getitem__" = some (some (.builtin "list.__getitem__"))) (hm : mroIn K C (.type "list") = some true) (pl : IsPart vl lo) (pu : IsPart vu hi) (hsz : items.size ≤ 1000)
    {R : Array Value} (hR : slicePick items lo hi none = R)
    (h : ∀ l h', Fr h₀ L h' m → News h₀ L h' ((l, W.listOf R 0) :: news) → (∀ p ∈ news, p.1 < l) → Q (.ref l) { s with heap := h' })
    (hs : subscripted slice false (.ref x) (.ref s.heap.objs.size) = operate [.ref s.heap.objs.size, .ref x] (getItem (.ref x) (.ref s.heap.objs.size)) := by with_unfolding_all rfl) :
    wpAny (model prog w) A (subscriptTail value slice (.ref x) (.ref s.heap.objs.size)) Q E { s with heap := s.heap.push { cls := .type "slice", data := .fields #[vl, vu, .none] } } := by
  have k1 : ∀ b o, s.heap.get? b = some o → (s.heap.push { cls := .type "slice", data := .fields #[vl, vu, .none] }).get? b = some o := fun _ _ e => Heap.get?_push_of_some _ e
  have I1 : InstAt (s.heap.push { cls := .type "slice", data := .fields #[vl, vu, .none] }) x (seqObj C dx items n) C (some od') := ⟨k1 _ _ I.at_, I.cls, I.no, k1 _ _ I.dict⟩
  have X1 := (X₀.keeps F.keep).keeps k1
  refine subTail_sub X1 I1 hf (getItem_sub X1 I1 hq hf hm (b_getslice I1.at_ (Heap.IsSliceOf.new ..) pl pu (by rw [sizeLine_eq]; omega) ⟨_, rfl, ?_⟩)) hs
  have N1 := News.push (F.push { cls := .type "slice", data := .fields #[vl, vu, .none] }) (N.grown k1) { cls := .type "list", data := .seq (slicePick items lo hi none) }
  rw [hR] at N1 ⊢
  exact h _ _ ((F.push _).push _) N1 fun p hp => Heap.lt_size (k1 _ _ (N p hp).1)
end

theorem c_popfrom {w : World} {mg mb : Str → Option Value} {A : Around} {s : Shared} {h₀ : Heap} {Q E : Value → Shared → Prop} {a d : Addr} {init : List Value} {y : Value} {n : Nat} {t u ti : Tok}
    (C : Cx w mg mb h₀) (H : At h₀ s.heap [(a, accObj d (init ++ [y]).toArray n), (d, dictOf (daEs w t u) 1)]) (hda : @LT.lt Nat _ d a) (hroom : A.depth < recursionLimit) (hz : init.length ≤ 100)
    (hQ : ∀ l n' s', At h₀ s'.heap [(l, W.listOf #[y] 0), (a, accObj d init.toArray n'), (d, dictOf (daEs w t u) 1)] → (a : Nat) < l → s'.os = s.os → s'.gens = s.gens → Q (.ref l) s') :
    wpAny (model PR w) A (call (.ref 130) [.ref a, .int init.length ti]) Q E s := by
  obtain ⟨X, T⟩ := C
  refine wpAny_call ?_
  have Xs := X.keeps H.keep
  have Ts := T.keeps H.keep
  k_dflt (refine' enter_def (binds := [(Str.ofString "self", .ref a), (Str.ofString "i", .int init.length ti)]) ?k1 ?k2 ?k3 ?k4 ?k5 ?k6 ?k7 ?_ ?c1 ?c2 ?c3 ?c4; (case k1 => exact Xs); (case k2 => exact Ts.nolimit); (case k3 => k_is); (case k4 => k_is); (case k5 => exact hroom); (case k6 => first | exact BindsTo.of_eq rfl | exact binds_K Xs rfl (by k_is) rfl rfl rfl); (case k7 => exact locs rfl); (case c1 => exact rfl); (case c2 => exact rfl); (case c3 => exact rfl); (case c4 => decide))
  intro L h₁ F₀ hL
  obtain ⟨F, N⟩ := H.enter F₀
  clear F₀ Xs Ts
  (try dsimp only)
  (try k_fold)
  k_steps
  refine Hold.mk ?_
  k_dflt (refine' slice_seq (lo := some (init.length : Int)) (hi := none) F X N ?I ?a ?b ?c (.int _ _) .none ?sz (pick_last init y) ?_; (case I => k_inst); (case a => k_is); (case b => k_is); (case c => k_is); (case sz => (rw [List.size_toArray, List.length_append]; simp; omega)))
  intro l h2 F2 N2 l2
  k_lt l2
  clear F N
  k_steps
  rename Fr _ _ _ _ => F3
  rename News _ _ _ _ => N3
  k_dflt (refine' setItem_sub (lo := some (init.length : Int)) (hi := none) (new := #[]) (F3.push _) X (N3.grown fun _ _ e => Heap.get?_push_of_some _ e) ?I ?k5 ?k6 ?k7 ⟨_, Heap.get?_push_of_some _ (N3 _ (.head _)).1, rfl, _, rfl⟩ ?ne (Heap.IsSliceOf.new ..) (.int _ _) .none ?sz ?sn (cut_last init y) ?U ?_; (case I => refine' instSeq (N3.grown fun _ _ e => Heap.get?_push_of_some _ e) ?h1 ?h2; (case h1 => k_mem); (case h2 => k_mem)); (case k5 => k_is); (case k6 => k_is); (case k7 => k_is); (case ne => k_ne); (case sz => (rw [List.size_toArray, List.length_append]; simp; omega)); (case sn => decide); (case U => k_upd))
  intro h4 F4 N4
  clear F3 N3
  k_steps
  rename Fr _ _ _ _ => F9
  rename News _ _ _ _ => N9
  exact hQ _ _ _ (At.leave F9 fun p hp => N9 p (.tail _ hp)) l2.1 rfl rfl

end
section
open PySem PySem.W PyProof.Rows PySem.Calls PySem.Builtin
example : True := by
  w_top off
  trivial
set_option maxRecDepth 100000
set_option maxHeartbeats 4000000

theorem ln_kind : builtinKind "list.__new__" = some .builtinFn := by decide +kernel
theorem ln_split : splitId "list.__new__" = some ("list", "__new__") := by decide +kernel
theorem ln_args (C : Addr) (rest : List Value) : argsOk "list.__new__" ⟨.ref C :: rest, []⟩ := by unfold argsOk; kernel_rfl

structure MakesL (M : Model) (h : Heap) (C : Addr) : Prop where
  obj : ∃ oc od cd sl, h.get? C = some ⟨oc, od, .cls cd, sl⟩ ∧ cd.hasDel = false ∧ cd.mro.isEmpty = false
  made : Looks M h (Bind.madeBy (.ref C)) (some "list.__new__")
  base : Looks M h (Bind.staticBase (.ref C)) (.ref C)
  self : Looks M h (isSubtype (.ref C) (.ref C)) true
  lst : Looks M h (isSubtype (.ref C) (.type "list")) true
  call : Looks M h (specialOf (.ref C) "__call__") (some (.builtin "type.__call__"))
  typ : Looks M h (isInstance (.ref C) (.type "type")) true
theorem makesL_of {K : Frag} {M : Model} {h : Heap} {C : Addr} {oc : Value} {od : Option Addr} {cd : ClassData} {sl : Array (Option Value)} (X : K.In h) (ho : K.lookup C = some ⟨oc, od, .cls cd, sl⟩) (e2 : cd.hasDel = false) (e3 : (sl[4]?).join = some (.builtin "list.__new__"))
    (e4 : cd.mro.isEmpty = false) (e5 : cd.mro.contains (.ref C) = true) (e6 : cd.mro.contains (.type "list") = true) (e7 : specialIn K (.ref C) "__call__" = some (some (.builtin "type.__call__"))) (e8 : instIn K (.ref C) (.type "type") = some true) : MakesL M h C := by
  have hc : clsIn K C = some cd := by unfold clsIn; rw [ho]
  have hm : Looks M h (mroOf (.ref C)) cd.mro := (looks_clsIn X hc).andThen .now
  obtain ⟨c, l, hl⟩ : ∃ c l, cd.mro = c :: l := by cases q : cd.mro with | nil => rw [q] at e4; cases e4 | cons c l => exact ⟨c, l, rfl⟩
  have made : Looks M h (Bind.madeBy (.ref C)) (some "list.__new__") := by
    intro A Q E s k q
    unfold Bind.madeBy
    refine wpAny_bind (hm A _ E s k ?_)
    rw [hl, List.forIn_cons]
    refine wpAny_bind (wpAny_bind (wpAny_bind (wpAny_bind (wpAny_loadPart (k _ _ (X _ _ ho)) (wpAny_pure ?_)))))
    dsimp only
    rw [e3]
    exact wpAny_pure (wpAny_pure (wpAny_pure q))
  refine ⟨⟨oc, od, cd, sl, X _ _ ho, e2, e4⟩, made, ?_, looks_mroIn X ?_, looks_mroIn X ?_, looks_specialIn X e7, looks_instIn X e8⟩
  · intro A Q E s k q
    unfold Bind.staticBase
    refine wpAny_bind (hm A _ E s k ?_)
    rw [hl, List.forIn_cons]
    exact wpAny_bind (wpAny_bind (wpAny_bind (made A _ E s k (wpAny_pure (wpAny_pure (wpAny_pure q))))))
  · unfold mroIn; rw [hc, Option.bind_some, if_neg (by rw [e4]; decide), e5]
  · unfold mroIn; rw [hc, Option.bind_some, if_neg (by rw [e4]; decide), e6]

section
variable {prog : Program} {w : World} {A : Around} {K : Frag} {C : Addr} {R : Result → Shared → Prop} {h : Heap} {g : Array GenState} {d : Drawn} {t : Nat} {os : OsState}
theorem new_L {rest : List Value} (Y : MakesL (model prog w) h C) (hq : R (.ok (.ret (.ref (h.objs.size + 1)))) ⟨(h.push emptyDict).push (seqObj C h.objs.size #[] 0), g, d, t, os⟩) :
    codeAny (model prog w) A (.call (.builtin "list.__new__") ⟨.ref C :: rest, []⟩) R ⟨h, g, d, t, os⟩ := by
  obtain ⟨⟨oc, od, cd, sl, hC, e2, e4⟩, made, base, self, lst, call, typ⟩ := Y
  refine codeAny_call_builtin_code (plainId_quiet PySem.F.plain_list_new _) ?_
  unfold checkBuiltinCall
  rw [ln_kind, ln_split]
  dsimp only
  have hargs := ln_args C rest
  have isT : ∀ (A : Around) (E : Value → Shared → Prop) (Q : Bool → Shared → Prop), Q true ⟨h, g, d, t, os⟩ → wpAny (model prog w) A (isType (.ref C)) Q E ⟨h, g, d, t, os⟩ := fun A E Q q => ks_wpAny_isType_cls hC rfl q
  have fin : codeAny (model prog w) A (.builtin "list.__new__" ⟨.ref C :: rest, []⟩) R ⟨h, g, d, t, os⟩ := by
    refine codeAny_builtin_stack PySem.F.entry_list_new rfl fun p st => ?_
    dsimp only
    rw [owner_list_new]
    refine wpAny_bind (isT _ _ _ ?_)
    refine wpAny_ite_false (by decide) ?_
    refine wpAny_bind (lst.at ?_)
    refine wpAny_ite_false (by decide) ?_
    refine wpAny_bind (wpAny_pure ?_)
    refine wpAny_ite_false (by rfl) ?_
    refine wpAny_bind (wpAny_newObj_type ?_)
    dsimp only
    refine wpAny_bind ?_
    show wpAny _ _ (newObj (.ref C) (.seq #[]) (some h.objs.size)) _ _ _
    show wpAny _ _ (newObjAsIs _ _ _) _ _ _
    unfold newObjAsIs classHasDel
    refine wpAny_bind (wpAny_alloc (wpAny_bind (wpAny_bind (wpAny_load (Heap.get?_push_of_some _ (Heap.get?_push_of_some _ hC)) (wpAny_pure ?_)))))
    rw [e2]
    refine wpAny_pure (wpAny_pure ?_)
    show R _ _
    rw [Heap.size_push]
    exact hq
  refine wpAny_bind (isT _ _ _ ?_)
  refine wpAny_ite_false (by decide) ?_
  refine wpAny_bind (lst.at ?_)
  refine wpAny_ite_false (by decide) ?_
  refine wpAny_bind (base.at (wpAny_bind (made.at ?_)))
  dsimp only
  with_reducible refine wpAny_ite_false ?_ ?_
  · rw [bne_self_eq_false]; rfl
  exact wpAny_of_eq hargs fin

theorem make_L {rest : List Value} {init : Value} (Y : MakesL (model prog w) h C) (hi : Looks (model prog w) h (typeLookup (.ref C) "__init__") (some init)) (hb : ∀ self, Looks (model prog w) h (bindSpecial init self) (init, [self]))
    (hq : codeAny (model prog w) (A.under (.builtin "type.__call__" ⟨.ref C :: rest, []⟩)) (.call init ⟨.ref (h.objs.size + 1) :: rest, []⟩) (InitBack (h.objs.size + 1) R) ⟨(h.push emptyDict).push (seqObj C h.objs.size #[] 0), g, d, t, os⟩) :
    codeAny (model prog w) A (.call (.ref C) ⟨rest, []⟩) R ⟨h, g, d, t, os⟩ := by
  have Y' := Y
  obtain ⟨⟨oc, od, cd, sl, hC, e2, e4⟩, made, base, self, lst, call, typ⟩ := Y
  refine codeAny_of_tree ?_
  show wpAny _ _ (callAny (.ref C) _) _ _ _
  unfold callAny
  refine wpAny_bind (wpAny_load hC ?_)
  show wpAny _ _ (callAny.viaDunder (.ref C) _) _ _ _
  unfold callAny.viaDunder
  refine wpAny_bind (call.at ?_)
  dsimp only
  rw [tc_bind]
  refine wpAny_bind (wpAny_pure (wpAny_bind (wpAny_pure ?_)))
  refine wpAny_pure (a := Fin.again (.call (.builtin "type.__call__") ⟨.ref C :: rest, []⟩)) (And.intro rfl ?_)
  with_reducible refine codeAny_call_builtin_at ?_ entry_typeCall ?_
  · exact Code.quiet_builtin _ (by decide +kernel)
  with_reducible refine PySem.W.check_slot tc_kind tc_split typ ?_ ?_
  · exact tc_args _ _ _
  unfold Builtin.«type.__call__»
  have hm : Looks (model prog w) h (mroOf (.ref C)) cd.mro := ((Looks.ld (part := none) hC).andThen .now).andThen .now
  repeat (first | rw [e4] | rw [if_neg Bool.false_ne_true] | simp only [e4, Bool.false_eq_true, if_false] | with_reducible refine wpAny_call ?_ | lk)
  refine new_L Y' ?_
  have k : ∀ b o, h.get? b = some o → ((h.push emptyDict).push (seqObj C h.objs.size #[] 0)).get? b = some o := fun b o e => Heap.get?_push_of_some _ (Heap.get?_push_of_some _ e)
  have hx : ((h.push emptyDict).push (seqObj C h.objs.size #[] 0)).get? (h.objs.size + 1) = some (seqObj C h.objs.size #[] 0) := by heap_get
  have t1 : Looks (model prog w) ((h.push emptyDict).push (seqObj C h.objs.size #[] 0)) (typeOf (.ref (h.objs.size + 1))) (.ref C) := (Looks.ld hx).andThen .now
  have s1 := self.keeps k
  have i1 := hi.keeps k
  have b1 := (hb (.ref (h.objs.size + 1))).keeps k
  unfold isInstance callSpecial? specialOf
  repeat (first | with_reducible refine wpAny_call ?_ | lk)
  refine codeAny_mono hq fun r s' z => ?_
  rcases r with e | (v | _ | _ | _) <;> first | exact z | exact z.elim | skip
  obtain ⟨rfl, z⟩ := z
  exact wpAny_pure (wpAny_pure z)
end
section
variable {prog : Program} {w : World} {A : Around} {E : Value → Shared → Prop} {K : Frag} {C x : Addr} {s : Shared} {h₀ : Heap} {L : Addr} {m : Str → Option Value} {news : List (Addr × Obj)}
theorem make_acc {rest : List Value} {fI : Addr} {Q : Value → Shared → Prop} (F : Fr h₀ L s.heap m) (N : News h₀ L s.heap news) (Y : MakesL (model prog w) s.heap C) (X : K.In s.heap)
    (hi : findIn K (.ref C) "__init__" = some (some (.ref fI))) (hf : isFn K (.ref fI) = true)
    (h : ∀ x dx h', Fr h₀ L h' m → News h₀ L h' ((x, seqObj C dx #[] 0) :: (dx, dictOf [] 0) :: news) → (∀ p ∈ news, p.1 < dx) → @LT.lt Nat _ dx x →
      codeAny (model prog w) (A.under (.builtin "type.__call__" ⟨.ref C :: rest, []⟩)) (.call (.ref fI) ⟨.ref x :: rest, []⟩) (InitBack x fun r s' => match r with | .ok (.ret v) => Q v s' | .ok _ => False | .error e => E e s') { s with heap := h' }) :
    wpAny (model prog w) A (call (.ref C) rest) Q E s := by
  obtain ⟨hh, g, d, t, os⟩ := s
  refine wpAny_call (make_L Y (looks_findIn X hi) (fun self => bind_fn X self (beq_iff_eq.mp hf)) (h _ hh.objs.size _ ((F.push _).push _) ?_ (fun p hp => Heap.lt_size (N p hp).1) (Nat.lt_succ_self _)))
  have := (N.push F emptyDict).push (F.push _) (seqObj C hh.objs.size #[] 0)
  rwa [Heap.size_push] at this
end
section
variable {M : Model} {A : Around} {c : Code} {E : Value → Shared → Prop} {s : Shared} {env : Env}
theorem first_rest {st : Stmt} {rest : List Stmt} {Q : Flow → Shared → Prop} (Mid : Shared → Prop) (h1 : wpAny M A (exec st env) (fun f s' => Reach (f = .next ∧ Mid s')) E s)
    (h2 : ∀ s', Mid s' → _root_.PySem.wpAt M A c (execs rest env) Q E s') : _root_.PySem.wpAt M A c (execs (st :: rest) env) Q E s := by
  refine ks_wpAt_execs_cons (wpAt_of_wpAny (wpAny_mono h1 (fun f s' z => ?_) fun _ _ z => z))
  obtain ⟨⟨rfl, hm⟩⟩ := z
  exact h2 s' hm
end
local macro_rules | `(tactic| walk_at "getMethod ref") => `(tactic| (k_here; k_dflt (first
  | (refine super_slot (by k_asm) (by k_asm) (by k_asm) (by k_mem) (by k_inst) (by k_is) (by ks_is) (by first | exact .inl rfl | exact .inr rfl) (by k_is) (by decide) ?_; intro q' h' F' N' l1; (try k_lt l1))
  | (refine super_pop (by k_asm) (by k_asm) (by k_asm) (by k_mem) (by k_inst) (by k_is) (by ks_is) (by k_is) (by decide) ?_; intro q' h' F' N' l1; (try k_lt l1)))))
local macro_rules | `(tactic| walk_at "callWith ref") => `(tactic| (k_here; k_dflt (refine bound_len (by k_asm) (by k_mem) (by k_mem) ?_; intro t' k')))
local macro_rules | `(tactic| walk_at "callWith ref") => `(tactic| (k_here; k_dflt (refine bound_init (by k_asm) (by k_asm) (by k_mem) (by k_upd) ?_; intro h' F' N')))
local macro_rules | `(tactic| walk_at "wpAt") => `(tactic| (ks_step "attributeBase Call"; k_here; k_dflt (refine node_super (by k_asm) (by k_asm) (by k_asm) (by k_asm) (by k_is) (by rfl) (by rfl) (by k_inst) (by k_is) (by rfl) (by first | rfl | decide +kernel) (by k_is) (by k_is) (by k_is) (by k_is) (by decide) (by rfl) (by rfl) (by rfl) (by rfl) (by decide +kernel) (by first | boot_by_name | rfl | kernel_rfl) ?_; intro so' h' F' N' l1; (try k_lt l1))))
local macro_rules | `(tactic| walk_at "setAttr ref") => `(tactic| (k_here; k_dflt (refine set_seq (by k_asm) (by k_asm) (by k_asm) (by k_inst) (by exact rfl) (by k_is) (by kernel_rfl) (by k_is) (by k_is) (by k_get) (by k_put) (by k_upd) (Nat.le_of_ble_eq_true rfl) ?_; k_whole; intro h' F' N'; (try k_sweep))))

theorem c_init {w : World} {mg mb : Str → Option Value} {A : Around} {s : Shared} {h₀ : Heap} {R : Result → Shared → Prop} {a d : Addr} {ti : Tok}
    (C : Cx w mg mb h₀) (H : At h₀ s.heap [(a, accObj d #[] 0), (d, dictOf [] 0)]) (hda : @LT.lt Nat _ d a) (hroom : A.depth < recursionLimit)
    (hR : ∀ t' s', At h₀ s'.heap [(a, accObj d #[] 0), (d, dictOf (daEs w t' ti) 1)] → s'.os = s.os → s'.gens = s.gens → R (.ok (.ret .none)) s') :
    codeAny (model PR w) A (.call (.ref 115) ⟨[.ref a, .int 0 ti], []⟩) R s := by
  obtain ⟨X, T⟩ := C
  have Xs := X.keeps H.keep
  have Ts := T.keeps H.keep
  k_dflt (refine' enter_defAt (binds := [(Str.ofString "self", .ref a), (Str.ofString "initial_size", .int 0 ti)]) ?k1 ?k2 ?k3 ?k4 ?k5 ?k6 ?k7 ?_ ?c1 ?c2 ?c3 ?c4; (case k1 => exact Xs); (case k2 => exact Ts.nolimit); (case k3 => k_is); (case k4 => k_is); (case k5 => exact hroom); (case k6 => first | exact BindsTo.of_eq rfl | exact binds_K Xs rfl (by k_is) rfl rfl rfl); (case k7 => exact locs rfl); (case c1 => decide); (case c2 => exact rfl); (case c3 => exact rfl); (case c4 => exact rfl))
  intro L h₁ F₀ hL
  obtain ⟨F, N⟩ := H.enter F₀
  clear F₀ Xs Ts
  (try dsimp only)
  (try k_fold)
  refine first_rest (fun s' => ∃ t', Fr h₀ L s'.heap (fun y => [(Str.ofString "self", Value.ref a), (Str.ofString "initial_size", Value.int 0 ti)].reverse.lookup y) ∧ News h₀ L s'.heap [(a, accObj d #[] 0), (d, dictOf (daEs w t' ti) 1)] ∧ s'.os = s.os ∧ s'.gens = s.gens) ?_ ?_
  · k_steps
    rename Fr _ _ _ _ => F9
    rename News _ _ _ _ => N9
    exact Reach.mk ⟨rfl, _, F9, N9, rfl, rfl⟩
  · rintro s' ⟨t', F', N', hos, hgs⟩
    clear F N
    k_steps
    rename Fr _ _ _ _ => F9
    rename News _ _ _ _ => N9
    exact hR _ _ (At.leave F9 fun p hp => N9 p (.tail _ (.tail _ hp))) hos hgs

end
section
open PySem PySem.W PyProof.Rows PySem.Calls
example : True := by
  w_top off
  trivial
set_option maxRecDepth 100000
set_option maxHeartbeats 1000000
section
variable {prog : Program} {w : World} {A : Around} {R : Result → Shared → Prop} {s : Shared} {env : Env} {h₀ : Heap}
theorem live_str {I : Addr} {x : Str} {t : Tok} : ∀ (i : Nat) (h : Heap), h.IsStrIter I "str_ascii_iterator" x t i → ∀ b ∈ [I], ∃ o, h.get? b = some o := by
  intro i h st b hb
  obtain ⟨o, ho, _⟩ := st
  rw [List.mem_singleton.mp hb]; exact ⟨o, ho⟩
theorem for_str {y : Str} {px : Pos} {body orelse : List Stmt} {x : Str} {t : Tok} {m : Str → Option Value} {news : List (Addr × Obj)} {E₁ : Value → Shared → Prop}
    (hh : A.handled = none) (ha : x.cps.all (· < 128) = true) (hx : env.kindOf y = some .local)
    (hp : (env.scope.kind == .class || (env.scope.kind == .module && env.locals != env.globals)) = false)
    (F : Fr h₀ env.locals s.heap m) (N : News h₀ env.locals s.heap news)
    (J : Nat → (Str → Option Value) → List (Addr × Obj) → Prop) (hJ : J 0 m news)
    (turn : ∀ i c tk m₁ news₁ own s₁, x.cps[i]? = some c → J i m₁ news₁ → OwnOff own (news₁.map (·.1)) →
      Fr h₀ env.locals s₁.heap (fun z => if z = y then some (.str ⟨#[c]⟩ tk) else m₁ z) → News h₀ env.locals s₁.heap (news₁ ++ own) → s₁.os = s.os → GX s.gens s₁.gens →
      wpAny (model prog w) A (execs body env) (TPost2 h₀ env.locals (J (i + 1)) own s₁ (fun f s' => R (.ok f) s')) (notedBy (model prog w) A env fun e s' => R (.error e) s') s₁)
    (done : ∀ m₁ news₁ s₁, J x.cps.size m₁ news₁ → Fr h₀ env.locals s₁.heap m₁ → News h₀ env.locals s₁.heap news₁ → s₁.os = s.os → GX s.gens s₁.gens →
      wpAny (model prog w) A (execs orelse env) (fun f s₃ => R (.ok f) s₃) (notedBy (model prog w) A env fun e s' => R (.error e) s') s₁) :
    wpAny (model prog w) A (pyIter (.str x t)) (fun it s₂ => codeAny (model prog w) A (.forLoop (.Name y px) it body orelse env) R s₂) E₁ s := by
  refine wpAny_pyIter_ascii ha ?_
  have W := Walks.strAscii (prog := prog) (w := w) hh s.heap.objs.size x t
  refine loop_walk (m := m) (news := news) W live_str ?_ hx hp (F.push _) (fun p hp => ⟨Heap.get?_push_of_some _ (N p hp).1, (N p hp).2⟩) ?_ ?_ ?_ J hJ ?_ ?_
  · exact ⟨_, Heap.get?_push_size _ rfl, rfl, rfl⟩
  · intro hm
    exact absurd F.ns.lt ((List.mem_singleton.mp hm) ▸ Nat.lt_irrefl _)
  · intro b hb
    rw [List.mem_singleton.mp hb]
    exact next_is_new F
  · intro b hb p hp e
    exact absurd (Heap.lt_size (N p hp).1) (e ▸ (List.mem_singleton.mp hb) ▸ Nat.lt_irrefl _)
  · rintro i v m₁ news₁ own s₁ hi ⟨c, tk, hc, rfl⟩ hJ₁ hoff F₁ N₁ hos hgx
    exact turn i c tk m₁ news₁ own s₁ hc hJ₁ hoff F₁ N₁ hos hgx
  · intro m₁ news₁ s₁ hJ₁ F₁ N₁ hos hgx
    exact done m₁ news₁ s₁ hJ₁ F₁ N₁ hos hgx
end

end
section
open PySem PySem.W PyProof.Rows PySem.Calls
example : True := by
  w_top off
  trivial
set_option maxRecDepth 100000
set_option maxHeartbeats 1000000

noncomputable abbrev fmEs (w : World) (kk : Nat → Tok) (wd : Int) (LL CA : Addr) : List DictEntry :=
  [⟨PyData.keyHash w.params (Str.ofString "_maxlen"), .str (Str.ofString "_maxlen") (kk 0), .int wd (kk 6)⟩,
   ⟨PyData.keyHash w.params (Str.ofString "_continuation_ws"), .str (Str.ofString "_continuation_ws") (kk 1), .str (Str.ofString " ") (kk 7)⟩,
   ⟨PyData.keyHash w.params (Str.ofString "_continuation_ws_len"), .str (Str.ofString "_continuation_ws_len") (kk 2), .int 1 (kk 8)⟩,
   ⟨PyData.keyHash w.params (Str.ofString "_splitchars"), .str (Str.ofString "_splitchars") (kk 3), .str (Str.ofString " ") (kk 9)⟩,
   ⟨PyData.keyHash w.params (Str.ofString "_lines"), .str (Str.ofString "_lines") (kk 4), .ref LL⟩,
   ⟨PyData.keyHash w.params (Str.ofString "_current_line"), .str (Str.ofString "_current_line") (kk 5), .ref CA⟩]
set_option hygiene false
local macro_rules | `(tactic| walk_at "getAttr ref") => `(tactic| (k_here; k_dflt (refine get_seq (by k_asm) (by k_asm) (by k_inst) (by k_is) (by k_is) (by k_is) (by k_is) (by k_is) (by k_is) (by k_get) (by k_handed) ?_; k_whole)))
set_option hygiene true
set_option hygiene false
local macro_rules | `(tactic| walk_at "call builtin:len") => `(tactic| refine Hold.out ?_)
set_option hygiene true
set_option hygiene false
local macro_rules | `(tactic| walk_at "pyIter str") => `(tactic| refine Hold.out ?_)
set_option hygiene true
set_option hygiene false
local macro_rules | `(tactic| walk_at "pyIter ref") => `(tactic| refine Hold.out ?_)
set_option hygiene true
set_option hygiene false
local macro_rules | `(tactic| walk_at "call ref") => `(tactic| refine Hold.out ?_)
set_option hygiene true
set_option hygiene false
local macro_rules | `(tactic| walk_at "exec For Name Call cons nil") => `(tactic| refine Hold.out ?_)
set_option hygiene true
set_option hygiene false
local macro_rules | `(tactic| walk_at "exec For") => `(tactic| refine Hold.out ?_)
set_option hygiene true
set_option hygiene false
local macro_rules | `(tactic| walk_at "call type:str") => `(tactic| refine Hold.out ?_)
set_option hygiene true

section
variable {prog : Program} {w : World} {A : Around} {E : Value → Shared → Prop} {s : Shared} {K : Frag} {x C dx : Addr} {od' : Obj} {items : Array Value} {n : Nat} {h₀ : Heap} {L : Addr} {m : Str → Option Value}
theorem item_seq {value slice : Expr} {k : Int} {tk : Tok} {y : Value} {Q : Value → Shared → Prop} (F : Fr h₀ L s.heap m) (X₀ : K.In h₀) (I : InstAt s.heap x (seqObj C dx items n) C (some od'))
    (hq : noSeq K C = true) (hf : findIn K (.ref C) "__getitem__" = some (some (.builtin "list.__getitem__"))) (hm : mroIn K C (.type "list") = some true) (h0 : 0 ≤ k) (hk : k < 2 ^ 63) (hy : items[k.toNat]? = some y) (h : Q y s)
    (hs : subscripted slice false (.ref x) (.int k tk) = operate [.ref x, .int k tk] (getItem (.ref x) (.int k tk))) : wpAny (model prog w) A (subscriptTail value slice (.ref x) (.int k tk)) Q E s :=
  subTail_sub (X₀.keeps F.keep) I hf (getItem_sub (X₀.keeps F.keep) I hq hf hm (b_getint I.at_ h0 hk hy ⟨_, rfl, h⟩)) hs
end
set_option hygiene false
local macro_rules | `(tactic| walk_at "eval Name") => `(tactic| (k_here; k_dflt (refine ld (by k_asm) (by (first | assumption | (simp (decide := true) only [if_true, if_false]; assumption))) ?_; k_whole)))
set_option hygiene true
local macro_rules | `(tactic| walk_at "subscriptTail") => `(tactic| (k_here; (with_reducible show wpAny _ _ (subscriptTail _ _ (Value.ref _) (Value.int _ _)) _ _ _); k_dflt (refine item_seq (by k_asm) (by k_asm) (by k_inst) (by k_is) (by k_is) (by k_is) (by omega) (by omega) (by assumption) ?_ (by with_unfolding_all rfl))))
theorem back_own {h₀ h h' : Heap} {L : Addr} {m : Str → Option Value} {N0 own lent rest news' : List (Addr × Obj)} (F : Fr h₀ L h m) (N : News h₀ L h (N0 ++ own)) (hs : ∀ p ∈ lent, p ∈ N0) (hr : ∀ p ∈ rest, p ∈ N0)
    (hne : ∀ p ∈ rest, ∀ q ∈ lent, p.1 ≠ q.1) (hoff : OwnOff own (N0.map (·.1))) (H : At (hideAll h (lent.map (·.1))) h' news') : Fr h₀ L h' m ∧ News h₀ L h' (news' ++ rest ++ own) := by
  obtain ⟨F', N'⟩ := back (rest := rest ++ own) F N (fun p hp => List.mem_append_left _ (hs p hp)) (fun p hp => (List.mem_append.mp hp).elim (fun h => List.mem_append_left _ (hr p h)) fun h => List.mem_append_right _ h)
    (fun p hp => (List.mem_append.mp hp).elim (hne p) fun h q hq => hoff p h _ (List.mem_map_of_mem (hs q hq))) H
  exact ⟨F', by rw [List.append_assoc]; exact N'⟩
theorem sub_of {α : Type} {l m : List α} (h : ∀ p ∈ l, p ∈ m) : ∀ p, p ∈ l → p ∈ m := h
noncomputable def fmStep (wd : Int) (st : List Str × List (Str × Str)) (c : Str × Str) : List Str × List (Str × Str) :=
  if (sizeP (st.2 ++ [c]) : Int) > wd then (if st.2 = [] then (st.1, [c]) else (st.1 ++ [strP st.2], [c])) else (st.1, st.2 ++ [c])

theorem c_append {w : World} {mg mb : Str → Option Value} {A : Around} {s : Shared} {h₀ : Heap} {Q E : Value → Shared → Prop} {Fm DF LL CA d : Addr} {items : List Value} {lv : List Value} {ls : List Str} {n nl : Nat} {t u : Tok} {kk : Nat → Tok} {wd : Int} {p1 p2 : Array Value} {parts : List (Str × Str)} {f c : Str} {tf tch : Tok}
    (C : Cx w mg mb h₀) (M : ∃ bm ob, BMod h₀ mainGlobals mg bm ob) (hh : A.handled = none) (hu : A.units + 200 < cLine)
    (H : At h₀ s.heap [(Fm, instObj 94 DF), (DF, dictOf (fmEs w kk wd LL CA) 6), (LL, W.listOf lv.toArray nl), (CA, accObj d items.toArray n), (d, dictOf (daEs w t u) 1), (140, tabObj p1), (147, tabObj p2)])
    (htr : TriplesOk p1.toList) (htr2 : TriplesOk p2.toList) (o1 : @LT.lt Nat _ 147 DF) (o2 : @LT.lt Nat _ DF Fm) (o3 : @LT.lt Nat _ Fm LL) (o4 : @LT.lt Nat _ LL d) (o5 : @LT.lt Nat _ d CA) (hroom : A.depth + 20 < recursionLimit)
    (hparts : PartsAt h₀ items parts) (hz : items.length ≤ 50) (hlv : StrsAre lv ls) (hzl : lv.length ≤ 50) (hlen : ∀ p ∈ parts, p.1.length ≤ 1000 ∧ p.2.length ≤ 1000) (hf : f.length ≤ 1000) (hc : c.length ≤ 1000) (hw : 0 ≤ wd) (hw2 : wd ≤ 1000) (hsp : parts ≠ [] → f = Str.ofString " ") 
    (hQ : ∀ (T : Addr) (its lv' : List Value) (nl' n' : Nat) (t1 t2 u' : Tok) (p1' p2' : Array Value) (rp : List (Str × Str)) (ls' : List Str) s', TriplesOk p1'.toList → TriplesOk p2'.toList → fmStep wd (ls, parts) (f, c) = (ls', rp ++ [(f, c)]) → StrsAre lv' ls' → PartsAt h₀ its rp → (its = items ∨ its = []) → @LT.lt Nat _ CA T →
      At h₀ s'.heap [(T, tupObj f c t1 t2), (Fm, instObj 94 DF), (DF, dictOf (fmEs w kk wd LL CA) 6), (LL, W.listOf lv'.toArray nl'), (CA, accObj d (its ++ [Value.ref T]).toArray n'), (d, dictOf (daEs w t u') 1), (140, tabObj p1'), (147, tabObj p2')] → s'.os = s.os → GX s.gens s'.gens → Q .none s') :
    wpAny (model PR w) A (call (.ref 91) [.ref Fm, .str f tf, .str c tch]) Q E s := by
  have C' := C
  obtain ⟨X, T⟩ := C
  refine wpAny_call ?_
  have Xs := X.keeps H.keep
  have Ts := T.keeps H.keep
  k_dflt (refine' enter_def (binds := [(Str.ofString "self", .ref Fm), (Str.ofString "fws", .str f tf), (Str.ofString "string", .str c tch)]) ?k1 ?k2 ?k3 ?k4 ?k5 ?k6 ?k7 ?_ ?c1 ?c2 ?c3 ?c4; (case k1 => exact Xs); (case k2 => exact Ts.nolimit); (case k3 => k_is); (case k4 => k_is); (case k5 => omega); (case k6 => exact BindsTo.of_eq rfl); (case k7 => exact locs rfl); (case c1 => exact rfl); (case c2 => exact rfl); (case c3 => exact rfl); (case c4 => decide))
  intro L h₁ F₀ hL
  refine abstr ?_
  intro Q0 E0 hP0 hE0
  obtain ⟨F, N⟩ := H.enter F₀
  clear F₀ Xs Ts
  (try dsimp only)
  (try k_fold)
  k_steps
  refine Hold.mk ?_
  obtain ⟨HA, hk⟩ := lend (lent := [(CA, accObj d items.toArray n), (d, dictOf (daEs w t u) 1)]) F N (by k_all)
  refine c_push (C'.keeps hk) HA o5 (by show A.depth + 1 < recursionLimit; omega) (by rw [List.size_toArray]; omega) fun T1 s1 HB hT1 hos1 hgs1 => ?_
  have hT1 := ltN hT1
  obtain ⟨F1, N1⟩ := back (rest := [(Fm, instObj 94 DF), (DF, dictOf (fmEs w kk wd LL CA) 6), (LL, W.listOf lv.toArray nl), (140, tabObj p1), (147, tabObj p2)]) F N (by k_all) (by k_all) (by k_all) HB
  simp only [List.cons_append, List.nil_append, List.push_toArray] at N1
  clear F N HA hk HB
  k_steps
  refine Hold.mk ?_
  k_dflt (refine' len_K F1 X ?I ?a ?b ?_; (case I => first | k_inst | fail); (case a => k_is); (case b => k_is))
  obtain ⟨HA, hk⟩ := lend (lent := [(CA, accObj d (items ++ [Value.ref T1]).toArray (n + 1)), (d, dictOf (daEs w t u) 1), (140, tabObj p1)]) F1 N1 (by k_all)
  have hparts1 : PartsAt (hideAll s1.heap ([(CA, accObj d (items ++ [Value.ref T1]).toArray (n + 1)), (d, dictOf (daEs w t u) 1), (140, tabObj p1)].map (·.1))) (items ++ [Value.ref T1]) (parts ++ [(f, c)]) :=
    (hparts.keeps hk).snoc (hideAll_get _ (N1 _ (.head _)).1 (by simp only [List.map_cons, List.map_nil, List.mem_cons, List.not_mem_nil, or_false, not_or]; exact ⟨by k_ne, by k_ne, by k_ne⟩))
  have hlen1 : ∀ p ∈ parts ++ [(f, c)], p.1.length ≤ 1000 ∧ p.2.length ≤ 1000 := fun p hp => by
    rcases List.mem_append.mp hp with hp | hp
    · exact hlen p hp
    · rw [List.mem_singleton.mp hp]; exact ⟨hf, hc⟩
  have b1 := sizeP_le _ hlen1
  have b2 : (parts ++ [(f, c)]).length ≤ 51 := by rw [List.length_append, ← hparts.length]; simp; omega
  refine c_len (C'.keeps hk) (M.imp fun _ m => m.imp fun _ m => m.keeps hk) hh HA htr o5 (by omega) (by show A.depth + 1 + 5 < recursionLimit; omega) hparts1 (by rw [List.size_toArray, List.length_append]; simp; omega) hlen1 fun p1' t2 s2 htr' HB hos2 hgx2 => ?_
  refine ⟨⟨by omega, by omega⟩, ?_⟩
  obtain ⟨F2, N2⟩ := back (rest := [(T1, tupObj f c tf tch), (Fm, instObj 94 DF), (DF, dictOf (fmEs w kk wd LL CA) 6), (LL, W.listOf lv.toArray nl), (147, tabObj p2)]) F1 N1 (by k_all) (by k_all) (by k_all) HB
  dsimp only [List.cons_append, List.nil_append] at N2
  clear F1 N1 HA hk HB
  k_steps
  rotate_left
  · rename ¬ _ > _ => hle
    rename Fr _ _ _ _ => F9
    rename News _ _ _ _ => N9
    refine hP0 _ _ (hQ T1 items lv _ _ _ _ _ p1' p2 parts ls _ htr' htr2 (by unfold fmStep; rw [if_neg hle]) hlv hparts (.inl rfl) hT1 (At.leave F9 fun p hp => N9 p (sub_of (by k_all) p hp)) (hos2.trans hos1) (hgs1 ▸ hgx2))
  refine Hold.mk ?_
  by_cases hp0 : parts = []
  · have hi0 : items = [] := List.length_eq_zero_iff.mp (by rw [hparts.length, hp0]; rfl)
    refine wpAny_For ?_
    k_steps
    refine Hold.mk ?_
    rename _ > _ => hgt
    refine for_str (h₀ := h₀) (m := _) (news := _) hh (by decide +kernel) rfl rfl F2 N2 (fun i m₁ news₁ => m₁ (Str.ofString "self") = some (.ref Fm) ∧ news₁ = _) ⟨rfl, rfl⟩ ?_ ?_
    · rintro i ch tkc m₁ news₁ own s3 hch ⟨hm1, rfl⟩ hoff F3 N3 hos3 hgx3
      change Fr h₀ L s3.heap _ at F3
      change News h₀ L s3.heap (_ :: _ :: _ :: _ :: _ :: _ :: _ :: _ :: own) at N3
      refine abstr ?_
      intro Q3 E3 hP3 hE3
      k_steps
      refine Hold.mk (wpAny_For ?_)
      k_steps
      refine Hold.mk ?_
      obtain ⟨HA, hk⟩ := lend (lent := [(CA, accObj d (items ++ [Value.ref T1]).toArray (n + 1)), (d, dictOf (daEs w t u) 1)]) F3 N3 (by k_all)
      refine c_count (C'.keeps hk) HA o5 (by show A.depth + 1 < recursionLimit; omega) fun t4 s4 HB hos4 hgs4 => ?_
      obtain ⟨F4, N4⟩ := back_own (rest := [(140, tabObj p1'), (T1, tupObj f c tf tch), (Fm, instObj 94 DF), (DF, dictOf (fmEs w kk wd LL CA) 6), (LL, W.listOf lv.toArray nl), (147, tabObj p2)]) (N0 := [(CA, accObj d (items ++ [Value.ref T1]).toArray (n + 1)), (d, dictOf (daEs w t u) 1), (140, tabObj p1'), (T1, tupObj f c tf tch), (Fm, instObj 94 DF), (DF, dictOf (fmEs w kk wd LL CA) 6), (LL, W.listOf lv.toArray nl), (147, tabObj p2)]) (own := own) F3 N3 (by k_all) (by k_all) (by k_all) hoff HB
      dsimp only [List.cons_append, List.nil_append] at N4
      have hsz : (((items ++ [Value.ref T1]).toArray.size : Nat) : Int) = 1 := by rw [hi0]; rfl
      rw [hsz]
      clear F3 N3 HA hk HB
      k_steps
      refine Hold.mk ?_
      rename IsRange _ _ _ _ _ _ _ _ => hr
      rename Fr _ _ _ _ => F5
      rename News _ _ _ _ => N5
      refine for_range (h₀ := h₀) (m := _) (news := _) (n := 0) hh hr (range_small (by decide) (by decide) (by decide) (by decide) (.inr rfl)) (rangeSize_down (by decide)) rfl rfl F5 N5 (fun i m₁ news₁ => m₁ = _ ∧ news₁ = _) ⟨rfl, rfl⟩ (fun i _ _ _ _ _ h => absurd h (Nat.not_lt_zero i)) ?_
      rintro m₁ news₁ s6 ⟨rfl, rfl⟩ F6 N6 hos6 hgx6
      clear hr
      k_steps
      dsimp only
      refine hP3 _ _ (show TEnd2 _ _ _ _ _ _ from ⟨_, _, [(CA, accObj d (items ++ [Value.ref T1]).toArray (n + 1)), (d, dictOf (daEs w t u) 1), (140, tabObj p1'), (T1, tupObj f c tf tch), (Fm, instObj 94 DF), (DF, dictOf (fmEs w kk wd LL CA) 6), (LL, W.listOf lv.toArray nl), (147, tabObj p2)], F6, N6, fun p hp => sub_of (by k_all) p hp, fun p hp => .tail _ (.tail _ (.tail _ (.tail _ (.tail _ (.tail _ (.tail _ (.tail _ hp))))))), hoff, hos6.trans hos4, ?_, (if_neg (by decide)).trans hm1, rfl⟩)
      have g4 : GX s3.gens s4.gens := by rw [hgs4]; exact .refl _
      exact g4.trans hgx6
    · rintro m₁ news₁ s3 ⟨hm1, rfl⟩ F3 N3 hos3 hgx3
      change Fr h₀ L s3.heap _ at F3
      change News h₀ L s3.heap _ at N3
      subst hi0
      k_steps
      refine Hold.mk ?_
      obtain ⟨HA, hk⟩ := lend (lent := [(CA, accObj d ([] ++ [Value.ref T1]).toArray (n + 1)), (d, dictOf (daEs w t u) 1)]) F3 N3 (by k_all)
      refine c_pop (C'.keeps hk) HA o5 (by show A.depth + 1 + 5 < recursionLimit; omega) (by decide) fun s4 HB hos4 hgs4 => ?_
      obtain ⟨F4, N4⟩ := back (rest := [(140, tabObj p1'), (T1, tupObj f c tf tch), (Fm, instObj 94 DF), (DF, dictOf (fmEs w kk wd LL CA) 6), (LL, W.listOf lv.toArray nl), (147, tabObj p2)]) F3 N3 (by k_all) (by k_all) (by k_all) HB
      dsimp only [List.cons_append, List.nil_append] at N4
      clear F3 N3 HA hk HB
      k_steps
      k_dflt (refine' unpackN_ F4 N4 (News.isTup N4 (by k_mem)) ?k1 ?k2 ?k3 ?_; (case k1 => exact hh); (case k2 => exact rfl); (case k3 => exact rfl))
      intro h5 F5 N5
      clear F4 N4
      k_steps
      refine Hold.mk ?_
      rename Fr _ _ _ _ => F6
      rename News _ _ _ _ => N6
      obtain ⟨HA, hk⟩ := lend (lent := [(CA, accObj d ([] : List Value).toArray (n + 1 + 1)), (d, dictOf (daEs w t u) 1)]) F6 N6 (by k_all)
      refine c_push (C'.keeps hk) HA o5 (by show A.depth + 1 < recursionLimit; omega) (by decide) fun T7 s7 HB hT7 hos7 hgs7 => ?_
      have hT7 := ltN hT7
      obtain ⟨F7, N7⟩ := back (rest := [(140, tabObj p1'), (Fm, instObj 94 DF), (DF, dictOf (fmEs w kk wd LL CA) 6), (LL, W.listOf lv.toArray nl), (147, tabObj p2)]) F6 N6 (by k_all) (by k_all) (by k_all) HB
      simp only [List.cons_append, List.nil_append, List.push_toArray] at N7
      clear F6 N6 HA hk HB
      k_steps
      have g1 : GX s.gens s1.gens := by rw [hgs1]; exact .refl _
      have g4 : GX s3.gens s4.gens := by rw [hgs4]; exact .refl _
      have g7 : GX s4.gens s7.gens := by rw [hgs7]; exact .refl _
      exact hP0 _ _ (hQ T7 [] lv nl _ _ _ u p1' p2 [] ls _ htr' htr2 (by unfold fmStep; rw [if_pos hgt, if_pos hp0]; rfl) hlv .nil (.inr rfl) hT7 (At.leave F7 fun p hp => N7 p (sub_of (by k_all) p hp))
        (hos7.trans (hos4.trans (hos3.trans (hos2.trans hos1)))) ((((g1.trans hgx2).trans hgx3).trans g4).trans g7))
  have hf' := hsp hp0
  refine wpAny_For ?_
  k_steps
  refine Hold.mk ?_
  rename _ > _ => hgt
  refine for_str (h₀ := h₀) (m := _) (news := _) hh (by decide +kernel) rfl rfl F2 N2 (fun i m₁ news₁ => i = 0 ∧ m₁ = _ ∧ news₁ = _) ⟨rfl, rfl, rfl⟩ ?_ ?_
  rotate_left
  · rintro m₁ news₁ s₁ ⟨h, _⟩ _ _ _ _
    exact absurd h (by decide)
  rintro i ch tkc m₁ news₁ own s3 hch ⟨rfl, rfl, rfl⟩ hoff F3 N3o hos3 hgx3
  have hch' : ch = 32 := (Option.some.inj hch).symm
  subst hch'
  have N3 : News h₀ L s3.heap [(CA, accObj d (items ++ [Value.ref T1]).toArray (n + 1)), (d, dictOf (daEs w t u) 1), (140, tabObj p1'), (T1, tupObj f c tf tch), (Fm, instObj 94 DF), (DF, dictOf (fmEs w kk wd LL CA) 6), (LL, W.listOf lv.toArray nl), (147, tabObj p2)] := fun p hp => N3o p (List.mem_append_left _ hp)
  change Fr h₀ L s3.heap _ at F3
  clear N3o F2 N2
  refine abstr ?_
  intro Q1 E1 hP1 hE1
  k_steps
  refine Hold.mk (wpAny_For ?_)
  k_steps
  refine Hold.mk ?_
  obtain ⟨HA, hk⟩ := lend (lent := [(CA, accObj d (items ++ [Value.ref T1]).toArray (n + 1)), (d, dictOf (daEs w t u) 1)]) F3 N3 (by k_all)
  refine c_count (C'.keeps hk) HA o5 (by show A.depth + 1 < recursionLimit; omega) fun t4 s4 HB hos4 hgs4 => ?_
  obtain ⟨F4, N4⟩ := back (rest := [(140, tabObj p1'), (T1, tupObj f c tf tch), (Fm, instObj 94 DF), (DF, dictOf (fmEs w kk wd LL CA) 6), (LL, W.listOf lv.toArray nl), (147, tabObj p2)]) F3 N3 (by k_all) (by k_all) (by k_all) HB
  dsimp only [List.cons_append, List.nil_append] at N4
  have hsz : (((items ++ [Value.ref T1]).toArray.size : Nat) : Int) = (items.length : Int) + 1 := by simp
  rw [hsz]
  have hpl := hparts.length
  have hipos : 1 ≤ items.length := by
    rcases Nat.eq_zero_or_pos items.length with h | h
    · rw [h] at hpl; exact absurd (List.length_eq_zero_iff.mp hpl.symm) hp0
    · exact h
  clear F3 N3 HA hk HB
  k_steps
  refine Hold.mk ?_
  rename IsRange _ _ _ _ _ _ _ _ => hr
  rename Fr _ _ _ _ => F5
  rename News _ _ _ _ => N5
  refine for_range (h₀ := h₀) (m := _) (news := _) (n := items.length) hh hr (range_small (by omega) (by omega) (by decide) (by decide) (.inr rfl)) (rangeSize_down (by omega)) rfl rfl F5 N5 (fun i m₁ news₁ => i = 0 ∧ m₁ = _ ∧ news₁ = _) ⟨rfl, rfl, rfl⟩ ?_ ?_
  rotate_left
  · rintro m₁ news₁ s₁ ⟨h, _⟩ _ _ _ _
    omega
  rintro j tkj m₁ news₁ own' s6 hj ⟨rfl, rfl, rfl⟩ hoff' F6 N6o hos6 hgx6
  have N6 : News h₀ L s6.heap [(CA, accObj d (items ++ [Value.ref T1]).toArray (n + 1)), (d, dictOf (daEs w t u) 1), (140, tabObj p1'), (T1, tupObj f c tf tch), (Fm, instObj 94 DF), (DF, dictOf (fmEs w kk wd LL CA) 6), (LL, W.listOf lv.toArray nl), (147, tabObj p2)] := fun p hp => N6o p (List.mem_append_left _ hp)
  change Fr h₀ L s6.heap _ at F6
  rw [show ((items.length : Int) + 1 - 1 + ((0 : Nat) : Int) * -1) = items.length by omega] at F6
  clear N6o F5 N5 hr
  refine abstr ?_
  intro Q2 E2 hP2 hE2
  have hitem : (items ++ [Value.ref T1]).toArray[(items.length : Int).toNat]? = some (Value.ref T1) := by simp
  subst hf'
  k_steps
  refine hP2 _ _ ?_
  dsimp only
  show wpAny _ _ (execs [_] _) _ _ _
  k_steps
  refine hP1 _ _ ?_
  show wpAny _ _ (execs _ _) _ _ _
  k_steps
  refine Hold.mk ?_
  rename Fr _ _ _ _ => F7
  rename News _ _ _ _ => N7
  skip
  obtain ⟨HA, hk⟩ := lend (lent := [(CA, accObj d (items ++ [Value.ref T1]).toArray (n + 1)), (d, dictOf (daEs w t u) 1)]) F7 N7 (by k_all)
  refine c_popfrom (C'.keeps hk) HA o5 (by show A.depth + 1 < recursionLimit; omega) (by omega) fun l3 n3 s8 HB hl3 hos8 hgs8 => ?_
  have hl3 := ltN hl3
  obtain ⟨F8, N8⟩ := back (rest := [(140, tabObj p1'), (T1, tupObj (Str.ofString " ") c tf tch), (Fm, instObj 94 DF), (DF, dictOf (fmEs w kk wd LL CA) 6), (LL, W.listOf lv.toArray nl), (147, tabObj p2)]) F7 N7 (by k_all) (by k_all) (by k_all) HB
  dsimp only [List.cons_append, List.nil_append] at N8
  have hlT : l3 ≠ T1 := fun e => by
    have h1 := (N8 _ (.head _)).1
    have h2 := (N8 _ (.tail _ (.tail _ (.tail _ (.tail _ (.head _)))))).1
    rw [e] at h1
    have := Option.some.inj (h1.symm.trans h2)
    injection this with h3
    revert h3; decide
  have hlT := neN hlT
  clear F7 N7 HA hk HB
  k_steps
  refine Hold.mk ?_
  rename Fr _ _ _ _ => F9
  rename News _ _ _ _ => N9
  k_dflt (refine' kso_call ?U ?X ?I ?a ?b ?_; (case U => first | (show A.units + 3 + 3 + 3 < cLine; omega) | (show A.units + 3 + 1 + 1 < cLine; omega) | (show A.units + 3 + 2 + 2 < cLine; omega)); (case X => exact X.keeps F9.keep); (case I => first | k_inst | fail); (case a => k_is); (case b => k_is))
  obtain ⟨HA, hk⟩ := lend (lent := [(CA, accObj d items.toArray n3), (d, dictOf (daEs w t u) 1), (147, tabObj p2)]) F9 N9 (by k_all)
  refine c_str (C'.keeps hk) (M.imp fun _ m => m.imp fun _ m => m.keeps hk) hh HA htr2 o5 (by omega) (by show A.depth + 1 + 5 < recursionLimit; omega) (hparts.keeps hk) (by rw [List.size_toArray]; omega) hlen fun p2' t9 s9 htr2' HB hos9 hgx9 => ?_
  show wpAny _ _ _ _ _ _
  obtain ⟨F10, N10⟩ := back (rest := [(l3, W.listOf #[Value.ref T1] 0), (140, tabObj p1'), (T1, tupObj (Str.ofString " ") c tf tch), (Fm, instObj 94 DF), (DF, dictOf (fmEs w kk wd LL CA) 6), (LL, W.listOf lv.toArray nl)]) F9 N9 (by k_all) (by k_all) (by k_all) HB
  dsimp only [List.cons_append, List.nil_append] at N10
  have hzl2 : lv.toArray.size ≤ 100 := by rw [List.size_toArray]; omega
  clear F9 N9 HA hk HB
  k_steps
  refine Hold.mk ?_
  rename Fr _ _ _ _ => F11
  rename News _ _ _ _ => N11
  obtain ⟨HA, hk⟩ := lend (lent := [(CA, accObj d items.toArray n3), (d, dictOf (daEs w t u) 1)]) F11 N11 (by k_all)
  refine c_reset1 (C'.keeps hk) HA o5 (by show A.depth + 1 < recursionLimit; omega) (by rw [List.size_toArray]; omega) ⟨_, hideAll_get _ (N11 _ (.tail _ (.tail _ (.tail _ (.head _))))).1 (by simp only [List.map_cons, List.map_nil, List.mem_cons, List.not_mem_nil, or_false, not_or]; exact ⟨by k_ne, by k_ne⟩), rfl, _, rfl⟩ (by show (1 : Nat) ≤ 100; decide) fun n12 u12 s12 HB hos12 hgs12 => ?_
  obtain ⟨F12, N12⟩ := back (rest := [(147, tabObj p2'), (140, tabObj p1'), (T1, tupObj (Str.ofString " ") c tf tch), (Fm, instObj 94 DF), (DF, dictOf (fmEs w kk wd LL CA) 6), (LL, W.listOf (lv.toArray.push (Value.str (strP parts) t9)) (nl + 1))]) F11 N11 (by k_all) (by k_all) (by k_all) HB
  simp only [List.cons_append, List.nil_append, List.push_toArray] at N12
  clear F11 N11 HA hk HB
  k_steps
  have g1 : GX s.gens s1.gens := by rw [hgs1]; exact .refl _
  have g4 : GX s3.gens s4.gens := by rw [hgs4]; exact .refl _
  have g8 : GX s6.gens s8.gens := by rw [hgs8]; exact .refl _
  have g12 : GX s9.gens s12.gens := by rw [hgs12]; exact .refl _
  refine hP0 _ _ (hQ T1 [] (lv ++ [Value.str (strP parts) t9]) _ n12 tf tch u12 p1' p2' [] (ls ++ [strP parts]) _ htr' htr2' (by unfold fmStep; rw [if_pos hgt, if_neg hp0]; rfl) hlv.snoc .nil (.inr rfl) hT1 (At.leave F12 fun p hp => N12 p (sub_of (by k_all) p hp))
    (hos12.trans (hos9.trans (hos8.trans (hos6.trans (hos4.trans (hos3.trans (hos2.trans hos1))))))) (((((((g1.trans hgx2).trans hgx3).trans g4).trans hgx6).trans g8).trans hgx9).trans g12))

end
section
open PySem PySem.W PyProof.Rows PySem.Calls PySem.Builtin PySem.Builtin.ObjectAttr
example : True := by
  w_top off
  trivial
set_option maxRecDepth 100000
set_option maxHeartbeats 1000000

section
variable {prog : Program} {w : World} {A : Around} {E : Value → Shared → Prop} {s : Shared} {K : Frag} {x C dx : Addr} {ox : Obj} {n nd n' : Nat} {es es' : List DictEntry} {h₀ : Heap} {L : Addr} {m : Str → Option Value} {news news' : List (Addr × Obj)} {name : Str}

theorem get_seq_bind {expr : Bool} {f : Addr} {Q : Value → Shared → Prop} (F : Fr h₀ L s.heap m) (X₀ : K.In h₀) (N : News h₀ L s.heap news) (I : InstAt s.heap x ox C (some (dictOf es nd)))
    (hga : findIn K (.ref C) "__getattribute__" = some (some (.builtin "list.__getattribute__"))) (hk : findIn K (.ref C) "__getattr__" = some none) (hm : mroIn K C (.type "list") = some true)
    (hh : hasDictIn K C = true) (ha : findIn K (.ref C) name = some (some (.ref f))) (hf : isFn K (.ref f) = true)
    (hgf : specialIn K (.ref f) "__get__" = some (some (.builtin "function.__get__"))) (ht : takesIn K (.ref f) = some false) (hc : copiedNames.contains name = false) (hl : getL name es = some none)
    (h : ∀ q h', Fr h₀ L h' m → News h₀ L h' ((q, methodObj (.ref f) (.ref x)) :: news) → (∀ p ∈ news, p.1 < q) → Q (.ref q) { s with heap := h', toks := s.toks + 1 }) :
    wpAny (model prog w) A (getAttr (.ref x) name expr) Q E s := by
  have X := X₀.keeps F.keep
  have hfo := findObj_fn hh ha hgf ht hc (show lookIn name (dictOf es nd) = some none from by rw [lookIn_dict, hl])
  obtain ⟨hp, g, d, t, os⟩ := s
  have L0 := I.type (M := model prog w)
  have L1 := looks_findIn (M := model prog w) X hga
  have L2 := looks_findIn (M := model prog w) X hk
  have L3 := looks_find (M := model prog w) X I hfo
  unfold getAttr getAttrBy
  refine wpAny_bind (wpAny_mkText (wpAny_holding (wpAny_bind (L0.at (wpAny_bind (L1.at ?_))))))
  show wpAny _ _ (getAttrByItsOwn _ _ _ _ _ _) _ _ _
  unfold getAttrByItsOwn hookBefore callGetattribute
  refine wpAny_bind (L2.at ?_)
  refine wpAny_bind (wpAny_attempt (wpAny_holding ?_))
  have e1 : (expr && onTheHeap (.builtin "list.__getattribute__")) = false := by cases expr <;> rfl
  rw [e1, if_neg Bool.false_ne_true]
  unfold boundAndCalled
  rw [lga_bind]
  refine wpAny_bind (wpAny_pure ?_)
  refine call_sub sub_ga X I hm PySem.F.entry_list_ga (PySem.F.args_list_getattribute_2 _ _) ?_
  unfold Builtin.«object.__getattribute__»
  refine wpAny_bind (wpAny_pure (wpAny_bind (wpAny_pure (wpAny_bind (L0.at (wpAny_bind (L3.at ?_)))))))
  show wpAny _ _ (holding [_] (call _ [_, .ref x, .ref C]) >>= ret) _ _ _
  refine wpAny_bind (wpAny_holding (wpAny_call (fn_get X (beq_iff_eq.mp hf) ?_)))
  refine wpAny_pure ⟨_, rfl, ?_⟩
  show wpAny _ _ (handedOut (.ref hp.objs.size)) _ _ _
  rw [handedOut_of rfl]
  exact wpAny_pure (h hp.objs.size _ (F.push _) (N.push F _) fun p q => Heap.lt_size (N p q).1)
end
section
variable {M : Model} {A : Around} {E : Value → Shared → Prop} {s : Shared} {env : Env} {pos apos p : Pos} {o e : Expr} {name : Str} {Q : Value → Shared → Prop}
theorem eval_star1 (hb : attributeBase o name env (eval o env) = eval o env)
    (h : wpAny M A (eval o env) (fun ov s₁ => wpAny M A (getAttr ov name true) (fun fv s₂ => wpAny M A (callWith pos fv [] (backTo pos (starEach [.Starred e p] env)) []) Q E s₂) E s₁) E s) :
    wpAny M A (eval (.Call (.Attribute o name apos) [.Starred e p] [] pos) env) Q E s := by
  rw [arm_eval_Call, hb]
  refine wpAny_bind (wpAny_mono h (fun ov s₁ h₁ => wpAny_bind (wpAny_standAt ?_)) fun _ _ x => x)
  have hform : methodCallForm (([.Starred e p] : List Expr).length + ([] : List Keyword).length) (backTo pos (starEach [.Starred e p] env)) (backToKw pos (keywordEach [] env)) = false := rfl
  unfold methodCall
  rw [hform]
  refine wpAny_bind (wpAny_holding ?_)
  show wpAny M A (getAttr ov name true >>= fun v => pure (v, [])) _ E s₁
  exact wpAny_bind (wpAny_mono h₁ (fun v s₂ h₂ => wpAny_pure (wpAny_bind (wpAny_pure h₂))) fun _ _ x => x)
end

section
variable {prog : Program} {w : World} {A : Around} {E : Value → Shared → Prop} {s : Shared} {h₀ : Heap} {L a : Addr} {m : Str → Option Value} {news : List (Addr × Obj)}
theorem star_keep {o : Obj} {T : String} {its : Array Value} {n : Nat} {ws : List Value} {Q : List Value → Shared → Prop} (F : Fr h₀ L s.heap m) (N : News h₀ L s.heap news) (D : s.heap.get? a = some o) (hc : o.cls = .type T) (hd : o.data = .seq its n) (hT : T = "list" ∨ T = "tuple") (e : its.toList = ws)
    (hz : its.size ≤ sizeLine) (h : ∀ h', Fr h₀ L h' m → News h₀ L h' news → Q ws { s with heap := h' }) : StarOf (model prog w) A E (.ref a) Q s := by
  have hT' : s.TypeIs (.ref a) T := ⟨o, D, hc⟩
  subst e
  have z : wpAny (model prog w) A (collect (.ref a)) Q E s := by
    refine wpAny_collect_seq a hT D hc hd (fun h' hk => h h' ?_ fun p hp => ⟨hk _ _ (N p hp).1, (N p hp).2⟩) hz
    obtain ⟨oL, es, ep, hL, r⟩ := F.ns
    exact ⟨⟨oL, es, ep, hk _ _ hL, r⟩, fun b x q => hk _ _ (F.keep b x q), F.above⟩
  unfold StarOf notIterableAtAll
  rcases hT with rfl | rfl
  · exact wpAny_bind (wpAny_specialOf hT' PySem.F.slot_list_iter.lookup (wpAny_pure ⟨rfl, z⟩))
  · exact wpAny_bind (wpAny_specialOf hT' PySem.F.slot_tuple_iter.lookup (wpAny_pure ⟨rfl, z⟩))
end

theorem c_pushC {w : World} {mg mb : Str → Option Value} {A : Around} {s : Shared} {h₀ : Heap} {Q E : Value → Shared → Prop} {a d : Addr} {items : Array Value} {n : Nat} {t u : Tok} {fws str : Str} {t1 t2 : Tok}
    (C : Cx w mg mb h₀) (H : At h₀ s.heap [(a, accObj d items n), (d, dictOf (daEs w t u) 1)]) (hda : @LT.lt Nat _ d a) (hroom : A.depth < recursionLimit) (hz : items.size ≤ 100)
    (hQ : ∀ T s', At h₀ s'.heap [(T, { cls := .type "tuple", data := .seq #[.str fws t1, .str str t2] }), (a, accObj d (items.push (.ref T)) (n + 1)), (d, dictOf (daEs w t u) 1)] → (a : Nat) < T → s'.os = s.os → s'.gens = s.gens → Q .none s') :
    codeAny (model PR w) A (.call (.ref 122) ⟨[.ref a, .str fws t1, .str str t2], []⟩) (fun r s' => match r with | .ok (.ret v) => Q v s' | .ok _ => False | .error e => E e s') s := by
  obtain ⟨X, T⟩ := C
  have Xs := X.keeps H.keep
  have Ts := T.keeps H.keep
  k_dflt (refine' enter_def (binds := [(Str.ofString "self", .ref a), (Str.ofString "fws", .str fws t1), (Str.ofString "string", .str str t2)]) ?k1 ?k2 ?k3 ?k4 ?k5 ?k6 ?k7 ?_ ?c1 ?c2 ?c3 ?c4; (case k1 => exact Xs); (case k2 => exact Ts.nolimit); (case k3 => k_is); (case k4 => k_is); (case k5 => exact hroom); (case k6 => exact BindsTo.of_eq rfl); (case k7 => exact locs rfl); (case c1 => exact rfl); (case c2 => exact rfl); (case c3 => exact rfl); (case c4 => decide))
  intro L h₁ F₀ hL
  obtain ⟨F, N⟩ := H.enter F₀
  clear F₀ Xs Ts
  (try dsimp only)
  (try k_fold)
  k_steps
  rename Fr _ _ _ _ => F9
  rename News _ _ _ _ => N9
  rename _ ∧ _ => l9
  exact hQ _ _ (At.leave F9 N9) l9.1 rfl rfl

end
end
section
open PySem PySem.W PyProof.Rows PySem.Calls PySem.Spec PySem.SeqAt
set_option hygiene false
local macro_rules | `(tactic| walk_at "getAttr ref") => `(tactic| (k_here; k_dflt (refine get_seq (by k_asm) (by k_asm) (by k_inst) (by k_is) (by k_is) (by k_is) (by k_is) (by k_is) (by k_is) (by k_get) (by k_handed) ?_; k_whole)))
set_option hygiene true
local macro_rules | `(tactic| walk_at "getAttr ref") => `(tactic| (k_here; k_dflt (refine get_seq_bind (by k_asm) (by k_asm) (by k_asm) (by k_inst) (by k_is) (by k_is) (by k_is) (by k_is) (by k_is) (by k_is) (by k_is) (by k_is) (by decide +kernel) (by k_get) ?_; k_whole); intro q' h' F' N' l1; (try k_lt l1); (try k_sweep)))
local macro_rules | `(tactic| walk_at "callWith") => `(tactic| (k_here; (with_reducible show wpAny _ _ (callWith _ (Value.ref _) _ (backTo _ (starEach [Expr.Starred _ _] _)) _) _ _ _); refine Hold.out ?_))
set_option hygiene false
local macro_rules | `(tactic| walk_at "pyIter str") => `(tactic| refine Hold.out ?_)
set_option hygiene true
set_option hygiene false
local macro_rules | `(tactic| walk_at "pyIter ref") => `(tactic| refine Hold.out ?_)
set_option hygiene true
set_option hygiene false
local macro_rules | `(tactic| walk_at "call ref") => `(tactic| refine Hold.out ?_)
set_option hygiene true
set_option hygiene false
local macro_rules | `(tactic| walk_at "call type:str") => `(tactic| refine Hold.out ?_)
set_option hygiene true
set_option hygiene false
local macro_rules | `(tactic| walk_at "compareOp NotEq ref ref") => `(tactic| refine Hold.out ?_)
set_option hygiene true
section
open PySem PySem.W PyProof.Rows
set_option hygiene false
local macro_rules | `(tactic| omega) => `(tactic| first | w_left | (refine Nat.ne_of_lt ?_; w_left) | (refine Nat.ne_of_gt ?_; w_left) | lia | fail "no chain")
set_option hygiene true
section
open PySem PySem.W PyProof.Rows PySem.Calls PySem.Spec PySem.SeqAt
example : True := by
  w_top off
  trivial
set_option maxRecDepth 100000
set_option maxHeartbeats 1000000
set_option hygiene false
local macro_rules | `(tactic| walk_at "call builtin:len") => `(tactic| refine Hold.out ?_)
set_option hygiene true

section
variable {prog : Program} {w : World} {A : Around} {E : Value → Shared → Prop} {s : Shared}
theorem ne_tup {a b : Addr} {f c f' c' : Str} {t1 t2 t3 t4 : Tok} {Q : Value → Shared → Prop} (ha : s.heap.get? a = some (tupObj f c t1 t2)) (hb : s.heap.get? b = some (tupObj f' c' t3 t4)) (h1 : PyData.strOk f = true) (h2 : PyData.strOk c = true) (h3 : PyData.strOk f' = true) (h4 : PyData.strOk c' = true)
    (hu : A.units + 64 < cLine) (h : Q (.bool (!(decide (f = f') && decide (c = c')))) s) : wpAny (model prog w) A (compareOp .NotEq (.ref a) (.ref b)) Q E s := by
  have r1 : Reads s.heap (.ref a) (.tuple [.str f, .str c]) [] := by
    have := ReadsAll.cons (Reads.str (h := s.heap) f t1) (ReadsAll.cons (Reads.str (h := s.heap) c t2) .nil)
    exact Reads.tuple ha rfl rfl this
  have r2 : Reads s.heap (.ref b) (.tuple [.str f', .str c']) [] := by
    have := ReadsAll.cons (Reads.str (h := s.heap) f' t3) (ReadsAll.cons (Reads.str (h := s.heap) c' t4) .nil)
    exact Reads.tuple hb rfl rfl this
  refine ne_dataH_same r1 r2 (by simp [shaped, PyData.canLay0, PyData.canLayAll0, PyData.depth, PyData.depthAll, h1, h2]) (by simp [shaped, PyData.canLay0, PyData.canLayAll0, PyData.depth, PyData.depthAll, h3, h4]) hu (by rfl) ?_
  have e : Spec.same (.tuple [.str f, .str c]) (.tuple [.str f', .str c']) = (decide (f = f') && decide (c = c')) := by
    have b1 : ∀ x y : Str, (x == y) = decide (x = y) := fun x y => by by_cases q : x = y <;> simp [q]
    simp [Spec.same, Spec.sameAll, b1]
  rw [e]; exact h
end

section
variable {M : Model} {A : Around} {E : Value → Shared → Prop} {s : Shared} {K : Frag} {env : Env} {pos p : Pos} {q g : Addr} {self : Value} {first : List Value} {Q : Value → Shared → Prop} {e : Expr}
theorem callWith_SM (hf : fnIn K g = true) (h : wpAny M A (eval e env) (fun v s₁ => StarOf M A E v (fun vs s₂ => MethP K q g self s₂.heap ∧ wpAny M A (call (.ref q) (first ++ vs)) Q E s₂) s₁) E s) :
    wpAny M A (callWith pos (.ref q) first (backTo pos (starEach [.Starred e p] env)) []) Q E s := by
  have he : starEach [.Starred e p] env = [(true, eval e env)] := rfl
  rw [he]
  exact ks_call rfl (keeps_M hf) (ks_lone h)
end
theorem news_tail {h₀ h : Heap} {L : Addr} {p : Addr × Obj} {l : List (Addr × Obj)} (N : News h₀ L h (p :: l)) : News h₀ L h l := fun q hq => N q (.tail _ hq)

theorem c_newline {w : World} {mg mb : Str → Option Value} {A : Around} {s : Shared} {h₀ : Heap} {Q E : Value → Shared → Prop} {Fm DF LL CA d T0 : Addr} {its lv : List Value} {ls : List Str} {n nl : Nat} {t u t01 t02 : Tok} {kk : Nat → Tok} {wd : Int} {p1 p2 : Array Value} {rp : List (Str × Str)} {f c : Str}
    (C : Cx w mg mb h₀) (M : ∃ bm ob, BMod h₀ mainGlobals mg bm ob) (hh : A.handled = none) (hu : A.units + 200 < cLine)
    (H : At h₀ s.heap [(Fm, instObj 94 DF), (DF, dictOf (fmEs w kk wd LL CA) 6), (LL, W.listOf lv.toArray nl), (CA, accObj d (its ++ [Value.ref T0]).toArray n), (d, dictOf (daEs w t u) 1), (140, tabObj p1), (147, tabObj p2)])
    (htr : TriplesOk p1.toList) (htr2 : TriplesOk p2.toList) (o1 : @LT.lt Nat _ 147 DF) (o2 : @LT.lt Nat _ DF Fm) (o3 : @LT.lt Nat _ Fm LL) (o4 : @LT.lt Nat _ LL d) (o5 : @LT.lt Nat _ d CA) (hroom : A.depth + 20 < recursionLimit)
    (hparts : PartsAt h₀ its rp) (hT0 : h₀.get? T0 = some (tupObj f c t01 t02)) (hz : its.length ≤ 50) (hlv : StrsAre lv ls) (hzl : lv.length ≤ 50) (hlen : ∀ p ∈ rp ++ [(f, c)], p.1.length ≤ 1000 ∧ p.2.length ≤ 1000) (hokf : PyData.strOk f = true) (hokc : PyData.strOk c = true) (hc0 : c ≠ Str.ofString "")
    (hsp : Txt.isspace (strP (rp ++ [(f, c)])) = false) (hpos : 0 < sizeP (rp ++ [(f, c)]))
    (hQ : ∀ (nl' n' : Nat) (u' t' : Tok) (p1' p2' : Array Value) s', TriplesOk p1'.toList → TriplesOk p2'.toList → 
      At h₀ s'.heap [(Fm, instObj 94 DF), (DF, dictOf (fmEs w kk wd LL CA) 6), (LL, W.listOf (lv ++ [Value.str (strP (rp ++ [(f, c)])) t']).toArray nl'), (CA, accObj d #[] n'), (d, dictOf (daEs w t u') 1), (140, tabObj p1'), (147, tabObj p2')] → s'.os = s.os → GX s.gens s'.gens → Q .none s') :
    wpAny (model PR w) A (call (.ref 56) [.ref Fm]) Q E s := by
  have C' := C
  obtain ⟨X, T⟩ := C
  refine wpAny_call ?_
  have Xs := X.keeps H.keep
  have Ts := T.keeps H.keep
  k_dflt (refine' enter_def (binds := [(Str.ofString "self", .ref Fm)]) ?k1 ?k2 ?k3 ?k4 ?k5 ?k6 ?k7 ?_ ?c1 ?c2 ?c3 ?c4; (case k1 => exact Xs); (case k2 => exact Ts.nolimit); (case k3 => k_is); (case k4 => k_is); (case k5 => omega); (case k6 => exact BindsTo.of_eq rfl); (case k7 => exact locs rfl); (case c1 => exact rfl); (case c2 => exact rfl); (case c3 => exact rfl); (case c4 => decide))
  intro L h₁ F₀ hL
  obtain ⟨F, N⟩ := H.enter F₀
  clear F₀ Xs Ts
  (try dsimp only)
  (try k_fold)
  k_steps
  refine Hold.mk ?_
  obtain ⟨HA, hk⟩ := lend (lent := [(CA, accObj d (its ++ [Value.ref T0]).toArray n), (d, dictOf (daEs w t u) 1)]) F N (by k_all)
  refine c_pop (C'.keeps hk) HA o5 (by show A.depth + 1 + 5 < recursionLimit; omega) (by omega) fun s1 HB hos1 hgs1 => ?_
  obtain ⟨F1, N1⟩ := back (rest := [(Fm, instObj 94 DF), (DF, dictOf (fmEs w kk wd LL CA) 6), (LL, W.listOf lv.toArray nl), (140, tabObj p1), (147, tabObj p2)]) F N (by k_all) (by k_all) (by k_all) HB
  dsimp only [List.cons_append, List.nil_append] at N1
  clear F N HA hk HB
  k_steps
  refine Hold.mk ?_
  rename Fr _ _ _ _ => F2
  rename News _ _ _ _ => N2
  refine ne_tup (F2.keep _ _ hT0) (N2 _ (.head _)).1 hokf hokc (by decide +kernel) (by decide +kernel) (by show A.units + 3 + 64 < cLine; omega) ?_
  rw [decide_eq_false hc0, Bool.and_false]
  have N3 := news_tail N2
  clear N2
  k_steps
  refine eval_star1 rfl ?_
  k_steps
  refine Hold.mk ?_
  refine callWith_SM (K := heapK w.params) (g := 122) (self := .ref CA) (by k_is) ?_
  k_steps
  rename Fr _ _ _ _ => F4
  rename News _ _ _ _ => N4
  refine star_keep F4 N4 (F4.keep _ _ hT0) rfl rfl (.inr rfl) rfl (by show 2 ≤ sizeLine; decide) fun h5 F5 N5 => ⟨methP N5 (.head _) (X.keeps F5.keep), ?_⟩
  refine call_meth N5 (.head _) ?_
  have N6 := news_tail N5
  obtain ⟨HA, hk⟩ := lend (lent := [(CA, accObj d its.toArray (n + 1)), (d, dictOf (daEs w t u) 1)]) F5 N6 (by k_all)
  refine c_pushC (C'.keeps hk) HA o5 (by show A.depth + 1 < recursionLimit; omega) (by simp; omega) fun T1 s2 HB l2 hos2 hgs2 => ?_
  have hT1 := ltN l2
  obtain ⟨F7, N7⟩ := back (rest := [(Fm, instObj 94 DF), (DF, dictOf (fmEs w kk wd LL CA) 6), (LL, W.listOf lv.toArray nl), (140, tabObj p1), (147, tabObj p2)]) F5 N6 (by k_all) (by k_all) (by k_all) HB
  simp only [List.cons_append, List.nil_append, List.push_toArray] at N7
  clear F5 N5 N6 HA hk HB
  (try clear N3); (try clear F2); (try clear F1 N1); (try clear F4 N4)
  k_steps
  refine Hold.mk ?_
  k_dflt (refine' len_K F7 X ?I ?a ?b ?_; (case I => first | k_inst | fail); (case a => k_is); (case b => k_is))
  obtain ⟨HA, hk⟩ := lend (lent := [(CA, accObj d (its ++ [Value.ref T1]).toArray (n + 1 + 1)), (d, dictOf (daEs w t u) 1), (140, tabObj p1)]) F7 N7 (by k_all)
  have hparts1 : PartsAt (hideAll s2.heap ([(CA, accObj d (its ++ [Value.ref T1]).toArray (n + 1 + 1)), (d, dictOf (daEs w t u) 1), (140, tabObj p1)].map (·.1))) (its ++ [Value.ref T1]) (rp ++ [(f, c)]) :=
    (hparts.keeps hk).snoc (hideAll_get _ (N7 _ (.head _)).1 (by simp only [List.map_cons, List.map_nil, List.mem_cons, List.not_mem_nil, or_false, not_or]; exact ⟨by k_ne, by k_ne, by k_ne⟩))
  have b1 := sizeP_le _ hlen
  have b2 : (rp ++ [(f, c)]).length ≤ 51 := by rw [List.length_append, ← hparts.length]; simp; omega
  refine c_len (C'.keeps hk) (M.imp fun _ m => m.imp fun _ m => m.keeps hk) hh HA htr o5 (by omega) (by show A.depth + 1 + 5 < recursionLimit; omega) hparts1 (by rw [List.size_toArray, List.length_append]; simp; omega) hlen fun p1' t2 s3 htr' HB hos3 hgx3 => ?_
  refine ⟨⟨by omega, by omega⟩, ?_⟩
  obtain ⟨F8, N8⟩ := back (rest := [(T1, tupObj f c t01 t02), (Fm, instObj 94 DF), (DF, dictOf (fmEs w kk wd LL CA) 6), (LL, W.listOf lv.toArray nl), (147, tabObj p2)]) F7 N7 (by k_all) (by k_all) (by k_all) HB
  dsimp only [List.cons_append, List.nil_append] at N8
  clear F7 N7 HA hk HB hparts1
  k_steps
  refine Hold.mk ?_
  obtain ⟨HA, hk⟩ := lend (lent := [(CA, accObj d (its ++ [Value.ref T1]).toArray (n + 1 + 1)), (d, dictOf (daEs w t u) 1), (140, tabObj p1'), (147, tabObj p2)]) F8 N8 (by k_all)
  have hparts2 : PartsAt (hideAll s3.heap ([(CA, accObj d (its ++ [Value.ref T1]).toArray (n + 1 + 1)), (d, dictOf (daEs w t u) 1), (140, tabObj p1'), (147, tabObj p2)].map (·.1))) (its ++ [Value.ref T1]) (rp ++ [(f, c)]) :=
    (hparts.keeps hk).snoc (hideAll_get _ (N8 (T1, tupObj f c t01 t02) (by k_mem)).1 (by simp only [List.map_cons, List.map_nil, List.mem_cons, List.not_mem_nil, or_false, not_or]; exact ⟨by k_ne, by k_ne, by k_ne, by k_ne⟩))
  refine c_only (C'.keeps hk) (M.imp fun _ m => m.imp fun _ m => m.keeps hk) hh (by show A.units + 3 + 100 < cLine; omega) HA htr' htr2 o5 (by omega) (by show A.depth + 1 + 10 < recursionLimit; omega) hparts2 (by rw [List.size_toArray, List.length_append]; simp; omega) hlen hpos hsp fun p1'' p2' s4 htr3 htr4 HB hos4 hgx4 => ?_
  obtain ⟨F9, N9⟩ := back (rest := [(T1, tupObj f c t01 t02), (Fm, instObj 94 DF), (DF, dictOf (fmEs w kk wd LL CA) 6), (LL, W.listOf lv.toArray nl)]) F8 N8 (by k_all) (by k_all) (by k_all) HB
  dsimp only [List.cons_append, List.nil_append] at N9
  clear F8 N8 HA hk HB hparts2
  k_steps
  refine Hold.mk ?_
  k_dflt (refine' kso_call ?U ?X ?I ?a ?b ?_; (case U => first | (show A.units + 3 + 3 < cLine; omega) | (show A.units + 3 + 3 + 3 < cLine; omega) | (show A.units + 3 + 1 + 1 < cLine; omega) | (show A.units + 3 + 2 + 2 < cLine; omega)); (case X => exact X.keeps F9.keep); (case I => first | k_inst | fail); (case a => k_is); (case b => k_is))
  obtain ⟨HA, hk⟩ := lend (lent := [(CA, accObj d (its ++ [Value.ref T1]).toArray (n + 1 + 1)), (d, dictOf (daEs w t u) 1), (147, tabObj p2')]) F9 N9 (by k_all)
  have hparts3 : PartsAt (hideAll s4.heap ([(CA, accObj d (its ++ [Value.ref T1]).toArray (n + 1 + 1)), (d, dictOf (daEs w t u) 1), (147, tabObj p2')].map (·.1))) (its ++ [Value.ref T1]) (rp ++ [(f, c)]) :=
    (hparts.keeps hk).snoc (hideAll_get _ (N9 (T1, tupObj f c t01 t02) (by k_mem)).1 (by simp only [List.map_cons, List.map_nil, List.mem_cons, List.not_mem_nil, or_false, not_or]; exact ⟨by k_ne, by k_ne, by k_ne⟩))
  refine c_str (C'.keeps hk) (M.imp fun _ m => m.imp fun _ m => m.keeps hk) hh HA htr4 o5 (by omega) (by show A.depth + 1 + 5 < recursionLimit; omega) hparts3 (by rw [List.size_toArray, List.length_append]; simp; omega) hlen fun p2'' t5 s5 htr5 HB hos5 hgx5 => ?_
  show wpAny _ _ _ _ _ _
  obtain ⟨F10, N10⟩ := back (rest := [(140, tabObj p1''), (T1, tupObj f c t01 t02), (Fm, instObj 94 DF), (DF, dictOf (fmEs w kk wd LL CA) 6), (LL, W.listOf lv.toArray nl)]) F9 N9 (by k_all) (by k_all) (by k_all) HB
  dsimp only [List.cons_append, List.nil_append] at N10
  clear F9 N9 HA hk HB hparts3
  k_steps
  refine Hold.mk ?_
  rename Fr _ _ _ _ => F11
  rename News _ _ _ _ => N11
  obtain ⟨HA, hk⟩ := lend (lent := [(CA, accObj d (its ++ [Value.ref T1]).toArray (n + 1 + 1)), (d, dictOf (daEs w t u) 1)]) F11 N11 (by k_all)
  refine c_reset0 (C'.keeps hk) HA o5 (by show A.depth + 1 < recursionLimit; omega) (by simp; omega) fun n6 u6 s6 HB hos6 hgs6 => ?_
  obtain ⟨F12, N12⟩ := back (rest := [(LL, W.listOf (lv.toArray.push (Value.str (strP (rp ++ [(f, c)])) t5)) (nl + 1)), (147, tabObj p2''), (140, tabObj p1''), (Fm, instObj 94 DF), (DF, dictOf (fmEs w kk wd LL CA) 6)]) F11 N11 (by k_all) (by k_all) (by k_all) HB
  simp only [List.cons_append, List.nil_append, List.push_toArray] at N12
  clear F11 N11 HA hk HB
  k_steps
  have g1 : GX s.gens s2.gens := by
    have e1 : s1.gens = s.gens := hgs1
    have e2 : s2.gens = s1.gens := hgs2
    rw [e2, e1]; exact .refl _
  have g3 : GX s2.gens s3.gens := hgx3
  have g4 : GX s3.gens s4.gens := hgx4
  have g5 : GX s4.gens s5.gens := hgx5
  have g6 : GX s5.gens s6.gens := by
    have e1 : s6.gens = s5.gens := hgs6
    rw [e1]; exact .refl _
  exact hQ _ _ _ _ _ _ _ htr3 htr5 (At.leave F12 fun p hp => N12 p (sub_of (by k_all) p hp)) (hos6.trans (hos5.trans (hos4.trans (hos3.trans (hos2.trans hos1))))) (g1.trans (g3.trans (g4.trans (g5.trans g6))))

end
section
open PySem PySem.W PyProof.Rows PySem.Calls PySem.Spec PySem.SeqAt
example : True := by
  w_top off
  trivial
set_option maxRecDepth 100000
set_option maxHeartbeats 1000000
set_option hygiene false
local macro_rules | `(tactic| walk_at "call builtin:len") => `(tactic| refine Hold.out ?_)
set_option hygiene true


theorem c_strM {w : World} {mg mb : Str → Option Value} {A : Around} {s : Shared} {h₀ : Heap} {Q E : Value → Shared → Prop} {Fm DF LL CA d T0 : Addr} {its lv : List Value} {ls : List Str} {n nl : Nat} {t u t01 t02 tnl : Tok} {kk : Nat → Tok} {wd : Int} {p1 p2 : Array Value} {rp : List (Str × Str)} {f c sep : Str}
    (C : Cx w mg mb h₀) (M : ∃ bm ob, BMod h₀ mainGlobals mg bm ob) (hh : A.handled = none) (hu : A.units + 300 < cLine)
    (H : At h₀ s.heap [(Fm, instObj 94 DF), (DF, dictOf (fmEs w kk wd LL CA) 6), (LL, W.listOf lv.toArray nl), (CA, accObj d (its ++ [Value.ref T0]).toArray n), (d, dictOf (daEs w t u) 1), (140, tabObj p1), (147, tabObj p2)])
    (htr : TriplesOk p1.toList) (htr2 : TriplesOk p2.toList) (o1 : @LT.lt Nat _ 147 DF) (o2 : @LT.lt Nat _ DF Fm) (o3 : @LT.lt Nat _ Fm LL) (o4 : @LT.lt Nat _ LL d) (o5 : @LT.lt Nat _ d CA) (hroom : A.depth + 40 < recursionLimit)
    (hparts : PartsAt h₀ its rp) (hT0 : h₀.get? T0 = some (tupObj f c t01 t02)) (hz : its.length ≤ 50) (hlv : StrsAre lv ls) (hzl : lv.length ≤ 50) (hlen : ∀ p ∈ rp ++ [(f, c)], p.1.length ≤ 1000 ∧ p.2.length ≤ 1000) (hokf : PyData.strOk f = true) (hokc : PyData.strOk c = true) (hc0 : c ≠ Str.ofString "")
    (hsp : Txt.isspace (strP (rp ++ [(f, c)])) = false) (hpos : 0 < sizeP (rp ++ [(f, c)])) (hsep : sep.length ≤ 1) (hll : ∀ x ∈ ls ++ [strP (rp ++ [(f, c)])], x.length ≤ 500)
    (hQ : ∀ (t' : Tok) (p1' p2' : Array Value) s', TriplesOk p1'.toList → TriplesOk p2'.toList → 
      At h₀ s'.heap [(140, tabObj p1'), (147, tabObj p2')] → s'.os = s.os → GX s.gens s'.gens → Q (.str (Txt.join sep (ls ++ [strP (rp ++ [(f, c)])])) t') s') :
    wpAny (model PR w) A (call (.ref 42) [.ref Fm, .str sep tnl]) Q E s := by
  have C' := C
  obtain ⟨X, T⟩ := C
  refine wpAny_call ?_
  have Xs := X.keeps H.keep
  have Ts := T.keeps H.keep
  k_dflt (refine' enter_def (binds := [(Str.ofString "self", .ref Fm), (Str.ofString "linesep", .str sep tnl)]) ?k1 ?k2 ?k3 ?k4 ?k5 ?k6 ?k7 ?_ ?c1 ?c2 ?c3 ?c4; (case k1 => exact Xs); (case k2 => exact Ts.nolimit); (case k3 => k_is); (case k4 => k_is); (case k5 => omega); (case k6 => exact BindsTo.of_eq rfl); (case k7 => exact locs rfl); (case c1 => exact rfl); (case c2 => exact rfl); (case c3 => exact rfl); (case c4 => decide))
  intro L h₁ F₀ hL
  obtain ⟨F, N⟩ := H.enter F₀
  clear F₀ Xs Ts
  (try dsimp only)
  (try k_fold)
  k_steps
  refine Hold.mk ?_
  obtain ⟨HA, hk⟩ := lend (lent := [(Fm, instObj 94 DF), (DF, dictOf (fmEs w kk wd LL CA) 6), (LL, W.listOf lv.toArray nl), (CA, accObj d (its ++ [Value.ref T0]).toArray n), (d, dictOf (daEs w t u) 1), (140, tabObj p1), (147, tabObj p2)]) F N (by k_all)
  refine c_newline (C'.keeps hk) (M.imp fun _ m => m.imp fun _ m => m.keeps hk) hh (by show A.units + 3 + 200 < cLine; omega) HA htr htr2 o1 o2 o3 o4 o5 (by show A.depth + 1 + 20 < recursionLimit; omega) (hparts.keeps hk) (hk _ _ hT0) hz hlv hzl hlen hokf hokc hc0 hsp hpos fun nl' n' u' t' p1' p2' s1 htr3 htr4 HB hos1 hgx1 => ?_
  obtain ⟨F1, N1⟩ := back (rest := []) F N (by k_all) (by k_all) (by k_all) HB
  simp only [List.cons_append, List.nil_append, List.append_nil] at N1
  clear F N HA hk HB
  k_steps
  refine join_strs N1 (by k_mem) hlv.snoc (joinOk_small (by omega) hll (by decide) (by rw [List.length_append, ← hlv.length]; simp; omega)) fun t2 k => ?_
  exact hQ _ _ _ _ htr3 htr4 (At.leave F1 fun p hp => N1 p (sub_of (by k_all) p hp)) hos1 hgx1

end
section
open PySem PySem.W PyProof.Rows PySem.Calls PySem.Spec PySem.SeqAt
example : True := by
  w_top off
  trivial
set_option maxRecDepth 100000
set_option maxHeartbeats 1000000


noncomputable def makesLIn (K : Frag) (C : Addr) : Bool := match K.lookup C with
  | some ⟨_, _, .cls cd, sl⟩ => !cd.hasDel && (sl.toList[4]?).join == some (.builtin "list.__new__") && !cd.mro.isEmpty && cd.mro.contains (.ref C) && cd.mro.contains (.type "list") &&
      specialIn K (.ref C) "__call__" == some (some (.builtin "type.__call__")) && instIn K (.ref C) (.type "type") == some true
  | _ => false
theorem makesL_in {K : Frag} {M : Model} {h : Heap} (X : K.In h) {C : Addr} (e : makesLIn K C = true) : MakesL M h C := by
  unfold makesLIn at e
  split at e
  · rename_i oc od cd sl ho
    simp only [Bool.and_eq_true, Bool.not_eq_true', beq_iff_eq] at e
    obtain ⟨⟨⟨⟨⟨⟨e2, e3⟩, e4⟩, e5⟩, e6⟩, e7⟩, e8⟩ := e
    exact makesL_of X ho e2 (by rw [← Array.getElem?_toList]; exact e3) e4 e5 e6 e7 e8
  · cases e
theorem makesAcc {M : Model} {h : Heap} {p : Params} (X : (heapK p).In h) : MakesL M h 178 := makesL_in X (by first | kernel_rfl | rfl)

theorem c_initF {w : World} {mg mb : Str → Option Value} {A : Around} {s : Shared} {h₀ : Heap} {R : Result → Shared → Prop} {Fm DF : Addr} {ti tw tc ts : Tok} {wd : Int}
    (C : Cx w mg mb h₀) (H : At h₀ s.heap [(Fm, instObj 94 DF), (DF, emptyDict)]) (o2 : @LT.lt Nat _ DF Fm) (hroom : A.depth + 5 < recursionLimit)
    (hR : ∀ LL CA d (kk : Nat → Tok) t s', At h₀ s'.heap [(Fm, instObj 94 DF), (DF, dictOf (fmEs w kk wd LL CA) 6), (LL, W.listOf #[] 0), (CA, accObj d #[] 0), (d, dictOf (daEs w t ti) 1)] → @LT.lt Nat _ Fm LL → @LT.lt Nat _ LL d → @LT.lt Nat _ d CA → s'.os = s.os → s'.gens = s.gens → R (.ok (.ret .none)) s') :
    codeAny (model PR w) A (.call (.ref 35) ⟨[.ref Fm, .int 0 ti, .int wd tw, .str (Str.ofString " ") tc, .str (Str.ofString " ") ts], []⟩) R s := by
  have C' := C
  obtain ⟨X, T⟩ := C
  have Xs := X.keeps H.keep
  have Ts := T.keeps H.keep
  k_dflt (refine' enter_def (binds := [(Str.ofString "self", .ref Fm), (Str.ofString "headerlen", .int 0 ti), (Str.ofString "maxlen", .int wd tw), (Str.ofString "continuation_ws", .str (Str.ofString " ") tc), (Str.ofString "splitchars", .str (Str.ofString " ") ts)]) ?k1 ?k2 ?k3 ?k4 ?k5 ?k6 ?k7 ?_ ?c1 ?c2 ?c3 ?c4; (case k1 => exact Xs); (case k2 => exact Ts.nolimit); (case k3 => k_is); (case k4 => k_is); (case k5 => omega); (case k6 => exact BindsTo.of_eq rfl); (case k7 => exact locs rfl); (case c1 => exact rfl); (case c2 => exact rfl); (case c3 => exact rfl); (case c4 => decide))
  intro L h₁ F₀ hL
  obtain ⟨F, N⟩ := H.enter F₀
  clear F₀ Xs Ts
  (try dsimp only)
  (try k_fold)
  k_steps
  refine Hold.mk ?_
  rename Fr _ _ _ _ => F1
  rename News _ _ _ _ => N1
  refine make_acc F1 N1 (makesAcc (X.keeps F1.keep)) (X.keeps F1.keep) (fI := 115) (by k_is) (by k_is) fun CA d h2 F2 N2 l2 l3 => ?_
  k_lt l2
  rename Fm < _ ∧ DF < _ => l1
  obtain ⟨HA, hk⟩ := lend (lent := [(CA, accObj d #[] 0), (d, dictOf [] 0)]) F2 N2 (by k_all)
  refine c_init (C'.keeps hk) HA l3 (by show A.depth + 1 + 1 < recursionLimit; omega) fun t3 s3 HB hos3 hgs3 => ⟨rfl, ?_⟩
  obtain ⟨F3, N3⟩ := back F2 N2 (by k_all) (fun p hp => .tail _ (.tail _ hp)) (by k_all) HB
  dsimp only [List.cons_append, List.nil_append] at N3
  clear F1 N1 F2 N2 HA hk HB
  show wpAny _ _ _ _ _ _
  k_steps
  rename Fr _ _ _ _ => F9
  rename News _ _ _ _ => N9
  exact hR _ CA d (fun i => [_, _, _, _, _, _, _, _, _, _].getD i 0) _ _ (At.leave F9 fun p hp => N9 p (sub_of (by k_all) p hp)) (ltN l1.1) (ltN l2.1) (ltN l3) hos3 hgs3

end
section
open PySem PySem.W PyProof.Rows PySem.Calls PySem.Spec PySem.SeqAt
example : True := by
  w_top off
  trivial
set_option maxRecDepth 100000
set_option maxHeartbeats 1000000


noncomputable def chunkAt (ws : List Str) (start stop : Nat) : Str × Str := (if 0 < start then Str.ofString " " else Str.ofString "", Txt.join (Str.ofString " ") ((ws.drop start).take (stop - start)))
noncomputable def foldStep (wd : Int) (ws : List Str) (sf : List Bool) (st : Nat × List Str × List (Str × Str)) (i : Nat) : Nat × List Str × List (Str × Str) :=
  if i + 1 = ws.length ∨ sf[i]? = some true then (i + 1, fmStep wd st.2 (chunkAt ws st.1 (i + 1))) else st
noncomputable def foldN (wd : Int) (ws : List Str) (sf : List Bool) : Nat → Nat × List Str × List (Str × Str)
  | 0 => (0, [], [])
  | i + 1 => foldStep wd ws sf (foldN wd ws sf i) i
noncomputable def rowsF (wd : Int) (ws : List Str) (sf : List Bool) : List Str := let st := foldN wd ws sf ws.length; st.2.1 ++ [strP st.2.2]

noncomputable def TupL (tl : List (Addr × Obj)) : Prop := ∀ p ∈ tl, ∃ f c t1 t2, p.2 = tupObj f c t1 t2
noncomputable def PT (tl : List (Addr × Obj)) (its : List Value) (parts : List (Str × Str)) : Prop := ∀ h : Heap, (∀ p ∈ tl, h.get? p.1 = some p.2) → PartsAt h its parts
theorem PT.snoc {tl : List (Addr × Obj)} {its : List Value} {parts : List (Str × Str)} {T : Addr} {f c : Str} {t1 t2 : Tok} (x : PT tl its parts) : PT ((T, tupObj f c t1 t2) :: tl) (its ++ [.ref T]) (parts ++ [(f, c)]) :=
  fun h hp => (x h fun p q => hp p (.tail _ q)).snoc (hp _ (.head _))
theorem PartsAt.last {h : Heap} : ∀ {rp : List (Str × Str)} {vs : List Value} {f c : Str}, PartsAt h vs (rp ++ [(f, c)]) → ∃ its T t1 t2, vs = its ++ [.ref T] ∧ PartsAt h its rp ∧ h.get? T = some (tupObj f c t1 t2) := by
  intro rp
  induction rp with
  | nil => intro vs f c x; cases x with | cons a b => cases b with | nil => exact ⟨[], _, _, _, rfl, .nil, a⟩
  | cons q rp ih => intro vs f c x; cases x with | cons a b => obtain ⟨its, T, t1, t2, e, p1, p2⟩ := ih b; exact ⟨_ :: its, T, t1, t2, by rw [e]; rfl, .cons a p1, p2⟩

theorem foldN_small {wd : Int} {ws : List Str} {sf : List Bool} (hw : ∀ x ∈ ws, x.length ≤ 15) (hn : ws.length ≤ 5) : ∀ i, i ≤ ws.length → 
    (foldN wd ws sf i).1 ≤ i ∧ (∀ p ∈ (foldN wd ws sf i).2.2, (p.1 = Str.ofString "" ∨ p.1 = Str.ofString " ") ∧ ∃ a b, p.2 = Txt.join (Str.ofString " ") ((ws.drop a).take b) ∧ a < ws.length ∧ 0 < b) ∧
    (foldN wd ws sf i).2.2.length ≤ i ∧ (foldN wd ws sf i).2.1.length ≤ i ∧ ((foldN wd ws sf i).2.2 ≠ [] → 0 < (foldN wd ws sf i).1) := by
  intro i
  induction i with
  | zero => intro _; exact ⟨Nat.le_refl _, fun _ h => (nomatch h), Nat.le_refl _, Nat.le_refl _, fun h => absurd rfl h⟩
  | succ i ih =>
    intro hi
    obtain ⟨h1, h2, h3, h4, h5⟩ := ih (by omega)
    show (foldStep wd ws sf (foldN wd ws sf i) i).1 ≤ _ ∧ (∀ p ∈ (foldStep wd ws sf (foldN wd ws sf i) i).2.2, _) ∧ (foldStep wd ws sf (foldN wd ws sf i) i).2.2.length ≤ _ ∧ (foldStep wd ws sf (foldN wd ws sf i) i).2.1.length ≤ _ ∧ ((foldStep wd ws sf (foldN wd ws sf i) i).2.2 ≠ [] → 0 < (foldStep wd ws sf (foldN wd ws sf i) i).1)
    generalize foldN wd ws sf i = st at *
    obtain ⟨start, ls, ps⟩ := st
    unfold foldStep
    split
    · have hc : (chunkAt ws start (i + 1)).1 = Str.ofString "" ∨ (chunkAt ws start (i + 1)).1 = Str.ofString " " := by
        unfold chunkAt; dsimp only; split
        · exact .inr rfl
        · exact .inl rfl
      have hc2 : ∃ a b, (chunkAt ws start (i + 1)).2 = Txt.join (Str.ofString " ") ((ws.drop a).take b) ∧ a < ws.length ∧ 0 < b := ⟨start, i + 1 - start, rfl, by dsimp only at h1; omega, by dsimp only at h1; omega⟩
      unfold fmStep
      dsimp only at h2 h3 h4 ⊢
      split
      · split
        · exact ⟨Nat.le_refl _, fun p hp => by rw [List.mem_singleton.mp hp]; exact ⟨hc, hc2⟩, by simp, by dsimp only; omega, fun _ => Nat.succ_pos _⟩
        · exact ⟨Nat.le_refl _, fun p hp => by rw [List.mem_singleton.mp hp]; exact ⟨hc, hc2⟩, by simp, by rw [List.length_append]; simp; omega, fun _ => Nat.succ_pos _⟩
      · refine ⟨Nat.le_refl _, fun p hp => ?_, by rw [List.length_append]; simp; omega, by dsimp only; omega, fun _ => Nat.succ_pos _⟩
        rcases List.mem_append.mp hp with hp | hp
        · exact h2 p hp
        · rw [List.mem_singleton.mp hp]; exact ⟨hc, hc2⟩
    · exact ⟨by dsimp only at h1 ⊢; omega, h2, by dsimp only at h3 ⊢; omega, by dsimp only at h4 ⊢; omega, h5⟩

end
section
open PySem PySem.W PyProof.Rows PySem.Calls PySem.Spec PySem.SeqAt
example : True := by
  w_top off
  trivial
set_option maxRecDepth 100000
set_option maxHeartbeats 1000000


theorem foldN_parts {wd : Int} {ws : List Str} {sf : List Bool} (hW : ∀ x ∈ ws, TOk x ∧ HasW x ∧ x.length ≤ 15) (hn : ws.length ≤ 5) (i : Nat) (hi : i ≤ ws.length) :
    ∀ p ∈ (foldN wd ws sf i).2.2, TOk p.1 ∧ TOk p.2 ∧ HasW p.2 ∧ p.1.length ≤ 1 ∧ p.2.length ≤ 80 := by
  intro p hp
  obtain ⟨h1, a, b, h2, h3, h4⟩ := (foldN_small (fun x hx => (hW x hx).2.2) hn i hi).2.1 p hp
  refine ⟨?_, ?_, ?_, ?_, ?_⟩
  · rcases h1 with h | h <;> rw [h]
    · exact TOk.empty
    · exact TOk.sp
  · rw [h2]; exact TOk.sp.join fun x hx => (hW x (List.mem_of_mem_drop (List.mem_of_mem_take hx))).1
  · have hx : ws[a] ∈ (ws.drop a).take b := by
      rw [List.drop_eq_getElem_cons h3]
      cases b with
      | zero => omega
      | succ b => exact .head _
    rw [h2]; exact (hW _ (List.getElem_mem h3)).2.1.join hx
  · rcases h1 with h | h <;> rw [h] <;> decide +kernel
  · rw [h2, join_eq]
    have h5 := StrLaws.join_length_le (Str.ofString " ") ((ws.drop a).take b)
    have h6 := sum_le_mul ((ws.drop a).take b) 15 fun x hx => (hW x (List.mem_of_mem_drop (List.mem_of_mem_take hx))).2.2
    have h7 : ((ws.drop a).take b).length ≤ 5 := by rw [List.length_take, List.length_drop]; exact min_sub hn
    have h8 : (Str.ofString " ").length = 1 := by decide +kernel
    rw [h8] at h5
    exact join_lim h5 h6 h7 rfl

end
section
open PySem PySem.W PyProof.Rows PySem.Calls
example : True := by
  w_top off
  trivial
theorem strs_conv {vs : List Value} {xs : List Str} (h : PyProof.Rows.StrsAre vs xs) : StrsAre vs xs := by
  induction h with
  | nil => exact .nil
  | cons _ _ _ ih => exact .cons ih
theorem tup_off {h₀ h : Heap} {L : Addr} {news tps lent : List (Addr × Obj)} (N : News h₀ L h news) (hT : TupL tps) (h1 : ∀ p ∈ tps, p ∈ news) (h2 : ∀ q ∈ lent, q ∈ news) (h3 : ∀ q ∈ lent, q.2.cls ≠ .type "tuple") :
    ∀ p ∈ tps, ∀ q ∈ lent, p.1 ≠ q.1 := by
  intro p hp q hq e
  have a := (N p (h1 p hp)).1
  have b := (N q (h2 q hq)).1
  rw [e, b] at a
  obtain ⟨f, c, t1, t2, hpo⟩ := hT p hp
  refine h3 q hq ?_
  rw [Option.some.inj a, hpo]
theorem TupL.cons {tps : List (Addr × Obj)} {T : Addr} {f c : Str} {t1 t2 : Tok} (h : TupL tps) : TupL ((T, tupObj f c t1 t2) :: tps) := by
  intro p hp
  rcases List.mem_cons.mp hp with rfl | hp
  · exact ⟨_, _, _, _, rfl⟩
  · exact h p hp
theorem rot_sub {α : Type} {l1 tps own : List α} {T : α} : ∀ p ∈ l1 ++ T :: tps, p ∈ T :: (l1 ++ (tps ++ own)) := by
  intro p hp
  rcases List.mem_append.mp hp with hp | hp
  · exact .tail _ (List.mem_append_left _ hp)
  · rcases List.mem_cons.mp hp with rfl | hp
    · exact .head _
    · exact .tail _ (List.mem_append_right _ (List.mem_append_left _ hp))
theorem PartsAt.det {h : Heap} {vs : List Value} {a b : List (Str × Str)} (x : PartsAt h vs a) (y : PartsAt h vs b) : a = b := by
  induction x generalizing b with
  | nil => cases y; rfl
  | cons e _ ih =>
    cases y with
    | cons e' y' =>
      rw [e] at e'
      obtain ⟨-, e2⟩ := by simpa using e'
      rw [ih y']
      simp_all
theorem new_off {h h' : Heap} {lent news' own : List (Addr × Obj)} {p : Addr × Obj} (H : At (hideAll h (lent.map (·.1))) h' news') (hp : p ∈ news') (ho : ∀ q ∈ own, h.get? q.1 = some q.2) (hl : ∀ q ∈ own, q.1 ∉ lent.map (·.1)) : ∀ q ∈ own, q.1 ≠ p.1 := by
  intro q hq e
  have a := hideAll_get _ (ho q hq) (hl q hq)
  rw [e, (H.news p hp).2] at a
  cases a
theorem own_rot {own la lb tps : List (Addr × Obj)} {T : Addr} {o : Obj} (hoff : OwnOff own ((la ++ tps).map (·.1))) (e : lb.map (·.1) = la.map (·.1)) (hT : ∀ q ∈ own, q.1 ≠ T) : OwnOff own ((lb ++ (T, o) :: tps).map (·.1)) := by
  intro q hq b hb
  rw [List.map_append, List.map_cons] at hb
  rcases List.mem_append.mp hb with hb | hb
  · exact hoff q hq b (by rw [List.map_append, ← e]; exact List.mem_append_left _ hb)
  · rcases List.mem_cons.mp hb with rfl | hb
    · exact hT q hq
    · exact hoff q hq b (by rw [List.map_append]; exact List.mem_append_right _ hb)
theorem foldN_last {wd : Int} {ws : List Str} {sf : List Bool} (hn : 1 ≤ ws.length) : ∃ rp f c, (foldN wd ws sf ws.length).2.2 = rp ++ [(f, c)] := by
  cases h : ws.length with
  | zero => omega
  | succ k =>
    show ∃ rp f c, (foldStep wd ws sf (foldN wd ws sf k) k).2.2 = _
    unfold foldStep
    rw [if_pos (.inl h.symm)]
    unfold fmStep
    split
    · split
      · exact ⟨[], _, _, rfl⟩
      · exact ⟨[], _, _, rfl⟩
    · exact ⟨_, _, _, rfl⟩
theorem HasW.strP {rp : List (Str × Str)} {f c : Str} (h : HasW c) : HasW (strP (rp ++ [(f, c)])) := by
  unfold Mine.strP
  refine HasW.join (x := partS (f, c)) (List.mem_map_of_mem (by simp)) ?_
  exact HasW.join (x := c) (by simp) h
theorem sizeP_pos {rp : List (Str × Str)} {f c : Str} (h : HasW c) : 0 < sizeP (rp ++ [(f, c)]) := by
  unfold sizeP
  have := h.pos
  simp
  omega

end
end
section
open PySem PySem.W PyProof.Rows PySem.Calls PySem.Spec PySem.SeqAt
example : True := by
  w_top off
  trivial
set_option maxRecDepth 100000
set_option maxHeartbeats 1000000

set_option hygiene false
local macro_rules | `(tactic| walk_at "exec For Name Call cons nil") => `(tactic| refine Hold.out ?_)
set_option hygiene true
set_option hygiene false
local macro_rules | `(tactic| walk_at "call builtin:str.split") => `(tactic| refine Hold.out ?_)
set_option hygiene true
set_option hygiene false
local macro_rules | `(tactic| walk_at "subscriptTail") => `(tactic| refine Hold.out ?_)
set_option hygiene true
set_option hygiene false
local macro_rules | `(tactic| walk_at "subscriptTail Name Slice ref ref") => `(tactic| refine Hold.out ?_)
set_option hygiene true
set_option hygiene false
local macro_rules | `(tactic| walk_at "subscriptTail Name BinOp ref int") => `(tactic| refine Hold.out ?_)
set_option hygiene true
set_option hygiene false
local macro_rules | `(tactic| walk_at "eval Name") => `(tactic| (k_here; k_dflt (refine ld (by k_asm) (by (first | assumption | (simp (decide := true) only [if_true, if_false]; assumption))) ?_; k_whole)))
set_option hygiene true
local macro_rules | `(tactic| walk_at "call builtin:len") => `(tactic| (k_here; (with_reducible show wpAny _ _ (call (Value.builtin "len") [Value.ref _]) _ _ _); k_dflt (refine len_bl (by k_asm) (by k_asm) ?_); intro tL kL))

theorem foldN_lines {wd : Int} {ws : List Str} {sf : List Bool} (hW : ∀ x ∈ ws, TOk x ∧ HasW x ∧ x.length ≤ 15) (hn : ws.length ≤ 5) : ∀ (i : Nat), i ≤ ws.length →
    (∀ x ∈ (foldN wd ws sf i).2.1, TOk x ∧ x.length ≤ 405) ∧ (TOk (strP (foldN wd ws sf i).2.2) ∧ (strP (foldN wd ws sf i).2.2).length ≤ 405) := by
  have key : ∀ i, i ≤ ws.length → TOk (strP (foldN wd ws sf i).2.2) ∧ (strP (foldN wd ws sf i).2.2).length ≤ 405 := by
    intro i hi
    have h := foldN_parts (wd := wd) (sf := sf) hW hn i hi
    have hl := (foldN_small (wd := wd) (sf := sf) (fun x hx => (hW x hx).2.2) hn i hi).2.2.1
    constructor
    · unfold strP
      refine TOk.empty.join fun x hx => ?_
      obtain ⟨p, hp, rfl⟩ := List.mem_map.mp hx
      refine TOk.empty.join fun y hy => ?_
      rcases List.mem_cons.mp hy with rfl | hy
      · exact (h p hp).1
      · rw [List.mem_singleton.mp hy]; exact (h p hp).2.1
    · unfold strP
      rw [join_eq]
      have h5 := StrLaws.join_length_le (Str.ofString "") ((foldN wd ws sf i).2.2.map partS)
      have h6 := sum_le_mul ((foldN wd ws sf i).2.2.map partS) 81 fun x hx => by
        obtain ⟨p, hp, rfl⟩ := List.mem_map.mp hx
        have := partS_length p
        have q := h p hp
        omega
      have h8 : (Str.ofString "").length = 0 := by decide +kernel
      rw [h8] at h5
      rw [List.length_map] at h5 h6
      exact join_lim h5 h6 (Nat.le_trans hl (Nat.le_trans hi hn)) rfl
  intro i
  induction i with
  | zero => intro hi; exact ⟨fun _ h => (nomatch h), key 0 hi⟩
  | succ i ih =>
    intro hi
    refine ⟨?_, key _ hi⟩
    have ih' := ih (by omega)
    show ∀ x ∈ (foldStep wd ws sf (foldN wd ws sf i) i).2.1, _
    have k0 := key i (by omega)
    generalize foldN wd ws sf i = st at *
    obtain ⟨start, ls, ps⟩ := st
    unfold foldStep
    split
    · unfold fmStep
      dsimp only at ih' k0 ⊢
      split
      · split
        · exact ih'.1
        · intro x hx
          rcases List.mem_append.mp hx with hx | hx
          · exact ih'.1 x hx
          · rw [List.mem_singleton.mp hx]; exact k0
      · exact ih'.1
    · exact ih'.1

theorem c_folded {w : World} {mg mb : Str → Option Value} {A : Around} {s : Shared} {h₀ : Heap} {Q E : Value → Shared → Prop} {lw lsf : Addr} {vs bs : List Value} {ws : List Str} {sf : List Bool} {wd : Int} {tw : Tok} {p1 p2 : Array Value}
    (C : Cx w mg mb h₀) (M : ∃ bm ob, BMod h₀ mainGlobals mg bm ob) (hh : A.handled = none) (hu : A.units + 500 < cLine) (H : At h₀ s.heap [(140, tabObj p1), (147, tabObj p2)]) (htr : TriplesOk p1.toList) (htr2 : TriplesOk p2.toList) (hroom : A.depth + 60 < recursionLimit)
    (hl : h₀.IsList lw vs.toArray) (hi : StrsAre vs ws) (hb : h₀.IsList lsf bs.toArray) (hbi : BoolsAre bs sf) (hn1 : 1 ≤ ws.length) (hn5 : ws.length ≤ 5) (hsl : sf.length + 1 = ws.length) (hW : ∀ x ∈ ws, TOk x ∧ HasW x ∧ x.length ≤ 15) (hw0 : 0 ≤ wd) (hw1 : wd ≤ 1000)
    (hQ : ∀ r vs' p1' p2' s', At h₀ s'.heap [(r, W.listOf vs'.toArray 0), (140, tabObj p1'), (147, tabObj p2')] → StrsAre vs' (rowsF wd ws sf) → TriplesOk p1'.toList → TriplesOk p2'.toList → s'.os = s.os → GX s.gens s'.gens → Q (.ref r) s') :
    wpAny (model PR w) A (call (.ref 224) [.ref lw, .ref lsf, .int wd tw]) Q E s := by
  have C' := C
  obtain ⟨X, T⟩ := C
  refine wpAny_call ?_
  have Xs := X.keeps H.keep
  have Ts := T.keeps H.keep
  k_dflt (refine' enter_def (binds := [(Str.ofString "words", .ref lw), (Str.ofString "safe", .ref lsf), (Str.ofString "width", .int wd tw)]) ?k1 ?k2 ?k3 ?k4 ?k5 ?k6 ?k7 ?_ ?c1 ?c2 ?c3 ?c4; (case k1 => exact Xs); (case k2 => exact Ts.nolimit); (case k3 => k_is); (case k4 => k_is); (case k5 => omega); (case k6 => exact BindsTo.of_eq rfl); (case k7 => exact locs rfl); (case c1 => exact rfl); (case c2 => exact rfl); (case c3 => exact rfl); (case c4 => decide))
  intro L h₁ F₀ hL
  refine abstr ?_
  intro Q0 E0 hP0 hE0
  obtain ⟨F, N⟩ := H.enter F₀
  clear F₀ Xs Ts
  (try dsimp only)
  (try k_fold)
  k_steps
  refine Hold.mk ?_
  rename Fr _ _ _ _ => F1
  rename News _ _ _ _ => N1
  refine wpAny_call (W.make_K F1 N1 (X.keeps F1.keep) (by k_is) (fI := 35) (by k_is) (by k_is) fun Fm DF h2 F2 N2 l2 l3 => ?_)
  k_lt l2
  have o1 := ltN l2.2
  have o2 := ltN l3
  obtain ⟨HA, hk⟩ := lend (lent := [(Fm, instObj 94 DF), (DF, emptyDict)]) F2 N2 (by k_all)
  refine c_initF (C'.keeps hk) HA o2 (by show A.depth + 1 + 1 + 5 < recursionLimit; omega) fun LL CA d kk t s3 HB o3 o4 o5 hos3 hgs3 => ⟨rfl, ?_⟩
  obtain ⟨F3, N3⟩ := back F2 N2 (by k_all) (fun p hp => .tail _ (.tail _ hp)) (by k_all) HB
  dsimp only [List.cons_append, List.nil_append] at N3
  clear F1 N1 F2 N2 HA hk HB
  show wpAny _ _ _ _ _ _
  have B : BL h₀ lw vs ws.length := ⟨hl, hi.length, by omega⟩
  have Bb : BL h₀ lsf bs sf.length := ⟨hb, hbi.length, by omega⟩
  generalize hn : ws.length = n at *
  have hs4 : sf.length ≤ 4 := Nat.le_of_succ_le_succ (Nat.le_trans (Nat.le_of_eq hsl) hn5)
  have hws5 : ws.length ≤ 5 := Nat.le_trans (Nat.le_of_eq hn) hn5
  have hws1 : 1 ≤ ws.length := Nat.le_trans hn1 (Nat.le_of_eq hn.symm)
  k_steps
  refine Hold.mk (wpAny_For ?_)
  k_steps
  refine Hold.mk ?_
  rename IsRange _ _ _ _ _ _ _ _ => hr
  rename Fr _ _ _ _ => F4
  rename News _ _ _ _ => N4
  refine for_range (h₀ := h₀) (m := _) (news := _) (n := n) hh hr (range_small (by decide) (by decide) (by omega) (by omega) (.inl rfl)) (rangeSize_up (by omega)) rfl rfl F4 N4
    (fun i m₁ news₁ => ∃ (start : Nat) (ls : List Str) (parts : List (Str × Str)) (lv its : List Value) (tps : List (Addr × Obj)) (nl nc : Nat) (u' : Tok) (kk : Nat → Tok) (p1' p2' : Array Value),
      foldN wd ws sf i = (start, ls, parts) ∧ m₁ (Str.ofString "words") = some (.ref lw) ∧ m₁ (Str.ofString "safe") = some (.ref lsf) ∧ m₁ (Str.ofString "maker") = some (.ref Fm) ∧ IsI m₁ (Str.ofString "start") start ∧
      news₁ = (Fm, instObj 94 DF) :: (DF, dictOf (fmEs w kk wd LL CA) 6) :: (LL, W.listOf lv.toArray nl) :: (CA, accObj d its.toArray nc) :: (d, dictOf (daEs w t u') 1) :: (140, tabObj p1') :: (147, tabObj p2') :: tps ∧
      TupL tps ∧ PT tps its parts ∧ StrsAre lv ls ∧ TriplesOk p1'.toList ∧ TriplesOk p2'.toList) ?_ ?_ ?_
  · exact ⟨0, [], [], [], [], [], _, _, _, _, _, _, rfl, rfl, rfl, rfl, ⟨_, rfl⟩, rfl, (fun _ h => nomatch h), (fun _ _ => .nil), .nil, htr, htr2⟩
  · rintro i tk m₁ news₁ own s₁ hin ⟨start, ls, parts, lv, its, tps, nl, nc, u', kk, p1', p2', hfo, m1, m2, m3, ⟨tst, m4⟩, rfl, hT, hP, hlv, htr', htr2'⟩ hoff F5 N5 hos5 hgx5
    change Fr h₀ L s₁.heap _ at F5
    change News h₀ L s₁.heap (_ :: _ :: _ :: _ :: _ :: _ :: _ :: (tps ++ own)) at N5
    refine abstr ?_
    intro Q1 E1 hP1 hE1
    clear F4 N4 hr
    rw [show ((1 : Int) + (i : Int) * 1) = ((i + 1 : Nat) : Int) by omega] at F5
    have hiw : i ≤ ws.length := Nat.le_trans (Nat.le_of_lt hin) (Nat.le_of_eq hn.symm)
    have sm := foldN_small (wd := wd) (ws := ws) (sf := sf) (fun x hx => (hW x hx).2.2) (by omega) i (by omega)
    have pt := foldN_parts (wd := wd) (sf := sf) hW (by omega) i (by omega)
    rw [hfo] at sm pt
    obtain ⟨hs1, -, hs2, hs3, hst⟩ := sm
    dsimp only at hs1 hs2 hs3 hst pt
    have hlen1000 : ∀ p ∈ parts, p.1.length ≤ 1000 ∧ p.2.length ≤ 1000 := fun p hp => ⟨Nat.le_trans (pt p hp).2.2.2.1 (Nat.le_of_ble_eq_true rfl), Nat.le_trans (pt p hp).2.2.2.2 (Nat.le_of_ble_eq_true rfl)⟩
    have hpick : slicePick vs.toArray (some (start : Int)) (some ((i + 1 : Nat) : Int)) none = ((vs.drop start).take (i + 1 - start)).toArray := slicePick_run vs.toArray start (i + 1) (by rw [List.size_toArray, B.len]; omega) (by omega)
    have h5 := hws5
    have hjo : JoinOk (Str.ofString " ") ((ws.drop start).take (i + 1 - start)) = true := joinOk_small (by decide) (b := 40) (fun x hx => by have := (hW x (List.mem_of_mem_drop (List.mem_of_mem_take hx))).2.2; omega) (by decide) (by rw [List.length_take, List.length_drop]; exact min_sub (Nat.le_trans h5 (Nat.le_of_ble_eq_true rfl)))
    have hc300 : (Txt.join (Str.ofString " ") ((ws.drop start).take (i + 1 - start))).length ≤ 300 := join_small (fun x hx => by have := (hW x (List.mem_of_mem_drop (List.mem_of_mem_take hx))).2.2; omega) (by rw [List.length_take, List.length_drop]; exact min_sub h5)
    k_steps
    rotate_left 2
    · refine Hold.mk ?_
      have hil : i < sf.length := by omega
      have hbv : bs.toArray[((i + 1 : Nat) : Int) - 1 |>.toNat]? = some (.bool sf[i]) := by
        have e : (((i + 1 : Nat) : Int) - 1).toNat = i := Int.toNat_sub (i + 1) 1
        rw [e, hbi.eq]
        simp [hil]
      refine item_list (Bb.at F5) (by omega) (by omega) hbv ?_
      cases hsf' : sf[i] with
      | false =>
        have hsf : sf[i]? = some false := by rw [List.getElem?_eq_getElem hil, hsf']
        k_steps
        refine hP1 _ _ (show TEnd2 _ _ _ _ _ _ from ⟨_, _, ([(Fm, instObj 94 DF), (DF, dictOf (fmEs w kk wd LL CA) 6), (LL, W.listOf lv.toArray nl), (CA, accObj d its.toArray nc), (d, dictOf (daEs w t u') 1), (140, tabObj p1'), (147, tabObj p2')] ++ tps), F5, N5, fun p hp => (List.mem_append.mp hp).elim (fun h => List.mem_append_left (tps ++ own) h) (fun h => List.mem_append_right [(Fm, instObj 94 DF), (DF, dictOf (fmEs w kk wd LL CA) 6), (LL, W.listOf lv.toArray nl), (CA, accObj d its.toArray nc), (d, dictOf (daEs w t u') 1), (140, tabObj p1'), (147, tabObj p2')] (List.mem_append_left own h)), fun p hp => List.mem_append_right [(Fm, instObj 94 DF), (DF, dictOf (fmEs w kk wd LL CA) 6), (LL, W.listOf lv.toArray nl), (CA, accObj d its.toArray nc), (d, dictOf (daEs w t u') 1), (140, tabObj p1'), (147, tabObj p2')] (List.mem_append_right tps hp), hoff, rfl, .refl _, ?_⟩)
        refine ⟨start, ls, parts, lv, its, tps, nl, nc, u', kk, p1', p2', ?_, (if_neg (by decide)).trans m1, (if_neg (by decide)).trans m2, (if_neg (by decide)).trans m3, ⟨tst, (if_neg (by decide)).trans m4⟩, rfl, hT, hP, hlv, htr', htr2'⟩
        show foldStep wd ws sf (foldN wd ws sf i) i = _
        rw [hfo]
        unfold foldStep
        exact if_neg (by rintro (h | h); omega; rw [hsf] at h; cases h)
      | true =>
        have hsf : sf[i]? = some true := by rw [List.getElem?_eq_getElem hil, hsf']
        k_steps
        all_goals (
          refine Hold.mk ?_
          refine slice_list F5 N5 (B.at F5) (.int _ _) (.int _ _) (fun h6 F6 N6 => ?_) (hsz := by rw [List.size_toArray, B.len, sizeLine_eq]; omega)
          rw [hpick] at N6
          k_steps
          refine join_strs (n := 0) N6 (.head _) ((hi.drop start).take (i + 1 - start)) hjo fun t7 kk7 => ?_
          k_steps
          refine Hold.mk ?_
          have N7 := news_tail N6
          clear N6
          obtain ⟨HA, hk⟩ := lend (lent := [(Fm, instObj 94 DF), (DF, dictOf (fmEs w kk wd LL CA) 6), (LL, W.listOf lv.toArray nl), (CA, accObj d its.toArray nc), (d, dictOf (daEs w t u') 1), (140, tabObj p1'), (147, tabObj p2')]) F6 N7 (by k_all)
          have off := tup_off (lent := [(Fm, instObj 94 DF), (DF, dictOf (fmEs w kk wd LL CA) 6), (LL, W.listOf lv.toArray nl), (CA, accObj d its.toArray nc), (d, dictOf (daEs w t u') 1), (140, tabObj p1'), (147, tabObj p2')]) N7 hT (fun p hp => List.mem_append_right [(Fm, instObj 94 DF), (DF, dictOf (fmEs w kk wd LL CA) 6), (LL, W.listOf lv.toArray nl), (CA, accObj d its.toArray nc), (d, dictOf (daEs w t u') 1), (140, tabObj p1'), (147, tabObj p2')] (List.mem_append_left own hp)) (by k_all) (by intro q hq; simp only [List.mem_cons, List.not_mem_nil, or_false] at hq; rcases hq with rfl | rfl | rfl | rfl | rfl | rfl | rfl <;> (intro e; first | exact Value.noConfusion e | (injection e with e; exact absurd e (by decide))))
          have off2 : ∀ q ∈ own, q.1 ∉ ([(Fm, instObj 94 DF), (DF, dictOf (fmEs w kk wd LL CA) 6), (LL, W.listOf lv.toArray nl), (CA, accObj d its.toArray nc), (d, dictOf (daEs w t u') 1), (140, tabObj p1'), (147, tabObj p2')]).map (·.1) := fun q hq hm => by
            obtain ⟨p, hp, e⟩ := List.mem_map.mp hm
            exact hoff q hq p.1 (List.mem_map_of_mem (List.mem_append_left tps hp)) e.symm
          have hPA : PartsAt (hideAll h6 (([(Fm, instObj 94 DF), (DF, dictOf (fmEs w kk wd LL CA) 6), (LL, W.listOf lv.toArray nl), (CA, accObj d its.toArray nc), (d, dictOf (daEs w t u') 1), (140, tabObj p1'), (147, tabObj p2')]).map (·.1))) its parts := hP _ fun p hp => hideAll_get _ (N7 p (List.mem_append_right [(Fm, instObj 94 DF), (DF, dictOf (fmEs w kk wd LL CA) 6), (LL, W.listOf lv.toArray nl), (CA, accObj d its.toArray nc), (d, dictOf (daEs w t u') 1), (140, tabObj p1'), (147, tabObj p2')] (List.mem_append_left own hp))).1 fun hm => by
            obtain ⟨q, hq, e⟩ := List.mem_map.mp hm
            exact off p hp q hq e.symm
          refine c_append (C'.keeps hk) (M.imp fun _ m => m.imp fun _ m => m.keeps hk) hh (by show A.units + 3 + 200 < cLine; omega) HA htr' htr2' o1 o2 o3 o4 o5 (by show A.depth + 1 + 20 < recursionLimit; omega) hPA (by rw [hPA.length]; omega) hlv (by rw [hlv.length]; omega) hlen1000 (by decide +kernel) (by omega) hw0 hw1 (fun hne => by first | rfl | exact absurd (hst hne) (by omega)) fun T its' lv' nl' n' t1 t2 u'' p1'' p2'' rp ls' s8 ht1 ht2 hstep hlv' hPA' hits hCT HB hos8 hgx8 => ?_
          obtain ⟨F8, N8⟩ := back_own (N0 := [(Fm, instObj 94 DF), (DF, dictOf (fmEs w kk wd LL CA) 6), (LL, W.listOf lv.toArray nl), (CA, accObj d its.toArray nc), (d, dictOf (daEs w t u') 1), (140, tabObj p1'), (147, tabObj p2')] ++ tps) (rest := tps) F6 N7 (by k_all) (fun p hp => List.mem_append_right [(Fm, instObj 94 DF), (DF, dictOf (fmEs w kk wd LL CA) 6), (LL, W.listOf lv.toArray nl), (CA, accObj d its.toArray nc), (d, dictOf (daEs w t u') 1), (140, tabObj p1'), (147, tabObj p2')] hp) off hoff HB
          have offT := new_off (own := own) HB (.head _) (fun q hq => (N7 q (List.mem_append_right [(Fm, instObj 94 DF), (DF, dictOf (fmEs w kk wd LL CA) 6), (LL, W.listOf lv.toArray nl), (CA, accObj d its.toArray nc), (d, dictOf (daEs w t u') 1), (140, tabObj p1'), (147, tabObj p2')] (List.mem_append_right tps hq))).1) off2
          have hPT : ∀ f c t1 t2, PT ((T, tupObj f c t1 t2) :: tps) (its' ++ [Value.ref T]) (rp ++ [(f, c)]) := by
            intro f c t1 t2
            rcases hits with e | e
            · rw [e] at hPA' ⊢
              rw [hPA'.det hPA]; exact hP.snoc
            · rw [e] at hPA' ⊢
              cases hPA'
              exact (show PT tps [] [] from fun _ _ => .nil).snoc
          clear HA hk hPA HB
          k_steps
          rename Fr _ _ _ _ => F9
          rename News _ _ _ _ => N9
          refine hP1 _ _ (show TEnd2 _ _ _ _ _ _ from ⟨_, _, ([(Fm, instObj 94 DF), (DF, dictOf (fmEs w kk wd LL CA) 6), (LL, W.listOf lv'.toArray nl'), (CA, accObj d (its' ++ [Value.ref T]).toArray n'), (d, dictOf (daEs w t u'') 1), (140, tabObj p1''), (147, tabObj p2'')] ++ (T, tupObj _ _ t1 t2) :: tps), F9, N9, rot_sub, fun p hp => .tail _ (List.mem_append_right [(Fm, instObj 94 DF), (DF, dictOf (fmEs w kk wd LL CA) 6), (LL, W.listOf lv'.toArray nl'), (CA, accObj d (its' ++ [Value.ref T]).toArray n'), (d, dictOf (daEs w t u'') 1), (140, tabObj p1''), (147, tabObj p2'')] (List.mem_append_right tps hp)), ?_, hos8, hgx8, ?_⟩)
          · exact own_rot (la := [(Fm, instObj 94 DF), (DF, dictOf (fmEs w kk wd LL CA) 6), (LL, W.listOf lv.toArray nl), (CA, accObj d its.toArray nc), (d, dictOf (daEs w t u') 1), (140, tabObj p1'), (147, tabObj p2')]) (lb := [(Fm, instObj 94 DF), (DF, dictOf (fmEs w kk wd LL CA) 6), (LL, W.listOf lv'.toArray nl'), (CA, accObj d (its' ++ [Value.ref T]).toArray n'), (d, dictOf (daEs w t u'') 1), (140, tabObj p1''), (147, tabObj p2'')]) hoff rfl offT
          · refine ⟨i + 1, ls', rp ++ [_], lv', its' ++ [Value.ref T], _, nl', n', u'', kk, p1'', p2'', ?_, (if_neg (by decide)).trans ((if_neg (by decide)).trans m1), (if_neg (by decide)).trans ((if_neg (by decide)).trans m2), (if_neg (by decide)).trans ((if_neg (by decide)).trans m3), ⟨_, if_pos rfl⟩, rfl, hT.cons, hPT _ _ _ _, hlv', ht1, ht2⟩
            show foldStep wd ws sf (foldN wd ws sf i) i = _
            rw [hfo]
            unfold foldStep
            rw [if_pos (by first | exact .inr hsf | exact .inl (by omega))]
            dsimp only
            unfold chunkAt
            first | rw [if_pos (by omega)] | rw [if_neg (by omega)]
            rw [hstep])
    all_goals (
      refine Hold.mk ?_
      refine slice_list F5 N5 (B.at F5) (.int _ _) (.int _ _) (fun h6 F6 N6 => ?_) (hsz := by rw [List.size_toArray, B.len, sizeLine_eq]; omega)
      rw [hpick] at N6
      k_steps
      refine join_strs (n := 0) N6 (.head _) ((hi.drop start).take (i + 1 - start)) hjo fun t7 kk7 => ?_
      k_steps
      refine Hold.mk ?_
      have N7 := news_tail N6
      clear N6
      obtain ⟨HA, hk⟩ := lend (lent := [(Fm, instObj 94 DF), (DF, dictOf (fmEs w kk wd LL CA) 6), (LL, W.listOf lv.toArray nl), (CA, accObj d its.toArray nc), (d, dictOf (daEs w t u') 1), (140, tabObj p1'), (147, tabObj p2')]) F6 N7 (by k_all)
      have off := tup_off (lent := [(Fm, instObj 94 DF), (DF, dictOf (fmEs w kk wd LL CA) 6), (LL, W.listOf lv.toArray nl), (CA, accObj d its.toArray nc), (d, dictOf (daEs w t u') 1), (140, tabObj p1'), (147, tabObj p2')]) N7 hT (fun p hp => List.mem_append_right [(Fm, instObj 94 DF), (DF, dictOf (fmEs w kk wd LL CA) 6), (LL, W.listOf lv.toArray nl), (CA, accObj d its.toArray nc), (d, dictOf (daEs w t u') 1), (140, tabObj p1'), (147, tabObj p2')] (List.mem_append_left own hp)) (by k_all) (by intro q hq; simp only [List.mem_cons, List.not_mem_nil, or_false] at hq; rcases hq with rfl | rfl | rfl | rfl | rfl | rfl | rfl <;> (intro e; first | exact Value.noConfusion e | (injection e with e; exact absurd e (by decide))))
      have off2 : ∀ q ∈ own, q.1 ∉ ([(Fm, instObj 94 DF), (DF, dictOf (fmEs w kk wd LL CA) 6), (LL, W.listOf lv.toArray nl), (CA, accObj d its.toArray nc), (d, dictOf (daEs w t u') 1), (140, tabObj p1'), (147, tabObj p2')]).map (·.1) := fun q hq hm => by
        obtain ⟨p, hp, e⟩ := List.mem_map.mp hm
        exact hoff q hq p.1 (List.mem_map_of_mem (List.mem_append_left tps hp)) e.symm
      have hPA : PartsAt (hideAll h6 (([(Fm, instObj 94 DF), (DF, dictOf (fmEs w kk wd LL CA) 6), (LL, W.listOf lv.toArray nl), (CA, accObj d its.toArray nc), (d, dictOf (daEs w t u') 1), (140, tabObj p1'), (147, tabObj p2')]).map (·.1))) its parts := hP _ fun p hp => hideAll_get _ (N7 p (List.mem_append_right [(Fm, instObj 94 DF), (DF, dictOf (fmEs w kk wd LL CA) 6), (LL, W.listOf lv.toArray nl), (CA, accObj d its.toArray nc), (d, dictOf (daEs w t u') 1), (140, tabObj p1'), (147, tabObj p2')] (List.mem_append_left own hp))).1 fun hm => by
        obtain ⟨q, hq, e⟩ := List.mem_map.mp hm
        exact off p hp q hq e.symm
      refine c_append (C'.keeps hk) (M.imp fun _ m => m.imp fun _ m => m.keeps hk) hh (by show A.units + 3 + 200 < cLine; omega) HA htr' htr2' o1 o2 o3 o4 o5 (by show A.depth + 1 + 20 < recursionLimit; omega) hPA (by rw [hPA.length]; omega) hlv (by rw [hlv.length]; omega) hlen1000 (by decide +kernel) (by omega) hw0 hw1 (fun hne => by first | rfl | exact absurd (hst hne) (by omega)) fun T its' lv' nl' n' t1 t2 u'' p1'' p2'' rp ls' s8 ht1 ht2 hstep hlv' hPA' hits hCT HB hos8 hgx8 => ?_
      obtain ⟨F8, N8⟩ := back_own (N0 := [(Fm, instObj 94 DF), (DF, dictOf (fmEs w kk wd LL CA) 6), (LL, W.listOf lv.toArray nl), (CA, accObj d its.toArray nc), (d, dictOf (daEs w t u') 1), (140, tabObj p1'), (147, tabObj p2')] ++ tps) (rest := tps) F6 N7 (by k_all) (fun p hp => List.mem_append_right [(Fm, instObj 94 DF), (DF, dictOf (fmEs w kk wd LL CA) 6), (LL, W.listOf lv.toArray nl), (CA, accObj d its.toArray nc), (d, dictOf (daEs w t u') 1), (140, tabObj p1'), (147, tabObj p2')] hp) off hoff HB
      have offT := new_off (own := own) HB (.head _) (fun q hq => (N7 q (List.mem_append_right [(Fm, instObj 94 DF), (DF, dictOf (fmEs w kk wd LL CA) 6), (LL, W.listOf lv.toArray nl), (CA, accObj d its.toArray nc), (d, dictOf (daEs w t u') 1), (140, tabObj p1'), (147, tabObj p2')] (List.mem_append_right tps hq))).1) off2
      have hPT : ∀ f c t1 t2, PT ((T, tupObj f c t1 t2) :: tps) (its' ++ [Value.ref T]) (rp ++ [(f, c)]) := by
        intro f c t1 t2
        rcases hits with e | e
        · rw [e] at hPA' ⊢
          rw [hPA'.det hPA]; exact hP.snoc
        · rw [e] at hPA' ⊢
          cases hPA'
          exact (show PT tps [] [] from fun _ _ => .nil).snoc
      clear HA hk hPA HB
      k_steps
      rename Fr _ _ _ _ => F9
      rename News _ _ _ _ => N9
      refine hP1 _ _ (show TEnd2 _ _ _ _ _ _ from ⟨_, _, ([(Fm, instObj 94 DF), (DF, dictOf (fmEs w kk wd LL CA) 6), (LL, W.listOf lv'.toArray nl'), (CA, accObj d (its' ++ [Value.ref T]).toArray n'), (d, dictOf (daEs w t u'') 1), (140, tabObj p1''), (147, tabObj p2'')] ++ (T, tupObj _ _ t1 t2) :: tps), F9, N9, rot_sub, fun p hp => .tail _ (List.mem_append_right [(Fm, instObj 94 DF), (DF, dictOf (fmEs w kk wd LL CA) 6), (LL, W.listOf lv'.toArray nl'), (CA, accObj d (its' ++ [Value.ref T]).toArray n'), (d, dictOf (daEs w t u'') 1), (140, tabObj p1''), (147, tabObj p2'')] (List.mem_append_right tps hp)), ?_, hos8, hgx8, ?_⟩)
      · exact own_rot (la := [(Fm, instObj 94 DF), (DF, dictOf (fmEs w kk wd LL CA) 6), (LL, W.listOf lv.toArray nl), (CA, accObj d its.toArray nc), (d, dictOf (daEs w t u') 1), (140, tabObj p1'), (147, tabObj p2')]) (lb := [(Fm, instObj 94 DF), (DF, dictOf (fmEs w kk wd LL CA) 6), (LL, W.listOf lv'.toArray nl'), (CA, accObj d (its' ++ [Value.ref T]).toArray n'), (d, dictOf (daEs w t u'') 1), (140, tabObj p1''), (147, tabObj p2'')]) hoff rfl offT
      · refine ⟨i + 1, ls', rp ++ [_], lv', its' ++ [Value.ref T], _, nl', n', u'', kk, p1'', p2'', ?_, (if_neg (by decide)).trans ((if_neg (by decide)).trans m1), (if_neg (by decide)).trans ((if_neg (by decide)).trans m2), (if_neg (by decide)).trans ((if_neg (by decide)).trans m3), ⟨_, if_pos rfl⟩, rfl, hT.cons, hPT _ _ _ _, hlv', ht1, ht2⟩
        show foldStep wd ws sf (foldN wd ws sf i) i = _
        rw [hfo]
        unfold foldStep
        rw [if_pos (by first | exact .inr hsf | exact .inl (by omega))]
        dsimp only
        unfold chunkAt
        first | rw [if_pos (by omega)] | rw [if_neg (by omega)]
        rw [hstep])
  · rintro m₁ news₁ s₁ ⟨start, ls, parts, lv, itz, tps, nl, nc, u', kk, p1', p2', hfo, m1, m2, m3, ⟨tst, m4⟩, rfl, hT, hP, hlv, htr', htr2'⟩ F5 N5 hos5 hgx5
    change Fr h₀ L s₁.heap _ at F5
    change News h₀ L s₁.heap _ at N5
    clear F4 N4 hr
    have sm := foldN_small (wd := wd) (ws := ws) (sf := sf) (fun x hx => (hW x hx).2.2) (by omega) n (by omega)
    have pt := foldN_parts (wd := wd) (sf := sf) hW (by omega) n (by omega)
    have li := foldN_lines (wd := wd) (sf := sf) hW (by omega) n (by omega)
    obtain ⟨rp, f, c, hrp⟩ := foldN_last (wd := wd) (ws := ws) (sf := sf) (by omega)
    have hrows : rowsF wd ws sf = ls ++ [strP (rp ++ [(f, c)])] := by
      unfold rowsF
      dsimp only
      rw [hrp, hn, hfo]
    rw [hn, hfo] at hrp
    rw [hfo] at sm pt li
    dsimp only at hrp sm pt li
    subst hrp
    obtain ⟨hs1, -, hs2, hs3, hst⟩ := sm
    k_steps
    refine Hold.mk ?_
    obtain ⟨HA, hk⟩ := lend (lent := [(Fm, instObj 94 DF), (DF, dictOf (fmEs w kk wd LL CA) 6), (LL, W.listOf lv.toArray nl), (CA, accObj d itz.toArray nc), (d, dictOf (daEs w t u') 1), (140, tabObj p1'), (147, tabObj p2')]) F5 N5 (by k_all)
    have off := tup_off (lent := [(Fm, instObj 94 DF), (DF, dictOf (fmEs w kk wd LL CA) 6), (LL, W.listOf lv.toArray nl), (CA, accObj d itz.toArray nc), (d, dictOf (daEs w t u') 1), (140, tabObj p1'), (147, tabObj p2')]) N5 hT (fun p hp => List.mem_append_right [(Fm, instObj 94 DF), (DF, dictOf (fmEs w kk wd LL CA) 6), (LL, W.listOf lv.toArray nl), (CA, accObj d itz.toArray nc), (d, dictOf (daEs w t u') 1), (140, tabObj p1'), (147, tabObj p2')] hp) (by k_all) (by intro q hq; simp only [List.mem_cons, List.not_mem_nil, or_false] at hq; rcases hq with rfl | rfl | rfl | rfl | rfl | rfl | rfl <;> (intro e; first | exact Value.noConfusion e | (injection e with e; exact absurd e (by decide))))
    have hPA : PartsAt (hideAll s₁.heap (([(Fm, instObj 94 DF), (DF, dictOf (fmEs w kk wd LL CA) 6), (LL, W.listOf lv.toArray nl), (CA, accObj d itz.toArray nc), (d, dictOf (daEs w t u') 1), (140, tabObj p1'), (147, tabObj p2')]).map (·.1))) itz (rp ++ [(f, c)]) := hP _ fun p hp => hideAll_get _ (N5 p (List.mem_append_right [(Fm, instObj 94 DF), (DF, dictOf (fmEs w kk wd LL CA) 6), (LL, W.listOf lv.toArray nl), (CA, accObj d itz.toArray nc), (d, dictOf (daEs w t u') 1), (140, tabObj p1'), (147, tabObj p2')] hp)).1 fun hm => by
      obtain ⟨q, hq, e⟩ := List.mem_map.mp hm
      exact off p hp q hq e.symm
    have hil : itz.length ≤ 5 := by rw [hPA.length]; omega
    obtain ⟨its, T0, t01, t02, rfl, hPA', hT0⟩ := hPA.last
    have pl := pt (f, c) (by simp)
    refine c_strM (C'.keeps hk) (M.imp fun _ m => m.imp fun _ m => m.keeps hk) hh (by show A.units + 3 + 300 < cLine; omega) HA htr' htr2' o1 o2 o3 o4 o5 (by show A.depth + 1 + 40 < recursionLimit; omega) hPA' hT0 (by rw [List.length_append] at hil; simp at hil; omega) hlv (by rw [hlv.length]; omega) (fun p hp => ⟨Nat.le_trans (pt p hp).2.2.2.1 (Nat.le_of_ble_eq_true rfl), Nat.le_trans (pt p hp).2.2.2.2 (Nat.le_of_ble_eq_true rfl)⟩) pl.1.ok pl.2.1.ok pl.2.2.1.ne pl.2.2.1.strP.nosp (sizeP_pos pl.2.2.1) (by decide +kernel) (fun x hx => by
      rcases List.mem_append.mp hx with hx | hx
      · have := (li.1 x hx).2; omega
      · rw [List.mem_singleton.mp hx]; have := li.2.2; omega) fun t9 p1'' p2'' s9 ht1 ht2 HB hos9 hgx9 => ?_
    obtain ⟨F9, N9⟩ := back (rest := []) F5 N5 (by k_all) (by k_all) (by k_all) HB
    simp only [List.append_nil] at N9
    clear F5 N5 HA hk HB off hPA hPA' hT0
    k_steps
    refine Hold.mk ?_
    have hT2 : ∀ x ∈ ls ++ [strP (rp ++ [(f, c)])], TOk x ∧ x.length ≤ 405 := fun x hx => by
      rcases List.mem_append.mp hx with hx | hx
      · exact li.1 x hx
      · rw [List.mem_singleton.mp hx]; exact li.2
    have hjl : (Txt.join (Str.ofString "\n") (ls ++ [strP (rp ++ [(f, c)])])).length + 2 ≤ sizeLine := by
      rw [join_eq]
      have h5 := StrLaws.join_length_le (Str.ofString "\n") (ls ++ [strP (rp ++ [(f, c)])])
      have h6 := sum_le_mul (ls ++ [strP (rp ++ [(f, c)])]) 405 fun x hx => (hT2 x hx).2
      have h7 : (ls ++ [strP (rp ++ [(f, c)])]).length ≤ 6 := by rw [List.length_append]; simp; omega
      have h8 : (Str.ofString "\n").length = 1 := by decide +kernel
      rw [h8] at h5
      rw [sizeLine_eq]
      exact Nat.le_trans (Nat.add_le_add_right (join_lim (K := 3000) h5 h6 h7 rfl) 2) (Nat.le_of_ble_eq_true rfl)
    refine KSpl.split1 F9 N9 (by decide +kernel) (fun D l h10 kk e a F10 N10 l10 => ?_) hjl
    k_steps
    rw [split_nl (by simp) (fun x hx => (hT2 x hx).1), ← hrows] at e
    rw [e] at a
    refine hP0 _ _ (hQ D _ _ _ _ (At.leave F10 N10) (strs_conv a) ht1 ht2 (hos9.trans (hos5.trans hos3)) ?_)
    have g3 : s3.gens = s.gens := hgs3
    have g5 : GX s3.gens s₁.gens := hgx5
    have g9 : GX s₁.gens s9.gens := hgx9
    rw [g3] at g5
    exact g5.trans g9

end
end
end
section
open PySem PySem.W PyProof.Rows
set_option hygiene false
local macro_rules | `(tactic| omega) => `(tactic| first | w_left | (refine Nat.ne_of_lt ?_; w_left) | (refine Nat.ne_of_gt ?_; w_left) | lia | fail "no chain")
set_option hygiene true
section
open PySem PySem.W PyProof.Rows PySem.Calls
example : True := by
  w_top off
  trivial
set_option maxRecDepth 100000
set_option maxHeartbeats 1000000

theorem enter_cells {prog : Program} {w : World} {A : Around} {s : Shared} {K : Frag} {R : Result → Shared → Prop} {name qual : Str} {params : Arguments} {body : List Stmt} {scope : Scope} {dV kV doc pm cdv ct oc : Value}
    {an od : Option Addr} {osl : Array (Option Value)} {f : Addr} {args : Args} {binds : List (Str × Value)}
    (X : K.In s.heap) (hlim : s.heap.NoLimit)
    (ho : K.lookup f = some ⟨oc, od, .func (fnX name qual params body scope [] dV kV doc pm an cdv ct), osl⟩) (hcd : codeIn K cdv qual = true) (hroom : A.depth < recursionLimit)
    (hbind : BindsTo s (fnX name qual params body scope [] dV kV doc pm an cdv ct) args binds)
    (hkind : ∀ n, ∀ x ∈ binds, scope.names.lookup x.1 = some .local ∨ (scope.names.lookup x.1 = some .cell ∧ ((cellsFrom n scope.names []).lookup x.1).isSome = true))
    (hnd : ((cellsFrom 0 scope.names []).map (·.1)).Nodup)
    (h : ∀ L h₁ tk cells, Fr s.heap L h₁ (bindL (envOfC qual scope L f cdv).kindOf binds fun _ => none) → News s.heap L h₁ cells →
      CellsAre (bindC (envOfC qual scope L f cdv).kindOf binds fun _ => none) (cellsFrom (L + 1) scope.names []) cells → L = s.heap.objs.size →
      wpAny (model prog w) (A.deeper (envOfC qual scope L f cdv)) (execs body (envOfC qual scope L f cdv))
        (fun fl s' => R (.ok (.ret (match fl with | .ret v => v | _ => .none))) s')
        (fun e s' => wpAny (model prog w) (A.deeper (envOfC qual scope L f cdv)) (leaving (envOfC qual scope L f cdv) e) (fun _ s'' => R (.error e) s'') (fun e' s'' => R (.error e') s'') s')
        { s with heap := h₁, toks := tk })
    (hco : scope.isCoroutine = false) (hgen : scope.isGenerator = false) (hk : scope.kind = .function) : codeAny (model prog w) A (.call (.ref f) args) R s := by
  refine codeAny_call_function hroom (X _ _ ho) rfl hco hgen rfl (codeRec_of X hcd) (hbind _ _ _ _ ?_)
  refine wpAny_newFunctionEnv_cells hk (hkind _) fun env' he s' x => ?_
  subst he
  refine ⟨hlim.keeps x.toInCall.keep, codeAny_func ?_⟩
  obtain ⟨h₁, tk, rfl, _⟩ := x.done
  have hk₁ := x.toInCall.keep
  obtain ⟨cells, NC, Y⟩ := Cl.news (h₀ := s.heap) (Nat.le_refl _) fun n c hm => ⟨x.cell n c (lookup_of_mem_nodup (cellsFrom_names scope.names 0 (s.heap.objs.size + 1) [] [] rfl ▸ hnd) hm), x.above n c hm⟩
  exact h s.heap.objs.size h₁ tk cells ⟨x.toInCall.ns, hk₁, Nat.le_refl _⟩ NC Y rfl

section
variable {prog : Program} {w : World} {A : Around} {R : Result → Shared → Prop} {s : Shared} {env : Env} {h₀ : Heap}
noncomputable def JC (c : Addr) (J : (Str → Option Value) → List (Addr × Obj) → Prop) (m : Str → Option Value) (news : List (Addr × Obj)) : Prop := ∃ o rest v₀, news = (c, o) :: rest ∧ o.data = .cell v₀ ∧ (∀ p ∈ rest, p.1 ≠ c) ∧ J m rest

theorem loop_cell {x : Str} {px : Pos} {body orelse : List Stmt} {I c : Addr} {fp wr : List Addr} {n : Nat} {P : Nat → Value → Prop} {St : Nat → Heap → Prop} {m : Str → Option Value} {news : List (Addr × Obj)}
    (W : Walks prog w A I fp wr n P St) (hlive : ∀ i h, St i h → ∀ b ∈ fp, ∃ o, h.get? b = some o) (hst : St 0 s.heap) (hx : env.kindOf x = some .cell) (hc : env.cells.lookup x = some c)
    (hk : env.scope.kind = .function)
    (F : Fr h₀ env.locals s.heap m) (N : News h₀ env.locals s.heap news)
    (hL : env.locals ∉ fp) (hwr : ∀ b ∈ wr, h₀.get? b = none) (hfp : ∀ b ∈ fp, ∀ p ∈ news, p.1 ≠ b)
    (J : Nat → (Str → Option Value) → List (Addr × Obj) → Prop) (hJ : JC c (J 0) m news)
    (turn : ∀ i v m₁ rest o own s₁, i < n → P i v → J i m₁ rest → o.data = .cell (some v) → (∀ p ∈ rest, p.1 ≠ c) → OwnOff own (((c, o) :: rest).map (·.1)) →
      Fr h₀ env.locals s₁.heap m₁ → News h₀ env.locals s₁.heap ((c, o) :: rest ++ own) → s₁.os = s.os → GX s.gens s₁.gens →
      wpAny (model prog w) A (execs body env) (TPost2 h₀ env.locals (JC c (J (i + 1))) own s₁ (fun f s' => R (.ok f) s')) (notedBy (model prog w) A env fun e s' => R (.error e) s') s₁)
    (done : ∀ m₁ news₁ s₁, JC c (J n) m₁ news₁ → Fr h₀ env.locals s₁.heap m₁ → News h₀ env.locals s₁.heap news₁ → s₁.os = s.os → GX s.gens s₁.gens →
      wpAny (model prog w) A (execs orelse env) (fun f s₃ => R (.ok f) s₃) (notedBy (model prog w) A env fun e s' => R (.error e) s') s₁) :
    codeAny (model prog w) A (.forLoop (.Name x px) (.ref I) body orelse env) R s := by
  obtain ⟨Inv, hI⟩ : ∃ Inv : Nat → Shared → Prop, ∀ k s₁, Inv k s₁ ↔ (∃ i m₁ news₁, i ≤ n ∧ k = n + 1 - i ∧ St i s₁.heap ∧ JC c (J i) m₁ news₁ ∧ Fr h₀ env.locals s₁.heap m₁ ∧ News h₀ env.locals s₁.heap news₁ ∧ (∀ b ∈ fp, h₀.get? b = none → ∀ p ∈ news₁, p.1 ≠ b) ∧ s₁.os = s.os ∧ GX s.gens s₁.gens) := ⟨_, fun _ _ => Iff.rfl⟩
  refine codeAny_forLoop_any Inv ?_ (n + 1) ((hI _ _).mpr ⟨0, m, news, Nat.zero_le _, rfl, hst, hJ, F, N, fun b hb _ => hfp b hb, rfl, .refl _⟩)
  intro k s₁ hinv
  obtain ⟨i, m₁, news₁, hi, rfl, hst₁, hJ₁, F₁, N₁, hoff₁, hos₁, hgx₁⟩ := (hI _ _).mp hinv
  clear hinv
  have hLw : env.locals ∉ wr := fun h => hL (W.sub _ h)
  have low : ∀ {h₂ : Heap}, (∀ b o, b ∉ wr → s₁.heap.get? b = some o → h₂.get? b = some o) → Fr h₀ env.locals h₂ m₁ ∧ News h₀ env.locals h₂ news₁ := fun hk => by
    refine ⟨⟨F₁.ns.at' fun o e => hk _ o hLw e, fun b o e => hk b o (fun hb => by rw [hwr b hb] at e; cases e) (F₁.keep b o e), F₁.above⟩, fun p hp => ⟨hk _ _ (fun hb => hoff₁ _ (W.sub _ hb) (hwr _ hb) p hp rfl) (N₁ p hp).1, (N₁ p hp).2⟩⟩
  by_cases hlt : i < n
  · refine W.item i s₁ _ _ hlt hst₁ fun v h₂ tk₂ hPv hst₂ hk₂ => ?_
    obtain ⟨F₂, N₂⟩ := low hk₂
    show wpAny _ _ (letOwnedTupleGo (.Name x px) (.ref I) v) _ _ _
    refine wpAny_of_eq (rfl : letOwnedTupleGo (.Name x px) (.ref I) v = pure ()) ?_
    obtain ⟨o₁, rest, v₀, rfl, hd₁, hrc, hJr⟩ := hJ₁
    have hmc := N₂ (c, o₁) (.head _)
    have hc0 : h₀.get? c = none := hmc.2.2
    have hcL : c ≠ env.locals := hmc.2.1
    have hcf : c ∉ fp := fun hb => by
      cases q : h₀.get? c with
      | none => exact hoff₁ c hb q (c, o₁) (.head _) rfl
      | some o => rw [hc0] at q; cases q
    refine wpAny_assign_Name (wpAny_storeName_cell hk hx hc ⟨o₁, hmc.1, hd₁⟩ fun h₃ hv₃ hs₃ => ?_)
    obtain ⟨o₃, ho₃, hd₃⟩ := hv₃
    replace hs₃ : Heap.SameBut c h₂ h₃ := hs₃
    have up : ∀ b o, b ≠ c → h₂.get? b = some o → h₃.get? b = some o := fun b o hb e => hs₃.extBut b o hb e
    have F₃ : Fr h₀ env.locals h₃ m₁ := ⟨F₂.ns.sameBut hs₃ (Ne.symm hcL), fun b o e => up b o (fun q => by rw [q, hc0] at e; cases e) (F₂.keep b o e), F₂.above⟩
    have hmem : ∀ {p}, p ∈ ownOf h₀ h₂ fp → p.1 ∈ fp ∧ h₀.get? p.1 = none ∧ h₂.get? p.1 = some p.2 := fun {p} hp => by
      obtain ⟨h1, h2⟩ := standing_mem _ hp
      obtain ⟨h3, h4⟩ := List.mem_filter.mp h1
      exact ⟨h3, Option.isNone_iff_eq_none.mp h4, h2⟩
    have N₃ : News h₀ env.locals h₃ ((c, o₃) :: rest ++ ownOf h₀ h₂ fp) := by
      intro p hp
      rcases List.mem_append.mp hp with hp | hp
      · rcases List.mem_cons.mp hp with rfl | hp
        · exact ⟨ho₃, hcL, hc0⟩
        · exact ⟨up _ _ (hrc p hp) (N₂ p (.tail _ hp)).1, (N₂ p (.tail _ hp)).2⟩
      · obtain ⟨h1, h2, h3⟩ := hmem hp
        have hne : p.1 ≠ env.locals := fun e => hL (e ▸ h1)
        have hne2 : p.1 ≠ c := fun e => hcf (e ▸ h1)
        exact ⟨up _ _ hne2 h3, hne, h2⟩
    have off : OwnOff (ownOf h₀ h₂ fp) (((c, o₃) :: rest).map (·.1)) := by
      intro p hp b hb e
      obtain ⟨q, hq, rfl⟩ := List.mem_map.mp hb
      obtain ⟨h1, h2, _⟩ := hmem hp
      rcases List.mem_cons.mp hq with rfl | hq
      · exact hcf ((show p.1 = c from e) ▸ h1)
      · exact hoff₁ _ h1 h2 q (.tail _ hq) e.symm
    refine wpAny_mono (turn i v m₁ rest o₃ _ _ hlt hPv hJr hd₃ hrc off F₃ N₃ hos₁ hgx₁) (fun f s₃ hf => ?_) fun _ _ e => e
    have fin : TEnd2 h₀ env.locals (JC c (J (i + 1))) (ownOf h₀ h₂ fp) { s₁ with heap := h₃, toks := tk₂ } s₃ →
        ∃ k', k' < n + 1 - i ∧ Inv k' s₃ := by
      rintro ⟨m', news', nx, F', N', hnx, hown, hoff', hos', hgx', hJ'⟩
      have keep' : ∀ b ∈ fp, ∀ o, h₂.get? b = some o → s₃.heap.get? b = some o := fun b hb o e => by
        cases q : h₀.get? b with
        | some o' =>
          have := F₂.keep b o' q
          rw [e] at this; cases this
          exact F'.keep b o q
        | none => exact (N' _ (hown _ (mem_standing _ (List.mem_filter.mpr ⟨hb, by rw [q]; rfl⟩) e))).1
      refine ⟨n + 1 - (i + 1), lt_back hlt, (hI _ _).mpr ⟨i + 1, m', nx, hlt, rfl, W.frame _ _ _ hst₂ keep', hJ', F', fun p hp => N' p (hnx p hp), fun b hb hb0 p hp e => ?_, hos'.trans hos₁, hgx₁.trans hgx'⟩⟩
      cases q : h₂.get? b with
      | some o => exact hoff' _ (mem_standing _ (List.mem_filter.mpr ⟨hb, by rw [hb0]; rfl⟩) q) _ (List.mem_map_of_mem hp) e.symm
      | none => obtain ⟨o, ho⟩ := hlive _ _ hst₂ b hb; rw [q] at ho; cases ho
    cases f with
    | ret v => exact hf
    | brk => exact hf
    | next => exact fin hf
    | cont => exact fin hf
  · have hie : i = n := by omega
    subst hie
    refine W.done s₁ _ _ hst₁ fun h₂ tk₂ hk₂ => ?_
    obtain ⟨F₂, N₂⟩ := low hk₂
    exact done m₁ news₁ _ hJ₁ F₂ N₂ hos₁ hgx₁

theorem for_range_cell {x : Str} {px : Pos} {body orelse : List Stmt} {r cc : Addr} {a b c : Int} {t u v : Tok} {n : Nat} {m : Str → Option Value} {news : List (Addr × Obj)} {E₁ : Value → Shared → Prop}
    (hh : A.handled = none) (hr : IsRange s.heap r a b c t u v) (hsm : Builtin.Range.small a b c = true) (hn : Builtin.Range.rangeSize a b c = n) (hx : env.kindOf x = some .cell) (hc : env.cells.lookup x = some cc)
    (hk : env.scope.kind = .function)
    (F : Fr h₀ env.locals s.heap m) (N : News h₀ env.locals s.heap news)
    (J : Nat → (Str → Option Value) → List (Addr × Obj) → Prop) (hJ : JC cc (J 0) m news)
    (turn : ∀ i tk m₁ rest o own s₁, i < n → J i m₁ rest → o.data = .cell (some (.int (a + i * c) tk)) → (∀ p ∈ rest, p.1 ≠ cc) → OwnOff own (((cc, o) :: rest).map (·.1)) →
      Fr h₀ env.locals s₁.heap m₁ → News h₀ env.locals s₁.heap ((cc, o) :: rest ++ own) → s₁.os = s.os → GX s.gens s₁.gens →
      wpAny (model prog w) A (execs body env) (TPost2 h₀ env.locals (JC cc (J (i + 1))) own s₁ (fun f s' => R (.ok f) s')) (notedBy (model prog w) A env fun e s' => R (.error e) s') s₁)
    (done : ∀ m₁ news₁ s₁, JC cc (J n) m₁ news₁ → Fr h₀ env.locals s₁.heap m₁ → News h₀ env.locals s₁.heap news₁ → s₁.os = s.os → GX s.gens s₁.gens →
      wpAny (model prog w) A (execs orelse env) (fun f s₃ => R (.ok f) s₃) (notedBy (model prog w) A env fun e s' => R (.error e) s') s₁) :
    wpAny (model prog w) A (pyIter (.ref r)) (fun it s₂ => codeAny (model prog w) A (.forLoop (.Name x px) it body orelse env) R s₂) E₁ s := by
  refine wpAny_pyIter_range hr hsm ?_
  rw [hn]
  have W := Walks.range (prog := prog) (w := w) hh s.heap.objs.size a c n
  refine loop_cell (m := m) (news := news) W live_range ?_ hx hc hk (F.push _) (fun p hp => ⟨Heap.get?_push_of_some _ (N p hp).1, (N p hp).2⟩) ?_ ?_ ?_ J hJ ?_ ?_
  · have e1 : a + ((0 : Nat) : Int) * c = a := by simp
    have e2 : (n : Int) - ((0 : Nat) : Int) = n := by simp
    show IsRangeIter _ _ _ _ _
    rw [e1, e2]; exact Heap.get?_push_size _ rfl
  · intro hm
    exact absurd F.ns.lt ((List.mem_singleton.mp hm) ▸ Nat.lt_irrefl _)
  · intro b hb
    rw [List.mem_singleton.mp hb]
    exact next_is_new F
  · intro b hb p hp e
    exact absurd (Heap.lt_size (N p hp).1) (e ▸ (List.mem_singleton.mp hb) ▸ Nat.lt_irrefl _)
  · rintro i v m₁ rest o own s₁ hi ⟨tk, rfl⟩ hJ₁ hd hrc hoff F₁ N₁ hos hgx
    exact turn i tk m₁ rest o own s₁ hi hJ₁ hd hrc hoff F₁ N₁ hos hgx
  · intro m₁ news₁ s₁ hJ₁ F₁ N₁ hos hgx
    exact done m₁ news₁ s₁ hJ₁ F₁ N₁ hos hgx
end

inductive Al {α : Type} (R : α → Value → Prop) : List α → List Value → Prop
  | nil : Al R [] []
  | cons {a : α} {y : Value} {l : List α} {ys : List Value} : R a y → Al R l ys → Al R (a :: l) (y :: ys)
theorem Al.snoc {α : Type} {R : α → Value → Prop} {l : List α} {ys : List Value} {a : α} {y : Value} (h : Al R l ys) (r : R a y) : Al R (l ++ [a]) (ys ++ [y]) := by
  induction h with
  | nil => exact .cons r .nil
  | cons q _ ih => exact .cons q ih
theorem Al.length {α : Type} {R : α → Value → Prop} {l : List α} {ys : List Value} (h : Al R l ys) : l.length = ys.length := by
  induction h with
  | nil => rfl
  | cons _ _ ih => simp [ih]
section
variable {prog : Program} {w : World} {A : Around} {h₀ : Heap} {L : Addr} {m : Str → Option Value} {env : Env} {ct elt : Expr} {x : Str} {scope : Scope} {cl : List (Str × Addr)} {s : Shared} {S : List (Addr × Obj) → Prop} {P : Nat → Value → Prop} {Fin : List Value → List (Addr × Obj) → Prop} {news : List (Addr × Obj)}
theorem rest_U {α : Type} {ks : List α} {n : Nat} (R : α → Value → Prop) (hks : ks.length = n)
    (turn : ∀ i k v I oI C oC D m₂ ys h tk (E' : Value → Shared → Prop), ks[i]? = some k → P i v → LCg.NsObj oC m₂ → m₂ x = some v → Fr h₀ L h m → News h₀ L h ((I, oI) :: (C, oC) :: (D, LCg.lst ys) :: news) → LCg.Off3 I C D news → ((@Ne Nat I C) ∧ (@Ne Nat I D) ∧ (@Ne Nat C D)) →
      wpAny (model prog w) A (eval elt (compEnvC scope cl C env)) (LCg.CompEnd h₀ L m { s with heap := h, toks := tk } I oI C oC D (LCg.lst ys) S (fun y news' => news' = news ∧ R k y)) E' { s with heap := h, toks := tk })
    (fin : ∀ ys, Al R ks ys → Fin ys news) : LCg.CompRest prog w A h₀ L m env elt x scope cl s S P Fin n 0 [] news := by
  have key : ∀ (j i : Nat) (ys : List Value), i + j = n → Al R (ks.take i) ys → LCg.CompRest prog w A h₀ L m env elt x scope cl s S P Fin j i ys news := by
    intro j
    induction j with
    | zero =>
      intro i ys hi hy
      have e : i = ks.length := by omega
      subst e
      rw [List.take_length] at hy
      exact LCg.CompRest.zero (fin ys hy)
    | succ j ih =>
      intro i ys hi hy
      refine LCg.CompRest.succ ?_
      intro v I oI C oC D m₂ h tk E' hv hC hx F N off ne
      have hk : ks[i]? = some (ks[i]'(by omega)) := List.getElem?_eq_getElem _
      refine wpAny_mono (turn i _ v I oI C oC D m₂ ys h tk E' hk hv hC hx F N off ne) (fun y s₂ hq => ?_) fun _ _ e => e
      obtain ⟨h', tk', nw, e, F', N', off', hS, hn, hy'⟩ := hq
      rw [hn] at N' off' hS
      refine ⟨h', tk', news, e, F', N', off', hS, ?_⟩
      refine ih (i + 1) _ (by omega) ?_
      rw [List.take_add_one, hk]
      exact hy.snoc hy'
  exact key n 0 [] (by omega) .nil
theorem rest_T {α : Type} {ks : List α} {n : Nat} (G : α → Bool) (R : α → Value → Prop) (hks : ks.length = n)
    (turn : ∀ i k v I oI C oC D m₂ ys h tk (E' : Value → Shared → Prop), ks[i]? = some k → P i v → LCg.NsObj oC m₂ → m₂ x = some v → Fr h₀ L h m → News h₀ L h ((I, oI) :: (C, oC) :: (D, LCg.lst ys) :: news) → LCg.Off3 I C D news → ((@Ne Nat I C) ∧ (@Ne Nat I D) ∧ (@Ne Nat C D)) →
      wpAny (model prog w) A (isTrue ct (compEnvC scope cl C env) (eval ct (compEnvC scope cl C env))) (fun b s' => if b = true then wpAny (model prog w) A (eval elt (compEnvC scope cl C env)) (LCg.CompEnd h₀ L m { s with heap := h, toks := tk } I oI C oC D (LCg.lst ys) S (fun y news' => news' = news ∧ G k = true ∧ R k y)) E' s'
        else LCg.CompEnd h₀ L m { s with heap := h, toks := tk } I oI C oC D (LCg.lst ys) S (fun _ news' => news' = news ∧ G k = false) Value.none s') E' { s with heap := h, toks := tk })
    (fin : ∀ ys, Al R (ks.filter G) ys → Fin ys news) : LCt.CompRestT prog w A h₀ L m env ct elt x scope cl s S P Fin n 0 [] news := by
  have key : ∀ (j i : Nat) (ys : List Value), i + j = n → Al R ((ks.take i).filter G) ys → LCt.CompRestT prog w A h₀ L m env ct elt x scope cl s S P Fin j i ys news := by
    intro j
    induction j with
    | zero =>
      intro i ys hi hy
      have e : i = ks.length := by omega
      subst e
      rw [List.take_length] at hy
      exact LCt.CompRestT.zero (fin ys hy)
    | succ j ih =>
      intro i ys hi hy
      refine LCt.CompRestT.succ ?_
      intro v I oI C oC D m₂ h tk E' hv hC hx F N off ne
      have hk : ks[i]? = some (ks[i]'(by omega)) := List.getElem?_eq_getElem _
      refine wpAny_mono (turn i _ v I oI C oC D m₂ ys h tk E' hk hv hC hx F N off ne) (fun b s₂ hq => ?_) fun _ _ e => e
      cases b with
      | true =>
        rw [if_pos rfl] at hq ⊢
        refine wpAny_mono hq (fun y s₃ hr => ?_) fun _ _ e => e
        obtain ⟨h', tk', nw, e, F', N', off', hS, hn, hg, hy'⟩ := hr
        rw [hn] at N' off' hS
        refine ⟨h', tk', news, e, F', N', off', hS, ?_⟩
        refine ih (i + 1) _ (by omega) ?_
        rw [List.take_add_one, hk, List.filter_append]
        simp only [Option.toList, List.filter_cons, hg, if_true, List.filter_nil]
        exact hy.snoc hy'
      | false =>
        rw [if_neg Bool.false_ne_true] at hq ⊢
        obtain ⟨h', tk', nw, e, F', N', off', hS, hn, hg⟩ := hq
        rw [hn] at N' off' hS
        refine ⟨h', tk', news, e, F', N', off', hS, ih (i + 1) _ (by omega) ?_⟩
        rw [List.take_add_one, hk, List.filter_append]
        simp only [Option.toList, List.filter_cons, hg, Bool.false_eq_true, if_false, List.filter_nil, List.append_nil]
        exact hy
  exact key n 0 [] (by omega) .nil
end

end
section
open PySem PySem.W PyProof.Rows PySem.Calls
example : True := by
  w_top off
  trivial
set_option maxRecDepth 100000
set_option maxHeartbeats 1000000
section
variable {prog : Program} {w : World} {A : Around} {E : Value → Shared → Prop} {s : Shared} {h₀ : Heap} {L : Addr} {m : Str → Option Value} {env : Env}
theorem block_Z {elt iter : Expr} {x x₂ : Str} {px px₂ tp : Pos} {tk} {scope : Scope} {cl : List (Str × Addr)} {pos : Pos} {s₂ : Shared} {I : Addr} {fp wr : List Addr} {n : Nat} {Pt : Nat → Array Value → Prop} {St : Nat → Heap → Prop} {Mid : Nat → Addr → Heap → Prop} {R : Nat → Value → Prop} {RR : Value → Addr → Result → Shared → Prop}
    (W : WalksT prog w A I fp wr n Pt St Mid) (hsz : n ≤ sizeLine) (hh : A.handled = none) (hcell : ∀ y ∈ scope.names, y.2 ≠ .cell) (hkind : scope.kind = .function) (hx : scope.names.lookup x = some .local) (hx₂ : scope.names.lookup x₂ = some .local) (hxx : x ≠ x₂)
    (hst : St 0 s₂.heap) (hfp : ∀ b ∈ fp, b < s₂.heap.objs.size) (hPt : ∀ i vals, Pt i vals → ∃ v₁ v₂, vals = #[v₁, v₂])
    (helt : ∀ i v₁ v₂ C m₂ s' (E' : Value → Shared → Prop), i < n → Pt i #[v₁, v₂] → s'.heap.Ns C m₂ → m₂ x = some v₁ → m₂ x₂ = some v₂ → wpAny (model prog w) A (eval elt (compEnvC scope cl C env)) (fun y s'' => (∃ tk, s'' = { s' with toks := tk }) ∧ R i y) E' s')
    (hRR : ∀ D C h tk m' ys, Al R (List.range n) ys → h.get? D = some (LCg.lst ys) → h.Ns C m' → (∀ b o, b ∉ wr → s₂.heap.get? b = some o → h.get? b = some o) → s₂.heap.objs.size ≤ D → D ≠ C → s₂.heap.objs.size ≤ C → RR (.ref D) C (.ok .next) { s₂ with heap := h, toks := tk }) :
    wpAny (model prog w) A (newList []) (fun acc s₃ => wpAny (model prog w) A (newFunctionEnv scope env.globals cl [] env.qual none .none (some env)) (fun cenv s₄ =>
      codeAny (model prog w) A (.compStart (.ListComp elt [⟨.Tuple [.Name x px, .Name x₂ px₂] tk tp, iter, [], 0⟩] scope pos) 0 (.ref I) acc { cenv with scope := relabel scope env }) (RR acc cenv.locals) s₄) E s₃) E s₂ := by
  refine wpAny_newObj_type (wpAny_newFunctionEnv hcell (by intro y hy; simp at hy) (fun h₁ hns₁ hsb₁ => ?_) hkind)
  dsimp only at hns₁ hsb₁ ⊢
  generalize hH2 : s₂.heap.push { cls := .type "list", dict := none, data := .seq ([] : List Value).toArray } = H2 at hns₁ hsb₁ ⊢
  have hC : H2.objs.size = s₂.heap.objs.size + 1 := by rw [← hH2, Heap.size_push]
  have hDC : s₂.heap.objs.size ≠ H2.objs.size := by rw [hC]; exact Nat.ne_of_lt (Nat.lt_succ_self _)
  have below : ∀ b, b < s₂.heap.objs.size → b ≠ H2.objs.size ∧ b ≠ s₂.heap.objs.size := fun b hb => ⟨by rw [hC]; exact Nat.ne_of_lt (Nat.lt_succ_of_lt hb), Nat.ne_of_lt hb⟩
  have hDf : s₂.heap.objs.size ∉ fp := fun hm => Nat.lt_irrefl _ (hfp _ hm)
  have hCf : H2.objs.size ∉ fp := fun hm => by have := hfp _ hm; rw [hC] at this; exact Nat.lt_irrefl _ (Nat.lt_of_succ_lt this)
  have hDw : s₂.heap.objs.size ∉ wr := fun hm => hDf (W.sub _ hm)
  have hCw : H2.objs.size ∉ wr := fun hm => hCf (W.sub _ hm)
  have old : ∀ b o, s₂.heap.get? b = some o → h₁.get? b = some o := fun b o e => hsb₁.extBut b o (below b (Heap.lt_size e)).1 (Heap.get?_push_of_some _ (hH2 ▸ Heap.get?_push_of_some _ e))
  have hacc : h₁.get? s₂.heap.objs.size = some (LCg.lst []) := hsb₁.extBut _ _ hDC (Heap.get?_push_of_some _ (hH2 ▸ Heap.get?_push_size _ rfl))
  have hst₁ : St 0 h₁ := W.frame _ _ _ hst fun b _ o e => old b o e
  have loop : ∀ s₃ : Shared, s₃ = { s₂ with heap := h₁, toks := s₂.toks + ([] : List (Str × Value)).length } →
      codeAny (model prog w) A (.compLoop (.ListComp elt [⟨.Tuple [.Name x px, .Name x₂ px₂] tk tp, iter, [], 0⟩] scope pos) 0 (.ref I) (.ref s₂.heap.objs.size) (compEnvC scope cl H2.objs.size env))
        (RR (.ref s₂.heap.objs.size) H2.objs.size) s₃ := by
    rintro s₃ rfl
    obtain ⟨Inv, hI⟩ : ∃ Inv : Nat → Shared → Prop, ∀ k s', Inv k s' ↔ (∃ h' tk i ys m', s' = { s₂ with heap := h', toks := tk } ∧ i ≤ n ∧ k = n + 1 - i ∧ Al R (List.range i) ys ∧ St i h' ∧ h'.Ns H2.objs.size m' ∧ h'.get? s₂.heap.objs.size = some (LCg.lst ys) ∧
        (∀ b o, b ∉ wr → s₂.heap.get? b = some o → h'.get? b = some o)) := ⟨_, fun _ _ => Iff.rfl⟩
    refine LCp.codeAny_compLoop_pair Inv ?_ (n + 1)
      ((hI _ _).mpr ⟨h₁, _, 0, [], _, rfl, Nat.zero_le _, rfl, .nil, hst₁, hns₁, hacc, fun b o _ e => old b o e⟩)
    intro k s' hinv
    obtain ⟨h', tk, i, ys, m', rfl, hi, rfl, hyl, hst', hn', hD', hk'⟩ := (hI _ _).mp hinv
    clear hinv
    by_cases hlt : i < n
    · refine W.item i _ _ _ hlt hst' fun T vals h₂ tk₂ hP _ hT hM hk₂ => ?_
      obtain ⟨v₁, v₂, rfl⟩ := hPt _ _ hP
      refine W.go _ _ _ i T _ _ _ hM fun h₃ hst₃ hk₃ => ?_
      obtain ⟨ot, hot, hct, nt, hdt⟩ := hT
      have ht : IsTup h₃ T #[v₁, v₂] := ⟨ot, hk₃ _ _ (W.apart _ _ _ hM) hot, hct, nt, hdt⟩
      refine assign_Tuple_tuple hh ht rfl rfl fun h₅ he => ?_
      have he' : ∀ b o, h₃.get? b = some o → h₅.get? b = some o := fun b o e => he b o (Nat.ne_of_lt (Heap.lt_size e)) e
      have nsC : h₅.Ns H2.objs.size m' := ((hn'.at' fun o e => hk₂ _ o hCw e).at' fun o e => hk₃ _ o hCw e).at' fun o e => he' _ o e
      refine assignInOrder_cons (wpAny_assign_Name (wpAny_storeName_local (lookup_relabel_local hx) nsC (fun h₆ hn₆ hs₆ => ?_) (by simp [compEnvC, relabel, hkind])))
      refine assignInOrder_cons (wpAny_assign_Name (wpAny_storeName_local (lookup_relabel_local hx₂) hn₆ (fun h₇ hn₇ hs₇ => ?_) (by simp [compEnvC, relabel, hkind])))
      refine assignInOrder_nil ?_
      have up : ∀ b o, b ≠ H2.objs.size → h₃.get? b = some o → h₇.get? b = some o := fun b o hb e => hs₇.extBut b o hb (hs₆.extBut b o hb (he' b o e))
      have hst₇ : St (i + 1) h₇ := W.frame _ _ _ hst₃ fun b hb o e => up b o (fun q => hCf (by rw [← q]; exact hb)) e
      have hD₇ : h₇.get? s₂.heap.objs.size = some (LCg.lst ys) := up _ _ hDC (hk₃ _ _ hDw (hk₂ _ _ hDw hD'))
      refine wpAny_mono (helt i v₁ v₂ H2.objs.size _ _ _ hlt hP hn₇ (by simp [hxx]) (by simp)) (fun y s₈ h₈ => ?_) fun _ _ e => e
      obtain ⟨⟨tk₈, rfl⟩, hR⟩ := h₈
      refine append_at (hsz := by show ys.toArray.size ≤ sizeLine; rw [List.size_toArray, ← hyl.length, List.length_range]; exact Nat.le_trans hi hsz) hD₇ fun h₉ hs₉ hD₉ => ?_
      refine ⟨n + 1 - (i + 1), lt_back hlt, (hI _ _).mpr ⟨h₉, tk₈, i + 1, ys ++ [y], _, rfl, hlt, rfl, ?_, W.frame _ _ _ hst₇ fun b hb o e => hs₉.extBut b o (fun q => hDf (q ▸ hb)) e, hn₇.sameBut hs₉ (Ne.symm hDC), hD₉.trans (congrArg some (LCg.lst_snoc ys y)), fun b o hb e => ?_⟩⟩
      · rw [List.range_succ]; exact hyl.snoc hR
      · have hb2 := below b (Heap.lt_size e)
        exact hs₉.extBut b o hb2.2 (up b o hb2.1 (hk₃ b o hb (hk₂ b o hb (hk' b o hb e))))
    · obtain rfl : i = n := Nat.le_antisymm hi (Nat.not_lt.mp hlt)
      refine W.done _ _ _ hst' fun h₂ tk₂ hk₂ => ?_
      exact hRR _ _ h₂ tk₂ _ ys hyl (hk₂ _ _ hDw hD') (hn'.at' fun o e => hk₂ _ o hCw e) (fun b o hb e => hk₂ b o hb (hk' b o hb e)) (Nat.le_refl _) hDC (by rw [hC]; exact Nat.le_succ _)
  exact codeAny_compStart_list (loop _ rfl) (W.self 0 _ _ _ hst₁ (loop _ rfl))

theorem Assign_Zip {elt iter : Expr} {x x₂ y : Str} {px px₂ tp py : Pos} {tk} {scope : Scope} {cl : List (Str × Addr)} {pos spos : Pos} {Q : Flow → Shared → Prop} {R : Nat → Value → Prop} (hh : A.handled = none) (hLe : env.locals = L)
    (hsw : swapsWith (.ListComp elt [⟨.Tuple [.Name x px, .Name x₂ px₂] tk tp, iter, [], 0⟩] scope pos) (some (.Name y py)) spos.line env = pure true)
    (hclos : closureFor scope env = pure cl) (hcell : ∀ z ∈ scope.names, z.2 ≠ .cell) (hkind : scope.kind = .function)
    (hnames : ∀ z ∈ scope.names, z.2 = .local → scope.names.lookup z.1 = some .local) (hx : scope.names.lookup x = some .local) (hx₂ : scope.names.lookup x₂ = some .local) (hxx : x ≠ x₂)
    (hy : env.kindOf y = some .local) (hp : (env.scope.kind == .class || (env.scope.kind == .module && env.locals != env.globals)) = false)
    (h : wpAny (model prog w) A (eval iter env) (fun xv s₁ => wpAny (model prog w) A (pyIter xv) (fun it s₂ => ∃ I fp wr n Pt St Mid news, it = .ref I ∧ WalksT prog w A I fp wr n Pt St Mid ∧ n ≤ sizeLine ∧ St 0 s₂.heap ∧ (∀ b ∈ fp, b < s₂.heap.objs.size) ∧ (∀ i vals, Pt i vals → ∃ v₁ v₂, vals = #[v₁, v₂]) ∧
      Fr h₀ L s₂.heap m ∧ News h₀ L s₂.heap news ∧ L ∉ wr ∧ (∀ b ∈ wr, h₀.get? b = none) ∧ (∀ p ∈ news, p.1 ∉ wr) ∧
      (∀ i v₁ v₂ C m₂ s' (E' : Value → Shared → Prop), i < n → Pt i #[v₁, v₂] → s'.heap.Ns C m₂ → m₂ x = some v₁ → m₂ x₂ = some v₂ → wpAny (model prog w) A (eval elt (compEnvC scope cl C env)) (fun y s'' => (∃ tk, s'' = { s' with toks := tk }) ∧ R i y) E' s') ∧
      ∀ D h tk ys, Al R (List.range n) ys → Fr h₀ L h (fun z => if z = y then some (.ref D) else m z) → News h₀ L h ((D, LCg.lst ys) :: news) → (∀ p ∈ news, p.1 < D) → Q .next { s₂ with heap := h, toks := tk }) E s₁) E s)
    (hs : ∀ x, foldedSetIterable iter env x = pure x := by intro _; rfl) :
    wpAny (model prog w) A (exec (.Assign [.Name y py] (.ListComp elt [⟨.Tuple [.Name x px, .Name x₂ px₂] tk tp, iter, [], 0⟩] scope pos) spos) env) Q E s := by
  subst hLe
  rw [exec_Assign_Name_used _ _ _ _ hsw]
  refine wpAny_bind (wpAny_standAt (wpAny_bind ?_))
  show wpAny _ A (do let _ ← comprehension (.ListComp elt [⟨.Tuple [.Name x px, .Name x₂ px₂] tk tp, iter, [], 0⟩] scope pos) scope env _ (newList []) false (eval iter env) (some (assign (.Name y py) env))) _ _ s
  refine wpAny_bind (wpAny_mono (wpAny_comprehension_free (use := some (assign (.Name y py) env)) (Q := fun _ s' => Q .next s') rfl hs hclos hkind hnames
    (wpAny_mono h (fun xv s₁ h₁ => wpAny_mono h₁ (fun it s₂ h₂ => ?_) fun _ _ e => e) fun _ _ e => e)) (fun _ s' hq => wpAny_pure (wpAny_pure hq)) fun _ _ e => e)
  obtain ⟨I, fp, wr, n, Pt, St, Mid, news, rfl, W, hsz, hst, hfp, hPt, F, N, hLw, hwr, hnw, helt, hQ⟩ := h₂
  refine block_Z W hsz hh hcell hkind hx hx₂ hxx hst hfp hPt helt ?_
  intro D C h' tk' m' ys hal hD hn hk hDs hDC hCs
  have hLs : env.locals < s₂.heap.objs.size := F.ns.lt
  have hDL : D ≠ env.locals := fun e => Nat.lt_irrefl _ (Nat.lt_of_lt_of_le hLs (e ▸ hDs))
  have hCL : C ≠ env.locals := fun e => Nat.lt_irrefl _ (Nat.lt_of_lt_of_le hLs (e ▸ hCs))
  have fresh₀ : ∀ a, s₂.heap.objs.size ≤ a → h₀.get? a = none := fun a ha => by
    cases e : h₀.get? a with
    | none => rfl
    | some o' => exact absurd (Heap.lt_size (F.keep a o' e)) (Nat.not_lt.mpr ha)
  have F' : Fr h₀ env.locals h' m := ⟨F.ns.at' fun o e => hk _ o hLw e, fun b o e => hk b o (fun hb => by rw [hwr b hb] at e; cases e) (F.keep b o e), F.above⟩
  have N' : News h₀ env.locals h' ((D, LCg.lst ys) :: news) := fun p hp => by
    rcases List.mem_cons.mp hp with rfl | hp
    · exact ⟨hD, hDL, fresh₀ _ hDs⟩
    · exact ⟨hk _ _ (hnw p hp) (N p hp).1, (N p hp).2⟩
  show wpAny _ A (assign (.Name y py) env (.ref D)) _ _ _
  refine wpAny_assign_Name (wpAny_storeName_local hy F'.ns (fun h₂ hn₂ hs₂ => ?_) hp)
  have hL₀ : h₀.get? env.locals = none := Heap.get?_none_of_le F'.above
  have F₂ : Fr h₀ env.locals h₂ (fun z => if z = y then some (.ref D) else m z) := ⟨hn₂, fun b o e => hs₂.extBut b o (fun q => by rw [q, hL₀] at e; cases e) (F'.keep b o e), F'.above⟩
  refine ⟨m', hn.sameBut hs₂ hCL, fun h'' hs'' => hQ D h'' _ ys hal (F₂.change hs'' hCL (fresh₀ _ hCs)) (fun p hp => ?_) (fun p hp => Nat.lt_of_lt_of_le (Heap.lt_size (N p hp).1) hDs)⟩
  have z : h₂.get? p.1 = some p.2 := hs₂.extBut _ _ (N' p hp).2.1 (N' p hp).1
  refine ⟨hs''.extBut _ _ ?_ z, (N' p hp).2⟩
  rcases List.mem_cons.mp hp with rfl | hp
  · exact hDC
  · exact fun e => Nat.lt_irrefl _ (Nat.lt_of_lt_of_le (Heap.lt_size (N p hp).1) (e ▸ hCs))
end

end
section
open PySem PySem.W PyProof.Rows PySem.Calls PySem.SeqAt PySem.Spec
example : True := by
  w_top off
  trivial
section
variable {prog : Program} {w : World} {A : Around} {E : Value → Shared → Prop} {s : Shared}
theorem canlay_bools (xs : List Bool) : PyData.canLayAll0 (xs.map PyData.bool) = true ∧ PyData.depthAll (xs.map PyData.bool) ≤ 4 := by
  induction xs with
  | nil => exact ⟨rfl, by simp [PyData.depthAll]⟩
  | cons b r ih => exact ⟨by simp [PyData.canLayAll0, PyData.canLay0, ih.1], by simp [PyData.depthAll, PyData.depth]; exact ih.2⟩
theorem any_bools (xs : List Bool) (b : Bool) : ((xs.map PyData.bool).any fun y => PyData.eqv y (.bool b)) = xs.contains b := by
  induction xs with
  | nil => rfl
  | cons a r ih =>
    rw [List.map_cons, List.any_cons, ih, List.contains_cons]
    congr 1
    cases a <;> cases b <;> rfl
theorem notin_bools {l : Addr} {vs : List Value} {xs : List Bool} {b : Bool} {Q : Value → Shared → Prop} (hl : s.heap.IsList l vs.toArray) (H : BoolsAre vs xs) (hu : A.units + 64 < cLine) (h : Q (.bool (!(xs.contains b))) s) :
    wpAny (model prog w) A (compareOp .NotIn (.bool b) (.ref l)) Q E s := by
  refine notIn_list_reads (reads_bools hl H) (.bool b) (canlay_bools xs).1 rfl ?_ ?_
  · have := (canlay_bools xs).2
    have h2 : min (PyData.depthAll (xs.map PyData.bool)) (PyData.bool b).depth ≤ 4 := Nat.le_trans (Nat.min_le_left _ _) this
    omega
  · rw [any_bools]; exact h
end
section
variable {h₀ : Heap} {L : Addr} {m : Str → Option Value} {E : Value → Shared → Prop} {s : Shared} {env : Env}
theorem nameG_B {M : Model} {A : Around} {K : Frag} {mg mb : Str → Option Value} {p : Program} {loose : List Str} {x : Str} {pos : Pos} {v : Value} {Q : Value → Shared → Prop} (F : Fr h₀ L s.heap m) (X : K.In h₀) (T : TopRead p loose mg mb h₀)
    (e : nsIn K mainGlobals x = some none) (hv : bootBuiltins x = some v) (hn : x ≠ "__name__") (h : Q v s) (hg : env.globals = mainGlobals) (hb : env.builtins = builtinsNs) (hk : env.scope.kind = .function) (hx : env.kindOf x = some .globalImplicit) (hd : (x == ("__debug__" : Str)) = false) :
    wpAny M A (eval (.Name x pos) env) Q E s :=
  Name_function_global hk hx (loadGlobal_builtin (env := env) (by rw [hg]; exact T.g.keeps F.keep) (mg_none_of X T.g e) (by rw [hb]; exact T.b.keeps F.keep) ((T.builtins x hn).trans hv) h) hd
end

end
section
open PySem PySem.W PyProof.Rows PySem.Calls
example : True := by
  w_top off
  trivial
set_option maxRecDepth 100000
set_option maxHeartbeats 1000000
inductive StoredL {K : Type} [DecidableEq K] (R : K → Value → Value → Prop) : List (K × Value) → List (K × Value) → Prop
  | nil : StoredL R [] []
  | snoc {l kvs : List (K × Value)} {k : K} {x y : Value} : StoredL R l kvs → R k x y → StoredL R (l ++ [(k, x)]) (stored kvs k y)
theorem StoredL.length_le {K : Type} [DecidableEq K] {R : K → Value → Value → Prop} {l kvs : List (K × Value)} (h : StoredL R l kvs) : kvs.length ≤ l.length := by
  induction h with
  | nil => exact Nat.le_refl _
  | @snoc l kvs k x y _ _ ih =>
    have e := stored_length_le kvs k y
    rw [List.length_append, List.length_singleton]; omega
section
variable {prog : Program} {w : World} {K : Type} [DecidableEq K] {knd : KeyKind prog w K} {A : Around} {E : Value → Shared → Prop} {env : Env}
theorem block_DX {kx vx iter : Expr} {x : Str} {px : Pos} {scope : Scope} {cl : List (Str × Addr)} {pos : Pos} {s₂ : Shared} {I d : Addr} {kS : List (K × Value)} {ep : Nat} (hne : d ≠ I) {R : K → Value → Value → Prop} {RR : Value → Addr → Result → Shared → Prop}
    (hh : A.handled = none) (hsz : kS.length ≤ sizeLine) (hcell : ∀ y ∈ scope.names, y.2 ≠ .cell) (hkind : scope.kind = .function) (hx : scope.names.lookup x = some .local)
    (hst : s₂.heap.IsKeyIter I d 0 kS.length ep ∧ s₂.heap.DictAt knd d kS ep) (hI : I < s₂.heap.objs.size) (hd : d < s₂.heap.objs.size)
    (hkey : ∀ C k y v s₃ m₃ E', (k, y) ∈ kS → knd.is k v = true → s₃.heap.Ns C m₃ → m₃ x = some v → (∀ b o, b ≠ I → s₂.heap.get? b = some o → s₃.heap.get? b = some o) →
      wpAny (model prog w) A (eval kx (compEnvC scope cl C env)) (fun key s₄ => knd.is k key = true ∧ Ext s₃ s₄) E' s₃)
    (hval : ∀ C k y v s₃ m₃ E', (k, y) ∈ kS → knd.is k v = true → s₃.heap.Ns C m₃ → m₃ x = some v → (∀ b o, b ≠ I → s₂.heap.get? b = some o → s₃.heap.get? b = some o) →
      wpAny (model prog w) A (eval vx (compEnvC scope cl C env)) (fun z s₄ => R k y z ∧ Ext s₃ s₄) E' s₃)
    (hRR : ∀ D C s' m' kvs, s₂.heap.get? D = none → s₂.heap.get? C = none → D ≠ C → s'.heap.Ns C m' → s'.heap.DictOf knd D kvs → StoredL R kS kvs →
      (∀ b o, b ≠ I → s₂.heap.get? b = some o → s'.heap.get? b = some o) → s'.os = s₂.os → GX s₂.gens s'.gens → RR (.ref D) C (.ok .next) s') :
    wpAny (model prog w) A newDict (fun acc s₃ => wpAny (model prog w) A (newFunctionEnv scope env.globals cl [] env.qual none .none (some env)) (fun cenv s₄ =>
      codeAny (model prog w) A (.compStart (.DictComp kx vx [⟨.Name x px, iter, [], 0⟩] scope pos) 0 (.ref I) acc { cenv with scope := relabel scope env }) (RR acc cenv.locals) s₄) E s₃) E s₂ := by
  have W := Walks.dictKeys (knd := knd) (prog := prog) (w := w) hh I d hne kS ep
  refine wpAny_newObj_type (wpAny_newFunctionEnv hcell (by intro y hy; simp at hy) (fun h₁ hns₁ hsb₁ => ?_) hkind)
  dsimp only at hns₁ hsb₁ ⊢
  have hnew : (s₂.heap.push { cls := .type "dict", dict := none, data := .dict #[] }).DictOf knd s₂.heap.objs.size [] := Heap.DictOf.new s₂.heap
  generalize hH2 : s₂.heap.push { cls := .type "dict", dict := none, data := .dict #[] } = H2 at hns₁ hsb₁ hnew ⊢
  have hC : H2.objs.size = s₂.heap.objs.size + 1 := by rw [← hH2, Heap.size_push]
  have hDC : s₂.heap.objs.size ≠ H2.objs.size := by rw [hC]; exact Nat.ne_of_lt (Nat.lt_succ_self _)
  have below : ∀ b, b < s₂.heap.objs.size → b ≠ H2.objs.size ∧ b ≠ s₂.heap.objs.size := fun b hb => ⟨by rw [hC]; exact Nat.ne_of_lt (Nat.lt_succ_of_lt hb), Nat.ne_of_lt hb⟩
  have hDI : s₂.heap.objs.size ≠ I := Nat.ne_of_gt hI
  have hCI : H2.objs.size ≠ I := by rw [hC]; exact Nat.ne_of_gt (Nat.lt_succ_of_lt hI)
  have hdD := (below d hd)
  have old : ∀ b o, s₂.heap.get? b = some o → h₁.get? b = some o := fun b o e => hsb₁.extBut b o (below b (Heap.lt_size e)).1 (Heap.get?_push_of_some _ (hH2 ▸ Heap.get?_push_of_some _ e))
  have hacc : h₁.DictOf knd s₂.heap.objs.size [] := hnew.at fun o e => hsb₁.extBut _ _ hDC (Heap.get?_push_of_some _ e)
  have fresh : ∀ a, s₂.heap.objs.size ≤ a → s₂.heap.get? a = none := fun a ha => by
    cases e : s₂.heap.get? a with
    | none => rfl
    | some o' => exact absurd (Heap.lt_size e) (Nat.not_lt.mpr ha)
  have hst₁ := W.frame 0 _ h₁ hst fun b _ o e => old b o e
  have loop : ∀ s₃ : Shared, s₃ = { s₂ with heap := h₁, toks := s₂.toks + ([] : List (Str × Value)).length } →
      codeAny (model prog w) A (.compLoop (.DictComp kx vx [⟨.Name x px, iter, [], 0⟩] scope pos) 0 (.ref I) (.ref s₂.heap.objs.size) (compEnvC scope cl H2.objs.size env))
        (RR (.ref s₂.heap.objs.size) H2.objs.size) s₃ := by
    rintro s₃ rfl
    obtain ⟨Inv, hI⟩ : ∃ Inv : Nat → Shared → Prop, ∀ k s', Inv k s' ↔ (∃ m' kvs i, (s'.heap.IsKeyIter I d i kS.length ep ∧ s'.heap.DictAt knd d kS ep) ∧ s'.heap.DictOf knd s₂.heap.objs.size kvs ∧ s'.heap.Ns H2.objs.size m' ∧ StoredL R (kS.take i) kvs ∧ i ≤ kS.length ∧ k = kS.length + 1 - i ∧
        (∀ b o, b ≠ I → s₂.heap.get? b = some o → s'.heap.get? b = some o) ∧ s'.os = s₂.os ∧ GX s₂.gens s'.gens) := ⟨_, fun _ _ => Iff.rfl⟩
    refine codeAny_compLoop_testsD Inv ?_ (kS.length + 1)
      ((hI _ _).mpr ⟨_, [], 0, hst₁, hacc, hns₁, by rw [List.take_zero]; exact .nil, Nat.zero_le _, rfl, fun b o _ e => old b o e, rfl, .refl _⟩)
    intro k s' hinv
    obtain ⟨m', kvs, i, hst', hacc', hn', hF, hi, rfl, hk, hos, hgx⟩ := (hI _ _).mp hinv
    clear hinv
    by_cases hlt : i < kS.length
    · refine W.item i _ _ _ hlt hst' fun v h₃ tk₃ hPv hst₃ hk₃ => ?_
      obtain ⟨kk, y, hky, hkv⟩ := hPv
      have hmem : (kk, y) ∈ kS := List.mem_of_getElem? hky
      have hk₃' : ∀ b o, b ≠ I → s'.heap.get? b = some o → h₃.get? b = some o := fun b o hb e => hk₃ b o (by simpa using hb) e
      refine wpAny_assign_Name (wpAny_storeName_local (lookup_relabel_local hx) (hn'.at' fun o e => hk₃' _ o hCI e) (fun h₄ hn₄ hs₄ => ?_) (by simp [compEnvC, relabel, hkind]))
      have up₄ : ∀ b o, b ≠ H2.objs.size → b ≠ I → s'.heap.get? b = some o → h₄.get? b = some o := fun b o hbC hbI e => hs₄.extBut b o hbC (hk₃' b o hbI e)
      have up0 : ∀ b o, b ≠ I → s₂.heap.get? b = some o → h₄.get? b = some o := fun b o hb e => up₄ b o (below b (Heap.lt_size e)).1 hb (hk b o hb e)
      have hst₄ := W.frame (i + 1) _ h₄ hst₃ fun b hb o e => hs₄.extBut b o (fun q => by
        rcases List.mem_cons.mp hb with h | h
        · exact hCI ((show b = H2.objs.size from q).symm.trans h)
        · rw [List.mem_singleton.mp h] at q; exact hdD.1 q) e
      have hacc₄ : h₄.DictOf knd s₂.heap.objs.size kvs := hacc'.at fun o e => up₄ _ o hDC hDI e
      show wpAny _ _ (pure true) _ _ _
      refine wpAny_pure ?_
      rw [if_pos rfl]
      refine wpAny_mono (hkey H2.objs.size kk y v _ _ _ hmem hkv hn₄ (by simp) up0) (fun key s₅ h₅ => ?_) fun _ _ e => e
      obtain ⟨hkk, ex₅⟩ := h₅
      refine wpAny_mono (hval H2.objs.size kk y v _ _ _ hmem hkv (hn₄.keeps ex₅.keep) (by simp) fun b o hb e => ex₅.keep _ _ (up0 b o hb e)) (fun z s₆ h₆ => ?_) fun _ _ e => e
      obtain ⟨hR, ex₆⟩ := h₆
      have hkv' : kvs.length ≤ sizeLine := by
        have e1 := hF.length_le
        rw [List.length_take] at e1
        omega
      refine wpAny_dictSet_pairs (hsz := hkv') hkk (hacc₄.at fun o e => ex₆.keep _ o (ex₅.keep _ o e)) fun h₇ hl₇ hs₇ => ?_
      have up7 : ∀ b o, b ≠ s₂.heap.objs.size → h₄.get? b = some o → h₇.get? b = some o := fun b o hb e => hs₇.extBut b o hb (ex₆.keep _ _ (ex₅.keep _ _ e))
      refine ⟨kS.length + 1 - (i + 1), lt_back hlt, (hI _ _).mpr ⟨_, stored kvs kk z, i + 1, W.frame (i + 1) _ h₇ hst₄ fun b hb o e => up7 b o (fun q => by
        rcases List.mem_cons.mp hb with h | h
        · exact hDI (q ▸ h)
        · rw [List.mem_singleton.mp h] at q; exact hdD.2 q) e, hl₇, ((hn₄.keeps ex₅.keep).keeps ex₆.keep).sameBut hs₇ (Ne.symm hDC), ?_, hlt, rfl, fun b o hb e => up7 b o (below b (Heap.lt_size e)).2 (up0 b o hb e), ex₆.os.trans (ex₅.os.trans hos), hgx.trans (ex₅.gens.trans ex₆.gens)⟩⟩
      rw [List.take_add_one, hky]
      exact hF.snoc hR
    · have hin : i = kS.length := by omega
      subst hin
      refine W.done _ _ _ hst' fun h₃ tk₃ hk₃ => ?_
      have hk₃' : ∀ b o, b ≠ I → s'.heap.get? b = some o → h₃.get? b = some o := fun b o hb e => hk₃ b o (by simpa using hb) e
      rw [List.take_length] at hF
      exact hRR _ _ _ m' kvs (fresh _ (Nat.le_refl _)) (fresh _ (by rw [hC]; exact Nat.le_succ _)) hDC (hn'.at' fun o e => hk₃' _ o hCI e) (hacc'.at fun o e => hk₃' _ o hDI e) hF (fun b o hb e => hk₃' b o hb (hk b o hb e)) hos hgx
  exact codeAny_compStart_dict (loop _ rfl) (W.self 0 _ _ _ hst₁ (loop _ rfl))

theorem eval_DX {kx vx iter : Expr} {x : Str} {px : Pos} {scope : Scope} {cl : List (Str × Addr)} {pos : Pos} {s : Shared} {h₀ : Heap} {L : Addr} {m : Str → Option Value} {Q : Value → Shared → Prop} {R : K → Value → Value → Prop} (hh : A.handled = none)
    (hclos : closureFor scope env = pure cl) (hcell : ∀ z ∈ scope.names, z.2 ≠ .cell) (hkind : scope.kind = .function)
    (hnames : ∀ z ∈ scope.names, z.2 = .local → scope.names.lookup z.1 = some .local) (hx : scope.names.lookup x = some .local)
    (h : wpAny (model prog w) A (eval iter env) (fun xv s₁ => Reach (∃ d oS kS news, xv = .ref d ∧ s₁.heap.get? d = some oS ∧ oS.IsDictOf knd kS ∧ (d == sysModules) = false ∧ kS.length ≤ sizeLine ∧
      Fr h₀ L s₁.heap m ∧ News h₀ L s₁.heap news ∧
      (∀ C k z v s₃ m₃ E', (k, z) ∈ kS → knd.is k v = true → s₃.heap.Ns C m₃ → m₃ x = some v → Fr h₀ L s₃.heap m → News h₀ L s₃.heap news →
        wpAny (model prog w) A (eval kx (compEnvC scope cl C env)) (fun key s₄ => Reach (knd.is k key = true ∧ Ext s₃ s₄)) E' s₃) ∧
      (∀ C k z v s₃ m₃ E', (k, z) ∈ kS → knd.is k v = true → s₃.heap.Ns C m₃ → m₃ x = some v → Fr h₀ L s₃.heap m → News h₀ L s₃.heap news →
        wpAny (model prog w) A (eval vx (compEnvC scope cl C env)) (fun u s₄ => Reach (R k z u ∧ Ext s₃ s₄)) E' s₃) ∧
      ∀ D oD s' kvs, Fr h₀ L s'.heap m → News h₀ L s'.heap ((D, oD) :: news) → oD.IsDictOf knd kvs → StoredL R kS kvs → s'.os = s₁.os → GX s₁.gens s'.gens → Q (.ref D) s')) E s)
    (hs : ∀ x, foldedSetIterable iter env x = pure x := by intro _; rfl) :
    wpAny (model prog w) A (eval (.DictComp kx vx [⟨.Name x px, iter, [], 0⟩] scope pos) env) Q E s := by
  rw [arm_eval_DictComp]
  refine wpAny_comprehension_free (use := none) rfl hs hclos hkind hnames (wpAny_mono h (fun xv s₁ h₁ => ?_) fun _ _ e => e)
  obtain ⟨d, oS, kS, news, rfl, hoS, hdS, lo, hsz, F, N, hkey, hval, hQ⟩ := h₁.out
  have hdO : s₁.heap.DictOf knd d kS := Heap.dictOf_iff.mpr ⟨oS, hoS, hdS⟩
  obtain ⟨ep, hat⟩ := hdO.dictAt
  have hlt : d < s₁.heap.objs.size := hat.lt_size
  refine wpAny_pyIter_dict lo hat ?_
  have lift : ∀ {s₃ : Shared}, (∀ b o, b ≠ s₁.heap.objs.size → (s₁.heap.push { cls := .type "dict_keyiterator", data := .fields #[.ref d, .int 0 0, .int kS.length 0, .int ep 0] }).get? b = some o → s₃.heap.get? b = some o) → ∀ b o, s₁.heap.get? b = some o → s₃.heap.get? b = some o :=
    fun hk b o e => hk b o (Nat.ne_of_lt (Heap.lt_size e)) (Heap.get?_push_of_some _ e)
  refine block_DX (knd := knd) (Nat.ne_of_lt hlt) hh hsz hcell hkind hx ⟨⟨_, Heap.get?_push_size _ rfl, rfl, rfl⟩, hat.push _⟩ (by show _ < (s₁.heap.push _).objs.size; rw [Heap.size_push]; exact Nat.lt_succ_self _) (by show _ < (s₁.heap.push _).objs.size; rw [Heap.size_push]; exact Nat.lt_succ_of_lt hlt)
    (fun C k z v s₃ m₃ E' hm hkv hn hm3 hk => wpAny_mono (hkey C k z v s₃ m₃ E' hm hkv hn hm3 (F.keeps (lift hk)) (News.keeps N (lift hk))) (fun _ _ h => h.out) fun _ _ e => e)
    (fun C k z v s₃ m₃ E' hm hkv hn hm3 hk => wpAny_mono (hval C k z v s₃ m₃ E' hm hkv hn hm3 (F.keeps (lift hk)) (News.keeps N (lift hk))) (fun _ _ h => h.out) fun _ _ e => e) ?_
  intro D C s' m' kvs hD hC hDC hn hl hS hk hos hgx
  have hup := lift hk
  have F' := F.keeps hup
  have N' := News.keeps N hup
  have old : ∀ {a}, (s₁.heap.push { cls := .type "dict_keyiterator", data := .fields #[.ref d, .int 0 0, .int kS.length 0, .int ep 0] }).get? a = none → s₁.heap.get? a = none := fun {a} e => by
    cases q : s₁.heap.get? a with
    | none => rfl
    | some o => rw [Heap.get?_push_of_some _ q] at e; cases e
  have hD' := old hD
  have hC' := old hC
  have neS : ∀ {a b : Addr} {o : Obj}, s₁.heap.get? a = none → s₁.heap.get? b = some o → b ≠ a := fun e1 e2 q => by rw [q, e1] at e2; cases e2
  obtain ⟨oL, a1, a2, hLo, a3⟩ := F.ns
  have hLD : L ≠ D := neS hD' hLo
  have hLC : L ≠ C := neS hC' hLo
  have zD : h₀.get? D = none := by
    cases q : h₀.get? D with
    | none => rfl
    | some o => exact absurd rfl (neS hD' (F.keep _ _ q))
  have zC : h₀.get? C = none := by
    cases q : h₀.get? C with
    | none => rfl
    | some o => exact absurd rfl (neS hC' (F.keep _ _ q))
  obtain ⟨oD, hoD, hdD⟩ := Heap.dictOf_iff.mp hl
  refine ⟨m', hn, fun h'' hs'' => ?_⟩
  refine hQ D oD _ kvs (F'.change hs'' (Ne.symm hLC) zC) (fun p hp => ?_) hdD hS hos hgx
  rcases List.mem_cons.mp hp with rfl | hp
  · exact ⟨hs''.extBut _ _ hDC hoD, Ne.symm hLD, zD⟩
  · exact ⟨hs''.extBut _ _ (neS hC' (N _ hp).1) (N' _ hp).1, (N' _ hp).2⟩
end

end
section
open PySem PySem.W PyProof.Rows

noncomputable def sF : Option (List Nat) → Bool → List Nat → List Nat
  | none, _, [] => []
  | some b, _, [] => b
  | none, true, c :: r => c :: sF none false r
  | none, false, c :: r => if c = 34 then sF (some [34]) false r else c :: sF none (c == 92) r
  | some b, true, c :: r => sF (some (b ++ [c])) false r
  | some b, false, c :: r => if c = 34 then sF none false r else sF (some (b ++ [c])) (c == 92) r
noncomputable def kF : Bool → Int → List Nat → Bool
  | _, d, [] => d == 0
  | true, d, _ :: r => kF false d r
  | false, d, c :: r => if c = 40 then kF false (d + 1) r else if c = 41 then (if d - 1 < 0 then false else kF false (d - 1) r) else kF (c == 92) d r

theorem one_eq (c : Nat) (k : Nat) (q : Str) (hq : q = ⟨#[k]⟩) : (((⟨#[c]⟩ : Str) == q) = true) ↔ c = k := by
  subst hq
  rw [beq_iff_eq]
  constructor
  · intro h; injection h with h; simpa using h
  · rintro rfl; rfl
theorem two_ne (c d k : Nat) (q : Str) (hq : q = ⟨#[k]⟩) : ((⟨#[c, d]⟩ : Str) == q) = false := by
  subst hq
  rw [beq_eq_false_iff_ne]
  intro h; injection h with h; have := congrArg Array.size h; simp at this
theorem qt_is : Str.ofString "\"" = (⟨#[34]⟩ : Str) := by decide +kernel
theorem op_is : Str.ofString "(" = (⟨#[40]⟩ : Str) := by decide +kernel
theorem cl_is : Str.ofString ")" = (⟨#[41]⟩ : Str) := by decide +kernel

theorem cl_slice {x : Str} {i j : Nat} (h1 : i ≤ j) (h2 : j ≤ x.length) : cl (Txt.slice x (some (i : Int)) (some (j : Int))) = ((cl x).drop i).take (j - i) := by
  have := eq_of_beq (slice_closesL (x := x) (i := i) (j := j) (by omega) (by omega) (by omega))
  rw [this]
  show (((x.cps.toList.drop _).take _).toArray).toList = _
  rw [List.toList_toArray]
  congr 1
  exact Int.toNat_sub j i
theorem cl_slice_from {x : Str} {i : Nat} (h1 : i ≤ x.length) : cl (Txt.slice x (some (i : Int)) none) = (cl x).drop i := by
  rw [slice_from_eq (x := x) (i := i) (b := x.length) (by omega) (by omega) rfl]
  show (((x.cps.toList.drop _).take _).toArray).toList = _
  rw [List.toList_toArray]
  have : x.cps.toList.length = x.length := by simp [Str.length]
  rw [List.take_of_length_le (by rw [List.length_drop, this]; exact Nat.le_of_eq (Int.toNat_sub x.length i).symm)]
  congr 1
theorem jn_nil : ∀ xs : List (List Nat), jn [] xs = xs.flatten
  | [] => rfl
  | [x] => by simp [jn]
  | x :: y :: r => by
    have := jn_nil (y :: r)
    simp only [jn, this, List.append_nil, List.flatten_cons]
theorem cl_join0 (xs : List Str) : cl (Txt.join (Str.ofString "") xs) = (xs.map cl).flatten := by
  rw [cl_join, cl_empty, jn_nil]

theorem sF_noq : ∀ (cs : List Nat) (e : Bool), 34 ∉ cs → sF none e cs = cs
  | [], _, _ => by cases ‹Bool› <;> rfl
  | c :: r, true, h => by rw [sF, sF_noq r false fun q => h (.tail _ q)]
  | c :: r, false, h => by rw [sF, if_neg (fun q => by subst q; exact h (.head _)), sF_noq r _ fun q => h (.tail _ q)]

noncomputable def SI (addr : Str) (st : SS) (esc : Bool) (i : Nat) (r : List Nat) : List Nat :=
  (st.res.map cl).flatten ++ match st.opn with
    | none => ((cl addr).drop st.start.toNat).take (i - st.start.toNat) ++ sF none esc r
    | some o => ((cl addr).drop st.start.toNat).take (o.toNat - st.start.toNat) ++ sF (some (((cl addr).drop o.toNat).take (i - o.toNat))) esc r
structure SB (addr : Str) (st : SS) (i : Nat) : Prop where
  lo : 0 ≤ st.start
  none : st.opn = none → st.start ≤ i
  some : ∀ o, st.opn = some o → st.start ≤ o ∧ o < i

theorem take_snoc {l : List Nat} {a i c : Nat} {r : List Nat} (h : l.drop i = c :: r) (ha : a ≤ i) : (l.drop a).take (i + 1 - a) = (l.drop a).take (i - a) ++ [c] := by
  rw [show i + 1 - a = (i - a) + 1 from Nat.succ_sub ha, List.take_add_one]
  congr 1
  rw [List.getElem?_drop, Nat.add_sub_of_le ha]
  have : (l.drop i)[0]? = some c := by rw [h]; rfl
  rw [List.getElem?_drop] at this
  rw [show i + 0 = i by omega] at this
  rw [this]; rfl
theorem drop_one {l : List Nat} {i c : Nat} {r : List Nat} (h : l.drop i = c :: r) : (l.drop i).take 1 = [c] := by rw [h]; rfl

theorem strip_step (addr : Str) : ∀ (r : List Nat) (i : Nat) (esc : Bool) (st : SS), (cl addr).drop i = r → i ≤ addr.length → SB addr st i → (esc = true → ∀ o, st.opn = some o → o + 1 < i) →
    ((stripEnd addr ((itemsFrom r i esc).foldl (stripStep addr) st)).map cl).flatten = SI addr st esc i r := by
  intro r
  induction r with
  | nil =>
    intro i esc st hr hi hb _
    have hlen : (cl addr).length = addr.length := cl_len addr
    have hi2 : i = addr.length := by
      have := congrArg List.length hr
      rw [List.length_drop, hlen] at this
      simp at this; omega
    have hend : ∀ st : SS, SB addr st i → ((stripEnd addr st).map cl).flatten = SI addr st esc i [] := by
      intro st hb
      unfold stripEnd SI
      have key : ∀ start : Int, 0 ≤ start → start ≤ i → ((if start < addr.length then st.res ++ [Txt.slice addr (some start) none] else st.res).map cl).flatten = (st.res.map cl).flatten ++ (cl addr).drop start.toNat := by
        intro start h0 h1
        split
        · rw [List.map_append, List.flatten_append]
          congr 1
          obtain ⟨n, rfl⟩ := Int.eq_ofNat_of_zero_le h0
          simp only [List.map_cons, List.map_nil, List.flatten_cons, List.flatten_nil, List.append_nil]
          exact cl_slice_from (by omega)
        · rw [List.drop_eq_nil_of_le (by rw [hlen]; exact Int.toNat_le_toNat (Int.not_lt.mp ‹¬ start < _›)), List.append_nil]
      cases ho : st.opn with
      | none =>
        have h1 := hb.none ho
        rw [key _ hb.lo h1]
        dsimp only
        congr 1
        rw [List.take_of_length_le (by rw [List.length_drop, hlen]; exact Nat.sub_le_sub_right (Nat.le_of_eq hi2.symm) _)]
        cases esc <;> simp [sF]
      | some o =>
        have h1 := hb.some o ho
        have h0 := hb.lo
        rw [key _ hb.lo (by omega)]
        dsimp only
        congr 1
        have : sF (some (((cl addr).drop o.toNat).take (i - o.toNat))) esc [] = (cl addr).drop o.toNat := by
          rw [List.take_of_length_le (by rw [List.length_drop, hlen]; exact Nat.sub_le_sub_right (Nat.le_of_eq hi2.symm) _)]
          cases esc <;> simp [sF]
        rw [this]
        have e := List.take_append_drop (o.toNat - st.start.toNat) ((cl addr).drop st.start.toNat)
        rw [List.drop_drop, Nat.add_sub_of_le (Int.toNat_le_toNat h1.1)] at e
        exact e.symm
    cases esc with
    | false => exact hend st hb
    | true =>
      have e : (itemsFrom [] i true).foldl (stripStep addr) st = st := by
        show stripStep addr st ((i : Int) - 1, ⟨#[92]⟩) = st
        unfold stripStep
        rw [if_neg (by rw [one_eq 92 34 _ qt_is]; decide)]
      rw [e]; exact hend st hb
  | cons c r ih =>
    intro i esc st hr hi hb hesc
    have hlen : (cl addr).length = addr.length := cl_len addr
    have hi2 : i + 1 ≤ addr.length := by
      have := congrArg List.length hr
      rw [List.length_drop, hlen] at this
      simp at this; omega
    have hr' : (cl addr).drop (i + 1) = r := by
      have : ((cl addr).drop i).drop 1 = r := by rw [hr]; rfl
      rwa [List.drop_drop] at this
    have hb' : SB addr st (i + 1) := ⟨hb.lo, fun h => by have := hb.none h; omega, fun o h => by have := hb.some o h; omega⟩
    have hlo := hb.lo
    -- a sign that changes nothing
    have plain : ∀ esc' : Bool, (esc = true ∧ esc' = false ∨ esc = false ∧ c ≠ 34 ∧ esc' = (c == 92)) → SI addr st esc' (i + 1) r = SI addr st esc i (c :: r) := by
      intro esc' h
      unfold SI
      congr 1
      cases ho : st.opn with
      | none =>
        have h1 := hb.none ho
        dsimp only
        rw [take_snoc hr (by omega), List.append_assoc]
        congr 1
        rcases h with ⟨rfl, rfl⟩ | ⟨rfl, h2, rfl⟩
        · rw [sF]; rfl
        · rw [sF, if_neg h2]; rfl
      | some o =>
        have h1 := hb.some o ho
        dsimp only
        congr 1
        rw [take_snoc hr (by omega)]
        rcases h with ⟨rfl, rfl⟩ | ⟨rfl, h2, rfl⟩
        · rw [sF]
        · rw [sF, if_neg h2]
    cases esc with
    | true =>
      rw [itemsFrom, if_pos rfl, List.foldl_cons]
      have e : stripStep addr st ((i : Int), ⟨#[92, c]⟩) = st := by
        unfold stripStep
        rw [if_neg (by rw [two_ne 92 c 34 _ qt_is]; decide)]
      rw [e, ih (i + 1) false st hr' (by omega) hb' (fun h => nomatch h)]
      exact plain false (.inl ⟨rfl, rfl⟩)
    | false =>
      rw [itemsFrom, if_neg Bool.false_ne_true]
      by_cases h92 : c = 92
      · rw [if_pos h92, ih (i + 1) true st hr' (by omega) hb' (fun _ o ho => by have := hb.some o ho; omega)]
        exact plain true (.inr ⟨rfl, by omega, by rw [h92]; rfl⟩)
      · rw [if_neg h92, List.foldl_cons]
        by_cases h34 : c = 34
        · subst h34
          have hq : (((⟨#[34]⟩ : Str) == Str.ofString "\"") = true) := (one_eq 34 34 _ qt_is).mpr rfl
          cases ho : st.opn with
          | none =>
            have h1 := hb.none ho
            have e : stripStep addr st ((i : Int), ⟨#[34]⟩) = { st with opn := some (i : Int) } := by
              unfold stripStep; rw [if_pos hq, ho]
            rw [e, ih (i + 1) false { st with opn := some (i : Int) } hr' (by omega) ⟨hlo, fun h => (by cases h), fun o h => by injection h with h; subst h; dsimp only; omega⟩ (fun h => nomatch h)]
            unfold SI
            rw [ho]
            dsimp only
            congr 1
            rw [show ((i : Int)).toNat = i by omega, show i + 1 - i = 1 by omega, drop_one hr, sF, if_pos rfl]
          | some o =>
            have h1 := hb.some o ho
            have e : stripStep addr st ((i : Int), ⟨#[34]⟩) = ⟨i + 1, none, if st.start ≠ o then st.res ++ [Txt.slice addr (some st.start) (some o)] else st.res⟩ := by
              unfold stripStep; rw [if_pos hq, ho]
            rw [e, ih (i + 1) false ⟨i + 1, none, if st.start ≠ o then st.res ++ [Txt.slice addr (some st.start) (some o)] else st.res⟩ hr' (by omega) ⟨by dsimp only; omega, fun _ => by dsimp only; omega, fun o h => by cases h⟩ (fun h => nomatch h)]
            unfold SI
            rw [ho]
            dsimp only
            rw [show ((i : Int) + 1).toNat = i + 1 by omega, show i + 1 - (i + 1) = 0 by omega, List.take_zero, List.nil_append, sF, if_pos rfl, ← List.append_assoc]
            congr 1
            by_cases hs : st.start = o
            · rw [if_neg (by simpa using hs), hs, Nat.sub_self, List.take_zero, List.append_nil]
            · rw [if_pos (by simpa using hs), List.map_append, List.flatten_append]
              congr 1
              obtain ⟨a, ha⟩ := Int.eq_ofNat_of_zero_le hlo
              obtain ⟨b, hb2⟩ := Int.eq_ofNat_of_zero_le (show 0 ≤ o by omega)
              rw [ha, hb2] at h1 ⊢
              simp only [List.map_cons, List.map_nil, List.flatten_cons, List.flatten_nil, List.append_nil]
              exact cl_slice (by omega) (by omega)
        · have e : stripStep addr st ((i : Int), ⟨#[c]⟩) = st := by
            unfold stripStep
            rw [if_neg (by rw [one_eq c 34 _ qt_is]; exact h34)]
          rw [e, ih (i + 1) false st hr' (by omega) hb' (fun h => nomatch h)]
          exact plain false (.inr ⟨rfl, h34, by simp [h92]⟩)

theorem cl_strip (addr : Str) : cl (stripF addr) = sF none false (cl addr) := by
  unfold stripF
  split
  · rename_i h
    have := StrLaws.found_one addr 34
    rw [← qt_is, h] at this
    have hn : 34 ∉ cl addr := by
      intro hm
      rw [decide_eq_true hm] at this
      cases this
    exact (sF_noq _ _ hn).symm
  · rw [cl_join0]
    have := strip_step addr (cl addr) 0 false ⟨0, none, []⟩ rfl (Nat.zero_le _) ⟨Int.le_refl _, fun _ => Int.le_refl _, fun o h => by cases h⟩ (fun h => nomatch h)
    refine this.trans ?_
    unfold SI
    simp
theorem check_from : ∀ (r : List Nat) (i : Nat) (esc : Bool) (d : Int), (match (itemsFrom r i esc).foldl checkStep (some d) with | none => false | some o => o == 0) = kF esc d r := by
  intro r
  induction r with
  | nil =>
    intro i esc d
    cases esc with
    | false => rfl
    | true =>
      have e : (itemsFrom [] i true).foldl checkStep (some d) = some d := by
        show checkStep (some d) ((i : Int) - 1, ⟨#[92]⟩) = some d
        simp only [checkStep]
        rw [if_neg (by rw [one_eq 92 40 _ op_is]; decide), if_neg (by rw [one_eq 92 41 _ cl_is]; decide)]
      rw [e]; rfl
  | cons c r ih =>
    intro i esc d
    cases esc with
    | true =>
      rw [itemsFrom, if_pos rfl, List.foldl_cons]
      have e : checkStep (some d) ((i : Int), ⟨#[92, c]⟩) = some d := by
        simp only [checkStep]
        rw [if_neg (by rw [two_ne 92 c 40 _ op_is]; decide), if_neg (by rw [two_ne 92 c 41 _ cl_is]; decide)]
      rw [e, ih, kF]
    | false =>
      rw [itemsFrom, if_neg Bool.false_ne_true, kF]
      by_cases h92 : c = 92
      · subst h92
        rw [if_pos rfl, ih, if_neg (by decide), if_neg (by decide)]; rfl
      · rw [if_neg h92, List.foldl_cons]
        by_cases h40 : c = 40
        · subst h40
          have e : checkStep (some d) ((i : Int), ⟨#[40]⟩) = some (d + 1) := by
            simp only [checkStep]
            rw [if_pos ((one_eq 40 40 _ op_is).mpr rfl)]
          rw [e, ih, if_pos rfl]
        · rw [if_neg h40]
          by_cases h41 : c = 41
          · subst h41
            have e : checkStep (some d) ((i : Int), ⟨#[41]⟩) = if d - 1 < 0 then none else some (d - 1) := by
              simp only [checkStep]
              rw [if_neg (by rw [one_eq 41 40 _ op_is]; decide), if_pos ((one_eq 41 41 _ cl_is).mpr rfl)]
            rw [e, if_pos rfl]
            by_cases hn : d - 1 < 0
            · rw [if_pos hn, if_pos hn, check_none]
            · rw [if_neg hn, if_neg hn, ih]
          · have e : checkStep (some d) ((i : Int), ⟨#[c]⟩) = some d := by
              simp only [checkStep]
              rw [if_neg (by rw [one_eq c 40 _ op_is]; exact h40), if_neg (by rw [one_eq c 41 _ cl_is]; exact h41)]
            rw [e, ih, if_neg h41]
            congr 1
            simp [h92]
theorem check_is (addr : Str) : checkF addr = kF false 0 (sF none false (cl addr)) := by
  rw [← cl_strip]
  exact check_from (cl (stripF addr)) 0 false 0

end
section
open PySem PySem.W PyProof.Rows

inductive Tk
  | ch (c : Nat)
  | qt
  | op
  | cp
  | es (c : Nat)
  deriving DecidableEq
noncomputable def Tk.r : Tk → List Nat
  | ch c => [c]
  | qt => [34]
  | op => [40]
  | cp => [41]
  | es c => [92, c]
noncomputable def Tk.Ok : Tk → Prop
  | ch c => c ≠ 34 ∧ c ≠ 40 ∧ c ≠ 41 ∧ c ≠ 92
  | _ => True
noncomputable def rr (ts : List Tk) : List Nat := ts.flatMap Tk.r
noncomputable def AllOk (ts : List Tk) : Prop := ∀ t ∈ ts, t.Ok
theorem rr_app (a b : List Tk) : rr (a ++ b) = rr a ++ rr b := List.flatMap_append
theorem rr_cons (t : Tk) (b : List Tk) : rr (t :: b) = t.r ++ rr b := rfl
theorem AllOk.app {a b : List Tk} (x : AllOk a) (y : AllOk b) : AllOk (a ++ b) := fun t h => (List.mem_append.mp h).elim (x t) (y t)
theorem AllOk.left {a b : List Tk} (x : AllOk (a ++ b)) : AllOk a := fun t h => x t (List.mem_append_left _ h)
theorem AllOk.right {a b : List Tk} (x : AllOk (a ++ b)) : AllOk b := fun t h => x t (List.mem_append_right _ h)
theorem AllOk.tail {t : Tk} {b : List Tk} (x : AllOk (t :: b)) : AllOk b := fun u h => x u (.tail _ h)

theorem rr_inj : ∀ {a b : List Tk}, AllOk a → AllOk b → rr a = rr b → a = b
  | [], [], _, _, _ => rfl
  | [], t :: b, _, _, h => by cases t <;> exact nomatch h
  | t :: a, [], _, _, h => by cases t <;> exact nomatch h
  | t :: a, u :: b, ha, hb, h => by
    have h1 := ha t (.head _)
    have h2 := hb u (.head _)
    rw [rr_cons, rr_cons] at h
    have key : t = u ∧ rr a = rr b := by
      cases t <;> cases u <;> simp only [Tk.r, Tk.Ok, List.cons_append, List.nil_append, List.cons.injEq, ne_eq] at h h1 h2 <;>
        (first | (exfalso; omega) | exact ⟨by rw [h.1], h.2⟩ | exact ⟨by rw [h.2.1], h.2.2⟩ | exact ⟨rfl, h.2⟩)
    rw [key.1, rr_inj ha.tail hb.tail key.2]

noncomputable def tF : Option (List Tk) → List Tk → List Tk
  | none, [] => []
  | some b, [] => b
  | none, t :: r => if t = .qt then tF (some [.qt]) r else t :: tF none r
  | some b, t :: r => if t = .qt then tF none r else tF (some (b ++ [t])) r
theorem sF_tk : ∀ (ts : List Tk) (o : Option (List Tk)), AllOk ts → sF (o.map rr) false (rr ts) = rr (tF o ts) := by
  intro ts
  induction ts with
  | nil => intro o _; cases o <;> rfl
  | cons t r ih =>
    intro o h
    have h1 := h t (.head _)
    have hn := ih none h.tail
    have hs := fun b => ih (some b) h.tail
    simp only [Option.map_none, Option.map_some] at hn hs
    cases o with
    | none =>
      cases t with
      | ch c =>
        show sF none false (c :: rr r) = _
        rw [sF, if_neg h1.1, tF, if_neg (by intro q; cases q), rr_cons, ← hn]
        have : (c == 92) = false := by simpa using h1.2.2.2
        rw [this]; rfl
      | qt =>
        show sF none false (34 :: rr r) = _
        rw [sF, if_pos rfl, tF, if_pos rfl, ← hs]; rfl
      | op =>
        show sF none false (40 :: rr r) = _
        rw [sF, if_neg (by decide), tF, if_neg (by intro q; cases q), rr_cons, ← hn]; rfl
      | cp =>
        show sF none false (41 :: rr r) = _
        rw [sF, if_neg (by decide), tF, if_neg (by intro q; cases q), rr_cons, ← hn]; rfl
      | es c =>
        show sF none false (92 :: c :: rr r) = _
        rw [sF, if_neg (by decide), tF, if_neg (by intro q; cases q), rr_cons, ← hn]
        show 92 :: sF none true (c :: rr r) = _
        rw [sF]; rfl
    | some b =>
      simp only [Option.map_some]
      have hx : ∀ t : Tk, rr (b ++ [t]) = rr b ++ t.r := fun t => by rw [rr_app]; simp [rr]
      cases t with
      | ch c =>
        show sF (some (rr b)) false (c :: rr r) = _
        rw [sF, if_neg h1.1, tF, if_neg (by intro q; cases q), ← hs, hx]
        have : (c == 92) = false := by simpa using h1.2.2.2
        rw [this]; rfl
      | qt =>
        show sF (some (rr b)) false (34 :: rr r) = _
        rw [sF, if_pos rfl, tF, if_pos rfl, ← hn]
      | op =>
        show sF (some (rr b)) false (40 :: rr r) = _
        rw [sF, if_neg (by decide), tF, if_neg (by intro q; cases q), ← hs, hx]; rfl
      | cp =>
        show sF (some (rr b)) false (41 :: rr r) = _
        rw [sF, if_neg (by decide), tF, if_neg (by intro q; cases q), ← hs, hx]; rfl
      | es c =>
        show sF (some (rr b)) false (92 :: c :: rr r) = _
        rw [sF, if_neg (by decide), tF, if_neg (by intro q; cases q), ← hs, hx]
        show sF (some (rr b ++ [92])) true (c :: rr r) = _
        rw [sF, List.append_assoc]; rfl

noncomputable def kT : Int → List Tk → Bool
  | d, [] => d == 0
  | d, t :: r => if t = .op then kT (d + 1) r else if t = .cp then (if d - 1 < 0 then false else kT (d - 1) r) else kT d r
theorem kF_tk : ∀ (ts : List Tk) (d : Int), AllOk ts → kF false d (rr ts) = kT d ts := by
  intro ts
  induction ts with
  | nil => intro d _; rfl
  | cons t r ih =>
    intro d h
    have h1 := h t (.head _)
    have hn := fun d => ih d h.tail
    cases t with
    | ch c =>
      show kF false d (c :: rr r) = _
      rw [kF, if_neg h1.2.1, if_neg h1.2.2.1, kT, if_neg (by intro q; cases q), if_neg (by intro q; cases q), ← hn]
      have : (c == 92) = false := by simpa using h1.2.2.2
      rw [this]
    | qt =>
      show kF false d (34 :: rr r) = _
      rw [kF, if_neg (by decide), if_neg (by decide), kT, if_neg (by intro q; cases q), if_neg (by intro q; cases q), ← hn]; rfl
    | op =>
      show kF false d (40 :: rr r) = _
      rw [kF, if_pos rfl, kT, if_pos rfl, ← hn]
    | cp =>
      show kF false d (41 :: rr r) = _
      rw [kF, if_neg (by decide), if_pos rfl, hn, kT]; simp
    | es c =>
      show kF false d (92 :: c :: rr r) = _
      rw [kF, if_neg (by decide), if_neg (by decide), kT, if_neg (by intro q; cases q), if_neg (by intro q; cases q), ← hn]
      show kF true d (c :: rr r) = _
      rw [kF]

noncomputable def nx (st : Bool × Int) (t : Tk) : Bool × Int :=
  if t = .qt then (!st.1, st.2) else if st.1 = true then st else if t = .op then (st.1, st.2 + 1) else if t = .cp then (st.1, st.2 - 1) else st
noncomputable def run (st : Bool × Int) (ts : List Tk) : Bool × Int := ts.foldl nx st
noncomputable def Good : Bool × Int → List Tk → Prop
  | _, [] => True
  | st, t :: r => (t = .cp → st.1 = false → 1 ≤ st.2) ∧ Good (nx st t) r
noncomputable def outT : Bool → List Tk → List Tk
  | _, [] => []
  | q, t :: r => if t = .qt then outT (!q) r else if q = true then outT q r else t :: outT q r
theorem run_app (st : Bool × Int) (a b : List Tk) : run st (a ++ b) = run (run st a) b := List.foldl_append
theorem good_app : ∀ (a : List Tk) (st : Bool × Int) (b : List Tk), Good st (a ++ b) ↔ Good st a ∧ Good (run st a) b
  | [], _, _ => by simp [Good, run]
  | t :: a, st, b => by
    show (_ ∧ Good _ (a ++ b)) ↔ (_ ∧ Good _ a) ∧ Good (run (nx st t) a) b
    rw [good_app a, and_assoc]
theorem run_q : ∀ (a : List Tk) (q : Bool) (d e : Int), (run (q, d) a).1 = (run (q, e) a).1
  | [], _, _, _ => rfl
  | t :: a, q, d, e => by
    show (run (nx (q, d) t) a).1 = (run (nx (q, e) t) a).1
    have : ∃ q' d' e', nx (q, d) t = (q', d') ∧ nx (q, e) t = (q', e') := by
      unfold nx
      dsimp only
      split
      · exact ⟨_, _, _, rfl, rfl⟩
      · split
        · exact ⟨_, _, _, rfl, rfl⟩
        · split
          · exact ⟨_, _, _, rfl, rfl⟩
          · split <;> exact ⟨_, _, _, rfl, rfl⟩
    obtain ⟨q', d', e', h1, h2⟩ := this
    rw [h1, h2]; exact run_q a q' d' e'
theorem outT_app : ∀ (a : List Tk) (q : Bool) (d : Int) (b : List Tk), outT q (a ++ b) = outT q a ++ outT (run (q, d) a).1 b
  | [], _, _, _ => rfl
  | t :: a, q, d, b => by
    show outT q (t :: (a ++ b)) = outT q (t :: a) ++ outT (run (nx (q, d) t) a).1 b
    rw [outT, outT]
    unfold nx
    dsimp only
    by_cases h1 : t = .qt
    · rw [if_pos h1, if_pos h1, if_pos h1]; exact outT_app a _ d b
    · rw [if_neg h1, if_neg h1, if_neg h1]
      by_cases h2 : q = true
      · rw [if_pos h2, if_pos h2, if_pos h2]; exact outT_app a _ d b
      · rw [if_neg h2, if_neg h2, if_neg h2, List.cons_append]
        congr 1
        split
        · exact outT_app a _ _ b
        · split <;> exact outT_app a _ _ b
theorem outT_noq : ∀ (a : List Tk) (q : Bool), Tk.qt ∉ outT q a
  | [], _ => by simp [outT]
  | t :: a, q => by
    rw [outT]
    split
    · exact outT_noq a _
    · split
      · exact outT_noq a _
      · rename_i h1 _
        intro h
        rcases List.mem_cons.mp h with h | h
        · exact h1 h.symm
        · exact outT_noq a _ h
theorem outT_ok {a : List Tk} (h : AllOk a) : ∀ q, AllOk (outT q a) := by
  induction a with
  | nil => intro q t ht; cases ht
  | cons t r ih =>
    intro q
    rw [outT]
    split
    · exact ih h.tail _
    · split
      · exact ih h.tail _
      · intro u hu
        rcases List.mem_cons.mp hu with rfl | hu
        · exact h _ (.head _)
        · exact ih h.tail _ _ hu
theorem tF_out : ∀ (a : List Tk) (d : Int), ((run (false, d) a).1 = false → tF none a = outT false a) ∧ (∀ b, (run (true, d) a).1 = false → tF (some b) a = outT true a) ∧
    ((run (false, d) a).1 = true → Tk.qt ∈ tF none a) ∧ (∀ b, Tk.qt ∈ b → (run (true, d) a).1 = true → Tk.qt ∈ tF (some b) a)
  | [], d => ⟨fun _ => rfl, fun _ h => absurd h (by simp [run]), fun h => absurd h (by simp [run]), fun b hb _ => hb⟩
  | t :: a, d => by
    refine ⟨fun h => ?_, fun b h => ?_, fun h => ?_, fun b hb h => ?_⟩
    · by_cases h1 : t = .qt
      · subst h1
        rw [tF, if_pos rfl, outT, if_pos rfl]
        exact (tF_out a d).2.1 _ h
      · have e : (run (false, d) (t :: a)).1 = (run (false, d) a).1 := by
          show (run (nx (false, d) t) a).1 = _
          have : ∃ d', nx (false, d) t = (false, d') := by
            unfold nx; rw [if_neg h1]; dsimp only
            rw [if_neg Bool.false_ne_true]
            split
            · exact ⟨_, rfl⟩
            · split <;> exact ⟨_, rfl⟩
          obtain ⟨d', e⟩ := this
          rw [e]; exact run_q a _ _ _
        rw [tF, if_neg h1, outT, if_neg h1, if_neg Bool.false_ne_true, (tF_out a d).1 (e ▸ h)]
    · by_cases h1 : t = .qt
      · subst h1
        rw [tF, if_pos rfl, outT, if_pos rfl]
        exact (tF_out a d).1 h
      · have e : nx (true, d) t = (true, d) := by unfold nx; rw [if_neg h1]; rfl
        rw [tF, if_neg h1, outT, if_neg h1, if_pos rfl]
        refine (tF_out a d).2.1 _ ?_
        have h' : (run (nx (true, d) t) a).1 = false := h
        rwa [e] at h'
    · by_cases h1 : t = .qt
      · subst h1
        rw [tF, if_pos rfl]
        exact (tF_out a d).2.2.2 _ (.head _) h
      · have e : (run (false, d) (t :: a)).1 = (run (false, d) a).1 := by
          show (run (nx (false, d) t) a).1 = _
          have : ∃ d', nx (false, d) t = (false, d') := by
            unfold nx; rw [if_neg h1]; dsimp only
            rw [if_neg Bool.false_ne_true]
            split
            · exact ⟨_, rfl⟩
            · split <;> exact ⟨_, rfl⟩
          obtain ⟨d', e⟩ := this
          rw [e]; exact run_q a _ _ _
        rw [tF, if_neg h1]
        exact .tail _ ((tF_out a d).2.2.1 (e ▸ h))
    · by_cases h1 : t = .qt
      · subst h1
        rw [tF, if_pos rfl]
        exact (tF_out a d).2.2.1 h
      · have e : nx (true, d) t = (true, d) := by unfold nx; rw [if_neg h1]; rfl
        rw [tF, if_neg h1]
        refine (tF_out a d).2.2.2 _ (List.mem_append_left _ hb) ?_
        have h' : (run (nx (true, d) t) a).1 = true := h
        rwa [e] at h'
theorem kT_out : ∀ (a : List Tk) (q : Bool) (d : Int), Good (q, d) a → kT d (outT q a) = ((run (q, d) a).2 == 0)
  | [], q, d, _ => rfl
  | t :: a, q, d, h => by
    obtain ⟨h0, h⟩ := h
    show _ = ((run (nx (q, d) t) a).2 == 0)
    rw [outT]
    unfold nx at h ⊢
    dsimp only at h h0 ⊢
    by_cases h1 : t = .qt
    · rw [if_pos h1] at h ⊢; rw [if_pos h1]; exact kT_out a _ _ h
    · rw [if_neg h1] at h ⊢; rw [if_neg h1]
      by_cases h2 : q = true
      · rw [if_pos h2] at h ⊢; rw [if_pos h2]; exact kT_out a _ _ h
      · rw [if_neg h2] at h ⊢; rw [if_neg h2, kT]
        by_cases h3 : t = .op
        · rw [if_pos h3] at h ⊢; rw [if_pos h3]; exact kT_out a _ _ h
        · rw [if_neg h3] at h ⊢; rw [if_neg h3]
          by_cases h4 : t = .cp
          · rw [if_pos h4] at h ⊢
            have := h0 h4 (by simpa using h2)
            rw [if_pos h4, if_neg (by omega)]; exact kT_out a _ _ h
          · rw [if_neg h4] at h ⊢; rw [if_neg h4]; exact kT_out a _ _ h

end
section
open PySem PySem.W PyProof.Rows

noncomputable def unitT (f : Int) : List Tk :=
  if f = 0 then [.ch 97] else if f = 1 then [.qt] else if f = 2 then [.op] else if f = 3 then [.cp] else if f = 4 then [.es 34] else [.ch 98, .ch 99]
theorem cl_unit (f : Int) : cl (unitS f) = rr (unitT f) := by
  unfold unitS unitT
  repeat' split
  all_goals decide +kernel
theorem unitT_ok (f : Int) : AllOk (unitT f) := by
  unfold unitT
  intro t ht
  repeat' split at ht
  all_goals (simp only [List.mem_cons, List.not_mem_nil, or_false] at ht)
  all_goals (first | (subst ht; first | trivial | exact ⟨by decide, by decide, by decide, by decide⟩) | (rcases ht with rfl | rfl <;> exact ⟨by decide, by decide, by decide, by decide⟩))
noncomputable def figT (q : Bool) (d : Int) (f : Int) : List Tk := if f = 3 ∧ q = false ∧ ¬ 0 < d then [.es 41] else unitT f
theorem figT_ok (q : Bool) (d f : Int) : AllOk (figT q d f) := by
  unfold figT
  split
  · intro t ht; rw [List.mem_singleton.mp ht]; trivial
  · exact unitT_ok f
theorem cl_es41 : cl (Str.ofString "\\)") = [92, 41] := by decide +kernel
theorem fig_tk (st : WS) (f : Int) : cl (figStep st f).word = cl st.word ++ rr (figT st.inside st.depth f) ∧ ((figStep st f).inside, (figStep st f).depth) = run (st.inside, st.depth) (figT st.inside st.depth f) ∧
    cl (figStep st f).seen = cl st.seen ++ rr (outT st.inside (figT st.inside st.depth f)) ∧ Good (st.inside, st.depth) (figT st.inside st.depth f) := by
  obtain ⟨word, q, d, seen⟩ := st
  unfold figStep
  dsimp only
  by_cases h1 : f = 1
  · subst h1
    rw [if_pos rfl]
    dsimp only
    rw [cl_app, cl_unit]
    refine ⟨by unfold figT; rw [if_neg (by simp)], ?_, ?_, ?_⟩ <;> (unfold figT; rw [if_neg (by simp)]; simp [unitT, run, nx, outT, Good, rr])
  · rw [if_neg h1]
    have hu : ∀ t ∈ unitT f, t ≠ Tk.qt := by
      intro t ht e
      subst e
      unfold unitT at ht
      rw [if_neg h1] at ht
      repeat' split at ht
      all_goals simp at ht
    by_cases h2 : q = true
    · subst h2
      rw [if_pos rfl]
      dsimp only
      have hF : figT true d f = unitT f := by unfold figT; rw [if_neg (by simp)]
      rw [hF, cl_app, cl_unit]
      have key : ∀ l : List Tk, (∀ t ∈ l, t ≠ Tk.qt) → run (true, d) l = (true, d) ∧ outT true l = [] ∧ Good (true, d) l := by
        intro l
        induction l with
        | nil => intro _; exact ⟨rfl, rfl, trivial⟩
        | cons t r ih =>
          intro h
          have ht := h t (.head _)
          have e : nx (true, d) t = (true, d) := by unfold nx; rw [if_neg ht]; rfl
          obtain ⟨i1, i2, i3⟩ := ih fun u hu => h u (.tail _ hu)
          refine ⟨?_, ?_, ?_⟩
          · show run (nx (true, d) t) r = _; rw [e]; exact i1
          · rw [outT, if_neg ht, if_pos rfl]; exact i2
          · exact ⟨fun _ h => (nomatch h), by rw [e]; exact i3⟩
      obtain ⟨k1, k2, k3⟩ := key _ hu
      rw [k1, k2]
      exact ⟨rfl, rfl, by simp [rr], k3⟩
    · have h2' : q = false := by simpa using h2
      subst h2'
      rw [if_neg Bool.false_ne_true]
      by_cases h3 : f = 2
      · subst h3
        rw [if_pos rfl]
        dsimp only
        rw [cl_app, cl_app, cl_unit]
        unfold figT; rw [if_neg (by simp)]
        simp [unitT, run, nx, outT, Good, rr]
      · rw [if_neg h3]
        by_cases h4 : f = 3
        · subst h4
          rw [if_pos rfl]
          by_cases h5 : 0 < d
          · rw [if_pos h5]
            dsimp only
            rw [cl_app, cl_app, cl_unit]
            unfold figT; rw [if_neg (by simp [h5])]
            simp [unitT, run, nx, outT, Good, rr]
            omega
          · rw [if_neg h5]
            dsimp only
            rw [cl_app, cl_app, cl_es41]
            unfold figT; rw [if_pos (by simp [h5])]
            simp [run, nx, outT, Good, rr, Tk.r]
        · rw [if_neg h4]
          dsimp only
          rw [cl_app, cl_app, cl_unit]
          unfold figT; rw [if_neg (by simp [h4])]
          unfold unitT
          rw [if_neg h1, if_neg h3, if_neg h4]
          split
          · simp [run, nx, outT, Good, rr]
          · split <;> simp [run, nx, outT, Good, rr]

noncomputable def P (tw : List (List Tk)) : List Tk := tw.flatMap fun w => Tk.ch 32 :: w
theorem P_app (a b : List (List Tk)) : P (a ++ b) = P a ++ P b := List.flatMap_append
theorem P_one (w : List Tk) : P [w] = .ch 32 :: w := by simp [P]
noncomputable def flag (T : List Tk) : Bool := !(run (false, 0) T).1 && ((run (false, 0) T).2 == 0)

structure Inv (o : OS) (tw : List (List Tk)) : Prop where
  words : o.words.map cl = tw.map rr
  ok : AllOk (P tw)
  good : Good (false, 0) (P tw)
  st : run (false, 0) (P tw) = (o.inside, o.depth)
  seen : rr (outT false (P tw)) = (if tw = [] then [] else [32]) ++ cl o.seen
  out : o.outside = (List.range tw.length).map fun k => flag (P (tw.take (k + 1)))

theorem nx_sp (st : Bool × Int) : nx st (.ch 32) = st := by
  unfold nx
  simp
theorem outT_sp (q : Bool) (w : List Tk) : outT q (.ch 32 :: w) = (if q = true then [] else [.ch 32]) ++ outT q w := by
  rw [outT]; simp
  cases q <;> rfl
theorem ok_sp : (Tk.ch 32).Ok := ⟨by decide, by decide, by decide, by decide⟩
theorem good_pair (st : Bool × Int) (a b : List Tk) : Good st (a ++ b) ↔ Good st a ∧ Good (run st a) b := good_app a st b

theorem word_tk (o : OS) (n : Int) : ∃ w : List Tk, cl (wordUnits o n).word = rr w ∧ AllOk w ∧ ((wordUnits o n).inside, (wordUnits o n).depth) = run (o.inside, o.depth) w ∧
    cl (wordUnits o n).seen = cl (if o.words ≠ [] ∧ o.inside = false then o.seen ++ Str.ofString " " else o.seen) ++ rr (outT o.inside w) ∧ Good (o.inside, o.depth) w := by
  unfold wordUnits
  generalize hs0 : (if o.words ≠ [] ∧ o.inside = false then o.seen ++ Str.ofString " " else o.seen) = s0
  obtain ⟨a1, a2, a3, a4⟩ := fig_tk ⟨Str.ofString "", o.inside, o.depth, s0⟩ (Int.fmod n 6)
  generalize figStep ⟨Str.ofString "", o.inside, o.depth, s0⟩ (Int.fmod n 6) = st1 at *
  obtain ⟨b1, b2, b3, b4⟩ := fig_tk st1 (Int.fmod (Int.fdiv n 6) 6)
  dsimp only at a1 a2 a3 a4
  refine ⟨figT o.inside o.depth (Int.fmod n 6) ++ figT st1.inside st1.depth (Int.fmod (Int.fdiv n 6) 6), ?_, ?_, ?_, ?_, ?_⟩
  · rw [b1, a1, cl_empty, rr_app]; rfl
  · exact (figT_ok _ _ _).app (figT_ok _ _ _)
  · rw [run_app, ← a2, b2]
  · have e : (run (o.inside, o.depth) (figT o.inside o.depth (Int.fmod n 6))).1 = st1.inside := by rw [← a2]
    rw [b3, a3, outT_app _ _ o.depth, rr_app, e, List.append_assoc]
  · rw [good_pair, ← a2]; exact ⟨a4, b4⟩

theorem Inv.step {o : OS} {tw : List (List Tk)} (h : Inv o tw) (n : Int) : ∃ w, Inv (wordStep o n) (tw ++ [w]) := by
  obtain ⟨w, w1, w2, w3, w4, w5⟩ := word_tk o n
  have hP : P (tw ++ [w]) = P tw ++ (.ch 32 :: w) := by rw [P_app, P_one]
  have hst : run (false, 0) (P (tw ++ [w])) = ((wordUnits o n).inside, (wordUnits o n).depth) := by
    rw [hP, run_app, h.st]
    show run (nx (o.inside, o.depth) (.ch 32)) w = _
    rw [nx_sp, ← w3]
  refine ⟨w, ?_, ?_, ?_, hst, ?_, ?_⟩
  · show (o.words ++ [(wordUnits o n).word]).map cl = _
    rw [List.map_append, List.map_append, h.words]
    simp [w1]
  · rw [hP]
    exact h.ok.app fun t ht => by
      rcases List.mem_cons.mp ht with rfl | ht
      · exact ok_sp
      · exact w2 t ht
  · rw [hP, good_pair, h.st]
    exact ⟨h.good, ⟨fun e => (by cases e), by rw [nx_sp]; exact w5⟩⟩
  · rw [if_neg (by simp)]
    have e1 : (run (false, 0) (P tw)).1 = o.inside := by rw [h.st]
    rw [hP, outT_app _ _ 0, rr_app, h.seen, e1, outT_sp, rr_app]
    show _ = [32] ++ cl (wordUnits o n).seen
    rw [w4]
    have hw : o.words = [] ↔ tw = [] := by
      have := congrArg List.length h.words
      simp only [List.length_map] at this
      rw [← List.length_eq_zero_iff, ← List.length_eq_zero_iff, this]
    by_cases ht : tw = []
    · subst ht
      have e2 : o.inside = false := by rw [← e1]; rfl
      have e3 : cl o.seen = [] := by
        have := h.seen
        rw [if_pos rfl] at this
        simpa [P, outT, rr] using this.symm
      rw [if_pos rfl, e3, e2, if_neg Bool.false_ne_true, if_neg (by simp [hw]), e3]
      simp [rr, Tk.r]
    · rw [if_neg ht]
      cases hi : o.inside with
      | true =>
        rw [if_pos rfl, if_neg (by simp)]
        simp [rr]
      | false =>
        rw [if_neg Bool.false_ne_true, if_pos ⟨by simpa [hw] using ht, rfl⟩, cl_app, cl_sp]
        simp [rr, Tk.r]
  · show o.outside ++ [!(wordUnits o n).inside && ((wordUnits o n).depth == 0)] = _
    rw [List.length_append, List.length_singleton, List.range_succ, List.map_append, h.out]
    congr 1
    · apply List.map_congr_left
      intro k hk
      rw [List.mem_range] at hk
      rw [List.take_append_of_le_length (by omega)]
    · rw [List.map_singleton, List.take_of_length_le (by simp)]
      unfold flag
      rw [hst]
theorem inv_all (ns : List Int) : ∃ tw, tw.length = ns.length ∧ Inv (wordsAll ns) tw := by
  have key : ∀ (ns : List Int) (o : OS) (tw : List (List Tk)), Inv o tw → ∃ tw', tw'.length = tw.length + ns.length ∧ Inv (ns.foldl wordStep o) tw' := by
    intro ns
    induction ns with
    | nil => intro o tw h; exact ⟨tw, rfl, h⟩
    | cons n r ih =>
      intro o tw h
      obtain ⟨w, hw⟩ := h.step n
      obtain ⟨tw', h1, h2⟩ := ih _ _ hw
      refine ⟨tw', ?_, h2⟩
      rw [h1, List.length_append, List.length_singleton, List.length_cons]; omega
  obtain ⟨tw, h1, h2⟩ := key ns ⟨[], [], Str.ofString "", false, 0⟩ [] ⟨rfl, fun _ h => (nomatch h), trivial, rfl, by rw [if_pos rfl, cl_empty]; rfl, rfl⟩
  exact ⟨tw, by simpa using h1, h2⟩

structure Drawn (ws : List Str) (outs : List Bool) (seen : Str) (tw : List (List Tk)) : Prop where
  words : ws.map cl = tw.map rr
  ok : AllOk (P tw)
  good : Good (false, 0) (P tw)
  st : run (false, 0) (P tw) = (false, 0)
  seen : rr (outT false (P tw)) = 32 :: cl seen
  out : outs = (List.range (tw.length - 1)).map fun k => flag (P (tw.take (k + 1)))
theorem rep_cp : ∀ (k : Nat) (d : Int), (k : Int) ≤ d → run (false, d) (List.replicate k Tk.cp) = (false, d - k) ∧ outT false (List.replicate k Tk.cp) = List.replicate k .cp ∧ Good (false, d) (List.replicate k .cp)
  | 0, d, _ => by simp [run, outT, Good]
  | k + 1, d, h => by
    obtain ⟨i1, i2, i3⟩ := rep_cp k (d - 1) (by omega)
    have e : nx (false, d) .cp = (false, d - 1) := by simp [nx]
    rw [List.replicate_succ]
    refine ⟨?_, ?_, ?_⟩
    · show run (nx (false, d) .cp) _ = _
      rw [e, i1]; congr 1; omega
    · rw [outT, if_neg (by simp), if_neg Bool.false_ne_true, i2]
    · exact ⟨fun _ _ => by dsimp only; omega, by rw [e]; exact i3⟩
theorem rr_rep (k : Nat) : rr (List.replicate k Tk.cp) = List.replicate k 41 := by
  induction k with
  | zero => rfl
  | succ k ih => rw [List.replicate_succ, rr_cons, ih, List.replicate_succ]; rfl
theorem cl_mul (d : Int) : cl (Txt.mul (Str.ofString ")") d) = List.replicate d.toNat 41 := by rw [cl_is]; exact mul_one_list 41 d
theorem drawn (ns : List Int) (hn : 1 ≤ ns.length) : ∃ tw, tw.length = ns.length ∧ Drawn (wordsEnd (wordsAll ns)).1 (wordsEnd (wordsAll ns)).2.1 (wordsEnd (wordsAll ns)).2.2 tw := by
  obtain ⟨tw, hl, h⟩ := inv_all ns
  have hb := wordsAll_bound ns
  generalize wordsAll ns = o at *
  obtain ⟨tw0, w, rfl⟩ : ∃ tw0 w, tw = tw0 ++ [w] := by
    rcases List.eq_nil_or_concat tw with rfl | ⟨a, b, rfl⟩
    · simp at hl; omega
    · exact ⟨a, b, by simp⟩
  obtain ⟨ws0, lw, hws⟩ : ∃ ws0 lw, o.words = ws0 ++ [lw] := by
    rcases List.eq_nil_or_concat o.words with e | ⟨a, b, e⟩
    · have := h.words; rw [e] at this; simp at this
    · exact ⟨a, b, by simpa using e⟩
  have hw2 := h.words
  rw [hws, List.map_append, List.map_append] at hw2
  obtain ⟨q1, q2⟩ := List.append_inj' hw2 (by simp)
  simp only [List.map_cons, List.map_nil, List.cons.injEq, and_true] at q2
  obtain ⟨r1, r2, r3⟩ := rep_cp o.depth.toNat o.depth (by have := hb.lo; omega)
  -- the tokens at the end
  have he : ∃ e : List Tk, AllOk e ∧ rr e = cl (if o.inside then Str.ofString "\"" else Str.ofString "") ++ cl (Txt.mul (Str.ofString ")") o.depth) ∧ run (o.inside, o.depth) e = (false, 0) ∧ Good (o.inside, o.depth) e ∧ outT o.inside e = List.replicate o.depth.toNat .cp := by
    have okr : AllOk (List.replicate o.depth.toNat Tk.cp) := fun t ht => by rw [List.eq_of_mem_replicate ht]; trivial
    have hd : o.depth - (o.depth.toNat : Int) = 0 := by have := hb.lo; omega
    cases hi : o.inside with
    | false =>
      refine ⟨List.replicate o.depth.toNat .cp, okr, ?_, ?_, r3, r2⟩
      · rw [rr_rep, cl_mul, if_neg Bool.false_ne_true, cl_empty]; rfl
      · rw [r1, hd]
    | true =>
      have e : nx (true, o.depth) .qt = (false, o.depth) := by simp [nx]
      refine ⟨.qt :: List.replicate o.depth.toNat .cp, ?_, ?_, ?_, ?_, ?_⟩
      · intro t ht
        rcases List.mem_cons.mp ht with rfl | ht
        · trivial
        · exact okr t ht
      · rw [rr_cons, rr_rep, cl_mul, if_pos rfl, qt_is]; rfl
      · show run (nx (true, o.depth) .qt) _ = _
        rw [e, r1, hd]
      · exact ⟨fun h => (by cases h), by rw [e]; exact r3⟩
      · rw [outT, if_pos rfl]; exact r2
  obtain ⟨e, e1, e2, e3, e4, e5⟩ := he
  have hP : P (tw0 ++ [w ++ e]) = P (tw0 ++ [w]) ++ e := by
    rw [P_app, P_app, P_one, P_one, List.append_assoc, List.cons_append]
  refine ⟨tw0 ++ [w ++ e], by simpa using hl, ?_, ?_, ?_, ?_, ?_, ?_⟩
  · unfold wordsEnd
    dsimp only
    rw [hws]
    simp only [List.dropLast_concat, List.map_append, List.map_cons, List.map_nil, q1, List.getLastD_concat]
    rw [cl_app, cl_app, rr_app, e2, q2, List.append_assoc]
  · rw [hP]; exact h.ok.app e1
  · rw [hP, good_pair, h.st]; exact ⟨h.good, e4⟩
  · rw [hP, run_app, h.st, e3]
  · rw [hP, outT_app _ _ 0, rr_app, h.seen, h.st, if_neg (by simp), e5, rr_rep]
    unfold wordsEnd
    dsimp only
    rw [cl_app, cl_mul]; rfl
  · unfold wordsEnd
    dsimp only
    rw [h.out]
    simp only [List.length_append, List.length_singleton, Nat.add_sub_cancel, List.range_succ, List.map_append, List.map_singleton, List.dropLast_concat]
    apply List.map_congr_left
    intro k hk
    rw [List.mem_range] at hk
    rw [List.take_append_of_le_length (by omega), List.take_append_of_le_length (by omega)]

theorem fig_signs {st : WS} (h : TOk st.word) (f : Int) : TOk (figStep st f).word ∧ HasW (figStep st f).word := by
  have hu : TOk (unitS f) ∧ HasW (unitS f) := by
    unfold unitS
    have q : ∀ x ∈ [Str.ofString "a", Str.ofString "\"", Str.ofString "(", Str.ofString ")", Str.ofString "\\\"", Str.ofString "bc"], (∀ c ∈ cl x, c ∈ signs8) ∧ ∃ c ∈ cl x, c ∈ signs8.tail := by decide +kernel
    repeat' split
    all_goals exact q _ (by simp)
  have hv : TOk (Str.ofString "\\)") ∧ HasW (Str.ofString "\\)") := by
    have q : ∀ x ∈ [Str.ofString "\\)"], (∀ c ∈ cl x, c ∈ signs8) ∧ ∃ c ∈ cl x, c ∈ signs8.tail := by decide +kernel
    exact q _ (by simp)
  have ap : ∀ {x y : Str}, HasW y → HasW (x ++ y) := by
    rintro x y ⟨c, h1, h2⟩
    exact ⟨c, by rw [cl_app]; exact List.mem_append_right _ h1, h2⟩
  unfold figStep
  repeat' split
  all_goals first | exact ⟨h.app hu.1, ap hu.2⟩ | exact ⟨h.app hv.1, ap hv.2⟩
theorem words_signs (ns : List Int) : ∀ x ∈ (wordsAll ns).words, TOk x ∧ HasW x := by
  have key : ∀ (ns : List Int) (o : OS), (∀ x ∈ o.words, TOk x ∧ HasW x) → ∀ x ∈ (ns.foldl wordStep o).words, TOk x ∧ HasW x := by
    intro ns
    induction ns with
    | nil => intro o h; exact h
    | cons n r ih =>
      intro o h
      refine ih _ ?_
      intro x hx
      rcases List.mem_append.mp hx with hx | hx
      · exact h x hx
      · rw [List.mem_singleton.mp hx]
        exact fig_signs (fig_signs TOk.empty _).1 _
  exact key ns _ fun _ h => nomatch h
theorem ends_signs (ns : List Int) (hn : 1 ≤ ns.length) (hn5 : ns.length ≤ 5) : ∀ x ∈ (wordsEnd (wordsAll ns)).1, TOk x ∧ HasW x ∧ x.length ≤ 15 := by
  have hb := wordsAll_bound ns
  have hs := words_signs ns
  generalize wordsAll ns = o at *
  intro x hx
  rcases List.mem_append.mp hx with hx | hx
  · have hx' := List.dropLast_subset _ hx
    exact ⟨(hs x hx').1, (hs x hx').2, by have := (hb.each x hx').1; omega⟩
  · rw [List.mem_singleton.mp hx]
    obtain ⟨ws0, lw, hws⟩ : ∃ ws0 lw, o.words = ws0 ++ [lw] := by
      rcases List.eq_nil_or_concat o.words with e | ⟨a, b, e⟩
      · have := hb.words; rw [e] at this; simp at this; omega
      · exact ⟨a, b, by simpa using e⟩
    have hm : lw ∈ o.words := by rw [hws]; simp
    have hd := hb.hi
    have hm1 := len_mul_one (y := Str.ofString ")") (c := 41) (n := o.depth) (N := 10) cl_is (by omega)
    have hmt : TOk (Txt.mul (Str.ofString ")") o.depth) := by
      intro c hc
      rw [cl_mul] at hc
      rw [List.eq_of_mem_replicate hc]; decide
    rw [hws]
    simp only [List.getLastD_concat]
    obtain ⟨t1, ⟨c, c1, c2⟩⟩ := hs lw hm
    have hq : TOk (if o.inside then Str.ofString "\"" else Str.ofString "") ∧ (if o.inside then Str.ofString "\"" else Str.ofString "").length ≤ 1 := by
      cases o.inside
      · exact ⟨TOk.empty, by decide +kernel⟩
      · have q : ∀ x ∈ [Str.ofString "\""], (∀ c ∈ cl x, c ∈ signs8) ∧ x.length ≤ 1 := by decide +kernel
        exact q _ (by simp)
    refine ⟨(t1.app hq.1).app hmt, ⟨c, by rw [cl_app, cl_app]; exact List.mem_append_left _ (List.mem_append_left _ c1), c2⟩, ?_⟩
    rw [Str.length_append, Str.length_append]
    have := (hb.each lw hm).1
    have := hq.2
    omega

end
section
open PySem PySem.W PyProof.Rows

noncomputable def SG (tw : List (List Tk)) (a b : Nat) : List Tk := P ((tw.drop a).take (b - a))
noncomputable def seg (tw : List (List Tk)) (a b : Nat) : List Tk := if 0 < a then SG tw a b else (SG tw a b).tail
noncomputable def stA (tw : List (List Tk)) (k : Nat) : Bool × Int := run (false, 0) (SG tw 0 k)
theorem SG_add {tw : List (List Tk)} {a b c : Nat} (h1 : a ≤ b) (h2 : b ≤ c) : SG tw a c = SG tw a b ++ SG tw b c := by
  unfold SG
  rw [← P_app]
  congr 1
  have e : (tw.drop a).take (c - a) = (tw.drop a).take (b - a + (c - b)) := by congr 1; exact sub_split h1 h2
  rw [e, List.take_add, List.drop_drop]
  congr 3
  omega
theorem SG_cons {tw : List (List Tk)} {a b : Nat} (h1 : a < b) (h2 : b ≤ tw.length) : ∃ r, SG tw a b = .ch 32 :: r := by
  unfold SG
  rw [List.drop_eq_getElem_cons (Nat.lt_of_lt_of_le h1 h2), sub_pred h1, List.take_succ_cons]
  exact ⟨_, rfl⟩
theorem seg_run {tw : List (List Tk)} {a b : Nat} (h1 : a < b) (h2 : b ≤ tw.length) (st : Bool × Int) : run st (seg tw a b) = run st (SG tw a b) := by
  unfold seg
  split
  · rfl
  · obtain ⟨r, hr⟩ := SG_cons h1 h2
    rw [hr]
    show run st r = run (nx st _) r
    rw [nx_sp]
theorem seg_good {tw : List (List Tk)} {a b : Nat} (h1 : a < b) (h2 : b ≤ tw.length) (st : Bool × Int) (h : Good st (SG tw a b)) : Good st (seg tw a b) := by
  unfold seg
  split
  · exact h
  · obtain ⟨r, hr⟩ := SG_cons h1 h2
    rw [hr] at h ⊢
    have := h.2
    rwa [nx_sp] at this
theorem seg_add {tw : List (List Tk)} {a b c : Nat} (h1 : a < b) (h2 : b < c) (h3 : c ≤ tw.length) : seg tw a c = seg tw a b ++ seg tw b c := by
  unfold seg
  rw [if_pos (show 0 < b by omega)]
  split
  · exact SG_add (by omega) (by omega)
  · obtain ⟨r, hr⟩ := SG_cons h1 (show b ≤ tw.length by omega)
    rw [SG_add (Nat.le_of_lt h1) (Nat.le_of_lt h2), hr]; rfl
theorem ok_sub {tw : List (List Tk)} (h : AllOk (P tw)) (a b : Nat) : AllOk (SG tw a b) := by
  intro t ht
  unfold SG P at ht
  obtain ⟨w, hw, hm⟩ := List.mem_flatMap.mp ht
  exact h t (List.mem_flatMap.mpr ⟨w, List.mem_of_mem_drop (List.mem_of_mem_take hw), hm⟩)
theorem ok_seg {tw : List (List Tk)} (h : AllOk (P tw)) (a b : Nat) : AllOk (seg tw a b) := by
  unfold seg
  split
  · exact ok_sub h a b
  · intro t ht; exact ok_sub h a b t (List.mem_of_mem_tail ht)
theorem tF_ok : ∀ (ts : List Tk) (o : Option (List Tk)), AllOk ts → (∀ b, o = some b → AllOk b) → AllOk (tF o ts)
  | [], none, _, _ => fun _ h => nomatch h
  | [], some b, _, hb => hb b rfl
  | t :: r, none, h, _ => by
    rw [tF]
    split
    · exact tF_ok r _ h.tail fun b e => by injection e with e; subst e; intro t ht; rw [List.mem_singleton.mp ht]; trivial
    · intro u hu
      rcases List.mem_cons.mp hu with rfl | hu
      · exact h _ (.head _)
      · exact tF_ok r none h.tail (fun _ e => nomatch e) u hu
  | t :: r, some b, h, hb => by
    rw [tF]
    split
    · exact tF_ok r _ h.tail fun _ e => nomatch e
    · refine tF_ok r _ h.tail fun b' e => ?_
      injection e with e; subst e
      exact (hb b rfl).app fun u hu => by rw [List.mem_singleton.mp hu]; exact h t (.head _)

section
variable {tw : List (List Tk)} {n : Nat}
structure Dr (tw : List (List Tk)) (n : Nat) : Prop where
  len : tw.length = n
  ok : AllOk (P tw)
  good : Good (false, 0) (P tw)
  st : run (false, 0) (P tw) = (false, 0)
theorem SG_all (h : tw.length = n) : SG tw 0 n = P tw := by
  unfold SG
  rw [List.drop_zero, Nat.sub_zero, ← h, List.take_length]
theorem stA_add {a b : Nat} (h1 : a ≤ b) : run (stA tw a) (SG tw a b) = stA tw b := by
  unfold stA
  rw [← run_app, ← SG_add (Nat.zero_le _) h1]
theorem stA_q {a b : Nat} (h1 : a < b) (h2 : b ≤ tw.length) (hq : (stA tw a).1 = false) (d : Int) : (run (false, d) (seg tw a b)).1 = (stA tw b).1 := by
  rw [seg_run h1 h2, ← stA_add (Nat.le_of_lt h1)]
  generalize stA tw a = s at *
  obtain ⟨q, e⟩ := s
  dsimp only at hq; subst hq
  exact run_q _ _ _ _
theorem Dr.goodAt (D : Dr tw n) {a b : Nat} (h1 : a ≤ b) (h2 : b ≤ n) : Good (stA tw a) (SG tw a b) := by
  have h := D.good
  rw [← SG_all D.len, SG_add (Nat.zero_le a) (Nat.le_trans h1 h2), good_app] at h
  have h := h.2
  rw [SG_add h1 h2, good_app] at h
  exact h.1
theorem Dr.last (D : Dr tw n) : stA tw n = (false, 0) := by unfold stA; rw [SG_all D.len]; exact D.st
theorem stA_zero : stA tw 0 = (false, 0) := by unfold stA SG; simp [P, run]
theorem flag_stA {k : Nat} : flag (P (tw.take k)) = (!(stA tw k).1 && ((stA tw k).2 == 0)) := by
  unfold flag stA SG
  rw [List.drop_zero, Nat.sub_zero]
theorem flag_iff {k : Nat} : flag (P (tw.take k)) = true ↔ stA tw k = (false, 0) := by
  rw [flag_stA, Bool.and_eq_true, Bool.not_eq_true', beq_iff_eq]
  constructor
  · rintro ⟨a, b⟩; exact Prod.ext a b
  · intro h; rw [h]; exact ⟨rfl, rfl⟩

noncomputable def rdT (tw : List (List Tk)) (a b : Nat) : List Tk := tF none (seg tw a b)
noncomputable def cdT (tw : List (List Tk)) (a b : Nat) : Bool := kT 0 (rdT tw a b)
theorem rdT_ok (D : Dr tw n) (a b : Nat) : AllOk (rdT tw a b) := tF_ok _ _ (ok_seg D.ok a b) fun _ e => nomatch e
theorem rdT_out {a b : Nat} (h1 : a < b) (h2 : b ≤ tw.length) (ha : (stA tw a).1 = false) (hb : (stA tw b).1 = false) : rdT tw a b = outT false (seg tw a b) :=
  (tF_out _ 0).1 (by rw [stA_q h1 h2 ha]; exact hb)
theorem rdT_qt {a b : Nat} (h1 : a < b) (h2 : b ≤ tw.length) (ha : (stA tw a).1 = false) (hb : (stA tw b).1 = true) : Tk.qt ∈ rdT tw a b :=
  (tF_out _ 0).2.2.1 (by rw [stA_q h1 h2 ha]; exact hb)
theorem cdT_out (D : Dr tw n) {a b : Nat} (h1 : a < b) (h2 : b ≤ n) (ha : stA tw a = (false, 0)) (hb : (stA tw b).1 = false) : cdT tw a b = ((stA tw b).2 == 0) := by
  have h2' : b ≤ tw.length := by rw [D.len]; exact h2
  have hg := D.goodAt (Nat.le_of_lt h1) h2
  rw [ha] at hg
  unfold cdT
  rw [rdT_out h1 h2' (by rw [ha]) hb, kT_out _ _ _ (seg_good h1 h2' _ hg), seg_run h1 h2', ← ha, stA_add (Nat.le_of_lt h1)]
theorem outT_seg {a b c : Nat} (h1 : a < b) (h2 : b < c) (h3 : c ≤ tw.length) (ha : (stA tw a).1 = false) (hb : (stA tw b).1 = false) : outT false (seg tw a c) = outT false (seg tw a b) ++ outT false (seg tw b c) := by
  rw [seg_add h1 h2 h3, outT_app _ _ 0, stA_q h1 (by omega) ha, hb]

theorem whole_read (D : Dr tw n) (hn : 1 ≤ n) : rdT tw 0 n = outT false (seg tw 0 n) ∧ cdT tw 0 n = true := by
  have h2 : n ≤ tw.length := Nat.le_of_eq D.len.symm
  have h0 : (stA tw 0) = (false, 0) := stA_zero
  refine ⟨rdT_out (by omega) h2 (by rw [h0]) (by rw [D.last]), ?_⟩
  rw [cdT_out D (by omega) (Nat.le_refl _) h0 (by rw [D.last]), D.last]; rfl
theorem safe_at (D : Dr tw n) {k : Nat} (h1 : 0 < k) (h2 : k < n) : (decide (rdT tw 0 k ++ rdT tw k n = outT false (seg tw 0 n)) && cdT tw 0 k) = flag (P (tw.take k)) := by
  have l1 : k ≤ tw.length := by rw [D.len]; omega
  have l2 : n ≤ tw.length := Nat.le_of_eq D.len.symm
  have h0 : (stA tw 0) = (false, 0) := stA_zero
  rw [flag_stA]
  cases hk : (stA tw k).1 with
  | false =>
    rw [cdT_out D h1 (Nat.le_of_lt h2) h0 hk, rdT_out h1 l1 (by rw [h0]) hk, rdT_out h2 l2 hk (by rw [D.last]), decide_eq_true (outT_seg h1 h2 l2 (by rw [h0]) hk).symm]
    rfl
  | true =>
    have hq := rdT_qt h1 l1 (by rw [h0]) hk
    rw [decide_eq_false]
    · rfl
    · intro e
      refine outT_noq (seg tw 0 n) false ?_
      rw [← e]; exact List.mem_append_left _ hq

noncomputable def chainB : Nat → List Nat → Nat → Bool
  | a, [], n => a == n
  | a, s :: r, n => decide (a < s) && chainB s r n
theorem chain_le : ∀ {st : List Nat} {a : Nat}, chainB a st n = true → a ≤ n ∧ ∀ s ∈ st, a < s ∧ s ≤ n
  | [], a, h => ⟨Nat.le_of_eq (by simpa [chainB] using h), fun _ h => nomatch h⟩
  | s :: r, a, h => by
    rw [chainB, Bool.and_eq_true, decide_eq_true_iff] at h
    obtain ⟨i1, i2⟩ := chain_le h.2
    refine ⟨by omega, fun t ht => ?_⟩
    rcases List.mem_cons.mp ht with rfl | ht
    · omega
    · have := i2 t ht; omega
noncomputable def pairsL (a : Nat) (st : List Nat) : List (Nat × Nat) := (a :: st).zip st
theorem pairsL_cons (a s : Nat) (r : List Nat) : pairsL a (s :: r) = (a, s) :: pairsL s r := rfl

theorem stops_safe (D : Dr tw n) : ∀ {st : List Nat} {a : Nat}, chainB a st n = true → stA tw a = (false, 0) → (∀ p ∈ pairsL a st, Tk.qt ∉ rdT tw p.1 p.2) → (∀ p ∈ pairsL a st, cdT tw p.1 p.2 = true) → ∀ s ∈ st, stA tw s = (false, 0)
  | [], _, _, _, _, _ => fun _ h => nomatch h
  | s :: r, a, hc, ha, hq, hk => by
    have hl := chain_le hc
    rw [chainB, Bool.and_eq_true, decide_eq_true_iff] at hc
    have hsn := (hl.2 s (.head _)).2
    have l1 : s ≤ tw.length := by rw [D.len]; exact hsn
    rw [pairsL_cons] at hq hk
    have hq1 : (stA tw s).1 = false := by
      cases e : (stA tw s).1 with
      | false => rfl
      | true => exact absurd (rdT_qt hc.1 l1 (by rw [ha]) e) (hq _ (.head _))
    have hk1 := hk _ (.head _)
    dsimp only at hk1
    rw [cdT_out D hc.1 hsn ha hq1, beq_iff_eq] at hk1
    have hs : stA tw s = (false, 0) := Prod.ext hq1 hk1
    intro t ht
    rcases List.mem_cons.mp ht with rfl | ht
    · exact hs
    · exact stops_safe D hc.2 hs (fun p hp => hq p (.tail _ hp)) (fun p hp => hk p (.tail _ hp)) t ht
theorem stops_read (D : Dr tw n) : ∀ {st : List Nat} {a : Nat}, chainB a st n = true → a < n → stA tw a = (false, 0) → (∀ s ∈ st, stA tw s = (false, 0)) → ((pairsL a st).map fun p => rdT tw p.1 p.2).flatten = outT false (seg tw a n) ∧ ∀ p ∈ pairsL a st, cdT tw p.1 p.2 = true
  | [], a, hc, hlt, _, _ => by rw [chainB, beq_iff_eq] at hc; omega
  | s :: r, a, hc, hlt, ha, hs => by
    have hl := chain_le hc
    rw [chainB, Bool.and_eq_true, decide_eq_true_iff] at hc
    have hsn := (hl.2 s (.head _)).2
    have l1 : s ≤ tw.length := by rw [D.len]; exact hsn
    have hs1 := hs s (.head _)
    have e1 := rdT_out hc.1 l1 (by rw [ha]) (by rw [hs1])
    have e2 : cdT tw a s = true := by rw [cdT_out D hc.1 hsn ha (by rw [hs1]), hs1]; rfl
    rw [pairsL_cons, List.map_cons, List.flatten_cons]
    dsimp only
    rw [e1]
    rcases Nat.lt_or_eq_of_le hsn with hlt' | heq
    · obtain ⟨i1, i2⟩ := stops_read D hc.2 hlt' hs1 fun t ht => hs t (.tail _ ht)
      rw [i1]
      refine ⟨(outT_seg hc.1 hlt' (Nat.le_of_eq D.len.symm) (by rw [ha]) (by rw [hs1])).symm, fun p hp => ?_⟩
      rcases List.mem_cons.mp hp with rfl | hp
      · exact e2
      · exact i2 p hp
    · subst heq
      have : r = [] := by
        cases r with
        | nil => rfl
        | cons t r =>
          have := hl.2 t (by simp)
          rw [chainB, Bool.and_eq_true, decide_eq_true_iff] at hc
          have h := hc.2.1; omega
      subst this
      refine ⟨by simp [pairsL], fun p hp => ?_⟩
      rcases List.mem_cons.mp hp with rfl | hp
      · exact e2
      · simp [pairsL] at hp
end

end
section
open PySem PySem.W PyProof.Rows
noncomputable def lexLt : List Nat → List Nat → Bool
  | [], [] => false
  | [], _ :: _ => true
  | _ :: _, [] => false
  | x :: xs, y :: ys => decide (x < y) || (x == y && lexLt xs ys)
section
variable (n : Nat) (S : Nat → Bool) (ln : Nat → Nat → Nat) (wd : Int)
noncomputable def Vp (a b : Nat) : Prop := (ln a b : Int) ≤ wd ∨ ∀ k, a < k → k < b → S k = false
structure WayOk (a : Nat) (st : List Nat) : Prop where
  chain : chainB a st n = true
  safe : ∀ s ∈ st, s < n → S s = true
  fit : ∀ p ∈ pairsL a st, Vp S ln wd p.1 p.2
noncomputable def Greedy (a : Nat) (st : List Nat) : Prop := ∀ p ∈ pairsL a st, ∀ b, p.2 < b → b ≤ n → (S b = true ∨ b = n) → wd < (ln p.1 b : Int)
noncomputable def lens (a : Nat) (st : List Nat) : List Nat := (pairsL a st).map fun p => ln p.1 p.2
variable {n S ln wd}
variable (add : ∀ a b c, a < b → b < c → c ≤ n → ln a c = ln a b + ln b c) (pos : ∀ a b, a < b → b ≤ n → 0 < ln a b)
theorem WayOk.tail {a s : Nat} {r : List Nat} (h : WayOk n S ln wd a (s :: r)) : a < s ∧ s ≤ n ∧ WayOk n S ln wd s r := by
  have hl := chain_le h.chain
  have hc := h.chain
  rw [chainB, Bool.and_eq_true, decide_eq_true_iff] at hc
  exact ⟨hc.1, (hl.2 s (.head _)).2, hc.2, fun t ht => h.safe t (.tail _ ht), fun p hp => h.fit p (.tail _ hp)⟩
include add in
theorem reach {a a' b b' : Nat} {r r' : List Nat} (hg : WayOk n S ln wd a (b :: r)) (gr : Greedy n S ln wd a (b :: r)) (hw : WayOk n S ln wd a' (b' :: r')) (ha : a' ≤ a) : b' ≤ b := by
  obtain ⟨g1, g2, -⟩ := hg.tail
  obtain ⟨w1, w2, -⟩ := hw.tail
  rcases Nat.lt_or_ge b b' with hlt | hge
  · exfalso
    have hb : S b = true := hg.safe b (.head _) (by omega)
    have h1 := gr (a, b) (.head _) b' hlt w2 (by
      rcases Nat.lt_or_eq_of_le w2 with h | h
      · exact .inl (hw.safe b' (.head _) h)
      · exact .inr h)
    have h2 := hw.fit (a', b') (.head _)
    rcases h2 with h2 | h2
    · dsimp only at h1 h2
      have : ln a b' ≤ ln a' b' := by
        rcases Nat.lt_or_eq_of_le ha with h | h
        · have := add a' a b' h (by omega) w2; omega
        · subst h; exact Nat.le_refl _
      omega
    · have := h2 b (by dsimp only; omega) (by dsimp only; omega)
      rw [hb] at this; cases this
  · exact hge
include add in
theorem ahead : ∀ {w : List Nat} {g : List Nat} {a a' : Nat}, WayOk n S ln wd a g → Greedy n S ln wd a g → WayOk n S ln wd a' w → a' ≤ a → g.length ≤ w.length
  | [], g, a, a', hg, _, hw, ha => by
    have h1 := hw.chain
    rw [chainB, beq_iff_eq] at h1
    have h2 := chain_le hg.chain
    cases g with
    | nil => exact Nat.le_refl _
    | cons b r => have := h2.2 b (.head _); omega
  | b' :: w, [], _, _, _, _, _, _ => Nat.zero_le _
  | b' :: w, b :: g, a, a', hg, gr, hw, ha => by
    have h := reach add hg gr hw ha
    exact Nat.succ_le_succ (ahead hg.tail.2.2 (fun p hp => gr p (.tail _ hp)) hw.tail.2.2 h)
include add pos in
theorem lexmax : ∀ {w : List Nat} {g : List Nat} {a : Nat}, WayOk n S ln wd a g → Greedy n S ln wd a g → WayOk n S ln wd a w → lens ln a w = lens ln a g ∨ lexLt (lens ln a w) (lens ln a g) = true
  | [], g, a, hg, _, hw => by
    have h1 := hw.chain
    rw [chainB, beq_iff_eq] at h1
    have h2 := chain_le hg.chain
    cases g with
    | nil => exact .inl rfl
    | cons b r => have := h2.2 b (.head _); omega
  | b' :: w, [], a, hg, _, hw => by
    have h1 := hg.chain
    rw [chainB, beq_iff_eq] at h1
    have h2 := (chain_le hw.chain).2 b' (.head _)
    omega
  | b' :: w, b :: g, a, hg, gr, hw => by
    have h := reach add hg gr hw (Nat.le_refl _)
    obtain ⟨g1, g2, g3⟩ := hg.tail
    obtain ⟨w1, w2, w3⟩ := hw.tail
    show ln a b' :: lens ln b' w = ln a b :: lens ln b g ∨ (decide (ln a b' < ln a b) || (ln a b' == ln a b && lexLt (lens ln b' w) (lens ln b g))) = true
    rcases Nat.lt_or_eq_of_le h with h | h
    · right
      have e := add a b' b w1 h g2
      have e2 := pos b' b h g2
      rw [decide_eq_true (by omega)]; rfl
    · subst h
      rcases lexmax g3 (fun p hp => gr p (.tail _ hp)) w3 with h | h
      · exact .inl (by rw [h])
      · right; rw [h, beq_self_eq_true]; simp
theorem lens_length (a : Nat) (st : List Nat) : (lens ln a st).length = st.length := by
  unfold lens pairsL; simp
end
theorem lexLt_irr : ∀ a : List Nat, lexLt a a = false
  | [] => rfl
  | x :: a => by rw [lexLt, lexLt_irr a]; simp
theorem lexLt_asym : ∀ a b : List Nat, lexLt a b = true → lexLt b a = false
  | [], [], h => nomatch h
  | [], _ :: _, _ => rfl
  | _ :: _, [], h => nomatch h
  | x :: a, y :: b, h => by
    rw [lexLt] at h ⊢
    rw [Bool.or_eq_true, decide_eq_true_iff, Bool.and_eq_true, beq_iff_eq] at h
    rcases h with h | ⟨rfl, h⟩
    · rw [decide_eq_false (by omega), show (y == x) = false by rw [beq_eq_false_iff_ne]; omega]; rfl
    · rw [lexLt_asym a b h]; simp

end
section
open PySem PySem.W PyProof.Rows

theorem rr_P : ∀ {l : List (List Tk)}, l ≠ [] → rr (P l) = 32 :: jn [32] (l.map rr)
  | [], h => absurd rfl h
  | [w], _ => by rw [P_one, rr_cons]; rfl
  | w :: v :: r, _ => by
    have ih := rr_P (l := v :: r) (by simp)
    have : P (w :: v :: r) = .ch 32 :: w ++ P (v :: r) := rfl
    rw [this, rr_app, ih]
    show 32 :: rr w ++ 32 :: _ = _
    simp [jn]
theorem rr_tail : ∀ {t : Tk} {l : List Tk}, t = .ch 32 → rr (t :: l) = 32 :: rr l := by rintro _ _ rfl; rfl
theorem cl_span {ws : List Str} {tw : List (List Tk)} (h : ws.map cl = tw.map rr) {a b : Nat} (h1 : a < b) (h2 : b ≤ tw.length) : cl (spanS ws a b) = rr (seg tw a b) := by
  have hne : (tw.drop a).take (b - a) ≠ [] := by
    intro e
    have := congrArg List.length e
    rw [List.length_take, List.length_drop] at this
    simp at this; omega
  have e : ((ws.drop a).take (b - a)).map cl = ((tw.drop a).take (b - a)).map rr := by
    rw [List.map_take, List.map_drop, h, ← List.map_drop, ← List.map_take]
  have hP := rr_P hne
  unfold spanS
  rw [cl_app, cl_join, cl_sp, e]
  unfold seg
  by_cases h0 : 0 < a
  · rw [if_pos h0, if_pos h0, cl_sp]
    unfold SG
    rw [hP]; rfl
  · rw [if_neg h0, if_neg h0, cl_empty]
    obtain ⟨r, hr⟩ := SG_cons h1 h2
    have hS : rr (SG tw a b) = 32 :: jn [32] (((tw.drop a).take (b - a)).map rr) := hP
    rw [hr, rr_tail rfl] at hS
    rw [hr]
    exact ((List.cons.inj hS).2).symm

theorem chain_snoc : ∀ {B : List Nat} {a c s : Nat}, chainB a B c = true → c < s → chainB a (B ++ [s]) s = true ∧ pairsL a (B ++ [s]) = pairsL a B ++ [(c, s)]
  | [], a, c, s, h, hs => by
    rw [chainB, beq_iff_eq] at h
    subst h
    exact ⟨by simp [chainB, hs], rfl⟩
  | b :: B, a, c, s, h, hs => by
    rw [chainB, Bool.and_eq_true, decide_eq_true_iff] at h
    obtain ⟨i1, i2⟩ := chain_snoc h.2 hs
    refine ⟨by rw [List.cons_append, chainB, i1, decide_eq_true h.1]; rfl, ?_⟩
    rw [List.cons_append, pairsL_cons, pairsL_cons, i2]; rfl
noncomputable def txt (ws : List Str) (a b : Nat) : List Nat := if a < b then cl (spanS ws a b) else []
section
variable (n : Nat) (S : Nat → Bool) (ws : List Str) (wd : Int)
noncomputable abbrev lnS (ws : List Str) (a b : Nat) : Nat := (spanS ws a b).length
structure FI (i : Nat) (st : Nat × List Str × List (Str × Str)) (B : List Nat) (lst : Nat) : Prop where
  h1 : lst ≤ st.1
  h2 : st.1 ≤ i
  gap : ∀ k, st.1 < k → k ≤ i → k < n → S k = false
  fin : i = n → st.1 = n
  sf : 0 < st.1 → st.1 < n → S st.1 = true
  chain : chainB 0 B lst = true
  safe : ∀ s ∈ B, S s = true ∧ s < n
  fit : ∀ p ∈ pairsL 0 B, Vp S (lnS ws) wd p.1 p.2
  gr : ∀ p ∈ pairsL 0 B, ∀ b, p.2 < b → b ≤ n → (S b = true ∨ b = n) → wd < (lnS ws p.1 b : Int)
  rows : st.2.1.map Str.length = lens (lnS ws) 0 B
  text : (st.2.1.map cl).flatten = txt ws 0 lst
  parts : (st.2.2 = [] ∧ st.1 = 0) ∨ (st.2.2 ≠ [] ∧ lst < st.1 ∧ cl (strP st.2.2) = cl (spanS ws lst st.1) ∧ sizeP st.2.2 = lnS ws lst st.1 ∧ Vp S (lnS ws) wd lst st.1)
variable {n S ws wd}
theorem cl_partS (p : Str × Str) : cl (partS p) = cl p.1 ++ cl p.2 := by
  unfold partS; rw [cl_join0]; simp
theorem cl_strP (ps : List (Str × Str)) : cl (strP ps) = (ps.map fun p => cl p.1 ++ cl p.2).flatten := by
  unfold strP; rw [cl_join0, List.map_map]; congr 1; apply List.map_congr_left; intro p _; exact cl_partS p
theorem chunk_cl (a b : Nat) : cl (chunkAt ws a b).1 ++ cl (chunkAt ws a b).2 = cl (spanS ws a b) := by
  unfold chunkAt spanS; rw [cl_app]
theorem chunk_len (a b : Nat) : (chunkAt ws a b).1.length + (chunkAt ws a b).2.length = lnS ws a b := by
  have := congrArg List.length (chunk_cl (ws := ws) a b)
  rwa [List.length_append, cl_len, cl_len, cl_len] at this
theorem sizeP_snoc (ps : List (Str × Str)) (c : Str × Str) : sizeP (ps ++ [c]) = sizeP ps + (c.1.length + c.2.length) := by
  unfold sizeP; simp
theorem FI.step {sf : List Bool} (hn : ws.length = n) (hsf : ∀ i, sf[i]? = some true ↔ i + 1 < n ∧ S (i + 1) = true)
    (app : ∀ a b c, a < b → b < c → c ≤ n → cl (spanS ws a c) = cl (spanS ws a b) ++ cl (spanS ws b c))
    {i : Nat} {st : Nat × List Str × List (Str × Str)} {B : List Nat} {lst : Nat} (h : FI n S ws wd i st B lst) (hi : i < n) : ∃ B' lst', FI n S ws wd (i + 1) (foldStep wd ws sf st i) B' lst' := by
  have add : ∀ a b c, a < b → b < c → c ≤ n → lnS ws a c = lnS ws a b + lnS ws b c := fun a b c q1 q2 q3 => by
    have := congrArg List.length (app a b c q1 q2 q3)
    rwa [List.length_append, cl_len, cl_len, cl_len] at this
  obtain ⟨start, ls, ps⟩ := st
  obtain ⟨h1, h2, gap, fin, hS, chain, safe, fit, gr, rows, text, parts⟩ := h
  dsimp only at *
  unfold foldStep
  dsimp only
  split
  · rename_i hc
    have hc' : i + 1 < n → S (i + 1) = true := fun q => by
      rcases hc with e | e
      · omega
      · exact ((hsf i).mp e).2
    have noin : ∀ a, a = start → ∀ k, a < k → k < i + 1 → S k = false := fun a e k q1 q2 => gap k (by omega) (by omega) (by omega)
    unfold fmStep
    dsimp only
    rcases parts with ⟨rfl, rfl⟩ | ⟨p1, p2, p3, p4, p5⟩
    · -- the first chunk
      have hl : lst = 0 := by omega
      subst hl
      have e1 : sizeP ([] ++ [chunkAt ws 0 (i + 1)]) = lnS ws 0 (i + 1) := by rw [sizeP_snoc, chunk_len]; simp [sizeP]
      have e2 : cl (strP [chunkAt ws 0 (i + 1)]) = cl (spanS ws 0 (i + 1)) := by rw [cl_strP]; simp [chunk_cl]
      have e3 : sizeP [chunkAt ws 0 (i + 1)] = lnS ws 0 (i + 1) := e1
      rw [if_pos rfl]
      have goal : FI n S ws wd (i + 1) (i + 1, ls, [chunkAt ws 0 (i + 1)]) B 0 :=
        ⟨Nat.zero_le _, Nat.le_refl _, fun k q1 q2 _ => absurd q1 (Nat.not_lt.mpr q2), fun e => e, fun _ q => hc' q, chain, safe, fit, gr, rows, text, .inr ⟨List.cons_ne_nil _ _, Nat.succ_pos _, e2, e3, .inr (noin 0 rfl)⟩⟩
      refine ⟨B, 0, ?_⟩
      split
      · exact goal
      · exact goal
    · have e1 : sizeP (ps ++ [chunkAt ws start (i + 1)]) = lnS ws lst (i + 1) := by rw [sizeP_snoc, chunk_len, p4, ← add lst start (i + 1) p2 (by omega) (by omega)]
      rw [if_neg p1]
      split
      · rename_i hbig
        rw [e1] at hbig
        obtain ⟨c1, c2⟩ := chain_snoc chain p2
        have s1 : S start = true := hS (by omega) (by omega)
        refine ⟨B ++ [start], start, ⟨by dsimp only; omega, Nat.le_refl _, fun k q1 q2 _ => absurd q1 (Nat.not_lt.mpr q2), fun e => e, fun _ q => hc' q, c1, ?_, ?_, ?_, ?_, ?_, ?_⟩⟩
        · intro s hs
          rcases List.mem_append.mp hs with hs | hs
          · exact safe s hs
          · rw [List.mem_singleton.mp hs]; exact ⟨s1, by omega⟩
        · intro p hp
          rw [c2] at hp
          rcases List.mem_append.mp hp with hp | hp
          · exact fit p hp
          · rw [List.mem_singleton.mp hp]; exact p5
        · intro p hp b q1 q2 q3
          rw [c2] at hp
          rcases List.mem_append.mp hp with hp | hp
          · exact gr p hp b q1 q2 q3
          · rw [List.mem_singleton.mp hp] at q1 ⊢
            dsimp only at q1 ⊢
            have hb : i + 1 ≤ b := by
              rcases Nat.lt_or_ge i b with q | q
              · exact q
              · exfalso
                have hf := gap b q1 q (by omega)
                rcases q3 with q3 | q3
                · rw [hf] at q3; cases q3
                · omega
            rcases Nat.lt_or_eq_of_le hb with q | q
            · have := add lst (i + 1) b (by omega) q q2; omega
            · subst q; omega
        · dsimp only
          unfold lens
          rw [c2, List.map_append, List.map_append, rows]
          unfold lens
          simp only [List.map_cons, List.map_nil]
          congr 2
          rw [← cl_len, p3, cl_len]
        · dsimp only
          rw [List.map_append, List.flatten_append, text]
          simp only [List.map_cons, List.map_nil, List.flatten_cons, List.flatten_nil, List.append_nil]
          rw [p3]
          unfold txt
          rw [if_pos (show 0 < start by omega)]
          by_cases hl : 0 < lst
          · rw [if_pos hl, app 0 lst start hl p2 (by omega)]
          · have : lst = 0 := by omega
            subst this
            rfl
        · refine .inr ⟨List.cons_ne_nil _ _, by dsimp only; omega, ?_, ?_, .inr (noin start rfl)⟩
          · dsimp only; rw [cl_strP]; simp [chunk_cl]
          · dsimp only; unfold sizeP; simp [chunk_len]
      · rename_i hsmall
        rw [e1] at hsmall
        refine ⟨B, lst, ⟨by dsimp only; omega, Nat.le_refl _, fun k q1 q2 _ => absurd q1 (Nat.not_lt.mpr q2), fun e => e, fun _ q => hc' q, chain, safe, fit, gr, rows, text, .inr ⟨by simp, by dsimp only; omega, ?_, e1, .inl (by dsimp only; omega)⟩⟩⟩
        dsimp only
        rw [cl_strP, List.map_append, List.flatten_append, ← cl_strP, p3, app lst start (i + 1) p2 (by omega) (by omega)]
        simp [chunk_cl]
  · rename_i hc
    have hno : i + 1 ≠ n ∧ ¬ (sf[i]? = some true) := ⟨fun e => hc (.inl (by omega)), fun e => hc (.inr e)⟩
    refine ⟨B, lst, ⟨h1, by dsimp only; omega, fun k q1 q2 q3 => ?_, fun e => by omega, hS, chain, safe, fit, gr, rows, text, parts⟩⟩
    rcases Nat.lt_or_eq_of_le q2 with q | q
    · exact gap k q1 (by omega) q3
    · subst q
      cases e : S (i + 1) with
      | false => rfl
      | true => exact absurd ((hsf i).mpr ⟨q3, e⟩) hno.2
theorem rows_greedy {sf : List Bool} (hn : ws.length = n) (hn1 : 1 ≤ n) (hsf : ∀ i, sf[i]? = some true ↔ i + 1 < n ∧ S (i + 1) = true)
    (app : ∀ a b c, a < b → b < c → c ≤ n → cl (spanS ws a c) = cl (spanS ws a b) ++ cl (spanS ws b c)) :
    ∃ g, WayOk n S (lnS ws) wd 0 g ∧ Greedy n S (lnS ws) wd 0 g ∧ (rowsF wd ws sf).map Str.length = lens (lnS ws) 0 g ∧ Txt.join (Str.ofString "") (rowsF wd ws sf) = spanS ws 0 n := by
  have key : ∀ i, i ≤ n → ∃ B lst, FI n S ws wd i (foldN wd ws sf i) B lst := by
    intro i
    induction i with
    | zero =>
      intro _
      exact ⟨[], 0, Nat.le_refl _, Nat.le_refl _, fun k q1 q2 _ => absurd q1 (Nat.not_lt.mpr q2), fun e => by omega, fun h => absurd h (Nat.lt_irrefl _), rfl, fun _ h => (nomatch h), fun _ h => (nomatch h), fun _ h => (nomatch h), rfl, rfl, .inl ⟨rfl, rfl⟩⟩
    | succ i ih =>
      intro hi
      obtain ⟨B, lst, h⟩ := ih (by omega)
      exact h.step hn hsf app (by omega)
  obtain ⟨B, lst, h⟩ := key n (Nat.le_refl _)
  unfold rowsF
  rw [hn]
  generalize foldN wd ws sf n = st at *
  obtain ⟨start, ls, ps⟩ := st
  obtain ⟨h1, h2, gap, fin, hS, chain, safe, fit, gr, rows, text, parts⟩ := h
  dsimp only at *
  have hfin := fin rfl
  subst hfin
  rcases parts with ⟨_, e⟩ | ⟨p1, p2, p3, p4, p5⟩
  · omega
  obtain ⟨c1, c2⟩ := chain_snoc chain p2
  refine ⟨B ++ [start], ⟨c1, ?_, ?_⟩, ?_, ?_, ?_⟩
  · intro s hs hlt
    rcases List.mem_append.mp hs with hs | hs
    · exact (safe s hs).1
    · rw [List.mem_singleton.mp hs] at hlt; omega
  · intro p hp
    rw [c2] at hp
    rcases List.mem_append.mp hp with hp | hp
    · exact fit p hp
    · rw [List.mem_singleton.mp hp]; exact p5
  · intro p hp b q1 q2 q3
    rw [c2] at hp
    rcases List.mem_append.mp hp with hp | hp
    · exact gr p hp b q1 q2 q3
    · rw [List.mem_singleton.mp hp] at q1
      dsimp only at q1; omega
  · unfold lens
    rw [c2, List.map_append, List.map_append, rows]
    unfold lens
    simp only [List.map_cons, List.map_nil]
    congr 2
    rw [← cl_len, p3, cl_len]
  · apply cl_inj
    rw [cl_join0, List.map_append, List.flatten_append, text]
    simp only [List.map_cons, List.map_nil, List.flatten_cons, List.flatten_nil, List.append_nil]
    rw [p3]
    unfold txt
    by_cases hl : 0 < lst
    · rw [if_pos hl, app 0 lst start hl p2 (Nat.le_refl _)]
    · have : lst = 0 := by omega
      subst this
      rfl
end

end
end
section
open PySem PySem.W PyProof.Rows PySem.Calls
set_option hygiene false
local macro_rules | `(tactic| walk_at "pyIter ref") => `(tactic| refine Hold.out ?_)
set_option hygiene true
set_option hygiene false
local macro_rules | `(tactic| walk_at "exec For Name Call cons nil") => `(tactic| refine Hold.out ?_)
set_option hygiene true
set_option hygiene false
local macro_rules | `(tactic| walk_at "eval ListComp") => `(tactic| refine Hold.out ?_)
set_option hygiene true
set_option hygiene false
local macro_rules | `(tactic| walk_at "exec Assign cons ListComp") => `(tactic| refine Hold.out ?_)
set_option hygiene true
set_option hygiene false
local macro_rules | `(tactic| walk_at "binaryOp Add ref ref") => `(tactic| refine Hold.out ?_)
set_option hygiene true
set_option hygiene false
local macro_rules | `(tactic| walk_at "subscriptTail") => `(tactic| refine Hold.out ?_)
set_option hygiene true
set_option hygiene false
local macro_rules | `(tactic| walk_at "subscriptTail Name Name ref int") => `(tactic| refine Hold.out ?_)
set_option hygiene true
set_option hygiene false
local macro_rules | `(tactic| walk_at "call builtin:str.join") => `(tactic| refine Hold.out ?_)
set_option hygiene true
set_option hygiene false
local macro_rules | `(tactic| walk_at "compareOp NotIn bool ref") => `(tactic| refine Hold.out ?_)
set_option hygiene true
set_option hygiene false
local macro_rules | `(tactic| walk_at "call type:zip") => `(tactic| refine Hold.out ?_)
set_option hygiene true
set_option hygiene false
local macro_rules | `(tactic| walk_at "eval Name") => `(tactic| (k_here; k_dflt (refine nameX_L (cl := cellsFrom _ _ []) (by k_asm) (by (first | assumption | (simp (decide := true) only [if_true, if_false]; assumption))) ?_; k_whole)))
set_option hygiene true
local macro_rules | `(tactic| walk_at "eval Name") => `(tactic| (k_here; (with_reducible show wpAny _ _ (eval (Expr.Name _ _) (compEnvC _ _ _ _)) _ _ _); k_dflt (refine wpAny_Name (wpAny_loadName_local rfl rfl (by assumption) (by assumption) ?_) (by decide))))
local macro_rules | `(tactic| walk_at "eval Name") => `(tactic| (k_here; (with_reducible show wpAny _ _ (eval (Expr.Name _ _) (compEnvC _ _ _ _)) _ _ _); k_dflt (refine nameG_B (by k_asm) (by k_asm) (by k_asm) (by k_is) (by boot_fast) (by decide) ?_ (by rfl) (by rfl) (by rfl) (by rfl) (by decide); k_whole)))
set_option hygiene false
local macro_rules | `(tactic| walk_at "CompSrcT") => `(tactic| refine Hold.out ?_)
set_option hygiene true
set_option hygiene false
local macro_rules | `(tactic| walk_at "CompSrcT ref") => `(tactic| refine Hold.out ?_)
set_option hygiene true
set_option hygiene false
local macro_rules | `(tactic| walk_at "CompSrc") => `(tactic| refine Hold.out ?_)
set_option hygiene true
set_option hygiene false
local macro_rules | `(tactic| walk_at "CompSrc ref") => `(tactic| refine Hold.out ?_)
set_option hygiene true
section
open PySem PySem.W PyProof.Rows PySem.Calls
example : True := by
  w_top off
  trivial
set_option maxRecDepth 100000
set_option maxHeartbeats 1000000
local macro_rules | `(tactic| walk_at "call builtin:len") => `(tactic| (k_here; (with_reducible show wpAny _ _ (call (Value.builtin "len") [Value.ref _]) _ _ _); k_dflt (refine len_bl (by k_asm) (by k_asm) ?_); intro tL kL))
set_option hygiene false
local macro_rules | `(tactic| walk_at "subscriptTail Name Slice ref ref") => `(tactic| refine Hold.out ?_)
set_option hygiene true
set_option hygiene false
local macro_rules | `(tactic| walk_at "subscriptTail Name Slice ref ref") => `(tactic| refine Hold.out ?_)
set_option hygiene true

noncomputable def bitStop (code k : Nat) : Bool := decide (code / 2 ^ (k - 1) % 2 = 1)
theorem news_drop1 {h₀ h : Heap} {L : Addr} {a b : Addr × Obj} {l : List (Addr × Obj)} (N : News h₀ L h (a :: b :: l)) : News h₀ L h (a :: l) := fun p hp => by
  rcases List.mem_cons.mp hp with rfl | hp
  · exact N _ (.head _)
  · exact N p (.tail _ (.tail _ hp))
theorem bit_int {i k : Nat} (hk : 1 ≤ k) : ((i : Int).fdiv (2 ^ ((k : Int) - 1).toNat)).fmod 2 = 1 ↔ bitStop i k = true := by
  have hpw : (2 : Int) ^ ((k : Int) - 1).toNat = ((2 ^ (k - 1) : Nat) : Int) := by
    rw [show ((k : Int) - 1).toNat = k - 1 from Int.toNat_sub k 1]; simp
  rw [hpw]
  unfold bitStop
  rw [show Int.fdiv (i : Int) ((2 ^ (k - 1) : Nat) : Int) = ((i / 2 ^ (k - 1) : Nat) : Int) from (Int.ofNat_fdiv ..).symm]
  generalize i / 2 ^ (k - 1) = q
  rw [decide_eq_true_iff, show Int.fmod (q : Int) 2 = ((q % 2 : Nat) : Int) from (Int.ofNat_fmod q 2).symm]
  omega
noncomputable def stopsOf (n code : Nat) : List Nat := (List.range' 1 (n - 1)).filter (bitStop code) ++ [n]
noncomputable def pairsOf (n code : Nat) : List (Nat × Nat) := (0 :: stopsOf n code).zip (stopsOf n code)
noncomputable def okWay (sp rd : Nat → Nat → Str) (cd : Nat → Nat → Bool) (sf : List Bool) (wd : Int) (n code : Nat) : Bool :=
  decide (Txt.join (Str.ofString "") ((pairsOf n code).map fun p => rd p.1 p.2) = rd 0 n) && (pairsOf n code).all (fun p => cd p.1 p.2) &&
    (pairsOf n code).all (fun p => decide (((sp p.1 p.2).length : Int) ≤ wd) || !((sf.drop p.1).take (p.2 - 1 - p.1)).contains true)
section
variable {prog : Program} {w : World} {A : Around} {E : Value → Shared → Prop} {s : Shared}
theorem item_base {K : Type} [DecidableEq K] {knd : KeyKind prog w K} {value slice : PySem.Expr} {h₀ : Heap} {L d : Addr} {m : Str → Option Value} {o : Obj} {kvs : List (K × Value)} {k : K} {key v : Value} {Q : Value → Shared → Prop} (F : Fr h₀ L s.heap m) (hp : h₀.get? d = some o) (hd : o.IsDictOf knd kvs) (hkey : knd.is k key = true) (hl : valueAt kvs k = some v) (h : Q v { s with toks := s.toks + 1 })
    (hs : subscripted slice false (.ref d) key = operate [.ref d, key] (getItem (.ref d) key) := by with_unfolding_all rfl) (hg : ∀ r, letTemporaryGo value (.ref d) r = pure () := by intro _; with_unfolding_all rfl) :
    wpAny (model prog w) A (subscriptTail value slice (.ref d) key) Q E s := by
  have N : News { objs := #[] } (d + 1) s.heap [(d, o)] := fun p hp' => by
    rw [List.mem_singleton.mp hp']
    exact ⟨F.keep _ _ hp, Nat.ne_of_lt (Nat.lt_succ_self _), by simp [Heap.get?]⟩
  exact kda_item N (.head _) hd hkey hl h hs hg
end
theorem Al.get {α : Type} {R : α → Value → Prop} {l : List α} {ys : List Value} (h : Al R l ys) : ∀ {j : Nat} {y : Value}, ys[j]? = some y → ∃ a, l[j]? = some a ∧ R a y := by
  induction h with
  | nil => intro j y h; simp at h
  | cons r _ ih =>
    intro j y h
    cases j with
    | zero => rw [List.getElem?_cons_zero] at h; cases h; exact ⟨_, rfl, r⟩
    | succ j => rw [List.getElem?_cons_succ] at h; exact ih h
theorem Al.of_get {α : Type} {R : α → Value → Prop} : ∀ {l : List α} {ys : List Value}, l.length = ys.length → (∀ (j : Nat) a y, l[j]? = some a → ys[j]? = some y → R a y) → Al R l ys
  | [], [], _, _ => .nil
  | [], _ :: _, h, _ => nomatch h
  | _ :: _, [], h, _ => nomatch h
  | a :: l, y :: ys, h, r => .cons (r 0 a y rfl rfl) (Al.of_get (Nat.succ.inj h) fun j b z hb hz => r (j + 1) b z hb hz)
theorem Al.of_range {α : Type} {R : α → Value → Prop} {l : List α} {ys : List Value} {m : Nat} (h : Al (fun j v => ∃ p, l[j]? = some p ∧ R p v) (List.range m) ys) (hm : m = l.length) : Al R l ys := by
  refine Al.of_get (by rw [← h.length, List.length_range, hm]) fun j a y ha hy => ?_
  obtain ⟨i, hi, p, hp, hr⟩ := h.get hy
  have : i = j := by
    have hj : j < m := by rw [hm]; exact (List.getElem?_eq_some_iff.mp ha).1
    rw [List.getElem?_range hj] at hi
    exact (Option.some.inj hi).symm
  subst this
  rw [ha] at hp; cases hp; exact hr
theorem pairs_lt : ∀ n, n < 6 → 1 ≤ n → ∀ c, c < 17 → ∀ p ∈ pairsOf n c, p.1 < p.2 ∧ p.2 ≤ n := by decide +kernel
theorem PD.look {n : Nat} {P : Nat → Nat → Value → Prop} {kvs : List (Int × Value)} (pd : PD n P (fun _ _ => True) kvs) (hn : n ≤ 7) {a b : Nat} (h1 : a < b) (h2 : b ≤ n) : ∃ v, valueAt kvs ((a : Int) * 8 + (b : Int)) = some v ∧ P a b v := by
  have h := pd.has a b h1 h2 trivial
  rw [key_nat] at h
  obtain ⟨v, hv⟩ := Option.isSome_iff_exists.mp h
  obtain ⟨a', b', h3, h4, h5, h6⟩ := pd.all _ _ (mem_of_valueAt hv)
  obtain ⟨rfl, rfl⟩ : a' = a ∧ b' = b := pair_inj h2 hn h4 (key_nat.trans h5)
  exact ⟨v, hv, h6⟩
theorem Al.strs {α : Type} {f : α → Str} {l : List α} {ys : List Value} (h : Al (fun p v => IsStrV (f p) v) l ys) : StrsAre ys (l.map f) := by
  induction h with
  | nil => exact .nil
  | cons r _ ih => obtain ⟨t, rfl⟩ := r; exact .cons ih
theorem join_al {α : Type} {f : α → Str} {l : List α} {prog : Program} {w : World} {A : Around} {E : Value → Shared → Prop} {s : Shared} {x : Str} {t : Tok} {Q : Value → Shared → Prop} {h₀ : Heap} {L r : Addr} {news : List (Addr × Obj)} {rs : List Value}
    (N : News h₀ L s.heap news) (hm : (r, LCg.lst rs) ∈ news) (hv : Al (fun p v => IsStrV (f p) v) l rs) (hok : JoinOk x (l.map f) = true) (h : ∀ t' k, Q (.str (Txt.join x (l.map f)) t') { s with toks := k }) :
    wpAny (model prog w) A (call (.builtin "str.join") [.str x t, .ref r]) Q E s := join_strs (n := rs.length) N hm hv.strs hok h
theorem Al.bools {α : Type} {f : α → Bool} {l : List α} {ys : List Value} (h : Al (fun p v => v = .bool (f p)) l ys) : BoolsAre ys (l.map f) := by
  induction h with
  | nil => exact .nil
  | cons r _ ih => subst r; exact .cons ih
theorem BoolsAre.ofMap (xs : List Bool) : BoolsAre (xs.map Value.bool) xs := by
  induction xs with
  | nil => exact .nil
  | cons b r ih => exact .cons ih
theorem BoolsAre.cut {vs : List Value} {xs : List Bool} (h : BoolsAre vs xs) (a k : Nat) : BoolsAre ((vs.drop a).take k) ((xs.drop a).take k) := by
  rw [h.eq, ← List.map_drop, ← List.map_take]; exact BoolsAre.ofMap _
theorem key_div {a b : Nat} (h : b < 8) : Int.fdiv ((a : Int) * 8 + (b : Int)) 8 = (a : Int) := by
  have e : (a * 8 + b) / 8 = a := by rw [Nat.add_comm, Nat.add_mul_div_right _ _ (by decide), Nat.div_eq_of_lt h, Nat.zero_add]
  exact (Int.ofNat_fdiv (a * 8 + b) 8).symm.trans (congrArg (Nat.cast : Nat → Int) e)
theorem key_mod {a b : Nat} (h : b < 8) : Int.fmod ((a : Int) * 8 + (b : Int)) 8 = (b : Int) := by
  have e : (a * 8 + b) % 8 = b := by rw [Nat.add_comm, Nat.add_mul_mod_self_right, Nat.mod_eq_of_lt h]
  exact (Int.ofNat_fmod (a * 8 + b) 8).symm.trans (congrArg (Nat.cast : Nat → Int) e)
theorem Al.map {α β : Type} {R : β → Value → Prop} {f : α → β} {l : List α} {ys : List Value} (h : Al (fun p v => R (f p) v) l ys) : Al R (l.map f) ys := by
  induction h with
  | nil => exact .nil
  | cons r _ ih => exact .cons r ih
theorem all_of {α : Type} {f : α → Bool} {l : List α} (h : (l.map f).contains false = false) : l.all f = true := by
  induction l with
  | nil => rfl
  | cons a r ih =>
    rw [List.map_cons, List.contains_cons, Bool.or_eq_false_iff] at h
    rw [List.all_cons, ih h.2, Bool.and_true]
    cases q : f a with
    | true => rfl
    | false => rw [q] at h; exact absurd h.1 (by decide)
theorem not_all_of {α : Type} {f : α → Bool} {l : List α} (h : (l.map f).contains false = true) : l.all f = false := by
  induction l with
  | nil => cases h
  | cons a r ih =>
    rw [List.map_cons, List.contains_cons, Bool.or_eq_true_iff] at h
    rw [List.all_cons]
    rcases h with h | h
    · rw [← eq_of_beq h]; rfl
    · rw [ih h, Bool.and_false]
theorem sub3 {α : Type} {S wl own : List α} : ∀ p ∈ S ++ wl, p ∈ S ++ (wl ++ own) := fun p hp =>
  (List.mem_append.mp hp).elim (fun h => List.mem_append_left _ h) fun h => List.mem_append_right _ (List.mem_append_left _ h)
theorem sub4 {α : Type} {S wl own : List α} : ∀ p ∈ own, p ∈ S ++ (wl ++ own) := fun _ hp => List.mem_append_right _ (List.mem_append_right _ hp)
theorem off1_mem {D : Addr} : ∀ {l : List (Addr × Obj)}, LCg.Off1 D l → ∀ p ∈ l, p.1 ≠ D
  | [], _, _, h => nomatch h
  | _ :: _, x, p, h => by
    rcases List.mem_cons.mp h with rfl | h
    · exact x.1
    · exact off1_mem x.2 p h
theorem zip_fp (I l1 l2 : Nat) (h1 : l1 < I) (h2 : l2 < I) : ∀ b ∈ [I + 4, I + 2, I + 3, I, I + 1, l1, l2], b < I + 5 := by
  have q : ∀ k, k < 5 → I + k < I + 5 := fun k h => Nat.add_lt_add_left h I
  have q0 : I < I + 5 := q 0 (by decide)
  exact List.forall_mem_cons.mpr ⟨q 4 (by decide), List.forall_mem_cons.mpr ⟨q 2 (by decide), List.forall_mem_cons.mpr ⟨q 3 (by decide), List.forall_mem_cons.mpr ⟨q0,
    List.forall_mem_cons.mpr ⟨q 1 (by decide), List.forall_mem_cons.mpr ⟨Nat.lt_trans h1 q0, List.forall_mem_cons.mpr ⟨Nat.lt_trans h2 q0, List.forall_mem_nil _⟩⟩⟩⟩⟩⟩⟩
theorem zip_wr (I x : Nat) (h : x < I) : x ∉ [I + 4, I + 3, I, I + 1] := by
  simp only [List.mem_cons, List.not_mem_nil, or_false, not_or]
  have q : ∀ k, x < I + k := fun k => Nat.lt_of_lt_of_le h (Nat.le_add_right _ _)
  exact ⟨Nat.ne_of_lt (q 4), Nat.ne_of_lt (q 3), Nat.ne_of_lt h, Nat.ne_of_lt (q 1)⟩
theorem stops_le {n c k : Nat} (hn : 1 ≤ n) (h : k ∈ stopsOf n c) : 1 ≤ k ∧ k ≤ n := by
  rcases List.mem_append.mp h with h | h
  · have h1 := (List.mem_filter.mp h).1
    rw [List.mem_range'] at h1
    obtain ⟨j, h2, h3⟩ := h1
    omega
  · rw [List.mem_singleton.mp h]; omega
theorem pairs_get {st : List Nat} {zs : List Value} {t : Tok} {j : Nat} {x y : Value} (h : Al (fun k v => ∃ t, v = .int ((k : Nat) : Int) t) st zs) (hx : (Value.int 0 t :: zs)[j]? = some x) (hy : zs[j]? = some y) :
    ∃ p t1 t2, ((0 :: st).zip st)[j]? = some p ∧ x = .int ((p.1 : Nat) : Int) t1 ∧ y = .int ((p.2 : Nat) : Int) t2 ∧ (p.1 = 0 ∨ p.1 ∈ st) ∧ p.2 ∈ st := by
  obtain ⟨b, hb, t2, rfl⟩ := h.get hy
  have hz : Al (fun k v => ∃ t, v = .int ((k : Nat) : Int) t) (0 :: st) (Value.int 0 t :: zs) := .cons ⟨t, rfl⟩ h
  obtain ⟨a, ha, t1, rfl⟩ := hz.get hx
  refine ⟨(a, b), t1, t2, List.getElem?_zip_eq_some.mpr ⟨ha, hb⟩, rfl, rfl, ?_, List.mem_of_getElem? hb⟩
  exact (List.mem_cons.mp (List.mem_of_getElem? ha)).imp id id
noncomputable def wayOf (sp : Nat → Nat → Str) (n code : Nat) : List Nat := (pairsOf n code).map fun p => (sp p.1 p.2).length
noncomputable def waysN (sp rd : Nat → Nat → Str) (cd : Nat → Nat → Bool) (sf : List Bool) (wd : Int) (n i : Nat) : List (List Nat) := ((List.range i).filter (okWay sp rd cd sf wd n)).map (wayOf sp n)
noncomputable def IsInts (ns : List Nat) (ys : List Value) : Prop := Al (fun k v => ∃ t, v = .int ((k : Nat) : Int) t) ns ys
noncomputable def IsWay (h : Heap) (way : List Nat) (v : Value) : Prop := ∃ a ys, v = .ref a ∧ h.get? a = some (LCg.lst ys) ∧ IsInts way ys
noncomputable def LstL (wl : List (Addr × Obj)) : Prop := ∀ p ∈ wl, ∃ ys, p.2 = LCg.lst ys
noncomputable def WT (wl : List (Addr × Obj)) (ways : List (List Nat)) (refs : List Value) : Prop := ∀ h : Heap, (∀ p ∈ wl, h.get? p.1 = some p.2) → Al (IsWay h) ways refs
theorem waysN_no {sp rd : Nat → Nat → Str} {cd : Nat → Nat → Bool} {sf : List Bool} {wd : Int} {n i : Nat} (h : okWay sp rd cd sf wd n i = false) : waysN sp rd cd sf wd n (i + 1) = waysN sp rd cd sf wd n i := by
  unfold waysN
  rw [List.range_succ, List.filter_append, List.filter_cons, h]
  simp
theorem waysN_ok {sp rd : Nat → Nat → Str} {cd : Nat → Nat → Bool} {sf : List Bool} {wd : Int} {n i : Nat} (h : okWay sp rd cd sf wd n i = true) : waysN sp rd cd sf wd n (i + 1) = waysN sp rd cd sf wd n i ++ [wayOf sp n i] := by
  unfold waysN
  rw [List.range_succ, List.filter_append, List.filter_cons, h, List.map_append]
  simp
theorem c_ways {w : World} {mg mb : Str → Option Value} {A : Around} {s : Shared} {Q E : Value → Shared → Prop} {dS dR dC lsf : Addr} {oS oR oC : Obj} {kS kR kC : List (Int × Value)} {bs : List Value} {sf : List Bool} {n : Nat} {wd : Int} {tw : Tok} {sp rd : Nat → Nat → Str} {cd : Nat → Nat → Bool}
    (C : Cx w mg mb s.heap) (hh : A.handled = none) (hu : A.units + 500 < cLine) (hroom : A.depth + 60 < recursionLimit)
    (hS : s.heap.get? dS = some oS) (hSd : oS.IsDictOf (intKind PR w) kS) (pS : PD n (fun a b => IsStrV (sp a b)) (fun _ _ => True) kS)
    (hR : s.heap.get? dR = some oR) (hRd : oR.IsDictOf (intKind PR w) kR) (pR : PD n (fun a b => IsStrV (rd a b)) (fun _ _ => True) kR)
    (hC : s.heap.get? dC = some oC) (hCd : oC.IsDictOf (intKind PR w) kC) (pC : PD n (fun a b v => v = .bool (cd a b)) (fun _ _ => True) kC)
    (hb : s.heap.IsList lsf bs.toArray) (hbi : BoolsAre bs sf) (hn1 : 2 ≤ n) (hn5 : n ≤ 5) (hsl : sf.length + 1 = n) (hw0 : 0 ≤ wd) (hw1 : wd ≤ 1000) (hrd : ∀ a b, (rd a b).length ≤ 300) (hsp : ∀ a b, (sp a b).length ≤ 300)
    (hQ : ∀ Wl refs nw wl s', At s.heap s'.heap ((Wl, W.listOf refs.toArray nw) :: wl) → LstL wl → WT wl (waysN sp rd cd sf wd n (2 ^ (n - 1))) refs → s'.os = s.os → GX s.gens s'.gens → Q (.ref Wl) s') :
    wpAny (model PR w) A (call (.ref 229) [.ref dS, .ref dR, .ref dC, .ref lsf, .int wd tw]) Q E s := by
  have C' := C
  obtain ⟨X, T⟩ := C
  refine wpAny_call ?_
  k_dflt (refine' enter_cells (binds := [(Str.ofString "spans", .ref dS), (Str.ofString "reading", .ref dR), (Str.ofString "closed", .ref dC), (Str.ofString "safe", .ref lsf), (Str.ofString "width", .int wd tw)]) ?k1 ?k2 ?k3 ?k4 ?k5 ?k6 ?k7 ?k8 ?_ ?c1 ?c2 ?c3; (case k1 => exact X); (case k2 => exact T.nolimit); (case k3 => k_is); (case k4 => k_is); (case k5 => omega); (case k6 => exact BindsTo.of_eq rfl); (case c1 => exact rfl); (case c2 => exact rfl); (case c3 => exact rfl); (case k8 => decide))
  · intro k x hx
    simp only [List.mem_cons, List.not_mem_nil, or_false] at hx
    rcases hx with rfl | rfl | rfl | rfl | rfl <;> exact .inr ⟨rfl, rfl⟩
  intro L h₁ tk cells F N Y hL
  refine abstr ?_
  intro Q0 E0 hP0 hE0
  obtain ⟨o6, o5, o4, o3, o2, o1, hE, e6, e5, e4, e3, e2, e1⟩ := PyProof.Rows.kc_six Y
  subst hE
  replace e5 : o5.data = .cell (some (.int wd tw)) := e5
  replace e4 : o4.data = .cell (some (.ref lsf)) := e4
  replace e3 : o3.data = .cell (some (.ref dC)) := e3
  replace e2 : o2.data = .cell (some (.ref dR)) := e2
  replace e1 : o1.data = .cell (some (.ref dS)) := e1
  clear Y
  have hs4 : sf.length ≤ 4 := Nat.le_of_succ_le_succ (Nat.le_trans (Nat.le_of_eq hsl) hn5)
  have h1n : 1 ≤ n := Nat.le_of_succ_le hn1
  have hm4 : n - 1 ≤ 4 := Nat.sub_le_of_le_add hn5
  have Bb : BL s.heap lsf bs sf.length := ⟨hb, hbi.length, by omega⟩
  (try dsimp only)
  (try k_fold)
  k_steps
  refine Hold.mk (wpAny_For ?_)
  k_steps
  refine Hold.mk ?_
  rename IsRange _ _ _ _ _ _ _ _ => hr
  rename Fr _ _ _ _ => F1
  rename News _ _ _ _ => N1
  rename_i Wl _ lW _ _ _ _ _ _ _ _ _
  have hpow : (2 : Int) ^ ((sf.length : Int) + 1 - 1).toNat = ((2 ^ (n - 1) : Nat) : Int) := by
    rw [show ((sf.length : Int) + 1 - 1).toNat = n - 1 by rw [Int.add_sub_cancel, ← hsl]; rfl]; simp
  have hp16 : 2 ^ (n - 1) ≤ 16 := Nat.le_trans (Nat.pow_le_pow_right (by decide) hm4) (by decide)
  rw [hpow] at hr
  obtain ⟨M, hM⟩ : ∃ M, M = 2 ^ (n - 1) := ⟨_, rfl⟩
  rw [← hM] at hr hp16
  refine for_range_cell (h₀ := s.heap) (m := _) (news := (L + 1 + 1 + 1 + 1 + 1 + 1, o6) :: (Wl, W.listOf #[] 0) :: (L + 1 + 1 + 1 + 1 + 1, o5) :: (L + 1 + 1 + 1 + 1, o4) :: (L + 1 + 1 + 1, o3) :: (L + 1 + 1, o2) :: (L + 1, o1) :: []) (n := M) (cc := L + 1 + 1 + 1 + 1 + 1 + 1) hh hr (range_small (by decide) (by decide) (by omega) (by omega) (.inl rfl)) (rangeSize_up (by omega)) rfl rfl rfl F1 (fun p hp => N1 p (sub_of (by k_all) p hp))
    (fun i m₁ rest => ∃ (refs : List Value) (nw : Nat) (wl : List (Addr × Obj)) (tc : Tok), m₁ (Str.ofString "ways") = some (.ref Wl) ∧ m₁ (Str.ofString "count") = some (.int ((n : Nat) : Int) tc) ∧
      rest = (Wl, W.listOf refs.toArray nw) :: (L + 1 + 1 + 1 + 1 + 1, o5) :: (L + 1 + 1 + 1 + 1, o4) :: (L + 1 + 1 + 1, o3) :: (L + 1 + 1, o2) :: (L + 1, o1) :: wl ∧
      LstL wl ∧ WT wl (waysN sp rd cd sf wd n i) refs ∧ refs.length ≤ i ∧ (∀ p ∈ wl, p.1 ≠ Wl)) ?_ ?_ ?_
  · have hcnt : ((sf.length : Int) + 1) = ((n : Nat) : Int) := congrArg (Nat.cast : Nat → Int) hsl
    exact ⟨o6, _, _, rfl, e6, (by k_all), [], 0, [], _, rfl, congrArg (fun z => some (Value.int z _)) hcnt, rfl, (fun _ h => nomatch h), (fun _ _ => .nil), Nat.le_refl _, (fun _ h => nomatch h)⟩
  · rintro i tkc m₁ rest oc own s₁ hin ⟨refs, nw, wl, tc, m1, m2, rfl, hwl, hWT, hrl, hwW⟩ ec hrc hoff F2 N2 hos2 hgx2
    change Fr s.heap L s₁.heap _ at F2
    change News s.heap L s₁.heap (_ :: _ :: _ :: _ :: _ :: _ :: _ :: (wl ++ own)) at N2
    clear F1 N1 hr
    rw [show ((0 : Int) + (i : Int) * 1) = ((i : Nat) : Int) by omega] at ec
    refine abstr ?_
    intro Q1 E1 hP1 hE1
    k_steps
    refine Hold.mk ?_
    refine LCt.ListComp_T (F₀ := F2) rfl (by decide) rfl (by decide) rfl ?_
    k_steps
    refine Hold.mk ?_
    rename IsRange _ _ _ _ _ _ _ _ => hr3
    rename Fr _ _ _ _ => F3
    rename News _ _ _ _ => N3
    refine LCt.CompSrcT.range (n := n - 1) hh F3 N3 hr3 (range_small (by decide) (by decide) (by omega) (by omega) (.inl rfl)) (rangeSize_up (cast_pred h1n)) (by rw [sizeLine_eq]; omega) fun g => ?_
    refine rest_T (ks := List.range' 1 (n - 1)) (bitStop i) (fun k v => ∃ t, v = .int ((k : Nat) : Int) t) (by simp) ?_ ?_
    · rintro j k v I oI CC oC D m₂ ys h4 tk4 E' hk ⟨t4, rfl⟩ hCC hx F4 N4 off ne
      have hj : j < n - 1 := by
        have := (List.getElem?_eq_some_iff.mp hk).1
        simpa using this
      have hkj : k = 1 + j := by
        rw [List.getElem?_range' hj] at hk
        have := Option.some.inj hk
        omega
      rw [show ((1 : Int) + (j : Int)) = ((k : Nat) : Int) by omega] at hx
      have hk1 : 1 ≤ k := hkj ▸ Nat.le_add_right 1 j
      have hk5 : k ≤ 5 := by rw [hkj, Nat.add_comm]; exact Nat.le_trans hj (Nat.le_trans hm4 (Nat.le_of_ble_eq_true rfl))
      clear F3 N3 hr3 hkj hk hj
      show wpAny _ _ _ _ _ { heap := _, gens := s₁.gens, drawn := s₁.drawn, toks := _, os := s₁.os }
      k_steps
      · rename Int.fmod _ _ = 1 => hbit
        exact ⟨_, _, _, rfl, F4, N4, off, trivial, rfl, (bit_int hk1).mp hbit, _, rfl⟩
      · rename Int.fmod _ _ ≠ 1 => hbit
        exact ⟨_, _, _, rfl, F4, N4, off, trivial, rfl, Bool.eq_false_iff.mpr fun e => hbit ((bit_int hk1).mpr e)⟩
    · intro ys hys Dk h5 tk5 F5 N5 off5
      clear F3 N3 hr3
      show wpAny _ _ _ _ _ { heap := _, gens := s₁.gens, drawn := s₁.drawn, toks := _, os := s₁.os }
      k_steps
      refine Hold.mk ?_
      rename Fr _ _ _ _ => F6
      rename News _ _ _ _ => N6
      have hyl : ys.length ≤ 4 := by
        rw [← hys.length]
        exact Nat.le_trans (List.length_filter_le _ _) (by simp; omega)
      refine kmk_add_lit (zs := ys ++ [Value.int ((n : Nat) : Int) tc]) F6 N6 (newsList N6 (.tail _ (.head _))) (newsList N6 (.head _)) rfl (fun St h7 F7 N7 l7 => ?_) (by simp [sizeLine_eq]; omega)
      have hst : IsInts (stopsOf n i) (ys ++ [Value.int ((n : Nat) : Int) tc]) := hys.snoc ⟨tc, rfl⟩
      have hzl : (ys ++ [Value.int ((n : Nat) : Int) tc]).length ≤ 5 := by simp; omega
      generalize ys ++ [Value.int ((n : Nat) : Int) tc] = zs at *
      replace N7 : News s.heap L h7 ((St, W.listOf zs.toArray 0) :: (L + 1 + 1 + 1 + 1 + 1 + 1, oc) :: (Wl, W.listOf refs.toArray nw) :: (L + 1 + 1 + 1 + 1 + 1, o5) :: (L + 1 + 1 + 1 + 1, o4) :: (L + 1 + 1 + 1, o3) :: (L + 1 + 1, o2) :: (L + 1, o1) :: (wl ++ own)) := news_drop1 (news_drop1 N7)
      k_lt l7
      clear F6 N6
      k_steps
      refine Hold.mk ?_
      rename Fr _ _ _ _ => F8
      rename News _ _ _ _ => N8
      refine Assign_Zip (L := L) (h₀ := s.heap) (m := fun z => if z = Str.ofString "stops" then some (.ref St) else m₁ z) (R := fun j v => ∃ p t, (pairsOf n i)[j]? = some p ∧ v = .int ((p.1 : Int) * 8 + (p.2 : Int)) t) hh rfl rfl rfl (by decide) rfl (by decide) rfl rfl (by decide) rfl rfl ?_
      k_steps
      refine Hold.mk ?_
      rename Fr _ _ _ _ => F9
      rename News _ _ _ _ => N9
      refine kmk_add_lit F9 N9 (newsList N9 (.head _)) (newsList N9 (.tail _ (.head _))) rfl (fun Zt h10 F10 N10 l10 => ?_) (by simp [sizeLine_eq]; omega)
      k_lt l10
      simp only [List.toList_toArray, List.cons_append, List.nil_append] at N10
      k_steps
      refine Hold.mk ?_
      rename Fr _ _ _ _ => F11
      rename News _ _ _ _ => N11
      have hl1 := newsList N11 (.head _)
      have hl2 := newsList N11 (.tail _ (.tail _ (.head _)))
      refine call_zip_2 hl1 hl2 fun h12 hz hTI hTO hi1 hi2 hsz hk12 => ?_
      have hlt1 : Zt < h10.objs.size := Heap.lt_size (N11 _ (.head _)).1
      have hlt2 : St < h10.objs.size := Heap.lt_size (N11 _ (.tail _ (.tail _ (.head _)))).1
      have hLs : L < h10.objs.size := F11.ns.lt
      have D12 := ktu_apart h10.objs.size Zt St hlt1 hlt2
      have hbase : ∀ k, s.heap.get? (h10.objs.size + k) = none := fun k => ktu_new F11 (Nat.le_add_right _ _)
      have N12 := news_drop1 (news_tail N11)
      k_steps
      refine Hold.mk ?_
      refine wpAny_pyIter_zip hz ?_
      refine ⟨_, _, _, _, _, _, _, _, rfl, WalksT.zip2 ?hA _ _ _ _ _ _ _ D12 (Value.int 0 tk :: zs).toArray zs.toArray, ?_, ⟨hz, hTI, ⟨_, _, hTO⟩, hi1, hi2, hl1.at fun o e => hk12 _ o e, hl2.at fun o e => hk12 _ o e⟩, ?_, ?_, F11.keeps hk12, N12.grown hk12, ?_, ?_, ?_, ?_, ?_⟩
      case hA => exact hh
      · rw [sizeLine_eq, List.size_toArray, List.size_toArray]
        simp
        omega
      · show ∀ b ∈ _, b < h12.objs.size
        rw [hsz]
        exact zip_fp h10.objs.size Zt St hlt1 hlt2
      · rintro j vals ⟨x, y, -, -, rfl⟩
        exact ⟨x, y, rfl⟩
      · exact zip_wr h10.objs.size L hLs
      · intro b hb
        simp only [List.mem_cons, List.not_mem_nil, or_false] at hb
        rcases hb with rfl | rfl | rfl | rfl
        · exact hbase 4
        · exact hbase 3
        · exact hbase 0
        · exact hbase 1
      · exact fun p hp => zip_wr h10.objs.size p.1 (Heap.lt_size (N12 p hp).1)
      · rintro j v₁ v₂ C2 m₂ s' E'' hj ⟨x, y, hx, hy, e⟩ hns mx mx2
        obtain ⟨rfl, rfl⟩ : v₁ = x ∧ v₂ = y := by simpa using e
        obtain ⟨p, t1, t2, hp, rfl, rfl, hpa, hpb⟩ := pairs_get hst (by simpa using hx) (by simpa using hy)
        have hp2 := stops_le (by omega) hpb
        have hp1 : p.1 ≤ 5 := by
          rcases hpa with h | h
          · exact Nat.le_trans (Nat.le_of_eq h) (Nat.zero_le 5)
          · exact Nat.le_trans (stops_le (by omega) h).2 hn5
        clear hx hy e
        k_steps
      · intro Ky h13 tk13 ks hal F13 N13 l13
        replace hal : Al (fun (p : Nat × Nat) v => ∃ t, v = .int ((p.1 : Int) * 8 + (p.2 : Int)) t) (pairsOf n i) ks := by
          refine Al.of_range (m := min ((Value.int 0 tk :: zs).toArray.size) zs.toArray.size) ?_ ?_
          · refine Al.of_get hal.length fun j a y ha hy => ?_
            obtain ⟨b, hb, p, t, hp, e⟩ := hal.get hy
            rw [ha] at hb; cases hb
            exact ⟨p, hp, t, e⟩
          · have := hst.length
            unfold pairsOf
            rw [List.length_zip]
            simp
            omega
        clear F11 N11 N12 hl1 hl2 hz hTI hTO hi1 hi2 hsz hk12 D12 hbase
        (try clear F9 N9); (try clear F8 N8); (try clear F7 N7); (try clear F10 N10)
        have hkl : ks.length ≤ 6 := by
          rw [← hal.length]
          unfold pairsOf
          rw [List.length_zip]
          have := hst.length
          simp
          omega
        show wpAny _ _ _ _ _ { heap := _, gens := s₁.gens, drawn := s₁.drawn, toks := _, os := s₁.os }
        k_steps
        refine Hold.mk ?_
        refine LCg.ListComp_U (F₀ := F13) rfl (by decide) rfl (by decide) rfl ?_
        k_steps
        refine Hold.mk ?_
        refine LCg.CompSrc.ledger (its := ks.toArray) hh F13 N13 (.head _) (by rw [List.size_toArray, sizeLine_eq]; omega) fun g1 => ?_
        refine rest_U (ks := pairsOf n i) (fun p v => IsStrV (rd p.1 p.2) v) (by rw [List.size_toArray]; exact hal.length) ?_ ?_
        · rintro j p v I oI CC oC D m₂ ys h4 tk4 E' hk hv hCC hx F4 N4 off ne
          obtain ⟨p', hp', t, rfl⟩ := hal.get (by simpa using hv)
          rw [hk] at hp'; cases hp'
          have hpl := pairs_lt n (by omega) (by omega) i (by omega) p (List.mem_of_getElem? hk)
          obtain ⟨v', hv', hP'⟩ := pR.look (by omega) hpl.1 hpl.2
          clear hv
          show wpAny _ _ _ _ _ { heap := _, gens := s₁.gens, drawn := s₁.drawn, toks := _, os := s₁.os }
          refine abstr ?_
          intro Q2 E2 hP2 hE2
          k_steps
          refine Hold.mk ?_
          refine item_base F4 hR hRd (intKind_is _ _ _ _) hv' ?_
          exact hP2 _ _ ⟨_, _, _, rfl, F4, N4, off, .inr ⟨_, .head _, rfl, _, rfl⟩, rfl, hP'⟩
        · intro rs hrs Dk h5 tk5 F5 N5 off5
          show wpAny _ _ _ _ _ { heap := _, gens := s₁.gens, drawn := s₁.drawn, toks := _, os := s₁.os }
          k_steps
          refine Hold.mk ?_
          refine join_al (rs := rs) N5 (.head _) hrs ?_ fun t6 kk6 => ?_
          · refine joinOk_small (by decide +kernel) (b := 300) (fun y hy => ?_) (by decide) ?_
            · obtain ⟨p, -, rfl⟩ := List.mem_map.mp hy
              exact hrd _ _
            · rw [List.length_map, hal.length]; omega
          have N6 := news_tail N5
          clear N5
          k_steps
          refine Hold.mk ?_
          obtain ⟨v0, hv0, ⟨t0, rfl⟩⟩ := pR.look (by omega) (show 0 < n by omega) (Nat.le_refl n)
          rw [show (((0 : Nat) : Int) * 8 + (n : Int)) = (n : Int) by omega] at hv0
          refine item_base F5 hR hRd (intKind_is _ _ _ _) hv0 ?_
          k_steps
          rotate_left
          · rename (Txt.join _ _ == _) = false => hjf
            refine hP1 _ _ (show TEnd2 _ _ _ _ _ _ from ⟨_, _, (((L + 1 + 1 + 1 + 1 + 1 + 1, oc) :: (Wl, W.listOf refs.toArray nw) :: (L + 1 + 1 + 1 + 1 + 1, o5) :: (L + 1 + 1 + 1 + 1, o4) :: (L + 1 + 1 + 1, o3) :: (L + 1 + 1, o2) :: (L + 1, o1) :: []) ++ wl), F5, N6, fun p hp => ?_, fun p hp => ?_, hoff, rfl, .refl _, oc, _, _, rfl, ec, hrc, refs, nw, wl, tc, (if_neg (by decide)).trans ((if_neg (by decide)).trans m1), (if_neg (by decide)).trans ((if_neg (by decide)).trans m2), rfl, hwl, ?_, Nat.le_succ_of_le hrl, hwW⟩)
            · first | exact .tail _ (.tail _ (sub3 (S := ((L + 1 + 1 + 1 + 1 + 1 + 1, oc) :: (Wl, W.listOf refs.toArray nw) :: (L + 1 + 1 + 1 + 1 + 1, o5) :: (L + 1 + 1 + 1 + 1, o4) :: (L + 1 + 1 + 1, o3) :: (L + 1 + 1, o2) :: (L + 1, o1) :: [])) p hp)) | exact .tail _ (.tail _ (.tail _ (sub3 (S := ((L + 1 + 1 + 1 + 1 + 1 + 1, oc) :: (Wl, W.listOf refs.toArray nw) :: (L + 1 + 1 + 1 + 1 + 1, o5) :: (L + 1 + 1 + 1 + 1, o4) :: (L + 1 + 1 + 1, o3) :: (L + 1 + 1, o2) :: (L + 1, o1) :: [])) p hp))) | exact .tail _ (.tail _ (.tail _ (.tail _ (sub3 (S := ((L + 1 + 1 + 1 + 1 + 1 + 1, oc) :: (Wl, W.listOf refs.toArray nw) :: (L + 1 + 1 + 1 + 1 + 1, o5) :: (L + 1 + 1 + 1 + 1, o4) :: (L + 1 + 1 + 1, o3) :: (L + 1 + 1, o2) :: (L + 1, o1) :: [])) p hp))))
            · first | exact .tail _ (.tail _ (sub4 (S := ((L + 1 + 1 + 1 + 1 + 1 + 1, oc) :: (Wl, W.listOf refs.toArray nw) :: (L + 1 + 1 + 1 + 1 + 1, o5) :: (L + 1 + 1 + 1 + 1, o4) :: (L + 1 + 1 + 1, o3) :: (L + 1 + 1, o2) :: (L + 1, o1) :: [])) p hp)) | exact .tail _ (.tail _ (.tail _ (sub4 (S := ((L + 1 + 1 + 1 + 1 + 1 + 1, oc) :: (Wl, W.listOf refs.toArray nw) :: (L + 1 + 1 + 1 + 1 + 1, o5) :: (L + 1 + 1 + 1 + 1, o4) :: (L + 1 + 1 + 1, o3) :: (L + 1 + 1, o2) :: (L + 1, o1) :: [])) p hp))) | exact .tail _ (.tail _ (.tail _ (.tail _ (sub4 (S := ((L + 1 + 1 + 1 + 1 + 1 + 1, oc) :: (Wl, W.listOf refs.toArray nw) :: (L + 1 + 1 + 1 + 1 + 1, o5) :: (L + 1 + 1 + 1 + 1, o4) :: (L + 1 + 1 + 1, o3) :: (L + 1 + 1, o2) :: (L + 1, o1) :: [])) p hp))))
            · rw [waysN_no (by unfold okWay; rw [decide_eq_false (by simpa using hjf)]; rfl)]; exact hWT
          refine Hold.mk ?_
          rename (Txt.join _ _ == _) = true => hj1
          refine LCg.ListComp_U (F₀ := F5) rfl (by decide) rfl (by decide) rfl ?_
          k_steps
          refine Hold.mk ?_
          refine LCg.CompSrc.ledger (its := ks.toArray) hh F5 N6 (.head _) (by rw [List.size_toArray, sizeLine_eq]; omega) fun g2 => ?_
          refine rest_U (ks := pairsOf n i) (fun p v => v = .bool (cd p.1 p.2)) (by rw [List.size_toArray]; exact hal.length) ?_ ?_
          · rintro j p v I oI CC oC D m₂ ys h4 tk4 E' hk hv hCC hx F4 N4 off ne
            obtain ⟨p', hp', t, rfl⟩ := hal.get (by simpa using hv)
            rw [hk] at hp'; cases hp'
            have hpl := pairs_lt n (by omega) (by omega) i (by omega) p (List.mem_of_getElem? hk)
            obtain ⟨v', hv', hP'⟩ := pC.look (by omega) hpl.1 hpl.2
            clear hv
            show wpAny _ _ _ _ _ { heap := _, gens := s₁.gens, drawn := s₁.drawn, toks := _, os := s₁.os }
            refine abstr ?_
            intro Q2 E2 hP2 hE2
            k_steps
            refine Hold.mk ?_
            refine item_base F4 hC hCd (intKind_is _ _ _ _) hv' ?_
            exact hP2 _ _ ⟨_, _, _, rfl, F4, N4, off, .inr ⟨_, .head _, rfl, _, rfl⟩, rfl, hP'⟩
          intro rs2 hrs2 Dk2 h7 tk7 F7 N7 off7
          clear F5 N6
          show wpAny _ _ _ _ _ { heap := _, gens := s₁.gens, drawn := s₁.drawn, toks := _, os := s₁.os }
          k_steps
          refine Hold.mk ?_
          refine notin_bools (newsList N7 (.head _)) hrs2.bools (by show A.units + 3 + 64 < cLine; omega) ?_
          have N8 := news_tail N7
          clear N7
          k_steps
          · rename List.contains _ false = true => hjf
            refine hP1 _ _ (show TEnd2 _ _ _ _ _ _ from ⟨_, _, (((L + 1 + 1 + 1 + 1 + 1 + 1, oc) :: (Wl, W.listOf refs.toArray nw) :: (L + 1 + 1 + 1 + 1 + 1, o5) :: (L + 1 + 1 + 1 + 1, o4) :: (L + 1 + 1 + 1, o3) :: (L + 1 + 1, o2) :: (L + 1, o1) :: []) ++ wl), F7, N8, fun p hp => ?_, fun p hp => ?_, hoff, rfl, .refl _, oc, _, _, rfl, ec, hrc, refs, nw, wl, tc, (if_neg (by decide)).trans ((if_neg (by decide)).trans m1), (if_neg (by decide)).trans ((if_neg (by decide)).trans m2), rfl, hwl, ?_, Nat.le_succ_of_le hrl, hwW⟩)
            · first | exact .tail _ (.tail _ (sub3 (S := ((L + 1 + 1 + 1 + 1 + 1 + 1, oc) :: (Wl, W.listOf refs.toArray nw) :: (L + 1 + 1 + 1 + 1 + 1, o5) :: (L + 1 + 1 + 1 + 1, o4) :: (L + 1 + 1 + 1, o3) :: (L + 1 + 1, o2) :: (L + 1, o1) :: [])) p hp)) | exact .tail _ (.tail _ (.tail _ (sub3 (S := ((L + 1 + 1 + 1 + 1 + 1 + 1, oc) :: (Wl, W.listOf refs.toArray nw) :: (L + 1 + 1 + 1 + 1 + 1, o5) :: (L + 1 + 1 + 1 + 1, o4) :: (L + 1 + 1 + 1, o3) :: (L + 1 + 1, o2) :: (L + 1, o1) :: [])) p hp))) | exact .tail _ (.tail _ (.tail _ (.tail _ (sub3 (S := ((L + 1 + 1 + 1 + 1 + 1 + 1, oc) :: (Wl, W.listOf refs.toArray nw) :: (L + 1 + 1 + 1 + 1 + 1, o5) :: (L + 1 + 1 + 1 + 1, o4) :: (L + 1 + 1 + 1, o3) :: (L + 1 + 1, o2) :: (L + 1, o1) :: [])) p hp))))
            · first | exact .tail _ (.tail _ (sub4 (S := ((L + 1 + 1 + 1 + 1 + 1 + 1, oc) :: (Wl, W.listOf refs.toArray nw) :: (L + 1 + 1 + 1 + 1 + 1, o5) :: (L + 1 + 1 + 1 + 1, o4) :: (L + 1 + 1 + 1, o3) :: (L + 1 + 1, o2) :: (L + 1, o1) :: [])) p hp)) | exact .tail _ (.tail _ (.tail _ (sub4 (S := ((L + 1 + 1 + 1 + 1 + 1 + 1, oc) :: (Wl, W.listOf refs.toArray nw) :: (L + 1 + 1 + 1 + 1 + 1, o5) :: (L + 1 + 1 + 1 + 1, o4) :: (L + 1 + 1 + 1, o3) :: (L + 1 + 1, o2) :: (L + 1, o1) :: [])) p hp))) | exact .tail _ (.tail _ (.tail _ (.tail _ (sub4 (S := ((L + 1 + 1 + 1 + 1 + 1 + 1, oc) :: (Wl, W.listOf refs.toArray nw) :: (L + 1 + 1 + 1 + 1 + 1, o5) :: (L + 1 + 1 + 1 + 1, o4) :: (L + 1 + 1 + 1, o3) :: (L + 1 + 1, o2) :: (L + 1, o1) :: [])) p hp))))
            · rw [waysN_no (by unfold okWay; rw [not_all_of hjf, Bool.and_false]; rfl)]; exact hWT
          refine Hold.mk ?_
          rename List.contains _ false = false => hj2
          refine LCg.ListComp_U (F₀ := F7) rfl (by decide) rfl (by decide) rfl ?_
          k_steps
          refine Hold.mk ?_
          refine LCg.CompSrc.ledger (its := ks.toArray) hh F7 N8 (.head _) (by rw [List.size_toArray, sizeLine_eq]; omega) fun g3 => ?_
          refine rest_U (ks := pairsOf n i) (fun p v => v = .bool (decide (((sp p.1 p.2).length : Int) ≤ wd) || !((sf.drop p.1).take (p.2 - 1 - p.1)).contains true)) (by rw [List.size_toArray]; exact hal.length) ?_ ?_
          · rintro j p v I oI CC oC D m₂ ys h4 tk4 E' hk hv hCC hx F4 N4 off ne
            obtain ⟨p', hp', t, rfl⟩ := hal.get (by simpa using hv)
            rw [hk] at hp'; cases hp'
            have hpl := pairs_lt n (by omega) (by omega) i (by omega) p (List.mem_of_getElem? hk)
            obtain ⟨v', hv', ⟨t', rfl⟩⟩ := pS.look (by omega) hpl.1 hpl.2
            clear hv
            show wpAny _ _ _ _ _ { heap := _, gens := s₁.gens, drawn := s₁.drawn, toks := _, os := s₁.os }
            refine abstr ?_
            intro Q2 E2 hP2 hE2
            k_steps
            refine Hold.mk ?_
            refine item_base F4 hS hSd (intKind_is _ _ _ _) hv' ?_
            have hspl := hsp p.1 p.2
            have e1 := key_div (a := p.1) (Nat.lt_of_le_of_lt hpl.2 (Nat.lt_of_le_of_lt hn5 (Nat.le_of_ble_eq_true rfl)))
            have e2 := key_mod (a := p.1) (Nat.lt_of_le_of_lt hpl.2 (Nat.lt_of_le_of_lt hn5 (Nat.le_of_ble_eq_true rfl)))
            k_steps
            · rename _ ≤ wd => hle
              exact hP2 _ _ ⟨_, _, _, rfl, F4, N4, off, .inr ⟨_, .head _, rfl, _, rfl⟩, rfl, by rw [decide_eq_true hle]; rfl⟩
            rename ¬ _ ≤ wd => hle
            refine Hold.mk ?_
            have hpick : slicePick bs.toArray (some (Int.fdiv ((p.1 : Int) * 8 + (p.2 : Int)) 8)) (some (Int.fmod ((p.1 : Int) * 8 + (p.2 : Int)) 8 - 1)) none = ((bs.drop p.1).take (p.2 - 1 - p.1)).toArray := by
              rw [e1, e2, show ((p.2 : Int) - 1) = ((p.2 - 1 : Nat) : Int) from (Int.ofNat_sub (Nat.lt_of_le_of_lt (Nat.zero_le _) hpl.1)).symm]
              exact slicePick_run bs.toArray p.1 (p.2 - 1) (by rw [List.size_toArray, Bb.len]; exact Nat.sub_le_of_le_add (Nat.le_trans hpl.2 (Nat.le_of_eq hsl.symm))) (Nat.le_pred_of_lt hpl.1)
            refine slice_list F4 N4 (Bb.at F4) (.int _ _) (.int _ _) (fun h6 F6 N6 => ?_) (hsz := by rw [List.size_toArray, Bb.len, sizeLine_eq]; omega)
            rw [hpick] at N6
            k_steps
            refine Hold.mk ?_
            refine notin_bools ⟨_, (N6 _ (.head _)).1, rfl, _, rfl⟩ (hbi.cut p.1 (p.2 - 1 - p.1)) (by show A.units + 3 + 64 < cLine; omega) ?_
            have N7' := news_tail N6
            exact hP2 _ _ ⟨_, _, _, rfl, F6, N7', off, .inr ⟨_, .head _, rfl, _, rfl⟩, rfl, by rw [decide_eq_false hle]; rfl⟩
          intro rs3 hrs3 Dk3 h9 tk9 F9 N9 off9
          clear F7 N8
          show wpAny _ _ _ _ _ { heap := _, gens := s₁.gens, drawn := s₁.drawn, toks := _, os := s₁.os }
          k_steps
          refine Hold.mk ?_
          refine notin_bools (newsList N9 (.head _)) hrs3.bools (by show A.units + 3 + 64 < cLine; omega) ?_
          have N10 := news_tail N9
          clear N9
          k_steps
          · rename List.contains _ false = true => hjf
            refine hP1 _ _ (show TEnd2 _ _ _ _ _ _ from ⟨_, _, (((L + 1 + 1 + 1 + 1 + 1 + 1, oc) :: (Wl, W.listOf refs.toArray nw) :: (L + 1 + 1 + 1 + 1 + 1, o5) :: (L + 1 + 1 + 1 + 1, o4) :: (L + 1 + 1 + 1, o3) :: (L + 1 + 1, o2) :: (L + 1, o1) :: []) ++ wl), F9, N10, fun p hp => ?_, fun p hp => ?_, hoff, rfl, .refl _, oc, _, _, rfl, ec, hrc, refs, nw, wl, tc, (if_neg (by decide)).trans ((if_neg (by decide)).trans m1), (if_neg (by decide)).trans ((if_neg (by decide)).trans m2), rfl, hwl, ?_, Nat.le_succ_of_le hrl, hwW⟩)
            · first | exact .tail _ (.tail _ (sub3 (S := ((L + 1 + 1 + 1 + 1 + 1 + 1, oc) :: (Wl, W.listOf refs.toArray nw) :: (L + 1 + 1 + 1 + 1 + 1, o5) :: (L + 1 + 1 + 1 + 1, o4) :: (L + 1 + 1 + 1, o3) :: (L + 1 + 1, o2) :: (L + 1, o1) :: [])) p hp)) | exact .tail _ (.tail _ (.tail _ (sub3 (S := ((L + 1 + 1 + 1 + 1 + 1 + 1, oc) :: (Wl, W.listOf refs.toArray nw) :: (L + 1 + 1 + 1 + 1 + 1, o5) :: (L + 1 + 1 + 1 + 1, o4) :: (L + 1 + 1 + 1, o3) :: (L + 1 + 1, o2) :: (L + 1, o1) :: [])) p hp))) | exact .tail _ (.tail _ (.tail _ (.tail _ (sub3 (S := ((L + 1 + 1 + 1 + 1 + 1 + 1, oc) :: (Wl, W.listOf refs.toArray nw) :: (L + 1 + 1 + 1 + 1 + 1, o5) :: (L + 1 + 1 + 1 + 1, o4) :: (L + 1 + 1 + 1, o3) :: (L + 1 + 1, o2) :: (L + 1, o1) :: [])) p hp))))
            · first | exact .tail _ (.tail _ (sub4 (S := ((L + 1 + 1 + 1 + 1 + 1 + 1, oc) :: (Wl, W.listOf refs.toArray nw) :: (L + 1 + 1 + 1 + 1 + 1, o5) :: (L + 1 + 1 + 1 + 1, o4) :: (L + 1 + 1 + 1, o3) :: (L + 1 + 1, o2) :: (L + 1, o1) :: [])) p hp)) | exact .tail _ (.tail _ (.tail _ (sub4 (S := ((L + 1 + 1 + 1 + 1 + 1 + 1, oc) :: (Wl, W.listOf refs.toArray nw) :: (L + 1 + 1 + 1 + 1 + 1, o5) :: (L + 1 + 1 + 1 + 1, o4) :: (L + 1 + 1 + 1, o3) :: (L + 1 + 1, o2) :: (L + 1, o1) :: [])) p hp))) | exact .tail _ (.tail _ (.tail _ (.tail _ (sub4 (S := ((L + 1 + 1 + 1 + 1 + 1 + 1, oc) :: (Wl, W.listOf refs.toArray nw) :: (L + 1 + 1 + 1 + 1 + 1, o5) :: (L + 1 + 1 + 1 + 1, o4) :: (L + 1 + 1 + 1, o3) :: (L + 1 + 1, o2) :: (L + 1, o1) :: [])) p hp))))
            · rw [waysN_no (by unfold okWay; rw [not_all_of hjf, Bool.and_false])]; exact hWT
          refine Hold.mk ?_
          rename List.contains _ false = false => hj3
          refine LCg.ListComp_U (F₀ := F9) rfl (by decide) rfl (by decide) rfl ?_
          k_steps
          refine Hold.mk ?_
          refine LCg.CompSrc.ledger (its := ks.toArray) hh F9 N10 (.head _) (by rw [List.size_toArray, sizeLine_eq]; omega) fun g4 => ?_
          refine rest_U (ks := pairsOf n i) (fun p v => ∃ t, v = .int ((sp p.1 p.2).length : Nat) t) (by rw [List.size_toArray]; exact hal.length) ?_ ?_
          · rintro j p v I oI CC oC D m₂ ys h4 tk4 E' hk hv hCC hx F4 N4 off ne
            obtain ⟨p', hp', t, rfl⟩ := hal.get (by simpa using hv)
            rw [hk] at hp'; cases hp'
            have hpl := pairs_lt n (by omega) (by omega) i (by omega) p (List.mem_of_getElem? hk)
            obtain ⟨v', hv', ⟨t', rfl⟩⟩ := pS.look (by omega) hpl.1 hpl.2
            clear hv
            show wpAny _ _ _ _ _ { heap := _, gens := s₁.gens, drawn := s₁.drawn, toks := _, os := s₁.os }
            refine abstr ?_
            intro Q2 E2 hP2 hE2
            k_steps
            refine Hold.mk ?_
            refine item_base F4 hS hSd (intKind_is _ _ _ _) hv' ?_
            have hspl := hsp p.1 p.2
            k_steps
            exact hP2 _ _ ⟨_, _, _, rfl, F4, N4, off, .inr ⟨_, .head _, rfl, _, rfl⟩, rfl, _, rfl⟩
          intro rs4 hrs4 Dk4 h11 tk11 F11 N11 off11
          clear F9 N10
          show wpAny _ _ _ _ _ { heap := _, gens := s₁.gens, drawn := s₁.drawn, toks := _, os := s₁.os }
          k_steps
          have hD4 : ∀ p ∈ ((L + 1 + 1 + 1 + 1 + 1 + 1, oc) :: (Wl, W.listOf refs.toArray nw) :: (L + 1 + 1 + 1 + 1 + 1, o5) :: (L + 1 + 1 + 1 + 1, o4) :: (L + 1 + 1 + 1, o3) :: (L + 1 + 1, o2) :: (L + 1, o1) :: []) ++ (wl ++ own), p.1 ≠ Dk4 := fun p hp => off1_mem off11 p (by first | exact .tail _ (.tail _ hp) | exact .tail _ (.tail _ (.tail _ hp)) | exact .tail _ (.tail _ (.tail _ (.tail _ hp))))
          have N12 : News s.heap L h11 ((Wl, W.listOf refs.toArray nw) :: (Dk4, LCg.lst rs4) :: (L + 1 + 1 + 1 + 1 + 1 + 1, oc) :: (L + 1 + 1 + 1 + 1 + 1, o5) :: (L + 1 + 1 + 1 + 1, o4) :: (L + 1 + 1 + 1, o3) :: (L + 1 + 1, o2) :: (L + 1, o1) :: [] ++ (wl ++ own)) := fun p hp => N11 p (by
            have hp' : p = (Dk4, LCg.lst rs4) ∨ p ∈ ((L + 1 + 1 + 1 + 1 + 1 + 1, oc) :: (Wl, W.listOf refs.toArray nw) :: (L + 1 + 1 + 1 + 1 + 1, o5) :: (L + 1 + 1 + 1 + 1, o4) :: (L + 1 + 1 + 1, o3) :: (L + 1 + 1, o2) :: (L + 1, o1) :: []) ++ (wl ++ own) := by
              simp only [List.mem_cons, List.mem_append, List.not_mem_nil, or_false] at hp ⊢
              rcases hp with (h | h | h | h | h | h | h | h) | h
              · exact .inr (.inl (.inr (.inl h)))
              · exact .inl h
              · exact .inr (.inl (.inl h))
              · exact .inr (.inl (.inr (.inr (.inl h))))
              · exact .inr (.inl (.inr (.inr (.inr (.inl h)))))
              · exact .inr (.inl (.inr (.inr (.inr (.inr (.inl h))))))
              · exact .inr (.inl (.inr (.inr (.inr (.inr (.inr (.inl h)))))))
              · exact .inr (.inl (.inr (.inr (.inr (.inr (.inr (.inr h)))))))
              · exact .inr (.inr h)
            rcases hp' with h | h
            · rw [h]; exact .head _
            · first | exact .tail _ (.tail _ (.tail _ h)) | exact .tail _ (.tail _ (.tail _ (.tail _ h))) | exact .tail _ (.tail _ (.tail _ (.tail _ (.tail _ h)))))
          refine append_K F11 N12 (Upd.head ?_) (fun h12 F12 N13 => ?_) (by rw [List.size_toArray, sizeLine_eq]; omega)
          · intro p hp
            replace hp : p ∈ (Dk4, LCg.lst rs4) :: (L + 1 + 1 + 1 + 1 + 1 + 1, oc) :: (L + 1 + 1 + 1 + 1 + 1, o5) :: (L + 1 + 1 + 1 + 1, o4) :: (L + 1 + 1 + 1, o3) :: (L + 1 + 1, o2) :: (L + 1, o1) :: [] ++ (wl ++ own) := hp
            simp only [List.mem_cons, List.mem_append, List.not_mem_nil, or_false] at hp
            rcases hp with (h | h | h | h | h | h | h) | h | h
            · rw [h]; exact Ne.symm (hD4 (Wl, W.listOf refs.toArray nw) (.tail _ (.head _)))
            · rw [h]; exact Nat.ne_of_lt lW.1
            · rw [h]; exact Nat.ne_of_lt lW.2.1
            · rw [h]; exact Nat.ne_of_lt lW.2.2.1
            · rw [h]; exact Nat.ne_of_lt lW.2.2.2.1
            · rw [h]; exact Nat.ne_of_lt lW.2.2.2.2.1
            · rw [h]; exact Nat.ne_of_lt lW.2.2.2.2.2
            · exact hwW p h
            · exact hoff p h Wl (.tail _ (.head _))
          rw [List.push_toArray] at N13
          k_steps
          refine hP1 _ _ (show TEnd2 _ _ _ _ _ _ from ⟨_, _, (((L + 1 + 1 + 1 + 1 + 1 + 1, oc) :: (Wl, W.listOf (refs ++ [Value.ref Dk4]).toArray (nw + 1)) :: (L + 1 + 1 + 1 + 1 + 1, o5) :: (L + 1 + 1 + 1 + 1, o4) :: (L + 1 + 1 + 1, o3) :: (L + 1 + 1, o2) :: (L + 1, o1) :: []) ++ (Dk4, LCg.lst rs4) :: wl), F12, N13, fun p hp => ?_, fun p hp => ?_, ?_, rfl, .refl _, oc, _, _, rfl, ec, ?_, refs ++ [Value.ref Dk4], nw + 1, (Dk4, LCg.lst rs4) :: wl, tc, (if_neg (by decide)).trans ((if_neg (by decide)).trans m1), (if_neg (by decide)).trans ((if_neg (by decide)).trans m2), rfl, ?_, ?_, ?_, ?_⟩)
          · show p ∈ (Wl, W.listOf (refs ++ [Value.ref Dk4]).toArray (nw + 1)) :: (Dk4, LCg.lst rs4) :: (L + 1 + 1 + 1 + 1 + 1 + 1, oc) :: (L + 1 + 1 + 1 + 1 + 1, o5) :: (L + 1 + 1 + 1 + 1, o4) :: (L + 1 + 1 + 1, o3) :: (L + 1 + 1, o2) :: (L + 1, o1) :: [] ++ (wl ++ own)
            simp only [List.mem_cons, List.mem_append, List.not_mem_nil, or_false] at hp ⊢
            rcases hp with (h | h | h | h | h | h | h) | h | h
            · exact .inl (.inr (.inr (.inl h)))
            · exact .inl (.inl h)
            · exact .inl (.inr (.inr (.inr (.inl h))))
            · exact .inl (.inr (.inr (.inr (.inr (.inl h)))))
            · exact .inl (.inr (.inr (.inr (.inr (.inr (.inl h))))))
            · exact .inl (.inr (.inr (.inr (.inr (.inr (.inr (.inl h)))))))
            · exact .inl (.inr (.inr (.inr (.inr (.inr (.inr (.inr h)))))))
            · exact .inl (.inr (.inl h))
            · exact .inr (.inl h)
          · show p ∈ (Wl, W.listOf (refs ++ [Value.ref Dk4]).toArray (nw + 1)) :: (Dk4, LCg.lst rs4) :: (L + 1 + 1 + 1 + 1 + 1 + 1, oc) :: (L + 1 + 1 + 1 + 1 + 1, o5) :: (L + 1 + 1 + 1 + 1, o4) :: (L + 1 + 1 + 1, o3) :: (L + 1 + 1, o2) :: (L + 1, o1) :: [] ++ (wl ++ own)
            simp only [List.mem_cons, List.mem_append, List.not_mem_nil, or_false]
            exact .inr (.inr hp)
          · exact own_rot (la := ((L + 1 + 1 + 1 + 1 + 1 + 1, oc) :: (Wl, W.listOf refs.toArray nw) :: (L + 1 + 1 + 1 + 1 + 1, o5) :: (L + 1 + 1 + 1 + 1, o4) :: (L + 1 + 1 + 1, o3) :: (L + 1 + 1, o2) :: (L + 1, o1) :: [])) (lb := ((L + 1 + 1 + 1 + 1 + 1 + 1, oc) :: (Wl, W.listOf (refs ++ [Value.ref Dk4]).toArray (nw + 1)) :: (L + 1 + 1 + 1 + 1 + 1, o5) :: (L + 1 + 1 + 1 + 1, o4) :: (L + 1 + 1 + 1, o3) :: (L + 1 + 1, o2) :: (L + 1, o1) :: [])) hoff rfl (fun q hq => hD4 q (List.mem_append_right _ (List.mem_append_right _ hq)))
          · intro p hp
            replace hp : p ∈ (Wl, W.listOf (refs ++ [Value.ref Dk4]).toArray (nw + 1)) :: (L + 1 + 1 + 1 + 1 + 1, o5) :: (L + 1 + 1 + 1 + 1, o4) :: (L + 1 + 1 + 1, o3) :: (L + 1 + 1, o2) :: (L + 1, o1) :: [] ++ (Dk4, LCg.lst rs4) :: wl := hp
            simp only [List.mem_cons, List.mem_append, List.not_mem_nil, or_false] at hp
            rcases hp with (h | h | h | h | h | h) | h | h
            · rw [h]; exact Ne.symm (Nat.ne_of_lt lW.1)
            · rw [h]; exact hrc _ (.tail _ (.head _))
            · rw [h]; exact hrc _ (.tail _ (.tail _ (.head _)))
            · rw [h]; exact hrc _ (.tail _ (.tail _ (.tail _ (.head _))))
            · rw [h]; exact hrc _ (.tail _ (.tail _ (.tail _ (.tail _ (.head _)))))
            · rw [h]; exact hrc _ (.tail _ (.tail _ (.tail _ (.tail _ (.tail _ (.head _))))))
            · rw [h]; exact Ne.symm (hD4 _ (.head _))
            · exact hrc p (.tail _ (.tail _ (.tail _ (.tail _ (.tail _ (.tail _ h))))))
          · intro p hp
            rcases List.mem_cons.mp hp with rfl | hp
            · exact ⟨_, rfl⟩
            · exact hwl p hp
          · rw [waysN_ok (by unfold okWay; rw [all_of hj2, all_of hj3, decide_eq_true (by simpa using hj1)]; rfl)]
            intro h hp
            exact (hWT h fun p q => hp p (.tail _ q)).snoc ⟨Dk4, rs4, rfl, hp _ (.head _), hrs4.map⟩
          · rw [List.length_append]
            exact Nat.succ_le_succ hrl
          · intro p hp
            rcases List.mem_cons.mp hp with rfl | hp
            · exact Ne.symm (hD4 (Wl, W.listOf refs.toArray nw) (.tail _ (.head _)))
            · exact hwW p hp
  · rintro m₁ news₁ s₁ ⟨oc, rest, v0, rfl, -, -, refs, nw, wl, tc, m1, m2, rfl, hwl, hWT, hrl, hwW⟩ F2 N2 hos2 hgx2
    change Fr s.heap L s₁.heap _ at F2
    change News s.heap L s₁.heap (_ :: _ :: _ :: _ :: _ :: _ :: _ :: wl) at N2
    k_steps
    rw [hM] at hWT
    exact hP0 _ _ (hQ Wl refs nw wl _ (At.leave F2 fun p hp => N2 p ((List.mem_cons.mp hp).elim (fun e => e ▸ .tail _ (.head _)) fun h => .tail _ (.tail _ (.tail _ (.tail _ (.tail _ (.tail _ (.tail _ h)))))))) hwl hWT hos2 hgx2)

end
section
open PySem PySem.W PyProof.Rows
set_option hygiene false
local macro_rules | `(tactic| omega) => `(tactic| first | w_left | (refine Nat.ne_of_lt ?_; w_left) | (refine Nat.ne_of_gt ?_; w_left) | lia | fail "no chain")
set_option hygiene true
section
open PySem PySem.W PyProof.Rows PySem.Calls
example : True := by
  w_top off
  trivial
section
variable {prog : Program} {w : World} {A : Around} {E : Value → Shared → Prop} {s : Shared} {h₀ : Heap} {L : Addr} {m : Str → Option Value} {news : List (Addr × Obj)}
theorem subTail_temp {value slice : Expr} {o i : Value} {T id : String} {ops : List Value} {Q : Value → Shared → Prop} (hT : s.TypeIs o T)
    (hl : typeLookup (.type T) "__getitem__" = pure (some (.builtin id))) (h : wpAny (model prog w) A (getItem o i) Q E s)
    (hs : subscripted slice false o i = operate ops (getItem o i)) :
    wpAny (model prog w) A (subscriptTail value slice o i) Q E s := by
  unfold subscriptTail
  refine wpAny_bind ?_
  rw [getitemInPython_of_ne hT.not_modules]
  refine wpAny_bind (wpAny_specialOf hT hl ?_)
  have fin : wpAny (model prog w) A (subscripted slice false o i) (fun r s₃ => wpAny (model prog w) A (letTemporaryGo value o r >>= fun _ => pure r) Q E s₃) E s := by
    rw [hs]
    exact wpAny_operating (wpAny_mono h (fun r s₃ h₃ => wpAny_bind (wpAny_letTemporaryGo (wpAny_pure h₃))) fun _ _ x => x)
  first
    | exact wpAny_pure (wpAny_bind fin)
    | exact wpAny_bind (wpAny_pure (wpAny_bind fin))
    | exact wpAny_bind fin
theorem slice_temp {value slice : Expr} {l : Addr} {items : Array Value} {vl vu : Value} {lo hi : Option Int} {Q : Value → Shared → Prop}
    (F : Fr h₀ L s.heap m) (N : News h₀ L s.heap news) (hl : s.heap.IsList l items) (pl : IsPart vl lo) (pu : IsPart vu hi)
    (h : ∀ h', Fr h₀ L h' m → News h₀ L h' ((s.heap.objs.size + 1, { cls := .type "list", data := .seq (slicePick items lo hi none) }) :: news) → Q (.ref (s.heap.objs.size + 1)) { s with heap := h' })
    (hs : subscripted slice false (.ref l) (.ref s.heap.objs.size) = operate [.ref s.heap.objs.size, .ref l] (getItem (.ref l) (.ref s.heap.objs.size)) := by with_unfolding_all rfl)
    (hsz : items.size ≤ sizeLine := by size_fits) :
    wpAny (model prog w) A (subscriptTail value slice (.ref l) (.ref s.heap.objs.size)) Q E { s with heap := s.heap.push { cls := .type "slice", data := .fields #[vl, vu, .none] } } := by
  refine subTail_temp (Heap.IsList.typeIs (s := { s with heap := s.heap.push { cls := .type "slice", data := .fields #[vl, vu, .none] } }) (hl.push _)) list_getitem_lookup
    (wpAny_getItem_list_slice (hl.push _) (Heap.IsSliceOf.new ..) pl pu .none (by simp) ?_ hsz) hs
  have N1 := News.push (F.push { cls := .type "slice", data := .fields #[vl, vu, .none] }) (N.grown fun _ _ e => Heap.get?_push_of_some _ e) { cls := .type "list", data := .seq (slicePick items lo hi none) }
  rw [Heap.size_push] at N1
  show Q (.ref (s.heap.push _).objs.size) _
  rw [Heap.size_push]
  exact h _ ((F.push _).push _) N1
end

end
section
open PySem PySem.W PyProof.Rows PySem.Calls
open MeetsSeq MeetsSeq3
example : True := by
  w_top off
  trivial
set_option maxRecDepth 100000
set_option maxHeartbeats 1000000
theorem IsInts.at {as : List Nat} {vs : List Value} (h : IsInts as vs) {i : Nat} (hi : i < vs.length) : ∃ t, vs[i]? = some (.int ((as.getD i 0 : Nat) : Int) t) := by
  obtain ⟨v, hv⟩ : ∃ v, vs[i]? = some v := ⟨vs[i], by simp [hi]⟩
  obtain ⟨a, ha, t, rfl⟩ := Al.get h hv
  refine ⟨t, ?_⟩
  rw [hv, List.getD_eq_getElem?_getD, ha]; rfl
theorem gt_loop (l b : Addr) (vs us : List Value) (as bs : List Nat) (n n2 : Nat) (h1 : IsInts as vs) (h2 : IsInts bs us) (k : Nat) :
    ∀ i : Nat, vs.length - i = k → i ≤ vs.length → i ≤ us.length → Meets (Builtin.«list.__eq__.loop» ⟨[.ref l, .ref b, rawInt i, rawInt 4], []⟩)
      (fun _ R s => s.heap.get? l = some { cls := .type "list", dict := none, data := .seq vs.toArray n, slots := #[] } ∧ s.heap.get? b = some { cls := .type "list", dict := none, data := .seq us.toArray n2, slots := #[] } ∧
        R (.ok (.ret (.bool (lexLt (bs.drop i) (as.drop i))))) s) := by
  have la := h1.length
  have lb := h2.length
  induction k with
  | zero =>
    intro i hk hi1 hi2 prog w A R s h
    obtain ⟨hp, g, d, tk, os⟩ := s; obtain ⟨hl, hb, h⟩ := h
    wp_walk using AutoSeq1.wpAny_loadPart' hl, AutoSeq1.wpAny_loadPart' hb
    have e1 : vs.toArray[((i : Nat) : Int).toNat]? = none := by simp; omega
    have hd : as.drop i = [] := by simp; omega
    have hf : lexLt (bs.drop i) [] = false := by cases bs.drop i <;> rfl
    rw [hd, hf] at h
    rw [e1]
    cases e2 : us.toArray[((i : Nat) : Int).toNat]? with
    | none =>
      wp_walk using AutoSeq1.wpAny_loadPart' hl, AutoSeq1.wpAny_loadPart' hb
      show R (.ok (.ret (.bool (decide (vs.toArray.size > us.toArray.size))))) _
      rw [decide_eq_false (by simp only [List.size_toArray]; omega)]
      exact h
    | some y =>
      wp_walk using AutoSeq1.wpAny_loadPart' hl, AutoSeq1.wpAny_loadPart' hb
      show R (.ok (.ret (.bool (decide (vs.toArray.size > us.toArray.size))))) _
      rw [decide_eq_false (by simp only [List.size_toArray]; omega)]
      exact h
  | succ k ih =>
    intro i hk hi1 hi2 prog w A R s h
    obtain ⟨hp, g, d, tk, os⟩ := s; obtain ⟨hl, hb, h⟩ := h
    wp_walk using AutoSeq1.wpAny_loadPart' hl, AutoSeq1.wpAny_loadPart' hb
    have hlt : i < vs.length := by omega
    obtain ⟨t1, g1⟩ := h1.at hlt
    have e1 : vs.toArray[((i : Nat) : Int).toNat]? = some (.int ((as.getD i 0 : Nat) : Int) t1) := by simpa using g1
    have hda : as.drop i = as.getD i 0 :: as.drop (i + 1) := by
      rw [List.drop_eq_getElem_cons (by omega : i < as.length), List.getD_eq_getElem?_getD, List.getElem?_eq_getElem (by omega : i < as.length)]; rfl
    rw [hda] at h
    by_cases hlt2 : i < us.length
    · obtain ⟨t2, g2⟩ := h2.at hlt2
      have e2 : us.toArray[((i : Nat) : Int).toNat]? = some (.int ((bs.getD i 0 : Nat) : Int) t2) := by simpa using g2
      have hdb : bs.drop i = bs.getD i 0 :: bs.drop (i + 1) := by
        rw [List.drop_eq_getElem_cons (by omega : i < bs.length), List.getD_eq_getElem?_getD, List.getElem?_eq_getElem (by omega : i < bs.length)]; rfl
      rw [hdb, lexLt] at h
      rw [e1, e2]
      generalize as.getD i 0 = x at *
      generalize bs.getD i 0 = y at *
      have hc : ((i : Int) + 1) = ((i + 1 : Nat) : Int) := by push_cast; rfl
      refine wpAny_bind (EqGives.int _ _ t1 t2 prog w _ _ _ _ ?_)
      cases hb' : (((x : Nat) : Int) == ((y : Nat) : Int)) with
      | true =>
        have hxy : x = y := by rw [beq_iff_eq] at hb'; omega
        subst hxy
        rw [decide_eq_false (Nat.lt_irrefl _), beq_self_eq_true, Bool.false_or, Bool.true_and] at h
        wp_walk
        rw [hc]
        exact ⟨plainId_quiet plain_eq_loop _, codeAny_builtin entry_eq_loop (by
          rw [Around.under_plainId plain_eq_loop _]
          exact ih (i + 1) (by omega) (by omega) (by omega) prog w A R _ ⟨hl, hb, h⟩)⟩
      | false =>
        have hxy : x ≠ y := fun e => by subst e; rw [beq_self_eq_true] at hb'; cases hb'
        rw [show (y == x) = false by rw [beq_eq_false_iff_ne]; exact Ne.symm hxy, Bool.false_and, Bool.or_false] at h
        wp_walk using AutoSeq1.wpAny_loadPart' hl, AutoSeq1.wpAny_loadPart' hb
        rw [e1, e2]
        show wpAny _ _ (richCompare .Gt _ _ >>= _) _ _ _
        refine wpAny_bind ?_
        refine richCompare_gives (op := .Gt) (typeIs_int _ _ t1) (typeIs_int _ _ t2) F.slot_int_gt F.entry_int_gt (F.args_int_gt_2 _ _) (gives_int_gt _ _ t1 t2) (fun x => nomatch x) ?_
        have : decide (((x : Nat) : Int) > ((y : Nat) : Int)) = decide (y < x) := by
          by_cases q : y < x
          · rw [decide_eq_true q, decide_eq_true (by omega)]
          · rw [decide_eq_false q, decide_eq_false (by omega)]
        rw [this]
        exact wpAny_pure h
    · have e2 : us.toArray[((i : Nat) : Int).toNat]? = none := by simp; omega
      have hdb : bs.drop i = [] := by simp; omega
      rw [hdb, lexLt] at h
      rw [e1, e2]
      wp_walk using AutoSeq1.wpAny_loadPart' hl, AutoSeq1.wpAny_loadPart' hb
      show R (.ok (.ret (.bool (decide (vs.toArray.size > us.toArray.size))))) _
      rw [decide_eq_true (by simp only [List.size_toArray]; omega)]
      exact h
theorem list_gt (l b : Addr) (vs us : List Value) (as bs : List Nat) (n n2 : Nat) (h1 : IsInts as vs) (h2 : IsInts bs us) :
    Meets (Builtin.«list.__gt__» ⟨[.ref l, .ref b], []⟩)
      (fun _ R s => s.heap.get? l = some { cls := .type "list", dict := none, data := .seq vs.toArray n, slots := #[] } ∧ s.heap.get? b = some { cls := .type "list", dict := none, data := .seq us.toArray n2, slots := #[] } ∧
        R (.ok (.ret (.bool (lexLt bs as)))) s) := by
  intro prog w A R s h
  obtain ⟨hp, g, d, tk, os⟩ := s; obtain ⟨hl, hb, h⟩ := h
  have f3 := AutoSeq1.sub_list_list
  wp_walk using AutoSeq1.wpAny_loadPart' hl, AutoSeq1.wpAny_loadPart' hb
  exact ⟨plainId_quiet plain_eq_loop _, codeAny_builtin entry_eq_loop (by
    rw [Around.under_plainId plain_eq_loop _]
    exact gt_loop l b vs us as bs n n2 h1 h2 _ 0 rfl (Nat.zero_le _) (Nat.zero_le _) prog w A R _ ⟨hl, hb, h⟩)⟩

end
section
open PySem PySem.W PyProof.Rows PySem.Calls
example : True := by
  w_top off
  trivial
set_option maxRecDepth 100000
set_option maxHeartbeats 1000000
noncomputable def maxW : List Nat → List (List Nat) → List Nat
  | b, [] => b
  | b, x :: r => maxW (if lexLt b x = true then x else b) r
theorem maxW_is {g : List Nat} : ∀ {l : List (List Nat)} {b : List Nat}, (∀ x ∈ b :: l, x = g ∨ lexLt x g = true) → g ∈ b :: l → maxW b l = g
  | [], b, _, h2 => (List.mem_singleton.mp h2).symm
  | x :: r, b, h1, h2 => by
    rw [maxW]
    have hb := h1 b (.head _)
    have hx := h1 x (.tail _ (.head _))
    have hr : ∀ y ∈ r, y = g ∨ lexLt y g = true := fun y hy => h1 y (.tail _ (.tail _ hy))
    rcases hb with rfl | hb
    · have hn : ¬ lexLt b x = true := by
        rcases hx with rfl | hx
        · rw [lexLt_irr]; exact Bool.false_ne_true
        · rw [lexLt_asym _ _ hx]; exact Bool.false_ne_true
      rw [if_neg hn]
      exact maxW_is (fun y hy => (List.mem_cons.mp hy).elim (fun e => .inl e) (hr y)) (.head _)
    · have hbg : b ≠ g := fun e => by rw [e, lexLt_irr] at hb; cases hb
      rcases hx with rfl | hx
      · rw [if_pos hb]
        exact maxW_is (fun y hy => (List.mem_cons.mp hy).elim (fun e => .inl e) (hr y)) (.head _)
      · have hxg : x ≠ g := fun e => by rw [e, lexLt_irr] at hx; cases hx
        have hg : g ∈ r := by
          rcases List.mem_cons.mp h2 with e | h2
          · exact absurd e.symm hbg
          · rcases List.mem_cons.mp h2 with e | h2
            · exact absurd e.symm hxg
            · exact h2
        refine maxW_is (fun y hy => ?_) (.tail _ hg)
        rcases List.mem_cons.mp hy with rfl | hy
        · split
          · exact .inr hx
          · exact .inr hb
        · exact hr y hy
section
variable {prog : Program} {w : World} {A : Around} {R : Result → Shared → Prop} {E : Value → Shared → Prop}
theorem way_gt {s : Shared} {h₁ : Heap} {a b : List Nat} {va vb : Value} {Q : Value → Shared → Prop} (hu : A.units < cLine) (ka : IsWay h₁ a va) (kb : IsWay h₁ b vb) (hk : ∀ p o, (va = .ref p ∨ vb = .ref p) → h₁.get? p = some o → s.heap.get? p = some o) (h : Q (.bool (lexLt b a)) s) :
    wpAny (model prog w) A (richCompare .Gt va vb) Q E s := by
  obtain ⟨pa, ya, rfl, ga, ia⟩ := ka
  obtain ⟨pb, yb, rfl, gb, ib⟩ := kb
  have ga' := hk pa _ (.inl rfl) ga
  have gb' := hk pb _ (.inr rfl) gb
  exact richCompare_meets_room (op := .Gt) ⟨_, ga', rfl⟩ ⟨_, gb', rfl⟩ F.slot_list_gt F.entry_list_gt (F.args_list_gt_2 _ _) (list_gt pa pb ya yb a b _ _ ia ib) ⟨ga', gb', ⟨(by intro e; cases e), h⟩⟩ hu

theorem ways_max_loop {h₁ : Heap} {l I S : Addr} {refs : List Value} {ways : List (List Nat)} (hh : A.handled = none) (hu : A.in1.units < cLine) (hal : Al (IsWay h₁) ways refs) (hlI : l ≠ I) (hSl : S ≠ l) (hSI : S ≠ I) (nI : h₁.get? I = none) (nS : h₁.get? S = none) :
    ∀ (k j : Nat) (s : Shared) (b : List Nat) (vb : Value) (c : Nat), refs.length - j = k → j ≤ refs.length → s.heap.IsListIter I l j → s.heap.IsList l refs.toArray → IsWay h₁ b vb → (∀ p o, p ≠ I → p ≠ S → h₁.get? p = some o → s.heap.get? p = some o) →
      s.heap.get? S = some { cls := .type "list", dict := none, data := .seq #[vb, vb] c, slots := #[] } →
      (∀ v h' tk, IsWay h₁ (maxW b (ways.drop j)) v → (∀ p o, p ≠ I → p ≠ S → s.heap.get? p = some o → h'.get? p = some o) → R (.ok (.ret v)) { s with heap := h', toks := tk }) →
      codeAny (model prog w) A (.builtin "max.loop" ⟨[.ref I, .none, .ref S], []⟩) R s := by
  have W := Walks.list (prog := prog) (w := w) (A := A.in1) hh I l hlI refs.toArray
  have hname : (toString "max" ++ toString ".loop" : String) = "max.loop" := by decide
  have hlen := hal.length
  intro k
  induction k with
  | zero =>
    intro j s b vb c hk hj hit hl hb hkeep hS hR
    have hjn : j = refs.toArray.size := by rw [List.size_toArray]; omega
    have hd : ways.drop j = [] := by simp; omega
    rw [hd] at hR
    refine codeAny_builtin F.entry_max_loop ?_
    rw [Around.under_plainId F.plain_max_loop _]
    show wpAny _ A.in1 (seqItems? (.ref S) >>= _) _ _ s
    refine wpAny_bind (wpAny_seqItems hS rfl ?_)
    show wpAny _ A.in1 (tryCatch (pyNext (.ref I)) _ >>= _) _ _ s
    refine wpAny_bind (wpAny_tryCatch (W.done s _ _ ⟨hjn ▸ hit, hl⟩ fun h' tk hk' => ?_))
    have hk2 : ∀ p o, p ≠ I → s.heap.get? p = some o → h'.get? p = some o := fun p o hp e => hk' p o (by simpa using hp) e
    have hS' := hk2 S _ hSI hS
    show wpAny _ A.in1 (updateSeq S (fun _ => #[]) >>= _) _ _ _
    refine wpAny_bind ?_
    refine wpAny_updateSeq hS' rfl (wpAny_bind (wpAny_letGo (wpAny_pure ?_)))
    exact hR vb _ tk hb fun p o hpI hpS e => (Heap.get?_update_other _ _ (Ne.symm hpS)).trans (hk2 p o hpI e)
  | succ k ih =>
    intro j s b vb c hk hj hit hl hb hkeep hS hR
    have hlt : j < refs.length := by omega
    have hda : ways.drop j = ways.getD j [] :: ways.drop (j + 1) := by
      rw [List.drop_eq_getElem_cons (by omega : j < ways.length), List.getD_eq_getElem?_getD, List.getElem?_eq_getElem (by omega : j < ways.length)]; rfl
    rw [hda, maxW] at hR
    refine codeAny_builtin F.entry_max_loop ?_
    rw [Around.under_plainId F.plain_max_loop _]
    show wpAny _ A.in1 (seqItems? (.ref S) >>= _) _ _ s
    refine wpAny_bind (wpAny_seqItems hS rfl ?_)
    show wpAny _ A.in1 (tryCatch (pyNext (.ref I)) _ >>= _) _ _ s
    refine wpAny_bind (wpAny_tryCatch (W.item j s _ _ (by rw [List.size_toArray]; exact hlt) ⟨hit, hl⟩ fun v h' tk hP hst' hk' => ?_))
    have hk2 : ∀ p o, p ≠ I → s.heap.get? p = some o → h'.get? p = some o := fun p o hp e => hk' p o (by simpa using hp) e
    have hS' := hk2 S _ hSI hS
    obtain ⟨a, ha, hva⟩ := Al.get hal (show refs[j]? = some v by simpa using hP)
    have haD : ways.getD j [] = a := by rw [List.getD_eq_getElem?_getD, ha]; rfl
    rw [haD] at hR
    have nref : ∀ {x : List Nat} {u : Value} {p : Addr}, IsWay h₁ x u → u = .ref p → p ≠ I ∧ p ≠ S := by
      rintro x u p ⟨q, ys, rfl, gq, -⟩ e
      injection e with e; subst e
      exact ⟨fun e => (by rw [e, nI] at gq; cases gq), fun e => (by rw [e, nS] at gq; cases gq)⟩
    show wpAny _ A.in1 (tryCatch (holding [v, v] (richCompare .Gt v vb >>= _)) _ >>= _) _ _ _
    refine wpAny_bind (wpAny_tryCatch (wpAny_holding (wpAny_bind (way_gt (h₁ := h₁) hu hva hb (fun p o hp e => ?_) ?_))))
    · have hn : p ≠ I ∧ p ≠ S := hp.elim (nref hva) (nref hb)
      exact hk2 p o hn.1 (hkeep p o hn.1 hn.2 e)
    refine wpAny_bind (wpAny_holding (wpAny_truthy_bool ?_))
    refine wpAny_bind (wpAny_letGo (wpAny_pure ?_))
    cases hlx : lexLt b a with
    | true =>
      rw [hlx] at hR
      rw [if_pos rfl] at hR ⊢
      refine wpAny_bind ?_
      refine wpAny_updateSeq hS' rfl (wpAny_bind (wpAny_letGo ?_))
      rw [hname]
      have up : ∀ p o, p ≠ I → p ≠ S → s.heap.get? p = some o → _ = some o := fun p o hpI hpS e => (Heap.get?_update_other h' (Obj.mapSeq fun _ => #[v, v]) (Ne.symm hpS)).trans (hk2 p o hpI e)
      refine wpAny_pure ⟨plainId_quiet F.plain_max_loop _, ih (j + 1) _ a v _ (by omega) hlt ?_ ?_ hva (fun p o hpI hpS e => up p o hpI hpS (hkeep p o hpI hpS e)) (Heap.get?_update_self _ hS' rfl)
        fun v' h'' tk'' hP' hk'' => hR v' h'' tk'' hP' fun p o hpI hpS e => hk'' p o hpI hpS (up p o hpI hpS e)⟩
      · exact hst'.1.at fun o e => (Heap.get?_update_other _ _ hSI).trans e
      · exact hst'.2.at fun o e => (Heap.get?_update_other _ _ hSl).trans e
    | false =>
      rw [hlx] at hR
      rw [if_neg Bool.false_ne_true] at hR ⊢
      refine wpAny_bind (wpAny_letGo ?_)
      rw [hname]
      refine wpAny_pure ⟨plainId_quiet F.plain_max_loop _, ih (j + 1) _ b vb c (by omega) hlt hst'.1 hst'.2 hb (fun p o hpI hpS e => hk2 p o hpI (hkeep p o hpI hpS e)) hS'
        fun v' h'' tk'' hP' hk'' => hR v' h'' tk'' hP' fun p o hpI hpS e => hk'' p o hpI hpS (hk2 p o hpI e)⟩
theorem call_max_ways {s : Shared} {h₁ : Heap} {l : Addr} {refs : List Value} {w0 : List Nat} {ws : List (List Nat)} {Q : Value → Shared → Prop} (hh : A.handled = none) (hu : A.in1.units < cLine) (hl : s.heap.IsList l refs.toArray) (hal : Al (IsWay h₁) (w0 :: ws) refs) (hk1 : ∀ p o, h₁.get? p = some o → s.heap.get? p = some o)
    (h : ∀ v h' tk, IsWay h₁ (maxW w0 ws) v → (∀ p o, s.heap.get? p = some o → h'.get? p = some o) → Q v { s with heap := h', toks := tk }) :
    wpAny (model prog w) A (call (.builtin "max") [.ref l]) Q E s := by
  have hname : (toString "max" ++ toString ".loop" : String) = "max.loop" := by decide
  cases hal with
  | @cons _ v0 _ rs r0 hr =>
  refine call_function_tree F.kind_max F.plain_max F.entry_max (F.args_max1 _) ?_
  show wpAny _ A.in1 (Builtin.Builtins.bindParams "max" ["key", "default"] 0 ⟨[], []⟩ >>= _) _ _ s
  refine wpAny_bind (wpAny_of_eq (show Builtin.Builtins.bindParams "max" ["key", "default"] 0 ⟨[], []⟩ = pure [none, none] from rfl) ?_)
  refine wpAny_bind (wpAny_pure ?_)
  have hlt : l < s.heap.objs.size := by obtain ⟨_, e, _⟩ := hl; exact Heap.lt_size e
  refine wpAny_bind (wpAny_pyIter_list hl ?_)
  refine wpAny_bind (wpAny_newObj_type ?_)
  rw [hname]
  generalize hI : s.heap.objs.size = I at *
  generalize hH : s.heap.push { cls := .type "list_iterator", data := .fields #[.ref l, .int 0 0] } = H2
  have hsz : H2.objs.size = I + 1 := by rw [← hH, Heap.size_push, hI]
  dsimp only
  have old2 : ∀ p o, s.heap.get? p = some o → H2.get? p = some o := fun p o e => hH ▸ Heap.get?_push_of_some _ e
  have old3 : ∀ p o, s.heap.get? p = some o → (H2.push { cls := .type "list", dict := none, data := .seq ([] : List Value).toArray }).get? p = some o := fun p o e => Heap.get?_push_of_some _ (old2 p o e)
  have none_ge : ∀ a, I ≤ a → h₁.get? a = none := fun a ha => by
    cases e : h₁.get? a with
    | none => rfl
    | some o => exact absurd (Heap.lt_size (hk1 _ _ e)) (Nat.not_lt.mpr (hI ▸ ha))
  have hlI : l ≠ I := Nat.ne_of_lt hlt
  have hSI : H2.objs.size ≠ I := by rw [hsz]; exact Nat.succ_ne_self I
  have hSl : H2.objs.size ≠ l := by rw [hsz]; exact Nat.ne_of_gt (Nat.lt_succ_of_lt hlt)
  have W := Walks.list (prog := prog) (w := w) (A := A.in1) hh I l hlI (v0 :: rs).toArray
  have hit : H2.IsListIter I l 0 := hH ▸ ⟨_, hI ▸ Heap.get?_push_size _ rfl, rfl, rfl⟩
  have hl2 : H2.IsList l (v0 :: rs).toArray := hl.at fun o e => old2 l o e
  have hS0 : (H2.push { cls := .type "list", dict := none, data := .seq ([] : List Value).toArray }).get? H2.objs.size = some { cls := .type "list", dict := none, data := .seq #[] 0, slots := #[] } := Heap.get?_push_size _ rfl
  refine wpAny_pure ⟨plainId_quiet F.plain_max_loop _, ?_⟩
  refine codeAny_builtin F.entry_max_loop ?_
  rw [Around.under_plainId F.plain_max_loop _]
  show wpAny _ A.in1 (seqItems? (.ref H2.objs.size) >>= _) _ _ _
  refine wpAny_bind (wpAny_seqItems hS0 rfl ?_)
  show wpAny _ A.in1 (tryCatch (pyNext (.ref I)) _ >>= _) _ _ _
  refine wpAny_bind (wpAny_tryCatch (W.item 0 _ _ _ (by simp) ⟨hit.at fun o e => Heap.get?_push_of_some _ e, hl2.at fun o e => Heap.get?_push_of_some _ e⟩ fun v h' tk hP hst' hk' => ?_))
  have hk2 : ∀ p o, p ≠ I → _ = some o → h'.get? p = some o := fun p o hp e => hk' p o (by simpa using hp) e
  have hS' := hk2 H2.objs.size _ hSI hS0
  have hv : v = v0 := by simpa using hP.symm
  subst hv
  show wpAny _ A.in1 (updateSeq H2.objs.size (fun _ => #[v, v]) >>= _) _ _ _
  refine wpAny_bind ?_
  refine wpAny_updateSeq hS' rfl ?_
  rw [hname]
  have up : ∀ p o, p ≠ I → p ≠ H2.objs.size → h'.get? p = some o → _ = some o := fun p o hpI hpS e => (Heap.get?_update_other h' (Obj.mapSeq fun _ => #[v, v]) (Ne.symm hpS)).trans e
  have low : ∀ p o, s.heap.get? p = some o → p ≠ I ∧ p ≠ H2.objs.size := fun p o e => by
    have := Heap.lt_size e
    rw [hI] at this
    exact ⟨Nat.ne_of_lt this, by rw [hsz]; exact Nat.ne_of_lt (Nat.lt_succ_of_lt this)⟩
  refine wpAny_pure ⟨plainId_quiet F.plain_max_loop _, ways_max_loop (h₁ := h₁) (refs := v :: rs) (ways := w0 :: ws) hh hu (.cons r0 hr) hlI hSl hSI (none_ge I (Nat.le_refl _)) (none_ge _ (by rw [hsz]; exact Nat.le_succ _)) _ 1 _ w0 v _ rfl (by simp) ?_ ?_ r0
    (fun p o hpI hpS e => up p o hpI hpS (hk2 p o hpI (old3 p o (hk1 p o e)))) (Heap.get?_update_self _ hS' rfl) fun v' h'' tk'' hP' hk'' => ?_⟩
  · exact hst'.1.at fun o e => (Heap.get?_update_other _ _ hSI).trans e
  · exact hst'.2.at fun o e => (Heap.get?_update_other _ _ hSl).trans e
  · refine h v' h'' tk'' hP' fun p o e => ?_
    obtain ⟨n1, n2⟩ := low p o e
    exact hk'' p o n1 n2 (up p o n1 n2 (hk2 p o n1 (old3 p o e)))
end

end
end
section
open PySem PySem.W PyProof.Rows PySem.Calls
local macro_rules | `(tactic| walk_at "call builtin:len") => `(tactic| (k_here; (with_reducible show wpAny _ _ (call (Value.builtin "len") [Value.ref _]) _ _ _); refine Hold.out ?_))
set_option hygiene false
local macro_rules | `(tactic| walk_at "call ref") => `(tactic| refine Hold.out ?_)
set_option hygiene true
section
open PySem PySem.W PyProof.Rows
set_option hygiene false
local macro_rules | `(tactic| omega) => `(tactic| first | w_left | (refine Nat.ne_of_lt ?_; w_left) | (refine Nat.ne_of_gt ?_; w_left) | lia | fail "no chain")
set_option hygiene true
section
open PySem PySem.W PyProof.Rows PySem.Calls
example : True := by
  w_top off
  trivial
set_option maxRecDepth 100000
set_option maxHeartbeats 1000000


noncomputable def lawBS : List Stmt × Scope := match PySem.Challenge.pw_pe0220_01.main.body.getLast? with
  | some (.FunctionDef _ _ b _ _ _ sc _ _ _) => (b, sc)
  | _ => ([], default)
noncomputable def lawS (k : Nat) : Stmt := lawBS.1.getD k (.Pass default)
noncomputable def lawScope : Scope := lawBS.2
noncomputable abbrev lawEnv (L : Addr) : Env := envOfC (Str.ofString "law") lawScope L 234 (.ref 233)

theorem Al.ints {f : Int → Int} {l : List Int} {ys : List Value} (h : Al (fun k v => ∃ t, v = .int (f k) t) l ys) : IntsAre ys (l.map f) := by
  induction h with
  | nil => exact .nil
  | cons r _ ih => obtain ⟨t, rfl⟩ := r; exact .cons _ t ih
theorem news_low {h₀ h h' : Heap} {L : Addr} {news : List (Addr × Obj)} (k : ∀ b o, h₀.get? b = some o → h.get? b = some o) (N : News h L h' news) : News h₀ L h' news := fun p hp => ⟨(N p hp).1, (N p hp).2.1, by
  cases q : h₀.get? p.1 with
  | none => rfl
  | some o => have := k _ _ q; rw [(N p hp).2.2] at this; cases this⟩
theorem News.add {s s' : Shared} {h₀ : Heap} {L a : Addr} {o : Obj} {m : Str → Option Value} {news : List (Addr × Obj)} (F : Fr h₀ L s.heap m) (N : News h₀ L s'.heap news) (x : Fresh s s' a o) : News h₀ L s'.heap ((a, o) :: news) := fun p hp => by
  rcases List.mem_cons.mp hp with rfl | hp
  · refine ⟨x.get, fun e => ?_, ?_⟩
    · obtain ⟨oL, a1, a2, hLo, a3⟩ := F.ns
      have := x.new
      rw [show a = L from e, hLo] at this; cases this
    · cases q : h₀.get? a with
      | none => rfl
      | some o' => have := F.keep _ _ q; rw [x.new] at this; cases this
  · exact N p hp
theorem News.ne {h₀ h : Heap} {L a b : Addr} {o o' : Obj} {news : List (Addr × Obj)} (N : News h₀ L h news) (h1 : (a, o) ∈ news) (h2 : (b, o') ∈ news) (hne : o.data ≠ o'.data) : @Ne Nat a b := fun e => by
  have g1 := (N _ h1).1
  have g2 := (N _ h2).1
  dsimp only at g1 g2
  rw [show a = b from e, g2] at g1
  exact hne (congrArg Obj.data (Option.some.inj g1)).symm

noncomputable def numsOf (xs : List Int) : List Int := (((xs.take 5).map (· % 1000000)) ++ [5, 1, 31]).take 5
noncomputable def wdOf (xs : List Int) : Int := (numsOf xs).sum.fmod 12 + 3
theorem numsOf_len (xs : List Int) : 3 ≤ (numsOf xs).length ∧ (numsOf xs).length ≤ 5 := by
  unfold numsOf; simp only [List.length_take, List.length_append, List.length_map, List.length_cons, List.length_nil]; exact ⟨Nat.le_min.mpr ⟨by decide, Nat.le_add_left (0 + 1 + 1 + 1) _⟩, Nat.min_le_left _ _⟩
theorem wdOf_le (xs : List Int) : 3 ≤ wdOf xs ∧ wdOf xs ≤ 14 := by
  unfold wdOf
  rw [Int.fmod_eq_emod_of_nonneg _ (by decide)]
  have h1 := Int.emod_nonneg (numsOf xs).sum (by decide : (12 : Int) ≠ 0)
  have h2 := Int.emod_lt_of_pos (numsOf xs).sum (by decide : (0 : Int) < 12)
  exact ⟨Int.le_add_of_nonneg_left h1, Int.add_le_add_right (Int.le_of_lt_add_one (b := 11) h2) 3⟩

theorem st0 {w : World} {mg mb : Str → Option Value} {A : Around} {s : Shared} {h₀ : Heap} {E : Value → Shared → Prop} {m : Str → Option Value} {L : Addr} {Mid : Shared → Prop} {o6 o5 o4 o3 o2 o1 : Obj} {sl : Addr} {vs : List Value} {xs : List Int} {p1 p2 : Array Value}
    (C : Cx w mg mb h₀) (M : ∃ bm ob, BMod h₀ mainGlobals mg bm ob) (hh : A.handled = none) (hu : A.units + 600 < cLine) (hroom : A.depth + 90 < recursionLimit) (F : Fr h₀ L s.heap m) (N : News h₀ L s.heap [(L + 1 + 1 + 1 + 1 + 1 + 1, o6), (L + 1 + 1 + 1 + 1 + 1, o5), (L + 1 + 1 + 1 + 1, o4), (L + 1 + 1 + 1, o3), (L + 1 + 1, o2), (L + 1, o1), (140, tabObj p1), (147, tabObj p2)]) (m1 : m (Str.ofString "script") = some (.ref sl))
    (hl : h₀.IsList sl vs.toArray) (hi : IntsAre vs xs) (hn : xs.length ≤ 63)
    (hQ : ∀ h tk m' rn zs, Fr h₀ L h m' → News h₀ L h [(rn, W.listOf zs.toArray 0), (L + 1 + 1 + 1 + 1 + 1 + 1, o6), (L + 1 + 1 + 1 + 1 + 1, o5), (L + 1 + 1 + 1 + 1, o4), (L + 1 + 1 + 1, o3), (L + 1 + 1, o2), (L + 1, o1), (140, tabObj p1), (147, tabObj p2)] → m' (Str.ofString "numbers") = some (.ref rn) → IntsAre zs (numsOf xs) → Mid { s with heap := h, toks := tk }) :
    wpAny (model PR w) (A.deeper (lawEnv L)) (exec (lawS 0) (lawEnv L)) (fun f s' => Reach (f = .next ∧ Mid s')) E s := by
  have C' := C
  obtain ⟨X, T⟩ := C
  unfold lawEnv
  conv in (occs := *) lawScope => all_goals whnf
  conv in (lawS 0) => whnf
  k_steps
  refine Hold.mk ?_
  refine LCg.ListComp_U (F₀ := F) rfl (by decide) rfl (by decide) rfl ?_
  k_steps
  refine Hold.mk ?_
  rename IntsAre _ (List.take 5 xs) => hI5
  rename Fr _ _ _ _ => F2
  rename News _ _ _ _ => N2
  refine LCg.CompSrc.ledger hh F2 N2 (.head _) (by rw [List.size_toArray, hI5.length, sizeLine_eq, List.length_take]; omega) fun g => ?_
  refine rest_U (ks := xs.take 5) (fun k v => ∃ t, v = .int (k % 1000000) t) (by rw [List.size_toArray, hI5.length]) ?_ ?_
  · rintro j k v I oI CC oC D m₂ ys h4 tk4 E' hk hv hCC hx F4 N4 off ne
    obtain ⟨k', t, e, hk'⟩ := IntsAre.at hI5 j v (by simpa using hv)
    rw [hk] at hk'; cases hk'; subst e
    clear hv
    k_steps
    exact ⟨_, _, _, rfl, F4, N4, off, .inr ⟨_, .head _, rfl, _, rfl⟩, rfl, _, congrArg (fun z => Value.int z _) (Int.fmod_eq_emod_of_nonneg _ (by decide))⟩
  · intro ys hys Dk h5 tk5 F5 N5 off5
    k_steps
    refine Hold.mk ?_
    rename Fr _ _ _ _ => F6
    rename News _ _ _ _ => N6
    have hiy : IntsAre ys ((xs.take 5).map (· % 1000000)) := hys.ints
    refine kmk_add_ints F6 N6 (newsList N6 (.tail _ (.head _))) (newsList N6 (.head _)) hiy (.cons 5 _ (.cons 1 _ (.cons 31 _ .nil))) (fun D7 us h7 F7 N7 l7 hiu => ?_) (by simp [sizeLine_eq]; omega)
    k_lt l7
    k_steps
    refine Hold.mk ?_
    have hul : us.length ≤ 8 := by rw [hiu.length]; simp; omega
    refine slice_temp F7 N7 (newsList N7 (.head _)) .none (.int _ _) (fun h8 F8 N8 => ?_) (hsz := by rw [List.size_toArray, sizeLine_eq]; omega)
    have hi8 := slice_ints_uptoW hiu (y := 5) (by decide)
    obtain ⟨zs, hzs⟩ : ∃ zs : List Value, slicePick us.toArray none (some 5) none = zs.toArray := ⟨_, (Array.toArray_toList ..).symm⟩
    rw [hzs] at N8 hi8
    rw [List.toList_toArray] at hi8
    k_steps
    rename Fr _ _ _ _ => F9
    rename News _ _ _ _ => N9
    refine Reach.mk ⟨trivial, hQ _ _ _ _ zs F9 (fun p hp => N9 p ?_) rfl hi8⟩
    rcases List.mem_cons.mp hp with rfl | hp
    · exact .head _
    · exact List.mem_of_mem_drop (i := 5) (by exact hp)
theorem st1 {w : World} {mg mb : Str → Option Value} {A : Around} {s : Shared} {h₀ : Heap} {E : Value → Shared → Prop} {m : Str → Option Value} {L : Addr} {Mid : Shared → Prop} {o6 o5 o4 o3 o2 o1 : Obj} {rn : Addr} {zs : List Value} {xs : List Int} {p1 p2 : Array Value}
    (C : Cx w mg mb h₀) (M : ∃ bm ob, BMod h₀ mainGlobals mg bm ob) (hh : A.handled = none) (hu : A.units + 600 < cLine) (hroom : A.depth + 90 < recursionLimit) (F : Fr h₀ L s.heap m) (N : News h₀ L s.heap [(rn, W.listOf zs.toArray 0), (L + 1 + 1 + 1 + 1 + 1 + 1, o6), (L + 1 + 1 + 1 + 1 + 1, o5), (L + 1 + 1 + 1 + 1, o4), (L + 1 + 1 + 1, o3), (L + 1 + 1, o2), (L + 1, o1), (140, tabObj p1), (147, tabObj p2)]) (m1 : m (Str.ofString "numbers") = some (.ref rn))
    (hi : IntsAre zs (numsOf xs))
    (hQ : ∀ h tk m' tw, Fr h₀ L h m' → News h₀ L h [(rn, W.listOf zs.toArray 0), (L + 1 + 1 + 1 + 1 + 1 + 1, o6), (L + 1 + 1 + 1 + 1 + 1, o5), (L + 1 + 1 + 1 + 1, o4), (L + 1 + 1 + 1, o3), (L + 1 + 1, o2), (L + 1, o1), (140, tabObj p1), (147, tabObj p2)] → m' (Str.ofString "numbers") = some (.ref rn) → m' (Str.ofString "width") = some (.int (wdOf xs) tw) → Mid { s with heap := h, toks := tk }) :
    wpAny (model PR w) (A.deeper (lawEnv L)) (exec (lawS 1) (lawEnv L)) (fun f s' => Reach (f = .next ∧ Mid s')) E s := by
  have C' := C
  obtain ⟨X, T⟩ := C
  unfold lawEnv
  conv in (occs := *) lawScope => all_goals whnf
  conv in (lawS 1) => whnf
  k_steps
  refine LSm.sum_ints F N hh (newsList N (.head _)) hi fun h10 tk10 t10 F10 N10 => ?_
  k_steps
  rename Fr _ _ _ _ => F11
  rename News _ _ _ _ => N11
  refine Reach.mk ⟨trivial, hQ _ _ _ _ F11 (fun p hp => N11 p ?_) ?_ rfl⟩
  · first | exact hp | exact .tail _ hp | exact .tail _ (.tail _ hp)
  · first | exact m1 | exact (if_neg (by decide)).trans m1

end
section
open PySem PySem.W PyProof.Rows PySem.Calls
example : True := by
  w_top off
  trivial
set_option maxRecDepth 100000
set_option maxHeartbeats 1000000

theorem News.pick {h₀ h : Heap} {L : Addr} {news rest : List (Addr × Obj)} {p : Addr × Obj} (N : News h₀ L h news) (h1 : p ∈ news) (h2 : News h₀ L h rest) : News h₀ L h (p :: rest) := fun q hq => by
  rcases List.mem_cons.mp hq with rfl | hq
  · exact N _ h1
  · exact h2 q hq
theorem st2 {w : World} {mg mb : Str → Option Value} {A : Around} {s : Shared} {h₀ : Heap} {E : Value → Shared → Prop} {m : Str → Option Value} {L : Addr} {Mid : Shared → Prop} {o6 o5 o4 o3 o2 o1 : Obj} {rn : Addr} {zs : List Value} {ns : List Int} {p1 p2 : Array Value} {v6 v5 v4 v3 v2 v1 : Option Value}
    (C : Cx w mg mb h₀) (M : ∃ bm ob, BMod h₀ mainGlobals mg bm ob) (hh : A.handled = none) (hu : A.units + 600 < cLine) (hroom : A.depth + 90 < recursionLimit) (F : Fr h₀ L s.heap m) (N : News h₀ L s.heap [(rn, W.listOf zs.toArray 0), (L + 1 + 1 + 1 + 1 + 1 + 1, o6), (L + 1 + 1 + 1 + 1 + 1, o5), (L + 1 + 1 + 1 + 1, o4), (L + 1 + 1 + 1, o3), (L + 1 + 1, o2), (L + 1, o1), (140, tabObj p1), (147, tabObj p2)]) (m1 : m (Str.ofString "numbers") = some (.ref rn)) (e1 : o1.data = .cell v1)
    (hi : IntsAre zs ns) (hn1 : 1 ≤ ns.length) (hn5 : ns.length ≤ 5) {wd : Int} {tw : Tok} (m2 : m (Str.ofString "width") = some (.int wd tw))
    (hQ : ∀ s' m' rw ro vW vO nW o1' tS, s'.os = s.os → GX s.gens s'.gens → Fr h₀ L s'.heap m' → News h₀ L s'.heap [(rw, W.listOf vW.toArray nW), (ro, W.listOf vO.toArray 0), (L + 1 + 1 + 1 + 1 + 1 + 1, o6), (L + 1 + 1 + 1 + 1 + 1, o5), (L + 1 + 1 + 1 + 1, o4), (L + 1 + 1 + 1, o3), (L + 1 + 1, o2), (L + 1, o1'), (140, tabObj p1), (147, tabObj p2)] → m' (Str.ofString "words") = some (.ref rw) → m' (Str.ofString "outside") = some (.ref ro) → m' (Str.ofString "width") = some (.int wd tw) →
      o1'.data = .cell (some (.str (wordsEnd (wordsAll ns)).2.2 tS)) → StrsAre vW (wordsEnd (wordsAll ns)).1 → BoolsAre vO (wordsEnd (wordsAll ns)).2.1 → Mid s') :
    wpAny (model PR w) (A.deeper (lawEnv L)) (exec (lawS 2) (lawEnv L)) (fun f s' => Reach (f = .next ∧ Mid s')) E s := by
  have C' := C
  obtain ⟨X, T⟩ := C
  unfold lawEnv
  conv in (occs := *) lawScope => all_goals whnf
  conv in (lawS 2) => whnf
  k_steps
  refine Hold.mk ?_
  have hkk := F.keep
  refine c_words (C'.keeps hkk) hh (by show A.depth + 1 + 20 < recursionLimit; omega) (by show A.units + 3 + 200 < cLine; omega) (newsList N (.head _)) hi hn1 hn5 fun t rw ro vW vO nW u s2 ex ft fw fo hW hO => ?_
  have F2 := F.keeps ex.keep
  have N2 := News.keeps N ex.keep
  have N3 := News.add F (News.add F (News.add F N2 fo) fw) ft
  have big : @LT.lt Nat _ 234 L := Nat.lt_of_lt_of_le C'.big F.above
  clear N2 N
  k_steps
  k_dflt (refine' unpackN_ F2 N3 (News.isTup N3 (by k_mem)) ?k1 ?k2 ?k3 ?_; (case k1 => exact hh); (case k2 => exact rfl); (case k3 => exact rfl))
  intro h4 F4 N4
  have q1 : @Ne Nat t (L + 1) := News.ne N3 (by k_mem) (by k_mem) (by rw [e1]; intro h; cases h)
  have q2 : @Ne Nat rw (L + 1) := News.ne N3 (by k_mem) (by k_mem) (by rw [e1]; intro h; cases h)
  have q3 : @Ne Nat ro (L + 1) := News.ne N3 (by k_mem) (by k_mem) (by rw [e1]; intro h; cases h)
  have q4 : @Ne Nat rn (L + 1) := News.ne N3 (by k_mem) (by k_mem) (by rw [e1]; intro h; cases h)
  clear N3 F2
  k_steps
  rename Fr _ _ _ _ => F9
  rename News _ _ _ _ => N9
  rename Obj.data _ = Data.cell (some _) => e9
  exact Reach.mk ⟨trivial, hQ _ _ rw ro vW vO nW _ _ ex.os ex.gens F9 (by repeat (first | exact News.nil | refine News.pick N9 (by k_mem) ?_)) rfl rfl (by first | exact rfl | exact m2 | exact (if_neg (by decide)).trans m2 | exact (if_neg (by decide)).trans ((if_neg (by decide)).trans m2)) e9 hW hO⟩

end
section
open PySem PySem.W PyProof.Rows PySem.Calls
example : True := by
  w_top off
  trivial
set_option maxRecDepth 100000
set_option maxHeartbeats 1000000

theorem st3 {w : World} {mg mb : Str → Option Value} {A : Around} {s : Shared} {h₀ : Heap} {E : Value → Shared → Prop} {m : Str → Option Value} {L : Addr} {Mid : Shared → Prop} {o6 o5 o4 o3 o2 o1 : Obj} {rw ro : Addr} {vW vO : List Value} {nW : Nat} {p1 p2 : Array Value} {v2 : Option Value} {n : Nat}
    (C : Cx w mg mb h₀) (M : ∃ bm ob, BMod h₀ mainGlobals mg bm ob) (hh : A.handled = none) (hu : A.units + 600 < cLine) (hroom : A.depth + 90 < recursionLimit) (F : Fr h₀ L s.heap m) (N : News h₀ L s.heap [(rw, W.listOf vW.toArray nW), (ro, W.listOf vO.toArray 0), (L + 1 + 1 + 1 + 1 + 1 + 1, o6), (L + 1 + 1 + 1 + 1 + 1, o5), (L + 1 + 1 + 1 + 1, o4), (L + 1 + 1 + 1, o3), (L + 1 + 1, o2), (L + 1, o1), (140, tabObj p1), (147, tabObj p2)]) (m1 : m (Str.ofString "words") = some (.ref rw)) (m2 : m (Str.ofString "outside") = some (.ref ro)) {wd : Int} {tw : Tok} (m3 : m (Str.ofString "width") = some (.int wd tw)) (e2 : o2.data = .cell v2)
    (hv : vW.length = n) (hn5 : n ≤ 5)
    (hQ : ∀ s' m' o2' tC, s'.os = s.os → s'.gens = s.gens → Fr h₀ L s'.heap m' → News h₀ L s'.heap [(rw, W.listOf vW.toArray nW), (ro, W.listOf vO.toArray 0), (L + 1 + 1 + 1 + 1 + 1 + 1, o6), (L + 1 + 1 + 1 + 1 + 1, o5), (L + 1 + 1 + 1 + 1, o4), (L + 1 + 1 + 1, o3), (L + 1 + 1, o2'), (L + 1, o1), (140, tabObj p1), (147, tabObj p2)] → m' (Str.ofString "words") = some (.ref rw) → m' (Str.ofString "outside") = some (.ref ro) → m' (Str.ofString "width") = some (.int wd tw) →
      o2'.data = .cell (some (.int (n : Nat) tC)) → Mid s') :
    wpAny (model PR w) (A.deeper (lawEnv L)) (exec (lawS 3) (lawEnv L)) (fun f s' => Reach (f = .next ∧ Mid s')) E s := by
  have C' := C
  obtain ⟨X, T⟩ := C
  unfold lawEnv
  conv in (occs := *) lawScope => all_goals whnf
  conv in (lawS 3) => whnf
  have big : @LT.lt Nat _ 234 L := Nat.lt_of_lt_of_le C'.big F.above
  have q2 : @Ne Nat rw (L + 1 + 1) := News.ne N (by k_mem) (by k_mem) (by rw [e2]; intro h; cases h)
  have q3 : @Ne Nat ro (L + 1 + 1) := News.ne N (by k_mem) (by k_mem) (by rw [e2]; intro h; cases h)
  k_steps
  refine Hold.mk ?_
  refine len_list (newsList N (.head _)) (by rw [List.size_toArray]; omega) ?_
  rw [List.size_toArray, hv]
  k_steps
  rename Fr _ _ _ _ => F9
  rename News _ _ _ _ => N9
  rename Obj.data _ = Data.cell (some _) => e9
  exact Reach.mk ⟨trivial, hQ _ _ _ _ rfl rfl F9 (by repeat (first | exact News.nil | refine News.pick N9 (by k_mem) ?_)) (by first | exact rfl | exact m1 | exact (if_neg (by decide)).trans m1 | exact (if_neg (by decide)).trans ((if_neg (by decide)).trans m1)) (by first | exact rfl | exact m2 | exact (if_neg (by decide)).trans m2 | exact (if_neg (by decide)).trans ((if_neg (by decide)).trans m2)) (by first | exact rfl | exact m3 | exact (if_neg (by decide)).trans m3 | exact (if_neg (by decide)).trans ((if_neg (by decide)).trans m3)) e9⟩
theorem IsDictOf.nocell {K : Type} [DecidableEq K] {prog : Program} {w : World} {knd : KeyKind prog w K} {o : Obj} {kvs : List (K × Value)} (h : o.IsDictOf knd kvs) (v : Option Value) : o.data ≠ .cell v := by
  obtain ⟨_, _, _, hd, _⟩ := h
  rw [hd]; intro e; cases e
theorem st4 {w : World} {mg mb : Str → Option Value} {A : Around} {s : Shared} {h₀ : Heap} {E : Value → Shared → Prop} {m : Str → Option Value} {L : Addr} {Mid : Shared → Prop} {o6 o5 o4 o3 o2 o1 : Obj} {rw ro : Addr} {vW vO : List Value} {nW : Nat} {p1 p2 : Array Value} {v3 : Option Value} {ws : List Str}
    (C : Cx w mg mb h₀) (M : ∃ bm ob, BMod h₀ mainGlobals mg bm ob) (hh : A.handled = none) (hu : A.units + 600 < cLine) (hroom : A.depth + 90 < recursionLimit) (F : Fr h₀ L s.heap m) (N : News h₀ L s.heap [(rw, W.listOf vW.toArray nW), (ro, W.listOf vO.toArray 0), (L + 1 + 1 + 1 + 1 + 1 + 1, o6), (L + 1 + 1 + 1 + 1 + 1, o5), (L + 1 + 1 + 1 + 1, o4), (L + 1 + 1 + 1, o3), (L + 1 + 1, o2), (L + 1, o1), (140, tabObj p1), (147, tabObj p2)]) (m1 : m (Str.ofString "words") = some (.ref rw)) (m2 : m (Str.ofString "outside") = some (.ref ro)) {wd : Int} {tw : Tok} (m3 : m (Str.ofString "width") = some (.int wd tw)) (e3 : o3.data = .cell v3)
    (hi : StrsAre vW ws) (hn1 : 1 ≤ ws.length) (hn5 : ws.length ≤ 5) (hw : ∀ x ∈ ws, x.length ≤ 15)
    (hQ : ∀ s' m' o3' d oS kS, s'.os = s.os → GX s.gens s'.gens → Fr h₀ L s'.heap m' → News h₀ L s'.heap [(d, oS), (rw, W.listOf vW.toArray nW), (ro, W.listOf vO.toArray 0), (L + 1 + 1 + 1 + 1 + 1 + 1, o6), (L + 1 + 1 + 1 + 1 + 1, o5), (L + 1 + 1 + 1 + 1, o4), (L + 1 + 1 + 1, o3'), (L + 1 + 1, o2), (L + 1, o1), (140, tabObj p1), (147, tabObj p2)] → m' (Str.ofString "words") = some (.ref rw) → m' (Str.ofString "outside") = some (.ref ro) → m' (Str.ofString "width") = some (.int wd tw) →
      o3'.data = .cell (some (.ref d)) → oS.IsDictOf (intKind PR w) kS → PD ws.length (fun a b => IsStrV (spanS ws a b)) (fun _ _ => True) kS → kS.length ≤ 25 → (d == sysModules) = false → Mid s') :
    wpAny (model PR w) (A.deeper (lawEnv L)) (exec (lawS 4) (lawEnv L)) (fun f s' => Reach (f = .next ∧ Mid s')) E s := by
  have C' := C
  obtain ⟨X, T⟩ := C
  unfold lawEnv
  conv in (occs := *) lawScope => all_goals whnf
  conv in (lawS 4) => whnf
  have big : @LT.lt Nat _ 234 L := Nat.lt_of_lt_of_le C'.big F.above
  k_steps
  refine Hold.mk ?_
  refine c_spans (C'.keeps F.keep) hh (by show A.depth + 1 + 20 < recursionLimit; omega) (by show A.units + 3 + 200 < cLine; omega) (newsList N (.head _)) hi hn1 hn5 (fun x hx => Nat.le_trans (hw x hx) (by decide)) fun d oS kS s2 ex fd hd pd hk25 hsys => ?_
  have F2 := F.keeps ex.keep
  have N3 := News.add F (News.keeps N ex.keep) fd
  have q1 : @Ne Nat d (L + 1 + 1 + 1) := News.ne N3 (by k_mem) (by k_mem) (by rw [e3]; exact IsDictOf.nocell hd _)
  have q2 : @Ne Nat rw (L + 1 + 1 + 1) := News.ne N3 (by k_mem) (by k_mem) (by rw [e3]; intro h; cases h)
  have q3 : @Ne Nat ro (L + 1 + 1 + 1) := News.ne N3 (by k_mem) (by k_mem) (by rw [e3]; intro h; cases h)
  clear N F
  k_steps
  rename Fr _ _ _ _ => F9
  rename News _ _ _ _ => N9
  rename Obj.data _ = Data.cell (some _) => e9
  exact Reach.mk ⟨trivial, hQ _ _ _ _ _ _ ex.os ex.gens F9 (by repeat (first | exact News.nil | refine News.pick N9 (by k_mem) ?_)) (by first | exact rfl | exact m1 | exact (if_neg (by decide)).trans m1 | exact (if_neg (by decide)).trans ((if_neg (by decide)).trans m1)) (by first | exact rfl | exact m2 | exact (if_neg (by decide)).trans m2 | exact (if_neg (by decide)).trans ((if_neg (by decide)).trans m2)) (by first | exact rfl | exact m3 | exact (if_neg (by decide)).trans m3 | exact (if_neg (by decide)).trans ((if_neg (by decide)).trans m3)) e9 hd pd hk25 hsys⟩

end
section
open PySem PySem.W PyProof.Rows PySem.Calls
example : True := by
  w_top off
  trivial
set_option maxRecDepth 100000
set_option maxHeartbeats 1000000

set_option hygiene false
local macro_rules | `(tactic| walk_at "eval DictComp") => `(tactic| refine Hold.out ?_)
set_option hygiene true
theorem StoredL.facts {R : Int → Value → Value → Prop} {l kvs : List (Int × Value)} (h : StoredL R l kvs) : (∀ k y, (k, y) ∈ kvs → ∃ x, (k, x) ∈ l ∧ R k x y) ∧ (∀ k x, (k, x) ∈ l → (valueAt kvs k).isSome = true) := by
  induction h with
  | nil => exact ⟨fun _ _ h => (nomatch h), fun _ _ h => (nomatch h)⟩
  | @snoc l kvs k x y _ hR ih =>
    refine ⟨fun k' y' h => ?_, fun k' x' h => stored_has ?_⟩
    · rcases stored_mem h with ⟨rfl, rfl⟩ | h
      · exact ⟨x, by simp, hR⟩
      · obtain ⟨x', h1, h2⟩ := ih.1 _ _ h
        exact ⟨x', List.mem_append_left _ h1, h2⟩
    · rcases List.mem_append.mp h with h | h
      · exact .inr (ih.2 _ _ h)
      · cases List.mem_singleton.mp h; exact .inl rfl
theorem PD.map {n : Nat} {P P' : Nat → Nat → Value → Prop} {R : Int → Value → Value → Prop} {kS kvs : List (Int × Value)} (pd : PD n P (fun _ _ => True) kS) (h : StoredL R kS kvs) (hP : ∀ a b k x y, P a b x → R k x y → P' a b y) : PD n P' (fun _ _ => True) kvs := by
  obtain ⟨f1, f2⟩ := h.facts
  refine ⟨fun k y hm => ?_, fun a b h1 h2 _ => ?_⟩
  · obtain ⟨x, hx, hR⟩ := f1 k y hm
    obtain ⟨a, b, q1, q2, q3, q4⟩ := pd.all k x hx
    exact ⟨a, b, q1, q2, q3, hP a b k x y q4 hR⟩
  · obtain ⟨v, hv⟩ := Option.isSome_iff_exists.mp (pd.has a b h1 h2 trivial)
    exact f2 _ v (mem_of_valueAt hv)
theorem valueAt_of_mem {w : World} {o : Obj} {kvs : List (Int × Value)} {k : Int} {v : Value} (h : o.IsDictOf (intKind PR w) kvs) (hm : (k, v) ∈ kvs) : valueAt kvs k = some v := by
  obtain ⟨_, _, _, _, _, _, hn⟩ := h
  have key : ∀ l : List (Int × Value), (l.map (·.1)).Nodup → (k, v) ∈ l → valueAt l k = some v := by
    intro l
    induction l with
    | nil => intro _ h; cases h
    | cons p r ih =>
      intro hn hm
      rw [List.map_cons, List.nodup_cons] at hn
      unfold valueAt
      rw [List.find?_cons]
      rcases List.mem_cons.mp hm with e | hm
      · rw [← e]; simp
      · have hne : p.1 ≠ k := fun e => hn.1 (e ▸ List.mem_map_of_mem (f := (·.1)) hm)
        rw [show (decide (p.1 = k)) = false from decide_eq_false hne]
        exact ih hn.2 hm
  exact key kvs hn hm
theorem st5 {w : World} {mg mb : Str → Option Value} {A : Around} {s : Shared} {h₀ : Heap} {E : Value → Shared → Prop} {m : Str → Option Value} {L : Addr} {Mid : Shared → Prop} {o6 o5 o4 o3 o2 o1 : Obj} {rw ro dS : Addr} {oS : Obj} {kS : List (Int × Value)} {vW vO : List Value} {nW : Nat} {p1 p2 : Array Value} {v4 : Option Value} {n : Nat} {sp : Nat → Nat → Str}
    (C : Cx w mg mb h₀) (M : ∃ bm ob, BMod h₀ mainGlobals mg bm ob) (hh : A.handled = none) (hu : A.units + 600 < cLine) (hroom : A.depth + 90 < recursionLimit) (F : Fr h₀ L s.heap m) (N : News h₀ L s.heap [(dS, oS), (rw, W.listOf vW.toArray nW), (ro, W.listOf vO.toArray 0), (L + 1 + 1 + 1 + 1 + 1 + 1, o6), (L + 1 + 1 + 1 + 1 + 1, o5), (L + 1 + 1 + 1 + 1, o4), (L + 1 + 1 + 1, o3), (L + 1 + 1, o2), (L + 1, o1), (140, tabObj p1), (147, tabObj p2)]) (m1 : m (Str.ofString "words") = some (.ref rw)) (m2 : m (Str.ofString "outside") = some (.ref ro)) {wd : Int} {tw : Tok} (m3 : m (Str.ofString "width") = some (.int wd tw)) (e4 : o4.data = .cell v4) (e3 : o3.data = .cell (some (.ref dS)))
    (hS : oS.IsDictOf (intKind PR w) kS) (pS : PD n (fun a b => IsStrV (sp a b)) (fun _ _ => True) kS) (hk25 : kS.length ≤ 25) (hsys : (dS == sysModules) = false) (hsp : ∀ a b, (sp a b).length ≤ 300) (hn5 : n ≤ 5)
    (hQ : ∀ s' m' o4' d oR kR, s'.os = s.os → GX s.gens s'.gens → Fr h₀ L s'.heap m' → News h₀ L s'.heap [(d, oR), (dS, oS), (rw, W.listOf vW.toArray nW), (ro, W.listOf vO.toArray 0), (L + 1 + 1 + 1 + 1 + 1 + 1, o6), (L + 1 + 1 + 1 + 1 + 1, o5), (L + 1 + 1 + 1 + 1, o4'), (L + 1 + 1 + 1, o3), (L + 1 + 1, o2), (L + 1, o1), (140, tabObj p1), (147, tabObj p2)] → m' (Str.ofString "words") = some (.ref rw) → m' (Str.ofString "outside") = some (.ref ro) → m' (Str.ofString "width") = some (.int wd tw) →
      o4'.data = .cell (some (.ref d)) → oR.IsDictOf (intKind PR w) kR → PD n (fun a b => IsStrV (stripF (sp a b))) (fun _ _ => True) kR → Mid s') :
    wpAny (model PR w) (A.deeper (lawEnv L)) (exec (lawS 5) (lawEnv L)) (fun f s' => Reach (f = .next ∧ Mid s')) E s := by
  have C' := C
  obtain ⟨X, T⟩ := C
  unfold lawEnv
  conv in (occs := *) lawScope => all_goals whnf
  conv in (lawS 5) => whnf
  have big : @LT.lt Nat _ 234 L := Nat.lt_of_lt_of_le C'.big F.above
  k_steps
  refine Hold.mk ?_
  refine eval_DX (h₀ := h₀) (L := L) (m := m) (knd := intKind PR w) (R := fun k x y => ∃ z t u, x = .str z t ∧ y = .str (stripF z) u) hh rfl (by decide) rfl (by decide) rfl ?_
  k_steps
  refine Reach.mk ⟨dS, oS, kS, _, rfl, (N _ (.head _)).1, hS, hsys, Nat.le_trans hk25 (by decide), F, N, ?_, ?_, ?_⟩
  · intro C k z v s₃ m₃ E' hm hkv hn hm3 F3 N3
    k_steps
    exact Reach.mk ⟨hkv, Ext.refl _⟩
  · intro C k z v s₃ m₃ E' hm hkv hn hm3 F3 N3
    obtain ⟨a, b, h1, h2, h3, ⟨tz, rfl⟩⟩ := pS.all k z hm
    have hvl := valueAt_of_mem hS hm
    k_steps
    refine Hold.mk ?_
    refine kda_item N3 (.head _) hS hkv hvl ?_
    k_steps
    refine Hold.mk ?_
    rename Fr _ _ _ _ => F5
    refine c_strip (C'.keeps F5.keep) hh (by show A.depth + 1 + 10 < recursionLimit; omega) (Nat.le_trans (hsp a b) (by decide)) fun t' s4 ex => ?_
    exact Reach.mk ⟨⟨_, _, _, rfl, rfl⟩, ⟨fun b o e => ex.keep b o e, ex.os, ex.gens⟩⟩
  · intro D oR s' kR F3 N3 hR hst hos hgx
    have q1 : @Ne Nat D (L + 1 + 1 + 1 + 1) := News.ne N3 (by k_mem) (by k_mem) (by rw [e4]; exact IsDictOf.nocell hR _)
    have q2 : @Ne Nat dS (L + 1 + 1 + 1 + 1) := News.ne N3 (by k_mem) (by k_mem) (by rw [e4]; exact IsDictOf.nocell hS _)
    have q3 : @Ne Nat rw (L + 1 + 1 + 1 + 1) := News.ne N3 (by k_mem) (by k_mem) (by rw [e4]; intro h; cases h)
    have q4 : @Ne Nat ro (L + 1 + 1 + 1 + 1) := News.ne N3 (by k_mem) (by k_mem) (by rw [e4]; intro h; cases h)
    clear F N
    k_steps
    rename Fr _ _ _ _ => F9
    rename News _ _ _ _ => N9
    rename Obj.data _ = Data.cell (some (Value.ref D)) => e9
    refine Reach.mk ⟨by first | rfl | trivial, hQ _ _ _ _ _ _ hos hgx F9 (by repeat (first | exact News.nil | refine News.pick N9 (by k_mem) ?_)) (by first | exact rfl | exact m1 | exact (if_neg (by decide)).trans m1 | exact (if_neg (by decide)).trans ((if_neg (by decide)).trans m1)) (by first | exact rfl | exact m2 | exact (if_neg (by decide)).trans m2 | exact (if_neg (by decide)).trans ((if_neg (by decide)).trans m2)) (by first | exact rfl | exact m3 | exact (if_neg (by decide)).trans m3 | exact (if_neg (by decide)).trans ((if_neg (by decide)).trans m3)) e9 hR (pS.map hst ?_)⟩
    rintro a b k x y ⟨t, rfl⟩ ⟨z, t', u, e, rfl⟩
    injection e with e _; subst e
    exact ⟨u, rfl⟩
theorem st6 {w : World} {mg mb : Str → Option Value} {A : Around} {s : Shared} {h₀ : Heap} {E : Value → Shared → Prop} {m : Str → Option Value} {L : Addr} {Mid : Shared → Prop} {o6 o5 o4 o3 o2 o1 : Obj} {rw ro dS dR : Addr} {oS oR : Obj} {kR : List (Int × Value)} {kS : List (Int × Value)} {vW vO : List Value} {nW : Nat} {p1 p2 : Array Value} {v5 : Option Value} {n : Nat} {sp : Nat → Nat → Str}
    (C : Cx w mg mb h₀) (M : ∃ bm ob, BMod h₀ mainGlobals mg bm ob) (hh : A.handled = none) (hu : A.units + 600 < cLine) (hroom : A.depth + 90 < recursionLimit) (F : Fr h₀ L s.heap m) (N : News h₀ L s.heap [(dR, oR), (dS, oS), (rw, W.listOf vW.toArray nW), (ro, W.listOf vO.toArray 0), (L + 1 + 1 + 1 + 1 + 1 + 1, o6), (L + 1 + 1 + 1 + 1 + 1, o5), (L + 1 + 1 + 1 + 1, o4), (L + 1 + 1 + 1, o3), (L + 1 + 1, o2), (L + 1, o1), (140, tabObj p1), (147, tabObj p2)]) (m1 : m (Str.ofString "words") = some (.ref rw)) (m2 : m (Str.ofString "outside") = some (.ref ro)) {wd : Int} {tw : Tok} (m3 : m (Str.ofString "width") = some (.int wd tw)) (e5 : o5.data = .cell v5) (e3 : o3.data = .cell (some (.ref dS)))
    (hS : oS.IsDictOf (intKind PR w) kS) (hR : oR.IsDictOf (intKind PR w) kR) (pS : PD n (fun a b => IsStrV (sp a b)) (fun _ _ => True) kS) (hk25 : kS.length ≤ 25) (hsys : (dS == sysModules) = false) (hsp : ∀ a b, (sp a b).length ≤ 300) (hn5 : n ≤ 5)
    (hQ : ∀ s' m' o5' d oC kC, s'.os = s.os → GX s.gens s'.gens → Fr h₀ L s'.heap m' → News h₀ L s'.heap [(d, oC), (dR, oR), (dS, oS), (rw, W.listOf vW.toArray nW), (ro, W.listOf vO.toArray 0), (L + 1 + 1 + 1 + 1 + 1 + 1, o6), (L + 1 + 1 + 1 + 1 + 1, o5'), (L + 1 + 1 + 1 + 1, o4), (L + 1 + 1 + 1, o3), (L + 1 + 1, o2), (L + 1, o1), (140, tabObj p1), (147, tabObj p2)] → m' (Str.ofString "words") = some (.ref rw) → m' (Str.ofString "outside") = some (.ref ro) → m' (Str.ofString "width") = some (.int wd tw) →
      o5'.data = .cell (some (.ref d)) → oC.IsDictOf (intKind PR w) kC → PD n (fun a b v => v = .bool (checkF (sp a b))) (fun _ _ => True) kC → Mid s') :
    wpAny (model PR w) (A.deeper (lawEnv L)) (exec (lawS 6) (lawEnv L)) (fun f s' => Reach (f = .next ∧ Mid s')) E s := by
  have C' := C
  obtain ⟨X, T⟩ := C
  unfold lawEnv
  conv in (occs := *) lawScope => all_goals whnf
  conv in (lawS 6) => whnf
  have big : @LT.lt Nat _ 234 L := Nat.lt_of_lt_of_le C'.big F.above
  k_steps
  refine Hold.mk ?_
  refine eval_DX (h₀ := h₀) (L := L) (m := m) (knd := intKind PR w) (R := fun k x y => ∃ z t, x = .str z t ∧ y = .bool (checkF z)) hh rfl (by decide) rfl (by decide) rfl ?_
  k_steps
  refine Reach.mk ⟨dS, oS, kS, _, rfl, (N _ (.tail _ (.head _))).1, hS, hsys, Nat.le_trans hk25 (by decide), F, N, ?_, ?_, ?_⟩
  · intro C k z v s₃ m₃ E' hm hkv hn hm3 F3 N3
    k_steps
    exact Reach.mk ⟨hkv, Ext.refl _⟩
  · intro C k z v s₃ m₃ E' hm hkv hn hm3 F3 N3
    obtain ⟨a, b, h1, h2, h3, ⟨tz, rfl⟩⟩ := pS.all k z hm
    have hvl := valueAt_of_mem hS hm
    k_steps
    refine Hold.mk ?_
    refine kda_item N3 (.tail _ (.head _)) hS hkv hvl ?_
    k_steps
    refine Hold.mk ?_
    rename Fr _ _ _ _ => F5
    refine c_check (C'.keeps F5.keep) hh (by show A.depth + 1 + 20 < recursionLimit; omega) (Nat.le_trans (hsp a b) (by decide)) fun s4 ex => ?_
    exact Reach.mk ⟨⟨_, _, rfl, rfl⟩, ⟨fun b o e => ex.keep b o e, ex.os, ex.gens⟩⟩
  · intro D oC s' kC F3 N3 hC hst hos hgx
    have q1 : @Ne Nat D (L + 1 + 1 + 1 + 1 + 1) := News.ne N3 (by k_mem) (by k_mem) (by rw [e5]; exact IsDictOf.nocell hC _)
    have q2 : @Ne Nat dS (L + 1 + 1 + 1 + 1 + 1) := News.ne N3 (by k_mem) (by k_mem) (by rw [e5]; exact IsDictOf.nocell hS _)
    have q5 : @Ne Nat dR (L + 1 + 1 + 1 + 1 + 1) := News.ne N3 (by k_mem) (by k_mem) (by rw [e5]; exact IsDictOf.nocell hR _)
    have q3 : @Ne Nat rw (L + 1 + 1 + 1 + 1 + 1) := News.ne N3 (by k_mem) (by k_mem) (by rw [e5]; intro h; cases h)
    have q4 : @Ne Nat ro (L + 1 + 1 + 1 + 1 + 1) := News.ne N3 (by k_mem) (by k_mem) (by rw [e5]; intro h; cases h)
    clear F N
    k_steps
    rename Fr _ _ _ _ => F9
    rename News _ _ _ _ => N9
    rename Obj.data _ = Data.cell (some (Value.ref D)) => e9
    refine Reach.mk ⟨by first | rfl | trivial, hQ _ _ _ _ _ _ hos hgx F9 (by repeat (first | exact News.nil | refine News.pick N9 (by k_mem) ?_)) (by first | exact rfl | exact m1 | exact (if_neg (by decide)).trans m1 | exact (if_neg (by decide)).trans ((if_neg (by decide)).trans m1)) (by first | exact rfl | exact m2 | exact (if_neg (by decide)).trans m2 | exact (if_neg (by decide)).trans ((if_neg (by decide)).trans m2)) (by first | exact rfl | exact m3 | exact (if_neg (by decide)).trans m3 | exact (if_neg (by decide)).trans ((if_neg (by decide)).trans m3)) e9 hC (pS.map hst ?_)⟩
    rintro a b k x y ⟨t, rfl⟩ ⟨z, t', e, rfl⟩
    injection e with e _; subst e
    rfl

end
end
section
open PySem PySem.W PyProof.Rows PySem.Calls
example : True := by
  w_top off
  trivial
set_option maxRecDepth 100000
set_option maxHeartbeats 1000000

theorem PD.top {n : Nat} {P : Nat → Nat → Value → Prop} {kvs : List (Int × Value)} (pd : PD n P (fun _ _ => True) kvs) (hn : n ≤ 7) (h1 : 1 ≤ n) : ∃ v, valueAt kvs ((n : Nat) : Int) = some v ∧ P 0 n v := by
  obtain ⟨v, hv, hp⟩ := pd.get hn (show 0 < n by omega) (Nat.le_refl _) trivial
  exact ⟨v, by rw [← hv]; congr 1; omega, hp⟩
theorem st7 {w : World} {mg mb : Str → Option Value} {A : Around} {s : Shared} {h₀ : Heap} {E : Value → Shared → Prop} {m : Str → Option Value} {L : Addr} {Mid : Shared → Prop} {o6 o5 o4 o3 o2 o1 : Obj} {rw ro dS dR dC : Addr} {oS oR oC : Obj} {kR kC : List (Int × Value)} {vW vO : List Value} {nW : Nat} {p1 p2 : Array Value} {n : Nat} {rd : Nat → Nat → Str} {cd : Nat → Nat → Bool} {seen : Str} {tS tC : Tok}
    (C : Cx w mg mb h₀) (M : ∃ bm ob, BMod h₀ mainGlobals mg bm ob) (hh : A.handled = none) (hu : A.units + 600 < cLine) (hroom : A.depth + 90 < recursionLimit) (F : Fr h₀ L s.heap m) (N : News h₀ L s.heap [(dC, oC), (dR, oR), (dS, oS), (rw, W.listOf vW.toArray nW), (ro, W.listOf vO.toArray 0), (L + 1 + 1 + 1 + 1 + 1 + 1, o6), (L + 1 + 1 + 1 + 1 + 1, o5), (L + 1 + 1 + 1 + 1, o4), (L + 1 + 1 + 1, o3), (L + 1 + 1, o2), (L + 1, o1), (140, tabObj p1), (147, tabObj p2)])
    (e1 : o1.data = .cell (some (.str seen tS))) (e2 : o2.data = .cell (some (.int (n : Nat) tC))) (e4 : o4.data = .cell (some (.ref dR))) (e5 : o5.data = .cell (some (.ref dC)))
    (hR : oR.IsDictOf (intKind PR w) kR) (pR : PD n (fun a b => IsStrV (rd a b)) (fun _ _ => True) kR) (hC : oC.IsDictOf (intKind PR w) kC) (pC : PD n (fun a b v => v = .bool (cd a b)) (fun _ _ => True) kC)
    (hn1 : 1 ≤ n) (hn5 : n ≤ 5) (hseen : rd 0 n = seen) (hcd : cd 0 n = true)
    (hQ : ∀ h tk, Fr h₀ L h m → News h₀ L h [(dC, oC), (dR, oR), (dS, oS), (rw, W.listOf vW.toArray nW), (ro, W.listOf vO.toArray 0), (L + 1 + 1 + 1 + 1 + 1 + 1, o6), (L + 1 + 1 + 1 + 1 + 1, o5), (L + 1 + 1 + 1 + 1, o4), (L + 1 + 1 + 1, o3), (L + 1 + 1, o2), (L + 1, o1), (140, tabObj p1), (147, tabObj p2)] → Mid { s with heap := h, toks := tk }) :
    wpAny (model PR w) (A.deeper (lawEnv L)) (exec (lawS 7) (lawEnv L)) (fun f s' => Reach (f = .next ∧ Mid s')) E s := by
  have C' := C
  obtain ⟨X, T⟩ := C
  unfold lawEnv
  conv in (occs := *) lawScope => all_goals whnf
  conv in (lawS 7) => whnf
  obtain ⟨v1, h1, ⟨t1, rfl⟩⟩ := pR.top (by omega) hn1
  obtain ⟨v2, h2, rfl⟩ := pC.top (by omega) hn1
  rw [hcd] at h2
  rw [hseen] at h1
  k_steps
  refine Hold.mk ?_
  refine kda_item N (.tail _ (.head _)) hR (intKind_is _ _ _ _) h1 ?_
  k_steps
  · rename (seen != seen) = true => hx
    exact absurd hx (by simp)
  refine Hold.mk ?_
  refine kda_item N (.head _) hC (intKind_is _ _ _ _) h2 ?_
  k_steps
  exact Reach.mk ⟨rfl, hQ _ _ F N⟩
noncomputable def sfAt (rd : Nat → Nat → Str) (cd : Nat → Nat → Bool) (seen : Str) (n k : Nat) : Bool := (rd 0 k ++ rd k n == seen) && cd 0 k
theorem PD.low {n : Nat} {P : Nat → Nat → Value → Prop} {kvs : List (Int × Value)} (pd : PD n P (fun _ _ => True) kvs) (hn : n ≤ 7) {k : Nat} (h1 : 1 ≤ k) (h2 : k ≤ n) : ∃ v, valueAt kvs ((k : Nat) : Int) = some v ∧ P 0 k v := by
  obtain ⟨v, hv, hp⟩ := pd.get hn (show 0 < k by omega) h2 trivial
  exact ⟨v, by rw [← hv]; congr 1; omega, hp⟩
theorem st8 {w : World} {mg mb : Str → Option Value} {A : Around} {s : Shared} {h₀ : Heap} {E : Value → Shared → Prop} {m : Str → Option Value} {L : Addr} {Mid : Shared → Prop} {o6 o5 o4 o3 o2 o1 : Obj} {rw ro dS dR dC : Addr} {oS oR oC : Obj} {kR kC : List (Int × Value)} {vW vO : List Value} {nW : Nat} {p1 p2 : Array Value} {n : Nat} {rd : Nat → Nat → Str} {cd : Nat → Nat → Bool} {seen : Str} {tS tC : Tok}
    (C : Cx w mg mb h₀) (M : ∃ bm ob, BMod h₀ mainGlobals mg bm ob) (hh : A.handled = none) (hu : A.units + 600 < cLine) (hroom : A.depth + 90 < recursionLimit) (F : Fr h₀ L s.heap m) (N : News h₀ L s.heap [(dC, oC), (dR, oR), (dS, oS), (rw, W.listOf vW.toArray nW), (ro, W.listOf vO.toArray 0), (L + 1 + 1 + 1 + 1 + 1 + 1, o6), (L + 1 + 1 + 1 + 1 + 1, o5), (L + 1 + 1 + 1 + 1, o4), (L + 1 + 1 + 1, o3), (L + 1 + 1, o2), (L + 1, o1), (140, tabObj p1), (147, tabObj p2)]) (m1 : m (Str.ofString "words") = some (.ref rw)) (m2 : m (Str.ofString "outside") = some (.ref ro)) {wd : Int} {tw : Tok} (m3 : m (Str.ofString "width") = some (.int wd tw))
    (e1 : o1.data = .cell (some (.str seen tS))) (e2 : o2.data = .cell (some (.int (n : Nat) tC))) (e4 : o4.data = .cell (some (.ref dR))) (e5 : o5.data = .cell (some (.ref dC)))
    (hR : oR.IsDictOf (intKind PR w) kR) (pR : PD n (fun a b => IsStrV (rd a b)) (fun _ _ => True) kR) (hC : oC.IsDictOf (intKind PR w) kC) (pC : PD n (fun a b v => v = .bool (cd a b)) (fun _ _ => True) kC)
    (hn1 : 1 ≤ n) (hn5 : n ≤ 5) (hrd : ∀ a b, (rd a b).length ≤ 300)
    (hQ : ∀ h tk m' rf vF, Fr h₀ L h m' → News h₀ L h [(rf, LCg.lst vF), (dC, oC), (dR, oR), (dS, oS), (rw, W.listOf vW.toArray nW), (ro, W.listOf vO.toArray 0), (L + 1 + 1 + 1 + 1 + 1 + 1, o6), (L + 1 + 1 + 1 + 1 + 1, o5), (L + 1 + 1 + 1 + 1, o4), (L + 1 + 1 + 1, o3), (L + 1 + 1, o2), (L + 1, o1), (140, tabObj p1), (147, tabObj p2)] → m' (Str.ofString "words") = some (.ref rw) → m' (Str.ofString "outside") = some (.ref ro) → m' (Str.ofString "width") = some (.int wd tw) → m' (Str.ofString "safe") = some (.ref rf) →
      Al (fun k v => v = .bool (sfAt rd cd seen n k)) (List.range' 1 (n - 1)) vF → Mid { s with heap := h, toks := tk }) :
    wpAny (model PR w) (A.deeper (lawEnv L)) (exec (lawS 8) (lawEnv L)) (fun f s' => Reach (f = .next ∧ Mid s')) E s := by
  have C' := C
  obtain ⟨X, T⟩ := C
  unfold lawEnv
  conv in (occs := *) lawScope => all_goals whnf
  conv in (lawS 8) => whnf
  k_steps
  refine Hold.mk ?_
  refine LCg.Assign_ListComp_U (F₀ := F) rfl (by with_unfolding_all rfl) rfl (by decide) rfl (by decide) rfl rfl rfl ?_
  k_steps
  refine Hold.mk ?_
  rename IsRange _ _ _ _ _ _ _ _ => hr3
  rename Fr _ _ _ _ => F3
  rename News _ _ _ _ => N3
  refine LCg.CompSrc.range (n := n - 1) hh F3 N3 hr3 (range_small (by decide) (by decide) (by omega) (by omega) (.inl rfl)) (rangeSize_up (by omega)) (by rw [sizeLine_eq]; omega) fun g => ?_
  refine rest_U (ks := List.range' 1 (n - 1)) (fun k v => v = .bool (sfAt rd cd seen n k)) (by simp) ?_ ?_
  · rintro j k v I oI CC oCC D m₂ ys h4 tk4 E' hk ⟨t4, rfl⟩ hCC hx F4 N4 off ne
    have hj : j < n - 1 := by
      have := (List.getElem?_eq_some_iff.mp hk).1
      simpa using this
    have hkj : k = 1 + j := by
      rw [List.getElem?_range' hj] at hk
      have := Option.some.inj hk
      omega
    rw [show ((1 : Int) + (j : Int)) = ((k : Nat) : Int) by omega] at hx
    have hk1 : 1 ≤ k := by omega
    have hk5 : k < n := by omega
    have hk6 : k ≤ 5 := by omega
    obtain ⟨v1, g1, ⟨t1, rfl⟩⟩ := pR.low (by omega) hk1 (Nat.le_of_lt hk5)
    obtain ⟨v2, g2, ⟨t2, rfl⟩⟩ := pR.look (by omega) hk5 (Nat.le_refl _)
    obtain ⟨v3, g3, rfl⟩ := pC.low (by omega) hk1 (Nat.le_of_lt hk5)
    have l1 := hrd 0 k
    have l2 := hrd k n
    clear F3 N3 hr3 hkj hk hj
    k_steps
    refine Hold.mk ?_
    refine kda_item N4 (by k_mem) hR (intKind_is _ _ _ _) g1 ?_
    k_steps
    refine Hold.mk ?_
    refine kda_item N4 (by k_mem) hR (intKind_is _ _ _ _) g2 ?_
    k_steps
    · rename (rd 0 k ++ rd k n == seen) = true => he
      refine Hold.mk ?_
      refine kda_item N4 (by k_mem) hC (intKind_is _ _ _ _) g3 ?_
      exact ⟨_, _, _, rfl, F4, N4, off, trivial, rfl, by unfold sfAt; rw [he]; rfl⟩
    · rename (rd 0 k ++ rd k n == seen) = false => he
      exact ⟨_, _, _, rfl, F4, N4, off, trivial, rfl, by unfold sfAt; rw [he]; rfl⟩
  · intro ys hys Dk h5 tk5 F5 N5 off5
    k_steps
    exact Reach.mk ⟨rfl, hQ _ _ _ Dk ys F5 N5 (by first | exact rfl | exact m1 | exact (if_neg (by decide)).trans m1 | exact (if_neg (by decide)).trans ((if_neg (by decide)).trans m1)) (by first | exact rfl | exact m2 | exact (if_neg (by decide)).trans m2 | exact (if_neg (by decide)).trans ((if_neg (by decide)).trans m2)) (by first | exact rfl | exact m3 | exact (if_neg (by decide)).trans m3 | exact (if_neg (by decide)).trans ((if_neg (by decide)).trans m3)) rfl hys⟩

end
section
open PySem PySem.W PyProof.Rows
set_option hygiene false
local macro_rules | `(tactic| omega) => `(tactic| first | w_left | (refine Nat.ne_of_lt ?_; w_left) | (refine Nat.ne_of_gt ?_; w_left) | lia | fail "no chain")
set_option hygiene true
section
open PySem PySem.W PyProof.Rows PySem.Calls
example : True := by
  w_top off
  trivial
set_option maxRecDepth 100000
set_option maxHeartbeats 1000000

set_option hygiene false
local macro_rules | `(tactic| walk_at "compareOp NotEq ref ref") => `(tactic| refine Hold.out ?_)
set_option hygiene true
theorem newsLst {h₀ h : Heap} {L a : Addr} {news : List (Addr × Obj)} {ys : List Value} (N : News h₀ L h news) (hm : (a, LCg.lst ys) ∈ news) : h.IsList a ys.toArray := ⟨_, (N _ hm).1, rfl, _, rfl⟩
theorem st9 {w : World} {mg mb : Str → Option Value} {A : Around} {s : Shared} {h₀ : Heap} {E : Value → Shared → Prop} {m : Str → Option Value} {L : Addr} {Mid : Shared → Prop} {o6 o5 o4 o3 o2 o1 : Obj} {rw ro dS dR dC rf : Addr} {oS oR oC : Obj} {vW vO vF : List Value} {nW : Nat} {p1 p2 : Array Value} {outs : List Bool}
    (C : Cx w mg mb h₀) (M : ∃ bm ob, BMod h₀ mainGlobals mg bm ob) (hh : A.handled = none) (hu : A.units + 600 < cLine) (hroom : A.depth + 90 < recursionLimit) (F : Fr h₀ L s.heap m) (N : News h₀ L s.heap [(rf, LCg.lst vF), (dC, oC), (dR, oR), (dS, oS), (rw, W.listOf vW.toArray nW), (ro, W.listOf vO.toArray 0), (L + 1 + 1 + 1 + 1 + 1 + 1, o6), (L + 1 + 1 + 1 + 1 + 1, o5), (L + 1 + 1 + 1 + 1, o4), (L + 1 + 1 + 1, o3), (L + 1 + 1, o2), (L + 1, o1), (140, tabObj p1), (147, tabObj p2)]) (m2 : m (Str.ofString "outside") = some (.ref ro)) (m4 : m (Str.ofString "safe") = some (.ref rf))
    (hO : BoolsAre vO outs) (hF : BoolsAre vF outs)
    (hQ : ∀ h tk, Fr h₀ L h m → News h₀ L h [(rf, LCg.lst vF), (dC, oC), (dR, oR), (dS, oS), (rw, W.listOf vW.toArray nW), (ro, W.listOf vO.toArray 0), (L + 1 + 1 + 1 + 1 + 1 + 1, o6), (L + 1 + 1 + 1 + 1 + 1, o5), (L + 1 + 1 + 1 + 1, o4), (L + 1 + 1 + 1, o3), (L + 1 + 1, o2), (L + 1, o1), (140, tabObj p1), (147, tabObj p2)] → Mid { s with heap := h, toks := tk }) :
    wpAny (model PR w) (A.deeper (lawEnv L)) (exec (lawS 9) (lawEnv L)) (fun f s' => Reach (f = .next ∧ Mid s')) E s := by
  have C' := C
  obtain ⟨X, T⟩ := C
  unfold lawEnv
  conv in (occs := *) lawScope => all_goals whnf
  conv in (lawS 9) => whnf
  k_steps
  refine Hold.mk ?_
  refine ne_bools (newsLst N (.head _)) (newsList N (by k_mem)) hF hO (by show A.units + 3 + 64 < cLine; omega) ?_
  rw [decide_eq_true rfl]
  k_steps
  exact Reach.mk ⟨rfl, hQ _ _ F N⟩
theorem st10 {w : World} {mg mb : Str → Option Value} {A : Around} {s : Shared} {h₀ : Heap} {E : Value → Shared → Prop} {m : Str → Option Value} {L : Addr} {Mid : Shared → Prop} {o6 o5 o4 o3 o2 o1 : Obj} {rw ro dS dR dC rf : Addr} {oS oR oC : Obj} {kS kR kC : List (Int × Value)} {vW vO vF : List Value} {nW : Nat} {p1 p2 : Array Value} {ws : List Str} {sf : List Bool}
    (C : Cx w mg mb h₀) (M : ∃ bm ob, BMod h₀ mainGlobals mg bm ob) (hh : A.handled = none) (hu : A.units + 600 < cLine) (hroom : A.depth + 90 < recursionLimit) (F : Fr h₀ L s.heap m) (N : News h₀ L s.heap [(rf, LCg.lst vF), (dC, oC), (dR, oR), (dS, oS), (rw, W.listOf vW.toArray nW), (ro, W.listOf vO.toArray 0), (L + 1 + 1 + 1 + 1 + 1 + 1, o6), (L + 1 + 1 + 1 + 1 + 1, o5), (L + 1 + 1 + 1 + 1, o4), (L + 1 + 1 + 1, o3), (L + 1 + 1, o2), (L + 1, o1), (140, tabObj p1), (147, tabObj p2)]) (m1 : m (Str.ofString "words") = some (.ref rw)) (m4 : m (Str.ofString "safe") = some (.ref rf)) {wd : Int} {tw : Tok} (m3 : m (Str.ofString "width") = some (.int wd tw))
    (htr : TriplesOk p1.toList) (htr2 : TriplesOk p2.toList) (hS : oS.IsDictOf (intKind PR w) kS) (hR : oR.IsDictOf (intKind PR w) kR) (hC : oC.IsDictOf (intKind PR w) kC)
    (hi : StrsAre vW ws) (hF : BoolsAre vF sf) (hn1 : 1 ≤ ws.length) (hn5 : ws.length ≤ 5) (hsl : sf.length + 1 = ws.length) (hW : ∀ x ∈ ws, TOk x ∧ HasW x ∧ x.length ≤ 15) (hw0 : 0 ≤ wd) (hw1 : wd ≤ 1000)
    (hQ : ∀ s' m' rr vR p1' p2', s'.os = s.os → GX s.gens s'.gens → Fr h₀ L s'.heap m' → News h₀ L s'.heap [(rr, W.listOf vR.toArray 0), (rf, LCg.lst vF), (dC, oC), (dR, oR), (dS, oS), (L + 1 + 1 + 1 + 1 + 1 + 1, o6), (L + 1 + 1 + 1 + 1 + 1, o5), (L + 1 + 1 + 1 + 1, o4), (L + 1 + 1 + 1, o3), (L + 1 + 1, o2), (L + 1, o1), (140, tabObj p1'), (147, tabObj p2')] → m' (Str.ofString "safe") = some (.ref rf) → m' (Str.ofString "width") = some (.int wd tw) → m' (Str.ofString "rows") = some (.ref rr) → StrsAre vR (rowsF wd ws sf) → Mid s') :
    wpAny (model PR w) (A.deeper (lawEnv L)) (exec (lawS 10) (lawEnv L)) (fun f s' => Reach (f = .next ∧ Mid s')) E s := by
  have C' := C
  obtain ⟨X, T⟩ := C
  unfold lawEnv
  conv in (occs := *) lawScope => all_goals whnf
  conv in (lawS 10) => whnf
  have big : @LT.lt Nat _ 234 L := Nat.lt_of_lt_of_le C'.big F.above
  have q1 : @Ne Nat rf 140 := News.ne N (by k_mem) (by k_mem) (by intro h; cases h)
  have q2 : @Ne Nat rf 147 := News.ne N (by k_mem) (by k_mem) (by intro h; cases h)
  have q3 : @Ne Nat rw 140 := News.ne N (by k_mem) (by k_mem) (by intro h; cases h)
  have q4 : @Ne Nat rw 147 := News.ne N (by k_mem) (by k_mem) (by intro h; cases h)
  have q5 : @Ne Nat dC 140 := News.ne N (by k_mem) (by k_mem) (by obtain ⟨_, _, _, e, _⟩ := hC; rw [e]; intro h; cases h)
  have q6 : @Ne Nat dC 147 := News.ne N (by k_mem) (by k_mem) (by obtain ⟨_, _, _, e, _⟩ := hC; rw [e]; intro h; cases h)
  have q7 : @Ne Nat dR 140 := News.ne N (by k_mem) (by k_mem) (by obtain ⟨_, _, _, e, _⟩ := hR; rw [e]; intro h; cases h)
  have q8 : @Ne Nat dR 147 := News.ne N (by k_mem) (by k_mem) (by obtain ⟨_, _, _, e, _⟩ := hR; rw [e]; intro h; cases h)
  have q9 : @Ne Nat dS 140 := News.ne N (by k_mem) (by k_mem) (by obtain ⟨_, _, _, e, _⟩ := hS; rw [e]; intro h; cases h)
  have q10 : @Ne Nat dS 147 := News.ne N (by k_mem) (by k_mem) (by obtain ⟨_, _, _, e, _⟩ := hS; rw [e]; intro h; cases h)
  k_steps
  refine Hold.mk ?_
  obtain ⟨HA, hk⟩ := lend (lent := [(140, tabObj p1), (147, tabObj p2)]) F N (by k_all)
  have notin : ∀ {a : Addr}, @Ne Nat a 140 → @Ne Nat a 147 → a ∉ ([(140, tabObj p1), (147, tabObj p2)] : List (Addr × Obj)).map (·.1) := fun h1 h2 hm => by
    simp only [List.map_cons, List.map_nil, List.mem_cons, List.not_mem_nil, or_false] at hm
    exact hm.elim h1 h2
  refine c_folded (C'.keeps hk) (M.imp fun _ m => m.imp fun _ m => m.keeps hk) hh (by show A.units + 3 + 500 < cLine; omega) HA htr htr2 (by show A.depth + 1 + 60 < recursionLimit; omega) (vs := vW) ⟨_, hideAll_get _ (N (rw, W.listOf vW.toArray nW) (by k_mem)).1 (notin q3 q4), rfl, _, rfl⟩ hi (bs := vF) ⟨_, hideAll_get _ (N (rf, LCg.lst vF) (by k_mem)).1 (notin q1 q2), rfl, _, rfl⟩ hF hn1 hn5 hsl hW hw0 hw1 fun r vs' p1' p2' s9 HB hvs t1 t2 hos hgx => ?_
  obtain ⟨F9, N9⟩ := back (rest := [(rf, LCg.lst vF), (dC, oC), (dR, oR), (dS, oS), (L + 1 + 1 + 1 + 1 + 1 + 1, o6), (L + 1 + 1 + 1 + 1 + 1, o5), (L + 1 + 1 + 1 + 1, o4), (L + 1 + 1 + 1, o3), (L + 1 + 1, o2), (L + 1, o1)]) F N (by k_all) (by k_all) (by k_all) HB
  clear N HA HB hk
  k_steps
  rename Fr _ _ _ _ => F11
  rename News _ _ _ _ => N11
  exact Reach.mk ⟨by first | rfl | trivial, hQ _ _ r vs' p1' p2' hos hgx F11 (by repeat (first | exact News.nil | refine News.pick N11 (by k_mem) ?_)) (by first | exact rfl | exact m4 | exact (if_neg (by decide)).trans m4 | exact (if_neg (by decide)).trans ((if_neg (by decide)).trans m4)) (by first | exact rfl | exact m3 | exact (if_neg (by decide)).trans m3 | exact (if_neg (by decide)).trans ((if_neg (by decide)).trans m3)) rfl hvs⟩

end
section
open PySem PySem.W PyProof.Rows PySem.Calls
example : True := by
  w_top off
  trivial
set_option maxRecDepth 100000
set_option maxHeartbeats 1000000

theorem News.addAt {s s' : Shared} {h₀ : Heap} {L : Addr} {m : Str → Option Value} {news nn : List (Addr × Obj)} (F : Fr h₀ L s.heap m) (N : News h₀ L s.heap news) (H : At s.heap s'.heap nn) : News h₀ L s'.heap (nn ++ news) := fun p hp => by
  rcases List.mem_append.mp hp with hp | hp
  · exact News.add F (News.nil (h₀ := h₀) (L := L) (h := s'.heap)) (a := p.1) (o := p.2) ⟨(H.news p hp).1, (H.news p hp).2⟩ _ (.head _)
  · exact News.keeps N H.keep p hp
theorem st11 {w : World} {mg mb : Str → Option Value} {A : Around} {s : Shared} {h₀ : Heap} {E : Value → Shared → Prop} {m : Str → Option Value} {L : Addr} {Mid : Shared → Prop} {o6 o5 o4 o3 o2 o1 : Obj} {dS dR dC rf rr : Addr} {oS oR oC : Obj} {kS kR kC : List (Int × Value)} {vF vR : List Value} {sp rd : Nat → Nat → Str} {cd : Nat → Nat → Bool} {sf : List Bool} {n : Nat} {p1 p2 : Array Value}
    (C : Cx w mg mb h₀) (M : ∃ bm ob, BMod h₀ mainGlobals mg bm ob) (hh : A.handled = none) (hu : A.units + 600 < cLine) (hroom : A.depth + 90 < recursionLimit) (F : Fr h₀ L s.heap m) (N : News h₀ L s.heap [(rr, W.listOf vR.toArray 0), (rf, LCg.lst vF), (dC, oC), (dR, oR), (dS, oS), (L + 1 + 1 + 1 + 1 + 1 + 1, o6), (L + 1 + 1 + 1 + 1 + 1, o5), (L + 1 + 1 + 1 + 1, o4), (L + 1 + 1 + 1, o3), (L + 1 + 1, o2), (L + 1, o1), (140, tabObj p1), (147, tabObj p2)]) (m4 : m (Str.ofString "safe") = some (.ref rf)) {wd : Int} {tw : Tok} (m3 : m (Str.ofString "width") = some (.int wd tw)) (m5 : m (Str.ofString "rows") = some (.ref rr))
    (e3 : o3.data = .cell (some (.ref dS))) (e4 : o4.data = .cell (some (.ref dR))) (e5 : o5.data = .cell (some (.ref dC)))
    (hS : oS.IsDictOf (intKind PR w) kS) (pS : PD n (fun a b => IsStrV (sp a b)) (fun _ _ => True) kS)
    (hR : oR.IsDictOf (intKind PR w) kR) (pR : PD n (fun a b => IsStrV (rd a b)) (fun _ _ => True) kR)
    (hC : oC.IsDictOf (intKind PR w) kC) (pC : PD n (fun a b v => v = .bool (cd a b)) (fun _ _ => True) kC)
    (hF : BoolsAre vF sf) (hn1 : 2 ≤ n) (hn5 : n ≤ 5) (hsl : sf.length + 1 = n) (hw0 : 0 ≤ wd) (hw1 : wd ≤ 1000) (hrd : ∀ a b, (rd a b).length ≤ 300) (hsp : ∀ a b, (sp a b).length ≤ 300)
    (hQ : ∀ s' m' Wl refs nw wl, s'.os = s.os → GX s.gens s'.gens → Fr h₀ L s'.heap m' → News h₀ L s'.heap ((Wl, W.listOf refs.toArray nw) :: (rr, W.listOf vR.toArray 0) :: (dS, oS) :: (L + 1 + 1 + 1 + 1 + 1 + 1, o6) :: (L + 1 + 1 + 1, o3) :: (L + 1 + 1, o2) :: (140, tabObj p1) :: (147, tabObj p2) :: wl) → m' (Str.ofString "rows") = some (.ref rr) → m' (Str.ofString "ways") = some (.ref Wl) → LstL wl → WT wl (waysN sp rd cd sf wd n (2 ^ (n - 1))) refs → Mid s') :
    wpAny (model PR w) (A.deeper (lawEnv L)) (exec (lawS 11) (lawEnv L)) (fun f s' => Reach (f = .next ∧ Mid s')) E s := by
  have C' := C
  obtain ⟨X, T⟩ := C
  unfold lawEnv
  conv in (occs := *) lawScope => all_goals whnf
  conv in (lawS 11) => whnf
  have big : @LT.lt Nat _ 234 L := Nat.lt_of_lt_of_le C'.big F.above
  k_steps
  refine Hold.mk ?_
  refine c_ways (C'.keeps F.keep) hh (by show A.units + 3 + 500 < cLine; omega) (by show A.depth + 1 + 60 < recursionLimit; omega) (N (dS, oS) (by k_mem)).1 hS pS (N (dR, oR) (by k_mem)).1 hR pR (N (dC, oC) (by k_mem)).1 hC pC (newsLst N (by k_mem)) hF hn1 hn5 hsl hw0 hw1 hrd hsp fun Wl refs nw wl s9 HB hL hWT hos hgx => ?_
  have N9 := News.addAt F N HB
  have F9 := F.keeps HB.keep
  have N10 : News h₀ L s9.heap ((Wl, W.listOf refs.toArray nw) :: (rr, W.listOf vR.toArray 0) :: (dS, oS) :: (L + 1 + 1 + 1 + 1 + 1 + 1, o6) :: (L + 1 + 1 + 1, o3) :: (L + 1 + 1, o2) :: (140, tabObj p1) :: (147, tabObj p2) :: wl) := by
    refine News.pick N9 (.head _) ?_
    have sub : ∀ p ∈ [(rr, W.listOf vR.toArray 0), (rf, LCg.lst vF), (dC, oC), (dR, oR), (dS, oS), (L + 1 + 1 + 1 + 1 + 1 + 1, o6), (L + 1 + 1 + 1 + 1 + 1, o5), (L + 1 + 1 + 1 + 1, o4), (L + 1 + 1 + 1, o3), (L + 1 + 1, o2), (L + 1, o1), (140, tabObj p1), (147, tabObj p2)], p ∈ (Wl, W.listOf refs.toArray nw) :: wl ++ [(rr, W.listOf vR.toArray 0), (rf, LCg.lst vF), (dC, oC), (dR, oR), (dS, oS), (L + 1 + 1 + 1 + 1 + 1 + 1, o6), (L + 1 + 1 + 1 + 1 + 1, o5), (L + 1 + 1 + 1 + 1, o4), (L + 1 + 1 + 1, o3), (L + 1 + 1, o2), (L + 1, o1), (140, tabObj p1), (147, tabObj p2)] := fun p hp => List.mem_append_right _ hp
    refine News.pick N9 (sub _ (by k_mem)) (News.pick N9 (sub _ (by k_mem)) (News.pick N9 (sub _ (by k_mem)) (News.pick N9 (sub _ (by k_mem)) (News.pick N9 (sub _ (by k_mem)) (News.pick N9 (sub _ (by k_mem)) (News.pick N9 (sub _ (by k_mem)) ?_))))))
    exact fun p hp => N9 p (List.mem_append_left _ (.tail _ hp))
  clear N9 N HB F
  k_steps
  rename Fr _ _ _ _ => F11
  rename News _ _ _ _ => N11
  exact Reach.mk ⟨by first | rfl | trivial, hQ _ _ Wl refs nw wl hos hgx F11 N11 (by first | exact rfl | exact m5 | exact (if_neg (by decide)).trans m5 | exact (if_neg (by decide)).trans ((if_neg (by decide)).trans m5)) rfl hL hWT⟩

end
section
open PySem PySem.W PyProof.Rows PySem.Calls
example : True := by
  w_top off
  trivial
set_option maxRecDepth 100000
set_option maxHeartbeats 1000000

set_option hygiene false
local macro_rules | `(tactic| walk_at "call builtin:min") => `(tactic| refine Hold.out ?_)
set_option hygiene true
set_option hygiene false
local macro_rules | `(tactic| walk_at "call builtin:max") => `(tactic| refine Hold.out ?_)
set_option hygiene true
set_option hygiene false
local macro_rules | `(tactic| walk_at "storeName") => `(tactic| refine Hold.out ?_)
set_option hygiene true
theorem IsInts.ints {ns : List Nat} {ys : List Value} (h : IsInts ns ys) : IntsAre ys (ns.map fun k => ((k : Nat) : Int)) := by
  induction h with
  | nil => exact .nil
  | cons r _ ih => obtain ⟨t, rfl⟩ := r; exact .cons _ t ih
theorem LstL.ne {h₀ h : Heap} {L c : Addr} {o : Obj} {v : Option Value} {wl news : List (Addr × Obj)} (hL : LstL wl) (N : News h₀ L h news) (h1 : ∀ p ∈ wl, p ∈ news) (h2 : (c, o) ∈ news) (e : o.data = .cell v) : ∀ p ∈ wl, p.1 ≠ c := fun p hp => by
  obtain ⟨ys, hy⟩ := hL p hp
  exact News.ne N (h1 p hp) h2 (by rw [hy, e]; intro h; cases h)
theorem Al.natInts {α : Type} {f : α → Nat} {l : List α} {ys : List Value} (h : Al (fun x v => ∃ t, v = .int ((f x : Nat) : Int) t) l ys) : IntsAre ys (l.map fun x => ((f x : Nat) : Int)) := by
  induction h with
  | nil => exact .nil
  | cons r _ ih => obtain ⟨t, rfl⟩ := r; exact .cons _ t ih
theorem store_cell {prog : Program} {w : World} {A : Around} {s : Shared} {h₀ : Heap} {E : Value → Shared → Prop} {m : Str → Option Value} {env : Env} {x : Str} {cc : Addr} {v : Value} {o : Obj} {v0 : Option Value} {pre post : List (Addr × Obj)} {Q : Unit → Shared → Prop}
    (hkf : env.scope.kind = .function) (hx : env.kindOf x = some .cell) (hc : env.cells.lookup x = some cc) (F : Fr h₀ env.locals s.heap m) (N : News h₀ env.locals s.heap (pre ++ (cc, o) :: post)) (hd : o.data = .cell v0) (hne : ∀ p ∈ pre ++ post, p.1 ≠ cc)
    (h : ∀ h' o', Fr h₀ env.locals h' m → News h₀ env.locals h' (pre ++ (cc, o') :: post) → o'.data = .cell (some v) → Q () { s with heap := h' }) : wpAny (model prog w) A (storeName env x v) Q E s := by
  have hmc := N (cc, o) (List.mem_append_right _ (.head _))
  refine wpAny_storeName_cell hkf hx hc ⟨o, hmc.1, hd⟩ fun h₃ hv₃ hs₃ => ?_
  obtain ⟨o', ho', hd'⟩ := hv₃
  replace hs₃ : Heap.SameBut cc s.heap h₃ := hs₃
  have up : ∀ b o, b ≠ cc → s.heap.get? b = some o → h₃.get? b = some o := fun b o hb e => hs₃.extBut b o hb e
  refine h h₃ o' ⟨F.ns.sameBut hs₃ (Ne.symm hmc.2.1), fun b o e => up b o (fun q => by rw [q, hmc.2.2] at e; cases e) (F.keep b o e), F.above⟩ (fun p hp => ?_) hd'
  rcases List.mem_append.mp hp with hp | hp
  · exact ⟨up _ _ (hne p (List.mem_append_left _ hp)) (N p (List.mem_append_left _ hp)).1, (N p (List.mem_append_left _ hp)).2⟩
  · rcases List.mem_cons.mp hp with rfl | hp
    · exact ⟨ho', hmc.2⟩
    · exact ⟨up _ _ (hne p (List.mem_append_right _ hp)) (N p (List.mem_append_right _ (.tail _ hp))).1, (N p (List.mem_append_right _ (.tail _ hp))).2⟩
theorem st12 {w : World} {mg mb : Str → Option Value} {A : Around} {s : Shared} {h₀ : Heap} {E : Value → Shared → Prop} {m : Str → Option Value} {L : Addr} {Mid : Shared → Prop} {o6 o5 o4 o3 o2 o1 : Obj} {dS rr Wl : Addr} {oS : Obj} {kS : List (Int × Value)} {vR refs : List Value} {nw : Nat} {wl : List (Addr × Obj)} {ways : List (List Nat)} {v6 : Option Value} {p1 p2 : Array Value}
    (C : Cx w mg mb h₀) (M : ∃ bm ob, BMod h₀ mainGlobals mg bm ob) (hh : A.handled = none) (hu : A.units + 600 < cLine) (hroom : A.depth + 90 < recursionLimit) (F : Fr h₀ L s.heap m) (N : News h₀ L s.heap ((Wl, W.listOf refs.toArray nw) :: (rr, W.listOf vR.toArray 0) :: (dS, oS) :: (L + 1 + 1 + 1 + 1 + 1 + 1, o6) :: (L + 1 + 1 + 1, o3) :: (L + 1 + 1, o2) :: (140, tabObj p1) :: (147, tabObj p2) :: wl)) (m5 : m (Str.ofString "rows") = some (.ref rr)) (m6 : m (Str.ofString "ways") = some (.ref Wl))
    (e6 : o6.data = .cell v6) (hS : oS.IsDictOf (intKind PR w) kS) (hL : LstL wl) (hWT : WT wl ways refs) (hne : 0 < ways.length) (hwl : ways.length ≤ 100) (hws : ∀ x ∈ ways, x.length ≤ 100)
    (hQ : ∀ h tk m' o6' (M : Nat) tM, Fr h₀ L h m' → News h₀ L h ((Wl, W.listOf refs.toArray nw) :: (rr, W.listOf vR.toArray 0) :: (dS, oS) :: (L + 1 + 1 + 1 + 1 + 1 + 1, o6') :: (L + 1 + 1 + 1, o3) :: (L + 1 + 1, o2) :: (140, tabObj p1) :: (147, tabObj p2) :: wl) → m' (Str.ofString "rows") = some (.ref rr) → m' (Str.ofString "ways") = some (.ref Wl) →
      o6'.data = .cell (some (.int (M : Nat) tM)) → (∃ x ∈ ways, x.length = M) → (∀ x ∈ ways, M ≤ x.length) → Mid { s with heap := h, toks := tk }) :
    wpAny (model PR w) (A.deeper (lawEnv L)) (exec (lawS 12) (lawEnv L)) (fun f s' => Reach (f = .next ∧ Mid s')) E s := by
  have C' := C
  obtain ⟨X, T⟩ := C
  unfold lawEnv
  conv in (occs := *) lawScope => all_goals whnf
  conv in (lawS 12) => whnf
  have big : @LT.lt Nat _ 234 L := Nat.lt_of_lt_of_le C'.big F.above
  have hlen : ways.length = refs.length := (hWT s.heap fun p hp => (N p (.tail _ (.tail _ (.tail _ (.tail _ (.tail _ (.tail _ (.tail _ (.tail _ hp))))))))).1).length
  k_steps
  refine Hold.mk ?_
  refine LCg.ListComp_U (F₀ := F) rfl (by decide) rfl (by decide) rfl ?_
  k_steps
  refine Hold.mk ?_
  refine LCg.CompSrc.ledger (its := refs.toArray) hh F N (.head _) (by rw [List.size_toArray, sizeLine_eq]; omega) fun g => ?_
  refine rest_U (ks := ways) (fun x v => ∃ t, v = .int ((x.length : Nat) : Int) t) (by rw [List.size_toArray]; exact hlen) ?_ ?_
  · rintro j x v I oI CC oCC D m₂ ys h4 tk4 E' hk hv hCC hx F4 N4 off ne
    have hal := hWT h4 fun p hp => (N4 p (.tail _ (.tail _ (.tail _ (.tail _ (.tail _ (.tail _ (.tail _ (.tail _ (.tail _ (.tail _ (.tail _ hp)))))))))))).1
    obtain ⟨x', hx', a, zs, rfl, ga, ia⟩ := hal.get (by simpa using hv)
    rw [hk] at hx'; cases hx'
    have hxl := hws x (List.mem_of_getElem? hk)
    have hzl := ia.length
    clear hv
    k_steps
    refine Hold.mk ?_
    refine len_list (items := zs.toArray) ⟨_, ga, rfl, _, rfl⟩ (by rw [List.size_toArray]; omega) ?_
    exact ⟨_, _, _, rfl, F4, N4, off, .inr ⟨_, .head _, rfl, _, rfl⟩, rfl, _, by rw [List.size_toArray, hzl]⟩
  · intro ys hys Dk h5 tk5 F5 N5 off5
    k_steps
    refine Hold.mk ?_
    have hne2 : 0 < (ways.map fun x => ((x.length : Nat) : Int)).length := by rw [List.length_map]; exact hne
    have hiy : IntsAre ys (ways.map fun x => ((x.length : Nat) : Int)) := hys.natInts
    refine min_list_N hh F5 N5 (newsLst N5 (.head _)) hiy hne2 fun h6 M tM tk6 F6 N6 hM1 hM2 => ?_
    obtain ⟨x, hx, rfl⟩ := List.mem_map.mp hM1
    have N7 := news_tail N6
    k_steps
    refine Hold.mk ?_
    refine store_cell (pre := [(Wl, W.listOf refs.toArray nw), (rr, W.listOf vR.toArray 0), (dS, oS)]) (post := (L + 1 + 1 + 1, o3) :: (L + 1 + 1, o2) :: (140, tabObj p1) :: (147, tabObj p2) :: wl) rfl rfl rfl F6 N7 e6 ?_ fun h8 o6' F8 N8 e8 => ?_
    · intro p hp
      have hL6 := LstL.ne (c := L + 1 + 1 + 1 + 1 + 1 + 1) hL N7 (fun p hp => .tail _ (.tail _ (.tail _ (.tail _ (.tail _ (.tail _ (.tail _ (.tail _ hp)))))))) (.tail _ (.tail _ (.tail _ (.head _)))) e6
      have q1 := News.ne N7 (.head _) (.tail _ (.tail _ (.tail _ (.head _)))) (by rw [e6]; intro h; cases h)
      have q2 := News.ne N7 (.tail _ (.head _)) (.tail _ (.tail _ (.tail _ (.head _)))) (by rw [e6]; intro h; cases h)
      have q3 := News.ne N7 (.tail _ (.tail _ (.head _))) (.tail _ (.tail _ (.tail _ (.head _)))) (by rw [e6]; exact IsDictOf.nocell hS _)
      simp only [List.cons_append, List.nil_append, List.mem_cons] at hp
      rcases hp with rfl | rfl | rfl | rfl | rfl | rfl | rfl | hp
      · exact q1
      · exact q2
      · exact q3
      · exact neN (by dsimp only; omega)
      · exact neN (by dsimp only; omega)
      · exact neN (by dsimp only; omega)
      · exact neN (by dsimp only; omega)
      · exact hL6 p hp
    · exact Reach.mk ⟨by first | rfl | trivial, hQ _ _ _ o6' x.length tM F8 N8 (by first | exact rfl | exact m5 | exact (if_neg (by decide)).trans m5 | exact (if_neg (by decide)).trans ((if_neg (by decide)).trans m5)) (by first | exact rfl | exact m6 | exact (if_neg (by decide)).trans m6 | exact (if_neg (by decide)).trans ((if_neg (by decide)).trans m6)) e8 ⟨x, hx, rfl⟩ fun y hy => Int.ofNat_le.mp (hM2 _ (List.mem_map_of_mem (f := fun x => ((x.length : Nat) : Int)) hy))⟩

end
section
open PySem PySem.W PyProof.Rows PySem.Calls
example : True := by
  w_top off
  trivial
set_option maxRecDepth 100000
set_option maxHeartbeats 1000000

set_option hygiene false
local macro_rules | `(tactic| walk_at "call builtin:min") => `(tactic| refine Hold.out ?_)
set_option hygiene true
set_option hygiene false
local macro_rules | `(tactic| walk_at "call builtin:max") => `(tactic| refine Hold.out ?_)
set_option hygiene true
theorem only_wl {s : Heap} {wl : List (Addr × Obj)} (h : ∀ p ∈ wl, s.get? p.1 = some p.2) : ∃ h₁ : Heap, (∀ p ∈ wl, h₁.get? p.1 = some p.2) ∧ (∀ a o, h₁.get? a = some o → s.get? a = some o ∧ (a, o) ∈ wl) := by
  refine ⟨hideAll s ((List.range s.objs.size).filter fun a => decide (a ∉ wl.map (·.1))), fun p hp => hideAll_get _ (h p hp) fun hm => ?_, fun a o e => ?_⟩
  · have := (List.mem_filter.mp hm).2
    exact (of_decide_eq_true this) (List.mem_map_of_mem hp)
  · have e1 := of_hideAll _ e
    refine ⟨e1, ?_⟩
    have hlt := Heap.lt_size e1
    by_cases hm : a ∈ wl.map (·.1)
    · obtain ⟨p, hp, rfl⟩ := List.mem_map.mp hm
      have := h p hp
      rw [e1] at this
      have e2 : o = p.2 := Option.some.inj this
      rw [e2]; exact hp
    · rw [hideAll_none _ (List.mem_filter.mpr ⟨List.mem_range.mpr hlt, decide_eq_true hm⟩)] at e
      cases e
theorem Al.mono {α : Type} {R R' : α → Value → Prop} {l : List α} {ys : List Value} (h : Al R l ys) (hm : ∀ x v, R x v → R' x v) : Al R' l ys := by
  induction h with
  | nil => exact .nil
  | cons r _ ih => exact .cons (hm _ _ r) ih
theorem st13 {w : World} {mg mb : Str → Option Value} {A : Around} {s : Shared} {h₀ : Heap} {E : Value → Shared → Prop} {m : Str → Option Value} {L : Addr} {Mid : Shared → Prop} {o6 o5 o4 o3 o2 o1 : Obj} {dS rr Wl : Addr} {oS : Obj} {vR refs : List Value} {nw : Nat} {wl : List (Addr × Obj)} {ways : List (List Nat)} {M' : Nat} {tM : Tok} {g : List Nat} {p1 p2 : Array Value}
    (C : Cx w mg mb h₀) (M : ∃ bm ob, BMod h₀ mainGlobals mg bm ob) (hh : A.handled = none) (hu : A.units + 600 < cLine) (hroom : A.depth + 90 < recursionLimit) (F : Fr h₀ L s.heap m) (N : News h₀ L s.heap ((Wl, W.listOf refs.toArray nw) :: (rr, W.listOf vR.toArray 0) :: (dS, oS) :: (L + 1 + 1 + 1 + 1 + 1 + 1, o6) :: (L + 1 + 1 + 1, o3) :: (L + 1 + 1, o2) :: (140, tabObj p1) :: (147, tabObj p2) :: wl)) (m5 : m (Str.ofString "rows") = some (.ref rr)) (m6 : m (Str.ofString "ways") = some (.ref Wl))
    (e6 : o6.data = .cell (some (.int (M' : Nat) tM))) (hL : LstL wl) (hWT : WT wl ways refs) (hwl : ways.length ≤ 100) (hws : ∀ x ∈ ways, x.length ≤ 100)
    (hg : g ∈ ways) (hgM : g.length = M') (hbest : ∀ x ∈ ways, x.length = M' → x = g ∨ lexLt x g = true)
    (hQ : ∀ h tk m' a ys, Fr h₀ L h m' → News h₀ L h [(a, LCg.lst ys), (rr, W.listOf vR.toArray 0), (dS, oS), (L + 1 + 1 + 1, o3), (L + 1 + 1, o2), (140, tabObj p1), (147, tabObj p2)] → m' (Str.ofString "rows") = some (.ref rr) → m' (Str.ofString "due") = some (.ref a) → IsInts g ys → Mid { s with heap := h, toks := tk }) :
    wpAny (model PR w) (A.deeper (lawEnv L)) (exec (lawS 13) (lawEnv L)) (fun f s' => Reach (f = .next ∧ Mid s')) E s := by
  have C' := C
  obtain ⟨X, T⟩ := C
  unfold lawEnv
  conv in (occs := *) lawScope => all_goals whnf
  conv in (lawS 13) => whnf
  have big : @LT.lt Nat _ 234 L := Nat.lt_of_lt_of_le C'.big F.above
  have hlen : ways.length = refs.length := (hWT s.heap fun p hp => (N p (.tail _ (.tail _ (.tail _ (.tail _ (.tail _ (.tail _ (.tail _ (.tail _ hp))))))))).1).length
  k_steps
  refine Hold.mk ?_
  refine LCt.ListComp_T (F₀ := F) rfl (by decide) rfl (by decide) rfl ?_
  k_steps
  refine Hold.mk ?_
  refine LCt.CompSrcT.ledger (its := refs.toArray) hh F N (.head _) (by rw [List.size_toArray, sizeLine_eq]; omega) fun g1 => ?_
  refine rest_T (ks := ways) (fun x => decide (x.length = M')) (fun x v => ∀ h : Heap, (∀ p ∈ wl, h.get? p.1 = some p.2) → IsWay h x v) (by rw [List.size_toArray]; exact hlen) ?_ ?_
  · rintro j x v I oI CC oCC D m₂ ys h4 tk4 E' hk hv hCC hx F4 N4 off ne
    have hv' : refs[j]? = some v := by simpa using hv
    have hR : ∀ h : Heap, (∀ p ∈ wl, h.get? p.1 = some p.2) → IsWay h x v := fun h hp => by
      obtain ⟨x', hx', hw⟩ := (hWT h hp).get hv'
      rw [hk] at hx'; cases hx'; exact hw
    obtain ⟨a, zs, rfl, ga, ia⟩ := hR h4 fun p hp => (N4 p (.tail _ (.tail _ (.tail _ (.tail _ (.tail _ (.tail _ (.tail _ (.tail _ (.tail _ (.tail _ (.tail _ hp)))))))))))).1
    have hxl := hws x (List.mem_of_getElem? hk)
    have hzl := ia.length
    clear hv
    k_steps
    refine Hold.mk ?_
    refine len_list (items := zs.toArray) ⟨_, ga, rfl, _, rfl⟩ (by rw [List.size_toArray]; omega) ?_
    rw [List.size_toArray, ← hzl]
    k_steps
    · rename ((x.length : Nat) : Int) = ((M' : Nat) : Int) => he
      exact ⟨_, _, _, rfl, F4, N4, off, .inr ⟨_, .head _, rfl, _, rfl⟩, rfl, decide_eq_true (Int.ofNat.inj he), hR⟩
    · rename ((x.length : Nat) : Int) ≠ ((M' : Nat) : Int) => he
      exact ⟨_, _, _, rfl, F4, N4, off, .inr ⟨_, .head _, rfl, _, rfl⟩, rfl, decide_eq_false fun e => he (congrArg Int.ofNat e)⟩
  · intro ys hys Dk h5 tk5 F5 N5 off5
    k_steps
    refine Hold.mk ?_
    obtain ⟨h₁, hw1, hw2⟩ := only_wl (s := h5) (wl := wl) fun p hp => (N5 p (.tail _ (.tail _ (.tail _ (.tail _ (.tail _ (.tail _ (.tail _ (.tail _ (.tail _ hp)))))))))).1
    have hal : Al (IsWay h₁) (ways.filter fun x => decide (x.length = M')) ys := hys.mono fun x v r => r h₁ hw1
    have hgf : g ∈ ways.filter fun x => decide (x.length = M') := List.mem_filter.mpr ⟨hg, decide_eq_true hgM⟩
    have hbf : ∀ x ∈ ways.filter fun x => decide (x.length = M'), x = g ∨ lexLt x g = true := fun x hx => hbest x (List.mem_filter.mp hx).1 (of_decide_eq_true (List.mem_filter.mp hx).2)
    generalize (ways.filter fun x => decide (x.length = M')) = fs at hal hgf hbf
    cases fs with
    | nil => cases hgf
    | cons w0 ws =>
    have hmx : maxW w0 ws = g := maxW_is hbf hgf
    refine call_max_ways (h₁ := h₁) hh (by show A.units + 3 + 1 < cLine; omega) (newsLst N5 (.head _)) hal (fun p o e => (hw2 p o e).1) fun v h' tk' hv hk' => ?_
    rw [hmx] at hv
    obtain ⟨a, zs, rfl, ga, ia⟩ := hv
    have hma := (hw2 a _ ga).2
    have F6 := F5.grownK hk'
    have N6 := N5.grown hk'
    have N7 : News h₀ L h' [(a, LCg.lst zs), (rr, W.listOf vR.toArray 0), (dS, oS), (L + 1 + 1 + 1, o3), (L + 1 + 1, o2), (140, tabObj p1), (147, tabObj p2)] := News.pick N6 (.tail _ (.tail _ (.tail _ (.tail _ (.tail _ (.tail _ (.tail _ (.tail _ (.tail _ hma))))))))) (by repeat (first | exact News.nil | refine News.pick N6 (by k_mem) ?_))
    clear N6 F5 N5 N F
    k_steps
    rename Fr _ _ _ _ => F9
    rename News _ _ _ _ => N9
    exact Reach.mk ⟨by first | rfl | trivial, hQ _ _ _ a zs F9 N9 (by first | exact rfl | exact m5 | exact (if_neg (by decide)).trans m5 | exact (if_neg (by decide)).trans ((if_neg (by decide)).trans m5)) rfl ia⟩

end
end
section
open PySem PySem.W PyProof.Rows PySem.Calls PySem.Spec PySem.SeqAt
example : True := by
  w_top off
  trivial
set_option maxRecDepth 100000
set_option maxHeartbeats 1000000

set_option hygiene false
local macro_rules | `(tactic| walk_at "compareOp Eq ref ref") => `(tactic| refine Hold.out ?_)
set_option hygiene true
theorem readsAll_nats {h : Heap} {vs : List Value} {xs : List Nat} (H : IsInts xs vs) : ReadsAll h vs (xs.map fun k => PyData.int ((k : Nat) : Int)) [] := by
  induction H with
  | nil => exact .nil
  | cons r _ ih => obtain ⟨t, rfl⟩ := r; simpa using ReadsAll.cons (Reads.int (h := h) _ _) ih
theorem reads_nats {h : Heap} {a : Addr} {vs : List Value} {xs : List Nat} (hl : h.IsList a vs.toArray) (H : IsInts xs vs) : Reads h (.ref a) (.list (xs.map fun k => PyData.int ((k : Nat) : Int))) [a] := by
  obtain ⟨o, ho, hc, n, hd⟩ := hl
  exact Reads.list ho hc hd (by simpa using readsAll_nats H)
theorem shaped_nats (xs : List Nat) : shaped (.list (xs.map fun k => PyData.int ((k : Nat) : Int))) = true := by
  have h1 : ∀ xs : List Nat, PyData.canLayAll0 (xs.map fun k => PyData.int ((k : Nat) : Int)) = true := by
    intro xs; induction xs with
    | nil => rfl
    | cons _ _ ih => simp [PyData.canLayAll0, PyData.canLay0, ih]
  have h2 : ∀ xs : List Nat, PyData.depthAll (xs.map fun k => PyData.int ((k : Nat) : Int)) = 0 := by
    intro xs; induction xs with
    | nil => rfl
    | cons _ _ ih => simp [PyData.depthAll, PyData.depth, ih]
  simp [shaped, PyData.canLay0, PyData.depth, h1, h2]
theorem same_nats (xs : List Nat) : Spec.same (.list (xs.map fun k => PyData.int ((k : Nat) : Int))) (.list (xs.map fun k => PyData.int ((k : Nat) : Int))) = true := by
  simp only [Spec.same]
  induction xs with
  | nil => simp [Spec.sameAll]
  | cons a r ih => simp only [List.map_cons, Spec.sameAll, Spec.same, ih]; simp
theorem eq_nats {prog : Program} {w : World} {A : Around} {E : Value → Shared → Prop} {s : Shared} {a b : Addr} {xs ys : List Value} {Q : Value → Shared → Prop} {ns : List Nat} (ha : s.heap.IsList a xs.toArray) (hb : s.heap.IsList b ys.toArray) (hi : IsInts ns xs) (hj : IsInts ns ys) (hu : A.units + 64 < cLine) (h : Q (.bool true) s) :
    wpAny (model prog w) A (compareOp .Eq (.ref a) (.ref b)) Q E s :=
  eq_dataH_same (reads_nats ha hi) (reads_nats hb hj) (shaped_nats _) (shaped_nats _) hu (noMix_of_shape (.list .int) rfl _ _ (list_map_has fun _ => rfl) (list_map_has fun _ => rfl)) (by rw [same_nats]; exact h)
theorem StrsAre.get {vs : List Value} {xs : List Str} (h : StrsAre vs xs) : ∀ {j : Nat} {x : Str}, xs[j]? = some x → ∃ t, vs[j]? = some (.str x t) := by
  induction h with
  | nil => intro j x h; simp at h
  | cons _ ih =>
    intro j x h
    cases j with
    | zero => rw [List.getElem?_cons_zero] at h; cases h; exact ⟨_, rfl⟩
    | succ j => rw [List.getElem?_cons_succ] at h; exact ih h
theorem st14 {w : World} {mg mb : Str → Option Value} {A : Around} {s : Shared} {h₀ : Heap} {E : Value → Shared → Prop} {m : Str → Option Value} {L : Addr} {Mid : Shared → Prop} {o6 o5 o4 o3 o2 o1 : Obj} {dS rr a : Addr} {oS : Obj} {kS : List (Int × Value)} {vR ys : List Value} {g : List Nat} {rows : List Str} {n : Nat} {tC : Tok} {sp : Nat → Nat → Str} {p1 p2 : Array Value}
    (C : Cx w mg mb h₀) (M : ∃ bm ob, BMod h₀ mainGlobals mg bm ob) (hh : A.handled = none) (hu : A.units + 600 < cLine) (hroom : A.depth + 90 < recursionLimit) (F : Fr h₀ L s.heap m) (N : News h₀ L s.heap [(a, LCg.lst ys), (rr, W.listOf vR.toArray 0), (dS, oS), (L + 1 + 1 + 1, o3), (L + 1 + 1, o2), (140, tabObj p1), (147, tabObj p2)]) (m5 : m (Str.ofString "rows") = some (.ref rr)) (m6 : m (Str.ofString "due") = some (.ref a))
    (e2 : o2.data = .cell (some (.int (n : Nat) tC))) (e3 : o3.data = .cell (some (.ref dS)))
    (hS : oS.IsDictOf (intKind PR w) kS) (pS : PD n (fun a b => IsStrV (sp a b)) (fun _ _ => True) kS) (hn1 : 1 ≤ n) (hn5 : n ≤ 5)
    (hR : StrsAre vR rows) (hi : IsInts g ys) (hg : rows.map Str.length = g) (hj : Txt.join (Str.ofString "") rows = sp 0 n) (hrl : rows.length ≤ 100) (hrr : ∀ y ∈ rows, y.length ≤ 500)
    (hQ : ∀ h tk, At h₀ h [(140, tabObj p1), (147, tabObj p2)] → Mid { s with heap := h, toks := tk }) :
    wpAny (model PR w) (A.deeper (lawEnv L)) (exec (lawS 14) (lawEnv L)) (fun f s' => Reach (f = .ret (.bool true) ∧ Mid s')) E s := by
  have C' := C
  obtain ⟨X, T⟩ := C
  unfold lawEnv
  conv in (occs := *) lawScope => all_goals whnf
  conv in (lawS 14) => whnf
  have big : @LT.lt Nat _ 234 L := Nat.lt_of_lt_of_le C'.big F.above
  obtain ⟨v1, h1, ⟨t1, rfl⟩⟩ := pS.top (by omega) hn1
  have hvl := hR.length
  k_steps
  refine Hold.mk ?_
  refine join_strs N (by k_mem) hR (joinOk_small (by decide) (b := 500) hrr (Nat.le_refl _) (Nat.le_trans hrl (by decide))) fun t' k => ?_
  rw [hj]
  k_steps
  refine Hold.mk ?_
  refine kda_item N (by k_mem) hS (intKind_is _ _ _ _) h1 ?_
  k_steps
  · refine Hold.mk ?_
    refine LCg.ListComp_U (F₀ := F) rfl (by decide) rfl (by decide) rfl ?_
    k_steps
    refine Hold.mk ?_
    refine LCg.CompSrc.ledger (its := vR.toArray) hh F N (.tail _ (.head _)) (by rw [List.size_toArray, sizeLine_eq]; omega) fun g1 => ?_
    refine rest_U (ks := rows) (fun x v => ∃ t, v = .int ((x.length : Nat) : Int) t) (by rw [List.size_toArray, hvl]) ?_ ?_
    · rintro j x v I oI CC oCC D m₂ zs h4 tk4 E' hk hv hCC hx F4 N4 off ne
      obtain ⟨t2, ht2⟩ := hR.get hk
      have hv' : vR[j]? = some v := by simpa using hv
      rw [ht2] at hv'; cases hv'
      have hxl := hrr x (List.mem_of_getElem? hk)
      clear hv
      k_steps
      exact ⟨_, _, _, rfl, F4, N4, off, .inr ⟨_, .tail _ (.head _), rfl, _, rfl⟩, rfl, _, rfl⟩
    · intro zs hzs Dk h5 tk5 F5 N5 off5
      k_steps
      refine Hold.mk ?_
      have hzi : IsInts g zs := by rw [← hg]; exact hzs.map
      refine eq_nats (newsLst N5 (.head _)) (newsLst N5 (.tail _ (.head _))) hzi hi (by show A.units + 3 + 64 < cLine; omega) ?_
      exact Reach.mk ⟨rfl, hQ _ _ (At.leave F5 (by repeat (first | exact News.nil | refine News.pick N5 (by k_mem) ?_)))⟩
  · rename (sp 0 n == sp 0 n) = false => hx
    exact absurd hx (by simp)

end
end
end
section
open PySem PySem.W PyProof.Rows
set_option hygiene false
local macro_rules | `(tactic| omega) => `(tactic| first | w_left | (refine Nat.ne_of_lt ?_; w_left) | (refine Nat.ne_of_gt ?_; w_left) | lia | fail "no chain")
set_option hygiene true
section
open PySem PySem.W PyProof.Rows
set_option maxRecDepth 100000
noncomputable def chainsF : Nat → Nat → Nat → List (List Nat)
  | 0, a, n => if a = n then [[]] else []
  | f + 1, a, n => (if a = n then [[]] else []) ++ ((List.range (n + 1)).filter fun s => decide (a < s)).flatMap fun s => (chainsF f s n).map (s :: ·)
theorem chainsF_mem : ∀ {st : List Nat} {f a n : Nat}, chainB a st n = true → st.length ≤ f → st ∈ chainsF f a n
  | [], 0, a, n, h, _ => by rw [chainB, beq_iff_eq] at h; rw [chainsF, if_pos h]; exact .head _
  | [], f + 1, a, n, h, _ => by rw [chainB, beq_iff_eq] at h; rw [chainsF, if_pos h]; exact .head _
  | s :: r, 0, a, n, _, h => by simp at h
  | s :: r, f + 1, a, n, h, hl => by
    have hle := (chain_le h).2 s (.head _)
    rw [chainB, Bool.and_eq_true, decide_eq_true_iff] at h
    rw [chainsF]
    refine List.mem_append_right _ (List.mem_flatMap.mpr ⟨s, List.mem_filter.mpr ⟨List.mem_range.mpr (by omega), decide_eq_true h.1⟩, List.mem_map.mpr ⟨r, chainsF_mem h.2 (by simpa using hl), rfl⟩⟩)
theorem chain_len : ∀ {st : List Nat} {a n : Nat}, chainB a st n = true → st.length ≤ n - a
  | [], _, _, _ => Nat.zero_le _
  | s :: r, a, n, h => by
    have hle := (chain_le h).2 s (.head _)
    rw [chainB, Bool.and_eq_true, decide_eq_true_iff] at h
    have := chain_len h.2
    rw [List.length_cons]; omega
theorem stops_all : ∀ n, n < 6 → 1 ≤ n → ∀ st ∈ chainsF 5 0 n, ((List.range (2 ^ (n - 1))).any fun c => stopsOf n c == st) = true := by decide +kernel
theorem stops_chain : ∀ n, n < 6 → 1 ≤ n → ∀ c, c < 16 → chainB 0 (stopsOf n c) n = true := by decide +kernel

section
variable {ws : List Str} {outs : List Bool} {seen : Str} {tw : List (List Tk)} {n : Nat}
noncomputable def spF (ws : List Str) (a b : Nat) : Str := spanS ws a b
noncomputable def rdF (ws : List Str) (a b : Nat) : Str := stripF (spanS ws a b)
noncomputable def cdF (ws : List Str) (a b : Nat) : Bool := checkF (spanS ws a b)
noncomputable def sfS (tw : List (List Tk)) (k : Nat) : Bool := flag (P (tw.take k))
theorem Drawn.dr (D : Drawn ws outs seen tw) (hn : tw.length = n) : Dr tw n := ⟨hn, D.ok, D.good, D.st⟩
theorem rd_cl (D : Drawn ws outs seen tw) {a b : Nat} (h1 : a < b) (h2 : b ≤ tw.length) : cl (rdF ws a b) = rr (rdT tw a b) := by
  unfold rdF rdT
  rw [cl_strip, cl_span D.words h1 h2]
  exact sF_tk (seg tw a b) none (ok_seg D.ok a b)
theorem cd_is (D : Drawn ws outs seen tw) {a b : Nat} (h1 : a < b) (h2 : b ≤ tw.length) : cdF ws a b = cdT tw a b := by
  have hok : AllOk (rdT tw a b) := rdT_ok (D.dr rfl) a b
  unfold cdF cdT
  rw [check_is, cl_span D.words h1 h2]
  have := sF_tk (seg tw a b) none (ok_seg D.ok a b)
  simp only [Option.map_none] at this
  rw [this]
  exact kF_tk _ 0 hok
theorem seen_cl (D : Drawn ws outs seen tw) (hn : 1 ≤ tw.length) : cl seen = rr (outT false (seg tw 0 tw.length)) := by
  have h := D.seen
  have e : P tw = SG tw 0 tw.length := (SG_all rfl).symm
  obtain ⟨r, hr⟩ := SG_cons (tw := tw) (a := 0) (b := tw.length) (by omega) (Nat.le_refl _)
  have e2 : seg tw 0 tw.length = r := by unfold seg; rw [if_neg (by omega), hr]; rfl
  rw [e, hr, outT_sp, if_neg Bool.false_ne_true] at h
  rw [e2]
  exact ((List.cons.inj h).2).symm
theorem law_whole (D : Drawn ws outs seen tw) (hn : tw.length = n) (h1 : 1 ≤ n) : rdF ws 0 n = seen ∧ cdF ws 0 n = true := by
  subst hn
  obtain ⟨w1, w2⟩ := whole_read (D.dr rfl) h1
  refine ⟨cl_inj ?_, ?_⟩
  · rw [rd_cl D (by omega) (Nat.le_refl _), w1, seen_cl D h1]
  · rw [cd_is D (by omega) (Nat.le_refl _), w2]
theorem outs_is (D : Drawn ws outs seen tw) (hn : tw.length = n) : outs = (List.range (n - 1)).map fun k => sfS tw (k + 1) := by subst hn; exact D.out
theorem law_safe (D : Drawn ws outs seen tw) (hn : tw.length = n) (h1 : 1 ≤ n) : (List.range' 1 (n - 1)).map (sfAt (rdF ws) (cdF ws) seen n) = outs := by
  rw [outs_is D hn, List.range'_eq_map_range, List.map_map]
  apply List.map_congr_left
  intro k hk
  rw [List.mem_range] at hk
  subst hn
  show sfAt (rdF ws) (cdF ws) seen tw.length (1 + k) = _
  rw [show 1 + k = k + 1 by omega]
  unfold sfAt sfS
  rw [← safe_at (D.dr rfl) (Nat.succ_pos k) (by omega : k + 1 < tw.length), cd_is D (Nat.succ_pos k) (by omega)]
  congr 1
  rw [Bool.eq_iff_iff, beq_iff_eq, decide_eq_true_iff]
  have e1 : cl (rdF ws 0 (k + 1) ++ rdF ws (k + 1) tw.length) = rr (rdT tw 0 (k + 1) ++ rdT tw (k + 1) tw.length) := by
    rw [cl_app, rr_app, rd_cl D (Nat.succ_pos k) (by omega), rd_cl D (by omega) (Nat.le_refl _)]
  have e2 := seen_cl D h1
  constructor
  · intro h
    refine rr_inj ((rdT_ok (D.dr rfl) _ _).app (rdT_ok (D.dr rfl) _ _)) (outT_ok (ok_seg D.ok _ _) _) ?_
    rw [← e1, ← e2, h]
  · intro h
    apply cl_inj
    rw [e1, e2, h]
theorem sf_at (D : Drawn ws outs seen tw) (hn : tw.length = n) (i : Nat) : outs[i]? = some true ↔ i + 1 < n ∧ sfS tw (i + 1) = true := by
  rw [outs_is D hn, List.getElem?_map]
  by_cases h : i < n - 1
  · rw [List.getElem?_range h]
    simp only [Option.map_some, Option.some.injEq]
    constructor
    · intro e; exact ⟨by omega, e⟩
    · intro e; exact e.2
  · rw [List.getElem?_eq_none (by simpa using h)]
    simp only [Option.map_none]
    constructor
    · intro e; cases e
    · intro e; omega
theorem vp_iff (D : Drawn ws outs seen tw) (hn : tw.length = n) (wd : Int) {a b : Nat} (h1 : a < b) (h2 : b ≤ n) :
    (decide (((spanS ws a b).length : Int) ≤ wd) || !((outs.drop a).take (b - 1 - a)).contains true) = true ↔ Vp (sfS tw) (lnS ws) wd a b := by
  unfold Vp
  rw [Bool.or_eq_true, decide_eq_true_iff, Bool.not_eq_true']
  refine or_congr Iff.rfl ?_
  rw [← Bool.not_eq_true, List.contains_iff_mem, List.mem_iff_getElem?]
  have key : ∀ i, ((outs.drop a).take (b - 1 - a))[i]? = some true ↔ i < b - 1 - a ∧ sfS tw (a + i + 1) = true := by
    intro i
    rw [List.getElem?_take]
    split
    · rename_i hi
      rw [List.getElem?_drop, sf_at D hn]
      constructor
      · intro h; exact ⟨hi, h.2⟩
      · intro h; exact ⟨Nat.lt_of_lt_of_le (mid1 hi) h2, h.2⟩
    · rename_i hi
      constructor
      · intro h; cases h
      · intro h; exact absurd h.1 hi
  constructor
  · intro h k hk1 hk2
    cases e : sfS tw k with
    | false => rfl
    | true => exact absurd ⟨k - a - 1, (key _).mpr ⟨mid3 hk1 hk2, by rw [mid2 hk1]; exact e⟩⟩ h
  · rintro h ⟨i, hi⟩
    obtain ⟨q1, q2⟩ := (key i).mp hi
    rw [h (a + i + 1) (Nat.lt_succ_of_le (Nat.le_add_right a i)) (mid1 q1)] at q2; cases q2
theorem ok_iff (D : Drawn ws outs seen tw) (hn : tw.length = n) (h1 : 1 ≤ n) (wd : Int) {c : Nat} (hch : chainB 0 (stopsOf n c) n = true) :
    okWay (spF ws) (rdF ws) (cdF ws) outs wd n c = true ↔ WayOk n (sfS tw) (lnS ws) wd 0 (stopsOf n c) := by
  have DD := D.dr hn
  have hpl : pairsOf n c = pairsL 0 (stopsOf n c) := rfl
  have hle : ∀ p ∈ pairsL 0 (stopsOf n c), p.1 < p.2 ∧ p.2 ≤ n := by
    have key : ∀ {st : List Nat} {a : Nat}, chainB a st n = true → ∀ p ∈ pairsL a st, p.1 < p.2 ∧ p.2 ≤ n := by
      intro st
      induction st with
      | nil => intro a _ p hp; cases hp
      | cons s r ih =>
        intro a h p hp
        have hl := (chain_le h).2 s (.head _)
        rw [chainB, Bool.and_eq_true, decide_eq_true_iff] at h
        rw [pairsL_cons] at hp
        rcases List.mem_cons.mp hp with rfl | hp
        · exact ⟨h.1, hl.2⟩
        · exact ih h.2 p hp
    exact key hch
  have hle2 : ∀ p ∈ pairsL 0 (stopsOf n c), p.1 < p.2 ∧ p.2 ≤ tw.length := fun p hp => by rw [hn]; exact hle p hp
  have hcd : ∀ p ∈ pairsL 0 (stopsOf n c), cdF ws p.1 p.2 = cdT tw p.1 p.2 := fun p hp => cd_is D (hle2 p hp).1 (hle2 p hp).2
  have hrd : cl (Txt.join (Str.ofString "") ((pairsL 0 (stopsOf n c)).map fun p => rdF ws p.1 p.2)) = rr ((pairsL 0 (stopsOf n c)).map fun p => rdT tw p.1 p.2).flatten := by
    rw [cl_join0, List.map_map]
    have : ∀ l : List (Nat × Nat), (∀ p ∈ l, p.1 < p.2 ∧ p.2 ≤ tw.length) → (l.map (cl ∘ fun p => rdF ws p.1 p.2)).flatten = rr (l.map fun p => rdT tw p.1 p.2).flatten := by
      intro l
      induction l with
      | nil => intro _; rfl
      | cons p r ih =>
        intro h
        rw [List.map_cons, List.map_cons, List.flatten_cons, List.flatten_cons, rr_app, ih fun q hq => h q (.tail _ hq)]
        congr 1
        exact rd_cl D (h p (.head _)).1 (h p (.head _)).2
    exact this _ hle2
  have hwhole : cl (rdF ws 0 n) = rr (outT false (seg tw 0 n)) := by rw [(law_whole D hn h1).1, seen_cl D (by omega), hn]
  have okO : AllOk (outT false (seg tw 0 n)) := outT_ok (ok_seg D.ok _ _) _
  have okJ : AllOk ((pairsL 0 (stopsOf n c)).map fun p => rdT tw p.1 p.2).flatten := by
    intro t ht
    obtain ⟨l, hl, hm⟩ := List.mem_flatten.mp ht
    obtain ⟨p, _, rfl⟩ := List.mem_map.mp hl
    exact rdT_ok DD _ _ t hm
  have hlen : ∀ p ∈ pairsL 0 (stopsOf n c), ((decide (((spF ws p.1 p.2).length : Int) ≤ wd) || !((outs.drop p.1).take (p.2 - 1 - p.1)).contains true) = true ↔ Vp (sfS tw) (lnS ws) wd p.1 p.2) := fun p hp => vp_iff D hn wd (hle p hp).1 (hle p hp).2
  unfold okWay
  rw [hpl, Bool.and_eq_true, Bool.and_eq_true, decide_eq_true_iff, List.all_eq_true, List.all_eq_true]
  constructor
  · rintro ⟨⟨hj, hc⟩, hw⟩
    have ej : ((pairsL 0 (stopsOf n c)).map fun p => rdT tw p.1 p.2).flatten = outT false (seg tw 0 n) := by
      refine rr_inj okJ okO ?_
      rw [← hrd, hj, hwhole]
    have hq : ∀ p ∈ pairsL 0 (stopsOf n c), Tk.qt ∉ rdT tw p.1 p.2 := fun p hp hm => outT_noq (seg tw 0 n) false (by rw [← ej]; exact List.mem_flatten.mpr ⟨_, List.mem_map_of_mem hp, hm⟩)
    have hs := stops_safe DD hch stA_zero hq fun p hp => by rw [← hcd p hp]; exact hc p hp
    exact ⟨hch, fun s hs' _ => flag_iff.mpr (hs s hs'), fun p hp => (hlen p hp).mp (hw p hp)⟩
  · rintro ⟨_, hsafe, hfit⟩
    have hs : ∀ s ∈ stopsOf n c, stA tw s = (false, 0) := fun s hs' => by
      have := ((chain_le hch).2 s hs').2
      rcases Nat.lt_or_eq_of_le this with h | h
      · exact flag_iff.mp (hsafe s hs' h)
      · rw [h]; exact DD.last
    obtain ⟨r1, r2⟩ := stops_read DD hch (by omega) stA_zero hs
    refine ⟨⟨cl_inj ?_, fun p hp => by rw [hcd p hp]; exact r2 p hp⟩, fun p hp => (hlen p hp).mpr (hfit p hp)⟩
    rw [hrd, r1, hwhole]
theorem law_ways (D : Drawn ws outs seen tw) (hn : tw.length = n) (h1 : 1 ≤ n) (h5 : n ≤ 5) (hW : ∀ x ∈ ws, HasW x) (wd : Int) :
    ∃ g : List Nat, (rowsF wd ws outs).map Str.length = g ∧ Txt.join (Str.ofString "") (rowsF wd ws outs) = spF ws 0 n ∧ g.length ≤ n ∧ (∀ k ∈ g, k ≤ (spF ws 0 n).length) ∧
      g ∈ waysN (spF ws) (rdF ws) (cdF ws) outs wd n (2 ^ (n - 1)) ∧ ∀ x ∈ waysN (spF ws) (rdF ws) (cdF ws) outs wd n (2 ^ (n - 1)), g.length ≤ x.length ∧ x.length ≤ n ∧ (x = g ∨ lexLt x g = true) := by
  have hwn : ws.length = n := by
    have := congrArg List.length D.words
    rw [List.length_map, List.length_map] at this
    omega
  have app : ∀ a b c, a < b → b < c → c ≤ n → cl (spanS ws a c) = cl (spanS ws a b) ++ cl (spanS ws b c) := fun a b c q1 q2 q3 => by
    have l3 : c ≤ tw.length := by omega
    rw [cl_span D.words (by omega) l3, cl_span D.words q1 (by omega), cl_span D.words q2 l3, seg_add q1 q2 l3, rr_app]
  have add : ∀ a b c, a < b → b < c → c ≤ n → lnS ws a c = lnS ws a b + lnS ws b c := fun a b c q1 q2 q3 => by
    have := congrArg List.length (app a b c q1 q2 q3)
    rwa [List.length_append, cl_len, cl_len, cl_len] at this
  have pos : ∀ a b, a < b → b ≤ n → 0 < lnS ws a b := fun a b q1 q2 => by
    have hm : ws[a]'(by omega) ∈ (ws.drop a).take (b - a) := by
      rw [List.drop_eq_getElem_cons (by omega : a < ws.length), sub_pred q1, List.take_succ_cons]
      exact .head _
    have hj : HasW (Txt.join (Str.ofString " ") ((ws.drop a).take (b - a))) := HasW.join hm (hW _ (List.getElem_mem _))
    have := hj.pos
    show 0 < (spanS ws a b).length
    unfold spanS
    rw [Str.length_append]; omega
  have hpow : 2 ^ (n - 1) ≤ 16 := by
    have : n = 1 ∨ n = 2 ∨ n = 3 ∨ n = 4 ∨ n = 5 := to5 (by omega) (by omega)
    rcases this with h | h | h | h | h <;> subst h <;> decide
  obtain ⟨g, hg, gr, hr, hj⟩ := rows_greedy (ws := ws) (wd := wd) (S := sfS tw) hwn h1 (sf_at D hn) app
  have hgl : (lens (lnS ws) 0 g).length ≤ n := by rw [lens_length]; have := chain_len hg.chain; omega
  have hmem : ∀ x ∈ waysN (spF ws) (rdF ws) (cdF ws) outs wd n (2 ^ (n - 1)), ∃ st, WayOk n (sfS tw) (lnS ws) wd 0 st ∧ x = lens (lnS ws) 0 st := by
    intro x hx
    obtain ⟨c, hc, rfl⟩ := List.mem_map.mp hx
    obtain ⟨hc1, hc2⟩ := List.mem_filter.mp hc
    rw [List.mem_range] at hc1
    have hch := stops_chain n (by omega) h1 c (by omega)
    exact ⟨stopsOf n c, (ok_iff D hn h1 wd hch).mp hc2, rfl⟩
  refine ⟨lens (lnS ws) 0 g, hr, hj, hgl, ?_, ?_, ?_⟩
  · intro k hk
    have hall : ∀ y ∈ rowsF wd ws outs, y.length ≤ (spF ws 0 n).length := by
      intro y hy
      have e : cl (spF ws 0 n) = ((rowsF wd ws outs).map cl).flatten := by rw [show spF ws 0 n = Txt.join (Str.ofString "") (rowsF wd ws outs) from hj.symm, cl_join0]
      have := congrArg List.length e
      rw [cl_len] at this
      rw [this]
      have hs := List.Sublist.length_le (List.sublist_flatten_of_mem (List.mem_map_of_mem (f := cl) hy))
      rwa [cl_len] at hs
    rw [← hr] at hk
    obtain ⟨y, hy, rfl⟩ := List.mem_map.mp hk
    exact hall y hy
  · have hin := stops_all n (by omega) h1 g (chainsF_mem hg.chain (by have := chain_len hg.chain; omega))
    obtain ⟨c, hc1, hc2⟩ := List.any_eq_true.mp hin
    rw [beq_iff_eq] at hc2
    rw [List.mem_range] at hc1
    refine List.mem_map.mpr ⟨c, List.mem_filter.mpr ⟨List.mem_range.mpr hc1, ?_⟩, ?_⟩
    · exact (ok_iff D hn h1 wd (by rw [hc2]; exact hg.chain)).mpr (by rw [hc2]; exact hg)
    · rw [← hc2]; rfl
  · intro x hx
    obtain ⟨st, hst, rfl⟩ := hmem x hx
    refine ⟨?_, ?_, lexmax add pos hg gr hst⟩
    · rw [lens_length, lens_length]; exact ahead add hg gr hst (Nat.le_refl _)
    · rw [lens_length]; have := chain_len hst.chain; omega
end

end
section
open PySem PySem.W PyProof.Rows PySem.Calls
example : True := by
  w_top off
  trivial
set_option maxRecDepth 100000
set_option maxHeartbeats 2000000
theorem cut_cps {M : Model} {A : Around} {E : Value → Shared → Prop} {s : Shared} {env : Env} {st : Stmt} {rest : List Stmt} {Q : Flow → Shared → Prop}
    (h : wpAny M A (exec st env) (fun f s' => Reach (f = .next ∧ wpAny M A (execs rest env) Q E s')) E s) : wpAny M A (execs (st :: rest) env) Q E s :=
  cut_stmt (fun s' => wpAny M A (execs rest env) Q E s') h fun _ h => h
theorem sF_len : ∀ (cs : List Nat) (o : Option (List Nat)) (e : Bool), (sF o e cs).length ≤ (o.getD []).length + cs.length
  | [], none, e => by cases e <;> simp [sF]
  | [], some b, e => by cases e <;> simp [sF]
  | c :: r, none, true => by
    have := sF_len r none false
    simp only [sF, List.length_cons, Option.getD_none, List.length_nil] at this ⊢; omega
  | c :: r, none, false => by
    have h1 := sF_len r (some [34]) false
    have h2 := sF_len r none (c == 92)
    simp only [sF, List.length_cons, Option.getD_none, Option.getD_some, List.length_nil] at h1 h2 ⊢
    split
    · omega
    · simp only [List.length_cons]; omega
  | c :: r, some b, true => by
    have := sF_len r (some (b ++ [c])) false
    simp only [sF, List.length_cons, Option.getD_some, List.length_append, List.length_nil] at this ⊢; omega
  | c :: r, some b, false => by
    have h1 := sF_len r (some (b ++ [c])) (c == 92)
    have h2 := sF_len r none false
    simp only [sF, List.length_cons, Option.getD_none, Option.getD_some, List.length_append, List.length_nil] at h1 h2 ⊢
    split <;> omega
theorem strip_len (x : Str) : (stripF x).length ≤ x.length := by
  rw [← cl_len, ← cl_len, cl_strip]
  have := sF_len (cl x) none false
  simpa using this
theorem span_len {ws : List Str} (h : ∀ x ∈ ws, x.length ≤ 15) (h5 : ws.length ≤ 5) (a b : Nat) : (spanS ws a b).length ≤ 300 := by
  unfold spanS
  rw [Str.length_append]
  have h0 : (if 0 < a then Str.ofString " " else Str.ofString "").length ≤ 1 := by split <;> decide +kernel
  have h1 := StrLaws.join_length_le (Str.ofString " ") ((ws.drop a).take (b - a))
  have h2 := sum_le_mul ((ws.drop a).take (b - a)) 15 fun x hx => h x (List.mem_of_mem_drop (List.mem_of_mem_take hx))
  have h3 : (Str.ofString " ").length = 1 := by decide +kernel
  have h4 : ((ws.drop a).take (b - a)).length ≤ 5 := by rw [List.length_take, List.length_drop]; exact min_sub h5
  rw [h3] at h1
  rw [join_eq]
  exact Nat.le_trans (Nat.add_le_add h0 (join_lim (K := 80) h1 h2 h4 rfl)) (Nat.le_of_ble_eq_true rfl)
theorem c_law {w : World} {mg mb : Str → Option Value} {A : Around} {s : Shared} {h₀ : Heap} {Q E : Value → Shared → Prop} {sl : Addr} {vs : List Value} {xs : List Int} {p1 p2 : Array Value}
    (C : Cx w mg mb h₀) (M : ∃ bm ob, BMod h₀ mainGlobals mg bm ob) (hh : A.handled = none) (hu : A.units + 600 < cLine) (H : At h₀ s.heap [(140, tabObj p1), (147, tabObj p2)]) (htr : TriplesOk p1.toList) (htr2 : TriplesOk p2.toList) (hroom : A.depth + 90 < recursionLimit)
    (hl : h₀.IsList sl vs.toArray) (hi : IntsAre vs xs) (hn : xs.length ≤ 63)
    (hQ : ∀ s' p1' p2', At h₀ s'.heap [(140, tabObj p1'), (147, tabObj p2')] → s'.os = s.os → GX s.gens s'.gens → Q (.bool true) s') :
    wpAny (model PR w) A (call (.ref 234) [.ref sl]) Q E s := by
  have C' := C
  obtain ⟨X, T⟩ := C
  refine wpAny_call ?_
  have Xs := X.keeps H.keep
  have Ts := T.keeps H.keep
  k_dflt (refine' enter_cells (binds := [(Str.ofString "script", .ref sl)]) ?k1 ?k2 ?k3 ?k4 ?k5 ?k6 ?k7 ?k8 ?_ ?c1 ?c2 ?c3; (case k1 => exact Xs); (case k2 => exact Ts.nolimit); (case k3 => k_is); (case k4 => k_is); (case k5 => omega); (case k6 => exact BindsTo.of_eq rfl); (case c1 => exact rfl); (case c2 => exact rfl); (case c3 => exact rfl); (case k8 => decide))
  · intro k x hx
    rw [List.mem_singleton.mp hx]
    exact .inl rfl
  intro L h₁ tk cells F₀ N₀ Y hL
  obtain ⟨F, N⟩ := H.enter F₀
  have N := News.append (news_low H.keep N₀) N
  clear F₀ N₀ Xs Ts
  obtain ⟨o6, o5, o4, o3, o2, o1, hE, e6, e5, e4, e3, e2, e1⟩ := PyProof.Rows.kc_six Y
  subst hE
  clear Y
  dsimp only [List.cons_append, List.nil_append] at N
  -- the numbers
  have hns := numsOf_len xs
  have hwd := wdOf_le xs
  generalize hnsE : numsOf xs = ns at hns
  generalize hwdE : wdOf xs = wd at hwd
  have hns1 : 1 ≤ ns.length := Nat.le_trans (by decide) hns.1
  have hns5 : ns.length ≤ 5 := hns.2
  obtain ⟨tw, htw, D⟩ := drawn ns (by omega)
  have hWs := ends_signs ns (by omega) (by omega)
  generalize hwsE : (wordsEnd (wordsAll ns)).1 = ws at D hWs
  generalize houtE : (wordsEnd (wordsAll ns)).2.1 = outs at D
  generalize hseenE : (wordsEnd (wordsAll ns)).2.2 = seen at D
  have hwn : ws.length = tw.length := by
    have := congrArg List.length D.words
    rwa [List.length_map, List.length_map] at this
  generalize hnE : ws.length = n at hwn
  have hnn : n = ns.length := hwn.trans htw
  have hn3 : 3 ≤ n := hnn ▸ hns.1
  have hn5 : n ≤ 5 := hnn ▸ hns.2
  have hn1 : 1 ≤ n := Nat.le_trans (by decide) hn3
  have hn2 : 2 ≤ n := Nat.le_trans (by decide) hn3
  have hn100 : n ≤ 100 := Nat.le_trans hn5 (by decide)
  have hw5 : ws.length ≤ 5 := Nat.le_trans (Nat.le_of_eq hnE) hn5
  have hw1 : 1 ≤ ws.length := Nat.le_trans hn1 (Nat.le_of_eq hnE.symm)
  have hsp : ∀ a b, (spF ws a b).length ≤ 300 := span_len (fun x hx => (hWs x hx).2.2) (by omega)
  have hrd : ∀ a b, (rdF ws a b).length ≤ 300 := fun a b => Nat.le_trans (strip_len _) (hsp a b)
  obtain ⟨hseen, hcd⟩ := law_whole D hwn.symm (by omega)
  have hsafe := law_safe D hwn.symm (by omega)
  have hsl : outs.length + 1 = n := by rw [outs_is D hwn.symm, List.length_map, List.length_range]; exact Nat.sub_add_cancel hn1
  have hsw : outs.length + 1 = ws.length := hsl.trans hnE.symm
  obtain ⟨g, hg, hj, hgl, hgk, hgm, hbest⟩ := law_ways D hwn.symm (by omega) hn5 (fun x hx => (hWs x hx).2.1) wd
  have hwl : (waysN (spF ws) (rdF ws) (cdF ws) outs wd n (2 ^ (n - 1))).length ≤ 100 := by
    unfold waysN
    rw [List.length_map]
    refine Nat.le_trans (List.length_filter_le _ _) ?_
    rw [List.length_range]
    rcases to5 hn1 hn5 with h | h | h | h | h <;> rw [h] <;> decide
  have hfin : ∀ {s' : Shared} {p1' p2'}, At h₀ s'.heap [(140, tabObj p1'), (147, tabObj p2')] → s'.os = s.os → GX s.gens s'.gens → Q (.bool true) s' := fun {s' _ _} a b c => hQ s' _ _ a b c
  clear hQ
  show wpAny (model PR w) (A.deeper (lawEnv L)) (execs [lawS 0, lawS 1, lawS 2, lawS 3, lawS 4, lawS 5, lawS 6, lawS 7, lawS 8, lawS 9, lawS 10, lawS 11, lawS 12, lawS 13, lawS 14] (lawEnv L)) _ _ _
  refine cut_cps (st0 C' M hh hu hroom F N rfl hl hi hn fun h2 tk2 m2 rn zs F2 N2 a1 a2 => ?_)
  rw [hnsE] at a2
  clear F N
  refine cut_cps (st1 C' M hh hu hroom F2 N2 a1 (xs := xs) (by rw [hnsE]; exact a2) fun h3 tk3 m3 tW F3 N3 b1 b2 => ?_)
  rw [hwdE] at b2
  clear F2 N2
  refine cut_cps (st2 (v6 := none) (v5 := none) (v4 := none) (v3 := none) (v2 := none) C' M hh hu hroom F3 N3 b1 e1 a2 (by omega) (by omega) b2 fun s4 m4 rw ro vW vO nW o1' tS os4 gx4 F4 N4 c1 c2 c3 c4 c5 c6 => ?_)
  rw [hseenE] at c4; rw [hwsE] at c5; rw [houtE] at c6
  clear F3 N3 e1
  have hvl : vW.length = n := by rw [c5.length]; exact hnE
  refine cut_cps (st3 C' M hh hu hroom F4 N4 c1 c2 c3 e2 hvl hn5 fun s5 m5 o2' tC os5 gx5 F5 N5 d1 d2 d3 d4 => ?_)
  clear F4 N4 e2
  refine cut_cps (st4 C' M hh hu hroom F5 N5 d1 d2 d3 e3 c5 (by omega) (by omega) (fun x hx => (hWs x hx).2.2) fun s6 m6 o3' dS oS kS os6 gx6 F6 N6 f1 f2 f3 f4 hS pS hk25 hsys => ?_)
  rw [hnE] at pS
  clear F5 N5 e3
  refine cut_cps (st5 (sp := spF ws) C' M hh hu hroom F6 N6 f1 f2 f3 e4 f4 hS pS hk25 hsys hsp hn5 fun s7 m7 o4' dR oR kR os7 gx7 F7 N7 g1 g2 g3 g4 hR pR => ?_)
  clear F6 N6 e4
  refine cut_cps (st6 (sp := spF ws) C' M hh hu hroom F7 N7 g1 g2 g3 e5 f4 hS hR pS hk25 hsys hsp hn5 fun s8 m8 o5' dC oC kC os8 gx8 F8 N8 i1 i2 i3 i4 hC pC => ?_)
  clear F7 N7 e5
  refine cut_cps (st7 (rd := rdF ws) (cd := cdF ws) C' M hh hu hroom F8 N8 c4 d4 g4 i4 hR pR hC pC (by omega) hn5 hseen hcd fun h9 tk9 F9 N9 => ?_)
  clear F8 N8
  refine cut_cps (st8 (rd := rdF ws) (cd := cdF ws) C' M hh hu hroom F9 N9 i1 i2 i3 c4 d4 g4 i4 hR pR hC pC (by omega) hn5 hrd fun h10 tk10 m10 rf vF F10 N10 j1 j2 j3 j4 hvF => ?_)
  clear F9 N9
  have hF : BoolsAre vF outs := by rw [← hsafe]; exact hvF.bools
  refine cut_cps (st9 C' M hh hu hroom F10 N10 j2 j4 c6 hF fun h11 tk11 F11 N11 => ?_)
  clear F10 N10
  refine cut_cps (st10 C' M hh hu hroom F11 N11 j1 j4 j3 htr htr2 hS hR hC c5 hF (by omega) (by omega) (by omega) hWs (by omega) (by omega) fun s12 m12 rr vR p1' p2' os12 gx12 F12 N12 l1 l2 l3 hvR => ?_)
  clear F11 N11
  refine cut_cps (st11 (sp := spF ws) (rd := rdF ws) (cd := cdF ws) C' M hh hu hroom F12 N12 l1 l2 l3 f4 g4 i4 hS pS hR pR hC pC hF (by omega) hn5 hsl (by omega) (by omega) hrd hsp fun s13 m13 Wl refs nw wl os13 gx13 F13 N13 q1 q2 hL hWT => ?_)
  clear F12 N12
  refine cut_cps (st12 (o5 := o1) (o4 := o1) (o1 := o1) C' M hh hu hroom F13 N13 q1 q2 e6 hS hL hWT (List.length_pos_of_mem hgm) hwl (fun x hx => Nat.le_trans (hbest x hx).2.1 hn100) fun h14 tk14 m14 o6' M' tM F14 N14 r1 r2 r3 r4 r5 => ?_)
  clear F13 N13 e6
  obtain ⟨x0, hx0, hx1⟩ := r4
  have hgM : g.length = M' := by
    have h1 := r5 g hgm
    have h2 := (hbest x0 hx0).1
    exact Nat.le_antisymm (Nat.le_trans h2 (Nat.le_of_eq hx1)) h1
  refine cut_cps (st13 (o5 := o1) (o4 := o1) (o1 := o1) C' M hh hu hroom F14 N14 r1 r2 r3 hL hWT hwl (fun x hx => Nat.le_trans (hbest x hx).2.1 hn100) hgm hgM (fun x hx _ => (hbest x hx).2.2) fun h15 tk15 m15 a ys F15 N15 t1 t2 hys => ?_)
  clear F14 N14
  have hrl : (rowsF wd ws outs).length = g.length := by rw [← hg, List.length_map]
  refine wpAny_execs_cons (wpAny_mono (st14 (o6 := o1) (o5 := o1) (o4 := o1) (o1 := o1) (Mid := fun s' => At h₀ s'.heap [(140, tabObj p1'), (147, tabObj p2')] ∧ s'.os = s13.os ∧ s'.gens = s13.gens) C' M hh hu hroom F15 N15 t1 t2 d4 f4 hS pS (by omega) hn5 hvR hys hg hj (Nat.le_trans (Nat.le_of_eq hrl) (Nat.le_trans hgl hn100)) (fun y hy => ?_) fun h16 tk16 hk => ⟨hk, rfl, rfl⟩) (fun f s' h => ?_) fun _ _ e => e)
  · have h1 : y.length ∈ g := by rw [← hg]; exact List.mem_map_of_mem hy
    have h2 := hgk _ h1
    have h3 := hsp 0 n
    exact Nat.le_trans h2 (Nat.le_trans h3 (Nat.le_of_ble_eq_true rfl))
  obtain ⟨rfl, hk, ho, hgx⟩ := h.out
  refine hfin hk ?_ ?_
  · rw [ho, os13, os12, os8, os7, os6, os5, os4]
  · have k4 : GX s.gens s4.gens := gx4
    have k5 : s5.gens = s4.gens := gx5
    rw [← k5] at k4
    have k6 : GX s5.gens s6.gens := gx6
    have k7 : GX s6.gens s7.gens := gx7
    have k8 : GX s7.gens s8.gens := gx8
    have k12 : GX s8.gens s12.gens := gx12
    have k13 : GX s12.gens s13.gens := gx13
    rw [hgx]
    exact k4.trans (k6.trans (k7.trans (k8.trans (k12.trans k13))))

end
end
end Mine
end
section
open PySem PySem.W PyProof.Rows PySem.Calls
namespace Mine
set_option maxRecDepth 100000
set_option maxHeartbeats 4000000
theorem lookup_app {K K' : Frag} {a : Addr} {o : Obj} (h : K.lookup a = some o) : (K ++ K').lookup a = some o := by
  rw [List.lookup_append, h]; rfl
theorem heap_no (P : Params) : (heapK P).lookup 140 = none ∧ (heapK P).lookup 147 = none := ⟨by kernel_rfl, by kernel_rfl⟩
theorem heap_codes (P : Params) : (∃ dd vs sl, (heapK P).lookup 144 = some ⟨.type "code", dd, .fields vs, sl⟩ ∧ vs[11]? = some (.ref 140)) ∧ (∃ dd vs sl, (heapK P).lookup 151 = some ⟨.type "code", dd, .fields vs, sl⟩ ∧ vs[11]? = some (.ref 147)) :=
  ⟨⟨_, _, _, by k_is, rfl⟩, ⟨_, _, _, by k_is, rfl⟩⟩
theorem law_end {w : World} {s₀ s₁ : Shared} {mg mb : Str → Option Value} {fa l : Addr} {vs : List Value} {xs : List Int}
    (KX : (K2 w.params).In s₁.heap) (T : TopRead viewK LOO mg mb s₁.heap) (M : ∃ bm ob, BMod s₁.heap mainGlobals mg bm ob) (hmg : mg (Str.ofString "law") = some (.ref fa)) (hg : s₁.gens = #[])
    (hl : s₁.heap.IsList l vs.toArray) (hi : IntsAre vs xs) (hn : xs.length ≤ 63) (args : List WData) (hargs : args = [ofPy (PyData.list (List.map PyData.int xs))]) :
    wpAny (model PR w) callerA (call (.ref fa) [.ref l]) (fun v s' => GoodWG PySem.Challenge.rw_pe0220_01.row.claim (classAt s₀.heap) (ExcName.means s₀.heap) args s₁ (.ok (.ret v)) s')
      (fun e s' => GoodWG PySem.Challenge.rw_pe0220_01.row.claim (classAt s₀.heap) (ExcName.means s₀.heap) args s₁ (.error e) s') s₁ := by
  have KX0 : (heapK w.params).In s₁.heap := fun a o h => KX a o (lookup_app h)
  have hfa : fa = 234 := by
    have := mg_of KX0 T.g (v := .ref 234) (n := Str.ofString "law") (by k_is)
    rw [hmg] at this
    injection this with this
    injection this
  subst hfa
  obtain ⟨n1, n2⟩ := heap_no w.params
  have g1 : s₁.heap.get? 140 = some (tabObj #[]) := KX 140 _ (by show List.lookup 140 (heapK w.params ++ _) = _; rw [List.lookup_append, n1]; rfl)
  have g2 : s₁.heap.get? 147 = some (tabObj #[]) := KX 147 _ (by show List.lookup 147 (heapK w.params ++ _) = _; rw [List.lookup_append, n2]; rfl)
  -- the base
  have low : ∀ b o, b ≠ 140 → b ≠ 147 → s₁.heap.get? b = some o → (hideAll s₁.heap [140, 147]).get? b = some o := fun b o h1 h2 e => hideAll_get _ e (by simp [h1, h2])
  have H : At (hideAll s₁.heap [140, 147]) s₁.heap [(140, tabObj #[]), (147, tabObj #[])] := by
    refine ⟨fun b o e => of_hideAll _ e, Nat.le_of_eq (hideAll_size _ _), fun p hp => ?_⟩
    rcases List.mem_cons.mp hp with rfl | hp
    · exact ⟨g1, hideAll_none _ (by simp)⟩
    · rw [List.mem_singleton.mp hp]; exact ⟨g2, hideAll_none _ (by simp)⟩
  have X0 : (heapK w.params).In (hideAll s₁.heap [140, 147]) := fun a o h => low a o (fun e => by rw [e, n1] at h; cases h) (fun e => by rw [e, n2] at h; cases h) (KX0 a o h)
  have T0 : TopRead viewK LOO mg mb (hideAll s₁.heap [140, 147]) := stat_keeps T fun b o hb e => low b o (Nat.ne_of_lt (Nat.lt_trans hb (by decide))) (Nat.ne_of_lt (Nat.lt_trans hb (by decide))) e
  have M0 : ∃ bm ob, BMod (hideAll s₁.heap [140, 147]) mainGlobals mg bm ob := by
    obtain ⟨bm, ob, x⟩ := M
    have ho := x.obj
    have no : ∀ a ps, s₁.heap.get? a = some (tabObj ps) → bm ≠ a := fun a ps e q => by
      rw [q, e] at ho
      have := x.cls
      rw [← Option.some.inj ho] at this
      cases this
    exact ⟨bm, ob, x.ns.at' fun o e => low _ o (by decide) (by decide) e, x.name, x.ne, low _ _ (no _ _ g1) (no _ _ g2) ho, x.cls, x.dict, x.data⟩
  have hl0 : (hideAll s₁.heap [140, 147]).IsList l vs.toArray := by
    obtain ⟨o, ho, hc, n, hd⟩ := hl
    have no : ∀ a ps, s₁.heap.get? a = some (tabObj ps) → l ≠ a := fun a ps e q => by
      rw [q, e] at ho
      rw [← Option.some.inj ho] at hc
      cases hc
    exact ⟨o, low _ _ (no _ _ g1) (no _ _ g2) ho, hc, n, hd⟩
  refine c_law (A := callerA) ⟨X0, T0⟩ M0 rfl (by decide +kernel) H (by trivial) (by trivial) (by decide +kernel) hl0 hi hn fun s' p1' p2' HA hos hgx => ?_
  refine ⟨.inl ⟨_, .bool true, [], rfl, fun _ => rfl, .bool true, ?_, unshared_nil⟩, ⟨fun b o e => ?_, fun b o e => ?_⟩, hos, hgx.2.2 (AllBare.of_eq hg)⟩
  · subst hargs
    first | (with_unfolding_all rfl) | (kernel_rfl)
  · obtain ⟨⟨d1, v1, l1, k1, i1⟩, ⟨d2, v2, l2, k2, i2⟩⟩ := heap_codes w.params
    by_cases h1 : b = 140
    · subst h1
      rw [g1] at e
      rw [← Option.some.inj e]
      refine .inr (.inl ⟨⟨144, _, v1, KX0 _ _ k1, rfl, rfl, i1⟩, rfl, #[], p1', rfl, ?_⟩)
      rw [Array.empty_append]
      exact (HA.news (140, tabObj p1') (.head _)).1
    · by_cases h2 : b = 147
      · subst h2
        rw [g2] at e
        rw [← Option.some.inj e]
        refine .inr (.inl ⟨⟨151, _, v2, KX0 _ _ k2, rfl, rfl, i2⟩, rfl, #[], p2', rfl, ?_⟩)
        rw [Array.empty_append]
        exact (HA.news (147, tabObj p2') (.tail _ (.head _))).1
      · exact .inl (HA.keep b o (low b o h1 h2 e))
  · by_cases h1 : b = 140
    · exact ⟨_, h1 ▸ (HA.news (140, tabObj p1') (.head _)).1⟩
    · by_cases h2 : b = 147
      · exact ⟨_, h2 ▸ (HA.news (147, tabObj p2') (.tail _ (.head _))).1⟩
      · exact ⟨o, HA.keep b o (low b o h1 h2 e)⟩

end Mine
end

open PySem PySem.W PyProof.Rows PySem.Calls
set_option maxRecDepth 100000 in
set_option maxHeartbeats 8000000 in
theorem PySem.Challenge.cw_pe0220_01_holds : PySem.Challenge.rw_pe0220_01.Holds := by
  w_on
  refine holds_law Mine.head_said (fun said => ?_)
  refine holds_open (q := Mine.viewK) (loose := [Str.ofString "_Accumulator"]) (Xt := fun s => xlAt Mine.viewK [] s && recOk (RowW.records PySem.Challenge.rw_pe0220_01.row.toRowW) s) (XP := XL Mine.viewK []) (Yf := Hook.obs (kHook Mine.K2 Mine.as2 Mine.as2_is)) (Ya := Hook.val (kHook Mine.K2 Mine.as2 Mine.as2_is)) (YP := Hook.says (kHook Mine.K2 Mine.as2 Mine.as2_is)) (N := 2776) ?hl (Hook.of (kHook Mine.K2 Mine.as2 Mine.as2_is)) (Hook.keeps (kHook Mine.K2 Mine.as2 Mine.as2_is)) (fun s e => xl_of s (Bool.and_eq_true_iff.mp e).1) XL.keeps (by rfl) (by rfl) (by rfl) (fun s e => recFacts_of (Bool.and_eq_true_iff.mp e).2) (by rfl) (by first | assumption | decide +kernel) (by decide +kernel) ⟨rfl, rfl, rfl, rfl, rfl, by decide +kernel⟩ ?hw ?hc
  case hl => exact Mine.head_hl
  case hw => w_witness2
  case hc =>
    intro w s₀ s₁ mg mb G Y fa o pm cd doc dV kV ho hd hcd hD hmg hg args vals as hpre hlay hrd hwl hlo
    have KX : (Mine.K2 w.params).In s₁.heap := kIn_of Y
    refine Ground.open G ?_
    intro T B D TE TW
    obtain ⟨bm, ob, M⟩ := bmod_of_top T
    wrow_args hpre hlay hrd hwl hlo
    rename IntsAre _ _ => hI
    rename Heap.IsList _ _ _ => hL
    exact Mine.law_end KX (topRead_of T) ⟨bm, ob, M⟩ hmg hg hL hI (by omega) _ rfl
