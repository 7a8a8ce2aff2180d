import PyProof.Rows.All
import Wide.All
import OpenK.AllK
import Wide.FinOn
import PySem.Challenge.RW_sw0080_01
set_option linter.all false
set_option Elab.async false
set_option rowWalk.seconds 0
local macro_rules | `(tactic| walk_at $s:str) => `(tactic| k_extra $s)
local macro_rules | `(tactic| ktr_rel) => `(tactic| k_extra "ktr_rel")
local macro_rules | `(tactic| k_all) => `(tactic| k_extra "k_all")
local macro_rules | `(tactic| k_qdec) => `(tactic| decide +kernel)
section
open PySem PySem.W PyProof.Rows
set_option Elab.async false
set_option maxRecDepth 100000
set_option maxHeartbeats 8000000
namespace Mine

noncomputable def sBody : Stmt → List Stmt
  | .FunctionDef _ _ b _ _ _ _ _ _ _ => b
  | .ClassDef _ _ _ b _ _ _ _ _ _ _ => b
  | _ => []
noncomputable def nthS : List Stmt → Nat → Stmt
  | s :: _, 0 => s
  | _ :: r, n + 1 => nthS r n
  | [], _ => .Pass ⟨0, 0, 0, 0⟩
noncomputable abbrev mkF {st : Stmt} {name bind : Str} {args : Arguments} {body : List Stmt} {decs : List PySem.Expr} {ret : Option PySem.Expr} {tps : List TypeParam} {scope : Scope} {ts : Option Scope} {pos : Pos}
    (_ : st = .FunctionDef name args body decs ret tps scope ts bind pos) (qual : Str) (dflt kwd pm code : Value) : FuncData :=
  { name := name, qualname := qual, params := args, body := .stmts body, scope := scope, globals := 3, closure := [], defaults := dflt, kwdefaults := kwd, pyModule := pm, code := code }
noncomputable def pbody : List Stmt := PySem.Challenge.pw_sw0080_01.main.body
noncomputable def heap : Params → Frag :=
fun P =>
 (nat_lit 2, { cls := Value.none, data := Data.dict #[{ hash := PyData.keyHash P (Str.ofString "\x69mport.loaded._sre"), key := Value.str (Str.ofString "\x69mport.loaded._sre") 183, val := Value.bool true }, { hash := PyData.keyHash P (Str.ofString "class._frozen_importlib.BuiltinImporter"), key := Value.str (Str.ofString "class._frozen_importlib.BuiltinImporter") 185, val := Value.ref 14 }, { hash := PyData.keyHash P (Str.ofString "watched.\x69mport"), key := Value.str (Str.ofString "watched.\x69mport") 206, val := Value.ref 18 }, { hash := PyData.keyHash P (Str.ofString "class._frozen_importlib.ModuleSpec"), key := Value.str (Str.ofString "class._frozen_importlib.ModuleSpec") 216, val := Value.ref 22 }, { hash := PyData.keyHash P (Str.ofString "sys.modules.booked-epoch"), key := Value.str (Str.ofString "sys.modules.booked-epoch") 245, val := Value.int 3 0 }, { hash := PyData.keyHash P (Str.ofString "\x69mport.later-laid._sre"), key := Value.str (Str.ofString "\x69mport.later-laid._sre") 270, val := Value.bool true }, { hash := PyData.keyHash P (Str.ofString "watched.library"), key := Value.str (Str.ofString "watched.library") 272, val := Value.ref 27 }, { hash := PyData.keyHash P (Str.ofString "watched.library-objects"), key := Value.str (Str.ofString "watched.library-objects") 0, val := Value.str (Str.ofString "\x0c") 0 }, { hash := PyData.keyHash P (Str.ofString "watched.library-deep._sre"), key := Value.str (Str.ofString "watched.library-deep._sre") 273, val := Value.str (Str.ofString "\x04\x00\x00\x0b\x04\x00\x00\x0b\x04\x00\x00\x03\x04\x00\x00\x0b\x08\x04dict\x02") 0 }] 9 }) ::
 (nat_lit 3, { cls := Value.type "dict", data := Data.dict #[{ hash := PyData.keyHash P (Str.ofString "__name__"), key := Value.str (Str.ofString "__name__") 165, val := Value.str (Str.ofString "law_sw0080_01") 645 }, { hash := PyData.keyHash P (Str.ofString "__doc__"), key := Value.str (Str.ofString "__doc__") 166, val := Value.none }, { hash := PyData.keyHash P (Str.ofString "__package__"), key := Value.str (Str.ofString "__package__") 167, val := Value.none }, { hash := PyData.keyHash P (Str.ofString "__loader__"), key := Value.str (Str.ofString "__loader__") 168, val := Value.builtin "__main__.__loader__#opaque" }, { hash := PyData.keyHash P (Str.ofString "__spec__"), key := Value.str (Str.ofString "__spec__") 169, val := Value.none }, { hash := PyData.keyHash P (Str.ofString "__annotations__"), key := Value.str (Str.ofString "__annotations__") 170, val := Value.ref 6 }, { hash := PyData.keyHash P (Str.ofString "__builtins__"), key := Value.str (Str.ofString "__builtins__") 171, val := Value.ref 4 }, { hash := PyData.keyHash P (Str.ofString "__file__"), key := Value.str (Str.ofString "__file__") 173, val := Value.str (Str.ofString "/claim/cut.py") 172 }, { hash := PyData.keyHash P (Str.ofString "__cached__"), key := Value.str (Str.ofString "__cached__") 174, val := Value.none }, { hash := PyData.keyHash P (Str.ofString "_sre"), key := Value.str (Str.ofString "_sre") 275, val := Value.ref 12 }, { hash := PyData.keyHash P (Str.ofString "_wall"), key := Value.str (Str.ofString "_wall") 288, val := Value.ref 38 }, { hash := PyData.keyHash P (Str.ofString "tspecials"), key := Value.str (Str.ofString "tspecials") 324, val := Value.ref 43 }, { hash := PyData.keyHash P (Str.ofString "_name_disallowed_re"), key := Value.str (Str.ofString "_name_disallowed_re") 350, val := Value.ref 48 }, { hash := PyData.keyHash P (Str.ofString "_value_disallowed_re"), key := Value.str (Str.ofString "_value_disallowed_re") 384, val := Value.ref 53 }, { hash := PyData.keyHash P (Str.ofString "_formatparam"), key := Value.str (Str.ofString "_formatparam") 394, val := Value.ref 61 }, { hash := PyData.keyHash P (Str.ofString "Headers"), key := Value.str (Str.ofString "Headers") 553, val := Value.ref 184 }, { hash := PyData.keyHash P (Str.ofString "_parse_varint"), key := Value.str (Str.ofString "_parse_varint") 564, val := Value.ref 195 }, { hash := PyData.keyHash P (Str.ofString "_MAX_STRING_SIZE"), key := Value.str (Str.ofString "_MAX_STRING_SIZE") 568, val := Value.int 40 567 }, { hash := PyData.keyHash P (Str.ofString "_MOVE_COST"), key := Value.str (Str.ofString "_MOVE_COST") 570, val := Value.int 2 569 }, { hash := PyData.keyHash P (Str.ofString "_CASE_COST"), key := Value.str (Str.ofString "_CASE_COST") 572, val := Value.int 1 571 }, { hash := PyData.keyHash P (Str.ofString "_substitution_cost"), key := Value.str (Str.ofString "_substitution_cost") 580, val := Value.ref 202 }, { hash := PyData.keyHash P (Str.ofString "_levenshtein_distance"), key := Value.str (Str.ofString "_levenshtein_distance") 600, val := Value.ref 209 }, { hash := PyData.keyHash P (Str.ofString "_raise_serialization_error"), key := Value.str (Str.ofString "_raise_serialization_error") 609, val := Value.ref 216 }, { hash := PyData.keyHash P (Str.ofString "_escape_cdata"), key := Value.str (Str.ofString "_escape_cdata") 616, val := Value.ref 223 }, { hash := PyData.keyHash P (Str.ofString "_escape_attrib"), key := Value.str (Str.ofString "_escape_attrib") 623, val := Value.ref 230 }, { hash := PyData.keyHash P (Str.ofString "_escape_attrib_html"), key := Value.str (Str.ofString "_escape_attrib_html") 630, val := Value.ref 237 }, { hash := PyData.keyHash P (Str.ofString "_escape_cdata_c14n"), key := Value.str (Str.ofString "_escape_cdata_c14n") 637, val := Value.ref 244 }, { hash := PyData.keyHash P (Str.ofString "_escape_attrib_c14n"), key := Value.str (Str.ofString "_escape_attrib_c14n") 644, val := Value.ref 251 }, { hash := PyData.keyHash P (Str.ofString "_law_octets"), key := Value.str (Str.ofString "_law_octets") 654, val := Value.ref 258 }, { hash := PyData.keyHash P (Str.ofString "_law_text"), key := Value.str (Str.ofString "_law_text") 660, val := Value.ref 263 }, { hash := PyData.keyHash P (Str.ofString "_law_read"), key := Value.str (Str.ofString "_law_read") 669, val := Value.ref 270 }, { hash := PyData.keyHash P (Str.ofString "_law_escaped"), key := Value.str (Str.ofString "_law_escaped") 680, val := Value.ref 277 }, { hash := PyData.keyHash P (Str.ofString "_law_doubled"), key := Value.str (Str.ofString "_law_doubled") 688, val := Value.ref 284 }, { hash := PyData.keyHash P (Str.ofString "_law_marked"), key := Value.str (Str.ofString "_law_marked") 696, val := Value.ref 291 }, { hash := PyData.keyHash P (Str.ofString "_law_leads"), key := Value.str (Str.ofString "_law_leads") 704, val := Value.ref 298 }, { hash := PyData.keyHash P (Str.ofString "_law_parameter"), key := Value.str (Str.ofString "_law_parameter") 711, val := Value.ref 305 }, { hash := PyData.keyHash P (Str.ofString "_law_refused"), key := Value.str (Str.ofString "_law_refused") 717, val := Value.ref 310 }, { hash := PyData.keyHash P (Str.ofString "law"), key := Value.str (Str.ofString "law") 723, val := Value.ref 315 }] 38 }) ::
 (nat_lit 32, { cls := Value.type "tuple", data := Data.seq #[] }) ::
 (nat_lit 34, { cls := Value.type "tuple", data := Data.seq #[Value.str (Str.ofString "k") 285] }) ::
 (nat_lit 35, { cls := Value.type "tuple", data := Data.seq #[] }) ::
 (nat_lit 37, { cls := Value.type "code", data := Data.fields #[Value.str (Str.ofString "_wall") 282, Value.str (Str.ofString "_wall") 283, Value.str (Str.ofString "/claim/cut.py") 284, Value.int 2 0, Value.int 1 0, Value.int 0 0, Value.int 0 0, Value.int 3 0, Value.ref 32, Value.bool true, Value.int 276 0, Value.ref 33, Value.none, Value.ref 34, Value.ref 35, Value.ref 36, Value.int 286 0, Value.int 2 0, Value.str (Str.ofString "/claim/cut.py") 287] }) ::
 (nat_lit 38, { cls := Value.type "function", data := Data.func (mkF (rfl : nthS  pbody 1 = .FunctionDef _ _ _ _ _ _ _ _ _ _) (Str.ofString "_wall") (Value.none) (Value.none) (Value.str (Str.ofString "__main__") 164) (Value.ref 37)) }) ::
 (nat_lit 42, { cls := Value.type "tuple", data := Data.seq #[Value.int 14 0, Value.int 14 0, Value.int 4 0, Value.int 1 0, Value.int 1 0, Value.int 9 0, Value.int 0 0, Value.int 4227896069 0, Value.int 939524097 0, Value.int 0 0, Value.int 0 0, Value.int 0 0, Value.int 0 0, Value.int 0 0, Value.int 0 0, Value.int 13 0, Value.int 11 0, Value.int 9 0, Value.int 0 0, Value.int 4227896069 0, Value.int 939524097 0, Value.int 0 0, Value.int 0 0, Value.int 0 0, Value.int 0 0, Value.int 0 0, Value.int 0 0, Value.int 1 0] }) ::
 (nat_lit 43, { cls := Value.type "re.Pattern", data := Data.fields #[Value.str (Str.ofString "[ \\(\\)<>@,;:\\\\\"/\\[\\]\\?=]") 292, Value.int 32 323, Value.int 0 0, Value.none, Value.none, Value.ref 42, Value.int 0 0] }) ::
 (nat_lit 47, { cls := Value.type "tuple", data := Data.seq #[Value.int 14 0, Value.int 10 0, Value.int 4 0, Value.int 1 0, Value.int 1 0, Value.int 22 0, Value.int 0 0, Value.int 31 0, Value.int 16 0, Value.int 127 0, Value.int 0 0, Value.int 13 0, Value.int 7 0, Value.int 22 0, Value.int 0 0, Value.int 31 0, Value.int 16 0, Value.int 127 0, Value.int 0 0, Value.int 1 0] }) ::
 (nat_lit 48, { cls := Value.type "re.Pattern", data := Data.fields #[Value.str (Str.ofString "[\\x00-\\x1F\\x7F]") 326, Value.int 32 349, Value.int 0 0, Value.none, Value.none, Value.ref 47, Value.int 0 0] }) ::
 (nat_lit 52, { cls := Value.type "tuple", data := Data.seq #[Value.int 14 0, Value.int 14 0, Value.int 4 0, Value.int 1 0, Value.int 1 0, Value.int 9 0, Value.int 4294966783 0, Value.int 0 0, Value.int 0 0, Value.int 2147483648 0, Value.int 0 0, Value.int 0 0, Value.int 0 0, Value.int 0 0, Value.int 0 0, Value.int 13 0, Value.int 11 0, Value.int 9 0, Value.int 4294966783 0, Value.int 0 0, Value.int 0 0, Value.int 2147483648 0, Value.int 0 0, Value.int 0 0, Value.int 0 0, Value.int 0 0, Value.int 0 0, Value.int 1 0] }) ::
 (nat_lit 53, { cls := Value.type "re.Pattern", data := Data.fields #[Value.str (Str.ofString "[\\x00-\\x08\\x0A-\\x1F\\x7F]") 352, Value.int 32 383, Value.int 0 0, Value.none, Value.none, Value.ref 52, Value.int 0 0] }) ::
 (nat_lit 54, { cls := Value.type "tuple", data := Data.seq #[Value.none, Value.int 1 385] }) ::
 (nat_lit 55, { cls := Value.type "tuple", data := Data.seq #[] }) ::
 (nat_lit 57, { cls := Value.type "tuple", data := Data.seq #[Value.str (Str.ofString "param") 389, Value.str (Str.ofString "value") 390, Value.str (Str.ofString "quote") 391] }) ::
 (nat_lit 58, { cls := Value.type "tuple", data := Data.seq #[] }) ::
 (nat_lit 60, { cls := Value.type "code", data := Data.fields #[Value.str (Str.ofString "_formatparam") 386, Value.str (Str.ofString "_formatparam") 387, Value.str (Str.ofString "/claim/cut.py") 388, Value.int 9 0, Value.int 3 0, Value.int 0 0, Value.int 0 0, Value.int 3 0, Value.ref 55, Value.bool true, Value.int 276 0, Value.ref 56, Value.none, Value.ref 57, Value.ref 58, Value.ref 59, Value.int 392 0, Value.int 9 0, Value.str (Str.ofString "/claim/cut.py") 393] }) ::
 (nat_lit 61, { cls := Value.type "function", data := Data.func (mkF (rfl : nthS  pbody 6 = .FunctionDef _ _ _ _ _ _ _ _ _ _) (Str.ofString "_formatparam") (Value.ref 54) (Value.none) (Value.str (Str.ofString "cpy313.wsgiref.headers") 289) (Value.ref 60)) }) ::
 (nat_lit 69, { cls := Value.type "tuple", data := Data.seq #[Value.none] }) ::
 (nat_lit 70, { cls := Value.type "tuple", data := Data.seq #[] }) ::
 (nat_lit 72, { cls := Value.type "tuple", data := Data.seq #[Value.str (Str.ofString "self") 410, Value.str (Str.ofString "headers") 411, Value.str (Str.ofString "k") 412, Value.str (Str.ofString "v") 413] }) ::
 (nat_lit 73, { cls := Value.type "tuple", data := Data.seq #[] }) ::
 (nat_lit 75, { cls := Value.type "code", data := Data.fields #[Value.str (Str.ofString "__init__") 407, Value.str (Str.ofString "Headers.__init__") 408, Value.str (Str.ofString "/claim/cut.py") 409, Value.int 20 0, Value.int 2 0, Value.int 0 0, Value.int 0 0, Value.int 3 0, Value.ref 70, Value.bool true, Value.int 276 0, Value.ref 71, Value.none, Value.ref 72, Value.ref 73, Value.ref 74, Value.int 414 0, Value.int 20 0, Value.str (Str.ofString "/claim/cut.py") 415] }) ::
 (nat_lit 76, { cls := Value.type "function", data := Data.func (mkF (rfl : nthS  (sBody (nthS pbody 7)) 0 = .FunctionDef _ _ _ _ _ _ _ _ _ _) (Str.ofString "Headers.__init__") (Value.ref 69) (Value.none) (Value.str (Str.ofString "cpy313.wsgiref.headers") 289) (Value.ref 75)) }) ::
 (nat_lit 77, { cls := Value.type "tuple", data := Data.seq #[] }) ::
 (nat_lit 79, { cls := Value.type "tuple", data := Data.seq #[Value.str (Str.ofString "self") 420, Value.str (Str.ofString "value") 421, Value.str (Str.ofString "name") 422, Value.str (Str.ofString "regex") 423] }) ::
 (nat_lit 80, { cls := Value.type "tuple", data := Data.seq #[] }) ::
 (nat_lit 82, { cls := Value.type "code", data := Data.fields #[Value.str (Str.ofString "_convert_string_type") 417, Value.str (Str.ofString "Headers._convert_string_type") 418, Value.str (Str.ofString "/claim/cut.py") 419, Value.int 30 0, Value.int 2 0, Value.int 0 0, Value.int 1 0, Value.int 3 0, Value.ref 77, Value.bool true, Value.int 276 0, Value.ref 78, Value.none, Value.ref 79, Value.ref 80, Value.ref 81, Value.int 424 0, Value.int 30 0, Value.str (Str.ofString "/claim/cut.py") 425] }) ::
 (nat_lit 83, { cls := Value.type "function", data := Data.func (mkF (rfl : nthS  (sBody (nthS pbody 7)) 1 = .FunctionDef _ _ _ _ _ _ _ _ _ _) (Str.ofString "Headers._convert_string_type") (Value.none) (Value.none) (Value.str (Str.ofString "cpy313.wsgiref.headers") 289) (Value.ref 82)) }) ::
 (nat_lit 84, { cls := Value.type "tuple", data := Data.seq #[] }) ::
 (nat_lit 86, { cls := Value.type "tuple", data := Data.seq #[Value.str (Str.ofString "self") 430] }) ::
 (nat_lit 87, { cls := Value.type "tuple", data := Data.seq #[] }) ::
 (nat_lit 89, { cls := Value.type "code", data := Data.fields #[Value.str (Str.ofString "__len__") 427, Value.str (Str.ofString "Headers.__len__") 428, Value.str (Str.ofString "/claim/cut.py") 429, Value.int 38 0, Value.int 1 0, Value.int 0 0, Value.int 0 0, Value.int 3 0, Value.ref 84, Value.bool true, Value.int 276 0, Value.ref 85, Value.none, Value.ref 86, Value.ref 87, Value.ref 88, Value.int 431 0, Value.int 38 0, Value.str (Str.ofString "/claim/cut.py") 432] }) ::
 (nat_lit 90, { cls := Value.type "function", data := Data.func (mkF (rfl : nthS  (sBody (nthS pbody 7)) 2 = .FunctionDef _ _ _ _ _ _ _ _ _ _) (Str.ofString "Headers.__len__") (Value.none) (Value.none) (Value.str (Str.ofString "cpy313.wsgiref.headers") 289) (Value.ref 89)) }) ::
 (nat_lit 91, { cls := Value.type "tuple", data := Data.seq #[] }) ::
 (nat_lit 93, { cls := Value.type "tuple", data := Data.seq #[Value.str (Str.ofString "self") 437, Value.str (Str.ofString "name") 438, Value.str (Str.ofString "val") 439] }) ::
 (nat_lit 94, { cls := Value.type "tuple", data := Data.seq #[] }) ::
 (nat_lit 96, { cls := Value.type "code", data := Data.fields #[Value.str (Str.ofString "__setitem__") 434, Value.str (Str.ofString "Headers.__setitem__") 435, Value.str (Str.ofString "/claim/cut.py") 436, Value.int 41 0, Value.int 3 0, Value.int 0 0, Value.int 0 0, Value.int 3 0, Value.ref 91, Value.bool true, Value.int 276 0, Value.ref 92, Value.none, Value.ref 93, Value.ref 94, Value.ref 95, Value.int 440 0, Value.int 41 0, Value.str (Str.ofString "/claim/cut.py") 441] }) ::
 (nat_lit 97, { cls := Value.type "function", data := Data.func (mkF (rfl : nthS  (sBody (nthS pbody 7)) 3 = .FunctionDef _ _ _ _ _ _ _ _ _ _) (Str.ofString "Headers.__setitem__") (Value.none) (Value.none) (Value.str (Str.ofString "cpy313.wsgiref.headers") 289) (Value.ref 96)) }) ::
 (nat_lit 98, { cls := Value.type "tuple", data := Data.seq #[] }) ::
 (nat_lit 101, { cls := Value.type "code", data := Data.fields #[Value.str (Str.ofString "__delitem__") 443, Value.str (Str.ofString "Headers.__delitem__") 444, Value.str (Str.ofString "/claim/cut.py") 445, Value.int 45 0, Value.int 2 0, Value.int 0 0, Value.int 0 0, Value.int 3 0, Value.ref 98, Value.bool true, Value.int 276 0, Value.ref 99, Value.none, Value.none, Value.none, Value.ref 100, Value.int 446 0, Value.int 45 0, Value.str (Str.ofString "/claim/cut.py") 447] }) ::
 (nat_lit 102, { cls := Value.type "function", data := Data.func (mkF (rfl : nthS  (sBody (nthS pbody 7)) 4 = .FunctionDef _ _ _ _ _ _ _ _ _ _) (Str.ofString "Headers.__delitem__") (Value.none) (Value.none) (Value.str (Str.ofString "cpy313.wsgiref.headers") 289) (Value.ref 101)) }) ::
 (nat_lit 103, { cls := Value.type "tuple", data := Data.seq #[] }) ::
 (nat_lit 105, { cls := Value.type "tuple", data := Data.seq #[Value.str (Str.ofString "self") 452, Value.str (Str.ofString "name") 453] }) ::
 (nat_lit 106, { cls := Value.type "tuple", data := Data.seq #[] }) ::
 (nat_lit 108, { cls := Value.type "code", data := Data.fields #[Value.str (Str.ofString "__getitem__") 449, Value.str (Str.ofString "Headers.__getitem__") 450, Value.str (Str.ofString "/claim/cut.py") 451, Value.int 49 0, Value.int 2 0, Value.int 0 0, Value.int 0 0, Value.int 3 0, Value.ref 103, Value.bool true, Value.int 276 0, Value.ref 104, Value.none, Value.ref 105, Value.ref 106, Value.ref 107, Value.int 454 0, Value.int 49 0, Value.str (Str.ofString "/claim/cut.py") 455] }) ::
 (nat_lit 109, { cls := Value.type "function", data := Data.func (mkF (rfl : nthS  (sBody (nthS pbody 7)) 5 = .FunctionDef _ _ _ _ _ _ _ _ _ _) (Str.ofString "Headers.__getitem__") (Value.none) (Value.none) (Value.str (Str.ofString "cpy313.wsgiref.headers") 289) (Value.ref 108)) }) ::
 (nat_lit 110, { cls := Value.type "tuple", data := Data.seq #[] }) ::
 (nat_lit 112, { cls := Value.type "tuple", data := Data.seq #[Value.str (Str.ofString "self") 460, Value.str (Str.ofString "name") 461] }) ::
 (nat_lit 113, { cls := Value.type "tuple", data := Data.seq #[] }) ::
 (nat_lit 115, { cls := Value.type "code", data := Data.fields #[Value.str (Str.ofString "__contains__") 457, Value.str (Str.ofString "Headers.__contains__") 458, Value.str (Str.ofString "/claim/cut.py") 459, Value.int 52 0, Value.int 2 0, Value.int 0 0, Value.int 0 0, Value.int 3 0, Value.ref 110, Value.bool true, Value.int 276 0, Value.ref 111, Value.none, Value.ref 112, Value.ref 113, Value.ref 114, Value.int 462 0, Value.int 52 0, Value.str (Str.ofString "/claim/cut.py") 463] }) ::
 (nat_lit 116, { cls := Value.type "function", data := Data.func (mkF (rfl : nthS  (sBody (nthS pbody 7)) 6 = .FunctionDef _ _ _ _ _ _ _ _ _ _) (Str.ofString "Headers.__contains__") (Value.none) (Value.none) (Value.str (Str.ofString "cpy313.wsgiref.headers") 289) (Value.ref 115)) }) ::
 (nat_lit 117, { cls := Value.type "tuple", data := Data.seq #[] }) ::
 (nat_lit 119, { cls := Value.type "tuple", data := Data.seq #[Value.str (Str.ofString "self") 468, Value.str (Str.ofString "name") 469] }) ::
 (nat_lit 120, { cls := Value.type "tuple", data := Data.seq #[] }) ::
 (nat_lit 122, { cls := Value.type "code", data := Data.fields #[Value.str (Str.ofString "get_all") 465, Value.str (Str.ofString "Headers.get_all") 466, Value.str (Str.ofString "/claim/cut.py") 467, Value.int 55 0, Value.int 2 0, Value.int 0 0, Value.int 0 0, Value.int 3 0, Value.ref 117, Value.bool true, Value.int 276 0, Value.ref 118, Value.none, Value.ref 119, Value.ref 120, Value.ref 121, Value.int 470 0, Value.int 55 0, Value.str (Str.ofString "/claim/cut.py") 471] }) ::
 (nat_lit 123, { cls := Value.type "function", data := Data.func (mkF (rfl : nthS  (sBody (nthS pbody 7)) 7 = .FunctionDef _ _ _ _ _ _ _ _ _ _) (Str.ofString "Headers.get_all") (Value.none) (Value.none) (Value.str (Str.ofString "cpy313.wsgiref.headers") 289) (Value.ref 122)) }) ::
 (nat_lit 124, { cls := Value.type "tuple", data := Data.seq #[Value.none] }) ::
 (nat_lit 125, { cls := Value.type "tuple", data := Data.seq #[] }) ::
 (nat_lit 127, { cls := Value.type "tuple", data := Data.seq #[Value.str (Str.ofString "self") 476, Value.str (Str.ofString "name") 477, Value.str (Str.ofString "default") 478, Value.str (Str.ofString "k") 479, Value.str (Str.ofString "v") 480] }) ::
 (nat_lit 128, { cls := Value.type "tuple", data := Data.seq #[] }) ::
 (nat_lit 130, { cls := Value.type "code", data := Data.fields #[Value.str (Str.ofString "get") 473, Value.str (Str.ofString "Headers.get") 474, Value.str (Str.ofString "/claim/cut.py") 475, Value.int 58 0, Value.int 3 0, Value.int 0 0, Value.int 0 0, Value.int 3 0, Value.ref 125, Value.bool true, Value.int 276 0, Value.ref 126, Value.none, Value.ref 127, Value.ref 128, Value.ref 129, Value.int 481 0, Value.int 58 0, Value.str (Str.ofString "/claim/cut.py") 482] }) ::
 (nat_lit 131, { cls := Value.type "function", data := Data.func (mkF (rfl : nthS  (sBody (nthS pbody 7)) 8 = .FunctionDef _ _ _ _ _ _ _ _ _ _) (Str.ofString "Headers.get") (Value.ref 124) (Value.none) (Value.str (Str.ofString "cpy313.wsgiref.headers") 289) (Value.ref 130)) }) ::
 (nat_lit 132, { cls := Value.type "tuple", data := Data.seq #[] }) ::
 (nat_lit 135, { cls := Value.type "code", data := Data.fields #[Value.str (Str.ofString "keys") 484, Value.str (Str.ofString "Headers.keys") 485, Value.str (Str.ofString "/claim/cut.py") 486, Value.int 65 0, Value.int 1 0, Value.int 0 0, Value.int 0 0, Value.int 3 0, Value.ref 132, Value.bool true, Value.int 276 0, Value.ref 133, Value.none, Value.none, Value.none, Value.ref 134, Value.int 487 0, Value.int 65 0, Value.str (Str.ofString "/claim/cut.py") 488] }) ::
 (nat_lit 136, { cls := Value.type "function", data := Data.func (mkF (rfl : nthS  (sBody (nthS pbody 7)) 9 = .FunctionDef _ _ _ _ _ _ _ _ _ _) (Str.ofString "Headers.keys") (Value.none) (Value.none) (Value.str (Str.ofString "cpy313.wsgiref.headers") 289) (Value.ref 135)) }) ::
 (nat_lit 137, { cls := Value.type "tuple", data := Data.seq #[] }) ::
 (nat_lit 140, { cls := Value.type "code", data := Data.fields #[Value.str (Str.ofString "values") 490, Value.str (Str.ofString "Headers.values") 491, Value.str (Str.ofString "/claim/cut.py") 492, Value.int 68 0, Value.int 1 0, Value.int 0 0, Value.int 0 0, Value.int 3 0, Value.ref 137, Value.bool true, Value.int 276 0, Value.ref 138, Value.none, Value.none, Value.none, Value.ref 139, Value.int 493 0, Value.int 68 0, Value.str (Str.ofString "/claim/cut.py") 494] }) ::
 (nat_lit 141, { cls := Value.type "function", data := Data.func (mkF (rfl : nthS  (sBody (nthS pbody 7)) 10 = .FunctionDef _ _ _ _ _ _ _ _ _ _) (Str.ofString "Headers.values") (Value.none) (Value.none) (Value.str (Str.ofString "cpy313.wsgiref.headers") 289) (Value.ref 140)) }) ::
 (nat_lit 142, { cls := Value.type "tuple", data := Data.seq #[] }) ::
 (nat_lit 144, { cls := Value.type "tuple", data := Data.seq #[Value.str (Str.ofString "self") 499] }) ::
 (nat_lit 145, { cls := Value.type "tuple", data := Data.seq #[] }) ::
 (nat_lit 147, { cls := Value.type "code", data := Data.fields #[Value.str (Str.ofString "items") 496, Value.str (Str.ofString "Headers.items") 497, Value.str (Str.ofString "/claim/cut.py") 498, Value.int 71 0, Value.int 1 0, Value.int 0 0, Value.int 0 0, Value.int 3 0, Value.ref 142, Value.bool true, Value.int 276 0, Value.ref 143, Value.none, Value.ref 144, Value.ref 145, Value.ref 146, Value.int 500 0, Value.int 71 0, Value.str (Str.ofString "/claim/cut.py") 501] }) ::
 (nat_lit 148, { cls := Value.type "function", data := Data.func (mkF (rfl : nthS  (sBody (nthS pbody 7)) 11 = .FunctionDef _ _ _ _ _ _ _ _ _ _) (Str.ofString "Headers.items") (Value.none) (Value.none) (Value.str (Str.ofString "cpy313.wsgiref.headers") 289) (Value.ref 147)) }) ::
 (nat_lit 149, { cls := Value.type "tuple", data := Data.seq #[] }) ::
 (nat_lit 151, { cls := Value.type "tuple", data := Data.seq #[Value.str (Str.ofString "self") 506] }) ::
 (nat_lit 152, { cls := Value.type "tuple", data := Data.seq #[] }) ::
 (nat_lit 154, { cls := Value.type "code", data := Data.fields #[Value.str (Str.ofString "__repr__") 503, Value.str (Str.ofString "Headers.__repr__") 504, Value.str (Str.ofString "/claim/cut.py") 505, Value.int 74 0, Value.int 1 0, Value.int 0 0, Value.int 0 0, Value.int 3 0, Value.ref 149, Value.bool true, Value.int 276 0, Value.ref 150, Value.none, Value.ref 151, Value.ref 152, Value.ref 153, Value.int 507 0, Value.int 74 0, Value.str (Str.ofString "/claim/cut.py") 508] }) ::
 (nat_lit 155, { cls := Value.type "function", data := Data.func (mkF (rfl : nthS  (sBody (nthS pbody 7)) 12 = .FunctionDef _ _ _ _ _ _ _ _ _ _) (Str.ofString "Headers.__repr__") (Value.none) (Value.none) (Value.str (Str.ofString "cpy313.wsgiref.headers") 289) (Value.ref 154)) }) ::
 (nat_lit 156, { cls := Value.type "tuple", data := Data.seq #[] }) ::
 (nat_lit 159, { cls := Value.type "code", data := Data.fields #[Value.str (Str.ofString "__str__") 510, Value.str (Str.ofString "Headers.__str__") 511, Value.str (Str.ofString "/claim/cut.py") 512, Value.int 77 0, Value.int 1 0, Value.int 0 0, Value.int 0 0, Value.int 3 0, Value.ref 156, Value.bool true, Value.int 276 0, Value.ref 157, Value.none, Value.none, Value.none, Value.ref 158, Value.int 513 0, Value.int 77 0, Value.str (Str.ofString "/claim/cut.py") 514] }) ::
 (nat_lit 160, { cls := Value.type "function", data := Data.func (mkF (rfl : nthS  (sBody (nthS pbody 7)) 13 = .FunctionDef _ _ _ _ _ _ _ _ _ _) (Str.ofString "Headers.__str__") (Value.none) (Value.none) (Value.str (Str.ofString "cpy313.wsgiref.headers") 289) (Value.ref 159)) }) ::
 (nat_lit 161, { cls := Value.type "tuple", data := Data.seq #[] }) ::
 (nat_lit 163, { cls := Value.type "tuple", data := Data.seq #[Value.str (Str.ofString "self") 519] }) ::
 (nat_lit 164, { cls := Value.type "tuple", data := Data.seq #[] }) ::
 (nat_lit 166, { cls := Value.type "code", data := Data.fields #[Value.str (Str.ofString "__bytes__") 516, Value.str (Str.ofString "Headers.__bytes__") 517, Value.str (Str.ofString "/claim/cut.py") 518, Value.int 80 0, Value.int 1 0, Value.int 0 0, Value.int 0 0, Value.int 3 0, Value.ref 161, Value.bool true, Value.int 276 0, Value.ref 162, Value.none, Value.ref 163, Value.ref 164, Value.ref 165, Value.int 520 0, Value.int 80 0, Value.str (Str.ofString "/claim/cut.py") 521] }) ::
 (nat_lit 167, { cls := Value.type "function", data := Data.func (mkF (rfl : nthS  (sBody (nthS pbody 7)) 14 = .FunctionDef _ _ _ _ _ _ _ _ _ _) (Str.ofString "Headers.__bytes__") (Value.none) (Value.none) (Value.str (Str.ofString "cpy313.wsgiref.headers") 289) (Value.ref 166)) }) ::
 (nat_lit 168, { cls := Value.type "tuple", data := Data.seq #[] }) ::
 (nat_lit 170, { cls := Value.type "tuple", data := Data.seq #[Value.str (Str.ofString "self") 526, Value.str (Str.ofString "name") 527, Value.str (Str.ofString "value") 528] }) ::
 (nat_lit 171, { cls := Value.type "tuple", data := Data.seq #[] }) ::
 (nat_lit 173, { cls := Value.type "code", data := Data.fields #[Value.str (Str.ofString "setdefault") 523, Value.str (Str.ofString "Headers.setdefault") 524, Value.str (Str.ofString "/claim/cut.py") 525, Value.int 83 0, Value.int 3 0, Value.int 0 0, Value.int 0 0, Value.int 3 0, Value.ref 168, Value.bool true, Value.int 276 0, Value.ref 169, Value.none, Value.ref 170, Value.ref 171, Value.ref 172, Value.int 529 0, Value.int 83 0, Value.str (Str.ofString "/claim/cut.py") 530] }) ::
 (nat_lit 174, { cls := Value.type "function", data := Data.func (mkF (rfl : nthS  (sBody (nthS pbody 7)) 15 = .FunctionDef _ _ _ _ _ _ _ _ _ _) (Str.ofString "Headers.setdefault") (Value.none) (Value.none) (Value.str (Str.ofString "cpy313.wsgiref.headers") 289) (Value.ref 173)) }) ::
 (nat_lit 175, { cls := Value.type "tuple", data := Data.seq #[] }) ::
 (nat_lit 177, { cls := Value.type "tuple", data := Data.seq #[Value.str (Str.ofString "self") 535, Value.str (Str.ofString "_name") 536, Value.str (Str.ofString "_value") 537, Value.str (Str.ofString "_params") 538, Value.str (Str.ofString "parts") 539, Value.str (Str.ofString "k") 540, Value.str (Str.ofString "v") 541] }) ::
 (nat_lit 178, { cls := Value.type "tuple", data := Data.seq #[] }) ::
 (nat_lit 180, { cls := Value.type "code", data := Data.fields #[Value.str (Str.ofString "add_header") 532, Value.str (Str.ofString "Headers.add_header") 533, Value.str (Str.ofString "/claim/cut.py") 534, Value.int 86 0, Value.int 3 0, Value.int 0 0, Value.int 0 0, Value.int 11 0, Value.ref 175, Value.bool true, Value.int 276 0, Value.ref 176, Value.none, Value.ref 177, Value.ref 178, Value.ref 179, Value.int 542 0, Value.int 86 0, Value.str (Str.ofString "/claim/cut.py") 543] }) ::
 (nat_lit 181, { cls := Value.type "function", data := Data.func (mkF (rfl : nthS  (sBody (nthS pbody 7)) 16 = .FunctionDef _ _ _ _ _ _ _ _ _ _) (Str.ofString "Headers.add_header") (Value.none) (Value.none) (Value.str (Str.ofString "cpy313.wsgiref.headers") 289) (Value.ref 180)) }) ::
 (nat_lit 182, { cls := Value.type "tuple", data := Data.seq #[Value.str (Str.ofString "_headers") 545] }) ::
 (nat_lit 183, { cls := Value.type "dict", data := Data.dict #[{ hash := PyData.keyHash P (Str.ofString "__module__"), key := Value.str (Str.ofString "__module__") 402, val := Value.str (Str.ofString "cpy313.wsgiref.headers") 289 }, { hash := PyData.keyHash P (Str.ofString "__firstlineno__"), key := Value.str (Str.ofString "__firstlineno__") 406, val := Value.int 18 405 }, { hash := PyData.keyHash P (Str.ofString "__init__"), key := Value.str (Str.ofString "__init__") 416, val := Value.ref 76 }, { hash := PyData.keyHash P (Str.ofString "_convert_string_type"), key := Value.str (Str.ofString "_convert_string_type") 426, val := Value.ref 83 }, { hash := PyData.keyHash P (Str.ofString "__len__"), key := Value.str (Str.ofString "__len__") 433, val := Value.ref 90 }, { hash := PyData.keyHash P (Str.ofString "__setitem__"), key := Value.str (Str.ofString "__setitem__") 442, val := Value.ref 97 }, { hash := PyData.keyHash P (Str.ofString "__delitem__"), key := Value.str (Str.ofString "__delitem__") 448, val := Value.ref 102 }, { hash := PyData.keyHash P (Str.ofString "__getitem__"), key := Value.str (Str.ofString "__getitem__") 456, val := Value.ref 109 }, { hash := PyData.keyHash P (Str.ofString "__contains__"), key := Value.str (Str.ofString "__contains__") 464, val := Value.ref 116 }, { hash := PyData.keyHash P (Str.ofString "get_all"), key := Value.str (Str.ofString "get_all") 472, val := Value.ref 123 }, { hash := PyData.keyHash P (Str.ofString "get"), key := Value.str (Str.ofString "get") 483, val := Value.ref 131 }, { hash := PyData.keyHash P (Str.ofString "keys"), key := Value.str (Str.ofString "keys") 489, val := Value.ref 136 }, { hash := PyData.keyHash P (Str.ofString "values"), key := Value.str (Str.ofString "values") 495, val := Value.ref 141 }, { hash := PyData.keyHash P (Str.ofString "items"), key := Value.str (Str.ofString "items") 502, val := Value.ref 148 }, { hash := PyData.keyHash P (Str.ofString "__repr__"), key := Value.str (Str.ofString "__repr__") 509, val := Value.ref 155 }, { hash := PyData.keyHash P (Str.ofString "__str__"), key := Value.str (Str.ofString "__str__") 515, val := Value.ref 160 }, { hash := PyData.keyHash P (Str.ofString "__bytes__"), key := Value.str (Str.ofString "__bytes__") 522, val := Value.ref 167 }, { hash := PyData.keyHash P (Str.ofString "setdefault"), key := Value.str (Str.ofString "setdefault") 531, val := Value.ref 174 }, { hash := PyData.keyHash P (Str.ofString "add_header"), key := Value.str (Str.ofString "add_header") 544, val := Value.ref 181 }, { hash := PyData.keyHash P (Str.ofString "__static_attributes__"), key := Value.str (Str.ofString "__static_attributes__") 546, val := Value.ref 182 }, { hash := PyData.keyHash P (Str.ofString "__dict__"), key := Value.str (Str.ofString "__dict__") 548, val := Value.ref 185 }, { hash := PyData.keyHash P (Str.ofString "__weakref__"), key := Value.str (Str.ofString "__weakref__") 550, val := Value.ref 186 }, { hash := PyData.keyHash P (Str.ofString "__doc__"), key := Value.str (Str.ofString "__doc__") 551, val := Value.none }] 4 }) ::
 (nat_lit 184, { cls := Value.type "type", data := Data.cls { name := Str.ofString "Headers", bases := [Value.type "object"], mro := [Value.ref 184, Value.type "object"], ns := 183, qualname := Str.ofString "Headers" }, slots := #[none, none, some (Value.str (Str.ofString "Headers") 395), some (Value.str (Str.ofString "Headers") 403), some (Value.builtin "object.__new__"), some (Value.bool true)] }) ::
 (nat_lit 185, { cls := Value.type "getset_descriptor", data := Data.fields #[Value.str (Str.ofString "__dict__") 547, Value.ref 184, Value.builtin "function.__dict__", Value.builtin "function.__dict__#set"] }) ::
 (nat_lit 186, { cls := Value.type "getset_descriptor", data := Data.fields #[Value.str (Str.ofString "__weakref__") 549, Value.ref 184, Value.builtin "ExceptionGroup.__weakref__", Value.none] }) ::
 (nat_lit 189, { cls := Value.type "tuple", data := Data.seq #[] }) ::
 (nat_lit 191, { cls := Value.type "tuple", data := Data.seq #[Value.str (Str.ofString "iterator") 559, Value.str (Str.ofString "b") 560, Value.str (Str.ofString "val") 561] }) ::
 (nat_lit 192, { cls := Value.type "tuple", data := Data.seq #[] }) ::
 (nat_lit 194, { cls := Value.type "code", data := Data.fields #[Value.str (Str.ofString "_parse_varint") 556, Value.str (Str.ofString "_parse_varint") 557, Value.str (Str.ofString "/claim/cut.py") 558, Value.int 100 0, Value.int 1 0, Value.int 0 0, Value.int 0 0, Value.int 3 0, Value.ref 189, Value.bool true, Value.int 276 0, Value.ref 190, Value.none, Value.ref 191, Value.ref 192, Value.ref 193, Value.int 562 0, Value.int 100 0, Value.str (Str.ofString "/claim/cut.py") 563] }) ::
 (nat_lit 195, { cls := Value.type "function", data := Data.func (mkF (rfl : nthS  pbody 9 = .FunctionDef _ _ _ _ _ _ _ _ _ _) (Str.ofString "_parse_varint") (Value.none) (Value.none) (Value.str (Str.ofString "cpy313.dis") 554) (Value.ref 194)) }) ::
 (nat_lit 196, { cls := Value.type "tuple", data := Data.seq #[] }) ::
 (nat_lit 198, { cls := Value.type "tuple", data := Data.seq #[Value.str (Str.ofString "ch_a") 576, Value.str (Str.ofString "ch_b") 577] }) ::
 (nat_lit 199, { cls := Value.type "tuple", data := Data.seq #[] }) ::
 (nat_lit 201, { cls := Value.type "code", data := Data.fields #[Value.str (Str.ofString "_substitution_cost") 573, Value.str (Str.ofString "_substitution_cost") 574, Value.str (Str.ofString "/claim/cut.py") 575, Value.int 112 0, Value.int 2 0, Value.int 0 0, Value.int 0 0, Value.int 3 0, Value.ref 196, Value.bool true, Value.int 276 0, Value.ref 197, Value.none, Value.ref 198, Value.ref 199, Value.ref 200, Value.int 578 0, Value.int 112 0, Value.str (Str.ofString "/claim/cut.py") 579] }) ::
 (nat_lit 202, { cls := Value.type "function", data := Data.func (mkF (rfl : nthS  pbody 14 = .FunctionDef _ _ _ _ _ _ _ _ _ _) (Str.ofString "_substitution_cost") (Value.none) (Value.none) (Value.str (Str.ofString "cpy313.traceback") 565) (Value.ref 201)) }) ::
 (nat_lit 203, { cls := Value.type "tuple", data := Data.seq #[] }) ::
 (nat_lit 205, { cls := Value.type "tuple", data := Data.seq #[Value.str (Str.ofString "a") 584, Value.str (Str.ofString "b") 585, Value.str (Str.ofString "max_cost") 586, Value.str (Str.ofString "pre") 587, Value.str (Str.ofString "post") 588, Value.str (Str.ofString "row") 589, Value.str (Str.ofString "result") 590, Value.str (Str.ofString "bindex") 591, Value.str (Str.ofString "bchar") 592, Value.str (Str.ofString "distance") 593, Value.str (Str.ofString "minimum") 594, Value.str (Str.ofString "index") 595, Value.str (Str.ofString "substitute") 596, Value.str (Str.ofString "insert_delete") 597] }) ::
 (nat_lit 206, { cls := Value.type "tuple", data := Data.seq #[] }) ::
 (nat_lit 208, { cls := Value.type "code", data := Data.fields #[Value.str (Str.ofString "_levenshtein_distance") 581, Value.str (Str.ofString "_levenshtein_distance") 582, Value.str (Str.ofString "/claim/cut.py") 583, Value.int 118 0, Value.int 3 0, Value.int 0 0, Value.int 0 0, Value.int 3 0, Value.ref 203, Value.bool true, Value.int 276 0, Value.ref 204, Value.none, Value.ref 205, Value.ref 206, Value.ref 207, Value.int 598 0, Value.int 118 0, Value.str (Str.ofString "/claim/cut.py") 599] }) ::
 (nat_lit 209, { cls := Value.type "function", data := Data.func (mkF (rfl : nthS  pbody 15 = .FunctionDef _ _ _ _ _ _ _ _ _ _) (Str.ofString "_levenshtein_distance") (Value.none) (Value.none) (Value.str (Str.ofString "cpy313.traceback") 565) (Value.ref 208)) }) ::
 (nat_lit 210, { cls := Value.type "tuple", data := Data.seq #[] }) ::
 (nat_lit 212, { cls := Value.type "tuple", data := Data.seq #[Value.str (Str.ofString "text") 606] }) ::
 (nat_lit 213, { cls := Value.type "tuple", data := Data.seq #[] }) ::
 (nat_lit 215, { cls := Value.type "code", data := Data.fields #[Value.str (Str.ofString "_raise_serialization_error") 603, Value.str (Str.ofString "_raise_serialization_error") 604, Value.str (Str.ofString "/claim/cut.py") 605, Value.int 157 0, Value.int 1 0, Value.int 0 0, Value.int 0 0, Value.int 3 0, Value.ref 210, Value.bool true, Value.int 276 0, Value.ref 211, Value.none, Value.ref 212, Value.ref 213, Value.ref 214, Value.int 607 0, Value.int 157 0, Value.str (Str.ofString "/claim/cut.py") 608] }) ::
 (nat_lit 216, { cls := Value.type "function", data := Data.func (mkF (rfl : nthS  pbody 17 = .FunctionDef _ _ _ _ _ _ _ _ _ _) (Str.ofString "_raise_serialization_error") (Value.none) (Value.none) (Value.str (Str.ofString "cpy313.xml.etree.ElementTree") 601) (Value.ref 215)) }) ::
 (nat_lit 217, { cls := Value.type "tuple", data := Data.seq #[] }) ::
 (nat_lit 219, { cls := Value.type "tuple", data := Data.seq #[Value.str (Str.ofString "text") 613] }) ::
 (nat_lit 220, { cls := Value.type "tuple", data := Data.seq #[] }) ::
 (nat_lit 222, { cls := Value.type "code", data := Data.fields #[Value.str (Str.ofString "_escape_cdata") 610, Value.str (Str.ofString "_escape_cdata") 611, Value.str (Str.ofString "/claim/cut.py") 612, Value.int 159 0, Value.int 1 0, Value.int 0 0, Value.int 0 0, Value.int 3 0, Value.ref 217, Value.bool true, Value.int 276 0, Value.ref 218, Value.none, Value.ref 219, Value.ref 220, Value.ref 221, Value.int 614 0, Value.int 159 0, Value.str (Str.ofString "/claim/cut.py") 615] }) ::
 (nat_lit 223, { cls := Value.type "function", data := Data.func (mkF (rfl : nthS  pbody 18 = .FunctionDef _ _ _ _ _ _ _ _ _ _) (Str.ofString "_escape_cdata") (Value.none) (Value.none) (Value.str (Str.ofString "cpy313.xml.etree.ElementTree") 601) (Value.ref 222)) }) ::
 (nat_lit 224, { cls := Value.type "tuple", data := Data.seq #[] }) ::
 (nat_lit 226, { cls := Value.type "tuple", data := Data.seq #[Value.str (Str.ofString "text") 620] }) ::
 (nat_lit 227, { cls := Value.type "tuple", data := Data.seq #[] }) ::
 (nat_lit 229, { cls := Value.type "code", data := Data.fields #[Value.str (Str.ofString "_escape_attrib") 617, Value.str (Str.ofString "_escape_attrib") 618, Value.str (Str.ofString "/claim/cut.py") 619, Value.int 170 0, Value.int 1 0, Value.int 0 0, Value.int 0 0, Value.int 3 0, Value.ref 224, Value.bool true, Value.int 276 0, Value.ref 225, Value.none, Value.ref 226, Value.ref 227, Value.ref 228, Value.int 621 0, Value.int 170 0, Value.str (Str.ofString "/claim/cut.py") 622] }) ::
 (nat_lit 230, { cls := Value.type "function", data := Data.func (mkF (rfl : nthS  pbody 19 = .FunctionDef _ _ _ _ _ _ _ _ _ _) (Str.ofString "_escape_attrib") (Value.none) (Value.none) (Value.str (Str.ofString "cpy313.xml.etree.ElementTree") 601) (Value.ref 229)) }) ::
 (nat_lit 231, { cls := Value.type "tuple", data := Data.seq #[] }) ::
 (nat_lit 233, { cls := Value.type "tuple", data := Data.seq #[Value.str (Str.ofString "text") 627] }) ::
 (nat_lit 234, { cls := Value.type "tuple", data := Data.seq #[] }) ::
 (nat_lit 236, { cls := Value.type "code", data := Data.fields #[Value.str (Str.ofString "_escape_attrib_html") 624, Value.str (Str.ofString "_escape_attrib_html") 625, Value.str (Str.ofString "/claim/cut.py") 626, Value.int 189 0, Value.int 1 0, Value.int 0 0, Value.int 0 0, Value.int 3 0, Value.ref 231, Value.bool true, Value.int 276 0, Value.ref 232, Value.none, Value.ref 233, Value.ref 234, Value.ref 235, Value.int 628 0, Value.int 189 0, Value.str (Str.ofString "/claim/cut.py") 629] }) ::
 (nat_lit 237, { cls := Value.type "function", data := Data.func (mkF (rfl : nthS  pbody 20 = .FunctionDef _ _ _ _ _ _ _ _ _ _) (Str.ofString "_escape_attrib_html") (Value.none) (Value.none) (Value.str (Str.ofString "cpy313.xml.etree.ElementTree") 601) (Value.ref 236)) }) ::
 (nat_lit 238, { cls := Value.type "tuple", data := Data.seq #[] }) ::
 (nat_lit 240, { cls := Value.type "tuple", data := Data.seq #[Value.str (Str.ofString "text") 634] }) ::
 (nat_lit 241, { cls := Value.type "tuple", data := Data.seq #[] }) ::
 (nat_lit 243, { cls := Value.type "code", data := Data.fields #[Value.str (Str.ofString "_escape_cdata_c14n") 631, Value.str (Str.ofString "_escape_cdata_c14n") 632, Value.str (Str.ofString "/claim/cut.py") 633, Value.int 200 0, Value.int 1 0, Value.int 0 0, Value.int 0 0, Value.int 3 0, Value.ref 238, Value.bool true, Value.int 276 0, Value.ref 239, Value.none, Value.ref 240, Value.ref 241, Value.ref 242, Value.int 635 0, Value.int 200 0, Value.str (Str.ofString "/claim/cut.py") 636] }) ::
 (nat_lit 244, { cls := Value.type "function", data := Data.func (mkF (rfl : nthS  pbody 21 = .FunctionDef _ _ _ _ _ _ _ _ _ _) (Str.ofString "_escape_cdata_c14n") (Value.none) (Value.none) (Value.str (Str.ofString "cpy313.xml.etree.ElementTree") 601) (Value.ref 243)) }) ::
 (nat_lit 245, { cls := Value.type "tuple", data := Data.seq #[] }) ::
 (nat_lit 247, { cls := Value.type "tuple", data := Data.seq #[Value.str (Str.ofString "text") 641] }) ::
 (nat_lit 248, { cls := Value.type "tuple", data := Data.seq #[] }) ::
 (nat_lit 250, { cls := Value.type "code", data := Data.fields #[Value.str (Str.ofString "_escape_attrib_c14n") 638, Value.str (Str.ofString "_escape_attrib_c14n") 639, Value.str (Str.ofString "/claim/cut.py") 640, Value.int 213 0, Value.int 1 0, Value.int 0 0, Value.int 0 0, Value.int 3 0, Value.ref 245, Value.bool true, Value.int 276 0, Value.ref 246, Value.none, Value.ref 247, Value.ref 248, Value.ref 249, Value.int 642 0, Value.int 213 0, Value.str (Str.ofString "/claim/cut.py") 643] }) ::
 (nat_lit 251, { cls := Value.type "function", data := Data.func (mkF (rfl : nthS  pbody 22 = .FunctionDef _ _ _ _ _ _ _ _ _ _) (Str.ofString "_escape_attrib_c14n") (Value.none) (Value.none) (Value.str (Str.ofString "cpy313.xml.etree.ElementTree") 601) (Value.ref 250)) }) ::
 (nat_lit 252, { cls := Value.type "tuple", data := Data.seq #[] }) ::
 (nat_lit 254, { cls := Value.type "tuple", data := Data.seq #[Value.str (Str.ofString "n") 650, Value.str (Str.ofString "row") 651] }) ::
 (nat_lit 255, { cls := Value.type "tuple", data := Data.seq #[] }) ::
 (nat_lit 257, { cls := Value.type "code", data := Data.fields #[Value.str (Str.ofString "_law_octets") 647, Value.str (Str.ofString "_law_octets") 648, Value.str (Str.ofString "/claim/cut.py") 649, Value.int 231 0, Value.int 1 0, Value.int 0 0, Value.int 0 0, Value.int 3 0, Value.ref 252, Value.bool true, Value.int 276 0, Value.ref 253, Value.none, Value.ref 254, Value.ref 255, Value.ref 256, Value.int 652 0, Value.int 231 0, Value.str (Str.ofString "/claim/cut.py") 653] }) ::
 (nat_lit 258, { cls := Value.type "function", data := Data.func (mkF (rfl : nthS  pbody 24 = .FunctionDef _ _ _ _ _ _ _ _ _ _) (Str.ofString "_law_octets") (Value.none) (Value.none) (Value.str (Str.ofString "law_sw0080_01") 645) (Value.ref 257)) }) ::
 (nat_lit 259, { cls := Value.type "tuple", data := Data.seq #[] }) ::
 (nat_lit 262, { cls := Value.type "code", data := Data.fields #[Value.str (Str.ofString "_law_text") 655, Value.str (Str.ofString "_law_text") 656, Value.str (Str.ofString "/claim/cut.py") 657, Value.int 238 0, Value.int 1 0, Value.int 0 0, Value.int 0 0, Value.int 3 0, Value.ref 259, Value.bool true, Value.int 276 0, Value.ref 260, Value.none, Value.none, Value.none, Value.ref 261, Value.int 658 0, Value.int 238 0, Value.str (Str.ofString "/claim/cut.py") 659] }) ::
 (nat_lit 263, { cls := Value.type "function", data := Data.func (mkF (rfl : nthS  pbody 25 = .FunctionDef _ _ _ _ _ _ _ _ _ _) (Str.ofString "_law_text") (Value.none) (Value.none) (Value.str (Str.ofString "law_sw0080_01") 645) (Value.ref 262)) }) ::
 (nat_lit 264, { cls := Value.type "tuple", data := Data.seq #[] }) ::
 (nat_lit 266, { cls := Value.type "tuple", data := Data.seq #[Value.str (Str.ofString "octets") 664, Value.str (Str.ofString "stream") 665, Value.str (Str.ofString "told") 666] }) ::
 (nat_lit 267, { cls := Value.type "tuple", data := Data.seq #[] }) ::
 (nat_lit 269, { cls := Value.type "code", data := Data.fields #[Value.str (Str.ofString "_law_read") 661, Value.str (Str.ofString "_law_read") 662, Value.str (Str.ofString "/claim/cut.py") 663, Value.int 240 0, Value.int 1 0, Value.int 0 0, Value.int 0 0, Value.int 3 0, Value.ref 264, Value.bool true, Value.int 276 0, Value.ref 265, Value.none, Value.ref 266, Value.ref 267, Value.ref 268, Value.int 667 0, Value.int 240 0, Value.str (Str.ofString "/claim/cut.py") 668] }) ::
 (nat_lit 270, { cls := Value.type "function", data := Data.func (mkF (rfl : nthS  pbody 26 = .FunctionDef _ _ _ _ _ _ _ _ _ _) (Str.ofString "_law_read") (Value.none) (Value.none) (Value.str (Str.ofString "law_sw0080_01") 645) (Value.ref 269)) }) ::
 (nat_lit 271, { cls := Value.type "tuple", data := Data.seq #[] }) ::
 (nat_lit 273, { cls := Value.type "tuple", data := Data.seq #[Value.str (Str.ofString "k") 673, Value.str (Str.ofString "row") 674, Value.str (Str.ofString "rests") 675, Value.str (Str.ofString "told") 676, Value.str (Str.ofString "n") 677] }) ::
 (nat_lit 274, { cls := Value.type "tuple", data := Data.seq #[] }) ::
 (nat_lit 276, { cls := Value.type "code", data := Data.fields #[Value.str (Str.ofString "_law_escaped") 670, Value.str (Str.ofString "_law_escaped") 671, Value.str (Str.ofString "/claim/cut.py") 672, Value.int 248 0, Value.int 2 0, Value.int 0 0, Value.int 0 0, Value.int 3 0, Value.ref 271, Value.bool true, Value.int 276 0, Value.ref 272, Value.none, Value.ref 273, Value.ref 274, Value.ref 275, Value.int 678 0, Value.int 248 0, Value.str (Str.ofString "/claim/cut.py") 679] }) ::
 (nat_lit 277, { cls := Value.type "function", data := Data.func (mkF (rfl : nthS  pbody 27 = .FunctionDef _ _ _ _ _ _ _ _ _ _) (Str.ofString "_law_escaped") (Value.none) (Value.none) (Value.str (Str.ofString "law_sw0080_01") 645) (Value.ref 276)) }) ::
 (nat_lit 278, { cls := Value.type "tuple", data := Data.seq #[] }) ::
 (nat_lit 280, { cls := Value.type "tuple", data := Data.seq #[Value.str (Str.ofString "n") 684, Value.str (Str.ofString "twice") 685] }) ::
 (nat_lit 281, { cls := Value.type "tuple", data := Data.seq #[] }) ::
 (nat_lit 283, { cls := Value.type "code", data := Data.fields #[Value.str (Str.ofString "_law_doubled") 681, Value.str (Str.ofString "_law_doubled") 682, Value.str (Str.ofString "/claim/cut.py") 683, Value.int 258 0, Value.int 1 0, Value.int 0 0, Value.int 0 0, Value.int 3 0, Value.ref 278, Value.bool true, Value.int 276 0, Value.ref 279, Value.none, Value.ref 280, Value.ref 281, Value.ref 282, Value.int 686 0, Value.int 258 0, Value.str (Str.ofString "/claim/cut.py") 687] }) ::
 (nat_lit 284, { cls := Value.type "function", data := Data.func (mkF (rfl : nthS  pbody 28 = .FunctionDef _ _ _ _ _ _ _ _ _ _) (Str.ofString "_law_doubled") (Value.none) (Value.none) (Value.str (Str.ofString "law_sw0080_01") 645) (Value.ref 283)) }) ::
 (nat_lit 285, { cls := Value.type "tuple", data := Data.seq #[] }) ::
 (nat_lit 287, { cls := Value.type "tuple", data := Data.seq #[Value.str (Str.ofString "n") 692, Value.str (Str.ofString "head") 693] }) ::
 (nat_lit 288, { cls := Value.type "tuple", data := Data.seq #[] }) ::
 (nat_lit 290, { cls := Value.type "code", data := Data.fields #[Value.str (Str.ofString "_law_marked") 689, Value.str (Str.ofString "_law_marked") 690, Value.str (Str.ofString "/claim/cut.py") 691, Value.int 265 0, Value.int 1 0, Value.int 0 0, Value.int 0 0, Value.int 3 0, Value.ref 285, Value.bool true, Value.int 276 0, Value.ref 286, Value.none, Value.ref 287, Value.ref 288, Value.ref 289, Value.int 694 0, Value.int 265 0, Value.str (Str.ofString "/claim/cut.py") 695] }) ::
 (nat_lit 291, { cls := Value.type "function", data := Data.func (mkF (rfl : nthS  pbody 29 = .FunctionDef _ _ _ _ _ _ _ _ _ _) (Str.ofString "_law_marked") (Value.none) (Value.none) (Value.str (Str.ofString "law_sw0080_01") 645) (Value.ref 290)) }) ::
 (nat_lit 292, { cls := Value.type "tuple", data := Data.seq #[] }) ::
 (nat_lit 294, { cls := Value.type "tuple", data := Data.seq #[Value.str (Str.ofString "n") 700, Value.str (Str.ofString "digits") 701] }) ::
 (nat_lit 295, { cls := Value.type "tuple", data := Data.seq #[] }) ::
 (nat_lit 297, { cls := Value.type "code", data := Data.fields #[Value.str (Str.ofString "_law_leads") 697, Value.str (Str.ofString "_law_leads") 698, Value.str (Str.ofString "/claim/cut.py") 699, Value.int 270 0, Value.int 2 0, Value.int 0 0, Value.int 0 0, Value.int 3 0, Value.ref 292, Value.bool true, Value.int 276 0, Value.ref 293, Value.none, Value.ref 294, Value.ref 295, Value.ref 296, Value.int 702 0, Value.int 270 0, Value.str (Str.ofString "/claim/cut.py") 703] }) ::
 (nat_lit 298, { cls := Value.type "function", data := Data.func (mkF (rfl : nthS  pbody 30 = .FunctionDef _ _ _ _ _ _ _ _ _ _) (Str.ofString "_law_leads") (Value.none) (Value.none) (Value.str (Str.ofString "law_sw0080_01") 645) (Value.ref 297)) }) ::
 (nat_lit 299, { cls := Value.type "tuple", data := Data.seq #[] }) ::
 (nat_lit 301, { cls := Value.type "tuple", data := Data.seq #[Value.str (Str.ofString "n") 708] }) ::
 (nat_lit 302, { cls := Value.type "tuple", data := Data.seq #[] }) ::
 (nat_lit 304, { cls := Value.type "code", data := Data.fields #[Value.str (Str.ofString "_law_parameter") 705, Value.str (Str.ofString "_law_parameter") 706, Value.str (Str.ofString "/claim/cut.py") 707, Value.int 277 0, Value.int 1 0, Value.int 0 0, Value.int 0 0, Value.int 3 0, Value.ref 299, Value.bool true, Value.int 276 0, Value.ref 300, Value.none, Value.ref 301, Value.ref 302, Value.ref 303, Value.int 709 0, Value.int 277 0, Value.str (Str.ofString "/claim/cut.py") 710] }) ::
 (nat_lit 305, { cls := Value.type "function", data := Data.func (mkF (rfl : nthS  pbody 31 = .FunctionDef _ _ _ _ _ _ _ _ _ _) (Str.ofString "_law_parameter") (Value.none) (Value.none) (Value.str (Str.ofString "law_sw0080_01") 645) (Value.ref 304)) }) ::
 (nat_lit 306, { cls := Value.type "tuple", data := Data.seq #[] }) ::
 (nat_lit 309, { cls := Value.type "code", data := Data.fields #[Value.str (Str.ofString "_law_refused") 712, Value.str (Str.ofString "_law_refused") 713, Value.str (Str.ofString "/claim/cut.py") 714, Value.int 281 0, Value.int 1 0, Value.int 0 0, Value.int 0 0, Value.int 3 0, Value.ref 306, Value.bool true, Value.int 276 0, Value.ref 307, Value.none, Value.none, Value.none, Value.ref 308, Value.int 715 0, Value.int 281 0, Value.str (Str.ofString "/claim/cut.py") 716] }) ::
 (nat_lit 310, { cls := Value.type "function", data := Data.func (mkF (rfl : nthS  pbody 32 = .FunctionDef _ _ _ _ _ _ _ _ _ _) (Str.ofString "_law_refused") (Value.none) (Value.none) (Value.str (Str.ofString "law_sw0080_01") 645) (Value.ref 309)) }) ::
 (nat_lit 311, { cls := Value.type "tuple", data := Data.seq #[] }) ::
 (nat_lit 314, { cls := Value.type "code", data := Data.fields #[Value.str (Str.ofString "law") 718, Value.str (Str.ofString "law") 719, Value.str (Str.ofString "/claim/cut.py") 720, Value.int 283 0, Value.int 1 0, Value.int 0 0, Value.int 0 0, Value.int 3 0, Value.ref 311, Value.bool true, Value.int 276 0, Value.ref 312, Value.none, Value.none, Value.none, Value.ref 313, Value.int 721 0, Value.int 283 0, Value.str (Str.ofString "/claim/cut.py") 722] }) ::
 (nat_lit 315, { cls := Value.type "function", data := Data.func (mkF (rfl : nthS  pbody 33 = .FunctionDef _ _ _ _ _ _ _ _ _ _) (Str.ofString "law") (Value.none) (Value.none) (Value.str (Str.ofString "law_sw0080_01") 645) (Value.ref 314)) }) :: []
noncomputable def view : Program :=
  { PySem.Challenge.pw_sw0080_01 with main := { PySem.Challenge.pw_sw0080_01.main with body := [nthS pbody 0, nthS pbody 1, nthS pbody 3, nthS pbody 4, nthS pbody 5, nthS pbody 7, nthS pbody 9, nthS pbody 11, nthS pbody 12, nthS pbody 13, nthS pbody 14, nthS pbody 15, nthS pbody 17, nthS pbody 18, nthS pbody 19, nthS pbody 20, nthS pbody 21, nthS pbody 22, nthS pbody 24, nthS pbody 25, nthS pbody 26, nthS pbody 27, nthS pbody 28, nthS pbody 29, nthS pbody 30, nthS pbody 31, nthS pbody 32, nthS pbody 33] } }

end Mine
end
section
namespace Mine
theorem five9 {k : Nat} (h : k < 5) : k = 0 ∨ k = 1 ∨ k = 2 ∨ k = 3 ∨ k = 4 := by (first | lia | omega)
noncomputable def dPre (n : Nat) : List Nat := if n = 0 then [] else dPre (n / 64) ++ [64 + n % 64]
termination_by n
decreasing_by (first | lia | omega)
theorem dPre_zero : dPre 0 = [] := by rw [dPre]; simp
theorem dPre_pos {n : Nat} (h : n ≠ 0) : dPre n = dPre (n / 64) ++ [64 + n % 64] := by rw [dPre]; simp [h]
noncomputable def dOct (n : Nat) : List Nat := dPre (n / 64) ++ [n % 64]
noncomputable def toI (l : List Nat) : List Int := l.map fun (x : Nat) => (x : Int)
theorem toI_append (a b : List Nat) : toI (a ++ b) = toI a ++ toI b := by simp [toI]
theorem dPre_length : ∀ (j n : Nat), n < 64 ^ j → (dPre n).length ≤ j
  | 0, n, h => by have : n = 0 := by simpa using h
                  subst this; simp [dPre_zero]
  | j + 1, n, h => by
    by_cases h0 : n = 0
    · subst h0; simp [dPre_zero]
    · rw [dPre_pos h0]
      have : n / 64 < 64 ^ j := by rw [Nat.pow_succ] at h; (first | lia | omega)
      have := dPre_length j _ this
      simp; (first | lia | omega)
theorem dPre_lt : ∀ (n x : Nat), x ∈ dPre n → 64 ≤ x ∧ x < 128 := by
  intro n
  induction n using Nat.strongRecOn with
  | ind n ih =>
    intro x hx
    by_cases h0 : n = 0
    · subst h0; rw [dPre_zero] at hx; cases hx
    · rw [dPre_pos h0] at hx
      rcases List.mem_append.mp hx with h | h
      · exact ih (n / 64) (by (first | lia | omega)) x h
      · rw [List.mem_singleton.mp h]; (first | lia | omega)
theorem dOct_lt (n x : Nat) (h : x ∈ dOct n) : x < 128 := by
  rcases List.mem_append.mp h with h | h
  · exact (dPre_lt _ _ h).2
  · rw [List.mem_singleton.mp h]; (first | lia | omega)
theorem dOct_length {n : Nat} (h : n < 2 ^ 40) : (dOct n).length ≤ 8 := by
  have := dPre_length 7 (n / 64) (by (first | lia | omega))
  simp [dOct]; (first | lia | omega)
end Mine
end
section
namespace Mine
noncomputable def dbl (n : Nat) : Nat := if n = 0 then 0 else if n % 64 = 28 then (dbl (n / 64) * 64 + n % 64) * 64 + 28 else dbl (n / 64) * 64 + n % 64
termination_by n
decreasing_by all_goals (first | lia | omega)
theorem dbl_zero : dbl 0 = 0 := by rw [dbl]; simp
theorem dbl_pos {n : Nat} (h : n ≠ 0) : dbl n = if n % 64 = 28 then (dbl (n / 64) * 64 + n % 64) * 64 + 28 else dbl (n / 64) * 64 + n % 64 := by rw [dbl]; simp [h]
theorem dbl_lt : ∀ (k n : Nat), n < 64 ^ k → dbl n < 4096 ^ k
  | 0, n, h => by have : n = 0 := by simpa using h
                  subst this; simp [dbl_zero]
  | k + 1, n, h => by
    by_cases h0 : n = 0
    · subst h0; rw [dbl_zero]; exact Nat.pow_pos (by decide)
    · rw [dbl_pos h0]
      have h1 := dbl_lt k (n / 64) (by rw [Nat.pow_succ] at h; (first | lia | omega))
      rw [Nat.pow_succ]
      split <;> (first | lia | omega)
noncomputable def mark (n : Nat) : Nat := (if n % 64 = 34 then dbl (n / 64) * 64 + 28 else dbl (n / 64)) * 64 + n % 64
noncomputable def ldg (ds : List Nat) (n : Nat) : Bool := if n = 0 then false else if ds.contains (n % 64) then true else ldg ds (n / 64)
termination_by n
decreasing_by (first | lia | omega)
theorem ldg_zero (ds : List Nat) : ldg ds 0 = false := by rw [ldg]; simp
theorem ldg_pos {ds : List Nat} {n : Nat} (h : n ≠ 0) : ldg ds n = if ds.contains (n % 64) then true else ldg ds (n / 64) := by rw [ldg]; simp [h]
noncomputable def leads (ds : List Nat) (n : Nat) : Bool := ldg ds (n / 64)
noncomputable def minds (n : Nat) : Bool := [32, 34, 40, 41, 44, 47, 58, 59, 60, 61, 62, 63].contains (n % 64) || leads [0, 27, 28, 29] n
noncomputable def par (n : Nat) : List Nat := if minds n then [3133, 34, mark n, 34] else [3133, n]
noncomputable def bad (n : Nat) : Bool := (decide (n % 64 < 32) && decide (n % 64 ≠ 9)) || leads [63] n
noncomputable def refused (row : List Nat) : Bool := row.any bad
end Mine
end
section
namespace Mine
/-- per escaper: a sign, its entity, the numbers that stand for the entity's end -/
noncomputable def rows : List (List (Nat × List Nat × List Nat)) := [
  [(38, [38, 97, 109, 112, 59], [8838203]), (60, [38, 108, 116, 59], [183611]), (62, [38, 103, 116, 59], [163131])],
  [(38, [38, 97, 109, 112, 59], [8838203]), (60, [38, 108, 116, 59], [183611]), (62, [38, 103, 116, 59], [163131]), (34, [38, 113, 117, 111, 116, 59], [836173115]), (13, [38, 35, 49, 51, 59], [35, 49, 51, 59]), (10, [38, 35, 49, 48, 59], [35, 49, 48, 59]), (9, [38, 35, 48, 57, 59], [35, 48, 57, 59])],
  [(38, [38, 97, 109, 112, 59], [8838203]), (62, [38, 103, 116, 59], [163131]), (34, [38, 113, 117, 111, 116, 59], [836173115])],
  [(38, [38, 97, 109, 112, 59], [8838203]), (60, [38, 108, 116, 59], [183611]), (62, [38, 103, 116, 59], [163131]), (13, [38, 35, 120, 68, 59], [35, 229691])],
  [(38, [38, 97, 109, 112, 59], [8838203]), (60, [38, 108, 116, 59], [183611]), (34, [38, 113, 117, 111, 116, 59], [836173115]), (9, [38, 35, 120, 57, 59], [35, 3641, 59]), (10, [38, 35, 120, 65, 59], [35, 229499]), (13, [38, 35, 120, 68, 59], [35, 229691])]]
noncomputable def lk : List (Nat × List Nat × List Nat) → Nat → Option (List Nat)
  | [], _ => none
  | p :: t, c => if c = p.1 then some p.2.2 else lk t c
noncomputable def rest (k c : Nat) : Option (List Nat) := lk (rows.getD k []) c
theorem getD_of {α : Type} {P : α → Prop} {l : List α} {d : α} (h : ∀ a ∈ l, P a) (hd : P d) (k : Nat) : P (l.getD k d) := by
  rw [List.getD_eq_getElem?_getD]
  cases e : l[k]? with
  | none => exact hd
  | some a => exact h a (List.mem_of_getElem? e)
theorem rows_get (k : Nat) (h : k < 5) : rows[k]? = some (rows.getD k []) := by
  rw [List.getD_eq_getElem?_getD, List.getElem?_eq_getElem (show k < rows.length from h)]; rfl
theorem lk_row {c : Nat} {r : List Nat} : ∀ {t : List (Nat × List Nat × List Nat)}, lk t c = some r → ∃ x, (c, x, r) ∈ t
  | (i, x, r') :: t, h => by
    by_cases hc : c = i
    · have e : lk ((i, x, r') :: t) c = some r' := if_pos hc
      rw [e] at h
      cases h; subst hc
      exact ⟨x, List.mem_cons_self⟩
    · have e : lk ((i, x, r') :: t) c = lk t c := if_neg hc
      rw [e] at h
      obtain ⟨y, hy⟩ := lk_row h
      exact ⟨y, List.mem_cons_of_mem _ hy⟩
theorem rest_all {P : Nat → List Nat → Prop} (hP : ∀ t ∈ rows, ∀ p ∈ t, P p.1 p.2.2) {k c : Nat} {r : List Nat} (h : rest k c = some r) : P c r := by
  obtain ⟨x, hx⟩ := lk_row h
  exact getD_of (P := fun t => ∀ p ∈ t, P p.1 p.2.2) hP (fun _ hp => absurd hp List.not_mem_nil) k _ hx
noncomputable def esc1 (k n : Nat) : List Nat := match rest k (n % 64) with
  | some r => (n - n % 64 + 38) :: r
  | none => [n]
noncomputable def escd (k : Nat) (row : List Nat) : List Nat := row.flatMap (esc1 k)
theorem rest_len (k c : Nat) (r : List Nat) (h : rest k c = some r) : r.length ≤ 4 := rest_all (P := fun _ r => r.length ≤ 4) (by decide +kernel) h
theorem rest_ne {k c : Nat} {r : List Nat} (h : rest k c = some r) : r ≠ [] := rest_all (P := fun _ r => r ≠ []) (by decide +kernel) h
theorem esc1_len (k n : Nat) : (esc1 k n).length ≤ 5 := by
  unfold esc1
  cases e : rest k (n % 64) with
  | none => exact Nat.le_add_left 1 4
  | some r => exact Nat.succ_le_succ (rest_len _ _ _ e)
theorem flat_len {α : Type} {g : α → List Nat} {b : Nat} : ∀ (l : List α), (∀ x ∈ l, (g x).length ≤ b) → (l.flatMap g).length ≤ b * l.length
  | [], _ => Nat.zero_le _
  | a :: r, h => by
    have h1 := flat_len r fun x hx => h x (List.mem_cons_of_mem _ hx)
    have h2 := h a List.mem_cons_self
    rw [List.flatMap_cons, List.length_append, List.length_cons, Nat.mul_succ, Nat.add_comm]
    exact Nat.add_le_add h1 h2
theorem escd_len (k : Nat) (l : List Nat) : (escd k l).length ≤ 5 * l.length := flat_len l fun x _ => esc1_len k x
theorem escd_snoc (k : Nat) (l : List Nat) (x : Nat) : escd k (l ++ [x]) = escd k l ++ esc1 k x := by
  rw [escd, List.flatMap_append, List.flatMap_cons, List.flatMap_nil, List.append_nil]; rfl
end Mine
end
section
open PySem PySem.W PyProof.Rows
set_option Elab.async false
set_option maxRecDepth 100000
set_option maxHeartbeats 8000000
namespace Mine
theorem gen_tk {α : Type} {M : Model} {A : Around} {E : Value → Shared → Prop} {tr : Sem α} {Q : α → Shared → Prop} {h : Heap} {g : Array GenState} {d : Drawn} {X : Nat} {os : OsState} (hq : ∀ tk, wpAny M A tr Q E ⟨h, g, d, tk, os⟩) : wpAny M A tr Q E ⟨h, g, d, X, os⟩ := hq X
def Halt (P : Prop) : Prop := P
theorem halt {P : Prop} (h : Halt P) : P := h
def GivesL (w : World) (news : List (Addr × Obj)) (t : Sem Value) (d u : Nat) (ns : List Int) : Prop :=
  ∀ (loose : List Str) (mean : ExcName → Option Value) (mg mb : Str → Option Value)
  (dp un : Nat) (gd : Option (List Code)) (cn : Str) (cs : Scope) (a : Addr) (ccd : Value) (cl : List (Str × Addr)) (outer : List Env) (A₀ : Around) (base h₀ : Heap) (L : Addr) (m : Str → Option Value) (s : Shared) (Q E : Value → Shared → Prop)
  (B : Below A₀ base outer h₀) (F : Fr h₀ L s.heap m) (X : (Mine.heap w.params).In h₀) (N : News h₀ L s.heap news) (T : Top Mine.view loose mean mg mb h₀) (hk : cs.kind = .function)
  (hdp : dp + d < recursionLimit) (hun : un + u < cLine)
  (hret : ∀ D us c h' tk, Fr h₀ L h' m → News h₀ L h' ((D, listOf (List.toArray us) c) :: news) → (∀ p ∈ news, p.1 < D) → IntsAre us ns → Q (.ref D) { s with heap := h', toks := tk }),
  wpAny (model PySem.Challenge.rw_sw0080_01.prog w) (ktrTop dp un gd cn cs L a ccd cl outer) t Q E s
def GivesV (w : World) (news : List (Addr × Obj)) (t : Sem Value) (d u : Nat) (v : Tok → Value) : Prop :=
  ∀ (loose : List Str) (mean : ExcName → Option Value) (mg mb : Str → Option Value)
  (dp un : Nat) (gd : Option (List Code)) (cn : Str) (cs : Scope) (a : Addr) (ccd : Value) (cl : List (Str × Addr)) (outer : List Env) (A₀ : Around) (base h₀ : Heap) (L : Addr) (m : Str → Option Value) (s : Shared) (Q E : Value → Shared → Prop)
  (B : Below A₀ base outer h₀) (F : Fr h₀ L s.heap m) (X : (Mine.heap w.params).In h₀) (N : News h₀ L s.heap news) (T : Top Mine.view loose mean mg mb h₀) (hk : cs.kind = .function)
  (hdp : dp + d < recursionLimit) (hun : un + u < cLine)
  (hret : ∀ t h' tk, Fr h₀ L h' m → News h₀ L h' news → Q (v t) { s with heap := h', toks := tk }),
  wpAny (model PySem.Challenge.rw_sw0080_01.prog w) (ktrTop dp un gd cn cs L a ccd cl outer) t Q E s
theorem useL {w : World} {news : List (Addr × Obj)} {t : Sem Value} {d u : Nat} {ns : List Int} {loose : List Str} {mean : ExcName → Option Value} {mg mb : Str → Option Value}
    {dp un : Nat} {gd : Option (List Code)} {cn : Str} {cs : Scope} {a : Addr} {ccd : Value} {cl : List (Str × Addr)} {outer : List Env} {A₀ : Around} {base h₀ : Heap} {L : Addr} {m : Str → Option Value} {s : Shared} {Q E : Value → Shared → Prop}
    (C : GivesL w news t d u ns) (B : Below A₀ base outer h₀) (F : Fr h₀ L s.heap m) (X : (Mine.heap w.params).In h₀) (N : News h₀ L s.heap news) (T : Top Mine.view loose mean mg mb h₀) (hk : cs.kind = .function)
    (hdp : dp + d < recursionLimit) (hun : un + u < cLine)
    (hret : ∀ D us c h' tk, Fr h₀ L h' m → News h₀ L h' ((D, listOf (List.toArray us) c) :: news) → (∀ p ∈ news, p.1 < D) → IntsAre us ns → Q (.ref D) { s with heap := h', toks := tk }) :
    wpAny (model PySem.Challenge.rw_sw0080_01.prog w) (ktrTop dp un gd cn cs L a ccd cl outer) t Q E s := C _ _ _ _ _ _ _ _ _ _ _ _ _ _ _ _ _ _ _ _ _ B F X N T hk hdp hun hret
theorem useV {w : World} {news : List (Addr × Obj)} {t : Sem Value} {d u : Nat} {v : Tok → Value} {loose : List Str} {mean : ExcName → Option Value} {mg mb : Str → Option Value}
    {dp un : Nat} {gd : Option (List Code)} {cn : Str} {cs : Scope} {a : Addr} {ccd : Value} {cl : List (Str × Addr)} {outer : List Env} {A₀ : Around} {base h₀ : Heap} {L : Addr} {m : Str → Option Value} {s : Shared} {Q E : Value → Shared → Prop}
    (C : GivesV w news t d u v) (B : Below A₀ base outer h₀) (F : Fr h₀ L s.heap m) (X : (Mine.heap w.params).In h₀) (N : News h₀ L s.heap news) (T : Top Mine.view loose mean mg mb h₀) (hk : cs.kind = .function)
    (hdp : dp + d < recursionLimit) (hun : un + u < cLine)
    (hret : ∀ t h' tk, Fr h₀ L h' m → News h₀ L h' news → Q (v t) { s with heap := h', toks := tk }) :
    wpAny (model PySem.Challenge.rw_sw0080_01.prog w) (ktrTop dp un gd cn cs L a ccd cl outer) t Q E s := C _ _ _ _ _ _ _ _ _ _ _ _ _ _ _ _ _ _ _ _ _ B F X N T hk hdp hun hret
noncomputable def tx (l : List Nat) : Str := ⟨l.toArray⟩
theorem tx_length (l : List Nat) : (tx l).length = l.length := by simp [tx, Str.length]
theorem foldl_glue : ∀ (l : List Nat) (acc : Array Nat), (l.map fun c => tx [c]).foldl (fun acc p => acc ++ (Str.ofString "").cps ++ p.cps) acc = acc ++ l.toArray
  | [], acc => by simp
  | c :: r, acc => by
    have e : (Str.ofString "").cps = #[] := by decide
    rw [List.map_cons, List.foldl_cons, foldl_glue r, e]
    simp [tx]
theorem join_tx (l : List Nat) : Txt.join (Str.ofString "") (l.map fun c => tx [c]) = tx l := by
  cases l with
  | nil => rfl
  | cons c r =>
    show (⟨(r.map fun c => tx [c]).foldl (fun acc p => acc ++ (Str.ofString "").cps ++ p.cps) (tx [c]).cps⟩ : Str) = tx (c :: r)
    rw [foldl_glue]
    simp [tx]
theorem endL {h₀ h' : Heap} {L D : Addr} {m : Str → Option Value} {news all : List (Addr × Obj)} {s : Shared} {Q : Value → Shared → Prop} {ns ns' : List Int} {us : List Value} {c tk : Nat}
    (hret : ∀ D us c h' tk, Fr h₀ L h' m → News h₀ L h' ((D, listOf (List.toArray us) c) :: news) → (∀ p ∈ news, p.1 < D) → IntsAre us ns → Q (.ref D) { s with heap := h', toks := tk })
    (e : ns' = ns) (F : Fr h₀ L h' m) (N : News h₀ L h' ((D, listOf (List.toArray us) c) :: all)) (hs : ∀ p ∈ news, p ∈ all) (lt : ∀ p ∈ news, p.1 < D) (hi : IntsAre us ns') :
    Q (.ref D) { s with heap := h', toks := tk } := by
  subst e
  refine hret D us c h' tk F (fun p hp => ?_) lt hi
  rcases List.mem_cons.mp hp with rfl | hp
  · exact N _ List.mem_cons_self
  · exact N p (List.mem_cons_of_mem _ (hs p hp))
theorem ints_one (n : Int) (t : Tok) : IntsAre [.int n t] [n] := .cons n t .nil
theorem ints_eq {us : List Value} {a b : List Int} (h : IntsAre us a) (e : a = b) : IntsAre us b := e ▸ h
theorem allLt_all {d : Addr} : ∀ {l : List (Addr × Obj)}, AllLt d l → ∀ p ∈ l, p.1 < d
  | [], _, _, hp => nomatch hp
  | _ :: _, h, p, hp => by
    rcases List.mem_cons.mp hp with rfl | hp
    · exact h.1
    · exact allLt_all h.2 p hp
theorem ffloor {k : Int} {b : Int} (hb : 0 ≤ b) : k.fdiv b = k / b := Int.fdiv_eq_ediv_of_nonneg _ hb
theorem fmodd {k : Int} {b : Int} (hb : 0 ≤ b) : k.fmod b = k % b := Int.fmod_eq_emod_of_nonneg _ hb
theorem ediv64 {n : Int} (h : 0 ≤ n) : (n / 64).toNat = n.toNat / 64 := by (first | lia | omega)
theorem fdiv64 {n : Int} (h : 0 ≤ n) : (n.fdiv 64).toNat = n.toNat / 64 := by rw [ffloor (by decide)]; (first | lia | omega)
theorem fdiv64p {n : Int} (h : 0 ≤ n) : 0 ≤ n.fdiv 64 := by rw [ffloor (by decide)]; (first | lia | omega)
theorem fmod64 {n : Int} (h : 0 ≤ n) : n.fmod 64 = ((n.toNat % 64 : Nat) : Int) := by rw [fmodd (by decide)]; (first | lia | omega)
theorem fmod64n (n : Nat) : ((n : Int)).fmod 64 = ((n % 64 : Nat) : Int) := by rw [fmodd (by decide)]; (first | lia | omega)
end Mine
end
section
open PySem PySem.W PyProof.Rows PySem.Calls
set_option Elab.async false
namespace Mine
/-- a list display of written ints -/
inductive IntEs : List PySem.Expr → List Int → Prop where
  | nil : IntEs [] []
  | cons (i : Int) (k : Nat) (p : Pos) {es : List PySem.Expr} {ns : List Int} (h : IntEs es ns) : IntEs (.Constant (.int i) k p :: es) (i :: ns)
theorem IntEs.len {es : List PySem.Expr} {ns : List Int} (h : IntEs es ns) : ns.length = es.length := by
  induction h with
  | nil => rfl
  | cons i k p _ ih => rw [List.length_cons, List.length_cons, ih]
section
variable {prog : Program} {w : World} {A : Around} {E : Value → Shared → Prop} {env : Env} {pos : Pos} {h₀ : Heap} {L : Addr} {m : Str → Option Value} {news : List (Addr × Obj)}
theorem splicedInts {es : List PySem.Expr} {ns : List Int} (I : IntEs es ns) : ∀ (s : Shared) (Q : List Value → Shared → Prop), (∀ vs tk, IntsAre vs ns → Q vs { s with toks := tk }) → wpAny (model prog w) A (spliced (backTo pos (starEach es env))) Q E s := by
  induction I with
  | nil => intro s Q h; exact spliced_none (h [] s.toks .nil)
  | cons i k p _ ih =>
    intro s Q h
    refine spliced_more (wpAny_Constant_int ?_) rfl
    exact ih _ _ fun vs tk hv => h _ tk (.cons _ _ hv)
theorem evalInts {s : Shared} {Q : Value → Shared → Prop} {es : List PySem.Expr} {ns : List Int} (I : IntEs es ns) (F : Fr h₀ L s.heap m) (N : News h₀ L s.heap news) (hl : es.length ≤ 1000)
    (h : ∀ D us h' tk, Fr h₀ L h' m → News h₀ L h' ((D, listOf (List.toArray us) 0) :: news) → (∀ p ∈ news, p.1 < D) → IntsAre us ns → Q (.ref D) { s with heap := h', toks := tk }) :
    wpAny (model prog w) A (eval (.List es pos) env) Q E s := by
  refine List_ (splicedInts I _ _ fun vs tk hv => ?_)
  refine newList_K F N (fun l h' F' N' hl => h l vs h' tk F' N' hl hv) ?_
  have h1 := hv.length
  rw [I.len] at h1
  rw [sizeLine_eq]; omega
end
end Mine
end
section
open PySem PySem.W PyProof.Rows PySem.Calls
set_option Elab.async false
namespace Mine
def DTab (kvs : List (Int × Value)) (ext : List (Addr × Obj)) (f : Nat → Option (List Nat)) : Prop :=
  ∀ c : Nat, (f c = none → valueAt kvs (c : Int) = none) ∧ (∀ r, f c = some r → ∃ a us cnt, valueAt kvs (c : Int) = some (Value.ref a) ∧ (a, listOf (List.toArray us) cnt) ∈ ext ∧ IntsAre us (toI r))
/-- a dict display of written ints to list displays of written ints -/
inductive TabEs : List (Option PySem.Expr) → List PySem.Expr → List (Nat × List Nat × List Nat) → Prop where
  | nil : TabEs [] [] []
  | cons {p : Nat × List Nat × List Nat} {z : Int} {k : Nat} {q q' : Pos} {es : List PySem.Expr} {ks : List (Option PySem.Expr)} {vs : List PySem.Expr} {t : List (Nat × List Nat × List Nat)} (hz : z = (p.1 : Int)) (I : IntEs es (toI p.2.2)) (hl : es.length ≤ 1000) (h : TabEs ks vs t) :
    TabEs (some (.Constant (.int z) k q) :: ks) (.List es q' :: vs) (p :: t)
inductive DictsEs : List PySem.Expr → List (List (Nat × List Nat × List Nat)) → Prop where
  | nil : DictsEs [] []
  | cons {ks : List (Option PySem.Expr)} {vs ds : List PySem.Expr} {t : List (Nat × List Nat × List Nat)} {ts : List (List (Nat × List Nat × List Nat))} {p : Pos} (I : TabEs ks vs t) (h : DictsEs ds ts) : DictsEs (.Dict ks vs p :: ds) (t :: ts)
inductive TabAre (ext : List (Addr × Obj)) : List (Value × Value) → List (Nat × List Nat × List Nat) → Prop where
  | nil : TabAre ext [] []
  | cons (p : Nat × List Nat × List Nat) {k : Tok} {a : Addr} {us : List Value} {cnt : Nat} {vs : List (Value × Value)} {t : List (Nat × List Nat × List Nat)} (hm : (a, listOf (List.toArray us) cnt) ∈ ext) (hi : IntsAre us (toI p.2.2)) (h : TabAre ext vs t) :
    TabAre ext ((.int (p.1 : Int) k, .ref a) :: vs) (p :: t)
theorem TabAre.mono {ext ext' : List (Addr × Obj)} (hs : ∀ p ∈ ext, p ∈ ext') {vs : List (Value × Value)} {t : List (Nat × List Nat × List Nat)} (h : TabAre ext vs t) : TabAre ext' vs t := by
  induction h with
  | nil => exact .nil
  | cons p hm hi _ ih => exact .cons p (hs _ hm) hi ih
theorem TabAre.keys {ext : List (Addr × Obj)} {vs : List (Value × Value)} {t : List (Nat × List Nat × List Nat)} (h : TabAre ext vs t) : allIntKeys vs = true ∧ (intKeyPairs vs).map (·.1) = t.map fun p => (p.1 : Int) := by
  induction h with
  | nil => exact ⟨rfl, rfl⟩
  | cons p _ _ _ ih => exact ⟨ih.1, congrArg (List.cons (p.1 : Int)) ih.2⟩
theorem valueAt_cons {i : Int} {v : Value} {kvs : List (Int × Value)} (c : Int) : valueAt ((i, v) :: kvs) c = if i = c then some v else valueAt kvs c := by
  show Option.map (·.2) (List.find? (fun kv : Int × Value => decide (kv.1 = c)) ((i, v) :: kvs)) = _
  rw [List.find?_cons]
  by_cases h : i = c
  · rw [if_pos h]; dsimp only; rw [decide_eq_true h]; rfl
  · rw [if_neg h]; dsimp only; rw [decide_eq_false h]; rfl
theorem TabAre.tab {ext : List (Addr × Obj)} {vs : List (Value × Value)} {t : List (Nat × List Nat × List Nat)} (h : TabAre ext vs t) : DTab (intKeyPairs vs) ext (lk t) := by
  induction h with
  | nil => exact fun _ => And.intro (fun _ => rfl) (fun _ h => nomatch h)
  | @cons p k a us cnt vs t hm hi _ ih =>
    intro c
    have e2 : valueAt (intKeyPairs ((Value.int (p.1 : Int) k, Value.ref a) :: vs)) (c : Int) = if (p.1 : Int) = (c : Int) then some (Value.ref a) else valueAt (intKeyPairs vs) (c : Int) := valueAt_cons _
    by_cases e : c = p.1
    · have e1 : lk (p :: t) c = some p.2.2 := if_pos e
      rw [if_pos (by rw [e])] at e2
      rw [e1, e2]
      exact ⟨fun h => (nomatch h), fun r hr => ⟨a, us, cnt, rfl, hm, Option.some.inj hr ▸ hi⟩⟩
    · have e1 : lk (p :: t) c = lk t c := if_neg e
      rw [if_neg (show ¬ (p.1 : Int) = (c : Int) from fun h => e (Int.ofNat.inj h).symm)] at e2
      rw [e1, e2]
      exact ih c
inductive All2 {α β : Type} (R : α → β → Prop) : List α → List β → Prop where
  | nil : All2 R [] []
  | cons {a : α} {b : β} {as : List α} {bs : List β} (h : R a b) (t : All2 R as bs) : All2 R (a :: as) (b :: bs)
theorem All2.len {α β : Type} {R : α → β → Prop} {as : List α} {bs : List β} (h : All2 R as bs) : as.length = bs.length := by
  induction h with
  | nil => rfl
  | cons _ _ ih => exact congrArg Nat.succ ih
theorem All2.get {α β : Type} {R : α → β → Prop} {as : List α} {bs : List β} (h : All2 R as bs) : ∀ {k : Nat} {b : β}, bs[k]? = some b → ∃ a, as[k]? = some a ∧ R a b := by
  induction h with
  | nil => intro k b e; cases e
  | @cons a b _ _ h _ ih =>
    intro k b' e
    cases k with
    | zero => exact ⟨a, rfl, Option.some.inj e ▸ h⟩
    | succ k => exact ih e
section
variable {prog : Program} {w : World} {A : Around} {E : Value → Shared → Prop} {env : Env} {pos : Pos} {h₀ : Heap} {L : Addr} {m : Str → Option Value}
theorem pairsTab {ks : List (Option PySem.Expr)} {es : List PySem.Expr} {t : List (Nat × List Nat × List Nat)} (I : TabEs ks es t) : ∀ (s : Shared) (all : List (Addr × Obj)) (Q : List (Value × Value) → Shared → Prop), Fr h₀ L s.heap m → News h₀ L s.heap all →
    (∀ vs h' tk own, Fr h₀ L h' m → News h₀ L h' (own ++ all) → (∀ p ∈ own, ∀ q ∈ all, q.1 < p.1) → TabAre own vs t → Q vs { s with heap := h', toks := tk }) →
    wpAny (model prog w) A (evalPairs (pairTrees ks es env pos)) Q E s := by
  induction I with
  | nil => intro s all Q F N h; exact pairTrees_nil_walk (h [] _ _ [] F N (fun _ hp => nomatch hp) .nil)
  | @cons p z k q q' es ks vs t hz I hl _ ih =>
    intro s all Q F N h
    refine pairTrees_cons_walk (wpAny_Constant_int ?_)
    refine evalInts (s := { s with toks := s.toks + 1 }) I F N hl fun D us h' tk F' N' lt hi => ?_
    refine ih _ ((D, listOf (List.toArray us) 0) :: all) _ F' N' fun vs h2 tk2 own F2 N2 hlt hT => ?_
    refine h _ h2 tk2 (own ++ [(D, listOf (List.toArray us) 0)]) F2 (by rw [List.append_assoc]; exact N2) (fun a ha b hb => ?_) (hz ▸ .cons p (List.mem_append_right _ List.mem_cons_self) hi (hT.mono fun a ha => List.mem_append_left _ ha))
    rcases List.mem_append.mp ha with ha | ha
    · exact hlt a ha b (List.mem_cons_of_mem _ hb)
    · rw [List.mem_singleton.mp ha]; exact lt b hb
theorem TabEs.len {ks : List (Option PySem.Expr)} {es : List PySem.Expr} {t : List (Nat × List Nat × List Nat)} (I : TabEs ks es t) : ks.all (·.isSome) = true ∧ ks.length = es.length ∧ ks.length = t.length := by
  induction I with
  | nil => exact ⟨rfl, rfl, rfl⟩
  | cons _ _ _ _ ih => exact ⟨ih.1, congrArg Nat.succ ih.2.1, congrArg Nat.succ ih.2.2⟩
theorem updApp {d : Addr} {o : Obj} {all : List (Addr × Obj)} (ha : ∀ p ∈ all, p.1 < d) : ∀ {own : List (Addr × Obj)}, (∀ p ∈ own, d < p.1) → UpdF d o (own ++ (d, o) :: all) (fun o' => own ++ (d, o') :: all)
  | [], _ => .head fun p hp => Nat.ne_of_lt (ha p hp)
  | p :: own, h => .tail (Nat.ne_of_gt (h p List.mem_cons_self)) (updApp ha fun q hq => h q (List.mem_cons_of_mem _ hq))
def DictAt (prog : Program) (w : World) (ext : List (Addr × Obj)) (v : Value) (t : List (Nat × List Nat × List Nat)) : Prop :=
  ∃ d ok kvs, v = .ref d ∧ (d, ok) ∈ ext ∧ Obj.IsDictOf (intKind prog w) ok kvs ∧ (d == sysModules) = false ∧ DTab kvs ext (lk t)
theorem DTab.mono {kvs : List (Int × Value)} {ext ext' : List (Addr × Obj)} {f : Nat → Option (List Nat)} (hs : ∀ p ∈ ext, p ∈ ext') (h : DTab kvs ext f) : DTab kvs ext' f := fun c =>
  ⟨(h c).1, fun r hr => let ⟨a, us, n, hv, hm, hi⟩ := (h c).2 r hr; ⟨a, us, n, hv, hs _ hm, hi⟩⟩
theorem evalTab {s : Shared} {all : List (Addr × Obj)} {Q : Value → Shared → Prop} {ks : List (Option PySem.Expr)} {es : List PySem.Expr} {t : List (Nat × List Nat × List Nat)} (I : TabEs ks es t) (h0 : t ≠ []) (hn : t.length ≤ 15) (hd : (t.map fun p => (p.1 : Int)).Nodup)
    (F : Fr h₀ L s.heap m) (N : News h₀ L s.heap all) (hbig : h₀.NoLimit)
    (h : ∀ v h' tk ext, Fr h₀ L h' m → News h₀ L h' ext → (∀ p ∈ all, p ∈ ext) → DictAt prog w ext v t → Q v { s with heap := h', toks := tk }) :
    wpAny (model prog w) A (eval (.Dict ks es pos) env) Q E s := by
  obtain ⟨ha, hl, hL⟩ := I.len
  refine kdn_eval (knd := intKind prog w) F N hbig ha hl (fun e => h0 (List.length_eq_zero_iff.mp (by rw [← hL, e]; rfl))) (hL ▸ hn) fun d h' o F' N' lt lo ho => ?_
  refine pairsTab I _ _ _ F' N' fun vs h2 tk own F2 N2 hlt hT => ?_
  refine kdn_made_int F2 N2 (updApp lt fun p hp => hlt p hp _ List.mem_cons_self) ho hT.keys.1 (by rw [hT.keys.2]; exact hd) fun h3 o3 F3 N3 hd3 => ?_
  exact h _ h3 _ (own ++ (d, o3) :: all) F3 N3 (fun p hp => List.mem_append_right _ (List.mem_cons_of_mem _ hp)) ⟨d, o3, _, rfl, List.mem_append_right _ List.mem_cons_self, hd3, lo, hT.tab.mono fun p hp => List.mem_append_left _ hp⟩
theorem DictAt.mono {ext ext' : List (Addr × Obj)} (hs : ∀ p ∈ ext, p ∈ ext') {v : Value} {t : List (Nat × List Nat × List Nat)} (h : DictAt prog w ext v t) : DictAt prog w ext' v t :=
  let ⟨d, ok, kvs, e, hm, hd, lo, hT⟩ := h; ⟨d, ok, kvs, e, hs _ hm, hd, lo, hT.mono hs⟩
theorem splicedDicts {es : List PySem.Expr} {ts : List (List (Nat × List Nat × List Nat))} (I : DictsEs es ts) (hbig : h₀.NoLimit) : ∀ (s : Shared) (all : List (Addr × Obj)) (Q : List Value → Shared → Prop), (∀ t ∈ ts, t ≠ [] ∧ t.length ≤ 15 ∧ (t.map fun p => (p.1 : Int)).Nodup) → Fr h₀ L s.heap m → News h₀ L s.heap all →
    (∀ vs h' tk ext, Fr h₀ L h' m → News h₀ L h' ext → (∀ p ∈ all, p ∈ ext) → All2 (DictAt prog w ext) vs ts → Q vs { s with heap := h', toks := tk }) →
    wpAny (model prog w) A (spliced (backTo pos (starEach es env))) Q E s := by
  induction I with
  | nil => intro s all Q _ F N h; exact spliced_none (h [] _ s.toks _ F N (fun _ h => h) .nil)
  | cons I _ ih =>
    intro s all Q ht F N h
    obtain ⟨a, b, c⟩ := ht _ List.mem_cons_self
    refine spliced_more (evalTab I a b c F N hbig fun v h1 tk1 e1 F1 N1 hs1 hv => ?_) rfl
    refine ih _ _ _ (fun t h => ht t (List.mem_cons_of_mem _ h)) F1 N1 fun vs h2 tk2 e2 F2 N2 hs2 hvs => ?_
    exact h _ _ _ _ F2 N2 (fun p hp => hs2 p (hs1 p hp)) (.cons (hv.mono hs2) hvs)
theorem evalDicts {s : Shared} {all : List (Addr × Obj)} {Q : Value → Shared → Prop} {es : List PySem.Expr} {ts : List (List (Nat × List Nat × List Nat))} (I : DictsEs es ts) (hbig : h₀.NoLimit) (ht : ∀ t ∈ ts, t ≠ [] ∧ t.length ≤ 15 ∧ (t.map fun p => (p.1 : Int)).Nodup) (hl : ts.length ≤ 1000)
    (F : Fr h₀ L s.heap m) (N : News h₀ L s.heap all)
    (h : ∀ D vs h' tk ext, Fr h₀ L h' m → News h₀ L h' ((D, listOf (List.toArray vs) 0) :: ext) → (∀ p ∈ all, p ∈ ext) → All2 (DictAt prog w ext) vs ts → Q (.ref D) { s with heap := h', toks := tk }) :
    wpAny (model prog w) A (eval (.List es pos) env) Q E s := by
  refine List_ (splicedDicts I hbig _ _ _ ht F N fun vs h1 tk ext F1 N1 hs hv => ?_)
  refine newList_K F1 N1 (fun l h2 F2 N2 hl => h l vs h2 _ ext F2 N2 hs hv) ?_
  have h1 := hv.len
  rw [sizeLine_eq]; omega
end
end Mine
end
section
open PySem PySem.W PyProof.Rows PySem.Calls
set_option Elab.async false
set_option maxRecDepth 100000
set_option maxHeartbeats 1000000
namespace Mine
open LCg (lst lst_snoc)
section
variable {prog : Program} {w : World} {A : Around} {R : Result → Shared → Prop}
theorem turn_one (elt it1 it2 : Expr) (x y : Str) (px py : Pos) (scope : Scope) (pos : Pos) (it acc : Value) (env : Env) :
    compTurn (.ListComp elt [⟨.Name x px, it1, [], 0⟩, ⟨.Name y py, it2, [], 0⟩] scope pos) 1 it acc env = (standAt it2.pos >>= fun _ => pyNext it >>= fun r => match r with
      | none => pure (.done .next)
      | some v => letOwnedTupleGo (.Name y py) it v >>= fun _ => assign (.Name y py) env v >>= fun _ =>
        (eval elt env >>= fun x => call (.builtin "list.append") [acc, x] >>= fun _ => pure ()) >>= fun _ =>
          again (.compLoop (.ListComp elt [⟨.Name x px, it1, [], 0⟩, ⟨.Name y py, it2, [], 0⟩] scope pos) 1 it acc env)) := by rfl
theorem turn_zero (elt it1 it2 : Expr) (x y : Str) (px py : Pos) (scope : Scope) (pos : Pos) (it acc : Value) (env : Env) :
    compTurn (.ListComp elt [⟨.Name x px, it1, [], 0⟩, ⟨.Name y py, it2, [], 0⟩] scope pos) 0 it acc env = (standAt it1.pos >>= fun _ => pyNext it >>= fun r => match r with
      | none => pure (.done .next)
      | some v => letOwnedTupleGo (.Name x px) it v >>= fun _ => assign (.Name x px) env v >>= fun _ =>
        eval it2 env >>= fun xv => standAt it2.pos >>= fun _ => foldedSetIterable it2 env xv >>= fun xv => holding [xv] (pyIter xv) >>= fun i2 =>
           runOwn (.compStart (.ListComp elt [⟨.Name x px, it1, [], 0⟩, ⟨.Name y py, it2, [], 0⟩] scope pos) 1 i2 acc env) env >>= fun _ =>
          again (.compLoop (.ListComp elt [⟨.Name x px, it1, [], 0⟩, ⟨.Name y py, it2, [], 0⟩] scope pos) 0 it acc env)) := by rfl

theorem strs_snoc {y : Str} {t : Tok} : ∀ {vs : List Value} {ys : List Str}, StrsAre vs ys → StrsAre (vs ++ [.str y t]) (ys ++ [y])
  | _, _, .nil => .cons y t .nil
  | _, _, .cons z u r => .cons z u (strs_snoc r)
theorem strs_app : ∀ {vs ws : List Value} {ys zs : List Str}, StrsAre vs ys → StrsAre ws zs → StrsAre (vs ++ ws) (ys ++ zs)
  | _, _, _, _, .nil, h => h
  | _, _, _, _, .cons z u r, h => .cons z u (strs_app r h)

theorem inner {elt it1 it2 : Expr} {x y : Str} {px py : Pos} {scope : Scope} {pos : Pos} {cenv : Env} {I2 ax2 D : Addr} {us : List Value} {ks : List Int} {ys : List Value} {m : Str → Option Value} {s : Shared} (f : Int → Str)
    (hh : A.handled = none) (hit : s.heap.IsListIter I2 ax2 0) (hl : s.heap.IsList ax2 us.toArray) (hi : IntsAre us ks)
    (hD : s.heap.get? D = some (lst ys)) (hn : s.heap.Ns cenv.locals m)
    (hIC : I2 ≠ cenv.locals) (hID : I2 ≠ D) (hIa : ax2 ≠ I2) (haD : ax2 ≠ D) (haC : ax2 ≠ cenv.locals) (hDC : D ≠ cenv.locals)
    (hy : cenv.kindOf y = some .local) (hp : (cenv.scope.kind == .class || (cenv.scope.kind == .module && cenv.locals != cenv.globals)) = false)
    (helt : ∀ (s' : Shared) m' k t (E' : Value → Shared → Prop), k ∈ ks → s'.heap.Ns cenv.locals m' → m' y = some (.int k t) → (∀ b o, b ≠ cenv.locals → b ≠ I2 → b ≠ D → s.heap.get? b = some o → s'.heap.get? b = some o) →
      wpAny (model prog w) A (eval elt cenv) (fun r s'' => ∃ tk t', s'' = { s' with toks := tk } ∧ r = .str (f k) t') E' s')
    (hsz : ys.length + us.length ≤ sizeLine)
    (hR : ∀ h' tk m' zs, StrsAre zs (ks.map f) → h'.get? D = some (lst (ys ++ zs)) → h'.Ns cenv.locals m' → (∀ b o, b ≠ cenv.locals → b ≠ I2 → b ≠ D → s.heap.get? b = some o → h'.get? b = some o) → R (.ok .next) { s with heap := h', toks := tk }) :
    codeAny (model prog w) A (.compLoop (.ListComp elt [⟨.Name x px, it1, [], 0⟩, ⟨.Name y py, it2, [], 0⟩] scope pos) 1 (.ref I2) (.ref D) cenv) R s := by
  refine codeAny_loop rfl (fun n s' => ∃ h' tk i m' zs, s' = { s with heap := h', toks := tk } ∧ i ≤ us.length ∧ n = us.length + 1 - i ∧ zs.length = i ∧ StrsAre zs ((ks.take i).map f) ∧
    h'.IsListIter I2 ax2 i ∧ h'.IsList ax2 us.toArray ∧ h'.get? D = some (lst (ys ++ zs)) ∧ h'.Ns cenv.locals m' ∧ (∀ b o, b ≠ cenv.locals → b ≠ I2 → b ≠ D → s.heap.get? b = some o → h'.get? b = some o)) (fun n s' hI => ?_) (us.length + 1)
    ⟨s.heap, s.toks, 0, m, [], rfl, Nat.zero_le _, rfl, rfl, by simpa using StrsAre.nil, hit, hl, by simpa using hD, hn, fun _ _ _ _ _ e => e⟩
  obtain ⟨h', tk, i, m', zs, rfl, hi1, rfl, hz, hzs, hit', hl', hD', hn', keep⟩ := hI
  show wpAny _ A ((compTurn _ 1 (.ref I2) (.ref D) cenv).onRaise (fun x => do noteFrame x cenv; theTreesLotGoes x)) _ _ _
  refine wpAny_noted ?_
  rw [turn_one]
  refine wpAny_bind (wpAny_standAt (wpAny_bind ?_))
  by_cases hlt : i < us.length
  · have hv : us.toArray[i]? = some us[i] := by simp [hlt]
    obtain ⟨k, t, hk, hk'⟩ := hi.at i us[i] (by simp [hlt])
    refine wpAny_pyNext_list_item hit' hl' hv fun h₁ hit₁ hs₁ => ?_
    show wpAny _ _ (letOwnedTupleGo (.Name y py) (.ref I2) us[i] >>= _) _ _ _
    refine wpAny_bind (wpAny_of_eq (show letOwnedTupleGo (.Name y py) (.ref I2) us[i] = pure () from rfl) ?_)
    refine wpAny_bind (wpAny_assign_Name (wpAny_storeName_local hy (hn'.sameBut hs₁ (Ne.symm hIC)) (fun h₂ hn₂ hs₂ => ?_) hp))
    have up : ∀ b o, b ≠ cenv.locals → b ≠ I2 → h'.get? b = some o → h₂.get? b = some o := fun b o h1 h2 e => hs₂.extBut b o h1 (hs₁.extBut b o h2 e)
    refine wpAny_bind (wpAny_bind (wpAny_mono (helt { s with heap := h₂, toks := tk + 1 } _ k t _ (List.mem_of_getElem? hk') hn₂ (by simp [hk]) fun b o h1 h2 h3 e => up b o h1 h2 (keep b o h1 h2 h3 e)) (fun r s'' hr => ?_) fun _ _ e => e))
    obtain ⟨tk', t', rfl, rfl⟩ := hr
    refine wpAny_bind (append_at (hsz := by show (ys ++ zs).toArray.size ≤ sizeLine; rw [List.size_toArray, List.length_append]; (first | lia | omega)) (up D _ hDC (Ne.symm hID) hD') fun h₃ hs₃ hD₃ => ?_)
    refine wpAny_pure (wpAny_pure ⟨rfl, us.length + 1 - (i + 1), by (first | lia | omega), h₃, tk', i + 1, _, zs ++ [.str (f k) t'], rfl, hlt, rfl, by simp [hz], ?_, ?_, ?_, ?_, hn₂.sameBut hs₃ (Ne.symm hDC), fun b o h1 h2 h3 e => hs₃.extBut b o h3 (up b o h1 h2 (keep b o h1 h2 h3 e))⟩)
    · rw [List.take_add_one, hk']
      simpa using strs_snoc hzs
    · exact (hit₁.at fun o e => hs₃.extBut _ _ hID (hs₂.extBut _ _ hIC e))
    · exact ((hl'.at fun o e => hs₃.extBut _ _ haD (up _ _ haC hIa e)))
    · rw [hD₃, lst_snoc, List.append_assoc]
  · have e : i = us.length := by (first | lia | omega)
    subst e
    refine wpAny_pyNext_list_end hh hit' hl' (by simp) fun h₁ hs₁ => ?_
    refine wpAny_pure (hR h₁ tk m' zs (by rw [hi.length, List.take_length] at hzs; exact hzs) (hs₁ D _ (Ne.symm hID) hD') (hn'.at' fun o e => hs₁ _ _ (Ne.symm hIC) e) fun b o h1 h2 h3 e => hs₁ b o h2 (keep b o h1 h2 h3 e))

theorem start_one {elt it1 it2 : Expr} {x y : Str} {px py : Pos} {scope : Scope} {pos : Pos} {it acc : Value} {env : Env} {s : Shared}
    (h0 : codeAny (model prog w) A (.compLoop (.ListComp elt [⟨.Name x px, it1, [], 0⟩, ⟨.Name y py, it2, [], 0⟩] scope pos) 1 it acc env) R s)
    (h : wpAny (model prog w) A (pyIter it) (fun it' s' => codeAny (model prog w) A (.compLoop (.ListComp elt [⟨.Name x px, it1, [], 0⟩, ⟨.Name y py, it2, [], 0⟩] scope pos) 1 it' acc env) R s')
      (notedBy (model prog w) A env fun x s' => R (.error x) s') s) :
    codeAny (model prog w) A (.compStart (.ListComp elt [⟨.Name x px, it1, [], 0⟩, ⟨.Name y py, it2, [], 0⟩] scope pos) 1 it acc env) R s := by
  refine codeAny_of_tree ?_
  show wpAny _ _ ((compStart (.ListComp elt [⟨.Name x px, it1, [], 0⟩, ⟨.Name y py, it2, [], 0⟩] scope pos) 1 it acc env).onRaise (fun x => do noteFrame x env; standAt theWindowsPlace)) _ _ s
  refine wpAny_notedAt ?_
  unfold compStart
  show wpAny _ _ (ask >>= _) _ _ s
  refine wpAny_bind (wpAny_askSetting (wpAny_ite ?_))
  split
  · first
      | exact wpAny_bind (wpAny_pure (wpAny_pure (And.intro rfl h0)))
      | exact wpAny_pure (And.intro rfl h0)
  · first
      | exact wpAny_bind (wpAny_rule (wpAny_bind (wpAny_standAt (wpAny_bind (wpAny_mono h (fun it' s' h' => wpAny_pure (And.intro rfl h')) fun _ _ x => x)))))
      | (refine wpAny_bind (wpAny_rule ?_); show wpAny _ _ (standAt it2.pos >>= _) _ _ s; exact wpAny_bind (wpAny_standAt (wpAny_bind (wpAny_mono h (fun it' s' h' => wpAny_pure (And.intro rfl h')) fun _ _ x => x))))
theorem fr_ge {h₀ h h' : Heap} {L I : Addr} {m : Str → Option Value} (F : Fr h₀ L h m) (hL : L < I) (h0 : ∀ b o, h₀.get? b = some o → b < I) (k : ∀ b o, b < I → h.get? b = some o → h'.get? b = some o) : Fr h₀ L h' m :=
  ⟨F.ns.at' fun o e => k L o hL e, fun b o e => k b o (h0 b o e) (F.keep b o e), F.above⟩
theorem news_ge {h₀ h h' : Heap} {L I : Addr} {news : List (Addr × Obj)} (N : News h₀ L h news) (hn : ∀ p ∈ news, p.1 < I) (k : ∀ b o, b < I → h.get? b = some o → h'.get? b = some o) : News h₀ L h' news :=
  fun p hp => ⟨k _ _ (hn p hp) (N p hp).1, (N p hp).2⟩
theorem news_cons {h₀ h : Heap} {L a : Addr} {o : Obj} {news : List (Addr × Obj)} (N : News h₀ L h news) (e : h.get? a = some o) (h1 : a ≠ L) (h2 : h₀.get? a = none) : News h₀ L h ((a, o) :: news) := fun p hp => by
  rcases List.mem_cons.mp hp with rfl | hp
  · exact ⟨e, h1, h2⟩
  · exact N p hp
theorem flat_take {α : Type} (g : Int → List α) (l : List Int) (i : Nat) (k : Int) (h : l[i]? = some k) : (l.take (i + 1)).flatMap g = (l.take i).flatMap g ++ g k := by
  rw [List.take_add_one, h]; simp

theorem nested {E : Value → Shared → Prop} {Q : Value → Shared → Prop} {env : Env} {h₀ : Heap} {L ax : Addr} {mm : Str → Option Value} {s : Shared} {elt it1 it2 : Expr} {x y : Str} {px py : Pos} {scope : Scope} {cl : List (Str × Addr)} {pos : Pos} {vs : List Value} {ns : List Int} {cn : Nat}
    {news : List (Addr × Obj)} (g : Int → List Int) (f : Int → Str) (F₀ : Fr h₀ L s.heap mm) (N₀ : News h₀ L s.heap news) (hh : A.handled = none)
    (hclos : closureFor scope env = pure cl) (hcell : ∀ z ∈ scope.names, z.2 ≠ .cell) (hkind : scope.kind = .function)
    (hnames : ∀ z ∈ scope.names, z.2 = .local → scope.names.lookup z.1 = some .local) (hx : scope.names.lookup x = some .local) (hy : scope.names.lookup y = some .local)
    (hsrc : wpAny (model prog w) A (eval it1 env) (fun r s' => r = .ref ax ∧ ∃ h tk, s' = { s with heap := h, toks := tk } ∧ Fr h₀ L h mm ∧ News h₀ L h news) E s)
    (hm : (ax, listOf vs.toArray cn) ∈ news) (hi : IntsAre vs ns) (hlen : (ns.flatMap g).length ≤ 100000)
    (hs1 : ∀ x, foldedSetIterable it1 env x = pure x) (hs2 : ∀ x e, foldedSetIterable it2 e x = pure x)
    (hit2 : ∀ k t I oI C oC D m₂ zs h tk (E' : Value → Shared → Prop), k ∈ ns → LCg.NsObj oC m₂ → m₂ x = some (.int k t) → Fr h₀ L h mm → News h₀ L h ((I, oI) :: (C, oC) :: (D, lst zs) :: news) →
      wpAny (model prog w) A (eval it2 (compEnvC scope cl C env)) (fun r s₂ => ∃ Dl us c h' tk', r = .ref Dl ∧ s₂ = { s with heap := h', toks := tk' } ∧ Fr h₀ L h' mm ∧
        News h₀ L h' ((Dl, listOf us.toArray c) :: (I, oI) :: (C, oC) :: (D, lst zs) :: news) ∧ (∀ p ∈ (I, oI) :: (C, oC) :: (D, lst zs) :: news, p.1 < Dl) ∧ IntsAre us (g k)) E' { s with heap := h, toks := tk })
    (helt2 : ∀ n C oC m₂ k t (s' : Shared) (E' : Value → Shared → Prop), n ∈ ns → k ∈ g n → LCg.NsObj oC m₂ → m₂ y = some (.int k t) → Fr h₀ L s'.heap mm → News h₀ L s'.heap [(C, oC)] →
      wpAny (model prog w) A (eval elt (compEnvC scope cl C env)) (fun r s₂ => ∃ tk' t', s₂ = { s' with toks := tk' } ∧ r = .str (f k) t') E' s')
    (hQ : ∀ D zs h tk, Fr h₀ L h mm → News h₀ L h ((D, lst zs) :: news) → StrsAre zs ((ns.flatMap g).map f) → Q (.ref D) { s with heap := h, toks := tk }) :
    wpAny (model prog w) A (eval (.ListComp elt [⟨.Name x px, it1, [], 0⟩, ⟨.Name y py, it2, [], 0⟩] scope pos) env) Q E s := by
  rw [eval_ListComp]
  refine wpAny_comprehension_free (use := none) rfl hs1 hclos hkind hnames (wpAny_mono hsrc (fun xv s₁ h₁ => ?_) fun _ _ e => e)
  obtain ⟨rfl, h1, tk1, rfl, F, N⟩ := h₁
  have hl : h1.IsList ax vs.toArray := ⟨_, (N _ hm).1, rfl, _, rfl⟩
  have hlt : ax < h1.objs.size := by obtain ⟨_, e, _⟩ := hl; exact Heap.lt_size e
  refine wpAny_pyIter_list hl ?_
  generalize hH1 : h1.push { cls := .type "list_iterator", data := .fields #[.ref ax, .int 0 0] } = H1
  have up1 : ∀ b o, h1.get? b = some o → H1.get? b = some o := fun b o e => hH1 ▸ Heap.get?_push_of_some _ e
  have sz1 : H1.objs.size = h1.objs.size + 1 := by rw [← hH1, Heap.size_push]
  have itI : H1.get? h1.objs.size = some { cls := .type "list_iterator", data := .fields #[.ref ax, .int 0 0] } := hH1 ▸ Heap.get?_push_size _ rfl
  have hLt : L < h1.objs.size := F.ns.lt
  have h0t : ∀ b o, h₀.get? b = some o → b < h1.objs.size := fun b o e => Heap.lt_size (F.keep b o e)
  have hnt : ∀ p ∈ news, p.1 < h1.objs.size := fun p hp => Heap.lt_size (N p hp).1
  generalize hI : h1.objs.size = I at sz1 itI hLt h0t hnt hlt
  have fresh₀ : ∀ a, I ≤ a → h₀.get? a = none := fun a ha => by
    cases e : h₀.get? a with
    | none => rfl
    | some o => exact absurd (h0t a o e) (Nat.not_lt.mpr ha)
  refine wpAny_newObj_type (wpAny_newFunctionEnv hcell (by intro y hy; simp at hy) (fun h₃ hns₃ hsb₃ => ?_) hkind)
  dsimp only at hns₃ hsb₃ ⊢
  generalize hH2 : H1.push { cls := .type "list", dict := none, data := .seq ([] : List Value).toArray } = H2 at hns₃ hsb₃ ⊢
  have sz2 : H2.objs.size = I + 2 := by rw [← hH2, Heap.size_push, sz1]
  have hDv : H1.objs.size = I + 1 := sz1
  rw [hDv]
  rw [sz2] at hns₃ hsb₃ ⊢
  have itD : H2.get? (I + 1) = some (lst []) := by rw [← hDv, ← hH2]; exact Heap.get?_push_size _ rfl
  have k12 : ∀ b o, H1.get? b = some o → H2.get? b = some o := fun b o e => hH2 ▸ Heap.get?_push_of_some _ e
  have k3 : ∀ b o, b ≠ I + 2 → H2.get? b = some o → h₃.get? b = some o := fun b o h e => hsb₃.extBut b o h (Heap.get?_push_of_some _ e)
  have kk : ∀ b o, b < I → h1.get? b = some o → h₃.get? b = some o := fun b o h e => k3 b o (by (first | lia | omega)) (k12 b o (up1 b o e))
  have loop : ∀ s₃ : Shared, s₃ = { s with heap := h₃, toks := tk1 + ([] : List (Str × Value)).length } →
      codeAny (model prog w) A (.compLoop (.ListComp elt [⟨.Name x px, it1, [], 0⟩, ⟨.Name y py, it2, [], 0⟩] scope pos) 0 (.ref I) (.ref (I + 1)) (compEnvC scope cl (I + 2) env)) (compPost (model prog w) A E none Q (.ref (I + 1)) (I + 2)) s₃ := by
    rintro s₃ rfl
    refine codeAny_loop rfl (fun n s' => ∃ h' tk i m' zs, s' = { s with heap := h', toks := tk } ∧ i ≤ vs.length ∧ n = vs.length + 1 - i ∧ StrsAre zs (((ns.take i).flatMap g).map f) ∧
      h'.IsListIter I ax i ∧ Fr h₀ L h' mm ∧ h'.Ns (I + 2) m' ∧ News h₀ L h' ((I + 1, lst zs) :: news)) (fun n s' hI => ?_) (vs.length + 1)
      ⟨h₃, _, 0, _, [], rfl, Nat.zero_le _, rfl, by simpa using StrsAre.nil, ⟨_, k3 _ _ (by (first | lia | omega)) (k12 _ _ itI), rfl, rfl⟩, fr_ge F hLt h0t kk, hns₃, news_cons (news_ge N hnt kk) (k3 _ _ (Nat.ne_of_lt (Nat.lt_succ_self _)) itD) (Nat.ne_of_gt (Nat.lt_succ_of_lt hLt)) (fresh₀ _ (Nat.le_succ _))⟩
    obtain ⟨h', tk, i, m', zs, rfl, hi1, rfl, hzs, hit', F', hn', N'⟩ := hI
    show wpAny _ A ((compTurn _ 0 (.ref I) (.ref (I + 1)) (compEnvC scope cl (I + 2) env)).onRaise (fun x => do noteFrame x (compEnvC scope cl (I + 2) env); theTreesLotGoes x)) _ _ _
    refine wpAny_noted ?_
    rw [turn_zero]
    have hl' : h'.IsList ax vs.toArray := ⟨_, (N' _ (List.mem_cons_of_mem _ hm)).1, rfl, _, rfl⟩
    refine wpAny_bind (wpAny_standAt (wpAny_bind ?_))
    by_cases hlt1 : i < vs.length
    · have hv : vs.toArray[i]? = some vs[i] := by simp [hlt1]
      obtain ⟨k, t, hk, hk'⟩ := hi.at i vs[i] (by simp [hlt1])
      refine wpAny_pyNext_list_item hit' hl' hv fun h₁ hit₁ hs₁ => ?_
      show wpAny _ _ (letOwnedTupleGo (.Name x px) (.ref I) vs[i] >>= _) _ _ _
      refine wpAny_bind (wpAny_of_eq (show letOwnedTupleGo (.Name x px) (.ref I) vs[i] = pure () from rfl) ?_)
      refine wpAny_bind (wpAny_assign_Name (wpAny_storeName_local (lookup_relabel_local hx) (hn'.sameBut hs₁ (Nat.ne_of_gt (Nat.lt_succ_of_lt (Nat.lt_succ_self _)))) (fun h₂ hn₂ hs₂ => ?_) (by simp [compEnvC, relabel, hkind])))
      have kI : ∀ b o, b < I → h'.get? b = some o → h₂.get? b = some o := fun b o hb e => hs₂.extBut b o (Nat.ne_of_lt (Nat.lt_succ_of_lt (Nat.lt_succ_of_lt hb))) (hs₁.extBut b o (Nat.ne_of_lt hb) e)
      have F₂ : Fr h₀ L h₂ mm := fr_ge F' hLt h0t kI
      obtain ⟨oI, heI, hoI⟩ := hit₁
      obtain ⟨oC, heC, hoC⟩ := LCg.ns_obj hn₂
      have heD := (N' (I + 1, lst zs) List.mem_cons_self).1
      have N₂ : News h₀ L h₂ ((I, oI) :: (I + 2, oC) :: (I + 1, lst zs) :: news) :=
        news_cons (news_cons (news_cons (news_ge (fun p hp => N' p (List.mem_cons_of_mem _ hp)) hnt kI) (hs₂.extBut _ _ (Nat.ne_of_lt (Nat.lt_succ_self _)) (hs₁.extBut _ _ (Nat.ne_of_gt (Nat.lt_succ_self _)) heD)) (Nat.ne_of_gt (Nat.lt_succ_of_lt hLt)) (fresh₀ _ (Nat.le_succ _)))
          heC (Nat.ne_of_gt (Nat.lt_succ_of_lt (Nat.lt_succ_of_lt hLt))) (fresh₀ _ (Nat.le_succ_of_le (Nat.le_succ _)))) (hs₂.extBut _ _ (Nat.ne_of_lt (Nat.lt_succ_of_lt (Nat.lt_succ_self _))) heI) (Nat.ne_of_gt hLt) (fresh₀ _ (Nat.le_refl _))
      have hkm := List.mem_of_getElem? hk'
      refine wpAny_bind (wpAny_mono (hit2 k t I oI (I + 2) oC (I + 1) _ zs h₂ _ _ hkm hoC (by simp [hk]) F₂ N₂) (fun r s₄ h₄ => ?_) fun _ _ e => e)
      obtain ⟨Dl, us, c, h4, tk4, rfl, rfl, F₄, N₄, hlt4, hus⟩ := h₄
      refine wpAny_bind (wpAny_standAt (wpAny_bind (wpAny_of_eq (hs2 _ _) (wpAny_bind (wpAny_holding ?_)))))
      have hl4 : h4.IsList Dl us.toArray := ⟨_, (N₄ _ List.mem_cons_self).1, rfl, _, rfl⟩
      refine wpAny_pyIter_list hl4 ?_
      have hDl : Dl < h4.objs.size := by obtain ⟨_, e, _⟩ := hl4; exact Heap.lt_size e
      have hID : I < Dl := hlt4 _ List.mem_cons_self
      have hCD : I + 2 < Dl := hlt4 _ (List.mem_cons_of_mem _ List.mem_cons_self)
      have k5 : ∀ b o, h4.get? b = some o → (h4.push { cls := .type "list_iterator", data := .fields #[.ref Dl, .int 0 0] }).get? b = some o := fun b o e => Heap.get?_push_of_some _ e
      have it5 : (h4.push { cls := .type "list_iterator", data := .fields #[.ref Dl, .int 0 0] }).get? h4.objs.size = some { cls := .type "list_iterator", data := .fields #[.ref Dl, .int 0 0] } := Heap.get?_push_size _ rfl
      show wpAny _ _ (runOwn _ _ >>= _) _ _ { s with heap := (h4.push { cls := .type "list_iterator", data := .fields #[.ref Dl, .int 0 0] }), toks := tk4 }
      generalize h4.push { cls := .type "list_iterator", data := .fields #[.ref Dl, .int 0 0] } = h5 at k5 it5 ⊢
      generalize hI2 : h4.objs.size = I2 at hDl it5 ⊢
      have ne1 : I + 2 < I2 := Nat.lt_trans hCD hDl
      have hIt5 : h5.IsListIter I2 Dl 0 := ⟨_, it5, rfl, rfl⟩
      have hzl := hzs
      have lenz : zs.length = ((ns.take i).flatMap g).length := by rw [PyProof.Rows.StrsAre.length hzs, List.length_map]
      have hsum : ((ns.take (i + 1)).flatMap g).length ≤ (ns.flatMap g).length := by
        conv => rhs; rw [← List.take_append_drop (i + 1) ns]
        rw [List.flatMap_append, List.length_append]; exact Nat.le_add_right _ _
      rw [flat_take g ns i k hk', List.length_append, ← lenz, ← hus.length] at hsum
      have hInn : ∀ s5 : Shared, s5 = { s with heap := h5, toks := tk4 } → codeAny (model prog w) A (.compLoop (.ListComp elt [⟨.Name x px, it1, [], 0⟩, ⟨.Name y py, it2, [], 0⟩] scope pos) 1 (.ref I2) (.ref (I + 1)) (compEnvC scope cl (I + 2) env))
          (fun r s' => match r with | .ok _ => ∃ m, m < vs.length + 1 - i ∧ (∃ h' tk i m' zs, s' = { s with heap := h', toks := tk } ∧ i ≤ vs.length ∧ m = vs.length + 1 - i ∧ StrsAre zs (((ns.take i).flatMap g).map f) ∧
              h'.IsListIter I ax i ∧ Fr h₀ L h' mm ∧ h'.Ns (I + 2) m' ∧ News h₀ L h' ((I + 1, lst zs) :: news)) | .error e => False) s5 := by
        rintro s5 rfl
        refine inner f hh hIt5 (hl4.at fun o e => k5 _ o e) hus (k5 _ _ (N₄ (I + 1, lst zs) (by simp)).1) (hoC.ns (k5 _ _ (N₄ (I + 2, oC) (by simp)).1))
          (Nat.ne_of_gt ne1) (Nat.ne_of_gt (Nat.lt_of_succ_lt ne1)) (Nat.ne_of_lt hDl) (Nat.ne_of_gt (Nat.lt_of_succ_lt hCD)) (Nat.ne_of_gt hCD) (Nat.ne_of_lt (Nat.lt_succ_self _)) (lookup_relabel_local hy) (by simp [compEnvC, relabel, hkind])
          (fun s' m' k' t' E' hk1 hn1 hm1 keep1 => ?_) (by rw [sizeLine_eq]; (first | lia | omega)) (fun h6 tk6 m6 zs6 hz6 hD6 hn6 keep6 => ?_)
        · obtain ⟨oC', heC', hoC'⟩ := LCg.ns_obj hn1
          refine helt2 k (I + 2) oC' m' k' t' s' E' hkm hk1 hoC' hm1 ?_ (news_cons News.nil heC' (Nat.ne_of_gt (Nat.lt_succ_of_lt (Nat.lt_succ_of_lt hLt))) (fresh₀ _ (Nat.le_succ_of_le (Nat.le_succ _))))
          exact (fr_ge F₄ hLt h0t fun b o hb e => keep1 b o (Nat.ne_of_lt (Nat.lt_succ_of_lt (Nat.lt_succ_of_lt hb))) (Nat.ne_of_lt (Nat.lt_trans hb (Nat.lt_trans hID hDl))) (Nat.ne_of_lt (Nat.lt_succ_of_lt hb)) (k5 b o e))
        · have k6 : ∀ b o, b < I → h4.get? b = some o → h6.get? b = some o := fun b o hb e => keep6 b o (Nat.ne_of_lt (Nat.lt_succ_of_lt (Nat.lt_succ_of_lt hb))) (Nat.ne_of_lt (Nat.lt_trans hb (Nat.lt_trans hID hDl))) (Nat.ne_of_lt (Nat.lt_succ_of_lt hb)) (k5 b o e)
          refine ⟨vs.length + 1 - (i + 1), by (first | lia | omega), h6, tk6, i + 1, m6, zs ++ zs6, rfl, hlt1, rfl, ?_, ?_, fr_ge F₄ hLt h0t k6, hn6, ?_⟩
          · rw [flat_take g ns i k hk', List.map_append]; exact strs_app hzs hz6
          · exact ⟨oI, keep6 I oI (Nat.ne_of_lt (Nat.lt_succ_of_lt (Nat.lt_succ_self _))) (Nat.ne_of_lt (Nat.lt_trans hID hDl)) (Nat.ne_of_lt (Nat.lt_succ_self _)) (k5 _ _ (N₄ (I, oI) (by simp)).1), hoI⟩
          · exact news_cons (news_ge (fun p hp => N₄ p (by simp [hp])) hnt k6) hD6 (Nat.ne_of_gt (Nat.lt_succ_of_lt hLt)) (fresh₀ _ (Nat.le_succ _))
      refine wpAny_bind (wpAny_runOwn ?_)
      refine start_one (codeAny_mono (hInn _ rfl) fun r s' hr => ?_) (wpAny_pyIter_listiter hIt5 (codeAny_mono (hInn _ rfl) fun r s' hr => ?_))
      · cases r with
        | error e => exact hr.elim
        | ok fl => exact wpAny_pure ⟨rfl, hr⟩
      · cases r with
        | error e => exact hr.elim
        | ok fl => exact wpAny_pure ⟨rfl, hr⟩
    · have e : i = vs.length := by (first | lia | omega)
      subst e
      refine wpAny_pyNext_list_end hh hit' hl' (by simp) fun h₁ hs₁ => ?_
      refine wpAny_pure ⟨m', hn'.at' fun o e => hs₁ _ _ (Nat.ne_of_gt (Nat.lt_succ_of_lt (Nat.lt_succ_self _))) e, fun h'' hs'' => ?_⟩
      have k7 : ∀ b o, b < I → h'.get? b = some o → h''.get? b = some o := fun b o hb e => hs''.extBut b o (Nat.ne_of_lt (Nat.lt_succ_of_lt (Nat.lt_succ_of_lt hb))) (hs₁ b o (Nat.ne_of_lt hb) e)
      rw [hi.length, List.take_length] at hzs
      exact hQ (I + 1) zs h'' tk (fr_ge F' hLt h0t k7) (news_cons (news_ge (fun p hp => N' p (List.mem_cons_of_mem _ hp)) hnt k7) (hs''.extBut _ _ (Nat.ne_of_lt (Nat.lt_succ_self _)) (hs₁ _ _ (Nat.ne_of_gt (Nat.lt_succ_self _)) (N' (I + 1, lst zs) List.mem_cons_self).1)) (Nat.ne_of_gt (Nat.lt_succ_of_lt hLt)) (fresh₀ _ (Nat.le_succ _))) hzs
  refine codeAny_compStart_list (loop _ rfl) (wpAny_pyIter_listiter (i := 0) (l := ax) ⟨_, k3 _ _ (by (first | lia | omega)) (k12 _ _ itI), rfl, rfl⟩ (loop _ rfl))
end
end Mine
end
section
open PySem PySem.W PyProof.Rows PySem.Calls
set_option Elab.async false
set_option maxRecDepth 100000
set_option maxHeartbeats 1000000
namespace Mine
open LCg (lst lst_snoc)
section
variable {prog : Program} {w : World} {A : Around} {E : Value → Shared → Prop} {s : Shared} {h₀ : Heap} {L ax : Addr} {m : Str → Option Value} {env : Env} {ct elt it : Expr} {x : Str} {px : Pos} {scope : Scope} {cl : List (Str × Addr)} {pos : Pos} {Q : Value → Shared → Prop} {vs : List Value} {ns : List Int} {cn : Nat} {news : List (Addr × Obj)}

theorem filt (pz : Int → Bool) (g : Int → Int) (F₀ : Fr h₀ L s.heap m) (hh : A.handled = none)
    (hclos : closureFor scope env = pure cl) (hcell : ∀ y ∈ scope.names, y.2 ≠ .cell) (hkind : scope.kind = .function)
    (hnames : ∀ y ∈ scope.names, y.2 = .local → scope.names.lookup y.1 = some .local) (hx : scope.names.lookup x = some .local)
    (hsrc : wpAny (model prog w) A (eval it env) (fun r s' => r = .ref ax ∧ ∃ h tk, s' = { s with heap := h, toks := tk } ∧ Fr h₀ L h m ∧ News h₀ L h news) E s)
    (hm : (ax, listOf vs.toArray cn) ∈ news) (hi : IntsAre vs ns) (hsz : ns.length ≤ 100000) (hs : ∀ x, foldedSetIterable it env x = pure x)
    (htest : ∀ k t I oI C oC D m₂ ys h tk (E' : Value → Shared → Prop), k ∈ ns → LCg.NsObj oC m₂ → m₂ x = some (.int k t) → Fr h₀ L h m → News h₀ L h ((I, oI) :: (C, oC) :: (D, lst ys) :: news) →
      wpAny (model prog w) A (isTrue ct (compEnvC scope cl C env) (eval ct (compEnvC scope cl C env))) (fun ok s' => Halt (ok = pz k ∧ ∃ h' tk', s' = { s with heap := h', toks := tk' } ∧ Fr h₀ L h' m ∧ News h₀ L h' ((I, oI) :: (C, oC) :: (D, lst ys) :: news))) E' { s with heap := h, toks := tk })
    (helt : ∀ k t I oI C oC D m₂ ys h tk (E' : Value → Shared → Prop), k ∈ ns → LCg.NsObj oC m₂ → m₂ x = some (.int k t) → Fr h₀ L h m → News h₀ L h ((I, oI) :: (C, oC) :: (D, lst ys) :: news) →
      wpAny (model prog w) A (eval elt (compEnvC scope cl C env)) (fun y s' => Halt ((∃ t', y = .int (g k) t') ∧ ∃ h' tk', s' = { s with heap := h', toks := tk' } ∧ Fr h₀ L h' m ∧ News h₀ L h' ((I, oI) :: (C, oC) :: (D, lst ys) :: news))) E' { s with heap := h, toks := tk })
    (hQ : ∀ D ys h tk, Fr h₀ L h m → News h₀ L h ((D, lst ys) :: news) → LCg.Off1 D news → IntsAre ys ((ns.filter pz).map g) → Q (.ref D) { s with heap := h, toks := tk }) :
    wpAny (model prog w) A (eval (.ListComp elt [⟨.Name x px, it, [ct], 0⟩] scope pos) env) Q E s := by
  refine LCt.ListComp_T F₀ hclos hcell hkind hnames hx (wpAny_mono hsrc (fun r s₁ h₁ => ?_) fun _ _ e => e) hs
  obtain ⟨rfl, h1, tk1, rfl, F, N⟩ := h₁
  have hlen := hi.length
  refine LCt.CompSrcT.ledger hh F N hm (by rw [List.size_toArray, hlen, sizeLine_eq]; (first | lia | omega)) fun g0 => ?_
  have key : ∀ (j i : Nat) (ys : List Value), i + j = vs.toArray.size → IntsAre ys (((ns.take i).filter pz).map g) →
      LCt.CompRestT prog w A h₀ L m env ct elt x scope cl { s with heap := g0, toks := tk1 } (LCg.SrcAt h₀ ax vs.toArray) (fun i v => vs.toArray[i]? = some v) (LCg.FinE h₀ L m { s with heap := g0, toks := tk1 } Q) j i ys news := by
    intro j
    induction j with
    | zero =>
      intro i ys hij hy
      refine LCt.CompRestT.zero ?_
      have e : ns.take i = ns := List.take_of_length_le (by rw [List.size_toArray] at hij; (first | lia | omega))
      rw [e] at hy
      intro D h tk F' N' off
      exact hQ D ys h tk F' N' off hy
    | succ j ih =>
      intro i ys hij hy
      refine LCt.CompRestT.succ ?_
      intro v I oI C oC D m₂ h tk E' hv hC hx' F' N' off ne
      obtain ⟨k, t, e, hk⟩ := IntsAre.at hi i v (by simpa using hv)
      subst e
      have hkm := List.mem_of_getElem? hk
      have hsrcAt : LCg.SrcAt h₀ ax vs.toArray news := .inr ⟨_, hm, rfl, _, rfl⟩
      refine wpAny_mono (htest k t I oI C oC D m₂ ys h tk E' hkm hC hx' F' N') (fun ok s' hq => ?_) fun _ _ e => e
      unfold Halt at hq
      obtain ⟨rfl, h', tk', rfl, F2, N2⟩ := hq
      cases hp : pz k with
      | true =>
        simp only [if_true]
        refine wpAny_mono (helt k t I oI C oC D m₂ ys h' tk' E' hkm hC hx' F2 N2) (fun y s' hq => ?_) fun _ _ e => e
        unfold Halt at hq
        obtain ⟨⟨t', rfl⟩, h2, tk2, rfl, F3, N3⟩ := hq
        refine ⟨h2, tk2, news, rfl, F3, N3, off, hsrcAt, ih (i + 1) _ (by (first | lia | omega)) ?_⟩
        rw [List.take_add_one, hk]
        simpa [hp] using IntsAre.append hy (.cons (g k) t' .nil)
      | false =>
        simp only [Bool.false_eq_true, if_false]
        refine ⟨h', tk', news, rfl, F2, N2, off, hsrcAt, ih (i + 1) _ (by (first | lia | omega)) ?_⟩
        rw [List.take_add_one, hk]
        simpa [hp] using hy
  exact key _ 0 [] (by (first | lia | omega)) (by simpa using IntsAre.nil)

theorem mapc (g : Int → Int) (F₀ : Fr h₀ L s.heap m) (hh : A.handled = none)
    (hclos : closureFor scope env = pure cl) (hcell : ∀ y ∈ scope.names, y.2 ≠ .cell) (hkind : scope.kind = .function)
    (hnames : ∀ y ∈ scope.names, y.2 = .local → scope.names.lookup y.1 = some .local) (hx : scope.names.lookup x = some .local)
    (hsrc : wpAny (model prog w) A (eval it env) (fun r s' => r = .ref ax ∧ ∃ h tk, s' = { s with heap := h, toks := tk } ∧ Fr h₀ L h m ∧ News h₀ L h news) E s)
    (hm : (ax, listOf vs.toArray cn) ∈ news) (hi : IntsAre vs ns) (hsz : ns.length ≤ 100000) (hs : ∀ x, foldedSetIterable it env x = pure x)
    (helt : ∀ k t I oI C oC D m₂ ys h tk (E' : Value → Shared → Prop), k ∈ ns → LCg.NsObj oC m₂ → m₂ x = some (.int k t) → Fr h₀ L h m → News h₀ L h ((I, oI) :: (C, oC) :: (D, lst ys) :: news) →
      wpAny (model prog w) A (eval elt (compEnvC scope cl C env)) (fun y s' => Halt ((∃ t', y = .int (g k) t') ∧ ∃ h' tk', s' = { s with heap := h', toks := tk' } ∧ Fr h₀ L h' m ∧ News h₀ L h' ((I, oI) :: (C, oC) :: (D, lst ys) :: news))) E' { s with heap := h, toks := tk })
    (hQ : ∀ D ys h tk, Fr h₀ L h m → News h₀ L h ((D, lst ys) :: news) → LCg.Off1 D news → IntsAre ys (ns.map g) → Q (.ref D) { s with heap := h, toks := tk }) :
    wpAny (model prog w) A (eval (.ListComp elt [⟨.Name x px, it, [], 0⟩] scope pos) env) Q E s := by
  refine LCg.ListComp_U F₀ hclos hcell hkind hnames hx (wpAny_mono hsrc (fun r s₁ h₁ => ?_) fun _ _ e => e) hs
  obtain ⟨rfl, h1, tk1, rfl, F, N⟩ := h₁
  have hlen := hi.length
  refine LCg.CompSrc.ledger hh F N hm (by rw [List.size_toArray, hlen, sizeLine_eq]; (first | lia | omega)) fun g0 => ?_
  have key : ∀ (j i : Nat) (ys : List Value), i + j = vs.toArray.size → IntsAre ys ((ns.take i).map g) →
      LCg.CompRest prog w A h₀ L m env elt x scope cl { s with heap := g0, toks := tk1 } (LCg.SrcAt h₀ ax vs.toArray) (fun i v => vs.toArray[i]? = some v) (LCg.FinE h₀ L m { s with heap := g0, toks := tk1 } Q) j i ys news := by
    intro j
    induction j with
    | zero =>
      intro i ys hij hy
      refine LCg.CompRest.zero ?_
      have e : ns.take i = ns := List.take_of_length_le (by rw [List.size_toArray] at hij; (first | lia | omega))
      rw [e] at hy
      intro D h tk F' N' off
      exact hQ D ys h tk F' N' off hy
    | succ j ih =>
      intro i ys hij hy
      refine LCg.CompRest.succ ?_
      intro v I oI C oC D m₂ h tk E' hv hC hx' F' N' off ne
      obtain ⟨k, t, e, hk⟩ := IntsAre.at hi i v (by simpa using hv)
      subst e
      have hkm := List.mem_of_getElem? hk
      have hsrcAt : LCg.SrcAt h₀ ax vs.toArray news := .inr ⟨_, hm, rfl, _, rfl⟩
      refine wpAny_mono (helt k t I oI C oC D m₂ ys h tk E' hkm hC hx' F' N') (fun y s' hq => ?_) fun _ _ e => e
      unfold Halt at hq
      obtain ⟨⟨t', rfl⟩, h2, tk2, rfl, F3, N3⟩ := hq
      refine ⟨h2, tk2, news, rfl, F3, N3, off, hsrcAt, ih (i + 1) _ (by (first | lia | omega)) ?_⟩
      rw [List.take_add_one, hk]
      simpa using IntsAre.append hy (.cons (g k) t' .nil)
  exact key _ 0 [] (by (first | lia | omega)) (by simpa using IntsAre.nil)
end
end Mine
end
section
open PySem PySem.W PyProof.Rows
set_option Elab.async false
set_option maxRecDepth 100000
set_option maxHeartbeats 8000000
set_option pp.deepTerms.threshold 4
set_option pp.maxSteps 6000
namespace Mine
theorem c_octets (w : World) (news : List (Addr × Obj)) (n : Int) (t : Tok) (h0 : 0 ≤ n) (h1 : n < 2^40) : GivesL w news (call (.ref 258) [.int n t]) 1 8 (toI (dOct n.toNat)) := by
  k_with_none
  k_with "exec While Compare" => (refine halt ?_)
  k_with "KswEnd" => (refine halt ?_)
  unfold GivesL
  w_top off
  k_fill
  intro loose mean mg mb dp un gd cn cs a ccd cl outer A₀ base h₀ L m s Q E B F X N T hk hdp hun hret
  refine wpAny_call ?_
  k_dflt cell_enter
  k_steps
  unfold Halt
  rename_i F' N'
  have hlen : (dOct n.toNat).length ≤ 8 := by
    have := dPre_length 7 (n.toNat / 64) (by (first | lia | omega))
    simp [dOct]; (first | lia | omega)
  refine ksw_while (σ := Addr × List Value × Nat × Int × Tok × List Nat) (fun c => (c.1, listOf (List.toArray c.2.1) c.2.2.1) :: news)
    (fun c => [(Str.ofString "row", .ref c.1), (Str.ofString "n", .int c.2.2.2.1 c.2.2.2.2.1)]) (fun c => IntsAre c.2.1 (toI c.2.2.2.2.2)) []
    (fun c => 0 ≤ c.2.2.2.1 ∧ c.2.2.2.1 < 2^40 ∧ dPre c.2.2.2.1.toNat ++ c.2.2.2.2.2 = dOct n.toNat ∧ (toI c.2.2.2.2.2).length ≤ 8 ∧ AllLt c.1 news) (fun c => c.2.2.2.1.toNat) (_, _, _, n.fdiv 64, ?tk, [n.toNat % 64]) F' N' ?hf ?hk ?hp ?turn ?hE
  case hk => kst_all
  case hf => exact ints_eq (ints_one _ _) (by rw [Int.fmod_eq_emod_of_nonneg _ (by decide)]; simp [toI]; (first | lia | omega))
  case hp =>
    dsimp only
    rw [Int.fdiv_eq_ediv_of_nonneg _ (by decide)]
    refine ⟨by (first | lia | omega), by (first | lia | omega), ?_, by simp [toI], allLt_of (by assumption)⟩
    show dPre (n / 64).toNat ++ [n.toNat % 64] = dOct n.toNat
    rw [dOct, ediv64 (n := n) (by with_reducible assumption)]
  case hE => first | passes_own | with_unfolding_all passes_own
  clear F' N'
  intro c u h tk hf hp F1 N1
  obtain ⟨D, us, cn, k, tk1, ns⟩ := c
  simp only [kstB] at F1
  dsimp only at hf hp N1
  obtain ⟨hp1, hp2, hp3, hp4, hp5⟩ := hp
  k_steps
  · unfold Halt
    rename_i hpos _ l' _ _ D' ws' _ hI' l1 _ _ F' N'
    rw [fmodd (by decide)] at hI'
    have e1 : k.toNat ≠ 0 := by (first | lia | omega)
    rw [dPre_pos e1, List.append_assoc] at hp3
    have hl := congrArg List.length hp3
    simp only [List.length_append, List.length_cons, List.length_nil] at hl
    refine ksw_end (D', ws', 0, k.fdiv 64, _, (64 + k.toNat % 64) :: ns) F' N' (by kst_in) ?_ (by kst_all) (by ksw_same) ?_ ?_
    · exact ints_eq hI' (by simp [toI]; (first | lia | omega))
    · dsimp only
      rw [ffloor (by decide)]
      refine ⟨by (first | lia | omega), by (first | lia | omega), ?_, by simp [toI]; (first | lia | omega), l1.2.2⟩
      rw [← hp3, ediv64 (n := k) (by with_reducible assumption)]; rfl
    · dsimp only
      rw [ffloor (by decide)]; (first | lia | omega)
  · rename_i hpos kF kN _ _
    have e1 : k.toNat = 0 := by (first | lia | omega)
    rw [e1, dPre_zero, List.nil_append] at hp3
    exact hret D us _ _ _ kF kN (allLt_all hp5) (hp3 ▸ hf)
end Mine
end
section
open PySem PySem.W PyProof.Rows
set_option Elab.async false
set_option maxRecDepth 100000
set_option maxHeartbeats 8000000
set_option pp.deepTerms.threshold 4
set_option pp.maxSteps 6000
namespace Mine
theorem c_text (w : World) (news : List (Addr × Obj)) (l : Addr) (vs : List Value) (c : Nat) (ns : List Nat) (hm : (l, listOf vs.toArray c) ∈ news) (hi : IntsAre vs (toI ns)) (hl : ns.length ≤ 1000) (hb : ∀ n ∈ ns, n < 2^40) : GivesV w news (call (.ref 263) [.ref l]) 2 16 (fun t => .str (tx (ns.flatMap dOct)) t) := by
  k_with_none
  k_with "eval ListComp" => (refine halt ?_)
  k_with "call builtin:str.join" => (refine halt ?_)
  k_with "call ref" => ((with_reducible show wpAny _ _ (call (Value.ref 258) _) _ _ _); (refine halt ?_))
  k_with "ktr_rel" => ((case k1 => k_asm); (case k2 => k_asm); (case k3 => k_asm); (case k4 => k_asm); (case k5 => k_asm); (case k6 => first | assumption | exact rfl); (case k7 => ktr_room); (case k8 => ktr_units))
  unfold GivesV
  w_top off
  k_fill
  intro loose mean mg mb dp un gd cn cs a ccd cl outer A₀ base h₀ L m s Q E B F X N T hk hdp hun hret
  refine wpAny_call ?_
  k_dflt cell_enter
  k_steps
  unfold Halt
  rename Fr _ _ _ _ => F'
  rename News _ _ _ _ => N'
  refine nested (fun k => toI (dOct k.toNat)) (fun k => tx [k.toNat]) F' N' (ax := l) (vs := vs) (ns := toI ns) (cn := c) (by rfl) (by rfl) (by decide) (by rfl) (by decide) (by rfl) (by rfl) ?hsrc hm hi ?hlen (fun _ => rfl) (fun _ _ => rfl) ?hit2 ?helt2 ?hQ
  case hsrc => exact ld F' rfl ⟨rfl, _, _, rfl, F', N'⟩
  case hlen =>
    have e : ∀ (l : List Nat), (∀ n ∈ l, n < 2^40) → ((toI l).flatMap fun k => toI (dOct k.toNat)).length ≤ 8 * l.length := by
      intro l
      induction l with
      | nil => intro _; simp [toI]
      | cons x r ih =>
        intro h
        have h1 := ih fun n hn => h n (List.mem_cons_of_mem _ hn)
        have h2 := dOct_length (h x List.mem_cons_self)
        simp only [toI, List.map_cons, List.flatMap_cons, List.length_append, List.length_map, List.length_cons, Int.toNat_natCast] at h1 ⊢
        (first | lia | omega)
    have := e ns hb
    (first | lia | omega)
  case hit2 =>
    intro k t I oI C oC D m₂ zs h tk E' hk1 hC hx F1 N1
    obtain ⟨k', hk', rfl⟩ := List.mem_map.mp hk1
    k_steps
    unfold Halt
    refine' useL (c_octets w _ _ _ ?g1 ?g2) ?k1 ?k2 ?k3 ?k4 ?k5 ?k6 ?k7 ?k8 ?_
    ktr_rel
    case g1 => (first | lia | omega)
    case g2 => have := hb k' hk'; (first | lia | omega)
    intro Dl us c' h2 tk2 F2 N2 l2 hI2
    exact ⟨Dl, us, c', h2, tk2, rfl, rfl, F2, N2, l2, hI2⟩
  case helt2 =>
    intro n C oC m₂ k t s' E' hn hk1 hC hx F1 N1
    obtain ⟨k', hk', rfl⟩ := List.mem_map.mp hk1
    have hlt := dOct_lt _ _ hk'
    k_steps
  case hQ =>
    intro D zs h tk F1 N1 hz
    have e1 : ∀ l : List Nat, (List.map (fun k : Int => tx [k.toNat]) (List.flatMap (fun k : Int => toI (dOct k.toNat)) (toI l))) = (l.flatMap dOct).map fun c => tx [c] := by
      intro l
      induction l with
      | nil => rfl
      | cons x r ih =>
        simp only [toI, List.map_cons, List.flatMap_cons, List.map_append, Int.toNat_natCast, List.map_map] at ih ⊢
        rw [ih]
        congr 1
    rw [e1] at hz
    have e2 : ∀ l : List Nat, ((l.map fun c => tx [c]).map (·.length)).sum = l.length := by
      intro l
      induction l with
      | nil => rfl
      | cons x r ih => simp only [List.map_cons, List.sum_cons, ih, tx_length, List.length_cons, List.length_nil]; (first | lia | omega)
    have e3 : ∀ (l : List Nat), (∀ n ∈ l, n < 2^40) → (l.flatMap dOct).length ≤ 8 * l.length := by
      intro l
      induction l with
      | nil => intro _; simp
      | cons x r ih =>
        intro h
        have h1 := ih fun n hn => h n (List.mem_cons_of_mem _ hn)
        have h2 := dOct_length (h x List.mem_cons_self)
        simp only [List.flatMap_cons, List.length_append, List.length_cons] at h1 ⊢
        (first | lia | omega)
    have e4 := e3 ns hb
    k_steps
    unfold Halt
    refine join_list (ys := (ns.flatMap dOct).map fun c => tx [c]) ⟨_, (N1 _ List.mem_cons_self).1, rfl, _, rfl⟩ hz ?_ ?_
    · rw [e2, List.length_map]; simp only [show (Str.ofString "").length = 0 by decide]; (first | lia | omega)
    · intro t' k'
      rw [join_tx]
      k_steps
      rename_i kF kN _ _
      exact hret _ _ _ kF (cb_drop kN fun p hp => List.mem_cons_of_mem _ hp)
end Mine
end
section
open PySem PySem.W PyProof.Rows
set_option Elab.async false
set_option maxRecDepth 100000
set_option maxHeartbeats 8000000
set_option pp.deepTerms.threshold 4
set_option pp.maxSteps 6000
namespace Mine
theorem c_dbl (w : World) (news : List (Addr × Obj)) : ∀ (k : Nat) (n : Int) (t : Tok), 0 ≤ n → k ≤ 8 → n.toNat < 64 ^ k → GivesV w news (call (.ref 284) [.int n t]) (k + 1) (8 * k + 8) (fun t => .int (dbl n.toNat) t) := by
  k_with_none
  k_with "exec While Compare" => (refine halt ?_)
  k_with "KswEnd" => (refine halt ?_)
  k_with "call ref" => ((with_reducible show wpAny _ _ (call (Value.ref 284) _) _ _ _); (refine halt ?_))
  k_with "ktr_rel" => ((case k1 => k_asm); (case k2 => k_asm); (case k3 => k_asm); (case k4 => k_asm); (case k5 => k_asm); (case k6 => first | assumption | exact rfl); (case k7 => ktr_room); (case k8 => ktr_units))
  intro k
  induction k with
  | zero =>
    intro n t h0 hk0 h1
    have e : n.toNat = 0 := by simpa using h1
    have e2 : n = 0 := by (first | lia | omega)
    subst e2
    unfold GivesV
    w_top off
    k_fill
    intro loose mean mg mb dp un gd cn cs a ccd cl outer A₀ base h₀ L m s Q E B F X N T hk hdp hun hret
    refine wpAny_call ?_
    k_dflt cell_enter
    k_steps
    refine cb_retI hret ?_ (by assumption) (by assumption)
    rw [e, dbl_zero]; rfl
  | succ k ih =>
    intro n t h0 hk0 h1
    have hb : dbl (n.toNat / 64) < 4096 ^ k := dbl_lt k _ (by rw [Nat.pow_succ] at h1; (first | lia | omega))
    have hb2 : (4096 : Nat) ^ k ≤ 4096 ^ 8 := Nat.pow_le_pow_right (by decide) (by (first | lia | omega))
    have hb3 : ((dbl (n.toNat / 64) : Nat) : Int) < 2 ^ 96 := by
      have : (4096 : Nat) ^ 8 = 2 ^ 96 := by decide
      (first | lia | omega)
    have hb4 : 0 ≤ ((dbl (n.toNat / 64) : Nat) : Int) := Int.natCast_nonneg _
    have e1 : (n.fdiv 64).toNat = n.toNat / 64 := fdiv64 (by with_reducible assumption)
    have e2 : n.fmod 64 = ((n.toNat % 64 : Nat) : Int) := fmod64 (by with_reducible assumption)
    unfold GivesV
    w_top off
    k_fill
    intro loose mean mg mb dp un gd cn cs a ccd cl outer A₀ base h₀ L m s Q E B F X N T hk hdp hun hret
    refine wpAny_call ?_
    k_dflt cell_enter
    k_steps
    · refine cb_retI hret ?_ (by assumption) (by assumption)
      have e0 : n.toNat = 0 := by (first | lia | omega)
      rw [e0, dbl_zero]; rfl
    · unfold Halt
      have hn0 : n.toNat ≠ 0 := by (first | lia | omega)
      refine' useV (ih (n.fdiv 64) _ ?g1 ?g2 ?g3) ?k1 ?k2 ?k3 ?k4 ?k5 ?k6 ?k7 ?k8 ?_
      ktr_rel
      case g1 => exact fdiv64p (by with_reducible assumption)
      case g2 => (first | lia | omega)
      case g3 => rw [e1]; rw [Nat.pow_succ] at h1; (first | lia | omega)
      intro t2 h2 tk2 F2 N2
      rw [e1]
      dsimp only
      k_steps
      all_goals (refine cb_retI hret ?_ (by assumption) (by assumption))
      all_goals (rw [dbl_pos hn0]; rw [e2] at *)
      · rw [if_pos (by (first | lia | omega))]; (first | lia | omega)
      · rw [if_neg (by (first | lia | omega))]; (first | lia | omega)
theorem c_mark (w : World) (news : List (Addr × Obj)) (n : Int) (t : Tok) (h0 : 0 ≤ n) (h1 : n < 2^40) : GivesV w news (call (.ref 291) [.int n t]) 10 100 (fun t => .int (mark n.toNat) t) := by
  k_with_none
  k_with "exec While Compare" => (refine halt ?_)
  k_with "KswEnd" => (refine halt ?_)
  k_with "call ref" => ((with_reducible show wpAny _ _ (call (Value.ref 284) _) _ _ _); (refine halt ?_))
  k_with "ktr_rel" => ((case k1 => k_asm); (case k2 => k_asm); (case k3 => k_asm); (case k4 => k_asm); (case k5 => k_asm); (case k6 => first | assumption | exact rfl); (case k7 => ktr_room); (case k8 => ktr_units))
  have hb : dbl (n.toNat / 64) < 4096 ^ 7 := dbl_lt 7 _ (by (first | lia | omega))
  have hb3 : ((dbl (n.toNat / 64) : Nat) : Int) < 2 ^ 96 := by
    have : (4096 : Nat) ^ 7 < 2 ^ 96 := by decide
    (first | lia | omega)
  have hb4 : 0 ≤ ((dbl (n.toNat / 64) : Nat) : Int) := Int.natCast_nonneg _
  have e1 : (n.fdiv 64).toNat = n.toNat / 64 := fdiv64 (by with_reducible assumption)
  have e2 : n.fmod 64 = ((n.toNat % 64 : Nat) : Int) := fmod64 (by with_reducible assumption)
  unfold GivesV
  w_top off
  k_fill
  intro loose mean mg mb dp un gd cn cs a ccd cl outer A₀ base h₀ L m s Q E B F X N T hk hdp hun hret
  refine wpAny_call ?_
  k_dflt cell_enter
  k_steps
  unfold Halt
  refine' useV (c_dbl w _ 7 (n.fdiv 64) _ ?g1 ?g2 ?g3) ?k1 ?k2 ?k3 ?k4 ?k5 ?k6 ?k7 ?k8 ?_
  ktr_rel
  case g1 => exact fdiv64p (by with_reducible assumption)
  case g2 => (first | lia | omega)
  case g3 => rw [e1]; (first | lia | omega)
  intro t2 h2 tk2 F2 N2
  rw [e1]
  dsimp only
  k_steps
  all_goals (refine cb_retI hret ?_ (by assumption) (by assumption))
  all_goals (rw [mark]; rw [e2] at *)
  · rw [if_pos (by (first | lia | omega))]; (first | lia | omega)
  · rw [if_neg (by (first | lia | omega))]; (first | lia | omega)
theorem any_toI (ds : List Nat) (x : Nat) : ((toI ds).any fun y => y == ((x : Nat) : Int)) = ds.contains x := by
  rw [Bool.eq_iff_iff]
  simp only [toI, List.any_map, List.any_eq_true, Function.comp, beq_iff_eq, List.contains_iff_mem]
  constructor
  · rintro ⟨y, hy, e⟩
    have : y = x := by (first | lia | omega)
    exact this ▸ hy
  · exact fun h => ⟨x, h, rfl⟩
theorem c_leads (w : World) (news : List (Addr × Obj)) (n : Int) (t : Tok) (l : Addr) (vs : List Value) (c : Nat) (ds : List Nat) (hm : (l, listOf vs.toArray c) ∈ news) (hi : IntsAre vs (toI ds)) (hl : ds.length ≤ 100) (h0 : 0 ≤ n) (h1 : n < 2^40) : GivesV w news (call (.ref 298) [.int n t, .ref l]) 1 8 (fun _ => .bool (leads ds n.toNat)) := by
  k_with_none
  k_with "exec While Compare" => (refine halt ?_)
  k_with "KswEnd" => (refine halt ?_)
  k_with "call ref" => ((with_reducible show wpAny _ _ (call (Value.ref 284) _) _ _ _); (refine halt ?_))
  k_with "ktr_rel" => ((case k1 => k_asm); (case k2 => k_asm); (case k3 => k_asm); (case k4 => k_asm); (case k5 => k_asm); (case k6 => first | assumption | exact rfl); (case k7 => ktr_room); (case k8 => ktr_units))
  unfold GivesV
  w_top off
  k_fill
  intro loose mean mg mb dp un gd cn cs a ccd cl outer A₀ base h₀ L m s Q E B F X N T hk hdp hun hret
  refine wpAny_call ?_
  k_dflt cell_enter
  k_steps
  unfold Halt
  rename Fr _ _ _ _ => F'
  rename News _ _ _ _ => N'
  refine' ksw_while (σ := Int × Tok) (fun c => news)
    (fun c => [(Str.ofString "n", .int c.1 c.2), (Str.ofString "digits", .ref l)]) (fun c => True) []
    (fun c => 0 ≤ c.1 ∧ c.1 < 2^40 ∧ ldg ds c.1.toNat = leads ds n.toNat) (fun c => c.1.toNat) (n.fdiv 64, ?tk) F' N' ?hf ?hk ?hp ?turn ?hE
  case hk => kst_all
  case hf => trivial
  case hp =>
    dsimp only
    rw [ffloor (by decide)]
    exact ⟨by (first | lia | omega), by (first | lia | omega), by rw [leads]; congr 1; (first | lia | omega)⟩
  case hE => first | passes_own | with_unfolding_all passes_own
  clear F' N'
  intro c u h tk hf hp F1 N1
  obtain ⟨k, tk1⟩ := c
  simp only [kstB] at F1
  dsimp only at hf hp N1
  obtain ⟨hp1, hp2, hp3⟩ := hp
  have hL : h.IsList l vs.toArray := ⟨_, (N1 _ hm).1, rfl, _, rfl⟩
  have e2 : k.fmod 64 = ((k.toNat % 64 : Nat) : Int) := fmod64 (by with_reducible assumption)
  have e3 : ((toI ds).any fun x => x == k.fmod 64) = ds.contains (k.toNat % 64) := by
    rw [e2]
    exact any_toI ds _
  k_steps
  · rename List.any _ _ = true => hy
    refine cb_retB hret ?_ (by assumption) (by assumption)
    rw [← hp3, ldg_pos (by (first | lia | omega)), if_pos (e3 ▸ hy)]
  · unfold Halt
    rename List.any _ _ = false => hy
    rename Fr _ _ _ _ => F'
    rename News _ _ _ _ => N'
    refine ksw_end (k.fdiv 64, _) F' N' (by kst_in) trivial (by kst_all) (by ksw_same) ?_ ?_
    · dsimp only
      rw [ffloor (by decide)]
      refine ⟨by (first | lia | omega), by (first | lia | omega), ?_⟩
      rw [← hp3, ldg_pos (n := k.toNat) (by (first | lia | omega)), if_neg (by rw [← e3, hy]; decide), ediv64 (n := k) (by with_reducible assumption)]
    · dsimp only
      rw [ffloor (by decide)]; (first | lia | omega)
  · refine cb_retB hret ?_ (by assumption) (by assumption)
    rw [← hp3, show k.toNat = 0 by (first | lia | omega), ldg_zero]
end Mine
end
section
open PySem PySem.W PyProof.Rows
set_option Elab.async false
set_option maxRecDepth 100000
set_option maxHeartbeats 8000000
set_option pp.deepTerms.threshold 4
set_option pp.maxSteps 6000
namespace Mine
theorem c_par (w : World) (news : List (Addr × Obj)) (n : Int) (t : Tok) (h0 : 0 ≤ n) (h1 : n < 2^40) : GivesL w news (call (.ref 305) [.int n t]) 12 130 (toI (par n.toNat)) := by
  k_with_none
  k_with "call ref" => ((with_reducible show wpAny _ _ (call (Value.ref 298) _) _ _ _); (refine halt ?_))
  k_with "ktr_rel" => ((case k1 => k_asm); (case k2 => k_asm); (case k3 => k_asm); (case k4 => k_asm); (case k5 => k_asm); (case k6 => first | assumption | exact rfl); (case k7 => ktr_room); (case k8 => ktr_units))
  k_with "call ref" => ((with_reducible show wpAny _ _ (call (Value.ref 291) [Value.int _ _]) _ _ _); (k_dflt refine' useV (c_mark _ _ _ _ ?g1 ?g2) ?k1 ?k2 ?k3 ?k4 ?k5 ?k6 ?k7 ?k8 ?_); ktr_rel; (case g1 => (first | lia | omega)); (case g2 => (first | lia | omega)); intro zt9 zh9 ztk9 zF9 zN9; (try dsimp only); (try k_sweep))
  have e2 : n.fmod 64 = ((n.toNat % 64 : Nat) : Int) := fmod64 (by with_reducible assumption)
  unfold GivesL
  w_top off
  k_fill
  intro loose mean mg mb dp un gd cn cs a ccd cl outer A₀ base h₀ L m s Q E B F X N T hk hdp hun hret
  refine wpAny_call ?_
  k_dflt cell_enter
  k_steps
  · rename List.any _ _ = true => hy
    rename _ ∧ AllLt _ _ => l1
    rw [e2] at hy
    have hy2 : minds n.toNat = true := by
      have := any_toI [32, 34, 40, 41, 44, 47, 58, 59, 60, 61, 62, 63] (n.toNat % 64)
      rw [minds, ← this]
      exact Bool.or_eq_true_iff.mpr (.inl hy)
    refine endL hret ?_ (by assumption) (by assumption) (by intro p hp; exact List.mem_cons_of_mem _ hp) (allLt_all l1.2) (.cons _ _ (.cons _ _ (.cons _ _ (.cons _ _ .nil))))
    rw [par, if_pos hy2]; rfl
  · unfold Halt
    rename List.any _ _ = false => hy
    rw [e2] at hy
    refine' useV (c_leads w _ _ _ _ _ _ [0, 27, 28, 29] ?gm ?gi (by decide) ?g1 ?g2) ?k1 ?k2 ?k3 ?k4 ?k5 ?k6 ?k7 ?k8 ?_
    ktr_rel
    case g1 => (first | lia | omega)
    case g2 => (first | lia | omega)
    case gm => k_mem
    case gi => exact .cons _ _ (.cons _ _ (.cons _ _ (.cons _ _ .nil)))
    intro t9 h9 tk9 F9 N9
    dsimp only
    have hy0 := any_toI [32, 34, 40, 41, 44, 47, 58, 59, 60, 61, 62, 63] (n.toNat % 64)
    have hy3 : [32, 34, 40, 41, 44, 47, 58, 59, 60, 61, 62, 63].contains (n.toNat % 64) = false := hy0.symm.trans hy
    have e4 : minds n.toNat = leads [0, 27, 28, 29] n.toNat := by rw [minds, hy3, Bool.false_or]
    k_steps
    · rename leads _ _ = true => hz
      rename _ ∧ _ ∧ AllLt _ _ => l1
      refine endL hret ?_ (by assumption) (by assumption) (by intro p hp; exact List.mem_cons_of_mem _ (List.mem_cons_of_mem _ hp)) (allLt_all l1.2.2) (.cons _ _ (.cons _ _ (.cons _ _ (.cons _ _ .nil))))
      rw [par, if_pos (e4.trans hz)]; rfl
    · rename leads _ _ = false => hz
      rename _ ∧ _ ∧ AllLt _ _ => l1
      refine endL hret ?_ (by assumption) (by assumption) (by intro p hp; exact List.mem_cons_of_mem _ (List.mem_cons_of_mem _ hp)) (allLt_all l1.2.2) (.cons _ _ (.cons _ _ .nil))
      rw [par, if_neg (by rw [e4, hz]; decide)]
      simp only [toI, List.map_cons, List.map_nil]
      rw [Int.toNat_of_nonneg h0]; rfl
end Mine
end
section
open PySem PySem.W PyProof.Rows
set_option Elab.async false
set_option maxRecDepth 100000
set_option maxHeartbeats 8000000
set_option pp.deepTerms.threshold 4
set_option pp.maxSteps 6000
namespace Mine
theorem c_refused (w : World) (news : List (Addr × Obj)) (l : Addr) (vs : List Value) (c : Nat) (ns : List Nat) (hm : (l, listOf vs.toArray c) ∈ news) (hi : IntsAre vs (toI ns)) (hl : ns.length ≤ 1000) (hb : ∀ n ∈ ns, n < 2^40) : GivesV w news (call (.ref 310) [.ref l]) 2 100 (fun _ => .bool (refused ns)) := by
  k_with_none
  k_with "call ref" => ((with_reducible show wpAny _ _ (call (Value.ref 298) _) _ _ _); (refine halt ?_))
  k_with "eval ListComp" => (refine halt ?_)
  k_with "ktr_rel" => ((case k1 => k_asm); (case k2 => k_asm); (case k3 => k_asm); (case k4 => k_asm); (case k5 => k_asm); (case k6 => first | assumption | exact rfl); (case k7 => ktr_room); (case k8 => ktr_units))
  unfold GivesV
  w_top off
  k_fill
  intro loose mean mg mb dp un gd cn cs a ccd cl outer A₀ base h₀ L m s Q E B F X N T hk hdp hun hret
  refine wpAny_call ?_
  k_dflt cell_enter
  k_steps
  unfold Halt
  rename Fr _ _ _ _ => F'
  rename News _ _ _ _ => N'
  refine filt (ax := l) (vs := vs) (ns := toI ns) (cn := c) (news := news) (fun k => bad k.toNat) (fun k => k) F' (by rfl) (by rfl) (by decide) (by rfl) (by decide) (by rfl) ?hsrc hm hi ?hlen (fun _ => rfl) ?htest ?helt ?hQ
  case hsrc => exact ld F' rfl ⟨rfl, _, _, rfl, F', N'⟩
  case hlen => simp [toI]; (first | lia | omega)
  case htest =>
    intro k t I oI C oC D m₂ ys h tk E' hk1 hC hx F1 N1
    obtain ⟨k', hk', rfl⟩ := List.mem_map.mp hk1
    have hb' := hb k' hk'
    have e2 : ((k' : Int)).fmod 64 = ((k' % 64 : Nat) : Int) := fmod64n _
    have key : ∀ b, leads [63] k' = b → (k' % 64 < 32 → k' % 64 = 9) → b = bad k' := by
      intro b h1 h2
      rw [bad, h1]
      by_cases h3 : k' % 64 < 32
      · simp [h2 h3]
      · simp [h3]
    k_steps
    · exact ⟨by rw [Int.toNat_natCast, bad]; rw [e2] at *; simp only [Bool.true_eq, Bool.or_eq_true, Bool.and_eq_true, decide_eq_true_eq]; (first | lia | omega), _, _, rfl, F1, N1⟩
    · unfold Halt
      refine' useV (c_leads w _ _ _ _ _ _ [63] ?gm ?gi (by decide) ?g1 ?g2) ?k1 ?k2 ?k3 ?k4 ?k5 ?k6 ?k7 ?k8 ?_
      ktr_rel
      case g1 => (first | lia | omega)
      case g2 => (first | lia | omega)
      case gm => k_mem
      case gi => exact .cons _ _ .nil
      intro t9 h9 tk9 F9 N9
      rw [Int.toNat_natCast]
      dsimp only
      k_steps
      all_goals (rename leads _ _ = _ => hz)
      all_goals exact ⟨key _ hz (fun _ => by (first | lia | omega)), _, _, rfl, F9, fun p hp => N9 p (List.mem_cons_of_mem _ hp)⟩
    · unfold Halt
      refine' useV (c_leads w _ _ _ _ _ _ [63] ?gm ?gi (by decide) ?g1 ?g2) ?k1 ?k2 ?k3 ?k4 ?k5 ?k6 ?k7 ?k8 ?_
      ktr_rel
      case g1 => (first | lia | omega)
      case g2 => (first | lia | omega)
      case gm => k_mem
      case gi => exact .cons _ _ .nil
      intro t9 h9 tk9 F9 N9
      rw [Int.toNat_natCast]
      dsimp only
      k_steps
      all_goals (rename leads _ _ = _ => hz)
      all_goals exact ⟨key _ hz (fun _ => by (first | lia | omega)), _, _, rfl, F9, fun p hp => N9 p (List.mem_cons_of_mem _ hp)⟩
  case helt =>
    intro k t I oI C oC D m₂ ys h tk E' hk1 hC hx F1 N1
    k_steps
    exact ⟨⟨_, rfl⟩, _, _, rfl, F1, N1⟩
  case hQ =>
    intro D ys h tk F1 N1 off hy
    k_steps
    refine cb_retB hret ?_ (by assumption) (cb_drop (by assumption) fun p hp => List.mem_cons_of_mem _ (List.mem_cons_of_mem _ hp))
    have e0 : (List.map (fun k => k) (List.filter (fun k => bad k.toNat) (toI ns)) = []) ↔ ¬ refused ns = true := by
      rw [List.map_id', List.filter_eq_nil_iff, refused, List.any_eq_true]
      constructor
      · rintro h ⟨x, hx, hb⟩
        exact h (x : Int) (List.mem_map.mpr ⟨x, hx, rfl⟩) (by simpa using hb)
      · intro hn k hk hb
        obtain ⟨x, hx, rfl⟩ := List.mem_map.mp hk
        exact hn ⟨x, hx, by simpa using hb⟩
    by_cases hr : refused ns = true
    · rw [hr, decide_eq_false (fun h => e0.mp h hr)]; rfl
    · have hr' : refused ns = false := by simpa using hr
      rw [hr', decide_eq_true (e0.mpr hr)]; rfl
end Mine
end
section
open PySem PySem.W PyProof.Rows
set_option Elab.async false
set_option maxRecDepth 100000
set_option maxHeartbeats 8000000
set_option pp.deepTerms.threshold 4
set_option pp.maxSteps 6000
namespace Mine

theorem listItem {prog : Program} {w : World} {A : Around} {E : Value → Shared → Prop} {s : Shared} {value slice : PySem.Expr} {l : Addr} {vs : List Value} {k : Int} {u : Tok} {v : Value} {Q : Value → Shared → Prop}
    (hl : s.heap.IsList l vs.toArray) (h0 : 0 ≤ k) (hhi : k < 2 ^ 63) (hx : vs[k.toNat]? = some v) (h : Q v s)
    (hs : subscripted slice false (.ref l) (.int k u) = operate [.ref l, .int k u] (getItem (.ref l) (.int k u)) := by with_unfolding_all rfl) :
    wpAny (model prog w) A (subscriptTail value slice (.ref l) (.int k u)) Q E s :=
  tail_any hl.typeIs slot_list_getitem.lookup (wpAny_getItem_list hl h0 hhi (by simpa using hx) h) hs
theorem c_escd (w : World) (news : List (Addr × Obj)) (k : Int) (t : Tok) (l : Addr) (vs : List Value) (c : Nat) (ns : List Nat) (hk0 : 0 ≤ k) (hk4 : k ≤ 4) (hm : (l, listOf vs.toArray c) ∈ news) (hi : IntsAre vs (toI ns)) (hl : ns.length ≤ 1000) (hb : ∀ n ∈ ns, n < 2^40) : GivesL w news (call (.ref 277) [.int k t, .ref l]) 2 100 (toI (escd k.toNat ns)) := by
  k_with_none
  k_with "execs cons" => ((with_reducible show wpAny _ _ (execs _ _) _ _ (Shared.mk _ _ _ (_ + _) _)); (k_dflt refine gen_tk ?_); intro ztk)
  k_with "eval List" => ((with_reducible show wpAny _ _ (eval _ _) _ _ (Shared.mk _ _ _ (_ + _) _)); (k_dflt refine gen_tk ?_); intro ztk)
  k_with "eval Dict" => ((with_reducible show wpAny _ _ (eval _ _) _ _ (Shared.mk _ _ _ (_ + _) _)); (k_dflt refine gen_tk ?_); intro ztk)
  k_with "exec For Name Name cons nil" => (refine halt ?_)
  k_with "ktr_rel" => ((case k1 => k_asm); (case k2 => k_asm); (case k3 => k_asm); (case k4 => k_asm); (case k5 => k_asm); (case k6 => first | assumption | exact rfl); (case k7 => ktr_room); (case k8 => ktr_units))
  k_with "subscriptTail" => (refine halt ?_)
  k_with "call builtin:list.extend" => (refine halt ?_)
  k_with "compareOp In int ref" => (refine halt ?_)
  k_with "InvEndN" => (refine halt ?_)
  k_with "eval List" => ((with_reducible show wpAny _ _ (eval (Expr.List (Expr.Dict _ _ _ :: _) _) _) _ _ _); (rename Fr _ _ _ _ => zF0); (rename News _ _ _ _ => zN0); (rename Top _ _ _ _ _ _ => zT0); (with_reducible refine evalDicts (ts := rows) ?zD (Top.nolimit zT0) (by decide +kernel) (by decide +kernel) zF0 zN0 ?_); (case zD => k_dflt ((unfold rows); (repeat (first | exact DictsEs.nil | refine DictsEs.cons ?_ ?_ | exact TabEs.nil | refine TabEs.cons rfl ?_ (by decide) ?_ | exact IntEs.nil | refine IntEs.cons _ _ _ ?_)))); intro zD zvs zh ztk zext zF zN zhs zhall; (try dsimp only); (try k_sweep))
  k_with "k_all" => assumption
  unfold GivesL
  w_top off
  k_fill
  intro loose mean mg mb dp un gd cn cs a ccd cl outer A₀ base h₀ L m s Q E B F X N T hk hdp hun hret
  refine wpAny_call ?_
  k_dflt cell_enter
  rename_i g1 L1 h1 FG1 F1 N1 B1 X1 T1
  with_reducible refine wpAny_execs_cons ?_
  with_reducible refine wpAny_mono (E := ek) (Q := fun f s' => Halt (f = .next ∧ ∃ d ok kvs ext h' tk', s' = { s with heap := h', toks := tk' } ∧ Fr g1 L1 h' (fun y => if y = Str.ofString "rests" then some (.ref d) else ([(Str.ofString "row", Value.ref l), (Str.ofString "k", Value.int k t)] : List (Str × Value)).lookup y) ∧
     Obj.IsDictOf (intKind PySem.Challenge.rw_sw0080_01.prog w) ok kvs ∧ (d == sysModules) = false ∧ News g1 L1 h' ((d, ok) :: ext) ∧ (∀ p ∈ news, p ∈ ext) ∧ DTab kvs ext (rest k.toNat))) ?first ?second ?third
  case third => exact fun _ _ x => x
  case first =>
    clear hret
    try k_fold
    k_steps
    unfold Halt
    rename News _ _ _ _ => N0
    obtain ⟨v, hv, d, ok, kvs, rfl, hmd, hdd, lo, hT⟩ := zhall.get (rows_get k.toNat (by (first | lia | omega)))
    refine listItem ⟨_, (N0 _ List.mem_cons_self).1, rfl, _, rfl⟩ hk0 (by (first | lia | omega)) hv ?_
    have N2 : News g1 L1 _ ((d, ok) :: zext) := fun p hp => by
      rcases List.mem_cons.mp hp with rfl | hp
      · exact N0 _ (List.mem_cons_of_mem _ hmd)
      · exact N0 _ (List.mem_cons_of_mem _ hp)
    clear N0
    walk1
    rename Fr _ _ _ _ => F3
    rename News _ _ _ _ => N3
    exact ⟨by first | rfl | trivial, d, ok, kvs, zext, _, _, rfl, F3, hdd, lo, N3, zhs, hT⟩
  case second =>
    intro f s1 hq
    unfold Halt at hq
    obtain ⟨rfl, d, ok, kvs, ext, h2, tk2, rfl, F2, hdd, lo, N2, hn2, ht⟩ := hq
    clear F1 N1
    dsimp only
    try k_fold
    k_steps
    unfold Halt
    rename Fr _ _ _ _ => F3
    rename News _ _ _ _ => N3
    rename _ ∧ AllLt _ _ => l3
    refine For_invVF F3 rfl rfl ?_
    try k_fold
    k_steps
    rename_i lt _ _
    have hlm : (l, listOf vs.toArray c) ∈ ext := hn2 _ hm
    refine kst_listL (σ := List Value × Nat × List Nat) (nn := c) (fun st => (lt, listOf (List.toArray st.1) st.2.1) :: (d, ok) :: ext) (fun st => []) (fun st => IntsAre st.1 (toI st.2.2)) []
      (fun pre st => st.2.2 = escd k.toNat (pre.map Int.toNat)) (_, _, []) rfl ?hl hi F3 N3 ?hf ?hk ?hp ?turn ?done
    case hl => intro st; exact List.mem_cons_of_mem _ (List.mem_cons_of_mem _ hlm)
    case hf => exact .nil
    case hk => kst_all
    case hp => rfl
    case turn =>
      intro st pre post n t u h tk own e1 hmem hoff hf hp F4 N4
      obtain ⟨us, cn, es⟩ := st
      simp only [kstB] at F4
      dsimp only at hf hp N4 hoff
      simp only [List.cons_append] at N4
      have hup : ∀ p ∈ ext ++ own, p.1 ≠ lt := by
        intro p hp
        rcases List.mem_append.mp hp with h | h
        · exact Nat.ne_of_lt (allLt_all l3.2 p h)
        · exact hoff p h lt (by simp)
      obtain ⟨n', hn', rfl⟩ := List.mem_map.mp hmem
      have e2 : ((n' : Int)).fmod 64 = ((n' % 64 : Nat) : Int) := fmod64n _
      have hb' := hb n' hn'
      have hlen : us.length ≤ 5000 := by
        have h1 := hf.length
        have h2 := escd_len k.toNat (pre.map Int.toNat)
        have h3 : pre.length ≤ ns.length := by
          have := congrArg List.length e1
          simp [toI] at this; (first | lia | omega)
        rw [← hp] at h2
        simp [toI] at h1 h2; (first | lia | omega)
      have hkd : (PySem.intKind PySem.Challenge.rw_sw0080_01.prog w).is ((n' : Int).fmod 64) (.int ((n' : Int).fmod 64) 0) = true := intKind_is _ _ _ _
      cases hr : rest k.toNat (n' % 64) with
      | none =>
        k_steps
        unfold Halt
        refine kda_in (knd := PySem.intKind _ _) N4 (by simp) hdd lo (intKind_is _ _ _ _) false (by rw [e2, (ht _).1 hr]; rfl) ?_
        try k_fold
        k_steps
        unfold Halt
        rename Fr _ _ _ _ => F5
        rename News _ _ _ _ => N5
        simp only [List.push_toArray] at N5
        refine kst_end (us ++ [.int n' t], cn + 1, es ++ [n']) F5 N5 ?_ ?_ rfl ?_ (fun p hp => nomatch hp) ?_ ?_
        · intro p hp
          simp only [List.mem_cons, List.mem_append] at hp ⊢
          rcases hp with h | h | h
          · exact .inl h
          · exact .inr (.inl h)
          · exact .inr (.inr (.inl h))
        · intro p hp; simp [hp]
        · exact ints_eq (IntsAre.append hf (ints_one _ _)) (by simp [toI])
        · kst_same
        · dsimp only
          simp only [List.map_append, List.map_cons, List.map_nil, Int.toNat_natCast]
          rw [hp, escd_snoc, esc1, hr]
      | some r =>
        obtain ⟨ar, ur, cr, hv, hmr, hir⟩ := (ht _).2 r hr
        have hr4 := rest_len _ _ _ hr
        try k_fold
        k_steps
        unfold Halt
        refine kda_in (knd := PySem.intKind _ _) N4 (by simp) hdd lo (intKind_is _ _ _ _) true (by rw [e2, hv]; rfl) ?_
        try k_fold
        k_steps
        unfold Halt
        rename Fr _ _ _ _ => F5
        rename News _ _ _ _ => N5
        simp only [List.push_toArray] at N5
        have N5' : ∃ tka, News g1 _ _ ((lt, listOf (List.toArray (us ++ [Value.int ((n' : Int) - (n' : Int).fmod 64 + 38) tka])) (cn + 1)) :: (d, ok) :: (ext ++ own)) := ⟨_, N5⟩
        clear N5
        obtain ⟨tka, N5⟩ := N5'
        refine kda_item (knd := PySem.intKind _ _) N5 (by simp) hdd (intKind_is _ _ _ _) (by rw [e2]; exact hv) ?_
        try k_fold
        k_steps
        unfold Halt
        rename Fr _ _ _ _ => F6
        rename News _ _ _ _ => N6
        have hul := hir.length
        simp only [toI, List.length_map] at hul
        have hrn : r ≠ [] := rest_ne hr
        have hrp : 0 < r.length := List.length_pos_iff.mpr hrn
        refine kl_extend F6 N6 (b := ar) (its2 := List.toArray ur) (n2 := cr) (by simp [hmr]) rfl (show ur.length ≠ 0 by (first | lia | omega)) (Upd.head (by
          intro p hp
          rcases List.mem_cons.mp hp with rfl | hp
          · exact Nat.ne_of_lt l3.1
          · exact hup p hp)) (fun h => by
            simp only [Builtin.List.listTooLong, Bool.and_eq_true, decide_eq_true_eq, List.size_toArray, List.length_append, List.length_cons, List.length_nil, sizeLine_eq] at h; (first | lia | omega))
            (by simp only [List.length_append, List.length_cons, List.length_nil, sizeLine_eq]; (first | lia | omega)) (by simp only [List.size_toArray, List.length_append, List.length_cons, List.length_nil, sizeLine_eq]; (first | lia | omega)) ?_
        intro h7 F7 N7
        try k_fold
        k_steps
        unfold Halt
        refine kst_end (us ++ [.int ((n' : Int) - (n' : Int).fmod 64 + 38) tka] ++ ur, cn + 1 + 1, es ++ ((n' - n' % 64 + 38) :: r)) F7 N7 ?_ ?_ rfl ?_ (fun p hp => nomatch hp) ?_ ?_
        · intro p hp
          simp only [List.mem_cons, List.mem_append] at hp ⊢
          rcases hp with h | h | h
          · exact .inl h
          · exact .inr (.inl h)
          · exact .inr (.inr (.inl h))
        · intro p hp; simp [hp]
        · refine ints_eq (IntsAre.append (IntsAre.append hf (ints_one _ _)) hir) ?_
          rw [e2]
          simp [toI]; (first | lia | omega)
        · kst_same
        · dsimp only
          simp only [List.map_append, List.map_cons, List.map_nil, Int.toNat_natCast]
          rw [hp, escd_snoc, esc1, hr]
    case done =>
      intro st u h tk hf hp F4 N4
      obtain ⟨us, cn, es⟩ := st
      simp only [kstB] at F4
      dsimp only at hf hp N4
      try k_fold
      k_steps
      refine endL hret ?_ (by assumption) (by assumption) (fun p hp => List.mem_cons_of_mem _ (hn2 p hp)) (fun p hp => allLt_all l3.2 p (hn2 p hp)) hf
      rw [hp]
      simp [toI, List.map_map, Function.comp_def]
end Mine
end
section
namespace Mine
noncomputable def rep (c : Nat) (r : List Nat) (l : List Nat) : List Nat := l.flatMap fun a => if a = c then r else [a]
noncomputable def repL (t : List (Nat × List Nat × List Nat)) (x : List Nat) : List Nat := t.foldl (fun l p => rep p.1 p.2.1 l) x
noncomputable def escT (k : Nat) (x : List Nat) : List Nat := repL (rows.getD k []) x
end Mine
end
section
open PySem PySem.W PyProof.Rows PySem.Calls
set_option Elab.async false
set_option maxRecDepth 100000
set_option maxHeartbeats 1000000
namespace Mine
open Builtin Builtin.Str in
theorem replace_len (x y z : Str) : (Txt.replace x y z).length ≤ x.length + (x.length + 1) * z.length := by
  unfold Txt.replace
  split
  · (first | lia | omega)
  · have h1 := StrLaws.occ_length_le x y 0 x.length (x.length + 1)
    have hy : (glued y (partsBetween x (occurrences x y 0 x.length (x.length + 1)) y.length)).length = x.length := by rw [StrLaws.glued_between_self]
    rw [size_glued, length_partsBetween, Nat.add_sub_cancel] at hy
    rw [size_glued, length_partsBetween, Nat.add_sub_cancel]
    have h2 : (occurrences x y 0 x.length (x.length + 1)).length * z.length ≤ (x.length + 1) * z.length := Nat.mul_le_mul_right _ h1
    (first | lia | omega)
theorem rep_free (c : Nat) (r : List Nat) : ∀ l : List Nat, c ∉ l → rep c r l = l
  | [], _ => rfl
  | k :: t, h => by
    have h1 : ¬ k = c := fun e => h (e ▸ List.mem_cons_self ..)
    have h2 : c ∉ t := fun m => h (List.mem_cons_of_mem _ m)
    have ih := rep_free c r t h2
    simp only [rep, List.flatMap_cons, if_neg h1] at ih ⊢
    rw [ih]; rfl
theorem rep_append (c : Nat) (r a b : List Nat) : rep c r (a ++ b) = rep c r a ++ rep c r b := by simp [rep]
theorem rep_join (c : Nat) (r : List Nat) : ∀ parts : List Str, (∀ p ∈ parts, c ∉ p.cps.toList) → rep c r (Str.join ⟨#[c]⟩ parts).cps.toList = (Str.join (tx r) parts).cps.toList
  | [], _ => rfl
  | [p], h => rep_free c r _ (h p (List.mem_singleton.mpr rfl))
  | p :: q :: t, h => by
    have ih := rep_join c r (q :: t) fun a ha => h a (List.mem_cons_of_mem _ ha)
    show rep c r (p ++ ⟨#[c]⟩ ++ Str.join ⟨#[c]⟩ (q :: t)).cps.toList = (p ++ tx r ++ Str.join (tx r) (q :: t)).cps.toList
    simp only [Str.cps_append, Array.toList_append]
    rw [rep_append, rep_append, ih, rep_free c r _ (h p (List.mem_cons_self ..))]
    show p.cps.toList ++ rep c r [c] ++ _ = p.cps.toList ++ (tx r).cps.toList ++ _
    simp [rep, tx]
theorem str_ext {a b : Str} (h : a.cps.toList = b.cps.toList) : a = b := by
  cases a; cases b
  congr 1
  exact Array.toList_inj.mp h
theorem replace_tx (c : Nat) (r l : List Nat) {y z : Str} (hy : y = tx [c]) (hz : z = tx r) : Txt.replace (tx l) y z = tx (rep c r l) := by
  subst hy hz
  show Txt.replace (tx l) ⟨#[c]⟩ (tx r) = _
  rw [StrLaws.replace_one]
  refine str_ext ?_
  rw [← rep_join c r _ (StrLaws.split_free _ c), StrLaws.join_split]
  simp [tx]
end Mine
end
section
open PySem PySem.W PyProof.Rows PySem.Calls
set_option Elab.async false
namespace Mine
/-- a frame with one name set -/
@[reducible] def up (x : Str) (v : Value) (m : Str → Option Value) : Str → Option Value := fun y => if y = x then some v else m y
theorem upF {h₀ h : Heap} {L : Addr} {x : Str} {v : Value} {m : Str → Option Value} (F : Fr h₀ L h (fun y => if y = x then some v else m y)) : Fr h₀ L h (up x v m) := F
theorem kstB_cons {M : Str → Option Value} {x : Str} {v : Value} {r : List (Str × Value)} : kstB M ((x, v) :: r) = up x v (kstB M r) := rfl
theorem kstB_nil {M : Str → Option Value} : kstB M [] = M := rfl
theorem up_ne {x : Str} {v : Value} {m : Str → Option Value} {z : Str} {y : Option Value} (h : z ≠ x) (e : m z = y) : up x v m z = y := (if_neg h).trans e
theorem ne_st {st : List Str} {z n : Str} (h : st.contains z = false) (hm : st.contains n = true) : z ≠ n := fun e => by rw [e, hm] at h; cases h
theorem ne_ps {ps : List (Str × Value)} {z n : Str} (h : ∀ p ∈ ps, z ≠ p.1) (hm : (ps.map (·.1)).contains n = true) : z ≠ n := by
  obtain ⟨p, hp, e⟩ := List.mem_map.mp (List.contains_iff_mem.mp hm)
  exact e ▸ h p hp
theorem st_sub {st st' : List Str} {z : Str} (h : st.contains z = false) (hs : st'.all st.contains = true) : st'.contains z = false := by
  cases e : st'.contains z with
  | false => rfl
  | true => rw [List.all_eq_true.mp hs z (List.contains_iff_mem.mp e)] at h; cases h
theorem upSame {h₀ h : Heap} {L : Addr} {m : Str → Option Value} {x : Str} {v : Value} (F : Fr h₀ L h m) (e : m x = some v) : Fr h₀ L h (up x v m) := by
  have : up x v m = m := by
    funext z
    by_cases hz : z = x
    · exact (if_pos hz).trans (hz ▸ e.symm)
    · exact if_neg hz
  rw [this]; exact F
theorem upMany {h₀ h : Heap} {L : Addr} {m : Str → Option Value} (F : Fr h₀ L h m) : ∀ (ks : List (Str × Value)) (_ : ∀ p ∈ ks, m p.1 = some p.2), Fr h₀ L h (ks.foldr (fun p f => up p.1 p.2 f) m) ∧ ks.foldr (fun p f => up p.1 p.2 f) m = m
  | [], _ => ⟨F, rfl⟩
  | p :: r, e => by
    have ih := (upMany F r fun q hq => e q (List.mem_cons_of_mem _ hq)).2
    have h1 := upSame F (e p List.mem_cons_self)
    have h2 : up p.1 p.2 (r.foldr (fun p f => up p.1 p.2 f) m) = m := by
      rw [ih]; funext z
      by_cases hz : z = p.1
      · exact (if_pos hz).trans (hz ▸ (e p List.mem_cons_self).symm)
      · exact if_neg hz
    exact ⟨by show Fr h₀ L h (up p.1 p.2 (r.foldr (fun p f => up p.1 p.2 f) m)); rw [h2]; exact F, h2⟩
/-- the frame behind the names that are still wanted: opaque -/
theorem frCut {h₀ h : Heap} {L : Addr} {m : Str → Option Value} (F : Fr h₀ L h m) (ks : List (Str × Value)) (e : ∀ p ∈ ks, m p.1 = some p.2) : ∃ M, Fr h₀ L h (ks.foldr (fun p f => up p.1 p.2 f) M) := ⟨m, (upMany F ks e).1⟩
theorem frHide {h₀ h : Heap} {L : Addr} {m : Str → Option Value} (F : Fr h₀ L h m) (ks : List (Str × Value)) (e : ∀ p ∈ ks, m p.1 = some p.2) : ∃ M, Fr h₀ L h M ∧ ∀ p ∈ ks, M p.1 = some p.2 := ⟨m, F, e⟩
/-- the frames that the loop rules hand over: what lies behind the state's names is opaque -/
theorem kstIn {h₀ h : Heap} {L : Addr} {x : Str} {v : Value} {u m₀ : Str → Option Value} {stored : List Str} {ps : List (Str × Value)} (F : Fr h₀ L h (fun y => if y = x then some v else kstB (fun z => if stored.contains z then u z else m₀ z) ps y)) :
    ∃ M, (∀ z, stored.contains z = false → M z = m₀ z) ∧ Fr h₀ L h (up x v (kstB M ps)) := ⟨_, fun z hz => if_neg (by rw [hz]; exact Bool.false_ne_true), F⟩
theorem kswIn {h₀ h : Heap} {L : Addr} {u m₀ : Str → Option Value} {stored : List Str} {ps : List (Str × Value)} (F : Fr h₀ L h (kstB (fun z => if stored.contains z then u z else m₀ z) ps)) :
    ∃ M, (∀ z, stored.contains z = false → M z = m₀ z) ∧ Fr h₀ L h (kstB M ps) := ⟨_, fun z hz => if_neg (by rw [hz]; exact Bool.false_ne_true), F⟩
theorem kstB_front {x : Str} {u B : Str → Option Value} : ∀ {ps : List (Str × Value)}, (ps.map (·.1)).contains x = false → kstB (fun y => if y = x then u y else B y) ps = fun y => if y = x then u y else kstB B ps y
  | [], _ => rfl
  | p :: r, h => by
    rw [List.map_cons, List.contains_cons, Bool.or_eq_false_iff, beq_eq_false_iff_ne] at h
    have ih := kstB_front (u := u) (B := B) h.2
    funext y
    show (if y = p.1 then some p.2 else kstB (fun y => if y = x then u y else B y) r y) = if y = x then u y else (if y = p.1 then some p.2 else kstB B r y)
    rw [ih]
    by_cases hp : y = p.1
    · rw [if_pos hp, if_neg (show ¬ y = x from fun e => h.1 (e.symm.trans hp)), if_pos hp]
    · rw [if_neg hp, if_neg hp]
theorem kstOut {h₀ h : Heap} {L : Addr} {x : Str} {u m₀ : Str → Option Value} {stored : List Str} {ps : List (Str × Value)} (F : Fr h₀ L h (fun y => if y = x then u y else kstB (fun z => if stored.contains z then u z else m₀ z) ps y)) (hx : (ps.map (·.1)).contains x = false) :
    ∃ M, (∀ z, z ≠ x → stored.contains z = false → M z = m₀ z) ∧ Fr h₀ L h (kstB M ps) :=
  ⟨fun y => if y = x then u y else (if stored.contains y then u y else m₀ y), fun z h1 h2 => (if_neg h1).trans (if_neg (by rw [h2]; exact Bool.false_ne_true)), by rw [kstB_front hx]; exact F⟩
theorem frTok {h₀ h : Heap} {L : Addr} {m : Str → Option Value} (_ : Fr h₀ L h m) (x : Str) {l : Str} (e : ∃ t, m x = some (.str l t)) : ∃ t, m x = some (.str l t) := e
section
variable {M : Model} {A : Around} {E : Value → Shared → Prop} {s : Shared} {cn : Str} {cs : Scope} {a : Addr} {ccd : Value} {cl : List (Str × Addr)} {h₀ : Heap} {L : Addr} {m : Str → Option Value} {news : List (Addr × Obj)} {x : Str} {v : Value} {Q : Unit → Shared → Prop}
theorem storeX_U (F : Fr h₀ L s.heap m) (N : News h₀ L s.heap news)
    (h : ∀ h', Fr h₀ L h' (up x v m) → News h₀ L h' news → Q () { s with heap := h', toks := s.toks + 1 })
    (hk : cs.kind = .function) (hx : (envX cn cs L a ccd cl).kindOf x = some .local) : wpAny M A (storeName (envX cn cs L a ccd cl) x v) Q E s := storeX_L F N h hk hx
end
end Mine
end
section
open PySem PySem.W PyProof.Rows PySem.Calls
set_option Elab.async false
set_option maxRecDepth 100000
set_option maxHeartbeats 1000000
namespace Mine
section
variable {M : Model} {A : Around} {E : Value → Shared → Prop} {s : Shared} {env : Env} {h₀ : Heap} {L : Addr} {m : Str → Option Value} {news : List (Addr × Obj)}
structure TxV (x : Str) (v : Str) (h₀ : Heap) (L : Addr) (m : Str → Option Value) (news : List (Addr × Obj)) (s : Shared) (f : Flow) (s₃ : Shared) : Prop where
  at_ : f = .next ∧ ∃ t h tk, s₃ = { s with heap := h, toks := tk } ∧ Fr h₀ L h (up x (.str v t) m) ∧ News h₀ L h news
end
end Mine
end
section
open PySem PySem.W PyProof.Rows PySem.Calls
set_option Elab.async false
set_option maxRecDepth 100000
set_option maxHeartbeats 8000000
namespace Mine
open Builtin.Str in
theorem notIn {x y : Str} (z : Str) (h : (!(Builtin.Str.occurrences x y 0 x.length 1).isEmpty) = false) : Txt.replace x y z = x := by
  unfold Txt.replace
  cases ho : occurrences x y 0 x.length (x.length + 1) with
  | nil => rfl
  | cons i r =>
    obtain ⟨f, hf⟩ := StrLaws.occ_chain x y (x.length + 1)
    rw [ho] at hf
    have : (!(Builtin.Str.occurrences x y 0 x.length 1).isEmpty) = true := (StrLaws.found_iff x y).mpr ⟨i, hf.2.1⟩
    rw [this] at h; cases h
/-- `if c in x: x = x.replace(c, r)`, time and again -/
inductive RepIfs (tail : List Stmt) : List Stmt → List (Nat × List Nat) → Prop where
  | done : RepIfs tail tail []
  | more {y z : Str} (c : Nat) (r : List Nat) (hy : y = tx [c]) (hz : z = tx r) (hyz : (y == z) = false) (hr : r.length ≤ 6) {i1 i2 i3 : Nat} {p1 p2 p3 p4 p5 p6 p7 p8 p9 p10 p11 : Pos} (hp : (p6.endLine == p9.line) = true) {ss : List Stmt} {cs : List (Nat × List Nat)} (h : RepIfs tail ss cs) :
    RepIfs tail (.If (.Compare (.Constant (.str y) i1 p1) [.In] [.Name (Str.ofString "text") p2] p3) [.Assign [.Name (Str.ofString "text") p4] (.Call (.Attribute (.Name (Str.ofString "text") p5) (Str.ofString "replace") p6) [.Constant (.str y) i2 p7, .Constant (.str z) i3 p8] [] p9) p10] [] p11 :: ss) ((c, r) :: cs)
noncomputable def capR : Nat → Nat → Nat
  | 0, b => b
  | n + 1, b => capR n (b + (b + 1) * 6)
theorem callText {y z : Str} {i2 i3 : Nat} {p5 p6 p7 p8 p9 : Pos} {env : Env} (hp : (p6.endLine == p9.line) = true) : eval (.Call (.Attribute (.Name (Str.ofString "text") p5) (Str.ofString "replace") p6) [.Constant (.str y) i2 p7, .Constant (.str z) i3 p8] [] p9) env = (do
      let ov ← eval (.Name (Str.ofString "text") p5) env
      standAt p6.atName
      let (f, first) ← holding [ov] (getMethod ov (Str.ofString "replace") (do return (← importBound (.Name (Str.ofString "text") p5) env).getD true))
      callWith p9 f first (backTo p9 (starEach [.Constant (.str y) i2 p7, .Constant (.str z) i3 p8] env)) []) := by
  show (do
    let ov ← eval (.Name (Str.ofString "text") p5) env
    standAt p6.atName
    methodCall (.Name (Str.ofString "text") p5) (Str.ofString "replace") p6 p9 env ov 2 (backTo p9 (starEach [.Constant (.str y) i2 p7, .Constant (.str z) i3 p8] env)) []) = _
  unfold methodCall methodCallPos
  rw [hp]
  rfl
section
variable {prog : Program} {w : World} {A : Around} {E : Value → Shared → Prop} {name : Str} {scope : Scope} {a : Addr} {cd : Value} {h₀ : Heap} {L : Addr} {news : List (Addr × Obj)}
theorem repOne {y z u : Str} {t : Tok} {b : Nat} {i1 i2 i3 : Nat} {p1 p2 p3 p4 p5 p6 p7 p8 p9 p10 p11 : Pos} {s : Shared} {m : Str → Option Value} {Q : Flow → Shared → Prop}
    (hp : (p6.endLine == p9.line) = true) (hk : scope.kind = .function) (hl : (envOf name scope L a cd).kindOf (Str.ofString "text") = some .local) (F : Fr h₀ L s.heap m) (N : News h₀ L s.heap news) (hm : m (Str.ofString "text") = some (.str u t)) (hyz : (y == z) = false) (hb : u.length ≤ b) (hz : z.length ≤ 6) (hB : b + (b + 1) * 6 ≤ 16777216)
    (h : ∀ t h tk, Fr h₀ L h (fun q => if q = Str.ofString "text" then some (.str (Txt.replace u y z) t) else m q) → News h₀ L h news → Q .next { s with heap := h, toks := tk }) :
    wpAny (model prog w) A (exec (.If (.Compare (.Constant (.str y) i1 p1) [.In] [.Name (Str.ofString "text") p2] p3) [.Assign [.Name (Str.ofString "text") p4] (.Call (.Attribute (.Name (Str.ofString "text") p5) (Str.ofString "replace") p6) [.Constant (.str y) i2 p7, .Constant (.str z) i3 p8] [] p9) p10] [] p11) (envOf name scope L a cd)) Q E s := by
  k_with_none
  k_with "call builtin:str.replace" => (refine halt ?_)
  k_with "eval Name" => ((rename Fr _ _ _ _ => zF); (k_dflt refine ld zF (by assumption) ?_ (by assumption) (by assumption) (by decide)))
  k_with "storeName" => ((rename Fr _ _ _ _ => zF); (rename News _ _ _ _ => zN); (k_dflt refine storeX_L (ccd := _) (cl := []) zF zN ?_ (by assumption) (by assumption)); intro h' F' N'; (try k_sweep))
  k_steps
  case refine_1 ho =>
    have e := notIn z (x := u) (y := y) (by rw [ho]; rfl)
    refine h t _ _ ?_ N
    have e2 : (fun q => if q = Str.ofString "text" then some (Value.str (Txt.replace u y z) t) else m q) = m := by
      funext q
      by_cases hq : q = Str.ofString "text"
      · rw [if_pos hq, hq, hm, e]
      · rw [if_neg hq]
    rw [e2]
    exact zF
  refine MethodCall_ ?_ (callText hp)
  k_steps
  unfold Halt
  refine SC.replace (Nat.ne_of_gt (Nat.succ_pos _)) (Nat.ne_of_gt (Nat.succ_pos _)) (Nat.ne_of_lt (Nat.lt_succ_self _)) hyz (Nat.le_trans (Nat.add_le_add hb (Nat.mul_le_mul (Nat.succ_le_succ hb) hz)) hB) ?_
  intro t' k
  k_steps
  exact h t' _ _ (by assumption) (by assumption)
theorem repTx {c : Nat} {r l : List Nat} {b : Nat} (hb : l.length ≤ b) (hr : r.length ≤ 6) : (rep c r l).length ≤ b + (b + 1) * 6 := by
  have h1 : (Txt.replace (tx l) (tx [c]) (tx r)).length ≤ (tx l).length + ((tx l).length + 1) * (tx r).length := replace_len _ _ _
  rw [replace_tx c r l rfl rfl, tx_length, tx_length, tx_length] at h1
  exact Nat.le_trans h1 (Nat.add_le_add hb (Nat.mul_le_mul (Nat.succ_le_succ hb) hr))
theorem repAll {all tail : List Stmt} {cs : List (Nat × List Nat)} (R : RepIfs tail all cs) (hk : scope.kind = .function) (hl : (envOf name scope L a cd).kindOf (Str.ofString "text") = some .local) {m : Str → Option Value} {Q : Flow → Shared → Prop} :
    ∀ (s : Shared) (l : List Nat) (t : Tok) (b : Nat), l.length ≤ b → capR cs.length b ≤ 16777216 → Fr h₀ L s.heap (fun q => if q = Str.ofString "text" then some (.str (tx l) t) else m q) → News h₀ L s.heap news →
    (∀ t h tk, Fr h₀ L h (fun q => if q = Str.ofString "text" then some (.str (tx (cs.foldl (fun l p => rep p.1 p.2 l) l)) t) else m q) → News h₀ L h news → wpAny (model prog w) A (execs tail (envOf name scope L a cd)) Q E { s with heap := h, toks := tk }) →
    wpAny (model prog w) A (execs all (envOf name scope L a cd)) Q E s := by
  induction R with
  | done => intro s l t b hb hc F N h; exact h t _ _ F N
  | @more y z c r hy hz hyz hr i1 i2 i3 p1 p2 p3 p4 p5 p6 p7 p8 p9 p10 p11 hp ss cs R ih =>
    intro s l t b hb hc F N h
    have hb1 : b ≤ b + (b + 1) * 6 := Nat.le_add_right _ _
    have hcap : ∀ n b, b ≤ capR n b := fun n => by
      induction n with
      | zero => intro b; exact Nat.le_refl b
      | succ n ihn => intro b; exact Nat.le_trans (Nat.le_add_right _ _) (ihn _)
    refine wpAny_execs_cons (repOne hp hk hl F N (if_pos rfl) hyz (by rw [tx_length]; exact hb) (by rw [hz, tx_length]; exact hr) (Nat.le_trans (hcap cs.length _) hc) ?_)
    intro t' h' tk' F' N'
    rw [replace_tx c r l hy hz] at F'
    refine ih _ _ t' _ (repTx (c := c) (l := l) hb hr) hc ?_ N' ?_
    · have e : (fun q => if q = Str.ofString "text" then some (Value.str (tx (rep c r l)) t') else if q = Str.ofString "text" then some (Value.str (tx l) t) else m q) = (fun q => if q = Str.ofString "text" then some (Value.str (tx (rep c r l)) t') else m q) := by
        funext q
        by_cases hq : q = Str.ofString "text"
        · rw [if_pos hq, if_pos hq]
        · rw [if_neg hq, if_neg hq, if_neg hq]
      rw [e] at F'
      exact F'
    · intro t2 h2 tk2 F2 N2
      exact h t2 h2 tk2 F2 N2
theorem repGo {all tail : List Stmt} {cs : List (Nat × List Nat)} {m : Str → Option Value} {Q : Flow → Shared → Prop} {s : Shared} {l : List Nat} {t : Tok} (R : RepIfs tail all cs) (F : Fr h₀ L s.heap m) (hm : m (Str.ofString "text") = some (.str (tx l) t)) (N : News h₀ L s.heap news) (hb : l.length ≤ 13) (hc : capR cs.length 13 ≤ 16777216)
    (h : ∀ t h tk, Fr h₀ L h (fun q => if q = Str.ofString "text" then some (.str (tx (cs.foldl (fun l p => rep p.1 p.2 l) l)) t) else m q) → News h₀ L h news → wpAny (model prog w) A (execs tail (envOf name scope L a cd)) Q E { s with heap := h, toks := tk })
    (hk : scope.kind = .function := by rfl) (hl : (envOf name scope L a cd).kindOf (Str.ofString "text") = some .local := by rfl) :
    wpAny (model prog w) A (execs all (envOf name scope L a cd)) Q E s := by
  refine repAll R hk hl s l t 13 hb hc ?_ N h
  have e : (fun q => if q = Str.ofString "text" then some (Value.str (tx l) t) else m q) = m := by
    funext q
    by_cases hq : q = Str.ofString "text"
    · rw [if_pos hq, hq, hm]
    · rw [if_neg hq]
  rw [e]
  exact F
end
end Mine
end
section
open PySem PySem.W PyProof.Rows
set_option Elab.async false
set_option maxRecDepth 100000
set_option maxHeartbeats 8000000
namespace Mine
theorem c_ec0 (w : World) (news : List (Addr × Obj)) (x : List Nat) (t : Tok) (hx : x.length ≤ 13) : GivesV w news (call (.ref 223) [.str (tx x) t]) 1 8 (fun t => .str (tx (escT 0 x)) t) := by
  k_with_none
  k_with "execs cons" => ((with_reducible show wpAny _ _ (execs (Stmt.If _ _ _ _ :: _) _) _ _ _); (refine halt ?_))
  unfold GivesV
  w_top off
  k_fill
  intro loose mean mg mb dp un gd cn cs a ccd cl outer A₀ base h₀ L m s Q E B F X N T hk hdp hun hret
  refine wpAny_call ?_
  k_dflt cell_enter
  k_steps
  unfold Halt
  rename Fr _ _ _ _ => F1
  rename News _ _ _ _ => N1
  refine repGo (.more 38 [38, 97, 109, 112, 59] (by decide) (by decide) (by decide) (by decide) rfl (.more 60 [38, 108, 116, 59] (by decide) (by decide) (by decide) (by decide) rfl (.more 62 [38, 103, 116, 59] (by decide) (by decide) (by decide) (by decide) rfl .done))) F1 rfl N1 hx (by decide) ?_
  intro t1 h1 tk1 F2 N2
  k_steps
  exact cb_retS hret rfl (by assumption) (by assumption)
theorem c_ec1 (w : World) (news : List (Addr × Obj)) (x : List Nat) (t : Tok) (hx : x.length ≤ 13) : GivesV w news (call (.ref 230) [.str (tx x) t]) 1 8 (fun t => .str (tx (escT 1 x)) t) := by
  k_with_none
  k_with "execs cons" => ((with_reducible show wpAny _ _ (execs (Stmt.If _ _ _ _ :: _) _) _ _ _); (refine halt ?_))
  unfold GivesV
  w_top off
  k_fill
  intro loose mean mg mb dp un gd cn cs a ccd cl outer A₀ base h₀ L m s Q E B F X N T hk hdp hun hret
  refine wpAny_call ?_
  k_dflt cell_enter
  k_steps
  unfold Halt
  rename Fr _ _ _ _ => F1
  rename News _ _ _ _ => N1
  refine repGo (.more 38 [38, 97, 109, 112, 59] (by decide) (by decide) (by decide) (by decide) rfl (.more 60 [38, 108, 116, 59] (by decide) (by decide) (by decide) (by decide) rfl (.more 62 [38, 103, 116, 59] (by decide) (by decide) (by decide) (by decide) rfl (.more 34 [38, 113, 117, 111, 116, 59] (by decide) (by decide) (by decide) (by decide) rfl (.more 13 [38, 35, 49, 51, 59] (by decide) (by decide) (by decide) (by decide) rfl (.more 10 [38, 35, 49, 48, 59] (by decide) (by decide) (by decide) (by decide) rfl (.more 9 [38, 35, 48, 57, 59] (by decide) (by decide) (by decide) (by decide) rfl .done))))))) F1 rfl N1 hx (by decide) ?_
  intro t1 h1 tk1 F2 N2
  k_steps
  exact cb_retS hret rfl (by assumption) (by assumption)
theorem c_ec2 (w : World) (news : List (Addr × Obj)) (x : List Nat) (t : Tok) (hx : x.length ≤ 13) : GivesV w news (call (.ref 237) [.str (tx x) t]) 1 8 (fun t => .str (tx (escT 2 x)) t) := by
  k_with_none
  k_with "execs cons" => ((with_reducible show wpAny _ _ (execs (Stmt.If _ _ _ _ :: _) _) _ _ _); (refine halt ?_))
  unfold GivesV
  w_top off
  k_fill
  intro loose mean mg mb dp un gd cn cs a ccd cl outer A₀ base h₀ L m s Q E B F X N T hk hdp hun hret
  refine wpAny_call ?_
  k_dflt cell_enter
  k_steps
  unfold Halt
  rename Fr _ _ _ _ => F1
  rename News _ _ _ _ => N1
  refine repGo (.more 38 [38, 97, 109, 112, 59] (by decide) (by decide) (by decide) (by decide) rfl (.more 62 [38, 103, 116, 59] (by decide) (by decide) (by decide) (by decide) rfl (.more 34 [38, 113, 117, 111, 116, 59] (by decide) (by decide) (by decide) (by decide) rfl .done))) F1 rfl N1 hx (by decide) ?_
  intro t1 h1 tk1 F2 N2
  k_steps
  exact cb_retS hret rfl (by assumption) (by assumption)
theorem c_ec3 (w : World) (news : List (Addr × Obj)) (x : List Nat) (t : Tok) (hx : x.length ≤ 13) : GivesV w news (call (.ref 244) [.str (tx x) t]) 1 8 (fun t => .str (tx (escT 3 x)) t) := by
  k_with_none
  k_with "execs cons" => ((with_reducible show wpAny _ _ (execs (Stmt.If _ _ _ _ :: _) _) _ _ _); (refine halt ?_))
  unfold GivesV
  w_top off
  k_fill
  intro loose mean mg mb dp un gd cn cs a ccd cl outer A₀ base h₀ L m s Q E B F X N T hk hdp hun hret
  refine wpAny_call ?_
  k_dflt cell_enter
  k_steps
  unfold Halt
  rename Fr _ _ _ _ => F1
  rename News _ _ _ _ => N1
  refine repGo (.more 38 [38, 97, 109, 112, 59] (by decide) (by decide) (by decide) (by decide) rfl (.more 60 [38, 108, 116, 59] (by decide) (by decide) (by decide) (by decide) rfl (.more 62 [38, 103, 116, 59] (by decide) (by decide) (by decide) (by decide) rfl (.more 13 [38, 35, 120, 68, 59] (by decide) (by decide) (by decide) (by decide) rfl .done)))) F1 rfl N1 hx (by decide) ?_
  intro t1 h1 tk1 F2 N2
  k_steps
  exact cb_retS hret rfl (by assumption) (by assumption)
theorem c_ec4 (w : World) (news : List (Addr × Obj)) (x : List Nat) (t : Tok) (hx : x.length ≤ 13) : GivesV w news (call (.ref 251) [.str (tx x) t]) 1 8 (fun t => .str (tx (escT 4 x)) t) := by
  k_with_none
  k_with "execs cons" => ((with_reducible show wpAny _ _ (execs (Stmt.If _ _ _ _ :: _) _) _ _ _); (refine halt ?_))
  unfold GivesV
  w_top off
  k_fill
  intro loose mean mg mb dp un gd cn cs a ccd cl outer A₀ base h₀ L m s Q E B F X N T hk hdp hun hret
  refine wpAny_call ?_
  k_dflt cell_enter
  k_steps
  unfold Halt
  rename Fr _ _ _ _ => F1
  rename News _ _ _ _ => N1
  refine repGo (.more 38 [38, 97, 109, 112, 59] (by decide) (by decide) (by decide) (by decide) rfl (.more 60 [38, 108, 116, 59] (by decide) (by decide) (by decide) (by decide) rfl (.more 34 [38, 113, 117, 111, 116, 59] (by decide) (by decide) (by decide) (by decide) rfl (.more 9 [38, 35, 120, 57, 59] (by decide) (by decide) (by decide) (by decide) rfl (.more 10 [38, 35, 120, 65, 59] (by decide) (by decide) (by decide) (by decide) rfl (.more 13 [38, 35, 120, 68, 59] (by decide) (by decide) (by decide) (by decide) rfl .done)))))) F1 rfl N1 hx (by decide) ?_
  intro t1 h1 tk1 F2 N2
  k_steps
  exact cb_retS hret rfl (by assumption) (by assumption)
end Mine
end
section
open PySem PySem.W PyProof.Rows PySem.Calls
set_option Elab.async false
set_option maxRecDepth 100000
set_option maxHeartbeats 1000000
namespace Mine
noncomputable def liObj (l : Addr) (i : Nat) : Obj := { cls := .type "list_iterator", data := .fields #[.ref l, .int i 0] }
section
variable {prog : Program} {w : World} {A : Around} {E : Value → Shared → Prop} {s : Shared} {h₀ : Heap} {L I l : Addr} {m : Str → Option Value} {news own post : List (Addr × Obj)} {vs : List Value} {i c : Nat}
theorem li_iter {Q : Value → Shared → Prop} (F : Fr h₀ L s.heap m) (N : News h₀ L s.heap news) (hl : (l, listOf vs.toArray c) ∈ news)
    (h : ∀ I h', Fr h₀ L h' m → News h₀ L h' ((I, liObj l 0) :: news) → (∀ p ∈ news, p.1 < I) → Q (.ref I) { s with heap := h' }) :
    wpAny (model prog w) A (call (.builtin "iter") [.ref l]) Q E s := by
  refine call_function_entry (by decide +kernel) (by decide +kernel) kdk_entry_iter (kdk_args_iter _) ?_
  unfold Builtin.«iter»
  refine wpAny_bind (m := someArgs "iter" 1 2 _) (wpAny_of_eq (a := [Value.ref l]) (by first | rfl | kernel_rfl!) ?_)
  show wpAny _ _ (pyIter (.ref l) >>= _) _ _ _
  refine wpAny_bind (wpAny_pyIter_list ⟨_, (N _ hl).1, rfl, _, rfl⟩ ?_)
  exact wpAny_pure ⟨_, rfl, h _ _ (F.push _) (News.push F N _ rfl) fun q hq => Heap.lt_size (N q hq).1⟩
theorem li_next {x : Value} {Q : Value → Shared → Prop} (F : Fr h₀ L s.heap m) (N : News h₀ L s.heap (own ++ (I, liObj l i) :: post)) (hl : (l, listOf vs.toArray c) ∈ own ++ (I, liObj l i) :: post) (h1 : ∀ p ∈ own, p.1 ≠ I) (h2 : ∀ p ∈ post, p.1 ≠ I)
    (hx : vs[i]? = some x) (h : ∀ h', Fr h₀ L h' m → News h₀ L h' (own ++ (I, liObj l (i + 1)) :: post) → Q x { s with heap := h' }) :
    wpAny (model prog w) A (call (.builtin "next") [.ref I]) Q E s := by
  have hm := N (I, liObj l i) (List.mem_append_right _ (.head _))
  have ho := hm.1
  have hit : s.heap.IsListIter I l i := ⟨_, ho, rfl, rfl⟩
  refine call_function_entry (by decide +kernel) (by decide +kernel) kdk_entry_next (kdk_args_next _) ?_
  unfold Builtin.«next»
  refine wpAny_bind (m := someArgs "next" 1 2 _) (wpAny_of_eq (a := [Value.ref I]) (by first | rfl | kernel_rfl!) ?_)
  dsimp only
  refine wpAny_bind (wpAny_specialOf (name := Str.ofString "__next__") hit.typeIs slot_listiter_next.lookup ?_)
  refine wpAny_ite_split (fun hab => absurd hab (by decide)) (fun _ => ?_)
  refine wpAny_bind (wpAny_callSpecial?_slot (name := Str.ofString "__next__") hit.typeIs slot_listiter_next
    (wpAny_call_entry slot_listiter_next hit.typeIs entry_listiter_next ?_ (args_listiter_next _)))
  show wpAny _ _ (field (.ref I) 0 >>= _) _ _ s
  refine wpAny_bind (wpAny_field ho rfl (x := .ref l) rfl ?_)
  show wpAny _ _ (if (Value.ref l == Value.none) = true then _ else _) _ _ s
  rw [if_neg (show ¬ ((Value.ref l == Value.none) = true) from Bool.false_ne_true)]
  show wpAny _ _ (field (.ref I) 1 >>= _) _ _ s
  refine wpAny_bind (wpAny_field ho rfl (x := .int i 0) rfl ?_)
  show wpAny _ _ (seqItems? (.ref l) >>= _) _ _ s
  refine wpAny_bind (wpAny_seqItems (N _ hl).1 rfl ?_)
  have hx' : vs.toArray[i]? = some x := by simpa using hx
  simp only [Int.toNat_natCast, hx']
  refine wpAny_bind (wpAny_setField ho rfl (by simp [liObj]) (wpAny_pure ⟨x, rfl, wpAny_pure ⟨_, rfl, ?_⟩⟩))
  refine h _ (F.change (Heap.SameBut.update ..) hm.2.1 hm.2.2) (N.setIn h1 h2 (Heap.SameBut.update ..) ?_)
  exact Heap.get?_update_self _ ho rfl
theorem li_end {Q : Value → Shared → Prop} (hh : A.handled = none) (F : Fr h₀ L s.heap m) (N : News h₀ L s.heap (own ++ (I, liObj l i) :: post)) (hl : (l, listOf vs.toArray c) ∈ own ++ (I, liObj l i) :: post) (h1 : ∀ p ∈ own, p.1 ≠ I) (h2 : ∀ p ∈ post, p.1 ≠ I)
    (hx : vs[i]? = none) (hE : ∀ h h' e o, Fr h₀ L h m → News h₀ L h (own ++ (I, o) :: post) → Heap.NewExc h h' e "StopIteration" → E (.ref e) { s with heap := h' }) :
    wpAny (model prog w) A (call (.builtin "next") [.ref I]) Q E s := by
  have hm := N (I, liObj l i) (List.mem_append_right _ (.head _))
  have ho := hm.1
  have hit : s.heap.IsListIter I l i := ⟨_, ho, rfl, rfl⟩
  refine call_function_entry (by decide +kernel) (by decide +kernel) kdk_entry_next (kdk_args_next _) ?_
  unfold Builtin.«next»
  refine wpAny_bind (m := someArgs "next" 1 2 _) (wpAny_of_eq (a := [Value.ref I]) (by first | rfl | kernel_rfl!) ?_)
  dsimp only
  refine wpAny_bind (wpAny_specialOf (name := Str.ofString "__next__") hit.typeIs slot_listiter_next.lookup ?_)
  refine wpAny_ite_split (fun hab => absurd hab (by decide)) (fun _ => ?_)
  refine wpAny_bind (wpAny_callSpecial?_slot (name := Str.ofString "__next__") hit.typeIs slot_listiter_next
    (wpAny_call_entry slot_listiter_next hit.typeIs entry_listiter_next ?_ (args_listiter_next _)))
  show wpAny _ _ (field (.ref I) 0 >>= _) _ _ s
  refine wpAny_bind (wpAny_field ho rfl (x := .ref l) rfl ?_)
  show wpAny _ _ (if (Value.ref l == Value.none) = true then _ else _) _ _ s
  rw [if_neg (show ¬ ((Value.ref l == Value.none) = true) from Bool.false_ne_true)]
  show wpAny _ _ (field (.ref I) 1 >>= _) _ _ s
  refine wpAny_bind (wpAny_field ho rfl (x := .int i 0) rfl ?_)
  show wpAny _ _ (seqItems? (.ref l) >>= _) _ _ s
  refine wpAny_bind (wpAny_seqItems (N _ hl).1 rfl ?_)
  have hx' : vs.toArray[i]? = none := by simpa using hx
  simp only [Int.toNat_natCast, hx']
  refine wpAny_bind (wpAny_rule (wpAny_bind (wpAny_setField ho rfl (by simp [liObj]) ?_)))
  show wpAny _ _ (newExc (.type "StopIteration") [] >>= _) _ _ _
  refine wpAny_bind ?_
  simp only [newExc, newTuple]
  refine wpAny_bind (wpAny_newObj_type ?_ (by size_fits))
  refine wpAny_bind (m := firstArgMember _ _) (wpAny_of_eq (a := Value.none) (by first | rfl | (simp only [firstArgMember]; rfl)) ?_)
  refine wpAny_newObj_type ?_ (by size_fits)
  simp only [raiseNew]
  refine wpAny_bind (wpAny_handled ?_)
  first | rw [show A.in1.handled = none from hh] | rw [hh]
  refine wpAny_bind (wpAny_pure (wpAny_throw ?_))
  refine hE (s.heap.update I (Obj.mapFields (·.setIfInBounds 0 Value.none))) _ _ _ (F.change (Heap.SameBut.update ..) hm.2.1 hm.2.2) (N.setIn h1 h2 (Heap.SameBut.update ..) (Heap.get?_update_self _ ho rfl)) ?_
  refine ⟨fun b o hb => Heap.get?_push_of_some _ (Heap.get?_push_of_some _ hb), Heap.get?_none_of_le ?_, _, Value.ref (s.heap.update I (Obj.mapFields (·.setIfInBounds 0 Value.none))).objs.size, Heap.get?_push_size _ rfl, rfl, ?_⟩
  · simp [Heap.size_push]
  · rfl
end
end Mine
end
section
open PySem PySem.W PyProof.Rows PySem.Calls
set_option Elab.async false
set_option maxRecDepth 100000
set_option maxHeartbeats 1000000
namespace Mine
section
variable {prog : Program} {w : World} {A₀ A : Around} {s : Shared} {h₀ : Heap} {L a : Addr} {m : Str → Option Value} {cn : Str} {cs : Scope} {ccd : Value} {cl : List (Str × Addr)} {news : List (Addr × Obj)} {K : Frag} {p : Program} {loose : List Str} {mean : ExcName → Option Value} {mg mb : Str → Option Value}
  {R : Result → Shared → Prop} {name qual : Str} {params : Arguments} {body : List Stmt} {scope : Scope} {dV kV doc pm cdv ct oc : Value} {an od : Option Addr} {osl : Array (Option Value)} {f : Addr} {args : Args} {binds : List (Str × Value)}
/-- a def is entered whose own try may catch what came through frames: on the way back the caller's frame may have changed its slots -/
theorem callS (B : Below A₀ h₀ [] h₀) (F : Fr h₀ L s.heap m) (X₀ : K.In h₀) (N : News h₀ L s.heap news) (T : Top p loose mean mg mb h₀) (hA : A.frames = some [envX cn cs L a ccd cl]) (hke : cs.kind = .function)
    (ho : K.lookup f = some ⟨oc, od, .func (fnOf name qual params body scope dV kV doc pm an cdv ct), osl⟩) (hcd : codeIn K cdv qual = true) (hroom : A.depth < recursionLimit)
    (hbind : BindsTo s (fnOf name qual params body scope dV kV doc pm an cdv ct) args binds) (hloc : ∀ y ∈ binds, scope.names.lookup y.1 = some .local)
    (h : ∀ g L' h₁, Fr h₀ L g m → Fr g L' h₁ (fun y => binds.reverse.lookup y) → News g L' h₁ news → Below A h₀ [envX cn cs L a ccd cl] g → K.In g → Top p loose mean mg mb g → KtsDicts [L] g →
      wpAny (model prog w) (A.deeper (envOf qual scope L' f cdv)) (execs body (envOf qual scope L' f cdv))
        (fun fl s' => LeaveS0 [L] h₀ L m g R (match fl with | .ret v => v | _ => .none) s')
        (fun e s' => wpAny (model prog w) (A.deeper (envOf qual scope L' f cdv)) (leaving (envOf qual scope L' f cdv) e) (fun _ s'' => R (.error e) s'') (fun e' s'' => R (.error e') s'') s')
        { s with heap := h₁, toks := s.toks + binds.length })
    (hco : scope.isCoroutine = false) (hgen : scope.isGenerator = false) (hk : scope.kind = .function)
    (hcell : ∀ x ∈ scope.names, x.2 ≠ .cell) : codeAny (model prog w) A (.call (.ref f) args) R s := by
  obtain ⟨FG, BG, st, _⟩ := groundX (R := R) (env := envX cn cs L a ccd cl) B F N hA rfl hke
  have X := X₀.keeps F.keep
  refine codeAny_call_def (fd := fnOf name qual params body scope dV kV doc pm an cdv ct) (body := body) (binds := binds) hroom (X _ _ ho) rfl (T.nolimit.keeps F.keep) (codeRec_of X hcd) rfl hbind hcell hloc (fun h₁ hns hk₁ => ?_) hco hgen hk
  obtain ⟨oL, es, ep, hLg, hLd, hLk, hLf⟩ := FG.ns
  have nL₀ : h₀.get? L = none := kts_self F
  refine wpAny_mono (h _ s.heap.objs.size h₁ FG ⟨hns, fun b o e => hk₁ b o (of_hideAll _ e), Nat.le_of_eq (hideAll_size _ _)⟩
    (fun p hp => ⟨hk₁ _ _ (N p hp).1, Nat.ne_of_lt (Heap.lt_size (N p hp).1), hideAll_none _ (List.mem_map_of_mem hp)⟩) BG (X₀.keeps st) (T.keeps st)
    (fun b hb => by rw [List.mem_singleton.mp hb]; exact ⟨oL, es, ep, hLg, hLd⟩)) (fun fl s' hl => ?_) fun _ _ y => y
  obtain ⟨g', L', m', news', T', F', N', k⟩ := hl
  obtain ⟨sl, hs⟩ := T'.up hLg
  refine k ⟨⟨_, es, ep, F'.keep _ _ hs, hLd, hLk, hLf⟩, fun b o e => F'.keep b o (T'.other b o (st b o e) fun q => ?_), F.above⟩ fun p hp => ⟨(N' p hp).1, fun q => ?_, ?_⟩
  · rw [List.mem_singleton.mp q, nL₀] at e; cases e
  · have := (N' p hp).2.2; rw [q, hs] at this; cases this
  · cases q : h₀.get? p.1 with
    | none => rfl
    | some o =>
      obtain ⟨sl', hs'⟩ := T'.up (st _ _ q)
      have := (N' p hp).2.2
      rw [hs'] at this; cases this
end
end Mine
end
section
namespace Mine
noncomputable def rd : Nat → List Nat → Option (Nat × List Nat)
  | _, [] => none
  | v, b :: r => if 64 ≤ b then rd (v * 64 + b % 64) r else some (v * 64 + b % 64, r)
theorem rd_pre : ∀ (n : Nat) (tail : List Nat), rd 0 (dPre n ++ tail) = rd n tail := by
  intro n
  induction n using Nat.strongRecOn with
  | ind n ih =>
    intro tail
    by_cases h : n = 0
    · subst h; rw [dPre_zero]; rfl
    · rw [dPre_pos h, List.append_assoc, ih (n / 64) (by (first | lia | omega))]
      show (if 64 ≤ 64 + n % 64 then rd (n / 64 * 64 + (64 + n % 64) % 64) tail else _) = _
      rw [if_pos (by (first | lia | omega))]
      congr 1; (first | lia | omega)
theorem rd_oct (n : Nat) (r : List Nat) : rd 0 (dOct n ++ r) = some (n, r) := by
  rw [dOct, List.append_assoc, rd_pre]
  show (if 64 ≤ n % 64 then _ else some (n / 64 * 64 + n % 64 % 64, r)) = _
  rw [if_neg (by (first | lia | omega))]
  congr 2; (first | lia | omega)
theorem rd_ge : ∀ (l : List Nat) (v n : Nat) (r : List Nat), rd v l = some (n, r) → v ≤ n ∧ r.length < l.length ∧ r = l.drop (l.length - r.length)
  | [], _, _, _, h => nomatch h
  | b :: t, v, n, r, h => by
    rw [rd] at h
    split at h
    · have := rd_ge t _ n r h
      refine ⟨by (first | lia | omega), by simp; (first | lia | omega), ?_⟩
      rw [List.length_cons, show t.length + 1 - r.length = (t.length - r.length) + 1 by (first | lia | omega), List.drop_succ_cons]
      exact this.2.2
    · cases h
      refine ⟨by (first | lia | omega), by simp, ?_⟩
      simp
end Mine
end
section
open PySem PySem.W PyProof.Rows
set_option Elab.async false
set_option maxRecDepth 100000
set_option maxHeartbeats 8000000
set_option pp.deepTerms.threshold 6
set_option pp.maxSteps 8000
set_option linter.unusedVariables false
namespace Mine
def GivesU (w : World) (news news' : List (Addr × Obj)) (t : Sem Value) (d u : Nat) (v : Tok → Value) : Prop :=
  ∀ (loose : List Str) (mean : ExcName → Option Value) (mg mb : Str → Option Value)
  (dp un : Nat) (gd : Option (List Code)) (cn : Str) (cs : Scope) (a : Addr) (ccd : Value) (cl : List (Str × Addr)) (outer : List Env) (A₀ : Around) (base h₀ : Heap) (L : Addr) (m : Str → Option Value) (s : Shared) (Q E : Value → Shared → Prop)
  (B : Below A₀ base outer h₀) (F : Fr h₀ L s.heap m) (X : (Mine.heap w.params).In h₀) (N : News h₀ L s.heap news) (T : Top Mine.view loose mean mg mb h₀) (hk : cs.kind = .function)
  (hdp : dp + d < recursionLimit) (hun : un + u < cLine)
  (hret : ∀ t h' tk, Fr h₀ L h' m → News h₀ L h' news' → Q (v t) { s with heap := h', toks := tk }),
  wpAny (model PySem.Challenge.rw_sw0080_01.prog w) (ktrTop dp un gd cn cs L a ccd cl outer) t Q E s
theorem c_vi (w : World) (own post : List (Addr × Obj)) (I l : Addr) (vs : List Value) (c : Nat) (ls : List Nat) (i n j : Nat) (rst : List Nat) (h1 : ∀ p ∈ own, p.1 ≠ I) (h2 : ∀ p ∈ post, p.1 ≠ I)
   (hl : (l, listOf vs.toArray c) ∈ own ∨ (l, listOf vs.toArray c) ∈ post) (hi : IntsAre vs (toI ls)) (hb : ∀ x ∈ ls, x < 128) (hn : n < 2^40) (hrd : rd 0 (ls.drop i) = some (n, rst)) (hj : j + rst.length = ls.length) :
   GivesU w (own ++ (I, liObj l i) :: post) (own ++ (I, liObj l j) :: post) (call (.ref 195) [.ref I]) 1 8 (fun t => .int n t) := by
  k_with_none
  k_with "call builtin:next" => (refine halt ?_)
  k_with "exec While BinOp" => (refine halt ?_)
  k_with "KswEnd" => (refine halt ?_)
  have hl' : ∀ o, (l, listOf vs.toArray c) ∈ own ++ (I, o) :: post := fun o => by
    rcases hl with h | h
    · exact List.mem_append_left _ h
    · exact List.mem_append_right _ (List.mem_cons_of_mem _ h)
  unfold GivesU
  w_top off
  k_fill
  intro loose mean mg mb dp un gd cn cs a ccd cl outer A₀ base h₀ L m s Q E B F X N T hk hdp hun hret
  refine wpAny_call ?_
  k_dflt cell_enter
  k_steps
  unfold Halt
  rename Fr _ _ _ _ => F1
  rename News _ _ _ _ => N1
  cases hx : ls.drop i with
  | nil => rw [hx] at hrd; cases hrd
  | cons b r =>
    have hlen := congrArg List.length hx
    simp only [List.length_drop, List.length_cons] at hlen
    have hbi : ls[i]? = some b := by
      have := congrArg (fun l => l[0]?) hx
      simpa using this
    have hr : ls.drop (i + 1) = r := by
      have := congrArg List.tail hx
      simpa using this
    obtain ⟨x, hxv, tb, rfl⟩ : ∃ x, vs[i]? = some x ∧ ∃ t, x = .int b t := by
      have hlv := hi.length
      have hlt : i < vs.length := by rw [hlv]; simp [toI]; (first | lia | omega)
      obtain ⟨k, t, e, hk⟩ := IntsAre.at hi i vs[i] (by simp [hlt])
      refine ⟨vs[i], by simp [hlt], t, ?_⟩
      rw [e]
      have : (toI ls)[i]? = some ((b : Nat) : Int) := by simp [toI, hbi]
      rw [this] at hk
      cases hk; rfl
    refine li_next F1 N1 (hl' _) h1 h2 hxv fun h F2 N2 => ?_
    clear F1 N1
    k_steps
    unfold Halt
    rename Fr _ _ _ _ => F'
    rename News _ _ _ _ => N'
    rw [hx] at hrd
    have hm6 : ∀ x : Nat, Builtin.bitAnd (x : Int) 63 = ((x % 64 : Nat) : Int) := fun x => by rw [bitAnd_m6]; (first | lia | omega)
    have hb6 : ∀ x : Nat, Builtin.bitAnd (x : Int) 64 = ((x / 64 % 2 * 64 : Nat) : Int) := fun x => by have := kbt_bit x 6; rw [show ((2 : Int) ^ 6) = 64 by decide] at this; rw [this]; (first | lia | omega)
    have hdrop : ∀ (j b : Nat) (t : List Nat), ls.drop j = b :: t → (∃ tb, vs[j]? = some (.int b tb)) ∧ ls.drop (j + 1) = t ∧ b < 128 := by
      intro j b t hx
      have hbi : ls[j]? = some b := by
        have := congrArg (fun l => l[0]?) hx
        simpa using this
      have hlen := congrArg List.length hx
      simp only [List.length_drop, List.length_cons] at hlen
      refine ⟨?_, by have := congrArg List.tail hx; simpa using this, hb _ (List.mem_of_getElem? hbi)⟩
      have hlv := hi.length
      have hlt : j < vs.length := by rw [hlv]; simp [toI]; (first | lia | omega)
      obtain ⟨k, t, e, hk⟩ := IntsAre.at hi j vs[j] (by simp [hlt])
      refine ⟨t, ?_⟩
      have : (toI ls)[j]? = some ((b : Nat) : Int) := by simp [toI, hbi]
      rw [this] at hk
      cases hk
      simp [hlt, e]
    have hor : ∀ v x : Nat, x < 64 → Builtin.bitOr ((v : Int) * 2 ^ 6) (x : Int) = ((v * 64 + x : Nat) : Int) := fun v x h => by
      have e0 : ((v : Int) * 2 ^ 6) = ((v * 64 : Nat) : Int) := by (first | lia | omega)
      have e1 : Builtin.bitAnd ((v : Int) * 2 ^ 6) (x : Int) = 0 := by
        rw [e0]
        show ((((v * 64 : Nat) : Int).toNat &&& ((x : Nat) : Int).toNat : Nat) : Int) = 0
        rw [Int.toNat_natCast, Int.toNat_natCast]
        have : v * 64 &&& x = 0 := by
          refine Nat.eq_of_testBit_eq fun i => ?_
          rw [Nat.testBit_and, Nat.zero_testBit]
          by_cases h6 : i < 6
          · rw [show v * 64 = 2 ^ 6 * v by (first | lia | omega), Nat.testBit_two_pow_mul]
            simp; (first | lia | omega)
          · have : x.testBit i = false := Nat.testBit_lt_two_pow (Nat.lt_of_lt_of_le h (show 2 ^ 6 ≤ 2 ^ i from Nat.pow_le_pow_right (by decide) (by (first | lia | omega))))
            rw [this, Bool.and_false]
        rw [this]; rfl
      have e2 := bitXor_and ((v : Int) * 2 ^ 6) (x : Int)
      unfold Builtin.bitXor at e2
      rw [e1] at e2
      (first | lia | omega)
    refine' ksw_while (σ := Nat × Tok × Nat × Tok × Nat) (fun c => own ++ (I, liObj l c.2.2.2.2) :: post)
      (fun c => [(Str.ofString "b", .int (c.1 : Int) c.2.1), (Str.ofString "val", .int (c.2.2.1 : Int) c.2.2.2.1)]) (fun c => True) []
      (fun c => (if 64 ≤ c.1 then rd c.2.2.1 (ls.drop c.2.2.2.2) = some (n, rst) else c.2.2.1 = n ∧ ls.drop c.2.2.2.2 = rst) ∧ c.1 < 128 ∧ c.2.2.1 ≤ n ∧ c.2.2.2.2 ≤ ls.length) (fun c => ls.length - c.2.2.2.2) (b, tb, b % 64, ?tk, i + 1) F' N' ?hf ?hk ?hp ?turn ?hE
    case hk => first | kst_all | (rw [hm6]; kst_all)
    case hf => trivial
    case hp =>
      dsimp only
      obtain ⟨_, hr1, hb1⟩ := hdrop _ _ _ hx
      rw [hr1]
      rw [rd] at hrd
      refine ⟨?_, hb1, ?_, by (first | lia | omega)⟩
      · split at hrd
        · rename_i hg; rw [if_pos hg]; simpa using hrd
        · rename_i hg; rw [if_neg hg]; cases hrd; exact ⟨by (first | lia | omega), rfl⟩
      · split at hrd
        · have := (rd_ge _ _ _ _ hrd).1; (first | lia | omega)
        · cases hrd; (first | lia | omega)
    case hE => first | passes_own | with_unfolding_all passes_own
    case turn =>
      clear F' N'
      intro c u h tk hf hp F1 N1
      obtain ⟨b, tb, v, tv, i⟩ := c
      simp only [kstB] at F1
      dsimp only at hf hp N1
      obtain ⟨hp1, hp2, hp3, hp4⟩ := hp
      k_steps
      · unfold Halt
        rename Fr _ _ _ _ => F2
        rename News _ _ _ _ => N2
        rename Builtin.bitAnd _ _ ≠ _ => hne
        rw [hb6] at hne
        have hge : 64 ≤ b := by (first | lia | omega)
        rw [if_pos hge] at hp1
        cases hx2 : ls.drop i with
        | nil => rw [hx2] at hp1; cases hp1
        | cons b' r' =>
          obtain ⟨⟨tb', hv'⟩, hr', hb'⟩ := hdrop _ _ _ hx2
          refine li_next F2 N2 (hl' _) h1 h2 hv' fun h9 F9 N9 => ?_
          clear F2 N2
          k_steps
          unfold Halt
          rename Fr _ _ _ _ => F2
          rename News _ _ _ _ => N2
          have hlen' := congrArg List.length hx2
          simp only [List.length_drop, List.length_cons] at hlen'
          rw [hx2, rd] at hp1
          have hor2 : ∀ v x : Nat, x < 64 → Builtin.bitOr ((v : Int) * 2 ^ (Int.toNat 6)) (x : Int) = ((v * 64 + x : Nat) : Int) := hor
          rw [hm6] at F2
          first | rw [hor2 v (b' % 64) (by (first | lia | omega))] at F2 | rw [hor v (b' % 64) (by (first | lia | omega))] at F2 | (set_option pp.deepTerms.threshold 20 in trace_state)
          refine ksw_end (b', tb', v * 64 + b' % 64, _, i + 1) F2 N2 (by kst_in) trivial (by kst_all) (by ksw_same) ?_ ?_
          · dsimp only
            rw [hr']
            refine ⟨?_, hb', ?_, by (first | lia | omega)⟩
            · split at hp1
              · rename_i hg; rw [if_pos hg]; exact hp1
              · rename_i hg; rw [if_neg hg]; cases hp1; exact ⟨rfl, rfl⟩
            · split at hp1
              · exact (rd_ge _ _ _ _ hp1).1
              · cases hp1; exact Nat.le_refl _
          · dsimp only
            (first | lia | omega)
      · rename Builtin.bitAnd _ _ = _ => hne
        rw [hb6] at hne
        have hlt : ¬ 64 ≤ b := by (first | lia | omega)
        rw [if_neg hlt] at hp1
        obtain ⟨rfl, hrst⟩ := hp1
        have hlen' := congrArg List.length hrst
        simp only [List.length_drop] at hlen'
        have ej : j = i := by (first | lia | omega)
        subst ej
        exact hret _ _ _ (by assumption) (by assumption)
end Mine
end
section
open PySem PySem.W PyProof.Rows
set_option Elab.async false
set_option maxRecDepth 100000
set_option maxHeartbeats 8000000
set_option pp.deepTerms.threshold 6
set_option pp.maxSteps 8000
set_option linter.unusedVariables false
namespace Mine
def StopsU (w : World) (news : List (Addr × Obj)) (left : Obj → List (Addr × Obj)) (t : Sem Value) (d u : Nat) : Prop :=
  ∀ (loose : List Str) (mean : ExcName → Option Value) (mg mb : Str → Option Value)
  (dp un : Nat) (gd : Option (List Code)) (cn : Str) (cs : Scope) (a : Addr) (ccd : Value) (cl : List (Str × Addr)) (outer : List Env) (A₀ : Around) (base h₀ : Heap) (L : Addr) (m : Str → Option Value) (s : Shared) (Q E : Value → Shared → Prop)
  (B : Below A₀ base outer h₀) (F : Fr h₀ L s.heap m) (X : (Mine.heap w.params).In h₀) (N : News h₀ L s.heap news) (T : Top Mine.view loose mean mg mb h₀) (hk : cs.kind = .function)
  (hdp : dp + d < recursionLimit) (hun : un + u < cLine)
  (hexc : ∀ h' G e tk o, Fr h₀ L G m → RaisedSN base G (envX cn cs L a ccd cl :: outer) e (.type "StopIteration") (left o) h' → G.UpToSlots h' → E (.ref e) { s with heap := h', toks := tk }),
  wpAny (model PySem.Challenge.rw_sw0080_01.prog w) (ktrTop dp un gd cn cs L a ccd cl outer) t Q E s
theorem c_vs (w : World) (own post : List (Addr × Obj)) (I l : Addr) (vs : List Value) (c : Nat) (i : Nat) (h1 : ∀ p ∈ own, p.1 ≠ I) (h2 : ∀ p ∈ post, p.1 ≠ I)
   (hl : (l, listOf vs.toArray c) ∈ own ∨ (l, listOf vs.toArray c) ∈ post) (hi : vs[i]? = none) :
   StopsU w (own ++ (I, liObj l i) :: post) (fun o => own ++ (I, o) :: post) (call (.ref 195) [.ref I]) 1 8 := by
  k_with_none
  k_with "call builtin:next" => (refine halt ?_)
  have hl' : ∀ o, (l, listOf vs.toArray c) ∈ own ++ (I, o) :: post := fun o => by
    rcases hl with h | h
    · exact List.mem_append_left _ h
    · exact List.mem_append_right _ (List.mem_cons_of_mem _ h)
  unfold StopsU
  w_top off
  k_fill
  intro loose mean mg mb dp un gd cn cs a ccd cl outer A₀ base h₀ L m s Q E B F X N T hk hdp hun hexc
  refine wpAny_call ?_
  k_dflt cell_enter
  rename_i g1 L1 hh1 FG _ _ BG _ _
  k_steps
  unfold Halt
  rename Fr _ _ _ _ => F1
  rename News _ _ _ _ => N1
  refine li_end rfl F1 N1 (hl' _) h1 h2 hi fun h h' e o F2 N2 hx => ?_
  dsimp only
  refine leave_newS BG hx F2 N2 fun h9 R9 _ U9 => ?_
  exact hexc _ _ _ _ _ FG R9 U9
end Mine
end
section
open PySem PySem.W PyProof.Rows
set_option Elab.async false
set_option maxRecDepth 100000
set_option maxHeartbeats 8000000
set_option pp.deepTerms.threshold 6
set_option pp.maxSteps 8000
set_option linter.unusedVariables false
namespace Mine
def GivesR (w : World) (news : List (Addr × Obj)) (t : Sem Value) (d u : Nat) (ns : List Int) : Prop :=
  ∀ (loose : List Str) (mean : ExcName → Option Value) (mg mb : Str → Option Value)
  (dp un : Nat) (gd : Option (List Code)) (cn : Str) (cs : Scope) (a : Addr) (ccd : Value) (cl : List (Str × Addr)) (A₀ : Around) (h₀ : Heap) (L : Addr) (m : Str → Option Value) (s : Shared) (Q E : Value → Shared → Prop)
  (B : Below A₀ h₀ [] h₀) (F : Fr h₀ L s.heap m) (X : (Mine.heap w.params).In h₀) (N : News h₀ L s.heap news) (T : Top Mine.view loose mean mg mb h₀) (hk : cs.kind = .function)
  (hdp : dp + d < recursionLimit) (hun : un + u < cLine)
  (hret : ∀ D us c h' tk, Fr h₀ L h' m → News h₀ L h' ((D, listOf (List.toArray us) c) :: news) → (∀ p ∈ news, p.1 < D) → IntsAre us ns → Q (.ref D) { s with heap := h', toks := tk }),
  wpAny (model PySem.Challenge.rw_sw0080_01.prog w) (ktrTop dp un gd cn cs L a ccd cl []) t Q E s
theorem c_read (w : World) (news : List (Addr × Obj)) (l : Addr) (vs : List Value) (c : Nat) (ns : List Nat) (hm : (l, listOf vs.toArray c) ∈ news) (hi : IntsAre vs (toI (ns.flatMap dOct))) (hl : ns.length ≤ 1000) (hb : ∀ n ∈ ns, n < 2^40) : GivesR w news (call (.ref 270) [.ref l]) 3 20 (toI (ns ++ [5])) := by
  k_with_none
  k_with "call builtin:iter" => (refine halt ?_)
  k_with "call ref" => ((with_reducible show wpAny _ _ (call (Value.ref 195) _) _ _ _); (refine halt ?_))
  k_with "exec While Constant" => (refine halt ?_)
  k_with "KswEnd" => (refine halt ?_)
  k_with "binaryOp Add ref ref" => (refine halt ?_)
  k_with "ktr_rel" => ((case k1 => k_asm); (case k2 => k_asm); (case k3 => k_asm); (case k4 => k_asm); (case k5 => k_asm); (case k6 => first | assumption | exact rfl); (case k7 => ktr_room); (case k8 => ktr_units))
  k_with "LeaveS0" => (refine halt ?_)
  have e3 : ∀ (l : List Nat), (∀ n ∈ l, n < 2^40) → (l.flatMap dOct).length ≤ 8 * l.length := by
    intro l
    induction l with
    | nil => intro _; simp
    | cons x r ih =>
      intro h
      have h1 := ih fun n hn => h n (List.mem_cons_of_mem _ hn)
      have h2 := dOct_length (h x List.mem_cons_self)
      simp only [List.flatMap_cons, List.length_append, List.length_cons] at h1 ⊢
      (first | lia | omega)
  have e4 := e3 ns hb
  have e5 : (toI (ns.flatMap dOct)).length ≤ 8000 := by simp only [toI, List.length_map]; (first | lia | omega)
  unfold GivesR
  w_top off
  k_fill
  intro loose mean mg mb dp un gd cn cs a ccd cl A₀ h₀ L m s Q E B F X N T hk hdp hun hret
  refine wpAny_call ?_
  refine' callS B F X N T ?kA ?kK ?k6 ?k7 ?k8 ?k9 ?kB ?_ ?c2 ?c3 ?c4 ?c5
  case kA => exact rfl
  case kK => assumption
  case k6 => k_dflt k_is
  case k7 => k_dflt k_is
  case k8 => ktr_room
  case k9 => exact BindsTo.of_eq rfl
  case c5 => decide
  case kB => exact locs rfl
  case c2 => exact rfl
  case c3 => exact rfl
  case c4 => exact rfl
  k_whole
  intro g1 L1 hh1 FG F1 N1 BG XG TG DG
  dsimp only
  k_steps
  unfold Halt
  rename Fr _ _ _ _ => F2
  rename News _ _ _ _ => N2
  rename ∀ p ∈ news, p.1 < _ => l2
  have hn2 := N2
  refine kmk_add_ints F2 N2 (vs := vs) ⟨_, (N2 _ (List.mem_cons_of_mem _ hm)).1, rfl, _, rfl⟩ ⟨_, (N2 _ List.mem_cons_self).1, rfl, _, rfl⟩ hi (ints_one _ _) (fun lx us h3 F3 N3 l3 hi3 => ?_) (by rw [sizeLine_eq]; simp only [List.length_cons, List.length_nil]; (first | lia | omega))
  clear F2 N2
  k_steps
  unfold Halt
  rename Fr _ _ _ _ => F2
  rename News _ _ _ _ => N2
  refine li_iter F2 N2 (c := 0) (vs := us) List.mem_cons_self fun I h4 F4 N4 l4 => ?_
  clear F2 N2
  k_steps
  unfold Halt
  rename Fr _ _ _ _ => F'
  rename News _ _ _ _ => N'
  rename _ ∧ _ ∧ _ ∧ AllLt _ _ => lD
  rename_i D _ _
  have els : toI (ns.flatMap dOct) ++ [5] = toI ((ns ++ [5]).flatMap dOct) := by
    rw [List.flatMap_append, toI_append]
    have : dOct 5 = [5] := by show dPre (5 / 64) ++ [5 % 64] = [5]; rw [show 5 / 64 = 0 by decide, dPre_zero]; rfl
    simp [this, toI]
  rw [els] at hi3
  have hb5 : ∀ n ∈ ns ++ [5], n < 2^40 := by
    intro n hn
    rcases List.mem_append.mp hn with h | h
    · exact hb n h
    · rw [List.mem_singleton.mp h]; decide
  have hlt : ∀ x ∈ (ns ++ [5]).flatMap dOct, x < 128 := by
    intro x hx
    obtain ⟨n, _, hx⟩ := List.mem_flatMap.mp hx
    exact dOct_lt n x hx
  have hlen : us.length = ((ns ++ [5]).flatMap dOct).length := by rw [hi3.length]; simp [toI]
  refine' ksw_while (σ := List Value × Nat × Nat × List Nat × List Nat) (fun c => (D, listOf (List.toArray c.1) c.2.1) :: (I, liObj lx c.2.2.1) :: (lx, listOf us.toArray 0) :: _ :: news)
    (fun c => [(Str.ofString "told", .ref D)]) (fun c => IntsAre c.1 (toI c.2.2.2.1)) []
    (fun c => c.2.2.2.1 ++ c.2.2.2.2 = ns ++ [5] ∧ ((ns ++ [5]).flatMap dOct).drop c.2.2.1 = c.2.2.2.2.flatMap dOct ∧ c.2.2.1 ≤ us.length) (fun c => c.2.2.2.2.length) ([], 0, 0, [], ns ++ [5]) F' N' ?hf ?hk ?hp ?turn ?hE
  case hk => kst_all
  case hf => exact .nil
  case hp => exact ⟨rfl, rfl, Nat.zero_le _⟩
  case hE => first | passes_own | with_unfolding_all passes_own
  case turn =>
    clear F' N'
    intro c u h tk hf hp F1 N1
    obtain ⟨ts, cn', i, ks, ms⟩ := c
    simp only [kstB] at F1
    dsimp only at hf hp N1
    obtain ⟨hp1, hp2, hp3⟩ := hp
    k_steps
    unfold Halt
    rename Fr _ _ _ _ => F2
    rename News _ _ _ _ => N2
    have hIn : ∀ p ∈ (lx, listOf us.toArray 0) :: (_, listOf [Value.int 5 _].toArray 0) :: news, p.1 ≠ I := fun p hp => Nat.ne_of_lt (l4 p hp)
    cases ms with
    | nil =>
      have hnone : us[i]? = none := by
        have := congrArg List.length hp2
        simp only [List.length_drop, List.flatMap_nil, List.length_nil] at this
        rw [List.getElem?_eq_none_iff]; (first | lia | omega)
      refine' (c_vs w [(D, listOf ts.toArray cn')] _ I lx us 0 i ?g1 hIn (.inr List.mem_cons_self) hnone) _ _ _ _ _ _ _ _ _ _ _ _ _ _ _ _ _ _ _ _ _ BG F2 XG N2 TG rfl ?k7 ?k8 ?_
      case g1 => intro p hp; rw [List.mem_singleton.mp hp]; exact Nat.ne_of_gt lD.1
      case k7 => ktr_room
      case k8 => ktr_units
      intro h9 G9 e9 tk9 o9 FG9 R9 U9
      dsimp only
      refine caught_SN0 (T' := "StopIteration") R9 FG9 BG U9 X T DG KtsTurn.refl (by k_dflt k_is) PyProof.Rows.Boot.«StopIteration» (by decide) owsi_raise.isExc ?hnt (by rw [isSubtype_type]; kernel_rfl) fun h8 g8 T8 F8 N8 B8 X8 P8 D8 => ?_
      case hnt => rw [isSubtype_type]; kernel_rfl
      dsimp only at N8
      simp only [List.cons_append, List.nil_append] at N8
      dsimp only
      k_steps
      unfold Halt
      rename Fr _ _ _ _ => F5
      rename News _ _ _ _ => N5
      rw [List.append_nil] at hp1
      dsimp only
      refine leaveS0_ F5 N5 T8 fun kF kN => ?_
      refine endL hret ?_ kF kN (fun p hp => List.mem_cons_of_mem _ (List.mem_cons_of_mem _ (List.mem_cons_of_mem _ hp))) (allLt_all lD.2.2.2) hf
      rw [hp1]
    | cons n ms' =>
      have hrd : rd 0 (((ns ++ [5]).flatMap dOct).drop i) = some (n, ms'.flatMap dOct) := by
        rw [hp2, List.flatMap_cons, rd_oct]
      have hmn : n ∈ ns ++ [5] := by rw [← hp1]; simp
      have hlen2 := congrArg List.length hp2
      simp only [List.length_drop, List.flatMap_cons, List.length_append] at hlen2
      refine' (c_vi w [(D, listOf ts.toArray cn')] _ I lx us 0 _ i n (i + (dOct n).length) _ ?g1 hIn (.inr List.mem_cons_self) hi3 hlt (hb5 n hmn) hrd ?g2) _ _ _ _ _ _ _ _ _ _ _ _ _ _ _ _ _ _ _ _ _ BG F2 XG N2 TG rfl ?k7 ?k8 ?_
      case g1 => intro p hp; rw [List.mem_singleton.mp hp]; exact Nat.ne_of_gt lD.1
      case g2 => (first | lia | omega)
      case k7 => ktr_room
      case k8 => ktr_units
      intro t9 h9 tk9 F9 N9
      dsimp only
      simp only [List.cons_append, List.nil_append] at N9
      clear F2 N2
      have hts : ts.length ≤ 2000 := by
        have h1 := hf.length
        have h2 := congrArg List.length hp1
        simp only [toI, List.length_map, List.length_append, List.length_cons, List.length_nil] at h1 h2
        (first | lia | omega)
      have hts2 : (toI ks).length ≤ 2000 := by rw [← hf.length]; exact hts
      k_steps
      unfold Halt
      rename Fr _ _ _ _ => F5
      rename News _ _ _ _ => N5
      simp only [List.push_toArray] at N5
      refine ksw_end (ts ++ [.int n t9], cn' + 1, i + (dOct n).length, ks ++ [n], ms') F5 N5 (by kst_in) ?_ (by kst_all) (by ksw_same) ?_ ?_
      · exact ints_eq (IntsAre.append hf (ints_one _ _)) (by simp [toI])
      · dsimp only
        refine ⟨by rw [← hp1]; simp, ?_, by (first | lia | omega)⟩
        have := congrArg (List.drop (dOct n).length) hp2
        rw [List.drop_drop, List.flatMap_cons, List.drop_left] at this
        exact this
      · dsimp only
        simp
end Mine
end
section
open PySem PySem.W PyProof.Rows PySem.Calls
set_option Elab.async false
set_option maxRecDepth 100000
set_option maxHeartbeats 1000000
namespace Mine
theorem rp_plain : PlainAttrs "re.Pattern" :=
  ⟨⟨"object.__getattribute__", by rw [typeLookup_type, builtinLookup_eq_fast]; kernel_rfl, by decide +kernel⟩, by rw [typeLookup_type, builtinLookup_eq_fast]; kernel_rfl⟩
theorem rp_slot : Slot "re.Pattern" "search" "re.Pattern.search" :=
  .of (owner := "re.Pattern") (n := "search") (by rw [typeLookup_type, builtinLookup_eq_fast]; kernel_rfl) (by decide +kernel) (by decide +kernel) (by decide +kernel)
    (by first | exact .inl (by decide +kernel) | exact .inr (by decide +kernel)) (by rw [isSubtype_type]; kernel_rfl)
theorem rp_type : typeOf (.builtin "re.Pattern.search") = pure (.type "method_descriptor") := by show builtinType _ = _; rw [builtinType_eq_fast]; kernel_rfl
theorem rp_entry : entryFor table "re.Pattern.search" = some Builtin.«re.Pattern.search» := by first | exact entryFor_of_fast (by kernel_rfl) | exact entryFor_of_tree (by kernel_rfl)
theorem rp_args (a b : Value) : argsOk "re.Pattern.search" ⟨[a, b], []⟩ := by unfold argsOk; kernel_rfl
theorem rm_noBool : typeLookup (.type "re.Match") "__bool__" = pure none := by rw [typeLookup_type, builtinLookup_eq_fast]; kernel_rfl
theorem rm_noLen : typeLookup (.type "re.Match") "__len__" = pure none := by rw [typeLookup_type, builtinLookup_eq_fast]; kernel_rfl
end Mine
end
section
open PySem PySem.W PyProof.Rows PySem.Calls
set_option Elab.async false
set_option maxRecDepth 100000
set_option maxHeartbeats 1000000
namespace Mine
open PySem.Sre (ops inSet header forSearch)
structure OneSet (code : Array Nat) (S : Nat → Bool) : Prop where
  h0 : ops[code.getD 0 0]? = some .INFO
  h2 : code.getD 2 0 = 4
  h3 : code.getD 3 0 = 1
  hIN : ops[code.getD (1 + code.getD 1 0) 0]? = some .IN
  hS : ops[code.getD (1 + code.getD 1 0 + (1 + code.getD (1 + code.getD 1 0 + 1) 0)) 0]? = some .SUCCESS
  hp : 1 + code.getD 1 0 < code.size
  hq : 1 + code.getD 1 0 + (1 + code.getD (1 + code.getD 1 0 + 1) 0) < code.size
  s5 : ∀ c seen, ∃ seen', inSet code c code.size 5 true seen = .ok (S c, seen')
  sp : ∀ c seen, ∃ seen', inSet code c code.size (1 + code.getD 1 0 + 2) true seen = .ok (S c, seen')
theorem admitted_none {code : Array Nat} {S : Nat → Bool} (O : OneSet code S) (m : Sre.M) (hc : m.code = code) : ∀ (fuel s : Nat) (seen : Sre.Seen), (∀ i, s ≤ i → i < m.lim → S (m.text.getD i 0) = false) → ∃ seen', Sre.M.admitted m fuel s seen = .ok (none, seen')
  | 0, s, seen, _ => ⟨seen, rfl⟩
  | fuel + 1, s, seen, h => by
    rw [Sre.M.admitted]
    by_cases hs : s ≥ m.lim
    · rw [if_pos hs]; exact ⟨_, rfl⟩
    · rw [if_neg hs, hc]
      obtain ⟨seen', e⟩ := O.s5 (m.text.getD s 0) seen
      rw [e, h s (Nat.le_refl _) (by (first | lia | omega))]
      exact admitted_none O m hc fuel (s + 1) seen' fun i h1 h2 => h i (by (first | lia | omega)) h2
theorem admitted_some {code : Array Nat} {S : Nat → Bool} (O : OneSet code S) (m : Sre.M) (hc : m.code = code) : ∀ (fuel s : Nat) (seen : Sre.Seen), s + fuel = m.lim + 1 → (∃ i, s ≤ i ∧ i < m.lim ∧ S (m.text.getD i 0) = true) → ∃ s' seen', Sre.M.admitted m fuel s seen = .ok (some s', seen') ∧ s' < m.lim ∧ S (m.text.getD s' 0) = true
  | 0, s, seen, hf, h => by obtain ⟨i, h1, h2, _⟩ := h; (first | lia | omega)
  | fuel + 1, s, seen, hf, h => by
    rw [Sre.M.admitted]
    obtain ⟨i, h1, h2, h3⟩ := h
    rw [if_neg (show ¬ s ≥ m.lim by (first | lia | omega)), hc]
    obtain ⟨seen', e⟩ := O.s5 (m.text.getD s 0) seen
    rw [e]
    cases hS : S (m.text.getD s 0) with
    | true => exact ⟨s, seen', rfl, by (first | lia | omega), hS⟩
    | false =>
      have : i ≠ s := fun q => by rw [q, hS] at h3; cases h3
      exact admitted_some O m hc fuel (s + 1) seen' (by (first | lia | omega)) ⟨i, by (first | lia | omega), h2, h3⟩
theorem runFor_out : ∀ (n : Nat) (m : Sre.M), m.outcome.isSome = true → m.runFor n = m
  | 0, m, _ => rfl
  | n + 1, m, h => by rw [Sre.M.runFor, if_pos h]
noncomputable def fr (code text : Array Nat) (n : Nat) : Sre.M :=
  { code, text, lim := n, start := 0, pc := (header code).2, pos := 0, handed := 0, marks := Array.replicate (2 * 0) none, mustAdvance := false,
    seen := if (header code).2 == 0 then {} else ({} : Sre.Seen).add 14 }
theorem fs_eq (code text : Array Nat) (n : Nat) : forSearch code text 0 0 n false =
    (if 0 > n || n - 0 < (header code).1 then (fr code text n).say false
     else { fr code text n with lastStart := if (header code).1 > 1 && !((header code).2 != 0 && code.getD 2 0 &&& 5 != 0) then max 0 (n - ((header code).1 - 1)) else n }.attemptFrom 0 true) := rfl
theorem run_false (m : Sre.M) (h1 : m.outcome = none) (h2 : m.frames = []) (h3 : m.answer = some false) : (m.runFor 4).outcome = some .failed := by
  rw [Sre.M.runFor, if_neg (by rw [h1]; decide)]
  have : m.step = { m with outcome := some .failed } := by
    rw [Sre.M.step, h1, h2, h3]; rfl
  rw [this, runFor_out _ _ rfl]
theorem vm_none {code : Array Nat} {S : Nat → Bool} (O : OneSet code S) (text : Array Nat) (h : ∀ i, i < text.size → S (text.getD i 0) = false) :
    ((forSearch code text 0 0 text.size false).runFor 4).outcome = some .failed := by
  have hh : header code = (1, 1 + code.getD 1 0) := by rw [header, O.h0]; simp only [O.h3]
  rw [fs_eq, hh]
  by_cases h0 : text.size = 0
  · rw [if_pos (by rw [h0]; rfl)]
    exact run_false _ rfl rfl rfl
  · rw [if_neg (by simp only [Bool.or_eq_true, decide_eq_true_eq]; (first | lia | omega))]
    generalize hm : ({ fr code text text.size with lastStart := _ } : Sre.M) = m
    have hc : m.code = code := by rw [← hm]; rfl
    have ht : m.text = text := by rw [← hm]; rfl
    have hl : m.lim = text.size := by rw [← hm]; rfl
    have ho : m.outcome = none := by rw [← hm]; rfl
    have hf : m.frames = [] := by rw [← hm]; rfl
    unfold Sre.M.attemptFrom
    have hs : m.hasFirstSet = true := by unfold Sre.M.hasFirstSet; rw [hc, O.h0, O.h2]; rfl
    rw [hs]
    obtain ⟨seen', e⟩ := admitted_none O m hc (m.lim + 1 - 0) 0 m.seen (fun i _ h2 => by rw [ht]; exact h i (hl ▸ h2))
    rw [e]
    exact run_false _ ho hf rfl
theorem vm_some {code : Array Nat} {S : Nat → Bool} (O : OneSet code S) (text : Array Nat) (h : ∃ i, i < text.size ∧ S (text.getD i 0) = true) :
    ((forSearch code text 0 0 text.size false).runFor 4).outcome = some .matched := by
  have hh : header code = (1, 1 + code.getD 1 0) := by rw [header, O.h0]; simp only [O.h3]
  obtain ⟨i, hi, hSi⟩ := h
  rw [fs_eq, hh, if_neg (by simp only [Bool.or_eq_true, decide_eq_true_eq]; (first | lia | omega))]
  generalize hm : ({ fr code text text.size with lastStart := _ } : Sre.M) = m
  have hc : m.code = code := by rw [← hm]; rfl
  have ht : m.text = text := by rw [← hm]; rfl
  have hl : m.lim = text.size := by rw [← hm]; rfl
  have ho : m.outcome = none := by rw [← hm]; rfl
  have hf : m.frames = [] := by rw [← hm]; rfl
  have hpc : m.pc = 1 + code.getD 1 0 := by rw [← hm]; show (header code).2 = _; rw [hh]
  have hw : m.wholeText = false := by rw [← hm]; rfl
  have ha : m.answer = none := by rw [← hm]; rfl
  have hwt : m.weight = 0 := by rw [← hm]; rfl
  unfold Sre.M.attemptFrom
  have hs : m.hasFirstSet = true := by unfold Sre.M.hasFirstSet; rw [hc, O.h0, O.h2]; rfl
  rw [hs]
  obtain ⟨s', seen', e, hs1, hS2⟩ := admitted_some O m hc (m.lim + 1 - 0) 0 m.seen (by (first | lia | omega)) ⟨i, Nat.zero_le _, by (first | lia | omega), by rw [ht]; exact hSi⟩
  rw [e]
  show (Sre.M.runFor 4 (Sre.M.attemptAt _ s' true)).outcome = _
  generalize hm2 : Sre.M.attemptAt { m with mustAdvance := false, seen := seen' } s' true = m1
  have hwt2 : ¬ (m.weight + 1 + 0 > 16777216) := by rw [hwt]; decide
  have d1 : m1 = { m with mustAdvance := false, seen := seen', start := s', pos := s', lastmark := -1, lastindex := -1, frames := ⟨.nextStart, m.pc, s', true, 0, {}, 0, none⟩ :: m.frames, weight := m.weight + 1 + 0, pc := m.pc, handed := s', outermost := true } := by
    rw [← hm2]; unfold Sre.M.attemptAt Sre.M.attempt; exact if_neg hwt2
  clear hm2
  have f1 : m1.code = code := by rw [d1]; exact hc
  have f2 : m1.outcome = none := by rw [d1]; exact ho
  have f3 : m1.answer = none := by rw [d1]; exact ha
  have f4 : m1.pc = 1 + code.getD 1 0 := by rw [d1]; exact hpc
  have f5 : m1.pos = s' := by rw [d1]
  have f6 : m1.lim = m.lim := by rw [d1]
  have f7 : m1.text = m.text := by rw [d1]
  have f8 : m1.frames = [⟨.nextStart, m.pc, s', true, 0, {}, 0, none⟩] := by rw [d1]; show _ :: m.frames = _; rw [hf]
  have f9 : m1.wholeText = false := by rw [d1]; exact hw
  have f10 : m1.mustAdvance = false := by rw [d1]
  clear d1
  obtain ⟨sq, eq⟩ := O.sp (m.text.getD s' 0) (m1.seen.add (code.getD (1 + code.getD 1 0) 0))
  rw [hS2] at eq
  have w0 : m1.word 0 = code.getD (1 + code.getD 1 0) 0 := by unfold Sre.M.word; rw [f1, f4]; rfl
  have s1 : m1.step = { m1 with seen := sq, pc := m1.pc + (1 + code.getD (1 + code.getD 1 0 + 1) 0), pos := s' + 1 } := by
    rw [Sre.M.step, if_neg (by rw [f2]; decide), f3]
    show (if m1.pc < m1.code.size then m1.exec else _) = _
    rw [if_pos (by rw [f4, f1]; exact O.hp), Sre.M.exec, w0, O.hIN]
    have hacc : Sre.accepts m1.code m1.pc (m1.text.getD m1.pos 0) (m1.seen.add (code.getD (1 + code.getD 1 0) 0)) = .ok (true, sq) := by
      rw [f1, f4, f5, f7, Sre.accepts, O.hIN]
      exact eq
    show (if m1.pos ≥ m1.lim then _ else match Sre.accepts m1.code m1.pc (m1.text.getD m1.pos 0) (m1.seen.add (code.getD (1 + code.getD 1 0) 0)) with
      | .error why => _
      | .ok (false, seen) => _
      | .ok (true, seen) => _) = _
    rw [if_neg (by rw [f5, f6]; (first | lia | omega)), hacc]
    have hit : Sre.itemWidth m1.code m1.pc = 1 + code.getD (1 + code.getD 1 0 + 1) 0 := by
      rw [f1, f4, Sre.itemWidth, O.hIN]
    show ({ m1 with seen := sq, pc := m1.pc + Sre.itemWidth m1.code m1.pc, pos := m1.pos + 1 } : Sre.M) = _
    rw [hit, f5, f3]
  rw [Sre.M.runFor, if_neg (by rw [f2]; decide), s1]
  generalize hm2 : ({ m1 with seen := sq, pc := m1.pc + (1 + code.getD (1 + code.getD 1 0 + 1) 0), pos := s' + 1 } : Sre.M) = m2
  have g1 : m2.code = code := by rw [← hm2]; exact f1
  have g2 : m2.outcome = none := by rw [← hm2]; exact f2
  have g3 : m2.answer = none := by rw [← hm2]; exact f3
  have g4 : m2.pc = 1 + code.getD 1 0 + (1 + code.getD (1 + code.getD 1 0 + 1) 0) := by rw [← hm2]; show m1.pc + _ = _; rw [f4]
  have g8 : m2.frames = [⟨.nextStart, m.pc, s', true, 0, {}, 0, none⟩] := by rw [← hm2]; exact f8
  have g9 : m2.wholeText = false := by rw [← hm2]; exact f9
  have g10 : m2.mustAdvance = false := by rw [← hm2]; exact f10
  clear hm2 s1 f1 f2 f3 f4 f5 f6 f7 f8 f9 f10
  have w2 : m2.word 0 = code.getD (1 + code.getD 1 0 + (1 + code.getD (1 + code.getD 1 0 + 1) 0)) 0 := by unfold Sre.M.word; rw [g1, g4]; rfl
  obtain ⟨sn, s2⟩ : ∃ sn, m2.step = { m2 with seen := sn, handed := m2.pos, answer := some true } := by
    refine ⟨m2.seen.add (code.getD (1 + code.getD 1 0 + (1 + code.getD (1 + code.getD 1 0 + 1) 0)) 0), ?_⟩
    rw [Sre.M.step, if_neg (by rw [g2]; decide), g3]
    show (if m2.pc < m2.code.size then m2.exec else _) = _
    rw [if_pos (by rw [g4, g1]; exact O.hq), Sre.M.exec, w2, O.hS]
    show (if (m2.outermost && ((m2.wholeText && m2.pos != m2.lim) || (m2.mustAdvance && m2.pos == m2.start))) = true then _ else _) = _
    rw [if_neg (by rw [g9, g10]; simp)]
    rfl
  rw [Sre.M.runFor, if_neg (by rw [g2]; decide), s2, Sre.M.runFor, if_neg (by show ¬ m2.outcome.isSome = true; rw [g2]; decide)]
  have s3 : Sre.M.outcome (Sre.M.runFor 1 (Sre.M.step { m2 with seen := sn, handed := m2.pos, answer := some true })) = some .matched := by
    have : Sre.M.step { m2 with seen := sn, handed := m2.pos, answer := some true } = { m2 with seen := sn, handed := m2.pos, answer := some true, frames := [], weight := m2.weight - (1 + (#[] : Array (Option Nat)).size), pc := m.pc, pos := s', outermost := true } := by
      rw [Sre.M.step]
      show (if m2.outcome.isSome = true then _ else match (some true : Option Bool), m2.frames with
        | some yes, [] => _
        | some yes, f :: rest => _
        | none, _ => _) = _
      rw [if_neg (by rw [g2]; decide), g8]
      rfl
    rw [this, Sre.M.runFor, if_neg (by show ¬ m2.outcome.isSome = true; rw [g2]; decide)]
    rw [Sre.M.step]
    show Sre.M.outcome (Sre.M.runFor 0 (if m2.outcome.isSome = true then _ else _)) = _
    rw [if_neg (by rw [g2]; decide)]
    rfl
  exact s3
end Mine
end
section
open PySem PySem.W PyProof.Rows PySem.Calls
set_option Elab.async false
set_option maxRecDepth 100000
set_option maxHeartbeats 1000000
namespace Mine
open PySem.Sre (ops inSet header forSearch)
noncomputable def tsp : Array Nat := #[14, 14, 4, 1, 1, 9, 0, 4227896069, 939524097, 0, 0, 0, 0, 0, 0, 13, 11, 9, 0, 4227896069, 939524097, 0, 0, 0, 0, 0, 0, 1]
noncomputable def nam : Array Nat := #[14, 10, 4, 1, 1, 22, 0, 31, 16, 127, 0, 13, 7, 22, 0, 31, 16, 127, 0, 1]
noncomputable def vlu : Array Nat := #[14, 14, 4, 1, 1, 9, 4294966783, 0, 0, 2147483648, 0, 0, 0, 0, 0, 13, 11, 9, 4294966783, 0, 0, 2147483648, 0, 0, 0, 0, 0, 1]
noncomputable def csS (code : Array Nat) (c : Nat) : Bool := c < 256 && (code.getD (5 + (1 + c / 32)) 0).testBit (c % 32)
noncomputable def namS (c : Nat) : Bool := (0 ≤ c && c ≤ 31) || c == 127
theorem cs_at (code : Array Nat) (i : Nat) (c : Nat) (seen : Sre.Seen) (hz : code.size = 28) (h1 : ops[code.getD (i + 0) 0]? = some .CHARSET) (h2 : ops[code.getD (i + 9 + 0) 0]? = some .FAILURE) (S : Nat → Bool) (hS : S c = (c < 256 && (code.getD (i + (1 + c / 32)) 0).testBit (c % 32))) :
    ∃ seen', inSet code c code.size i true seen = .ok (S c, seen') := by
  rw [hz]
  show ∃ seen', inSet code c (27 + 1) i true seen = _
  rw [inSet, h1]
  by_cases h : (c < 256 && (code.getD (i + (1 + c / 32)) 0).testBit (c % 32)) = true
  · exact ⟨seen.add (code.getD (i + 0) 0), by rw [hS, h]; rfl⟩
  · have h' : (c < 256 && (code.getD (i + (1 + c / 32)) 0).testBit (c % 32)) = false := by simpa using h
    refine ⟨(seen.add (code.getD (i + 0) 0)).add (code.getD (i + 9 + 0) 0), Eq.trans (if_neg h) ?_⟩
    show inSet code c (26 + 1) (i + 9) true _ = _
    rw [inSet, h2, hS, h']
    rfl
theorem tsp_one : OneSet tsp (csS tsp) where
  h0 := rfl
  h2 := rfl
  h3 := rfl
  hIN := rfl
  hS := rfl
  hp := by decide
  hq := by decide
  s5 := fun c seen => cs_at tsp 5 c seen rfl rfl rfl _ rfl
  sp := fun c seen => cs_at tsp 17 c seen rfl rfl rfl _ (by
    unfold csS
    by_cases h : c < 256
    · have : ∀ k, k < 8 → tsp.getD (5 + (1 + k)) 0 = tsp.getD (17 + (1 + k)) 0 := by decide
      rw [this _ (by (first | lia | omega))]
    · simp [h])
theorem vlu_one : OneSet vlu (csS vlu) where
  h0 := rfl
  h2 := rfl
  h3 := rfl
  hIN := rfl
  hS := rfl
  hp := by decide
  hq := by decide
  s5 := fun c seen => cs_at vlu 5 c seen rfl rfl rfl _ rfl
  sp := fun c seen => cs_at vlu 17 c seen rfl rfl rfl _ (by
    unfold csS
    by_cases h : c < 256
    · have : ∀ k, k < 8 → vlu.getD (5 + (1 + k)) 0 = vlu.getD (17 + (1 + k)) 0 := by decide
      rw [this _ (by (first | lia | omega))]
    · simp [h])
theorem rg_at (i : Nat) (hi : i = 5 ∨ i = 13) (c : Nat) (seen : Sre.Seen) : ∃ seen', inSet nam c nam.size i true seen = .ok (namS c, seen') := by
  have hz : nam.size = 19 + 1 := rfl
  rw [hz, inSet]
  have h1 : ops[nam.getD (i + 0) 0]? = some .RANGE := by rcases hi with rfl | rfl <;> rfl
  have h2 : ops[nam.getD (i + 3 + 0) 0]? = some .LITERAL := by rcases hi with rfl | rfl <;> rfl
  have h3 : ops[nam.getD (i + 3 + 2 + 0) 0]? = some .FAILURE := by rcases hi with rfl | rfl <;> rfl
  have w1 : nam.getD (i + 1) 0 = 0 := by rcases hi with rfl | rfl <;> rfl
  have w2 : nam.getD (i + 2) 0 = 31 := by rcases hi with rfl | rfl <;> rfl
  have w3 : nam.getD (i + 3 + 1) 0 = 127 := by rcases hi with rfl | rfl <;> rfl
  rw [h1]
  simp only [w1, w2]
  by_cases h : (0 ≤ c && c ≤ 31) = true
  · exact ⟨_, by rw [namS, h]; rfl⟩
  · have h' : (0 ≤ c && c ≤ 31) = false := by simpa using h
    rw [if_neg (by simpa using h)]
    show ∃ seen', inSet nam c (18 + 1) (i + 3) true _ = _
    rw [inSet, h2]
    simp only [w3]
    by_cases h4 : (c == 127) = true
    · exact ⟨_, by rw [namS, h', h4]; exact if_pos rfl⟩
    · have h4' : (c == 127) = false := by simpa using h4
      refine ⟨((seen.add (nam.getD (i + 0) 0)).add (nam.getD (i + 3 + 0) 0)).add (nam.getD (i + 3 + 2 + 0) 0), Eq.trans (if_neg h4) ?_⟩
      show inSet nam c (17 + 1) (i + 3 + 2) true _ = _
      rw [inSet, h3, namS, h', h4']
      rfl
theorem nam_one : OneSet nam namS where
  h0 := rfl
  h2 := rfl
  h3 := rfl
  hIN := rfl
  hS := rfl
  hp := by decide
  hq := by decide
  s5 := rg_at 5 (.inl rfl)
  sp := rg_at 13 (.inr rfl)
end Mine
end
section
open PySem PySem.W PyProof.Rows PySem.Calls
set_option Elab.async false
set_option maxRecDepth 100000
set_option maxHeartbeats 1000000
namespace Mine
open PySem.Builtin.Re
theorem drive_one (m : Sre.M) (h : (m.runFor 4).outcome.isSome = true) : reDrive (2 ^ 64) m = pure (m.runFor 4) := by
  have : (2 : Nat) ^ 64 = 18446744073709551615 + 1 := by decide
  rw [this, reDrive]
  show (if (m.runFor 4).outcome.isSome = true then _ else _) = _
  rw [if_pos h]; rfl
section
variable {prog : Program} {w : World} {A : Around} {E : Value → Shared → Prop} {s : Shared}
theorem rules_go (m : Sre.M) {Q : PUnit → Shared → Prop} (hq : Q PUnit.unit s) : ∀ l : List Nat, wpAny (model prog w) A (forIn l PUnit.unit fun i _ =>
              if m.seen.has i = true then do
                rule (Sre.names.getD i "")
                pure (ForInStep.yield PUnit.unit)
              else pure (ForInStep.yield PUnit.unit)) Q E s
  | [] => by rw [List.forIn_nil]; exact wpAny_pure hq
  | i :: r => by
    rw [List.forIn_cons]
    refine wpAny_bind ?_
    refine wpAny_ite ?_
    split
    · exact wpAny_bind (wpAny_rule (wpAny_pure (rules_go m hq r)))
    · exact wpAny_pure (rules_go m hq r)
theorem run_yes (m : Sre.M) (h : (m.runFor 4).outcome = some .matched) {Q : Option Sre.M → Shared → Prop}
    (hq : Q (some (m.runFor 4)) s) : wpAny (model prog w) A (reRunToEnd m) Q E s := by
  unfold reRunToEnd
  rw [drive_one m (by rw [h]; rfl)]
  refine wpAny_bind (wpAny_pure ?_)
  refine wpAny_bind (rules_go _ ?_ _)
  rw [h]
  exact wpAny_pure hq
theorem run_no (m : Sre.M) (h : (m.runFor 4).outcome = some .failed) {Q : Option Sre.M → Shared → Prop}
    (hq : Q none s) : wpAny (model prog w) A (reRunToEnd m) Q E s := by
  unfold reRunToEnd
  rw [drive_one m (by rw [h]; rfl)]
  refine wpAny_bind (wpAny_pure ?_)
  refine wpAny_bind (rules_go _ ?_ _)
  rw [h]
  exact wpAny_pure hq
theorem re_target {P C : Addr} {o oc : Obj} {x : Str} {t : Tok} {f0 f1 f3 f4 : Value} {xs : List Value} {n : Nat} {code : Array Nat} {Q : ReTarget → Shared → Prop}
    (hP : s.heap.get? P = some o) (hd : o.data = .fields #[f0, f1, .int 0 0, f3, f4, .ref C, .int 0 0]) (hC : s.heap.get? C = some oc) (hc : oc.data = .seq xs.toArray n) (he : (xs.toArray.map reRawOf).map (·.toNat) = code)
    (hx : x.length < 2 ^ 40)
    (hq : ∀ r : ReTarget, r.pattern = .ref P → r.string = .str x t → r.code = code → r.text = x.cps → r.groups = 0 → r.pos = 0 → r.lim = x.cps.size → Q r s) :
    wpAny (model prog w) A (reTarget "re.Pattern.search" "search" ⟨[.ref P, .str x t], []⟩) Q E s := by
  unfold reTarget
  dsimp only
  refine wpAny_bind (wpAny_of_eq (a := [some (.str x t), none, none]) (by rfl) ?_)
  dsimp only
  refine wpAny_bind (wpAny_pure ?_)
  refine wpAny_bind (wpAny_pure ?_)
  refine wpAny_bind (wpAny_fieldsOf hP hd ?_)
  refine wpAny_bind (wpAny_of_eq (a := (x.cps, 0)) (by rfl) ?_)
  dsimp only
  rw [if_neg (by show ¬ ((true && false) = true); decide), if_neg (by show ¬ ((false && true) = true); decide)]
  refine wpAny_bind (wpAny_of_eq (a := ()) (by rfl) ?_)
  unfold reRawItems
  refine wpAny_bind (wpAny_bind (wpAny_seqItems hC hc (wpAny_pure ?_)))
  refine wpAny_pure (hq _ rfl rfl he rfl rfl rfl ?_)
  show min ((2 : Int) ^ 63 - 1).toNat x.cps.size = x.cps.size
  have : x.cps.size < 2 ^ 40 := hx
  have e : ((2 : Int) ^ 63 - 1).toNat = 9223372036854775807 := by decide
  rw [e]
  (first | lia | omega)
theorem re_search {P C : Addr} {o oc : Obj} {x : Str} {t : Tok} {f0 f1 f3 f4 : Value} {xs : List Value} {n : Nat} {code : Array Nat} {S : Nat → Bool} {h₀ : Heap} {L : Addr} {m : Str → Option Value} {news : List (Addr × Obj)} {Q : Value → Shared → Prop}
    (O : OneSet code S) (F : Fr h₀ L s.heap m) (N : News h₀ L s.heap news)
    (hP : s.heap.get? P = some o) (hcl : o.cls = .type "re.Pattern") (hd : o.data = .fields #[f0, f1, .int 0 0, f3, f4, .ref C, .int 0 0]) (hC : s.heap.get? C = some oc) (hc : oc.data = .seq xs.toArray n) (he : (xs.toArray.map reRawOf).map (·.toNat) = code)
    (hx : x.length < 2 ^ 40)
    (hno : (∀ i, i < x.cps.size → S (x.cps.getD i 0) = false) → Q .none s)
    (hyes : (∃ i, i < x.cps.size ∧ S (x.cps.getD i 0) = true) → ∀ D ob h', ob.cls = .type "re.Match" → Fr h₀ L h' m → News h₀ L h' ((D, ob) :: news) → (∀ p ∈ news, p.1 < D) → Q (.ref D) { s with heap := h' }) :
    wpAny (model prog w) A (call (.builtin "re.Pattern.search") [.ref P, .str x t]) Q E s := by
  refine wpAny_call_entry rp_slot ⟨_, hP, hcl⟩ rp_entry ?_ (rp_args _ _)
  unfold Builtin.«re.Pattern.search»
  refine wpAny_bind (re_target hP hd hC hc he hx fun r e1 e2 e3 e4 e5 e6 e7 => ?_)
  unfold reAnswer
  rw [e3, e4, e5, e6, e7]
  by_cases h : ∃ i, i < x.cps.size ∧ S (x.cps.getD i 0) = true
  · refine wpAny_bind (run_yes _ (vm_some O x.cps h) ?_)
    dsimp only
    unfold reNewMatch
    generalize Sre.M.runFor 4 _ = mm
    refine wpAny_bind ?_
    show wpAny _ _ (newTuple (rawInt mm.start :: rawInt mm.handed :: []) >>= fun tu => newFields "re.Match" [r.string, r.pattern, rawInt ((0 : Nat) : Int), rawInt (x.cps.size : Int), rawInt mm.lastindex, tu]) _ _ _
    unfold newTuple newFields
    refine wpAny_bind (wpAny_newObj_type ?_ (by size_fits))
    refine wpAny_newObj_type ?_ (by size_fits)
    refine wpAny_pure ⟨_, rfl, ?_⟩
    have F1 := F.push { cls := .type "tuple", data := .seq (rawInt mm.start :: rawInt mm.handed :: []).toArray }
    have N1 := News.push F N { cls := .type "tuple", data := .seq (rawInt mm.start :: rawInt mm.handed :: []).toArray } rfl
    have N2 := News.push F1 N1 { cls := .type "re.Match", data := .fields [r.string, r.pattern, rawInt ((0 : Nat) : Int), rawInt (x.cps.size : Int), rawInt mm.lastindex, .ref s.heap.objs.size].toArray } rfl
    refine hyes h _ { cls := .type "re.Match", data := .fields [r.string, r.pattern, rawInt ((0 : Nat) : Int), rawInt (x.cps.size : Int), rawInt mm.lastindex, .ref s.heap.objs.size].toArray } _ rfl (F1.push _) (cb_drop N2 fun p hp => ?_) fun p hp => Heap.lt_size (N1 p (List.mem_cons_of_mem _ hp)).1
    rcases List.mem_cons.mp hp with rfl | hp
    · exact List.mem_cons_self
    · exact List.mem_cons_of_mem _ (List.mem_cons_of_mem _ hp)
  · refine wpAny_bind (run_no _ (vm_none O x.cps fun i hi => ?_) ?_)
    · cases hq : S (x.cps.getD i 0) with
      | false => rfl
      | true => exact absurd ⟨i, hi, hq⟩ h
    · exact wpAny_pure ⟨_, rfl, hno fun i hi => by
        cases hq : S (x.cps.getD i 0) with
        | false => rfl
        | true => exact absurd ⟨i, hi, hq⟩ h⟩
theorem match_truthy {D : Addr} {ob : Obj} {Q : Bool → Shared → Prop} (ho : s.heap.get? D = some ob) (hc : ob.cls = .type "re.Match") (hq : Q true s) : wpAny (model prog w) A (truthy (.ref D)) Q E s := by
  have hT : s.TypeIs (.ref D) "re.Match" := ⟨_, ho, hc⟩
  unfold truthy
  dsimp only
  refine wpAny_bind ?_
  unfold callSpecial?
  refine wpAny_bind (wpAny_specialOf hT rm_noBool ?_)
  refine wpAny_pure ?_
  dsimp only
  refine wpAny_bind (wpAny_specialOf hT rm_noLen ?_)
  exact wpAny_ite (wpAny_pure hq)
end
end Mine
end
section
open PySem PySem.W PyProof.Rows PySem.Calls
set_option Elab.async false
set_option maxRecDepth 100000
set_option maxHeartbeats 8000000
set_option pp.deepTerms.threshold 6
set_option pp.maxSteps 6000
namespace Mine
section
variable {prog : Program} {w : World} {A : Around} {E : Value → Shared → Prop} {s : Shared}
theorem rp_method {h₀ : Heap} {L P : Addr} {m : Str → Option Value} {K : Frag} {o : Obj} {pl : Sem Bool} {Q : Value × List Value → Shared → Prop} (F : Fr h₀ L s.heap m) (X : K.In h₀) (e : K.lookup P = some o) (hc : o.cls = .type "re.Pattern") (hn : o.dict = none)
    (h : Q (.builtin "re.Pattern.search", [.ref P]) s) : wpAny (model prog w) A (getMethod (.ref P) (Str.ofString "search") pl) Q E s :=
  getMethod_builtin ⟨_, X.keeps F.keep _ _ e, hc⟩ rp_plain rp_slot rp_type (fun a e' => by cases e'; exact ⟨_, X.keeps F.keep _ _ e, hn⟩) h
theorem rp_search {h₀ : Heap} {L P C : Addr} {m : Str → Option Value} {K : Frag} {o oc : Obj} {x : Str} {t : Tok} {f0 f1 f3 f4 : Value} {xs : List Value} {n : Nat} {code : Array Nat} {S : Nat → Bool} {news : List (Addr × Obj)} {Q : Value → Shared → Prop}
    (O : OneSet code S) (F : Fr h₀ L s.heap m) (N : News h₀ L s.heap news) (X : K.In h₀)
    (e : K.lookup P = some o) (hcl : o.cls = .type "re.Pattern") (hd : o.data = .fields #[f0, f1, .int 0 0, f3, f4, .ref C, .int 0 0]) (e2 : K.lookup C = some oc) (hc : oc.data = .seq xs.toArray n) (he : (xs.toArray.map Builtin.Re.reRawOf).map (·.toNat) = code)
    (hx : x.length < 2 ^ 40)
    (hno : (∀ i, i < x.cps.size → S (x.cps.getD i 0) = false) → Q .none s)
    (hyes : (∃ i, i < x.cps.size ∧ S (x.cps.getD i 0) = true) → ∀ D ob h', ob.cls = .type "re.Match" → Fr h₀ L h' m → News h₀ L h' ((D, ob) :: news) → (∀ p ∈ news, p.1 < D) → Q (.ref D) { s with heap := h' }) :
    wpAny (model prog w) A (call (.builtin "re.Pattern.search") [.ref P, .str x t]) Q E s :=
  re_search O F N (X.keeps F.keep _ _ e) hcl hd (X.keeps F.keep _ _ e2) hc he hx hno hyes
end
section
variable {prog : Program} {w : World} {A : Around} {E : Value → Shared → Prop} {s : Shared}
open Builtin Builtin.Str in
theorem replP {x y z : Str} {t u v : Tok} {Q : Value → Shared → Prop} (hu : @LT.lt Nat _ 0 u) (hv : @LT.lt Nat _ 0 v) (huv : u ≠ v) (hyz : (y == z) = false) (hb : x.length + (x.length + 1) * z.length ≤ 16777216)
    (hq : ∀ t' (k : Nat), s.toks ≤ k → Q (.str (Txt.replace x y z) t') { s with toks := k }) : wpAny (model prog w) A (call (.builtin "str.replace") [.str x t, .str y u, .str z v]) Q E s := by
  have hl : tooLong (x.length + (occurrences x y 0 x.length (x.length + 1)).length * z.length) = false := by
    have h1 := StrLaws.occ_length_le x y 0 x.length (x.length + 1)
    have h2 := Nat.mul_le_mul_right z.length h1
    unfold tooLong sizeLine
    exact decide_eq_false (by (first | lia | omega))
  have hu' : u ≠ 0 := Nat.ne_of_gt hu
  have hv' : v ≠ 0 := Nat.ne_of_gt hv
  refine call_gives F.slot_str_replace (typeIs_str _ _ _) F.entry_str_replace (F.args_str_replace_3 _ _ _)
    (gives_str_replace x y z t u v fun _ => ⟨by simp [hu', hv'], by simp [huv], hyz, hl⟩) ?_
  unfold Txt.replace at hq
  split
  · rename_i h; rw [if_pos h] at hq; exact hq _ _ (Nat.le_refl _)
  · rename_i h; rw [if_neg h] at hq; exact ⟨fits_replaced y hb, hq _ _ (Nat.le_succ _)⟩
theorem gen_toks {α : Type} {M : Model} {tr : Sem α} {Q : α → Shared → Prop} {h : Heap} {g : Array GenState} {d : Drawn} {X : Nat} {os : OsState} (hp : 0 < X) (hq : ∀ tk, 0 < tk → wpAny M A tr Q E ⟨h, g, d, tk, os⟩) : wpAny M A tr Q E ⟨h, g, d, X, os⟩ := hq X hp
end
noncomputable def fmtq (y x : List Nat) : List Nat := y ++ [61, 34] ++ rep 34 [92, 34] (rep 92 [92, 92] x) ++ [34]
noncomputable def fmt0 (y x : List Nat) : List Nat := if x = [] then y else if x.any (csS tsp) then fmtq y x else y ++ [61] ++ x
theorem tx_append (a b : List Nat) : tx a ++ tx b = tx (a ++ b) := str_ext (by rw [Str.cps_append, Array.toList_append]; simp [tx])
theorem tx_nil : Str.empty = tx [] := rfl
theorem c_fmt0 (w : World) (news : List (Addr × Obj)) (x y : List Nat) (t t' t2 : Tok) (hx : x.length ≤ 13) (hy : y.length ≤ 13) : GivesV w news (call (.ref 61) [.str (tx y) t', .str (tx x) t, .int 0 t2]) 1 8 (fun t => .str (tx (fmt0 y x)) t) := by
  k_with_none
  k_with "execs cons" => ((with_reducible show wpAny _ _ (execs _ _) _ _ (Shared.mk _ _ _ (_ + _) _)); (k_dflt refine gen_toks (by first | (first | lia | omega) | (simp; done) | (simp; (first | lia | omega))) ?_); intro ztk zhp9)
  k_with "call builtin:str.replace" => ((k_dflt refine replP (by (first | lia | omega)) (by (first | lia | omega)) (Nat.ne_of_lt (by (first | lia | omega))) (by decide) (Nat.le_trans (Nat.add_le_add (by assumption) (Nat.mul_le_mul (Nat.succ_le_succ (by assumption)) (show Str.length _ ≤ 6 by decide))) (by decide)) ?_); intro zt9 zk9 zhp9; (try dsimp only at zhp9 ⊢); (try k_sweep))
  k_with "call builtin:re.Pattern.search" => (refine halt ?_)
  k_with "truthy ref" => (refine halt ?_)
  k_with "getMethod ref" => ((with_reducible show wpAny _ _ (getMethod (Value.ref _) (Str.ofString "search") _) _ _ _); k_dflt (refine rp_method (by k_asm) (by k_asm) (by k_is) (by rfl) (by rfl) ?_))
  k_with "ktr_rel" => ((refine' code_def ?k1 ?k2 ?k3 ?k4 ?k5 ?kA ?kF ?kK ?k6 ?k7 ?k8 ?k9 ?kB ?_ ?c2 ?c3 ?c4 ?c5; (case kA => exact rfl); (case kF => exact rfl); (case kK => assumption); (case k1 => k_asm); (case k2 => k_asm); (case k3 => k_asm); (case k4 => k_asm); (case k5 => k_asm); (case k6 => k_is); (case k7 => k_is); (case k8 => ktr_room); (case k9 => exact binds_K (by k_in) rfl (by k_is) rfl rfl rfl); (case c5 => decide); (case kB => exact locs rfl); (case c2 => exact rfl); (case c3 => exact rfl); (case c4 => exact rfl); k_whole; intro zgq zLq zhq zFGq zFq zNq zBq zXq zTq; (try dsimp only); (try k_lift zBq); (try k_fold)))
  unfold GivesV
  w_top off
  k_fill
  intro loose mean mg mb dp un gd cn cs a ccd cl outer A₀ base h₀ L m s Q E B F X N T hk hdp hun hret
  have hb : (tx x).length ≤ 13 := by rw [tx_length]; exact hx
  have hby : (tx y).length ≤ 13 := by rw [tx_length]; exact hy
  have hb2 : (Txt.replace (tx x) (Str.ofString "\\") (Str.ofString "\\\\")).length ≤ 41 := by
    have h1 := replace_len (tx x) (Str.ofString "\\") (Str.ofString "\\\\")
    rw [show (Str.ofString "\\\\").length = 2 by decide] at h1; (first | lia | omega)
  have hb3 : (Txt.replace (Txt.replace (tx x) (Str.ofString "\\") (Str.ofString "\\\\")) (Str.ofString "\"") (Str.ofString "\\\"")).length ≤ 125 := by
    have h1 := replace_len (Txt.replace (tx x) (Str.ofString "\\") (Str.ofString "\\\\")) (Str.ofString "\"") (Str.ofString "\\\"")
    rw [show (Str.ofString "\\\"").length = 2 by decide] at h1; (first | lia | omega)
  refine wpAny_call ?_
  k_dflt ktr_rel
  k_steps
  · unfold Halt
    rename Fr _ _ _ _ => F1
    rename News _ _ _ _ => N1
    rename Frag.In _ _ => X1
    refine rp_search tsp_one F1 N1 X1 (by k_dflt k_is) rfl rfl (by k_dflt k_is) rfl (by simp [Builtin.Re.reRawOf, tsp]) (by (first | lia | omega)) (fun h => ?_) (fun h D ob h' hc F2 N2 lD => ?_)
    · k_steps
      refine cb_retS hret ?_ (by assumption) (by assumption)
      rw [show Str.ofString "=" = tx [61] by decide, tx_nil, tx_append, tx_append, tx_append, fmt0, if_neg ?h1, if_neg ?h2]
      · rfl
      case h1 => intro h0; subst h0; rename _ < _ => hlt; rw [tx_length] at hlt; simp at hlt
      case h2 =>
        intro h0
        obtain ⟨c, hc, hS⟩ := List.any_eq_true.mp h0
        obtain ⟨i, hi, e⟩ := List.mem_iff_getElem.mp hc
        have := h i (by simpa [tx] using hi)
        rw [show (tx x).cps.getD i 0 = c by simp [tx, hi, e], hS] at this
        cases this
    · dsimp only
      k_steps
      unfold Halt
      refine match_truthy (N2 _ List.mem_cons_self).1 hc ?_
      k_steps
      refine cb_retS hret ?_ (by assumption) (cb_drop (by assumption) fun p hp => List.mem_cons_of_mem _ hp)
      rw [replace_tx 92 [92, 92] _ (by decide) (by decide), replace_tx 34 [92, 34] _ (by decide) (by decide), show Str.ofString "=\"" = tx [61, 34] by decide, show Str.ofString "\"" = tx [34] by decide, tx_nil, tx_append, tx_append, tx_append, tx_append, fmt0, if_neg ?h1, if_pos ?h2]
      · rfl
      case h1 => intro h0; subst h0; rename _ < _ => hlt; rw [tx_length] at hlt; simp at hlt
      case h2 =>
        obtain ⟨i, hi, hS⟩ := h
        have hi' : i < x.length := by simpa [tx] using hi
        refine List.any_eq_true.mpr ⟨x[i], List.getElem_mem hi', ?_⟩
        rw [← hS]; simp [tx, hi']
  · refine cb_retS hret ?_ (by assumption) (by assumption)
    rw [fmt0, if_pos]
    cases x with
    | nil => rfl
    | cons c r => rename ¬ _ => hlt; rw [tx_length] at hlt; simp at hlt
theorem c_fmt1 (w : World) (news : List (Addr × Obj)) (x y : List Nat) (t t' : Tok) (hx : x.length ≤ 13) (hy : y.length ≤ 13) (h0 : x ≠ []) : GivesV w news (call (.ref 61) [.str (tx y) t', .str (tx x) t]) 1 8 (fun t => .str (tx (fmtq y x)) t) := by
  k_with_none
  k_with "execs cons" => ((with_reducible show wpAny _ _ (execs _ _) _ _ (Shared.mk _ _ _ (_ + _) _)); (k_dflt refine gen_toks (by first | (first | lia | omega) | (simp; done) | (simp; (first | lia | omega))) ?_); intro ztk zhp9)
  k_with "call builtin:str.replace" => ((k_dflt refine replP (by (first | lia | omega)) (by (first | lia | omega)) (Nat.ne_of_lt (by (first | lia | omega))) (by decide) (Nat.le_trans (Nat.add_le_add (by assumption) (Nat.mul_le_mul (Nat.succ_le_succ (by assumption)) (show Str.length _ ≤ 6 by decide))) (by decide)) ?_); intro zt9 zk9 zhp9; (try dsimp only at zhp9 ⊢); (try k_sweep))
  k_with "call builtin:re.Pattern.search" => (refine halt ?_)
  k_with "truthy ref" => (refine halt ?_)
  k_with "getMethod ref" => ((with_reducible show wpAny _ _ (getMethod (Value.ref _) (Str.ofString "search") _) _ _ _); k_dflt (refine rp_method (by k_asm) (by k_asm) (by k_is) (by rfl) (by rfl) ?_))
  k_with "ktr_rel" => ((refine' code_def ?k1 ?k2 ?k3 ?k4 ?k5 ?kA ?kF ?kK ?k6 ?k7 ?k8 ?k9 ?kB ?_ ?c2 ?c3 ?c4 ?c5; (case kA => exact rfl); (case kF => exact rfl); (case kK => assumption); (case k1 => k_asm); (case k2 => k_asm); (case k3 => k_asm); (case k4 => k_asm); (case k5 => k_asm); (case k6 => k_is); (case k7 => k_is); (case k8 => ktr_room); (case k9 => exact binds_K (by k_in) rfl (by k_is) rfl rfl rfl); (case c5 => decide); (case kB => exact locs rfl); (case c2 => exact rfl); (case c3 => exact rfl); (case c4 => exact rfl); k_whole; intro zgq zLq zhq zFGq zFq zNq zBq zXq zTq; (try dsimp only); (try k_lift zBq); (try k_fold)))
  unfold GivesV
  w_top off
  k_fill
  intro loose mean mg mb dp un gd cn cs a ccd cl outer A₀ base h₀ L m s Q E B F X N T hk hdp hun hret
  have hb : (tx x).length ≤ 13 := by rw [tx_length]; exact hx
  have hby : (tx y).length ≤ 13 := by rw [tx_length]; exact hy
  have hb2 : (Txt.replace (tx x) (Str.ofString "\\") (Str.ofString "\\\\")).length ≤ 41 := by
    have h1 := replace_len (tx x) (Str.ofString "\\") (Str.ofString "\\\\")
    rw [show (Str.ofString "\\\\").length = 2 by decide] at h1; (first | lia | omega)
  have hb3 : (Txt.replace (Txt.replace (tx x) (Str.ofString "\\") (Str.ofString "\\\\")) (Str.ofString "\"") (Str.ofString "\\\"")).length ≤ 125 := by
    have h1 := replace_len (Txt.replace (tx x) (Str.ofString "\\") (Str.ofString "\\\\")) (Str.ofString "\"") (Str.ofString "\\\"")
    rw [show (Str.ofString "\\\"").length = 2 by decide] at h1; (first | lia | omega)
  refine wpAny_call ?_
  k_dflt ktr_rel
  k_steps
  · refine cb_retS hret ?_ (by assumption) (by assumption)
    rw [replace_tx 92 [92, 92] _ (by decide) (by decide), replace_tx 34 [92, 34] _ (by decide) (by decide), show Str.ofString "=\"" = tx [61, 34] by decide, show Str.ofString "\"" = tx [34] by decide, tx_nil, tx_append, tx_append, tx_append, tx_append]
    rfl
  · rename ¬ _ => hlt
    rw [tx_length] at hlt
    cases x with
    | nil => exact absurd rfl h0
    | cons c r => simp at hlt
end Mine
end
section
open PySem PySem.W PyProof.Rows PySem.Calls
set_option Elab.async false
set_option maxRecDepth 100000
set_option maxHeartbeats 8000000
set_option pp.deepTerms.threshold 6
set_option pp.maxSteps 6000
namespace Mine
noncomputable def cost (x y : Nat) : Nat := if x = y then 0 else if Txt.lower (tx [x]) == Txt.lower (tx [y]) then 1 else 2
theorem tx_beq (x y : Nat) : (tx [x] == tx [y]) = decide (x = y) := by
  by_cases h : x = y
  · subst h; simp
  · rw [decide_eq_false h]
    rw [beq_eq_false_iff_ne]
    intro e
    have := congrArg (fun s : Str => s.cps[0]?) e
    exact h (by simpa [tx] using this)
theorem c_sub (w : World) (news : List (Addr × Obj)) (x y : Nat) (t t' : Tok) : GivesV w news (call (.ref 202) [.str (tx [x]) t, .str (tx [y]) t']) 1 8 (fun t => .int (cost x y) t) := by
  k_with_none
  unfold GivesV
  w_top off
  k_fill
  intro loose mean mg mb dp un gd cn cs a ccd cl outer A₀ base h₀ L m s Q E B F X N T hk hdp hun hret
  have hb : (tx [x]).length ≤ 1 := by rw [tx_length]; exact Nat.le_refl _
  have hby : (tx [y]).length ≤ 1 := by rw [tx_length]; exact Nat.le_refl _
  refine wpAny_call ?_
  k_dflt cell_enter
  k_steps
  all_goals (refine cb_retI hret ?_ (by assumption) (by assumption))
  · rename _ = true => h1
    rw [tx_beq, decide_eq_true_eq] at h1
    rw [cost, if_pos h1]; rfl
  · rename (tx [x] == tx [y]) = false => h1
    rename (Txt.lower _ == Txt.lower _) = true => h2
    rw [tx_beq, decide_eq_false_iff_not] at h1
    rw [cost, if_neg h1, if_pos h2]; rfl
  · rename (tx [x] == tx [y]) = false => h1
    rename (Txt.lower _ == Txt.lower _) = false => h2
    rw [tx_beq, decide_eq_false_iff_not] at h1
    rw [cost, if_neg h1, if_neg (by rw [h2]; decide)]; rfl
theorem cost_lost : ∀ c, c ∈ [60, 62, 34, 13, 10, 9] → ∀ y, y < 128 → y ≠ c → cost c y = 2 := by
  have : ∀ c, c ∈ [60, 62, 34, 13, 10, 9] → ∀ y, y < 128 → (y ≠ c → (Txt.lower (tx [c]) == Txt.lower (tx [y])) = false) := by
    decide +kernel
  intro c hc y hy hn
  rw [cost, if_neg (Ne.symm hn), if_neg (by rw [this c hc y hy hn]; decide)]
end Mine
end
section
open PySem PySem.W PyProof.Rows PySem.Calls
set_option Elab.async false
set_option maxRecDepth 100000
set_option maxHeartbeats 1000000
namespace Mine
open Builtin Builtin.Str
theorem pick_run (l : List Nat) (i k : Nat) (h : i + k ≤ l.length) : ((List.range k).map fun (j : Nat) => i + j).filterMap (l.toArray[·]?) = (l.drop i).take k := by
  induction k generalizing i with
  | zero => simp
  | succ k ih =>
    have hi : i < l.length := by (first | lia | omega)
    rw [List.range_succ_eq_map, List.map_cons, List.map_map, List.filterMap_cons]
    have e : l.toArray[i + 0]? = some l[i] := by simp [hi]
    rw [e]
    have e2 : ((fun (j : Nat) => i + j) ∘ Nat.succ) = fun (j : Nat) => (i + 1) + j := by funext j; simp only [Function.comp]; (first | lia | omega)
    rw [e2]
    have := ih (i + 1) (by (first | lia | omega))
    rw [this, List.drop_eq_getElem_cons hi, List.take_succ_cons]
theorem idx_run {lo hi : Option Int} {n i j : Nat} (e : strSliceIndices lo hi 1 n = sliceRange (i : Int) (j : Int) 1) (hij : i ≤ j) : strSliceIndices lo hi 1 n = (List.range (j - i)).map fun k => i + k := by
  rw [e]
  unfold sliceRange
  simp only [show ((1 : Int) > 0) from by decide, if_true]
  by_cases h : (i : Int) < j
  · rw [if_pos h]
    rw [show (((j : Int) - i + 1 - 1) / 1).toNat = j - i by rw [Int.ediv_one]; (first | lia | omega)]
    refine List.map_congr_left fun k _ => ?_
    (first | lia | omega)
  · rw [if_neg h, show j - i = 0 by (first | lia | omega)]; rfl
theorem slice_run {l : List Nat} {lo hi : Option Int} {i j : Nat} (e : strSliceIndices lo hi 1 l.length = sliceRange (i : Int) (j : Int) 1) (hij : i ≤ j) (hj : j ≤ l.length) : Txt.slice (tx l) lo hi = tx ((l.drop i).take (j - i)) := by
  have hl : (tx l).length = l.length := tx_length l
  unfold Txt.slice
  rw [hl, idx_run e hij]
  split
  · rename_i h
    simp only [List.length_map, List.length_range, Bool.and_eq_true, beq_iff_eq] at h
    have h1 : i = 0 := by (first | lia | omega)
    have h2 : j = l.length := by (first | lia | omega)
    subst h1 h2
    simp
  · show (⟨(((List.range (j - i)).map fun k => i + k).filterMap (l.toArray[·]?)).toArray⟩ : Str) = _
    rw [pick_run l i (j - i) (by (first | lia | omega))]; rfl
theorem slice_from (l : List Nat) (n : Nat) (h : n ≤ l.length) : Txt.slice (tx l) (some (n : Int)) none = tx (l.drop n) := by
  rw [slice_run (i := n) (j := l.length) ?_ h (Nat.le_refl _)]
  · rw [List.take_of_length_le (by simp)]
  · unfold strSliceIndices
    simp only [show ((1 : Int) > 0) from by decide, if_true, show ¬ ((n : Int) < 0) by (first | lia | omega), if_false]
    rw [show max 0 (min (n : Int) (l.length : Int)) = (n : Int) by (first | lia | omega)]
theorem slice_upto (l : List Nat) (k : Nat) (h0 : 0 < k) (h : k ≤ l.length) : Txt.slice (tx l) none (some (-(k : Int))) = tx (l.take (l.length - k)) := by
  rw [slice_run (i := 0) (j := l.length - k) ?_ (Nat.zero_le _) (by (first | lia | omega))]
  · simp
  · unfold strSliceIndices
    simp only [show ((1 : Int) > 0) from by decide, if_true, show (-(k : Int) < 0) by (first | lia | omega)]
    rw [show max 0 (min (-(k : Int) + (l.length : Int)) (l.length : Int)) = ((l.length - k : Nat) : Int) by (first | lia | omega)]
    rfl
theorem slice_all (l : List Nat) : Txt.slice (tx l) none none = tx l := by
  rw [slice_run (i := 0) (j := l.length) rfl (Nat.zero_le _) (Nat.le_refl _)]
  simp
theorem item_tx (l : List Nat) (n : Nat) (h : n < l.length) : Txt.item (tx l) (n : Int) = tx [l[n]] := by
  unfold Txt.item Txt.charAt
  rw [tx_length]
  have : seqIndex? (n : Int) l.length = some n := by
    unfold seqIndex?
    simp; (first | lia | omega)
  rw [this]
  simp [tx, h]
theorem item_neg (l : List Nat) (k : Nat) (h : k < l.length) : Txt.item (tx l) (-(k : Int) - 1) = tx [l[l.length - 1 - k]] := by
  unfold Txt.item Txt.charAt
  rw [tx_length]
  have : seqIndex? (-(k : Int) - 1) l.length = some (l.length - 1 - k) := by
    unfold seqIndex?
    simp; (first | lia | omega)
  rw [this]
  simp [tx, show l.length - 1 - k < l.length by (first | lia | omega)]
end Mine
end
section
namespace Mine
inductive Ed (f : Nat → Nat → Nat) : List Nat → List Nat → Nat → Prop
  | nil : Ed f [] [] 0
  | sub {a b : List Nat} {c : Nat} (x y : Nat) (h : Ed f a b c) : Ed f (x :: a) (y :: b) (f y x + c)
  | ins {a b : List Nat} {c : Nat} (y : Nat) (h : Ed f a b c) : Ed f a (y :: b) (c + 2)
  | del {a b : List Nat} {c : Nat} (x : Nat) (h : Ed f a b c) : Ed f (x :: a) b (c + 2)
theorem Ed.cast {f : Nat → Nat → Nat} {a b : List Nat} {c c' : Nat} (h : Ed f a b c) (e : c = c') : Ed f a b c' := e ▸ h
theorem Ed.app {f : Nat → Nat → Nat} {a b a' b' : List Nat} {c c' : Nat} (h : Ed f a b c) (h' : Ed f a' b' c') : Ed f (a ++ a') (b ++ b') (c + c') := by
  induction h with
  | nil => rw [Nat.zero_add]; exact h'
  | sub x y _ ih => exact (Ed.sub x y ih).cast (by (first | lia | omega))
  | ins y _ ih => exact (Ed.ins y ih).cast (by (first | lia | omega))
  | del x _ ih => exact (Ed.del x ih).cast (by (first | lia | omega))
theorem Ed.rev {f : Nat → Nat → Nat} {a b : List Nat} {c : Nat} (h : Ed f a b c) : Ed f a.reverse b.reverse c := by
  induction h with
  | nil => exact .nil
  | sub x y _ ih => rw [List.reverse_cons, List.reverse_cons]; exact (ih.app (.sub x y .nil)).cast (by (first | lia | omega))
  | ins y _ ih => rw [List.reverse_cons]; exact (by simpa using ih.app (.ins y .nil))
  | del x _ ih => rw [List.reverse_cons]; exact (by simpa using ih.app (.del x .nil))
theorem Ed.tailL {f : Nat → Nat → Nat} {l b : List Nat} {c : Nat} (h : Ed f l b c) : ∀ {x : Nat} {a : List Nat}, l = x :: a → ∃ c', c' ≤ c + 2 ∧ Ed f a b c' := by
  induction h with
  | nil => intro _ _ e; cases e
  | sub x y h _ => intro _ _ e; cases e; exact ⟨_, by (first | lia | omega), .ins y h⟩
  | ins y _ ih => intro _ _ e; obtain ⟨c', h1, h2⟩ := ih e; exact ⟨_, by (first | lia | omega), .ins y h2⟩
  | del x h _ => intro _ _ e; cases e; exact ⟨_, by (first | lia | omega), h⟩
theorem Ed.tailR {f : Nat → Nat → Nat} {a l : List Nat} {c : Nat} (h : Ed f a l c) : ∀ {y : Nat} {b : List Nat}, l = y :: b → ∃ c', c' ≤ c + 2 ∧ Ed f a b c' := by
  induction h with
  | nil => intro _ _ e; cases e
  | sub x y h _ => intro _ _ e; cases e; exact ⟨_, by (first | lia | omega), .del x h⟩
  | ins y h _ => intro _ _ e; cases e; exact ⟨_, by (first | lia | omega), h⟩
  | del x _ ih => intro _ _ e; obtain ⟨c', h1, h2⟩ := ih e; exact ⟨_, by (first | lia | omega), .del x h2⟩
theorem Ed.trim1 {f : Nat → Nat → Nat} {a b : List Nat} {x c : Nat} (h : Ed f (x :: a) (x :: b) c) : ∃ c', c' ≤ c ∧ Ed f a b c' := by
  cases h with
  | sub _ _ h => exact ⟨_, by (first | lia | omega), h⟩
  | ins _ h => obtain ⟨c', h1, h2⟩ := h.tailL rfl; exact ⟨c', by (first | lia | omega), h2⟩
  | del _ h => obtain ⟨c', h1, h2⟩ := h.tailR rfl; exact ⟨c', by (first | lia | omega), h2⟩
theorem Ed.trimP {f : Nat → Nat → Nat} {a b : List Nat} : ∀ (p : List Nat) {c : Nat}, Ed f (p ++ a) (p ++ b) c → ∃ c', c' ≤ c ∧ Ed f a b c'
  | [], c, h => ⟨c, Nat.le_refl _, h⟩
  | x :: p, c, h => by
    obtain ⟨c1, h1, h2⟩ := Ed.trim1 (x := x) (a := p ++ a) (b := p ++ b) h
    obtain ⟨c2, h3, h4⟩ := Ed.trimP p h2
    exact ⟨c2, by (first | lia | omega), h4⟩
theorem Ed.trimS {f : Nat → Nat → Nat} {a b s : List Nat} {c : Nat} (h : Ed f (a ++ s) (b ++ s) c) : ∃ c', c' ≤ c ∧ Ed f a b c' := by
  have h1 := h.rev
  rw [List.reverse_append, List.reverse_append] at h1
  obtain ⟨c', h2, h3⟩ := h1.trimP
  refine ⟨c', h2, ?_⟩
  have := h3.rev
  rwa [List.reverse_reverse, List.reverse_reverse] at this
noncomputable def dp (f : Nat → Nat → Nat) (a b : List Nat) : Nat → Nat → Nat
  | 0, j => 2 * j
  | i + 1, 0 => 2 * (i + 1)
  | i + 1, j + 1 => min (min (if j = 0 then 2 * i else dp f a b (i + 1) j) (dp f a b i (j + 1)) + 2) (dp f a b i j + f (b.getD i 0) (a.getD j 0))
theorem dp_zero (f : Nat → Nat → Nat) (a b : List Nat) (j : Nat) : dp f a b 0 j = 2 * j := by rw [dp]
theorem dp_col (f : Nat → Nat → Nat) (a b : List Nat) (i : Nat) : dp f a b i 0 = 2 * i := by cases i <;> rw [dp]
theorem dp_step (f : Nat → Nat → Nat) (a b : List Nat) (i j : Nat) : dp f a b (i + 1) (j + 1) = min (min (if j = 0 then 2 * i else dp f a b (i + 1) j) (dp f a b i (j + 1)) + 2) (dp f a b i j + f (b.getD i 0) (a.getD j 0)) := by rw [dp]
theorem dp_le {f : Nat → Nat → Nat} {a b ra rb : List Nat} {c : Nat} (h : Ed f ra rb c) : ∀ {ta tb : List Nat}, a = ra.reverse ++ ta → b = rb.reverse ++ tb → dp f a b rb.length ra.length ≤ c := by
  induction h with
  | nil => intro _ _ _ _; simp [dp_zero]
  | @sub a0 b0 c0 x y h ih =>
    intro ta tb ea eb
    have e1 : a = a0.reverse ++ x :: ta := by rw [ea]; simp
    have e2 : b = b0.reverse ++ y :: tb := by rw [eb]; simp
    have := ih e1 e2
    have g1 : a.getD a0.length 0 = x := by rw [e1, List.getD_eq_getElem?_getD, List.getElem?_append_right (by simp)]; simp
    have g2 : b.getD b0.length 0 = y := by rw [e2, List.getD_eq_getElem?_getD, List.getElem?_append_right (by simp)]; simp
    rw [List.length_cons, List.length_cons, dp_step, g1, g2]
    (first | lia | omega)
  | @ins a0 b0 c0 y h ih =>
    intro ta tb ea eb
    have e2 : b = b0.reverse ++ y :: tb := by rw [eb]; simp
    have := ih ea e2
    rw [List.length_cons]
    cases hj : a0.length with
    | zero => rw [hj, dp_col] at this; rw [dp_col]; (first | lia | omega)
    | succ j => rw [hj] at this; rw [dp_step]; (first | lia | omega)
  | @del a0 b0 c0 x h ih =>
    intro ta tb ea eb
    have e1 : a = a0.reverse ++ x :: ta := by rw [ea]; simp
    have := ih e1 eb
    rw [List.length_cons]
    cases hi : b0.length with
    | zero => rw [hi, dp_zero] at this; rw [dp_zero]; (first | lia | omega)
    | succ i =>
      rw [hi] at this
      rw [dp_step]
      split
      · rename_i hj; rw [hj, dp_col] at this; (first | lia | omega)
      · (first | lia | omega)
theorem dp_lower {f : Nat → Nat → Nat} {a b : List Nat} (lost : Nat → Bool) (h2 : ∀ s ∈ a, lost s = true → ∀ t ∈ b, f t s = 2) : ∀ (i j : Nat), i ≤ b.length → j ≤ a.length → 2 * i + 2 * (a.take j).countP lost ≤ dp f a b i j + 2 * j
  | 0, j, _, hj => by
    rw [dp_zero]
    have := List.countP_le_length (p := lost) (l := a.take j)
    rw [List.length_take] at this
    (first | lia | omega)
  | i + 1, 0, _, _ => by rw [dp_col]; simp
  | i + 1, j + 1, hi, hj => by
    have ja : j < a.length := by (first | lia | omega)
    have ib : i < b.length := by (first | lia | omega)
    have e : (a.take (j + 1)).countP lost = (a.take j).countP lost + (if lost a[j] = true then 1 else 0) := by
      rw [List.take_add_one, List.getElem?_eq_getElem ja, Option.toList, List.countP_append, List.countP_cons, List.countP_nil]; (first | lia | omega)
    have r1 := dp_lower lost h2 i (j + 1) (by (first | lia | omega)) hj
    have r2 := dp_lower lost h2 i j (by (first | lia | omega)) (by (first | lia | omega))
    have r3 := dp_lower lost h2 (i + 1) j hi (by (first | lia | omega))
    rw [e] at r1 ⊢
    rw [dp_step]
    have g1 : a.getD j 0 = a[j] := by rw [List.getD_eq_getElem?_getD, List.getElem?_eq_getElem ja]; rfl
    have g2 : b.getD i 0 = b[i] := by rw [List.getD_eq_getElem?_getD, List.getElem?_eq_getElem ib]; rfl
    rw [g1, g2]
    have hc : lost a[j] = true → f b[i] a[j] = 2 := fun h => h2 _ (List.getElem_mem ja) h _ (List.getElem_mem ib)
    by_cases hl : lost a[j] = true
    · rw [hc hl]
      rw [if_pos hl] at r1 ⊢
      by_cases hj0 : j = 0
      · subst hj0
        simp only [List.take_zero, List.countP_nil] at r1 r2 r3 ⊢
        simp only [if_true]; (first | lia | omega)
      · rw [if_neg hj0]; (first | lia | omega)
    · rw [if_neg hl] at r1 ⊢
      by_cases hj0 : j = 0
      · subst hj0
        simp only [List.take_zero, List.countP_nil] at r1 r2 r3 ⊢
        simp only [if_true]; (first | lia | omega)
      · rw [if_neg hj0]; (first | lia | omega)
theorem dp_one {f : Nat → Nat → Nat} (hf : ∀ x y, f x y ≤ 2) (a b : List Nat) (i : Nat) : dp f a b (i + 1) 1 ≤ 2 * (i + 1) := by
  have := hf (b.getD i 0) (a.getD 0 0)
  rw [dp_step]; simp only [dp_col, if_true]; (first | lia | omega)
theorem dp_min {f : Nat → Nat → Nat} (hf : ∀ x y, f x y ≤ 2) {a b : List Nat} {i n : Nat} {m : Nat} (hn : 1 ≤ n) (h : ∀ j, j < n → m ≤ dp f a b (i + 1) (j + 1)) : ∀ j, j < n → m ≤ dp f a b (i + 2) (j + 1)
  | 0, hj => by
    have h1 := dp_one hf a b i
    have h2 := h 0 (by (first | lia | omega))
    rw [dp_step]
    simp only [Nat.zero_add, dp_col, if_true] at h2 ⊢
    (first | lia | omega)
  | j + 1, hj => by
    have h1 : m ≤ dp f a b (i + 1 + 1) (j + 1) := dp_min hf hn h j (by (first | lia | omega))
    have h2 := h (j + 1) hj
    have h3 := h j (by (first | lia | omega))
    rw [dp_step, if_neg (by (first | lia | omega))]
    (first | lia | omega)
theorem dp_early {f : Nat → Nat → Nat} (hf : ∀ x y, f x y ≤ 2) {a b : List Nat} {n : Nat} {m : Nat} (hn : 1 ≤ n) (i : Nat) (h : ∀ j, j < n → m ≤ dp f a b (i + 1) (j + 1)) : ∀ k, ∀ j, j < n → m ≤ dp f a b (i + 1 + k) (j + 1)
  | 0 => h
  | k + 1 => by
    have := dp_early hf hn i h k
    rw [show i + 1 + (k + 1) = (i + k) + 2 by (first | lia | omega)]
    rw [show i + 1 + k = (i + k) + 1 by (first | lia | omega)] at this
    exact dp_min hf hn this
structure LevOk (f : Nat → Nat → Nat) (lost : Nat → Bool) (a b : List Nat) (d : Nat) : Prop where
  le : a.length ≤ b.length
  ed : ∃ c, c ≤ d ∧ Ed f a b c
  no : ∀ s ∈ b, lost s = false
  two : ∀ s ∈ a, lost s = true → ∀ t ∈ b, f t s = 2
  sum : d + 2 * a.length = 2 * b.length + 2 * a.countP lost
theorem countP_no {lost : Nat → Bool} {l : List Nat} (h : ∀ s ∈ l, lost s = false) : l.countP lost = 0 := by
  rw [List.countP_eq_zero]; intro s hs; rw [h s hs]; decide
theorem LevOk.pre {f : Nat → Nat → Nat} {lost : Nat → Bool} {p a b : List Nat} {d : Nat} (h : LevOk f lost (p ++ a) (p ++ b) d) : LevOk f lost a b d := by
  obtain ⟨h1, ⟨c, hc, h2⟩, h3, h4, h5⟩ := h
  obtain ⟨c', h6, h7⟩ := h2.trimP
  have z : p.countP lost = 0 := countP_no fun s hs => h3 s (List.mem_append_left _ hs)
  rw [List.countP_append, z] at h5
  simp only [List.length_append] at h1 h5
  exact ⟨by (first | lia | omega), ⟨c', by (first | lia | omega), h7⟩, fun s hs => h3 s (List.mem_append_right _ hs), fun s hs hl t ht => h4 s (List.mem_append_right _ hs) hl t (List.mem_append_right _ ht), by (first | lia | omega)⟩
theorem LevOk.suf {f : Nat → Nat → Nat} {lost : Nat → Bool} {p a b : List Nat} {d : Nat} (h : LevOk f lost (a ++ p) (b ++ p) d) : LevOk f lost a b d := by
  obtain ⟨h1, ⟨c, hc, h2⟩, h3, h4, h5⟩ := h
  obtain ⟨c', h6, h7⟩ := h2.trimS
  have z : p.countP lost = 0 := countP_no fun s hs => h3 s (List.mem_append_right _ hs)
  rw [List.countP_append, z] at h5
  simp only [List.length_append] at h1 h5
  exact ⟨by (first | lia | omega), ⟨c', by (first | lia | omega), h7⟩, fun s hs => h3 s (List.mem_append_left _ hs), fun s hs hl t ht => h4 s (List.mem_append_left _ hs) hl t (List.mem_append_left _ ht), by (first | lia | omega)⟩
theorem LevOk.drop {f : Nat → Nat → Nat} {lost : Nat → Bool} {a b : List Nat} {d : Nat} (h : LevOk f lost a b d) (p : Nat) (e : a.take p = b.take p) : LevOk f lost (a.drop p) (b.drop p) d := by
  refine LevOk.pre (p := a.take p) ?_
  rw [List.take_append_drop, e, List.take_append_drop]; exact h
theorem LevOk.take {f : Nat → Nat → Nat} {lost : Nat → Bool} {a b : List Nat} {d : Nat} (h : LevOk f lost a b d) (q : Nat) (e : a.drop (a.length - q) = b.drop (b.length - q)) : LevOk f lost (a.take (a.length - q)) (b.take (b.length - q)) d := by
  refine LevOk.suf (p := a.drop (a.length - q)) ?_
  rw [List.take_append_drop, e, List.take_append_drop]; exact h
theorem LevOk.nil {f : Nat → Nat → Nat} {lost : Nat → Bool} {b : List Nat} {d : Nat} (h : LevOk f lost [] b d) : d = 2 * b.length := by
  have := h.sum; simp only [List.length_nil, List.countP_nil] at this; (first | lia | omega)
theorem LevOk.nil' {f : Nat → Nat → Nat} {lost : Nat → Bool} {a : List Nat} {d : Nat} (h : LevOk f lost a [] d) : a = [] ∧ d = 0 := by
  have h1 := h.le
  have : a = [] := List.length_eq_zero_iff.mp (by simpa using h1)
  subst this
  exact ⟨rfl, h.nil⟩
theorem LevOk.end_ {f : Nat → Nat → Nat} {lost : Nat → Bool} {a b : List Nat} {d : Nat} (h : LevOk f lost a b d) : dp f a b b.length a.length = d := by
  obtain ⟨h1, ⟨c, hc, h2⟩, h3, h4, h5⟩ := h
  have u := dp_le (a := a) (b := b) h2.rev (ta := []) (tb := []) (by simp) (by simp)
  rw [List.length_reverse, List.length_reverse] at u
  have l := dp_lower lost h4 b.length a.length (Nat.le_refl _) (Nat.le_refl _)
  rw [List.take_length] at l
  (first | lia | omega)
theorem LevOk.early {f : Nat → Nat → Nat} (hf : ∀ x y, f x y ≤ 2) {lost : Nat → Bool} {a b : List Nat} {d m i : Nat} (h : LevOk f lost a b d) (ha : 1 ≤ a.length) (hi : i < b.length) (hm : ∀ j, j < a.length → m ≤ dp f a b (i + 1) (j + 1)) : m ≤ d := by
  have := dp_early hf ha i hm (b.length - (i + 1)) (a.length - 1) (by (first | lia | omega))
  rw [show i + 1 + (b.length - (i + 1)) = b.length by (first | lia | omega), show a.length - 1 + 1 = a.length by (first | lia | omega), h.end_] at this
  exact this
theorem LevOk.far {f : Nat → Nat → Nat} {lost : Nat → Bool} {a b : List Nat} {d : Nat} (h : LevOk f lost a b d) : 2 * (b.length - a.length) ≤ d := by
  have := h.sum; (first | lia | omega)
end Mine
end
section
open PySem PySem.W PyProof.Rows PySem.Calls
set_option Elab.async false
set_option maxRecDepth 100000
set_option maxHeartbeats 1000000
namespace Mine
theorem cost_two (x y : Nat) : cost x y ≤ 2 := by
  unfold cost
  repeat' split
  all_goals decide
noncomputable def rowN (u v : List Nat) (i j : Nat) : List Int := (List.range u.length).map fun c => if c < j then ((dp cost u v (i + 1) (c + 1) : Nat) : Int) else ((dp cost u v i (c + 1) : Nat) : Int)
theorem rowN_len (u v : List Nat) (i j : Nat) : (rowN u v i j).length = u.length := by simp [rowN]
theorem rowN_zero (u v : List Nat) : rowN u v 0 0 = (List.range u.length).map fun (c : Nat) => (2 : Int) + (c : Int) * 2 := by
  unfold rowN
  refine List.map_congr_left fun c _ => ?_
  rw [if_neg (by (first | lia | omega)), dp_zero]; (first | lia | omega)
theorem rowN_next (u v : List Nat) (i : Nat) : rowN u v i u.length = rowN u v (i + 1) 0 := by
  unfold rowN
  refine List.map_congr_left fun c hc => ?_
  have := List.mem_range.mp hc
  rw [if_pos this, if_neg (by (first | lia | omega))]
theorem rowN_get (u v : List Nat) (i j : Nat) (h : j < u.length) : (rowN u v i j).getD j 0 = ((dp cost u v i (j + 1) : Nat) : Int) := by
  unfold rowN
  rw [List.getD_eq_getElem?_getD, List.getElem?_map, List.getElem?_range h, Option.map_some, Option.getD_some, if_neg (Nat.lt_irrefl _)]
theorem rowN_set (u v : List Nat) (i j : Nat) (h : j < u.length) : (rowN u v i j).set j ((dp cost u v (i + 1) (j + 1) : Nat) : Int) = rowN u v i (j + 1) := by
  refine List.ext_getElem (by simp [rowN]) fun c h1 h2 => ?_
  simp only [rowN, List.getElem_set, List.getElem_map, List.getElem_range]
  by_cases hc : j = c
  · subst hc; rw [if_pos rfl, if_pos (by (first | lia | omega))]
  · rw [if_neg hc]
    by_cases h3 : c < j
    · rw [if_pos h3, if_pos (by (first | lia | omega))]
    · rw [if_neg h3, if_neg (by (first | lia | omega))]
theorem two_ints : ∀ (vs : List Value) (a : Int) (n : Nat), vs.length = n → (∀ (j : Nat) (v : Value), vs[j]? = some v → ∃ t, v = .int (a + j * 2) t) → IntsAre vs ((List.range n).map fun (c : Nat) => a + (c : Int) * 2)
  | [], a, n, e, _ => by
    subst e
    exact IntsAre.nil
  | v :: r, a, n, e, h => by
    subst e
    rw [List.length_cons, List.range_succ_eq_map, List.map_cons, List.map_map]
    obtain ⟨t, rfl⟩ := h 0 v rfl
    refine ints_eq (IntsAre.cons _ _ (two_ints r (a + 2) r.length rfl fun j v hj => ?_)) ?_
    · obtain ⟨t', ht'⟩ := h (j + 1) v hj
      refine ⟨t', ht'.trans ?_⟩
      congr 1
      (first | lia | omega)
    · refine List.cons_eq_cons.mpr ⟨by simp, List.map_congr_left fun c _ => ?_⟩
      simp only [Function.comp]; (first | lia | omega)
section
variable {prog : Program} {w : World} {A : Around} {E : Value → Shared → Prop} {s : Shared} {h₀ : Heap} {L r : Addr} {m : Str → Option Value} {news : List (Addr × Obj)} {b : Int} {t₀ u₀ v₀ : Tok} {n : Nat} {Q : Value → Shared → Prop}
theorem lvl_range (hh : A.handled = none) (F : Fr h₀ L s.heap m) (N : News h₀ L s.heap news) (hr : IsRange s.heap r 2 b 2 t₀ u₀ v₀) (hb : b = 2 * ((n : Int) + 1)) (h1 : 1 ≤ n) (hz : n ≤ 40)
    (h : ∀ D us c h' tk, Fr h₀ L h' m → News h₀ L h' ((D, listOf (List.toArray us) c) :: news) → (∀ p ∈ news, p.1 < D) → IntsAre us ((List.range n).map fun (c : Nat) => (2 : Int) + (c : Int) * 2) → Q (.ref D) { s with heap := h', toks := tk }) :
    wpAny (model prog w) A (call (.type "list") [.ref r]) Q E s := by
  have hn : Builtin.Range.rangeSize 2 b 2 = (n : Int) := by
    unfold Builtin.Range.rangeSize
    rw [if_pos (by decide), if_pos (by (first | lia | omega))]; (first | lia | omega)
  have hsmall : Builtin.Range.small 2 b 2 = true := by
    unfold Builtin.Range.small
    rw [hn]
    simp only [Builtin.Range.rangeFitsLong, Bool.and_eq_true, Bool.or_eq_true, decide_eq_true_eq, beq_iff_eq, show (2 : Int) > 0 by decide, if_true]
    (first | lia | omega)
  refine call_list_range hh hr hsmall hn (by (first | lia | omega)) fun h' tk acc c hk hD hI => ?_
  have hD' : h'.get? s.heap.objs.size = some (listOf (List.toArray acc.toList) c) := by
    rw [Array.toArray_toList]
    exact hD
  exact h _ acc.toList c h' tk (F.keeps hk) (news_pushed F N hk hD' rfl) (fun p hp => Heap.lt_size (N p hp).1) (two_ints _ _ _ (by rw [Array.length_toList]; exact hI.1) fun j v hj => hI.2 j v (by rw [← hj, Array.getElem?_toList]))
theorem lvl_set {D : Addr} {us : List Value} {ns ns' : List Int} {c j : Nat} {x : Int} {t u : Tok} {r : List (Addr × Obj)} {Q : Unit → Shared → Prop} (F : Fr h₀ L s.heap m) (N : News h₀ L s.heap ((D, listOf us.toArray c) :: r)) (hup : ∀ p ∈ r, p.1 ≠ D) (hi : IntsAre us ns) (hj : j < ns.length) (hl : ns.length ≤ 40) (hs : ns.set j x = ns')
    (h : ∀ h' us3, Fr h₀ L h' m → News h₀ L h' ((D, listOf (List.toArray us3) c) :: r) → IntsAre us3 ns' → Q () { s with heap := h' }) :
    wpAny (model prog w) A (setItem (.ref D) (.int (j : Int) t) (.int x u)) Q E s := by
  refine ksa_set F N (Upd.head hup) hi (by (first | lia | omega)) (by (first | lia | omega)) (by (first | lia | omega)) fun h' F1 N1 hi1 _ _ => ?_
  rw [Int.toNat_natCast, hs] at hi1
  exact h h' _ F1 N1 hi1
end
end Mine
end
section
open PySem PySem.W PyProof.Rows PySem.Calls
set_option Elab.async false
set_option maxRecDepth 100000
set_option maxHeartbeats 8000000
set_option pp.deepTerms.threshold 6
set_option pp.maxSteps 6000
namespace Mine
structure LvW (v : Str) (P : Int → Prop) (ks : List (Str × Value)) (g : Heap) (L : Addr) (news : List (Addr × Obj)) (s : Shared) (f : Flow) (s' : Shared) : Prop where
  at_ : f = .next ∧ ∃ (k : Int) (tk : Tok) (h : Heap) (tk' : Nat) (M : Str → Option Value), s' = { s with heap := h, toks := tk' } ∧ P k ∧ Fr g L h M ∧ M v = some (.int k tk) ∧ (∀ p ∈ ks, M p.1 = some p.2) ∧ News g L h news
theorem lvEnd {v : Str} {P : Int → Prop} {ks : List (Str × Value)} {g : Heap} {L : Addr} {news : List (Addr × Obj)} {s : Shared} {k : Int} {tk : Tok} {h : Heap} {tk' : Nat} {M : Str → Option Value}
    (F : Fr g L h M) (N : News g L h news) (hv : M v = some (.int k tk)) (hk : ∀ p ∈ ks, M p.1 = some p.2) (hP : P k) : LvW v P ks g L news s .next { s with heap := h, toks := tk' } := ⟨rfl, k, tk, h, tk', M, rfl, hP, F, hv, hk, N⟩
theorem sub_lt9 {n q : Nat} (h : q < n) : n - (q + 1) < n := by (first | lia | omega)
theorem sub_e9 (n q : Nat) : n - (q + 1) = n - 1 - q := by (first | lia | omega)
theorem sub_s9 {n q : Nat} (h : q < n) : n - (q + 1) + 1 = n - q := by (first | lia | omega)
theorem c_lev (w : World) (news : List (Addr × Obj)) (x y : List Nat) (t t' t2 : Tok) (mx : Int) (d : Nat) (lost : Nat → Bool) (hx : x.length ≤ 40) (hy : y.length ≤ 40) (hne : (tx x == tx y) = false) (hok : LevOk cost lost x y d) (hm : mx = d ∨ mx = (d : Int) - 1) : GivesV w news (call (.ref 209) [.str (tx x) t, .str (tx y) t', .int mx t2]) 2 20 (fun t => .int d t) := by
  k_with_none
  k_with "exec While BoolOp" => (refine halt ?_)
  k_with "subscriptTail" => (plain_pass; (with_reducible show wpAny _ _ (subscriptTail _ (Expr.Slice none (some (Expr.BoolOp _ _ _)) none _) (Value.str _ _) (Value.ref _)) _ _ _); (k_dflt (refine slice_strN_nn (by k_asm) (by k_asm) ?_; intro zh9 zt9 zk9 zF9 zN9; (rw [slice_all]); (try dsimp only))))
  k_with "subscriptTail Name Slice str ref" => (plain_pass; (with_reducible show wpAny _ _ (subscriptTail _ (Expr.Slice none (some (Expr.BoolOp _ _ _)) none _) (Value.str _ _) (Value.ref _)) _ _ _); (k_dflt (refine slice_strN_nn (by k_asm) (by k_asm) ?_; intro zh9 zt9 zk9 zF9 zN9; (rw [slice_all]); (try dsimp only))))
  k_with "exec Assign cons" => ((fail_if_success with_reducible show wpAny _ _ _ (fun f s' => TxV _ _ _ _ _ _ _ f s') _ _); (with_reducible show wpAny _ _ (exec (Stmt.Assign [Expr.Name _ _] (Expr.Subscript (Expr.Name _ _) (Expr.Slice none (some (Expr.BoolOp _ _ _)) none _) _) _) _) _ _ _); (refine halt ?_))
  k_with "exec Assign" => ((fail_if_success with_reducible show wpAny _ _ _ (fun f s' => TxV _ _ _ _ _ _ _ f s') _ _); (with_reducible show wpAny _ _ (exec (Stmt.Assign [Expr.Name _ _] (Expr.Subscript (Expr.Name _ _) (Expr.Slice none (some (Expr.BoolOp _ _ _)) none _) _) _) _) _ _ _); (refine halt ?_))
  k_with "KswEnd" => (refine halt ?_)
  k_with "call type:list" => (refine halt ?_)
  k_with "call ref" => (refine halt ?_)
  k_with "InvEndN" => (refine halt ?_)
  k_with "pyIter ref" => (refine halt ?_)
  k_with "ktr_rel" => ((case k1 => k_asm); (case k2 => k_asm); (case k3 => k_asm); (case k4 => k_asm); (case k5 => k_asm); (case k6 => first | assumption | exact rfl); (case k7 => ktr_room); (case k8 => ktr_units))
  k_with "subscriptTail" => ((with_reducible show wpAny _ _ (subscriptTail _ _ (Value.ref _) (Value.int _ _)) _ _ _); k_dflt (refine' ksa_sub ?k1 ?k2 ?k3 ?k4 ?k5 ?k6 ?_ ?k7; (case k1 => k_asm); (case k2 => k_mem); (case k3 => with_reducible assumption); (case k4 => (first | lia | omega)); (case k5 => (first | lia | omega)); (case k6 => (first | lia | omega)); (case k7 => with_unfolding_all rfl)); intro _; (try dsimp only))
  k_with "setItem ref int" => ((with_reducible show wpAny _ _ (setItem (Value.ref _) (Value.int _ _) (Value.int _ _)) _ _ _); (refine halt ?_))
  k_with "truthy str" => ((rename (-_ ≠ (_ : Int)) => zq9); (rename ((_ → _ → _) ∧ (_ → _)) => zc9); clear zc9; walk1)
  k_with "storeName" => ((k_dflt refine storeX_U (by k_asm) (by k_asm) ?_ rfl rfl); intro _ _ _; (try k_sweep))
  unfold GivesV
  w_top off
  k_fill
  intro loose mean mg mb dp un gd cn cs a ccd cl outer A₀ base h₀ L m s Q E B F X N T hk hdp hun hret
  have hb : (tx x).length ≤ 40 := by rw [tx_length]; exact hx
  have hby : (tx y).length ≤ 40 := by rw [tx_length]; exact hy
  refine wpAny_call ?_
  k_dflt cell_enter
  rename_i g1 L1 hh1 FG F1 N1 BG XG TG
  try k_fold
  k_steps
  · unfold Halt
    rename Fr _ _ _ _ => F'
    rename News _ _ _ _ => N'
    with_reducible refine wpAny_mono (Q := fun f s' => LvW (Str.ofString "pre") (fun k => ∃ p : Nat, k = p ∧ p ≤ x.length ∧ p ≤ y.length ∧ x.take p = y.take p ∧ ∀ (h1 : p < x.length) (h2 : p < y.length), x[p] ≠ y[p]) [(Str.ofString "a", .str (tx x) t), (Str.ofString "b", .str (tx y) t'), (Str.ofString "max_cost", .int mx t2)] g1 L1 news s f s') ?loop ?cont (fun _ _ e => e)
    case loop =>
      as_aux_lemma =>
        refine' ksw_while (σ := Nat × Tok) (fun c => news)
          (fun c => [(Str.ofString "pre", .int (c.1 : Int) c.2), (Str.ofString "a", .str (tx x) t), (Str.ofString "b", .str (tx y) t'), (Str.ofString "max_cost", .int mx t2)]) (fun c => True) []
          (fun c => c.1 ≤ x.length ∧ c.1 ≤ y.length ∧ x.take c.1 = y.take c.1) (fun c => x.length - c.1) (0, ?tk) F' N' ?hf ?hk ?hp ?turn ?hE
        case hk => kst_all
        case hf => trivial
        case hp => exact ⟨Nat.zero_le _, Nat.zero_le _, rfl⟩
        case hE => first | passes_own | with_unfolding_all passes_own
        case turn =>
          as_aux_lemma =>
            clear F' N'
            intro c u h tk hf hp F1 N1
            obtain ⟨pre, tp⟩ := c
            replace F1 := kswIn F1; obtain ⟨M1, hM1, F1⟩ := F1
            simp only [kstB_cons, kstB_nil] at F1
            dsimp only at hf hp N1
            obtain ⟨hp1, hp2, hp3⟩ := hp
            have ex1 : (tx (x.drop pre)).length = x.length - pre := by rw [tx_length, List.length_drop]
            have ey1 : (tx (y.drop pre)).length = y.length - pre := by rw [tx_length, List.length_drop]
            try k_fold
            k_steps
            all_goals (try rw [slice_from x pre hp1] at *)
            all_goals (try rw [slice_from y pre hp2] at *)
            · unfold Halt
              rename Fr _ _ _ _ => F2
              rename News _ _ _ _ => N2
              rename (Txt.item _ _ == _) = true => heq
              have l1 : pre < x.length := by (first | lia | omega)
              have l2 : pre < y.length := by (first | lia | omega)
              rw [item_tx x pre l1, item_tx y pre l2, tx_beq, decide_eq_true_eq] at heq
              refine ksw_end (pre + 1, _) F2 N2 (by kst_in) trivial (by kst_all) (by intro z h2 h3; refine Eq.trans ?_ (hM1 z h3); repeat (first | refine up_ne (by first | exact ne_ps h2 rfl | exact ne_st h3 rfl) ?_ | exact rfl)) ?_ ?_
              · refine ⟨l1, l2, ?_⟩
                dsimp only
                rw [List.take_add_one, List.take_add_one, hp3, List.getElem?_eq_getElem l1, List.getElem?_eq_getElem l2, heq]
              · dsimp only; (first | lia | omega)
            · rename (Txt.item _ _ == _) = false => heq
              have l1 : pre < x.length := by (first | lia | omega)
              have l2 : pre < y.length := by (first | lia | omega)
              rw [item_tx x pre l1, item_tx y pre l2, tx_beq, decide_eq_false_iff_not] at heq
              exact lvEnd (by assumption) (by assumption) (by rfl) (by kst_all) ⟨pre, rfl, hp1, hp2, hp3, fun _ _ => heq⟩
            · exact lvEnd (by assumption) (by assumption) (by rfl) (by kst_all) ⟨pre, rfl, hp1, hp2, hp3, fun _ _ => by (first | lia | omega)⟩
            · exact lvEnd (by assumption) (by assumption) (by rfl) (by kst_all) ⟨pre, rfl, hp1, hp2, hp3, fun _ _ => by (first | lia | omega)⟩
    case cont =>
      as_aux_lemma =>
        intro f s' hq
        obtain ⟨rfl, k, tk, h, tk', M, rfl, ⟨p, rfl, hp1, hp2, hp3, hp4⟩, F1, hv, hks, N1⟩ := hq
        have F2 := (upMany F1 ((Str.ofString "pre", .int (p : Int) tk) :: [(Str.ofString "a", .str (tx x) t), (Str.ofString "b", .str (tx y) t'), (Str.ofString "max_cost", .int mx t2)]) (fun q hq => by
          rcases List.mem_cons.mp hq with rfl | hq
          · exact hv
          · exact hks q hq)).1
        simp only [List.foldr] at F2
        clear hv hks F1
        try k_fold
        k_steps
        rename_i ta _ _ _ _ tb _ _ _ _ F' N'
        unfold Halt
        rw [slice_from x p hp1, slice_from y p hp2] at *
        have hX : (x.drop p).length ≤ 40 := by rw [List.length_drop]; (first | lia | omega)
        have hY : (y.drop p).length ≤ 40 := by rw [List.length_drop]; (first | lia | omega)
        have hok2 := hok.drop p hp3
        generalize x.drop p = xa at *
        generalize y.drop p = xb at *
        have hba : (tx xa).length ≤ 40 := by rw [tx_length]; exact hX
        have hbb : (tx xb).length ≤ 40 := by rw [tx_length]; exact hY
        rename Fr _ _ _ _ => F'
        rename News _ _ _ _ => N'
        with_reducible refine wpAny_mono (Q := fun f s' => LvW (Str.ofString "post") (fun k => ∃ q : Nat, k = -(q : Int) ∧ q ≤ xa.length ∧ q ≤ xb.length ∧ xa.drop (xa.length - q) = xb.drop (xb.length - q) ∧ ∀ (h1 : q < xa.length) (h2 : q < xb.length), xa[xa.length - 1 - q] ≠ xb[xb.length - 1 - q]) [(Str.ofString "a", .str (tx xa) ta), (Str.ofString "b", .str (tx xb) tb), (Str.ofString "max_cost", .int mx t2)] g1 L1 news s f s') ?loop ?cont (fun _ _ e => e)
        case loop =>
          as_aux_lemma =>
            refine' ksw_while (σ := Int × Tok) (fun c => news)
              (fun c => [(Str.ofString "post", .int c.1 c.2), (Str.ofString "a", .str (tx xa) ta), (Str.ofString "b", .str (tx xb) tb), (Str.ofString "max_cost", .int mx t2)]) (fun c => True) []
              (fun c => ∃ q : Nat, c.1 = -(q : Int) ∧ q ≤ xa.length ∧ q ≤ xb.length ∧ xa.drop (xa.length - q) = xb.drop (xb.length - q)) (fun c => (xa.length + c.1).toNat) (0, ?tk2) F' N' ?hf ?hk ?hp ?turn ?hE
            case hk => kst_all
            case hf => trivial
            case hp => exact ⟨0, rfl, Nat.zero_le _, Nat.zero_le _, by simp⟩
            case hE => first | passes_own | with_unfolding_all passes_own
            case turn =>
              as_aux_lemma =>
                clear F' N'
                intro c u h tk hf hp F1 N1
                obtain ⟨kq, tp⟩ := c
                replace F1 := kswIn F1; obtain ⟨M1, hM1, F1⟩ := F1
                simp only [kstB_cons, kstB_nil] at F1
                dsimp only at hf hp N1
                obtain ⟨q, rfl, hq1, hq2, hq3⟩ := hp
                by_cases hq0 : q = 0
                · subst hq0
                  simp only [Int.natCast_zero, Int.neg_zero] at F1
                  try k_fold
                  k_steps
                  · unfold Halt
                    rename Fr _ _ _ _ => F2
                    rename News _ _ _ _ => N2
                    rename (Txt.item _ _ == _) = true => heq
                    have l1 : 0 < xa.length := by have := tx_length xa; (first | lia | omega)
                    have l2 : 0 < xb.length := by have := tx_length xb; (first | lia | omega)
                    have i1 := item_neg xa 0 l1
                    have i2 := item_neg xb 0 l2
                    simp only [Int.natCast_zero, Int.neg_zero] at i1 i2
                    rw [i1, i2, tx_beq, decide_eq_true_eq] at heq
                    refine ksw_end (-1, _) F2 N2 (by kst_in) trivial (by kst_all) (by intro z h2 h3; refine Eq.trans ?_ (hM1 z h3); repeat (first | refine up_ne (by first | exact ne_ps h2 rfl | exact ne_st h3 rfl) ?_ | exact rfl)) ?_ ?_
                    · exact ⟨1, rfl, l1, l2, by
                        rw [List.drop_eq_getElem_cons (by (first | lia | omega)), List.drop_eq_getElem_cons (show xb.length - 1 < xb.length by (first | lia | omega))]
                        simp only [Nat.sub_zero] at heq
                        rw [heq, List.drop_of_length_le (by (first | lia | omega)), List.drop_of_length_le (by (first | lia | omega))]⟩
                    · dsimp only; (first | lia | omega)
                  · rename (Txt.item _ _ == _) = false => heq
                    have l1 : 0 < xa.length := by have := tx_length xa; (first | lia | omega)
                    have l2 : 0 < xb.length := by have := tx_length xb; (first | lia | omega)
                    have i1 := item_neg xa 0 l1
                    have i2 := item_neg xb 0 l2
                    simp only [Int.natCast_zero, Int.neg_zero] at i1 i2
                    rw [i1, i2, tx_beq, decide_eq_false_iff_not] at heq
                    exact lvEnd (by assumption) (by assumption) (by rfl) (by kst_all) ⟨0, rfl, hq1, hq2, hq3, fun _ _ => heq⟩
                  · exact lvEnd (by assumption) (by assumption) (by rfl) (by kst_all) ⟨0, rfl, hq1, hq2, hq3, fun _ h2 => by have := tx_length xb; (first | lia | omega)⟩
                  · exact lvEnd (by assumption) (by assumption) (by rfl) (by kst_all) ⟨0, rfl, hq1, hq2, hq3, fun h1 _ => by have := tx_length xa; (first | lia | omega)⟩
                · have hqp : 0 < q := by (first | lia | omega)
                  have s1 := slice_upto xa q hqp hq1
                  have s2 := slice_upto xb q hqp hq2
                  have hs1 : (Txt.slice (tx xa) none (some (-(q : Int)))).length = xa.length - q := by rw [s1, tx_length, List.length_take]; (first | lia | omega)
                  have hs2 : (Txt.slice (tx xb) none (some (-(q : Int)))).length = xb.length - q := by rw [s2, tx_length, List.length_take]; (first | lia | omega)
                  have ha9 : (tx xa).length = xa.length := tx_length xa
                  have hb9 : (tx xb).length = xb.length := tx_length xb
                  have hq9 : -(q : Int) ≠ 0 := by (first | lia | omega)
                  try k_fold
                  k_steps
                  all_goals (repeat (rename ((_ → _ → _) ∧ (_ → _)) => zc9; clear zc9))
                  all_goals (try (first | lia | omega))
                  · unfold Halt
                    rename Fr _ _ _ _ => F2
                    rename News _ _ _ _ => N2
                    rename (Txt.item _ _ == _) = true => heq
                    have l1 : q < xa.length := by (first | lia | omega)
                    have l2 : q < xb.length := by (first | lia | omega)
                    rw [item_neg xa q l1, item_neg xb q l2, tx_beq, decide_eq_true_eq] at heq
                    refine ksw_end (-(q : Int) - 1, _) F2 N2 (by kst_in) trivial (by kst_all) (by intro z h2 h3; refine Eq.trans ?_ (hM1 z h3); repeat (first | refine up_ne (by first | exact ne_ps h2 rfl | exact ne_st h3 rfl) ?_ | exact rfl)) ?_ ?_
                    · refine ⟨q + 1, by (first | lia | omega), l1, l2, ?_⟩
                      rw [List.drop_eq_getElem_cons (sub_lt9 l1), List.drop_eq_getElem_cons (sub_lt9 l2)]
                      have e1 := sub_e9 xa.length q
                      have e2 := sub_e9 xb.length q
                      have e3 := sub_s9 l1
                      have e4 := sub_s9 l2
                      rw [e3, e4, hq3]
                      simp only [e1, e2, heq]
                    · dsimp only; (first | lia | omega)
                  · rename (Txt.item _ _ == _) = false => heq
                    have l1 : q < xa.length := by (first | lia | omega)
                    have l2 : q < xb.length := by (first | lia | omega)
                    rw [item_neg xa q l1, item_neg xb q l2, tx_beq, decide_eq_false_iff_not] at heq
                    exact lvEnd (by assumption) (by assumption) (by rfl) (by kst_all) ⟨q, rfl, hq1, hq2, hq3, fun _ _ => heq⟩
                  · exact lvEnd (by assumption) (by assumption) (by rfl) (by kst_all) ⟨q, rfl, hq1, hq2, hq3, fun _ h2 => by (first | lia | omega)⟩
                  · exact lvEnd (by assumption) (by assumption) (by rfl) (by kst_all) ⟨q, rfl, hq1, hq2, hq3, fun h1 _ => by (first | lia | omega)⟩
        case cont =>
          as_aux_lemma =>
            intro f s' hq
            obtain ⟨rfl, k, tkq, h, tk', M, rfl, ⟨q, rfl, hq1, hq2, hq3, hq4⟩, F1, hv, hks, N1⟩ := hq
            have F2 := (upMany F1 ((Str.ofString "post", .int (-(q : Int)) tkq) :: [(Str.ofString "a", .str (tx xa) ta), (Str.ofString "b", .str (tx xb) tb), (Str.ofString "max_cost", .int mx t2)]) (fun q hq => by
              rcases List.mem_cons.mp hq with rfl | hq
              · exact hv
              · exact hks q hq)).1
            simp only [List.foldr] at F2
            clear hv hks F1
            try k_fold
            k_steps
            unfold Halt
            have tl : ∀ l : List Nat, (tx l).length = l.length := tx_length
            with_reducible refine wpAny_mono (Q := fun f s' => TxV (Str.ofString "a") (tx (xa.take (xa.length - q))) g1 L1 (up (Str.ofString "post") (Value.int (-(q : Int)) tkq) (up (Str.ofString "a") (.str (tx xa) ta) (up (Str.ofString "b") (.str (tx xb) tb) (up (Str.ofString "max_cost") (.int mx t2) M)))) news s f s') ?sla ?slb (fun _ _ e => e)
            case sla =>
              as_aux_lemma =>
                by_cases hq0 : q = 0
                · subst hq0
                  have e0 : xa.take (xa.length - 0) = xa := by simp
                  simp only [Int.natCast_zero, Int.neg_zero] at F2
                  rw [e0]
                  try k_fold
                  k_steps
                  exact ⟨⟨rfl, _, _, _, rfl, by assumption, by assumption⟩⟩
                · have hqp : 0 < q := by (first | lia | omega)
                  have s1 := slice_upto xa q hqp hq1
                  have hs1 : (Txt.slice (tx xa) none (some (-(q : Int)))).length = xa.length - q := by rw [s1, tx_length, List.length_take]; (first | lia | omega)
                  have ha9 : (tx xa).length = xa.length := tx_length xa
                  have hq9 : -(q : Int) ≠ 0 := by (first | lia | omega)
                  try k_fold
                  k_steps
                  all_goals (repeat (rename ((_ → _ → _) ∧ (_ → _)) => zc9; clear zc9))
                  all_goals (try (first | lia | omega))
                  rw [s1] at *
                  exact ⟨⟨rfl, _, _, _, rfl, by assumption, by assumption⟩⟩
            case slb =>
              as_aux_lemma =>
                intro f s' hq
                obtain ⟨⟨rfl, ta', h, tk', rfl, F3, N3⟩⟩ := hq
                clear F2 N1
                try k_fold
                k_steps
                unfold Halt
                with_reducible refine wpAny_mono (Q := fun f s' => TxV (Str.ofString "b") (tx (xb.take (xb.length - q))) g1 L1 (up (Str.ofString "a") (.str (tx (xa.take (xa.length - q))) ta') (up (Str.ofString "post") (Value.int (-(q : Int)) tkq) (up (Str.ofString "a") (.str (tx xa) ta) (up (Str.ofString "b") (.str (tx xb) tb) (up (Str.ofString "max_cost") (.int mx t2) M))))) news s f s') ?sl2 ?slc (fun _ _ e => e)
                case sl2 =>
                  as_aux_lemma =>
                    by_cases hq0 : q = 0
                    · subst hq0
                      have e0 : xb.take (xb.length - 0) = xb := by simp
                      simp only [Int.natCast_zero, Int.neg_zero] at F3
                      rw [e0]
                      try k_fold
                      k_steps
                      exact ⟨⟨rfl, _, _, _, rfl, by assumption, by assumption⟩⟩
                    · have hqp : 0 < q := by (first | lia | omega)
                      have s1 := slice_upto xb q hqp hq2
                      have hs1 : (Txt.slice (tx xb) none (some (-(q : Int)))).length = xb.length - q := by rw [s1, tx_length, List.length_take]; (first | lia | omega)
                      have ha9 : (tx xb).length = xb.length := tx_length xb
                      have hq9 : -(q : Int) ≠ 0 := by (first | lia | omega)
                      try k_fold
                      k_steps
                      all_goals (repeat (rename ((_ → _ → _) ∧ (_ → _)) => zc9; clear zc9))
                      all_goals (try (first | lia | omega))
                      rw [s1] at *
                      exact ⟨⟨rfl, _, _, _, rfl, by assumption, by assumption⟩⟩
                case slc =>
                  as_aux_lemma =>
                    intro f s' hq
                    obtain ⟨⟨rfl, tb', h, tk', rfl, F4, N4⟩⟩ := hq
                    clear F3 N3
                    obtain ⟨M5, F5⟩ := frCut F4 [(Str.ofString "a", .str (tx (xa.take (xa.length - q))) ta'), (Str.ofString "b", .str (tx (xb.take (xb.length - q))) tb'), (Str.ofString "max_cost", .int mx t2)] (by
                      intro q hq
                      rcases List.mem_cons.mp hq with rfl | hq
                      · rfl
                      · rcases List.mem_cons.mp hq with rfl | hq
                        · rfl
                        · rw [List.mem_singleton.mp hq]; rfl)
                    simp only [List.foldr] at F5
                    clear F4
                    have hok3 := hok2.take q hq3
                    have hA : (xa.take (xa.length - q)).length ≤ 40 := by rw [List.length_take]; (first | lia | omega)
                    have hB : (xb.take (xb.length - q)).length ≤ 40 := by rw [List.length_take]; (first | lia | omega)
                    generalize xa.take (xa.length - q) = u at *
                    generalize xb.take (xb.length - q) = v at *
                    clear hq3 hq4 hok2
                    have hu1 : (tx u).length = u.length := tx_length u
                    have hv1 : (tx v).length = v.length := tx_length v
                    have hle := hok3.le
                    try k_fold
                    k_steps
                    · refine cb_retI hret ?_ (by assumption) (by assumption)
                      have := hok3.far
                      rename mx < _ => hlt
                      (first | lia | omega)
                    · unfold Halt
                      rename Fr _ _ _ (up _ _ _) => F6
                      rename News _ _ _ _ => N6
                      rename IsRange _ _ _ _ _ _ _ _ => R6
                      refine lvl_range (n := u.length) rfl F6 N6 R6 (by (first | lia | omega)) (by (first | lia | omega)) hA ?_
                      intro D us c h9 tk9 F7 N7 lD hI
                      rw [← rowN_zero u v] at hI
                      try k_fold
                      k_steps
                      unfold Halt
                      rename Fr _ _ _ (up _ _ _) => F8
                      rename News _ _ _ _ => N8
                      rename IsRange _ _ _ _ 1 _ _ _ => R8
                      have hi0 : IntsAre us (rowN u v 0 0) := by assumption
                      obtain ⟨M8, F8', hM8⟩ := frHide F8 [(Str.ofString "result", .int 0 _), (Str.ofString "row", .ref D), (Str.ofString "a", .str (tx u) ta'), (Str.ofString "b", .str (tx v) tb'), (Str.ofString "max_cost", .int mx t2)] (by kst_all)
                      clear F8
                      refine' kst_range (σ := List Value × Nat × Int × Tok) (n := v.length) (fun st => (D, listOf (List.toArray st.1) st.2.1) :: news) (fun st => [(Str.ofString "result", .int st.2.2.1 st.2.2.2), (Str.ofString "row", .ref D), (Str.ofString "a", .str (tx u) ta'), (Str.ofString "b", .str (tx v) tb'), (Str.ofString "max_cost", .int mx t2)]) (fun _ => True)
                        [Str.ofString "bchar", Str.ofString "distance", Str.ofString "minimum", Str.ofString "index", Str.ofString "substitute", Str.ofString "insert_delete"]
                        (fun pre st => IntsAre st.1 (rowN u v pre.length 0) ∧ (pre.length ≠ 0 → st.2.2.1 = (Mine.dp cost u v pre.length u.length : Nat))) (us, c, 0, ?tk3) rfl R8 (small_one (by (first | lia | omega)) (by (first | lia | omega)) (by (first | lia | omega)) (by (first | lia | omega))) (by rw [rangeSize_nat]; (first | lia | omega)) F8' N8 trivial ?hk ?hp ?turn ?done
                      case hp => exact ⟨hi0, fun h => absurd rfl h⟩
                      case hk => exact hM8
                      case turn =>
                        as_aux_lemma =>
                          clear F8' N8 hM8
                          intro st pre k t9 uu h8 tk8 own ek hlt hoff hf hp F9 N9
                          obtain ⟨us1, c1, r1, tr1⟩ := st
                          rw [Int.zero_add] at ek
                          subst ek
                          replace F9 := kstIn F9; obtain ⟨M9, hM9, F9⟩ := F9
                          simp only [kstB_cons, kstB_nil] at F9
                          dsimp only at hp N9 hoff
                          simp only [List.cons_append] at N9
                          obtain ⟨hp1, hp2⟩ := hp
                          try k_fold
                          k_steps
                          unfold Halt
                          rename Fr _ _ _ (up _ _ _) => F10
                          rename News _ _ _ _ => N10
                          rename IsRange _ _ _ _ 1 _ _ _ => R10
                          rw [item_tx v pre.length hlt] at *
                          generalize hi : pre.length = i at *
                          obtain ⟨tbc, hbc⟩ := frTok F10 (Str.ofString "bchar") (l := tx [v[i]]) ⟨_, rfl⟩
                          refine' kst_range (σ := List Value × Nat × (Int × Tok) × (Int × Tok) × (Int × Tok)) (n := u.length) (fun st => (D, listOf (List.toArray st.1) st.2.1) :: (news ++ own)) (fun st => [(Str.ofString "result", .int st.2.2.1.1 st.2.2.1.2), (Str.ofString "distance", .int st.2.2.2.1.1 st.2.2.2.1.2), (Str.ofString "minimum", .int st.2.2.2.2.1 st.2.2.2.2.2), (Str.ofString "row", .ref D), (Str.ofString "a", .str (tx u) ta'), (Str.ofString "bchar", .str (tx [v[i]]) tbc), (Str.ofString "b", .str (tx v) tb'), (Str.ofString "max_cost", .int mx t2)]) (fun _ => True)
                            [Str.ofString "substitute", Str.ofString "insert_delete"]
                            (fun pre2 st => IntsAre st.1 (rowN u v i pre2.length) ∧ st.2.2.1.1 = ((if pre2.length = 0 then 2 * i else Mine.dp cost u v (i + 1) pre2.length : Nat) : Int) ∧ st.2.2.2.1.1 = (Mine.dp cost u v i pre2.length : Nat) ∧ (∀ c, c < pre2.length → st.2.2.2.2.1 ≤ (Mine.dp cost u v (i + 1) (c + 1) : Nat))) (us1, c1, ((i : Int) * 2, ?tk4), ((i : Int) * 2, ?tk5), (9223372036854775807, ?tk6)) rfl R10 (small_one (by (first | lia | omega)) (by (first | lia | omega)) (by (first | lia | omega)) (by (first | lia | omega))) (by rw [rangeSize_nat]; (first | lia | omega)) F10 N10 trivial ?hk2 ?hp2 ?turn2 ?done2
                          case hk2 => repeat (first | exact List.forall_mem_nil _ | refine List.forall_mem_cons.mpr ⟨by first | exact hbc | with_unfolding_all rfl, ?_⟩)
                          case hp2 => exact ⟨hp1, by dsimp only [List.length_nil]; rw [if_pos rfl]; (first | lia | omega), by dsimp only [List.length_nil]; rw [dp_col]; (first | lia | omega), fun c hc => absurd hc (Nat.not_lt_zero _)⟩
                          case turn2 =>
                            as_aux_lemma =>
                              clear F10 N10 F9 N9
                              intro st2 pre2 k t10 uu2 h11 tk11 own2 ek2 hlt2 hoff2 hf2 hp9 F11 N11
                              obtain ⟨us2, c2, ⟨r2, tr2⟩, ⟨d2, td2⟩, ⟨m2, tm2⟩⟩ := st2
                              rw [Int.zero_add] at ek2
                              subst ek2
                              replace F11 := kstIn F11; obtain ⟨M11, hM11, F11⟩ := F11
                              simp only [kstB_cons, kstB_nil] at F11
                              dsimp only at hp9 N11 hoff2
                              simp only [List.cons_append] at N11
                              obtain ⟨hq1, hq2, hq3, hq4⟩ := hp9
                              try k_fold
                              k_steps
                              unfold Halt
                              rw [item_tx u pre2.length hlt2] at *
                              generalize hj : pre2.length = j at *
                              rename Fr _ _ _ _ => F12
                              rename News _ _ _ _ => N12
                              refine' useV (c_sub w _ _ _ _ _) ?k1 ?k2 ?k3 ?k4 ?k5 ?k6 ?k7 ?k8 ?_
                              ktr_rel
                              intro t12 h12 tk12 F13 N13
                              have g0 : (rowN u v i j).getD ((j : Nat) : Int).toNat 0 = ((Mine.dp cost u v i (j + 1) : Nat) : Int) := by rw [Int.toNat_natCast]; exact rowN_get u v i j hlt2
                              have s0 := rowN_set u v i j hlt2
                              have l0 := rowN_len u v i j
                              dsimp only
                              try k_fold
                              k_steps
                              unfold Halt
                              have hX : (if d2 + ((cost v[i] u[j] : Nat) : Int) < (if (rowN u v i j).getD ((j : Nat) : Int).toNat 0 < r2 then (rowN u v i j).getD ((j : Nat) : Int).toNat 0 else r2) + 2 then d2 + ((cost v[i] u[j] : Nat) : Int) else (if (rowN u v i j).getD ((j : Nat) : Int).toNat 0 < r2 then (rowN u v i j).getD ((j : Nat) : Int).toNat 0 else r2) + 2) = ((Mine.dp cost u v (i + 1) (j + 1) : Nat) : Int) := by
                                have gu : u.getD j 0 = u[j] := by rw [List.getD_eq_getElem?_getD, List.getElem?_eq_getElem hlt2]; rfl
                                have gv : v.getD i 0 = v[i] := by rw [List.getD_eq_getElem?_getD, List.getElem?_eq_getElem hlt]; rfl
                                rw [g0, hq2, hq3, dp_step, gu, gv]
                                generalize (if j = 0 then 2 * i else Mine.dp cost u v (i + 1) j) = z
                                repeat' split
                                all_goals (first | lia | omega)
                              rename Fr _ _ _ _ => F14
                              rename News _ _ _ _ => N14
                              rw [hX] at F14 ⊢
                              rw [g0] at F14
                              clear hX
                              have hup : ∀ p ∈ news ++ own ++ own2, p.1 ≠ D := by
                                intro p hp
                                rcases List.mem_append.mp hp with h | h
                                · rcases List.mem_append.mp h with h | h
                                  · exact Nat.ne_of_lt (lD p h)
                                  · exact hoff p h D (by simp)
                                · exact hoff2 p h D (by simp)
                              refine lvl_set F14 N14 hup hq1 (by (first | lia | omega)) (by (first | lia | omega)) s0 ?_
                              intro h15 us3 F15 N15 hi15
                              clear F14 N14
                              (try dsimp only)
                              try k_fold
                              k_steps
                              · unfold Halt
                                rename Fr _ _ _ _ => F16
                                rename News _ _ _ _ => N16
                                refine' kst_end (us3, c2, (((Mine.dp cost u v (i + 1) (j + 1) : Nat) : Int), ?oa), (((Mine.dp cost u v i (j + 1) : Nat) : Int), ?ob), (((Mine.dp cost u v (i + 1) (j + 1) : Nat) : Int), ?oc)) F16 N16 ?oa0 ?oa1 ?oar trivial ?oa2 ?oa3 ?oa4
                                case oa2 => kst_all
                                case oar => rfl
                                case oa0 =>
                                  intro p hp
                                  simp only [List.mem_cons, List.mem_append] at hp ⊢
                                  rcases hp with h | h | h
                                  · exact .inl h
                                  · exact .inr (.inl (.inl h))
                                  · exact .inr (.inl (.inr h))
                                case oa1 => intro p hp; exact List.mem_cons_of_mem _ (List.mem_append_right _ hp)
                                case oa3 => (intro z h1 h2 h3; refine Eq.trans ?_ (hM11 z h3); repeat (first | refine up_ne (by first | exact h1 | exact ne_ps h2 rfl | exact ne_st h3 rfl) ?_ | exact rfl))
                                case oa4 =>
                                  dsimp only
                                  rw [List.length_append, hj]
                                  refine ⟨hi15, ?_, rfl, ?_⟩
                                  · rw [if_neg (by simp)]; rfl
                                  · rename _ < m2 => hlt3
                                    intro c hc
                                    by_cases hcj : c = j
                                    · rw [hcj]; exact Int.le_refl _
                                    · have := hq4 c (by simp at hc; (first | lia | omega))
                                      (first | lia | omega)
                              · unfold Halt
                                rename Fr _ _ _ _ => F16
                                rename News _ _ _ _ => N16
                                refine' kst_end (us3, c2, (((Mine.dp cost u v (i + 1) (j + 1) : Nat) : Int), ?pa), (((Mine.dp cost u v i (j + 1) : Nat) : Int), ?pb), (m2, ?pc)) F16 N16 ?pa0 ?pa1 ?par trivial ?pa2 ?pa3 ?pa4
                                case pa2 => kst_all
                                case par => rfl
                                case pa0 =>
                                  intro p hp
                                  simp only [List.mem_cons, List.mem_append] at hp ⊢
                                  rcases hp with h | h | h
                                  · exact .inl h
                                  · exact .inr (.inl (.inl h))
                                  · exact .inr (.inl (.inr h))
                                case pa1 => intro p hp; exact List.mem_cons_of_mem _ (List.mem_append_right _ hp)
                                case pa3 => (intro z h1 h2 h3; refine Eq.trans ?_ (hM11 z h3); repeat (first | refine up_ne (by first | exact h1 | exact ne_ps h2 rfl | exact ne_st h3 rfl) ?_ | exact rfl))
                                case pa4 =>
                                  dsimp only
                                  rw [List.length_append, hj]
                                  refine ⟨hi15, ?_, rfl, ?_⟩
                                  · rw [if_neg (by simp)]; rfl
                                  · rename ¬ _ < m2 => hlt3
                                    intro c hc
                                    by_cases hcj : c = j
                                    · rw [hcj]; (first | lia | omega)
                                    · exact hq4 c (by simp at hc; (first | lia | omega))
                          case done2 =>
                            as_aux_lemma =>
                              clear F10 N10 F9 N9
                              intro st2 uu2 h11 tk11 hf2 hp9 F11 N11
                              obtain ⟨us2, c2, ⟨r2, tr2⟩, ⟨d2, td2⟩, ⟨m2, tm2⟩⟩ := st2
                              replace F11 := kstOut F11 rfl; obtain ⟨M11, hM11, F11⟩ := F11
                              simp only [kstB_cons, kstB_nil] at F11
                              dsimp only at hp9 N11
                              rw [rangeKs_length, rowN_next] at hp9
                              obtain ⟨hq1, hq2, hq3, hq4⟩ := hp9
                              rw [if_neg (by (first | lia | omega))] at hq2
                              try k_fold
                              k_steps
                              · rename mx < m2 => hgt
                                refine cb_retI hret ?_ (by assumption) (cb_drop (by assumption) fun p hp => List.mem_cons_of_mem _ (List.mem_append_left _ hp))
                                have e1 := hok3.early cost_two (m := m2.toNat) (i := i) (by (first | lia | omega)) hlt (fun c hc => by have := hq4 c hc; (first | lia | omega))
                                (first | lia | omega)
                              · unfold Halt
                                rename Fr _ _ _ _ => F16
                                rename News _ _ _ _ => N16
                                refine' kst_end (us2, c2, r2, tr2) F16 N16 ?qa0 ?qa1 ?qar trivial ?qa2 ?qa3 ?qa4
                                case qa2 => kst_all
                                case qar => rfl
                                case qa0 =>
                                  intro p hp
                                  simp only [List.mem_cons, List.mem_append] at hp ⊢
                                  rcases hp with h | h
                                  · exact .inl h
                                  · exact .inr (.inl h)
                                case qa1 => intro p hp; exact List.mem_cons_of_mem _ (List.mem_append_right _ hp)
                                case qa3 =>
                                  intro z h1 h2 h3
                                  repeat (refine up_ne (by first | exact h1 | exact ne_ps h2 rfl | exact ne_st h3 rfl) ?_)
                                  refine (hM11 z (ne_st h3 rfl) (st_sub h3 rfl)).trans ?_
                                  repeat (first | refine up_ne (by first | exact h1 | exact ne_ps h2 rfl | exact ne_st h3 rfl) ?_ | exact hM9 z h3)
                                case qa4 =>
                                  dsimp only
                                  rw [List.length_append, hi]
                                  exact ⟨hq1, fun _ => hq2⟩
                      case done =>
                        as_aux_lemma =>
                          clear F8' N8 hM8
                          intro st uu h8 tk8 hf hp F9 N9
                          obtain ⟨us1, c1, r1, tr1⟩ := st
                          replace F9 := kstOut F9 rfl; obtain ⟨M9, _, F9⟩ := F9
                          simp only [kstB_cons, kstB_nil] at F9
                          dsimp only at hp N9
                          rw [rangeKs_length] at hp
                          obtain ⟨hp1, hp2⟩ := hp
                          try k_fold
                          k_steps
                          refine cb_retI hret ?_ (by assumption) (cb_drop (by assumption) fun p hp => List.mem_cons_of_mem _ hp)
                          rw [hp2 (by (first | lia | omega)), hok3.end_]
                    · refine cb_retI hret ?_ (by assumption) (by assumption)
                      rename ((tx v).length : Int) = 0 => hv0
                      have hv2 : v = [] := List.length_eq_zero_iff.mp (by (first | lia | omega))
                      subst hv2
                      have := hok3.nil'
                      (first | lia | omega)
                    · refine cb_retI hret ?_ (by assumption) (by assumption)
                      rename ((tx u).length : Int) = 0 => hu0
                      have hu2 : u = [] := List.length_eq_zero_iff.mp (by (first | lia | omega))
                      subst hu2
                      have := hok3.nil
                      (first | lia | omega)
end Mine
end
section
open PySem PySem.W PyProof.Rows PySem.Calls
set_option Elab.async false
set_option maxRecDepth 100000
set_option maxHeartbeats 1000000
namespace Mine
open LCg (lst lst_snoc)
section
variable {prog : Program} {w : World} {A : Around} {E : Value → Shared → Prop} {s : Shared} {h₀ : Heap} {L ax : Addr} {m : Str → Option Value} {env : Env} {ct elt it : Expr} {x : Str} {px : Pos} {scope : Scope} {cl : List (Str × Addr)} {pos : Pos} {Q : Value → Shared → Prop} {vs : List Value} {ts : List Nat} {cn : Nat} {base : List (Addr × Obj)}
theorem off1_mem {D : Addr} : ∀ {l : List (Addr × Obj)}, LCg.Off1 D l → ∀ p ∈ l, p.1 ≠ D
  | [], _, _, hp => nomatch hp
  | _ :: _, h, p, hp => by
    rcases List.mem_cons.mp hp with rfl | hp
    · exact h.1
    · exact off1_mem h.2 p hp
theorem mapS (g : Nat → Int) (F₀ : Fr h₀ L s.heap m) (hh : A.handled = none)
    (hclos : closureFor scope env = pure cl) (hcell : ∀ y ∈ scope.names, y.2 ≠ .cell) (hkind : scope.kind = .function)
    (hnames : ∀ y ∈ scope.names, y.2 = .local → scope.names.lookup y.1 = some .local) (hx : scope.names.lookup x = some .local)
    (hsrc : wpAny (model prog w) A (eval it env) (fun r s' => Halt ((∃ t, r = .str (tx ts) t) ∧ ∃ h tk news, s' = { s with heap := h, toks := tk } ∧ Fr h₀ L h m ∧ News h₀ L h news ∧ ∀ p ∈ base, p ∈ news)) E s)
    (hsz : ts.length ≤ 100000) (hts : ∀ c ∈ ts, c < 128) (hs : ∀ x, foldedSetIterable it env x = pure x)
    (helt : ∀ news k t I oI C oC D m₂ ys h tk (E' : Value → Shared → Prop), k ∈ ts → LCg.NsObj oC m₂ → m₂ x = some (.str (tx [k]) t) → Fr h₀ L h m → News h₀ L h ((I, oI) :: (C, oC) :: (D, lst ys) :: news) →
      wpAny (model prog w) A (eval elt (compEnvC scope cl C env)) (fun y s' => Halt ((∃ t', y = .int (g k) t') ∧ ∃ h' tk', s' = { s with heap := h', toks := tk' } ∧ Fr h₀ L h' m ∧ News h₀ L h' ((I, oI) :: (C, oC) :: (D, lst ys) :: news))) E' { s with heap := h, toks := tk })
    (hQ : ∀ D ys h tk, Fr h₀ L h m → News h₀ L h ((D, lst ys) :: base) → (∀ p ∈ base, p.1 ≠ D) → IntsAre ys (ts.map g) → Q (.ref D) { s with heap := h, toks := tk }) :
    wpAny (model prog w) A (eval (.ListComp elt [⟨.Name x px, it, [], 0⟩] scope pos) env) Q E s := by
  rw [eval_ListComp]
  refine wpAny_comprehension_free (use := none) rfl hs hclos hkind hnames (wpAny_mono hsrc (fun xv s₁ h₁ => ?_) fun _ _ e => e)
  unfold Halt at h₁
  obtain ⟨⟨t, rfl⟩, h1, tk1, news, rfl, F, N, hsub⟩ := h₁
  have ha : (tx ts).cps.all (· < 128) = true := by
    show ts.toArray.all _ = true
    rw [List.all_toArray, List.all_eq_true]
    intro c hc; simpa using hts c hc
  have hn : (tx ts).cps.size = ts.length := by simp [tx]
  refine wpAny_pyIter_ascii ha ?_
  have key : ∀ (s₂ : Shared) (e2 : ∃ h, s₂ = { s with heap := h, toks := tk1 }) (j i : Nat) (ys : List Value), i + j = ts.length → IntsAre ys ((ts.take i).map g) →
      LCg.CompRest prog w A h₀ L m env elt x scope cl s₂ (fun _ => True) (SignAt (tx ts)) (LCg.FinE h₀ L m s₂ Q) j i ys news := by
    rintro s₂ ⟨hx2, rfl⟩ j
    induction j with
    | zero =>
      intro i ys hij hy
      refine LCg.CompRest.zero ?_
      have e : ts.take i = ts := List.take_of_length_le (by (first | lia | omega))
      rw [e] at hy
      intro D h tk F' N' off
      exact hQ D ys h tk F' (fun p hp => N' p (by rcases List.mem_cons.mp hp with rfl | hp; exact .head _; exact .tail _ (hsub p hp))) (fun p hp => off1_mem off p (hsub p hp)) hy
    | succ j ih =>
      intro i ys hij hy
      refine LCg.CompRest.succ ?_
      intro v I oI C oC D m₂ h tk E' hv hC hx' F' N' off ne
      obtain ⟨k, u, hk, rfl⟩ := hv
      have hk' : ts[i]? = some k := by simpa [tx] using hk
      have hkm := List.mem_of_getElem? hk'
      refine wpAny_mono (helt news k u I oI C oC D m₂ ys h tk E' hkm hC hx' F' N') (fun y s' hq => ?_) fun _ _ e => e
      unfold Halt at hq
      obtain ⟨⟨t', rfl⟩, h2, tk2, rfl, F3, N3⟩ := hq
      refine ⟨h2, tk2, news, rfl, F3, N3, off, trivial, ih (i + 1) _ (by (first | lia | omega)) ?_⟩
      rw [List.take_add_one, hk']
      simpa using IntsAre.append hy (.cons (g k) t' .nil)
  have up : ∀ (o : Obj) b o', h1.get? b = some o' → (h1.push o).get? b = some o' := fun o b o' e => Heap.get?_push_of_some _ e
  refine LCg.block_U (Walks.strAscii hh h1.objs.size (tx ts) t) (by rw [hn, sizeLine_eq]; (first | lia | omega)) (fun i h st => by obtain ⟨o, e, _⟩ := st; exact ⟨o, e⟩)
    (S := fun _ => True) (fun i h h' o nw st e e' _ _ _ => by obtain ⟨o', q, r⟩ := st; rw [e] at q; cases q; exact ⟨o, e', r⟩) hcell hkind hx ⟨_, Heap.get?_push_size _ rfl, rfl, rfl⟩ (fun b hb => ?_)
    (F.keeps (up _)) (N.grown (up _)) (Nat.ne_of_lt F.ns.lt) (next_is_new F) (fun p hp => Nat.ne_of_lt (Heap.lt_size (N p hp).1)) trivial (by rw [hn]; exact key _ ⟨_, rfl⟩ _ 0 [] (by (first | lia | omega)) (by simpa using IntsAre.nil)) ?_
  · rw [List.mem_singleton.mp hb]
    show h1.objs.size < (h1.push _).objs.size
    rw [Heap.size_push]; exact Nat.lt_succ_self _
  · intro D C h tk m' ys news' F' N' o1 hn hC₀ hD₀ hCL hDL hCD offC fin
    refine ⟨m', hn, fun h'' hs'' => fin D h'' tk (F'.change hs'' hCL hC₀) (fun p hp => ?_) o1⟩
    refine ⟨hs''.extBut _ _ ?_ (N' p hp).1, (N' p hp).2⟩
    rcases List.mem_cons.mp hp with rfl | hp
    · exact Ne.symm hCD
    · exact offC p hp
end
end Mine
end
section
open PySem PySem.W PyProof.Rows PySem.Calls
set_option Elab.async false
set_option maxRecDepth 100000
set_option maxHeartbeats 1000000
namespace Mine
section
variable {prog : Program} {w : World} {A : Around} {E : Value → Shared → Prop} {s : Shared} {env : Env} {h₀ : Heap} {x : Str} {px pos : Pos} {body : List Stmt} {iter : Expr} {Q : Flow → Shared → Prop}
theorem forCell (J : Nat → (Str → Option Value) → List (Addr × Obj) → Prop) (n : Nat) (hn : n ≤ 100) (hh : A.handled = none)
    (hiter : wpAny (model prog w) A (eval iter env) (fun xv s₁ => Halt (∃ r t u v h tk m news, xv = .ref r ∧ s₁ = { s with heap := h, toks := tk } ∧ IsRange h r 0 (n : Int) 1 t u v ∧ Fr h₀ env.locals h m ∧ News h₀ env.locals h news ∧ J 0 m news)) E s)
    (turn : ∀ i I m news h tk t, i < n → J i m news → (∀ p ∈ news, p.1 ≠ I) → Fr h₀ env.locals h m → News h₀ env.locals h ((I, itR (((i + 1 : Nat) : Int)) ((n : Int) - ((i + 1 : Nat) : Int))) :: news) →
      wpAny (model prog w) A (storeName env x (.int (i : Int) t)) (fun _ s₂ => wpAny (model prog w) A (execs body env) (fun f s₃ => match f with
        | .ret v => Q (.ret v) s₃
        | .brk => Q .next s₃
        | _ => Halt (∃ h' tk' m' news', s₃ = { s with heap := h', toks := tk' } ∧ Fr h₀ env.locals h' m' ∧ News h₀ env.locals h' ((I, itR (((i + 1 : Nat) : Int)) ((n : Int) - ((i + 1 : Nat) : Int))) :: news') ∧ (∀ p ∈ news', p.1 ≠ I) ∧ J (i + 1) m' news')) E s₂) E { s with heap := h, toks := tk })
    (done : ∀ m news h tk, J n m news → Fr h₀ env.locals h m → News h₀ env.locals h news → Q .next { s with heap := h, toks := tk })
    (hs : ∀ x, foldedSetIterable iter env x = pure x := by intro _; rfl)
    (hE : PassesOwn (model prog w) A env E := by passes_own) :
    wpAny (model prog w) A (exec (.For (.Name x px) iter body [] pos) env) Q E s := by
  refine wpAny_For (wpAny_mono hiter (fun xv s₁ h₁ => ?_) fun _ _ e => e) hs
  unfold Halt at h₁
  obtain ⟨r, t, u, v, h, tk, m, news, rfl, rfl, hr, F, N, hJ⟩ := h₁
  have hsz : Builtin.Range.rangeSize 0 (n : Int) 1 = ((n : Nat) : Int) := by rw [rangeSize_one]; split <;> (first | lia | omega)
  refine wpAny_pyIter_range hr (small_one (by (first | lia | omega)) (by (first | lia | omega)) (by (first | lia | omega)) (by (first | lia | omega))) ?_
  rw [hsz]
  have W : Walks prog w A h.objs.size [h.objs.size] [h.objs.size] n (fun i v => i < n ∧ ∃ t, v = .int (0 + i * 1) t)
      (fun i h' => IsRangeIter h' h.objs.size (0 + (i : Nat) * 1) ((n : Int) - (i : Nat)) 1) := (Walks.range hh _ 0 1 n).bound
  have hI0 : h₀.get? h.objs.size = none := by
    cases e : h₀.get? h.objs.size with
    | none => rfl
    | some o => exact absurd (Heap.lt_size (F.keep _ _ e)) (Nat.lt_irrefl _)
  have hLI : env.locals ≠ h.objs.size := Nat.ne_of_lt F.ns.lt
  generalize hIe : h.objs.size = I at *
  refine codeAny_forLoop
    (fun k s' => ∃ h' tk m' news' i, s' = { s with heap := h', toks := tk } ∧ IsRangeIter h' I (0 + (i : Nat) * 1) ((n : Int) - (i : Nat)) 1 ∧ Fr h₀ env.locals h' m' ∧ News h₀ env.locals h' news' ∧ (∀ p ∈ news', p.1 ≠ I) ∧ J i m' news' ∧ i ≤ n ∧ k = n + 1 - i) ?_ (n + 1)
    ⟨_, _, m, news, 0, rfl, ?_, F.push _, fun p hp => ⟨Heap.get?_push_of_some _ (N p hp).1, (N p hp).2⟩, fun p hp => hIe ▸ Nat.ne_of_lt (Heap.lt_size (N p hp).1), hJ, Nat.zero_le _, rfl⟩
  · rintro k s' ⟨h', tk, m', news', i, rfl, hst', F', N', hnw', hJ, hi, rfl⟩
    have next : ∀ h₁ : Heap, (∀ b o, b ∉ [I] → h'.get? b = some o → h₁.get? b = some o) → Fr h₀ env.locals h₁ m' ∧ News h₀ env.locals h₁ news' := fun h₁ hk₁ =>
      ⟨⟨F'.ns.at' fun o e => hk₁ _ o (by simpa using hLI) e, fun b o e => hk₁ b o (fun hm => by rw [List.mem_singleton.mp hm, hI0] at e; cases e) (F'.keep b o e), F'.above⟩, fun p hp => ⟨hk₁ _ _ (by simpa using hnw' p hp) (N' p hp).1, (N' p hp).2⟩⟩
    by_cases hlt : i < n
    · refine W.item i _ _ _ hlt hst' fun v h₁ tk₁ hP hst₁ hk₁ => ?_
      obtain ⟨F₁, N₁⟩ := next h₁ hk₁
      obtain ⟨_, t', rfl⟩ := hP
      have e1 : (0 : Int) + (i : Int) * 1 = (i : Int) := by (first | lia | omega)
      rw [e1]
      have hst2 : h₁.get? I = some (itR (((i + 1 : Nat) : Int)) ((n : Int) - ((i + 1 : Nat) : Int))) := by
        have q : IsRangeIter h₁ I (0 + ((i + 1 : Nat) : Int) * 1) ((n : Int) - ((i + 1 : Nat) : Int)) 1 := hst₁
        rw [show (0 : Int) + ((i + 1 : Nat) : Int) * 1 = ((i + 1 : Nat) : Int) by (first | lia | omega)] at q
        exact q
      refine wpAny_assign_Name ?_
      refine wpAny_passesOwn hE (wpAny_mono (turn i I m' news' h₁ tk₁ t' hlt hJ hnw' F₁ (fun p hp => ?_)) (fun _ s₂ h₂ => ?_) fun _ _ e => e)
      · rcases List.mem_cons.mp hp with rfl | hp
        · exact ⟨hst2, Ne.symm hLI, hI0⟩
        · exact N₁ p hp
      · refine wpAny_passesOwn hE (wpAny_mono h₂ (fun f s₃ h₃ => ?_) fun _ _ e => e)
        have fin : Halt (∃ h' tk' m' news', s₃ = { s with heap := h', toks := tk' } ∧ Fr h₀ env.locals h' m' ∧ News h₀ env.locals h' ((I, itR (((i + 1 : Nat) : Int)) ((n : Int) - ((i + 1 : Nat) : Int))) :: news') ∧ (∀ p ∈ news', p.1 ≠ I) ∧ J (i + 1) m' news') →
            ∃ m₁, m₁ < n + 1 - i ∧ ∃ h' tk m' news' i, s₃ = { s with heap := h', toks := tk } ∧ IsRangeIter h' I (0 + (i : Nat) * 1) ((n : Int) - (i : Nat)) 1 ∧ Fr h₀ env.locals h' m' ∧ News h₀ env.locals h' news' ∧ (∀ p ∈ news', p.1 ≠ I) ∧ J i m' news' ∧ i ≤ n ∧ m₁ = n + 1 - i := by
          rintro ⟨h4, tk4, m4, news4, rfl, F4, N4, o4, J4⟩
          refine ⟨n + 1 - (i + 1), by (first | lia | omega), h4, tk4, m4, news4, i + 1, rfl, ?_, F4, fun p hp => N4 p (List.mem_cons_of_mem _ hp), o4, J4, hlt, rfl⟩
          have q := (N4 _ List.mem_cons_self).1
          show h4.get? I = some _
          rw [show (0 : Int) + ((i + 1 : Nat) : Int) * 1 = ((i + 1 : Nat) : Int) by (first | lia | omega)]
          exact q
        cases f with
        | ret v => exact h₃
        | brk => exact h₃
        | next => exact fin h₃
        | cont => exact fin h₃
    · have hin : i = n := by (first | lia | omega)
      subst hin
      refine W.done _ _ _ hst' fun h₁ tk₁ hk₁ => wpAny_execs_nil ?_
      obtain ⟨F₁, N₁⟩ := next h₁ hk₁
      exact done m' news' h₁ tk₁ hJ F₁ N₁
  · show IsRangeIter _ _ (0 + ((0 : Nat) : Int) * 1) ((n : Int) - ((0 : Nat) : Int)) 1
    rw [show (0 : Int) + ((0 : Nat) : Int) * 1 = 0 by (first | lia | omega), show (n : Int) - ((0 : Nat) : Int) = (n : Int) by (first | lia | omega), ← hIe]
    exact Heap.get?_push_size _ rfl
theorem forCellM {m : Str → Option Value} (J : Nat → List (Addr × Obj) → Prop) (n : Nat) (F₀ : Fr h₀ env.locals s.heap m) (hn : n ≤ 100) (hh : A.handled = none)
    (hiter : wpAny (model prog w) A (eval iter env) (fun xv s₁ => Halt (∃ r t u v h tk news, xv = .ref r ∧ s₁ = { s with heap := h, toks := tk } ∧ IsRange h r 0 (n : Int) 1 t u v ∧ Fr h₀ env.locals h m ∧ News h₀ env.locals h news ∧ J 0 news)) E s)
    (turn : ∀ i I news h tk t, i < n → J i news → (∀ p ∈ news, p.1 ≠ I) → Fr h₀ env.locals h m → News h₀ env.locals h ((I, itR (((i + 1 : Nat) : Int)) ((n : Int) - ((i + 1 : Nat) : Int))) :: news) →
      wpAny (model prog w) A (storeName env x (.int (i : Int) t)) (fun _ s₂ => wpAny (model prog w) A (execs body env) (fun f s₃ => match f with
        | .ret v => Q (.ret v) s₃
        | .brk => Q .next s₃
        | _ => Halt (∃ h' tk' news', s₃ = { s with heap := h', toks := tk' } ∧ Fr h₀ env.locals h' m ∧ News h₀ env.locals h' ((I, itR (((i + 1 : Nat) : Int)) ((n : Int) - ((i + 1 : Nat) : Int))) :: news') ∧ (∀ p ∈ news', p.1 ≠ I) ∧ J (i + 1) news')) E s₂) E { s with heap := h, toks := tk })
    (done : ∀ news h tk, J n news → Fr h₀ env.locals h m → News h₀ env.locals h news → Q .next { s with heap := h, toks := tk })
    (hs : ∀ x, foldedSetIterable iter env x = pure x := by intro _; rfl)
    (hE : PassesOwn (model prog w) A env E := by passes_own) :
    wpAny (model prog w) A (exec (.For (.Name x px) iter body [] pos) env) Q E s := by
  refine forCell (h₀ := h₀) (fun i m' news => m' = m ∧ J i news) n hn hh (wpAny_mono hiter (fun xv s₁ h₁ => ?_) fun _ _ e => e) ?_ ?_ hs hE
  · unfold Halt at h₁ ⊢
    obtain ⟨r, t, u, v, h, tk, news, h2, h3, h4, h5, h6, h7⟩ := h₁
    exact ⟨r, t, u, v, h, tk, m, news, h2, h3, h4, h5, h6, rfl, h7⟩
  · rintro i I m' news h tk t hi ⟨rfl, hJ⟩ hoff F N
    refine wpAny_mono (turn i I news h tk t hi hJ hoff F N) (fun _ s₂ h₂ => wpAny_mono h₂ (fun f s₃ h₃ => ?_) fun _ _ e => e) fun _ _ e => e
    have fin : Halt (∃ h' tk' news', s₃ = { s with heap := h', toks := tk' } ∧ Fr h₀ env.locals h' m' ∧ News h₀ env.locals h' ((I, itR (((i + 1 : Nat) : Int)) ((n : Int) - ((i + 1 : Nat) : Int))) :: news') ∧ (∀ p ∈ news', p.1 ≠ I) ∧ J (i + 1) news') →
        Halt (∃ h' tk' m₂ news', s₃ = { s with heap := h', toks := tk' } ∧ Fr h₀ env.locals h' m₂ ∧ News h₀ env.locals h' ((I, itR (((i + 1 : Nat) : Int)) ((n : Int) - ((i + 1 : Nat) : Int))) :: news') ∧ (∀ p ∈ news', p.1 ≠ I) ∧ m₂ = m' ∧ J (i + 1) news') := by
      unfold Halt
      rintro ⟨h4, tk4, news4, h5, h6, h7, h8, h9⟩
      exact ⟨h4, tk4, m', news4, h5, h6, h7, h8, rfl, h9⟩
    cases f with
    | ret v => exact h₃
    | brk => exact h₃
    | next => exact fin h₃
    | cont => exact fin h₃
  · rintro m' news h tk ⟨rfl, hJ⟩ F N
    exact done news h tk hJ F N
end
end Mine
end
section
open PySem PySem.W PyProof.Rows
set_option Elab.async false
namespace Mine
theorem c_ecs (w : World) (news : List (Addr × Obj)) (k : Nat) (hk : k < 5) (x : List Nat) (t : Tok) (hx : x.length ≤ 13) : GivesV w news (call (.ref (223 + 7 * k)) [.str (tx x) t]) 1 8 (fun t => .str (tx (escT k x)) t) := by
  have h : k = 0 ∨ k = 1 ∨ k = 2 ∨ k = 3 ∨ k = 4 := five9 (by with_reducible assumption)
  rcases h with rfl | rfl | rfl | rfl | rfl
  · exact c_ec0 w news x t hx
  · exact c_ec1 w news x t hx
  · exact c_ec2 w news x t hx
  · exact c_ec3 w news x t hx
  · exact c_ec4 w news x t hx
theorem ecs_item (k : Nat) (hk : k < 5) : ([Value.ref 223, .ref 230, .ref 237, .ref 244, .ref 251] : List Value)[k]? = some (.ref (223 + 7 * k)) := by
  have h : k = 0 ∨ k = 1 ∨ k = 2 ∨ k = 3 ∨ k = 4 := five9 (by with_reducible assumption)
  rcases h with rfl | rfl | rfl | rfl | rfl <;> rfl
theorem ecs_keep (w : World) (k : Nat) (hk : k < 5) : keepIn (Mine.heap w.params) (.ref (223 + 7 * k)) = true := by
  have h : k = 0 ∨ k = 1 ∨ k = 2 ∨ k = 3 ∨ k = 4 := five9 (by with_reducible assumption)
  rcases h with rfl | rfl | rfl | rfl | rfl <;> kernel_rfl
end Mine
end
section
open PySem PySem.W PyProof.Rows PySem.Calls
set_option Elab.async false
set_option maxRecDepth 100000
set_option maxHeartbeats 8000000
set_option pp.deepTerms.threshold 6
set_option pp.maxSteps 6000
namespace Mine
theorem c_cstn (w : World) (news : List (Addr × Obj)) (sx : Addr) (x : List Nat) (t : Tok) (hx : x.length ≤ 13) (hno : x.any namS = false) : GivesV w news (call (.ref 83) [.ref sx, .str (tx x) t] [(Str.ofString "name", .bool true)]) 1 8 (fun t => .str (tx x) t) := by
  k_with_none
  k_with "call builtin:re.Pattern.search" => (refine halt ?_)
  k_with "truthy ref" => (refine halt ?_)
  k_with "getMethod ref" => ((with_reducible show wpAny _ _ (getMethod (Value.ref _) (Str.ofString "search") _) _ _ _); k_dflt (refine rp_method (by k_asm) (by k_asm) (by k_is) (by rfl) (by rfl) ?_))
  unfold GivesV
  w_top off
  k_fill
  intro loose mean mg mb dp un gd cn cs a ccd cl outer A₀ base h₀ L m s Q E B F X N T hk hdp hun hret
  have hb : (tx x).length ≤ 13 := by rw [tx_length]; exact hx
  refine wpAny_call ?_
  k_dflt cell_enter
  k_steps
  unfold Halt
  rename Fr _ _ _ _ => F1
  rename News _ _ _ _ => N1
  rename Frag.In _ _ => X1
  refine rp_search nam_one F1 N1 X1 (by k_dflt k_is) rfl rfl (by k_dflt k_is) rfl (by simp [Builtin.Re.reRawOf, nam]) (by (first | lia | omega)) (fun h => ?_) (fun h D ob h' hc F2 N2 lD => ?_)
  · k_steps
    exact hret _ _ _ (by assumption) (by assumption)
  · exfalso
    obtain ⟨i, hi, hS⟩ := h
    have hi' : i < x.length := by simpa [tx] using hi
    have : x.any namS = true := List.any_eq_true.mpr ⟨x[i], List.getElem_mem hi', by rw [← hS]; simp [tx, hi']⟩
    rw [hno] at this; cases this
theorem c_cstv (w : World) (news : List (Addr × Obj)) (sx : Addr) (x : List Nat) (t : Tok) (hx : x.length ≤ 13) (hno : x.any (csS vlu) = false) : GivesV w news (call (.ref 83) [.ref sx, .str (tx x) t] [(Str.ofString "name", .bool false)]) 1 8 (fun t => .str (tx x) t) := by
  k_with_none
  k_with "call builtin:re.Pattern.search" => (refine halt ?_)
  k_with "truthy ref" => (refine halt ?_)
  k_with "getMethod ref" => ((with_reducible show wpAny _ _ (getMethod (Value.ref _) (Str.ofString "search") _) _ _ _); k_dflt (refine rp_method (by k_asm) (by k_asm) (by k_is) (by rfl) (by rfl) ?_))
  unfold GivesV
  w_top off
  k_fill
  intro loose mean mg mb dp un gd cn cs a ccd cl outer A₀ base h₀ L m s Q E B F X N T hk hdp hun hret
  have hb : (tx x).length ≤ 13 := by rw [tx_length]; exact hx
  refine wpAny_call ?_
  k_dflt cell_enter
  k_steps
  unfold Halt
  rename Fr _ _ _ _ => F1
  rename News _ _ _ _ => N1
  rename Frag.In _ _ => X1
  refine rp_search vlu_one F1 N1 X1 (by k_dflt k_is) rfl rfl (by k_dflt k_is) rfl (by simp [Builtin.Re.reRawOf, vlu]) (by (first | lia | omega)) (fun h => ?_) (fun h D ob h' hc F2 N2 lD => ?_)
  · k_steps
    exact hret _ _ _ (by assumption) (by assumption)
  · exfalso
    obtain ⟨i, hi, hS⟩ := h
    have hi' : i < x.length := by simpa [tx] using hi
    have : x.any (csS vlu) = true := List.any_eq_true.mpr ⟨x[i], List.getElem_mem hi', by rw [← hS]; simp [tx, hi']⟩
    rw [hno] at this; cases this
theorem c_cst_m (w : World) (news : List (Addr × Obj)) (sx : Addr) (t : Tok) : GivesV w news (call (.ref 83) [.ref sx, .str (Str.ofString "m") t] [(Str.ofString "name", .bool true)]) 1 8 (fun t => .str (Str.ofString "m") t) := by
  have e : tx [109] = Str.ofString "m" := by decide
  rw [← e]; exact c_cstn w news sx [109] t (by decide) (by decide)
theorem c_cst_p (w : World) (news : List (Addr × Obj)) (sx : Addr) (t : Tok) : GivesV w news (call (.ref 83) [.ref sx, .str (Str.ofString "p") t] [(Str.ofString "name", .bool true)]) 1 8 (fun t => .str (Str.ofString "p") t) := by
  have e : tx [112] = Str.ofString "p" := by decide
  rw [← e]; exact c_cstn w news sx [112] t (by decide) (by decide)
theorem c_cst_n (w : World) (news : List (Addr × Obj)) (sx : Addr) (t : Tok) : GivesV w news (call (.ref 83) [.ref sx, .str (Str.ofString "n") t] [(Str.ofString "name", .bool true)]) 1 8 (fun t => .str (Str.ofString "n") t) := by
  have e : tx [110] = Str.ofString "n" := by decide
  rw [← e]; exact c_cstn w news sx [110] t (by decide) (by decide)
theorem c_cst_e (w : World) (news : List (Addr × Obj)) (sx : Addr) (t : Tok) : GivesV w news (call (.ref 83) [.ref sx, .str (Str.ofString "") t] [(Str.ofString "name", .bool false)]) 1 8 (fun t => .str (Str.ofString "") t) := by
  have e : tx [] = Str.ofString "" := by decide
  rw [← e]; exact c_cstv w news sx [] t (by decide) (by decide)
end Mine
end
section
open PySem PySem.W
namespace Mine
noncomputable def numI (x : Int) : Int := 64 * ([0, 28, 33, 1820, 63, 27, 320, (x.fdiv 80).fmod 4096] : List Int).getD ((x.fdiv 10).fmod 8).toNat 0 + ([34, 38, 60, 62, 9, 13, 10, (x.fdiv 80).fmod 64, 63, 32] : List Int).getD (x.fmod 10).toNat 0
theorem getD_all {P : Int → Prop} (h0 : P 0) : ∀ (l : List Int), (∀ x ∈ l, P x) → ∀ i, P (l.getD i 0)
  | [], _, i => by simpa using h0
  | a :: r, h, 0 => by simpa using h a List.mem_cons_self
  | a :: r, h, i + 1 => by simpa using getD_all h0 r (fun x hx => h x (List.mem_cons_of_mem _ hx)) i
theorem numI_bound (x : Int) : 0 ≤ numI x ∧ numI x < 2 ^ 18 := by
  have h1 : 0 ≤ (x.fdiv 80).fmod 4096 ∧ (x.fdiv 80).fmod 4096 < 4096 := ⟨Int.fmod_nonneg_of_pos _ (by decide), Int.fmod_lt_of_pos _ (by decide)⟩
  have h2 : 0 ≤ (x.fdiv 80).fmod 64 ∧ (x.fdiv 80).fmod 64 < 64 := ⟨Int.fmod_nonneg_of_pos _ (by decide), Int.fmod_lt_of_pos _ (by decide)⟩
  have a := getD_all (P := fun y => 0 ≤ y ∧ y < 4096) (by decide) [0, 28, 33, 1820, 63, 27, 320, (x.fdiv 80).fmod 4096] (by simp; exact h1) ((x.fdiv 10).fmod 8).toNat
  have b := getD_all (P := fun y => 0 ≤ y ∧ y < 64) (by decide) [34, 38, 60, 62, 9, 13, 10, (x.fdiv 80).fmod 64, 63, 32] (by simp; exact h2) (x.fmod 10).toNat
  unfold numI
  (first | lia | omega)
noncomputable def num (x : Int) : Nat := (numI x).toNat
theorem num_cast (x : Int) : ((num x : Nat) : Int) = numI x := Int.toNat_of_nonneg (numI_bound x).1
theorem num_lt (x : Int) : num x < 2 ^ 18 := by have := numI_bound x; unfold num; (first | lia | omega)
noncomputable def rowOf (script : List Int) : List Nat := 102 :: 1826 :: (script.take 3).map num
theorem rowOf_lt (s : List Int) : ∀ n ∈ rowOf s, n < 2 ^ 18 := by
  intro n hn
  rcases List.mem_cons.mp hn with rfl | hn
  · decide
  rcases List.mem_cons.mp hn with rfl | hn
  · decide
  obtain ⟨x, _, rfl⟩ := List.mem_map.mp hn
  exact num_lt x
theorem rowOf_len (s : List Int) : (rowOf s).length ≤ 5 := by
  simp [rowOf]; (first | lia | omega)
end Mine
end
section
open PySem PySem.W
set_option maxRecDepth 100000
namespace Mine
theorem rep_app (c : Nat) (r a b : List Nat) : rep c r (a ++ b) = rep c r a ++ rep c r b := by simp [rep]
theorem rep_no (c : Nat) (r : List Nat) : ∀ (l : List Nat), (∀ x ∈ l, x ≠ c) → rep c r l = l
  | [], _ => rfl
  | a :: l, h => by
    have h1 := rep_no c r l fun x hx => h x (List.mem_cons_of_mem _ hx)
    simp only [rep] at h1 ⊢
    rw [List.flatMap_cons, if_neg (h a List.mem_cons_self), h1]; rfl
theorem dPre_ge (n x : Nat) (h : x ∈ dPre n) : 64 ≤ x := (dPre_lt n x h).1
theorem repL_app : ∀ (t : List (Nat × List Nat × List Nat)) (a b : List Nat), repL t (a ++ b) = repL t a ++ repL t b
  | [], _, _ => rfl
  | p :: t, a, b => by
    show repL t (rep p.1 p.2.1 (a ++ b)) = repL t (rep p.1 p.2.1 a) ++ repL t (rep p.1 p.2.1 b)
    rw [rep_app, repL_app t]
theorem escT_app (k : Nat) (a b : List Nat) : escT k (a ++ b) = escT k a ++ escT k b := repL_app _ a b
theorem escT_nil (k : Nat) : escT k [] = [] := getD_of (P := fun t => repL t [] = []) (by decide +kernel) rfl k
theorem repL_high (l : List Nat) (h : ∀ x ∈ l, 64 ≤ x) : ∀ (t : List (Nat × List Nat × List Nat)), (∀ p ∈ t, p.1 < 64) → repL t l = l
  | [], _ => rfl
  | p :: t, ht => by
    show repL t (rep p.1 p.2.1 l) = l
    rw [rep_no p.1 p.2.1 l fun x hx e => Nat.lt_irrefl 64 (Nat.lt_of_le_of_lt (h x hx) (e ▸ ht p List.mem_cons_self)), repL_high l h t fun q hq => ht q (List.mem_cons_of_mem _ hq)]
theorem escT_high (k : Nat) (l : List Nat) (h : ∀ x ∈ l, 64 ≤ x) : escT k l = l :=
  getD_of (P := fun t => repL t l = l) (fun t ht => repL_high l h t ((by decide +kernel : ∀ t ∈ rows, ∀ p ∈ t, p.1 < 64) t ht)) rfl k
theorem dOct_lit {n m c : Nat} (h : n = m * 64 + c) (hc : c < 64) : dOct n = dPre m ++ [c] := by
  unfold dOct
  rw [show n / 64 = m by (first | lia | omega), show n % 64 = c by (first | lia | omega)]
theorem dPre_lit {n m c : Nat} (h : n = m * 64 + c) (hc : c < 64) (h0 : n ≠ 0) : dPre n = dPre m ++ [64 + c] := by
  rw [dPre_pos h0, show n / 64 = m by (first | lia | omega), show n % 64 = c by (first | lia | omega)]
theorem dOct_low {c : Nat} (h : c < 64) : dOct c = [c] := by rw [dOct_lit (m := 0) (c := c) (by (first | lia | omega)) h, dPre_zero]; rfl
noncomputable def dPreF : Nat → Nat → List Nat
  | 0, _ => []
  | f + 1, n => if n = 0 then [] else dPreF f (n / 64) ++ [64 + n % 64]
theorem dPreF_eq : ∀ (f n : Nat), n < 64 ^ f → dPre n = dPreF f n
  | 0, n, h => by
    have : n = 0 := Nat.lt_one_iff.mp h
    subst this; exact dPre_zero
  | f + 1, n, h => by
    by_cases h0 : n = 0
    · subst h0; exact dPre_zero
    · rw [dPre_pos h0, dPreF_eq f (n / 64) (Nat.div_lt_of_lt_mul (by rw [Nat.pow_succ, Nat.mul_comm] at h; exact h))]
      exact (if_neg h0).symm
noncomputable def dOctF (n : Nat) : List Nat := dPreF 5 (n / 64) ++ [n % 64]
theorem dOctF_eq {n : Nat} (h : n < 2 ^ 30) : dOct n = dOctF n := by
  show dPre (n / 64) ++ [n % 64] = _
  rw [dPreF_eq 5 (n / 64) (Nat.div_lt_of_lt_mul (Nat.lt_of_lt_of_le h (by decide)))]; rfl
theorem octs_eq : ∀ (r : List Nat), (∀ x ∈ r, x < 2 ^ 30) → r.flatMap dOct = r.flatMap dOctF
  | [], _ => rfl
  | a :: r, h => by rw [List.flatMap_cons, List.flatMap_cons, dOctF_eq (h a List.mem_cons_self), octs_eq r fun x hx => h x (List.mem_cons_of_mem _ hx)]
theorem rows_oct (t : List (Nat × List Nat × List Nat)) (ht : t ∈ rows) (p : Nat × List Nat × List Nat) (hp : p ∈ t) : 38 :: p.2.2.flatMap dOct = p.2.1 := by
  rw [octs_eq _ ((by decide +kernel : ∀ t ∈ rows, ∀ p ∈ t, ∀ x ∈ p.2.2, x < 2 ^ 30) t ht p hp)]
  exact (by decide +kernel : ∀ t ∈ rows, ∀ p ∈ t, 38 :: p.2.2.flatMap dOctF = p.2.1) t ht p hp
theorem o_p : dOct 3133 = [112, 61] := by rw [dOctF_eq (by decide)]; decide +kernel
theorem o_m : dOct 2938 = [109, 58] := by rw [dOctF_eq (by decide)]; decide +kernel
theorem o_n : dOct 3002 = [110, 58] := by rw [dOctF_eq (by decide)]; decide +kernel
noncomputable def oct1 (c k : Nat) : List Nat := match rest k c with
  | some r => 38 :: r.flatMap dOct
  | none => [c]
noncomputable def lkT : List (Nat × List Nat × List Nat) → Nat → List Nat
  | [], c => [c]
  | p :: t, c => if c = p.1 then p.2.1 else lkT t c
theorem lkT_lk (c : Nat) : ∀ (t : List (Nat × List Nat × List Nat)), (∀ p ∈ t, 38 :: p.2.2.flatMap dOct = p.2.1) → lkT t c = match lk t c with | some r => 38 :: r.flatMap dOct | none => [c]
  | [], _ => rfl
  | p :: t, h => by
    by_cases hc : c = p.1
    · have e1 : lkT (p :: t) c = p.2.1 := if_pos hc
      have e2 : lk (p :: t) c = some p.2.2 := if_pos hc
      rw [e1, e2]; exact (h p List.mem_cons_self).symm
    · have e1 : lkT (p :: t) c = lkT t c := if_neg hc
      have e2 : lk (p :: t) c = lk t c := if_neg hc
      rw [e1, e2]; exact lkT_lk c t fun q hq => h q (List.mem_cons_of_mem _ hq)
theorem escT_one (k : Nat) (c : Nat) (hc : c < 64) : escT k [c] = oct1 c k :=
  getD_of (P := fun t => repL t [c] = match lk t c with | some r => 38 :: r.flatMap dOct | none => [c])
    (fun t ht => by rw [← lkT_lk c t (rows_oct t ht)]; exact (by decide +kernel : ∀ t ∈ rows, ∀ c, c < 64 → repL t [c] = lkT t c) t ht c hc) rfl k
theorem escT_dOct (k : Nat) (n : Nat) : escT k (dOct n) = (esc1 k n).flatMap dOct := by
  have hd : dOct n = dPre (n / 64) ++ [n % 64] := rfl
  rw [hd, escT_app, escT_high k _ (dPre_ge _), escT_one k _ (by (first | lia | omega))]
  unfold oct1 esc1
  cases rest k (n % 64) with
  | none => simp [hd]
  | some r =>
    have e : dOct (n - n % 64 + 38) = dPre (n / 64) ++ [38] := by
      unfold dOct
      rw [show (n - n % 64 + 38) / 64 = n / 64 by (first | lia | omega), show (n - n % 64 + 38) % 64 = 38 by (first | lia | omega)]
    simp [e]
theorem esc_escd (k : Nat) (_ : k < 5) (ns : List Nat) : escT k (ns.flatMap dOct) = (escd k ns).flatMap dOct := by
  induction ns with
  | nil => exact escT_nil k
  | cons n r ih => rw [List.flatMap_cons, escT_app, ih, escT_dOct k, escd, escd, List.flatMap_cons, List.flatMap_append]
end Mine
end
section
open PySem PySem.W PyProof.Rows PySem.Calls
set_option maxRecDepth 100000
namespace Mine
section
variable {prog : Program} {w : World} {A : Around} {E : Value → Shared → Prop} {s : Shared}
open Builtin Builtin.Str in
theorem occ_p : (occurrences (Str.ofString "p") (Str.ofString "_") 0 (Str.ofString "p").length ((Str.ofString "p").length + 1)).isEmpty = true := by decide +kernel
open Builtin Builtin.Str in
theorem replNone {x y z : Str} {t u v : Tok} {Q : Value → Shared → Prop} (h0 : (occurrences x y 0 x.length (x.length + 1)).isEmpty = true) (hq : Q (.str x t) s) : wpAny (model prog w) A (call (.builtin "str.replace") [.str x t, .str y u, .str z v]) Q E s := by
  have hc : ((occurrences x y 0 x.length (x.length + 1)).isEmpty || (y.length == 0 && z.length == 0)) = true := by rw [h0]; rfl
  refine call_gives F.slot_str_replace (typeIs_str _ _ _) F.entry_str_replace (F.args_str_replace_3 _ _ _)
    (gives_str_replace x y z t u v fun h => by rw [hc] at h; cases h) ?_
  rw [if_pos hc]; exact hq
end
theorem ldg_any (S : Nat → Bool) (ds : List Nat) (hS : ∀ d, d < 64 → S (64 + d) = ds.contains d) (n : Nat) : (dPre n).any S = ldg ds n := by
  induction n using Nat.strongRecOn with
  | ind n ih =>
    by_cases h0 : n = 0
    · subst h0; rw [dPre_zero, ldg_zero]; rfl
    · rw [dPre_pos h0, ldg_pos h0, List.any_append, ih (n / 64) (by (first | lia | omega))]
      have e := hS (n % 64) (by (first | lia | omega))
      simp only [List.any_cons, List.any_nil, Bool.or_false, e]
      cases ldg ds (n / 64) <;> cases ds.contains (n % 64) <;> rfl
theorem tsp_high : ∀ d, d < 64 → csS tsp (64 + d) = [0, 27, 28, 29].contains d := by decide +kernel
theorem tsp_low : ∀ d, d < 64 → csS tsp d = [32, 34, 40, 41, 44, 47, 58, 59, 60, 61, 62, 63].contains d := by decide +kernel
theorem vlu_high : ∀ d, d < 64 → csS vlu (64 + d) = [63].contains d := by decide +kernel
theorem vlu_low : ∀ d, d < 64 → csS vlu d = (decide (d < 32) && decide (d ≠ 9)) := by decide +kernel
theorem tsp_any (n : Nat) : (dOct n).any (csS tsp) = minds n := by
  unfold dOct minds leads
  rw [List.any_append, ldg_any _ [0, 27, 28, 29] tsp_high]
  simp only [List.any_cons, List.any_nil, Bool.or_false, tsp_low (n % 64) (by (first | lia | omega))]
  exact Bool.or_comm _ _
theorem vlu_any (n : Nat) : (dOct n).any (csS vlu) = bad n := by
  unfold dOct bad leads
  rw [List.any_append, ldg_any _ [63] vlu_high]
  simp only [List.any_cons, List.any_nil, Bool.or_false, vlu_low (n % 64) (by (first | lia | omega))]
  exact Bool.or_comm _ _
theorem bad_any (ns : List Nat) : (ns.flatMap dOct).any (csS vlu) = refused ns := by
  unfold refused
  rw [List.any_flatMap]
  congr 1
  funext n; exact vlu_any n
theorem dbl_ne (n : Nat) (h : n ≠ 0) : dbl n ≠ 0 := by
  induction n using Nat.strongRecOn with
  | ind n ih =>
    rw [dbl_pos h]
    by_cases h1 : n / 64 = 0
    · split <;> (first | lia | omega)
    · have := ih (n / 64) (by (first | lia | omega)) h1
      split <;> (first | lia | omega)
theorem dPre_dbl (n : Nat) : dPre (dbl n) = rep 92 [92, 92] (dPre n) := by
  induction n using Nat.strongRecOn with
  | ind n ih =>
    by_cases h0 : n = 0
    · subst h0; rw [dbl_zero, dPre_zero]; rfl
    · have hd := dbl_ne n h0
      rw [dPre_pos h0, rep_app, ← ih (n / 64) (by (first | lia | omega))]
      rw [dbl_pos h0] at hd ⊢
      by_cases h1 : n % 64 = 28
      · rw [if_pos h1] at hd ⊢
        rw [dPre_lit (m := dbl (n / 64) * 64 + n % 64) (c := 28) rfl (by decide) hd, dPre_lit (m := dbl (n / 64)) (c := 28) (by (first | lia | omega)) (by decide) (by (first | lia | omega)), h1]
        simp [rep]
      · rw [if_neg h1] at hd ⊢
        rw [dPre_lit (m := dbl (n / 64)) (c := n % 64) rfl (by (first | lia | omega)) hd]
        have : ¬ (64 + n % 64 = 92) := by (first | lia | omega)
        simp [rep, this]
theorem rep_one (c : Nat) (r : List Nat) (a : Nat) : rep c r [a] = if a = c then r else [a] := by simp [rep]
theorem mark_oct (n : Nat) : dOct (mark n) = rep 34 [92, 34] (rep 92 [92, 92] (dOct n)) := by
  have hd : dOct n = dPre (n / 64) ++ [n % 64] := rfl
  have hge : ∀ x ∈ dPre (dbl (n / 64)), x ≠ 34 := fun x hx => by have := dPre_ge _ _ hx; (first | lia | omega)
  have h92 : ¬ (n % 64 = 92) := by (first | lia | omega)
  rw [hd, rep_app, ← dPre_dbl, rep_one, if_neg h92, rep_app, rep_no 34 _ _ hge, rep_one]
  unfold mark
  by_cases h1 : n % 64 = 34
  · rw [if_pos h1, if_pos h1, h1, dOct_lit (m := dbl (n / 64) * 64 + 28) (c := 34) rfl (by decide), dPre_lit (m := dbl (n / 64)) (c := 28) rfl (by decide) (by (first | lia | omega))]
    simp
  · rw [if_neg h1, if_neg h1, dOct_lit (m := dbl (n / 64)) (c := n % 64) rfl (by (first | lia | omega))]
theorem dOct_ne (n : Nat) : dOct n ≠ [] := by simp [dOct]
theorem o_34 : dOct 34 = [34] := dOct_low (by decide)
theorem fmt_par (n : Nat) : fmt0 [112] (dOct n) = (par n).flatMap dOct := by
  unfold fmt0 par fmtq
  rw [if_neg (dOct_ne n), tsp_any]
  cases minds n with
  | true => rw [if_pos rfl, if_pos rfl]; simp [o_p, o_34, mark_oct]
  | false => rw [if_neg (by decide), if_neg (by decide)]; simp [o_p]
theorem marks_oct (ns : List Nat) : rep 34 [92, 34] (rep 92 [92, 92] (ns.flatMap dOct)) = (ns.map mark).flatMap dOct := by
  induction ns with
  | nil => rfl
  | cons n r ih => rw [List.flatMap_cons, rep_app, rep_app, ih, List.map_cons, List.flatMap_cons, mark_oct]
theorem fmtq_mark (ns : List Nat) : fmtq [112] (ns.flatMap dOct) = (3133 :: 34 :: ns.map mark ++ [34]).flatMap dOct := by
  unfold fmtq
  rw [marks_oct]
  simp [o_p, o_34]
theorem mark_lt (n : Nat) (h : n < 2 ^ 18) : mark n < 2 ^ 40 := by
  have := dbl_lt 2 (n / 64) (by (first | lia | omega))
  unfold mark
  split <;> (first | lia | omega)
theorem par_lt (n : Nat) (h : n < 2 ^ 18) : ∀ x ∈ par n, x < 2 ^ 40 := by
  intro x hx
  have := mark_lt n h
  unfold par at hx
  split at hx
  · simp only [List.mem_cons, List.not_mem_nil, or_false] at hx; (first | lia | omega)
  · simp only [List.mem_cons, List.not_mem_nil, or_false] at hx; (first | lia | omega)
theorem par_len (n : Nat) : (par n).length ≤ 4 := by
  unfold par; split <;> simp
theorem rest_lt (k c : Nat) (r : List Nat) (h : rest k c = some r) : ∀ x ∈ r, x < 2 ^ 30 := rest_all (P := fun _ r => ∀ x ∈ r, x < 2 ^ 30) (by decide +kernel) h
theorem escd_lt (k : Nat) (ns : List Nat) (h : ∀ n ∈ ns, n < 2 ^ 18) : ∀ x ∈ escd k ns, x < 2 ^ 40 := by
  intro x hx
  obtain ⟨n, hn, hx⟩ := List.mem_flatMap.mp hx
  have hb := h n hn
  unfold esc1 at hx
  split at hx
  · rename_i r hr
    rcases List.mem_cons.mp hx with rfl | hx
    · (first | lia | omega)
    · have := rest_lt _ _ _ hr x hx; (first | lia | omega)
  · rw [List.mem_singleton.mp hx]; (first | lia | omega)
theorem oct_lt (ns : List Nat) : ∀ c ∈ ns.flatMap dOct, c < 128 := by
  intro c hc
  obtain ⟨n, _, hc⟩ := List.mem_flatMap.mp hc
  exact dOct_lt n c hc
theorem o_102 : dOct 102 = [65, 38] := by rw [dOctF_eq (by decide)]; decide +kernel
theorem o_1826 : dOct 1826 = [92, 34] := by rw [dOctF_eq (by decide)]; decide +kernel
theorem num_oct (x : Int) : (dOct (num x)).length ≤ 3 := by
  have := num_lt x
  have := dPre_length 2 (num x / 64) (by (first | lia | omega))
  simp [dOct]; (first | lia | omega)
theorem text_len (s : List Int) : ((rowOf s).flatMap dOct).length ≤ 13 := by
  have h := flat_len (g := dOct) (b := 3) ((s.take 3).map num) (fun n hn => by obtain ⟨x, _, rfl⟩ := List.mem_map.mp hn; exact num_oct x)
  have h2 : ((s.take 3).map num).length ≤ 3 := by simp; (first | lia | omega)
  unfold rowOf
  simp only [List.flatMap_cons, List.length_append, o_102, o_1826, List.length_cons, List.length_nil]
  (first | lia | omega)
theorem text_ne (s : List Int) : (rowOf s).flatMap dOct ≠ [] := by
  unfold rowOf
  rw [List.flatMap_cons, o_102]; simp
end Mine
end
section
set_option maxRecDepth 100000
open PySem PySem.W
namespace Mine
noncomputable def lostc (k c : Nat) : Bool := decide (c ≠ 38) && (rest k c).isSome
theorem rest_mem (k c : Nat) (h : (rest k c).isSome = true) (h38 : c ≠ 38) : c ∈ [60, 62, 34, 13, 10, 9] := by
  obtain ⟨r, e⟩ := Option.isSome_iff_exists.mp h
  exact rest_all (P := fun c _ => c ≠ 38 → c ∈ [60, 62, 34, 13, 10, 9]) (by decide +kernel) e h38
theorem lostc_mem {k c : Nat} (h : lostc k c = true) : c ∈ [60, 62, 34, 13, 10, 9] := by
  simp only [lostc, Bool.and_eq_true, decide_eq_true_eq] at h
  exact rest_mem k c h.2 h.1
theorem lostc_high {k c : Nat} (h : 64 ≤ c) : lostc k c = false := by
  cases e : lostc k c with
  | false => rfl
  | true => have := lostc_mem e; simp only [List.mem_cons, List.not_mem_nil, or_false] at this; (first | lia | omega)
theorem escT_map (k : Nat) (l : List Nat) : escT k l = l.flatMap fun c => escT k [c] := by
  induction l with
  | nil => exact escT_nil k
  | cons a r ih =>
    have : escT k (a :: r) = escT k [a] ++ escT k r := escT_app k [a] r
    rw [this, ih, List.flatMap_cons]
theorem escT_sign (k : Nat) (c : Nat) : escT k [c] = if c < 64 then oct1 c k else [c] := by
  by_cases h : c < 64
  · rw [if_pos h, escT_one k c h]
  · rw [if_neg h, escT_high k [c] fun x hx => List.mem_singleton.mp hx ▸ Nat.le_of_not_lt h]
theorem escT_head (k : Nat) (hk : k < 5) (c : Nat) : ∃ h r, escT k [c] = h :: r ∧ (h = c ∨ lostc k c = true) := by
  rw [escT_sign k]
  by_cases h : c < 64
  · rw [if_pos h]
    unfold oct1
    cases e : rest k c with
    | none => exact ⟨c, [], rfl, .inl rfl⟩
    | some r =>
      refine ⟨38, _, rfl, ?_⟩
      by_cases h38 : c = 38
      · exact .inl h38.symm
      · exact .inr (by simp [lostc, h38, e])
  · rw [if_neg h]; exact ⟨c, [], rfl, .inl rfl⟩
theorem rest_clean (k c : Nat) (r : List Nat) (h : rest k c = some r) : ∀ x ∈ r, (x % 64 ∉ [60, 62, 34, 13, 10, 9]) := rest_all (P := fun _ r => ∀ x ∈ r, (x % 64 ∉ [60, 62, 34, 13, 10, 9])) (by decide +kernel) h
theorem lost_dOct (k n : Nat) : (dOct n).countP (lostc k) = if lostc k (n % 64) = true then 1 else 0 := by
  unfold dOct
  rw [List.countP_append, countP_no (fun s hs => lostc_high (dPre_ge _ _ hs)), List.countP_cons, List.countP_nil]
  (first | lia | omega)
theorem dOct_clean (k n : Nat) (h : lostc k (n % 64) = false) : ∀ s ∈ dOct n, lostc k s = false := by
  intro s hs
  rcases List.mem_append.mp hs with hs | hs
  · exact lostc_high (dPre_ge _ _ hs)
  · rw [List.mem_singleton.mp hs]; exact h
theorem not_lost {k c : Nat} (h : c ∉ [60, 62, 34, 13, 10, 9]) : lostc k c = false := by
  cases e : lostc k c with
  | false => rfl
  | true => exact absurd (lostc_mem e) h
theorem esc_clean (k : Nat) (hk : k < 5) (l : List Nat) : ∀ s ∈ escT k l, lostc k s = false := by
  intro s hs
  rw [escT_map] at hs
  obtain ⟨c, _, hs⟩ := List.mem_flatMap.mp hs
  rw [escT_sign k] at hs
  by_cases h : c < 64
  · rw [if_pos h] at hs
    unfold oct1 at hs
    cases e : rest k c with
    | none =>
      rw [e] at hs
      rw [List.mem_singleton.mp hs]
      simp [lostc, e]
    | some r =>
      rw [e] at hs
      rcases List.mem_cons.mp hs with rfl | hs
      · simp [lostc]
      · obtain ⟨x, hx, hs⟩ := List.mem_flatMap.mp hs
        exact dOct_clean k x (not_lost (rest_clean k c r e x hx)) s hs
  · rw [if_neg h] at hs
    rw [List.mem_singleton.mp hs]; exact lostc_high (by (first | lia | omega))
theorem insAll (f : Nat → Nat → Nat) : ∀ (r : List Nat), Ed f [] r (2 * r.length)
  | [] => .nil
  | y :: r => (Ed.ins y (insAll f r)).cast (by simp only [List.length_cons]; (first | lia | omega))
theorem cost_self (x : Nat) : cost x x = 0 := by simp [cost]
theorem cost_le (x y : Nat) : cost x y ≤ 2 := by
  unfold cost
  repeat' split
  all_goals decide
theorem cost_symm (x y : Nat) : cost x y = cost y x := by
  unfold cost
  by_cases h : x = y
  · rw [if_pos h, if_pos h.symm]
  · rw [if_neg h, if_neg (Ne.symm h)]
    have : (Txt.lower (tx [x]) == Txt.lower (tx [y])) = (Txt.lower (tx [y]) == Txt.lower (tx [x])) := by
      rw [Bool.eq_iff_iff, beq_iff_eq, beq_iff_eq]; exact ⟨Eq.symm, Eq.symm⟩
    rw [this]
theorem esc_ed (k : Nat) (hk : k < 5) : ∀ (l : List Nat), ∃ c, c + 2 * l.length ≤ 2 * (escT k l).length + 2 * l.countP (lostc k) ∧ Ed cost l (escT k l) c
  | [] => ⟨0, by simp [escT_nil], by rw [escT_nil]; exact .nil⟩
  | a :: l => by
    obtain ⟨c, h1, h2⟩ := esc_ed k hk l
    obtain ⟨h, r, e, hh⟩ := escT_head k hk a
    have ea : escT k (a :: l) = h :: r ++ escT k l := by
      have : escT k (a :: l) = escT k [a] ++ escT k l := escT_app k [a] l
      rw [this, e]
    have s1 : Ed cost [a] (h :: r) (cost h a + 2 * r.length) := .sub a h (insAll cost r)
    refine ⟨cost h a + 2 * r.length + c, ?_, by rw [ea]; exact s1.app h2⟩
    rw [ea]
    simp only [List.length_cons, List.length_append, List.countP_cons]
    rcases hh with rfl | hh
    · rw [cost_self]; (first | lia | omega)
    · have := cost_le h a
      rw [hh, if_pos rfl]; (first | lia | omega)
theorem esc_longer (k : Nat) (hk : k < 5) : ∀ (l : List Nat), l.length ≤ (escT k l).length
  | [] => by simp
  | a :: l => by
    have ih := esc_longer k hk l
    obtain ⟨h, r, e, _⟩ := escT_head k hk a
    have : escT k (a :: l) = escT k [a] ++ escT k l := escT_app k [a] l
    rw [this, e]
    simp only [List.length_append, List.length_cons]; (first | lia | omega)
theorem lev_ok (k : Nat) (hk : k < 5) (ns : List Nat) (d : Nat)
    (hd : d = 2 * ((escT k (ns.flatMap dOct)).length - (ns.flatMap dOct).length + (ns.flatMap dOct).countP (lostc k))) :
    LevOk cost (lostc k) (ns.flatMap dOct) (escT k (ns.flatMap dOct)) d := by
  have hle := esc_longer k hk (ns.flatMap dOct)
  obtain ⟨c, h1, h2⟩ := esc_ed k hk (ns.flatMap dOct)
  refine ⟨hle, ⟨c, by (first | lia | omega), h2⟩, esc_clean k hk _, fun s hs hl t ht => ?_, by (first | lia | omega)⟩
  have ht128 : t < 128 := by rw [esc_escd k hk] at ht; exact oct_lt _ t ht
  rw [cost_symm]
  refine cost_lost s (lostc_mem hl) t ht128 fun e => ?_
  have := esc_clean k hk _ t ht
  rw [e, hl] at this; cases this
theorem esc1_ne (k n : Nat) : (decide (n % 64 ≠ 38) && decide (escd k [n] ≠ [n])) = lostc k (n % 64) := by
  have e0 : escd k [n] = esc1 k n := List.append_nil _
  rw [e0]
  unfold lostc esc1
  cases e : rest k (n % 64) with
  | none => exact congrArg (and _) (decide_eq_false fun h => h rfl)
  | some r => exact congrArg (and _) (decide_eq_true fun h => rest_ne e (List.cons.inj h).2)
theorem lost_row (k : Nat) (ns : List Nat) : (ns.flatMap dOct).countP (lostc k) = ns.countP fun n => decide (n % 64 ≠ 38) && decide (escd k [n] ≠ [n]) := by
  induction ns with
  | nil => rfl
  | cons n r ih => rw [List.flatMap_cons, List.countP_append, ih, lost_dOct, List.countP_cons, esc1_ne]; (first | lia | omega)
end Mine
end
section
set_option maxRecDepth 100000
open PySem PySem.W
namespace Mine
theorem oct1_len (k c : Nat) : (oct1 c k).length ≤ 6 := by
  unfold oct1
  cases e : rest k c with
  | none => exact Nat.le_add_left 1 5
  | some r => exact rest_all (P := fun _ r => (38 :: r.flatMap dOct).length ≤ 6) (fun t ht p hp => by rw [rows_oct t ht p hp]; exact (by decide +kernel : ∀ t ∈ rows, ∀ p ∈ t, p.2.1.length ≤ 6) t ht p hp) e
theorem esc_one_len (k : Nat) (hk : k < 5) (c : Nat) : (escT k [c]).length ≤ 6 := by
  rw [escT_sign k]
  split
  · exact oct1_len k c
  · simp
theorem esc_dOct_len (k : Nat) (hk : k < 5) (n : Nat) (h : n < 2 ^ 18) : (escT k (dOct n)).length ≤ 8 := by
  have h1 := dPre_length 2 (n / 64) (by (first | lia | omega))
  have h2 := esc_one_len k hk (n % 64)
  have hd : dOct n = dPre (n / 64) ++ [n % 64] := rfl
  rw [hd, escT_app, escT_high k _ (dPre_ge _), List.length_append]; (first | lia | omega)
theorem esc_flat (k : Nat) (ns : List Nat) : escT k (ns.flatMap dOct) = ns.flatMap fun n => escT k (dOct n) := by
  induction ns with
  | nil => exact escT_nil k
  | cons n r ih => rw [List.flatMap_cons, escT_app, ih, List.flatMap_cons]
theorem esc_text_len (k : Nat) (hk : k < 5) (s : List Int) : (escT k ((rowOf s).flatMap dOct)).length ≤ 40 := by
  rw [esc_flat]
  have h := flat_len (g := fun n => escT k (dOct n)) (b := 8) (rowOf s) (fun n hn => esc_dOct_len k hk n (rowOf_lt s n hn))
  have h2 := rowOf_len s
  (first | lia | omega)
theorem esc_text_ne (k : Nat) (hk : k < 5) (s : List Int) : (tx ((rowOf s).flatMap dOct) == tx (escT k ((rowOf s).flatMap dOct))) = false := by
  rw [beq_eq_false_iff_ne]
  intro e
  have e2 : ((rowOf s).flatMap dOct).length = (escT k ((rowOf s).flatMap dOct)).length := by rw [← tx_length, e, tx_length]
  have e3 : (rowOf s).flatMap dOct = [65] ++ ([38] ++ (1826 :: (s.take 3).map num).flatMap dOct) := by
    unfold rowOf
    rw [List.flatMap_cons, o_102]; rfl
  rw [e3, escT_app, escT_app] at e2
  have h1 := esc_longer k hk [65]
  have h2 := esc_longer k hk ((1826 :: (s.take 3).map num).flatMap dOct)
  have h3 : (escT k [38]).length = 5 := by
    exact (by decide +kernel : ∀ k, k < 5 → (escT k [38]).length = 5) k hk
  simp only [List.length_append, List.length_cons, List.length_nil, h3] at e2 h1
  (first | lia | omega)
end Mine
end
section
open PySem PySem.W PyProof.Rows PySem.Calls
set_option Elab.async false
set_option maxRecDepth 100000
set_option maxHeartbeats 8000000
set_option pp.deepTerms.threshold 6
set_option pp.maxSteps 6000
namespace Mine
theorem rep2_len (c a b : Nat) (l : List Nat) : (rep c [a, b] l).length ≤ 2 * l.length := flat_len l (fun x _ => by split <;> simp)
theorem fmtq_len (text : List Nat) (h : text.length ≤ 13) : (tx (fmtq [112] text)).length ≤ 100 := by
  rw [tx_length]
  have h1 := rep2_len 92 92 92 text
  have h2 := rep2_len 34 92 34 (rep 92 [92, 92] text)
  unfold fmtq
  simp only [List.length_append, List.length_cons, List.length_nil]
  (first | lia | omega)
theorem add_end {h₀ h' : Heap} {L : Addr} {m : Str → Option Value} {s : Shared} {Q : Value → Shared → Prop} {G : Addr → Tok → Tok → Obj} {R : Addr → List (Addr × Obj)} {T2 : Addr} {u v : Tok} {tk : Nat} {x y : Addr × Obj}
    (hret : ∀ T2 u v h' tk, Fr h₀ L h' m → News h₀ L h' ((T2, G T2 u v) :: R T2) → Q .none { s with heap := h', toks := tk }) (F : Fr h₀ L h' m) (N : News h₀ L h' ((T2, G T2 u v) :: x :: y :: R T2)) : Q .none { s with heap := h', toks := tk } :=
  hret _ _ _ _ _ F fun p hp => N p (by
    rcases List.mem_cons.mp hp with rfl | hp
    · exact .head _
    · exact .tail _ (.tail _ (.tail _ hp)))
noncomputable def tupO (vs : List Value) : Obj := { cls := .type "tuple", data := .seq vs.toArray }
noncomputable def hdrO (w : World) (kt : Tok) (hl : Addr) : Obj := dictOf [{ hash := PyData.keyHash w.params (Str.ofString "_headers"), key := Value.str (Str.ofString "_headers") kt, val := Value.ref hl }] 1
theorem c_add (w : World) (a1 a2 a3 a4 a5 a6 : Addr) (o1 o2 o3 o4 o5 o6 : Obj) (sx d hl D : Addr) (kt t t' : Tok) (text : List Nat) (htl : text.length ≤ 13) (hno : text.any (csS vlu) = false) (hne : text ≠ [])
    (hr1 : a1 ≠ hl) (hr2 : a2 ≠ hl) (hr3 : a3 ≠ hl) (hr4 : a4 ≠ hl) (hr5 : a5 ≠ hl) (hr6 : a6 ≠ hl) (h1 : sx ≠ hl) (h2 : d ≠ hl) : 
    ∀ (loose : List Str) (mean : ExcName → Option Value) (mg mb : Str → Option Value)
  (dp un : Nat) (gd : Option (List Code)) (cn : Str) (cs : Scope) (a : Addr) (ccd : Value) (cl : List (Str × Addr)) (outer : List Env) (A₀ : Around) (base h₀ : Heap) (L : Addr) (m : Str → Option Value) (s : Shared) (Q E : Value → Shared → Prop)
  (B : Below A₀ base outer h₀) (F : Fr h₀ L s.heap m) (X : (Mine.heap w.params).In h₀) (N : News h₀ L s.heap ((sx, instObj 184 d) :: (d, dictOf [{ hash := PyData.keyHash w.params (Str.ofString "_headers"), key := Value.str (Str.ofString "_headers") kt, val := Value.ref hl }] 1) :: (hl, listOf #[Value.ref D] 0) :: (a1, o1) :: (a2, o2) :: (a3, o3) :: (a4, o4) :: (a5, o5) :: (a6, o6) :: [])) (T : Top Mine.view loose mean mg mb h₀) (hk : cs.kind = .function)
  (hdp : dp + 3 < recursionLimit) (hun : un + 20 < cLine)
  (hret : ∀ T2 u v h' tk, Fr h₀ L h' m → News h₀ L h' ((T2, { cls := .type "tuple", data := .seq #[Value.str (Str.ofString "n") u, Value.str (tx (fmtq [112] text)) v] }) :: (sx, instObj 184 d) :: (d, dictOf [{ hash := PyData.keyHash w.params (Str.ofString "_headers"), key := Value.str (Str.ofString "_headers") kt, val := Value.ref hl }] 1) :: (hl, listOf #[Value.ref D, Value.ref T2] 1) :: (a1, o1) :: (a2, o2) :: (a3, o3) :: (a4, o4) :: (a5, o5) :: (a6, o6) :: []) → Q .none { s with heap := h', toks := tk }),
  wpAny (model PySem.Challenge.rw_sw0080_01.prog w) (ktrTop dp un gd cn cs L a ccd cl outer) (call (.ref 181) [.ref sx, .str (Str.ofString "n") t, .none] [(Str.ofString "p", .str (tx text) t')]) Q E s := by
  k_with_none
  k_with "call ref" => (refine halt ?_)
  k_with "call builtin:re.Pattern.search" => (refine halt ?_)
  k_with "truthy ref" => (refine halt ?_)
  k_with "call builtin:str.join" => (refine halt ?_)
  k_with "getMethod ref" => ((with_reducible show wpAny _ _ (getMethod (Value.ref _) (Str.ofString "search") _) _ _ _); k_dflt (refine rp_method (by k_asm) (by k_asm) (by k_is) (by rfl) (by rfl) ?_))
  k_with "call builtin:str.replace" => ((k_dflt refine replNone occ_p ?_); (try dsimp only))
  k_with "k_all" => assumption
  k_with "ktr_rel" => ((case k1 => k_asm); (case k2 => k_asm); (case k3 => k_asm); (case k4 => k_asm); (case k5 => k_asm); (case k6 => first | assumption | exact rfl); (case k7 => ktr_room); (case k8 => first | ktr_units | (simp only [units_under_make, units_in1, units_deeper, Around.mark_units, units_caller, cLine_is]; (first | lia | omega)) | (simp only [units_under_make, units_in1, units_deeper, Around.mark_units, units_caller, cLine_is]; decide)))
  k_with "call ref" => ((with_unfolding_all show wpAny _ _ (call (Value.ref 83) [Value.ref _, Value.str (Str.ofString "m") _] [(Str.ofString "name", Value.bool true)]) _ _ _); (k_dflt refine' useV (c_cst_m _ _ _ _) ?k1 ?k2 ?k3 ?k4 ?k5 ?k6 ?k7 ?k8 ?_); k_dflt ktr_rel; intro zt9 zh9 ztk9 zF9 zN9; (try dsimp only); (try k_sweep))
  k_with "call ref" => ((with_unfolding_all show wpAny _ _ (call (Value.ref 83) [Value.ref _, Value.str (Str.ofString "p") _] [(Str.ofString "name", Value.bool true)]) _ _ _); (k_dflt refine' useV (c_cst_p _ _ _ _) ?k1 ?k2 ?k3 ?k4 ?k5 ?k6 ?k7 ?k8 ?_); k_dflt ktr_rel; intro zt9 zh9 ztk9 zF9 zN9; (try dsimp only); (try k_sweep))
  k_with "call ref" => ((with_unfolding_all show wpAny _ _ (call (Value.ref 83) [Value.ref _, Value.str (Str.ofString "n") _] [(Str.ofString "name", Value.bool true)]) _ _ _); (k_dflt refine' useV (c_cst_n _ _ _ _) ?k1 ?k2 ?k3 ?k4 ?k5 ?k6 ?k7 ?k8 ?_); k_dflt ktr_rel; intro zt9 zh9 ztk9 zF9 zN9; (try dsimp only); (try k_sweep))
  k_with "call ref" => ((with_unfolding_all show wpAny _ _ (call (Value.ref 83) [Value.ref _, Value.str (Str.ofString "") _] [(Str.ofString "name", Value.bool false)]) _ _ _); (k_dflt refine' useV (c_cst_e _ _ _ _) ?k1 ?k2 ?k3 ?k4 ?k5 ?k6 ?k7 ?k8 ?_); k_dflt ktr_rel; intro zt9 zh9 ztk9 zF9 zN9; (try dsimp only); (try k_sweep))
  k_with "call ref" => ((with_unfolding_all show wpAny _ _ (call (Value.ref 83) [Value.ref _, Value.str (tx _) _] [(Str.ofString "name", Value.bool false)]) _ _ _); (k_dflt refine' useV (c_cstv _ _ _ _ _ ?g1 ?g2) ?k1 ?k2 ?k3 ?k4 ?k5 ?k6 ?k7 ?k8 ?_); (case g2 => assumption); (case g1 => (first | lia | omega)); k_dflt ktr_rel; intro zt9 zh9 ztk9 zF9 zN9; (try dsimp only); (try k_sweep))
  w_top off
  k_fill
  intro loose mean mg mb dp un gd cn cs a ccd cl outer A₀ base h₀ L m s Q E B F X N T hk hdp hun hret
  have hb : (tx text).length ≤ 13 := by rw [tx_length]; exact htl
  have hrest : ∀ p ∈ [(a1, o1), (a2, o2), (a3, o3), (a4, o4), (a5, o5), (a6, o6)], p.1 ≠ hl := by
    intro p hp
    simp only [List.mem_cons, List.not_mem_nil, or_false] at hp
    rcases hp with rfl | rfl | rfl | rfl | rfl | rfl <;> assumption
  refine wpAny_call ?_
  k_dflt (refine' kp_more ?k1 ?k2 ?k3 ?k4 ?k5 ?kA ?kF ?kK ?k6 ?k7 ?k8 ?kX ?kM ?kN ?kD ?kR ?kP ?kT ?kB ?_ ?c2 ?c3 ?c4 ?c5)
  case kA => exact rfl
  case kF => exact rfl
  case kK => assumption
  case k1 => k_asm
  case k2 => k_asm
  case k3 => k_asm
  case k4 => k_asm
  case k5 => k_asm
  case k6 => k_dflt k_is
  case k7 => k_dflt k_is
  case k8 => ktr_room
  case kX => k_dflt kp_lit
  case kM => k_dflt exact rfl
  case kN => k_dflt exact rfl
  case kD => k_dflt kp_flats
  case kR => k_dflt exact rfl
  case kP => k_dflt exact rfl
  case kT => k_dflt exact fun _ => rfl
  case kB => k_dflt exact fun _ => locs rfl
  case c5 => decide
  case c2 => exact rfl
  case c3 => exact rfl
  case c4 => exact rfl
  k_whole
  intro D' o' g' L' h' tk' l1 lo' hs' fs' FG' F' N' B' X' T'
  (try k_lt l1)
  (try dsimp only)
  (try k_lift B')
  (try k_fold)
  k_steps
  unfold Halt
  rw [show Str.ofString "p" = tx [112] by decide]
  refine' useV (c_fmt1 w _ text [112] _ _ htl (by simp) hne) ?k1 ?k2 ?k3 ?k4 ?k5 ?k6 ?k7 ?k8 ?_
  ktr_rel
  intro t10 h10 tk10 F10 N10
  dsimp only
  k_steps
  unfold Halt
  have hfl := fmtq_len text htl
  rename Fr _ _ _ _ => F11
  rename News _ _ _ _ => N11
  refine join_list (ys := [tx (fmtq [112] text)]) ⟨_, (N11 _ (.head _)).1, rfl, _, rfl⟩ (.cons _ _ .nil) ?_ ?_
  · simp only [List.map_cons, List.map_nil, List.sum_cons, List.sum_nil, List.length_cons, List.length_nil, show (Str.ofString "; ").length = 2 by decide]; (first | lia | omega)
  · intro t12 k12
    rw [show Txt.join (Str.ofString "; ") [tx (fmtq [112] text)] = tx (fmtq [112] text) from rfl]
    k_steps
    rename News _ _ _ _ => NE
    with_unfolding_all exact add_end hret (by assumption) NE
end Mine
end
section
open PySem PySem.W PyProof.Rows PySem.Calls
set_option Elab.async false
set_option maxRecDepth 100000
set_option maxHeartbeats 2000000
set_option pp.deepTerms.threshold 6
namespace Mine
theorem pm2 (a c : Str) (ta tc t : Tok) (b : Addr) (ha : a.length ≤ 1000) (hc : c.length ≤ 1000) : Meets (Builtin.«str.__mod__» ⟨[.str (Str.ofString "%s: %s") t, .ref b], []⟩)
    (fun _ R s => IsTup s.heap b #[.str a ta, .str c tc] ∧ ∀ t' k, R (.ok (.ret (.str (a ++ Str.ofString ": " ++ c) t'))) { s with toks := k }) := by
  rw [show Str.ofString "%s: %s" = Str.mk #[37, 115, 58, 32, 37, 115] by decide +kernel]
  kpt_run
end Mine
end
section
open PySem PySem.W PyProof.Rows PySem.Calls
set_option Elab.async false
set_option maxRecDepth 100000
set_option maxHeartbeats 8000000
set_option pp.deepTerms.threshold 6
set_option pp.maxSteps 6000
namespace Mine

theorem join_tx3 (s a b c : List Nat) : Txt.join (tx s) [tx a, tx b, tx c] = tx (a ++ s ++ b ++ s ++ c) := by
  show (⟨[tx b, tx c].foldl (fun acc p => acc ++ (tx s).cps ++ p.cps) (tx a).cps⟩ : Str) = _
  simp [tx]
theorem join_tx4 (s a b c d : List Nat) : Txt.join (tx s) [tx a, tx b, tx c, tx d] = tx (a ++ s ++ b ++ s ++ c ++ s ++ d) := by
  show (⟨[tx b, tx c, tx d].foldl (fun acc p => acc ++ (tx s).cps ++ p.cps) (tx a).cps⟩ : Str) = _
  simp [tx]
theorem c_str1 (w : World) (rest : List (Addr × Obj)) (sx d hl D : Addr) (kt u v : Tok) : GivesV w ((sx, instObj 184 d) :: (d, dictOf [{ hash := PyData.keyHash w.params (Str.ofString "_headers"), key := Value.str (Str.ofString "_headers") kt, val := Value.ref hl }] 1) :: (hl, listOf #[Value.ref D] 0) :: (D, { cls := .type "tuple", data := .seq #[Value.str (Str.ofString "m") u, Value.str (Str.ofString "") v] }) :: rest) (call (.ref 160) [.ref sx]) 2 20 (fun t => .str (tx [109, 58, 32, 13, 10, 13, 10]) t) := by
  k_with_none
  k_with "binaryOp Mod str ref" => ((with_reducible show wpAny _ _ (binaryOp Operator.Mod (Value.str _ _) (Value.ref _)) _ _ _); k_dflt (refine KPt.mod_tuple (by k_asm) (by k_mem) rfl (pm2 _ _ _ _ _ _ (by first | decide | omega) (by first | decide | omega)) ?_); intro _ _)
  k_with "call builtin:re.Pattern.search" => (refine halt ?_)
  k_with "truthy ref" => (refine halt ?_)
  k_with "call builtin:str.join" => (refine halt ?_)
  k_with "getMethod ref" => ((with_reducible show wpAny _ _ (getMethod (Value.ref _) (Str.ofString "search") _) _ _ _); k_dflt (refine rp_method (by k_asm) (by k_asm) (by k_is) (by rfl) (by rfl) ?_))
  k_with "call builtin:str.replace" => ((k_dflt refine replNone occ_p ?_); (try dsimp only))
  k_with "k_all" => assumption
  k_with "ktr_rel" => ((case k1 => k_asm); (case k2 => k_asm); (case k3 => k_asm); (case k4 => k_asm); (case k5 => k_asm); (case k6 => first | assumption | exact rfl); (case k7 => ktr_room); (case k8 => first | ktr_units | (simp only [units_under_make, units_in1, units_deeper, Around.mark_units, units_caller, cLine_is]; (first | lia | omega)) | (simp only [units_under_make, units_in1, units_deeper, Around.mark_units, units_caller, cLine_is]; decide)))
  k_with "call ref" => ((with_unfolding_all show wpAny _ _ (call (Value.ref 83) [Value.ref _, Value.str (Str.ofString "m") _] [(Str.ofString "name", Value.bool true)]) _ _ _); (k_dflt refine' useV (c_cst_m _ _ _ _) ?k1 ?k2 ?k3 ?k4 ?k5 ?k6 ?k7 ?k8 ?_); k_dflt ktr_rel; intro zt9 zh9 ztk9 zF9 zN9; (try dsimp only); (try k_sweep))
  k_with "call ref" => ((with_unfolding_all show wpAny _ _ (call (Value.ref 83) [Value.ref _, Value.str (Str.ofString "p") _] [(Str.ofString "name", Value.bool true)]) _ _ _); (k_dflt refine' useV (c_cst_p _ _ _ _) ?k1 ?k2 ?k3 ?k4 ?k5 ?k6 ?k7 ?k8 ?_); k_dflt ktr_rel; intro zt9 zh9 ztk9 zF9 zN9; (try dsimp only); (try k_sweep))
  k_with "call ref" => ((with_unfolding_all show wpAny _ _ (call (Value.ref 83) [Value.ref _, Value.str (Str.ofString "n") _] [(Str.ofString "name", Value.bool true)]) _ _ _); (k_dflt refine' useV (c_cst_n _ _ _ _) ?k1 ?k2 ?k3 ?k4 ?k5 ?k6 ?k7 ?k8 ?_); k_dflt ktr_rel; intro zt9 zh9 ztk9 zF9 zN9; (try dsimp only); (try k_sweep))
  k_with "call ref" => ((with_unfolding_all show wpAny _ _ (call (Value.ref 83) [Value.ref _, Value.str (Str.ofString "") _] [(Str.ofString "name", Value.bool false)]) _ _ _); (k_dflt refine' useV (c_cst_e _ _ _ _) ?k1 ?k2 ?k3 ?k4 ?k5 ?k6 ?k7 ?k8 ?_); k_dflt ktr_rel; intro zt9 zh9 ztk9 zF9 zN9; (try dsimp only); (try k_sweep))
  k_with "call ref" => ((with_unfolding_all show wpAny _ _ (call (Value.ref 83) [Value.ref _, Value.str (tx _) _] [(Str.ofString "name", Value.bool false)]) _ _ _); (k_dflt refine' useV (c_cstv _ _ _ _ _ ?g1 ?g2) ?k1 ?k2 ?k3 ?k4 ?k5 ?k6 ?k7 ?k8 ?_); (case g2 => assumption); (case g1 => (first | lia | omega)); k_dflt ktr_rel; intro zt9 zh9 ztk9 zF9 zN9; (try dsimp only); (try k_sweep))
  unfold GivesV
  w_top off
  k_fill
  intro loose mean mg mb dp un gd cn cs a ccd cl outer A₀ base h₀ L m s Q E B F X N T hk hdp hun hret
  refine wpAny_call ?_
  k_dflt cell_enter
  k_steps
  rename Fr _ _ _ _ => FZ
  rename News _ _ _ _ => NZ
  refine ⟨_, _, _, rfl, FZ, NZ, ?off, .inr ⟨listOf #[Value.ref D] 0, by simp, rfl, _, rfl⟩, ?_⟩
  case off => with_unfolding_all assumption
  refine LCg.CompRest.zero ?_
  intro D9 h9 tk9 F9 N9 off9
  dsimp only [List.nil_append] at N9
  k_steps
  unfold Halt
  rename Fr _ _ _ _ => F11
  rename News _ _ _ _ => N11
  refine join_list (ys := [Str.ofString "m: ", Str.ofString "", Str.ofString ""]) ⟨_, (N11 _ (.head _)).1, rfl, _, rfl⟩ (.cons _ _ (.cons _ _ (.cons _ _ .nil))) ?_ ?_
  · decide
  · intro t12 k12
    rw [show Str.ofString "m: " = tx [109, 58, 32] by decide, show Str.ofString "" = tx [] by decide, show Str.ofString "\r\n" = tx [13, 10] by decide, join_tx3]
    k_steps
    exact hret _ _ _ (by assumption) (cb_drop (by assumption) fun p hp => List.mem_cons_of_mem _ (List.mem_cons_of_mem _ (List.mem_cons_of_mem _ hp)))
theorem c_str2 (w : World) (rest : List (Addr × Obj)) (sx d hl D T2 : Addr) (kt u v u2 v2 : Tok) (body : List Nat) (hbl : (tx body).length ≤ 100) : GivesV w ((sx, instObj 184 d) :: (d, dictOf [{ hash := PyData.keyHash w.params (Str.ofString "_headers"), key := Value.str (Str.ofString "_headers") kt, val := Value.ref hl }] 1) :: (hl, listOf #[Value.ref D, Value.ref T2] 1) :: (D, { cls := .type "tuple", data := .seq #[Value.str (Str.ofString "m") u, Value.str (Str.ofString "") v] }) :: (T2, { cls := .type "tuple", data := .seq #[Value.str (Str.ofString "n") u2, Value.str (tx body) v2] }) :: rest) (call (.ref 160) [.ref sx]) 2 20 (fun t => .str (tx ([109, 58, 32, 13, 10, 110, 58, 32] ++ body ++ [13, 10, 13, 10])) t) := by
  k_with_none
  k_with "binaryOp Mod str ref" => ((with_reducible show wpAny _ _ (binaryOp Operator.Mod (Value.str _ _) (Value.ref _)) _ _ _); k_dflt (refine KPt.mod_tuple (by k_asm) (by k_mem) rfl (pm2 _ _ _ _ _ _ (by first | decide | omega) (by first | decide | omega)) ?_); intro _ _)
  k_with "call builtin:re.Pattern.search" => (refine halt ?_)
  k_with "truthy ref" => (refine halt ?_)
  k_with "call builtin:str.join" => (refine halt ?_)
  k_with "getMethod ref" => ((with_reducible show wpAny _ _ (getMethod (Value.ref _) (Str.ofString "search") _) _ _ _); k_dflt (refine rp_method (by k_asm) (by k_asm) (by k_is) (by rfl) (by rfl) ?_))
  k_with "call builtin:str.replace" => ((k_dflt refine replNone occ_p ?_); (try dsimp only))
  k_with "k_all" => assumption
  k_with "ktr_rel" => ((case k1 => k_asm); (case k2 => k_asm); (case k3 => k_asm); (case k4 => k_asm); (case k5 => k_asm); (case k6 => first | assumption | exact rfl); (case k7 => ktr_room); (case k8 => first | ktr_units | (simp only [units_under_make, units_in1, units_deeper, Around.mark_units, units_caller, cLine_is]; (first | lia | omega)) | (simp only [units_under_make, units_in1, units_deeper, Around.mark_units, units_caller, cLine_is]; decide)))
  k_with "call ref" => ((with_unfolding_all show wpAny _ _ (call (Value.ref 83) [Value.ref _, Value.str (Str.ofString "m") _] [(Str.ofString "name", Value.bool true)]) _ _ _); (k_dflt refine' useV (c_cst_m _ _ _ _) ?k1 ?k2 ?k3 ?k4 ?k5 ?k6 ?k7 ?k8 ?_); k_dflt ktr_rel; intro zt9 zh9 ztk9 zF9 zN9; (try dsimp only); (try k_sweep))
  k_with "call ref" => ((with_unfolding_all show wpAny _ _ (call (Value.ref 83) [Value.ref _, Value.str (Str.ofString "p") _] [(Str.ofString "name", Value.bool true)]) _ _ _); (k_dflt refine' useV (c_cst_p _ _ _ _) ?k1 ?k2 ?k3 ?k4 ?k5 ?k6 ?k7 ?k8 ?_); k_dflt ktr_rel; intro zt9 zh9 ztk9 zF9 zN9; (try dsimp only); (try k_sweep))
  k_with "call ref" => ((with_unfolding_all show wpAny _ _ (call (Value.ref 83) [Value.ref _, Value.str (Str.ofString "n") _] [(Str.ofString "name", Value.bool true)]) _ _ _); (k_dflt refine' useV (c_cst_n _ _ _ _) ?k1 ?k2 ?k3 ?k4 ?k5 ?k6 ?k7 ?k8 ?_); k_dflt ktr_rel; intro zt9 zh9 ztk9 zF9 zN9; (try dsimp only); (try k_sweep))
  k_with "call ref" => ((with_unfolding_all show wpAny _ _ (call (Value.ref 83) [Value.ref _, Value.str (Str.ofString "") _] [(Str.ofString "name", Value.bool false)]) _ _ _); (k_dflt refine' useV (c_cst_e _ _ _ _) ?k1 ?k2 ?k3 ?k4 ?k5 ?k6 ?k7 ?k8 ?_); k_dflt ktr_rel; intro zt9 zh9 ztk9 zF9 zN9; (try dsimp only); (try k_sweep))
  k_with "call ref" => ((with_unfolding_all show wpAny _ _ (call (Value.ref 83) [Value.ref _, Value.str (tx _) _] [(Str.ofString "name", Value.bool false)]) _ _ _); (k_dflt refine' useV (c_cstv _ _ _ _ _ ?g1 ?g2) ?k1 ?k2 ?k3 ?k4 ?k5 ?k6 ?k7 ?k8 ?_); (case g2 => assumption); (case g1 => (first | lia | omega)); k_dflt ktr_rel; intro zt9 zh9 ztk9 zF9 zN9; (try dsimp only); (try k_sweep))
  unfold GivesV
  w_top off
  k_fill
  intro loose mean mg mb dp un gd cn cs a ccd cl outer A₀ base h₀ L m s Q E B F X N T hk hdp hun hret
  refine wpAny_call ?_
  k_dflt cell_enter
  k_steps
  rename Fr _ _ _ _ => FZ
  rename News _ _ _ _ => NZ
  refine ⟨_, _, _, rfl, FZ, NZ, ?off, .inr ⟨listOf #[Value.ref D, Value.ref T2] 1, by simp, rfl, _, rfl⟩, ?_⟩
  case off => with_unfolding_all assumption
  clear FZ NZ
  refine LCg.CompRest.succ ?_
  intro v3 I3 oI3 C3 oC3 D3 m3 h3 tk3 E3 hv3 hC3 hx3 F3 N3 off3 ne3
  have hv4 : v3 = Value.ref T2 := by simpa using hv3.symm
  subst hv4
  k_steps
  rename Fr _ _ _ _ => FZ
  rename News _ _ _ _ => NZ
  refine ⟨_, _, _, rfl, FZ, NZ, ?off2, .inr ⟨listOf #[Value.ref D, Value.ref T2] 1, by simp, rfl, _, rfl⟩, ?_⟩
  case off2 => with_unfolding_all assumption
  refine LCg.CompRest.zero ?_
  intro D9 h9 tk9 F9 N9 off9
  dsimp only [List.nil_append, List.cons_append] at N9
  k_steps
  unfold Halt
  rename Fr _ _ _ _ => F11
  rename News _ _ _ _ => N11
  have eY : Str.ofString "n" ++ Str.ofString ": " ++ tx body = tx ([110, 58, 32] ++ body) := by
    rw [show Str.ofString "n" = tx [110] by decide, show Str.ofString ": " = tx [58, 32] by decide, tx_append, tx_append]; rfl
  rw [eY] at N11
  refine join_list (ys := [Str.ofString "m: ", tx ([110, 58, 32] ++ body), Str.ofString "", Str.ofString ""]) ⟨_, (N11 _ (.head _)).1, rfl, _, rfl⟩ (.cons _ _ (.cons _ _ (.cons _ _ (.cons _ _ .nil)))) ?_ ?_
  · rw [tx_length] at hbl
    simp only [List.map_cons, List.map_nil, List.sum_cons, List.sum_nil, List.length_cons, List.length_nil, tx_length, List.length_append, show (Str.ofString "m: ").length = 3 by decide, show (Str.ofString "").length = 0 by decide, show (Str.ofString "\r\n").length = 2 by decide]; (first | lia | omega)
  · intro t12 k12
    rw [show Str.ofString "m: " = tx [109, 58, 32] by decide, show Str.ofString "" = tx [] by decide, show Str.ofString "\r\n" = tx [13, 10] by decide, join_tx4]
    k_steps
    rw [show [109, 58, 32] ++ [13, 10] ++ ([110, 58, 32] ++ body) ++ [13, 10] ++ [] ++ [13, 10] ++ [] = [109, 58, 32, 13, 10, 110, 58, 32] ++ body ++ [13, 10, 13, 10] by simp]
    exact hret _ _ _ (by assumption) (cb_drop (by assumption) fun p hp => List.mem_cons_of_mem _ (List.mem_cons_of_mem _ (List.mem_cons_of_mem _ hp)))
end Mine
end
section
open PySem PySem.W PyProof.Rows PySem.Calls PySem.Spec
set_option Elab.async false
set_option maxRecDepth 100000
set_option maxHeartbeats 2000000
namespace Mine
section
variable {prog : Program} {w : World} {A : Around} {E : Value → Shared → Prop} {s : Shared} {K : Frag} {x C f : Addr} {ox : Obj} {od : Option Obj}
theorem bytes_own {Q : Value → Shared → Prop} (X : K.In s.heap) (I : InstAt s.heap x ox C od) (hs : findIn K (.ref C) "__bytes__" = some (some (.ref f))) (hf : isFn K (.ref f) = true)
    (h : wpAny (model prog w) A.in1.in1 (call (.ref f) [.ref x]) (fun r s' => Halt (∃ b t, r = .bytes b t ∧ Q r s')) E s) : wpAny (model prog w) A (call (.type "bytes") [.ref x]) Q E s := by
  refine callType_codes (T := "bytes") (Bi := Builtin.«object.__init__») (Q₁ := fun obj s₁ => s₁.TypeIs obj "bytes" ∧ Q obj s₁) F.bm_called (F.bm_typeCall _) F.entry_object_init ?_ fun obj s₁ h₁ => ⟨h₁.1, F.args_object_init_2 obj _, object_init_meets F.bm_called.init.lookup F.bm_called.made (by decide) prog w A.in1 _ s₁ ⟨h₁.1, rfl, h₁.2⟩⟩
  refine codeAny_of_tree ?_
  show wpAny _ A.in1.in1 (do checkBuiltinCall "bytes.__new__" ⟨[.type "bytes", .ref x], []⟩; again (.builtin "bytes.__new__" ⟨[.type "bytes", .ref x], []⟩)) _ _ s
  refine wpAny_bind (wpAny_of_eq (F.bm_newCall _) (wpAny_pure ⟨plainId_quiet F.bm_plain _, codeAny_builtin F.bm_entry ?_⟩))
  rw [Around.under_plainId F.bm_plain _]
  unfold Builtin.«bytes.__new__»
  refine wpAny_bind (wpAny_of_eq (a := true) rfl ?_)
  refine bm_if_false rfl ?_
  refine wpAny_bind (wpAny_of_eq F.bm_sub ?_)
  refine bm_if_false rfl ?_
  refine wpAny_bind (wpAny_of_eq (F.bm_bind _) ?_)
  refine wpAny_bind (wpAny_of_eq (a := ()) rfl ?_)
  refine wpAny_bind (wpAny_of_eq (a := ()) rfl ?_)
  refine bm_if_false rfl ?_
  refine wpAny_bind (wpAny_bind (I.type.here ((looks_findIn X hs).here ?_)))
  dsimp only
  refine wpAny_bind (wpAny_rule ?_)
  refine wpAny_bind (special_fn X I hs (beq_iff_eq.mp hf) (wpAny_mono h (fun r s' hr => ?_) fun _ _ y => y))
  unfold Halt at hr
  obtain ⟨b, t, rfl, hq⟩ := hr
  dsimp only
  refine wpAny_bind (wpAny_isInstance (b := true) (PySem.W.typeIs_bytes s' b t) F.bm_sub ?_)
  refine bm_if_false rfl ?_
  refine wpAny_pure ?_
  exact ⟨PySem.W.typeIs_bytes s' b t, hq⟩
end
end Mine
end
section
open PySem PySem.W PyProof.Rows PySem.Calls
set_option Elab.async false
set_option maxRecDepth 100000
set_option maxHeartbeats 8000000
namespace Mine
noncomputable abbrev hD (w : World) (kt : Tok) (hl : Addr) : Obj := dictOf [{ hash := PyData.keyHash w.params (Str.ofString "_headers"), key := Value.str (Str.ofString "_headers") kt, val := Value.ref hl }] 1
noncomputable abbrev tM (u v : Tok) : Obj := { cls := .type "tuple", data := .seq #[Value.str (Str.ofString "m") u, Value.str (Str.ofString "") v] }
noncomputable abbrev tN (x : Str) (u v : Tok) : Obj := { cls := .type "tuple", data := .seq #[Value.str (Str.ofString "n") u, Value.str x v] }
theorem ints_ne {vs : List Value} {ns : List Int} {c : Nat} {D : Addr} (hi : IntsAre vs ns) : listOf vs.toArray c ≠ listOf #[Value.ref D] 0 := by
  intro e
  have h1 : Data.seq vs.toArray c = Data.seq #[Value.ref D] 0 := congrArg Obj.data e
  injection h1 with h2 _
  have h3 : vs = [Value.ref D] := by simpa using congrArg Array.toList h2
  subst h3
  cases hi
theorem refs_ne {a b : Value} {r : List Value} {c : Nat} {D : Addr} : listOf (a :: b :: r).toArray c ≠ listOf #[Value.ref D] 0 := by
  intro e
  have h1 : Data.seq (a :: b :: r).toArray c = Data.seq #[Value.ref D] 0 := congrArg Obj.data e
  injection h1 with h2 _
  have h3 : (a :: b :: r) = [Value.ref D] := by simpa using congrArg Array.toList h2
  cases h3
theorem cell_ne {o : Obj} {v : Option Value} {D : Addr} (h : o.data = .cell v) : o ≠ listOf #[Value.ref D] 0 := by
  intro e
  rw [e] at h
  cases h
theorem useAdd {w : World} {a1 a3 a4 a5 a6 sx d hl D : Addr} {o1 o3 o4 o5 o6 : Obj} {kt t t' tu tv : Tok} {text : List Nat}
  {loose : List Str} {mean : ExcName → Option Value} {mg mb : Str → Option Value}
  {dp un : Nat} {gd : Option (List Code)} {cn : Str} {cs : Scope} {a : Addr} {ccd : Value} {cl : List (Str × Addr)} {outer : List Env} {A₀ : Around} {base h₀ : Heap} {L : Addr} {m : Str → Option Value} {s : Shared} {Q E : Value → Shared → Prop}
    (htl : text.length ≤ 13) (hno : text.any (csS vlu) = false) (hne : text ≠ [])
    (he1 : o1 ≠ listOf #[Value.ref D] 0) (he3 : o3 ≠ listOf #[Value.ref D] 0) (he4 : o4 ≠ listOf #[Value.ref D] 0) (he5 : o5 ≠ listOf #[Value.ref D] 0) (he6 : o6 ≠ listOf #[Value.ref D] 0)
  (B : Below A₀ base outer h₀) (F : Fr h₀ L s.heap m) (X : (Mine.heap w.params).In h₀)
  (N : News h₀ L s.heap [(a1, o1), (sx, instObj 184 d), (d, hD w kt hl), (hl, listOf #[Value.ref D] 0), (D, tM tu tv), (a3, o3), (a4, o4), (a5, o5), (a6, o6)]) (T : Top Mine.view loose mean mg mb h₀) (hk : cs.kind = .function)
  (hdp : dp + 3 < recursionLimit) (hun : un + 20 < cLine)
  (hret : ∀ T2 u v h' tk, Fr h₀ L h' m → News h₀ L h' [(T2, tN (tx (fmtq [112] text)) u v), (a1, o1), (sx, instObj 184 d), (d, hD w kt hl), (hl, listOf #[Value.ref D, Value.ref T2] 1), (D, tM tu tv), (a3, o3), (a4, o4), (a5, o5), (a6, o6)] → Q .none { s with heap := h', toks := tk }) :
  wpAny (model PySem.Challenge.rw_sw0080_01.prog w) (ktrTop dp un gd cn cs L a ccd cl outer) (call (.ref 181) [.ref sx, .str (Str.ofString "n") t, .none] [(Str.ofString "p", .str (tx text) t')]) Q E s := by
  have hhl := (N (hl, listOf #[Value.ref D] 0) (by simp)).1
  have key : ∀ (x : Addr) (o : Obj), (x, o) ∈ [(a1, o1), (sx, instObj 184 d), (d, hD w kt hl), (hl, listOf #[Value.ref D] 0), (D, tM tu tv), (a3, o3), (a4, o4), (a5, o5), (a6, o6)] → o ≠ listOf #[Value.ref D] 0 → x ≠ hl := by
    intro x o hm hne e
    have := (N (x, o) hm).1
    rw [e] at this
    exact hne (Option.some.inj (this.symm.trans hhl))
  have hr1 : a1 ≠ hl := key a1 o1 (by simp) he1
  have hr3 : a3 ≠ hl := key a3 o3 (by simp) he3
  have hr4 : a4 ≠ hl := key a4 o4 (by simp) he4
  have hr5 : a5 ≠ hl := key a5 o5 (by simp) he5
  have hr6 : a6 ≠ hl := key a6 o6 (by simp) he6
  have hr2 : D ≠ hl := key D (tM tu tv) (by simp) (fun h => by
    have := Value.type.inj (congrArg Obj.cls h)
    exact absurd this (by decide))
  have h1 : sx ≠ hl := by
    intro e
    have := (N (sx, instObj 184 d) (by simp)).1
    rw [e] at this
    exact absurd (congrArg Obj.cls (Option.some.inj (hhl.symm.trans this))) (by intro h; cases h)
  have h2 : d ≠ hl := by
    intro e
    have := (N (d, hD w kt hl) (by simp)).1
    rw [e] at this
    exact absurd (congrArg Obj.cls (Option.some.inj (hhl.symm.trans this))) (by intro h; have := Value.type.inj h; exact absurd this (by decide))
  refine c_add w a1 D a3 a4 a5 a6 o1 (tM tu tv) o3 o4 o5 o6 sx d hl D kt t t' text htl hno hne hr1 hr2 hr3 hr4 hr5 hr6 h1 h2 _ _ _ _ _ _ _ _ _ _ _ _ _ _ _ _ _ _ _ _ _ B F X ?_ T hk hdp hun ?_
  · intro p hp
    refine N p ?_
    simp only [List.mem_cons, List.not_mem_nil, or_false] at hp ⊢
    rcases hp with h | h | h | h | h | h | h | h | h <;> simp [h]
  · intro T2 u v h' tk F' N'
    refine hret T2 u v h' tk F' fun p hp => N' p ?_
    simp only [List.mem_cons, List.not_mem_nil, or_false] at hp ⊢
    rcases hp with h | h | h | h | h | h | h | h | h | h <;> simp [h]
theorem useStr2 {w : World} {sx d hl D T2 : Addr} {kt u v u2 v2 : Tok} {body : List Nat}
  {loose : List Str} {mean : ExcName → Option Value} {mg mb : Str → Option Value}
  {dp un : Nat} {gd : Option (List Code)} {cn : Str} {cs : Scope} {a : Addr} {ccd : Value} {cl : List (Str × Addr)} {outer : List Env} {A₀ : Around} {base h₀ : Heap} {L : Addr} {m : Str → Option Value} {s : Shared} {Q E : Value → Shared → Prop} {all : List (Addr × Obj)}
  (hbl : (tx body).length ≤ 100) (m1 : (sx, instObj 184 d) ∈ all) (m2 : (d, hD w kt hl) ∈ all) (m3 : (hl, listOf #[Value.ref D, Value.ref T2] 1) ∈ all) (m4 : (D, tM u v) ∈ all) (m5 : (T2, tN (tx body) u2 v2) ∈ all)
  (B : Below A₀ base outer h₀) (F : Fr h₀ L s.heap m) (X : (Mine.heap w.params).In h₀) (N : News h₀ L s.heap all) (T : Top Mine.view loose mean mg mb h₀) (hk : cs.kind = .function)
  (hdp : dp + 2 < recursionLimit) (hun : un + 20 < cLine)
  (hret : ∀ t h' tk, Fr h₀ L h' m → News h₀ L h' all → Q (.str (tx ([109, 58, 32, 13, 10, 110, 58, 32] ++ body ++ [13, 10, 13, 10])) t) { s with heap := h', toks := tk }) :
  wpAny (model PySem.Challenge.rw_sw0080_01.prog w) (ktrTop dp un gd cn cs L a ccd cl outer) (call (.ref 160) [.ref sx]) Q E s := by
  refine c_str2 w all sx d hl D T2 kt u v u2 v2 body hbl _ _ _ _ _ _ _ _ _ _ _ _ _ _ _ _ _ _ _ _ _ B F X (fun p hp => N p ?_) T hk hdp hun fun t h' tk F' N' => hret t h' tk F' fun p hp => N' p (.tail _ (.tail _ (.tail _ (.tail _ (.tail _ hp)))))
  simp only [List.mem_cons] at hp
  rcases hp with rfl | rfl | rfl | rfl | rfl | hp
  all_goals assumption
theorem useStr1 {w : World} {sx d hl D : Addr} {kt u v : Tok}
  {loose : List Str} {mean : ExcName → Option Value} {mg mb : Str → Option Value}
  {dp un : Nat} {gd : Option (List Code)} {cn : Str} {cs : Scope} {a : Addr} {ccd : Value} {cl : List (Str × Addr)} {outer : List Env} {A₀ : Around} {base h₀ : Heap} {L : Addr} {m : Str → Option Value} {s : Shared} {Q E : Value → Shared → Prop} {all : List (Addr × Obj)}
  (m1 : (sx, instObj 184 d) ∈ all) (m2 : (d, hD w kt hl) ∈ all) (m3 : (hl, listOf #[Value.ref D] 0) ∈ all) (m4 : (D, tM u v) ∈ all)
  (B : Below A₀ base outer h₀) (F : Fr h₀ L s.heap m) (X : (Mine.heap w.params).In h₀) (N : News h₀ L s.heap all) (T : Top Mine.view loose mean mg mb h₀) (hk : cs.kind = .function)
  (hdp : dp + 2 < recursionLimit) (hun : un + 20 < cLine)
  (hret : ∀ t h' tk, Fr h₀ L h' m → News h₀ L h' all → Q (.str (tx ([109, 58, 32, 13, 10, 13, 10])) t) { s with heap := h', toks := tk }) :
  wpAny (model PySem.Challenge.rw_sw0080_01.prog w) (ktrTop dp un gd cn cs L a ccd cl outer) (call (.ref 160) [.ref sx]) Q E s := by
  refine c_str1 w all sx d hl D kt u v _ _ _ _ _ _ _ _ _ _ _ _ _ _ _ _ _ _ _ _ _ B F X (fun p hp => N p ?_) T hk hdp hun fun t h' tk F' N' => hret t h' tk F' fun p hp => N' p (.tail _ (.tail _ (.tail _ (.tail _ hp))))
  simp only [List.mem_cons] at hp
  rcases hp with rfl | rfl | rfl | rfl | hp
  all_goals assumption
end Mine
end
section
open PySem PySem.W PyProof.Rows PySem.Calls PySem.Spec
set_option Elab.async false
set_option maxRecDepth 100000
set_option maxHeartbeats 2000000
namespace Mine
section
variable {prog : Program} {w : World} {A₀ : Around} {E : Value → Shared → Prop} {s' : Shared} {h₀ h : Heap} {outer : List Env} {L a e t : Addr} {m : Str → Option Value} {name : Str} {scope : Scope} {cd : Value} {cl : List (Str × Addr)}
  {vs : List Value} {b₀ : Stmt} {suite : List Stmt} {pos np : Pos} {rest : List ExceptHandler} {Q : Flow → Shared → Prop} {news : List (Addr × Obj)}
  {p : Program} {loose : List Str} {mg mb : Str → Option Value}
theorem caughtVE (R : RaisedK h₀ (envX name scope L a cd cl :: outer) e (.type "ValueError") t vs news s'.heap) (hsm : h.UpToSlots s'.heap) (F : Fr h₀ L h m) (K : Below A₀ h₀ outer h₀)
    (T : TopRead p loose mg mb h₀)
    (k : ∀ h', Fr h₀ L h' m → News h₀ L h' news →
      wpAny (model prog w) ((A₀.deeper (envX name scope L a cd cl)).mark (some (.ref e))) (execs (b₀ :: suite) (envX name scope L a cd cl)) Q E { s' with heap := h' })
    (h2 : ("ValueError" : Str) ∉ loose := by decide +kernel) (h3 : ("ValueError" : Str) ∉ (recsOf p).map (·.name) := by decide +kernel) (h4 : ("ValueError" : Str) ∉ (litsOf p).map (·.1) := by decide +kernel) (h4c : ("ValueError" : Str) ∉ (clssOf p loose).map (·.name) := by decide +kernel)
    (hk : scope.kind = .function := by rfl) (hx : (envX name scope L a cd cl).kindOf "ValueError" = some .globalImplicit := by rfl)
    (hE : PassesOwnAt (model prog w) ((A₀.deeper (envX name scope L a cd cl)).mark (some (.ref e))) (A₀.deeper (envX name scope L a cd cl)) (envX name scope L a cd cl) E := by passes_own) :
    wpAny (model prog w) (A₀.deeper (envX name scope L a cd cl)) (noteFrame (.ref e) (envX name scope L a cd cl))
      (fun _ s₂ => wpAny (model prog w) (A₀.deeper (envX name scope L a cd cl)) (setFlight (.ref e) none) (fun _ s₃ =>
        wpAny (model prog w) (A₀.deeper (envX name scope L a cd cl)) (handleBy (.ref e) (envX name scope L a cd cl) (.ExceptHandler (some (.Name "ValueError" np)) none (b₀ :: suite) pos :: rest)) Q E s₃) E s₂) E s' := by
  obtain ⟨⟨B, inB, atB, fly, _⟩, _⟩ := R
  refine wpAny_looks_onW (Around.frames_deeper K.stack) rfl fly fun g1 held1 up1 => ?_
  refine wpAny_landsW held1 fun g2 held2 up2 => ?_
  have far := hsm.trans (up1.trans up2)
  have heldB := flyingW_base inB held2
  have F2 := F.of_stays heldB.1 far
  obtain ⟨oe, atE, clsE⟩ := heldB.there
  refine wpAny_handleBy_builtin (X := "ValueError") (T := "ValueError") (b := true) PySem.F.isExc_ValueError PySem.F.notTuple_ValueError (by rw [isSubtype_type]; kernel_rfl)
    (Name_function_global hk hx (loadGlobal_builtin (env := envX name scope L a cd cl) (T.g.keeps F2.keep) (T.free "ValueError" (by decide +kernel) h2 h3 h4 h4c) (T.b.keeps F2.keep) ((T.builtins "ValueError" (by decide +kernel)).trans PyProof.Rows.Boot.«ValueError») ⟨rfl, ⟨oe, atE, clsE⟩, ?_⟩) (by decide))
  refine lands_againW held2 fun g3 fly3 up3 => ?_
  have fly3B := flyingW_base inB fly3
  have hL : B.get? L = none := by
    obtain ⟨_, ⟨L', _, hf, hn', _⟩, _⟩ := fly.2.2.1
    obtain rfl : L = L' := Option.some.inj hf
    exact hn'
  exact wpAny_passesOwnAt hE (k g3 (F.of_stays fly3B.1 (far.trans up3)) fun q hq => ⟨fly3.1 _ _ (atB q hq).1, (fun z => by have := (atB q hq).1; rw [z, hL] at this; cases this), (atB q hq).2⟩)
end
end Mine
end
section
open PySem PySem.W PyProof.Rows PySem.Calls PySem.Spec
set_option Elab.async false
set_option maxRecDepth 100000
set_option maxHeartbeats 2000000
namespace Mine
open Builtin Builtin._codecs
noncomputable def latB (x : List Nat) : Array UInt8 := x.toArray.foldl (fun acc y => acc ++ (latin1Codec.bytesOf y).toArray) #[]
theorem latB_fold : ∀ (l : List Nat) (acc : Array UInt8), l.foldl (fun acc y => acc ++ (latin1Codec.bytesOf y).toArray) acc = acc ++ (l.map Nat.toUInt8).toArray
  | [], acc => by simp
  | a :: r, acc => by
    rw [List.foldl_cons, latB_fold r]
    show acc ++ #[a.toUInt8] ++ _ = _
    simp
theorem latB_eq (x : List Nat) : latB x = (x.map Nat.toUInt8).toArray := by
  unfold latB
  rw [List.foldl_toArray, latB_fold]; simp
theorem latB_size (x : List Nat) : (latB x).size = x.length := by rw [latB_eq]; simp
theorem latB_nat (x : List Nat) (hx : ∀ c ∈ x, c < 128) : (latB x).toList.map (fun b : UInt8 => (b.toNat : Int)) = toI x := by
  rw [latB_eq]
  unfold toI
  rw [List.toList_toArray, List.map_map]
  refine List.map_congr_left fun c hc => ?_
  have := hx c hc
  simp only [Function.comp]
  show ((c.toUInt8.toNat : Nat) : Int) = c
  rw [Nat.toUInt8_eq, UInt8.toNat_ofNat']
  (first | lia | omega)
theorem lat_find (x : List Nat) (hx : ∀ c ∈ x, c < 128) : ((tx x).cps.extract 0 (tx x).cps.size).findIdx? latin1Codec.bad = none := by
  rw [Array.extract_size]
  rw [Array.findIdx?_eq_none_iff]
  intro c hc
  have : c < 128 := hx c (by simpa [tx] using hc)
  show decide (c ≥ 256) = false
  simp; (first | lia | omega)
theorem enc_wp {M : Model} {A : Around} {E : Value → Shared → Prop} {s : Shared} {Q : Array UInt8 → Shared → Prop} (id : String) (self : Value) (x : List Nat) (hx : ∀ c ∈ x, c < 128) (h2 : 2 ≤ x.length) (h3 : x.length ≤ 1000) (h : Q (latB x) s) : wpAny M A (encodeNarrow id latin1Codec none self (tx x)) Q E s := by
  obtain ⟨n, hn⟩ : ∃ n, x.length = n + 2 := ⟨x.length - 2, by (first | lia | omega)⟩
  have hs : (tx x).cps.size = x.length := by simp [tx]
  have h0 : (tx x).cps[0]? = some x[0] := by simp [tx]
  have hb : latin1Codec.bad x[0] = false := by
    have := hx x[0] (List.getElem_mem _)
    show decide (x[0] ≥ 256) = false
    simp; (first | lia | omega)
  have hf := lat_find x hx
  unfold encodeNarrow
  rw [tx_length, hn]
  dsimp only
  rw [KPc.range_list]
  refine wpAny_bind ?_
  show wpAny _ _ (forIn (0 :: 1 :: List.range' 2 n 1) _ _) _ _ _
  refine KPc.turn ?_
  dsimp only
  rw [if_neg (by simp)]
  rw [h0]
  dsimp only
  rw [if_pos (by rw [hb]; rfl)]
  refine wpAny_pure ?_
  dsimp only
  rw [hf]
  refine KPc.turn ?_
  dsimp only
  have hsz : (tx x).cps.extract.size = x.length := by rw [Array.extract_size]; exact hs
  have hout : Array.foldl (fun acc y => acc ++ (latin1Codec.bytesOf y).toArray) #[] ((tx x).cps.extract.extract 0 (none.getD (tx x).cps.extract.size)) = latB x := by
    rw [Option.getD_none, Array.extract_size, Array.extract_size]; rfl
  have hsm : (latB x).size ≤ x.length := Nat.le_of_eq (latB_size x)
  rw [hout]
  rw [if_neg (by rw [sizeLine_eq]; (first | lia | omega))]
  have hend : (tx x).cps[0 + none.getD (tx x).cps.extract.size]? = none := by
    rw [Option.getD_none, hsz, Nat.zero_add]
    exact Array.getElem?_eq_none (by rw [hs]; exact Nat.le_refl _)
  rw [hend]
  dsimp only
  exact wpAny_pure (wpAny_pure h)
theorem road_lat (id : String) (self : Value) (x : Str) (errors : Option Str) : encodeRoad id self x (Str.ofString "iso-8859-1") errors = (do mkBytes (← encodeNarrow id latin1Codec errors self x)) := by
  first | rfl | (unfold encodeRoad; rfl)
theorem enc_tree (x : Str) (t u : Tok) : «str.encode» ⟨[.str x t, .str (Str.ofString "iso-8859-1") u], []⟩ = (do ret (← encodeRoad "str.encode" (.str x t) x (Str.ofString "iso-8859-1") none)) := by
  first | rfl | kernel_rfl
theorem call_enc {prog : Program} {w : World} {A : Around} {E : Value → Shared → Prop} {s : Shared} {Q : Value → Shared → Prop} {x : List Nat} {t u : Tok} (hx : ∀ c ∈ x, c < 128) (h2 : 2 ≤ x.length) (h3 : x.length ≤ 1000)
    (h : ∀ t' k, Q (.bytes (latB x) t') { s with toks := k }) : wpAny (model prog w) A (call (.builtin "str.encode") [.str (tx x) t, .str (Str.ofString "iso-8859-1") u]) Q E s := by
  refine wpAny_call_entry PySem.F.slot_str_encode (typeIs_str s (tx x) t) PySem.F.entry_str_encode ?_ (PySem.F.args_str_encode_2 _ _)
  rw [enc_tree, road_lat]
  refine wpAny_bind (wpAny_bind (enc_wp "str.encode" _ x hx h2 h3 ?_))
  refine wpAny_mkBytes ?_ (by rw [sizeLine_eq, latB_size]; (first | lia | omega))
  exact wpAny_pure ⟨_, rfl, h _ _⟩
end Mine
namespace Mine
theorem gm_enc {prog : Program} {w : World} {A : Around} {E : Value → Shared → Prop} {s : Shared} {x : Str} {t : Tok} {pl : Sem Bool} {Q : Value × List Value → Shared → Prop} (h : Q (.builtin "str.encode", [.str x t]) s) : wpAny (model prog w) A (getMethod (.str x t) (Str.ofString "encode") pl) Q E s :=
  getMethod_builtin (T := "str") (typeIs_str s x t) ⟨⟨"object.__getattribute__", by rw [typeLookup_type, builtinLookup_eq_fast]; kernel_rfl, by decide +kernel⟩, by rw [typeLookup_type, builtinLookup_eq_fast]; kernel_rfl⟩ PySem.F.slot_str_encode PySem.F.type_str_encode (fun a e => by cases e) h
end Mine
end
section
open PySem PySem.W PyProof.Rows PySem.Calls PySem.Spec
set_option Elab.async false
set_option maxRecDepth 100000
set_option maxHeartbeats 2000000
namespace Mine
section
variable {prog : Program} {w : World} {A : Around} {E : Value → Shared → Prop} {s : Shared}
theorem bytes_len : typeLookup (.type "bytes") "__len__" = pure (some (.builtin "bytes.__len__")) := by rw [typeLookup_type, builtinLookup_eq_fast]; kernel_rfl
theorem bytes_split : splitId "bytes.__len__" = some ("bytes", "__len__") := by decide +kernel
theorem ext_bytes {R : Result → Shared → Prop} (hh : A.handled = none) (b : Array UInt8) (t : Tok) (S : Addr) (res : Value) (c₀ : Nat) (hS : s.heap.get? S = some { cls := .type "list", data := .seq #[] c₀ })
    (hR : ∀ h' tk acc' c', (∀ b o, b ≠ S → s.heap.get? b = some o → h'.get? b = some o) → h'.get? S = some { cls := .type "list", dict := none, data := .seq acc' c', slots := #[] } →
      ItemsOf (fun i v => ∃ c u, b[i]? = some c ∧ v = .int (c.toNat : Int) u) acc' b.size → R (.ok (.ret res)) { s with heap := h', toks := tk }) (hn : b.size ≤ sizeLine) :
    wpAny (model prog w) A.in1 (Builtin.List.listExtendWith (.ref S) (.bytes b t) res)
      (fun fin s' => match fin with | .done f => R (.ok f) s' | .again c' => c'.quiet = true ∧ codeAny (model prog w) A c' R s') (fun e s' => R (.error e) s') s := by
  have hSI : S ≠ s.heap.objs.size := Nat.ne_of_lt (Heap.lt_size hS)
  have hSf : S ∉ [s.heap.objs.size] := fun hm => hSI (List.mem_singleton.mp hm)
  unfold Builtin.List.listExtendWith
  refine wpAny_bind (wpAny_typeOf (T := "bytes") (v := .bytes b t) (PySem.W.typeIs_bytes _ _ _) ?_)
  have h1 : Builtin.List.listSameRef (.ref S) (.bytes b t) = false := rfl
  have h2 : (Value.type "bytes" == Value.type "list") = false := by decide
  have h3 : (Value.type "bytes" == Value.type "tuple") = false := by decide
  simp only [h1, h2, h3, Bool.or_false, Bool.false_eq_true, if_false]
  refine wpAny_bind (KBw.pyIter_bytes ?_)
  refine wpAny_bind (wpAny_holding ?_)
  unfold Builtin.List.listLengthHint
  refine wpAny_bind (wpAny_specialOf (T := "bytes") (v := .bytes b t) (PySem.W.typeIs_bytes _ _ _) bytes_len ?_)
  dsimp only
  rw [bytes_split]
  dsimp only
  refine wpAny_bind (wpAny_isInstance (T := "bytes") (v := .bytes b t) (b := true) (PySem.W.typeIs_bytes _ _ _) F.bm_sub ?_)
  show wpAny _ _ (typeOf (Value.bytes b t) >>= _) _ _ _
  refine wpAny_bind (wpAny_typeOf (T := "bytes") (v := .bytes b t) (PySem.W.typeIs_bytes _ _ _) ?_)
  refine wpAny_pure ?_
  rw [if_neg (by decide)]
  refine wpAny_pure ⟨plainId_quiet F.plain_extend_loop _, codeAny_extend_loopS (KBw.walks (A := A.in1) hh s.heap.objs.size b t).toS hn _ hSf _ b.size 0 _ _ _ rfl (Nat.zero_le _) ⟨_, Heap.get?_push_size _ rfl, rfl, rfl⟩ (Heap.get?_push_of_some _ hS) (ItemsOf.nil _) fun s' acc' c' hm hS' hacc => ?_⟩
  rw [Moved.eq_with hm]
  refine hR s'.heap s'.toks acc' c' (fun b ob hb e => hm.heap b ob (fun hmem => ?_) (Heap.get?_push_of_some _ e)) hS' hacc
  rcases List.mem_cons.mp hmem with e' | hmem
  · exact hb e'
  · exact absurd (Heap.lt_size e) (by rw [List.mem_singleton.mp hmem]; exact Nat.lt_irrefl _)
theorem init_bytes {R : Result → Shared → Prop} (hh : A.handled = none) (b : Array UInt8) (t : Tok) (S : Addr) (hS : s.heap.get? S = some { cls := .type "list", data := .seq #[] })
    (hR : ∀ h' tk acc' c', (∀ b o, b ≠ S → s.heap.get? b = some o → h'.get? b = some o) → h'.get? S = some { cls := .type "list", dict := none, data := .seq acc' c', slots := #[] } →
      ItemsOf (fun i v => ∃ c u, b[i]? = some c ∧ v = .int (c.toNat : Int) u) acc' b.size → R (.ok (.ret .none)) { s with heap := h', toks := tk }) (hn : b.size ≤ sizeLine) :
    wpAny (model prog w) A.in1 (Builtin.«list.__init__» ⟨[.ref S, .bytes b t], []⟩)
      (fun fin s' => match fin with | .done f => R (.ok f) s' | .again c' => c'.quiet = true ∧ codeAny (model prog w) A c' R s') (fun e s' => R (.error e) s') s := by
  show wpAny _ _ (do let old ← Builtin.List.listItems (.ref S); Builtin.List.listUpdate (.ref S) (fun _ => #[]); letGo old.toList.reverse; Builtin.List.listExtendWith (.ref S) (.bytes b t) .none) _ _ s
  refine wpAny_bind ?_
  unfold Builtin.List.listItems
  refine wpAny_bind (wpAny_seqItems hS rfl (wpAny_pure ?_))
  show wpAny _ _ (updateSeq S (fun _ => #[]) >>= fun _ => letGo (#[] : Array Value).toList.reverse >>= fun _ => Builtin.List.listExtendWith (.ref S) (.bytes b t) .none) _ _ s
  refine wpAny_bind (wpAny_updateSeq hS rfl ?_)
  have hS2 := Heap.get?_update_self (Obj.mapSeq (fun _ => (#[] : Array Value))) hS rfl
  refine wpAny_bind (wpAny_letGo ?_)
  refine ext_bytes hh b t S .none _ hS2 (fun h' tk acc' c' hk hS' hacc => ?_) hn
  exact hR h' tk acc' c' (fun b o hb e => hk b o hb ((Heap.get?_update_other _ _ (Ne.symm hb)).trans e)) hS' hacc
theorem list_bytes {h₀ : Heap} {L : Addr} {m : Str → Option Value} {news : List (Addr × Obj)} {x : List Nat} {t : Tok} {Q : Value → Shared → Prop} (hh : A.handled = none) (F : Fr h₀ L s.heap m) (N : News h₀ L s.heap news) (hx : ∀ c ∈ x, c < 128) (hl : x.length ≤ 1000)
    (h : ∀ D us c h' tk, Fr h₀ L h' m → News h₀ L h' ((D, listOf (List.toArray us) c) :: news) → (∀ p ∈ news, p.1 < D) → IntsAre us (toI x) → Q (.ref D) { s with heap := h', toks := tk }) :
    wpAny (model prog w) A (call (.type "list") [.bytes (latB x) t]) Q E s := by
  have hS : (s.heap.push { cls := .type "list", data := .seq #[] }).get? s.heap.objs.size = some { cls := .type "list", data := .seq #[] } := Heap.get?_push_size _ rfl
  refine callType_codes (Q₁ := fun obj s₁ => obj = .ref s.heap.objs.size ∧ s₁ = { s with heap := s.heap.push { cls := .type "list", data := .seq #[] } }) PySem.F.called_list (PySem.F.typeCall_list_1 _) PySem.F.entry_list_init
    (code_list_new _ ⟨rfl, rfl⟩) fun obj s₁ h₁ => ?_
  obtain ⟨rfl, rfl⟩ := h₁
  refine ⟨⟨_, hS, rfl⟩, PySem.F.args_list_init_2 _ _, init_bytes (A := A.in1) hh (latB x) t _ hS (fun h' tk acc' c' hk hS' hacc => ?_) (by rw [sizeLine_eq, latB_size]; (first | lia | omega))⟩
  have keep : ∀ b o, s.heap.get? b = some o → h'.get? b = some o := fun b o e => hk b o (Nat.ne_of_lt (Heap.lt_size e)) (Heap.get?_push_of_some _ e)
  have hD : h'.get? s.heap.objs.size = some (listOf (List.toArray acc'.toList) c') := by rw [Array.toArray_toList]; exact hS'
  refine ⟨rfl, h _ acc'.toList c' h' tk (F.keeps keep) (news_pushed F N keep hD rfl) (fun p hp => Heap.lt_size (N p hp).1) ?_⟩
  have key : ∀ (vs : List Value) (l : List UInt8), vs.length = l.length → (∀ (j : Nat) (v : Value), vs[j]? = some v → ∃ (c : UInt8) (u : Tok), l[j]? = some c ∧ v = Value.int (c.toNat : Int) u) → IntsAre vs (l.map fun b : UInt8 => (b.toNat : Int)) := by
    intro vs
    induction vs with
    | nil => intro l e _; cases l with
      | nil => exact .nil
      | cons => simp at e
    | cons v r ih =>
      intro l e hj
      cases l with
      | nil => simp at e
      | cons c l =>
        obtain ⟨c', u, hc, rfl⟩ := hj 0 v rfl
        have : c = c' := by simpa using hc
        subst this
        exact .cons _ _ (ih l (by simpa using e) fun j v hv => hj (j + 1) v hv)
  rw [← latB_nat x hx]
  refine key _ _ (by rw [Array.length_toList, Array.length_toList]; exact hacc.1) fun j v hj => ?_
  obtain ⟨c, u, hc, rfl⟩ := hacc.2 j v (by rw [← hj, Array.getElem?_toList])
  exact ⟨c, u, by rw [Array.getElem?_toList]; exact hc, rfl⟩
end
end Mine
end
section
open PySem PySem.W PyProof.Rows PySem.Calls
set_option Elab.async false
namespace Mine
theorem execs_app_wp {M : Model} {Γ : Ctx} {env : Env} {b : List Stmt} {Q : Flow → Pos → Shared → Prop} {E : Value → Pos → Shared → Prop} :
    ∀ (a : List Stmt) (p : Pos) (s : Shared), Sem.wp M Γ (execs (a ++ b) env) Q E p s = Sem.wp M Γ (execs a env) (fun f p' s' => match f with | .next => Sem.wp M Γ (execs b env) Q E p' s' | f => Q f p' s') E p s
  | [], p, s => rfl
  | st :: rest, p, s => by
    rw [List.cons_append, execs_cons, execs_cons, Sem.wp_bind', Sem.wp_bind']
    congr 1
    funext f p' s'
    cases f with
    | next => exact execs_app_wp rest p' s'
    | _ => rfl
/-- a list of statements is cut behind its first n -/
theorem cutAt (n : Nat) {M : Model} {A : Around} {env : Env} {l : List Stmt} {s : Shared} {Q : Flow → Shared → Prop} {E : Value → Shared → Prop} {R : Shared → Prop}
    (h1 : wpAny M A (execs (l.take n) env) (fun f s' => Halt (f = .next ∧ R s')) E s) (h2 : ∀ s', R s' → wpAny M A (execs (l.drop n) env) Q E s') : wpAny M A (execs l env) Q E s := fun Γ p hΓ => by
  rw [← List.take_append_drop n l, execs_app_wp]
  refine Sem.wp_mono M Γ _ (fun f p' s' h' => ?_) (fun _ _ _ h' => h') _ _ (h1 Γ p hΓ)
  obtain ⟨rfl, h'⟩ := h'
  exact h2 _ h' Γ p' hΓ
end Mine
namespace Mine
theorem fr_swap {x y z : Str} {h₀ h : Heap} {L : Addr} {m : Str → Option Value} {a b c d : Value} (hxy : x ≠ y)
    (F : Fr h₀ L h (fun v => if v = x then some a else if v = y then some b else if v = x then some c else if v = z then some d else m v)) :
    Fr h₀ L h (fun v => if v = y then some b else if v = x then some a else if v = z then some d else m v) := by
  have e : (fun v => if v = x then some a else if v = y then some b else if v = x then some c else if v = z then some d else m v) = (fun v => if v = y then some b else if v = x then some a else if v = z then some d else m v) := by
    funext v
    by_cases h1 : v = x
    · have h2 : v ≠ y := fun h => hxy (h1 ▸ h)
      simp only [h1, if_true, if_neg (h1 ▸ h2)]
    · simp only [if_neg h1]
  exact e ▸ F
theorem fr_dup {y : Str} {h₀ h : Heap} {L : Addr} {m : Str → Option Value} {a b : Value}
    (F : Fr h₀ L h (fun v => if v = y then some a else if v = y then some b else m v)) :
    Fr h₀ L h (fun v => if v = y then some a else m v) := by
  have e : (fun v => if v = y then some a else if v = y then some b else m v) = (fun v => if v = y then some a else m v) := by
    funext v
    by_cases h1 : v = y
    · simp only [if_pos h1]
    · simp only [if_neg h1]
  exact e ▸ F
/-- what the first statements leave: three names more, and the given ledger -/
structure Left3 (h₀ : Heap) (L : Addr) (x y z : Str) (m : Str → Option Value) (news : List (Addr × Obj)) (s s' : Shared) : Prop where
  of :: (out : ∃ h9 tk9 a b c, s' = { s with heap := h9, toks := tk9 } ∧ Fr h₀ L h9 (fun v => if v = x then some a else if v = y then some b else if v = z then some c else m v) ∧ News h₀ L h9 news)
/-- a list of statements is cut behind its first n -/
theorem cutF (n : Nat) (x y z : Str) {M : Model} {A : Around} {env : Env} {l : List Stmt} {s : Shared} {Q : Flow → Shared → Prop} {E : Value → Shared → Prop} {h₀ : Heap} {L : Addr} {m : Str → Option Value} {news : List (Addr × Obj)} (F0 : Fr h₀ L s.heap m) (N0 : News h₀ L s.heap news)
    (h1 : wpAny M A (execs (l.take n) env) (fun f s' => Halt (f = .next ∧ Left3 h₀ L x y z m news s s')) E s)
    (h2 : ∀ h9 tk9 a b c, Fr h₀ L h9 (fun v => if v = x then some a else if v = y then some b else if v = z then some c else m v) → News h₀ L h9 news → wpAny M A (execs (l.drop n) env) Q E { s with heap := h9, toks := tk9 }) : wpAny M A (execs l env) Q E s :=
  cutAt n (R := fun s' => Left3 h₀ L x y z m news s s') h1 fun _ ⟨h9, tk9, a, b, c, e, F, N⟩ => e ▸ h2 h9 tk9 a b c F N
end Mine
end
section
open PySem PySem.W PyProof.Rows PySem.Calls
set_option Elab.async false
set_option maxRecDepth 100000
set_option maxHeartbeats 8000000
set_option pp.deepTerms.threshold 6
set_option pp.maxSteps 6000
namespace Mine
structure WalkIn : Prop where
  mark :: (one : True)
theorem useR {w : World} {news : List (Addr × Obj)} {t : Sem Value} {d u : Nat} {ns : List Int} {loose : List Str} {mean : ExcName → Option Value} {mg mb : Str → Option Value}
    {dp un : Nat} {gd : Option (List Code)} {cn : Str} {cs : Scope} {a : Addr} {ccd : Value} {cl : List (Str × Addr)} {A₀ : Around} {h₀ : Heap} {L : Addr} {m : Str → Option Value} {s : Shared} {Q E : Value → Shared → Prop}
    (C : GivesR w news t d u ns) (B : Below A₀ h₀ [] h₀) (F : Fr h₀ L s.heap m) (X : (Mine.heap w.params).In h₀) (N : News h₀ L s.heap news) (T : Top Mine.view loose mean mg mb h₀) (hk : cs.kind = .function)
    (hdp : dp + d < recursionLimit) (hun : un + u < cLine)
    (hret : ∀ D us c h' tk, Fr h₀ L h' m → News h₀ L h' ((D, listOf (List.toArray us) c) :: news) → (∀ p ∈ news, p.1 < D) → IntsAre us ns → Q (.ref D) { s with heap := h', toks := tk }) :
    wpAny (model PySem.Challenge.rw_sw0080_01.prog w) (ktrTop dp un gd cn cs L a ccd cl []) t Q E s := C _ _ _ _ _ _ _ _ _ _ _ _ _ _ _ _ _ _ _ B F X N T hk hdp hun hret
theorem oct_len : ∀ (l : List Nat), (∀ n ∈ l, n < 2^40) → (l.flatMap dOct).length ≤ 8 * l.length := by
  intro l
  induction l with
  | nil => intro _; simp
  | cons x r ih =>
    intro h
    have h1 := ih fun n hn => h n (List.mem_cons_of_mem _ hn)
    have h2 := dOct_length (h x List.mem_cons_self)
    simp only [List.flatMap_cons, List.length_append, List.length_cons] at h1 ⊢
    (first | lia | omega)
theorem toI_one {l : List Nat} {k : Nat} (h : toI l = [(k : Int)]) : l = [k] := by
  cases l with
  | nil => cases h
  | cons a r =>
    cases r with
    | nil =>
      have h1 : [((a : Nat) : Int)] = [(k : Int)] := h
      have : (a : Int) = k := (List.cons.inj h1).1
      rw [show a = k by (first | lia | omega)]
    | cons b r => cases h
theorem filt_len (p : Int → Bool) : ∀ (l : List Nat), (List.filter p (toI l)).length = l.countP fun (n : Nat) => p (n : Int)
  | [] => rfl
  | a :: r => by
    have ih := filt_len p r
    simp only [toI, List.map_cons, List.filter_cons, List.countP_cons] at ih ⊢
    split <;> simp_all
theorem walk {d : DefRec} (e : defOf Mine.view (Str.ofString "law") = some (d, [])) : WalkO Mine.view [Str.ofString "tspecials", Str.ofString "_name_disallowed_re", Str.ofString "_value_disallowed_re", Str.ofString "_formatparam"] (XL Mine.view []) (kHook Mine.heap [2, 3, 32, 34, 35, 37, 38, 42, 43, 47, 48, 52, 53, 54, 55, 57, 58, 60, 61, 69, 70, 72, 73, 75, 76, 77, 79, 80, 82, 83, 84, 86, 87, 89, 90, 91, 93, 94, 96, 97, 98, 101, 102, 103, 105, 106, 108, 109, 110, 112, 113, 115, 116, 117, 119, 120, 122, 123, 124, 125, 127, 128, 130, 131, 132, 135, 136, 137, 140, 141, 142, 144, 145, 147, 148, 149, 151, 152, 154, 155, 156, 159, 160, 161, 163, 164, 166, 167, 168, 170, 171, 173, 174, 175, 177, 178, 180, 181, 182, 183, 184, 185, 186, 189, 191, 192, 194, 195, 196, 198, 199, 201, 202, 203, 205, 206, 208, 209, 210, 212, 213, 215, 216, 217, 219, 220, 222, 223, 224, 226, 227, 229, 230, 231, 233, 234, 236, 237, 238, 240, 241, 243, 244, 245, 247, 248, 250, 251, 252, 254, 255, 257, 258, 259, 262, 263, 264, 266, 267, 269, 270, 271, 273, 274, 276, 277, 278, 280, 281, 283, 284, 285, 287, 288, 290, 291, 292, 294, 295, 297, 298, 299, 301, 302, 304, 305, 306, 309, 310, 311, 314, 315] (fun _ => by kernel_rfl)).says PySem.Challenge.rw_sw0080_01.row.toRowW d [] (fun f vs => call f vs) := by
  k_with_none
  k_with "execs cons" => ((with_reducible show wpAny _ _ (execs _ _) _ _ (Shared.mk _ _ _ (_ + _) _)); (k_dflt refine gen_tk ?_); intro ztk)
  k_with "eval List" => ((with_reducible show wpAny _ _ (eval _ _) _ _ (Shared.mk _ _ _ (_ + _) _)); (k_dflt refine gen_tk ?_); intro ztk)
  k_with "pyIter ref" => ((with_reducible show wpAny _ _ (pyIter _) (fun it s₂ => LoopAtV _ _ _ _ _ _ _ _ _ it s₂) _ _); (refine halt ?_))
  k_with "call ref" => ((fail_if_success with_reducible show wpAny _ _ (call (Value.ref 184) _ _) _ _ _); (fail_if_success with_reducible show wpAny _ _ (call (Value.ref 76) _ _) _ _ _); (fail_if_success with_reducible show wpAny _ _ (call (Value.ref 167) _ _) _ _ _); (fail_if_success ((rename WalkIn => zx9); with_reducible show wpAny _ _ (call (Value.ref 181) _ _) _ _ _)); (fail_if_success ((rename WalkIn => zx9); with_unfolding_all show wpAny _ _ (call (Value.ref 83) [Value.ref _, Value.str (tx _) _] _) _ _ _)); (refine halt ?_))
  k_with "call builtin:re.Pattern.search" => (refine halt ?_)
  k_with "InvEndN" => (refine halt ?_)
  k_with "exec For Name Subscript cons nil" => ((rename Fr _ _ _ _ => zFq); (with_unfolding_all refine For_invVF zFq (by rfl) (by rfl) ?_))
  k_with "exec For Name Name cons nil" => ((rename Fr _ _ _ _ => zFq); (with_unfolding_all refine For_invVF zFq (by rfl) (by rfl) ?_))
  k_with "subscriptTail" => (refine halt ?_)
  k_with "subscriptTail" => ((with_reducible show wpAny _ _ (subscriptTail _ _ (Value.ref _) (Value.int _ _)) _ _ _); k_dflt (refine' ksa_sub ?k1 ?k2 ?k3 ?k4 ?k5 ?k6 ?_ ?k7; (case k1 => k_asm); (case k2 => k_mem); (case k3 => first | exact IntsAre.cons _ _ (IntsAre.cons _ _ (IntsAre.cons _ _ (IntsAre.cons _ _ (IntsAre.cons _ _ (IntsAre.cons _ _ (IntsAre.cons _ _ (IntsAre.cons _ _ (IntsAre.cons _ _ (IntsAre.cons _ _ IntsAre.nil))))))))) | exact IntsAre.cons _ _ (IntsAre.cons _ _ (IntsAre.cons _ _ (IntsAre.cons _ _ (IntsAre.cons _ _ (IntsAre.cons _ _ (IntsAre.cons _ _ (IntsAre.cons _ _ IntsAre.nil)))))))); (case k4 => (first | lia | omega)); (case k5 => (simp only [List.length_cons, List.length_nil]; (first | lia | omega))); (case k6 => (first | lia | omega)); (case k7 => with_unfolding_all rfl)); intro _; (try dsimp only))
  k_with "k_all" => assumption
  k_with "ktr_rel" => ((case k1 => k_asm); (case k2 => k_asm); (case k3 => k_asm); (case k4 => k_asm); (case k5 => k_asm); (case k6 => first | assumption | exact rfl); (case k7 => ktr_room); (case k8 => first | ktr_units | (simp only [units_under_make, units_in1, units_deeper, Around.mark_units, units_caller, cLine_is]; (first | lia | omega)) | (simp only [units_under_make, units_in1, units_deeper, Around.mark_units, units_caller, cLine_is]; decide)))
  k_with "eval ListComp" => (refine halt ?_)
  k_with "binaryOp Add ref ref" => (refine halt ?_)
  k_with "exec For Name Call cons nil" => (refine halt ?_)
  k_with "exec For Name Call" => (refine halt ?_)
  k_with "truthy ref" => (refine halt ?_)
  k_with "getMethod ref" => ((with_reducible show wpAny _ _ (getMethod (Value.ref _) (Str.ofString "search") _) _ _ _); k_dflt (refine rp_method (by k_asm) (by k_asm) (by k_is) (by rfl) (by rfl) ?_))
  k_with "call ref" => ((with_unfolding_all show wpAny _ _ (call (Value.ref 83) [Value.ref _, Value.str (Str.ofString "m") _] [(Str.ofString "name", Value.bool true)]) _ _ _); (k_dflt refine' useV (c_cst_m _ _ _ _) ?k1 ?k2 ?k3 ?k4 ?k5 ?k6 ?k7 ?k8 ?_); k_dflt ktr_rel; intro zt9 zh9 ztk9 zF9 zN9; (try dsimp only); (try k_sweep))
  k_with "call ref" => ((with_unfolding_all show wpAny _ _ (call (Value.ref 83) [Value.ref _, Value.str (Str.ofString "p") _] [(Str.ofString "name", Value.bool true)]) _ _ _); (k_dflt refine' useV (c_cst_p _ _ _ _) ?k1 ?k2 ?k3 ?k4 ?k5 ?k6 ?k7 ?k8 ?_); k_dflt ktr_rel; intro zt9 zh9 ztk9 zF9 zN9; (try dsimp only); (try k_sweep))
  k_with "call ref" => ((with_unfolding_all show wpAny _ _ (call (Value.ref 83) [Value.ref _, Value.str (Str.ofString "n") _] [(Str.ofString "name", Value.bool true)]) _ _ _); (k_dflt refine' useV (c_cst_n _ _ _ _) ?k1 ?k2 ?k3 ?k4 ?k5 ?k6 ?k7 ?k8 ?_); k_dflt ktr_rel; intro zt9 zh9 ztk9 zF9 zN9; (try dsimp only); (try k_sweep))
  k_with "call ref" => ((with_unfolding_all show wpAny _ _ (call (Value.ref 83) [Value.ref _, Value.str (Str.ofString "") _] [(Str.ofString "name", Value.bool false)]) _ _ _); (k_dflt refine' useV (c_cst_e _ _ _ _) ?k1 ?k2 ?k3 ?k4 ?k5 ?k6 ?k7 ?k8 ?_); k_dflt ktr_rel; intro zt9 zh9 ztk9 zF9 zN9; (try dsimp only); (try k_sweep))
  k_with "exec Try" => (refine halt ?_)
  k_with "call ref" => ((with_unfolding_all show wpAny _ _ (call (Value.ref 83) [Value.ref _, Value.str (tx _) _] [(Str.ofString "name", Value.bool false)]) _ _ _); (k_dflt refine' useV (c_cstv _ _ _ _ _ ?g1 ?g2) ?k1 ?k2 ?k3 ?k4 ?k5 ?k6 ?k7 ?k8 ?_); (case g2 => assumption); (case g1 => (first | lia | omega)); k_dflt ktr_rel; intro zt9 zh9 ztk9 zF9 zN9; (try dsimp only); (try k_sweep))
  k_with "call builtin:str.replace" => ((k_dflt refine replNone occ_p ?_); (try dsimp only))
  k_with "call type:bytes" => ((with_reducible show wpAny _ _ (call (Value.type "bytes") [Value.ref _]) _ _ _); (rename Frag.In _ _ => zx9); (rename Fr _ _ _ _ => zf9); k_dflt (refine' bytes_own (Frag.In.keeps zx9 (Fr.keep zf9)) ?I ?s ?f ?_; (case I => k_inst); (case s => k_is); (case f => k_is)))
  k_with "call type:str" => ((with_reducible show wpAny _ _ (call (Value.type "str") [Value.ref _]) _ _ _); (rename Frag.In _ _ => zx9); (rename Fr _ _ _ _ => zf9); k_dflt (refine' kso_call ?k1 (Frag.In.keeps zx9 (Fr.keep zf9)) ?k3 ?k4 ?k5 ?_; (case k1 => k_units); (case k3 => k_inst); (case k4 => k_is); (case k5 => k_is); k_whole))
  k_with "exec If" => refine wpAny_If ?_
  k_with "call builtin:str.encode" => (refine halt ?_)
  k_with "call type:list" => ((with_reducible show wpAny _ _ (call (Value.type "list") [Value.bytes _ _]) _ _ _); (refine halt ?_))
  k_with "exec Return some" => ((fail_if_success (rename WalkIn => zx9)); (with_reducible show wpAny _ _ (exec (Stmt.Return (some (Expr.Compare (Expr.Call _ [_, _, _] _ _) _ _ _)) _) _) _ _ _); (refine halt ?_))
  k_with "getMethod str" => ((with_reducible show wpAny _ _ (getMethod (Value.str _ _) (Str.ofString "encode") _) _ _ _); (k_dflt refine gm_enc ?_))
  cases ((rfl : defOf Mine.view (Str.ofString "law") = some (_, [])).symm.trans e)
  k_go0
  k_fold
  k_steps
  unfold Halt
  rename Fr _ _ _ _ => F1
  rename News _ _ _ _ => N1
  rename List Int => script
  rename World => w
  rename Shared => s1
  rename_i cw hcw X0 lr h1 l0 h2 ls ws h3 hIs hCs hLs l1
  refine' kst_listL (σ := List Value × Nat) (nn := 0) (fun st => [(ls, listOf ws.toArray 0), (lr, listOf (List.toArray st.1) st.2), (s1.heap.objs.size + 1, cw)]) (fun _ => [(Str.ofString "row", .ref lr)]) (fun _ => True) [Str.ofString "lead"]
    (fun pre st => IntsAre st.1 (toI (102 :: 1826 :: pre.map num))) ([_, _], 0) rfl ?hl hIs F1 N1 trivial ?hk ?hp ?turn ?done
  case hl => intro st; exact List.mem_cons_self
  case hk => kst_all
  case hp => exact .cons _ _ (.cons _ _ .nil)
  case turn =>
    clear F1 N1
    intro st pre post n t u h tk own e1 hmem hoff hf hp F2 N2
    obtain ⟨us, cn⟩ := st
    simp only [kstB] at F2
    dsimp only at hf hp N2 hoff
    simp only [List.cons_append, List.nil_append] at N2
    have hup : ∀ p ∈ own, p.1 ≠ lr := fun p hp => hoff p hp lr (by simp)
    have hlen : us.length ≤ 5 := by
      have h1 := hp.length
      have h2 := congrArg List.length e1
      simp [toI] at h1 h2; (first | lia | omega)
    have b1 : 0 ≤ (n.fdiv 10).fmod 8 ∧ (n.fdiv 10).fmod 8 < 8 := ⟨Int.fmod_nonneg_of_pos _ (by decide), Int.fmod_lt_of_pos _ (by decide)⟩
    have b2 : 0 ≤ n.fmod 10 ∧ n.fmod 10 < 10 := ⟨Int.fmod_nonneg_of_pos _ (by decide), Int.fmod_lt_of_pos _ (by decide)⟩
    k_steps
    unfold Halt
    rename Fr _ _ _ _ => F3
    rename News _ _ _ _ => N3
    simp only [List.push_toArray] at N3
    refine kst_end (us ++ [.int (numI n) _], cn + 1) F3 N3 (List.forall_mem_cons.mpr ⟨.tail _ (.tail _ (.head _)), List.forall_mem_cons.mpr ⟨.tail _ (.tail _ (.tail _ (.head _))), List.forall_mem_cons.mpr ⟨.tail _ (.tail _ (.tail _ (.tail _ (.head _)))), fun _ h => nomatch h⟩⟩⟩) ?_ rfl trivial (by kst_all) (by kst_same) ?_
    · intro p hp; simp [hp]
    · dsimp only
      refine ints_eq (IntsAre.append hp (ints_one _ _)) ?_
      simp [toI, num_cast]
  case done =>
    clear F1 N1
    intro st u h tk hf hp F2 N2
    obtain ⟨us, cn⟩ := st
    simp only [kstB] at F2
    dsimp only at hp N2
    have hrow : toI (102 :: 1826 :: (List.take 3 script).map num) = toI (rowOf script) := rfl
    rw [hrow] at hp
    have hrl := rowOf_len script
    have hrb : ∀ n ∈ rowOf script, n < 2 ^ 40 := fun n hn => Nat.lt_trans (rowOf_lt script n hn) (by decide)
    k_steps
    unfold Halt
    rename Fr _ _ _ _ => F3
    rename News _ _ _ _ => N3
    refine' useV (c_text w _ lr us cn (rowOf script) ?gm hp (by (first | lia | omega)) hrb) ?k1 ?k2 ?k3 ?k4 ?k5 ?k6 ?k7 ?k8 ?_
    ktr_rel
    case gm => k_mem
    intro t4 h4 tk4 F4 N4
    dsimp only
    k_steps
    unfold Halt
    rename Fr _ _ _ _ => F5
    rename News _ _ _ _ => N5
    generalize hgx : (rowOf script).flatMap dOct = text at *
    refine' kst_listL (σ := Unit) (nn := cn) (fun st => [(ls, listOf ws.toArray 0), (lr, listOf us.toArray cn), (s1.heap.objs.size + 1, cw)]) (fun _ => [(Str.ofString "row", .ref lr), (Str.ofString "text", .str (tx text) t4)]) (fun _ => True) []
      (fun pre st => True) () rfl ?hl2 hp F5 N5 trivial ?hk2 trivial ?turn2 ?done2
    case hl2 => intro st; exact .tail _ (.head _)
    case hk2 => kst_all
    case turn2 =>
      clear F5 N5
      intro st pre post n t u h tk own e1 hmem hoff hf _ F6 N6
      simp only [kstB] at F6
      (try dsimp only at N6 hoff)
      (try simp only [List.cons_append, List.nil_append] at N6)
      obtain ⟨n', hn', rfl⟩ := List.mem_map.mp hmem
      have hb' := hrb n' hn'
      have e8 : [n'].flatMap dOct = dOct n' := by simp
      have hdo : (dOct n').length ≤ 3 := by
        have := dPre_length 2 (n' / 64) (by have := rowOf_lt script n' hn'; (first | lia | omega))
        simp [dOct]; (first | lia | omega)
      k_steps
      unfold Halt
      rename Fr _ _ _ _ => F7
      rename News _ _ _ _ => N7
      refine mapS (base := (ls, listOf ws.toArray 0) :: (lr, listOf us.toArray cn) :: (s1.heap.objs.size + 1, cw) :: own) (ts := (par n').flatMap dOct) (fun c => (c : Int)) F7 (by rfl) (by rfl) (by decide) (by rfl) (by decide) (by rfl) ?hsrc ?hsz ?hts (fun _ => rfl) ?helt ?hQ
      case hsrc =>
        k_steps
        unfold Halt
        rename Fr _ _ _ _ => F7
        rename News _ _ _ _ => N7
        refine' useV (c_text w _ _ _ _ [n'] ?gm ?gi (by simp) ?gb) ?k1 ?k2 ?k3 ?k4 ?k5 ?k6 ?k7 ?k8 ?_
        ktr_rel
        case gm => k_mem
        case gi => exact .cons _ _ .nil
        case gb => intro x hx; rw [List.mem_singleton.mp hx]; exact hb'
        intro t8 h8 tk8 F8 N8
        dsimp only
        k_steps
        unfold Halt
        rw [e8, show Str.ofString "p" = tx [112] by decide]
        rename Fr _ _ _ _ => F9
        rename News _ _ _ _ => N9
        refine' useV (c_fmt0 w _ (dOct n') [112] _ _ _ (by (first | lia | omega)) (by simp)) ?k1 ?k2 ?k3 ?k4 ?k5 ?k6 ?k7 ?k8 ?_
        ktr_rel
        intro t10 h10 tk10 F10 N10
        exact ⟨⟨_, by rw [fmt_par]⟩, _, _, _, rfl, F10, N10, fun p hp => List.mem_cons_of_mem _ hp⟩
      case hsz =>
        have := oct_len (par n') (par_lt n' (rowOf_lt script n' hn'))
        have := par_len n'
        (first | lia | omega)
      case hts => exact oct_lt _
      case helt =>
        intro news k t I oI C oC D m₂ ys h tk E' hk1 hC hx F1 N1
        k_steps
        unfold Halt
        exact ⟨⟨_, rfl⟩, _, _, rfl, by assumption, by assumption⟩
      case hQ =>
        intro D ys h tk F1 N1 off hi
        k_steps
        unfold Halt
        refine' useR (c_read w _ D ys _ (par n') ?gm hi (by have := par_len n'; (first | lia | omega)) (par_lt n' (rowOf_lt script n' hn'))) ?k1 ?k2 ?k3 ?k4 ?k5 ?k6 ?k7 ?k8 ?_
        ktr_rel
        case gm => exact .head _
        intro D2 us2 c2 h2 tk2 F2 N2 l2 hi2
        clear F1 N1
        dsimp only
        k_steps
        unfold Halt
        rename Fr _ _ _ _ => F1
        rename News _ _ _ _ => N1
        refine' useL (c_par w _ (n' : Int) _ (by (first | lia | omega)) (by (first | lia | omega))) ?k1 ?k2 ?k3 ?k4 ?k5 ?k6 ?k7 ?k8 ?_
        ktr_rel
        intro D3 us3 c3 h3 tk3 F3 N3 l3 hi3
        clear F1 N1
        rw [Int.toNat_natCast] at hi3
        dsimp only
        k_steps
        unfold Halt
        rename Fr _ _ _ _ => F4
        rename News _ _ _ _ => N4
        have h92 := par_len n'
        have h93 : (toI (par n')).length = (par n').length := by simp [toI]
        refine kmk_add_ints F4 N4 (vs := us3) ⟨_, (N4 _ (.tail _ (.head _))).1, rfl, _, rfl⟩ ⟨_, (N4 _ (.head _)).1, rfl, _, rfl⟩ hi3 (ints_one _ _) (fun D4 us4 h5 F5 N5 l5 hi4 => ?_) (by rw [sizeLine_eq]; simp only [List.length_cons, List.length_nil]; (first | lia | omega))
        have eqp : toI (par n') ++ [5] = toI (par n' ++ [5]) := by simp [toI]
        rw [eqp] at hi4
        k_steps
        unfold Halt
        refine kst_end () F5 N5 ?_ ?_ rfl trivial (by kst_all) (by kst_same) trivial
        · refine List.forall_mem_cons.mpr ⟨?_, List.forall_mem_cons.mpr ⟨?_, List.forall_mem_cons.mpr ⟨?_, fun _ h => nomatch h⟩⟩⟩
          all_goals simp
        · intro p hp; simp [hp]
    case done2 =>
      clear F5 N5
      intro st u h tk hf _ F6 N6
      simp only [kstB] at F6
      (try dsimp only at N6)
      have htl : text.length ≤ 13 := by rw [← hgx]; exact text_len script
      k_steps
      unfold Halt
      rename Fr _ _ _ _ => F7
      rename News _ _ _ _ => N7
      rename_i la h91 F91 N91 l91 h92
      clear F91 N91
      refine forCellM (fun i news => ∃ co v, co.data = .cell v ∧ news = [(la, listOf [Value.ref 223, .ref 230, .ref 237, .ref 244, .ref 251].toArray 0), (ls, listOf ws.toArray 0), (lr, listOf us.toArray cn), (s1.heap.objs.size + 1, co)]) 5 F7 (by decide) rfl ?hit ?turn3 ?done3 (fun _ => rfl) (by first | passes_own | with_unfolding_all passes_own)
      case hit =>
        k_steps
        unfold Halt
        exact ⟨_, _, _, _, _, _, _, rfl, rfl, by assumption, by assumption, by assumption, ⟨_, _, hcw, rfl⟩⟩
      case turn3 =>
        clear F7 N7
        intro i I news h tk t hi hJ hoff F N
        obtain ⟨co, v, hco, rfl⟩ := hJ
        have hof1 : la ≠ I := hoff (la, _) (.head _)
        have hof2 : ls ≠ I := hoff (ls, _) (.tail _ (.head _))
        have hof3 : lr ≠ I := hoff (lr, _) (.tail _ (.tail _ (.head _)))
        have hof4 : s1.heap.objs.size + 1 ≠ I := hoff (_, co) (by simp)
        have hne1 : I ≠ s1.heap.objs.size + 1 := fun e => hoff (_, co) (by simp) e.symm
        have hne2 : la ≠ s1.heap.objs.size + 1 := by have := l91.2.2; exact (Nat.ne_of_lt this).symm
        have hne3 : ls ≠ s1.heap.objs.size + 1 := (Nat.ne_of_lt l1.2).symm
        have hne4 : lr ≠ s1.heap.objs.size + 1 := (Nat.ne_of_lt l0).symm
        with_unfolding_all refine storeX_C F N (by rfl) (.tail hne1 (.tail hne2 (.tail hne3 (.tail hne4 (.head (fun _ h => nomatch h)))))) hco ?_ (by rfl) (by rfl)
        intro h9 co9 F9 N9 hco9
        clear F N
        (try dsimp only at N9)
        k_steps
        unfold Halt
        refine mapS (base := [(I, itR (((i + 1 : Nat) : Int)) ((5 : Nat) - ((i + 1 : Nat) : Int))), (la, listOf [Value.ref 223, .ref 230, .ref 237, .ref 244, .ref 251].toArray 0), (ls, listOf ws.toArray 0), (lr, listOf us.toArray cn), (s1.heap.objs.size + 1, co9)]) (ts := (escd i (rowOf script)).flatMap dOct) (fun c => (c : Int)) F9 (by rfl) (by rfl) (by decide) (by rfl) (by decide) (by rfl) ?hsrc ?hsz ?hts (fun _ => rfl) ?helt ?hQ
        case hsrc =>
          k_steps
          unfold Halt
          rename Fr _ _ _ _ => F1
          rename News _ _ _ _ => N1
          have he5 := esc_escd i hi (rowOf script)
          rw [hgx] at he5
          rw [← he5]
          refine listItem (vs := [Value.ref 223, .ref 230, .ref 237, .ref 244, .ref 251]) (v := Value.ref (223 + 7 * i)) ⟨_, (N1 _ (.tail _ (.head _))).1, rfl, _, rfl⟩ (by (first | lia | omega)) (by (first | lia | omega)) (by rw [Int.toNat_natCast]; exact ecs_item i hi) ?_
          k_steps
          refine' callWith_K ?k1 (ecs_keep w i hi) ?_
          case k1 => k_asm
          k_steps
          unfold Halt
          rename Fr _ _ _ _ => F2
          rename News _ _ _ _ => N2
          refine' useV (c_ecs w _ i hi text _ htl) ?k1 ?k2 ?k3 ?k4 ?k5 ?k6 ?k7 ?k8 ?_
          ktr_rel
          intro t10 h10 tk10 F10 N10
          exact ⟨⟨_, rfl⟩, _, _, _, rfl, F10, N10, fun p hp => hp⟩
        case hsz =>
          have h8 := escd_len i (rowOf script)
          have := oct_len (escd i (rowOf script)) (escd_lt i _ (rowOf_lt script))
          (first | lia | omega)
        case hts => exact oct_lt _
        case helt =>
          intro news k t I oI C oC D m₂ ys h tk E' hk1 hC hx F1 N1
          k_steps
          unfold Halt
          exact ⟨⟨_, rfl⟩, _, _, rfl, by assumption, by assumption⟩
        case hQ =>
          intro D ys h tk F1 N1 off hys
          k_steps
          unfold Halt
          refine' useR (c_read w _ D ys _ (escd i (rowOf script)) ?gm hys (by have h8 := escd_len i (rowOf script); (first | lia | omega)) (escd_lt i _ (rowOf_lt script))) ?k1 ?k2 ?k3 ?k4 ?k5 ?k6 ?k7 ?k8 ?_
          ktr_rel
          case gm => exact .head _
          intro D2 us2 c2 h2 tk2 F2 N2 l2 hi2
          clear F1 N1
          dsimp only
          k_steps
          unfold Halt
          rename Fr _ _ _ _ => F1
          rename News _ _ _ _ => N1
          refine' useL (c_escd w _ (i : Int) _ lr us cn (rowOf script) (by (first | lia | omega)) (by (first | lia | omega)) ?gm hp (by (first | lia | omega)) hrb) ?k1 ?k2 ?k3 ?k4 ?k5 ?k6 ?k7 ?k8 ?_
          ktr_rel
          case gm => k_mem
          intro D3 us3 c3 h3 tk3 F3 N3 l3 hi3
          clear F1 N1
          rw [Int.toNat_natCast] at hi3
          dsimp only
          k_steps
          unfold Halt
          rename Fr _ _ _ _ => F4
          rename News _ _ _ _ => N4
          have h92 := escd_len i (rowOf script)
          have h93 : (toI (escd i (rowOf script))).length = (escd i (rowOf script)).length := by simp [toI]
          refine kmk_add_ints F4 N4 (vs := us3) ⟨_, (N4 _ (.tail _ (.head _))).1, rfl, _, rfl⟩ ⟨_, (N4 _ (.head _)).1, rfl, _, rfl⟩ hi3 (ints_one _ _) (fun D4 us4 h5 F5 N5 l5 hi4 => ?_) (by rw [sizeLine_eq]; simp only [List.length_cons, List.length_nil]; (first | lia | omega))
          have eqp : toI (escd i (rowOf script)) ++ [5] = toI (escd i (rowOf script) ++ [5]) := by simp [toI]
          rw [eqp] at hi4
          k_steps
          · exact F5
          · exact fun p hp => N5 p (.tail _ (.tail _ (.tail _ (.tail _ (.tail _ hp)))))
          · rename _ ∈ _ => hpm
            simp only [List.mem_cons, List.not_mem_nil, or_false] at hpm
            rcases hpm with rfl | rfl | rfl | rfl
            · exact hof1
            · exact hof2
            · exact hof3
            · exact hof4
      case done3 =>
        clear F7 N7
        intro news h tk hJ F N
        obtain ⟨co, v, hco, rfl⟩ := hJ
        dsimp only
        have hbad := bad_any (rowOf script)
        rw [hgx] at hbad
        have hne0 : text ≠ [] := by rw [← hgx]; exact text_ne script
        refine cutF 5 (Str.ofString "refused") (Str.ofString "lines") (Str.ofString "table") F N ?first ?second
        case first =>
          dsimp only [List.take_succ_cons, List.take_zero]
          k_fold
          k_steps
          unfold Halt
          refine wpAny_Try_except ?_
          by_cases hr : refused (rowOf script) = true
          · rename Frag.In _ _ => KX
            have hwalk : WalkIn := ⟨trivial⟩
            k_steps
            unfold Halt
            rename Fr _ _ _ _ => F1
            rename News _ _ _ _ => N1
            rename Frag.In _ _ => X1
            have hyes : ∃ i, i < (tx text).cps.size ∧ csS vlu ((tx text).cps.getD i 0) = true := by
              obtain ⟨c, hc, hS⟩ := List.any_eq_true.mp (hbad.trans hr)
              obtain ⟨i, hi, e⟩ := List.mem_iff_getElem.mp hc
              exact ⟨i, by simpa [tx] using hi, by rw [show (tx text).cps.getD i 0 = c by simp [tx, hi, e]]; exact hS⟩
            refine rp_search vlu_one F1 N1 X1 (by k_dflt k_is) rfl rfl (by k_dflt k_is) rfl (by simp [Builtin.Re.reRawOf, vlu]) (by rw [tx_length]; (first | lia | omega)) (fun h => ?_) (fun h D ob h' hc F2 N2 lD => ?_)
            · exfalso; obtain ⟨i, h1, h2⟩ := hyes; rw [h i h1] at h2; cases h2
            · dsimp only
              k_steps
              unfold Halt
              refine match_truthy (N2 _ List.mem_cons_self).1 hc ?_
              k_steps
              with_unfolding_all refine caughtVE (by assumption) (by assumption) (by assumption) (by assumption) (by k_asm) (fun h9 F9 N9 => ?_)
              k_steps
              clear hwalk
              unfold Halt
              rename Fr _ _ _ _ => F18
              rename News _ _ _ _ => N18
              refine' useV (c_refused w _ lr us cn (rowOf script) ?gm hp (by (first | lia | omega)) hrb) ?k1 ?k2 ?k3 ?k4 ?k5 ?k6 ?k7 ?k8 ?_
              ktr_rel
              case gm => k_mem
              intro t19 h19 tk19 F19 N19
              rw [hr]
              dsimp only
              k_steps
              k_dflt (refine' bytes_own (Frag.In.keeps KX (Fr.keep F19)) ?I ?s ?f ?_)
              case I => k_inst
              case s => k_dflt k_is
              case f => k_dflt k_is
              k_steps
              unfold Halt
              rename Fr _ _ _ _ => F20
              rename News _ _ _ _ => N20
              refine' useStr1 ?m1 ?m2 ?m3 ?m4 ?k1 F20 ?k3 N20 ?k5 ?k6 ?k7 ?k8 ?_
              case m1 => k_mem
              case m2 => k_mem
              case m3 => k_mem
              case m4 => k_mem
              case k1 => k_asm
              case k3 => k_asm
              case k5 => k_asm
              case k6 => first | assumption | exact rfl
              case k7 => ktr_room
              case k8 => first | ktr_units | (simp only [units_under_make, units_in1, units_deeper, Around.mark_units, units_caller, cLine_is]; (first | lia | omega))
              intro t21 h21 tk21 F21 N21
              dsimp only
              unfold StrBack
              have hXoct : [109, 58, 32, 13, 10, 13, 10] = [2938, 32, 13, 10, 13, 10].flatMap dOct := by simp [o_m, dOct_low]
              have hX128 : ∀ c ∈ [109, 58, 32, 13, 10, 13, 10], c < 128 := by decide
              dsimp only
              k_steps
              unfold Halt
              refine call_enc hX128 (by decide) (by decide) fun t22 k22 => ?_
              k_steps
              unfold Halt
              refine ⟨_, _, rfl, ?_⟩
              k_steps
              unfold Halt
              rename Fr _ _ _ _ => F23
              rename News _ _ _ _ => N23
              refine list_bytes rfl F23 N23 hX128 (by decide) fun D5 us5 c5 h23 tk23 F24 N24 l24 hi24 => ?_
              rw [hXoct] at hi24
              clear F23 N23
              k_steps
              unfold Halt
              refine' useR (c_read w _ D5 us5 c5 [2938, 32, 13, 10, 13, 10] ?gm hi24 (by simp) ?gb) ?k1 ?k2 ?k3 ?k4 ?k5 ?k6 ?k7 ?k8 ?_
              ktr_rel
              case gm => exact .head _
              case gb => intro n hn; simp only [List.mem_cons, List.not_mem_nil, or_false] at hn; (first | lia | omega)
              intro D6 us6 c6 h25 tk25 F26 N26 l26 hi26
              clear F24 N24
              dsimp only
              k_steps
              unfold Halt
              rename Fr _ _ _ _ => F27
              rename News _ _ _ _ => N27
              refine kmk_add_ints F27 N27 (vs := [_, _, _, _]) (ns := [2938, 32, 13, 10]) ⟨_, (N27 _ (.tail _ (.tail _ (.tail _ (.tail _ (.tail _ (.tail _ (.tail _ (.head _))))))))).1, rfl, _, rfl⟩ ⟨_, (N27 _ (.head _)).1, rfl, _, rfl⟩ (.cons _ _ (.cons _ _ (.cons _ _ (.cons _ _ .nil)))) (.cons _ _ (.cons _ _ (.cons _ _ .nil))) (fun E6 v6 h28 F28 N28 l28 hi28 => ?_) (by rw [sizeLine_eq]; decide)
              rw [show ([2938, 32, 13, 10] ++ [13, 10, 5] : List Int) = toI ([2938, 32, 13, 10, 13, 10] ++ [5]) from rfl] at hi28
              clear F27 N27
              k_steps
              rename Fr _ _ _ _ => FZ
              rename News _ _ _ _ => NZ
              refine ⟨rfl, _, _, _, _, _, rfl, fr_dup FZ, cb_drop NZ (List.forall_mem_cons.mpr ⟨by k_mem, List.forall_mem_cons.mpr ⟨by k_mem, List.forall_mem_cons.mpr ⟨by k_mem, List.forall_mem_cons.mpr ⟨by k_mem, fun _ h => nomatch h⟩⟩⟩⟩)⟩
          · have hno : text.any (csS vlu) = false := by rw [hbad]; simpa using hr
            k_steps
            unfold Halt
            rename Fr _ _ _ _ => F8
            rename News _ _ _ _ => N8
            refine' useAdd htl hno hne0 ?d1 ?d3 ?d4 ?d5 ?d6 ?k1 F8 ?k3 N8 ?k5 ?k6 ?k7 ?k8 ?_
            case d1 => exact refs_ne
            case d3 => exact refs_ne
            case d4 => exact ints_ne hIs
            case d5 => exact ints_ne hp
            case d6 => exact cell_ne hco
            case k1 => k_asm
            case k3 => k_asm
            case k5 => k_asm
            case k6 => first | assumption | exact rfl
            case k7 => ktr_room
            case k8 => ktr_units
            intro T2 uT vT h9 tk9 F9 N9
            clear F8 N8
            dsimp only
            k_steps
            unfold Halt
            rename Fr _ _ _ _ => F10
            rename News _ _ _ _ => N10
            refine kmk_add_ints F10 N10 (vs := [_, _, _, _]) (ns := [2938, 32, 13, 10]) ⟨_, (N10 _ (.tail _ (.tail _ (.head _)))).1, rfl, _, rfl⟩ ⟨_, (N10 _ (.head _)).1, rfl, _, rfl⟩ (.cons _ _ (.cons _ _ (.cons _ _ (.cons _ _ .nil)))) (.cons _ _ (.cons _ _ (.cons _ _ (.cons _ _ .nil)))) (fun E1 v1 h10 F11 N11 l11 hi11 => ?_) (by rw [sizeLine_eq]; decide)
            clear F10 N10
            k_steps
            unfold Halt
            rename Fr _ _ _ _ => F12
            rename News _ _ _ _ => N12
            with_unfolding_all refine mapc (ax := lr) (vs := us) (ns := toI (rowOf script)) (cn := cn) (fun k => ((mark k.toNat : Nat) : Int)) F12 (by rfl) (by rfl) (by decide) (by rfl) (by decide) (by rfl) (nameX_L F12 rfl ⟨rfl, _, _, rfl, F12, N12⟩) ?hmm hp ?hlen (fun _ => rfl) ?helt ?hQ
            case hlen => simp [toI]; (first | lia | omega)
            case hmm => k_mem
            case helt =>
              intro k t I oI C oC D m₂ ys h tk E' hk1 hC hx F1 N1
              obtain ⟨k', hk', rfl⟩ := List.mem_map.mp hk1
              have hb' := hrb k' hk'
              k_steps
              unfold Halt
              refine' useV (c_mark w _ _ _ ?g1 ?g2) ?k1 ?k2 ?k3 ?k4 ?k5 ?k6 ?k7 ?k8 ?_
              ktr_rel
              case g1 => (first | lia | omega)
              case g2 => (first | lia | omega)
              intro t9 h9 tk9 F9 N9
              exact ⟨⟨_, rfl⟩, _, _, rfl, F9, N9⟩
            case hQ =>
              intro E2 v2 h12 tk12 F13 N13 off13 hi13
              clear F12 N12
              k_steps
              unfold Halt
              rename Fr _ _ _ _ => F14
              rename News _ _ _ _ => N14
              have hml : (List.map (fun k : Int => ((mark k.toNat : Nat) : Int)) (toI (rowOf script))).length ≤ 5 := by simp [toI]; (first | lia | omega)
              refine kmk_add_ints F14 N14 (vs := v1) ⟨_, (N14 (E1, listOf v1.toArray 0) (by k_mem)).1, rfl, _, rfl⟩ ⟨_, (N14 (E2, LCg.lst v2) (by k_mem)).1, rfl, _, rfl⟩ hi11 hi13 (fun E3 v3 h14 F15 N15 l15 hi15 => ?_) (by rw [sizeLine_eq]; simp only [List.length_append, List.length_cons, List.length_nil]; (first | lia | omega))
              clear F14 N14
              k_steps
              unfold Halt
              rename Fr _ _ _ _ => F16
              rename News _ _ _ _ => N16
              refine kmk_add_ints F16 N16 (vs := v3) ⟨_, (N16 (E3, listOf v3.toArray 0) (by k_mem)).1, rfl, _, rfl⟩ ⟨_, (N16 _ (.head _)).1, rfl, _, rfl⟩ hi15 (.cons _ _ (.cons _ _ (.cons _ _ .nil))) (fun E4 v4 h16 F17 N17 l17 hi17 => ?_) (by rw [sizeLine_eq]; simp only [List.length_append, List.length_cons, List.length_nil]; (first | lia | omega))
              clear F16 N16
              k_steps
              unfold Halt
              rename Fr _ _ _ _ => F18
              rename News _ _ _ _ => N18
              refine' useV (c_refused w _ lr us cn (rowOf script) ?gm hp (by (first | lia | omega)) hrb) ?k1 ?k2 ?k3 ?k4 ?k5 ?k6 ?k7 ?k8 ?_
              ktr_rel
              case gm => k_mem
              intro t19 h19 tk19 F19 N19
              rw [show refused (rowOf script) = false by simpa using hr]
              dsimp only
              k_steps
              unfold Halt
              rename Fr _ _ _ _ => F20
              rename News _ _ _ _ => N20
              refine' useStr2 (body := fmtq [112] text) (fmtq_len text htl) ?m1 ?m2 ?m3 ?m4 ?m5 ?k1 F20 ?k3 N20 ?k5 ?k6 ?k7 ?k8 ?_
              case m1 => k_mem
              case m2 => k_mem
              case m3 => k_mem
              case m4 => k_mem
              case m5 => k_mem
              case k1 => k_asm
              case k3 => k_asm
              case k5 => k_asm
              case k6 => first | assumption | exact rfl
              case k7 => ktr_room
              case k8 => first | ktr_units | (simp only [units_under_make, units_in1, units_deeper, Around.mark_units, units_caller, cLine_is]; (first | lia | omega))
              intro t21 h21 tk21 F21 N21
              dsimp only
              unfold StrBack
              have hX2 : ([109, 58, 32, 13, 10, 110, 58, 32] ++ fmtq [112] text ++ [13, 10, 13, 10]).length ≤ 1000 := by
                have := fmtq_len text htl
                rw [tx_length] at this
                simp only [List.length_append, List.length_cons, List.length_nil]; (first | lia | omega)
              have hXoct : [109, 58, 32, 13, 10, 110, 58, 32] ++ fmtq [112] text ++ [13, 10, 13, 10] = (2938 :: 32 :: 13 :: 10 :: 3002 :: 32 :: 3133 :: 34 :: (rowOf script).map mark ++ [34, 13, 10, 13, 10]).flatMap dOct := by
                rw [← hgx, fmtq_mark]
                simp [o_m, o_n, o_34, dOct_low]
              have hX128 : ∀ c ∈ [109, 58, 32, 13, 10, 110, 58, 32] ++ fmtq [112] text ++ [13, 10, 13, 10], c < 128 := by rw [hXoct]; exact oct_lt _
              generalize hXX : [109, 58, 32, 13, 10, 110, 58, 32] ++ fmtq [112] text ++ [13, 10, 13, 10] = XX at *
              have hX1 : 2 ≤ XX.length := by rw [← hXX]; simp
              dsimp only
              k_steps
              unfold Halt
              refine call_enc hX128 hX1 hX2 fun t22 k22 => ?_
              k_steps
              unfold Halt
              refine ⟨_, _, rfl, ?_⟩
              k_steps
              unfold Halt
              rename Fr _ _ _ _ => F23
              rename News _ _ _ _ => N23
              refine list_bytes rfl F23 N23 hX128 hX2 fun D5 us5 c5 h23 tk23 F24 N24 l24 hi24 => ?_
              rw [hXoct] at hi24
              clear F23 N23
              k_steps
              unfold Halt
              refine' useR (c_read w _ D5 us5 c5 _ ?gm hi24 (by simp; (first | lia | omega)) ?gb) ?k1 ?k2 ?k3 ?k4 ?k5 ?k6 ?k7 ?k8 ?_
              ktr_rel
              case gm => exact .head _
              case gb =>
                intro n hn
                simp only [List.cons_append, List.mem_cons, List.mem_append, List.mem_map, List.not_mem_nil, or_false] at hn
                rcases hn with h | h | h | h | h | h | h | h | ⟨z, hz, h⟩ | h | h | h | h | h
                all_goals first | (first | lia | omega) | (subst h; exact mark_lt z (rowOf_lt script z hz))
              intro D6 us6 c6 h25 tk25 F26 N26 l26 hi26
              clear F24 N24
              dsimp only
              k_steps
              unfold Halt
              rename Fr _ _ _ _ => F27
              rename News _ _ _ _ => N27
              refine kmk_add_ints F27 N27 (vs := v4) ⟨_, (N27 (E4, listOf v4.toArray 0) (by k_mem)).1, rfl, _, rfl⟩ ⟨_, (N27 _ (.head _)).1, rfl, _, rfl⟩ hi17 (.cons _ _ (.cons _ _ (.cons _ _ .nil))) (fun E6 v6 h28 F28 N28 l28 hi28 => ?_) (by rw [sizeLine_eq]; simp only [List.length_append, List.length_cons, List.length_nil]; (first | lia | omega))
              have eqL : [2938, 32, 13, 10] ++ [3002, 32, 3133, 34] ++ List.map (fun k : Int => ((mark k.toNat : Nat) : Int)) (toI (rowOf script)) ++ [34, 13, 10] ++ [13, 10, 5] = toI ((2938 :: 32 :: 13 :: 10 :: 3002 :: 32 :: 3133 :: 34 :: (rowOf script).map mark ++ [34, 13, 10, 13, 10]) ++ [5]) := by
                simp [toI]
              rw [eqL] at hi28
              clear F27 N27
              k_steps
              rename Fr _ _ _ _ => FZ
              rename News _ _ _ _ => NZ
              refine ⟨rfl, _, _, _, _, _, rfl, fr_swap (by decide) FZ, cb_drop NZ (List.forall_mem_cons.mpr ⟨by k_mem, List.forall_mem_cons.mpr ⟨by k_mem, List.forall_mem_cons.mpr ⟨by k_mem, List.forall_mem_cons.mpr ⟨by k_mem, fun _ h => nomatch h⟩⟩⟩⟩)⟩
        case second =>
          clear F N
          intro h9 tk9 va vb vc F9 N9
          dsimp only [List.drop_succ_cons, List.drop_zero]
          have hk0 : 0 ≤ script.sum.fmod 5 ∧ script.sum.fmod 5 < 5 := ⟨Int.fmod_nonneg_of_pos _ (by decide), Int.fmod_lt_of_pos _ (by decide)⟩
          k_steps
          unfold Halt
          obtain ⟨kk, hkk⟩ : ∃ kk : Nat, (kk : Int) = script.sum.fmod 5 := ⟨_, Int.toNat_of_nonneg hk0.1⟩
          have hk5 : kk < 5 := by (first | lia | omega)
          rw [← hkk]
          rename Fr _ _ _ _ => F1
          rename News _ _ _ _ => N1
          refine' useL (c_escd w _ (kk : Int) _ lr us cn (rowOf script) (by (first | lia | omega)) (by (first | lia | omega)) ?gm hp (by (first | lia | omega)) hrb) ?k1 ?k2 ?k3 ?k4 ?k5 ?k6 ?k7 ?k8 ?_
          ktr_rel
          case gm => k_mem
          intro E1 v1 c1 h1 tk1 F2 N2 l2 hi2
          rw [Int.toNat_natCast] at hi2
          clear F1 N1
          dsimp only
          k_steps
          unfold Halt
          have hes := escd_len kk (rowOf script)
          refine' useV (c_text w _ E1 v1 c1 (escd kk (rowOf script)) ?gm hi2 (by (first | lia | omega)) (escd_lt kk _ (rowOf_lt script))) ?k1 ?k2 ?k3 ?k4 ?k5 ?k6 ?k7 ?k8 ?_
          ktr_rel
          case gm => exact .head _
          intro t3 h3 tk3 F3 N3
          dsimp only
          have hee := esc_escd kk hk5 (rowOf script)
          have hle40 := esc_text_len kk hk5 script
          rw [← hee, hgx]
          rw [hgx] at hle40 hee
          have hbT : (tx (escT kk text)).length ≤ 40 := by rw [tx_length]; exact hle40
          have hbT2 : (tx text).length ≤ 13 := by rw [tx_length]; exact htl
          k_steps
          unfold Halt
          rename Fr _ _ _ _ => F4
          rename News _ _ _ _ => N4
          with_unfolding_all refine filt (ax := lr) (vs := us) (ns := toI (rowOf script)) (cn := cn) (fun k => decide (k.toNat % 64 ≠ 38) && decide (escd kk [k.toNat] ≠ [k.toNat])) (fun k => k) F4 (by rfl) (by rfl) (by decide) (by rfl) (by decide) (by rfl) (nameX_L F4 rfl ⟨rfl, _, _, rfl, F4, N4⟩) ?hmm hp ?hlen (fun _ => rfl) ?htest ?helt ?hQ
          case hlen => simp [toI]; (first | lia | omega)
          case hmm => k_mem
          case htest =>
            intro k t I oI C oC D m₂ ys h tk E' hk1 hC hx F5 N5
            obtain ⟨k', hk', rfl⟩ := List.mem_map.mp hk1
            have hb' := hrb k' hk'
            have e2 : ((k' : Int)).fmod 64 = ((k' % 64 : Nat) : Int) := fmod64n _
            k_steps
            · unfold Halt
              rename Fr _ _ _ _ => F6
              rename News _ _ _ _ => N6
              have hdo : (escd kk [k']).length ≤ 5 := by have := escd_len kk [k']; simpa using this
              refine' useL (c_escd w _ (script.sum.fmod 5) _ _ _ _ [k'] (by (first | lia | omega)) (by (first | lia | omega)) ?gm ?gi (by simp) ?gb) ?k1 ?k2 ?k3 ?k4 ?k5 ?k6 ?k7 ?k8 ?_
              ktr_rel
              case gm => exact .head _
              case gi => exact .cons _ _ .nil
              case gb => intro z hz; rw [List.mem_singleton.mp hz]; exact hb'
              intro E8 v8 c8 h8 tk8 F8 N8 l8 hi8
              rw [show (script.sum.fmod 5).toNat = kk by (first | lia | omega)] at hi8
              clear F6 N6
              dsimp only
              k_steps
              · rename toI _ = _ => heq
                have heq2 : escd kk [k'] = [k'] := toI_one heq
                refine ⟨?_, _, _, rfl, by assumption, cb_drop (by assumption) fun p hp => .tail _ (.tail _ (.tail _ hp))⟩
                rw [Int.toNat_natCast, heq2]; simp
              · rename ¬ toI _ = _ => hne
                have hne2 : escd kk [k'] ≠ [k'] := fun h => hne (by rw [h]; rfl)
                have h38 : k' % 64 ≠ 38 := by (first | lia | omega)
                refine ⟨?_, _, _, rfl, by assumption, cb_drop (by assumption) fun p hp => .tail _ (.tail _ (.tail _ hp))⟩
                rw [Int.toNat_natCast, decide_eq_true h38, decide_eq_true hne2]; rfl
            · refine ⟨?_, _, _, rfl, by assumption, by assumption⟩
              rename (k' : Int).fmod 64 = 38 => h38
              rw [e2] at h38
              rw [Int.toNat_natCast, show decide (k' % 64 ≠ 38) = false by simp; (first | lia | omega)]; rfl
          case helt =>
            intro k t I oI C oC D m₂ ys h tk E' hk1 hC hx F5 N5
            k_steps
            exact ⟨⟨_, rfl⟩, _, _, rfl, F5, N5⟩
          case hQ =>
            intro D ys h tk F5 N5 off hy
            generalize hLL : List.map _ (List.filter _ _) = LL at hy
            have hLen : LL.length ≤ 5 := by
              rw [← hLL, List.length_map]
              have := List.length_filter_le (fun k : Int => decide (k.toNat % 64 ≠ 38) && decide (escd kk [k.toNat] ≠ [k.toNat])) (toI (rowOf script))
              simp only [toI, List.length_map] at this ⊢
              (first | lia | omega)
            k_steps
            unfold Halt
            rename Fr _ _ _ _ => F6
            rename News _ _ _ _ => N6
            have hwalk : WalkIn := ⟨trivial⟩
            k_steps
            unfold Halt
            rename Fr _ _ _ _ => F8
            rename News _ _ _ _ => N8
            have hkt : (script.sum.fmod 5).toNat = kk := by (first | lia | omega)
            have h2m : 0 ≤ (script.sum.fdiv 5).fmod 2 ∧ (script.sum.fdiv 5).fmod 2 < 2 := ⟨Int.fmod_nonneg_of_pos _ (by decide), Int.fmod_lt_of_pos _ (by decide)⟩
            have hLc : LL.length = text.countP (lostc kk) := by
              rw [← hLL, List.length_map, ← hgx, lost_row]
              exact filt_len (fun k : Int => decide (k.toNat % 64 ≠ 38) && decide (escd kk [k.toNat] ≠ [k.toNat])) (rowOf script)
            obtain ⟨d, hd⟩ : ∃ d, d = 2 * ((escT kk text).length - text.length + text.countP (lostc kk)) := ⟨_, rfl⟩
            have hlev : LevOk cost (lostc kk) text (escT kk text) d := by
              have := lev_ok kk hk5 (rowOf script) d (by rw [hgx]; exact hd)
              rwa [hgx] at this
            have hne9 := esc_text_ne kk hk5 script
            rw [hgx] at hne9
            have hlong := esc_longer kk hk5 text
            have hla9 : (tx (escT kk text)).length = (escT kk text).length := tx_length _
            have hlb9 : (tx text).length = text.length := tx_length _
            have htl40 : text.length ≤ 40 := by (first | lia | omega)
            refine listItem (vs := [Value.ref 223, .ref 230, .ref 237, .ref 244, .ref 251]) (v := Value.ref (223 + 7 * kk)) ⟨_, (N8 (la, listOf [Value.ref 223, .ref 230, .ref 237, .ref 244, .ref 251].toArray 0) (by k_mem)).1, rfl, _, rfl⟩ (by (first | lia | omega)) (by (first | lia | omega)) (by rw [hkt]; exact ecs_item kk hk5) ?_
            clear hwalk
            k_steps
            refine' callWith_K ?k1 (ecs_keep w kk hk5) ?_
            case k1 => k_asm
            k_steps
            unfold Halt
            rename Fr _ _ _ _ => F9
            rename News _ _ _ _ => N9
            refine' useV (c_ecs w _ kk hk5 text _ htl) ?k1 ?k2 ?k3 ?k4 ?k5 ?k6 ?k7 ?k8 ?_
            ktr_rel
            intro t10 h10 tk10 F10 N10
            dsimp only
            k_steps
            unfold Halt
            rename Fr _ _ _ _ => F12
            rename News _ _ _ _ => N12
            refine' useV (c_lev w _ text (escT kk text) _ _ _ _ d (lostc kk) htl40 hle40 hne9 hlev ?gm) ?k1 ?k2 ?k3 ?k4 ?k5 ?k6 ?k7 ?k8 ?_
            case gm => (first | lia | omega)
            ktr_rel
            intro t13 h13 tk13 F13 N13
            dsimp only
            have hprice : ((d : Nat) : Int) = 2 * (((tx (escT kk text)).length : Int) - ((tx text).length : Int) + (LL.length : Int)) := by (first | lia | omega)
            k_steps
end Mine
end
section
open PySem PySem.W PyProof.Rows PySem.Calls
set_option Elab.async false
set_option maxRecDepth 100000
set_option maxHeartbeats 8000000
namespace Mine
theorem lawd.tw16136742837450305052 : True := trivial
theorem lawd.tw9693845187664187813 : True := trivial
theorem lawd.tw8611607298052681524 : True := trivial
theorem lawd.tw8139122007532217285 : True := trivial
theorem lawd.tw3255916550194818377 : True := trivial
theorem lawd.tw15397546380974855097 : True := trivial
theorem lawd.tw8787489462166513339 : True := trivial
theorem lawd.tw7958354244698366484 : True := trivial
theorem lawd.tw14031508581321374202 : True := trivial
theorem lawd.tw6727178743396633711 : True := trivial
theorem lawd.tw4283497096804612456 : True := trivial
theorem lawd.tw2574487189351715646 : True := trivial
theorem lawd.tw1708239908590460101 : True := trivial
theorem lawd.tw4445672302447021969 : True := trivial
theorem lawd.tw391644587690559706 : True := trivial
theorem lawd.tw10086212247820021443 : True := trivial
theorem lawd.tw15325940783686842620 : True := trivial
theorem lawd.tw11069048005110459785 : True := trivial
theorem lawd.tw1224487690973207669 : True := trivial
theorem lawd.tw15877307801935030112 : True := trivial
theorem lawd.tw386376518218117518 : True := trivial
theorem lawd.tw320326805837821638 : True := trivial
theorem lawd.tw13291994774383932101 : True := trivial
theorem lawd.tw11253533614600429166 : True := trivial
theorem lawd.tw1519236457037416650 : True := trivial
theorem lawd.tw9591596413403760496 : True := trivial
theorem lawd.tw12623713382477692140 : True := trivial
theorem lawd.tw4447289020458695306 : True := trivial
theorem lawd.tw16520387201986296091 : True := trivial
theorem lawd.tw13691743412435890234 : True := trivial
theorem lawd.tw2481962815763089352 : True := trivial
theorem lawd.tw3368921118015918173 : True := trivial
theorem lawd.tw14599599749804004001 : True := trivial
theorem lawd.tw3935029476743881587 : True := trivial
theorem lawd.tw8745607454683328464 : True := trivial
theorem lawd.tw17252846938226395370 : True := trivial
theorem lawd.tw12702700844866617888 : True := trivial
theorem lawd.tw8477394220111805569 : True := trivial
theorem lawd.tw711221184736663272 : True := trivial
theorem lawd.tw14276962141548167637 : True := trivial
theorem lawd.tw14919561183465790606 : True := trivial
theorem lawd.tw12645031257734293312 : True := trivial
theorem lawd.tw4140676115709362521 : True := trivial
theorem lawd.tw9014768649063583567 : True := trivial
theorem lawd.tw10957406984212139342 : True := trivial
theorem lawd.tw18424543601773014974 : True := trivial
theorem lawd.tw14351638518525612119 : True := trivial
theorem lawd.tw14390577154049370809 : True := trivial
theorem lawd.tw14915521864449721213 : True := trivial
theorem lawd.tw1507377670367911018 : True := trivial
theorem lawd.tw2950428244971289533 : True := trivial
theorem lawd.tw15762029467937866150 : True := trivial
theorem lawd.tw15659008601437021484 : True := trivial
theorem lawd.tw3140714801563872820 : True := trivial
theorem lawd.tw18207905444988344911 : True := trivial
theorem lawd.tw10029342204055582662 : True := trivial
theorem lawd.tw772438949340984437 : True := trivial
theorem lawd.tw2826858406793578376 : True := trivial
theorem lawd.tw11665741528335168484 : True := trivial
theorem lawd.tw13059412431044105337 : True := trivial
theorem lawd.tw3523643601643615263 : True := trivial
theorem lawd.tw13368521671801255090 : True := trivial
theorem lawd.tw13614588113585788240 : True := trivial
theorem lawd.tw17625740731449257719 : True := trivial
theorem lawd.tw15027090679754658339 : True := trivial
theorem lawd.tw3000135082816576128 : True := trivial
theorem lawd.tw5323371146181378873 : True := trivial
theorem lawd.tw18424976358401246847 : True := trivial
theorem lawd.tw2746560655801630615 : True := trivial
theorem lawd.tw6716238192306565039 : True := trivial
theorem lawd.tw5861475483813022025 : True := trivial
theorem lawd.tw13199317219828473799 : True := trivial
theorem lawd.tw14490298159283283215 : True := trivial
theorem lawd.tw15060277866947634129 : True := trivial
theorem lawd.tw5963251478456478885 : True := trivial
theorem lawd.tw3840036325113705996 : True := trivial
theorem lawd.tw11863937478827416291 : True := trivial
theorem lawd.tw5081368488054989015 : True := trivial
theorem lawd.tw2924882959966337245 : True := trivial
theorem lawd.tw18134597491037471091 : True := trivial
theorem lawd.tw12794655836233428905 : True := trivial
theorem lawd.tw17642497997689796161 : True := trivial
theorem lawd.tw14523489615969679765 : True := trivial
theorem lawd.tw3434630639644591765 : True := trivial
theorem lawd.tw15090096534133447353 : True := trivial
theorem lawd.tw4569329775596214667 : True := trivial
theorem lawd.tw17205181768886214020 : True := trivial
theorem lawd.tw12769892495955623030 : True := trivial
theorem lawd.tw3277370385192759107 : True := trivial
theorem lawd.tw5660967385377272278 : True := trivial
theorem lawd.tw8571000799318538000 : True := trivial
theorem lawd.tw7034736980537920832 : True := trivial
theorem lawd.tw2872508143820183773 : True := trivial
theorem lawd.tw7718270377228247457 : True := trivial
theorem lawd.tw1805349621396923015 : True := trivial
theorem lawd.tw17474883789412794377 : True := trivial
theorem lawd.tw9032109480233169585 : True := trivial
theorem lawd.tw12509330636043382940 : True := trivial
theorem lawd.tw11229793119962359009 : True := trivial
theorem lawd.tw18013040735168641248 : True := trivial
theorem lawd.tw181818541448659738 : True := trivial
theorem lawd.tw14641807627044578154 : True := trivial
theorem lawd.tw861833555270124520 : True := trivial
theorem lawd.tw15037501304229443367 : True := trivial
theorem lawd.tw16017347613487487864 : True := trivial
theorem lawd.tw658307362331118953 : True := trivial
theorem lawd.tw4674341482917853949 : True := trivial
theorem lawd.tw1590973585068294366 : True := trivial
theorem lawd.tw16673055552720714359 : True := trivial
theorem lawd.tw8522178874336151476 : True := trivial
theorem lawd.tw2266359115320740797 : True := trivial
theorem lawd.tw16412940392994550694 : True := trivial
theorem lawd.tw11222988070129525840 : True := trivial
theorem lawd.tw4442831069381572667 : True := trivial
theorem lawd.tw4130647142501090690 : True := trivial
theorem lawd.tw12755360355718822544 : True := trivial
theorem lawd.tw6949967572453191095 : True := trivial
theorem lawd.tw11432883516912356024 : True := trivial
theorem lawd.tw1630467354918982622 : True := trivial
theorem lawd.tw14929915104464193279 : True := trivial
theorem lawd.tw3728644128405757900 : True := trivial
theorem lawd.tw1128175317509225353 : True := trivial
theorem lawd.tw6634420970801132823 : True := trivial
theorem lawd.tw11932923331831566241 : True := trivial
theorem lawd.tw12756586655523520536 : True := trivial
theorem lawd.tw869304107018333459 : True := trivial
theorem lawd.tw13591758319654123865 : True := trivial
theorem lawd.tw12552647340190180480 : True := trivial
theorem lawd.tw2052053678126858831 : True := trivial
theorem lawd.tw2634410396034767914 : True := trivial
theorem lawd.tw9030675710507138696 : True := trivial
theorem lawd.tw4200851459401671192 : True := trivial
theorem lawd.tw3271102511523869742 : True := trivial
theorem lawd.tw16105393553664029130 : True := trivial
theorem lawd.tw106821579073479581 : True := trivial
theorem lawd.tw8179909882940588743 : True := trivial
theorem lawd.tw445631792308744818 : True := trivial
theorem lawd.tw7119757460600528473 : True := trivial
theorem lawd.tw12557373726652744612 : True := trivial
theorem lawd.tw17953839420161978250 : True := trivial
theorem lawd.tw10393370476348900207 : True := trivial
theorem lawd.tw18110471035328765509 : True := trivial
theorem lawd.tw11987675139585075583 : True := trivial
theorem lawd.tw10674753211903759515 : True := trivial
theorem lawd.tw10276712531691930459 : True := trivial
theorem lawd.tw3778303089365057194 : True := trivial
theorem lawd.tw1770699291503594548 : True := trivial
theorem lawd.tw4958748578409783711 : True := trivial
theorem lawd.tw8495498455601146521 : True := trivial
theorem lawd.tw7781380811823274088 : True := trivial
theorem lawd.tw10461231443098627076 : True := trivial
theorem lawd.tw17498530972273660016 : True := trivial
theorem lawd.tw11261602326670444661 : True := trivial
theorem lawd.tw6565155264176218968 : True := trivial
theorem lawd.tw8700424939238590318 : True := trivial
theorem lawd.tw13449464960741726862 : True := trivial
theorem lawd.tw13198555895182989737 : True := trivial
theorem lawd.tw5606674235193811176 : True := trivial
theorem lawd.tw11462307342425018491 : True := trivial
theorem lawd.tw17938713665057282739 : True := trivial
theorem lawd.tw17672821290639551509 : True := trivial
theorem lawd.tw12656427486035091971 : True := trivial
theorem lawd.tw15075472132175908271 : True := trivial
theorem lawd.tw8950853350877148241 : True := trivial
theorem lawd.tw7669088760221058951 : True := trivial
theorem lawd.tw11125264460419954677 : True := trivial
theorem lawd.tw337743493733330295 : True := trivial
theorem lawd.tw12311904977218620475 : True := trivial
theorem lawd.tw9853392468796901955 : True := trivial
theorem lawd.tw9611430231145083997 : True := trivial
theorem lawd.tw6041463814920528829 : True := trivial
theorem lawd.tw6353921025187648089 : True := trivial
theorem lawd.tw9291843915349601534 : True := trivial
theorem lawd.tw2861705453216540323 : True := trivial
theorem lawd.tw5934858225886937695 : True := trivial
theorem lawd.tw16882518273554255510 : True := trivial
theorem lawd.tw1737113787338740848 : True := trivial
theorem lawd.tw11826803164201717981 : True := trivial
theorem lawd.tw2472012405757655312 : True := trivial
theorem lawd.tw2466310163909018299 : True := trivial
theorem lawd.tw6613965867517323024 : True := trivial
theorem lawd.tw429661057770425547 : True := trivial
theorem lawd.tw4083010840065726868 : True := trivial
theorem lawd.tw16938717702098538440 : True := trivial
theorem lawd.tw15688589954403956195 : True := trivial
theorem lawd.tw15129804441914953592 : True := trivial
theorem lawd.tw772953862340082627 : True := trivial
theorem lawd.tw12627902437395950200 : True := trivial
theorem lawd.tw12307938824048612267 : True := trivial
theorem lawd.tw10444534790970049441 : True := trivial
theorem lawd.tw357883438123342473 : True := trivial
theorem lawd.tw4412784658894730937 : True := trivial
theorem lawd.tw984963999698846 : True := trivial
theorem lawd.tw9657141789806806316 : True := trivial
theorem lawd.tw15268696958029026069 : True := trivial
theorem lawd.tw16761850466272855334 : True := trivial
theorem lawd.tw7670421861110572738 : True := trivial
theorem lawd.tw14278825995969616015 : True := trivial
theorem lawd.tw2301033028829915913 : True := trivial
theorem lawd.tw13982053231475000344 : True := trivial
theorem lawd.tw16013420196083508718 : True := trivial
theorem lawd.tw613279014369034420 : True := trivial
theorem lawd.tw6049985462617276854 : True := trivial
theorem lawd.tw4071113999151842499 : True := trivial
theorem lawd.tw3167443777240731399 : True := trivial
theorem lawd.tw15939682217911323780 : True := trivial
theorem lawd.tw7922106497140472795 : True := trivial
theorem lawd.tw16171684595430109316 : True := trivial
theorem lawd.tw14563107191844425655 : True := trivial
theorem lawd.tw2514555946132236941 : True := trivial
theorem lawd.tw6619796302274341738 : True := trivial
theorem lawd.tw6311931230872539291 : True := trivial
theorem lawd.tw3649230215016906109 : True := trivial
theorem lawd.tw4723930710306882875 : True := trivial
theorem lawd.tw10417512838531790659 : True := trivial
theorem lawd.tw13229831059769784952 : True := trivial
theorem lawd.tw14675503109100874028 : True := trivial
theorem lawd.tw7794739892430168822 : True := trivial
theorem lawd.tw5798104022932409488 : True := trivial
theorem lawd.tw4959670020621321605 : True := trivial
theorem lawd.tw7132845211476643839 : True := trivial
theorem lawd.tw16641623691091837802 : True := trivial
theorem lawd.tw5322450481913034750 : True := trivial
theorem lawd.tw461295744027907732 : True := trivial
theorem lawd.tw6683744728457353996 : True := trivial
theorem lawd.tw2221959120016909918 : True := trivial
theorem lawd.tw7186705605251691891 : True := trivial
theorem lawd.tw7937847118931393399 : True := trivial
theorem lawd.tw12099556408698181920 : True := trivial
theorem lawd.tw12355132436448542670 : True := trivial
theorem lawd.tw2429906593680785925 : True := trivial
theorem lawd.tw16650104784614607850 : True := trivial
theorem lawd.tw12160180938974388945 : True := trivial
theorem lawd.tw6631726067648498961 : True := trivial
theorem lawd.tw13584040759592220470 : True := trivial
theorem lawd.tw2923806136242295200 : True := trivial
theorem lawd.tw9322884323257177216 : True := trivial
theorem lawd.tw30392418002586282 : True := trivial
theorem lawd.tw1157017906598786536 : True := trivial
theorem lawd.tw15474384769094885280 : True := trivial
theorem lawd.tw1841896892536842178 : True := trivial
theorem lawd.tw18229125225956877467 : True := trivial
theorem lawd.tw15071447745013029145 : True := trivial
theorem lawd.tw8358825744654211460 : True := trivial
theorem lawd.tw13359326614278540497 : True := trivial
theorem lawd.tw9521004798563548015 : True := trivial
theorem lawd.tw2747837601612268995 : True := trivial
theorem lawd.tw5206152644750044927 : True := trivial
theorem lawd.tw15639099430094672409 : True := trivial
theorem lawd.tw1628945521661698615 : True := trivial
theorem lawd.tw3183697643077078736 : True := trivial
theorem lawd.tw8919944705014412298 : True := trivial
theorem lawd.tw5967475507560445712 : True := trivial
theorem lawd.tw1381378865981357994 : True := trivial
theorem lawd.tw640299063534234800 : True := trivial
theorem lawd.tw13623423171157132643 : True := trivial
theorem lawd.tw1348834896038951072 : True := trivial
theorem lawd.tw7503715440638686599 : True := trivial
theorem lawd.tw14710235027098563012 : True := trivial
theorem lawd.tw8930629106451672420 : True := trivial
theorem lawd.tw661481242148157814 : True := trivial
theorem lawd.tw7679923818931275069 : True := trivial
theorem lawd.tw3864431161613928022 : True := trivial
theorem lawd.tw12398370208222420285 : True := trivial
theorem lawd.tw6944882517438886796 : True := trivial
theorem lawd.tw13354543844449675810 : True := trivial
theorem lawd.tw6438403735485347098 : True := trivial
theorem lawd.tw14167328870277151851 : True := trivial
theorem lawd.tw15654206994359340520 : True := trivial
theorem lawd.tw15567874920284003094 : True := trivial
theorem lawd.tw4176639775791337008 : True := trivial
theorem lawd.tw1018715496226063713 : True := trivial
theorem lawd.tw5614823967075712101 : True := trivial
theorem lawd.tw8580292104912541391 : True := trivial
theorem lawd.tw16867546962368339125 : True := trivial
theorem lawd.tw9973652574628054040 : True := trivial
theorem lawd.tw16243364800457136111 : True := trivial
theorem lawd.tw15810910829384595310 : True := trivial
theorem lawd.tw15880860363841468456 : True := trivial
theorem lawd.tw17203893801564622708 : True := trivial
theorem lawd.tw6303878474835823231 : True := trivial
theorem lawd.tw17379045443651772113 : True := trivial
theorem lawd.tw10992753315157125712 : True := trivial
theorem lawd.tw16938435041043031435 : True := trivial
theorem lawd.tw10107255378668914768 : True := trivial
theorem lawd.tw11029869005089405985 : True := trivial
theorem lawd.tw12841731503406941391 : True := trivial
theorem lawd.tw7133393586712935277 : True := trivial
theorem lawd.tw16664266664018912338 : True := trivial
theorem lawd.tw6237208679992952507 : True := trivial
theorem lawd.tw10685118485283380602 : True := trivial
theorem lawd.tw8926086090974187032 : True := trivial
theorem lawd.tw16116952460518656898 : True := trivial
theorem lawd.tw13032851088502774645 : True := trivial
theorem lawd.tw16407218280162878956 : True := trivial
theorem lawd.tw9424939426592105711 : True := trivial
theorem lawd.tw597065022917946982 : True := trivial
theorem lawd.tw3121104345550968347 : True := trivial
theorem lawd.tw568234923860506724 : True := trivial
theorem lawd.tw4472439255282997150 : True := trivial
theorem lawd.tw9524839744103215765 : True := trivial
theorem lawd.tw2992662441872949576 : True := trivial
theorem lawd.tw3536836401095235418 : True := trivial
theorem lawd.tw6649904995917796628 : True := trivial
theorem lawd.tw5121589307902260173 : True := trivial
theorem lawd.tw4874643896992577086 : True := trivial
theorem lawd.tw17726648462591081205 : True := trivial
theorem lawd.tw13322534521114620490 : True := trivial
theorem lawd.tw17405985270446115443 : True := trivial
theorem lawd.tw12581639564474986054 : True := trivial
theorem lawd.tw8540027985367754087 : True := trivial
theorem lawd.tw17719022195157978021 : True := trivial
theorem lawd.tw1348624387006255610 : True := trivial
theorem lawd.tw13336335932547435477 : True := trivial
theorem lawd.tw14074754663322088966 : True := trivial
theorem lawd.tw11406222543319926559 : True := trivial
theorem lawd.tw2881216935405914876 : True := trivial
theorem lawd.tw4083021943659994862 : True := trivial
theorem lawd.tw4195247611135055185 : True := trivial
theorem lawd.tw6482353708339371618 : True := trivial
theorem lawd.tw14132880128530456116 : True := trivial
theorem lawd.tw3633054238035692485 : True := trivial
theorem lawd.tw15889724004393748978 : True := trivial
theorem lawd.tw741913170739225825 : True := trivial
theorem lawd.tw9439052318821392486 : True := trivial
theorem lawd.tw4583088605689361907 : True := trivial
theorem lawd.tw12285508426502325792 : True := trivial
theorem lawd.tw18106675942382020207 : True := trivial
theorem lawd.tw6330719670006110878 : True := trivial
theorem lawd.tw12111753107761604386 : True := trivial
theorem lawd.tw11432025229841911067 : True := trivial
theorem lawd.tw2190622317609822276 : True := trivial
theorem lawd.tw1684681348151441461 : True := trivial
theorem lawd.tw11381768448436065903 : True := trivial
theorem lawd.tw12684519460677821659 : True := trivial
theorem lawd.tw13549417636333011921 : True := trivial
theorem lawd.tw9030127815341299489 : True := trivial
theorem lawd.tw7963950266408059322 : True := trivial
theorem lawd.tw6188548874522862610 : True := trivial
theorem lawd.tw11496729094775510775 : True := trivial
theorem lawd.tw18189668801758048052 : True := trivial
theorem lawd.tw14405895503921381876 : True := trivial
theorem lawd.tw9242313837437991897 : True := trivial
theorem lawd.tw3477782609807306850 : True := trivial
theorem lawd.tw10758702953400062629 : True := trivial
theorem lawd.tw14233892216169349415 : True := trivial
theorem lawd.tw9804974605844725898 : True := trivial
theorem lawd.tw11835177464816089971 : True := trivial
theorem lawd.tw16120777398996550241 : True := trivial
theorem lawd.tw8387824470339926915 : True := trivial
theorem lawd.tw17643695982660051089 : True := trivial
theorem lawd.tw17753877546162327096 : True := trivial
theorem lawd.tw10365018793900155756 : True := trivial
theorem lawd.tw17557764492379462261 : True := trivial
theorem lawd.tw13245503399359330531 : True := trivial
theorem lawd.tw14026956893094689535 : True := trivial
theorem lawd.tw14873567578930819035 : True := trivial
theorem lawd.tw9765230871195293546 : True := trivial
theorem lawd.tw13399867023951044229 : True := trivial
theorem lawd.tw6238979641897866939 : True := trivial
theorem lawd.tw8163852712994854020 : True := trivial
theorem lawd.tw2828094376155147768 : True := trivial
theorem lawd.tw14494721527188456442 : True := trivial
theorem lawd.tw1310115439256859888 : True := trivial
theorem lawd.tw4822433013401191644 : True := trivial
theorem lawd.tw3896250248166743461 : True := trivial
theorem lawd.tw127563428891254790 : True := trivial
theorem lawd.tw12428578168384070717 : True := trivial
theorem lawd.tw3894999733114388331 : True := trivial
theorem lawd.tw15469688395553567538 : True := trivial
theorem lawd.tw8377259813590313159 : True := trivial
theorem lawd.tw12307855014086540833 : True := trivial
theorem lawd.tw8212550304146265108 : True := trivial
theorem lawd.tw14437495026672614476 : True := trivial
theorem lawd.tw16278735012200108145 : True := trivial
theorem lawd.tw16612758790399033941 : True := trivial
theorem lawd.tw8498049291472868917 : True := trivial
theorem lawd.tw14694303797141742776 : True := trivial
theorem lawd.tw15940851873431035649 : True := trivial
theorem lawd.tw11627560546357716930 : True := trivial
theorem lawd.tw17810269036757804662 : True := trivial
theorem lawd.tw99261381815999363 : True := trivial
theorem lawd.tw17218020189253770566 : True := trivial
theorem lawd.tw162616722935245289 : True := trivial
theorem lawd.tw2471336363477604290 : True := trivial
theorem lawd.tw16482753631502942948 : True := trivial
theorem lawd.tw16932944774018182418 : True := trivial
theorem lawd.tw14430591176849176168 : True := trivial
theorem lawd.tw254047263588139008 : True := trivial
theorem lawd.tw7424295355035690676 : True := trivial
theorem lawd.tw10969659973246631285 : True := trivial
theorem lawd.tw18332532826232825813 : True := trivial
theorem lawd.tw2623837705129929700 : True := trivial
theorem lawd.tw5938345765805905532 : True := trivial
theorem lawd.tw11527462079824367740 : True := trivial
theorem lawd.tw9473933488704506469 : True := trivial
theorem lawd.tw16460118653678657775 : True := trivial
theorem lawd.tw17054643254515619042 : True := trivial
theorem lawd.tw10484458723682501970 : True := trivial
theorem lawd.tw6608111658431614129 : True := trivial
theorem lawd.tw10092577096165162983 : True := trivial
theorem lawd.tw3429804715372835058 : True := trivial
theorem lawd.tw14004620000889872937 : True := trivial
theorem lawd.tw1033125129997439689 : True := trivial
theorem lawd.tw17931320276235513562 : True := trivial
theorem lawd.tw16638766448673018611 : True := trivial
theorem lawd.tw12060675671426887214 : True := trivial
theorem lawd.tw2054434345921318380 : True := trivial
theorem lawd.tw9728912844387042411 : True := trivial
theorem lawd.tw10287792637533024105 : True := trivial
theorem lawd.tw18032274580157106833 : True := trivial
theorem lawd.tw15702719717414581928 : True := trivial
theorem lawd.tw3103091727573504314 : True := trivial
theorem lawd.tw16477338849217457821 : True := trivial
theorem lawd.tw9522066087670922843 : True := trivial
theorem lawd.tw9936686371381597105 : True := trivial
theorem lawd.tw5499982822525358499 : True := trivial
theorem lawd.tw10555761072109781605 : True := trivial
theorem lawd.tw18358932486187892258 : True := trivial
theorem lawd.tw18189372682492753613 : True := trivial
theorem lawd.tw12036310214014598061 : True := trivial
theorem lawd.tw6708526870188980186 : True := trivial
theorem lawd.tw11373652334852156306 : True := trivial
theorem lawd.tw6437487762862973246 : True := trivial
theorem lawd.tw6916342728277052667 : True := trivial
theorem lawd.tw2862532134804439912 : True := trivial
theorem lawd.tw17090077273198885975 : True := trivial
theorem lawd.tw14693489358250668374 : True := trivial
set_option Elab.async true in
theorem lawd : PySem.Challenge.rw_sw0080_01.Holds := by
  w_on
  o_law
  k_head
  case hw => w_witness2
  with_unfolding_all exact walk rfl
end Mine
end
theorem PySem.Challenge.cw_sw0080_01_holds : PySem.Challenge.rw_sw0080_01.Holds := by
  exact Mine.lawd
