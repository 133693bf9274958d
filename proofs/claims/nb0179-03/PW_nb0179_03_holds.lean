import PyProof.Rows.All
import Wide.All
import OpenK.AllK
import Wide.FinOn
import PySem.Challenge.RW_nb0179_03
open PySem PySem.W PyProof.Rows PySem.Calls
set_option Elab.async false
set_option linter.unusedVariables false
namespace Mine
section
set_option maxRecDepth 100000
def st (i : Nat) : Stmt := PySem.Challenge.pw_nb0179_03.main.body.getD i (.Pass default)
def sm (i j : Nat) : Stmt := match st i with
  | .ClassDef _ _ _ b .. => b.getD j (.Pass default)
  | s => s
def fnO (s : Stmt) (q : Str) (m : Value) (c : Addr) : Obj := match s with
  | .FunctionDef n ps b _ _ _ sc .. => { cls := .type "function", data := .func { name := n, qualname := q, params := ps, body := .stmts b, scope := sc, globals := 3, closure := [], defaults := .none, kwdefaults := .none, pyModule := m, code := .ref c } }
  | _ => default
noncomputable def K1 (P : Params) : Frag :=
  (nat_lit 2, { cls := Value.none, data := Data.dict #[] }) ::
  (nat_lit 3, { cls := Value.type "dict", data := Data.dict #[{ hash := PyData.keyHash P (Str.ofString "__name__"), key := Value.str (Str.ofString "__name__") 165, val := Value.str (Str.ofString "law_nb0179_03") 329 }, { hash := PyData.keyHash P (Str.ofString "__doc__"), key := Value.str (Str.ofString "__doc__") 166, val := Value.none }, { hash := PyData.keyHash P (Str.ofString "__package__"), key := Value.str (Str.ofString "__package__") 167, val := Value.none }, { hash := PyData.keyHash P (Str.ofString "__loader__"), key := Value.str (Str.ofString "__loader__") 168, val := Value.builtin "__main__.__loader__#opaque" }, { hash := PyData.keyHash P (Str.ofString "__spec__"), key := Value.str (Str.ofString "__spec__") 169, val := Value.none }, { hash := PyData.keyHash P (Str.ofString "__annotations__"), key := Value.str (Str.ofString "__annotations__") 170, val := Value.ref 6 }, { hash := PyData.keyHash P (Str.ofString "__builtins__"), key := Value.str (Str.ofString "__builtins__") 171, val := Value.ref 4 }, { hash := PyData.keyHash P (Str.ofString "__file__"), key := Value.str (Str.ofString "__file__") 173, val := Value.str (Str.ofString "/claim/cut.py") 172 }, { hash := PyData.keyHash P (Str.ofString "__cached__"), key := Value.str (Str.ofString "__cached__") 174, val := Value.none }, { hash := PyData.keyHash P (Str.ofString "_DIV_LIMIT"), key := Value.str (Str.ofString "_DIV_LIMIT") 190, val := Value.int 4000 189 }, { hash := PyData.keyHash P (Str.ofString "_div2n1n"), key := Value.str (Str.ofString "_div2n1n") 207, val := Value.ref 21 }, { hash := PyData.keyHash P (Str.ofString "_div3n2n"), key := Value.str (Str.ofString "_div3n2n") 221, val := Value.ref 28 }, { hash := PyData.keyHash P (Str.ofString "_int2digits"), key := Value.str (Str.ofString "_int2digits") 232, val := Value.ref 35 }, { hash := PyData.keyHash P (Str.ofString "_digits2int"), key := Value.str (Str.ofString "_digits2int") 243, val := Value.ref 42 }, { hash := PyData.keyHash P (Str.ofString "_divmod_pos"), key := Value.str (Str.ofString "_divmod_pos") 258, val := Value.ref 49 }, { hash := PyData.keyHash P (Str.ofString "int_divmod"), key := Value.str (Str.ofString "int_divmod") 268, val := Value.ref 56 }, { hash := PyData.keyHash P (Str.ofString "_netrclex"), key := Value.str (Str.ofString "_netrclex") 328, val := Value.ref 94 }, { hash := PyData.keyHash P (Str.ofString "_law_signs"), key := Value.str (Str.ofString "_law_signs") 336, val := Value.ref 105 }, { hash := PyData.keyHash P (Str.ofString "_law_cut"), key := Value.str (Str.ofString "_law_cut") 343, val := Value.ref 112 }, { hash := PyData.keyHash P (Str.ofString "_law_tree"), key := Value.str (Str.ofString "_law_tree") 349, val := Value.ref 117 }, { hash := PyData.keyHash P (Str.ofString "_law_height"), key := Value.str (Str.ofString "_law_height") 356, val := Value.ref 124 }, { hash := PyData.keyHash P (Str.ofString "_law_value"), key := Value.str (Str.ofString "_law_value") 365, val := Value.ref 131 }, { hash := PyData.keyHash P (Str.ofString "_law_polish"), key := Value.str (Str.ofString "_law_polish") 373, val := Value.ref 138 }, { hash := PyData.keyHash P (Str.ofString "_law_plain_word"), key := Value.str (Str.ofString "_law_plain_word") 382, val := Value.ref 145 }, { hash := PyData.keyHash P (Str.ofString "_law_told"), key := Value.str (Str.ofString "_law_told") 388, val := Value.ref 150 }, { hash := PyData.keyHash P (Str.ofString "_law_word"), key := Value.str (Str.ofString "_law_word") 394, val := Value.ref 155 }, { hash := PyData.keyHash P (Str.ofString "_law_number"), key := Value.str (Str.ofString "_law_number") 400, val := Value.ref 160 }, { hash := PyData.keyHash P (Str.ofString "_law_reckoned"), key := Value.str (Str.ofString "_law_reckoned") 410, val := Value.ref 167 }, { hash := PyData.keyHash P (Str.ofString "_law_round"), key := Value.str (Str.ofString "_law_round") 422, val := Value.ref 174 }, { hash := PyData.keyHash P (Str.ofString "_law_text"), key := Value.str (Str.ofString "_law_text") 428, val := Value.ref 179 }, { hash := PyData.keyHash P (Str.ofString "_law_right"), key := Value.str (Str.ofString "_law_right") 443, val := Value.ref 186 }, { hash := PyData.keyHash P (Str.ofString "law"), key := Value.str (Str.ofString "law") 452, val := Value.ref 193 }] 32 }) ::
  (nat_lit 20, { cls := Value.type "code", data := Data.fields #[Value.str (Str.ofString "_div2n1n") 191, Value.str (Str.ofString "_div2n1n") 192, Value.str (Str.ofString "/claim/cut.py") 193, Value.int 3 0, Value.int 3 0, Value.int 0 0, Value.int 0 0, Value.int 3 0, Value.ref 15, Value.bool Bool.true, Value.int 181 0, Value.ref 16, Value.none, Value.ref 17, Value.ref 18, Value.ref 19, Value.int 205 0, Value.int 3 0, Value.str (Str.ofString "/claim/cut.py") 206] }) ::
  (nat_lit 21, fnO (st 2) (Str.ofString "_div2n1n") (Value.str (Str.ofString "cpy313._pylong") 187) 20) ::
  (nat_lit 27, { cls := Value.type "code", data := Data.fields #[Value.str (Str.ofString "_div3n2n") 208, Value.str (Str.ofString "_div3n2n") 209, Value.str (Str.ofString "/claim/cut.py") 210, Value.int 19 0, Value.int 6 0, Value.int 0 0, Value.int 0 0, Value.int 3 0, Value.ref 22, Value.bool Bool.true, Value.int 181 0, Value.ref 23, Value.none, Value.ref 24, Value.ref 25, Value.ref 26, Value.int 219 0, Value.int 19 0, Value.str (Str.ofString "/claim/cut.py") 220] }) ::
  (nat_lit 28, fnO (st 3) (Str.ofString "_div3n2n") (Value.str (Str.ofString "cpy313._pylong") 187) 27) ::
  (nat_lit 34, { cls := Value.type "code", data := Data.fields #[Value.str (Str.ofString "_int2digits") 222, Value.str (Str.ofString "_int2digits") 223, Value.str (Str.ofString "/claim/cut.py") 224, Value.int 29 0, Value.int 2 0, Value.int 0 0, Value.int 0 0, Value.int 3 0, Value.ref 29, Value.bool Bool.true, Value.int 181 0, Value.ref 30, Value.none, Value.ref 31, Value.ref 32, Value.ref 33, Value.int 230 0, Value.int 29 0, Value.str (Str.ofString "/claim/cut.py") 231] }) ::
  (nat_lit 35, fnO (st 4) (Str.ofString "_int2digits") (Value.str (Str.ofString "cpy313._pylong") 187) 34) ::
  (nat_lit 41, { cls := Value.type "code", data := Data.fields #[Value.str (Str.ofString "_digits2int") 233, Value.str (Str.ofString "_digits2int") 234, Value.str (Str.ofString "/claim/cut.py") 235, Value.int 45 0, Value.int 2 0, Value.int 0 0, Value.int 0 0, Value.int 3 0, Value.ref 36, Value.bool Bool.true, Value.int 181 0, Value.ref 37, Value.none, Value.ref 38, Value.ref 39, Value.ref 40, Value.int 241 0, Value.int 45 0, Value.str (Str.ofString "/claim/cut.py") 242] }) ::
  (nat_lit 42, fnO (st 5) (Str.ofString "_digits2int") (Value.str (Str.ofString "cpy313._pylong") 187) 41) ::
  (nat_lit 48, { cls := Value.type "code", data := Data.fields #[Value.str (Str.ofString "_divmod_pos") 244, Value.str (Str.ofString "_divmod_pos") 245, Value.str (Str.ofString "/claim/cut.py") 246, Value.int 54 0, Value.int 2 0, Value.int 0 0, Value.int 0 0, Value.int 3 0, Value.ref 43, Value.bool Bool.true, Value.int 181 0, Value.ref 44, Value.none, Value.ref 45, Value.ref 46, Value.ref 47, Value.int 256 0, Value.int 54 0, Value.str (Str.ofString "/claim/cut.py") 257] }) ::
  (nat_lit 49, fnO (st 6) (Str.ofString "_divmod_pos") (Value.str (Str.ofString "cpy313._pylong") 187) 48) ::
  (nat_lit 55, { cls := Value.type "code", data := Data.fields #[Value.str (Str.ofString "int_divmod") 259, Value.str (Str.ofString "int_divmod") 260, Value.str (Str.ofString "/claim/cut.py") 261, Value.int 65 0, Value.int 2 0, Value.int 0 0, Value.int 0 0, Value.int 3 0, Value.ref 50, Value.bool Bool.true, Value.int 181 0, Value.ref 51, Value.none, Value.ref 52, Value.ref 53, Value.ref 54, Value.int 266 0, Value.int 65 0, Value.str (Str.ofString "/claim/cut.py") 267] }) ::
  (nat_lit 56, fnO (st 7) (Str.ofString "int_divmod") (Value.str (Str.ofString "cpy313._pylong") 187) 55) ::
  (nat_lit 69, { cls := Value.type "code", data := Data.fields #[Value.str (Str.ofString "__init__") 283, Value.str (Str.ofString "_netrclex.__init__") 284, Value.str (Str.ofString "/claim/cut.py") 285, Value.int 79 0, Value.int 2 0, Value.int 0 0, Value.int 0 0, Value.int 3 0, Value.ref 64, Value.bool Bool.true, Value.int 181 0, Value.ref 65, Value.none, Value.ref 66, Value.ref 67, Value.ref 68, Value.int 288 0, Value.int 79 0, Value.str (Str.ofString "/claim/cut.py") 289] }) ::
  (nat_lit 70, fnO (sm 9 0) (Str.ofString "_netrclex.__init__") (Value.str (Str.ofString "cpy313.netrc") 269) 69) ::
  (nat_lit 76, { cls := Value.type "code", data := Data.fields #[Value.str (Str.ofString "_read_char") 291, Value.str (Str.ofString "_netrclex._read_char") 292, Value.str (Str.ofString "/claim/cut.py") 293, Value.int 85 0, Value.int 1 0, Value.int 0 0, Value.int 0 0, Value.int 3 0, Value.ref 71, Value.bool Bool.true, Value.int 181 0, Value.ref 72, Value.none, Value.ref 73, Value.ref 74, Value.ref 75, Value.int 296 0, Value.int 85 0, Value.str (Str.ofString "/claim/cut.py") 297] }) ::
  (nat_lit 77, fnO (sm 9 1) (Str.ofString "_netrclex._read_char") (Value.str (Str.ofString "cpy313.netrc") 269) 76) ::
  (nat_lit 83, { cls := Value.type "code", data := Data.fields #[Value.str (Str.ofString "get_token") 299, Value.str (Str.ofString "_netrclex.get_token") 300, Value.str (Str.ofString "/claim/cut.py") 301, Value.int 91 0, Value.int 1 0, Value.int 0 0, Value.int 0 0, Value.int 3 0, Value.ref 78, Value.bool Bool.true, Value.int 181 0, Value.ref 79, Value.none, Value.ref 80, Value.ref 81, Value.ref 82, Value.int 306 0, Value.int 91 0, Value.str (Str.ofString "/claim/cut.py") 307] }) ::
  (nat_lit 84, fnO (sm 9 2) (Str.ofString "_netrclex.get_token") (Value.str (Str.ofString "cpy313.netrc") 269) 83) ::
  (nat_lit 90, { cls := Value.type "code", data := Data.fields #[Value.str (Str.ofString "push_token") 309, Value.str (Str.ofString "_netrclex.push_token") 310, Value.str (Str.ofString "/claim/cut.py") 311, Value.int 118 0, Value.int 2 0, Value.int 0 0, Value.int 0 0, Value.int 3 0, Value.ref 85, Value.bool Bool.true, Value.int 181 0, Value.ref 86, Value.none, Value.ref 87, Value.ref 88, Value.ref 89, Value.int 314 0, Value.int 118 0, Value.str (Str.ofString "/claim/cut.py") 315] }) ::
  (nat_lit 91, fnO (sm 9 3) (Str.ofString "_netrclex.push_token") (Value.str (Str.ofString "cpy313.netrc") 269) 90) ::
  (nat_lit 93, { cls := Value.type "dict", data := Data.dict #[{ hash := PyData.keyHash P (Str.ofString "__module__"), key := Value.str (Str.ofString "__module__") 278, val := Value.str (Str.ofString "cpy313.netrc") 269 }, { hash := PyData.keyHash P (Str.ofString "__firstlineno__"), key := Value.str (Str.ofString "__firstlineno__") 282, val := Value.int 77 281 }, { hash := PyData.keyHash P (Str.ofString "__init__"), key := Value.str (Str.ofString "__init__") 290, val := Value.ref 70 }, { hash := PyData.keyHash P (Str.ofString "_read_char"), key := Value.str (Str.ofString "_read_char") 298, val := Value.ref 77 }, { hash := PyData.keyHash P (Str.ofString "get_token"), key := Value.str (Str.ofString "get_token") 308, val := Value.ref 84 }, { hash := PyData.keyHash P (Str.ofString "push_token"), key := Value.str (Str.ofString "push_token") 316, val := Value.ref 91 }, { hash := PyData.keyHash P (Str.ofString "__static_attributes__"), key := Value.str (Str.ofString "__static_attributes__") 321, val := Value.ref 92 }, { hash := PyData.keyHash P (Str.ofString "__dict__"), key := Value.str (Str.ofString "__dict__") 323, val := Value.ref 95 }, { hash := PyData.keyHash P (Str.ofString "__weakref__"), key := Value.str (Str.ofString "__weakref__") 325, val := Value.ref 96 }, { hash := PyData.keyHash P (Str.ofString "__doc__"), key := Value.str (Str.ofString "__doc__") 326, val := Value.none }] 4 }) ::
  (nat_lit 94, { cls := Value.type "type", data := Data.cls { name := Str.ofString "_netrclex", bases := [Value.type "object"], mro := [Value.ref 94, Value.type "object"], ns := 93, qualname := Str.ofString "_netrclex" }, slots := #[Option.none, Option.none, Option.some (Value.str (Str.ofString "_netrclex") 271), Option.some (Value.str (Str.ofString "_netrclex") 279), Option.some (Value.builtin "object.__new__"), Option.some (Value.bool Bool.true)] }) ::
  (nat_lit 95, { cls := Value.type "getset_descriptor", data := Data.fields #[Value.str (Str.ofString "__dict__") 322, Value.ref 94, Value.builtin "function.__dict__", Value.builtin "function.__dict__#set"] }) ::
  (nat_lit 96, { cls := Value.type "getset_descriptor", data := Data.fields #[Value.str (Str.ofString "__weakref__") 324, Value.ref 94, Value.builtin "ExceptionGroup.__weakref__", Value.none] }) ::
  (nat_lit 104, { cls := Value.type "code", data := Data.fields #[Value.str (Str.ofString "_law_signs") 331, Value.str (Str.ofString "_law_signs") 332, Value.str (Str.ofString "/claim/cut.py") 333, Value.int 121 0, Value.int 0 0, Value.int 0 0, Value.int 0 0, Value.int 3 0, Value.ref 99, Value.bool Bool.true, Value.int 181 0, Value.ref 100, Value.none, Value.ref 101, Value.ref 102, Value.ref 103, Value.int 334 0, Value.int 121 0, Value.str (Str.ofString "/claim/cut.py") 335] }) ::
  (nat_lit 105, fnO (st 11) (Str.ofString "_law_signs") (Value.str (Str.ofString "law_nb0179_03") 329) 104) ::
  (nat_lit 111, { cls := Value.type "code", data := Data.fields #[Value.str (Str.ofString "_law_cut") 337, Value.str (Str.ofString "_law_cut") 338, Value.str (Str.ofString "/claim/cut.py") 339, Value.int 123 0, Value.int 1 0, Value.int 0 0, Value.int 0 0, Value.int 3 0, Value.ref 106, Value.bool Bool.true, Value.int 181 0, Value.ref 107, Value.none, Value.ref 108, Value.ref 109, Value.ref 110, Value.int 341 0, Value.int 123 0, Value.str (Str.ofString "/claim/cut.py") 342] }) ::
  (nat_lit 112, fnO (st 12) (Str.ofString "_law_cut") (Value.str (Str.ofString "law_nb0179_03") 329) 111) ::
  (nat_lit 116, { cls := Value.type "code", data := Data.fields #[Value.str (Str.ofString "_law_tree") 344, Value.str (Str.ofString "_law_tree") 345, Value.str (Str.ofString "/claim/cut.py") 346, Value.int 125 0, Value.int 1 0, Value.int 0 0, Value.int 0 0, Value.int 3 0, Value.ref 113, Value.bool Bool.true, Value.int 181 0, Value.ref 114, Value.none, Value.none, Value.none, Value.ref 115, Value.int 347 0, Value.int 125 0, Value.str (Str.ofString "/claim/cut.py") 348] }) ::
  (nat_lit 117, fnO (st 13) (Str.ofString "_law_tree") (Value.str (Str.ofString "law_nb0179_03") 329) 116) ::
  (nat_lit 123, { cls := Value.type "code", data := Data.fields #[Value.str (Str.ofString "_law_height") 350, Value.str (Str.ofString "_law_height") 351, Value.str (Str.ofString "/claim/cut.py") 352, Value.int 137 0, Value.int 1 0, Value.int 0 0, Value.int 0 0, Value.int 3 0, Value.ref 118, Value.bool Bool.true, Value.int 181 0, Value.ref 119, Value.none, Value.ref 120, Value.ref 121, Value.ref 122, Value.int 354 0, Value.int 137 0, Value.str (Str.ofString "/claim/cut.py") 355] }) ::
  (nat_lit 124, fnO (st 14) (Str.ofString "_law_height") (Value.str (Str.ofString "law_nb0179_03") 329) 123) ::
  (nat_lit 130, { cls := Value.type "code", data := Data.fields #[Value.str (Str.ofString "_law_value") 357, Value.str (Str.ofString "_law_value") 358, Value.str (Str.ofString "/claim/cut.py") 359, Value.int 139 0, Value.int 1 0, Value.int 0 0, Value.int 0 0, Value.int 3 0, Value.ref 125, Value.bool Bool.true, Value.int 181 0, Value.ref 126, Value.none, Value.ref 127, Value.ref 128, Value.ref 129, Value.int 363 0, Value.int 139 0, Value.str (Str.ofString "/claim/cut.py") 364] }) ::
  (nat_lit 131, fnO (st 15) (Str.ofString "_law_value") (Value.str (Str.ofString "law_nb0179_03") 329) 130) ::
  (nat_lit 137, { cls := Value.type "code", data := Data.fields #[Value.str (Str.ofString "_law_polish") 366, Value.str (Str.ofString "_law_polish") 367, Value.str (Str.ofString "/claim/cut.py") 368, Value.int 144 0, Value.int 2 0, Value.int 0 0, Value.int 0 0, Value.int 3 0, Value.ref 132, Value.bool Bool.true, Value.int 181 0, Value.ref 133, Value.none, Value.ref 134, Value.ref 135, Value.ref 136, Value.int 371 0, Value.int 144 0, Value.str (Str.ofString "/claim/cut.py") 372] }) ::
  (nat_lit 138, fnO (st 16) (Str.ofString "_law_polish") (Value.str (Str.ofString "law_nb0179_03") 329) 137) ::
  (nat_lit 144, { cls := Value.type "code", data := Data.fields #[Value.str (Str.ofString "_law_plain_word") 374, Value.str (Str.ofString "_law_plain_word") 375, Value.str (Str.ofString "/claim/cut.py") 376, Value.int 148 0, Value.int 1 0, Value.int 0 0, Value.int 0 0, Value.int 3 0, Value.ref 139, Value.bool Bool.true, Value.int 181 0, Value.ref 140, Value.none, Value.ref 141, Value.ref 142, Value.ref 143, Value.int 380 0, Value.int 148 0, Value.str (Str.ofString "/claim/cut.py") 381] }) ::
  (nat_lit 145, fnO (st 17) (Str.ofString "_law_plain_word") (Value.str (Str.ofString "law_nb0179_03") 329) 144) ::
  (nat_lit 149, { cls := Value.type "code", data := Data.fields #[Value.str (Str.ofString "_law_told") 383, Value.str (Str.ofString "_law_told") 384, Value.str (Str.ofString "/claim/cut.py") 385, Value.int 157 0, Value.int 1 0, Value.int 0 0, Value.int 0 0, Value.int 3 0, Value.ref 146, Value.bool Bool.true, Value.int 181 0, Value.ref 147, Value.none, Value.none, Value.none, Value.ref 148, Value.int 386 0, Value.int 157 0, Value.str (Str.ofString "/claim/cut.py") 387] }) ::
  (nat_lit 150, fnO (st 18) (Str.ofString "_law_told") (Value.str (Str.ofString "law_nb0179_03") 329) 149) ::
  (nat_lit 154, { cls := Value.type "code", data := Data.fields #[Value.str (Str.ofString "_law_word") 389, Value.str (Str.ofString "_law_word") 390, Value.str (Str.ofString "/claim/cut.py") 391, Value.int 165 0, Value.int 1 0, Value.int 0 0, Value.int 0 0, Value.int 3 0, Value.ref 151, Value.bool Bool.true, Value.int 181 0, Value.ref 152, Value.none, Value.none, Value.none, Value.ref 153, Value.int 392 0, Value.int 165 0, Value.str (Str.ofString "/claim/cut.py") 393] }) ::
  (nat_lit 155, fnO (st 19) (Str.ofString "_law_word") (Value.str (Str.ofString "law_nb0179_03") 329) 154) ::
  (nat_lit 159, { cls := Value.type "code", data := Data.fields #[Value.str (Str.ofString "_law_number") 395, Value.str (Str.ofString "_law_number") 396, Value.str (Str.ofString "/claim/cut.py") 397, Value.int 167 0, Value.int 1 0, Value.int 0 0, Value.int 0 0, Value.int 3 0, Value.ref 156, Value.bool Bool.true, Value.int 181 0, Value.ref 157, Value.none, Value.none, Value.none, Value.ref 158, Value.int 398 0, Value.int 167 0, Value.str (Str.ofString "/claim/cut.py") 399] }) ::
  (nat_lit 160, fnO (st 20) (Str.ofString "_law_number") (Value.str (Str.ofString "law_nb0179_03") 329) 159) ::
  (nat_lit 166, { cls := Value.type "code", data := Data.fields #[Value.str (Str.ofString "_law_reckoned") 401, Value.str (Str.ofString "_law_reckoned") 402, Value.str (Str.ofString "/claim/cut.py") 403, Value.int 170 0, Value.int 3 0, Value.int 0 0, Value.int 0 0, Value.int 3 0, Value.ref 161, Value.bool Bool.true, Value.int 181 0, Value.ref 162, Value.none, Value.ref 163, Value.ref 164, Value.ref 165, Value.int 408 0, Value.int 170 0, Value.str (Str.ofString "/claim/cut.py") 409] }) ::
  (nat_lit 167, fnO (st 21) (Str.ofString "_law_reckoned") (Value.str (Str.ofString "law_nb0179_03") 329) 166) ::
  (nat_lit 173, { cls := Value.type "code", data := Data.fields #[Value.str (Str.ofString "_law_round") 411, Value.str (Str.ofString "_law_round") 412, Value.str (Str.ofString "/claim/cut.py") 413, Value.int 173 0, Value.int 3 0, Value.int 0 0, Value.int 0 0, Value.int 3 0, Value.ref 168, Value.bool Bool.true, Value.int 181 0, Value.ref 169, Value.none, Value.ref 170, Value.ref 171, Value.ref 172, Value.int 420 0, Value.int 173 0, Value.str (Str.ofString "/claim/cut.py") 421] }) ::
  (nat_lit 174, fnO (st 22) (Str.ofString "_law_round") (Value.str (Str.ofString "law_nb0179_03") 329) 173) ::
  (nat_lit 178, { cls := Value.type "code", data := Data.fields #[Value.str (Str.ofString "_law_text") 423, Value.str (Str.ofString "_law_text") 424, Value.str (Str.ofString "/claim/cut.py") 425, Value.int 187 0, Value.int 2 0, Value.int 0 0, Value.int 0 0, Value.int 3 0, Value.ref 175, Value.bool Bool.true, Value.int 181 0, Value.ref 176, Value.none, Value.none, Value.none, Value.ref 177, Value.int 426 0, Value.int 187 0, Value.str (Str.ofString "/claim/cut.py") 427] }) ::
  (nat_lit 179, fnO (st 23) (Str.ofString "_law_text") (Value.str (Str.ofString "law_nb0179_03") 329) 178) ::
  (nat_lit 185, { cls := Value.type "code", data := Data.fields #[Value.str (Str.ofString "_law_right") 429, Value.str (Str.ofString "_law_right") 430, Value.str (Str.ofString "/claim/cut.py") 431, Value.int 197 0, Value.int 2 0, Value.int 0 0, Value.int 0 0, Value.int 3 0, Value.ref 180, Value.bool Bool.true, Value.int 181 0, Value.ref 181, Value.none, Value.ref 182, Value.ref 183, Value.ref 184, Value.int 441 0, Value.int 197 0, Value.str (Str.ofString "/claim/cut.py") 442] }) ::
  (nat_lit 186, fnO (st 24) (Str.ofString "_law_right") (Value.str (Str.ofString "law_nb0179_03") 329) 185) ::
  (nat_lit 192, { cls := Value.type "code", data := Data.fields #[Value.str (Str.ofString "law") 444, Value.str (Str.ofString "law") 445, Value.str (Str.ofString "/claim/cut.py") 446, Value.int 219 0, Value.int 1 0, Value.int 0 0, Value.int 0 0, Value.int 3 0, Value.ref 187, Value.bool Bool.true, Value.int 181 0, Value.ref 188, Value.none, Value.ref 189, Value.ref 190, Value.ref 191, Value.int 450 0, Value.int 219 0, Value.str (Str.ofString "/claim/cut.py") 451] }) ::
  (nat_lit 193, fnO (st 25) (Str.ofString "law") (Value.str (Str.ofString "law_nb0179_03") 329) 192) :: []
def as1 : List Addr := [2, 3, 20, 21, 27, 28, 34, 35, 41, 42, 48, 49, 55, 56, 69, 70, 76, 77, 83, 84, 90, 91, 93, 94, 95, 96, 104, 105, 111, 112, 116, 117, 123, 124, 130, 131, 137, 138, 144, 145, 149, 150, 154, 155, 159, 160, 166, 167, 173, 174, 178, 179, 185, 186, 192, 193]
noncomputable def view1 : Program := { PySem.Challenge.pw_nb0179_03 with main := { PySem.Challenge.pw_nb0179_03.main with body := [st 1, st 2, st 3, st 4, st 5, st 6, st 7, st 9, st 11, st 12, st 13, st 14, st 15, st 16, st 17, st 18, st 19, st 20, st 21, st 22, st 23, st 24, st 25] } }
noncomputable def hk1 : Hook := kmHook K1 as1 (fun _ => by kernel_rfl) [30, 181, 37]
theorem left1 : LeftO PySem.Challenge.pw_nb0179_03 view1 [] (fun s => xlAt view1 [] s && recOk (RowW.records PySem.Challenge.rw_nb0179_03.row.toRowW) s) hk1.obs hk1.val 2148 := by
  intro w; kernel_rfl
theorem said1 : PySem.Challenge.rw_nb0179_03.wellSaid = true := by kernel_rfl
end
section
structure NDef where
  name : Str
  qual : Str
  params : Arguments
  body : List Stmt
  scope : Scope

inductive CV where
  | none | bool (b : Bool) | int (i : Int) | str (s : Str) | tuple (l : List CV)
  | ref (a : Addr) | glob (a : Addr) | bi (id : String) | ty (id : String)
  | clo (d : NDef) (cells : List (Str × Addr)) | meth (f : Addr) (self : CV) | frz (zs : List Int) | rng (x y z : Int)

inductive CO where
  | list (xs : List CV) | inst (C d : Addr) | idict (fs : List (Str × CV)) | cell (v : Option CV)
  | citer (f s : CV) | cend | dict (kvs : List (Str × CV)) | rev (l : Addr) (k : Nat)

abbrev CHeap := Addr → Option CO
def upd (H : CHeap) (a : Addr) (o : CO) : CHeap := fun b => if b = a then some o else H b
theorem upd_self (H : CHeap) (a : Addr) (o : CO) : upd H a o a = some o := if_pos rfl
theorem upd_ne {H : CHeap} {a b : Addr} {o : CO} (h : b ≠ a) : upd H a o b = H b := if_neg h

/-- the ground: the heap at the law's call, the code tables -/
structure TabS where
  P : Addr
  c : Addr
  line : Nat
  col : Nat
  qual : Str
structure Bs where
  h₀ : Heap
  tbs : List TabS
  prog : Program
  w : World
abbrev Bs.tabs (B : Bs) : List Addr := B.tbs.map (·.P)
/-- an address that is neither the ground's nor a table's -/
def Out (B : Bs) (a : Addr) : Prop := a ∉ B.tabs ∧ B.h₀.get? a = none

abbrev fnObj (d : NDef) (cells : List (Str × Addr)) (doc pm cdv ct : Value) : Obj :=
  { cls := .type "function", data := .func { name := d.name, qualname := d.qual, params := d.params, body := .stmts d.body, scope := d.scope, globals := mainGlobals, closure := cells, defaults := .none, kwdefaults := .none, doc := doc, pyModule := pm, annotations := none, code := cdv, closureTuple := ct, builtins := builtinsNs } }

mutual
inductive RepV (B : Bs) (H : CHeap) (h : Heap) : Value → CV → Prop where
  | none : RepV B H h .none .none
  | bool (b : Bool) : RepV B H h (.bool b) (.bool b)
  | int (i : Int) (t : Tok) : RepV B H h (.int i t) (.int i)
  | str (x : Str) (t : Tok) : RepV B H h (.str x t) (.str x)
  | ref (a : Addr) : RepV B H h (.ref a) (.ref a)
  | glob (a : Addr) : RepV B H h (.ref a) (.glob a)
  | bi (id : String) : RepV B H h (.builtin id) (.bi id)
  | ty (id : String) : RepV B H h (.type id) (.ty id)
  | rng {a : Addr} {x y z : Int} {t u v : Tok} (hn : Out B a) (ha : H a = Option.none) (ho : h.get? a = some { cls := .type "range", data := .fields #[.int x t, .int y u, .int z v] }) : RepV B H h (.ref a) (.rng x y z)
  | frz {a : Addr} {vs : List Value} {l : List Int} (hl : B.h₀.IsList a vs.toArray) (hi : IntsAre vs l) : RepV B H h (.ref a) (.frz l)
  | tuple {a : Addr} {vs : List Value} {n : Nat} {l : List CV} (hn : Out B a) (ha : H a = Option.none) (ho : h.get? a = some { cls := .type "tuple", data := .seq vs.toArray n }) (hv : RepVs B H h vs l) : RepV B H h (.ref a) (.tuple l)
  | clo {a c : Addr} {d : NDef} {cells : List (Str × Addr)} {doc pm ct : Value} {oc : Obj} {vs : Array Value} {t : Tok} (hn : Out B a) (ha : H a = Option.none) (ho : h.get? a = some (fnObj d cells doc pm (.ref c) ct))
      (hc : H c = Option.none) (hcn : Out B c) (hco : h.get? c = some oc) (hcd : oc.data = .fields vs) (hcq : vs[1]? = some (.str d.qual t)) : RepV B H h (.ref a) (.clo d cells)
  | meth {a f : Addr} {self : Value} {S : CV} (hn : Out B a) (ha : H a = Option.none) (ho : h.get? a = some (methodObj (.ref f) self)) (hs : RepV B H h self S) : RepV B H h (.ref a) (.meth f S)
inductive RepVs (B : Bs) (H : CHeap) (h : Heap) : List Value → List CV → Prop where
  | nil : RepVs B H h [] []
  | cons {v : Value} {V : CV} {vs : List Value} {Vs : List CV} (hv : RepV B H h v V) (hr : RepVs B H h vs Vs) : RepVs B H h (v :: vs) (V :: Vs)
end

def ORel (R : Value → CV → Prop) : Option Value → Option CV → Prop
  | some v, some V => R v V
  | Option.none, Option.none => True
  | _, _ => False

inductive RepF (B : Bs) (H : CHeap) (h : Heap) : List DictEntry → List (Str × CV) → Prop where
  | nil : RepF B H h [] []
  | cons {hs : Int} {x : Str} {t : Tok} {v : Value} {V : CV} {es : List DictEntry} {fs : List (Str × CV)} (hv : RepV B H h v V) (hr : RepF B H h es fs) : RepF B H h (⟨hs, .str x t, v⟩ :: es) ((x, V) :: fs)

def RepO (B : Bs) (H : CHeap) (h : Heap) (a : Addr) : CO → Prop
  | .list xs => ∃ vs n, h.get? a = some (listOf vs.toArray n) ∧ RepVs B H h vs xs
  | .inst C d => h.get? a = some (instObj C d) ∧ ∃ fs, H d = some (.idict fs)
  | .idict fs => ∃ es n, h.get? a = some (dictOf es n) ∧ RepF B H h es fs
  | .cell v => ∃ v' o, h.get? a = some o ∧ o.data = .cell v' ∧ ORel (RepV B H h) v' v
  | .citer f st => ∃ f' st', h.get? a = some { cls := .type "callable_iterator", data := .fields #[f', st', .bool false] } ∧ RepV B H h f' f ∧ RepV B H h st' st
  | .cend => h.get? a = some { cls := .type "callable_iterator", data := .fields #[.none, .none, .bool true] }
  | .dict kvs => (a == sysModules) = false ∧ ∃ ps : List (Str × Value), h.DictOf (PySem.strKind B.prog B.w) a ps ∧ ps.map (·.1) = kvs.map (·.1) ∧ RepVs B H h (ps.map (·.2)) (kvs.map (·.2))
  | .rev l k => h.IsRevIter a l ((k : Int) - 1)

def TabInv (B : Bs) (H : CHeap) (h : Heap) (t : TabS) : Prop := ∃ ps, h.get? t.P = some (tabObj ps) ∧ (ps = #[] ∨
  ∃ ca oc vs tk, ps = #[rawInt t.line, rawInt t.col, .ref ca] ∧ Out B ca ∧ H ca = Option.none ∧ h.get? ca = some oc ∧ oc.data = .fields vs ∧ vs[1]? = some (.str t.qual tk))

structure HRel (B : Bs) (H : CHeap) (h : Heap) : Prop where
  keep : ∀ a o, B.h₀.get? a = some o → h.get? a = some o
  thid : ∀ P ∈ B.tabs, B.h₀.get? P = Option.none
  tab : ∀ t ∈ B.tbs, TabInv B H h t
  obj : ∀ a o, H a = some o → Out B a ∧ RepO B H h a o

theorem RepO.there {B : Bs} {H : CHeap} {h : Heap} {a : Addr} {o : CO} (x : RepO B H h a o) : ∃ ob, h.get? a = some ob := by
  cases o with
  | list xs => obtain ⟨vs, n, e, _⟩ := x; exact ⟨_, e⟩
  | inst C d => exact ⟨_, x.1⟩
  | idict fs => obtain ⟨es, n, e, _⟩ := x; exact ⟨_, e⟩
  | cell v => obtain ⟨v', o, e, _⟩ := x; exact ⟨_, e⟩
  | citer f st => obtain ⟨_, _, e, _⟩ := x; exact ⟨_, e⟩
  | cend => exact ⟨_, x⟩
  | dict kvs => obtain ⟨_, ps, ⟨o, es, n, e, _⟩, _⟩ := x; exact ⟨_, e⟩
  | rev l k => obtain ⟨o, e, _⟩ := x; exact ⟨o, e⟩

/-- kept, up to the slots of a frame's names -/
def Kept (h' : Heap) (a : Addr) (o : Obj) : Prop := h'.get? a = some o ∨ ∃ es n sl, o.data = .dict es n ∧ h'.get? a = some { o with slots := sl }
theorem Kept.nd {h' : Heap} {a : Addr} {o : Obj} (k : Kept h' a o) (nd : ∀ es n, o.data ≠ .dict es n) : h'.get? a = some o := k.elim id fun ⟨es, n, _, d, _⟩ => absurd d (nd es n)
theorem Kept.ex {h' : Heap} {a : Addr} {o : Obj} (k : Kept h' a o) : ∃ o', h'.get? a = some o' ∧ o'.data = o.data := k.elim (fun e => ⟨o, e, rfl⟩) fun ⟨_, _, _, _, e⟩ => ⟨_, e, rfl⟩
theorem Kept.trans {h1 h2 : Heap} {a : Addr} {o : Obj} (k : Kept h1 a o) (k2 : ∀ o', h1.get? a = some o' → Kept h2 a o') : Kept h2 a o := by
  rcases k with e | ⟨es, n, sl, d, e⟩
  · exact k2 _ e
  · rcases k2 _ e with e2 | ⟨_, _, sl2, _, e2⟩
    · exact .inr ⟨es, n, sl, d, e2⟩
    · exact .inr ⟨es, n, sl2, d, e2⟩
/-- what a run of any tree may do -/
structure Step (B : Bs) (H : CHeap) (s : Shared) (H' : CHeap) (s' : Shared) : Prop where
  sh : ∃ h' tk', s' = { s with heap := h', toks := tk' }
  rel : HRel B H' s'.heap
  keep : ∀ a o, s.heap.get? a = some o → H a = Option.none → a ∉ B.tabs → Kept s'.heap a o
  new : ∀ a, H a = Option.none → H' a ≠ Option.none → s.heap.get? a = Option.none
  dom : ∀ a, H a ≠ Option.none → H' a ≠ Option.none

/-- the like, in a frame whose names lie at L -/
structure StepL (B : Bs) (L : Addr) (H : CHeap) (s : Shared) (H' : CHeap) (s' : Shared) : Prop where
  sh : ∃ h' tk', s' = { s with heap := h', toks := tk' }
  rel : HRel B H' s'.heap
  keep : ∀ a o, s.heap.get? a = some o → H a = Option.none → a ∉ B.tabs → a ≠ L → Kept s'.heap a o
  new : ∀ a, H a = Option.none → H' a ≠ Option.none → s.heap.get? a = Option.none
  dom : ∀ a, H a ≠ Option.none → H' a ≠ Option.none

theorem Step.refl {B : Bs} {H : CHeap} {s : Shared} (R : HRel B H s.heap) : Step B H s H s := ⟨⟨_, _, rfl⟩, R, fun _ _ e _ _ => .inl e, fun _ e n => absurd e n, fun _ e => e⟩
theorem Step.tok {B : Bs} {H : CHeap} {s : Shared} (R : HRel B H s.heap) (t : Nat) : Step B H s H { s with toks := t } := ⟨⟨_, _, rfl⟩, R, fun _ _ e _ _ => .inl e, fun _ e n => absurd e n, fun _ e => e⟩
theorem Step.trans {B : Bs} {H H' H'' : CHeap} {s s' s'' : Shared} (x : Step B H s H' s') (y : Step B H' s' H'' s'') : Step B H s H'' s'' := by
  obtain ⟨⟨h1, t1, e1⟩, r1, k1, n1, d1⟩ := x
  obtain ⟨⟨h2, t2, e2⟩, r2, k2, n2, d2⟩ := y
  refine ⟨⟨h2, t2, by rw [e2, e1]⟩, r2, fun a o e hn ht => ?_, fun a hn hh => ?_, fun a e => d2 a (d1 a e)⟩
  · have e' := k1 a o e hn ht
    have hn' : H' a = Option.none := by
      cases q : H' a with
      | none => rfl
      | some z => have := n1 a hn (by rw [q]; exact fun z => nomatch z); rw [e] at this; cases this
    exact e'.trans fun o' e2 => k2 a o' e2 hn' ht
  · cases q : H' a with
    | some z => exact n1 a hn (by rw [q]; exact fun z => nomatch z)
    | none =>
      have e' := n2 a q hh
      cases p : s.heap.get? a with
      | none => rfl
      | some o =>
        by_cases ht : a ∈ B.tabs
        · obtain ⟨o2, hd⟩ : ∃ o, H'' a = some o := by
            cases z : H'' a with
            | none => exact absurd z hh
            | some o => exact ⟨o, rfl⟩
          have := (r2.obj a o2 hd).1
          exact absurd ht this.1
        · obtain ⟨_, e3, _⟩ := (k1 a o p hn ht).ex
          rw [e3] at e'; cases e'

theorem Step.toL {B : Bs} {L : Addr} {H H' : CHeap} {s s' : Shared} (x : Step B H s H' s') : StepL B L H s H' s' := ⟨x.sh, x.rel, fun a o e h t _ => x.keep a o e h t, x.new, x.dom⟩
theorem StepL.trans {B : Bs} {L : Addr} {H H' H'' : CHeap} {s s' s'' : Shared} (x : StepL B L H s H' s') (y : StepL B L H' s' H'' s'') (hL : ∃ o, s'.heap.get? L = some o) : StepL B L H s H'' s'' := by
  obtain ⟨⟨h1, t1, e1⟩, r1, k1, n1, d1⟩ := x
  obtain ⟨⟨h2, t2, e2⟩, r2, k2, n2, d2⟩ := y
  refine ⟨⟨h2, t2, by rw [e2, e1]⟩, r2, fun a o e hn ht hl => ?_, fun a hn hh => ?_, fun a e => d2 a (d1 a e)⟩
  · have e' := k1 a o e hn ht hl
    have hn' : H' a = Option.none := by
      cases q : H' a with
      | none => rfl
      | some z => have := n1 a hn (by rw [q]; exact fun z => nomatch z); rw [e] at this; cases this
    exact e'.trans fun o' e2 => k2 a o' e2 hn' ht hl
  · cases q : H' a with
    | some z => exact n1 a hn (by rw [q]; exact fun z => nomatch z)
    | none =>
      have e' := n2 a q hh
      cases p : s.heap.get? a with
      | none => rfl
      | some o =>
        by_cases ht : a ∈ B.tabs
        · obtain ⟨o2, hd⟩ : ∃ o, H'' a = some o := by
            cases z : H'' a with
            | none => exact absurd z hh
            | some o => exact ⟨o, rfl⟩
          have := (r2.obj a o2 hd).1
          exact absurd ht this.1
        · by_cases hl : a = L
          · subst hl; obtain ⟨o', h'⟩ := hL; rw [h'] at e'; cases e'
          · obtain ⟨_, e3, _⟩ := (k1 a o p hn ht hl).ex
            rw [e3] at e'; cases e'

/-- values go along -/
theorem none_of_new {H H' : CHeap} {h : Heap} (new : ∀ a, H a = Option.none → H' a ≠ Option.none → h.get? a = Option.none) {a : Addr} {o : Obj} (ha : H a = Option.none) (e : h.get? a = some o) : H' a = Option.none := by
  cases q : H' a with
  | none => rfl
  | some z => have := new a ha (by rw [q]; exact fun z => nomatch z); rw [e] at this; cases this

/-- objects that no clean value leans on -/
def Loose (o : Obj) : Prop := (∀ vs n, o ≠ { cls := .type "tuple", data := .seq vs n }) ∧ (∀ d cells doc pm cdv ct, o ≠ fnObj d cells doc pm cdv ct) ∧ (∀ f self, o ≠ methodObj f self) ∧ (∀ vs q t, o.data = .fields vs → vs[1]? ≠ some (.str q t)) ∧ (∀ vs, o.cls = .type "range" → o.data ≠ .fields vs)
def KeepX (B : Bs) (H : CHeap) (h h' : Heap) : Prop := ∀ a o, h.get? a = some o → H a = Option.none → a ∉ B.tabs → h'.get? a = some o ∨ Loose o
def NewX (H H' : CHeap) (h : Heap) : Prop := ∀ a, H a = Option.none → H' a ≠ Option.none → h.get? a = Option.none
def NewY (H H' : CHeap) (h : Heap) : Prop := ∀ a o, H a = Option.none → H' a ≠ Option.none → h.get? a = some o → Loose o
theorem noneY {H H' : CHeap} {h : Heap} (new : NewY H H' h) {a : Addr} {o : Obj} (ha : H a = Option.none) (e : h.get? a = some o) (nl : ¬ Loose o) : H' a = Option.none := by
  cases q : H' a with
  | none => rfl
  | some z => exact absurd (new a o ha (by rw [q]; exact fun z => nomatch z) e) nl
mutual
theorem RepV.toY {B : Bs} {H H' : CHeap} {h h' : Heap} (k : KeepX B H h h') (new : NewY H H' h) : ∀ {v : Value} {V : CV}, RepV B H h v V → RepV B H' h' v V
  | _, _, .none => .none
  | _, _, .bool b => .bool b
  | _, _, .int i t => .int i t
  | _, _, .str x t => .str x t
  | _, _, .ref a => .ref a
  | _, _, .glob a => .glob a
  | _, _, .bi id => .bi id
  | _, _, .ty id => .ty id
  | _, _, .frz hl hi => .frz hl hi
  | _, _, .rng hn ha ho => .rng hn (noneY new ha ho fun z => z.2.2.2.2 _ rfl rfl) ((k _ _ ho ha hn.1).elim id fun z => absurd rfl (z.2.2.2.2 _ rfl))
  | _, _, .tuple hn ha ho hv => .tuple hn (noneY new ha ho fun z => z.1 _ _ rfl) ((k _ _ ho ha hn.1).elim id fun z => absurd rfl (z.1 _ _)) (RepVs.toY k new hv)
  | _, _, .clo hn ha ho hc hcn hco hcd hcq => .clo hn (noneY new ha ho fun z => z.2.1 _ _ _ _ _ _ rfl) ((k _ _ ho ha hn.1).elim id fun z => absurd rfl (z.2.1 _ _ _ _ _ _)) (noneY new hc hco fun z => z.2.2.2.1 _ _ _ hcd hcq) hcn ((k _ _ hco hc hcn.1).elim id fun z => absurd hcq (z.2.2.2.1 _ _ _ hcd)) hcd hcq
  | _, _, .meth hn ha ho hs => .meth hn (noneY new ha ho fun z => z.2.2.1 _ _ rfl) ((k _ _ ho ha hn.1).elim id fun z => absurd rfl (z.2.2.1 _ _)) (RepV.toY k new hs)
theorem RepVs.toY {B : Bs} {H H' : CHeap} {h h' : Heap} (k : KeepX B H h h') (new : NewY H H' h) : ∀ {vs : List Value} {Vs : List CV}, RepVs B H h vs Vs → RepVs B H' h' vs Vs
  | _, _, .nil => .nil
  | _, _, .cons hv hr => .cons (RepV.toY k new hv) (RepVs.toY k new hr)
end
theorem NewX.toY {H H' : CHeap} {h : Heap} (n : NewX H H' h) : NewY H H' h := fun a o h1 h2 e => nomatch (n a h1 h2).symm.trans e
theorem RepV.to {B : Bs} {H H' : CHeap} {h h' : Heap} (k : KeepX B H h h') (new : NewX H H' h) {v : Value} {V : CV} (r : RepV B H h v V) : RepV B H' h' v V := r.toY k new.toY
theorem RepVs.to {B : Bs} {H H' : CHeap} {h h' : Heap} (k : KeepX B H h h') (new : NewX H H' h) {vs : List Value} {Vs : List CV} (r : RepVs B H h vs Vs) : RepVs B H' h' vs Vs := r.toY k new.toY
end
section
variable {B : Bs} {H H' : CHeap} {h h' : Heap} {L : Addr} {s s' : Shared}

theorem loose_dict {o : Obj} {es : Array DictEntry} {n : Nat} (e : o.data = .dict es n) : Loose o := ⟨fun vs n q => (by rw [q] at e; cases e), fun d c doc pm cdv ct q => (by rw [q] at e; cases e), fun f self q => (by rw [q] at e; cases e), fun vs q t d => (by rw [d] at e; cases e), fun vs _ d => (by rw [d] at e; cases e)⟩
theorem RepF.to {v : List DictEntry} {V : List (Str × CV)} (k : KeepX B H h h') (n : NewX H H' h) (x : RepF B H h v V) : RepF B H' h' v V := by
  induction x with
  | nil => exact .nil
  | cons hv _ ih => exact .cons (hv.to k n) ih
theorem ORel.to {v : Option Value} {V : Option CV} (k : KeepX B H h h') (n : NewX H H' h) (x : ORel (RepV B H h) v V) : ORel (RepV B H' h') v V := by
  cases v <;> cases V <;> first | exact x | exact RepV.to k n x | exact x.elim

theorem TabInv.to {t : TabS} (k : KeepX B H h h') (n : NewX H H' h) (same : ∀ o, h.get? t.P = some o → h'.get? t.P = some o) (x : TabInv B H h t) : TabInv B H' h' t := by
  obtain ⟨ps, e, r⟩ := x
  refine ⟨ps, same _ e, r.imp id ?_⟩
  rintro ⟨ca, oc, vs, tk, e1, lo, hn, e2, e3, e4⟩
  exact ⟨ca, oc, vs, tk, e1, lo, none_of_new n hn e2, (k ca oc e2 hn lo.1).elim id fun z => absurd e4 (z.2.2.2.1 _ _ _ e3), e3, e4⟩
theorem HRel.next' (R : HRel B H h) (k : ∀ a o, B.h₀.get? a = some o → h.get? a = some o → h'.get? a = some o) (tk : ∀ t ∈ B.tbs, TabInv B H' h' t) (kx : KeepX B H h h') (n : NewX H H' h) (idk : ∀ d fs, H d = some (.idict fs) → ∃ fs', H' d = some (.idict fs'))
    (ow : ∀ a o, H' a = some o → (H a = some o ∧ ∀ ob, h.get? a = some ob → h'.get? a = some ob) ∨ (Out B a ∧ RepO B H' h' a o)) : HRel B H' h' := by
  refine ⟨fun a o e => k a o e (R.keep a o e), R.thid, tk, fun a o e => ?_⟩
  rcases ow a o e with ⟨e0, same⟩ | x
  · obtain ⟨lo, x⟩ := R.obj a o e0
    refine ⟨lo, ?_⟩
    cases o with
    | list xs => obtain ⟨vs, n', e1, r⟩ := x; exact ⟨vs, n', same _ e1, r.to kx n⟩
    | inst C d => obtain ⟨e1, fs, hf⟩ := x; exact ⟨same _ e1, idk d fs hf⟩
    | idict fs => obtain ⟨es, n', e1, r⟩ := x; exact ⟨es, n', same _ e1, r.to kx n⟩
    | cell v => obtain ⟨v', o, e1, e2, r⟩ := x; exact ⟨v', o, same _ e1, e2, r.to kx n⟩
    | citer f st => obtain ⟨f', st', e1, r, r2⟩ := x; exact ⟨f', st', same _ e1, r.to kx n, r2.to kx n⟩
    | cend => exact same _ x
    | rev l k => obtain ⟨o, e1, r⟩ := x; exact ⟨o, same _ e1, r⟩
    | dict kvs => obtain ⟨nm, ps, ⟨o, es, n', e1, q⟩, ek, r⟩ := x; exact ⟨nm, ps, ⟨o, es, n', same _ e1, q⟩, ek, r.to kx n⟩
  · exact x

theorem HRel.next (R : HRel B H h) (k : ∀ a o, B.h₀.get? a = some o ∨ a ∈ B.tabs → h.get? a = some o → h'.get? a = some o) (kx : KeepX B H h h') (n : NewX H H' h) (idk : ∀ d fs, H d = some (.idict fs) → ∃ fs', H' d = some (.idict fs'))
    (ow : ∀ a o, H' a = some o → (H a = some o ∧ ∀ ob, h.get? a = some ob → h'.get? a = some ob) ∨ (Out B a ∧ RepO B H' h' a o)) : HRel B H' h' :=
  R.next' (fun a o e l => k a o (.inl e) l) (fun t ht => (R.tab t ht).to kx n fun o e => k _ o (.inr (List.mem_map_of_mem ht)) e) kx n idk ow

theorem Step.kx (x : Step B H s H' s') : KeepX B H s.heap s'.heap := fun a o e hn ht => (x.keep a o e hn ht).imp id fun ⟨_, _, _, d, _⟩ => loose_dict d
theorem Step.val (x : Step B H s H' s') {v : Value} {V : CV} (r : RepV B H s.heap v V) : RepV B H' s'.heap v V := r.to x.kx x.new
theorem Step.vals (x : Step B H s H' s') {v : List Value} {V : List CV} (r : RepVs B H s.heap v V) : RepVs B H' s'.heap v V := r.to x.kx x.new

/-- the frame's names -/
abbrev Loc := List (Str × CV)
structure Frm (B : Bs) (L : Addr) (m : Loc) (H : CHeap) (h : Heap) : Prop where
  lo : Out B L
  free : H L = Option.none
  ns : ∃ mr, h.Ns L mr ∧ ∀ x, ORel (RepV B H h) (mr x) (m.lookup x)
theorem Frm.there {m : Loc} (F : Frm B L m H h) : ∃ o es n, h.get? L = some o ∧ o.data = .dict es n := let ⟨_, _, mr, ⟨o, es, n, e, d, _⟩, _⟩ := F; ⟨o, es, n, e, d⟩
theorem StepL.kx {m : Loc} (x : StepL B L H s H' s') (F : Frm B L m H s.heap) : KeepX B H s.heap s'.heap := fun a o e hn ht => by
  by_cases hl : a = L
  · subst hl
    obtain ⟨o', es, n, e', d⟩ := F.there
    rw [e] at e'; cases e'
    exact .inr (loose_dict d)
  · exact (x.keep a o e hn ht hl).imp id fun ⟨_, _, _, d, _⟩ => loose_dict d
theorem StepL.val {m : Loc} (x : StepL B L H s H' s') (F : Frm B L m H s.heap) {v : Value} {V : CV} (r : RepV B H s.heap v V) : RepV B H' s'.heap v V := r.to (x.kx F) x.new
theorem StepL.vals {m : Loc} (x : StepL B L H s H' s') (F : Frm B L m H s.heap) {v : List Value} {V : List CV} (r : RepVs B H s.heap v V) : RepVs B H' s'.heap v V := r.to (x.kx F) x.new
theorem Step.frm {m : Loc} (x : Step B H s H' s') (R : HRel B H s.heap) (F : Frm B L m H s.heap) : Frm B L m H' s'.heap := by
  obtain ⟨lo, fr, mr, ⟨o, es, n, e, d, sk, f⟩, r⟩ := F
  obtain ⟨o', e', d'⟩ := (x.keep L o e fr lo.1).ex
  exact ⟨lo, none_of_new x.new fr e, mr, ⟨o', es, n, e', d'.trans d, sk, f⟩, fun y => (r y).to x.kx x.new⟩

/-- a new object that the clean heap does not own -/
theorem upd_dom {a : Addr} {o : CO} : ∀ b, H b ≠ Option.none → upd H a o b ≠ Option.none := fun b e => by
  by_cases hb : b = a
  · subst hb; rw [upd_self]; exact fun z => nomatch z
  · rw [upd_ne hb]; exact e
theorem HRel.push (R : HRel B H h) (o : Obj) : HRel B H (h.push o) :=
  R.next (fun a o' _ e => Heap.get?_push_of_some _ e) (fun a o' e _ _ => .inl (Heap.get?_push_of_some _ e)) (fun a e n => absurd e n) (fun d fs e => ⟨fs, e⟩)
    fun a o' e => .inl ⟨e, fun ob q => Heap.get?_push_of_some _ q⟩
theorem Step.push (R : HRel B H s.heap) (o : Obj) (t : Nat) : Step B H s H { s with heap := s.heap.push o, toks := t } :=
  ⟨⟨_, _, rfl⟩, R.push o, fun a o' e _ _ => .inl (Heap.get?_push_of_some _ e), fun a e n => absurd e n, fun a e => e⟩
theorem size_none (h : Heap) : h.get? h.objs.size = Option.none := by
  cases q : h.get? h.objs.size with
  | none => rfl
  | some o => exact absurd (Heap.lt_size q) (Nat.lt_irrefl _)
/-- a fresh address is out of the ground -/
theorem HRel.out (R : HRel B H h) {a : Addr} (e : h.get? a = Option.none) : Out B a := by
  refine ⟨fun t => ?_, ?_⟩
  · obtain ⟨q, hq, rfl⟩ := List.mem_map.mp t
    obtain ⟨ps, e', _⟩ := R.tab q hq
    rw [e] at e'; cases e'
  · cases q : B.h₀.get? a with
    | none => rfl
    | some o => rw [R.keep a o q] at e; cases e
theorem HRel.fresh (R : HRel B H h) : H h.objs.size = Option.none := by
  cases q : H h.objs.size with
  | none => rfl
  | some o => obtain ⟨_, x⟩ := R.obj _ _ q; obtain ⟨ob, e⟩ := x.there; exact absurd (Heap.lt_size e) (Nat.lt_irrefl _)
/-- a heap that has grown by unowned things (any rule that makes and changes nothing) -/
theorem Step.grow (R : HRel B H s.heap) {h' : Heap} {t : Nat} (k : ∀ a o, s.heap.get? a = some o → h'.get? a = some o) : Step B H s H { s with heap := h', toks := t } :=
  ⟨⟨_, _, rfl⟩, R.next (fun a o _ e => k a o e) (fun a o e _ _ => .inl (k a o e)) (fun a e n => absurd e n) (fun d fs e => ⟨fs, e⟩) fun a o e => .inl ⟨e, fun ob q => k a ob q⟩, fun a o e _ _ => .inl (k a o e), fun a e n => absurd e n, fun a e => e⟩
/-- a heap that has grown, one of the new objects being owned from now on -/
theorem Step.own (R : HRel B H s.heap) {h' : Heap} {t : Nat} {a : Addr} {o : CO} (k : ∀ a o, s.heap.get? a = some o → h'.get? a = some o) (fr : s.heap.get? a = Option.none)
    (x : RepO B (upd H a o) h' a o) : Step B H s (upd H a o) { s with heap := h', toks := t } := by
  have hn : H a = Option.none := by
    cases q : H a with
    | none => rfl
    | some z => obtain ⟨_, y⟩ := R.obj _ _ q; obtain ⟨ob, e⟩ := y.there; rw [fr] at e; cases e
  have nw : NewX H (upd H a o) s.heap := fun b e n => by
    by_cases hb : b = a
    · subst hb; exact fr
    · rw [upd_ne hb] at n; exact absurd e n
  refine ⟨⟨_, _, rfl⟩, R.next (fun a o _ e => k a o e) (fun a o e _ _ => .inl (k a o e)) nw (fun d fs e => ?_) fun b ob e => ?_, fun a o e _ _ => .inl (k a o e), nw, upd_dom⟩
  · by_cases hb : d = a
    · subst hb; rw [hn] at e; cases e
    · exact ⟨fs, by rw [upd_ne hb]; exact e⟩
  · by_cases hb : b = a
    · subst hb; rw [upd_self] at e; cases e; exact .inr ⟨R.out fr, x⟩
    · rw [upd_ne hb] at e; exact .inl ⟨e, fun ob q => k b ob q⟩
/-- an owned object is changed -/
theorem Step.set (R : HRel B H s.heap) {h' : Heap} {t : Nat} {a : Addr} {o o' : CO} (ha : H a = some o) (sb : Heap.SameBut a s.heap h') (kind : ∀ fs, o = .idict fs → ∃ fs', o' = .idict fs') (x : RepO B (upd H a o') h' a o') :
    Step B H s (upd H a o') { s with heap := h', toks := t } := by
  have nw : NewX H (upd H a o') s.heap := fun b e n => by
    by_cases hb : b = a
    · subst hb; rw [ha] at e; cases e
    · rw [upd_ne hb] at n; exact absurd e n
  have kn : ∀ b ob, s.heap.get? b = some ob → H b = Option.none → h'.get? b = some ob := fun b ob e n => (sb.2 b (fun q => by subst q; rw [ha] at n; cases n)).trans e
  refine ⟨⟨_, _, rfl⟩, R.next (fun b ob lt e => (sb.2 b (fun q => by subst q; have := (R.obj _ _ ha).1; rcases lt with lt | lt; rw [this.2] at lt; cases lt; exact this.1 lt)).trans e) (fun b ob e n _ => .inl (kn b ob e n)) nw (fun d fs e => ?_) fun b ob e => ?_, fun b ob e n _ => .inl (kn b ob e n), nw, upd_dom⟩
  · by_cases hb : d = a
    · subst hb; rw [ha] at e; cases e; obtain ⟨fs', q⟩ := kind fs rfl; exact ⟨fs', by rw [upd_self, q]⟩
    · exact ⟨fs, by rw [upd_ne hb]; exact e⟩
  · by_cases hb : b = a
    · subst hb; rw [upd_self] at e; cases e; exact .inr ⟨(R.obj _ _ ha).1, x⟩
    · rw [upd_ne hb] at e; exact .inl ⟨e, fun ob q => (sb.2 b hb).trans q⟩
section
variable {B : Bs} {H : CHeap} {h : Heap} {v fv : Value} {vs avs : List Value}
def InvV (B : Bs) (H : CHeap) (h : Heap) (v : Value) : CV → Prop
  | .none => v = .none
  | .bool b => v = .bool b
  | .int i => ∃ t, v = .int i t
  | .str x => ∃ t, v = .str x t
  | .ref a => v = .ref a
  | .glob a => v = .ref a
  | .bi id => v = .builtin id
  | .ty id => v = .type id
  | .frz l => ∃ a vs, v = .ref a ∧ B.h₀.IsList a vs.toArray ∧ IntsAre vs l
  | .tuple l => ∃ a vs n, v = .ref a ∧ Out B a ∧ H a = Option.none ∧ h.get? a = some { cls := .type "tuple", data := .seq vs.toArray n } ∧ RepVs B H h vs l
  | .meth f S => ∃ a self, v = .ref a ∧ Out B a ∧ H a = Option.none ∧ h.get? a = some (methodObj (.ref f) self) ∧ RepV B H h self S
  | _ => True
theorem RepV.inv {V : CV} (r : RepV B H h v V) : InvV B H h v V := by
  cases r with
  | frz hl hi => exact ⟨_, _, rfl, hl, hi⟩
  | tuple hn ha ho hv => exact ⟨_, _, _, rfl, hn, ha, ho, hv⟩
  | meth hn ha ho hs => exact ⟨_, _, rfl, hn, ha, ho, hs⟩
  | int i t => exact ⟨_, rfl⟩
  | str x t => exact ⟨_, rfl⟩
  | rng hn ha ho => trivial
  | clo hn ha ho hc hcn hco hcd hcq => trivial
  | _ => rfl
theorem RepV.none_inv (r : RepV B H h v .none) : v = .none := r.inv
theorem RepV.bool_inv {b : Bool} (r : RepV B H h v (.bool b)) : v = .bool b := r.inv
theorem RepV.int_inv {i : Int} (r : RepV B H h v (.int i)) : ∃ t, v = .int i t := r.inv
theorem RepV.str_inv {x : Str} (r : RepV B H h v (.str x)) : ∃ t, v = .str x t := r.inv
theorem RepV.ref_inv {a : Addr} (r : RepV B H h v (.ref a)) : v = .ref a := r.inv
theorem RepV.bi_inv {id : String} (r : RepV B H h v (.bi id)) : v = .builtin id := r.inv
theorem RepV.ty_inv {id : String} (r : RepV B H h v (.ty id)) : v = .type id := r.inv
theorem RepV.frz_inv {l : List Int} (r : RepV B H h v (.frz l)) : ∃ a vs, v = .ref a ∧ B.h₀.IsList a vs.toArray ∧ IntsAre vs l := r.inv
theorem RepV.tuple_inv {l : List CV} (r : RepV B H h v (.tuple l)) : ∃ a vs n, v = .ref a ∧ Out B a ∧ H a = Option.none ∧ h.get? a = some { cls := .type "tuple", data := .seq vs.toArray n } ∧ RepVs B H h vs l := r.inv
theorem RepV.meth_inv {f : Addr} {S : CV} (r : RepV B H h v (.meth f S)) : ∃ a self, v = .ref a ∧ Out B a ∧ H a = Option.none ∧ h.get? a = some (methodObj (.ref f) self) ∧ RepV B H h self S := r.inv
def InvVs (B : Bs) (H : CHeap) (h : Heap) (vs : List Value) : List CV → Prop
  | [] => vs = []
  | V :: Vs => ∃ v ws, vs = v :: ws ∧ RepV B H h v V ∧ RepVs B H h ws Vs
theorem RepVs.inv {Vs : List CV} (r : RepVs B H h vs Vs) : InvVs B H h vs Vs := by
  cases r with
  | nil => rfl
  | cons h1 h2 => exact ⟨_, _, rfl, h1, h2⟩
theorem RepVs.nil_inv (r : RepVs B H h vs []) : vs = [] := r.inv
theorem RepVs.cons_inv {V : CV} {Vs : List CV} (r : RepVs B H h vs (V :: Vs)) : ∃ v ws, vs = v :: ws ∧ RepV B H h v V ∧ RepVs B H h ws Vs := r.inv
theorem RepVs.one {V : CV} (r : RepVs B H h vs [V]) : ∃ v, vs = [v] ∧ RepV B H h v V := by
  obtain ⟨v, ws, rfl, h1, h2⟩ := r.cons_inv
  obtain rfl := h2.nil_inv
  exact ⟨v, rfl, h1⟩
theorem RepVs.two {V W : CV} (r : RepVs B H h vs [V, W]) : ∃ v w, vs = [v, w] ∧ RepV B H h v V ∧ RepV B H h w W := by
  obtain ⟨v, ws, rfl, h1, h2⟩ := r.cons_inv
  obtain ⟨w, rfl, h3⟩ := h2.one
  exact ⟨v, w, rfl, h1, h3⟩
end
theorem named2 {α β : Type} (P : α → β → Prop) : ∃ I : α → β → Prop, ∀ a b, I a b ↔ P a b := ⟨P, fun _ _ => Iff.rfl⟩
theorem named3 {α β γ : Type} (P : α → β → γ → Prop) : ∃ I : α → β → γ → Prop, ∀ a b c, I a b c ↔ P a b c := ⟨P, fun _ _ _ => Iff.rfl⟩
theorem named4 {α β γ δ : Type} (P : α → β → γ → δ → Prop) : ∃ I : α → β → γ → δ → Prop, ∀ a b c d, I a b c d ↔ P a b c d := ⟨P, fun _ _ _ _ => Iff.rfl⟩
end
section
/-- the world of one law -/
structure Wd where
  B : Bs
  K : Frag
  mg : Str → Option Value
  mb : Str → Option Value
  kin : K.In B.h₀
  g : B.h₀.Ns mainGlobals mg
  b : B.h₀.Ns builtinsNs mb
  bi : ∀ x : Str, x ≠ "__name__" → mb x = bootBuiltins x
  nolim : B.h₀.NoLimit
  cod : ∀ t ∈ B.tbs, CodeHd B.h₀ t.c t.P
  tuni : ∀ t ∈ B.tbs, ∀ t' ∈ B.tbs, t'.P = t.P → t' = t
  bmod : ∃ bm ob, mg "__builtins__" = some (.ref bm) ∧ bm ≠ builtinsNs ∧ B.h₀.get? bm = some ob ∧ ob.cls = .type "module" ∧ ob.dict = some builtinsNs ∧ ob.data = .plain
abbrev Wd.prog (X : Wd) : Program := X.B.prog
abbrev Wd.w (X : Wd) : World := X.B.w
abbrev Wd.M (X : Wd) : Model := model X.prog X.w

/-- the frames on the stack stand in the heap -/
def FrsAt (B : Bs) (A : Around) (H : CHeap) (h : Heap) : Prop := ∃ l, A.frames = some l ∧ ∀ env ∈ l, env.scope.kind ≠ .module ∧ ∃ L o es n, env.frame = some L ∧ Out B L ∧ H L = none ∧ h.get? L = some o ∧ o.data = .dict es n
theorem FrsAt.step {B : Bs} {A : Around} {H H' : CHeap} {s s' : Shared} (f : FrsAt B A H s.heap) (x : Step B H s H' s') : FrsAt B A H' s'.heap := by
  obtain ⟨l, e, hl⟩ := f
  refine ⟨l, e, fun env he => ?_⟩
  obtain ⟨k, L, o, es, n, a, b, c, d, d2⟩ := hl env he
  obtain ⟨o', e', d'⟩ := (x.keep _ _ d c b.1).ex
  exact ⟨k, L, o', es, n, a, b, none_of_new x.new c d, e', d'.trans d2⟩
theorem FrsAt.stepL {B : Bs} {A : Around} {L : Addr} {m : Loc} {H H' : CHeap} {s s' : Shared} (f : FrsAt B A H s.heap) (x : StepL B L H s H' s') (F : Frm B L m H' s'.heap) : FrsAt B A H' s'.heap := by
  obtain ⟨l, e, hl⟩ := f
  refine ⟨l, e, fun env he => ?_⟩
  obtain ⟨k, L', o, es, n, a, b, c, d, d2⟩ := hl env he
  by_cases q : L' = L
  · subst q
    obtain ⟨o', es', n', e1, e2⟩ := F.there
    exact ⟨k, L', o', es', n', a, b, F.free, e1, e2⟩
  · obtain ⟨o', e', d'⟩ := (x.keep _ _ d c b.1 q).ex
    exact ⟨k, L', o', es, n, a, b, none_of_new x.new c d, e', d'.trans d2⟩
theorem FrsAt.heap {B : Bs} {A : Around} {H : CHeap} {h h' : Heap} (f : FrsAt B A H h) (k : ∀ a o, h.get? a = some o → h'.get? a = some o) : FrsAt B A H h' := by
  obtain ⟨l, e, hl⟩ := f
  refine ⟨l, e, fun env he => ?_⟩
  obtain ⟨kk, L, o, es, n, a, b, c, d, d2⟩ := hl env he
  exact ⟨kk, L, o, es, n, a, b, c, k _ _ d, d2⟩
theorem FrsAt.to {B : Bs} {A A' : Around} {H : CHeap} {h : Heap} (f : FrsAt B A H h) (e : A'.frames = A.frames) : FrsAt B A' H h := let ⟨l, q, r⟩ := f; ⟨l, e.trans q, r⟩
abbrev excN : Value := .type "ZeroDivisionError"
def HideOk (B : Bs) (H : CHeap) (h : Heap) (hide : List Addr) : Prop := ∀ a ∈ hide, Out B a ∧ H a = none ∧ ∃ o es n, h.get? a = some o ∧ o.data = .dict es n
/-- an exception made at the heap h0, with the frames l above it -/
inductive ExcIn (l : List Env) (e : Addr) (h0 : Heap) (hide : List Addr) (h : Heap) : Prop
  | made (x : Heap.NewExc h0 h e "ZeroDivisionError") : ExcIn l e h0 hide h
  | fly {a0 : Value} (x : Heap.FlyingW (hideAll h0 hide) l e excN a0 h) (u : h0.UpToSlots h) : ExcIn l e h0 hide h
/-- an exception raised at the state sr, that has come to the state s' -/
def Exn (X : Wd) (A : Around) (e : Value) (Hr : CHeap) (sr s' : Shared) : Prop :=
  ∃ ea hide l, e = .ref ea ∧ A.frames = some l ∧ (∃ h t, s' = { sr with heap := h, toks := t }) ∧ HideOk X.B Hr sr.heap hide ∧ ExcIn l ea sr.heap hide s'.heap
def PE (X : Wd) (A : Around) (H : CHeap) (s : Shared) (E : CHeap → Prop) (e : Value) (s' : Shared) : Prop := ∃ Hr sr, Step X.B H s Hr sr ∧ E Hr ∧ Exn X A e Hr sr s'
theorem PE.step {X : Wd} {A : Around} {H H1 : CHeap} {s s1 s' : Shared} {E : CHeap → Prop} {e : Value} (x : PE X A H1 s1 E e s') (st : Step X.B H s H1 s1) : PE X A H s E e s' := let ⟨Hr, sr, a, b, c⟩ := x; ⟨Hr, sr, st.trans a, b, c⟩
theorem PE.to {X : Wd} {A A' : Around} {H : CHeap} {s s' : Shared} {E : CHeap → Prop} {e : Value} (q : A.frames = A'.frames) (x : PE X A H s E e s') : PE X A' H s E e s' := let ⟨Hr, sr, a, b, ea, hide, l, c1, c2, c3⟩ := x; ⟨Hr, sr, a, b, ea, hide, l, c1, q.symm.trans c2, c3⟩
theorem PE.no {X : Wd} {A : Around} {H : CHeap} {s s' : Shared} {e : Value} {P : Prop} (x : PE X A H s (fun _ => False) e s') : P := let ⟨_, _, _, b, _⟩ := x; b.elim
/-- an exception that the frame can note -/
def HeldSt (X : Wd) (A : Around) (env : Env) (e : Value) (Hr : CHeap) (sr s'' : Shared) : Prop :=
  ∃ ea hide l a0 L, e = .ref ea ∧ A.frames = some l ∧ env.frame = some L ∧ (∃ h t, s'' = { sr with heap := h, toks := t }) ∧ HideOk X.B Hr sr.heap hide ∧ Heap.HeldW (hideAll sr.heap hide) l ea excN a0 L s''.heap ∧ sr.heap.UpToSlots s''.heap
def Look (X : Wd) (A : Around) (env : Env) (e : Value) (Hr : CHeap) (sr s' : Shared) : Prop := wpAny X.M A (noteFrame e env) (fun _ s'' => HeldSt X A env e Hr sr s'') (fun _ _ => False) s'
/-- the frame stands on the stack -/
def FrsE (B : Bs) (A : Around) (env : Env) (H : CHeap) (h : Heap) : Prop := FrsAt B A H h ∧ ∃ outer, A.frames = some (env :: outer)
theorem frs_funs {B : Bs} {H : CHeap} {h : Heap} {l : List Env} (f : ∀ env ∈ l, env.scope.kind ≠ .module ∧ ∃ L o es n, env.frame = some L ∧ Out B L ∧ H L = none ∧ h.get? L = some o ∧ o.data = .dict es n) (hide : List Addr) (hin : ∀ env ∈ l, ∀ a, env.frame = some a → a ∈ hide) : h.FunFrames (hideAll h hide) l := by
  induction l with
  | nil => trivial
  | cons env r ih =>
    obtain ⟨k, L, o, es, n, a, b, c, d, d2⟩ := f env (.head _)
    exact ⟨k, ⟨L, o, a, hideAll_none _ (hin env (.head _) L a), d, fun vs q => by rw [d2] at q; cases q⟩, ih (fun e he => f e (.tail _ he)) fun e he => hin e (.tail _ he)⟩
theorem Exn.look {X : Wd} {A : Around} {env : Env} {e : Value} {Hr : CHeap} {sr s' : Shared} (x : Exn X A e Hr sr s') (f : FrsE X.B A env Hr sr.heap) : Look X A env e Hr sr s' := by
  obtain ⟨ea, hide, l, rfl, hl, ⟨h', tk, es'⟩, ok, ex⟩ := x
  obtain ⟨⟨l', hl', hfs⟩, outer, hA⟩ := f
  rw [hl] at hl' hA
  cases hl'; cases hA
  obtain ⟨_, L, _, _, _, hf, _⟩ := hfs env (.head _)
  subst es'
  cases ex with
  | made mx =>
    have hin : ∀ e ∈ env :: outer, ∀ a, e.frame = some a → a ∈ (env :: outer).filterMap (·.frame) := fun e he a ha => List.mem_filterMap.mpr ⟨e, he, ha⟩
    have hFF := frs_funs hfs _ hin
    have hst : (hideAll sr.heap ((env :: outer).filterMap (·.frame))).StaysIn sr.heap := fun b o q => of_hideAll _ q
    obtain ⟨ob, t, ht1, ht2, ht3⟩ := mx.there
    have hnew : (hideAll sr.heap ((env :: outer).filterMap (·.frame))).get? ea = none := by
      cases q : (hideAll sr.heap ((env :: outer).filterMap (·.frame))).get? ea with
      | none => rfl
      | some o => have := hst _ _ q; rw [mx.new] at this; cases this
    unfold Look noteFrame
    simp only [hf]
    refine wpAny_bind (wpAny_field ht1 ht3 (x := .none) rfl ?_)
    rw [if_neg (by decide)]
    refine wpAny_entryW (a0 := t) hl (hFF.of_keeps fun b o q _ => ⟨o, mx.keeps _ _ q, rfl⟩) hf ht1 (fun b o q => mx.keeps _ _ (hst _ _ q)) hnew ht3 (Nat.le_of_ble_eq_true rfl : 2 ≤ 6) rfl fun h2 hN => ?_
    obtain ⟨k1, k2, k3, k4⟩ := hN
    rw [ht2] at k3
    refine ⟨ea, _, _, _, L, rfl, hl, hf, ⟨h2, tk, rfl⟩, ?_, ⟨k1, hnew, k2, k3⟩, (Heap.UpToSlots.of_keeps mx.keeps).trans k4⟩
    intro a ha
    obtain ⟨e2, he2, ha2⟩ := List.mem_filterMap.mp ha
    obtain ⟨_, L2, o2, es2, n2, b1, b2, b3, b4, b5⟩ := hfs e2 he2
    rw [b1] at ha2; cases ha2
    exact ⟨b2, b3, o2, es2, n2, b4, b5⟩
  | fly fx u =>
    refine wpAny_looks_onW hl hf fx fun h2 hH u2 => ?_
    exact ⟨ea, hide, _, _, L, rfl, hl, hf, ⟨h2, tk, rfl⟩, ok, hH, u.trans u2⟩
/-- the frame is left -/
theorem Look.leave {X : Wd} {A : Around} {env : Env} {e : Value} {Hr : CHeap} {sr s' : Shared} {outer : List Env} (hA : A.frames = some outer) (x : Look X (A.deeper env) env e Hr sr s') : wpAny X.M (A.deeper env) (leaving env e) (fun _ s'' => Exn X A e Hr sr s'') (fun _ _ => False) s' := by
  unfold leaving
  refine wpAny_bind (wpAny_mono x (fun _ s2 ⟨ea, hide, l, a0, L, he, hl, hf, ⟨h2, t2, e2⟩, ok, hH, u⟩ => ?_) fun _ _ q => q)
  subst he
  rw [Around.frames_deeper hA] at hl
  cases hl
  refine wpAny_landsW hH fun h3 hF u3 => ?_
  obtain ⟨k1, k2, ⟨_, _, k3⟩, k4⟩ := hF
  subst e2
  exact ⟨ea, hide, outer, rfl, hA, ⟨h3, t2, rfl⟩, ok, .fly ⟨k1, k2, k3, k4⟩ (u.trans u3)⟩
section
variable (X : Wd) (A : Around) (E : CHeap → Prop) (EL : Loc → CHeap → Prop)
abbrev PV (H : CHeap) (s : Shared) (Q : CV → CHeap → Prop) (v : Value) (s' : Shared) : Prop := ∃ V H', RepV X.B H' s'.heap v V ∧ Step X.B H s H' s' ∧ Q V H'
abbrev PU {α : Type} (H : CHeap) (s : Shared) (Q : α → CHeap → Prop) (v : α) (s' : Shared) : Prop := ∃ H', Step X.B H s H' s' ∧ Q v H'
abbrev PVs (H : CHeap) (s : Shared) (Q : List CV → CHeap → Prop) (v : List Value) (s' : Shared) : Prop := ∃ V H', RepVs X.B H' s'.heap v V ∧ Step X.B H s H' s' ∧ Q V H'
/-- a tree that yields a value -/
def TV (t : Sem Value) (H : CHeap) (s : Shared) (Q : CV → CHeap → Prop) : Prop :=
  FrsAt X.B A H s.heap → wpAny X.M A t (PV X H s Q) (PE X A H s E) s
def TU {α : Type} (t : Sem α) (H : CHeap) (s : Shared) (Q : α → CHeap → Prop) : Prop :=
  FrsAt X.B A H s.heap → wpAny X.M A t (PU X H s Q) (PE X A H s E) s
def TVs (t : Sem (List Value)) (H : CHeap) (s : Shared) (Q : List CV → CHeap → Prop) : Prop :=
  FrsAt X.B A H s.heap → wpAny X.M A t (PVs X H s Q) (PE X A H s E) s
def EvE (env : Env) (e : Expr) (Q : CV → CHeap → Prop) (m : Loc) (H : CHeap) : Prop :=
  ∀ s, HRel X.B H s.heap → Frm X.B env.locals m H s.heap → TV X A (EL m) (eval e env) H s Q
def EvB (env : Env) (e : Expr) (Q : Bool → CHeap → Prop) (m : Loc) (H : CHeap) : Prop :=
  ∀ s, HRel X.B H s.heap → Frm X.B env.locals m H s.heap → TU X A (EL m) (isTrue e env (eval e env)) H s Q
def EvEs (env : Env) (es : List Expr) (Q : List CV → CHeap → Prop) (m : Loc) (H : CHeap) : Prop :=
  ∀ s pos, HRel X.B H s.heap → Frm X.B env.locals m H s.heap → TVs X A (EL m) (spliced (backTo pos (starEach es env))) H s Q
def Cl (f : CV) (args : List CV) (Q : CV → CHeap → Prop) (H : CHeap) : Prop :=
  ∀ s fv avs, HRel X.B H s.heap → RepV X.B H s.heap fv f → RepVs X.B H s.heap avs args → TV X A E (call fv avs) H s Q
def BinR (op : Operator) (a b : CV) (H : CHeap) (Q : CV → CHeap → Prop) : Prop :=
  ∀ s va vb, HRel X.B H s.heap → RepV X.B H s.heap va a → RepV X.B H s.heap vb b → TV X A E (binaryOp op va vb) H s Q
def InpR (op : Operator) (a b : CV) (H : CHeap) (Q : CV → CHeap → Prop) : Prop :=
  ∀ s va vb, HRel X.B H s.heap → RepV X.B H s.heap va a → RepV X.B H s.heap vb b → TV X A E (inplaceOp op va vb) H s Q
def CmpR (op : CmpOp) (a b : CV) (H : CHeap) (Q : CV → CHeap → Prop) : Prop :=
  ∀ s va vb, HRel X.B H s.heap → RepV X.B H s.heap va a → RepV X.B H s.heap vb b → TV X A E (compareOp op va vb) H s Q
def UnR (op : UnaryOp) (a : CV) (H : CHeap) (Q : CV → CHeap → Prop) : Prop :=
  ∀ s va, HRel X.B H s.heap → RepV X.B H s.heap va a → TV X A E (unaryOp op va) H s Q
def TrR (a : CV) (H : CHeap) (Q : Bool → CHeap → Prop) : Prop :=
  ∀ s va, HRel X.B H s.heap → RepV X.B H s.heap va a → TU X A E (truthy va) H s Q
def SubR (value slice : Expr) (o i : CV) (H : CHeap) (Q : CV → CHeap → Prop) : Prop :=
  ∀ s vo vi, HRel X.B H s.heap → RepV X.B H s.heap vo o → RepV X.B H s.heap vi i → TV X A E (subscriptTail value slice vo vi) H s Q
def AtR (o : CV) (n : Str) (H : CHeap) (Q : CV → CHeap → Prop) : Prop :=
  ∀ s vo, HRel X.B H s.heap → RepV X.B H s.heap vo o → TV X A E (getAttr vo n true) H s Q
end

section
variable {X : Wd} {A : Around} {E : CHeap → Prop} {EL : Loc → CHeap → Prop} {env : Env} {m : Loc} {H : CHeap} {s : Shared} {Q : CV → CHeap → Prop}

theorem TV.mono {t : Sem Value} {Q' : CV → CHeap → Prop} (h : TV X A E t H s Q) (k : ∀ V H', Q V H' → Q' V H') : TV X A E t H s Q' :=
  fun hfr => wpAny_mono (h hfr) (fun _ _ ⟨V, H', a, b, c⟩ => ⟨V, H', a, b, k _ _ c⟩) fun _ _ e => e
theorem EvE.mono {e : Expr} {Q' : CV → CHeap → Prop} (h : EvE X A EL env e Q m H) (k : ∀ V H', Q V H' → Q' V H') : EvE X A EL env e Q' m H :=
  fun s R F => (h s R F).mono k
/-- what stands behind a step, read from its start -/
theorem TV.after {t : Sem Value} {H1 : CHeap} {s1 : Shared} (h : TV X A E t H1 s1 Q) (hfr : FrsAt X.B A H s.heap) (st : Step X.B H s H1 s1) : wpAny X.M A t (PV X H s Q) (PE X A H s E) s1 :=
  wpAny_mono (h (hfr.step st)) (fun _ _ ⟨V2, H2, a2, b2, c2⟩ => ⟨V2, H2, a2, st.trans b2, c2⟩) fun _ _ e => e.step st
/-- a first tree, then another -/
theorem TV.bind {t : Sem Value} {k : Value → Sem Value} (h : TV X A E t H s fun V H' => ∀ v s', RepV X.B H' s'.heap v V → HRel X.B H' s'.heap → Step X.B H s H' s' → TV X A E (k v) H' s' Q) : TV X A E (t >>= k) H s Q :=
  fun hfr => wpAny_bind (wpAny_mono (h hfr) (fun v s' ⟨V, H', a, b, c⟩ => (c v s' a b.rel b).after hfr b) fun _ _ e => e)

-- constants
theorem ev_int {i : Int} {k : Nat} {p : Pos} (h : Q (.int i) H) : EvE X A EL env (.Constant (.int i) k p) Q m H := fun s R F hfr =>
  wpAny_mkInt ⟨_, _, .int i _, Step.tok R _, h⟩
theorem ev_str {x : Str} {k : Nat} {p : Pos} (h : Q (.str x) H) : EvE X A EL env (.Constant (.str x) k p) Q m H := fun s R F hfr =>
  wpAny_mkText ⟨_, _, .str x _, Step.tok R _, h⟩
theorem ev_none {k : Nat} {p : Pos} (h : Q .none H) : EvE X A EL env (.Constant .none k p) Q m H := fun s R F hfr =>
  wpAny_pure ⟨_, _, .none, Step.refl R, h⟩
-- names
theorem orel_some {R : Value → CV → Prop} {o : Option Value} {V : CV} (x : ORel R o (some V)) : ∃ v, o = some v ∧ R v V := by
  cases o with
  | none => exact x.elim
  | some v => exact ⟨v, rfl, x⟩
theorem ev_local {x : Str} {p : Pos} {V : CV} (hv : m.lookup x = some V) (h : Q V H) (hk : env.scope.kind = .function) (hl : env.kindOf x = some .local) (hd : (x == ("__debug__" : Str)) = false) : EvE X A EL env (.Name x p) Q m H := fun s R F hfr => by
  obtain ⟨mr, hn, r⟩ := F.ns
  have rx := r x
  rw [hv] at rx
  obtain ⟨v, e, rv⟩ := orel_some rx
  exact wpAny_Name (wpAny_loadName_local hk hl hn e ⟨V, H, rv, Step.refl R, h⟩) hd
theorem ev_cell {x : Str} {p : Pos} {V : CV} {c : Addr} (hc : env.cells.lookup x = some c) (hv : H c = some (.cell (some V))) (h : Q V H) (hk : env.scope.kind = .function) (hl : env.kindOf x = some .cell) (hd : (x == ("__debug__" : Str)) = false) : EvE X A EL env (.Name x p) Q m H := fun s R F hfr => by
  obtain ⟨_, v', o, e, ed, r⟩ := R.obj _ _ hv
  obtain ⟨v, rfl, rv⟩ := orel_some r
  exact wpAny_Name (wpAny_loadName_cell hk hl hc ⟨_, e, ed⟩ ⟨V, H, rv, Step.refl R, h⟩) hd
theorem ev_free {x : Str} {p : Pos} {V : CV} {c : Addr} (hc : env.cells.lookup x = some c) (hv : H c = some (.cell (some V))) (h : Q V H) (hk : env.scope.kind = .function) (hl : env.kindOf x = some .free) (hd : (x == ("__debug__" : Str)) = false) (hd2 : (x == ("__classdict__" : Str)) = false) : EvE X A EL env (.Name x p) Q m H := fun s R F hfr => by
  obtain ⟨_, v', o, e, ed, r⟩ := R.obj _ _ hv
  obtain ⟨v, rfl, rv⟩ := orel_some r
  exact wpAny_Name (wpAny_loadName_free hk hl hc ⟨_, e, ed⟩ ⟨V, H, rv, Step.refl R, h⟩ hd2) hd
inductive GV : Value → CV → Prop
  | ref (a : Addr) : GV (.ref a) (.glob a)
  | int (i : Int) (t : Tok) : GV (.int i t) (.int i)
  | bi (id : String) : GV (.builtin id) (.bi id)
  | ty (id : String) : GV (.type id) (.ty id)
theorem GV.rep {B : Bs} {h : Heap} {v : Value} {V : CV} (x : GV v V) : RepV B H h v V := by cases x <;> constructor
theorem wpAny_loadGlobal_some {E : Value → Shared → Prop} {v : Value} {x : Str} {P : Value → Shared → Prop} (R : HRel X.B H s.heap) (hk : env.scope.kind = .function) (hl : env.kindOf x = some .globalImplicit) (hg : env.globals = mainGlobals) (hv : X.mg x = some v) (h : P v s) : wpAny X.M A (loadName env x) P E s :=
  ks_loadName_global hk hl (loadGlobal_global (hg ▸ X.g.keeps R.keep) hv h)
theorem wpAny_loadGlobal_none {E : Value → Shared → Prop} {v : Value} {x : Str} {P : Value → Shared → Prop} (R : HRel X.B H s.heap) (hk : env.scope.kind = .function) (hl : env.kindOf x = some .globalImplicit) (hg : env.globals = mainGlobals) (hb : env.builtins = builtinsNs) (hm : X.mg x = none) (hx : x ≠ "__name__") (hv : bootBuiltins x = some v) (h : P v s) : wpAny X.M A (loadName env x) P E s :=
  ks_loadName_global hk hl (loadGlobal_builtin (hg ▸ X.g.keeps R.keep) hm (hb ▸ X.b.keeps R.keep) ((X.bi x hx).trans hv) h)
theorem ev_glob {x : Str} {p : Pos} {v : Value} {V : CV} (hn : nsIn X.K mainGlobals x = some (some v)) (gv : GV v V) (h : Q V H) (hk : env.scope.kind = .function) (hl : env.kindOf x = some .globalImplicit) (hg : env.globals = mainGlobals) (hd : (x == ("__debug__" : Str)) = false) : EvE X A EL env (.Name x p) Q m H := fun s R F hfr =>
  wpAny_Name (wpAny_loadGlobal_some R hk hl hg (mg_of X.kin X.g hn) ⟨V, H, gv.rep, Step.refl R, h⟩) hd
theorem ev_builtin {x : Str} {p : Pos} {v : Value} {V : CV} (hn : nsIn X.K mainGlobals x = some none) (hv : bootBuiltins x = some v) (gv : GV v V) (h : Q V H) (hk : env.scope.kind = .function) (hl : env.kindOf x = some .globalImplicit) (hg : env.globals = mainGlobals) (hb : env.builtins = builtinsNs) (hx : x ≠ "__name__") (hd : (x == ("__debug__" : Str)) = false) : EvE X A EL env (.Name x p) Q m H := fun s R F hfr =>
  wpAny_Name (wpAny_loadGlobal_none R hk hl hg hb (mg_none_of X.kin X.g hn) hx hv ⟨V, H, gv.rep, Step.refl R, h⟩) hd
-- operations
theorem ev_bin {l r : Expr} {op : Operator} {p : Pos} (h : EvE X A EL env l (fun a H1 => EvE X A EL env r (fun b H2 => BinR X A (EL m) op a b H2 Q) m H1) m H) : EvE X A EL env (.BinOp l op r p) Q m H := fun s R F => by
  show TV X A (EL m) (eval l env >>= fun a => holding [a] (eval r env) >>= fun b => standAt p >>= fun _ => operate [a, b] (binaryOp op a b)) H s Q
  refine TV.bind ((h s R F).mono fun a H1 h1 v s1 rv R1 st1 => ?_)
  refine TV.bind fun hfr => wpAny_holding (((h1 s1 R1 (st1.frm R F)).mono fun b H2 h2 v2 s2 rv2 R2 st2 => ?_) hfr)
  exact fun hfr => wpAny_bind (wpAny_standAt (wpAny_operate' (h2 s2 v v2 R2 (st2.val rv) rv2 hfr)))
theorem ev_un {x : Expr} {op : UnaryOp} {p : Pos} (h : EvE X A EL env x (fun a H1 => UnR X A (EL m) op a H1 Q) m H) : EvE X A EL env (.UnaryOp op x p) Q m H := fun s R F => by
  show TV X A (EL m) (eval x env >>= fun a => standAt p >>= fun _ => holding [a] (unaryOp op a)) H s Q
  refine TV.bind ((h s R F).mono fun a H1 h1 v s1 rv R1 st1 => ?_)
  exact fun hfr => wpAny_bind (wpAny_standAt (wpAny_holding (h1 s1 v R1 rv hfr)))
end
end
section
section
variable {X : Wd} {A : Around} {E : CHeap → Prop} {EL : Loc → CHeap → Prop} {env : Env} {m : Loc} {H : CHeap} {s : Shared} {Q : CV → CHeap → Prop} {QB : Bool → CHeap → Prop}

theorem TU.mono {α : Type} {t : Sem α} {Q Q' : α → CHeap → Prop} (h : TU X A E t H s Q) (k : ∀ v H', Q v H' → Q' v H') : TU X A E t H s Q' :=
  fun hfr => wpAny_mono (h hfr) (fun _ _ ⟨H', b, c⟩ => ⟨H', b, k _ _ c⟩) fun _ _ e => e
theorem TU.after {α : Type} {t : Sem α} {Q : α → CHeap → Prop} {H1 : CHeap} {s1 : Shared} (h : TU X A E t H1 s1 Q) (hfr : FrsAt X.B A H s.heap) (st : Step X.B H s H1 s1) : wpAny X.M A t (PU X H s Q) (PE X A H s E) s1 :=
  wpAny_mono (h (hfr.step st)) (fun _ _ ⟨H2, b2, c2⟩ => ⟨H2, st.trans b2, c2⟩) fun _ _ e => e.step st
theorem EvB.mono {e : Expr} {Q' : Bool → CHeap → Prop} (h : EvB X A EL env e QB m H) (k : ∀ V H', QB V H' → Q' V H') : EvB X A EL env e Q' m H :=
  fun s R F => (h s R F).mono k
theorem TV.bindU {α : Type} {t : Sem Value} {k : Value → Sem α} {Q : α → CHeap → Prop} (h : TV X A E t H s fun V H' => ∀ v s', RepV X.B H' s'.heap v V → HRel X.B H' s'.heap → Step X.B H s H' s' → TU X A E (k v) H' s' Q) : TU X A E (t >>= k) H s Q :=
  fun hfr => wpAny_bind (wpAny_mono (h hfr) (fun v s' ⟨V, H', a, b, c⟩ => (c v s' a b.rel b).after hfr b) fun _ _ e => e)
theorem TU.bindV {α : Type} {t : Sem α} {k : α → Sem Value} (h : TU X A E t H s fun v H' => ∀ s', HRel X.B H' s'.heap → Step X.B H s H' s' → TV X A E (k v) H' s' Q) : TV X A E (t >>= k) H s Q :=
  fun hfr => wpAny_bind (wpAny_mono (h hfr) (fun v s' ⟨H', b, c⟩ => (c s' b.rel b).after hfr b) fun _ _ e => e)

theorem TV.hold {vs : List Value} {t : Sem Value} (h : TV X A E t H s Q) : TV X A E (holding vs t) H s Q := fun hfr => wpAny_holding (h hfr)
theorem TV.pos {p : Pos} {t : Sem Value} (h : TV X A E t H s Q) : TV X A E (standAt p >>= fun _ => t) H s Q := fun hfr => wpAny_bind (wpAny_standAt (h hfr))
theorem TV.oper {vs : List Value} {t : Sem Value} (h : TV X A E t H s Q) : TV X A E (operate vs t) H s Q := fun hfr => wpAny_operate' (h hfr)
theorem TU.hold {α : Type} {vs : List Value} {t : Sem α} {Q : α → CHeap → Prop} (h : TU X A E t H s Q) : TU X A E (holding vs t) H s Q := fun hfr => wpAny_holding (h hfr)
theorem TU.pos {α : Type} {p : Pos} {t : Sem α} {Q : α → CHeap → Prop} (h : TU X A E t H s Q) : TU X A E (standAt p >>= fun _ => t) H s Q := fun hfr => wpAny_bind (wpAny_standAt (h hfr))
-- comparisons
theorem ev_cmp {l r : Expr} {op : CmpOp} {p : Pos} (h : EvE X A EL env l (fun a H1 => EvE X A EL env r (fun b H2 => CmpR X A (EL m) op a b H2 Q) m H1) m H) (hm : markedBehindIn op r (eval r env) = eval r env) : EvE X A EL env (.Compare l [op] [r] p) Q m H := fun s R F => by
  show TV X A (EL m) (eval l env >>= fun a => holding [a] (markedBehindIn op r (eval r env)) >>= fun b => standAt p >>= fun _ => operate [a, b] (compareOp op a b)) H s Q
  rw [hm]
  refine TV.bind ((h s R F).mono fun a H1 h1 v s1 rv R1 st1 => ?_)
  refine TV.bind (TV.hold ((h1 s1 R1 (st1.frm R F)).mono fun b H2 h2 v2 s2 rv2 R2 st2 => ?_))
  exact TV.pos (TV.oper (h2 s2 v v2 R2 (st2.val rv) rv2))
theorem evb_cmp {l r : Expr} {op : CmpOp} {p : Pos} (h : EvE X A EL env l (fun a H1 => EvE X A EL env r (fun b H2 => CmpR X A (EL m) op a b H2 fun c H3 => TrR X A (EL m) c H3 QB) m H1) m H) (hm : markedBehindIn op r (eval r env) = eval r env) : EvB X A EL env (.Compare l [op] [r] p) QB m H := fun s R F => by
  show TU X A (EL m) (eval l env >>= fun a => holding [a] (markedBehindIn op r (eval r env)) >>= fun b => standAt p >>= fun _ => operate [a, b] (compareOp op a b) >>= fun c => holding [c] (truthy c)) H s QB
  rw [hm]
  refine TV.bindU ((h s R F).mono fun a H1 h1 v s1 rv R1 st1 => ?_)
  refine TV.bindU (TV.hold ((h1 s1 R1 (st1.frm R F)).mono fun b H2 h2 v2 s2 rv2 R2 st2 => ?_))
  refine TU.pos ?_
  exact TV.bindU (TV.oper ((h2 s2 v v2 R2 (st2.val rv) rv2).mono fun c H3 h3 v3 s3 rv3 R3 st3 => TU.hold (h3 s3 v3 R3 rv3)))
theorem tr_bool {b : Bool} (h : QB b H) : TrR X A E (.bool b) H QB := fun s va R r hfr => by obtain rfl := r.bool_inv; exact wpAny_pure ⟨H, Step.refl R, h⟩
/-- a test that is a plain value -/
theorem evb_val {e : Expr} (h : EvE X A EL env e (fun a H1 => TrR X A (EL m) a H1 QB) m H) (he : isTrue e env (eval e env) = (do let v ← eval e env; standAt e.pos; holding [v] (truthy v))) : EvB X A EL env e QB m H := fun s R F => by
  rw [he]
  refine TV.bindU ((h s R F).mono fun a H1 h1 v s1 rv R1 st1 => ?_)
  exact TU.pos (TU.hold (h1 s1 v R1 rv))
theorem evb_and_nil {p : Pos} (h : QB true H) : EvB X A EL env (.BoolOp .And [] p) QB m H := fun s R F hfr => isTrue_and_nil ⟨H, Step.refl R, h⟩
theorem evb_or_nil {p : Pos} (h : QB false H) : EvB X A EL env (.BoolOp .Or [] p) QB m H := fun s R F hfr => isTrue_or_nil ⟨H, Step.refl R, h⟩
theorem evb_and {x : Expr} {rest : List Expr} {p : Pos} (h : EvB X A EL env x (fun c H1 => (c = true → EvB X A EL env (.BoolOp .And rest p) QB m H1) ∧ (c = false → QB false H1)) m H) : EvB X A EL env (.BoolOp .And (x :: rest) p) QB m H := fun s R F hfr => by
  refine isTrue_and (wpAny_mono (h s R F hfr) (fun c s1 ⟨H1, st, h1⟩ => ?_) fun _ _ e => e)
  cases c with
  | true => exact (h1.1 rfl s1 st.rel (st.frm R F)).after hfr st
  | false => exact ⟨H1, st, h1.2 rfl⟩
theorem evb_or {x : Expr} {rest : List Expr} {p : Pos} (h : EvB X A EL env x (fun c H1 => (c = false → EvB X A EL env (.BoolOp .Or rest p) QB m H1) ∧ (c = true → QB true H1)) m H) : EvB X A EL env (.BoolOp .Or (x :: rest) p) QB m H := fun s R F hfr => by
  refine isTrue_or (wpAny_mono (h s R F hfr) (fun c s1 ⟨H1, st, h1⟩ => ?_) fun _ _ e => e)
  cases c with
  | false => exact (h1.1 rfl s1 st.rel (st.frm R F)).after hfr st
  | true => exact ⟨H1, st, h1.2 rfl⟩
theorem ev_ifexp {t a b : Expr} {p : Pos} (h : EvB X A EL env t (fun c H1 => (c = true → EvE X A EL env a Q m H1) ∧ (c = false → EvE X A EL env b Q m H1)) m H) : EvE X A EL env (.IfExp t a b p) Q m H := fun s R F hfr => by
  refine IfExp_ (wpAny_mono (h s R F hfr) (fun c s1 ⟨H1, st, h1⟩ => ?_) fun _ _ e => e)
  cases c with
  | true => exact (h1.1 rfl s1 st.rel (st.frm R F)).after hfr st
  | false => exact (h1.2 rfl s1 st.rel (st.frm R F)).after hfr st
/-- x and y, as a value -/
theorem ev_and2 {a b : Expr} {p : Pos} (h : EvE X A EL env a (fun V H1 => TrR X A (EL m) V H1 fun c H2 => (c = true → EvE X A EL env b Q m H2) ∧ (c = false → Q V H2)) m H) : EvE X A EL env (.BoolOp .And [a, b] p) Q m H := fun s R F => by
  show TV X A (EL m) (eval a env >>= fun v => standAt p >>= fun _ => holding [v] (truthy v) >>= fun t => match BoolOp.And, t with | .And, false | .Or, true => pure v | _, _ => eval b env) H s Q
  refine TV.bind ((h s R F).mono fun a H1 h1 v s1 rv R1 st1 => ?_)
  refine TV.pos ?_
  refine TU.bindV (TU.hold ((h1 s1 v R1 rv).mono fun c H2 h2 s2 R2 st2 => ?_))
  cases c with
  | true => exact h2.1 rfl s2 R2 (st2.frm R1 (st1.frm R F))
  | false => exact fun _ => wpAny_pure ⟨_, H2, st2.val rv, Step.refl R2, h2.2 rfl⟩
-- lists of expressions
theorem evs_nil {Q : List CV → CHeap → Prop} (h : Q [] H) : EvEs X A EL env [] Q m H := fun s pos R F hfr => wpAny_pure ⟨[], H, .nil, Step.refl R, h⟩
theorem evs_cons {e : Expr} {es : List Expr} {Q : List CV → CHeap → Prop} (h : EvE X A EL env e (fun V H1 => EvEs X A EL env es (fun Vs H2 => Q (V :: Vs) H2) m H1) m H) (he : starEach (e :: es) env = (false, eval e env) :: starEach es env) : EvEs X A EL env (e :: es) Q m H := fun s pos R F hfr => by
  rw [he]
  show wpAny X.M A (eval e env >>= fun v => pure [v] >>= fun here => holding here (spliced (backTo pos (starEach es env))) >>= fun vs => pure (here ++ vs)) _ _ s
  refine wpAny_bind (wpAny_mono (h s R F hfr) (fun v s1 ⟨V, H1, rv, st1, h1⟩ => ?_) fun _ _ e => e)
  refine wpAny_bind (wpAny_pure ?_)
  refine wpAny_bind (wpAny_holding (wpAny_mono (h1 s1 pos st1.rel (st1.frm R F) (hfr.step st1)) (fun vs s2 ⟨Vs, H2, rvs, st2, h2⟩ => ?_) fun _ _ e => e.step st1))
  exact wpAny_pure ⟨V :: Vs, H2, .cons (st2.val rv) rvs, st1.trans st2, h2⟩
theorem repVs_len {B : Bs} {h : Heap} : ∀ {vs : List Value} {Vs : List CV}, RepVs B H h vs Vs → vs.length = Vs.length
  | _, _, .nil => rfl
  | _, _, .cons _ hr => by simp only [List.length_cons, repVs_len hr]
/-- a new list that the call owns -/
theorem newList_own {vs : List Value} {Vs : List CV} (R : HRel X.B H s.heap) (r : RepVs X.B H s.heap vs Vs) (hz : Vs.length ≤ sizeLine) (h : ∀ a, H a = none → Q (.ref a) (upd H a (.list Vs))) : TV X A E (newList vs) H s Q := fun hfr => by
  refine wpAny_newList ?_ (by rw [repVs_len r]; exact hz)
  have st : Step X.B H s (upd H s.heap.objs.size (.list Vs)) { s with heap := s.heap.push { cls := .type "list", data := .seq vs.toArray }, toks := s.toks } := by
    refine Step.own R (fun a o e => Heap.get?_push_of_some _ e) (size_none _) ⟨vs, 0, Heap.get?_push_size _ rfl, ?_⟩
    refine r.to (fun a o e _ _ => .inl (Heap.get?_push_of_some _ e)) fun b e n => ?_
    by_cases hb : b = s.heap.objs.size
    · subst hb; exact size_none _
    · rw [upd_ne hb] at n; exact absurd e n
  exact ⟨.ref _, _, .ref _, st, h _ R.fresh⟩
theorem newTuple_rep {vs : List Value} {Vs : List CV} (R : HRel X.B H s.heap) (r : RepVs X.B H s.heap vs Vs) (hz : Vs.length ≤ sizeLine) (h : Q (.tuple Vs) H) : TV X A E (newTuple vs) H s Q := fun hfr => by
  refine wpAny_newTuple ?_ (by rw [repVs_len r]; exact hz)
  have st : Step X.B H s H { s with heap := s.heap.push { cls := .type "tuple", data := .seq vs.toArray }, toks := s.toks } := Step.push R _ _
  exact ⟨.tuple Vs, H, .tuple (R.out (size_none _)) R.fresh (Heap.get?_push_size _ rfl) (st.vals r), st, h⟩
theorem ev_list {es : List Expr} {p : Pos} (h : EvEs X A EL env es (fun Vs H1 => Vs.length ≤ sizeLine ∧ ∀ a, H1 a = none → Q (.ref a) (upd H1 a (.list Vs))) m H) : EvE X A EL env (.List es p) Q m H := fun s R F hfr => by
  refine List_ (wpAny_mono (h s p R F hfr) (fun vs s1 ⟨Vs, H1, rv, st1, hz, h1⟩ => ?_) fun _ _ e => e)
  exact (newList_own st1.rel rv hz h1).after hfr st1
theorem ev_tuple {es : List Expr} {k : Nat} {p : Pos} (h : EvEs X A EL env es (fun Vs H1 => Vs.length ≤ sizeLine ∧ Q (.tuple Vs) H1) m H) : EvE X A EL env (.Tuple es k p) Q m H := fun s R F hfr => by
  refine Tuple_ (wpAny_mono (h s p R F hfr) (fun vs s1 ⟨Vs, H1, rv, st1, hz, h1⟩ => ?_) fun _ _ e => e)
  exact (newTuple_rep st1.rel rv hz h1).after hfr st1
-- calls
def Callable (X : Wd) : CV → Prop
  | .glob a => keepIn X.K (.ref a) = true
  | .clo _ _ => True
  | .meth f _ => fnIn X.K f = true
  | .bi _ => True
  | .ty _ => True
  | _ => False
theorem keeper_of {h : Heap} {f : CV} {fv : Value} (c : Callable X f) (R : HRel X.B H h) (r : RepV X.B H h fv f) : ∃ k, (k = Keeper.frame ∨ k = Keeper.machine ∨ k = Keeper.boundFrame) ∧ Looks X.M h (keeperOf fv) k := by
  have Kh : X.K.In h := X.kin.keeps R.keep
  cases r with
  | glob a => exact keeps_K c h Kh
  | clo hn ha ho _ _ _ _ _ => exact ⟨.frame, .inl rfl, (Looks.ld (part := none) ho).andThen .now⟩
  | meth hn ha ho hs => exact keeps_M c h ⟨ho, Kh⟩
  | bi id => exact ⟨.machine, .inr (.inl rfl), Looks.of_pure rfl⟩
  | ty id => exact ⟨.machine, .inr (.inl rfl), Looks.of_pure rfl⟩
  | _ => exact c.elim
theorem callWith_cl {pos : Pos} {f : CV} {fv : Value} {first : List Value} {Fs : List CV} {args : List Expr} (c : Callable X f) (R : HRel X.B H s.heap) (F : Frm X.B env.locals m H s.heap) (r : RepV X.B H s.heap fv f) (rf : RepVs X.B H s.heap first Fs)
    (h : EvEs X A EL env args (fun as H1 => Cl X A (EL m) f (Fs ++ as) Q H1) m H) (hp : (starEach args env).all (fun x => !x.1) = true) : TV X A (EL m) (callWith pos fv first (backTo pos (starEach args env)) []) H s Q := fun hfr => by
  have app : ∀ {h : Heap} {H : CHeap} {a : List Value} {A' : List CV} {b : List Value} {B' : List CV}, RepVs X.B H h a A' → RepVs X.B H h b B' → RepVs X.B H h (a ++ b) (A' ++ B') := by
    intro h H a A' b B' ra rb
    induction a generalizing A' with
    | nil => cases ra; exact rb
    | cons v vs ih => cases ra with | cons h1 h2 => exact .cons h1 (ih h2)
  have hpl : ((backTo pos (starEach args env)).any (·.1) || ([] : List (Option Str × Sem Value)).any (·.1.isNone)) = false := by
    rw [List.any_nil, Bool.or_false]
    unfold backTo
    rw [List.any_map, List.any_eq_false]
    intro x hx
    have := List.all_eq_true.mp hp x hx
    simpa using this
  refine callWith_of (P := fun hh => ∃ H1, HRel X.B H1 hh ∧ RepV X.B H1 hh fv f) hpl (fun hh ⟨H1, R1, r1⟩ => keeper_of c R1 r1) ?_
  have fin := h s pos R F hfr
  have go : ∀ vs s1 Vs H1, RepVs X.B H1 s1.heap vs Vs → Step X.B H s H1 s1 → Cl X A (EL m) f (Fs ++ Vs) Q H1 → (∃ H1, HRel X.B H1 s1.heap ∧ RepV X.B H1 s1.heap fv f) ∧ wpAny X.M A (call fv (first ++ vs) []) (PV X H s Q) (PE X A H s (EL m)) s1 := fun vs s1 Vs H1 rv st cl =>
    ⟨⟨H1, st.rel, st.val r⟩, (cl s1 fv (first ++ vs) st.rel (st.val r) (app (st.vals rf) rv)).after hfr st⟩
  cases args with
  | nil =>
    have z : wpAny X.M A (pure ([] : List Value)) (PVs X H s fun V H' => Cl X A (EL m) f (Fs ++ V) Q H') (PE X A H s (EL m)) s := fin
    intro Γ p hΓ
    obtain ⟨V, H1, rv, st, cl⟩ : ∃ V H', RepVs X.B H' s.heap ([] : List Value) V ∧ Step X.B H s H' s ∧ Cl X A (EL m) f (Fs ++ V) Q H' := z Γ p hΓ
    exact evalArgs_nil3 (go [] s V H1 rv st cl) Γ p hΓ
  | cons e es =>
    cases hs : starEach (e :: es) env with
    | nil => cases e <;> cases hs
    | cons y ys =>
      obtain ⟨b, t⟩ := y
      have hb : b = false := by
        rw [hs] at hp
        simpa using (List.all_eq_true.mp hp (b, t) (.head _))
      subst hb
      rw [hs] at fin
      exact evalArgs_plain (wpAny_mono fin (fun vs s1 ⟨Vs, H1, rv, st, cl⟩ => go vs s1 Vs H1 rv st cl) fun _ _ e => e)
theorem ev_call {x : Str} {np p : Pos} {args : List Expr} (h : EvE X A EL env (.Name x np) (fun f H1 => Callable X f ∧ EvEs X A EL env args (fun as H2 => Cl X A (EL m) f as Q H2) m H1) m H) (hp : (starEach args env).all (fun x => !x.1) = true) : EvE X A EL env (.Call (.Name x np) args [] p) Q m H := fun s R F => by
  show TV X A (EL m) (eval (.Name x np) env >>= fun f => callWith p f [] (backTo p (starEach args env)) []) H s Q
  refine TV.bind ((h s R F).mono fun f H1 ⟨c, h1⟩ v s1 rv R1 st1 => ?_)
  exact callWith_cl (Fs := []) c R1 (st1.frm R F) rv .nil h1 hp
abbrev PM (X : Wd) (H : CHeap) (s : Shared) (Q : CV → List CV → CHeap → Prop) (r : Value × List Value) (s' : Shared) : Prop := ∃ F Fs H', RepV X.B H' s'.heap r.1 F ∧ RepVs X.B H' s'.heap r.2 Fs ∧ Step X.B H s H' s' ∧ Q F Fs H'
def MethR (X : Wd) (A : Around) (E : CHeap → Prop) (o : CV) (name : Str) (H : CHeap) (Q : CV → List CV → CHeap → Prop) : Prop :=
  ∀ s vo pl, HRel X.B H s.heap → RepV X.B H s.heap vo o → wpAny X.M A (getMethod vo name pl) (PM X H s Q) (PE X A H s E) s
theorem ev_meth {o : Expr} {name : Str} {ap p : Pos} {args : List Expr} (h : EvE X A EL env o (fun O H1 => MethR X A (EL m) O name H1 fun f Fs H2 => Callable X f ∧ EvEs X A EL env args (fun as H3 => Cl X A (EL m) f (Fs ++ as) Q H3) m H2) m H)
    (hbase : attributeBase o name env (eval o env) = eval o env) (hline : (ap.endLine == p.line) = true) (hp : (starEach args env).all (fun x => !x.1) = true) (hl : (args.length < 30)) : EvE X A EL env (.Call (.Attribute o name ap) args [] p) Q m H := fun s R F => by
  show TV X A (EL m) (attributeBase o name env (eval o env) >>= fun ov => standAt ap.atName >>= fun _ => methodCall o name ap p env ov (args.length + ([] : List Keyword).length) (backTo p (starEach args env)) (backToKw p (keywordEach [] env))) H s Q
  rw [hbase]
  refine TV.bind ((h s R F).mono fun O H1 h1 v s1 rv R1 st1 => ?_)
  refine TV.pos fun hfr => ?_
  have hform : methodCallForm (args.length + ([] : List Keyword).length) (backTo p (starEach args env)) (backToKw p (keywordEach [] env)) = true := by
    unfold methodCallForm backTo
    have e1 : ((starEach args env).map fun (x : Bool × Sem Value) => (x.1, if x.1 = true then (do let v ← x.2; standAt p; pure v) else x.2)).all (fun x => !x.1) = true := by
      rw [List.all_map]; exact hp
    have e2 : (backToKw p (keywordEach [] env)) = [] := rfl
    rw [e2]
    simp only [List.all_nil, List.isEmpty_nil, if_true, List.length_nil, Nat.add_zero, Bool.and_true]
    rw [Bool.and_eq_true]
    exact ⟨e1, decide_eq_true hl⟩
  unfold methodCall
  rw [hform]
  refine wpAny_bind (wpAny_holding ?_)
  show wpAny X.M A (getMethod v name _) _ _ _
  refine wpAny_mono (h1 s1 v _ R1 rv) (fun r s2 ⟨f, Fs, H2, rf, rfs, st2, c, h2⟩ => ?_) fun _ _ e => e
  obtain ⟨fv, first⟩ := r
  refine wpAny_bind ?_
  unfold methodCallPos
  rw [hline]
  simp only [Bool.not_true, Bool.false_or, if_true]
  refine wpAny_pure ?_
  exact (callWith_cl c st2.rel (st2.frm R1 (st1.frm R F)) rf rfs h2 hp).after hfr st2
theorem ev_attr {o : Expr} {name : Str} {p : Pos} (h : EvE X A EL env o (fun O H1 => AtR X A (EL m) O name H1 Q) m H) (hbase : attributeBase o name env (eval o env) = eval o env) : EvE X A EL env (.Attribute o name p) Q m H := fun s R F => by
  show TV X A (EL m) (attributeBase o name env (eval o env) >>= fun ov => standAt p.atName >>= fun _ => holding [ov] (getAttr ov name true) >>= fun r => letTemporaryGo o ov r >>= fun _ => pure r) H s Q
  rw [hbase]
  refine TV.bind ((h s R F).mono fun O H1 h1 v s1 rv R1 st1 => ?_)
  refine TV.pos fun hfr => wpAny_bind (wpAny_holding (wpAny_mono (h1 s1 v R1 rv hfr) (fun r s2 h2 => ?_) fun _ _ e => e))
  exact wpAny_bind (wpAny_letTemporaryGo (wpAny_pure h2))
theorem ev_sub {o i : Expr} {p : Pos} (h : EvE X A EL env o (fun O H1 => EvE X A EL env i (fun I H2 => SubR X A (EL m) o i O I H2 Q) m H1) m H) : EvE X A EL env (.Subscript o i p) Q m H := fun s R F hfr => by
  refine Subscript_ (wpAny_mono (h s R F hfr) (fun v s1 ⟨O, H1, rv, st1, h1⟩ => ?_) fun _ _ e => e)
  refine wpAny_mono (h1 s1 st1.rel (st1.frm R F) (hfr.step st1)) (fun v2 s2 ⟨I, H2, rv2, st2, h2⟩ => ?_) fun _ _ e => e.step st1
  exact (h2 s2 v v2 st2.rel (st2.val rv) rv2).after hfr (st1.trans st2)
end
end
section
inductive CF where
  | next | brk | cont
  | ret (V : CV)
inductive RepFl (B : Bs) (H : CHeap) (h : Heap) : Flow → CF → Prop where
  | next : RepFl B H h .next .next
  | brk : RepFl B H h .brk .brk
  | cont : RepFl B H h .cont .cont
  | ret {v : Value} {V : CV} (r : RepV B H h v V) : RepFl B H h (.ret v) (.ret V)
def put (x : Str) (V : CV) : Loc → Loc
  | [] => [(x, V)]
  | (y, W) :: r => match y == x with
    | true => (y, V) :: r
    | false => (y, W) :: put x V r
theorem lookup_put (x : Str) (V : CV) : ∀ (m : Loc) (y : Str), (put x V m).lookup y = if y = x then some V else m.lookup y
  | [], y => by
    show List.lookup y [(x, V)] = _
    rw [List.lookup_cons]
    by_cases h : y = x
    · subst h; simp
    · have : (y == x) = false := by simpa using h
      rw [this, if_neg h]
  | (z, W) :: r, y => by
    unfold put
    by_cases hz : z = x
    · subst hz
      rw [beq_self_eq_true]
      show List.lookup y ((z, V) :: r) = _
      rw [List.lookup_cons, List.lookup_cons]
      by_cases h : y = z
      · subst h; simp
      · have : (y == z) = false := by simpa using h
        rw [this, if_neg h]
    · have : (z == x) = false := by simpa using hz
      rw [this]
      show List.lookup y ((z, W) :: put x V r) = _
      rw [List.lookup_cons, List.lookup_cons, lookup_put x V r y]
      by_cases h : y = z
      · subst h; simp [hz]
      · have : (y == z) = false := by simpa using h
        rw [this]

section
variable (X : Wd) (A : Around) (E : Loc → CHeap → Prop) (env : Env)
abbrev PL (H : CHeap) (s : Shared) (Q : Loc → CHeap → Prop) (s' : Shared) : Prop := ∃ m' H', StepL X.B env.locals H s H' s' ∧ Frm X.B env.locals m' H' s'.heap ∧ Q m' H'
abbrev PF (H : CHeap) (s : Shared) (Q : CF → Loc → CHeap → Prop) (f : Flow) (s' : Shared) : Prop := ∃ F m' H', RepFl X.B H' s'.heap f F ∧ StepL X.B env.locals H s H' s' ∧ Frm X.B env.locals m' H' s'.heap ∧ Q F m' H'
def PEL (H : CHeap) (s : Shared) (e : Value) (s' : Shared) : Prop := ∃ Hr sr m', StepL X.B env.locals H s Hr sr ∧ Frm X.B env.locals m' Hr sr.heap ∧ E m' Hr ∧ Look X A env e Hr sr s'
def TL (t : Sem Unit) (H : CHeap) (s : Shared) (Q : Loc → CHeap → Prop) : Prop :=
  FrsE X.B A env H s.heap → wpAny X.M A t (fun _ => PL X env H s Q) (PEL X A E env H s) s
def TF (t : Sem Flow) (H : CHeap) (s : Shared) (Q : CF → Loc → CHeap → Prop) : Prop :=
  FrsE X.B A env H s.heap → wpAny X.M A t (PF X env H s Q) (PEL X A E env H s) s
def ExS (st : Stmt) (Q : CF → Loc → CHeap → Prop) (m : Loc) (H : CHeap) : Prop :=
  ∀ s, HRel X.B H s.heap → Frm X.B env.locals m H s.heap → TF X A E env (exec st env) H s Q
def ExSs (st : List Stmt) (Q : CF → Loc → CHeap → Prop) (m : Loc) (H : CHeap) : Prop :=
  ∀ s, HRel X.B H s.heap → Frm X.B env.locals m H s.heap → TF X A E env (execs st env) H s Q
def StN (x : Str) (V : CV) (Q : Loc → CHeap → Prop) (m : Loc) (H : CHeap) : Prop :=
  ∀ s v, HRel X.B H s.heap → Frm X.B env.locals m H s.heap → RepV X.B H s.heap v V → TL X A E env (storeName env x v) H s Q
end
section
variable {X : Wd} {A : Around} {E : CHeap → Prop} {EL : Loc → CHeap → Prop} {env : Env} {m : Loc} {H : CHeap} {s : Shared} {Q : CF → Loc → CHeap → Prop}

theorem Frm.ex {B : Bs} {L : Addr} {h : Heap} (F : Frm B L m H h) : ∃ o, h.get? L = some o := let ⟨o, _, _, e, _⟩ := F.there; ⟨o, e⟩
theorem FrsE.stepL {H' : CHeap} {s' : Shared} (f : FrsE X.B A env H s.heap) (x : StepL X.B env.locals H s H' s') (F : Frm X.B env.locals m H' s'.heap) : FrsE X.B A env H' s'.heap := ⟨f.1.stepL x F, f.2⟩
theorem FrsE.step {H' : CHeap} {s' : Shared} (f : FrsE X.B A env H s.heap) (x : Step X.B H s H' s') : FrsE X.B A env H' s'.heap := ⟨f.1.step x, f.2⟩
theorem PE.toL {H1 : CHeap} {s1 s' : Shared} {e : Value} (x : PE X A H1 s1 (EL m) e s') (st : StepL X.B env.locals H s H1 s1) (R1 : HRel X.B H1 s1.heap) (F1 : Frm X.B env.locals m H1 s1.heap) (f1 : FrsE X.B A env H1 s1.heap) : PEL X A EL env H s e s' :=
  let ⟨Hr, sr, a, b, c⟩ := x; ⟨Hr, sr, m, st.trans a.toL F1.ex, a.frm R1 F1, b, c.look (f1.step a)⟩
theorem PEL.after {H1 : CHeap} {s1 s' : Shared} {e : Value} (x : PEL X A EL env H1 s1 e s') (st : StepL X.B env.locals H s H1 s1) (hL : ∃ o, s1.heap.get? env.locals = some o) : PEL X A EL env H s e s' :=
  let ⟨Hr, sr, m', a, b, c, d⟩ := x; ⟨Hr, sr, m', st.trans a hL, b, c, d⟩
theorem TF.mono {t : Sem Flow} {Q' : CF → Loc → CHeap → Prop} (h : TF X A EL env t H s Q) (k : ∀ F m' H', Q F m' H' → Q' F m' H') : TF X A EL env t H s Q' :=
  fun hfr => wpAny_mono (h hfr) (fun _ _ ⟨F, m', H', a, b, c, d⟩ => ⟨F, m', H', a, b, c, k _ _ _ d⟩) fun _ _ e => e
theorem ExS.mono {st : Stmt} {Q' : CF → Loc → CHeap → Prop} (h : ExS X A EL env st Q m H) (k : ∀ F m' H', Q F m' H' → Q' F m' H') : ExS X A EL env st Q' m H := fun s R F => (h s R F).mono k
theorem ExSs.mono {st : List Stmt} {Q' : CF → Loc → CHeap → Prop} (h : ExSs X A EL env st Q m H) (k : ∀ F m' H', Q F m' H' → Q' F m' H') : ExSs X A EL env st Q' m H := fun s R F => (h s R F).mono k
/-- an expression first, the rest of the statement behind it -/
theorem TV.flow {t : Sem Value} {P : CV → CHeap → Prop} {W : Value → Shared → Prop} {H0 : CHeap} {s0 : Shared} (st0 : Step X.B H0 s0 H s) (hfr : FrsE X.B A env H s.heap) (F : Frm X.B env.locals m H s.heap) (h : TV X A (EL m) t H s P) (k : ∀ v s1 V H1, P V H1 → RepV X.B H1 s1.heap v V → HRel X.B H1 s1.heap → Frm X.B env.locals m H1 s1.heap → FrsE X.B A env H1 s1.heap → Step X.B H0 s0 H1 s1 → Step X.B H s H1 s1 → W v s1) : wpAny X.M A t W (PEL X A EL env H0 s0) s :=
  wpAny_mono (h hfr.1) (fun v s1 ⟨V, H1, r, st, p⟩ => k v s1 V H1 p r st.rel (st.frm st0.rel F) (hfr.step st) (st0.trans st) st) fun _ _ e => e.toL st0.toL st0.rel F hfr
theorem TF.after {t : Sem Flow} {H1 : CHeap} {s1 : Shared} (st : StepL X.B env.locals H s H1 s1) (hfr : FrsE X.B A env H s.heap) (F1 : Frm X.B env.locals m H1 s1.heap) (h : TF X A EL env t H1 s1 Q) : wpAny X.M A t (PF X env H s Q) (PEL X A EL env H s) s1 :=
  wpAny_mono (h (hfr.stepL st F1)) (fun _ _ ⟨F, m', H', a, b, c, d⟩ => ⟨F, m', H', a, st.trans b F1.ex, c, d⟩) fun _ _ e => e.after st F1.ex
theorem TL.after {t : Sem Unit} {Q : Loc → CHeap → Prop} {H1 : CHeap} {s1 : Shared} (st : StepL X.B env.locals H s H1 s1) (hfr : FrsE X.B A env H s.heap) (F1 : Frm X.B env.locals m H1 s1.heap) (h : TL X A EL env t H1 s1 Q) : wpAny X.M A t (fun _ => PL X env H s Q) (PEL X A EL env H s) s1 :=
  wpAny_mono (h (hfr.stepL st F1)) (fun _ _ ⟨m', H', a, c, d⟩ => ⟨m', H', st.trans a F1.ex, c, d⟩) fun _ _ e => e.after st F1.ex
theorem PL.next {Q : CF → Loc → CHeap → Prop} {s' : Shared} (x : PL X env H s (fun m' H' => Q .next m' H') s') : PF X env H s Q .next s' := let ⟨m', H', a, b, c⟩ := x; ⟨.next, m', H', .next, a, b, c⟩
theorem exs_nil (h : Q .next m H) : ExSs X A EL env [] Q m H := fun s R F hfr => wpAny_execs_nil ⟨.next, m, H, .next, (Step.refl R).toL, F, h⟩
abbrev SeqQ (X : Wd) (A : Around) (E : Loc → CHeap → Prop) (env : Env) (rest : List Stmt) (Q : CF → Loc → CHeap → Prop) (f : CF) (m' : Loc) (H' : CHeap) : Prop := match f with | .next => ExSs X A E env rest Q m' H' | f => Q f m' H'
theorem exs_cons {st : Stmt} {rest : List Stmt} (h : ExS X A EL env st (SeqQ X A EL env rest Q) m H) : ExSs X A EL env (st :: rest) Q m H := fun s R F hfr => by
  refine wpAny_execs_cons (wpAny_mono (h s R F hfr) (fun f s1 ⟨F1, m1, H1, r, st1, F1', q⟩ => ?_) fun _ _ e => e)
  cases r with
  | next => exact TF.after st1 hfr F1' (q s1 st1.rel F1')
  | brk => exact ⟨_, m1, H1, .brk, st1, F1', q⟩
  | cont => exact ⟨_, m1, H1, .cont, st1, F1', q⟩
  | ret r => exact ⟨_, m1, H1, .ret r, st1, F1', q⟩
theorem ex_return {e : Expr} {p : Pos} (h : EvE X A EL env e (fun V H1 => Q (.ret V) m H1) m H) : ExS X A EL env (.Return (some e) p) Q m H := fun s R F hfr =>
  wpAny_Return_some (TV.flow (Step.refl R) hfr F (h s R F) fun v s1 V H1 q r R1 F1 _ _ st => ⟨.ret V, m, H1, .ret r, st.toL, F1, q⟩)
theorem ex_return0 {p : Pos} (h : Q (.ret .none) m H) : ExS X A EL env (.Return none p) Q m H := fun s R F hfr =>
  wpAny_Return_none ⟨.ret .none, m, H, .ret .none, (Step.refl R).toL, F, h⟩
theorem ex_continue {p : Pos} (h : Q .cont m H) : ExS X A EL env (.Continue p) Q m H := fun s R F hfr => by
  show wpAny X.M A (standAt p >>= fun _ => pure Flow.cont) _ _ s
  exact wpAny_bind (wpAny_standAt (wpAny_pure ⟨.cont, m, H, .cont, (Step.refl R).toL, F, h⟩))
theorem ex_if {t : Expr} {a b : List Stmt} {p : Pos} (h : EvB X A EL env t (fun c H1 => (c = true → ExSs X A EL env a Q m H1) ∧ (c = false → ExSs X A EL env b Q m H1)) m H) : ExS X A EL env (.If t a b p) Q m H := fun s R F hfr => by
  refine wpAny_If (wpAny_mono (h s R F hfr.1) (fun c s1 ⟨H1, st, h1⟩ => ?_) fun _ _ e => e.toL (Step.refl R).toL R F hfr)
  have F1 := st.frm R F
  cases c with
  | true => exact TF.after st.toL hfr F1 (h1.1 rfl s1 st.rel F1)
  | false => exact TF.after st.toL hfr F1 (h1.2 rfl s1 st.rel F1)
-- names stored
theorem stn_local0 {E0 : Value → Shared → Prop} {v : Value} {x : Str} {V : CV} {Q : Loc → CHeap → Prop} (h : Q (put x V m) H) (hk : env.scope.kind = .function) (hl : env.kindOf x = some .local) (R : HRel X.B H s.heap) (F : Frm X.B env.locals m H s.heap) (r : RepV X.B H s.heap v V) : wpAny X.M A (storeName env x v) (fun _ => PL X env H s Q) E0 s := by
  obtain ⟨mr, hn, rr⟩ := F.ns
  refine wpAny_storeName_local hl hn (fun h' hn' sb => ?_) (by rw [hk]; rfl)
  obtain ⟨o, es, n, eL, dL⟩ := F.there
  have kx : KeepX X.B H s.heap h' := fun a o' e ha ht => by
    by_cases q : a = env.locals
    · subst q; rw [eL] at e; cases e; exact .inr (loose_dict dL)
    · exact .inl ((sb.2 a q).trans e)
  have nx : NewX H H s.heap := fun a e n => absurd e n
  have st : StepL X.B env.locals H s H { s with heap := h', toks := s.toks + 1 } := by
    refine ⟨⟨_, _, rfl⟩, R.next (fun a o' q e => (sb.2 a ?_).trans e) kx nx (fun d fs e => ⟨fs, e⟩) fun a o' e => .inl ⟨e, fun ob q => (sb.2 a ?_).trans q⟩, fun a o' e _ _ hl => .inl ((sb.2 a hl).trans e), nx, fun a e => e⟩
    · rintro rfl
      rcases q with q | q
      · rw [F.lo.2] at q; cases q
      · exact F.lo.1 q
    · rintro rfl; rw [F.free] at e; cases e
  refine ⟨put x V m, H, st, ⟨F.lo, F.free, _, hn', fun y => ?_⟩, h⟩
  rw [lookup_put]
  by_cases hy : y = x
  · subst hy; simp only [if_true]; exact RepV.to kx nx r
  · simp only [hy, if_false]; exact (rr y).to kx nx
theorem stn_local {x : Str} {V : CV} {Q : Loc → CHeap → Prop} (h : Q (put x V m) H) (hk : env.scope.kind = .function) (hl : env.kindOf x = some .local) : StN X A EL env x V Q m H := fun s v R F r hfr => stn_local0 h hk hl R F r
theorem stn_cell {x : Str} {V : CV} {c : Addr} {v0 : Option CV} {Q : Loc → CHeap → Prop} (hc : env.cells.lookup x = some c) (hv : H c = some (.cell v0)) (h : Q m (upd H c (.cell (some V)))) (hk : env.scope.kind = .function) (hl : env.kindOf x = some .cell) : StN X A EL env x V Q m H := fun s v R F r hfr => by
  obtain ⟨_, v', o, e, ed, ro⟩ := R.obj _ _ hv
  refine wpAny_storeName_cell hk hl hc ⟨_, e, ed⟩ fun h' ⟨o', e', ed'⟩ sb => ?_
  have kx : KeepX X.B H s.heap h' := fun a o2 e2 ha _ => .inl ((sb.2 a (fun q => by subst q; rw [hv] at ha; cases ha)).trans e2)
  have nx : NewX H (upd H c (.cell (some V))) s.heap := fun b eb n => by
    by_cases hb : b = c
    · subst hb; rw [hv] at eb; cases eb
    · rw [upd_ne hb] at n; exact absurd eb n
  have st : Step X.B H s (upd H c (.cell (some V))) { s with heap := h', toks := s.toks } := Step.set R hv sb (fun fs q => nomatch q) ⟨some v, o', e', ed', RepV.to kx nx r⟩
  exact ⟨m, _, st.toL, st.frm R F, h⟩

-- assignments
theorem ex_assign {x : Str} {e : Expr} {np p : Pos} (h : EvE X A EL env e (fun V H1 => StN X A EL env x V (fun m' H2 => Q .next m' H2) m H1) m H) (hs : swapsWith e (some (.Name x np)) p.line env = pure false) : ExS X A EL env (.Assign [.Name x np] e p) Q m H := fun s R F hfr =>
  wpAny_Assign_Name (TV.flow (Step.refl R) hfr F (h s R F) fun v s1 V H1 q r R1 F1 _ _ st => wpAny_mono (TL.after st.toL hfr F1 (q s1 v R1 F1 r)) (fun _ _ x => x.next) fun _ _ e => e) hs
/-- x op= e -/
def LdN (X : Wd) (A : Around) (E : Loc → CHeap → Prop) (env : Env) (x : Str) (Q : CV → CHeap → Prop) (m : Loc) (H : CHeap) : Prop :=
  ∀ s, HRel X.B H s.heap → Frm X.B env.locals m H s.heap → TV X A (E m) (loadName env x) H s Q
theorem ldn_local {x : Str} {V : CV} {Q : CV → CHeap → Prop} (hv : m.lookup x = some V) (h : Q V H) (hk : env.scope.kind = .function) (hl : env.kindOf x = some .local) : LdN X A EL env x Q m H := fun s R F hfr => by
  obtain ⟨mr, hn, r⟩ := F.ns
  have rx := r x
  rw [hv] at rx
  obtain ⟨v, e, rv⟩ := orel_some rx
  exact wpAny_loadName_local hk hl hn e ⟨V, H, rv, Step.refl R, h⟩
theorem ex_aug {x : Str} {op : Operator} {e : Expr} {np p : Pos} (h : LdN X A EL env x (fun V H1 => EvE X A EL env e (fun W H2 => InpR X A (EL m) op V W H2 fun U H3 => StN X A EL env x U (fun m' H4 => Q .next m' H4) m H3) m H1) m H) : ExS X A EL env (.AugAssign (.Name x np) op e p) Q m H := fun s R F hfr => by
  refine wpAny_AugAssign_Name (TV.flow (Step.refl R) hfr F (h s R F) fun v s1 V H1 q r R1 F1 f1 st _ => ?_)
  refine TV.flow st f1 F1 (q s1 R1 F1) fun v2 s2 V2 H2 q2 r2 R2 F2 f2 st2 u2 => ?_
  refine TV.flow st2 f2 F2 (q2 s2 v v2 R2 (u2.val r) r2) fun v3 s3 V3 H3 q3 r3 R3 F3 f3 st3 u3 => ?_
  exact wpAny_mono (TL.after st3.toL hfr F3 (q3 s3 v3 R3 F3 r3)) (fun _ _ x => x.next) fun _ _ e => e
/-- a call (or any other plain expression) as a statement -/
theorem ex_expr {e : Expr} {p : Pos} (h : EvE X A EL env e (fun V H1 => Q .next m H1) m H) (hi : interactive env = false) (hs : swapsWith e none p.line env = pure false) : ExS X A EL env (.Expr e p) Q m H := fun s R F hfr => by
  show wpAny X.M A (standAt p >>= fun _ => if interactive env then printExpr (eval e env) else swapsWith e none p.line env >>= fun b => if b then (evalThenUse e env (fun _ => point) >>= fun _ => pure Flow.next) else (eval e env >>= fun v => dropValue e p v)) _ _ s
  rw [hi, hs]
  refine wpAny_bind (wpAny_standAt ?_)
  refine wpAny_bind (wpAny_pure (wpAny_bind (TV.flow (Step.refl R) hfr F (h s R F) fun v s1 V H1 q r R1 F1 _ _ st => wpAny_dropValue ⟨.next, m, H1, .next, st.toL, F1, q⟩)))
/-- o.name = e -/
def SetAtR (X : Wd) (A : Around) (E : CHeap → Prop) (o : CV) (name : Str) (V : CV) (H : CHeap) (Q : CHeap → Prop) : Prop :=
  ∀ s vo v, HRel X.B H s.heap → RepV X.B H s.heap vo o → RepV X.B H s.heap v V → TU X A E (setAttr vo name v) H s fun _ H' => Q H'
def SetItR (X : Wd) (A : Around) (E : CHeap → Prop) (o i V : CV) (H : CHeap) (Q : CHeap → Prop) : Prop :=
  ∀ s vo vi v, HRel X.B H s.heap → RepV X.B H s.heap vo o → RepV X.B H s.heap vi i → RepV X.B H s.heap v V → TU X A E (setItem vo vi v) H s fun _ H' => Q H'
theorem ex_assign_attr {o e : Expr} {name : Str} {ap p : Pos} (h : EvE X A EL env e (fun V H1 => EvE X A EL env o (fun O H2 => SetAtR X A (EL m) O name V H2 fun H3 => Q .next m H3) m H1) m H) (hs : swapsWith e (some (.Attribute o name ap)) p.line env = pure false) (hw : swappedStores [.Attribute o name ap] e env = pure none) : ExS X A EL env (.Assign [.Attribute o name ap] e p) Q m H := fun s R F hfr => by
  refine wpAny_Assign_stores (TV.flow (Step.refl R) hfr F (h s R F) fun v s1 V H1 q r R1 F1 f1 st _ => ?_) hs hw
  show wpAny X.M A (holding [v] (eval o env) >>= fun ov => standAt ap.atName >>= fun _ => holding [v, ov] (setAttr ov name v) >>= fun _ => release [v, ov] []) _ _ s1
  refine wpAny_bind (wpAny_holding (TV.flow st f1 F1 (q s1 R1 F1) fun v2 s2 V2 H2 q2 r2 R2 F2 f2 st2 u2 => ?_))
  refine wpAny_bind (wpAny_standAt (wpAny_bind (wpAny_holding (wpAny_mono (q2 s2 v2 v R2 r2 (u2.val r) f2.1) (fun _ s3 ⟨H3, st3, q3⟩ => ?_) fun _ _ e => e.toL st2.toL R2 F2 f2))))
  exact wpAny_release' ⟨.next, m, H3, .next, (st2.trans st3).toL, st3.frm R2 F2, q3⟩
theorem ex_assign_sub {o i e : Expr} {sp p : Pos} (h : EvE X A EL env e (fun V H1 => EvE X A EL env o (fun O H2 => EvE X A EL env i (fun I H3 => SetItR X A (EL m) O I V H3 fun H4 => Q .next m H4) m H2) m H1) m H) (hs : swapsWith e (some (.Subscript o i sp)) p.line env = pure false) (hw : swappedStores [.Subscript o i sp] e env = pure none) : ExS X A EL env (.Assign [.Subscript o i sp] e p) Q m H := fun s R F hfr => by
  refine wpAny_Assign_stores (TV.flow (Step.refl R) hfr F (h s R F) fun v s1 V H1 q r R1 F1 f1 st _ => ?_) hs hw
  show wpAny X.M A (holding [v] (eval o env) >>= fun ov => holding [v, ov] (eval i env) >>= fun iv => standAt sp >>= fun _ => holding [v, ov, iv] (setItem ov iv v) >>= fun _ => release _ []) _ _ s1
  refine wpAny_bind (wpAny_holding (TV.flow st f1 F1 (q s1 R1 F1) fun v2 s2 V2 H2 q2 r2 R2 F2 f2 st2 u2 => ?_))
  refine wpAny_bind (wpAny_holding (TV.flow st2 f2 F2 (q2 s2 R2 F2) fun v3 s3 V3 H3 q3 r3 R3 F3 f3 st3 u3 => ?_))
  refine wpAny_bind (wpAny_standAt (wpAny_bind (wpAny_holding (wpAny_mono (q3 s3 v2 v3 v R3 (u3.val r2) r3 (u3.val (u2.val r)) f3.1) (fun _ s4 ⟨H4, st4, q4⟩ => ?_) fun _ _ e => e.toL st3.toL R3 F3 f3))))
  exact wpAny_release' ⟨.next, m, H4, .next, (st3.trans st4).toL, st4.frm R3 F3, q4⟩
/-- o.name op= e -/
theorem ex_aug_attr {o e : Expr} {name : Str} {op : Operator} {ap p : Pos} (h : EvE X A EL env o (fun O H1 => AtR X A (EL m) O name H1 fun V H2 => EvE X A EL env e (fun W H3 => InpR X A (EL m) op V W H3 fun U H4 => SetAtR X A (EL m) O name U H4 fun H5 => Q .next m H5) m H2) m H) : ExS X A EL env (.AugAssign (.Attribute o name ap) op e p) Q m H := fun s R F hfr => by
  refine wpAny_AugAssign_AttributeAny (TV.flow (Step.refl R) hfr F (h s R F) fun v s1 V H1 q r R1 F1 f1 st _ => ?_)
  refine TV.flow st f1 F1 (q s1 v R1 r) fun v2 s2 V2 H2 q2 r2 R2 F2 f2 st2 u2 => ?_
  refine TV.flow st2 f2 F2 (q2 s2 R2 F2) fun v3 s3 V3 H3 q3 r3 R3 F3 f3 st3 u3 => ?_
  refine TV.flow st3 f3 F3 (q3 s3 v2 v3 R3 (u3.val r2) r3) fun v4 s4 V4 H4 q4 r4 R4 F4 f4 st4 u4 => ?_
  exact wpAny_mono (q4 s4 v v4 R4 (u4.val (u3.val (u2.val r))) r4 f4.1) (fun _ s5 ⟨H5, st5, q5⟩ => ⟨.next, m, H5, .next, (st4.trans st5).toL, st5.frm R4 F4, q5⟩) fun _ _ e => e.toL st4.toL R4 F4 f4
end
end
section
structure Room (A : Around) (n : Nat) : Prop where
  hd : A.handled = none
  dp : A.depth + n < recursionLimit
  un : A.units + 8 * n < cLine
theorem Room.deeper {A : Around} {n : Nat} (r : Room A (n + 1)) (env : Env) : Room (A.deeper env) n :=
  ⟨r.hd, by have := r.dp; show A.depth + 1 + n < _; omega, by have := r.un; show A.units + 3 + 8 * n < _; omega⟩
theorem Room.le {A : Around} {n k : Nat} (r : Room A n) (h : k ≤ n) : Room A k := ⟨r.hd, by have := r.dp; omega, by have := r.un; omega⟩
theorem Room.in1 {A : Around} {n : Nat} (r : Room A (n + 1)) : Room A.in1 n := ⟨r.hd, by have := r.dp; show A.depth + n < _; omega, by have := r.un; show A.units + 1 + 8 * n < _; omega⟩

structure EnvOk (env : Env) (sc : Scope) (cells : List (Str × Addr)) (cd : Value) (qual : Str) : Prop where
  sc : env.scope = sc
  cl : env.cells = cells
  gl : env.globals = mainGlobals
  bi : env.builtins = builtinsNs
  cd : env.code = cd
  qu : env.qual = qual
def retOf : CF → CV
  | .ret V => V
  | _ => .none

section
variable {X : Wd} {A : Around} {E : CHeap → Prop} {EL : Loc → CHeap → Prop} {env : Env} {m : Loc} {H : CHeap} {s : Shared}

theorem repVs_zip {B : Bs} {h : Heap} : ∀ {ns : List Str} {vs : List Value} {Vs : List CV}, RepVs B H h vs Vs → ∀ x, ORel (RepV B H h) ((ns.zip vs).lookup x) ((ns.zip Vs).lookup x)
  | [], _, _, _, x => trivial
  | _ :: _, _, _, .nil, x => trivial
  | n :: ns, _, _, .cons hv hr, x => by
    simp only [List.zip_cons_cons, List.lookup_cons]
    cases x == n with
    | true => exact hv
    | false => exact repVs_zip hr x
theorem lookup_reverse {α : Type} : ∀ {l : List (Str × α)}, (l.map (·.1)).Nodup → ∀ x, l.reverse.lookup x = l.lookup x := by
  intro l hl x
  induction l with
  | nil => rfl
  | cons p r ih =>
    obtain ⟨n, v⟩ := p
    rw [List.map_cons, List.nodup_cons] at hl
    rw [List.reverse_cons, List.lookup_append, ih hl.2, List.lookup_cons, List.lookup_cons]
    by_cases hx : x = n
    · subst hx
      have : r.lookup x = none := by
        cases q : r.lookup x with
        | none => rfl
        | some v' => exact absurd (List.mem_map_of_mem (f := (·.1)) (mem_of_lookup q)) hl.1
      rw [this]; simp
    · have : (x == n) = false := by simpa using hx
      rw [this]; cases r.lookup x <;> rfl
theorem zip_keys {α : Type} : ∀ {ns : List Str} {vs : List α}, ns.length = vs.length → (ns.zip vs).map (·.1) = ns
  | [], [], _ => rfl
  | n :: ns, v :: vs, h => by simp only [List.zip_cons_cons, List.map_cons, zip_keys (Nat.succ.inj h)]

/-- a def of the top without cells -/
theorem cl_runC {a : Addr} {fd : FuncData} {o : Obj} {body : List Stmt} {ns : List Str} {args : List CV} {Q : CV → CHeap → Prop} {n : Nat} {vals : List Value}
    (R : HRel X.B H s.heap) (rs : RepVs X.B H s.heap vals args) (ro : Room A (n + 1)) (ho : s.heap.get? a = some o) (hd : o.data = .func fd) (hcd : s.heap.CodeRec fd.code fd.qualname) (hb : fd.body = .stmts body) (hbi : bindArgs fd ⟨vals, []⟩ = pure (ns.zip vals)) (hlen : ns.length = args.length) (hnd : ns.Nodup)
    (hcell : ∀ x ∈ fd.scope.names, x.2 ≠ .cell) (hloc : ∀ x ∈ ns, fd.scope.names.lookup x = some .local) (hk : fd.scope.kind = .function) (hco : fd.scope.isCoroutine = false) (hg : fd.scope.isGenerator = false) (hgl : fd.globals = mainGlobals) (hbn : fd.builtins = builtinsNs)
    (hfr : FrsAt X.B A H s.heap) (hkk : fd.scope.kind ≠ .module) (h : ∀ A' env, Room A' n → EnvOk env fd.scope fd.closure fd.code (fd.qualname ++ ".<locals>.") → H env.locals = none → ExSs X A' (fun _ => E) env body (fun f _ H' => Q (retOf f) H') (ns.zip args) H) : codeAny X.M A (.call (.ref a) ⟨vals, []⟩) (fun r s' => match r with | .ok (.ret v) => ∃ V H', RepV X.B H' s'.heap v V ∧ Step X.B H s H' s' ∧ Q V H' | .ok _ => False | .error e => PE X A H s E e s') s := by
  refine (codeAny_call_def (by have := ro.dp; omega) ho hd (X.nolim.keeps R.keep) hcd hb (BindsTo.of_eq hbi) hcell ?_ (fun h₁ hns hk₁ => ?_) hco hg hk)
  · intro x hx
    exact hloc x.1 ((List.of_mem_zip hx).1)
  have st0 : Step X.B H s H { s with heap := h₁, toks := s.toks + (ns.zip vals).length } := Step.grow R hk₁
  have hL : s.heap.get? s.heap.objs.size = none := size_none _
  have hlen' : ns.length = vals.length := by rw [hlen, repVs_len rs]
  have F : Frm X.B s.heap.objs.size (ns.zip args) H h₁ := by
    refine ⟨R.out hL, R.fresh, _, hns, fun x => ?_⟩
    rw [lookup_reverse (by rw [zip_keys hlen']; exact hnd)]
    exact repVs_zip (st0.vals rs) x
  have old : ∀ {H1 : CHeap} {s' : Shared}, StepL X.B s.heap.objs.size H { s with heap := h₁, toks := s.toks + (ns.zip vals).length } H1 s' → Step X.B H s H1 s' := fun {H1 s'} st1 => by
    refine ⟨?_, st1.rel, fun b o' e' hn ht => st1.keep b o' (hk₁ b o' e') hn ht (fun q => by subst q; exact nomatch (hL.symm.trans e')), fun b e' n' => ?_, st1.dom⟩
    · obtain ⟨h2, t2, e2⟩ := st1.sh; exact ⟨h2, t2, by rw [e2]⟩
    · have := st1.new b e' n'
      cases q : s.heap.get? b with
      | none => rfl
      | some ob => rw [hk₁ b ob q] at this; cases this
  have fA : FrsE X.B (A.deeper (callEnv fd s.heap.objs.size a)) (callEnv fd s.heap.objs.size a) H h₁ := by
    obtain ⟨l, el, hl⟩ := hfr.heap hk₁
    refine ⟨⟨_, Around.frames_deeper el, fun env he => ?_⟩, l, Around.frames_deeper el⟩
    rcases List.mem_cons.mp he with rfl | he
    · obtain ⟨o, es, n, e1, e2⟩ := F.there
      exact ⟨hkk, _, o, es, n, rfl, F.lo, F.free, e1, e2⟩
    · exact hl env he
  have e := h (A.deeper (callEnv fd s.heap.objs.size a)) (callEnv fd s.heap.objs.size a) (ro.deeper _) ⟨rfl, rfl, hgl, hbn, rfl, rfl⟩ R.fresh { s with heap := h₁, toks := s.toks + (ns.zip vals).length } st0.rel F fA
  refine wpAny_mono e (fun f s' ⟨F1, m1, H1, rf, st1, _, q⟩ => ?_) fun e s' ⟨Hr, sr, m', st1, _, q, lk⟩ => ?_
  · refine ⟨retOf F1, H1, ?_, old st1, q⟩
    cases rf with
    | ret r => exact r
    | _ => exact .none
  · obtain ⟨l, el, _⟩ := hfr
    exact wpAny_mono (lk.leave el) (fun _ s'' x => ⟨Hr, sr, old st1, q, x⟩) fun _ _ x => x.elim
theorem cl_run {a : Addr} {fd : FuncData} {o : Obj} {body : List Stmt} {ns : List Str} {args : List CV} {Q : CV → CHeap → Prop} {n : Nat} {vals : List Value}
    (R : HRel X.B H s.heap) (rs : RepVs X.B H s.heap vals args) (ro : Room A (n + 1)) (ho : s.heap.get? a = some o) (hd : o.data = .func fd) (hcd : s.heap.CodeRec fd.code fd.qualname) (hb : fd.body = .stmts body) (hbi : bindArgs fd ⟨vals, []⟩ = pure (ns.zip vals)) (hlen : ns.length = args.length) (hnd : ns.Nodup)
    (hcell : ∀ x ∈ fd.scope.names, x.2 ≠ .cell) (hloc : ∀ x ∈ ns, fd.scope.names.lookup x = some .local) (hk : fd.scope.kind = .function) (hco : fd.scope.isCoroutine = false) (hg : fd.scope.isGenerator = false) (hgl : fd.globals = mainGlobals) (hbn : fd.builtins = builtinsNs)
    (h : ∀ A' env, Room A' n → EnvOk env fd.scope fd.closure fd.code (fd.qualname ++ ".<locals>.") → H env.locals = none → ExSs X A' (fun _ => E) env body (fun f _ H' => Q (retOf f) H') (ns.zip args) H) : TV X A E (call (.ref a) vals) H s Q :=
  fun hfr => wpAny_call (cl_runC R rs ro ho hd hcd hb hbi hlen hnd hcell hloc hk hco hg hgl hbn hfr (by rw [hk]; decide) h)
/-- a closure -/
theorem cl_clo {d : NDef} {cells : List (Str × Addr)} {ns : List Str} {args : List CV} {Q : CV → CHeap → Prop} {n : Nat}
    (ro : Room A (n + 1)) (hlen : ns.length = args.length) (hnd : ns.Nodup) (hbi : ∀ doc pm cdv ct (vals : List Value), vals.length = ns.length → bindArgs ({ name := d.name, qualname := d.qual, params := d.params, body := .stmts d.body, scope := d.scope, globals := mainGlobals, closure := cells, defaults := .none, kwdefaults := .none, doc := doc, pyModule := pm, annotations := none, code := cdv, closureTuple := ct, builtins := builtinsNs } : FuncData) ⟨vals, []⟩ = pure (ns.zip vals))
    (hcell : ∀ x ∈ d.scope.names, x.2 ≠ .cell) (hloc : ∀ x ∈ ns, d.scope.names.lookup x = some .local) (hk : d.scope.kind = .function) (hco : d.scope.isCoroutine = false) (hg : d.scope.isGenerator = false)
    (h : ∀ A' E' env c, Room A' n → EnvOk env d.scope cells c (d.qual ++ ".<locals>.") → H env.locals = none → ExSs X A' E' env d.body (fun f _ H' => Q (retOf f) H') (ns.zip args) H) : Cl X A E (.clo d cells) args Q H := fun s fv avs R r rs => by
  cases r with
  | clo hn ha ho hc hcn hco' hcd hcq =>
    exact cl_run R rs ro ho rfl ⟨_, _, _, _, rfl, hco', hcd, hcq⟩ rfl (hbi _ _ _ _ avs (by rw [repVs_len rs, hlen])) hlen hnd hcell hloc hk hco hg rfl rfl fun A' env a b c => h A' _ env _ a b c
/-- a def of the top -/
theorem cl_defX {a : Addr} {fd : FuncData} {oc : Value} {od : Option Addr} {sl : Array (Option Value)} {body : List Stmt} {ns : List Str} {args : List CV} {Q : CV → CHeap → Prop} {n : Nat}
    (ho : X.K.lookup a = some ⟨oc, od, .func fd, sl⟩) (hcd : codeIn X.K fd.code fd.qualname = true) (hb : fd.body = .stmts body) (hbi : ∀ vals : List Value, vals.length = ns.length → bindArgs fd ⟨vals, []⟩ = pure (ns.zip vals)) (hlen : ns.length = args.length) (hnd : ns.Nodup)
    (hcell : ∀ x ∈ fd.scope.names, x.2 ≠ .cell) (hloc : ∀ x ∈ ns, fd.scope.names.lookup x = some .local) (hk : fd.scope.kind = .function) (hco : fd.scope.isCoroutine = false) (hg : fd.scope.isGenerator = false) (hgl : fd.globals = mainGlobals) (hbn : fd.builtins = builtinsNs) (hcl : fd.closure = [])
    (ro : Room A (n + 1)) (h : ∀ A' env, Room A' n → EnvOk env fd.scope [] fd.code (fd.qualname ++ ".<locals>.") → H env.locals = none → ExSs X A' (fun _ => E) env body (fun f _ H' => Q (retOf f) H') (ns.zip args) H) : Cl X A E (.glob a) args Q H := fun s fv avs R r rs => by
  cases r with
  | glob a =>
    have Kh : X.K.In s.heap := X.kin.keeps R.keep
    exact cl_run R rs ro (Kh _ _ ho) rfl (codeRec_of Kh hcd) hb (hbi avs (by rw [repVs_len rs, hlen])) hlen hnd hcell hloc hk hco hg hgl hbn (by rw [hcl]; exact h)
theorem cl_def {a : Addr} {fd : FuncData} {oc : Value} {od : Option Addr} {sl : Array (Option Value)} {body : List Stmt} {ns : List Str} {args : List CV} {Q : CV → CHeap → Prop} {n : Nat}
    (ho : X.K.lookup a = some ⟨oc, od, .func fd, sl⟩) (hcd : codeIn X.K fd.code fd.qualname = true) (hb : fd.body = .stmts body) (hbi : ∀ vals : List Value, vals.length = ns.length → bindArgs fd ⟨vals, []⟩ = pure (ns.zip vals)) (hlen : ns.length = args.length) (hnd : ns.Nodup)
    (hcell : ∀ x ∈ fd.scope.names, x.2 ≠ .cell) (hloc : ∀ x ∈ ns, fd.scope.names.lookup x = some .local) (hk : fd.scope.kind = .function) (hco : fd.scope.isCoroutine = false) (hg : fd.scope.isGenerator = false) (hgl : fd.globals = mainGlobals) (hbn : fd.builtins = builtinsNs) (hcl : fd.closure = [])
    (ro : Room A (n + 1)) (h : ∀ A' E' env, Room A' n → EnvOk env fd.scope [] fd.code (fd.qualname ++ ".<locals>.") → H env.locals = none → ExSs X A' E' env body (fun f _ H' => Q (retOf f) H') (ns.zip args) H) : Cl X A E (.glob a) args Q H :=
  cl_defX ho hcd hb hbi hlen hnd hcell hloc hk hco hg hgl hbn hcl ro fun A' env => h A' _ env
/-- a bound method of such -/
theorem cl_meth {a : Addr} {S : CV} {fd : FuncData} {oc : Value} {od : Option Addr} {sl : Array (Option Value)} {body : List Stmt} {ns : List Str} {args : List CV} {Q : CV → CHeap → Prop} {n : Nat}
    (ho : X.K.lookup a = some ⟨oc, od, .func fd, sl⟩) (hcd : codeIn X.K fd.code fd.qualname = true) (hb : fd.body = .stmts body) (hbi : ∀ vals : List Value, vals.length = ns.length → bindArgs fd ⟨vals, []⟩ = pure (ns.zip vals)) (hlen : ns.length = (S :: args).length) (hnd : ns.Nodup)
    (hcell : ∀ x ∈ fd.scope.names, x.2 ≠ .cell) (hloc : ∀ x ∈ ns, fd.scope.names.lookup x = some .local) (hk : fd.scope.kind = .function) (hco : fd.scope.isCoroutine = false) (hg : fd.scope.isGenerator = false) (hgl : fd.globals = mainGlobals) (hbn : fd.builtins = builtinsNs) (hcl : fd.closure = [])
    (ro : Room A (n + 1)) (h : ∀ A' E' env, Room A' n → EnvOk env fd.scope [] fd.code (fd.qualname ++ ".<locals>.") → H env.locals = none → ExSs X A' E' env body (fun f _ H' => Q (retOf f) H') (ns.zip (S :: args)) H) : Cl X A E (.meth a S) args Q H := fun s fv avs R r rs hfr => by
  cases r with
  | meth hn ha ho' hs =>
    have Kh : X.K.In s.heap := X.kin.keeps R.keep
    refine wpAny_call (method_call ho' ?_)
    exact cl_runC R (.cons hs rs) ro (Kh _ _ ho) rfl (codeRec_of Kh hcd) hb (hbi (_ :: avs) (by rw [List.length_cons, repVs_len rs, hlen]; rfl)) hlen hnd hcell hloc hk hco hg hgl hbn hfr (by rw [hk]; decide) (by rw [hcl]; exact fun A' env => h A' _ env)
-- whiles
abbrev WhQ (I : Nat → Loc → CHeap → Prop) (n : Nat) (Q : CF → Loc → CHeap → Prop) (f : CF) (m2 : Loc) (H2 : CHeap) : Prop := match f with | .next | .cont => ∃ k, k < n ∧ I k m2 H2 | .brk => Q .next m2 H2 | .ret V => Q (.ret V) m2 H2
abbrev FoQ (I : Loc → CHeap → Prop) (Q : CF → Loc → CHeap → Prop) (f : CF) (m2 : Loc) (H2 : CHeap) : Prop := match f with | .next | .cont => I m2 H2 | .brk => Q .next m2 H2 | .ret V => Q (.ret V) m2 H2
/-- an exception passes a loop's own frame -/
theorem cameBack_mono {M : Model} {E1 E2 : Value → Shared → Prop} (k : ∀ e s, E1 e s → E2 e s) {e : Value} {s' : Shared} (h : cameBackBy M A env E1 e s') : cameBackBy M A env E2 e s' := wpAny_mono h (fun _ s2 x => k _ s2 x) fun _ s2 x => k _ s2 x
theorem noted_mono {M : Model} {E1 E2 : Value → Shared → Prop} (k : ∀ e s, E1 e s → E2 e s) {e : Value} {s' : Shared} (h : notedBy M A env (cameBackBy M A env E1) e s') : notedBy M A env (cameBackBy M A env E2) e s' := wpAny_mono h (fun _ _ x => cameBack_mono k x) fun _ _ x => cameBack_mono k x
theorem PEL.pass {e : Value} {s' : Shared} (x : PEL X A EL env H s e s') : notedBy (model X.prog X.w) A env (fun e s' => cameBackBy X.M A env (PEL X A EL env H s) e s') e s' := by
  obtain ⟨Hr, sr, m', a, b, c, lk⟩ := x
  exact noted_mono (E1 := fun e s' => wpAny X.M A (noteFrame e env) (fun _ s'' => HeldSt X A env e Hr sr s'') (fun _ _ => False) s') (fun e2 s2 h2 => ⟨Hr, sr, m', a, b, c, h2⟩) (PassesOwnAt.lookingOf (K := fun e s'' => HeldSt X A env e Hr sr s'') (SameStack.refl A) e s' lk)
theorem ex_whileX {t : Expr} {body : List Stmt} {p : Pos} {Q : CF → Loc → CHeap → Prop} (I : Nat → Loc → CHeap → Prop) (n : Nat) (h : I n m H)
    (turn : ∀ n m H, I n m H → H env.locals = none → EvB X A EL env t (fun c H1 => (c = true → ExSs X A EL env body (WhQ I n Q) m H1) ∧ (c = false → Q .next m H1)) m H) : ExS X A EL env (.While t body [] p) Q m H := fun s R F hfr => by
  refine wpAny_While ?_
  obtain ⟨J, hJ⟩ := named2 (fun (k : Nat) (s' : Shared) => ∃ m' H', HRel X.B H' s'.heap ∧ Frm X.B env.locals m' H' s'.heap ∧ StepL X.B env.locals H s H' s' ∧ I k m' H')
  refine codeAny_whileLoop J (fun k s' hj => ?_) n ((hJ _ _).mpr ⟨m, H, R, F, (Step.refl R).toL, h⟩)
  obtain ⟨m', H', R', F', st', i⟩ := (hJ _ _).mp hj
  have fr' := hfr.stepL st' F'
  refine wpAny_mono (turn k m' H' i F'.free s' R' F' fr'.1) (fun c s2 ⟨H2, st2, q⟩ => ?_) fun _ _ e => (e.toL st' R' F' fr').pass
  have F2 := st2.frm R' F'
  have stA := st'.trans st2.toL F'.ex
  cases c with
  | true =>
    refine wpAny_mono (TF.after stA hfr F2 (q.1 rfl s2 st2.rel F2)) (fun f s3 ⟨F1, m3, H3, rf, stB, F3, q3⟩ => ?_) fun _ _ e => e.pass
    cases rf with
    | next => obtain ⟨j, hj, ij⟩ := q3; exact ⟨j, hj, (hJ _ _).mpr ⟨m3, H3, stB.rel, F3, stB, ij⟩⟩
    | cont => obtain ⟨j, hj, ij⟩ := q3; exact ⟨j, hj, (hJ _ _).mpr ⟨m3, H3, stB.rel, F3, stB, ij⟩⟩
    | brk => exact ⟨.next, m3, H3, .next, stB, F3, q3⟩
    | ret r => exact ⟨_, m3, H3, .ret r, stB, F3, q3⟩
  | false => exact wpAny_execs_nil ⟨.next, m', H2, .next, stA, F2, q.2 rfl⟩
theorem ex_while {t : Expr} {body : List Stmt} {p : Pos} {Q : CF → Loc → CHeap → Prop} (I : Nat → Loc → CHeap → Prop) (n : Nat) (h : I n m H)
    (turn : ∀ E' n m H, I n m H → H env.locals = none → EvB X A E' env t (fun c H1 => (c = true → ExSs X A E' env body (WhQ I n Q) m H1) ∧ (c = false → Q .next m H1)) m H) : ExS X A EL env (.While t body [] p) Q m H := ex_whileX I n h (turn EL)

-- iterators that only they themselves turn
structure PIter (X : Wd) (it : Value) (r : Addr) (P : Nat → Heap → Prop) (f : Nat → CHeap → Option CV) (G : CHeap → Prop) : Prop where
  same : ∀ i h h', P i h → (∀ o, h.get? r = some o → h'.get? r = some o) → P i h'
  obj : ∀ i h, P i h → ∃ o, h.get? r = some o ∧ Loose o ∧ ∀ es n, o.data ≠ .dict es n
  self : ∀ (A : Around) (E : Value → Shared → Prop) (s : Shared) (i : Nat) (W : Value → Shared → Prop), P i s.heap → W it s → wpAny X.M A (pyIter it) W E s
  next : ∀ (A : Around) (E : Value → Shared → Prop) (s : Shared) (H : CHeap) (i : Nat) (W : Option Value → Shared → Prop), A.handled = none → HRel X.B H s.heap → H r = none → G H → P i s.heap →
    (f i H = none → ∀ h' tk, (∀ a o, a ≠ r → s.heap.get? a = some o → h'.get? a = some o) → W none { s with heap := h', toks := tk }) →
    (∀ V, f i H = some V → ∀ v h' tk, (∀ a o, a ≠ r → s.heap.get? a = some o → h'.get? a = some o) → P (i + 1) h' → RepV X.B H s.heap v V → W (some v) { s with heap := h', toks := tk }) → wpAny X.M A (pyNext it) W E s
def IterR (X : Wd) (A : Around) (E : CHeap → Prop) (V : CV) (f : Nat → CHeap → Option CV) (G : CHeap → Prop) (H : CHeap) : Prop :=
  ∀ s v, HRel X.B H s.heap → RepV X.B H s.heap v V → wpAny X.M A (pyIter v) (fun it s' => ∃ r P, PIter X it r P f G ∧ P 0 s'.heap ∧ s.heap.get? r = none ∧ Step X.B H s H s') (PE X A H s E) s
/-- the heap behind a step that turned r alone -/
theorem HRel.turn {B : Bs} {h h' : Heap} {r : Addr} {o : Obj} (R : HRel B H h) (e : h.get? r = some o) (lo : Loose o) (hr : H r = none) (out : Out B r) (k : ∀ a o, a ≠ r → h.get? a = some o → h'.get? a = some o) : HRel B H h' ∧ KeepX B H h h' := by
  have kx : KeepX B H h h' := fun a o' e' ha ht => by
    by_cases q : a = r
    · subst q; rw [e] at e'; cases e'; exact .inr lo
    · exact .inl (k a o' q e')
  refine ⟨R.next (fun a o' q e' => k a o' ?_ e') kx (fun a e n => absurd e n) (fun d fs e => ⟨fs, e⟩) fun a o' e' => .inl ⟨e', fun ob q => k a ob ?_ q⟩, kx⟩
  · rintro rfl
    rcases q with q | q
    · rw [out.2] at q; cases q
    · exact out.1 q
  · rintro rfl; rw [hr] at e'; cases e'
theorem Frm.turn {B : Bs} {L : Addr} {h h' : Heap} (F : Frm B L m H h) (kx : KeepX B H h h') (same : ∀ o, h.get? L = some o → h'.get? L = some o) : Frm B L m H h' := by
  obtain ⟨lo, fr, mr, ⟨o, es, n, e, d, sk, f⟩, rr⟩ := F
  exact ⟨lo, fr, mr, ⟨o, es, n, same _ e, d, sk, f⟩, fun y => (rr y).to kx fun a e n => absurd e n⟩
theorem ex_forVX {x : Str} {np p : Pos} {it : Expr} {body : List Stmt} {Q : CF → Loc → CHeap → Prop} (f : CV → Nat → CHeap → Option CV) (G : CV → CHeap → Prop) (I : CV → Nat → Loc → CHeap → Prop) (N : Nat) (hA : A.handled = none) (hG : ∀ V i m H, I V i m H → G V H)
    (h : EvE X A EL env it (fun V H1 => IterR X A (EL m) V (f V) (G V) H1 ∧ I V 0 m H1) m H) (hN : ∀ V i m H, I V i m H → f V i H ≠ none → i < N)
    (turn : ∀ W i m H V, I W i m H → H env.locals = none → f W i H = some V → StN X A EL env x V (fun m1 H1 => ExSs X A EL env body (FoQ (I W (i + 1)) Q) m1 H1) m H)
    (fin : ∀ V i m H, I V i m H → f V i H = none → Q .next m H) (hs : ∀ v, foldedSetIterable it env v = pure v) : ExS X A EL env (.For (.Name x np) it body [] p) Q m H := fun s R F hfr => by
  refine wpAny_For (TV.flow (Step.refl R) hfr F (h s R F) fun v s1 VV H1 ⟨itr, i0⟩ r R1 F1 f1 st1 _ => ?_) hs
  refine wpAny_mono (itr s1 v R1 r) (fun itv s2 ⟨r0, P, pi, p0, fr0, st2⟩ => ?_) fun _ _ e => e.toL st1.toL R1 F1 f1
  have hr0L : r0 ≠ env.locals := fun q => by subst q; obtain ⟨o, e⟩ := F1.ex; rw [fr0] at e; cases e
  have out0 : Out X.B r0 := R1.out fr0
  have fr00 : s.heap.get? r0 = none := by
    cases q : s.heap.get? r0 with
    | none => rfl
    | some o =>
      cases q2 : H r0 with
      | none => obtain ⟨_, e3, _⟩ := (st1.keep r0 o q q2 out0.1).ex; rw [e3] at fr0; cases fr0
      | some z =>
        cases q3 : H1 r0 with
        | none => exact absurd q3 (st1.dom r0 (by rw [q2]; exact fun z => nomatch z))
        | some z => obtain ⟨ob, e⟩ := (R1.obj _ _ q3).2.there; rw [fr0] at e; cases e
  have hr1 : H1 r0 = none := by
    cases q3 : H1 r0 with
    | none => rfl
    | some z => obtain ⟨ob, e⟩ := (R1.obj _ _ q3).2.there; rw [fr0] at e; cases e
  have F2 := st2.frm R1 F1
  obtain ⟨J, hJ⟩ := named2 (fun (k : Nat) (s' : Shared) => ∃ i m' H', k = N - i ∧ HRel X.B H' s'.heap ∧ Frm X.B env.locals m' H' s'.heap ∧ StepL X.B env.locals H s H' s' ∧ H' r0 = none ∧ P i s'.heap ∧ I VV i m' H')
  refine codeAny_forLoop_any J (fun k s' hj => ?_) (N - 0) ((hJ _ _).mpr ⟨0, m, H1, rfl, st2.rel, F2, (st1.toL).trans st2.toL F1.ex, hr1, p0, i0⟩)
  obtain ⟨i, m', H', hk, R', F', st', hr', hP, hi⟩ := (hJ _ _).mp hj
  obtain ⟨o0, eo0, lo0, nd0⟩ := pi.obj _ _ hP
  refine pi.next A _ s' H' i _ hA R' hr' (hG _ _ _ _ hi) hP (fun hf h' tk kk => ?_) (fun V hf v h' tk kk hP' rv => ?_)
  · obtain ⟨R3, kx3⟩ := R'.turn eo0 lo0 hr' out0 kk
    have F3 := F'.turn kx3 (fun o e => kk _ o (Ne.symm hr0L) e)
    refine wpAny_execs_nil ⟨.next, m', H', .next, ?_, F3, fin VV i m' H' hi hf⟩
    obtain ⟨⟨h4, t4, e4⟩, _, k4, n4, d4⟩ := st'
    exact ⟨⟨h', tk, by rw [e4]⟩, R3, fun a o e hn ht hl => (k4 a o e hn ht hl).trans fun o' e' => .inl (kk a o' (fun q => by subst q; rw [fr00] at e; cases e) e'), n4, d4⟩
  · obtain ⟨R3, kx3⟩ := R'.turn eo0 lo0 hr' out0 kk
    have F3 := F'.turn kx3 (fun o e => kk _ o (Ne.symm hr0L) e)
    have st3 : StepL X.B env.locals H s H' { s' with heap := h', toks := tk } := by
      obtain ⟨⟨h4, t4, e4⟩, _, k4, n4, d4⟩ := st'
      exact ⟨⟨h', tk, by rw [e4]⟩, R3, fun a o e hn ht hl => (k4 a o e hn ht hl).trans fun o' e' => .inl (kk a o' (fun q => by subst q; rw [fr00] at e; cases e) e'), n4, d4⟩
    show wpAny X.M A (letOwnedTupleGo (.Name x np) itv v) _ _ _
    refine wpAny_pure ?_
    show wpAny X.M A (standAt np >>= fun _ => bindName env x v) _ _ _
    refine wpAny_bind (wpAny_standAt (wpAny_bindName ?_))
    have tn := turn VV i m' H' V hi F'.free hf { s' with heap := h', toks := tk } v R3 F3 (RepV.to kx3 (fun a e n => absurd e n) rv)
    refine wpAny_mono (tn (hfr.stepL st3 F3)) (fun _ s4 ⟨m4, H4, st4, F4, q4⟩ => ?_) fun _ _ e => (e.after st3 F3.ex).pass
    refine wpAny_mono (q4 s4 st4.rel F4 ((hfr.stepL st3 F3).stepL st4 F4)) (fun fl s5 ⟨F5, m5, H5, rf, st5, F5', q5⟩ => ?_) fun _ _ e => ((e.after st4 F4.ex).after st3 F3.ex).pass
    have stC := (st3.trans st4 F3.ex).trans st5 F4.ex
    have hr5 : H5 r0 = none ∧ s5.heap.get? r0 = h'.get? r0 := by
      obtain ⟨o1, eo1, _, nd1⟩ := pi.obj _ _ hP'
      have a1 := (st4.keep r0 o1 eo1 hr' out0.1 hr0L).nd nd1
      have b1 := none_of_new st4.new hr' eo1
      have a2 := (st5.keep r0 o1 a1 b1 out0.1 hr0L).nd nd1
      exact ⟨none_of_new st5.new b1 a1, a2.trans eo1.symm⟩
    have hP5 : P (i + 1) s5.heap := pi.same _ _ _ hP' fun o e => hr5.2.trans e
    have lt := hN VV i m' H' hi (by rw [hf]; exact fun z => nomatch z)
    cases rf with
    | next => exact ⟨N - (i + 1), by omega, (hJ _ _).mpr ⟨i + 1, m5, H5, rfl, st5.rel, F5', stC, hr5.1, hP5, q5⟩⟩
    | cont => exact ⟨N - (i + 1), by omega, (hJ _ _).mpr ⟨i + 1, m5, H5, rfl, st5.rel, F5', stC, hr5.1, hP5, q5⟩⟩
    | brk => exact ⟨.next, m5, H5, .next, stC, F5', q5⟩
    | ret r => exact ⟨_, m5, H5, .ret r, stC, F5', q5⟩
theorem ex_forV {x : Str} {np p : Pos} {it : Expr} {body : List Stmt} {Q : CF → Loc → CHeap → Prop} (f : CV → Nat → CHeap → Option CV) (G : CV → CHeap → Prop) (I : CV → Nat → Loc → CHeap → Prop) (N : Nat) (hA : A.handled = none) (hG : ∀ V i m H, I V i m H → G V H)
    (h : EvE X A EL env it (fun V H1 => IterR X A (EL m) V (f V) (G V) H1 ∧ I V 0 m H1) m H) (hN : ∀ V i m H, I V i m H → f V i H ≠ none → i < N)
    (turn : ∀ E' W i m H V, I W i m H → H env.locals = none → f W i H = some V → StN X A E' env x V (fun m1 H1 => ExSs X A E' env body (FoQ (I W (i + 1)) Q) m1 H1) m H)
    (fin : ∀ V i m H, I V i m H → f V i H = none → Q .next m H) (hs : ∀ v, foldedSetIterable it env v = pure v) : ExS X A EL env (.For (.Name x np) it body [] p) Q m H :=
  ex_forVX f G I N hA hG h hN (turn EL) fin hs
theorem ex_for {x : Str} {np p : Pos} {it : Expr} {body : List Stmt} {Q : CF → Loc → CHeap → Prop} (f : Nat → CHeap → Option CV) (G : CHeap → Prop) (I : Nat → Loc → CHeap → Prop) (N : Nat) (hA : A.handled = none) (hG : ∀ i m H, I i m H → G H)
    (h : EvE X A EL env it (fun V H1 => IterR X A (EL m) V f G H1 ∧ I 0 m H1) m H) (hN : ∀ i m H, I i m H → f i H ≠ none → i < N)
    (turn : ∀ E' i m H V, I i m H → H env.locals = none → f i H = some V → StN X A E' env x V (fun m1 H1 => ExSs X A E' env body (FoQ (I (i + 1)) Q) m1 H1) m H)
    (fin : ∀ i m H, I i m H → f i H = none → Q .next m H) (hs : ∀ v, foldedSetIterable it env v = pure v) : ExS X A EL env (.For (.Name x np) it body [] p) Q m H :=
  ex_forV (fun _ => f) (fun _ => G) (fun _ => I) N hA (fun _ => hG) h (fun _ => hN) (fun E' _ => turn E') (fun _ => fin) hs
end
end
section
section
variable {X : Wd} {A : Around} {E : CHeap → Prop} {EL : Loc → CHeap → Prop} {env : Env} {m : Loc} {H : CHeap} {s : Shared}

def addCells (H : CHeap) (val : Str → Option CV) : List (Str × Addr) → CHeap
  | [] => H
  | (x, c) :: r => upd (addCells H val r) c (.cell (val x))
theorem addCells_of {val : Str → Option CV} : ∀ {cs : List (Str × Addr)} {a : Addr} {o : CO}, addCells H val cs a = some o → (∃ x, (x, a) ∈ cs ∧ o = .cell (val x)) ∨ (H a = some o ∧ ∀ p ∈ cs, p.2 ≠ a)
  | [], a, o, h => .inr ⟨h, fun p hp => nomatch hp⟩
  | (x, c) :: r, a, o, h => by
    unfold addCells at h
    by_cases q : a = c
    · subst q; rw [upd_self] at h; cases h; exact .inl ⟨x, .head _, rfl⟩
    · rw [upd_ne q] at h
      rcases addCells_of h with ⟨y, hy, e⟩ | ⟨h1, h2⟩
      · exact .inl ⟨y, .tail _ hy, e⟩
      · exact .inr ⟨h1, fun p hp => by rcases List.mem_cons.mp hp with rfl | hp; exact Ne.symm q; exact h2 p hp⟩
theorem addCells_ne {val : Str → Option CV} : ∀ {cs : List (Str × Addr)} {a : Addr}, (∀ p ∈ cs, p.2 ≠ a) → addCells H val cs a = H a
  | [], a, h => rfl
  | (x, c) :: r, a, h => by unfold addCells; rw [upd_ne (Ne.symm (h (x, c) (.head _)))]; exact addCells_ne fun p hp => h p (.tail _ hp)
theorem bindL_is (kind : Str → Option NameKind) : ∀ (l : List (Str × Value)) (m0 : Str → Option Value), (l.map (·.1)).Nodup → ∀ x, bindL kind l m0 x = match (l.filter fun p => decide (kind p.1 = some .local)).lookup x with | some v => some v | none => m0 x
  | [], m0, _, x => rfl
  | (n, v) :: r, m0, hl, x => by
    rw [List.map_cons, List.nodup_cons] at hl
    unfold bindL
    rw [bindL_is kind r _ hl.2]
    by_cases hk : kind n = some .local
    · rw [List.filter_cons_of_pos (by simpa using hk), List.lookup_cons]
      by_cases hx : x = n
      · subst hx
        have : (List.filter (fun p => decide (kind p.1 = some .local)) r).lookup x = none := by
          cases q : (List.filter (fun p => decide (kind p.1 = some .local)) r).lookup x with
          | none => rfl
          | some v' => exact absurd (List.mem_map_of_mem (f := (·.1)) (List.mem_filter.mp (mem_of_lookup q)).1) hl.1
        rw [this]; simp [hk]
      · have : (x == n) = false := by simpa using hx
        rw [this]
        cases (List.filter (fun p => decide (kind p.1 = some .local)) r).lookup x <;> simp [hk, hx]
    · rw [List.filter_cons_of_neg (by simpa using hk)]
      simp [hk]
theorem bindC_is (kind : Str → Option NameKind) : ∀ (l : List (Str × Value)) (m0 : Str → Option Value), (l.map (·.1)).Nodup → ∀ x, kind x ≠ some .local → bindC kind l m0 x = match l.lookup x with | some v => some v | none => m0 x
  | [], m0, _, x, _ => rfl
  | (n, v) :: r, m0, hl, x, hx => by
    rw [List.map_cons, List.nodup_cons] at hl
    unfold bindC
    rw [bindC_is kind r _ hl.2 x hx, List.lookup_cons]
    by_cases he : x = n
    · subst he
      have : r.lookup x = none := by
        cases q : r.lookup x with
        | none => rfl
        | some v' => exact absurd (List.mem_map_of_mem (f := (·.1)) (mem_of_lookup q)) hl.1
      rw [this]; simp [hx]
    · have : (x == n) = false := by simpa using he
      rw [this]
      by_cases hk : kind n = some .local
      · simp [hk]
      · simp [hk, he]
theorem repVs_zipF {B : Bs} {h : Heap} (p : Str → Bool) : ∀ {ns : List Str} {vs : List Value} {Vs : List CV}, RepVs B H h vs Vs → ∀ x, ORel (RepV B H h) (((ns.zip vs).filter fun q => p q.1).lookup x) (((ns.zip Vs).filter fun q => p q.1).lookup x)
  | [], _, _, _, x => trivial
  | _ :: _, _, _, .nil, x => trivial
  | n :: ns, _, _, .cons hv hr, x => by
    simp only [List.zip_cons_cons, List.filter_cons]
    cases hp : p n with
    | true =>
      simp only [if_true, List.lookup_cons]
      cases x == n with
      | true => exact hv
      | false => exact repVs_zipF p hr x
    | false => simp only [Bool.false_eq_true, if_false]; exact repVs_zipF p hr x
theorem cellsFrom_keys : ∀ (names : List (Str × NameKind)) (n : Nat) (acc : List (Str × Addr)), (cellsFrom n names acc).map (·.1) = ((names.filter fun p => p.2 == .cell).map (·.1)).reverse ++ acc.map (·.1)
  | [], _, _ => rfl
  | (x, k) :: r, n, acc => by
    unfold cellsFrom
    cases hk : k == .cell with
    | true => simp only [if_true, cellsFrom_keys r, List.filter_cons, hk, List.map_cons, List.reverse_cons, List.append_assoc, List.cons_append, List.nil_append]
    | false => simp only [Bool.false_eq_true, if_false, cellsFrom_keys r, List.filter_cons, hk]
theorem lookup_of_mem {α : Type} : ∀ {l : List (Str × α)} {x : Str} {c : α}, (l.map (·.1)).Nodup → (x, c) ∈ l → l.lookup x = some c
  | (y, d) :: r, x, c, hl, hm => by
    rw [List.map_cons, List.nodup_cons] at hl
    rw [List.lookup_cons]
    rcases List.mem_cons.mp hm with e | hm
    · cases e; simp
    · have : (x == y) = false := by
        have : x ≠ y := fun q => hl.1 (by rw [← q]; exact List.mem_map_of_mem (f := (·.1)) hm)
        simpa using this
      rw [this]; exact lookup_of_mem hl.2 hm

/-- a def of the top with cells of its own -/
theorem cl_defC {a : Addr} {fd : FuncData} {oc : Value} {od : Option Addr} {sl : Array (Option Value)} {body : List Stmt} {ns cn : List Str} {args : List CV} {Q : CV → CHeap → Prop} {n : Nat}
    (ho : X.K.lookup a = some ⟨oc, od, .func fd, sl⟩) (hcd : codeIn X.K fd.code fd.qualname = true) (hb : fd.body = .stmts body) (hbi : ∀ vals : List Value, vals.length = ns.length → bindArgs fd ⟨vals, []⟩ = pure (ns.zip vals)) (hlen : ns.length = args.length) (hnd : ns.Nodup)
    (hcn : ((fd.scope.names.filter fun p => p.2 == .cell).map (·.1)).reverse = cn) (hcnd : cn.Nodup) (hck : ∀ x ∈ cn, fd.scope.names.lookup x = some .cell)
    (hloc : ∀ x ∈ ns, fd.scope.names.lookup x = some .local ∨ (fd.scope.names.lookup x = some .cell ∧ x ∈ cn)) (hk : fd.scope.kind = .function) (hco : fd.scope.isCoroutine = false) (hg : fd.scope.isGenerator = false) (hgl : fd.globals = mainGlobals) (hbn : fd.builtins = builtinsNs) (hcl : fd.closure = [])
    (ro : Room A (n + 1)) (h : ∀ A' E' env cs, Room A' n → EnvOk env fd.scope cs fd.code (fd.qualname ++ ".<locals>.") → cs.map (·.1) = cn → (∀ p ∈ cs, H p.2 = none ∧ p.2 ≠ env.locals) → (cs.Pairwise fun x y => x.2 ≠ y.2) → H env.locals = none →
      ExSs X A' E' env body (fun f _ H' => Q (retOf f) H') ((ns.zip args).filter fun p => decide (fd.scope.names.lookup p.1 = some .local)) (addCells H (fun x => (ns.zip args).lookup x) cs)) : Cl X A E (.glob a) args Q H := fun s fv avs R r rs hfr => by
  cases r with
  | glob a =>
    have Kh : X.K.In s.heap := X.kin.keeps R.keep
    have keys : (cellsFrom (s.heap.objs.size + 1) fd.scope.names []).map (·.1) = cn := by rw [cellsFrom_keys, hcn]; simp
    have hlen' : ns.length = avs.length := by rw [hlen, repVs_len rs]
    refine wpAny_call (codeAny_call_cells (by have := ro.dp; omega) (Kh _ _ ho) rfl (X.nolim.keeps R.keep) (codeRec_of Kh hcd) hb (hbi avs hlen'.symm) hcl ?_ (fun s₁ ic => ?_) hco hg hk)
    · intro x hx
      rcases hloc x.1 (List.of_mem_zip hx).1 with h1 | ⟨h1, h2⟩
      · exact .inl h1
      · refine .inr ⟨h1, ?_⟩
        rw [← keys] at h2
        obtain ⟨p, hp, e⟩ := List.mem_map.mp h2
        have := lookup_of_mem (l := cellsFrom (s.heap.objs.size + 1) fd.scope.names []) (x := p.1) (c := p.2) (by rw [keys]; exact hcnd) hp
        rw [e] at this; rw [this]; rfl
    have hsz : s.heap.get? s.heap.objs.size = none := size_none _
    let cs := (callEnvC fd s.heap.objs.size a).cells
    let L := s.heap.objs.size
    have hcs : cs.map (·.1) = cn := keys
    have hnone : ∀ b, L ≤ b → s.heap.get? b = none := fun b hb => by
      cases q : s.heap.get? b with
      | none => rfl
      | some o => exact absurd (Heap.lt_size q) (Nat.not_lt.mpr hb)
    have hHnone : ∀ b, L ≤ b → H b = none := fun b hb => by
      cases q : H b with
      | none => rfl
      | some o => obtain ⟨ob, e⟩ := (R.obj _ _ q).2.there; rw [hnone b hb] at e; cases e
    have above : ∀ p ∈ cs, L < p.2 := fun p hp => ic.above p.1 p.2 hp
    have kk := ic.toInCall.keep
    have kx : KeepX X.B H s.heap s₁.heap := fun b o e _ _ => .inl (kk b o e)
    have nx : NewX H (addCells H (fun x => (ns.zip args).lookup x) cs) s.heap := fun b e nn => by
      by_cases q : ∀ p ∈ cs, p.2 ≠ b
      · rw [addCells_ne q] at nn; exact absurd e nn
      · obtain ⟨p, hp⟩ := Classical.not_forall.mp q
        obtain ⟨hp, he⟩ := Classical.not_imp.mp hp
        have he := Classical.not_not.mp he
        exact hnone b (by rw [← he]; exact Nat.le_of_lt (above p hp))
    have hkd : ∀ x, (callEnvC fd s.heap.objs.size a).kindOf x = fd.scope.names.lookup x := fun x => rfl
    have R1 : HRel X.B (addCells H (fun x => (ns.zip args).lookup x) cs) s₁.heap := by
      refine R.next (fun b o _ e => kk b o e) kx nx (fun d fs e => ⟨fs, ?_⟩) fun b o e => ?_
      · rw [addCells_ne]; exact e
        intro p hp q
        have := hHnone d (by rw [← q]; exact Nat.le_of_lt (above p hp)); rw [this] at e; cases e
      · rcases addCells_of e with ⟨x, hx, rfl⟩ | ⟨e', _⟩
        · refine .inr ⟨R.out (hnone b (Nat.le_of_lt (above _ hx))), ?_⟩
          have hl := lookup_of_mem (l := cs) (by rw [hcs]; exact hcnd) hx
          obtain ⟨oo, eo, ed⟩ := ic.cell x b hl
          refine ⟨_, oo, eo, ed, ?_⟩
          have hx' : (callEnvC fd s.heap.objs.size a).kindOf x ≠ some .local := by
            rw [hkd, hck x (by rw [← hcs]; exact List.mem_map_of_mem (f := (·.1)) hx)]; exact fun z => nomatch z
          rw [bindC_is _ _ _ (by rw [zip_keys hlen']; exact hnd) x hx']
          have := repVs_zip (ns := ns) (RepVs.to kx nx rs) x
          revert this
          cases (ns.zip avs).lookup x <;> exact id
        · exact .inl ⟨e', fun ob q => kk b ob q⟩
    have F1 : Frm X.B (callEnvC fd s.heap.objs.size a).locals ((ns.zip args).filter fun p => decide (fd.scope.names.lookup p.1 = some .local)) (addCells H (fun x => (ns.zip args).lookup x) cs) s₁.heap := by
      refine ⟨R.out hsz, ?_, _, ic.toInCall.ns, fun x => ?_⟩
      · show addCells H _ cs L = none
        rw [addCells_ne (fun p hp => Nat.ne_of_gt (above p hp))]; exact hHnone L (Nat.le_refl _)
      · rw [bindL_is _ _ _ (by rw [zip_keys hlen']; exact hnd)]
        have := repVs_zipF (fun x => decide (fd.scope.names.lookup x = some .local)) (ns := ns) (RepVs.to kx nx rs) x
        revert this
        show ORel _ ((List.filter (fun p => decide (fd.scope.names.lookup p.1 = some .local)) (ns.zip avs)).lookup x) _ → _
        have : (fun (p : Str × Value) => decide ((callEnvC fd s.heap.objs.size a).kindOf p.1 = some .local)) = fun p => decide (fd.scope.names.lookup p.1 = some .local) := rfl
        rw [this]
        cases (List.filter (fun (p : Str × Value) => decide (fd.scope.names.lookup p.1 = some .local)) (ns.zip avs)).lookup x <;> exact id
    obtain ⟨h1, t1, e1⟩ := ic.toInCall.same
    have old : ∀ {H1 : CHeap} {s' : Shared}, StepL X.B L (addCells H (fun x => (ns.zip args).lookup x) cs) s₁ H1 s' → Step X.B H s H1 s' := fun {H1 s'} st1 => by
      refine ⟨?_, st1.rel, fun b o' e' hn ht => st1.keep b o' (kk b o' e') (none_of_new nx hn e') ht (fun q => by rw [q] at e'; exact nomatch (hsz.symm.trans e')), fun b e' n' => ?_, fun b e' => st1.dom b ?_⟩
      · obtain ⟨h2, t2, e2⟩ := st1.sh; exact ⟨h2, t2, by rw [e2, e1]⟩
      · cases q : s.heap.get? b with
        | none => rfl
        | some ob => have := st1.new b (none_of_new nx e' q) n'; rw [kk b ob q] at this; cases this
      · by_cases q : ∀ p ∈ cs, p.2 ≠ b
        · rw [addCells_ne q]; exact e'
        · obtain ⟨p, hp⟩ := Classical.not_forall.mp q
          obtain ⟨hp, he⟩ := Classical.not_imp.mp hp
          have he := Classical.not_not.mp he
          exact absurd (hHnone b (by rw [← he]; exact Nat.le_of_lt (above p hp))) e'
    have fA : FrsE X.B (A.deeper (callEnvC fd s.heap.objs.size a)) (callEnvC fd s.heap.objs.size a) (addCells H (fun x => (ns.zip args).lookup x) cs) s₁.heap := by
      obtain ⟨l, el, hl⟩ := hfr
      refine ⟨⟨_, Around.frames_deeper el, fun env he => ?_⟩, l, Around.frames_deeper el⟩
      rcases List.mem_cons.mp he with rfl | he
      · obtain ⟨o, es, n, e1, e2⟩ := F1.there
        exact ⟨by rw [show (callEnvC fd s.heap.objs.size a).scope.kind = fd.scope.kind from rfl, hk]; decide, _, o, es, n, rfl, F1.lo, F1.free, e1, e2⟩
      · obtain ⟨k, L', o, es, n, q1, q2, q3, q4, q5⟩ := hl env he
        exact ⟨k, L', o, es, n, q1, q2, none_of_new nx q3 q4, kk _ _ q4, q5⟩
    have e := h (A.deeper (callEnvC fd s.heap.objs.size a)) (fun _ => E) (callEnvC fd s.heap.objs.size a) cs (ro.deeper _) ⟨rfl, rfl, hgl, hbn, rfl, rfl⟩ hcs
      (fun p hp => ⟨hHnone _ (Nat.le_of_lt (above p hp)), Nat.ne_of_gt (above p hp)⟩) ic.apart (hHnone L (Nat.le_refl _)) s₁ R1 F1 fA
    refine wpAny_mono e (fun f s' ⟨F1, m1, H1, rf, st1, _, q⟩ => ?_) fun e s' ⟨Hr, sr, m', st1, _, q, lk⟩ => ?_
    · refine ⟨retOf F1, H1, ?_, old st1, q⟩
      cases rf with
      | ret r => exact r
      | _ => exact .none
    · obtain ⟨l, el, _⟩ := hfr
      exact wpAny_mono (lk.leave el) (fun _ s'' x => ⟨Hr, sr, old st1, q, x⟩) fun _ _ x => x.elim
end
end
section
section
variable {X : Wd} {A : Around} {E : CHeap → Prop} {EL : Loc → CHeap → Prop} {env : Env} {m : Loc} {H : CHeap} {s : Shared}

theorem bmod_at (R : HRel X.B H s.heap) {P : Addr} (hP : P ∈ X.B.tabs) : s.heap.BuiltinsAt X.mg P := by
  obtain ⟨bm, ob, b1, b2, b3, b4, b5, b6⟩ := X.bmod
  refine ⟨bm, ob, b1, b2, fun q => ?_, fun q => ?_, R.keep _ _ b3, b4, b5, b6⟩
  · obtain ⟨o, es, ep, e, hd, _⟩ := X.g
    rw [q, e] at b3; cases b3; rw [hd] at b6; cases b6
  · have := R.thid P hP
    rw [← q, b3] at this; cases this
theorem glob_ne (R : HRel X.B H s.heap) {P : Addr} (hP : P ∈ X.B.tabs) : mainGlobals ≠ P := fun q => by
  obtain ⟨o, es, ep, e, hd, _⟩ := X.g
  have := R.thid P hP
  rw [← q, e] at this; cases this
/-- a def inside a def -/
theorem makeFn {t : TabS} {name qual : Str} {params : Arguments} {body : List Stmt} {scope : Scope} {clos : List (Str × Addr)} {pos : Pos} {fl : Nat} {Q : CV → CHeap → Prop} (ht : t ∈ X.B.tbs) (hcode : env.code = .ref t.c) (hgl : env.globals = mainGlobals) (hl : t.line = pos.line) (hc : t.col = pos.col) (hq : t.qual = qual)
    (hcl : closureFor scope env = pure clos) (R : HRel X.B H s.heap) (h : Q (.clo ⟨name, qual, params, body, scope⟩ clos) H) : TV X A (EL m) (makeFunction name qual params (.stmts body) scope env [] [] [] pos fl) H s Q := fun hfr => by
  have hm : t.P ∈ X.B.tabs := List.mem_map_of_mem (f := (·.P)) ht
  have hg := X.g.keeps R.keep
  have C := (X.cod t ht).keeps R.keep
  obtain ⟨ps, hP, r⟩ := R.tab t ht
  rcases r with rfl | ⟨ca, oc, vs, tk, rfl, lo, hn, e2, e3, e4⟩
  · refine makeFunction_K (mg := X.mg) (ps := #[]) hcl hgl hg hcode C hP trivial rfl (glob_ne R hm) (bmod_at R hm) fun c' ctv doc h' tk hx hge hlt hrec htb => ?_
    obtain ⟨c2, oc, vs, t2, e0, hoc, hod, hov⟩ := hrec
    cases e0
    have hcn : s.heap.get? c' = none := by
      cases q : s.heap.get? c' with
      | none => rfl
      | some o => exact absurd (Heap.lt_size q) (Nat.not_lt.mpr hge)
    have hcH : H c' = none := by
      cases q : H c' with
      | none => rfl
      | some o => obtain ⟨ob, e⟩ := (R.obj _ _ q).2.there; rw [hcn] at e; cases e
    have fn : s.heap.get? h'.objs.size = none := by
      cases q : s.heap.get? h'.objs.size with
      | none => rfl
      | some o =>
        by_cases z : h'.objs.size = t.P
        · exact absurd (Heap.lt_size (z ▸ htb)) (Nat.lt_irrefl _)
        · exact absurd (Heap.lt_size (hx _ _ z q)) (Nat.lt_irrefl _)
    have fH : H h'.objs.size = none := by
      cases q : H h'.objs.size with
      | none => rfl
      | some o => obtain ⟨ob, e⟩ := (R.obj _ _ q).2.there; rw [fn] at e; cases e
    have kk : ∀ a o, a ≠ t.P → s.heap.get? a = some o → (h'.push (fnMade name qual params body scope clos doc ((X.mg "__name__").getD .none) c' ctv)).get? a = some o := fun a o hne e => Heap.get?_push_of_some _ (hx a o hne e)
    have kx : KeepX X.B H s.heap (h'.push (fnMade name qual params body scope clos doc ((X.mg "__name__").getD .none) c' ctv)) := fun a o e _ hnt => .inl (kk a o (fun q => hnt (q ▸ hm)) e)
    have hco := Heap.get?_push_of_some (fnMade name qual params body scope clos doc ((X.mg "__name__").getD .none) c' ctv) hoc
    have R' : HRel X.B H (h'.push (fnMade name qual params body scope clos doc ((X.mg "__name__").getD .none) c' ctv)) := by
      refine R.next' (fun a o e e' => kk a o (fun q => ?_) e') (fun t' ht' => ?_) kx (fun a e n => absurd e n) (fun d fs e => ⟨fs, e⟩) fun a o e => .inl ⟨e, fun ob q => kk a ob (fun z => ?_) q⟩
      · have := R.thid t.P hm; rw [← q, e] at this; cases this
      · by_cases z : t'.P = t.P
        · have := X.tuni t ht t' ht' z
          subst this
          refine ⟨_, Heap.get?_push_of_some _ htb, .inr ⟨c', oc, vs, t2, ?_, R.out hcn, hcH, hco, hod, by rw [hq]; exact hov⟩⟩
          rw [hl, hc]; rfl
        · exact (R.tab t' ht').to kx (fun a e n => absurd e n) fun o e => kk _ o z e
      · exact absurd (z ▸ hm) (R.obj _ _ e).1.1
    have st : Step X.B H s H { s with heap := h'.push (fnMade name qual params body scope clos doc ((X.mg "__name__").getD .none) c' ctv), toks := tk } :=
      ⟨⟨_, _, rfl⟩, R', fun a o e _ hnt => .inl (kk a o (fun q => hnt (q ▸ hm)) e), fun a e n => absurd e n, fun a e => e⟩
    exact ⟨_, H, .clo (d := ⟨name, qual, params, body, scope⟩) (R.out fn) fH (Heap.get?_push_size _ rfl) hcH (R.out hcn) hco hod hov, st, h⟩
  · have hf : codeAmong pos (#[rawInt t.line, rawInt t.col, .ref ca] : Array Value).toList = some (.ref ca) := by
      rw [hl, hc]; simp [codeAmong, rawInt]
    refine makeFunction_hit (mg := X.mg) hcl hgl hg hcode C hP ⟨⟩ hf (bmod_at R hm) fun ctv doc h' tk' hk hsz => ?_
    have kk : ∀ a o, s.heap.get? a = some o → (h'.push ({ cls := .type "function", data := .func (fnX name qual params body scope clos .none .none doc ((X.mg "__name__").getD .none) none (.ref ca) ctv) })).get? a = some o := fun a o e => Heap.get?_push_of_some _ (hk a o e)
    have st := Step.grow (t := tk') R kk
    have fn : s.heap.get? h'.objs.size = none := by
      cases q : s.heap.get? h'.objs.size with
      | none => rfl
      | some o => exact absurd (Heap.lt_size (hk _ _ q)) (Nat.lt_irrefl _)
    have fH : H h'.objs.size = none := by
      cases q : H h'.objs.size with
      | none => rfl
      | some o => obtain ⟨ob, e⟩ := (R.obj _ _ q).2.there; rw [fn] at e; cases e
    exact ⟨_, H, .clo (d := ⟨name, qual, params, body, scope⟩) (R.out fn) fH (Heap.get?_push_size _ rfl) hn lo (kk _ _ e2) e3 (by rw [← hq]; exact e4), st, h⟩
theorem ex_def {t : TabS} {name : Str} {params : Arguments} {body : List Stmt} {scope : Scope} {clos : List (Str × Addr)} {pos : Pos} {Q : CF → Loc → CHeap → Prop} (ht : t ∈ X.B.tbs) (hcode : env.code = .ref t.c) (hgl : env.globals = mainGlobals) (hl : t.line = pos.line) (hc : t.col = pos.col) (hq : t.qual = qualnameIn env name name)
    (hcl : closureFor scope env = pure clos) (hd0 : params.defaults = []) (hk0 : params.kw_defaults = []) (ha : annTrees params none env = [])
    (h : StN X A EL env name (.clo ⟨name, t.qual, params, body, scope⟩ clos) (fun m' H' => Q .next m' H') m H) : ExS X A EL env (.FunctionDef name params body [] none [] scope none name pos) Q m H := fun s R F hfr => by
  refine nestDef_K hd0 hk0 ha ?_
  rw [← hq]
  have mk : TV X A (EL m) (makeFunction name t.qual params (.stmts body) scope env [] [] [] pos pos.line) H s fun V H1 => V = .clo ⟨name, t.qual, params, body, scope⟩ clos ∧ H1 = H := makeFn ht hcode hgl hl hc rfl hcl R ⟨rfl, rfl⟩
  refine TV.flow (Step.refl R) hfr F mk fun v s1 V H1 ⟨eV, eH⟩ r R1 F1 f1 st1 _ => ?_
  subst eV eH
  exact wpAny_mono (TL.after st1.toL hfr F1 (h s1 v R1 F1 r)) (fun _ _ x => x.next) fun _ _ e => e
/-- a, b = a tuple of as many -/
def StNs (X : Wd) (A : Around) (E : Loc → CHeap → Prop) (env : Env) (Q : Loc → CHeap → Prop) : List Str → List CV → Loc → CHeap → Prop
  | x :: xs, V :: Vs, m, H => StN X A E env x V (fun m' H' => StNs X A E env Q xs Vs m' H') m H
  | _, _, m, H => Q m H
theorem wp_assignInOrder {Q : Loc → CHeap → Prop} : ∀ {xs : List (Str × Pos)} {vs : List Value} {Vs : List CV} {m : Loc} {H : CHeap} {s : Shared} (R : HRel X.B H s.heap) (F : Frm X.B env.locals m H s.heap) (r : RepVs X.B H s.heap vs Vs) (hlen : xs.length = Vs.length)
    (h : StNs X A EL env Q (xs.map (·.1)) Vs m H), TL X A EL env (assignInOrder (xs.map fun x => assign (.Name x.1 x.2) env) vs) H s Q
  | [], _, _, m, H, s, R, F, .nil, _, h, hfr => wpAny_pure ⟨m, H, (Step.refl R).toL, F, h⟩
  | (x, px) :: xs, _, _, m, H, s, R, F, .cons hv hr, hl, h, hfr => by
    show wpAny X.M A (holding _ (assign (.Name x px) env _) >>= fun _ => assignInOrder (xs.map fun x => assign (.Name x.1 x.2) env) _) _ _ s
    refine wpAny_bind (wpAny_holding ?_)
    show wpAny X.M A (standAt px >>= fun _ => bindName env x _) _ _ s
    refine wpAny_bind (wpAny_standAt (wpAny_bindName (wpAny_mono (h s _ R F hv hfr) (fun _ s1 ⟨m1, H1, st1, F1, q1⟩ => ?_) fun _ _ e => e)))
    exact TL.after st1 hfr F1 (wp_assignInOrder st1.rel F1 (st1.vals F hr) (Nat.succ.inj hl) q1)
theorem extBut_new {h h' : Heap} (x : Heap.ExtBut h.objs.size h h') : ∀ a o, h.get? a = some o → h'.get? a = some o := fun a o e => x a o (Nat.ne_of_lt (Heap.lt_size e)) e
theorem ex_assign_tup {xs : List (Str × Pos)} {elts : List Expr} {k : Nat} {tp p : Pos} {e : Expr} {Q : CF → Loc → CHeap → Prop} (hA : A.handled = none) (h : EvE X A EL env e (fun V H1 => ∃ Vs, V = .tuple Vs ∧ xs.length = Vs.length ∧ StNs X A EL env (fun m' H' => Q .next m' H') (xs.map (·.1)) Vs m H1) m H)
    (hel : assignEach elts env = xs.map fun x => (false, assign (.Name x.1 x.2) env)) (hs : swapsWithSole [.Tuple elts k tp] e p.line env = pure false) (hw : swappedStores [.Tuple elts k tp] e env = pure none) : ExS X A EL env (.Assign [.Tuple elts k tp] e p) Q m H := fun s R F hfr => by
  refine wpAny_Assign_stores (TV.flow (Step.refl R) hfr F (h s R F) fun v s1 V H1 ⟨Vs, eV, hlen, q⟩ r R1 F1 f1 st _ => ?_) hs hw
  subst eV
  show wpAny X.M A (standAt tp >>= fun _ => unpack v (assignEach elts env)) _ _ s1
  refine wpAny_bind (wpAny_standAt ?_)
  rw [hel]
  cases r with
  | tuple hn ha ho hv =>
    rename_i a vs n
    have hl2 := repVs_len hv
    refine unpack_tuple hA ⟨_, ho, rfl, n, rfl⟩ (by simp only [List.length_map, List.size_toArray]; rw [hlen, hl2]) ?_ fun h' hx => ?_
    · rw [List.findIdx?_eq_none_iff]
      intro x hx
      obtain ⟨y, _, rfl⟩ := List.mem_map.mp hx
      rfl
    · have st2 : Step X.B H1 s1 H1 { s1 with heap := h' } := Step.grow (t := s1.toks) R1 (extBut_new hx)
      have e1 : (xs.map fun x => ((false, assign (.Name x.1 x.2) env) : Bool × (Value → Sem Unit))).map (·.2) = xs.map fun x => assign (.Name x.1 x.2) env := by rw [List.map_map]; rfl
      rw [e1]
      exact wpAny_mono (TL.after (st.trans st2).toL hfr (st2.frm R1 F1) (wp_assignInOrder st2.rel (st2.frm R1 F1) (st2.vals hv) hlen q)) (fun _ _ x => x.next) fun _ _ e => e
end
end
section
set_option maxRecDepth 100000
section
variable {X : Wd} {A : Around} {E : CHeap → Prop} {EL : Loc → CHeap → Prop} {env : Env} {m : Loc} {H : CHeap} {s : Shared} {Q : CV → CHeap → Prop}

-- ints
theorem bin_add {a b : Int} (h : Q (.int (a + b)) H) : BinR X A E .Add (.int a) (.int b) H Q := fun s va vb R ra rb hfr => by obtain ⟨_, rfl⟩ := ra.int_inv; obtain ⟨_, rfl⟩ := rb.int_inv; exact wpAny_add_int ⟨_, H, .int _ _, Step.tok R _, h⟩
theorem bin_sub {a b : Int} (h : Q (.int (a - b)) H) : BinR X A E .Sub (.int a) (.int b) H Q := fun s va vb R ra rb hfr => by obtain ⟨_, rfl⟩ := ra.int_inv; obtain ⟨_, rfl⟩ := rb.int_inv; exact PyProof.Rows.sub_int ⟨_, H, .int _ _, Step.tok R _, h⟩
theorem bin_mul {a b : Int} (hm : IntMulOk a b) (h : Q (.int (a * b)) H) : BinR X A E .Mult (.int a) (.int b) H Q := fun s va vb R ra rb hfr => by obtain ⟨_, rfl⟩ := ra.int_inv; obtain ⟨_, rfl⟩ := rb.int_inv; exact PyProof.Rows.mul_int ⟨_, H, .int _ _, Step.tok R _, h⟩ hm
theorem bin_div {a b : Int} (hb : b ≠ 0) (hp : Builtin.divisionGoesByPylong a b = false) (h : Q (.int (a.fdiv b)) H) : BinR X A E .FloorDiv (.int a) (.int b) H Q := fun s va vb R ra rb hfr => by obtain ⟨_, rfl⟩ := ra.int_inv; obtain ⟨_, rfl⟩ := rb.int_inv; exact PyProof.Rows.floordiv_int hb ⟨_, H, .int _ _, Step.tok R _, h⟩ (.inl hp)
theorem bin_mod {a b : Int} (hb : b ≠ 0) (h : Q (.int (a.fmod b)) H) : BinR X A E .Mod (.int a) (.int b) H Q := fun s va vb R ra rb hfr => by obtain ⟨_, rfl⟩ := ra.int_inv; obtain ⟨_, rfl⟩ := rb.int_inv; exact PyProof.Rows.mod_int hb ⟨_, H, .int _ _, Step.tok R _, h⟩
theorem bin_pow {a b : Int} (hb : 0 ≤ b) (hb2 : b ≤ 1000000) (ha : a.natAbs < 2 ^ 64) (h : Q (.int (a ^ b.toNat)) H) : BinR X A E .Pow (.int a) (.int b) H Q := fun s va vb R ra rb hfr => by obtain ⟨_, rfl⟩ := ra.int_inv; obtain ⟨_, rfl⟩ := rb.int_inv; exact PyProof.Rows.pow_int_small hb hb2 ha ⟨_, H, .int _ _, Step.tok R _, h⟩
theorem bin_shl {a b : Int} (hb : 0 ≤ b) (hz : (Builtin.Int.intBits a : Int) + b ≤ 2 ^ 27) (h : Q (.int (a * 2 ^ b.toNat)) H) : BinR X A E .LShift (.int a) (.int b) H Q := fun s va vb R ra rb hfr => by obtain ⟨_, rfl⟩ := ra.int_inv; obtain ⟨_, rfl⟩ := rb.int_inv; exact PyProof.Rows.lshift_int hb hz ⟨_, H, .int _ _, Step.tok R _, h⟩
theorem bin_shr {a b : Int} (hb : 0 ≤ b) (h : Q (.int (a.fdiv (2 ^ b.toNat))) H) : BinR X A E .RShift (.int a) (.int b) H Q := fun s va vb R ra rb hfr => by obtain ⟨_, rfl⟩ := ra.int_inv; obtain ⟨_, rfl⟩ := rb.int_inv; exact PyProof.Rows.rshift_int hb ⟨_, H, .int _ _, Step.tok R _, h⟩
theorem bin_xor {a b : Int} (h : Q (.int (Builtin.bitXor a b)) H) : BinR X A E .BitXor (.int a) (.int b) H Q := fun s va vb R ra rb hfr => by obtain ⟨_, rfl⟩ := ra.int_inv; obtain ⟨_, rfl⟩ := rb.int_inv; exact PyProof.Rows.xor_int ⟨_, H, .int _ _, Step.tok R _, h⟩
theorem inp_add {a b : Int} (h : Q (.int (a + b)) H) : InpR X A E .Add (.int a) (.int b) H Q := fun s va vb R ra rb hfr => by obtain ⟨_, rfl⟩ := ra.int_inv; obtain ⟨_, rfl⟩ := rb.int_inv; exact AutoIntOps.iadd_0 ⟨_, H, .int _ _, Step.tok R _, h⟩
theorem un_neg {a : Int} (h : Q (.int (-a)) H) : UnR X A E .USub (.int a) H Q := fun s va R ra hfr => by obtain ⟨_, rfl⟩ := ra.int_inv; exact PyProof.Rows.neg_int ⟨_, H, .int _ _, Step.tok R _, h⟩
theorem un_inv {a : Int} (h : Q (.int (-a - 1)) H) : UnR X A E .Invert (.int a) H Q := fun s va R ra hfr => by obtain ⟨_, rfl⟩ := ra.int_inv; exact PyProof.Rows.invert_int ⟨_, H, .int _ _, Step.tok R _, h⟩
theorem cmp_eq {a b : Int} (h : Q (.bool (a == b)) H) : CmpR X A E .Eq (.int a) (.int b) H Q := fun s va vb R ra rb hfr => by obtain ⟨_, rfl⟩ := ra.int_inv; obtain ⟨_, rfl⟩ := rb.int_inv; exact PySem.P.eq_int ⟨_, H, .bool _, Step.refl R, h⟩
theorem cmp_ne {a b : Int} (h : Q (.bool (a != b)) H) : CmpR X A E .NotEq (.int a) (.int b) H Q := fun s va vb R ra rb hfr => by obtain ⟨_, rfl⟩ := ra.int_inv; obtain ⟨_, rfl⟩ := rb.int_inv; exact PySem.P.ne_int ⟨_, H, .bool _, Step.refl R, h⟩
theorem cmp_lt {a b : Int} (h : Q (.bool (decide (a < b))) H) : CmpR X A E .Lt (.int a) (.int b) H Q := fun s va vb R ra rb hfr => by obtain ⟨_, rfl⟩ := ra.int_inv; obtain ⟨_, rfl⟩ := rb.int_inv; exact PySem.P.lt_int ⟨_, H, .bool _, Step.refl R, h⟩
theorem cmp_le {a b : Int} (h : Q (.bool (decide (a ≤ b))) H) : CmpR X A E .LtE (.int a) (.int b) H Q := fun s va vb R ra rb hfr => by obtain ⟨_, rfl⟩ := ra.int_inv; obtain ⟨_, rfl⟩ := rb.int_inv; exact PySem.P.le_int ⟨_, H, .bool _, Step.refl R, h⟩
theorem cmp_gt {a b : Int} (h : Q (.bool (decide (a > b))) H) : CmpR X A E .Gt (.int a) (.int b) H Q := fun s va vb R ra rb hfr => by obtain ⟨_, rfl⟩ := ra.int_inv; obtain ⟨_, rfl⟩ := rb.int_inv; exact PySem.P.gt_int ⟨_, H, .bool _, Step.refl R, h⟩
theorem cmp_ge {a b : Int} (h : Q (.bool (decide (a ≥ b))) H) : CmpR X A E .GtE (.int a) (.int b) H Q := fun s va vb R ra rb hfr => by obtain ⟨_, rfl⟩ := ra.int_inv; obtain ⟨_, rfl⟩ := rb.int_inv; exact PySem.P.ge_int ⟨_, H, .bool _, Step.refl R, h⟩
theorem meth_bits {a : Int} {Q : CV → List CV → CHeap → Prop} (h : Q (.bi "int.bit_length") [.int a] H) : MethR X A E (.int a) (Str.ofString "bit_length") H Q := fun s vo pl R r => by
  obtain ⟨_, rfl⟩ := r.int_inv; exact getMethod_int_bit_length ⟨_, _, H, .bi _, .cons (.int _ _) .nil, Step.refl R, h⟩
theorem cl_bits {a : Int} (h : Q (.int (Builtin.Int.intBits a)) H) : Cl X A E (.bi "int.bit_length") [.int a] Q H := fun s fv avs R r rs hfr => by
  obtain rfl := r.bi_inv; obtain ⟨_, rfl, h1⟩ := rs.one; obtain ⟨_, rfl⟩ := h1.int_inv; exact call_int_bit_length ⟨_, H, .int _ _, Step.tok R _, h⟩
theorem cl_divmod {a b : Int} (hb : b ≠ 0) (hp : Builtin.divisionGoesByPylong a b = false) (h : Q (.tuple [.int (a.fdiv b), .int (a.fmod b)]) H) : Cl X A E (.bi "divmod") [.int a, .int b] Q H := fun s fv avs R r rs hfr => by
  obtain rfl := r.bi_inv
  obtain ⟨_, _, rfl, h1, h2⟩ := rs.two
  obtain ⟨_, rfl⟩ := h1.int_inv
  obtain ⟨_, rfl⟩ := h2.int_inv
  refine divmod_int hb ?_ (.inl hp)
  refine ⟨_, H, .tuple (vs := [_, _]) (R.out (size_none _)) R.fresh (Heap.get?_push_size _ rfl) (.cons (.int _ _) (.cons (.int _ _) .nil)), Step.push R _ _, h⟩
theorem tr_int {a : Int} {QB : Bool → CHeap → Prop} (h : QB (a != 0) H) : TrR X A E (.int a) H QB := fun s va R r hfr => by
  obtain ⟨_, rfl⟩ := r.int_inv
  exact PySem.P.truthy_int ⟨H, Step.refl R, h⟩
theorem list_at {l : Addr} {xs : List CV} (R : HRel X.B H s.heap) (hl : H l = some (.list xs)) : ∃ vs n, s.heap.get? l = some (listOf vs.toArray n) ∧ RepVs X.B H s.heap vs xs := (R.obj _ _ hl).2
theorem tr_list {l : Addr} {xs : List CV} {QB : Bool → CHeap → Prop} (hl : H l = some (.list xs)) (hz : xs.length < 2 ^ 62) (h : QB (!xs.isEmpty) H) : TrR X A E (.ref l) H QB := fun s va R r hfr => by
  obtain rfl := r.ref_inv
  obtain ⟨vs, n, e, r⟩ := list_at R hl
  have hlen := repVs_len r
  refine wpAny_truthy_list ⟨_, e, rfl, n, rfl⟩ (by rw [List.size_toArray, hlen]; omega) ⟨H, Step.tok R _, ?_⟩
  have : vs.toArray.isEmpty = xs.isEmpty := by rw [List.isEmpty_toArray, Bool.eq_iff_iff, List.isEmpty_iff_length_eq_zero, List.isEmpty_iff_length_eq_zero, hlen]
  rw [this]; exact h
end
end
section
set_option maxRecDepth 100000
section
variable {X : Wd} {A : Around} {E : CHeap → Prop} {EL : Loc → CHeap → Prop} {env : Env} {m : Loc} {H : CHeap} {s : Shared} {Q : CV → CHeap → Prop}
variable {sc : Scope} {cells : List (Str × Addr)} {cd : Value} {qual : Str}
theorem put_same {x : Str} {V : CV} : (put x V m).lookup x = some V := by rw [lookup_put, if_pos rfl]
theorem put_other {x y : Str} {V : CV} {o : Option CV} (hy : (y == x) = false) (h : m.lookup y = o) : (put x V m).lookup y = o := by rw [lookup_put, if_neg (by simpa using hy)]; exact h
theorem cons_same {x : Str} {V : CV} : List.lookup x ((x, V) :: m) = some V := by simp
theorem cons_other {x y : Str} {V : CV} {o : Option CV} (hy : (y == x) = false) (h : m.lookup y = o) : List.lookup y ((x, V) :: m) = o := by rw [List.lookup_cons, hy]; exact h
theorem kindOf_ok {x : Str} {k : Option NameKind} (ok : EnvOk env sc cells cd qual) (h : sc.names.lookup x = k) : env.kindOf x = k := by rw [Env.kindOf, ok.sc]; exact h
theorem kind_ok {k : ScopeKind} (ok : EnvOk env sc cells cd qual) (h : sc.kind = k) : env.scope.kind = k := by rw [ok.sc]; exact h
theorem ev_local' {x : Str} {p : Pos} {V : CV} (ok : EnvOk env sc cells cd qual) (hk : sc.kind = .function) (hl : sc.names.lookup x = some .local) (hd : (x == ("__debug__" : Str)) = false) (hv : m.lookup x = some V) (h : Q V H) : EvE X A EL env (.Name x p) Q m H :=
  ev_local hv h (kind_ok ok hk) (kindOf_ok ok hl) hd
theorem ev_cell' {x : Str} {p : Pos} {V : CV} {c : Addr} (ok : EnvOk env sc cells cd qual) (hk : sc.kind = .function) (hl : sc.names.lookup x = some .cell) (hd : (x == ("__debug__" : Str)) = false) (hc : cells.lookup x = some c) (hv : H c = some (.cell (some V))) (h : Q V H) : EvE X A EL env (.Name x p) Q m H :=
  ev_cell (by rw [ok.cl]; exact hc) hv h (kind_ok ok hk) (kindOf_ok ok hl) hd
theorem ev_free' {x : Str} {p : Pos} {V : CV} {c : Addr} (ok : EnvOk env sc cells cd qual) (hk : sc.kind = .function) (hl : sc.names.lookup x = some .free) (hd : (x == ("__debug__" : Str)) = false) (hd2 : (x == ("__classdict__" : Str)) = false) (hc : cells.lookup x = some c) (hv : H c = some (.cell (some V))) (h : Q V H) : EvE X A EL env (.Name x p) Q m H :=
  ev_free (by rw [ok.cl]; exact hc) hv h (kind_ok ok hk) (kindOf_ok ok hl) hd hd2
theorem ev_glob' {K : Frag} {x : Str} {p : Pos} {v : Value} {V : CV} (hK : X.K = K) (ok : EnvOk env sc cells cd qual) (hk : sc.kind = .function) (hl : sc.names.lookup x = some .globalImplicit) (hd : (x == ("__debug__" : Str)) = false) (hn : nsIn K mainGlobals x = some (some v)) (gv : GV v V) (h : Q V H) : EvE X A EL env (.Name x p) Q m H :=
  ev_glob (by rw [hK]; exact hn) gv h (kind_ok ok hk) (kindOf_ok ok hl) ok.gl hd
theorem ev_builtin' {K : Frag} {x : Str} {p : Pos} {v : Value} {V : CV} (hK : X.K = K) (ok : EnvOk env sc cells cd qual) (hk : sc.kind = .function) (hl : sc.names.lookup x = some .globalImplicit) (hd : (x == ("__debug__" : Str)) = false) (hx : (x == ("__name__" : Str)) = false) (hn : nsIn K mainGlobals x = some none) (hv : bootBuiltins x = some v) (gv : GV v V) (h : Q V H) : EvE X A EL env (.Name x p) Q m H :=
  ev_builtin (by rw [hK]; exact hn) hv gv h (kind_ok ok hk) (kindOf_ok ok hl) ok.gl ok.bi (by simpa using hx) hd
theorem stn_local' {x : Str} {V : CV} {Q : Loc → CHeap → Prop} (ok : EnvOk env sc cells cd qual) (hk : sc.kind = .function) (hl : sc.names.lookup x = some .local) (h : Q (put x V m) H) : StN X A EL env x V Q m H :=
  stn_local h (kind_ok ok hk) (kindOf_ok ok hl)
theorem stn_cell' {x : Str} {V : CV} {c : Addr} {v0 : Option CV} {Q : Loc → CHeap → Prop} (ok : EnvOk env sc cells cd qual) (hk : sc.kind = .function) (hl : sc.names.lookup x = some .cell) (hc : cells.lookup x = some c) (hv : H c = some (.cell v0)) (h : Q m (upd H c (.cell (some V)))) : StN X A EL env x V Q m H :=
  stn_cell (by rw [ok.cl]; exact hc) hv h (kind_ok ok hk) (kindOf_ok ok hl)
theorem ldn_local' {x : Str} {V : CV} (ok : EnvOk env sc cells cd qual) (hk : sc.kind = .function) (hl : sc.names.lookup x = some .local) (hv : m.lookup x = some V) (h : Q V H) : LdN X A EL env x Q m H :=
  ldn_local hv h (kind_ok ok hk) (kindOf_ok ok hl)
/-- the branches of an if, for a known test -/
theorem two_true {P P' : Prop} (h : P) : (true = true → P) ∧ (true = false → P') := ⟨fun _ => h, fun e => nomatch e⟩
theorem two_false {P P' : Prop} (h : P') : (false = true → P) ∧ (false = false → P') := ⟨fun e => (nomatch e), fun _ => h⟩
theorem cl_app1 {f V : CV} {as : List CV} (h : Cl X A E f (V :: as) Q H) : Cl X A E f ([V] ++ as) Q H := h
theorem cl_app0 {f : CV} {as : List CV} (h : Cl X A E f as Q H) : Cl X A E f ([] ++ as) Q H := h
theorem callable_bi {id : String} : Callable X (.bi id) := trivial
theorem callable_ty {id : String} : Callable X (.ty id) := trivial
theorem callable_clo {d : NDef} {c : List (Str × Addr)} : Callable X (.clo d c) := trivial
theorem callable_glob {K : Frag} {a : Addr} (hK : X.K = K) (h : keepIn K (.ref a) = true) : Callable X (.glob a) := by show keepIn X.K _ = true; rw [hK]; exact h
end
end
section
set_option maxRecDepth 100000
section
variable {X : Wd} {A : Around} {E : CHeap → Prop} {EL : Loc → CHeap → Prop} {env : Env} {m : Loc} {H : CHeap} {s : Shared} {Q : CV → CHeap → Prop}

theorem repVs_app {B : Bs} {h : Heap} : ∀ {vs ws : List Value} {Vs Ws : List CV}, RepVs B H h vs Vs → RepVs B H h ws Ws → RepVs B H h (vs ++ ws) (Vs ++ Ws)
  | _, _, _, _, .nil, r => r
  | _, _, _, _, .cons h1 h2, r => .cons h1 (repVs_app h2 r)
theorem repVs_rev {B : Bs} {h : Heap} : ∀ {vs : List Value} {Vs : List CV}, RepVs B H h vs Vs → RepVs B H h vs.reverse Vs.reverse
  | _, _, .nil => .nil
  | _, _, .cons h1 h2 => by rw [List.reverse_cons, List.reverse_cons]; exact repVs_app (repVs_rev h2) (.cons h1 .nil)
theorem repVs_set {B : Bs} {h : Heap} {v : Value} {V : CV} (hv : RepV B H h v V) : ∀ {vs : List Value} {Vs : List CV}, RepVs B H h vs Vs → ∀ k : Nat, RepVs B H h (vs.set k v) (Vs.set k V)
  | _, _, .nil, _ => .nil
  | _, _, .cons h1 h2, 0 => .cons hv h2
  | _, _, .cons h1 h2, k + 1 => .cons h1 (repVs_set hv h2 k)
theorem repVs_get {B : Bs} {h : Heap} : ∀ {vs : List Value} {Vs : List CV}, RepVs B H h vs Vs → ∀ {k : Nat} {V : CV}, Vs[k]? = some V → ∃ v, vs[k]? = some v ∧ RepV B H h v V
  | _, _, .nil, k, V, e => by simp at e
  | _, _, .cons h1 h2, 0, V, e => by simp at e; subst e; exact ⟨_, rfl, h1⟩
  | _, _, .cons h1 h2, k + 1, V, e => by simp at e; obtain ⟨v, e', r⟩ := repVs_get h2 e; exact ⟨v, by simpa using e', r⟩
theorem repVs_drop {B : Bs} {h : Heap} : ∀ {vs : List Value} {Vs : List CV}, RepVs B H h vs Vs → ∀ k : Nat, RepVs B H h (vs.drop k) (Vs.drop k)
  | _, _, .nil, _ => by simp; exact .nil
  | _, _, .cons h1 h2, 0 => .cons h1 h2
  | _, _, .cons h1 h2, k + 1 => repVs_drop h2 k
theorem repVs_take {B : Bs} {h : Heap} : ∀ {vs : List Value} {Vs : List CV}, RepVs B H h vs Vs → ∀ k : Nat, RepVs B H h (vs.take k) (Vs.take k)
  | _, _, .nil, _ => by simp; exact .nil
  | _, _, .cons h1 h2, 0 => .nil
  | _, _, .cons h1 h2, k + 1 => .cons h1 (repVs_take h2 k)
theorem repVs_rep {B : Bs} {h : Heap} {vs : List Value} {Vs : List CV} (r : RepVs B H h vs Vs) : ∀ k : Nat, RepVs B H h (List.replicate k vs).flatten (List.replicate k Vs).flatten
  | 0 => .nil
  | k + 1 => by rw [List.replicate_succ, List.replicate_succ, List.flatten_cons, List.flatten_cons]; exact repVs_app r (repVs_rep r k)

/-- an owned list is turned -/
theorem list_turn {l : Addr} {xs xs' : List CV} {vs vs' : List Value} {n : Nat} {f : Array Value → Array Value} (R : HRel X.B H s.heap) (hl : H l = some (.list xs)) (e : s.heap.get? l = some (listOf vs.toArray n)) (he : f vs.toArray = vs'.toArray) (r : RepVs X.B H s.heap vs' xs') :
    Step X.B H s (upd H l (.list xs')) { s with heap := s.heap.update l (Obj.mapSeq f) } := by
  have nw : NewX H (upd H l (.list xs')) s.heap := fun b e0 n => by
    by_cases hb : b = l
    · subst hb; exact nomatch hl.symm.trans e0
    · rw [upd_ne hb] at n; exact absurd e0 n
  have kx : KeepX X.B H s.heap (s.heap.update l (Obj.mapSeq f)) := fun a o e ha _ => .inl (((Heap.SameBut.update s.heap l _).2 a (fun q => by subst q; rw [hl] at ha; cases ha)).trans e)
  have q := PySem.IsL.update (h := s.heap) e f
  rw [he] at q
  exact Step.set (t := s.toks) R hl (Heap.SameBut.update ..) (fun fs q => nomatch q) ⟨vs', _, q, r.to kx nw⟩
/-- a new list that the call owns, pushed -/
theorem push_own {xs : List CV} {vs : List Value} {its : Array Value} {k : Nat} (R : HRel X.B H s.heap) (r : RepVs X.B H s.heap vs xs) (he : its = vs.toArray) : Step X.B H s (upd H s.heap.objs.size (.list xs)) { s with heap := s.heap.push { cls := .type "list", data := .seq its k } } := by
  subst he
  refine Step.own (t := s.toks) R (fun a o e => Heap.get?_push_of_some _ e) (size_none _) ⟨vs, k, Heap.get?_push_size _ rfl, ?_⟩
  refine r.to (fun a o e _ _ => .inl (Heap.get?_push_of_some _ e)) fun b e n => ?_
  by_cases hb : b = s.heap.objs.size
  · subst hb; exact size_none _
  · rw [upd_ne hb] at n; exact absurd e n

theorem meth_list {l : Addr} {xs : List CV} {name : Str} {id : String} {Q : CV → List CV → CHeap → Prop} (slot : Slot "list" name id) (hty : typeOf (.builtin id) = pure (.type "method_descriptor")) (hl : H l = some (.list xs)) (h : Q (.bi id) [.ref l] H) : MethR X A E (.ref l) name H Q := fun s vo pl R r => by
  obtain rfl := r.ref_inv
  obtain ⟨vs, n, e, r⟩ := list_at R hl
  exact getMethod_builtin ⟨_, e, rfl⟩ PySem.F.plainAttrs_list slot hty (fun a ea => by cases ea; exact ⟨_, e, rfl⟩) ⟨_, _, H, .bi _, .cons (.ref _) .nil, Step.refl R, h⟩
theorem cl_append {l : Addr} {xs : List CV} {V : CV} (hl : H l = some (.list xs)) (hz : xs.length ≤ sizeLine) (h : Q .none (upd H l (.list (xs ++ [V])))) : Cl X A E (.bi "list.append") [.ref l, V] Q H := fun s fv avs R rf rs hfr => by
  obtain rfl := rf.bi_inv
  obtain ⟨_, _, rfl, h1, h2⟩ := rs.two
  obtain rfl := h1.ref_inv
  obtain ⟨vs, n, e, r⟩ := list_at R hl
  refine call_meets PySem.F.slot_list_append ⟨_, e, rfl⟩ PySem.F.entry_list_append (PySem.F.args_list_append_2 _ _) (PySem.list_append l _ n _ (by rw [List.size_toArray, repVs_len r]; exact hz)) ⟨e, ?_⟩
  exact ⟨.none, _, .none, list_turn R hl e (vs' := vs ++ [_]) (by simp) (repVs_app r (.cons h2 .nil)), h⟩
theorem cl_reverse {l : Addr} {xs : List CV} (hl : H l = some (.list xs)) (hz : xs.length ≤ sizeLine) (h : Q .none (upd H l (.list xs.reverse))) : Cl X A E (.bi "list.reverse") [.ref l] Q H := fun s fv avs R rf rs hfr => by
  obtain rfl := rf.bi_inv
  obtain ⟨_, rfl, h1⟩ := rs.one
  obtain rfl := h1.ref_inv
  obtain ⟨vs, n, e, r⟩ := list_at R hl
  refine call_meets PySem.F.slot_list_reverse ⟨_, e, rfl⟩ PySem.F.entry_list_reverse (PySem.F.args_list_reverse_1 _) (PySem.AutoSeq1.list_reverse_list_0 l _ n (by rw [List.size_toArray, repVs_len r]; exact hz)) ⟨e, ?_⟩
  exact ⟨.none, _, .none, list_turn R hl e (vs' := vs.reverse) (by simp) (repVs_rev r), h⟩
theorem cl_pop0 {l : Addr} {xs : List CV} {V : CV} (hl : H l = some (.list (V :: xs))) (hz : xs.length < sizeLine) (h : Q V (upd H l (.list xs))) : Cl X A E (.bi "list.pop") [.ref l, .int 0] Q H := fun s fv avs R rf rs hfr => by
  obtain rfl := rf.bi_inv
  obtain ⟨_, _, rfl, h1, h2⟩ := rs.two
  obtain rfl := h1.ref_inv
  obtain ⟨_, rfl⟩ := h2.int_inv
  obtain ⟨vs, n, e, r⟩ := list_at R hl
  cases r with
  | cons r1 r2 =>
    rename_i v vs
    refine call_meets PySem.F.slot_list_pop ⟨_, e, rfl⟩ PySem.F.entry_list_pop (PySem.F.args_list_pop_2 _ _) (PySem.MeetsSeq.list_pop_at l _ n 0 _ 0 v (by decide) (by simp [seqIndex?]) (by simp) (by rw [List.size_toArray, List.length_cons, repVs_len r2]; exact hz)) ⟨e, ?_⟩
    have st := list_turn (s := s) (f := fun xs => xs.eraseIdxIfInBounds 0) R hl e (vs' := vs) (by simp [Array.eraseIdxIfInBounds]) r2
    refine ⟨V, _, ?_, st, h⟩
    exact st.val r1
theorem cl_len {l : Addr} {xs : List CV} (hl : H l = some (.list xs)) (hz : xs.length < 2 ^ 62) (h : Q (.int xs.length) H) : Cl X A E (.bi "len") [.ref l] Q H := fun s fv avs R rf rs hfr => by
  obtain rfl := rf.bi_inv
  obtain ⟨_, rfl, h1⟩ := rs.one
  obtain rfl := h1.ref_inv
  obtain ⟨vs, n, e, r⟩ := list_at R hl
  refine call_len_list ⟨_, e, rfl, n, rfl⟩ (by rw [List.size_toArray, repVs_len r]; omega) ⟨.int xs.length, H, ?_, Step.tok R _, h⟩
  rw [List.size_toArray, repVs_len r]; exact .int _ _
theorem cl_len_str {x : Str} (hz : x.length < 2 ^ 62) (h : Q (.int x.length) H) : Cl X A E (.bi "len") [.str x] Q H := fun s fv avs R rf rs hfr => by
  obtain rfl := rf.bi_inv
  obtain ⟨_, rfl, h1⟩ := rs.one
  obtain ⟨_, rfl⟩ := h1.str_inv
  exact PySem.P.len_str (by omega) ⟨.int x.length, H, .int _ _, Step.tok R _, h⟩
theorem cl_len_frz {zs : List Int} (hz : zs.length < 2 ^ 62) (h : Q (.int zs.length) H) : Cl X A E (.bi "len") [.frz zs] Q H := fun s fv avs R rf rs hfr => by
  obtain rfl := rf.bi_inv
  obtain ⟨_, rfl, h1⟩ := rs.one
  obtain ⟨_, _, rfl, hl, hi⟩ := h1.frz_inv
  · · have hl' := hl.at fun o e => R.keep _ o e
      refine call_len_list hl' (by rw [List.size_toArray, hi.length]; omega) ⟨.int zs.length, H, ?_, Step.tok R _, h⟩
      rw [List.size_toArray, hi.length]; exact .int _ _
theorem bin_mul_list {l : Addr} {xs : List CV} {x : Int} (hl : H l = some (.list xs)) (hz : xs.length * x.toNat ≤ 2 ^ 24) (hlo : -(2 ^ 62 : Int) ≤ x) (hhi : x < 2 ^ 62) (h : ∀ a, H a = none → Q (.ref a) (upd H a (.list (List.replicate x.toNat xs).flatten))) : BinR X A E .Mult (.ref l) (.int x) H Q := fun s va vb R ra rb hfr => by
  obtain rfl := ra.ref_inv
  obtain ⟨u, rfl⟩ := rb.int_inv
  obtain ⟨vs, n, hl, r⟩ := list_at R hl
  have hsz : vs.toArray.size * x.toNat ≤ 2 ^ 24 := by rw [List.size_toArray, repVs_len r]; exact hz
  refine wpAny_binaryOp_repeat_ref (T := "list") (U := "int") (by decide) ⟨_, hl, rfl⟩ (fun s' => typeIs_int s' x u) noFill_list_mul F.fills_int_mul F.slot_int_rmul repeat_list F.slot_int_index.lookup
    (call_meets F.slot_int_rmul (typeIs_int s x u) F.entry_int_rmul (F.args_int_rmul_2 _ _) (int___rmul___int_list x u l vs.toArray n)
      ⟨hl, rfl, ⟨_, hl, rfl⟩, call_meets F.slot_list_mul ⟨_, hl, rfl⟩ F.entry_list_mul (F.args_list_mul_2 _ _)
        (AutoListH.list___mul___list_int_3 l vs.toArray n x u (by simp [Builtin.List.listFitsIndex]; omega) (by omega) (by simp [Builtin.List.listTooLong, sizeLine]; omega)) ⟨hl, ?_⟩⟩)
  have fold : ∀ (k : Nat) (acc : Array Value), List.foldl (fun x1 x2 => x1 ++ x2) acc (List.replicate k vs.toArray) = acc ++ (List.replicate k vs).flatten.toArray := by
    intro k
    induction k with
    | zero => intro acc; simp
    | succ k ih => intro acc; rw [List.replicate_succ, List.foldl_cons, ih, List.replicate_succ, List.flatten_cons]; simp
  refine ⟨.ref _, _, .ref _, push_own R (repVs_rep r x.toNat) ?_, h _ R.fresh⟩
  cases r with
  | nil => simp [List.flatten_replicate_nil]
  | cons r1 r2 => rw [if_neg (by simp), fold]; simp
theorem bin_add_list {l b : Addr} {xs ys : List CV} (hl : H l = some (.list xs)) (hb : H b = some (.list ys)) (hz : xs.length + ys.length ≤ sizeLine) (h : ∀ a, H a = none → Q (.ref a) (upd H a (.list (xs ++ ys)))) : BinR X A E .Add (.ref l) (.ref b) H Q := fun s va vb R ra rb hfr => by
  obtain rfl := ra.ref_inv
  obtain rfl := rb.ref_inv
  obtain ⟨vs, n, e, r⟩ := list_at R hl
  obtain ⟨vs2, n2, e2, r2⟩ := list_at R hb
  refine concat_meets ⟨_, e, rfl⟩ ⟨_, e2, rfl⟩ noFill_list_add seq_list_add PySem.F.slot_list_add PySem.F.entry_list_add (PySem.F.args_list_add_2 _ _) (list_addW l b vs.toArray vs2.toArray n n2 none none #[] #[] (by rw [List.size_toArray, List.size_toArray, repVs_len r, repVs_len r2]; exact hz)) ⟨e, e2, ?_⟩
  exact ⟨.ref _, _, .ref _, push_own R (repVs_app r r2) (by simp), h _ R.fresh⟩
theorem isub_list : isSeqSlot (some (.builtin "list.__iadd__")) = true := by decide +kernel
theorem inp_add_list {l b : Addr} {xs ys : List CV} (hl : H l = some (.list xs)) (hb : H b = some (.list ys)) (hlb : l ≠ b) (hz : xs.length + ys.length ≤ sizeLine) (h : Q (.ref l) (upd H l (.list (xs ++ ys)))) : InpR X A E .Add (.ref l) (.ref b) H Q := fun s va vb R ra rb hfr => by
  obtain rfl := ra.ref_inv
  obtain rfl := rb.ref_inv
  obtain ⟨vs, n, e, r⟩ := list_at R hl
  obtain ⟨vs2, n2, e2, r2⟩ := list_at R hb
  have sl : typeLookup (.type "list") (dunderI "add") = pure (some (.builtin "list.__iadd__")) := PySem.F.slot_list_iadd.lookup
  have hfi : fillsInplaceSlot (.type "list") "add" (Operator.Add == .Add) = pure false := by
    unfold fillsInplaceSlot
    show (typeLookup (.type "list") (dunderI "add") >>= fun fi => pure (fi.isSome && !isSeqSlot fi)) = pure false
    rw [sl]
    show (pure ((some (Value.builtin "list.__iadd__")).isSome && !isSeqSlot (some (.builtin "list.__iadd__"))) : Sem Bool) = _
    rw [isub_list]; rfl
  have hsi : seqSlot? (.type "list") (dunderI "add") = pure (some (.builtin "list.__iadd__")) := PySem.seqSlot_of sl (by decide +kernel)
  unfold inplaceOp
  refine wpAny_holding ?_
  refine wpAny_bind (wpAny_typeOf ⟨_, e, rfl⟩ (wpAny_bind (wpAny_of_eq hfi ?_)))
  show wpAny X.M A (if false = true then _ else _) _ _ s
  rw [if_neg Bool.false_ne_true]
  refine wpAny_bind (wpAny_binaryOp1_none (nm := "add") ⟨_, e, rfl⟩ ⟨_, e2, rfl⟩ noFill_list_add ?_)
  refine wpAny_bind (wpAny_of_eq hsi ?_)
  refine wpAny_bind (wpAny_rule ?_)
  have hs1 : vs.toArray.size + vs2.toArray.size ≤ sizeLine := by rw [List.size_toArray, List.size_toArray, repVs_len r, repVs_len r2]; exact hz
  refine call_meets PySem.F.slot_list_iadd ⟨_, e, rfl⟩ PySem.F.entry_list_iadd (PySem.F.args_list_iadd_2 _ _) (PySem.AutoSeq1.list___iadd___list_list_0 l vs.toArray n b vs2.toArray n2 ?_ (by omega) (by omega)) ⟨e, e2, ?_⟩
  · have : Builtin.List.listTooLong (vs.toArray.size + vs2.toArray.size) = false := by
      simp only [Builtin.List.listTooLong, sizeLine] at *; simp at *; omega
    rw [this]; simp
  · exact ⟨.ref l, _, .ref _, list_turn R hl e (vs' := vs ++ vs2) (by simp) (repVs_app r r2), h⟩
/-- reads -/
theorem sub_list {l : Addr} {xs : List CV} {value slice : Expr} {i : Int} {k : Nat} {V : CV} (hl : H l = some (.list xs)) (hk : (0 ≤ i ∧ k = i.toNat) ∨ (i < 0 ∧ (k : Int) = i + xs.length)) (hV : xs[k]? = some V) (hz : xs.length < 2 ^ 62) (hs : ∀ o i, subscripted slice false o i = operate [o, i] (getItem o i)) (h : Q V H) : SubR X A E value slice (.ref l) (.int i) H Q := fun s vo vi R ro ri hfr => by
  obtain rfl := ro.ref_inv
  obtain ⟨_, rfl⟩ := ri.int_inv
  obtain ⟨vs, n, e, r⟩ := list_at R hl
  obtain ⟨v, hv, rv⟩ := repVs_get r hV
  have hlen := repVs_len r
  have hkl : k < xs.length := by
    rcases Nat.lt_or_ge k xs.length with q | q
    · exact q
    · rw [List.getElem?_eq_none q] at hV; cases hV
  refine tail_any (T := "list") ⟨_, e, rfl⟩ slot_list_getitem.lookup ?_ (hs _ _)
  rcases hk with ⟨h0, rfl⟩ | ⟨h0, h1⟩
  · exact wpAny_getItem_list ⟨_, e, rfl, n, rfl⟩ h0 (by omega) (by simpa using hv) ⟨V, H, rv, Step.refl R, h⟩
  · refine wpAny_getItem_list_neg (x := v) ⟨_, e, rfl, n, rfl⟩ h0 (by rw [List.size_toArray, hlen]; omega) (by omega) ?_ ⟨V, H, rv, Step.refl R, h⟩
    have : (i + (vs.toArray.size : Int)).toNat = k := by rw [List.size_toArray, hlen]; omega
    rw [this]; simpa using hv
theorem sub_tuple {xs : List CV} {value slice : Expr} {i : Int} {k : Nat} {V : CV} (hk : (0 ≤ i ∧ k = i.toNat) ∨ (i < 0 ∧ (k : Int) = i + xs.length)) (hV : xs[k]? = some V) (hz : xs.length < 2 ^ 62) (hs : ∀ o i, subscripted slice false o i = operate [o, i] (getItem o i)) (h : Q V H) : SubR X A E value slice (.tuple xs) (.int i) H Q := fun s vo vi R ro ri hfr => by
  obtain ⟨_, rfl⟩ := ri.int_inv
  obtain ⟨a, vs, n, rfl, hn, ha, ho, hv⟩ := ro.tuple_inv
  · skip
    obtain ⟨v, hv', rv⟩ := repVs_get hv hV
    have hlen := repVs_len hv
    have hkl : k < xs.length := by
      rcases Nat.lt_or_ge k xs.length with q | q
      · exact q
      · rw [List.getElem?_eq_none q] at hV; cases hV
    refine tail_any (T := "tuple") ⟨_, ho, rfl⟩ F.slot_tuple_getitem.lookup ?_ (hs _ _)
    refine PyProof.Rows.getItem_tuple (j := k) (x := v) ⟨_, ho, rfl, n, rfl⟩ (by omega) (by omega) ?_ (by simpa using hv') ⟨V, H, rv, Step.refl R, h⟩
    unfold seqIndex?
    rw [List.size_toArray, hlen]
    rcases hk with ⟨h0, rfl⟩ | ⟨h0, h1⟩
    · simp; omega
    · simp; omega
theorem sub_str {x : Str} {value slice : Expr} {i : Int} {c : Nat} (hk : 0 ≤ i) (hV : x.cps[i.toNat]? = some c) (hz : x.length < 2 ^ 62) (hs : ∀ o i, subscripted slice false o i = operate [o, i] (getItem o i)) (h : Q (.str ⟨#[c]⟩) H) : SubR X A E value slice (.str x) (.int i) H Q := fun s vo vi R ro ri hfr => by
  obtain ⟨u, rfl⟩ := ri.int_inv
  obtain ⟨t, rfl⟩ := ro.str_inv
  refine tail_any (T := "str") (typeIs_str s x _) F.slot_str_getitem.lookup ?_ (hs _ _)
  have hl : i.toNat < x.length := by
    show i.toNat < x.cps.size
    rcases Nat.lt_or_ge i.toNat x.cps.size with q | q
    · exact q
    · rw [Array.getElem?_eq_none q] at hV; cases hV
  refine PySem.P.getItem_str (c := c) (by simp; omega) ?_ ⟨_, H, .str _ _, Step.tok R _, h⟩
  have : seqIndex? i x.length = some i.toNat := by unfold seqIndex?; simp; omega
  rw [this]; exact hV
theorem set_list_item {l : Addr} {xs : List CV} {i : Int} {V : CV} {Q : CHeap → Prop} (hl : H l = some (.list xs)) (h0 : 0 ≤ i) (h1 : i < xs.length) (hz : xs.length < 2 ^ 62) (h : Q (upd H l (.list (xs.set i.toNat V)))) : SetItR X A E (.ref l) (.int i) V H Q := fun s vo vi v R ro ri rv hfr => by
  obtain rfl := ro.ref_inv
  obtain ⟨_, rfl⟩ := ri.int_inv
  obtain ⟨vs, n, e, r⟩ := list_at R hl
  refine ki_setAt e h0 (by omega) (by rw [List.size_toArray, repVs_len r]; exact h1) ⟨_, list_turn R hl e (vs' := vs.set i.toNat v) (by simp) (repVs_set rv r i.toNat), h⟩
end
end
section
set_option maxRecDepth 100000
section
variable {X : Wd} {A : Around} {E : CHeap → Prop} {EL : Loc → CHeap → Prop} {env : Env} {m : Loc} {H : CHeap} {s : Shared} {Q : CV → CHeap → Prop}

theorem loose_fields {o : Obj} {vs : Array Value} (d : o.data = .fields vs) (h1 : ∀ q t, vs[1]? ≠ some (.str q t)) (hc : o.cls ≠ .type "range") (hc2 : o.cls ≠ .type "method") : Loose o :=
  ⟨fun vs n q => (by rw [q] at d; cases d), fun a b c e f g q => (by rw [q] at d; cases d), fun f self q => absurd (by rw [q]) hc2, fun vs' q t d' => (by rw [d] at d'; cases d'; exact h1 q t), fun vs' c => absurd c hc⟩
def listF (l : Addr) (i : Nat) (H : CHeap) : Option CV := match H l with | some (.list xs) => xs[i]? | _ => none
theorem listF_eq {l : Addr} {xs : List CV} {i : Nat} (h : H l = some (.list xs)) : listF l i H = xs[i]? := by unfold listF; rw [h]
abbrev lstF (V : CV) (i : Nat) (Hx : CHeap) : Option CV := match V with | .ref l => listF l i Hx | _ => none
abbrev lstG (V : CV) (Hx : CHeap) : Prop := match V with | .ref l => ∃ xs, Hx l = some (.list xs) | _ => True
theorem iter_list {l : Addr} {xs : List CV} (hl : H l = some (.list xs)) : IterR X A E (.ref l) (listF l) (fun H => ∃ xs, H l = some (.list xs)) H := fun s v R r => by
  obtain rfl := r.ref_inv
  obtain ⟨vs, n, e, r⟩ := list_at R hl
  refine wpAny_pyIter_list ⟨_, e, rfl, n, rfl⟩ ⟨s.heap.objs.size, fun i h => h.IsListIter s.heap.objs.size l i, ⟨?_, ?_, ?sf, ?_⟩, ⟨_, Heap.get?_push_size _ rfl, rfl, rfl⟩, size_none _, Step.push R _ _⟩
  case sf => intro A E s i W hP hW; exact wpAny_pyIter_listiter hP hW
  · intro i h h' ⟨o, ho, hr⟩ k
    exact ⟨o, k _ ho, hr⟩
  · intro i h ⟨o, ho, hc, hd⟩
    exact ⟨o, ho, loose_fields hd (fun q t z => nomatch z) (by rw [hc]; decide) (by rw [hc]; decide), fun es n q => by rw [hd] at q; cases q⟩
  · intro A E s H i W hA R hr ⟨xs, hl⟩ hP hn hs
    obtain ⟨vs, n, e, r⟩ := list_at R hl
    rw [listF_eq hl] at hn hs
    cases q : xs[i]? with
    | none =>
      have : vs.toArray[i]? = none := by
        have : vs[i]? = none := by rw [List.getElem?_eq_none_iff] at q ⊢; rw [repVs_len r]; exact q
        simpa using this
      exact wpAny_pyNext_list_end hA hP ⟨_, e, rfl, n, rfl⟩ this fun h' he => hn q h' s.toks fun a o ne e => he a o ne e
    | some V =>
      obtain ⟨v, hv, rv⟩ := repVs_get r q
      exact wpAny_pyNext_list_item hP ⟨_, e, rfl, n, rfl⟩ (by simpa using hv) fun h' hit sb => hs V q v h' s.toks (fun a o ne e => (sb.2 a ne).trans e) hit rv
theorem ints_get : ∀ {vs : List Value} {zs : List Int}, IntsAre vs zs → ∀ {i : Nat} {z : Int}, zs[i]? = some z → ∃ t, vs[i]? = some (.int z t)
  | _, _, .nil, i, z, e => by simp at e
  | _, _, .cons _ _ h, 0, z, e => by simp at e; subst e; exact ⟨_, rfl⟩
  | _, _, .cons _ _ h, i + 1, z, e => by simp at e; obtain ⟨t, e'⟩ := ints_get h e; exact ⟨t, by simpa using e'⟩
def strF (x : Str) (i : Nat) (H : CHeap) : Option CV := x.cps[i]?.map fun c => CV.str ⟨#[c]⟩
theorem iter_str {x : Str} : IterR X A E (.str x) (strF x) (fun _ => True) H := fun s v R r => by
  obtain ⟨t, rfl⟩ := r.str_inv
  refine wpAny_pyIter_strU ⟨s.heap.objs.size, fun i h => h.IsStrIter s.heap.objs.size (strIterType x) x t i, ⟨?_, ?_, ?sf, ?_⟩, ⟨_, Heap.get?_push_size _ rfl, rfl, rfl⟩, size_none _, Step.push R _ _⟩
  case sf =>
    intro A E s i W hP hW
    unfold strIterType at hP
    cases ha : x.cps.all (· < 128) with
    | true => rw [ha] at hP; exact wpAny_pyIter_striter_ascii hP hW
    | false => rw [ha] at hP; exact wpAny_pyIter_striter_wide hP hW
  · intro i h h' ⟨o, ho, hr⟩ k
    exact ⟨o, k _ ho, hr⟩
  · intro i h ⟨o, ho, hc, hd⟩
    refine ⟨o, ho, loose_fields hd (fun q t z => nomatch z) ?_ ?_, fun es n q => by rw [hd] at q; cases q⟩ <;> (rw [hc]; unfold strIterType; split <;> decide)
  · intro A E s H i W hA R hr _ hP hn hs
    unfold strIterType at hP
    cases q : x.cps[i]? with
    | none =>
      have hf : strF x i H = none := by unfold strF; rw [q]; rfl
      cases ha : x.cps.all (· < 128) with
      | true => rw [ha] at hP; exact wpAny_pyNext_ascii_end hA hP q fun h' he => hn hf h' s.toks fun a o ne e => he a o ne e
      | false => rw [ha] at hP; exact wpAny_pyNext_wide_end hA hP q fun h' he => hn hf h' s.toks fun a o ne e => he a o ne e
    | some c =>
      have hf : strF x i H = some (.str ⟨#[c]⟩) := by unfold strF; rw [q]; rfl
      cases ha : x.cps.all (· < 128) with
      | true => rw [ha] at hP; exact wpAny_pyNext_ascii_item hP q fun h' hit sb => hs _ hf _ h' _ (fun a o ne e => (sb.2 a ne).trans e) (by unfold strIterType; rw [ha]; exact hit) (.str _ _)
      | false => rw [ha] at hP; exact wpAny_pyNext_wide_item hP q fun h' hit sb => hs _ hf _ h' _ (fun a o ne e => (sb.2 a ne).trans e) (by unfold strIterType; rw [ha]; exact hit) (.str _ _)
def rngF (a b : Int) (i : Nat) (H : CHeap) : Option CV := if a + i < b then some (.int (a + i)) else none
theorem iter_range {a b : Int} (ha : -(2 ^ 60 : Int) ≤ a) (ha' : a ≤ 2 ^ 60) (hb : -(2 ^ 60 : Int) ≤ b) (hb' : b ≤ 2 ^ 60) : IterR X A E (.rng a b 1) (rngF a b) (fun _ => True) H := fun s v R r => by
  cases r with
  | rng hn hh ho =>
    have hsz : Builtin.Range.rangeSize a b 1 = if a < b then b - a else 0 := by
      unfold Builtin.Range.rangeSize
      simp only [Int.ediv_one]
      split <;> simp <;> split <;> omega
    refine wpAny_pyIter_range ho ?_ ⟨s.heap.objs.size, fun i h => IsRangeIter h s.heap.objs.size (a + i) ((if a < b then b - a else 0) - i) 1, ⟨?_, ?_, ?sf, ?_⟩, ?_, size_none _, Step.push R _ _⟩
    case sf => intro A E s i W hP hW; exact wpAny_pyIter_rangeiter hP hW
    · unfold Builtin.Range.small
      rw [hsz]
      simp only [Builtin.Range.rangeFitsLong]
      split <;> simp <;> omega
    · intro i h h' ho k
      exact k _ ho
    · intro i h ho
      exact ⟨_, ho, loose_fields rfl (fun q t z => nomatch z) (show Value.type "range_iterator" ≠ _ by decide) (show Value.type "range_iterator" ≠ _ by decide), fun es n q => nomatch q⟩
    · intro A E s H i W hA R hr _ hP hn hs
      by_cases hi : a + i < b
      · have hf : rngF a b i H = some (.int (a + i)) := by unfold rngF; rw [if_pos hi]
        refine wpAny_pyNext_range_item hP (by split <;> omega) fun h' hit sb => hs _ hf _ h' _ (fun a o ne e => (sb.2 a ne).trans e) ?_ (.int _ _)
        have e1 : a + ((i + 1 : Nat) : Int) = a + i + 1 := by omega
        have e2 : (if a < b then b - a else 0) - ((i + 1 : Nat) : Int) = (if a < b then b - a else 0) - i - 1 := by omega
        show IsRangeIter h' _ (a + ((i + 1 : Nat) : Int)) ((if a < b then b - a else 0) - ((i + 1 : Nat) : Int)) 1
        rw [e1, e2]; exact hit
      · have hf : rngF a b i H = none := by unfold rngF; rw [if_neg hi]
        exact wpAny_pyNext_range_end hA hP (by split <;> omega) fun h' he => hn hf h' s.toks fun a o ne e => he a o ne e
    · show (s.heap.push _).get? _ = _
      rw [Heap.get?_push_size _ rfl, hsz]
      simp
theorem cl_range1 {n : Int} (h : Q (.rng 0 n 1) H) : Cl X A E (.ty "range") [.int n] Q H := fun s fv avs R rf rs hfr => by
  obtain rfl := rf.ty_inv
  obtain ⟨_, rfl, h1⟩ := rs.one
  obtain ⟨_, rfl⟩ := h1.int_inv
  exact call_range_1 ⟨_, H, .rng (R.out (size_none _)) R.fresh (Heap.get?_push_size _ rfl), Step.push R _ _, h⟩
theorem cl_range2 {a b : Int} (h : Q (.rng a b 1) H) : Cl X A E (.ty "range") [.int a, .int b] Q H := fun s fv avs R rf rs hfr => by
  obtain rfl := rf.ty_inv
  obtain ⟨_, _, rfl, h1, h2⟩ := rs.two
  obtain ⟨_, rfl⟩ := h1.int_inv
  obtain ⟨_, rfl⟩ := h2.int_inv
  exact call_range_2 ⟨_, H, .rng (R.out (size_none _)) R.fresh (Heap.get?_push_size _ rfl), Step.push R _ _, h⟩
-- strs
theorem cmp_eq_str {x y : Str} (h : Q (.bool (x == y)) H) : CmpR X A E .Eq (.str x) (.str y) H Q := fun s va vb R ra rb hfr => by obtain ⟨_, rfl⟩ := ra.str_inv; obtain ⟨_, rfl⟩ := rb.str_inv; exact PyProof.Rows.eq_str ⟨_, H, .bool _, Step.refl R, h⟩
theorem cmp_in_str {x y : Str} (h : Q (.bool (Txt.contains x y)) H) : CmpR X A E .In (.str y) (.str x) H Q := fun s va vb R ra rb hfr => by obtain ⟨_, rfl⟩ := ra.str_inv; obtain ⟨_, rfl⟩ := rb.str_inv; exact SB.contains ⟨_, H, .bool _, Step.refl R, h⟩
theorem bin_add_str {x y : Str} (hz : x.length + y.length ≤ 16777216) (h : Q (.str (x ++ y)) H) : BinR X A E .Add (.str x) (.str y) H Q := fun s va vb R ra rb hfr => by
  obtain ⟨_, rfl⟩ := ra.str_inv
  obtain ⟨_, rfl⟩ := rb.str_inv
  refine KOpn.add hz fun t' k _ => ⟨_, H, .str _ _, Step.tok R _, h⟩
theorem str_nil {x : Str} (h : (x.length == 0) = true) : x = ⟨#[]⟩ := by
  obtain ⟨c⟩ := x
  have : c.size = 0 := by simpa [Str.length] using h
  have : c = #[] := Array.eq_empty_of_size_eq_zero this
  rw [this]
theorem inp_add_str {x y : Str} (hz : x.length + y.length ≤ 16777216) (h : Q (.str (x ++ y)) H) : InpR X A E .Add (.str x) (.str y) H Q := fun s va vb R ra rb hfr => by
  obtain ⟨_, rfl⟩ := ra.str_inv
  obtain ⟨_, rfl⟩ := rb.str_inv
  refine PySem.P.iadd_str ?_
  split
  · rename_i h0
    have e : x ++ y = y := by rw [str_nil h0]; obtain ⟨c⟩ := y; show Str.mk (#[] ++ c) = _; simp
    rw [e] at h
    exact ⟨_, H, .str _ _, Step.refl R, h⟩
  · split
    · rename_i h0
      have e : x ++ y = x := by rw [str_nil h0]; obtain ⟨c⟩ := x; show Str.mk (c ++ #[]) = _; simp
      rw [e] at h
      exact ⟨_, H, .str _ _, Step.refl R, h⟩
    · refine ⟨?_, _, H, .str _ _, Step.tok R _, h⟩
      show (x ++ y).length ≤ sizeLine
      have : (x ++ y).length = x.length + y.length := by obtain ⟨c⟩ := x; obtain ⟨d⟩ := y; show (c ++ d).size = c.size + d.size; simp
      rw [this]; exact hz
theorem meth_find {x : Str} {Q : CV → List CV → CHeap → Prop} (h : Q (.bi "str.find") [.str x] H) : MethR X A E (.str x) (Str.ofString "find") H Q := fun s vo pl R r => by
  obtain ⟨_, rfl⟩ := r.str_inv; exact GM.find ⟨_, _, H, .bi _, .cons (.str _ _) .nil, Step.refl R, h⟩
theorem meth_count {x : Str} {Q : CV → List CV → CHeap → Prop} (h : Q (.bi "str.count") [.str x] H) : MethR X A E (.str x) (Str.ofString "count") H Q := fun s vo pl R r => by
  obtain ⟨_, rfl⟩ := r.str_inv; exact GM.count ⟨_, _, H, .bi _, .cons (.str _ _) .nil, Step.refl R, h⟩
theorem meth_join {x : Str} {Q : CV → List CV → CHeap → Prop} (h : Q (.bi "str.join") [.str x] H) : MethR X A E (.str x) (Str.ofString "join") H Q := fun s vo pl R r => by
  obtain ⟨_, rfl⟩ := r.str_inv; exact GM.join ⟨_, _, H, .bi _, .cons (.str _ _) .nil, Step.refl R, h⟩
theorem cl_find {x y : Str} (h : Q (.int (Txt.find x y)) H) : Cl X A E (.bi "str.find") [.str x, .str y] Q H := fun s fv avs R rf rs hfr => by
  obtain rfl := rf.bi_inv
  obtain ⟨_, _, rfl, h1, h2⟩ := rs.two
  obtain ⟨_, rfl⟩ := h1.str_inv
  obtain ⟨_, rfl⟩ := h2.str_inv
  exact SC.find ⟨_, H, .int _ _, Step.tok R _, h⟩
theorem strs_of {B : Bs} {h : Heap} : ∀ {vs : List Value} {ys : List Str}, RepVs B H h vs (ys.map CV.str) → StrsAre vs ys
  | _, [], .nil => .nil
  | _, y :: ys, .cons hv hr => by obtain ⟨_, rfl⟩ := hv.str_inv; exact .cons _ _ (strs_of hr)
theorem cl_join {x : Str} {l : Addr} {ys : List Str} (hl : H l = some (.list (ys.map CV.str))) (hok : (ys.map (·.length)).sum + ys.length * x.length ≤ 16777216) (h : Q (.str (Txt.join x ys)) H) : Cl X A E (.bi "str.join") [.str x, .ref l] Q H := fun s fv avs R rf rs hfr => by
  obtain rfl := rf.bi_inv
  obtain ⟨_, _, rfl, h1, h2⟩ := rs.two
  obtain ⟨_, rfl⟩ := h1.str_inv
  obtain rfl := h2.ref_inv
  obtain ⟨vs, n, e, r⟩ := list_at R hl
  exact join_list ⟨_, e, rfl, n, rfl⟩ (strs_of (by simpa using r)) hok fun t' k => ⟨_, H, .str _ _, Step.tok R _, h⟩
theorem tr_str {x : Str} {QB : Bool → CHeap → Prop} (hz : x.length < 2 ^ 62) (h : QB ((x.length : Int) != 0) H) : TrR X A E (.str x) H QB := fun s va R r hfr => by
  obtain ⟨_, rfl⟩ := r.str_inv
  exact PySem.P.truthy_str (by omega) ⟨H, Step.tok R _, h⟩
theorem cl_max {a b : Int} (hA : A.handled = none) (h : Q (.int (if b > a then b else a)) H) : Cl X A E (.bi "max") [.int a, .int b] Q H := fun s fv avs R rf rs hfr => by
  obtain rfl := rf.bi_inv
  obtain ⟨_, _, rfl, h1, h2⟩ := rs.two
  obtain ⟨_, rfl⟩ := h1.int_inv
  obtain ⟨_, rfl⟩ := h2.int_inv
  refine max_two_ints hA fun h' tk k => ⟨_, H, ?_, Step.grow R k, h⟩
  split <;> exact .int _ _
theorem cl_abs {a : Int} (h : Q (.int (if a < 0 then -a else a)) H) : Cl X A E (.bi "abs") [.int a] Q H := fun s fv avs R rf rs hfr => by
  obtain rfl := rf.bi_inv
  obtain ⟨_, rfl, h1⟩ := rs.one
  obtain ⟨_, rfl⟩ := h1.int_inv
  exact call_abs_int fun u tk => ⟨_, H, .int _ _, Step.tok R _, h⟩
end
end
section
set_option maxRecDepth 100000
theorem owner_ci : Manifest.owners.lookup (String.ofList ['r', 'o', 't', 'a', 'r', 'e', 't', 'i', '_', 'e', 'l', 'b', 'a', 'l', 'l', 'a', 'c'].reverse) = some Manifest.sig_callable_iterator := by kernel_rfl
theorem slot_ci_next : Slot "callable_iterator" "__next__" "callable_iterator.__next__" :=
  .of (owner := "callable_iterator") (n := "__next__") (by rw [typeLookup_type, builtinLookup_eq_fast]; kernel_rfl) (by decide +kernel) (by decide +kernel) (by decide +kernel)
    (by first | exact .inl (by decide +kernel) | exact .inr (by decide +kernel)) (by rw [isSubtype_type]; kernel_rfl)
theorem entry_ci_next : entryFor table "callable_iterator.__next__" = some Builtin.«callable_iterator.__next__» := entryFor_of_tree (by kernel_rfl)
theorem args_ci_next (a : Value) : argsOk "callable_iterator.__next__" ⟨[a], []⟩ := by
  unfold argsOk; rw [signature?_of (id := "callable_iterator.__next__") (n := ['_', '_', 't', 'x', 'e', 'n', '_', '_']) (o := ['r', 'o', 't', 'a', 'r', 'e', 't', 'i', '_', 'e', 'l', 'b', 'a', 'l', 'l', 'a', 'c']) (by kernel_rfl) owner_ci]; kernel_rfl
theorem slot_ci_iter : Slot "callable_iterator" "__iter__" "callable_iterator.__iter__" :=
  .of (owner := "callable_iterator") (n := "__iter__") (by rw [typeLookup_type, builtinLookup_eq_fast]; kernel_rfl) (by decide +kernel) (by decide +kernel) (by decide +kernel)
    (by first | exact .inl (by decide +kernel) | exact .inr (by decide +kernel)) (by rw [isSubtype_type]; kernel_rfl)
theorem args_ci_iter (a : Value) : argsOk "callable_iterator.__iter__" ⟨[a], []⟩ := by
  unfold argsOk; rw [signature?_of (id := "callable_iterator.__iter__") (n := ['_', '_', 'r', 'e', 't', 'i', '_', '_']) (o := ['r', 'o', 't', 'a', 'r', 'e', 't', 'i', '_', 'e', 'l', 'b', 'a', 'l', 'l', 'a', 'c']) (by kernel_rfl) owner_ci]; kernel_rfl
theorem entry_ci_iter : entryFor table "callable_iterator.__iter__" = some Builtin.«dict_keyiterator.__iter__» :=
  entryFor_alias (id' := "dict_keyiterator.__iter__") (by kernel_rfl) (by first | rfl | decide +kernel | (unfold String.splitOn; simp +decide [String.splitOnAux])) (by decide +kernel) (by kernel_rfl)
theorem args_iter2 (a b : Value) : argsOk "iter" ⟨[a, b], []⟩ := by unfold argsOk; kernel_rfl
theorem meth_call_slot : ∃ r, typeLookup (.type "method") "__call__" = pure (some r) := ⟨.builtin "method.__call__", by rw [typeLookup_type, builtinLookup_eq_fast]; kernel_rfl⟩
section
variable {X : Wd} {A : Around} {E : CHeap → Prop} {EL : Loc → CHeap → Prop} {env : Env} {m : Loc} {H : CHeap} {s : Shared} {Q : CV → CHeap → Prop}

def NextR (X : Wd) (A : Around) (E : CHeap → Prop) (V : CV) (H : CHeap) (Q : Option CV → CHeap → Prop) : Prop :=
  ∀ s v, HRel X.B H s.heap → RepV X.B H s.heap v V → FrsAt X.B A H s.heap → wpAny X.M A (pyNext v) (fun r s' => ∃ o H', ORel (RepV X.B H' s'.heap) r o ∧ Step X.B H s H' s' ∧ Q o H') (PE X A H s E) s
def SelfR (X : Wd) (A : Around) (E : CHeap → Prop) (V : CV) (H : CHeap) : Prop :=
  ∀ s v, HRel X.B H s.heap → RepV X.B H s.heap v V → wpAny X.M A (pyIter v) (fun r s' => r = v ∧ s' = s) (PE X A H s E) s
abbrev NxQ (X : Wd) (A : Around) (E : Loc → CHeap → Prop) (env : Env) (x : Str) (body : List Stmt) (I : Nat → Loc → CHeap → Prop) (n : Nat) (Q : CF → Loc → CHeap → Prop) (m : Loc) (o : Option CV) (H1 : CHeap) : Prop := match o with
  | none => Q .next m H1
  | some W => StN X A E env x W (fun m1 H2 => ExSs X A E env body (WhQ I n Q) m1 H2) m H1
theorem ex_for2 {x : Str} {np p : Pos} {it : Expr} {body : List Stmt} {Q : CF → Loc → CHeap → Prop} (I : CV → Nat → Loc → CHeap → Prop)
    (h : EvE X A EL env it (fun V H1 => SelfR X A (EL m) V H1 ∧ ∃ n, I V n m H1) m H)
    (turn : ∀ E' V n m H, I V n m H → H env.locals = none → NextR X A (E' m) V H (NxQ X A E' env x body (I V) n Q m))
    (hs : ∀ v, foldedSetIterable it env v = pure v) : ExS X A EL env (.For (.Name x np) it body [] p) Q m H := fun s R F hfr => by
  refine wpAny_For (TV.flow (Step.refl R) hfr F (h s R F) fun v s1 V H1 ⟨sf, n, i0⟩ r R1 F1 f1 st1 _ => ?_) hs
  refine wpAny_mono (sf s1 v R1 r) (fun itv s2 ⟨e1, e2⟩ => ?_) fun _ _ e => e.toL st1.toL R1 F1 f1
  subst e1 e2
  obtain ⟨J, hJ⟩ := named2 (fun (k : Nat) (s' : Shared) => ∃ m' H', HRel X.B H' s'.heap ∧ Frm X.B env.locals m' H' s'.heap ∧ StepL X.B env.locals H s H' s' ∧ RepV X.B H' s'.heap itv V ∧ I V k m' H')
  refine codeAny_forLoop_any J (fun k s' hj => ?_) n ((hJ _ _).mpr ⟨m, H1, R1, F1, st1.toL, r, i0⟩)
  obtain ⟨m', H', R', F', st', r', hi⟩ := (hJ _ _).mp hj
  have fr' := hfr.stepL st' F'
  refine wpAny_mono (turn EL V k m' H' hi F'.free s' itv R' r' fr'.1) (fun o s3 ⟨O, H3, ro, st3, q⟩ => ?_) fun _ _ e => (e.toL st' R' F' fr').pass
  have F3 := st3.frm R' F'
  have stA := st'.trans st3.toL F'.ex
  have r3 := st3.val r'
  cases o with
  | none =>
    cases O with
    | some z => exact ro.elim
    | none => exact wpAny_execs_nil ⟨.next, m', H3, .next, stA, F3, q⟩
  | some v =>
    cases O with
    | none => exact ro.elim
    | some W =>
      show wpAny X.M A (letOwnedTupleGo (.Name x np) itv v) _ _ _
      refine wpAny_pure ?_
      show wpAny X.M A (standAt np >>= fun _ => bindName env x v) _ _ _
      refine wpAny_bind (wpAny_standAt (wpAny_bindName ?_))
      have fr3 := fr'.step st3
      refine wpAny_mono (q s3 v st3.rel F3 ro fr3) (fun _ s4 ⟨m4, H4, st4, F4, q4⟩ => ?_) fun _ _ e => (e.after stA F3.ex).pass
      refine wpAny_mono (q4 s4 st4.rel F4 (fr3.stepL st4 F4)) (fun fl s5 ⟨F5, m5, H5, rf, st5, F5', q5⟩ => ?_) fun _ _ e => ((e.after st4 F4.ex).after stA F3.ex).pass
      have stC := (stA.trans st4 F3.ex).trans st5 F4.ex
      have r5 := st5.val F4 (st4.val F3 r3)
      cases rf with
      | next => obtain ⟨j, hj, ij⟩ := q5; exact ⟨j, hj, (hJ _ _).mpr ⟨m5, H5, st5.rel, F5', stC, r5, ij⟩⟩
      | cont => obtain ⟨j, hj, ij⟩ := q5; exact ⟨j, hj, (hJ _ _).mpr ⟨m5, H5, st5.rel, F5', stC, r5, ij⟩⟩
      | brk => exact ⟨.next, m5, H5, .next, stC, F5', q5⟩
      | ret r => exact ⟨_, m5, H5, .ret r, stC, F5', q5⟩

-- reversed lists
theorem rev_own {a l : Addr} {k : Nat} (fr : s.heap.get? a = none) (R : HRel X.B H s.heap) (hz : a = s.heap.objs.size) : Step X.B H s (upd H a (.rev l k)) { s with heap := s.heap.push (revObj l ((k : Int) - 1)) } := by
  subst hz
  exact Step.own (t := s.toks) R (fun a o e => Heap.get?_push_of_some _ e) (size_none _) ⟨_, Heap.get?_push_size _ rfl, rfl, rfl⟩
theorem cl_reversed {l : Addr} {xs : List CV} (hl : H l = some (.list xs)) (h : ∀ a, H a = none → Q (.ref a) (upd H a (.rev l xs.length))) : Cl X A E (.ty "reversed") [.ref l] Q H := fun s fv avs R rf rs hfr => by
  obtain rfl := rf.ty_inv
  obtain ⟨_, rfl, h1⟩ := rs.one
  obtain rfl := h1.ref_inv
  obtain ⟨vs, n, e, r⟩ := list_at R hl
  refine call_reversed_list ⟨_, e, rfl, n, rfl⟩ ⟨.ref _, _, .ref _, ?_, h _ R.fresh⟩
  have hz : vs.toArray.size = xs.length := by rw [List.size_toArray, repVs_len r]
  rw [hz]
  exact rev_own (size_none _) R rfl
theorem rev_at {a l : Addr} {k : Nat} (R : HRel X.B H s.heap) (ha : H a = some (.rev l k)) : s.heap.IsRevIter a l ((k : Int) - 1) := (R.obj _ _ ha).2
theorem self_rev {a l : Addr} {k : Nat} (ha : H a = some (.rev l k)) : SelfR X A E (.ref a) H := fun s v R r => by
  obtain rfl := r.ref_inv
  exact wpAny_pyIter_revIter (rev_at R ha) ⟨rfl, rfl⟩

theorem wpAny_stop {E : Value → Shared → Prop} {α : Type} {Q : α → Shared → Prop} (hh : A.handled = none) (h : ∀ e h', (∀ b o, s.heap.get? b = some o → h'.get? b = some o) → Shared.TypeIs { s with heap := h' } (.ref e) "StopIteration" → E (.ref e) { s with heap := h' }) : wpAny X.M A (Builtin.SmallTypes.stopIteration : Sem α) Q E s := by
  show wpAny _ _ (newExc (.type "StopIteration") [] >>= _) _ _ _
  refine wpAny_bind ?_
  simp only [newExc, newTuple]
  refine wpAny_bind (wpAny_newObj_type ?_ (by size_fits))
  refine wpAny_bind (m := firstArgMember _ _) (wpAny_of_eq (a := Value.none) (by first | rfl | (simp only [firstArgMember]; rfl)) ?_)
  refine wpAny_newObj_type ?_ (by size_fits)
  simp only [raiseNew]
  refine wpAny_bind (wpAny_handled ?_)
  rw [hh]
  refine wpAny_bind (wpAny_pure (wpAny_throw ?_))
  exact h _ _ (fun b o e => Heap.get?_push_of_some _ (Heap.get?_push_of_some _ e)) ⟨_, Heap.get?_push_size _ rfl, rfl⟩
theorem next_rev {a l : Addr} {k : Nat} {xs : List CV} {Q : Option CV → CHeap → Prop} (hA : A.handled = none) (ha : H a = some (.rev l k)) (hl : H l = some (.list xs)) (hk : k ≤ xs.length) (h0 : k = 0 → Q none H) (h1 : ∀ j V, k = j + 1 → xs[j]? = some V → Q (some V) (upd H a (.rev l j))) : NextR X A E (.ref a) H Q := fun s v R r hfr => by
  obtain rfl := r.ref_inv
  have hit := rev_at R ha
  cases k with
  | zero =>
    obtain ⟨o, ho, hc, hd⟩ := id hit
    unfold pyNext
    refine wpAny_bind (wpAny_attempt (wpAny_callSpecial?_slot (name := Str.ofString "__next__") hit.typeIs F.slot_lri_next
      (wpAny_call_entry F.slot_lri_next hit.typeIs F.entry_lri_next ?_ (F.args_lri_next_1 _))))
    unfold Builtin.«list_reverseiterator.__next__»
    refine wpAny_bind (wpAny_of_eq (a := (Value.ref a, [])) rfl ?_)
    refine wpAny_bind (wpAny_field ho hd (x := rawInt (-1)) rfl ?_)
    show wpAny _ _ (if (-1 : Int) < 0 then _ else _) _ _ s
    rw [if_pos (by decide)]
    refine wpAny_bind (wpAny_rule (wpAny_bind (wpAny_stop hA fun e h' kk te => ?_)))
    refine wpAny_bind (wpAny_isInstance (T := "StopIteration") (b := true) te isSubtype_stop ?_)
    exact wpAny_pure ⟨none, H, trivial, Step.grow (t := s.toks) R kk, h0 rfl⟩
  | succ j =>
    obtain ⟨vs, n, e, r⟩ := list_at R hl
    obtain ⟨V, hV⟩ : ∃ V, xs[j]? = some V := ⟨xs[j], List.getElem?_eq_getElem (by omega)⟩
    obtain ⟨v, hv, rv⟩ := repVs_get r hV
    have e1 : ((j + 1 : Nat) : Int) - 1 = (j : Int) := by omega
    rw [e1] at hit
    refine wpAny_pyNext_rev_item hit ⟨_, e, rfl, n, rfl⟩ (by simpa using hv) fun h' hit' sb => ?_
    have st : Step X.B H s (upd H a (.rev l j)) { s with heap := h' } := Step.set (t := s.toks) R ha sb (fun fs q => nomatch q) hit'
    exact ⟨some V, _, st.val rv, st, h1 j V rfl hV⟩

-- iter(f, sentinel)
theorem cl_iter2 {f : Addr} {S : CV} {x : Str} (h : ∀ a, H a = none → Q (.ref a) (upd H a (.citer (.meth f S) (.str x)))) : Cl X A E (.bi "iter") [.meth f S, .str x] Q H := fun s fv avs R rf rs hfr => by
  obtain rfl := rf.bi_inv
  obtain ⟨_, _, rfl, h1, h2⟩ := rs.two
  have h1' := h1
  obtain ⟨t, rfl⟩ := h2.str_inv
  obtain ⟨q, self, rfl, hn, ha, ho, hs⟩ := h1.meth_inv
  · · skip
      refine call_function_entry (by decide +kernel) (by decide +kernel) kdk_entry_iter (args_iter2 _ _) ?_
      unfold Builtin.«iter»
      refine wpAny_bind (m := someArgs "iter" 1 2 _) (wpAny_of_eq (a := [Value.ref _, Value.str x t]) (by first | rfl | kernel_rfl!) ?_)
      obtain ⟨r, hr⟩ := meth_call_slot
      show wpAny _ _ (specialOf (.ref q) "__call__" >>= _) _ _ _
      refine wpAny_bind (wpAny_specialOf (T := "method") ⟨_, ho, rfl⟩ hr ?_)
      refine wpAny_bind (wpAny_rule ?_)
      show wpAny _ _ (newFields "callable_iterator" [.ref q, .str x t, .bool false] >>= _) _ _ _
      refine wpAny_bind (wpAny_newObj_type (wpAny_pure ⟨_, rfl, ?_⟩))
      have st : Step X.B H s (upd H s.heap.objs.size (.citer (.meth f S) (.str x))) { s with heap := s.heap.push { cls := .type "callable_iterator", data := .fields #[.ref q, .str x t, .bool false] } } := by
        refine Step.own (t := s.toks) R (fun a o e => Heap.get?_push_of_some _ e) (size_none _) ⟨_, _, Heap.get?_push_size _ rfl, ?_, .str _ _⟩
        refine RepV.to (fun a o e _ _ => .inl (Heap.get?_push_of_some _ e)) (fun b e n => ?_) h1'
        by_cases hb : b = s.heap.objs.size
        · subst hb; exact size_none _
        · rw [upd_ne hb] at n; exact absurd e n
      exact ⟨.ref _, _, .ref _, st, h _ R.fresh⟩
theorem ci_type {a : Addr} {f st : CV} (R : HRel X.B H s.heap) (ha : H a = some (.citer f st)) : s.TypeIs (.ref a) "callable_iterator" := by
  obtain ⟨_, f', st', e, _⟩ := R.obj _ _ ha
  exact ⟨_, e, rfl⟩
theorem self_of {E : Value → Shared → Prop} {a : Addr} (hT : s.TypeIs (.ref a) "callable_iterator") : wpAny X.M A (pyIter (.ref a)) (fun r s' => r = .ref a ∧ s' = s) E s := by
  refine wpAny_pyIter_slot hT slot_ci_iter (wpAny_call_entry slot_ci_iter hT entry_ci_iter ?_ (args_ci_iter _))
  show wpAny _ _ (ret (.ref a)) _ _ s
  exact wpAny_pure ⟨_, rfl, "callable_iterator", _, hT, slot_ci_next.lookup, rfl, rfl⟩
theorem self_citer {a : Addr} {f st : CV} (ha : H a = some (.citer f st)) : SelfR X A E (.ref a) H := fun s v R r => by
  obtain rfl := r.ref_inv; exact self_of (ci_type R ha)
theorem next_cend {a : Addr} {Q : Option CV → CHeap → Prop} (hA : A.handled = none) (ha : H a = some .cend) (h : Q none H) : NextR X A E (.ref a) H Q := fun s v R r hfr => by
  obtain rfl := r.ref_inv
  have ho := (R.obj _ _ ha).2
  have hT : s.TypeIs (.ref a) "callable_iterator" := ⟨_, ho, rfl⟩
  unfold pyNext
  refine wpAny_bind (wpAny_attempt (wpAny_callSpecial?_slot (name := Str.ofString "__next__") hT slot_ci_next
    (wpAny_call_entry slot_ci_next hT entry_ci_next ?_ (args_ci_next _))))
  unfold Builtin.«callable_iterator.__next__»
  refine wpAny_bind (wpAny_of_eq (a := (Value.ref a, [])) rfl ?_)
  refine wpAny_bind (wpAny_field ho rfl (x := .bool true) rfl ?_)
  show wpAny _ _ (if (Value.bool true == Value.bool true) = true then _ else _) _ _ s
  rw [if_pos (show (Value.bool true == Value.bool true) = true from rfl)]
  refine wpAny_bind (wpAny_rule (wpAny_bind (wpAny_stop hA fun e h' kk te => ?_)))
  refine wpAny_bind (wpAny_isInstance (T := "StopIteration") (b := true) te isSubtype_stop ?_)
  exact wpAny_pure ⟨none, H, trivial, Step.grow (t := s.toks) R kk, h⟩
theorem wpAny_callBorrowed {E : Value → Shared → Prop} {f : Value} {pos : List Value} {Q : Value → Shared → Prop} (h : wpAny X.M A (call f pos) Q E s) : wpAny X.M A (callBorrowed f pos) Q E s := fun Γ p hΓ => by
  have z := h Γ p hΓ
  unfold call at z
  rw [Sem.wp_runValue] at z
  unfold callBorrowed
  rw [Sem.wp_call]
  refine wpCode_mono (fun r s' => ?_) z
  intro q
  cases r with
  | error e => exact q
  | ok f => cases f <;> exact q
theorem borrows_meth {E : Value → Shared → Prop} {q f : Addr} {self : Value} {o : Obj} {fd : FuncData} {Q : Bool → Shared → Prop} (hq : s.heap.get? q = some (methodObj (.ref f) self)) (hf : s.heap.get? f = some o) (hd : o.data = .func fd) (h : Q true s) : wpAny X.M A (borrowsExactly (.ref q)) Q E s := by
  unfold borrowsExactly
  show wpAny _ _ (load q >>= _) _ _ _
  refine wpAny_bind (wpAny_load hq ?_)
  show wpAny _ _ (if ((methodObj (.ref f) self).cls == .type "method") = true then _ else _) _ _ _
  rw [if_pos (show ((methodObj (.ref f) self).cls == Value.type "method") = true from rfl)]
  show wpAny _ _ (load f >>= _) _ _ _
  refine wpAny_bind (wpAny_load hf ?_)
  rw [hd]
  exact wpAny_pure h
theorem next_citer {a f : Addr} {S : CV} {x : Str} {oc : Value} {od : Option Addr} {fd : FuncData} {sl : Array (Option Value)} {Q : Option CV → CHeap → Prop} (hA : A.handled = none) (hf : X.K.lookup f = some ⟨oc, od, .func fd, sl⟩) (ha : H a = some (.citer (.meth f S) (.str x)))
    (h : Cl X A.in1 (fun _ => False) (.meth f S) [] (fun V H1 => ∃ y, V = .str y ∧ H1 a = some (.citer (.meth f S) (.str x)) ∧ (x ≠ y → Q (some (.str y)) H1) ∧ (x = y → Q none (upd H1 a .cend))) H) : NextR X A E (.ref a) H Q := fun s v R r hfr => by
  obtain rfl := r.ref_inv
  obtain ⟨_, f', st', ho, rf, rst⟩ := R.obj _ _ ha
  have hT : s.TypeIs (.ref a) "callable_iterator" := ⟨_, ho, rfl⟩
  have rf' := rf
  obtain ⟨q, self, rfl, hn, hh, hq, hs⟩ := rf.meth_inv
  · skip
    unfold pyNext
    refine wpAny_bind (wpAny_attempt (wpAny_callSpecial?_slot (name := Str.ofString "__next__") hT slot_ci_next
      (wpAny_call_entry slot_ci_next hT entry_ci_next ?_ (args_ci_next _))))
    unfold Builtin.«callable_iterator.__next__»
    refine wpAny_bind (wpAny_of_eq (a := (Value.ref a, [])) rfl ?_)
    refine wpAny_bind (wpAny_field ho rfl (x := .bool false) rfl ?_)
    show wpAny _ _ (if (Value.bool false == Value.bool true) = true then _ else _) _ _ s
    rw [if_neg (show ¬ (Value.bool false == Value.bool true) = true from Bool.false_ne_true)]
    refine wpAny_bind (wpAny_field ho rfl (x := .ref q) rfl ?_)
    refine wpAny_bind (wpAny_attempt ?_)
    show wpAny _ _ (borrowsExactly (.ref q) >>= fun b => if b then callBorrowed (.ref q) [] else call (.ref q) []) _ _ _
    have Kh : X.K.In s.heap := X.kin.keeps R.keep
    refine wpAny_bind (borrows_meth hq (Kh _ _ hf) rfl ?_)
    show wpAny _ _ (callBorrowed (.ref q) []) _ _ _
    refine wpAny_callBorrowed (wpAny_mono (h s (.ref q) [] R rf' .nil (hfr.to rfl)) (fun v s1 ⟨V, H1, rv, st, y, eV, e1, q1, q2⟩ => ?_) fun _ _ e => e.no)
    subst eV
    obtain ⟨t, rfl⟩ := rv.str_inv
    · skip
      obtain ⟨_, f2, st2, ho2, rf2, rst2⟩ := st.rel.obj _ _ e1
      refine wpAny_bind (wpAny_field ho2 rfl (x := .bool false) rfl ?_)
      show wpAny _ _ (if (Value.bool false == Value.bool true) = true then _ else _) _ _ s1
      rw [if_neg (show ¬ (Value.bool false == Value.bool true) = true from Bool.false_ne_true)]
      refine wpAny_bind (wpAny_field ho2 rfl (x := st2) rfl ?_)
      obtain ⟨t2, rfl⟩ := rst2.str_inv
      · skip
        refine wpAny_bind (wpAny_holding (wpAny_eqBool_str ?_))
        by_cases hxy : x = y
        · rw [decide_eq_true hxy]
          show wpAny _ _ (rule _ >>= _) _ _ _
          refine wpAny_bind (wpAny_rule ?_)
          obtain ⟨q9, self2, rfl, hn2, hh2, hq2, hs2⟩ := rf2.meth_inv
          · skip
            have Kh1 : X.K.In s1.heap := X.kin.keeps st.rel.keep
            refine wpAny_bind ?_
            show wpAny _ _ (field (.ref a) 0 >>= fun o => slotLetsGo "callable_iterator.__next__" o _ >>= fun _ => setField (.ref a) 0 .none >>= fun _ => setField (.ref a) 1 .none >>= fun _ => setField (.ref a) 2 (.bool true)) _ _ _
            refine wpAny_bind (wpAny_field ho2 rfl (x := .ref q9) rfl (wpAny_bind ?_))
            show wpAny _ _ (borrowsExactly (.ref q9) >>= _) _ _ _
            refine wpAny_bind (borrows_meth hq2 (Kh1 _ _ hf) rfl ?_)
            refine wpAny_pure ?_
            refine wpAny_bind (wpAny_setField_rec ho2 (by simp) fun h2 e2 sb2 => ?_)
            refine wpAny_bind (wpAny_setField_rec (s := { s1 with heap := h2 }) e2 (by simp) fun h3 e3 sb3 => ?_)
            refine wpAny_setField_rec (s := { s1 with heap := h3 }) e3 (by simp) fun h4 e4 sb4 => ?_
            have sb : Heap.SameBut a s1.heap h4 := ⟨sb4.1.trans (sb3.1.trans sb2.1), fun b hb => (sb4.2 b hb).trans ((sb3.2 b hb).trans (sb2.2 b hb))⟩
            have st4 : Step X.B H1 s1 (upd H1 a .cend) { s1 with heap := h4 } := Step.set (t := s1.toks) st.rel e1 sb (fun fs q => nomatch q) (show h4.get? a = _ by simpa using e4)
            refine wpAny_stop (s := { s1 with heap := h4 }) hA fun e h' kk te => ?_
            refine wpAny_bind (wpAny_isInstance (T := "StopIteration") (b := true) te isSubtype_stop ?_)
            exact wpAny_pure ⟨none, upd H1 a .cend, trivial, (st.trans st4).trans (Step.grow (s := { s1 with heap := h4 }) (t := s1.toks) st4.rel kk), q2 hxy⟩
        · rw [decide_eq_false hxy]
          refine wpAny_pure ⟨_, rfl, wpAny_pure ⟨some (.str y), H1, .str _ _, st, q1 hxy⟩⟩
end
end
section
set_option maxRecDepth 100000
section
variable {X : Wd} {A : Around} {E : CHeap → Prop} {EL : Loc → CHeap → Prop} {env : Env} {m : Loc} {H : CHeap} {s : Shared} {Q : CV → CHeap → Prop}

def EvO (X : Wd) (A : Around) (E : Loc → CHeap → Prop) (env : Env) (oe : Option Expr) (Q : Option Int → CHeap → Prop) (m : Loc) (H : CHeap) : Prop :=
  ∀ s, HRel X.B H s.heap → Frm X.B env.locals m H s.heap → FrsAt X.B A H s.heap → wpAny X.M A (valueOrNone (evalOpt oe env)) (fun v s' => ∃ k H', IsPart v k ∧ Step X.B H s H' s' ∧ Q k H') (PE X A H s (E m)) s
theorem evo_none {Q : Option Int → CHeap → Prop} (h : Q none H) : EvO X A EL env none Q m H := fun s R F hfr => wpAny_pure ⟨none, H, .none, Step.refl R, h⟩
theorem evo_some {e : Expr} {Q : Option Int → CHeap → Prop} (h : EvE X A EL env e (fun V H1 => ∃ i, V = .int i ∧ Q (some i) H1) m H) : EvO X A EL env (some e) Q m H := fun s R F hfr =>
  wpAny_mono (h s R F hfr) (fun v s1 ⟨V, H1, rv, st, i, e, q⟩ => by subst e; obtain ⟨_, rfl⟩ := rv.int_inv; exact ⟨some i, H1, .int _ _, st, q⟩) fun _ _ e => e
def SliR (X : Wd) (A : Around) (E : CHeap → Prop) (value slice : Expr) (O : CV) (l u t : Option Int) (H : CHeap) (Q : CV → CHeap → Prop) : Prop :=
  ∀ s vo sl vl vu vt, HRel X.B H s.heap → RepV X.B H s.heap vo O → s.heap.IsSliceOf sl vl vu vt → IsPart vl l → IsPart vu u → IsPart vt t → TV X A E (subscriptTail value slice vo (.ref sl)) H s Q
theorem ev_slice {o : Expr} {lo hi st : Option Expr} {sp p : Pos} (h : EvE X A EL env o (fun O H1 => EvO X A EL env lo (fun l H2 => EvO X A EL env hi (fun u H3 => EvO X A EL env st (fun t H4 => SliR X A (EL m) o (.Slice lo hi st sp) O l u t H4 Q) m H3) m H2) m H1) m H) : EvE X A EL env (.Subscript o (.Slice lo hi st sp) p) Q m H := fun s R F hfr => by
  refine Subscript_ (wpAny_mono (h s R F hfr) (fun v s1 ⟨O, H1, rv, st1, h1⟩ => ?_) fun _ _ e => e)
  have F1 := st1.frm R F
  show wpAny X.M A (valueOrNone (evalOpt lo env) >>= fun l => holding [l] (valueOrNone (evalOpt hi env)) >>= fun u => holding [l, u] (valueOrNone (evalOpt st env)) >>= fun t => newFields "slice" [l, u, t]) _ _ _
  have f1 := hfr.step st1
  refine wpAny_bind (wpAny_mono (h1 s1 st1.rel F1 f1) (fun vl s2 ⟨l, H2, pl, st2, h2⟩ => ?_) fun _ _ e => e.step st1)
  have st12 := st1.trans st2
  have f2 := f1.step st2
  have F2 := st2.frm st1.rel F1
  refine wpAny_bind (wpAny_holding (wpAny_mono (h2 s2 st2.rel F2 f2) (fun vu s3 ⟨u, H3, pu, st3, h3⟩ => ?_) fun _ _ e => e.step st12))
  have st13 := st12.trans st3
  have f3 := f2.step st3
  have F3 := st3.frm st2.rel F2
  refine wpAny_bind (wpAny_holding (wpAny_mono (h3 s3 st3.rel F3 f3) (fun vt s4 ⟨t, H4, pt, st4, h4⟩ => ?_) fun _ _ e => e.step st13))
  have st14 := st13.trans st4
  show wpAny _ _ (newObj _ _) _ _ _
  refine wpAny_newObj_type ?_
  have st5 : Step X.B H4 s4 H4 { s4 with heap := s4.heap.push { cls := .type "slice", data := .fields #[vl, vu, vt] } } := Step.push st4.rel _ s4.toks
  exact (h4 { s4 with heap := s4.heap.push { cls := .type "slice", data := .fields #[vl, vu, vt] } } v s4.heap.objs.size vl vu vt st5.rel (st5.val (st4.val (st3.val (st2.val rv)))) (Heap.IsSliceOf.new ..) pl pu pt).after hfr (st14.trans st5)
theorem slice_ops {lo hi st : Option Expr} {sp : Pos} {o i : Value} : ∃ ops, subscripted (.Slice lo hi st sp) false o i = operate ops (getItem o i) := by
  cases st <;> exact ⟨_, rfl⟩
def pick {α : Type} (l : List α) (lo hi : Option Int) : List α := (l.drop (kms_lo lo l.length)).take (kms_hi hi l.length - kms_lo lo l.length)
theorem sli_list {value : Expr} {lo hi st : Option Expr} {sp : Pos} {l : Addr} {xs : List CV} {x y : Option Int} (hl : H l = some (.list xs)) (hz : xs.length ≤ sizeLine) (h : ∀ a, H a = none → Q (.ref a) (upd H a (.list (pick xs x y)))) : SliR X A E value (.Slice lo hi st sp) (.ref l) x y none H Q := fun s vo sl vl vu vt R ro hs pl pu pt hfr => by
  obtain rfl := ro.ref_inv
  obtain ⟨vs, n, e, r⟩ := list_at R hl
  obtain ⟨ops, ho⟩ := slice_ops (lo := lo) (hi := hi) (st := st) (sp := sp) (o := .ref l) (i := .ref sl)
  refine tail_any (T := "list") ⟨_, e, rfl⟩ slot_list_getitem.lookup ?_ ho
  refine wpAny_getItem_list_slice ⟨_, e, rfl, n, rfl⟩ hs pl pu pt (fun z => nomatch z) ?_ (by rw [List.size_toArray, repVs_len r]; exact hz)
  refine ⟨.ref _, _, .ref _, push_own R (vs := kms_pick vs x y) ?_ ?_, h _ R.fresh⟩
  · unfold kms_pick pick
    rw [← repVs_len r]
    exact repVs_take (repVs_drop r _) _
  · rw [kms_pick_eq]
theorem repVs_ints {B : Bs} {h : Heap} : ∀ {vs : List Value} {zs : List Int}, IntsAre vs zs → RepVs B H h vs (zs.map CV.int)
  | _, _, .nil => .nil
  | _, _, .cons _ _ r => .cons (.int _ _) (repVs_ints r)
theorem sli_frz {value : Expr} {lo hi st : Option Expr} {sp : Pos} {zs : List Int} {x y : Option Int} (hz : zs.length ≤ sizeLine) (h : ∀ a, H a = none → Q (.ref a) (upd H a (.list ((pick zs x y).map CV.int)))) : SliR X A E value (.Slice lo hi st sp) (.frz zs) x y none H Q := fun s vo sl vl vu vt R ro hs pl pu pt hfr => by
  obtain ⟨a, vs, rfl, hl, hi'⟩ := ro.frz_inv
  · skip
    have hl' : s.heap.IsList a vs.toArray := hl.at fun o e => R.keep _ o e
    obtain ⟨ops, ho⟩ := slice_ops (lo := lo) (hi := hi) (st := st) (sp := sp) (o := .ref a) (i := .ref sl)
    refine tail_any (T := "list") hl'.typeIs slot_list_getitem.lookup ?_ ho
    refine wpAny_getItem_list_slice hl' hs pl pu pt (fun z => nomatch z) ?_ (by rw [List.size_toArray, hi'.length]; exact hz)
    refine ⟨.ref _, _, .ref _, push_own R (vs := kms_pick vs x y) ?_ ?_, h _ R.fresh⟩
    · unfold kms_pick pick
      rw [← hi'.length]
      have := repVs_take (repVs_drop (repVs_ints (B := X.B) (H := H) (h := s.heap) hi') (kms_lo x vs.length)) (kms_hi y vs.length - kms_lo x vs.length)
      rw [← List.map_drop, ← List.map_take] at this
      exact this
    · rw [kms_pick_eq]
theorem tr_frz {zs : List Int} {QB : Bool → CHeap → Prop} (hz : zs.length < 2 ^ 62) (h : QB (!zs.isEmpty) H) : TrR X A E (.frz zs) H QB := fun s va R r hfr => by
  obtain ⟨a, vs, rfl, hl, hi⟩ := r.frz_inv
  · skip
    have hl' : s.heap.IsList a vs.toArray := hl.at fun o e => R.keep _ o e
    refine wpAny_truthy_list hl' (by rw [List.size_toArray, hi.length]; omega) ⟨H, Step.tok R _, ?_⟩
    have : vs.toArray.isEmpty = zs.isEmpty := by cases hi <;> simp
    rw [this]; exact h
theorem sub_frz {zs : List Int} {value slice : Expr} {i : Int} {z : Int} (h0 : 0 ≤ i) (hV : zs[i.toNat]? = some z) (hz : zs.length < 2 ^ 62) (hs : ∀ o i, subscripted slice false o i = operate [o, i] (getItem o i)) (h : Q (.int z) H) : SubR X A E value slice (.frz zs) (.int i) H Q := fun s vo vi R ro ri hfr => by
  obtain ⟨_, rfl⟩ := ri.int_inv
  obtain ⟨a, vs, rfl, hl, hi⟩ := ro.frz_inv
  · skip
    have hl' : s.heap.IsList a vs.toArray := hl.at fun o e => R.keep _ o e
    obtain ⟨t, ht⟩ := ints_get hi hV
    have hkl : i.toNat < zs.length := by
      rcases Nat.lt_or_ge i.toNat zs.length with q | q
      · exact q
      · rw [List.getElem?_eq_none q] at hV; cases hV
    refine tail_any (T := "list") hl'.typeIs slot_list_getitem.lookup ?_ (hs _ _)
    exact wpAny_getItem_list hl' h0 (by omega) (by simpa using ht) ⟨.int z, H, .int _ _, Step.refl R, h⟩
-- text[a:b]
theorem str_pick (x : Str) (lo hi : Option (Int × Tok)) : (slicePicked x lo hi none).filterMap (x.cps[·]?) = pick x.cps.toList (lo.map (·.1)) (hi.map (·.1)) := by
  have key := kms_pick_eq (x.cps.map fun (c : Nat) => Value.int (c : Int) 0) (lo.map (·.1)) (hi.map (·.1))
  have e1 : slicePick (x.cps.map fun (c : Nat) => Value.int (c : Int) 0) (lo.map (·.1)) (hi.map (·.1)) none = (((slicePicked x lo hi none).filterMap (x.cps[·]?)).map fun c => Value.int (c : Nat) 0).toArray := by
    unfold slicePick slicePicked
    rw [List.map_filterMap]
    have : (sliceBounds (lo.map (·.1)) (hi.map (·.1)) none (x.cps.map fun (c : Nat) => Value.int (c : Int) 0).size) = sliceBounds (lo.map (·.1)) (hi.map (·.1)) none x.length := by rw [Array.size_map]; rfl
    simp only [this]
    congr 1
    show List.filterMap _ (sliceRange _ _ _) = List.filterMap _ (sliceRange _ _ _)
    congr 1
    funext i
    simp
  rw [e1] at key
  have key2 : ((slicePicked x lo hi none).filterMap (x.cps[·]?)).map (fun c => Value.int (c : Nat) 0) = kms_pick (x.cps.map fun (c : Nat) => Value.int (c : Int) 0).toList (lo.map (·.1)) (hi.map (·.1)) := by simpa using key
  have e2 : kms_pick (x.cps.map fun (c : Nat) => Value.int (c : Int) 0).toList (lo.map (·.1)) (hi.map (·.1)) = (pick x.cps.toList (lo.map (·.1)) (hi.map (·.1))).map (fun c => Value.int (c : Nat) 0) := by
    unfold kms_pick pick
    rw [Array.toList_map, List.map_take, List.map_drop, List.length_map]
  rw [e2] at key2
  refine List.map_inj_right (f := fun c : Nat => Value.int (c : Nat) 0) ?_ |>.mp key2
  intro a b h
  cases h; rfl
theorem part_of {v : Value} {k : Option Int} (p : IsPart v k) : ∃ q : Option (Int × Tok), partValue q = v ∧ q.map (·.1) = k := by
  cases p with
  | none => exact ⟨none, rfl, rfl⟩
  | int i t => exact ⟨some (i, t), rfl, rfl⟩
theorem sli_str {value : Expr} {lo hi st : Option Expr} {sp : Pos} {x : Str} {a b : Option Int} (hz : x.length ≤ sizeLine) (h : Q (.str ⟨(pick x.cps.toList a b).toArray⟩) H) : SliR X A E value (.Slice lo hi st sp) (.str x) a b none H Q := fun s vo sl vl vu vt R ro hs pl pu pt hfr => by
  obtain ⟨t, rfl⟩ := ro.str_inv
  obtain ⟨ql, el, kl⟩ := part_of pl
  obtain ⟨qu, eu, ku⟩ := part_of pu
  cases pt
  subst el eu kl ku
  obtain ⟨ops, ho⟩ := slice_ops (lo := lo) (hi := hi) (st := st) (sp := sp) (o := .str x t) (i := .ref sl)
  refine tail_any (T := "str") (typeIs_str s x t) F.slot_str_getitem.lookup ?_ ho
  refine wpAny_getItem_str_slice (l := ql) (u := qu) (st := none) hs (by decide) ?_
  unfold sliceMade
  rw [str_pick]
  split
  · rename_i hw
    have hlen : (slicePicked x ql qu none).length = x.length := by simpa using hw
    have e : (⟨(pick x.cps.toList (ql.map (·.1)) (qu.map (·.1))).toArray⟩ : Str) = x := by
      rw [← str_pick]
      have hb := kms_bounds (ql.map (·.1)) (qu.map (·.1)) x.length
      have e1 : slicePicked x ql qu none = sliceRange (kms_lo (ql.map (·.1)) x.length : Nat) (kms_hi (qu.map (·.1)) x.length : Nat) 1 := by
        have e2 : slicePicked x ql qu none = sliceRange (sliceBounds (ql.map (·.1)) (qu.map (·.1)) none x.length).1 (sliceBounds (ql.map (·.1)) (qu.map (·.1)) none x.length).2.1 1 := rfl
        rw [e2, hb]
      rw [e1] at hlen
      have hlen2 : (kms_hi (qu.map (·.1)) x.length) - (kms_lo (ql.map (·.1)) x.length) = x.length := by
        unfold sliceRange at hlen
        simp at hlen
        split at hlen <;> omega
      have hh : kms_hi (qu.map (·.1)) x.length ≤ x.length := by
        unfold kms_hi
        split
        · exact Nat.le_refl _
        · split <;> omega
      have h1 : kms_lo (ql.map (·.1)) x.length = 0 ∨ x.length = 0 := by omega
      rw [str_pick]
      obtain ⟨c⟩ := x
      unfold pick
      have hl : c.toList.length = (Str.mk c).length := by show c.toList.length = c.size; simp
      rw [hl, hlen2]
      congr 1
      apply Array.toList_inj.mp
      rw [← hl]
      rcases h1 with h1 | h1
      · rw [hl, h1]; simp [← hl]; exact List.take_of_length_le (by simp)
      · have : c.toList = [] := List.eq_nil_of_length_eq_zero (by rw [hl]; exact h1)
        simp [this]
    rw [e] at h
    exact ⟨_, H, .str _ _, Step.refl R, h⟩
  · refine ⟨?_, _, H, .str _ _, Step.tok R _, h⟩
    show (pick x.cps.toList _ _).toArray.size ≤ sizeLine
    rw [List.size_toArray]
    unfold pick
    have : x.cps.toList.length = x.length := by show x.cps.toList.length = x.cps.size; simp
    refine Nat.le_trans (List.length_take_le _ _) (Nat.le_trans ?_ hz)
    unfold kms_hi
    rw [this]
    split
    · omega
    · split <;> omega

-- a 4-tuple's first two
-- things that can be compared
mutual
inductive Rd (H : CHeap) : CV → PyData → Prop where
  | none : Rd H .none .none
  | bool (b : Bool) : Rd H (.bool b) (.bool b)
  | int (i : Int) : Rd H (.int i) (.int i)
  | str (x : Str) : Rd H (.str x) (.str x)
  | tuple {l : List CV} {ds : List PyData} (h : RdAll H l ds) : Rd H (.tuple l) (.tuple ds)
  | list {a : Addr} {l : List CV} {ds : List PyData} (ha : H a = some (.list l)) (h : RdAll H l ds) : Rd H (.ref a) (.list ds)
inductive RdAll (H : CHeap) : List CV → List PyData → Prop where
  | nil : RdAll H [] []
  | cons {V : CV} {d : PyData} {Vs : List CV} {ds : List PyData} (h : Rd H V d) (hr : RdAll H Vs ds) : RdAll H (V :: Vs) (d :: ds)
end
mutual
theorem Rd.reads {B : Bs} {h : Heap} (R : HRel B H h) : ∀ {V : CV} {d : PyData}, Rd H V d → ∀ {v : Value}, RepV B H h v V → ∃ as, Reads h v d as
  | _, _, .none, _, r => by obtain rfl := r.none_inv; exact ⟨_, .none⟩
  | _, _, .bool b, _, r => by obtain rfl := r.bool_inv; exact ⟨_, .bool b⟩
  | _, _, .int i, _, r => by obtain ⟨t, rfl⟩ := r.int_inv; exact ⟨_, .int i t⟩
  | _, _, .str x, _, r => by obtain ⟨t, rfl⟩ := r.str_inv; exact ⟨_, .str x t⟩
  | _, _, .tuple hr, _, r => by
    obtain ⟨a, vs, n, rfl, hn, ha, ho, hv⟩ := r.tuple_inv
    obtain ⟨as, r⟩ := RdAll.reads R hr hv
    exact ⟨_, .tuple ho rfl rfl (by simpa using r)⟩
  | _, _, .list hl hr, _, r => by
    obtain rfl := r.ref_inv
    obtain ⟨_, vs, n, e, rv⟩ := R.obj _ _ hl
    obtain ⟨as, r⟩ := RdAll.reads R hr rv
    exact ⟨_, .list e rfl rfl (by simpa using r)⟩
theorem RdAll.reads {B : Bs} {h : Heap} (R : HRel B H h) : ∀ {Vs : List CV} {ds : List PyData}, RdAll H Vs ds → ∀ {vs : List Value}, RepVs B H h vs Vs → ∃ as, ReadsAll h vs ds as
  | _, _, .nil, _, r => by obtain rfl := r.nil_inv; exact ⟨_, .nil⟩
  | _, _, .cons h1 h2, _, r => by
    obtain ⟨v, ws, rfl, r1, r2⟩ := r.cons_inv
    obtain ⟨as, a⟩ := Rd.reads R h1 r1
    obtain ⟨bs, b⟩ := RdAll.reads R h2 r2
    exact ⟨_, .cons a b⟩
end
theorem cmp_eq_data {V W : CV} {d e : PyData} (hV : Rd H V d) (hW : Rd H W e) (hd : d.canLay0 = true) (he : e.canLay0 = true) (hu : A.units + d.depth < cLine) (h : Q (.bool (PyData.eqv d e)) H) : CmpR X A E .Eq V W H Q := fun s va vb R ra rb hfr => by
  obtain ⟨as, r1⟩ := hV.reads R ra
  obtain ⟨bs, r2⟩ := hW.reads R rb
  exact SeqAt.compareEq_reads r1 r2 hd he (by omega) ⟨_, H, .bool _, Step.refl R, h⟩
theorem cmp_eq_same {V W : CV} {d : PyData} (hV : Rd H V d) (hW : Rd H W d) (hd : d.canLay0 = true) (hu : A.units + d.depth < cLine) (h : Q (.bool true) H) : CmpR X A E .Eq V W H Q :=
  cmp_eq_data hV hW hd hd hu (by rw [SeqAt.eqv_refl d hd]; exact h)
end
end
section
set_option maxRecDepth 100000
def relabelS (scope sc : Scope) : Scope :=
  { scope with names := scope.names.map fun (n, k) => if (k == .free && sc.kind == .function && sc.names.lookup n == some .cell) then (n, .cell) else (n, k) }
theorem relabel_ok {env : Env} {sc scope : Scope} (h : env.scope = sc) : relabel scope env = relabelS scope sc := by
  unfold relabel relabelS Env.kindOf; rw [h]
def closL (cells : List (Str × Addr)) : List (Str × NameKind) → List (Str × Addr) → Option (List (Str × Addr))
  | [], cs => some cs
  | (n, k) :: r, cs => if k == .free then (match cells.lookup n with | some c => closL cells r ((n, c) :: cs) | none => none) else closL cells r cs
theorem clos_ok {env : Env} {scope : Scope} {cells cl : List (Str × Addr)} (hc : env.cells = cells) (h : closL cells scope.names [] = some cl) : closureFor scope env = pure cl := by
  have key : ∀ (names : List (Str × NameKind)) (cs : List (Str × Addr)), closL cells names cs = some cl → (forIn names cs fun x (r : List (Str × Addr)) => if x.2 == .free then (do let a ← cellOf env x.1; pure (ForInStep.yield ((x.1, a) :: r))) else pure (ForInStep.yield r) : Sem (List (Str × Addr))) = pure cl := by
    intro names
    induction names with
    | nil => intro cs h; unfold closL at h; cases h; rfl
    | cons p r ih =>
      obtain ⟨n, k⟩ := p
      intro cs h
      unfold closL at h
      rw [List.forIn_cons]
      cases hk : k == .free with
      | true =>
        rw [hk] at h
        simp only [if_true] at h ⊢
        cases hl : cells.lookup n with
        | none => rw [hl] at h; cases h
        | some c =>
          rw [hl] at h
          have : cellOf env n = pure c := by unfold cellOf; rw [hc, hl]
          rw [this]
          exact ih _ h
      | false =>
        rw [hk] at h
        simp only [Bool.false_eq_true, if_false] at h ⊢
        exact ih _ h
  have := key scope.names [] h
  unfold closureFor
  rw [show (do
    let mut cs := []
    for (name, kind) in scope.names do
      if kind == .free then cs := (name, ← cellOf env name) :: cs
    return cs : Sem (List (Str × Addr))) = (forIn scope.names [] fun x (r : List (Str × Addr)) => if x.2 == .free then (do let a ← cellOf env x.1; pure (ForInStep.yield ((x.1, a) :: r))) else pure (ForInStep.yield r) : Sem (List (Str × Addr))) >>= pure from rfl, this]
  rfl
theorem newY_upd {H : CHeap} {h : Heap} {D : Addr} {o : Obj} {O : CO} (e : h.get? D = some o) (lo : Loose o) : NewY H (upd H D O) h := fun a o' h1 h2 e' => by
  by_cases q : a = D
  · subst q; rw [e] at e'; cases e'; exact lo
  · rw [upd_ne q] at h2; exact absurd h1 h2
theorem RepV.adopt {B : Bs} {H : CHeap} {h : Heap} {D : Addr} {o : Obj} {O : CO} (e : h.get? D = some o) (lo : Loose o) {v : Value} {V : CV} (r : RepV B H h v V) : RepV B (upd H D O) h v V := r.toY (fun a o e _ _ => .inl e) (newY_upd e lo)
theorem RepVs.adopt {B : Bs} {H : CHeap} {h : Heap} {D : Addr} {o : Obj} {O : CO} (e : h.get? D = some o) (lo : Loose o) {vs : List Value} {Vs : List CV} (r : RepVs B H h vs Vs) : RepVs B (upd H D O) h vs Vs := r.toY (fun a o e _ _ => .inl e) (newY_upd e lo)
theorem RepF.adopt {B : Bs} {H : CHeap} {h : Heap} {D : Addr} {o : Obj} {O : CO} (e : h.get? D = some o) (lo : Loose o) {es : List DictEntry} {fs : List (Str × CV)} (x : RepF B H h es fs) : RepF B (upd H D O) h es fs := by
  induction x with
  | nil => exact .nil
  | cons hv _ ih => exact .cons (hv.adopt e lo) ih
theorem loose_list {vs : Array Value} {n : Nat} : Loose (listOf vs n) := ⟨fun vs n q => (by have := congrArg Obj.cls q; exact absurd (show Value.type "list" = Value.type "tuple" from this) (by decide)), fun a b c e f g q => (by have := congrArg Obj.data q; cases this), fun f self q => (by have := congrArg Obj.data q; cases this), fun vs' q t d' => (nomatch d'), fun vs' c => absurd (show Value.type "list" = Value.type "range" from c) (by decide)⟩
theorem HRel.adoptG {B : Bs} {H : CHeap} {h : Heap} {D : Addr} {od : Obj} {O : CO} (R : HRel B H h) (hD : H D = none) (out : Out B D) (e : h.get? D = some od) (lo : Loose od) (x : RepO B (upd H D O) h D O) : HRel B (upd H D O) h := by
  refine ⟨R.keep, R.thid, fun t ht => ?_, fun a o ha => ?_⟩
  · obtain ⟨ps, e1, rr⟩ := R.tab t ht
    refine ⟨ps, e1, rr.imp id ?_⟩
    rintro ⟨ca, oc, vs', tk, e2, lc, hn, e3, e4, e5⟩
    refine ⟨ca, oc, vs', tk, e2, lc, ?_, e3, e4, e5⟩
    rw [upd_ne (by rintro rfl; rw [e] at e3; cases e3; exact lo.2.2.2.1 _ _ _ e4 e5)]; exact hn
  · by_cases q : a = D
    · subst q; rw [upd_self] at ha; cases ha
      exact ⟨out, x⟩
    · rw [upd_ne q] at ha
      obtain ⟨ou, x⟩ := R.obj a o ha
      refine ⟨ou, ?_⟩
      cases o with
      | list xs => obtain ⟨vs, n', e1, r⟩ := x; exact ⟨vs, n', e1, r.adopt e lo⟩
      | inst C d => obtain ⟨e1, fs, hf⟩ := x; exact ⟨e1, fs, by rw [upd_ne (by rintro rfl; rw [hD] at hf; cases hf)]; exact hf⟩
      | idict fs => obtain ⟨es, n', e1, r⟩ := x; exact ⟨es, n', e1, r.adopt e lo⟩
      | cell v =>
        obtain ⟨v', o, e1, e2, r⟩ := x
        refine ⟨v', o, e1, e2, ?_⟩
        cases v' <;> cases v <;> first | exact r | exact RepV.adopt e lo r | exact r.elim
      | citer f st => obtain ⟨f', st', e1, r, r2⟩ := x; exact ⟨f', st', e1, r.adopt e lo, r2.adopt e lo⟩
      | cend => exact x
      | dict kvs => obtain ⟨nm, ps, e1, ek, r⟩ := x; exact ⟨nm, ps, e1, ek, r.adopt e lo⟩
      | rev l k => exact x
theorem HRel.adopt {B : Bs} {H : CHeap} {h : Heap} {D : Addr} {vs : List Value} {n : Nat} {ys : List CV} (R : HRel B H h) (hD : H D = none) (out : Out B D) (e : h.get? D = some (listOf vs.toArray n)) (r : RepVs B H h vs ys) : HRel B (upd H D (.list ys)) h :=
  R.adoptG hD out e loose_list ⟨vs, n, e, r.adopt e loose_list⟩
section
variable {X : Wd} {A : Around} {E : CHeap → Prop} {EL : Loc → CHeap → Prop} {env : Env} {m : Loc} {H : CHeap} {s : Shared} {Q : CV → CHeap → Prop}
def EvT (X : Wd) (A : Around) (E : Loc → CHeap → Prop) (env : Env) (ifs : List Expr) (Q : Bool → CHeap → Prop) (m : Loc) (H : CHeap) : Prop :=
  ∀ s, HRel X.B H s.heap → Frm X.B env.locals m H s.heap → TU X A (E m) (forIn ifs true fun c r => if r = true then do let ok ← isTrue c env (eval c env); pure (ForInStep.yield ok) else pure (ForInStep.yield r)) H s Q
theorem evt_nil {Q : Bool → CHeap → Prop} (h : Q true H) : EvT X A EL env [] Q m H := fun s R F hfr => wpAny_tests_nil ⟨H, Step.refl R, h⟩
theorem Step.more {B : Bs} {H H' : CHeap} {s s' : Shared} {h' : Heap} {t : Nat} (st : Step B H s H' s') (R : HRel B H' h') (k : ∀ a o o', s.heap.get? a = some o → s'.heap.get? a = some o' → h'.get? a = some o') : Step B H s H' { s' with heap := h', toks := t } := by
  obtain ⟨⟨h1, t1, e1⟩, _, k1, n1, d1⟩ := st
  exact ⟨⟨h', t, by rw [e1]⟩, R, fun a o e hn ht => (k1 a o e hn ht).trans fun o' e' => .inl (k a o o' e e'), n1, d1⟩
theorem Frm.adopt {B : Bs} {H : CHeap} {h : Heap} {L D : Addr} {m : Loc} {o : Obj} {O : CO} (F : Frm B L m H h) (e : h.get? D = some o) (lo : Loose o) (hLD : L ≠ D) : Frm B L m (upd H D O) h :=
  let ⟨a, b, mr, hn, r⟩ := F
  ⟨a, by rw [upd_ne hLD]; exact b, mr, hn, fun y => by
    have := r y
    revert this
    cases mr y <;> cases m.lookup y <;> first | exact id | exact fun z => RepV.adopt e lo z⟩
theorem comp_core {s : Shared} {EE : Value → Shared → Prop} {use : Option (Value → Sem Unit)} {Post : Value → Shared → Prop} {elt iter : Expr} {x : Str} {px ip : Pos} {ifs : List Expr} {scope : Scope} {cl : List (Str × Addr)} {pos : Pos} {sc : Scope} {cells : List (Str × Addr)} {cd : Value} {qual : Str} (ok : EnvOk env sc cells cd qual)
    (f : CV → Nat → CHeap → Option CV) (G : CV → CHeap → Prop) (I : CV → Nat → List CV → CHeap → Prop) (N : Nat) (hA : A.handled = none)
    (hclos : closL cells scope.names [] = some cl) (hcell : ∀ y ∈ scope.names, y.2 ≠ .cell) (hkind : scope.kind = .function) (hnames : ∀ y ∈ scope.names, y.2 = .local → scope.names.lookup y.1 = some .local) (hx : scope.names.lookup x = some .local)
    (hG : ∀ V i ys H, I V i ys H → G V H) (hN : ∀ V i ys H, I V i ys H → f V i H ≠ none → i < N)
    (h : EvE X A EL env iter (fun V H1 => IterR X A (EL m) V (f V) (G V) H1 ∧ I V 0 [] H1) m H)
    (turn : ∀ E' cenv U i ys H V, EnvOk cenv (relabelS scope sc) cl cd qual → I U i ys H → f U i H = some V → H cenv.locals = none →
      EvT X A E' cenv ifs (fun b H1 => (b = true → EvE X A E' cenv elt (fun W H2 => ys.length ≤ sizeLine ∧ I U (i + 1) (ys ++ [W]) H2) [(x, V)] H1) ∧ (b = false → I U (i + 1) ys H1)) [(x, V)] H)
    (hs : ∀ v, foldedSetIterable iter env v = pure v) (hE : ∀ e s', PE X A H s (EL m) e s' → EE e s')
    (fin : ∀ U i ys H' D C mC r s', I U i ys H' → f U i H' = none → H' D = none → Step X.B H s (upd H' D (.list ys)) s' → Frm X.B C mC (upd H' D (.list ys)) s'.heap → s.heap.get? C = none → compPost X.M A EE use Post (.ref D) C (.ok r) s')
    (R : HRel X.B H s.heap) (F : Frm X.B env.locals m H s.heap) (hfr : FrsAt X.B A H s.heap) : wpAny X.M A (comprehension (.ListComp elt [⟨.Name x px, iter, ifs, 0⟩] scope pos) scope env ip (newList []) false (eval iter env) use) Post EE s := by
  refine wpAny_comprehension_free (use := use) rfl hs (clos_ok ok.cl hclos) hkind hnames ?_
  show wpAny X.M A (eval iter env) _ _ s
  refine wpAny_mono (h s R F hfr) (fun xv s1 ⟨UU, H1, rv, st1, itr, i0⟩ => ?_) fun _ _ e => hE _ _ e
  refine wpAny_mono (itr s1 xv st1.rel rv) (fun itv s2 ⟨r0, P, pi, p0, fr0, st2⟩ => ?_) fun _ _ e => hE _ _ (e.step st1)
  refine wpAny_newList ?_ (by decide)
  refine wpAny_newFunctionEnv hcell (by intro y hy; simp at hy) (fun h₁ hns₁ hsb₁ => ?_) hkind
  have st12 := st1.trans st2
  have R2 := st2.rel
  dsimp only at hns₁ hsb₁ ⊢
  generalize hH2 : s2.heap.push { cls := .type "list", dict := none, data := .seq ([] : List Value).toArray } = H2 at hns₁ hsb₁ ⊢
  have hC : H2.objs.size = s2.heap.objs.size + 1 := by rw [← hH2, Heap.size_push]
  generalize hDD : s2.heap.objs.size = D at hC ⊢
  generalize hCC : H2.objs.size = C at hC hns₁ hsb₁ ⊢
  have fresh : ∀ a, s2.heap.objs.size ≤ a → s2.heap.get? a = none := fun a ha => by
    cases e : s2.heap.get? a with
    | none => rfl
    | some o' => exact absurd (Heap.lt_size e) (Nat.not_lt.mpr ha)
  have hDC : D ≠ C := by omega
  have frD : s2.heap.get? D = none := fresh D (by omega)
  have frC : s2.heap.get? C = none := fresh C (by omega)
  have old : ∀ b o, s2.heap.get? b = some o → h₁.get? b = some o := fun b o e => hsb₁.extBut b o (fun q => by subst q; rw [frC] at e; cases e) (Heap.get?_push_of_some _ (hH2 ▸ Heap.get?_push_of_some _ e))
  have eD : h₁.get? D = some (listOf #[] 0) := hsb₁.extBut _ _ hDC (Heap.get?_push_of_some _ (by rw [← hH2, ← hDD]; exact Heap.get?_push_size _ rfl))
  have none0 : ∀ a, s2.heap.get? a = none → H1 a = none := fun a e => by
    cases q : H1 a with
    | none => rfl
    | some z => obtain ⟨ob, e'⟩ := (R2.obj _ _ q).2.there; rw [e] at e'; cases e'
  have back : ∀ a, s2.heap.get? a = none → s.heap.get? a = none := fun a e => by
    have out := R2.out e
    cases q : s.heap.get? a with
    | none => rfl
    | some o =>
      cases q2 : H a with
      | none => obtain ⟨_, e3, _⟩ := (st12.keep a o q q2 out.1).ex; rw [e3] at e; cases e
      | some z => exact absurd (none0 a e) (st12.dom a (by rw [q2]; exact fun z => nomatch z))
  have back1 : ∀ a, s1.heap.get? a = none → s.heap.get? a = none := fun a e => by
    have out := st1.rel.out e
    cases q : s.heap.get? a with
    | none => rfl
    | some o =>
      cases q2 : H a with
      | none => obtain ⟨_, e3, _⟩ := (st1.keep a o q q2 out.1).ex; rw [e3] at e; cases e
      | some z =>
        have := st1.dom a (by rw [q2]; exact fun z => nomatch z)
        cases q : H1 a with
        | none => exact absurd q this
        | some z => obtain ⟨ob, e'⟩ := (st1.rel.obj _ _ q).2.there; rw [e] at e'; cases e'
  have frD0 := back D frD
  have frC0 := back C frC
  have fr00 := back1 r0 fr0
  obtain ⟨or0, er0, _⟩ := pi.obj _ _ p0
  have hr0D : r0 ≠ D := fun q => by subst q; rw [frD] at er0; cases er0
  have hr0C : r0 ≠ C := fun q => by subst q; rw [frC] at er0; cases er0
  have outD := R2.out frD
  have outC := R2.out frC
  have outr := st1.rel.out fr0
  have stA : Step X.B H1 s2 H1 { s2 with heap := h₁, toks := s2.toks + ([] : List (Str × Value)).length } := Step.grow R2 old
  have hr01 : H1 r0 = none := by
    cases q : H1 r0 with
    | none => rfl
    | some z => obtain ⟨ob, e'⟩ := (st1.rel.obj _ _ q).2.there; rw [fr0] at e'; cases e'
  have okC : EnvOk (compEnvC scope cl C env) (relabelS scope sc) cl cd qual := ⟨relabel_ok ok.sc, rfl, ok.gl, ok.bi, ok.cd, ok.qu⟩
  have loop : ∀ s4 : Shared, s4 = { s2 with heap := h₁, toks := s2.toks + ([] : List (Str × Value)).length } →
      codeAny X.M A (.compLoop (.ListComp elt [⟨.Name x px, iter, ifs, 0⟩] scope pos) 0 itv (.ref D) (compEnvC scope cl C env)) (compPost X.M A EE use Post (.ref D) C) s4 := by
    rintro s4 rfl
    obtain ⟨J, hJ⟩ := named2 (fun (k : Nat) (s' : Shared) => ∃ i ys m' H' vs n, k = N - i ∧ HRel X.B H' s'.heap ∧ Frm X.B C m' H' s'.heap ∧ (∀ V, put x V m' = [(x, V)]) ∧ Step X.B H s H' s' ∧ H' r0 = none ∧ P i s'.heap ∧ H' D = none ∧ s'.heap.get? D = some (listOf (List.toArray vs) n) ∧ RepVs X.B H' s'.heap vs ys ∧ I UU i ys H')
    refine codeAny_compLoop_tests J (fun k s' hj => ?_) (N - 0) ((hJ _ _).mpr ⟨0, [], [], H1, [], 0, rfl, stA.rel, ⟨outC, none0 C frC, _, hns₁, fun y => trivial⟩, fun V => rfl, st12.trans stA, hr01, pi.same 0 _ _ p0 (fun o e => old _ o e), none0 D frD, eD, .nil, i0⟩)
    obtain ⟨i, ys, m', H', vs, n, hk, R', F', hm', st', hr', hP, hD', eD', rys, hi⟩ := (hJ _ _).mp hj
    obtain ⟨o0, eo0, lo0, nd0⟩ := pi.obj _ _ hP
    refine pi.next A _ s' H' i _ hA R' hr' (hG _ _ _ _ hi) hP (fun hf h' tk kk => ?_) (fun V hf v h' tk kk hP' rv => ?_)
    · obtain ⟨R3, kx3⟩ := R'.turn eo0 lo0 hr' outr kk
      have F3 := F'.turn kx3 (fun o e => kk _ o (Ne.symm hr0C) e)
      have r3 := rys.to kx3 (fun a e n => absurd e n)
      have eD3 := kk _ _ (Ne.symm hr0D) eD'
      have R5 := R3.adopt hD' outD eD3 r3
      obtain ⟨⟨h4, t4, e4⟩, _, k4, n4, d4⟩ := st'
      refine fin UU i ys H' D C m' _ _ hi hf hD' ⟨⟨h', tk, by rw [e4]⟩, R5, fun a o e hn ht => ?_, fun a e n => ?_, fun a e => upd_dom a (d4 a e)⟩ (F3.adopt eD3 loose_list (Ne.symm hDC)) frC0
      · exact (k4 a o e hn ht).trans fun o' e1 => .inl (kk a o' (fun q => by subst q; rw [fr00] at e; cases e) e1)
      · by_cases q : a = D
        · subst q; exact frD0
        · rw [upd_ne q] at n; exact n4 a e n
    · obtain ⟨R3, kx3⟩ := R'.turn eo0 lo0 hr' outr kk
      have F3 := F'.turn kx3 (fun o e => kk _ o (Ne.symm hr0C) e)
      have r3 := rys.to kx3 (fun a e n => absurd e n)
      have eD3 := kk _ _ (Ne.symm hr0D) eD'
      have st3 : Step X.B H s H' { s' with heap := h', toks := tk } := st'.more R3 fun a o o' e e' => kk a o' (fun q => by subst q; rw [fr00] at e; cases e) e'
      show wpAny X.M A (standAt px >>= fun _ => bindName (compEnvC scope cl C env) x v) _ _ _
      refine wpAny_bind (wpAny_standAt (wpAny_bindName ?_))
      refine wpAny_mono (stn_local0 (X := X) (env := compEnvC scope cl C env) (E0 := fun _ _ => False) (Q := fun m1 H2 => m1 = put x V m' ∧ H2 = H') (s := { s' with heap := h', toks := tk }) ⟨rfl, rfl⟩ hkind (lookup_relabel_local hx) R3 F3 (RepV.to kx3 (fun a e n => absurd e n) rv)) (fun _ s5 ⟨m5, H5, st5, F5, em, eH⟩ => ?_) fun _ _ e => e.elim
      subst em eH
      rw [hm' V] at F5
      have stB : Step X.B H s H5 s5 := by
        obtain ⟨⟨h4, t4, e4⟩, _, k4, n4, d4⟩ := st3
        obtain ⟨⟨h6, t6, e6⟩, R6, k6, n6, d6⟩ := st5
        refine ⟨⟨h6, t6, by rw [e6]; simp only at e4 ⊢; rw [Shared.mk.injEq] at e4; simp [e4]⟩, R6, fun a o e hn ht => ?_, n4, d4⟩
        refine (k4 a o e hn ht).trans fun o' e1 => k6 a o' e1 ?_ ht (fun q => by subst q; exact nomatch frC0.symm.trans e)
        cases q : H5 a with
        | none => rfl
        | some z => have := n4 a hn (by rw [q]; exact fun z => nomatch z); rw [e] at this; cases this
      obtain ⟨o1, eo1, lo1, nd1⟩ := pi.obj _ _ hP'
      have ndL : ∀ {vs : Array Value} {k : Nat} es n, (listOf vs k).data ≠ .dict es n := fun es n q => nomatch q
      have er5 := (st5.keep r0 o1 eo1 hr' outr.1 hr0C).nd nd1
      have eD5 := (st5.keep D _ eD3 hD' outD.1 hDC).nd ndL
      have r5 := st5.vals F3 r3
      have keepU : ∀ {Ha Hb : CHeap} {sa sb : Shared} {a : Addr} {o : Obj}, Step X.B Ha sa Hb sb → sa.heap.get? a = some o → Ha a = none → Out X.B a → (∀ es n, o.data ≠ .dict es n) → sb.heap.get? a = some o ∧ Hb a = none := fun st e hn out nd => ⟨(st.keep _ _ e hn out.1).nd nd, none_of_new st.new hn e⟩
      have lt := hN UU i ys H5 hi (by rw [hf]; exact fun z => nomatch z)
      refine wpAny_mono (turn (fun _ _ => False) (compEnvC scope cl C env) UU i ys H5 V okC hi hf F5.free s5 st5.rel F5 (hfr.step stB)) (fun b s6 ⟨H6, st6, q6⟩ => ?_) fun _ _ e => e.no
      obtain ⟨er6, hr6⟩ := keepU st6 er5 hr' outr nd1
      obtain ⟨eD6, hD6⟩ := keepU st6 eD5 hD' outD ndL
      have F6 := st6.frm st5.rel F5
      have r6 := st6.vals r5
      cases b with
      | false =>
        show ∃ m, m < k ∧ _
        exact ⟨N - (i + 1), by omega, (hJ _ _).mpr ⟨i + 1, ys, [(x, V)], H6, vs, n, rfl, st6.rel, F6, fun W => by unfold put; rw [beq_self_eq_true], stB.trans st6, hr6, pi.same _ _ _ hP' (fun o e => by rw [eo1] at e; cases e; exact er6), hD6, eD6, r6, q6.2 rfl⟩⟩
      | true =>
        show wpAny _ _ (eval elt (compEnvC scope cl C env)) _ _ _
        refine wpAny_mono (q6.1 rfl s6 st6.rel F6 ((hfr.step stB).step st6)) (fun y s7 ⟨W, H7, ry, st7, hz, q7⟩ => ?_) fun _ _ e => e.no
        obtain ⟨er7, hr7⟩ := keepU st7 er6 hr6 outr nd1
        obtain ⟨eD7, hD7⟩ := keepU st7 eD6 hD6 outD ndL
        have F7 := st7.frm st6.rel F6
        have r7 := st7.vals r6
        have hlen := repVs_len r7
        refine call_meets PySem.F.slot_list_append ⟨_, eD7, rfl⟩ PySem.F.entry_list_append (PySem.F.args_list_append_2 _ _) (PySem.list_append D _ n _ (by rw [List.size_toArray, hlen]; exact hz)) ⟨eD7, ?_⟩
        have q8 := PySem.IsL.update (h := s7.heap) eD7 (fun a => a.push y)
        have e8 : vs.toArray.push y = (vs ++ [y]).toArray := by simp
        simp only [e8] at q8
        have kk8 : ∀ a o, a ≠ D → s7.heap.get? a = some o → (s7.heap.update D (Obj.mapSeq fun a => a.push y)).get? a = some o := fun a o ne e => ((Heap.SameBut.update s7.heap D _).2 a ne).trans e
        obtain ⟨R8, kx8⟩ := st7.rel.turn eD7 loose_list hD7 outD kk8
        have F8 := F7.turn kx8 (fun o e => kk8 _ o (Ne.symm hDC) e)
        have r8 := (repVs_app r7 (.cons ry .nil)).to kx8 (fun a e n => absurd e n)
        have st8 : Step X.B H s H7 { s7 with heap := s7.heap.update D (Obj.mapSeq fun a => a.push y) } := ((stB.trans st6).trans st7).more (t := s7.toks) R8 fun a o o' e e' => kk8 a o' (fun q => by subst q; rw [frD0] at e; cases e) e'
        exact ⟨N - (i + 1), by omega, (hJ _ _).mpr ⟨i + 1, ys ++ [W], [(x, V)], H7, vs ++ [y], _, rfl, R8, F8, fun W => by unfold put; rw [beq_self_eq_true], st8, hr7, pi.same _ _ _ hP' (fun o e => by rw [eo1] at e; cases e; exact kk8 _ _ hr0D er7), hD7, q8, r8, q7⟩⟩
  exact codeAny_compStart_list (loop _ rfl) (pi.self A _ _ 0 _ (pi.same 0 _ _ p0 (fun o e => old _ o e)) (loop _ rfl))
/-- the comprehension's own frame is let go -/
theorem Step.letGo {s s' : Shared} {H1 : CHeap} {C : Addr} {mC : Loc} {h' : Heap} (st : Step X.B H s H1 s') (FC : Frm X.B C mC H1 s'.heap) (fr : s.heap.get? C = none) (sb : Heap.SameBut C s'.heap h') : Step X.B H s H1 { s' with heap := h' } := by
  obtain ⟨o, es, n, e, d⟩ := FC.there
  obtain ⟨R2, _⟩ := st.rel.turn e (loose_dict d) FC.free FC.lo (fun a o ne e => (sb.2 a ne).trans e)
  exact st.more (t := s'.toks) R2 fun a o o' e1 e2 => (sb.2 a (fun q => by subst q; rw [fr] at e1; cases e1)).trans e2
theorem ev_compV {elt iter : Expr} {x : Str} {px : Pos} {ifs : List Expr} {scope : Scope} {cl : List (Str × Addr)} {pos : Pos} {sc : Scope} {cells : List (Str × Addr)} {cd : Value} {qual : Str} (ok : EnvOk env sc cells cd qual)
    (f : CV → Nat → CHeap → Option CV) (G : CV → CHeap → Prop) (I : CV → Nat → List CV → CHeap → Prop) (N : Nat) (hA : A.handled = none)
    (hclos : closL cells scope.names [] = some cl) (hcell : ∀ y ∈ scope.names, y.2 ≠ .cell) (hkind : scope.kind = .function) (hnames : ∀ y ∈ scope.names, y.2 = .local → scope.names.lookup y.1 = some .local) (hx : scope.names.lookup x = some .local)
    (hG : ∀ V i ys H, I V i ys H → G V H) (hN : ∀ V i ys H, I V i ys H → f V i H ≠ none → i < N)
    (h : EvE X A EL env iter (fun V H1 => IterR X A (EL m) V (f V) (G V) H1 ∧ I V 0 [] H1) m H)
    (turn : ∀ E' cenv U i ys H V, EnvOk cenv (relabelS scope sc) cl cd qual → I U i ys H → f U i H = some V → H cenv.locals = none →
      EvT X A E' cenv ifs (fun b H1 => (b = true → EvE X A E' cenv elt (fun W H2 => ys.length ≤ sizeLine ∧ I U (i + 1) (ys ++ [W]) H2) [(x, V)] H1) ∧ (b = false → I U (i + 1) ys H1)) [(x, V)] H)
    (fin : ∀ U i ys H, I U i ys H → f U i H = none → ∀ a, H a = none → Q (.ref a) (upd H a (.list ys)))
    (hs : ∀ v, foldedSetIterable iter env v = pure v) : EvE X A EL env (.ListComp elt [⟨.Name x px, iter, ifs, 0⟩] scope pos) Q m H := fun s R F hfr => by
  rw [eval_ListComp]
  refine comp_core (use := none) ok f G I N hA hclos hcell hkind hnames hx hG hN h turn hs (fun _ _ e => e) (fun U i ys H' D C mC r s' hi hf hD st FC fr => ?_) R F hfr
  obtain ⟨mr, hn, _⟩ := FC.ns
  have st' := fun h'' sb => st.letGo FC fr (h' := h'') sb
  exact ⟨mr, hn, fun h'' sb => ⟨.ref D, upd H' D (.list ys), .ref _, st' h'' sb, fin U i ys H' hi hf D hD⟩⟩
theorem ev_comp {elt iter : Expr} {x : Str} {px : Pos} {ifs : List Expr} {scope : Scope} {cl : List (Str × Addr)} {pos : Pos} {sc : Scope} {cells : List (Str × Addr)} {cd : Value} {qual : Str} (ok : EnvOk env sc cells cd qual)
    (f : Nat → CHeap → Option CV) (G : CHeap → Prop) (I : Nat → List CV → CHeap → Prop) (N : Nat) (hA : A.handled = none)
    (hclos : closL cells scope.names [] = some cl) (hcell : ∀ y ∈ scope.names, y.2 ≠ .cell) (hkind : scope.kind = .function) (hnames : ∀ y ∈ scope.names, y.2 = .local → scope.names.lookup y.1 = some .local) (hx : scope.names.lookup x = some .local)
    (hG : ∀ i ys H, I i ys H → G H) (hN : ∀ i ys H, I i ys H → f i H ≠ none → i < N)
    (h : EvE X A EL env iter (fun V H1 => IterR X A (EL m) V f G H1 ∧ I 0 [] H1) m H)
    (turn : ∀ E' cenv i ys H V, EnvOk cenv (relabelS scope sc) cl cd qual → I i ys H → f i H = some V → H cenv.locals = none →
      EvT X A E' cenv ifs (fun b H1 => (b = true → EvE X A E' cenv elt (fun W H2 => ys.length ≤ sizeLine ∧ I (i + 1) (ys ++ [W]) H2) [(x, V)] H1) ∧ (b = false → I (i + 1) ys H1)) [(x, V)] H)
    (fin : ∀ i ys H, I i ys H → f i H = none → ∀ a, H a = none → Q (.ref a) (upd H a (.list ys)))
    (hs : ∀ v, foldedSetIterable iter env v = pure v) : EvE X A EL env (.ListComp elt [⟨.Name x px, iter, ifs, 0⟩] scope pos) Q m H :=
  ev_compV ok (fun _ => f) (fun _ => G) (fun _ => I) N hA hclos hcell hkind hnames hx (fun _ => hG) (fun _ => hN) h (fun E' cenv _ => turn E' cenv) (fun _ => fin) hs
end
end
section
set_option maxRecDepth 100000
theorem repF_get {B : Bs} {H : CHeap} {h : Heap} {name : Str} {es : List DictEntry} {fs : List (Str × CV)} (x : RepF B H h es fs) : ∃ o, getL name es = some o ∧ ORel (RepV B H h) o (fs.lookup name) := by
  induction x with
  | nil => exact ⟨none, rfl, trivial⟩
  | @cons hs x t v V es fs hv hr ih =>
    obtain ⟨o, e, r⟩ := ih
    unfold getL at e ⊢
    rw [List.find?_cons, List.lookup_cons]
    have e1 : (DictEntry.mk hs (.str x t) v).key.isStr name = (x == name) := rfl
    rw [e1]
    by_cases hx : x = name
    · subst hx
      rw [beq_self_eq_true]
      exact ⟨some v, rfl, hv⟩
    · have h1 : (x == name) = false := by simpa using hx
      have h2 : (name == x) = false := by simpa using Ne.symm hx
      rw [h1, h2]
      refine ⟨o, ?_, r⟩
      dsimp only
      rw [← e]
      split <;> rename_i q <;> rw [q]
      rw [List.any_cons]
      rfl
theorem repF_put {B : Bs} {H : CHeap} {h : Heap} {name : Str} {hsh : Int} {t : Tok} {v : Value} {V : CV} (hv : RepV B H h v V) {es : List DictEntry} {fs : List (Str × CV)} (x : RepF B H h es fs) : RepF B H h (putL name hsh (.str name t) v es) (put name V fs) := by
  induction x with
  | nil => exact .cons hv .nil
  | @cons hs x t v' V' es fs hv' hr ih =>
    unfold putL put
    have e1 : (DictEntry.mk hs (.str x t) v').key.isStr name = (x == name) := rfl
    rw [e1]
    cases q : x == name with
    | true => exact .cons hv hr
    | false => exact .cons hv' ih
theorem put_len {x : Str} {V : CV} : ∀ (m : Loc), (put x V m).length ≤ m.length + 1
  | [] => Nat.le_refl _
  | (y, W) :: r => by
    unfold put
    cases y == x with
    | true => simp
    | false => simp; exact put_len r
section
variable {X : Wd} {K : Frag} {A : Around} {E : CHeap → Prop} {EL : Loc → CHeap → Prop} {env : Env} {m : Loc} {H : CHeap} {s : Shared} {Q : CV → CHeap → Prop} {x C d : Addr} {fs : List (Str × CV)} {name : Str} {V : CV}

theorem repF_len {B : Bs} {h : Heap} {es : List DictEntry} (x : RepF B H h es fs) : es.length = fs.length := by
  induction x with
  | nil => rfl
  | cons _ _ ih => simp [ih]
theorem inst_at (R : HRel X.B H s.heap) (hx : H x = some (.inst C d)) (hd : H d = some (.idict fs)) : ∃ es n, InstAt s.heap x (instObj C d) C (some (dictOf es n)) ∧ s.heap.get? d = some (dictOf es n) ∧ RepF X.B H s.heap es fs := by
  obtain ⟨_, e, _⟩ := R.obj _ _ hx
  obtain ⟨_, es, n, e2, r⟩ := R.obj _ _ hd
  exact ⟨es, n, ⟨e, rfl, rfl, e2⟩, e2, r⟩
theorem kin' (hK : X.K = K) (R : HRel X.B H s.heap) : K.In s.heap := hK ▸ X.kin.keeps R.keep
theorem handed {B : Bs} {h : Heap} {v : Value} (r : RepV B H h v V) (hv : ∀ id, V ≠ .bi id) : handedIn v = true := by
  cases r <;> first | rfl | exact absurd rfl (hv _)
theorem at_field (hK : X.K = K) (hg : plainGet K C name = true) (hh : hasDictIn K C = true) (ha : findIn K (.ref C) name = some none) (hx : H x = some (.inst C d)) (hd : H d = some (.idict fs)) (hl : fs.lookup name = some V) (hv : ∀ id, V ≠ .bi id) (h : Q V H) : AtR X A E (.ref x) name H Q := fun s vo R r hfr => by
  obtain rfl := r.ref_inv
  obtain ⟨es, n, I, e2, r⟩ := inst_at R hx hd
  obtain ⟨o, e, ro⟩ := repF_get (name := name) r
  rw [hl] at ro
  obtain ⟨v, rfl, rv⟩ := orel_some ro
  exact get_value (kin' hK R) I (plainGet_of hg).1 (findObj_own hh ha rfl e) (handed rv hv) ⟨V, H, rv, Step.tok R _, h⟩
theorem meth_def {f : Addr} {Q : CV → List CV → CHeap → Prop} (hK : X.K = K) (hg : plainGet K C name = true) (hf : findIn K (.ref C) name = some (some (.ref f))) (ht : isFn K (.ref f) = true) (hx : H x = some (.inst C d)) (hd : H d = some (.idict fs)) (hl : fs.lookup name = none) (h : Q (.glob f) [.ref x] H) : MethR X A E (.ref x) name H Q := fun s vo pl R r => by
  obtain rfl := r.ref_inv
  obtain ⟨es, n, I, e2, r⟩ := inst_at R hx hd
  obtain ⟨o, e, ro⟩ := repF_get (name := name) r
  rw [hl] at ro
  cases o with
  | some z => exact ro.elim
  | none => exact method_fn (kin' hK R) I (plainGet_of hg).1 (plainGet_of hg).2 hf (beq_iff_eq.mp ht) (by show (lookIn name (dictOf es n)).map _ = _; rw [lookIn_dict, e]; rfl) ⟨_, _, H, .glob _, .cons (.ref _) .nil, Step.refl R, h⟩
theorem meth_field {Q : CV → List CV → CHeap → Prop} (hK : X.K = K) (hg : plainGet K C name = true) (hh : hasDictIn K C = true) (ha : findIn K (.ref C) name = some none) (hx : H x = some (.inst C d)) (hd : H d = some (.idict fs)) (hl : fs.lookup name = some V) (hv : ∀ id, V ≠ .bi id) (h : Q V [] H) : MethR X A E (.ref x) name H Q := fun s vo pl R r => by
  obtain rfl := r.ref_inv
  obtain ⟨es, n, I, e2, r⟩ := inst_at R hx hd
  obtain ⟨o, e, ro⟩ := repF_get (name := name) r
  rw [hl] at ro
  obtain ⟨v, rfl, rv⟩ := orel_some ro
  refine method_usual (kin' hK R) I (plainGet_of hg).1 (plainGet_of hg).2 ha rfl ?_
  exact get_value (kin' hK R) I (plainGet_of hg).1 (findObj_own hh ha rfl e) (handed rv hv) ⟨V, [], H, rv, .nil, Step.tok R _, h⟩
theorem findObj_fn {f : Addr} {od : Obj} (hh : hasDictIn K C = true) (ha : findIn K (.ref C) name = some (some (.ref f))) (hg : specialIn K (.ref f) "__get__" = some (some (.builtin "function.__get__"))) (ht : takesIn K (.ref f) = some false) (hcn : copiedNames.contains name = false) (hl : lookIn name od = some none) : findObj K C (some od) name = some (.bind (.builtin "function.__get__") (.ref f)) := by
  obtain ⟨cd, hc, hd⟩ := any_some hh
  unfold findObj
  have ho : W.ownOf cd (some od) name = some none := by unfold W.ownOf; rw [if_pos hd]; exact hl
  rw [hc, Option.bind_some, ha, Option.bind_some]
  simp only [hg, Option.bind_some, ht, ho, hcn, Bool.false_and, Bool.false_eq_true, if_false]
theorem at_bound {f : Addr} (hK : X.K = K) (hg : plainGet K C name = true) (hh : hasDictIn K C = true) (ha : findIn K (.ref C) name = some (some (.ref f))) (hgt : specialIn K (.ref f) "__get__" = some (some (.builtin "function.__get__"))) (hta : takesIn K (.ref f) = some false) (hty : typeIn K (.ref f) = some (.type "function")) (hcn : copiedNames.contains name = false)
    (hx : H x = some (.inst C d)) (hd : H d = some (.idict fs)) (hl : fs.lookup name = none) (h : Q (.meth f (.ref x)) H) : AtR X A E (.ref x) name H Q := fun s vo R r hfr => by
  obtain rfl := r.ref_inv
  obtain ⟨es, n, I, e2, r⟩ := inst_at R hx hd
  obtain ⟨o, e, ro⟩ := repF_get (name := name) r
  rw [hl] at ro
  cases o with
  | some z => exact ro.elim
  | none =>
    refine get_bind (kin' hK R) I (plainGet_of hg).1 (findObj_fn hh ha hgt hta hcn e) (plainGet_of hg).2 ?_
    refine wpAny_call (fn_get (s := { s with toks := s.toks + 1 }) (kin' hK R) hty ?_)
    refine wpAny_pure ⟨.meth f (.ref x), H, .meth (R.out (size_none _)) R.fresh (Heap.get?_push_size _ rfl) (.ref _), Step.push R _ _, h⟩
theorem set_field {Q : CHeap → Prop} (hK : X.K = K) (hs : findIn K (.ref C) "__setattr__" = some (some (.builtin "object.__setattr__"))) (hp : plainOver K C = true) (ht : takerIn K C name = some none) (hh : hasDictIn K C = true) (hx : H x = some (.inst C d)) (hd : H d = some (.idict fs)) (hz : fs.length < 900) (h : Q (upd H d (.idict (put name V fs)))) : SetAtR X A E (.ref x) name V H Q := fun s vo v R r rv hfr => by
  obtain rfl := r.ref_inv
  obtain ⟨es, n, I, e2, r⟩ := inst_at R hx hd
  obtain ⟨o, e, ro⟩ := repF_get (name := name) r
  have Xk : K.In s.heap := kin' hK R
  refine set_plain Xk I hs (osa_open (s := { s with toks := s.toks + 1 }) Xk I hp ht fun b => ?_)
  obtain ⟨cd, hc, hd'⟩ := any_some hh
  have e' : Obj.putName name (PyData.keyHash X.w.params name) (.str name (s.toks + 1)) v (dictOf es n) = dictOf (putL name (PyData.keyHash X.w.params name) (.str name (s.toks + 1)) v es) (putN name es n) := putName_dict ..
  have D' : (s.heap.update d (Obj.putName name (PyData.keyHash X.w.params name) (.str name (s.toks + 1)) v)).get? d = some (dictOf (putL name (PyData.keyHash X.w.params name) (.str name (s.toks + 1)) v es) (putN name es n)) := e' ▸ Heap.get?_update_self _ e2 (by rw [e']; rfl)
  obtain ⟨hxx, hcl, hn, -⟩ := I
  refine wpAny_bind (wpAny_pure (wpAny_bind (wpAny_bind (wpAny_loadPart hxx (wpAny_bind (looks_clsIn Xk hc _ _ _ _ (fun _ _ e => e) ?_))))))
  rw [hd']
  refine wpAny_pure (a := some d) (wpAny_bind (wpAny_pure (wpAny_bind ?_)))
  unfold nsSet
  refine wpAny_bind (wpAny_bind (wpAny_askSetting (wpAny_pure (wpAny_bind (wpAny_mkText (wpAny_bind (wpAny_loadPart e2 ?_)))))))
  have c : (!es.toArray.any (·.key.isStr name) && es.toArray.any (·.refKey)) = false := by
    rw [← Array.any_toList, ← Array.any_toList]
    unfold getL at e
    split at e
    · rename_i en he
      rw [List.any_eq_true.mpr ⟨en, List.mem_of_find?_eq_some he, List.find?_some he⟩]; rfl
    · split at e
      · cases e
      · rename_i z; rw [Bool.not_eq_true] at z; simp only; rw [z, Bool.and_false]
  dsimp only
  rw [aRefKeyMayBeTheName_at, c]
  refine wpAny_updatePart e2 ?_
  have hlen : (putL name (PyData.keyHash X.w.params name) (.str name (s.toks + 1)) v es).length ≤ 1000 := by
    have := repF_len (repF_put (name := name) (hsh := PyData.keyHash X.w.params name) (t := s.toks + 1) rv r)
    rw [this]
    have := put_len (x := name) (V := V) fs
    omega
  refine wpAny_bind (wpAny_lookBehind D' (pastItsLine_dict (by rw [List.size_toArray, sizeLine_eq]; omega)) ?_)
  refine wpAny_pure ?_
  have sb := Heap.SameBut.update s.heap d (Obj.putName name (PyData.keyHash X.w.params name) (.str name (s.toks + 1)) v)
  have nw : NewX H (upd H d (.idict (put name V fs))) s.heap := fun b e0 n0 => by
    by_cases hb : b = d
    · subst hb; exact nomatch hd.symm.trans e0
    · rw [upd_ne hb] at n0; exact absurd e0 n0
  have kx : KeepX X.B H s.heap (s.heap.update d (Obj.putName name (PyData.keyHash X.w.params name) (.str name (s.toks + 1)) v)) := fun a o e ha _ => .inl ((sb.2 a (fun q => by subst q; rw [hd] at ha; cases ha)).trans e)
  exact ⟨_, Step.set (t := s.toks + 1 + 1) R hd sb (fun fs' _ => ⟨_, rfl⟩) ⟨_, _, D', (repF_put rv r).to kx nw⟩, h⟩
theorem cl_make {fI : Addr} {fd : FuncData} {oc : Value} {od : Option Addr} {sl : Array (Option Value)} {body : List Stmt} {ns : List Str} {args : List CV} {n : Nat}
    (hK : X.K = K) (hm : makesIn K C = true) (hi : findIn K (.ref C) "__init__" = some (some (.ref fI))) (hf : typeIn K (.ref fI) = some (.type "function"))
    (ho : K.lookup fI = some ⟨oc, od, .func fd, sl⟩) (hcd : codeIn K fd.code fd.qualname = true) (hb : fd.body = .stmts body) (hbi : ∀ vals : List Value, vals.length = ns.length → bindArgs fd ⟨vals, []⟩ = pure (ns.zip vals)) (hlen : ns.length = args.length + 1) (hnd : ns.Nodup)
    (hcell : ∀ x ∈ fd.scope.names, x.2 ≠ .cell) (hloc : ∀ x ∈ ns, fd.scope.names.lookup x = some .local) (hk : fd.scope.kind = .function) (hco : fd.scope.isCoroutine = false) (hg : fd.scope.isGenerator = false) (hgl : fd.globals = mainGlobals) (hbn : fd.builtins = builtinsNs) (hcl : fd.closure = [])
    (ro : Room A (n + 2)) (h : ∀ A' E' env x dx, H x = none → H dx = none → x ≠ dx → Room A' n → EnvOk env fd.scope [] fd.code (fd.qualname ++ ".<locals>.") → ExSs X A' E' env body (fun f _ H' => retOf f = .none ∧ Q (.ref x) H') (ns.zip (.ref x :: args)) (upd (upd H dx (.idict [])) x (.inst C dx))) : Cl X A E (.glob C) args Q H := fun s fv avs R r rs hfr => by
  cases r with
  | glob a =>
    have Xk : K.In s.heap := kin' hK R
    obtain ⟨hh, g, d, t, os⟩ := s
    refine wpAny_call (make_core (makes_of Xk hm) (looks_findIn Xk hi) (fun self => bind_fn Xk self hf) (.inl rfl) ?_)
    have ro1 : Room (A.under (.builtin "type.__call__" ⟨.ref C :: avs, []⟩)) (n + 1) := by
      have w1 : (Code.builtin "type.__call__" ⟨.ref C :: avs, []⟩).weight = 1 := by kernel_rfl
      have u1 : (Code.builtin "type.__call__" ⟨.ref C :: avs, []⟩).cUnits ≤ 8 := by show 1 ≤ 8; decide
      exact ⟨ro.hd, by have := ro.dp; show A.depth + (Code.builtin "type.__call__" ⟨.ref C :: avs, []⟩).weight + (n + 1) < _; omega, by have := ro.un; show A.units + (Code.builtin "type.__call__" ⟨.ref C :: avs, []⟩).cUnits + 8 * (n + 1) < _; omega⟩
    have st1 : Step X.B H ⟨hh, g, d, t, os⟩ (upd H hh.objs.size (.idict [])) ⟨hh.push emptyDict, g, d, t, os⟩ :=
      Step.own (s := ⟨hh, g, d, t, os⟩) (t := t) R (fun a o e => Heap.get?_push_of_some _ e) (size_none _) ⟨[], 0, Heap.get?_push_size _ rfl, .nil⟩
    have hsz : (hh.push emptyDict).objs.size = hh.objs.size + 1 := Heap.size_push ..
    have st2 : Step X.B (upd H hh.objs.size (.idict [])) ⟨hh.push emptyDict, g, d, t, os⟩ (upd (upd H hh.objs.size (.idict [])) (hh.objs.size + 1) (.inst C hh.objs.size)) ⟨(hh.push emptyDict).push (instObj C hh.objs.size), g, d, t, os⟩ :=
      Step.own (s := ⟨hh.push emptyDict, g, d, t, os⟩) (t := t) st1.rel (fun a o e => Heap.get?_push_of_some _ e) (by rw [← hsz]; exact size_none _) ⟨by rw [← hsz]; exact Heap.get?_push_size _ rfl, [], by rw [upd_ne (show hh.objs.size ≠ hh.objs.size + 1 by omega), upd_self]⟩
    have st := st1.trans st2
    have rs2 := st.vals rs
    have Xk2 : K.In ((hh.push emptyDict).push (instObj C hh.objs.size)) := kin' (s := ⟨(hh.push emptyDict).push (instObj C hh.objs.size), g, d, t, os⟩) hK st.rel
    have fr1 : H (hh.objs.size + 1) = none := by
      cases q : H (hh.objs.size + 1) with
      | none => rfl
      | some z => obtain ⟨ob, e'⟩ := (R.obj _ _ q).2.there; exact absurd (Heap.lt_size e') (Nat.not_lt.mpr (Nat.le_succ _))
    refine codeAny_mono (cl_runC (E := E) (Q := fun V H' => V = .none ∧ Q (.ref (hh.objs.size + 1)) H') (n := n) st.rel (.cons (.ref _) rs2) ro1 (Xk2 _ _ ho) rfl (codeRec_of Xk2 hcd) hb (hbi (_ :: avs) (by rw [List.length_cons, repVs_len rs, hlen])) (by rw [hlen]; rfl) hnd hcell hloc hk hco hg hgl hbn ((hfr.step st).to rfl) (by rw [hk]; decide) ?_) ?_
    · rw [hcl]
      intro A' env r1 ok hL
      exact h A' _ env _ _ fr1 R.fresh (Nat.succ_ne_self _) r1 ok
    · intro r s' hr
      cases r with
      | error e => exact (PE.to rfl hr).step st
      | ok f =>
        cases f with
        | ret v =>
          obtain ⟨V, H', rv, st3, eV, q⟩ := hr
          subst eV
          cases rv
          exact ⟨rfl, .ref _, H', .ref _, st.trans st3, q⟩
        | _ => exact hr.elim
end
end
section
theorem and_high (x s : Nat) : x &&& (x / 2 ^ s * 2 ^ s) = x / 2 ^ s * 2 ^ s := by
  apply Nat.eq_of_testBit_eq
  intro i
  rw [Nat.testBit_and, ← Nat.shiftLeft_eq, ← Nat.shiftRight_eq_div_pow, Nat.testBit_shiftLeft, Nat.testBit_shiftRight]
  by_cases h : s ≤ i
  · simp only [ge_iff_le, h, decide_true, Bool.true_and]
    rw [show s + (i - s) = i by omega, Bool.and_self]
  · simp [h]
theorem xor_low (x s : Nat) : Builtin.bitXor (x : Int) ((x / 2 ^ s * 2 ^ s : Nat) : Int) = ((x % 2 ^ s : Nat) : Int) := by
  rw [bitXor_and]
  have e : Builtin.bitAnd (x : Int) ((x / 2 ^ s * 2 ^ s : Nat) : Int) = ((x / 2 ^ s * 2 ^ s : Nat) : Int) := by
    have : Builtin.bitAnd (x : Int) ((x / 2 ^ s * 2 ^ s : Nat) : Int) = ((x &&& (x / 2 ^ s * 2 ^ s) : Nat) : Int) := by
      rfl
    rw [this, and_high]
  rw [e]
  have := Nat.div_add_mod x (2 ^ s)
  have : (2 ^ s) * (x / 2 ^ s) = x / 2 ^ s * 2 ^ s := Nat.mul_comm ..
  omega
/-- the places of a number, k of them, in base b -/
def spread (b : Nat) (x : Nat) : Nat → List Nat
  | 0 => []
  | k + 1 => (x % b) :: spread b (x / b) k
theorem spread_succ (b x k : Nat) : spread b x (k + 1) = (x % b) :: spread b (x / b) k := rfl
theorem spread_len (b : Nat) : ∀ (k x : Nat), (spread b x k).length = k
  | 0, _ => rfl
  | k + 1, x => by unfold spread; rw [List.length_cons, spread_len]
theorem spread_lt (b : Nat) (hb : 0 < b) : ∀ (k x : Nat), ∀ d ∈ spread b x k, d < b
  | 0, _, d, h => nomatch h
  | k + 1, x, d, h => by
    unfold spread at h
    rcases List.mem_cons.mp h with rfl | h
    · exact Nat.mod_lt _ hb
    · exact spread_lt b hb k _ d h
theorem spread_add (b : Nat) (hb : 0 < b) : ∀ (j k x : Nat), spread b x (j + k) = spread b (x % b ^ j) j ++ spread b (x / b ^ j) k
  | 0, k, x => by simp [spread]
  | j + 1, k, x => by
    rw [show j + 1 + k = (j + k) + 1 by omega, spread_succ, spread_succ]
    rw [spread_add b hb j k (x / b), List.cons_append]
    have e1 : x % b ^ (j + 1) % b = x % b := by
      rw [Nat.pow_succ, Nat.mul_comm]; exact Nat.mod_mul_right_mod x b (b ^ j)
    have e2 : x % b ^ (j + 1) / b = x / b % b ^ j := by
      rw [Nat.pow_succ, Nat.mul_comm]; exact Nat.mod_mul_right_div_self x b (b ^ j)
    have e3 : x / b / b ^ j = x / b ^ (j + 1) := by rw [Nat.div_div_eq_div_mul, Nat.pow_succ, Nat.mul_comm]
    rw [e1, e2, e3]
theorem spread_one (b x : Nat) (h : x < b) : spread b x 1 = [x] := by
  unfold spread spread; rw [Nat.mod_eq_of_lt h]
def undig (b : Nat) : List Nat → Nat
  | [] => 0
  | d :: r => d + b * undig b r
theorem undig_cons (b d : Nat) (r : List Nat) : undig b (d :: r) = d + b * undig b r := rfl
theorem undig_app (b : Nat) : ∀ (l r : List Nat), undig b (l ++ r) = undig b l + b ^ l.length * undig b r
  | [], r => by simp [undig]
  | d :: l, r => by
    rw [List.cons_append, undig_cons, undig_cons]
    rw [undig_app b l r, List.length_cons, Nat.pow_succ, Nat.mul_add, Nat.add_assoc, ← Nat.mul_assoc, Nat.mul_comm b (b ^ l.length)]
theorem undig_lt (b : Nat) : ∀ (l : List Nat), (∀ d ∈ l, d < b) → undig b l < b ^ l.length
  | [], _ => by simp [undig]
  | d :: l, h => by
    unfold undig
    have h1 := undig_lt b l fun e he => h e (.tail _ he)
    have h2 := h d (.head _)
    rw [List.length_cons, Nat.pow_succ, Nat.mul_comm _ b]
    calc d + b * undig b l < b + b * undig b l := by omega
      _ = b * (undig b l + 1) := by rw [Nat.mul_add, Nat.mul_one, Nat.add_comm]
      _ ≤ b * b ^ l.length := Nat.mul_le_mul_left _ h1
theorem undig_spread (b : Nat) (hb : 0 < b) : ∀ (k x : Nat), undig b (spread b x k) = x % b ^ k
  | 0, x => by simp [undig, spread, Nat.mod_one]
  | k + 1, x => by
    unfold spread undig
    rw [undig_spread b hb k, Nat.pow_succ, Nat.mul_comm (b ^ k) b, Nat.mod_mul]
end
section
set_option maxRecDepth 100000
def Ext (H H' : CHeap) : Prop := ∀ b o, H b = some o → H' b = some o
/-- all is kept but what lies in Z -/
def ExtZ (Z : Addr → Prop) (H H' : CHeap) : Prop := ∀ b o, ¬ Z b → H b = some o → H' b = some o
theorem Ext.refl (H : CHeap) : Ext H H := fun _ _ e => e
theorem Ext.trans {H H' H'' : CHeap} (a : Ext H H') (b : Ext H' H'') : Ext H H'' := fun x o e => b x o (a x o e)
theorem Ext.nay {H H' : CHeap} (a : Ext H H') {x : Addr} (e : H' x = none) : H x = none := by
  cases q : H x with
  | none => rfl
  | some o => rw [a x o q] at e; cases e
theorem Ext.put {H H' : CHeap} (a : Ext H H') {x : Addr} {o : CO} (e : H x = none) : Ext H (upd H' x o) := fun b ob eb => by
  rw [upd_ne (by rintro rfl; rw [e] at eb; cases eb)]; exact a b ob eb
theorem Ext.new {H : CHeap} {x : Addr} {o : CO} (e : H x = none) : Ext H (Mine.upd H x o) := (Ext.refl H).put e
theorem ne_of {H : CHeap} {a b : Addr} {o : CO} (h : H a = none) (h' : H b = some o) : b ≠ a := by rintro rfl; rw [h] at h'; cases h'
theorem upd_ne' {H : CHeap} {a b : Addr} {o : CO} {r : Option CO} (h : a ≠ b) (e : H a = r) : upd H b o a = r := (upd_ne h).trans e
theorem upd_none {H : CHeap} {a b : Addr} {o : CO} (h : upd H b o a = none) : a ≠ b ∧ H a = none := by
  by_cases q : a = b
  · subst q; rw [upd_self] at h; cases h
  · rw [upd_ne q] at h; exact ⟨q, h⟩
theorem ExtZ.refl {Z : Addr → Prop} (H : CHeap) : ExtZ Z H H := fun _ _ _ e => e
theorem ExtZ.trans {Z : Addr → Prop} {H H' H'' : CHeap} (a : ExtZ Z H H') (b : ExtZ Z H' H'') : ExtZ Z H H'' := fun x o z e => b x o z (a x o z e)
theorem ExtZ.mono {Z Z' : Addr → Prop} {H H' : CHeap} (a : ExtZ Z H H') (h : ∀ x, Z x → Z' x) : ExtZ Z' H H' := fun x o z e => a x o (fun q => z (h x q)) e
theorem Ext.toZ {Z : Addr → Prop} {H H' : CHeap} (a : Ext H H') : ExtZ Z H H' := fun x o _ e => a x o e
theorem ExtZ.put {Z : Addr → Prop} {H H' : CHeap} (a : ExtZ Z H H') {x : Addr} {o : CO} (e : Z x ∨ H x = none) : ExtZ Z H (Mine.upd H' x o) := fun b ob z eb => by
  rw [upd_ne (by rintro rfl; rcases e with e | e; exact z e; rw [e] at eb; cases eb)]; exact a b ob z eb
def nums (l : List Nat) : List CV := l.map fun (d : Nat) => CV.int (d : Int)
theorem nums_len (l : List Nat) : (nums l).length = l.length := List.length_map ..
theorem nums_app (l r : List Nat) : nums (l ++ r) = nums l ++ nums r := List.map_append ..
theorem nums_get (l : List Nat) (i : Nat) : (nums l)[i]? = l[i]?.map fun (d : Nat) => CV.int (d : Int) := List.getElem?_map ..
theorem ex_int {z : Int} {P : Int → Prop} (h : P z) : ∃ i, CV.int z = CV.int i ∧ P i := ⟨z, rfl, h⟩
theorem keys_cons {x : Str} {ys : List Str} {cs : List (Str × Addr)} (h : cs.map (·.1) = x :: ys) : ∃ a r, cs = (x, a) :: r ∧ r.map (·.1) = ys := by
  cases cs with
  | nil => cases h
  | cons p r => obtain ⟨y, a⟩ := p; rw [List.map_cons] at h; obtain ⟨h1, h2⟩ := List.cons.inj h; exact ⟨a, r, by rw [← h1], h2⟩
theorem keys_nil {cs : List (Str × Addr)} (h : cs.map (·.1) = []) : cs = [] := List.map_eq_nil_iff.mp h
theorem keys1 {x : Str} {cs : List (Str × Addr)} (h : cs.map (·.1) = [x]) : ∃ a, cs = [(x, a)] := by
  obtain ⟨a, r, rfl, h2⟩ := keys_cons h
  obtain rfl := keys_nil h2
  exact ⟨a, rfl⟩
theorem keys2 {x y : Str} {cs : List (Str × Addr)} (h : cs.map (·.1) = [x, y]) : ∃ a b, cs = [(x, a), (y, b)] := by
  obtain ⟨a0, r, rfl, h2⟩ := keys_cons h
  obtain ⟨a1, rfl⟩ := keys1 h2
  exact ⟨a0, a1, rfl⟩
theorem keys3 {x y z : Str} {cs : List (Str × Addr)} (h : cs.map (·.1) = [x, y, z]) : ∃ a b c, cs = [(x, a), (y, b), (z, c)] := by
  obtain ⟨a0, r, rfl, h2⟩ := keys_cons h
  obtain ⟨a1, a2, rfl⟩ := keys2 h2
  exact ⟨a0, a1, a2, rfl⟩
theorem with_cells2 {L : Addr} {H : CHeap} {val : Str → Option CV} {x1 x2 : Str} {c1 c2 : Addr} (P : CHeap → Prop) (hfr : ∀ p ∈ ([(x1, c1), (x2, c2)] : List (Str × Addr)), H p.2 = none ∧ p.2 ≠ L) (hne : ([(x1, c1), (x2, c2)] : List (Str × Addr)).Pairwise fun x y => x.2 ≠ y.2)
    (h : ∀ H1, H c1 = none → H c2 = none → c1 ≠ c2 → Ext H H1 → H1 c1 = some (.cell (val x1)) → H1 c2 = some (.cell (val x2)) → (∀ b, b ≠ c1 → b ≠ c2 → H1 b = H b) → P H1) : P (addCells H val [(x1, c1), (x2, c2)]) := by
  have f1 : H c1 = none := (hfr (x1, c1) (.head _)).1
  have f2 : H c2 = none := (hfr (x2, c2) (.tail _ (.head _))).1
  obtain ⟨p1, hne⟩ := List.pairwise_cons.mp hne
  have n12 : c1 ≠ c2 := p1 (x2, c2) (.head _)
  exact h _ f1 f2 n12 (((Ext.refl H).put f2).put f1) (upd_self _ _ _) (upd_ne' (Ne.symm n12) (upd_self _ _ _)) (fun b h1 h2 => upd_ne' h1 (upd_ne' h2 (rfl)))
theorem with_cells3 {L : Addr} {H : CHeap} {val : Str → Option CV} {x1 x2 x3 : Str} {c1 c2 c3 : Addr} (P : CHeap → Prop) (hfr : ∀ p ∈ ([(x1, c1), (x2, c2), (x3, c3)] : List (Str × Addr)), H p.2 = none ∧ p.2 ≠ L) (hne : ([(x1, c1), (x2, c2), (x3, c3)] : List (Str × Addr)).Pairwise fun x y => x.2 ≠ y.2)
    (h : ∀ H1, H c1 = none → H c2 = none → H c3 = none → c1 ≠ c2 → c1 ≠ c3 → c2 ≠ c3 → Ext H H1 → H1 c1 = some (.cell (val x1)) → H1 c2 = some (.cell (val x2)) → H1 c3 = some (.cell (val x3)) → (∀ b, b ≠ c1 → b ≠ c2 → b ≠ c3 → H1 b = H b) → P H1) : P (addCells H val [(x1, c1), (x2, c2), (x3, c3)]) := by
  have f1 : H c1 = none := (hfr (x1, c1) (.head _)).1
  have f2 : H c2 = none := (hfr (x2, c2) (.tail _ (.head _))).1
  have f3 : H c3 = none := (hfr (x3, c3) (.tail _ (.tail _ (.head _)))).1
  obtain ⟨p1, hne⟩ := List.pairwise_cons.mp hne
  have n12 : c1 ≠ c2 := p1 (x2, c2) (.head _)
  have n13 : c1 ≠ c3 := p1 (x3, c3) (.tail _ (.head _))
  obtain ⟨p2, hne⟩ := List.pairwise_cons.mp hne
  have n23 : c2 ≠ c3 := p2 (x3, c3) (.head _)
  exact h _ f1 f2 f3 n12 n13 n23 ((((Ext.refl H).put f3).put f2).put f1) (upd_self _ _ _) (upd_ne' (Ne.symm n12) (upd_self _ _ _)) (upd_ne' (Ne.symm n13) (upd_ne' (Ne.symm n23) (upd_self _ _ _))) (fun b h1 h2 h3 => upd_ne' h1 (upd_ne' h2 (upd_ne' h3 (rfl))))
theorem len0 {P : List Value → Prop} (h : P []) : ∀ vals : List Value, vals.length = 0 → P vals := fun vals e => by rw [List.eq_nil_of_length_eq_zero e]; exact h
theorem len_succ {P : List Value → Prop} {n : Nat} (h : ∀ a, ∀ vals : List Value, vals.length = n → P (a :: vals)) : ∀ vals : List Value, vals.length = n + 1 → P vals := fun vals e => by
  obtain ⟨a, r, rfl⟩ := List.exists_cons_of_length_eq_add_one e
  exact h a r (Nat.succ.inj e)
theorem len1 {P : List Value → Prop} (h : ∀ a, P [a]) : ∀ vals : List Value, vals.length = 1 → P vals := len_succ fun a => len0 (h a)
theorem len2 {P : List Value → Prop} (h : ∀ a b, P [a, b]) : ∀ vals : List Value, vals.length = 2 → P vals := len_succ fun a => len1 (P := fun r => P (a :: r)) fun b => h a b
theorem len3 {P : List Value → Prop} (h : ∀ a b c, P [a, b, c]) : ∀ vals : List Value, vals.length = 3 → P vals := len_succ fun a => len2 (P := fun r => P (a :: r)) fun b c => h a b c
section
variable {X : Wd} {A : Around} {E : CHeap → Prop} {EL : Loc → CHeap → Prop} {env : Env} {m : Loc} {H : CHeap}
theorem ex_def' {t : TabS} {name : Str} {params : Arguments} {body : List Stmt} {scope sc : Scope} {clos cells : List (Str × Addr)} {cd : Value} {qual : Str} {pos : Pos} {Q : CF → Loc → CHeap → Prop} (ok : EnvOk env sc cells cd qual) (ht : t ∈ X.B.tbs) (hcode : cd = .ref t.c) (hl : t.line = pos.line) (hc : t.col = pos.col) (hq : t.qual = qual ++ name)
    (hcl : closL cells scope.names [] = some clos) (hd0 : params.defaults = []) (hk0 : params.kw_defaults = []) (ha : annTrees params none env = []) (hqn : (sc.names.lookup name == some .globalExplicit) = false)
    (h : ∀ d : NDef, d = ⟨name, qual ++ name, params, body, scope⟩ → StN X A EL env name (.clo d clos) (fun m' H' => Q .next m' H') m H) : ExS X A EL env (.FunctionDef name params body [] none [] scope none name pos) Q m H :=
  ex_def ht (ok.cd.trans hcode) ok.gl hl hc (by unfold qualnameIn; rw [Env.kindOf, ok.sc, hqn, ok.qu, hq]; rfl) (clos_ok ok.cl hcl) hd0 hk0 ha (by rw [hq]; exact h _ rfl)
theorem ex_assign2 {x y : Str} {px py tp p : Pos} {k n : Nat} {e : Expr} {Q : CF → Loc → CHeap → Prop} (ro : Room A n) (hs : swapsWithSole [.Tuple [.Name x px, .Name y py] k tp] e p.line env = pure false) (hw : swappedStores [.Tuple [.Name x px, .Name y py] k tp] e env = pure none)
    (h : EvE X A EL env e (fun V H1 => ∃ V1 V2, V = .tuple [V1, V2] ∧ StN X A EL env x V1 (fun m1 H2 => StN X A EL env y V2 (fun m2 H3 => Q .next m2 H3) m1 H2) m H1) m H) : ExS X A EL env (.Assign [.Tuple [.Name x px, .Name y py] k tp] e p) Q m H :=
  ex_assign_tup (xs := [(x, px), (y, py)]) ro.hd (h.mono fun V H1 ⟨V1, V2, e, q⟩ => ⟨[V1, V2], e, rfl, q⟩) rfl hs hw
theorem ex_expr' {e : Expr} {p : Pos} {sc : Scope} {cells : List (Str × Addr)} {cd : Value} {qual : Str} {Q : CF → Loc → CHeap → Prop} (ok : EnvOk env sc cells cd qual) (hk : sc.kind = .function) (hs : swapsWith e none p.line env = pure false) (h : EvE X A EL env e (fun V H1 => Q .next m H1) m H) : ExS X A EL env (.Expr e p) Q m H :=
  ex_expr h (by unfold interactive; rw [ok.sc, hk]; rfl) hs
end
end
section
section
variable {X : Wd} {A : Around} {E : CHeap → Prop} {EL : Loc → CHeap → Prop} {env : Env} {m : Loc} {H : CHeap} {s : Shared}
/-- the heap in which an exception has landed -/
theorem land {B : Bs} {h' : Heap} {t : Nat} {hide : List Addr} (R : HRel B H s.heap) (ok : HideOk B H s.heap hide) (st : (hideAll s.heap hide).StaysIn h') (u : s.heap.UpToSlots h') : Step B H s H { s with heap := h', toks := t } := by
  have out : ∀ a o, a ∉ hide → s.heap.get? a = some o → h'.get? a = some o := fun a o n e => st _ _ (hideAll_get _ e n)
  have kp : ∀ a o, s.heap.get? a = some o → Kept h' a o := fun a o e => by
    by_cases q : a ∈ hide
    · obtain ⟨_, _, o', es, n, e', d⟩ := ok a q
      rw [e] at e'; cases e'
      obtain ⟨sl, e2⟩ := u a o e fun vs q => by rw [d] at q; cases q
      exact .inr ⟨es, n, sl, d, e2⟩
    · exact .inl (out a o q e)
  have nx : NewX H H s.heap := fun a e n => absurd e n
  refine ⟨⟨_, _, rfl⟩, R.next (fun a o q e => out a o (fun z => ?_) e) (fun a o e _ _ => (kp a o e).imp id fun ⟨_, _, _, d, _⟩ => loose_dict d) nx (fun d fs e => ⟨fs, e⟩) (fun a o e => .inl ⟨e, fun ob q => out a ob (fun z => ?_) q⟩), fun a o e _ _ => kp a o e, nx, fun a e => e⟩
  · obtain ⟨⟨z1, z2⟩, _⟩ := ok a z
    rcases q with q | q
    · rw [z2] at q; cases q
    · exact z1 q
  · obtain ⟨_, z1, _⟩ := ok a z
    rw [z1] at e; cases e
theorem PE.fresh {e : Addr} {h' : Heap} {tk : Nat} (R : HRel X.B H s.heap) (hE : E H) (hfr : FrsAt X.B A H s.heap) (x : Heap.NewExc s.heap h' e "ZeroDivisionError") : PE X A H s E (.ref e) { s with heap := h', toks := tk } :=
  let ⟨l, hl, _⟩ := hfr; ⟨H, s, Step.refl R, hE, e, [], l, rfl, hl, ⟨h', tk, rfl⟩, (fun _ q => nomatch q), .made x⟩
theorem ex_raise {np p : Pos} {Q : CF → Loc → CHeap → Prop} (hA : A.handled = none) (hE : EL m H) (hn : nsIn X.K mainGlobals "ZeroDivisionError" = some none) (hk : env.scope.kind = .function) (hl : env.kindOf "ZeroDivisionError" = some .globalImplicit) (hg : env.globals = mainGlobals) (hb : env.builtins = builtinsNs) : ExS X A EL env (.Raise (some (.Name "ZeroDivisionError" np)) none p) Q m H := fun s R F hfr => by
  refine Raise_classB hA excClass_ZeroDivisionError excClass_ZeroDivisionError.self (wpAny_Name (wpAny_loadGlobal_none R hk hl hg hb (mg_none_of X.kin X.g hn) (by decide) excClass_ZeroDivisionError.boot ⟨rfl, rfl⟩) rfl) fun h' e x => ?_
  exact PE.toL (PE.fresh R hE hfr.1 x) (Step.refl R).toL R F hfr
theorem bin_div0 {a : Int} {Q : CV → CHeap → Prop} (hA : A.handled = none) (hE : E H) : BinR X A E .FloorDiv (.int a) (.int 0) H Q := fun s va vb R ra rb hfr => by
  obtain ⟨t, rfl⟩ := ra.int_inv
  obtain ⟨u, rfl⟩ := rb.int_inv
  exact PySem.AutoIntOps.floordiv_0 rfl ⟨hA, fun h' tk e x => PE.fresh R hE hfr x⟩
theorem bin_mod0 {a : Int} {Q : CV → CHeap → Prop} (hA : A.handled = none) (hE : E H) : BinR X A E .Mod (.int a) (.int 0) H Q := fun s va vb R ra rb hfr => by
  obtain ⟨t, rfl⟩ := ra.int_inv
  obtain ⟨u, rfl⟩ := rb.int_inv
  exact PySem.AutoIntOps.mod_0 rfl ⟨hA, fun h' tk e x => PE.fresh R hE hfr x⟩
/-- try: body except ZeroDivisionError: suite -/
theorem ex_try {body suite : List Stmt} {b₀ : Stmt} {np hp p : Pos} {Q : CF → Loc → CHeap → Prop} (EX : Loc → CHeap → Prop) (hn : nsIn X.K mainGlobals "ZeroDivisionError" = some none) (hk : env.scope.kind = .function) (hl : env.kindOf "ZeroDivisionError" = some .globalImplicit) (hg : env.globals = mainGlobals) (hb : env.builtins = builtinsNs)
    (h : ExSs X A EX env body Q m H)
    (hx : ∀ e m' H', EX m' H' → H' env.locals = none → ExSs X (A.mark (some e)) (fun _ _ => False) env (b₀ :: suite) Q m' H') : ExS X A EL env (.Try body [.ExceptHandler (some (.Name "ZeroDivisionError" np)) none (b₀ :: suite) hp] [] [] p) Q m H := fun s R F hfr => by
  refine wpAny_Try_except (wpAny_mono (h s R F hfr) (fun f s1 q => ?_) fun e s1 ⟨Hr, sr, m', st, Fr', hE, lk⟩ => ?_)
  · cases f with
    | next => exact wpAny_execs_nil q
    | _ => exact q
  refine wpAny_mono lk (fun _ s2 ⟨ea, hide, l, a0, L, he, hlf, hf, ⟨h2, t2, e2⟩, ok, hH, u⟩ => ?_) fun _ _ q => q.elim
  subst he; subst e2
  refine wpAny_landsW hH fun h3 hF u3 => ?_
  have st3 := land (t := t2) st.rel ok hF.1 (u.trans u3)
  refine wpAny_handleBy_builtin (X := "ZeroDivisionError") (T := "ZeroDivisionError") (b := true) PySem.F.isExc_ZeroDivisionError PySem.F.notTuple_ZeroDivisionError PySem.F.self_ZeroDivisionError ?_
  refine wpAny_Name (wpAny_loadGlobal_none st3.rel hk hl hg hb (mg_none_of X.kin X.g hn) (by decide) excClass_ZeroDivisionError.boot ⟨rfl, ?_, ?_⟩) rfl
  · obtain ⟨ob, o1, o2⟩ := hF.there
    exact ⟨ob, o1, o2⟩
  show wpAny _ _ _ _ _ _
  refine lands_againW hF fun h4 hF4 u4 => ?_
  have st4 := land (t := t2) st.rel ok hF4.1 ((u.trans u3).trans u4)
  have F4 := st4.frm st.rel Fr'
  have f4 : FrsE X.B A env Hr h4 := (hfr.stepL st Fr').step st4
  refine wpAny_mono (hx (.ref ea) m' Hr hE F4.free _ st4.rel F4 ⟨f4.1.to rfl, f4.2⟩) (fun fl s5 ⟨F5, m5, H5, a, b, c, d⟩ => ⟨F5, m5, H5, a, (st.trans st4.toL Fr'.ex).trans b F4.ex, c, d⟩) fun _ _ ⟨_, _, _, _, _, z, _⟩ => z.elim
theorem cmp_in_data {V W : CV} {d : PyData} {ds : List PyData} {Q : CV → CHeap → Prop} (hV : Rd H V d) (hW : Rd H W (.list ds)) (hd : d.canLay0 = true) (he : PyData.canLayAll0 ds = true) (hu : A.units + 1 + min (PyData.depthAll ds) d.depth < cLine) (h : Q (.bool (ds.any fun y => PyData.eqv y d)) H) : CmpR X A E .In V W H Q := fun s va vb R ra rb hfr => by
  obtain ⟨as, r1⟩ := hV.reads R ra
  obtain ⟨bs, r2⟩ := hW.reads R rb
  exact SeqAt.in_list_reads r2 r1 he hd hu ⟨_, H, .bool _, Step.refl R, h⟩
theorem cl_count {x y : Str} {Q : CV → CHeap → Prop} (h : Q (.int (Txt.count x y)) H) : Cl X A E (.bi "str.count") [.str x, .str y] Q H := fun s fv avs R rf rs hfr => by
  obtain rfl := rf.bi_inv
  obtain ⟨v, w, rfl, h1, h2⟩ := rs.two
  obtain ⟨_, rfl⟩ := h1.str_inv
  obtain ⟨_, rfl⟩ := h2.str_inv
  exact SC.count ⟨_, H, .int _ _, Step.tok R _, h⟩
theorem StepL.frm {B : Bs} {L C : Addr} {m mC : Loc} {H H' : CHeap} {s s' : Shared} (x : StepL B L H s H' s') (FL : Frm B L m H s.heap) (F : Frm B C mC H s.heap) (ne : C ≠ L) : Frm B C mC H' s'.heap := by
  obtain ⟨lo, fr, mr, ⟨o, es, n, e, d, sk, f⟩, r⟩ := F
  obtain ⟨o', e', d'⟩ := (x.keep C o e fr lo.1 ne).ex
  exact ⟨lo, none_of_new x.new fr e, mr, ⟨o', es, n, e', d'.trans d, sk, f⟩, fun y => (r y).to (x.kx FL) x.new⟩
theorem ex_compV {elt iter : Expr} {x : Str} {px : Pos} {ifs : List Expr} {scope : Scope} {cl : List (Str × Addr)} {pos : Pos} {sc : Scope} {cells : List (Str × Addr)} {y : Str} {py spos : Pos} {Q : CF → Loc → CHeap → Prop} {cd : Value} {qual : Str} (ok : EnvOk env sc cells cd qual)
    (f : CV → Nat → CHeap → Option CV) (G : CV → CHeap → Prop) (I : CV → Nat → List CV → CHeap → Prop) (N : Nat) (hA : A.handled = none)
    (hclos : closL cells scope.names [] = some cl) (hcell : ∀ y ∈ scope.names, y.2 ≠ .cell) (hkind : scope.kind = .function) (hnames : ∀ y ∈ scope.names, y.2 = .local → scope.names.lookup y.1 = some .local) (hx : scope.names.lookup x = some .local)
    (hG : ∀ V i ys H, I V i ys H → G V H) (hN : ∀ V i ys H, I V i ys H → f V i H ≠ none → i < N)
    (h : EvE X A EL env iter (fun V H1 => IterR X A (EL m) V (f V) (G V) H1 ∧ I V 0 [] H1) m H)
    (turn : ∀ E' cenv U i ys H V, EnvOk cenv (relabelS scope sc) cl cd qual → I U i ys H → f U i H = some V → H cenv.locals = none →
      EvT X A E' cenv ifs (fun b H1 => (b = true → EvE X A E' cenv elt (fun W H2 => ys.length ≤ sizeLine ∧ I U (i + 1) (ys ++ [W]) H2) [(x, V)] H1) ∧ (b = false → I U (i + 1) ys H1)) [(x, V)] H)
    (fin : ∀ U i ys H, I U i ys H → f U i H = none → ∀ a, H a = none → Q .next (put y (.ref a) m) (upd H a (.list ys)))
    (hs : ∀ v, foldedSetIterable iter env v = pure v) (hsw : swapsWith (.ListComp elt [⟨.Name x px, iter, ifs, 0⟩] scope pos) (some (.Name y py)) spos.line env = pure true) (hek : env.scope.kind = .function) (hey : env.kindOf y = some .local) : ExS X A EL env (.Assign [.Name y py] (.ListComp elt [⟨.Name x px, iter, ifs, 0⟩] scope pos) spos) Q m H := fun s R F hfr => by
  rw [exec_Assign_Name_used _ _ _ _ hsw]
  refine wpAny_bind (wpAny_standAt (wpAny_bind ?_))
  show wpAny _ A (do let _ ← comprehension (.ListComp elt [⟨.Name x px, iter, ifs, 0⟩] scope pos) scope env _ (newList []) false (eval iter env) (some (assign (.Name y py) env))) _ _ s
  refine wpAny_bind (wpAny_mono (comp_core (use := some (assign (.Name y py) env)) (EE := PEL X A EL env H s) (Post := fun _ s' => PF X env H s Q .next s') ok f G I N hA hclos hcell hkind hnames hx hG hN h turn hs (fun _ _ e => e.toL (Step.refl R).toL R F hfr) (fun U i ys H' D C mC r s' hi hf hD st FC fr => ?_) R F hfr.1) (fun _ s' hq => wpAny_pure (wpAny_pure hq)) fun _ _ e => e)
  have F1 := st.frm R F
  have nLC : env.locals ≠ C := fun q => by
    obtain ⟨o, es, n, e, _⟩ := F.there
    rw [q, fr] at e; cases e
  show wpAny X.M A (standAt py >>= fun _ => bindName env y (.ref D)) _ _ _
  refine wpAny_bind (wpAny_standAt (wpAny_bindName (wpAny_mono (stn_local0 (X := X) (E0 := PEL X A EL env H s) (Q := fun m1 H2 => m1 = put y (.ref D) m ∧ H2 = upd H' D (.list ys)) ⟨rfl, rfl⟩ hek hey st.rel F1 (.ref D)) (fun _ s2 ⟨m2, H2, st2, F2, em, eH⟩ => ?_) fun _ _ e => e)))
  subst em eH
  have FC2 := st2.frm F1 FC (Ne.symm nLC)
  obtain ⟨mr, hn, _⟩ := FC2.ns
  obtain ⟨oC, esC, nC, eC, dC⟩ := FC2.there
  refine ⟨mr, hn, fun h' sb => ?_⟩
  obtain ⟨R3, kx3⟩ := st2.rel.turn eC (loose_dict dC) FC2.free FC2.lo (fun a o ne e => (sb.2 a ne).trans e)
  obtain ⟨⟨h4, t4, e4⟩, _, k4, n4, d4⟩ := st.toL.trans st2 F1.ex
  exact ⟨.next, _, _, .next, ⟨⟨h', t4, by rw [e4]⟩, R3, fun a o e hn ht hl => (k4 a o e hn ht hl).trans fun o' e' => .inl ((sb.2 a (fun q => by subst q; rw [fr] at e; cases e)).trans e'), n4, d4⟩, F2.turn kx3 (fun o e => (sb.2 _ nLC).trans e), fin U i ys H' hi hf D hD⟩
end
end
section
/-- a tree of quotients and rests -/
inductive Tr where
  | leaf (x : Int)
  | op (d : Bool) (l r : Tr)
inductive Th where
  | num (x : Int)
  | op (d : Bool)
def dv (d : Bool) (a b : Int) : Option Int := if b = 0 then none else some (if d then a.fdiv b else a.fmod b)
def ht : Tr → Nat
  | .leaf _ => 0
  | .op _ l r => 1 + max (ht l) (ht r)
def val : Tr → Option Int
  | .leaf x => some x
  | .op d l r => (val l).bind fun a => (val r).bind fun b => dv d a b
def sz : Tr → Nat
  | .leaf _ => 1
  | .op _ l r => 1 + sz l + sz r
def bnd : Tr → Prop
  | .leaf x => x.natAbs < 8 ^ 12
  | .op _ l r => bnd l ∧ bnd r
/-- in Polish writing, the branches of height k or less told -/
def pol (k : Nat) : Tr → Option (List Th)
  | .leaf x => some [.num x]
  | .op d l r => if ht (.op d l r) ≤ k then (val (.op d l r)).map fun v => [.num v] else (pol k l).bind fun a => (pol k r).map fun b => .op d :: a ++ b
theorem pol_low {k : Nat} {t : Tr} (h : ht t ≤ k) : pol k t = (val t).map fun v => [.num v] := by
  cases t with
  | leaf x => rfl
  | op d l r => exact if_pos h
theorem pol_high {k : Nat} {d : Bool} {l r : Tr} (h : ¬ ht (.op d l r) ≤ k) : pol k (.op d l r) = (pol k l).bind fun a => (pol k r).map fun b => .op d :: a ++ b := if_neg h
/-- one round of the words -/
def red : List Th → Option (List Th)
  | .op d :: .num a :: .num b :: r => (dv d a b).bind fun v => (red r).map (.num v :: ·)
  | x :: r => (red r).map (x :: ·)
  | [] => some []
theorem red_num (x : Int) (r : List Th) : red (.num x :: r) = (red r).map (.num x :: ·) := by
  rw [red]; intro d a b r' e; cases e
theorem red_redex (d : Bool) (a b : Int) (r : List Th) : red (.op d :: .num a :: .num b :: r) = (dv d a b).bind fun v => (red r).map (.num v :: ·) := by rw [red]
theorem red_op {d : Bool} {r : List Th} (h : ∀ a b r', r ≠ .num a :: .num b :: r') : red (.op d :: r) = (red r).map (.op d :: ·) := by
  rw [red]; intro d' a b r' e1 e2; exact absurd e2 (h a b r')
theorem pol_head {k : Nat} {t : Tr} {l : List Th} (h : pol k t = some l) : (ht t ≤ k ∧ ∃ v, l = [.num v]) ∨ (k < ht t ∧ ∃ d r, l = .op d :: r) := by
  by_cases q : ht t ≤ k
  · rw [pol_low q] at h
    obtain ⟨v, _, rfl⟩ := Option.map_eq_some_iff.mp h
    exact .inl ⟨q, v, rfl⟩
  · cases t with
    | leaf x => exact absurd (Nat.zero_le _) q
    | op d l' r =>
      rw [pol_high q] at h
      obtain ⟨a, _, h2⟩ := Option.bind_eq_some_iff.mp h
      obtain ⟨b, _, rfl⟩ := Option.map_eq_some_iff.mp h2
      exact .inr ⟨Nat.not_le.mp q, d, a ++ b, rfl⟩
theorem red_pol {k : Nat} : ∀ {t : Tr} {l : List Th}, pol k t = some l → ∀ rest, red (l ++ rest) = (pol (k + 1) t).bind fun u => (red rest).map (u ++ ·)
  | .leaf x, l, h, rest => by
    cases h
    show red (.num x :: rest) = _
    rw [red_num]; rfl
  | .op d a b, l, h, rest => by
    by_cases q : ht (.op d a b) ≤ k
    · rw [pol_low q] at h
      obtain ⟨v, hv, rfl⟩ := Option.map_eq_some_iff.mp h
      rw [pol_low (Nat.le_succ_of_le q), hv]
      show red (.num v :: rest) = _
      rw [red_num]; rfl
    · rw [pol_high q] at h
      obtain ⟨la, ha, h2⟩ := Option.bind_eq_some_iff.mp h
      obtain ⟨lb, hb, rfl⟩ := Option.map_eq_some_iff.mp h2
      show red (.op d :: (la ++ lb ++ rest)) = _
      rw [List.append_assoc]
      by_cases q2 : ht (.op d a b) ≤ k + 1
      · have hm : 1 + max (ht a) (ht b) ≤ k + 1 := q2
        rw [pol_low (show ht a ≤ k by omega)] at ha
        rw [pol_low (show ht b ≤ k by omega)] at hb
        obtain ⟨va, e1, rfl⟩ := Option.map_eq_some_iff.mp ha
        obtain ⟨vb, e2, rfl⟩ := Option.map_eq_some_iff.mp hb
        show red (.op d :: .num va :: .num vb :: rest) = _
        rw [red_redex, pol_low q2]
        show _ = Option.bind (Option.map _ ((val a).bind fun a => (val b).bind fun b => dv d a b)) _
        rw [e1, e2]
        show _ = Option.bind (Option.map _ (dv d va vb)) _
        cases dv d va vb <;> rfl
      · rw [red_op, red_pol ha, pol_high q2]
        · cases pol (k + 1) a with
          | none => rfl
          | some pa =>
            show Option.map _ (Option.map _ (red (lb ++ rest))) = _
            rw [red_pol hb]
            show _ = Option.bind (Option.map _ (pol (k + 1) b)) _
            cases pol (k + 1) b with
            | none => rfl
            | some pb =>
              show Option.map _ (Option.map _ (Option.map _ (red rest))) = Option.map _ (red rest)
              cases red rest with
              | none => rfl
              | some rr => simp
        · intro x y r' e
          have hm : ¬ 1 + max (ht a) (ht b) ≤ k + 1 := q2
          rcases pol_head ha with ⟨q3, v, rfl⟩ | ⟨q3, d', r, rfl⟩
          · rcases pol_head hb with ⟨q4, v', rfl⟩ | ⟨q4, d', r, rfl⟩
            · omega
            · simp at e
          · simp at e
theorem red_pol0 {k : Nat} {t : Tr} {l : List Th} (h : pol k t = some l) : red l = pol (k + 1) t := by
  have := red_pol h []
  rw [List.append_nil] at this
  rw [this]
  cases pol (k + 1) t <;> simp [red]
theorem pol_zero : ∀ t, ∃ l, pol 0 t = some l ∧ l.length = sz t
  | .leaf x => ⟨_, rfl, rfl⟩
  | .op d a b => by
    obtain ⟨la, ha, ea⟩ := pol_zero a
    obtain ⟨lb, hb, eb⟩ := pol_zero b
    refine ⟨.op d :: la ++ lb, ?_, ?_⟩
    · rw [pol_high (by simp [ht]), ha, hb]; rfl
    · simp [sz, ea, eb]; omega
theorem pol_len {k : Nat} : ∀ {t : Tr} {l : List Th}, pol k t = some l → l.length ≤ sz t
  | .leaf x, l, h => by cases h; exact Nat.le_refl _
  | .op d a b, l, h => by
    by_cases q : ht (.op d a b) ≤ k
    · rw [pol_low q] at h
      obtain ⟨v, hv, rfl⟩ := Option.map_eq_some_iff.mp h
      simp [sz]; omega
    · rw [pol_high q] at h
      obtain ⟨la, ha, h2⟩ := Option.bind_eq_some_iff.mp h
      obtain ⟨lb, hb, rfl⟩ := Option.map_eq_some_iff.mp h2
      have := pol_len ha
      have := pol_len hb
      simp [sz]; omega
theorem dv_le {d : Bool} {a b v : Int} (h : dv d a b = some v) (ha : a.natAbs < 8 ^ 12) (hb : b.natAbs < 8 ^ 12) : v.natAbs < 8 ^ 12 := by
  unfold dv at h
  by_cases q : b = 0
  · rw [if_pos q] at h; cases h
  · rw [if_neg q] at h
    cases h
    cases d with
    | true =>
      simp only [if_true]
      refine Nat.lt_of_le_of_lt ?_ ha
      have := Int.natAbs_fdiv_le_natAbs a b
      exact this
    | false =>
      simp only [Bool.false_eq_true, if_false]
      rcases Int.lt_or_gt_of_ne q with z | z
      · have h1 : a.fmod b = -((-a).fmod (-b)) := by
          have e1 : (-a).fdiv (-b) = a.fdiv b := Int.neg_fdiv_neg ..
          rw [Int.fmod_def, Int.fmod_def, e1, Int.neg_mul]; omega
        have h2 := Int.fmod_lt_of_pos (-a) (show 0 < -b by omega)
        have h3 := Int.fmod_nonneg_of_pos (-a) (show 0 < -b by omega)
        omega
      · have h2 := Int.fmod_lt_of_pos a z
        have h3 := Int.fmod_nonneg_of_pos a z
        omega
theorem val_le : ∀ {t : Tr} {v : Int}, bnd t → val t = some v → v.natAbs < 8 ^ 12
  | .leaf x, v, hb, h => by cases h; exact hb
  | .op d a b, v, hb, h => by
    obtain ⟨va, ha, h2⟩ := Option.bind_eq_some_iff.mp h
    obtain ⟨vb, hb2, h3⟩ := Option.bind_eq_some_iff.mp h2
    exact dv_le h3 (val_le hb.1 ha) (val_le hb.2 hb2)
def okT : Th → Prop
  | .num x => x.natAbs < 8 ^ 12
  | .op _ => True
theorem pol_ok {k : Nat} : ∀ {t : Tr} {l : List Th}, bnd t → pol k t = some l → ∀ x ∈ l, okT x
  | .leaf x, l, hb, h, y, hy => by cases h; rw [List.mem_singleton.mp hy]; exact hb
  | .op d a b, l, hb, h, y, hy => by
    by_cases q : ht (.op d a b) ≤ k
    · rw [pol_low q] at h
      obtain ⟨v, hv, rfl⟩ := Option.map_eq_some_iff.mp h
      rw [List.mem_singleton.mp hy]
      exact val_le (t := .op d a b) hb hv
    · rw [pol_high q] at h
      obtain ⟨la, ha, h2⟩ := Option.bind_eq_some_iff.mp h
      obtain ⟨lb, hb2, rfl⟩ := Option.map_eq_some_iff.mp h2
      rcases List.mem_append.mp hy with hy | hy
      · rcases List.mem_cons.mp hy with rfl | hy
        · trivial
        · exact pol_ok hb.1 ha y hy
      · exact pol_ok hb.2 hb2 y hy
end
local macro_rules | `(tactic| walk_at "ar") => `(tactic| first | with_reducible exact Nat.le_of_ble_eq_true rfl | with_reducible exact Int.natCast_nonneg _ | assumption | with_reducible exact lt62 (by assumption) | with_reducible exact Nat.le_add_left _ _ | with_reducible exact Nat.le_add_right _ _ | lia | omega)
local macro_rules | `(tactic| walk_at "lk") => `(tactic| first | exact put_same | exact cons_same | assumption | (refine put_other (by decide) ?_; walk_at "lk") | (refine cons_other (by decide) ?_; walk_at "lk") | rfl)
local macro_rules | `(tactic| walk_at "gv") => `(tactic| first | exact GV.ref _ | exact GV.int _ _ | exact GV.bi _ | exact GV.ty _)
local macro_rules | `(tactic| walk_at "nm") => `(tactic| first
  | ((with_reducible refine' ev_local' ?a ?b ?c ?d ?e ?_); (case a => assumption); (case b => rfl); (case c => rfl); (case d => rfl); (case e => walk_at "lk"))
  | ((with_reducible refine' ev_cell' ?a ?b ?c ?d ?e ?f ?_); (case a => assumption); (case b => rfl); (case c => rfl); (case d => rfl); (case e => walk_at "cl"); (case f => walk_at "hp"))
  | ((with_reducible refine' ev_free' ?a ?b ?c ?d ?g ?e ?f ?_); (case a => assumption); (case b => rfl); (case c => rfl); (case d => rfl); (case g => rfl); (case e => walk_at "cl"); (case f => walk_at "hp"))
  | ((with_reducible refine' ev_glob' ?k ?a ?b ?c ?d ?e ?f ?_); (case k => assumption); (case a => assumption); (case b => rfl); (case c => rfl); (case d => rfl); (case e => rfl); (case f => walk_at "gv"))
  | ((with_reducible refine' ev_builtin' ?k ?a ?b ?c ?d ?g ?e ?h ?f ?_); (case k => assumption); (case a => assumption); (case b => rfl); (case c => rfl); (case d => rfl); (case g => rfl); (case e => rfl); (case h => rfl); (case f => walk_at "gv")))
local macro_rules | `(tactic| walk_at "cl") => `(tactic| first | assumption | rfl)
local macro_rules | `(tactic| walk_at "ne") => `(tactic| first | assumption | (refine Ne.symm ?_; assumption) | exact ne_of (by assumption) (by assumption) | exact Ne.symm (ne_of (by assumption) (by assumption)))
local macro_rules | `(tactic| walk_at "hp") => `(tactic| first | assumption | exact upd_self _ _ _ | (refine upd_ne' (by walk_at "ne") ?_; walk_at "hp"))
local macro_rules | `(tactic| walk_at "e") => `(tactic| first
  | with_reducible refine ev_int ?_ | with_reducible refine ev_str ?_ | with_reducible refine ev_bool ?_ | with_reducible refine ev_none ?_
  | with_reducible refine ev_bin ?_ | with_reducible refine ev_un ?_
  | ((with_reducible refine ev_cmp ?_ ?hm); (case hm => rfl))
  | with_reducible refine ev_ifexp ?_ | with_reducible refine ev_and2 ?_ | with_reducible refine ev_list ?_ | with_reducible refine ev_tuple ?_
  | ((with_reducible refine ev_call ?_ ?hm); (case hm => rfl))
  | ((with_reducible refine ev_meth ?_ ?h1 ?h2 ?h3 ?h4); (case h1 => rfl); (case h2 => rfl); (case h3 => rfl); (case h4 => decide))
  | ((with_reducible refine ev_attr ?_ ?hm); (case hm => rfl))
  | with_reducible refine ev_slice ?_
  | with_reducible refine ev_sub ?_
  | with_reducible refine evo_none ?_ | with_reducible refine evo_some ?_
  | walk_at "nm"
  | ((with_reducible refine evb_cmp ?_ ?hm); (case hm => rfl))
  | with_reducible refine evb_not ?_ | with_reducible refine evb_and ?_ | with_reducible refine evb_or ?_ | with_reducible refine evb_and_nil ?_ | with_reducible refine evb_or_nil ?_ | with_reducible refine evb_ifexp ?_
  | ((with_reducible refine evb_val ?_ ?hm); (case hm => rfl))
  | with_reducible refine evs_nil ?_
  | ((with_reducible refine evs_cons ?_ ?hm); (case hm => rfl))
  | with_reducible refine exs_cons ?_ | with_reducible refine exs_nil ?_
  | with_reducible refine ex_if ?_ | with_reducible refine ex_return ?_ | with_reducible refine ex_return0 ?_ | with_reducible refine ex_continue ?_ | with_reducible refine ex_pass ?_
  | ((with_reducible refine ex_assign ?_ ?hm); (case hm => rfl))
  | ((with_reducible refine' ex_assign2 ?a ?hm ?hn ?_); (case a => assumption); (case hm => rfl); (case hn => rfl))
  | ((with_reducible refine' ex_assign3 ?a ?hm ?hn ?_); (case a => assumption); (case hm => rfl); (case hn => rfl))
  | with_reducible refine ex_int ?_ | with_reducible refine ⟨_, _, rfl, ?_⟩ | with_reducible refine ⟨_, _, _, rfl, ?_⟩
  | with_reducible refine ex_aug ?_ | with_reducible refine ex_aug_attr ?_
  | ((with_reducible refine' ex_expr' ?a ?hm ?hn ?_); (case a => assumption); (case hm => rfl); (case hn => rfl))
  | ((with_reducible refine ex_assign_attr ?_ ?hm ?hn); (case hm => rfl); (case hn => rfl))
  | ((with_reducible refine ex_assign_sub ?_ ?hm ?hn); (case hm => rfl); (case hn => rfl))
  | ((with_reducible refine' stn_local' ?a ?b ?c ?_); (case a => assumption); (case b => rfl); (case c => rfl))
  | ((with_reducible refine' stn_cell' ?a ?b ?c ?e ?f ?_); (case a => assumption); (case b => rfl); (case c => rfl); (case e => walk_at "cl"); (case f => walk_at "hp"))
  | ((with_reducible refine' ldn_local' ?a ?b ?c ?e ?_); (case a => assumption); (case b => rfl); (case c => rfl); (case e => walk_at "lk"))
  | ((with_reducible refine' ldn_cell' ?a ?b ?c ?e ?f ?_); (case a => assumption); (case b => rfl); (case c => rfl); (case e => walk_at "cl"); (case f => walk_at "hp"))
  | with_reducible refine bin_add ?_ | with_reducible refine bin_sub ?_ | with_reducible refine inp_add ?_ | with_reducible refine un_neg ?_ | with_reducible refine un_inv ?_ | with_reducible refine bin_xor ?_
  | with_reducible refine cmp_eq ?_ | with_reducible refine cmp_ne ?_ | with_reducible refine cmp_lt ?_ | with_reducible refine cmp_le ?_ | with_reducible refine cmp_gt ?_ | with_reducible refine cmp_ge ?_
  | with_reducible refine cmp_eq_str ?_ | with_reducible refine cmp_in_str ?_
  | with_reducible refine meth_find ?_ | with_reducible refine meth_count ?_ | with_reducible refine meth_join ?_ | with_reducible refine cl_find ?_ | with_reducible refine cl_abs ?_ | with_reducible refine cl_range1 ?_ | with_reducible refine cl_range2 ?_
  | with_reducible refine tr_bool ?_ | with_reducible refine tr_int ?_
  | ((with_reducible refine' at_field ?k ?g ?hh ?aa ?xx ?dd ?ll ?vv ?_); (case k => assumption); (case xx => walk_at "hp"); (case dd => walk_at "hp"); (case g => rfl); (case hh => rfl); (case aa => rfl); (case ll => rfl); (case vv => (intro _ ee; cases ee)))
  | ((with_reducible refine' at_bound ?k ?g ?hh ?aa ?b1 ?b2 ?b3 ?b4 ?xx ?dd ?ll ?_); (case k => assumption); (case xx => walk_at "hp"); (case dd => walk_at "hp"); (case g => rfl); (case hh => rfl); (case aa => rfl); (case b1 => rfl); (case b2 => rfl); (case b3 => rfl); (case b4 => rfl); (case ll => rfl))
  | ((with_reducible refine' meth_def ?k ?g ?aa ?b1 ?xx ?dd ?ll ?_); (case k => assumption); (case xx => walk_at "hp"); (case dd => walk_at "hp"); (case g => rfl); (case aa => rfl); (case b1 => rfl); (case ll => rfl))
  | ((with_reducible refine' set_field ?k ?g ?b1 ?b2 ?b3 ?xx ?dd ?ll ?_); (case k => assumption); (case xx => walk_at "hp"); (case dd => walk_at "hp"); (case g => rfl); (case b1 => rfl); (case b2 => rfl); (case b3 => rfl); (case ll => exact Nat.le_of_ble_eq_true rfl))
  | with_reducible refine cl_app1 ?_ | with_reducible refine cl_app0 ?_
  | ((with_reducible refine' meth_list PySem.F.slot_list_append PySem.F.type_list_append ?f ?_); (case f => walk_at "hp"))
  | ((with_reducible refine' meth_list PySem.F.slot_list_reverse PySem.F.type_list_reverse ?f ?_); (case f => walk_at "hp"))
  | ((with_reducible refine' meth_list PySem.F.slot_list_pop PySem.F.type_list_pop ?f ?_); (case f => walk_at "hp"))
  | with_reducible refine meth_bits ?_ | with_reducible refine cl_bits ?_
  | with_reducible refine ⟨callable_bi, ?_⟩ | (with_reducible refine ⟨(Nat.le_of_ble_eq_true rfl : List.length _ ≤ sizeLine), ?_⟩) | with_reducible refine ⟨callable_ty, ?_⟩ | with_reducible refine ⟨callable_clo, ?_⟩
  | ((with_reducible refine ⟨callable_glob (by assumption) ?hm, ?_⟩); (case hm => rfl)))
section
set_option maxRecDepth 100000
set_option maxHeartbeats 4000000
theorem law_run {prog : Program} {w : World} {h₀ : Heap} {tbs : List TabS} {K : Frag} {mg mb mm : Str → Option Value} {A : Around} {E : Value → Shared → Prop} {env : Env} {body : List Stmt} {x : Str} {a L : Addr} {vs : List Value} {zs : List Int} {s : Shared} {p : Program} {loose : List Str} {mean : ExcName → Option Value}
    (T : Top p loose mean mg mb h₀) (kin : K.In h₀) (cod : ∀ t ∈ tbs, CodeHd h₀ t.c t.P) (tuni : ∀ t ∈ tbs, ∀ t' ∈ tbs, t'.P = t.P → t' = t) (F : Fr h₀ L s.heap mm) (N : News h₀ L s.heap (tbs.map fun t => (t.P, tabObj #[]))) (hmm : ∀ y, mm y = [(x, Value.ref a)].lookup y)
    (hl : h₀.IsList a vs.toArray) (hi : IntsAre vs zs) (henv : env.locals = L) (hAf : A.frames = some [env]) (hef : env.frame = some L) (hek : env.scope.kind ≠ .module)
    (ex : ∀ X : Wd, X.K = K → X.B = ⟨h₀, tbs, prog, w⟩ → ExSs X A (fun _ _ => False) env body (fun f _ _ => f = .ret (.bool true)) [(x, .frz zs)] (fun _ => none)) :
    wpAny (model prog w) A (execs body env) (fun f s' => f = .ret (.bool true) ∧ (∀ b o, h₀.get? b = some o → s'.heap.get? b = some o) ∧ (∀ t ∈ tbs, GrownAt t.P s'.heap) ∧ s'.os = s.os ∧ s'.gens = s.gens) E s := by
  let X : Wd := { B := ⟨h₀, tbs, prog, w⟩, K := K, mg := mg, mb := mb, kin := kin, g := T.g, b := T.b, bi := T.builtins, nolim := T.nolimit, cod := cod, tuni := tuni, bmod := T.bmain }
  have hid : ∀ P ∈ X.B.tabs, P ≠ L ∧ h₀.get? P = none := by
    intro P hP
    obtain ⟨t, ht, rfl⟩ := List.mem_map.mp hP
    have := N (t.P, tabObj #[]) (List.mem_map_of_mem (f := fun t : TabS => (t.P, tabObj #[])) ht)
    exact ⟨this.2.1, this.2.2⟩
  have R : HRel X.B (fun _ => none) s.heap := by
    refine ⟨F.keep, fun P hP => (hid P hP).2, fun t ht => ?_, fun a o e => nomatch e⟩
    exact ⟨#[], (N (t.P, tabObj #[]) (List.mem_map_of_mem (f := fun t : TabS => (t.P, tabObj #[])) ht)).1, .inl rfl⟩
  have FF : Frm X.B env.locals [(x, .frz zs)] (fun _ => none) s.heap := by
    refine ⟨⟨fun hL => (hid _ hL).1 henv, ?_⟩, rfl, mm, henv ▸ F.ns, fun y => ?_⟩
    · rw [henv]
      cases q : h₀.get? L with
      | none => rfl
      | some o => exact absurd (Heap.lt_size q) (Nat.not_lt.mpr F.above)
    · rw [hmm y, List.lookup_cons, List.lookup_cons]
      cases y == x with
      | true => exact .frz hl hi
      | false => trivial
  have fE : FrsE X.B A env (fun _ => none) s.heap := by
    refine ⟨⟨_, hAf, fun e he => ?_⟩, [], hAf⟩
    obtain rfl := List.mem_singleton.mp he
    obtain ⟨o, es, n, e1, e2⟩ := FF.there
    rw [henv] at e1
    exact ⟨hek, L, o, es, n, hef, henv ▸ FF.lo, rfl, e1, e2⟩
  refine wpAny_mono (ex X rfl rfl s R FF fE) (fun f s' ⟨F1, m', H', rf, st, _, q⟩ => ?_) fun _ _ ⟨_, _, _, _, _, e, _⟩ => e.elim
  subst q
  obtain ⟨h2, t2, e2⟩ := st.sh
  refine ⟨?_, st.rel.keep, fun t ht => ?_, by rw [e2], by rw [e2]⟩
  · cases rf with
    | ret r => cases r; rfl
  · obtain ⟨ps, e, _⟩ := st.rel.tab t ht
    exact ⟨ps, e⟩
theorem with_env {X : Wd} {E : Loc → CHeap → Prop} {body : List Stmt} {Q : CF → Loc → CHeap → Prop} {m : Loc} {H : CHeap} {name : Str} {scope : Scope} {L fa : Addr} {cd : Value} {n : Nat} (h1 : callerA.depth + 1 + n < recursionLimit) (h2 : callerA.units + 3 + 8 * n < cLine)
    (h : ∀ env, EnvOk env scope [] cd (name ++ ".<locals>.") → Room (callerA.deeper env) n → ExSs X (callerA.deeper env) E env body Q m H) : ExSs X (callerA.deeper (envOf name scope L fa cd)) E (envOf name scope L fa cd) body Q m H :=
  h _ ⟨rfl, rfl, rfl, rfl, rfl, rfl⟩ ⟨rfl, h1, h2⟩
end
section
set_option maxRecDepth 100000
set_option maxHeartbeats 4000000
structure W01 (X : Wd) (P : Params) : Prop where
  hK : X.K = K1 P
  t1 : (⟨30, 34, 32, 4, Str.ofString "_int2digits.<locals>.inner"⟩ : TabS) ∈ X.B.tbs
  t2 : (⟨37, 41, 47, 4, Str.ofString "_digits2int.<locals>.inner"⟩ : TabS) ∈ X.B.tbs
  t3 : (⟨181, 185, 201, 4, Str.ofString "_law_right.<locals>.give"⟩ : TabS) ∈ X.B.tbs
theorem i2d_spec {X : Wd} {P : Params} (W : W01 X P) {A : Around} {E : CHeap → Prop} {H : CHeap} {Q : CV → CHeap → Prop} {a n : Nat} (ro : Room A 30) (hn : 0 < n) (hn2 : n ≤ 1000) (ha : Builtin.Int.intBits a ≤ 10000)
    (h : ∀ l H', H l = none → Ext H H' → H' l = some (.list (nums (spread (2 ^ n) a ((Builtin.Int.intBits a + n - 1) / n)))) → Q (.ref l) H') : Cl X A E (.glob 35) [.int a, .int n] Q H := by
  have hK := W.hK
  refine cl_defC (ns := [Str.ofString "a", Str.ofString "n"]) (n := 29) (by rw [hK]; rfl) (by rw [hK]; rfl) rfl (len2 fun _ _ => rfl) rfl (by decide) rfl (by decide) (by decide) (by decide) rfl rfl rfl rfl rfl rfl ro ?_
  intro A' E' env cs ro' ok hcs hfr hne hL
  obtain ⟨c2, c3, c1, rfl⟩ := keys3 hcs
  refine with_cells3 (fun H1 => ExSs X A' E' env _ _ _ H1) hfr hne ?_
  intro H1 f2 f3 f1 n23 n21 n31 e1 g2 g3 g1 _
  repeat walk_at "e"
  intro t1 ft1
  repeat walk_at "e"
  have hN : (((Builtin.Int.intBits (a : Int) : Int) + (n : Int) - 1).fdiv n) = (((Builtin.Int.intBits a + n - 1) / n : Nat) : Int) := by
    rw [Int.fdiv_eq_ediv_of_nonneg _ (by walk_at "ar"), Int.natCast_ediv]
    congr 1
    walk_at "ar"
  refine bin_div (show (n : Int) ≠ 0 by walk_at "ar") (PyProof.noPylong_small (by walk_at "ar")) ?_
  rw [hN]
  have hbits : a < 2 ^ (Builtin.Int.intBits a) := by have := (intBits_le_iff (x := (a : Int)) (m := Builtin.Int.intBits a)).mp (Nat.le_refl _); simpa using this
  have hfit : a < (2 ^ n) ^ ((Builtin.Int.intBits a + n - 1) / n) := by
    refine Nat.lt_of_lt_of_le hbits ?_
    rw [← Nat.pow_mul]
    refine Nat.pow_le_pow_right (by decide) ?_
    have := Nat.lt_mul_div_succ (Builtin.Int.intBits a + n - 1) hn
    rw [Nat.mul_add, Nat.mul_one] at this
    walk_at "ar"
  have hNle : (Builtin.Int.intBits a + n - 1) / n ≤ 11000 := Nat.le_trans (Nat.div_le_self _ _) (by walk_at "ar")
  have hzero : a = 0 → (Builtin.Int.intBits a + n - 1) / n = 0 := by
    rintro rfl
    exact Nat.div_eq_of_lt (by show 0 + n - 1 < n; walk_at "ar")
  generalize hNN : (Builtin.Int.intBits a + n - 1) / n = N at h hN hfit hNle hzero
  refine bin_mul_list (upd_self _ _ _) (by simp; walk_at "ar") (by walk_at "ar") (by walk_at "ar") ?_
  intro l fl
  obtain ⟨nl1, fl⟩ := upd_none fl
  repeat walk_at "e"
  refine ex_def' ok W.t1 rfl rfl rfl rfl rfl rfl rfl rfl rfl ?_
  intro d hdd
  have inner : ∀ (k : Nat) {A : Around} {E : CHeap → Prop} {H : CHeap} {Q : CV → CHeap → Prop} (x L R : Nat) (xs : List CV), Room A (k + 1) → L < R → R - L ≤ 2 ^ k → R ≤ xs.length → xs.length ≤ 11000 → x < (2 ^ n) ^ (R - L) →
      H c1 = some (.cell (some (.int n))) → H c2 = some (.cell (some (.clo d [(Str.ofString "n", c1), (Str.ofString "inner", c2), (Str.ofString "a_digits", c3)]))) → H c3 = some (.cell (some (.ref l))) → H l = some (.list xs) →
      (∀ H', (∀ b, b ≠ l → H' b = H b) → H' l = some (.list (xs.take L ++ nums (spread (2 ^ n) x (R - L)) ++ xs.drop R)) → Q .none H') → Cl X A E (.clo d [(Str.ofString "n", c1), (Str.ofString "inner", c2), (Str.ofString "a_digits", c3)]) [.int x, .int L, .int R] Q H := by
    clear h ok
    have leaf : ∀ {A : Around} {E : CHeap → Prop} {H : CHeap} {Q : CV → CHeap → Prop} (x L : Nat) (xs : List CV), Room A 1 → L + 1 ≤ xs.length → xs.length ≤ 11000 → x < 2 ^ n →
        H c3 = some (.cell (some (.ref l))) → H l = some (.list xs) → (∀ H', (∀ b, b ≠ l → H' b = H b) → H' l = some (.list (xs.take L ++ nums [x] ++ xs.drop (L + 1))) → Q .none H') → Cl X A E (.clo d [(Str.ofString "n", c1), (Str.ofString "inner", c2), (Str.ofString "a_digits", c3)]) [.int x, .int L, .int ((L + 1 : Nat) : Int)] Q H := by
      intro A E H Q x L xs ro hR hz hx k3 kl h
      have hd0 := hdd
      subst hd0
      refine cl_clo (n := 0) (ns := [Str.ofString "x", Str.ofString "L", Str.ofString "R"]) ro rfl (by decide) (fun _ _ _ _ => len3 fun _ _ _ => rfl) (by decide) (by decide) rfl rfl rfl ?_
      intro A' E' env c ro' ok hL
      repeat walk_at "e"
      refine ⟨fun _ => ?_, fun e => absurd e (by simp)⟩
      repeat walk_at "e"
      refine set_list_item (by walk_at "hp") (by walk_at "ar") (by walk_at "ar") (by walk_at "ar") ?_
      repeat walk_at "e"
      refine h _ (fun b hb => upd_ne hb) ?_
      rw [upd_self]
      congr 2
      simp only [nums, List.map_cons, List.map_nil, Int.toNat_natCast]
      rw [List.set_eq_take_append_cons_drop, if_pos (by walk_at "ar")]
      simp
    intro k
    induction k with
    | zero =>
      intro A E H Q x L R xs ro hLR hk hR hz hx k1 k2 k3 kl h
      obtain rfl : R = L + 1 := by walk_at "ar"
      refine leaf x L xs ro hR hz (by simpa using hx) k3 kl fun H' a b => h H' a ?_
      rw [b, show L + 1 - L = 1 by walk_at "ar", spread_one _ _ (by simpa using hx)]
    | succ k ih =>
      intro A E H Q x L R xs ro hLR hk hR hz hx k1 k2 k3 kl h
      by_cases hs : R = L + 1
      · subst hs
        refine leaf x L xs (ro.le (by walk_at "ar")) hR hz (by simpa using hx) k3 kl fun H' a b => h H' a ?_
        rw [b, show L + 1 - L = 1 by walk_at "ar", spread_one _ _ (by simpa using hx)]
      · have hd0 := hdd
        subst hd0
        refine cl_clo (n := k + 1) (ns := [Str.ofString "x", Str.ofString "L", Str.ofString "R"]) ro rfl (by decide) (fun _ _ _ _ => len3 fun _ _ _ => rfl) (by decide) (by decide) rfl rfl rfl ?_
        intro A' E' env c ro' ok hL
        repeat walk_at "e"
        refine ⟨fun e => absurd e (by simp; walk_at "ar"), fun _ => ?_⟩
        repeat walk_at "e"
        refine bin_shr (by decide) ?_
        have hm : ((L : Int) + (R : Int)).fdiv (2 ^ (1 : Int).toNat) = (((L + R) / 2 : Nat) : Int) := by
          rw [Int.fdiv_eq_ediv_of_nonneg _ (by decide)]; simp
        rw [hm]
        have hm1 : L < (L + R) / 2 := by walk_at "ar"
        have hm2 : (L + R) / 2 < R := by walk_at "ar"
        have hm3 : (L + R) / 2 - L ≤ 2 ^ k := by rw [Nat.pow_succ] at hk; walk_at "ar"
        have hm4 : R - (L + R) / 2 ≤ 2 ^ k := by rw [Nat.pow_succ] at hk; walk_at "ar"
        generalize hmid : (L + R) / 2 = mid at hm hm1 hm2 hm3 hm4
        repeat walk_at "e"
        refine bin_mul (IntMulOk.of_right (intBits_le_iff.mpr (by simp; exact Nat.lt_of_le_of_lt hn2 (by decide)))) ?_
        have hsh : ((mid : Int) - (L : Int)) * (n : Int) = ((n * (mid - L) : Nat) : Int) := by
          rw [Int.natCast_mul, Int.mul_comm]; congr 1; walk_at "ar"
        rw [hsh]
        generalize hS : n * (mid - L) = S
        have hpow : (2 ^ n) ^ (mid - L) = 2 ^ S := by rw [← Nat.pow_mul, hS]
        repeat walk_at "e"
        refine bin_shr (by walk_at "ar") ?_
        have hup : (x : Int).fdiv (2 ^ (S : Int).toNat) = ((x / 2 ^ S : Nat) : Int) := by
          rw [Int.fdiv_eq_ediv_of_nonneg _ (by exact_mod_cast Nat.zero_le _), Int.toNat_natCast]; norm_cast
        rw [hup]
        repeat walk_at "e"
        refine bin_shl (by walk_at "ar") ?_ ?_
        · have q1 : Builtin.Int.intBits ((x / 2 ^ S : Nat) : Int) ≤ n * (R - L) := intBits_le_iff.mpr (by
            simp only [Int.natAbs_natCast]
            refine Nat.lt_of_le_of_lt (Nat.div_le_self _ _) ?_
            rw [Nat.pow_mul]; exact hx)
          have q2 : n * (R - L) ≤ 1000 * 11000 := Nat.mul_le_mul hn2 (by walk_at "ar")
          have q3 : S ≤ 1000 * 11000 := by rw [← hS]; exact Nat.mul_le_mul hn2 (by walk_at "ar")
          have : (Builtin.Int.intBits ((x / 2 ^ S : Nat) : Int) : Int) + (S : Int) ≤ 22000000 := by walk_at "ar"
          exact Int.le_trans this (by decide)
        have hsl : ((x / 2 ^ S : Nat) : Int) * 2 ^ (S : Int).toNat = ((x / 2 ^ S * 2 ^ S : Nat) : Int) := by
          rw [Int.toNat_natCast]; norm_cast
        rw [hsl]
        refine bin_xor ?_
        rw [xor_low]
        repeat walk_at "e"
        have hlo : x % 2 ^ S < (2 ^ n) ^ (mid - L) := by rw [hpow]; exact Nat.mod_lt _ (Nat.two_pow_pos _)
        have hhi : x / 2 ^ S < (2 ^ n) ^ (R - mid) := by
          rw [Nat.div_lt_iff_lt_mul (Nat.two_pow_pos _), ← hpow, ← Nat.pow_add, show R - mid + (mid - L) = R - L by walk_at "ar"]; exact hx
        refine ih (x % 2 ^ S) L mid xs ro' hm1 hm3 (by walk_at "ar") hz hlo k1 k2 k3 kl ?_
        intro H2 b2 l2
        have k1' : H2 c1 = some (.cell (some (.int n))) := (b2 _ (ne_of fl g1)).trans k1
        have k2' := (b2 _ (ne_of fl g2)).trans k2
        have k3' := (b2 _ (ne_of fl g3)).trans k3
        repeat walk_at "e"
        refine ih (x / 2 ^ S) mid R _ ro' hm2 hm4 ?_ ?_ hhi k1' k2' k3' l2 ?_
        · simp only [List.length_append, List.length_take, List.length_drop, nums_len, spread_len]; walk_at "ar"
        · simp only [List.length_append, List.length_take, List.length_drop, nums_len, spread_len]; walk_at "ar"
        intro H3 b3 l3
        repeat walk_at "e"
        refine h H3 (fun b hb => (b3 b hb).trans (b2 b hb)) ?_
        rw [l3]
        congr 2
        rw [show R - L = (mid - L) + (R - mid) by walk_at "ar", spread_add _ (Nat.two_pow_pos _), hpow, nums_app]
        have e1 : (List.take L xs ++ nums (spread (2 ^ n) (x % 2 ^ S) (mid - L)) ++ List.drop mid xs).take mid = List.take L xs ++ nums (spread (2 ^ n) (x % 2 ^ S) (mid - L)) :=
          List.take_left' (by simp only [List.length_append, List.length_take, nums_len, spread_len]; walk_at "ar")
        have e2 : (List.take L xs ++ nums (spread (2 ^ n) (x % 2 ^ S) (mid - L)) ++ List.drop mid xs).drop R = xs.drop R := by
          rw [List.drop_append]
          have z1 : (List.take L xs ++ nums (spread (2 ^ n) (x % 2 ^ S) (mid - L))).length = mid := by simp only [List.length_append, List.length_take, nums_len, spread_len]; walk_at "ar"
          rw [z1, List.drop_eq_nil_of_le (by walk_at "ar"), List.nil_append, List.drop_drop, show mid + (R - mid) = R by walk_at "ar"]
        rw [e1, e2]
        simp
  have hfl := fl
  repeat walk_at "e"
  have hflat : (List.replicate (N : Int).toNat [CV.int 0]).flatten = List.replicate N (CV.int 0) := by simp
  refine ⟨fun hc => ?_, fun hc => ?_⟩
  · have ha0 : a ≠ 0 := by rintro rfl; exact absurd hc (by decide)
    have hN1 : 1 ≤ N := by
      rcases Nat.eq_zero_or_pos N with q | q
      · rw [q] at hfit; simp at hfit; walk_at "ar"
      · exact q
    repeat walk_at "e"
    refine cl_len (by walk_at "hp") (by rw [hflat, List.length_replicate]; walk_at "ar") ?_
    rw [hflat, List.length_replicate]
    repeat walk_at "e"
    refine inner 14 a 0 N (List.replicate N (CV.int 0)) (ro'.le (by walk_at "ar")) (by walk_at "ar") (by simp; walk_at "ar") (by rw [List.length_replicate]; exact Nat.le_refl _) (by rw [List.length_replicate]; exact hNle) (by simpa using hfit) (by walk_at "hp") (by walk_at "hp") (by walk_at "hp") (by walk_at "hp") ?_
    intro H' b' l'
    have k3' := (b' c3 (by walk_at "ne")).trans (show _ = some (CO.cell (some (.ref l))) by walk_at "hp")
    repeat walk_at "e"
    refine h l H' (e1.nay fl) ?_ ?_
    · intro b o hb
      rw [b' b (by rintro rfl; rw [e1.nay fl] at hb; cases hb)]
      exact (((e1.put (e1.nay ft1)).put (e1.nay fl)).put f3).put f2 b o hb
    · rw [l']
      simp
  · have ha0 : a = 0 := by
      rcases Nat.eq_zero_or_pos a with q | q
      · exact q
      · exact absurd hc (by simp; walk_at "ar")
    have hN0 := hzero ha0
    repeat walk_at "e"
    refine h l _ (e1.nay fl) ((((e1.put (e1.nay ft1)).put (e1.nay fl)).put f3).put f2) ?_
    have : nums (spread (2 ^ n) a N) = (List.replicate (N : Int).toNat [CV.int 0]).flatten := by rw [hflat, hN0]; rfl
    rw [this]
    walk_at "hp"
end
section
set_option maxRecDepth 100000
set_option maxHeartbeats 4000000
theorem d2i_spec {X : Wd} {P : Params} (W : W01 X P) {A : Around} {E : CHeap → Prop} {H : CHeap} {Q : CV → CHeap → Prop} {l : Addr} {ds : List Nat} {n : Nat} (ro : Room A 30) (hn : 0 < n) (hn2 : n ≤ 1000) (hl : H l = some (.list (nums ds))) (hz : ds.length ≤ 11000) (hds : ∀ d ∈ ds, d < 2 ^ n)
    (h : ∀ H', Ext H H' → Q (.int (undig (2 ^ n) ds)) H') : Cl X A E (.glob 42) [.ref l, .int n] Q H := by
  have hK := W.hK
  refine cl_defC (ns := [Str.ofString "digits", Str.ofString "n"]) (n := 29) (by rw [hK]; rfl) (by rw [hK]; rfl) rfl (len2 fun _ _ => rfl) rfl (by decide) rfl (by decide) (by decide) (by decide) rfl rfl rfl rfl rfl rfl ro ?_
  intro A' E' env cs ro' ok hcs hfr hne hL
  obtain ⟨c2, c1, c3, rfl⟩ := keys3 hcs
  refine with_cells3 (fun H1 => ExSs X A' E' env _ _ _ H1) hfr hne ?_
  intro H1 f2 f1 f3 n21 n23 n13 e1 g2 g1 g3 _
  repeat walk_at "e"
  refine ex_def' ok W.t2 rfl rfl rfl rfl rfl rfl rfl rfl rfl ?_
  intro d hdd
  have inner : ∀ (k : Nat) {A : Around} {E : CHeap → Prop} {H : CHeap} {Q : CV → CHeap → Prop} (L R : Nat), Room A (k + 1) → L < R → R - L ≤ 2 ^ k → R ≤ ds.length →
      H c1 = some (.cell (some (.int n))) → H c2 = some (.cell (some (.clo d [(Str.ofString "n", c1), (Str.ofString "inner", c2), (Str.ofString "digits", c3)]))) → H c3 = some (.cell (some (.ref l))) → H l = some (.list (nums ds)) →
      Q (.int (undig (2 ^ n) ((ds.drop L).take (R - L)))) H → Cl X A E (.clo d [(Str.ofString "n", c1), (Str.ofString "inner", c2), (Str.ofString "digits", c3)]) [.int L, .int R] Q H := by
    clear h ok
    have leaf : ∀ {A : Around} {E : CHeap → Prop} {H : CHeap} {Q : CV → CHeap → Prop} (L R : Nat), Room A 1 → R = L + 1 → R ≤ ds.length →
        H c3 = some (.cell (some (.ref l))) → H l = some (.list (nums ds)) → Q (.int (undig (2 ^ n) ((ds.drop L).take (R - L)))) H → Cl X A E (.clo d [(Str.ofString "n", c1), (Str.ofString "inner", c2), (Str.ofString "digits", c3)]) [.int L, .int R] Q H := by
      intro A E H Q L R ro hLR hR k3 kl h
      have hd0 := hdd
      subst hd0
      refine cl_clo (n := 0) (ns := [Str.ofString "L", Str.ofString "R"]) ro rfl (by decide) (fun _ _ _ _ => len2 fun _ _ => rfl) (by decide) (by decide) rfl rfl rfl ?_
      intro A' E' env c ro' ok hL
      repeat walk_at "e"
      refine ⟨fun _ => ?_, fun e => absurd e (by simp; walk_at "ar")⟩
      repeat walk_at "e"
      have hg : ds[L]? = some (ds[L]'(by walk_at "ar")) := List.getElem?_eq_getElem (by walk_at "ar")
      refine sub_list (k := L) (V := .int (ds[L]'(by walk_at "ar") : Nat)) kl (.inl ⟨by walk_at "ar", by simp⟩) (by rw [nums_get, hg]; rfl) (by rw [nums_len]; walk_at "ar") (fun _ _ => rfl) ?_
      have e : (ds.drop L).take (R - L) = [ds[L]'(by walk_at "ar")] := by
        rw [show R - L = 1 by walk_at "ar", List.drop_eq_getElem_cons (by walk_at "ar")]; rfl
      rw [e] at h
      simpa [undig, retOf] using h
    intro k
    induction k with
    | zero =>
      intro A E H Q L R ro hLR hk hR k1 k2 k3 kl h
      exact leaf L R ro (by walk_at "ar") hR k3 kl h
    | succ k ih =>
      intro A E H Q L R ro hLR hk hR k1 k2 k3 kl h
      by_cases hs : R = L + 1
      · exact leaf L R (ro.le (by walk_at "ar")) hs hR k3 kl h
      · have hd0 := hdd
        subst hd0
        refine cl_clo (n := k + 1) (ns := [Str.ofString "L", Str.ofString "R"]) ro rfl (by decide) (fun _ _ _ _ => len2 fun _ _ => rfl) (by decide) (by decide) rfl rfl rfl ?_
        intro A' E' env c ro' ok hL
        repeat walk_at "e"
        refine ⟨fun e => absurd e (by simp; walk_at "ar"), fun _ => ?_⟩
        repeat walk_at "e"
        refine bin_shr (by decide) ?_
        have hm : ((L : Int) + (R : Int)).fdiv (2 ^ (1 : Int).toNat) = (((L + R) / 2 : Nat) : Int) := by
          rw [Int.fdiv_eq_ediv_of_nonneg _ (by decide)]; simp
        rw [hm]
        have hm1 : L < (L + R) / 2 := by walk_at "ar"
        have hm2 : (L + R) / 2 < R := by walk_at "ar"
        have hm3 : (L + R) / 2 - L ≤ 2 ^ k := by rw [Nat.pow_succ] at hk; walk_at "ar"
        have hm4 : R - (L + R) / 2 ≤ 2 ^ k := by rw [Nat.pow_succ] at hk; walk_at "ar"
        generalize hmid : (L + R) / 2 = mid at hm hm1 hm2 hm3 hm4
        repeat walk_at "e"
        refine bin_mul (IntMulOk.of_right (intBits_le_iff.mpr (by simp; exact Nat.lt_of_le_of_lt hn2 (by decide)))) ?_
        have hsh : ((mid : Int) - (L : Int)) * (n : Int) = ((n * (mid - L) : Nat) : Int) := by
          rw [Int.natCast_mul, Int.mul_comm]; congr 1; walk_at "ar"
        rw [hsh]
        generalize hS : n * (mid - L) = S
        have hpow : (2 ^ n) ^ (mid - L) = 2 ^ S := by rw [← Nat.pow_mul, hS]
        repeat walk_at "e"
        refine ih mid R ro' hm2 hm4 hR k1 k2 k3 kl ?_
        repeat walk_at "e"
        have hlt : undig (2 ^ n) (List.take (R - mid) (List.drop mid ds)) < (2 ^ n) ^ (R - mid) := by
          have := undig_lt (2 ^ n) (List.take (R - mid) (List.drop mid ds)) fun x hx => hds x (List.mem_of_mem_drop (List.mem_of_mem_take hx))
          rwa [List.length_take, List.length_drop, Nat.min_eq_left (by walk_at "ar")] at this
        refine bin_shl (by walk_at "ar") ?_ ?_
        · have q1 : Builtin.Int.intBits ((undig (2 ^ n) (List.take (R - mid) (List.drop mid ds)) : Nat) : Int) ≤ n * (R - mid) := intBits_le_iff.mpr (by
            simp only [Int.natAbs_natCast]; rw [Nat.pow_mul]; exact hlt)
          have q2 : n * (R - mid) ≤ 1000 * 11000 := Nat.mul_le_mul hn2 (by walk_at "ar")
          have q3 : S ≤ 1000 * 11000 := by rw [← hS]; exact Nat.mul_le_mul hn2 (by walk_at "ar")
          have : (Builtin.Int.intBits ((undig (2 ^ n) (List.take (R - mid) (List.drop mid ds)) : Nat) : Int) : Int) + (S : Int) ≤ 22000000 := by walk_at "ar"
          exact Int.le_trans this (by decide)
        repeat walk_at "e"
        refine ih L mid ro' hm1 hm3 (by walk_at "ar") k1 k2 k3 kl ?_
        repeat walk_at "e"
        have e : undig (2 ^ n) (List.take (R - L) (List.drop L ds)) = undig (2 ^ n) (List.take (R - mid) (List.drop mid ds)) * 2 ^ S + undig (2 ^ n) (List.take (mid - L) (List.drop L ds)) := by
          have : List.take (R - L) (List.drop L ds) = List.take (mid - L) (List.drop L ds) ++ List.take (R - mid) (List.drop mid ds) := by
            rw [show R - L = (mid - L) + (R - mid) by walk_at "ar", List.take_add, List.drop_drop, show L + (mid - L) = mid by walk_at "ar"]
          rw [this, undig_app, List.length_take, List.length_drop, Nat.min_eq_left (by walk_at "ar"), hpow, Nat.add_comm, Nat.mul_comm]
        rw [e] at h
        have e2 : ((undig (2 ^ n) (List.take (R - mid) (List.drop mid ds)) : Nat) : Int) * 2 ^ (S : Int).toNat + ((undig (2 ^ n) (List.take (mid - L) (List.drop L ds)) : Nat) : Int) = ((undig (2 ^ n) (List.take (R - mid) (List.drop mid ds)) * 2 ^ S + undig (2 ^ n) (List.take (mid - L) (List.drop L ds)) : Nat) : Int) := by
          rw [Int.toNat_natCast]; norm_cast
        rw [e2]
        exact h
  have hl1 := e1 _ _ hl
  have nl2 : l ≠ c2 := ne_of f2 hl
  repeat walk_at "e"
  refine tr_list (by walk_at "hp") (by rw [nums_len]; walk_at "ar") ?_
  refine ⟨fun hc => ?_, fun hc => ?_⟩
  · have h0 : 0 < ds.length := by
      cases ds with
      | nil => exact absurd hc (by decide)
      | cons => simp
    repeat walk_at "e"
    refine cl_len (by walk_at "hp") (by rw [nums_len]; walk_at "ar") ?_
    rw [nums_len]
    repeat walk_at "e"
    refine inner 14 0 ds.length (ro'.le (by walk_at "ar")) h0 (by simp; walk_at "ar") (Nat.le_refl _) (by walk_at "hp") (by walk_at "hp") (by walk_at "hp") (by walk_at "hp") ?_
    have := h _ (e1.put (x := c2) (o := (CO.cell (some (CV.clo d [(Str.ofString "n", c1), (Str.ofString "inner", c2), (Str.ofString "digits", c3)])))) f2)
    simpa [retOf] using this
  · have h0 : ds = [] := by
      cases ds with
      | nil => rfl
      | cons => exact absurd hc (by simp [nums])
    repeat walk_at "e"
    have := h _ (e1.put (x := c2) (o := (CO.cell (some (CV.clo d [(Str.ofString "n", c1), (Str.ofString "inner", c2), (Str.ofString "digits", c3)])))) f2)
    rw [h0] at this
    exact this
end
section
set_option maxRecDepth 100000
set_option maxHeartbeats 4000000
theorem div2_spec {X : Wd} {P : Params} (W : W01 X P) {A : Around} {E : CHeap → Prop} {H : CHeap} {Q : CV → CHeap → Prop} {a b n : Int} (ro : Room A 3) (hb : b ≠ 0) (hp : Builtin.divisionGoesByPylong a b = false) (hn : (Builtin.Int.intBits a : Int) - n ≤ 4000)
    (h : Q (.tuple [.int (a.fdiv b), .int (a.fmod b)]) H) : Cl X A E (.glob 21) [.int a, .int b, .int n] Q H := by
  have hK := W.hK
  refine cl_def (ns := [Str.ofString "a", Str.ofString "b", Str.ofString "n"]) (n := 2) (by rw [hK]; rfl) (by rw [hK]; rfl) rfl (len3 fun _ _ _ => rfl) rfl (by decide) (by decide) (by decide) rfl rfl rfl rfl rfl rfl ro ?_
  intro A' E' env ro' ok hL
  repeat walk_at "e"
  refine ⟨fun _ => ?_, fun e => absurd e (by simpa using hn)⟩
  repeat walk_at "e"
  exact cl_divmod hb hp h
end
section
set_option maxRecDepth 100000
set_option maxHeartbeats 4000000
theorem dmp_spec {X : Wd} {P : Params} (W : W01 X P) {A : Around} {E : CHeap → Prop} {H : CHeap} {Q : CV → CHeap → Prop} {a b : Nat} (ro : Room A 31) (hb : 0 < b) (hb2 : Builtin.Int.intBits b ≤ 1000) (ha : Builtin.Int.intBits a ≤ 10000)
    (h : ∀ H', Ext H H' → Q (.tuple [.int ((a / b : Nat) : Int), .int ((a % b : Nat) : Int)]) H') : Cl X A E (.glob 49) [.int a, .int b] Q H := by
  have hK := W.hK
  refine cl_def (ns := [Str.ofString "a", Str.ofString "b"]) (n := 30) (by rw [hK]; rfl) (by rw [hK]; rfl) rfl (len2 fun _ _ => rfl) rfl (by decide) (by decide) (by decide) rfl rfl rfl rfl rfl rfl ro ?_
  intro A' E' env ro' ok hL
  have hn : 0 < Builtin.Int.intBits b := by
    unfold Builtin.Int.intBits
    rw [if_neg (by simp; walk_at "ar")]; walk_at "ar"
  have hbl : b < 2 ^ Builtin.Int.intBits b := by have := (intBits_le_iff (x := (b : Int)) (m := Builtin.Int.intBits b)).mp (Nat.le_refl _); simpa using this
  generalize hnn : Builtin.Int.intBits (b : Int) = n at hn hb2 hbl
  repeat walk_at "e"
  rw [hnn]
  repeat walk_at "e"
  refine i2d_spec W ro' hn hb2 ha ?_
  intro l H1 fl e1 hl
  repeat walk_at "e"
  intro qd fq
  repeat walk_at "e"
  generalize hNN : (Builtin.Int.intBits (a : Int) + n - 1) / n = N at hl
  have hfit : a < (2 ^ n) ^ N := by
    have hbits : a < 2 ^ (Builtin.Int.intBits a) := by have := (intBits_le_iff (x := (a : Int)) (m := Builtin.Int.intBits a)).mp (Nat.le_refl _); simpa using this
    refine Nat.lt_of_lt_of_le hbits ?_
    rw [← Nat.pow_mul, ← hNN]
    refine Nat.pow_le_pow_right (by decide) ?_
    have := Nat.lt_mul_div_succ (Builtin.Int.intBits a + n - 1) hn
    rw [Nat.mul_add, Nat.mul_one] at this
    walk_at "ar"
  have hNle : N ≤ 11000 := by rw [← hNN]; exact Nat.le_trans (Nat.div_le_self _ _) (by walk_at "ar")
  have hDlen : (spread (2 ^ n) a N).length = N := spread_len _ _ _
  have hDlt := spread_lt (2 ^ n) (Nat.two_pow_pos n) N a
  have hDv : undig (2 ^ n) (spread (2 ^ n) a N) = a := by rw [undig_spread _ (Nat.two_pow_pos n), Nat.mod_eq_of_lt hfit]
  generalize hD : spread (2 ^ n) a N = D at hl hDlen hDlt hDv
  have nql : l ≠ qd := ne_of fq hl
  refine ex_for2 (fun V j m H2 => ∃ it qs r, V = .ref it ∧ H2 it = some (.rev l j) ∧ H2 l = some (.list (nums D)) ∧ H2 qd = some (.list (nums qs)) ∧ it ≠ qd ∧ it ≠ l ∧ H it = none ∧ Ext H H2 ∧
    m.lookup (Str.ofString "n") = some (.int n) ∧ m.lookup (Str.ofString "b") = some (.int b) ∧ m.lookup (Str.ofString "r") = some (.int (r : Nat)) ∧ m.lookup (Str.ofString "q_digits") = some (.ref qd) ∧
    j ≤ N ∧ r < b ∧ qs.length = N - j ∧ (∀ q ∈ qs, q < 2 ^ n) ∧ undig (2 ^ n) (D.drop j) = undig (2 ^ n) qs.reverse * b + r) ?_ ?_ (fun _ => rfl)
  · repeat walk_at "e"
    refine cl_reversed (by walk_at "hp") ?_
    intro it fit
    obtain ⟨ni1, fit⟩ := upd_none fit
    rw [nums_len, hDlen]
    refine ⟨self_rev (upd_self _ _ _), N, it, [], 0, rfl, upd_self _ _ _, by walk_at "hp", by walk_at "hp", ni1, Ne.symm (ne_of fit hl), e1.nay fit, (e1.put (e1.nay fq)).put (e1.nay fit), by walk_at "lk", by walk_at "lk", by walk_at "lk", by walk_at "lk", Nat.le_refl _, hb, by simp, by simp, ?_⟩
    rw [List.drop_eq_nil_of_le (by walk_at "ar")]; simp [undig]
  · rintro E2 V j m2 H2 ⟨it, qs, r, rfl, hit, hl2, hq2, ni1, ni2, fit, e2, m1, m3, m4, m5, hj, hr, hql, hqlt, hval⟩ hLL
    refine next_rev ro'.hd hit hl2 (by rw [nums_len, hDlen]; exact hj) ?_ ?_
    · intro hj0
      subst hj0
      have hv : a = undig (2 ^ n) qs.reverse * b + r := by rw [← hval, List.drop_zero, hDv]
      have hq : undig (2 ^ n) qs.reverse = a / b := by
        rw [hv, Nat.add_comm, Nat.mul_comm, Nat.add_mul_div_left _ _ hb, Nat.div_eq_of_lt hr, Nat.zero_add]
      have hr' : r = a % b := by rw [hv, Nat.add_comm, Nat.add_mul_mod_self_right, Nat.mod_eq_of_lt hr]
      have hqz : (nums qs).length ≤ sizeLine := by rw [nums_len, hql]; exact Nat.le_trans (Nat.sub_le _ _) (Nat.le_trans hNle (by decide))
      repeat walk_at "e"
      refine cl_reverse (by walk_at "hp") hqz ?_
      have hrev : (nums qs).reverse = nums qs.reverse := by unfold nums; rw [List.map_reverse]
      rw [hrev]
      repeat walk_at "e"
      refine d2i_spec W ro' hn hb2 (upd_self _ _ _) (by rw [List.length_reverse, hql]; walk_at "ar") (fun d hd => hqlt d (List.mem_reverse.mp hd)) ?_
      intro H3 e3
      repeat walk_at "e"
      rw [hq, hr']
      exact h H3 ((e2.put (e1.nay fq)).trans e3)
    · intro j' V hjj hV
      subst hjj
      have hg : D[j']? = some (D[j']'(by walk_at "ar")) := List.getElem?_eq_getElem (by walk_at "ar")
      rw [nums_get, hg] at hV
      simp only [Option.map_some, Option.some.injEq] at hV
      subst hV
      generalize hd : D[j']'(by walk_at "ar") = d at hg
      have hdlt : d < 2 ^ n := hDlt d (List.mem_of_getElem? hg)
      repeat walk_at "e"
      refine bin_shl (by walk_at "ar") ?_ ?_
      · have q1 : Builtin.Int.intBits ((r : Nat) : Int) ≤ n := intBits_le_iff.mpr (by simp only [Int.natAbs_natCast]; walk_at "ar")
        have : (Builtin.Int.intBits ((r : Nat) : Int) : Int) + (n : Int) ≤ 3000 := by walk_at "ar"
        exact Int.le_trans this (by decide)
      repeat walk_at "e"
      have hx : ((r : Nat) : Int) * 2 ^ (n : Int).toNat + (d : Int) = ((r * 2 ^ n + d : Nat) : Int) := by rw [Int.toNat_natCast]; norm_cast
      rw [hx]
      have hxlt : r * 2 ^ n + d < b * 2 ^ n := by
        calc r * 2 ^ n + d < r * 2 ^ n + 2 ^ n := by walk_at "ar"
          _ = (r + 1) * 2 ^ n := by rw [Nat.add_mul, Nat.one_mul]
          _ ≤ b * 2 ^ n := Nat.mul_le_mul_right _ hr
      generalize hxx : r * 2 ^ n + d = x at hxlt
      refine div2_spec W (ro'.le (by walk_at "ar")) (by walk_at "ar") (PyProof.noPylong_of_log2 ?_) ?_ ?_
      · simp only [Int.natAbs_natCast]
        exact Nat.lt_of_lt_of_le ((Nat.log2_lt (by walk_at "ar")).mpr hbl) (by walk_at "ar")
      · have q1 : Builtin.Int.intBits ((x : Nat) : Int) ≤ n + n := intBits_le_iff.mpr (by
          simp only [Int.natAbs_natCast]
          rw [Nat.pow_add]
          exact Nat.lt_of_lt_of_le hxlt (Nat.mul_le_mul_right _ (Nat.le_of_lt hbl)))
        walk_at "ar"
      have hq1 : (x : Int).fdiv b = ((x / b : Nat) : Int) := by rw [Int.fdiv_eq_ediv_of_nonneg _ (by walk_at "ar")]; norm_cast
      have hq2 : (x : Int).fmod b = ((x % b : Nat) : Int) := by rw [Int.fmod_eq_emod_of_nonneg _ (by walk_at "ar")]; norm_cast
      rw [hq1, hq2]
      repeat walk_at "e"
      have hqz : (nums qs).length ≤ sizeLine := by rw [nums_len, hql]; exact Nat.le_trans (Nat.sub_le _ _) (Nat.le_trans hNle (by decide))
      refine cl_append (by walk_at "hp") hqz ?_
      repeat walk_at "e"
      refine ⟨j', by walk_at "ar", it, qs ++ [x / b], x % b, rfl, by walk_at "hp", by walk_at "hp", by rw [nums_app]; exact upd_self _ _ _, ni1, ni2, fit, (e2.put fit).put (e1.nay fq), by walk_at "lk", by walk_at "lk", by walk_at "lk", by walk_at "lk", by walk_at "ar", Nat.mod_lt _ hb, by simp; walk_at "ar", ?_, ?_⟩
      · intro q hq
        rcases List.mem_append.mp hq with hq | hq
        · exact hqlt q hq
        · rw [List.mem_singleton.mp hq]
          exact (Nat.div_lt_iff_lt_mul hb).mpr (by rw [Nat.mul_comm]; exact hxlt)
      · have hdrop : D.drop j' = d :: D.drop (j' + 1) := by rw [List.drop_eq_getElem_cons (by walk_at "ar"), hd]
        rw [hdrop, undig_cons, hval, List.reverse_append, List.reverse_cons, List.reverse_nil, List.nil_append, List.cons_append, List.nil_append, undig_cons]
        have hdm := Nat.div_add_mod x b
        have : d + 2 ^ n * (undig (2 ^ n) qs.reverse * b + r) = 2 ^ n * undig (2 ^ n) qs.reverse * b + x := by
          rw [Nat.mul_add, ← Nat.mul_assoc, ← hxx, Nat.mul_comm r]; walk_at "ar"
        rw [this, Nat.add_mul]
        have : b * (x / b) = x / b * b := Nat.mul_comm ..
        walk_at "ar"
end
section
set_option maxRecDepth 100000
set_option maxHeartbeats 4000000
theorem fdiv_neg1 (a : Int) (b : Int) (ha : a < 0) (hb : 0 < b) : -((-a - 1).fdiv b) - 1 = a.fdiv b ∧ b + (-((-a - 1).fmod b) - 1) = a.fmod b := by
  rw [Int.fdiv_eq_ediv_of_nonneg _ (by walk_at "ar"), Int.fdiv_eq_ediv_of_nonneg _ (by walk_at "ar"), Int.fmod_eq_emod_of_nonneg _ (by walk_at "ar"), Int.fmod_eq_emod_of_nonneg _ (by walk_at "ar")]
  have h1 := Int.mul_ediv_add_emod (-a - 1) b
  have h2 := Int.emod_nonneg (-a - 1) (show b ≠ 0 by walk_at "ar")
  have h3 := Int.emod_lt_of_pos (-a - 1) hb
  have key : a = (b - 1 - (-a - 1) % b) + b * (-((-a - 1) / b) - 1) := by
    rw [Int.mul_sub, Int.mul_neg]; walk_at "ar"
  have q : a / b = -((-a - 1) / b) - 1 := by
    rw [key, Int.add_mul_ediv_left _ _ (by walk_at "ar"), Int.ediv_eq_zero_of_lt (by walk_at "ar") (by walk_at "ar"), Int.zero_add]
    rw [← key]
  have r : a % b = b - 1 - (-a - 1) % b := by
    have := Int.mul_ediv_add_emod a b
    rw [q] at this
    walk_at "ar"
  walk_at "ar"
theorem idm_spec1 {X : Wd} {P : Params} (W : W01 X P) {A : Around} {E : CHeap → Prop} {H : CHeap} {Q : CV → CHeap → Prop} {a b : Int} (ro : Room A 32) (h0 : 0 ≤ a) (hb : 0 < b) (hb2 : Builtin.Int.intBits b ≤ 1000) (ha : Builtin.Int.intBits a ≤ 10000)
    (h : ∀ H', Ext H H' → Q (.tuple [.int (a.fdiv b), .int (a.fmod b)]) H') : Cl X A E (.glob 56) [.int a, .int b] Q H := by
  have hK := W.hK
  refine cl_def (ns := [Str.ofString "a", Str.ofString "b"]) (n := 31) (by rw [hK]; rfl) (by rw [hK]; rfl) rfl (len2 fun _ _ => rfl) rfl (by decide) (by decide) (by decide) rfl rfl rfl rfl rfl rfl ro ?_
  intro A' E' env ro' ok hL
  repeat walk_at "e"
  refine ⟨fun e => absurd e (by simp; walk_at "ar"), fun _ => ?_⟩
  repeat walk_at "e"
  refine ⟨fun e => absurd e (by simp; walk_at "ar"), fun _ => ?_⟩
  repeat walk_at "e"
  refine ⟨fun e => absurd e (by simp; walk_at "ar"), fun _ => ?_⟩
  repeat walk_at "e"
  obtain ⟨x, rfl⟩ := Int.eq_ofNat_of_zero_le h0
  obtain ⟨y, rfl⟩ := Int.eq_ofNat_of_zero_le (Int.le_of_lt hb)
  refine dmp_spec W ro' (by walk_at "ar") hb2 ha ?_
  intro H' e'
  have := h H' e'
  rw [Int.fdiv_eq_ediv_of_nonneg _ (by walk_at "ar"), Int.fmod_eq_emod_of_nonneg _ (by walk_at "ar")] at this
  exact this
theorem idm_spec2 {X : Wd} {P : Params} (W : W01 X P) {A : Around} {E : CHeap → Prop} {H : CHeap} {Q : CV → CHeap → Prop} {a b : Int} (ro : Room A 33) (hb : 0 < b) (hb2 : Builtin.Int.intBits b ≤ 1000) (ha : Builtin.Int.intBits a ≤ 9000)
    (h : ∀ H', Ext H H' → Q (.tuple [.int (a.fdiv b), .int (a.fmod b)]) H') : Cl X A E (.glob 56) [.int a, .int b] Q H := by
  by_cases h0 : 0 ≤ a
  · exact idm_spec1 W (ro.le (by walk_at "ar")) h0 hb hb2 (by walk_at "ar") h
  have hK := W.hK
  refine cl_def (ns := [Str.ofString "a", Str.ofString "b"]) (n := 32) (by rw [hK]; rfl) (by rw [hK]; rfl) rfl (len2 fun _ _ => rfl) rfl (by decide) (by decide) (by decide) rfl rfl rfl rfl rfl rfl ro ?_
  intro A' E' env ro' ok hL
  repeat walk_at "e"
  refine ⟨fun e => absurd e (by simp; walk_at "ar"), fun _ => ?_⟩
  repeat walk_at "e"
  refine ⟨fun e => absurd e (by simp; walk_at "ar"), fun _ => ?_⟩
  repeat walk_at "e"
  refine ⟨fun _ => ?_, fun e => absurd e (by simp; walk_at "ar")⟩
  repeat walk_at "e"
  refine idm_spec1 W ro' (by walk_at "ar") hb hb2 ?_ ?_
  · have := intBits_le_iff.mp ha
    refine intBits_le_iff.mpr (Nat.lt_of_le_of_lt ?_ (Nat.lt_of_lt_of_le this (Nat.pow_le_pow_right (by decide) (by decide))))
    walk_at "ar"
  intro H' e'
  repeat walk_at "e"
  have := h H' e'
  obtain ⟨e1, e2⟩ := fdiv_neg1 a b (by walk_at "ar") hb
  rw [← e1, ← e2] at this
  exact this
theorem idm_spec {X : Wd} {P : Params} (W : W01 X P) {A : Around} {E : CHeap → Prop} {H : CHeap} {Q : CV → CHeap → Prop} {a b : Int} (ro : Room A 34) (hb : b ≠ 0) (hb2 : Builtin.Int.intBits b ≤ 1000) (ha : Builtin.Int.intBits a ≤ 9000)
    (h : ∀ H', Ext H H' → Q (.tuple [.int (a.fdiv b), .int (a.fmod b)]) H') : Cl X A E (.glob 56) [.int a, .int b] Q H := by
  by_cases h0 : 0 < b
  · exact idm_spec2 W (ro.le (by walk_at "ar")) h0 hb2 ha h
  have hK := W.hK
  refine cl_def (ns := [Str.ofString "a", Str.ofString "b"]) (n := 33) (by rw [hK]; rfl) (by rw [hK]; rfl) rfl (len2 fun _ _ => rfl) rfl (by decide) (by decide) (by decide) rfl rfl rfl rfl rfl rfl ro ?_
  intro A' E' env ro' ok hL
  repeat walk_at "e"
  refine ⟨fun e => absurd e (by simp; walk_at "ar"), fun _ => ?_⟩
  repeat walk_at "e"
  refine ⟨fun _ => ?_, fun e => absurd e (by simp; walk_at "ar")⟩
  repeat walk_at "e"
  refine idm_spec2 W ro' (by walk_at "ar") (intBits_neg_le hb2) (intBits_neg_le ha) ?_
  intro H' e'
  repeat walk_at "e"
  have := h H' e'
  have e1 : (-a).fdiv (-b) = a.fdiv b := Int.neg_fdiv_neg ..
  have e2 : -((-a).fmod (-b)) = a.fmod b := by
    rw [Int.fmod_def, Int.fmod_def, e1, Int.neg_mul]; walk_at "ar"
  rw [e1, e2]
  exact this
end
section
set_option maxRecDepth 100000
set_option maxHeartbeats 4000000
def wsS : Str := Str.ofString "\n\t\r "
def rF (ln : Int) (src : CV) (pl : Addr) : List (Str × CV) := [(Str.ofString "lineno", .int ln), (Str.ofString "instream", src), (Str.ofString "whitespace", .str wsS), (Str.ofString "pushback", .ref pl)]
def sF (pl : Addr) (give : CV) : List (Str × CV) := [(Str.ofString "lineno", .int 1), (Str.ofString "instream", .none), (Str.ofString "whitespace", .str wsS), (Str.ofString "pushback", .ref pl), (Str.ofString "read", give)]
def nl (l : List Nat) : Nat := l.count 10
def chS (l : List Nat) : Str := ⟨l.toArray⟩
structure Strm (X : Wd) (k : Nat) where
  S : List Nat → CHeap → Prop
  W : Addr → Prop
  Z : Addr → Prop
  give : CV
  call : ∀ {A : Around} {E : CHeap → Prop} {H : CHeap} {Q : CV → CHeap → Prop} {rest : List Nat}, Room A k → S rest H → (∀ H', ExtZ Z H H' → S rest.tail H' → Q (.str (chS (rest.take 1))) H') → Cl X A E give [.int 1] Q H
  stab : ∀ {rest : List Nat} {H H' : CHeap}, S rest H → (∀ b, W b → H' b = H b) → S rest H'
  live : ∀ {rest : List Nat} {H : CHeap} {b : Addr}, S rest H → W b → H b ≠ none
  zw : ∀ b, Z b → W b
  low : ∀ {rest : List Nat} {H : CHeap}, S rest H → ∀ c ∈ rest, c < 128
  ok : Callable X give
  nb : ∀ id, give ≠ .bi id
/-- a reader over such a stream -/
structure Rdr {X : Wd} {k : Nat} (T : Strm X k) (r d src ds pl spl : Addr) (ln : Int) (H : CHeap) : Prop where
  hr : H r = some (.inst 94 d)
  hd : H d = some (.idict (rF ln (.ref src) pl))
  hs : H src = some (.inst 94 ds)
  hds : H ds = some (.idict (sF spl T.give))
  wr : ¬ T.W r
  wd : ¬ T.W d
  ws : ¬ T.W src
  wds : ¬ T.W ds
  nd : ds ≠ d
theorem Rdr.step {X : Wd} {k : Nat} {T : Strm X k} {r d src ds pl spl : Addr} {ln : Int} {H H' : CHeap} (R : Rdr T r d src ds pl spl ln H) (e : ExtZ T.Z H H') : Rdr T r d src ds pl spl ln H' :=
  ⟨e _ _ (fun z => R.wr (T.zw _ z)) R.hr, e _ _ (fun z => R.wd (T.zw _ z)) R.hd, e _ _ (fun z => R.ws (T.zw _ z)) R.hs, e _ _ (fun z => R.wds (T.zw _ z)) R.hds, R.wr, R.wd, R.ws, R.wds, R.nd⟩
theorem Rdr.line {X : Wd} {k : Nat} {T : Strm X k} {r d src ds pl spl : Addr} {ln ln' : Int} {H : CHeap} (R : Rdr T r d src ds pl spl ln H) : Rdr T r d src ds pl spl ln' (upd H d (.idict (rF ln' (.ref src) pl))) := by
  have n1 : r ≠ d := by rintro rfl; have := R.hr; rw [R.hd] at this; cases this
  have n2 : src ≠ d := by rintro rfl; have := R.hs; rw [R.hd] at this; cases this
  exact ⟨upd_ne' n1 R.hr, upd_self _ _ _, upd_ne' n2 R.hs, upd_ne' R.nd R.hds, R.wr, R.wd, R.ws, R.wds, R.nd⟩
theorem readchar_spec {X : Wd} {P : Params} (W : W01 X P) {k : Nat} {T : Strm X k} {A : Around} {E : CHeap → Prop} {H : CHeap} {Q : CV → CHeap → Prop} {r d src ds pl spl : Addr} {ln : Int} {rest : List Nat} (ro : Room A (k + 1)) (R : Rdr T r d src ds pl spl ln H) (hS : T.S rest H)
    (h : ∀ H' ln', ExtZ (fun b => T.Z b ∨ b = d) H H' → Rdr T r d src ds pl spl ln' H' → ln' + nl rest.tail = ln + nl rest → T.S rest.tail H' → Q (.str (chS (rest.take 1))) H') : Cl X A E (.glob 77) [.ref r] Q H ∧ Cl X A E (.meth 77 (.ref r)) [] Q H := by
  have hK := W.hK
  refine ⟨cl_def (ns := [Str.ofString "self"]) (n := k) (by rw [hK]; rfl) (by rw [hK]; rfl) rfl (len1 fun _ => rfl) rfl (by decide) (by decide) (by decide) rfl rfl rfl rfl rfl rfl ro ?_, cl_meth (ns := [Str.ofString "self"]) (n := k) (by rw [hK]; rfl) (by rw [hK]; rfl) rfl (len1 fun _ => rfl) rfl (by decide) (by decide) (by decide) rfl rfl rfl rfl rfl rfl ro ?_⟩
  all_goals
    intro A' E' env ro' ok hL
    have hr := R.hr
    have hdd := R.hd
    have hs := R.hs
    have hds := R.hds
    repeat walk_at "e"
    refine meth_field (K := K1 P) (C := 94) (name := Str.ofString "read") hK rfl rfl rfl (by walk_at "hp") (by walk_at "hp") (V := T.give) rfl T.nb ?_
    refine ⟨T.ok, ?_⟩
    repeat walk_at "e"
    refine T.call ro' hS ?_
    intro H1 e1 hS1
    have R1 := R.step e1
    have hr1 := R1.hr
    have hd1 := R1.hd
    repeat walk_at "e"
    have key : (chS (List.take 1 rest) == Str.ofString "\n") = true → nl rest = nl rest.tail + 1 := by
      intro e
      cases rest with
      | nil => exact absurd e (by decide)
      | cons c t =>
        have : chS [c] = Str.ofString "\n" := by simpa using e
        have h2 : (chS [c]).cps = #[10] := by rw [this]; rfl
        have : c = 10 := by simpa [chS] using h2
        subst this
        simp [nl]
    have key2 : (chS (List.take 1 rest) == Str.ofString "\n") = false → nl rest = nl rest.tail := by
      intro e
      cases rest with
      | nil => rfl
      | cons c t =>
        have : c ≠ 10 := by rintro rfl; exact absurd e (by show ¬ (chS [10] == _) = false; decide)
        simp [nl, List.count_cons, this]
    refine ⟨fun hc => ?_, fun hc => ?_⟩
    · repeat walk_at "e"
      refine h _ (ln + 1) ((e1.mono fun b z => .inl z).put (.inl (.inr rfl))) (R1.line (ln' := ln + 1)) (by rw [key hc]; walk_at "ar") (T.stab hS1 fun b hb => upd_ne (by rintro rfl; exact R.wd hb))
    · repeat walk_at "e"
      exact h H1 ln (e1.mono fun b z => .inl z) R1 (by rw [key2 hc]) hS1
end
section
set_option maxRecDepth 100000
set_option maxHeartbeats 4000000
def isWs (c : Nat) : Bool := c == 10 || c == 9 || c == 13 || c == 32
def quoted : List Nat → List Nat → List Nat × List Nat
  | [], acc => (acc, [])
  | c :: r, acc => if c = 34 then (acc, r) else if c = 92 then (match r with | [] => (acc, []) | e :: r' => quoted r' (acc ++ [e])) else quoted r (acc ++ [c])
def bare : List Nat → List Nat → List Nat × List Nat
  | [], acc => (acc, [])
  | c :: r, acc => if isWs c then (acc, r) else if c = 92 then (match r with | [] => (acc, []) | e :: r' => bare r' (acc ++ [e])) else bare r (acc ++ [c])
def lexTok : List Nat → List Nat × List Nat
  | [] => ([], [])
  | c :: r => if isWs c then lexTok r else if c = 34 then quoted r [] else if c = 92 then (match r with | [] => ([], []) | e :: r' => bare r' [e]) else bare r [c]
theorem quoted_bs (r acc : List Nat) : quoted (92 :: r) acc = quoted r.tail (acc ++ r.take 1) := by
  cases r <;> simp [quoted]
theorem bare_bs (r acc : List Nat) : bare (92 :: r) acc = bare r.tail (acc ++ r.take 1) := by
  cases r <;> simp [bare, isWs]
theorem quoted_nil (acc : List Nat) : quoted [] acc = (acc, []) := rfl
theorem quoted_q (r acc : List Nat) : quoted (34 :: r) acc = (acc, r) := by cases r <;> simp [quoted]
theorem quoted_o {c : Nat} (r acc : List Nat) (h1 : c ≠ 34) (h2 : c ≠ 92) : quoted (c :: r) acc = quoted r (acc ++ [c]) := by cases r <;> simp [quoted, h1, h2]
theorem bare_nil (acc : List Nat) : bare [] acc = (acc, []) := by simp [bare]
theorem bare_w {c : Nat} (r acc : List Nat) (h : isWs c = true) : bare (c :: r) acc = (acc, r) := by cases r <;> simp [bare, h]
theorem bare_o {c : Nat} (r acc : List Nat) (h1 : isWs c = false) (h2 : c ≠ 92) : bare (c :: r) acc = bare r (acc ++ [c]) := by cases r <;> simp [bare, h1, h2]
theorem lexTok_w {c : Nat} (r : List Nat) (h : isWs c = true) : lexTok (c :: r) = lexTok r := by rw [lexTok.eq_def]; simp [h]
theorem lexTok_q (r : List Nat) : lexTok (34 :: r) = quoted r [] := by cases r <;> simp [lexTok, isWs]
theorem lexTok_bs (r : List Nat) : lexTok (92 :: r) = bare r.tail (r.take 1) := by cases r <;> simp [lexTok, isWs, bare]
theorem lexTok_o {c : Nat} (r : List Nat) (h1 : isWs c = false) (h2 : c ≠ 34) (h3 : c ≠ 92) : lexTok (c :: r) = bare r [c] := by cases r <;> simp [lexTok, h1, h2, h3]
theorem chS_eq {a b : List Nat} : (chS a == chS b) = (a == b) := by
  by_cases h : a = b
  · subst h; rw [beq_self_eq_true, beq_self_eq_true]
  · have : chS a ≠ chS b := by intro e; apply h; have := congrArg (fun s => s.cps.toList) e; simpa [chS] using this
    rw [beq_eq_false_iff_ne.mpr this, beq_eq_false_iff_ne.mpr h]
theorem eq_q (c : Nat) : (chS [c] == Str.ofString "\"") = (c == 34) := by
  rw [show Str.ofString "\"" = chS [34] from rfl, chS_eq]; simp
theorem eq_bs (c : Nat) : (chS [c] == Str.ofString "\\") = (c == 92) := by
  rw [show Str.ofString "\\" = chS [92] from rfl, chS_eq]; simp
theorem contains_ws : ∀ c, c < 128 → Txt.contains wsS (chS [c]) = isWs c := by
  have : ∀ c : Fin 128, Txt.contains wsS (chS [c.val]) = isWs c.val := by decide +kernel
  intro c hc
  exact this ⟨c, hc⟩
theorem chS_app (a b : List Nat) : chS a ++ chS b = chS (a ++ b) := by
  show Str.mk (a.toArray ++ b.toArray) = _
  unfold chS; simp
theorem chS_len (a : List Nat) : (chS a).length = a.length := by show a.toArray.size = _; simp
theorem if_join {X : Wd} {A : Around} {E : Loc → CHeap → Prop} {env : Env} {body : List Stmt} {Q : CF → Loc → CHeap → Prop} {m : Loc} {H : CHeap} {c : Bool} (Inv : Loc → CHeap → Prop) (h1 : c = true → ExSs X A E env body (fun f m' H' => f = .next ∧ Inv m' H') m H) (h2 : c = false → Inv m H) (h3 : ∀ m' H', Inv m' H' → Q .next m' H') :
    (c = true → ExSs X A E env body Q m H) ∧ (c = false → ExSs X A E env [] Q m H) :=
  ⟨fun e => (h1 e).mono fun F m' H' ⟨ef, i⟩ => by subst ef; exact h3 m' H' i, fun e => exs_nil (h3 m H (h2 e))⟩
theorem gettok_spec {X : Wd} {P : Params} (W : W01 X P) {k : Nat} {T : Strm X k} {A : Around} {E : CHeap → Prop} {H : CHeap} {Q : CV → CHeap → Prop} {r d src ds pl spl : Addr} {ln : Int} {rest : List Nat} (ro : Room A (k + 4)) (R : Rdr T r d src ds pl spl ln H) (hS : T.S rest H) (hpl : H pl = some (.list [])) (hlen : rest.length ≤ 1000)
    (h : ∀ H' ln', ExtZ (fun b => T.Z b ∨ b = d) H H' → Rdr T r d src ds pl spl ln' H' → ln' + nl (lexTok rest).2 = ln + nl rest → T.S (lexTok rest).2 H' → Q (.str (chS (lexTok rest).1)) H') : Cl X A E (.glob 84) [.ref r] Q H := by
  have hK := W.hK
  refine cl_def (ns := [Str.ofString "self"]) (n := k + 3) (by rw [hK]; rfl) (by rw [hK]; rfl) rfl (len1 fun _ => rfl) rfl (by decide) (by decide) (by decide) rfl rfl rfl rfl rfl rfl ro ?_
  intro A' E' env ro' ok hL
  have hr := R.hr
  have hdd := R.hd
  repeat walk_at "e"
  refine tr_list hpl (by decide) ?_
  refine two_false ?_
  repeat walk_at "e"
  refine cl_iter2 ?_
  intro it fit
  have wit : ¬ T.W it := fun w => T.live hS w fit
  have nir : it ≠ r := Ne.symm (ne_of fit hr)
  have nid : it ≠ d := Ne.symm (ne_of fit hdd)
  have Rit : ∀ {H2 : CHeap} {ln2 : Int} {o : CO}, Rdr T r d src ds pl spl ln2 H2 → Rdr T r d src ds pl spl ln2 (upd H2 it o) := fun R2 =>
    ⟨upd_ne' (Ne.symm nir) R2.hr, upd_ne' (Ne.symm nid) R2.hd, upd_ne' (ne_of fit R.hs) R2.hs, upd_ne' (ne_of fit R.hds) R2.hds, R2.wr, R2.wd, R2.ws, R2.wds, R2.nd⟩
  have Sit : ∀ {H2 : CHeap} {rest2 : List Nat} {o : CO}, T.S rest2 H2 → T.S rest2 (upd H2 it o) := fun s2 => T.stab s2 fun b hb => upd_ne (by rintro rfl; exact wit hb)
  have Eit : ∀ {H2 : CHeap} {o : CO}, ExtZ (fun b => T.Z b ∨ b = d) H H2 → ExtZ (fun b => T.Z b ∨ b = d) H (upd H2 it o) := fun e => e.put (.inr fit)
  have done : ∀ {H' : CHeap} {ln' : Int} {tok rest' : List Nat}, lexTok rest = (tok, rest') → ExtZ (fun b => T.Z b ∨ b = d) H H' → Rdr T r d src ds pl spl ln' H' → ln' + nl rest' = ln + nl rest → T.S rest' H' → Q (.str (chS tok)) H' := by
    intro H' ln' tok rest' hl e R' hn s'
    have := h H' ln' e R'
    rw [hl] at this
    exact this hn s'
  repeat walk_at "e"
  obtain ⟨I1, hI1⟩ := named4 (fun (V : CV) (n : Nat) (m : Loc) (H2 : CHeap) => V = .ref it ∧ ∃ ln2 rest2 tok, Rdr T r d src ds pl spl ln2 H2 ∧ ExtZ (fun b => T.Z b ∨ b = d) H H2 ∧ m.lookup (Str.ofString "self") = some (.ref r) ∧ m.lookup (Str.ofString "token") = some (.str (chS tok)) ∧ m.lookup (Str.ofString "fiter") = some (.ref it) ∧ T.S rest2 H2 ∧ ln2 + nl rest2 = ln + nl rest ∧ rest2.length ≤ 1000 ∧
    ((H2 it = some (.citer (.meth 77 (.ref r)) (.str (chS []))) ∧ tok = [] ∧ lexTok rest2 = lexTok rest ∧ n = rest2.length + 1) ∨ (H2 it = some .cend ∧ rest2 = [] ∧ lexTok rest = (tok, []) ∧ n = 0)))
  refine ex_for2 I1 ?_ ?_ (fun _ => rfl)
  · repeat walk_at "e"
    refine ⟨self_citer (upd_self _ _ _), rest.length + 1, (hI1 _ _ _ _).mpr ⟨rfl, ln, rest, [], Rit R, Eit (ExtZ.refl H), by walk_at "lk", by walk_at "lk", by walk_at "lk", Sit hS, rfl, hlen, .inl ⟨upd_self _ _ _, rfl, rfl, rfl⟩⟩⟩
  · intro E2 V n m2 H2 hi1 hLL
    obtain ⟨rfl, ln2, rest2, tok, R2, e2, m1, m3, m4, hS2, hln, hle2, cs⟩ := (hI1 _ _ _ _).mp hi1
    rcases cs with ⟨hit, rfl, hlex, hn⟩ | ⟨hit, rfl, hlex, hn⟩
    · refine next_citer ro'.hd (by rw [hK]; rfl) hit ?_
      refine (readchar_spec W (ro'.in1.le (by walk_at "ar")) R2 hS2 ?_).2
      intro H3 ln3 e3 R3 hln3 hS3
      have hit3 := e3 it _ (fun z => z.elim (fun z => wit (T.zw _ z)) nid) hit
      refine ⟨_, rfl, hit3, fun hne => ?_, fun heq => ?_⟩
      · obtain ⟨c, t, rfl⟩ : ∃ c t, rest2 = c :: t := by
          cases rest2 with
          | nil => exact absurd rfl hne
          | cons c t => exact ⟨c, t, rfl⟩
        have hc := T.low hS2 c (.head _)
        have hr3 := R3.hr
        have hd3 := R3.hd
        have e03 := e2.trans e3
        have hln3' : ln3 + nl t = ln + nl rest := by simp only [List.tail_cons] at hln3; walk_at "ar"
        repeat walk_at "e"
        show (Txt.contains wsS (chS [c]) = true → _) ∧ (Txt.contains wsS (chS [c]) = false → _)
        rw [contains_ws c hc]
        refine ⟨fun hw => ?_, fun hw => ?_⟩
        · repeat walk_at "e"
          refine ⟨t.length + 1, by simp at hn; walk_at "ar", (hI1 _ _ _ _).mpr ⟨rfl, ln3, t, [], R3, e03, by walk_at "lk", by walk_at "lk", by walk_at "lk", hS3, hln3', by simp at hle2; walk_at "ar", .inl ⟨hit3, rfl, ?_, rfl⟩⟩⟩
          rw [← hlex, lexTok_w _ hw]
        · repeat walk_at "e"
          show ((chS [c] == _) = true → _) ∧ ((chS [c] == _) = false → _)
          rw [eq_q]
          refine ⟨fun hq => ?_, fun hq => ?_⟩
          · obtain rfl : c = 34 := by simpa using hq
            rw [lexTok_q] at hlex
            repeat walk_at "e"
            obtain ⟨I2, hI2⟩ := named4 (fun (V : CV) (n : Nat) (m : Loc) (H4 : CHeap) => V = .ref it ∧ ∃ ln4 rest4 acc, Rdr T r d src ds pl spl ln4 H4 ∧ ExtZ (fun b => T.Z b ∨ b = d) H H4 ∧ m.lookup (Str.ofString "self") = some (.ref r) ∧ m.lookup (Str.ofString "token") = some (.str (chS acc)) ∧ m.lookup (Str.ofString "fiter") = some (.ref it) ∧ T.S rest4 H4 ∧ ln4 + nl rest4 = ln + nl rest ∧ acc.length + rest4.length ≤ 1000 ∧
              H4 it = some (.citer (.meth 77 (.ref r)) (.str (chS []))) ∧ quoted rest4 acc = lexTok rest ∧ n = rest4.length + 1)
            refine ex_for2 I2 ?_ ?_ (fun _ => rfl)
            · repeat walk_at "e"
              exact ⟨self_citer hit3, t.length + 1, (hI2 _ _ _ _).mpr ⟨rfl, ln3, t, [], R3, e03, by walk_at "lk", by walk_at "lk", by walk_at "lk", hS3, hln3', by simp at hle2 ⊢; walk_at "ar", hit3, hlex, rfl⟩⟩
            · intro E4 V n4 m4' H4 hi4 hLL4
              obtain ⟨rfl, ln4, rest4, acc, R4, e4, m41, m43, m44, hS4, hln4, hle4, hit4, hlex4, hn4⟩ := (hI2 _ _ _ _).mp hi4
              refine next_citer ro'.hd (by rw [hK]; rfl) hit4 ?_
              refine (readchar_spec W (ro'.in1.le (by walk_at "ar")) R4 hS4 ?_).2
              intro H5 ln5 e5 R5 hln5 hS5
              have hit5 := e5 it _ (fun z => z.elim (fun z => wit (T.zw _ z)) nid) hit4
              refine ⟨_, rfl, hit5, fun hne => ?_, fun heq => ?_⟩
              · obtain ⟨c, t, rfl⟩ : ∃ c t, rest4 = c :: t := by
                  cases rest4 with
                  | nil => exact absurd rfl hne
                  | cons c t => exact ⟨c, t, rfl⟩
                have hr5 := R5.hr
                have hd5 := R5.hd
                have e05 := e4.trans e5
                simp only [List.tail_cons] at hln5 hS5
                simp only [List.length_cons] at hle4 hn4
                repeat walk_at "e"
                show ((chS [c] == _) = true → _) ∧ ((chS [c] == _) = false → _)
                rw [eq_q]
                refine ⟨fun hq => ?_, fun hq => ?_⟩
                · obtain rfl : c = 34 := by simpa using hq
                  rw [quoted_q] at hlex4
                  repeat walk_at "e"
                  exact done hlex4.symm e05 R5 (by walk_at "ar") hS5
                · have hq' : c ≠ 34 := by simpa using hq
                  repeat walk_at "e"
                  show ((chS [c] == _) = true → _) ∧ ((chS [c] == _) = false → _)
                  rw [eq_bs]
                  refine ⟨fun hb => ?_, fun hb => ?_⟩
                  · obtain rfl : c = 92 := by simpa using hb
                    rw [quoted_bs] at hlex4
                    repeat walk_at "e"
                    refine (readchar_spec W (ro'.le (by walk_at "ar")) R5 hS5 ?_).1
                    intro H6 ln6 e6 R6 hln6 hS6
                    have hit6 := e6 it _ (fun z => z.elim (fun z => wit (T.zw _ z)) nid) hit5
                    repeat walk_at "e"
                    refine inp_add_str (by rw [chS_len, chS_len, List.length_take]; walk_at "ar") ?_
                    rw [chS_app]
                    repeat walk_at "e"
                    exact ⟨t.tail.length + 1, by rw [List.length_tail]; walk_at "ar", (hI2 _ _ _ _).mpr ⟨rfl, ln6, t.tail, acc ++ t.take 1, R6, e05.trans e6, by walk_at "lk", by walk_at "lk", by walk_at "lk", hS6, by walk_at "ar", by simp only [List.length_append, List.length_take, List.length_tail]; walk_at "ar", hit6, hlex4, rfl⟩⟩
                  · have hb' : c ≠ 92 := by simpa using hb
                    rw [quoted_o _ _ hq' hb'] at hlex4
                    repeat walk_at "e"
                    refine inp_add_str (by rw [chS_len, chS_len, List.length_take]; walk_at "ar") ?_
                    rw [chS_app]
                    repeat walk_at "e"
                    exact ⟨t.length + 1, by walk_at "ar", (hI2 _ _ _ _).mpr ⟨rfl, ln5, t, acc ++ [c], R5, e05, by walk_at "lk", by walk_at "lk", by walk_at "lk", hS5, by walk_at "ar", by simp only [List.length_append, List.length_cons, List.length_nil]; walk_at "ar", hit5, hlex4, rfl⟩⟩
              · have : rest4 = [] := by
                  cases rest4 with
                  | nil => rfl
                  | cons c t => exact absurd heq (by intro e; have := congrArg (fun s => s.cps.toList) e; simp [chS] at this)
                subst this
                rw [quoted_nil] at hlex4
                repeat walk_at "e"
                exact ⟨0, by walk_at "ar", (hI1 _ _ _ _).mpr ⟨rfl, ln5, [], acc, Rit R5, Eit (e4.trans e5), by walk_at "lk", by walk_at "lk", by walk_at "lk", Sit hS5, by simp only [List.tail_nil] at hln5; walk_at "ar", by simp, .inr ⟨upd_self _ _ _, rfl, hlex4.symm, rfl⟩⟩⟩
          · have hq' : c ≠ 34 := by simpa using hq
            repeat walk_at "e"
            show ((chS [c] == _) = true → _) ∧ ((chS [c] == _) = false → _)
            rw [eq_bs]
            obtain ⟨J1, hJ1⟩ := named2 (fun (m' : Loc) (H' : CHeap) => ∃ ln4 rest4 chs, Rdr T r d src ds pl spl ln4 H' ∧ ExtZ (fun b => T.Z b ∨ b = d) H H' ∧ m'.lookup (Str.ofString "self") = some (.ref r) ∧ m'.lookup (Str.ofString "token") = some (.str (chS [])) ∧ m'.lookup (Str.ofString "ch") = some (.str (chS chs)) ∧ m'.lookup (Str.ofString "fiter") = some (.ref it) ∧ T.S rest4 H' ∧ ln4 + nl rest4 = ln + nl rest ∧ chs.length + rest4.length ≤ 1000 ∧
              H' it = some (.citer (.meth 77 (.ref r)) (.str (chS []))) ∧ bare rest4 chs = lexTok rest)
            refine if_join J1 ?_ ?_ ?_
            · intro hb
              obtain rfl : c = 92 := by simpa using hb
              rw [lexTok_bs] at hlex
              repeat walk_at "e"
              refine (readchar_spec W (ro'.le (by walk_at "ar")) R3 hS3 ?_).1
              intro H4 ln4 e4 R4 hln4 hS4
              have hit4 := e4 it _ (fun z => z.elim (fun z => wit (T.zw _ z)) nid) hit3
              repeat walk_at "e"
              simp only [List.tail_cons] at hln4 hS4
              exact ⟨rfl, (hJ1 _ _).mpr ⟨ln4, t.tail, t.take 1, R4, e03.trans e4, by walk_at "lk", by walk_at "lk", by walk_at "lk", by walk_at "lk", hS4, by walk_at "ar", by simp only [List.length_take, List.length_tail, List.length_cons] at hle2 ⊢; walk_at "ar", hit4, hlex⟩⟩
            · intro hb
              have hb' : c ≠ 92 := by simpa using hb
              rw [lexTok_o _ hw hq' hb'] at hlex
              exact (hJ1 _ _).mpr ⟨ln3, t, [c], R3, e03, by walk_at "lk", by walk_at "lk", by walk_at "lk", by walk_at "lk", hS3, hln3', by simp only [List.length_cons, List.length_nil] at hle2 ⊢; walk_at "ar", hit3, hlex⟩
            · intro m5 H5 hj5
              obtain ⟨ln5, rest5, chs, R5, e05, m51, m52, m53, m54, hS5, hln5, hle5, hit5, hlex5⟩ := (hJ1 _ _).mp hj5
              repeat walk_at "e"
              refine inp_add_str (by rw [chS_len, chS_len]; simp; walk_at "ar") ?_
              rw [chS_app, List.nil_append]
              repeat walk_at "e"
              obtain ⟨I3, hI3⟩ := named4 (fun (V : CV) (n : Nat) (m : Loc) (H4 : CHeap) => V = .ref it ∧ ∃ ln4 rest4 acc, Rdr T r d src ds pl spl ln4 H4 ∧ ExtZ (fun b => T.Z b ∨ b = d) H H4 ∧ m.lookup (Str.ofString "self") = some (.ref r) ∧ m.lookup (Str.ofString "token") = some (.str (chS acc)) ∧ m.lookup (Str.ofString "fiter") = some (.ref it) ∧ T.S rest4 H4 ∧ ln4 + nl rest4 = ln + nl rest ∧ acc.length + rest4.length ≤ 1000 ∧
                H4 it = some (.citer (.meth 77 (.ref r)) (.str (chS []))) ∧ bare rest4 acc = lexTok rest ∧ n = rest4.length + 1)
              refine ex_for2 I3 ?_ ?_ (fun _ => rfl)
              · repeat walk_at "e"
                exact ⟨self_citer hit5, rest5.length + 1, (hI3 _ _ _ _).mpr ⟨rfl, ln5, rest5, chs, R5, e05, by walk_at "lk", by walk_at "lk", by walk_at "lk", hS5, hln5, hle5, hit5, hlex5, rfl⟩⟩
              · intro E4 V n4 m4' H4 hi4 hLL4
                obtain ⟨rfl, ln4, rest4, acc, R4, e4, m41, m43, m44, hS4, hln4, hle4, hit4, hlex4, hn4⟩ := (hI3 _ _ _ _).mp hi4
                refine next_citer ro'.hd (by rw [hK]; rfl) hit4 ?_
                refine (readchar_spec W (ro'.in1.le (by walk_at "ar")) R4 hS4 ?_).2
                intro H5 ln5 e5 R5 hln5 hS5
                have hit5 := e5 it _ (fun z => z.elim (fun z => wit (T.zw _ z)) nid) hit4
                refine ⟨_, rfl, hit5, fun hne => ?_, fun heq => ?_⟩
                · obtain ⟨c, t, rfl⟩ : ∃ c t, rest4 = c :: t := by
                    cases rest4 with
                    | nil => exact absurd rfl hne
                    | cons c t => exact ⟨c, t, rfl⟩
                  have hc := T.low hS4 c (.head _)
                  have hr5 := R5.hr
                  have hd5 := R5.hd
                  have e05 := e4.trans e5
                  simp only [List.tail_cons] at hln5 hS5
                  simp only [List.length_cons] at hle4 hn4
                  repeat walk_at "e"
                  show (Txt.contains wsS (chS [c]) = true → _) ∧ (Txt.contains wsS (chS [c]) = false → _)
                  rw [contains_ws c hc]
                  refine ⟨fun hw => ?_, fun hw => ?_⟩
                  · rw [bare_w _ _ hw] at hlex4
                    repeat walk_at "e"
                    exact done hlex4.symm e05 R5 (by walk_at "ar") hS5
                  · repeat walk_at "e"
                    show ((chS [c] == _) = true → _) ∧ ((chS [c] == _) = false → _)
                    rw [eq_bs]
                    refine ⟨fun hb => ?_, fun hb => ?_⟩
                    · obtain rfl : c = 92 := by simpa using hb
                      rw [bare_bs] at hlex4
                      repeat walk_at "e"
                      refine (readchar_spec W (ro'.le (by walk_at "ar")) R5 hS5 ?_).1
                      intro H6 ln6 e6 R6 hln6 hS6
                      have hit6 := e6 it _ (fun z => z.elim (fun z => wit (T.zw _ z)) nid) hit5
                      repeat walk_at "e"
                      refine inp_add_str (by rw [chS_len, chS_len, List.length_take]; walk_at "ar") ?_
                      rw [chS_app]
                      repeat walk_at "e"
                      exact ⟨t.tail.length + 1, by rw [List.length_tail]; walk_at "ar", (hI3 _ _ _ _).mpr ⟨rfl, ln6, t.tail, acc ++ t.take 1, R6, e05.trans e6, by walk_at "lk", by walk_at "lk", by walk_at "lk", hS6, by walk_at "ar", by simp only [List.length_append, List.length_take, List.length_tail]; walk_at "ar", hit6, hlex4, rfl⟩⟩
                    · have hb' : c ≠ 92 := by simpa using hb
                      rw [bare_o _ _ hw hb'] at hlex4
                      repeat walk_at "e"
                      refine inp_add_str (by rw [chS_len, chS_len, List.length_take]; walk_at "ar") ?_
                      rw [chS_app]
                      repeat walk_at "e"
                      exact ⟨t.length + 1, by walk_at "ar", (hI3 _ _ _ _).mpr ⟨rfl, ln5, t, acc ++ [c], R5, e05, by walk_at "lk", by walk_at "lk", by walk_at "lk", hS5, by walk_at "ar", by simp only [List.length_append, List.length_cons, List.length_nil]; walk_at "ar", hit5, hlex4, rfl⟩⟩
                · have : rest4 = [] := by
                    cases rest4 with
                    | nil => rfl
                    | cons c t => exact absurd heq (by intro e; have := congrArg (fun s => s.cps.toList) e; simp [chS] at this)
                  subst this
                  rw [bare_nil] at hlex4
                  repeat walk_at "e"
                  exact ⟨0, by walk_at "ar", (hI1 _ _ _ _).mpr ⟨rfl, ln5, [], acc, Rit R5, Eit (e4.trans e5), by walk_at "lk", by walk_at "lk", by walk_at "lk", Sit hS5, by simp only [List.tail_nil] at hln5; walk_at "ar", by simp, .inr ⟨upd_self _ _ _, rfl, hlex4.symm, rfl⟩⟩⟩
      · have : rest2 = [] := by
          cases rest2 with
          | nil => rfl
          | cons c t => exact absurd heq (by intro e; have := congrArg (fun s => s.cps.toList) e; simp [chS] at this)
        subst this
        repeat walk_at "e"
        exact done hlex.symm (Eit (e2.trans e3)) (Rit R3) (by simp only [List.tail_nil] at hln3; walk_at "ar") (Sit hS3)
    · refine next_cend ro'.hd hit ?_
      repeat walk_at "e"
      exact done hlex e2 R2 hln hS2
end
section
set_option maxRecDepth 100000
set_option maxHeartbeats 4000000
def sgs : List Nat := [97, 98, 34, 92, 32, 10, 9, 13]
theorem signs_spec {X : Wd} {P : Params} (W : W01 X P) {A : Around} {E : CHeap → Prop} {H : CHeap} {Q : CV → CHeap → Prop} (ro : Room A 1) (h : Q (.str (chS sgs)) H) : Cl X A E (.glob 105) [] Q H := by
  have hK := W.hK
  refine cl_def (ns := []) (n := 0) (by rw [hK]; rfl) (by rw [hK]; rfl) rfl (len0 rfl) rfl (by decide) (by decide) (by decide) rfl rfl rfl rfl rfl rfl ro ?_
  intro A' E' env ro' ok hL
  repeat walk_at "e"
  exact h
theorem make_spec {X : Wd} {P : Params} (W : W01 X P) {A : Around} {E : CHeap → Prop} {H : CHeap} {Q : CV → CHeap → Prop} {fp : CV} (ro : Room A 2)
    (h : ∀ x dx pl H', H x = none → H dx = none → H pl = none → x ≠ dx → x ≠ pl → dx ≠ pl → Ext H H' → H' x = some (.inst 94 dx) → H' dx = some (.idict (rF 1 fp pl)) → H' pl = some (.list []) → Q (.ref x) H') : Cl X A E (.glob 94) [fp] Q H := by
  have hK := W.hK
  refine cl_make (C := 94) (fI := 70) (ns := [Str.ofString "self", Str.ofString "fp"]) (n := 0) hK rfl rfl rfl rfl rfl rfl (len2 fun _ _ => rfl) rfl (by decide) (by decide) (by decide) rfl rfl rfl rfl rfl rfl ro ?_
  intro A' E' env x dx fx fdx nxd ro' ok
  repeat walk_at "e"
  intro pl fpl
  obtain ⟨np1, fpl⟩ := upd_none fpl
  obtain ⟨_, fpl⟩ := upd_none fpl
  obtain ⟨_, fpl⟩ := upd_none fpl
  obtain ⟨np2, fpl⟩ := upd_none fpl
  obtain ⟨_, fpl⟩ := upd_none fpl
  repeat walk_at "e"
  refine ⟨rfl, h x dx pl _ fx fdx fpl nxd (Ne.symm np2) (Ne.symm np1) ?_ (by walk_at "hp") (upd_self _ _ _) (by walk_at "hp")⟩
  exact (((((((Ext.refl H).put fdx).put fx).put fdx).put fdx).put fdx).put fpl).put fdx
end
section
set_option maxRecDepth 100000
set_option maxHeartbeats 4000000
theorem idm_zero {X : Wd} {P : Params} (W : W01 X P) {A : Around} {E : CHeap → Prop} {H : CHeap} {Q : CV → CHeap → Prop} {a : Int} (ro : Room A 34) (h : E H) : Cl X A E (.glob 56) [.int a, .int 0] Q H := by
  have hK := W.hK
  refine cl_defX (ns := [Str.ofString "a", Str.ofString "b"]) (n := 33) (by rw [hK]; rfl) (by rw [hK]; rfl) rfl (len2 fun _ _ => rfl) rfl (by decide) (by decide) (by decide) rfl rfl rfl rfl rfl rfl ro ?_
  intro A' env ro' ok hL
  repeat walk_at "e"
  refine two_true ?_
  repeat walk_at "e"
  exact ex_raise ro'.hd h (by rw [hK]; rfl) (kind_ok ok rfl) (kindOf_ok ok rfl) ok.gl ok.bi
def cut (x : Int) : Int := if 0 ≤ x then x.fmod (8 ^ 12) else -((-x).fmod (8 ^ 12))
theorem cut_lt (x : Int) : (cut x).natAbs < 8 ^ 12 := by
  unfold cut
  have h1 := Int.fmod_lt_of_pos x (show (0 : Int) < 8 ^ 12 by decide)
  have h2 := Int.fmod_nonneg_of_pos x (show (0 : Int) < 8 ^ 12 by decide)
  have h3 := Int.fmod_lt_of_pos (-x) (show (0 : Int) < 8 ^ 12 by decide)
  have h4 := Int.fmod_nonneg_of_pos (-x) (show (0 : Int) < 8 ^ 12 by decide)
  split <;> omega
theorem cut_spec {X : Wd} {P : Params} (W : W01 X P) {A : Around} {E : CHeap → Prop} {H : CHeap} {Q : CV → CHeap → Prop} {x : Int} (ro : Room A 1) (h : Q (.int (cut x)) H) : Cl X A E (.glob 112) [.int x] Q H := by
  have hK := W.hK
  refine cl_def (ns := [Str.ofString "x"]) (n := 0) (by rw [hK]; rfl) (by rw [hK]; rfl) rfl (len1 fun _ => rfl) rfl (by decide) (by decide) (by decide) rfl rfl rfl rfl rfl rfl ro ?_
  intro A' E' env ro' ok hL
  unfold cut at h
  repeat walk_at "e"
  refine ⟨fun q => ?_, fun q => ?_⟩
  · rw [if_pos (of_decide_eq_true q)] at h
    repeat walk_at "e"
    refine bin_pow (by decide) (by decide) (by decide) ?_
    exact bin_mod (by decide) h
  · rw [if_neg (of_decide_eq_false q)] at h
    repeat walk_at "e"
    refine bin_pow (by decide) (by decide) (by decide) ?_
    refine bin_mod (by decide) ?_
    repeat walk_at "e"
    exact h
def opN (d : Bool) : Nat := if d then 47 else 37
def trC : Tr → CV
  | .leaf x => .tuple [.str (chS []), .int x]
  | .op d l r => .tuple [.str (chS [opN d]), trC l, trC r]
theorem height_spec {X : Wd} {P : Params} (W : W01 X P) : ∀ (t : Tr) {A : Around} {E : CHeap → Prop} {H : CHeap} {Q : CV → CHeap → Prop} (ro : Room A (ht t + 1)) (h : Q (.int (ht t : Nat)) H), Cl X A E (.glob 124) [trC t] Q H := by
  have hK := W.hK
  intro t
  induction t with
  | leaf x =>
    intro A E H Q ro h
    refine cl_def (ns := [Str.ofString "tree"]) (n := 0) (by rw [hK]; rfl) (by rw [hK]; rfl) rfl (len1 fun _ => rfl) rfl (by decide) (by decide) (by decide) rfl rfl rfl rfl rfl rfl ro ?_
    intro A' E' env ro' ok hL
    repeat walk_at "e"
    refine sub_tuple (k := 0) (V := .str (chS [])) (.inl ⟨by decide, rfl⟩) rfl (by decide : 2 < 2 ^ 62) (fun _ _ => rfl) ?_
    refine tr_str (by decide) ?_
    refine two_false ?_
    repeat walk_at "e"
    exact h
  | op d l r ihl ihr =>
    intro A E H Q ro h
    have hh : ht (.op d l r) = 1 + max (ht l) (ht r) := rfl
    refine cl_def (ns := [Str.ofString "tree"]) (n := ht (.op d l r)) (by rw [hK]; rfl) (by rw [hK]; rfl) rfl (len1 fun _ => rfl) rfl (by decide) (by decide) (by decide) rfl rfl rfl rfl rfl rfl ro ?_
    intro A' E' env ro' ok hL
    repeat walk_at "e"
    refine sub_tuple (k := 0) (V := .str (chS [opN d])) (.inl ⟨by decide, rfl⟩) rfl (Nat.lt_of_le_of_lt (Nat.le_refl 3) (by decide)) (fun _ _ => rfl) ?_
    refine tr_str (by rw [chS_len]; exact (by decide : 1 < 2 ^ 62)) ?_
    rw [chS_len]
    refine two_true ?_
    repeat walk_at "e"
    refine sub_tuple (k := 1) (V := trC l) (.inl ⟨by decide, rfl⟩) rfl (Nat.lt_of_le_of_lt (Nat.le_refl 3) (by decide)) (fun _ _ => rfl) ?_
    repeat walk_at "e"
    refine ihl (ro'.le (by rw [hh]; omega)) ?_
    repeat walk_at "e"
    refine sub_tuple (k := 2) (V := trC r) (.inl ⟨by decide, rfl⟩) rfl (Nat.lt_of_le_of_lt (Nat.le_refl 3) (by decide)) (fun _ _ => rfl) ?_
    repeat walk_at "e"
    refine ihr (ro'.le (by rw [hh]; omega)) ?_
    repeat walk_at "e"
    refine cl_max ro'.hd ?_
    repeat walk_at "e"
    have e : (1 : Int) + (if (ht r : Int) > (ht l : Int) then (ht r : Int) else (ht l : Int)) = (ht (.op d l r) : Nat) := by
      rw [hh]; split <;> omega
    rw [e]
    exact h
end
section
set_option maxRecDepth 100000
set_option maxHeartbeats 4000000
def envS (sc : Scope) : Env := envOf default sc 0 0 .none
theorem swap_env {env : Env} {sc : Scope} {cells : List (Str × Addr)} {cd : Value} {qual : Str} {ts : List Expr} {v : Expr} (ok : EnvOk env sc cells cd qual) : swappedStores ts v env = swappedStores ts v (envS sc) := by
  have e : ∀ env env' : Env, env.scope = env'.scope → swappedStores ts v env = swappedStores ts v env' := by
    intro env env' e
    unfold swappedStores Env.kindOf Env.blockKind
    rw [e]
  exact e env (envS sc) ok.sc
theorem ex_assign_swap2 {X : Wd} {A : Around} {EL : Loc → CHeap → Prop} {env : Env} {m : Loc} {H : CHeap} {x y : Str} {px py tp p : Pos} {k : Nat} {e : Expr} {Q : CF → Loc → CHeap → Prop} (hA : A.handled = none) (hs : swapsWithSole [.Tuple [.Name x px, .Name y py] k tp] e p.line env = pure false) (hw : swappedStores [.Tuple [.Name x px, .Name y py] k tp] e env = pure (some [x, y]))
    (h : EvE X A EL env e (fun V H1 => ∃ V1 V2, V = .tuple [V1, V2] ∧ StN X A EL env y V2 (fun m1 H2 => StN X A EL env x V1 (fun m2 H3 => Q .next m2 H3) m1 H2) m H1) m H) : ExS X A EL env (.Assign [.Tuple [.Name x px, .Name y py] k tp] e p) Q m H := fun s R F hfr => by
  refine Assign_Tuple_swapped (names := [x, y]) ?_ hs hw
  refine TV.flow (Step.refl R) hfr F (h s R F) fun v s1 V H1 ⟨V1, V2, eV, q⟩ r R1 F1 f1 st _ => ?_
  subst eV
  obtain ⟨a, vs, n, rfl, hn, ha, ho, hv⟩ := r.tuple_inv
  obtain ⟨v1, v2, rfl, r1, r2⟩ := hv.two
  have htp : IsTup s1.heap a #[v1, v2] := ⟨_, ho, rfl, n, rfl⟩
  refine unpackItems_tuple (items := #[v1, v2]) hA htp fun h' hx => ?_
  have st2 : Step X.B H1 s1 H1 { s1 with heap := h' } := Step.grow (t := s1.toks) R1 (extBut_new hx)
  have F2 := st2.frm R1 F1
  have stA := (st.trans st2).toL (L := env.locals)
  have f2 := f1.step st2
  show wpAny X.M A (assignInOrder [bindName env y, bindName env x] [v2, v1]) _ _ _
  show wpAny X.M A (holding _ (bindName env y v2) >>= fun _ => assignInOrder [bindName env x] [v1]) _ _ _
  refine wpAny_bind (wpAny_holding (wpAny_bindName (wpAny_mono ((q _ v2 st2.rel F2 (st2.val r2)) f2) (fun _ s3 ⟨m3, H3, st3, F3, q3⟩ => ?_) fun _ _ e => e.after stA F2.ex)))
  have f3 := f2.stepL st3 F3
  show wpAny X.M A (holding _ (bindName env x v1) >>= fun _ => assignInOrder [] []) _ _ _
  refine wpAny_bind (wpAny_holding (wpAny_bindName (wpAny_mono ((q3 _ v1 st3.rel F3 (st3.val F2 (st2.val r1))) f3) (fun _ s4 ⟨m4, H4, st4, F4, q4⟩ => ?_) fun _ _ e => e.after (stA.trans st3 F2.ex) F3.ex)))
  exact wpAny_pure ⟨.next, m4, H4, .next, (stA.trans st3 F2.ex).trans st4 F3.ex, F4, q4⟩
theorem log36 {b : Int} (h : b.natAbs < 8 ^ 12) : b.natAbs.log2 < 9000 := by
  by_cases h0 : b.natAbs = 0
  · rw [h0]; decide +kernel
  · exact (Nat.log2_lt h0).mpr (Nat.lt_of_lt_of_le h (Nat.le_trans (show 8 ^ 12 ≤ 2 ^ 36 by decide) (Nat.pow_le_pow_right (by decide) (by decide))))
theorem opN_eq (d : Bool) : (chS [opN d] == Str.ofString "/") = d := by cases d <;> rfl
theorem opN_ne (d : Bool) : (chS [opN d] == Str.ofString "") = false := by cases d <;> rfl
theorem value_spec {X : Wd} {P : Params} (W : W01 X P) : ∀ (t : Tr) {A : Around} {E : CHeap → Prop} {H : CHeap} {Q : CV → CHeap → Prop} (_ : bnd t) (ro : Room A (ht t + 1)) (h : ∀ v, val t = some v → Q (.int v) H) (hx : val t = none → E H), Cl X A E (.glob 131) [trC t] Q H := by
  have hK := W.hK
  intro t
  induction t with
  | leaf x =>
    intro A E H Q hb ro h hx
    refine cl_defX (ns := [Str.ofString "tree"]) (n := 0) (by rw [hK]; rfl) (by rw [hK]; rfl) rfl (len1 fun _ => rfl) rfl (by decide) (by decide) (by decide) rfl rfl rfl rfl rfl rfl ro ?_
    intro A' env ro' ok hL
    repeat walk_at "e"
    refine sub_tuple (k := 0) (V := .str (chS [])) (.inl ⟨by decide, rfl⟩) rfl (by decide : 2 < 2 ^ 62) (fun _ _ => rfl) ?_
    repeat walk_at "e"
    refine two_true ?_
    repeat walk_at "e"
    exact sub_tuple (k := 1) (V := .int x) (.inl ⟨by decide, rfl⟩) rfl (by decide : 2 < 2 ^ 62) (fun _ _ => rfl) (h x rfl)
  | op d l r ihl ihr =>
    intro A E H Q hb ro h hx
    have hh : ht (.op d l r) = 1 + max (ht l) (ht r) := rfl
    have h3 : 3 < 2 ^ 62 := by decide
    refine cl_defX (ns := [Str.ofString "tree"]) (n := ht (.op d l r)) (by rw [hK]; rfl) (by rw [hK]; rfl) rfl (len1 fun _ => rfl) rfl (by decide) (by decide) (by decide) rfl rfl rfl rfl rfl rfl ro ?_
    intro A' env ro' ok hL
    repeat walk_at "e"
    refine sub_tuple (k := 0) (V := .str (chS [opN d])) (.inl ⟨by decide, rfl⟩) rfl h3 (fun _ _ => rfl) ?_
    repeat walk_at "e"
    rw [opN_ne]
    refine two_false ?_
    repeat walk_at "e"
    refine ex_assign_swap2 ro'.hd rfl ((swap_env ok).trans rfl) ?_
    repeat walk_at "e"
    refine sub_tuple (k := 1) (V := trC l) (.inl ⟨by decide, rfl⟩) rfl h3 (fun _ _ => rfl) ?_
    repeat walk_at "e"
    have hv : ∀ o, val (.op d l r) = o ↔ ((val l).bind fun a => (val r).bind fun b => dv d a b) = o := fun o => Iff.rfl
    refine ihl hb.1 (ro'.le (by rw [hh]; omega)) (fun a ha => ?_) (fun ha => hx ((hv _).mpr (by rw [ha]; rfl)))
    repeat walk_at "e"
    refine sub_tuple (k := 2) (V := trC r) (.inl ⟨by decide, rfl⟩) rfl h3 (fun _ _ => rfl) ?_
    repeat walk_at "e"
    refine ihr hb.2 (ro'.le (by rw [hh]; omega)) (fun b hb' => ?_) (fun hb' => hx ((hv _).mpr (by rw [ha, hb']; rfl)))
    have hd : ∀ o, dv d a b = o → val (.op d l r) = o := fun o e => (hv _).mpr (by rw [ha, hb']; exact e)
    have hbl := val_le hb.2 hb'
    repeat walk_at "e"
    refine sub_tuple (k := 0) (V := .str (chS [opN d])) (.inl ⟨by decide, rfl⟩) rfl h3 (fun _ _ => rfl) ?_
    repeat walk_at "e"
    rw [opN_eq]
    unfold dv at hd
    by_cases q : b = 0
    · subst q
      have := hx (hd _ (if_pos rfl))
      refine ⟨fun z => ?_, fun z => ?_⟩
      · repeat walk_at "e"
        exact bin_div0 ro'.hd this
      · repeat walk_at "e"
        exact bin_mod0 ro'.hd this
    · have := h _ (hd _ (if_neg q))
      refine ⟨fun z => ?_, fun z => ?_⟩
      · subst z
        repeat walk_at "e"
        refine bin_div q (PyProof.noPylong_of_log2 (log36 hbl)) this
      · subst z
        repeat walk_at "e"
        exact bin_mod q this
end
section
set_option maxRecDepth 100000
set_option maxHeartbeats 4000000
def thC : Th → CV
  | .num v => .int v
  | .op d => .str (chS [opN d])
def ths (l : List Th) : List CV := l.map thC
theorem ths_len (l : List Th) : (ths l).length = l.length := List.length_map ..
theorem ths_app (a b : List Th) : ths (a ++ b) = ths a ++ ths b := List.map_append ..
theorem polish_spec {X : Wd} {P : Params} (W : W01 X P) {k : Nat} : ∀ (t : Tr) {A : Around} {E : CHeap → Prop} {H : CHeap} {Q : CV → CHeap → Prop} (_ : bnd t) (_ : sz t ≤ 100) (ro : Room A (ht t + 2))
    (h : ∀ l, pol k t = some l → ∀ a H', H a = none → Ext H H' → H' a = some (.list (ths l)) → Q (.ref a) H') (hx : pol k t = none → ∀ H', Ext H H' → E H'), Cl X A E (.glob 138) [trC t, .int k] Q H := by
  have hK := W.hK
  intro t
  induction t with
  | leaf x =>
    intro A E H Q hb hz ro h hx
    refine cl_defX (ns := [Str.ofString "tree", Str.ofString "height"]) (n := 1) (by rw [hK]; rfl) (by rw [hK]; rfl) rfl (len2 fun _ _ => rfl) rfl (by decide) (by decide) (by decide) rfl rfl rfl rfl rfl rfl ro ?_
    intro A' env ro' ok hL
    repeat walk_at "e"
    refine height_spec W (.leaf x) ro' ?_
    repeat walk_at "e"
    refine ⟨fun _ => ?_, fun e => absurd (of_decide_eq_false e) (fun z => z (Int.natCast_nonneg k))⟩
    repeat walk_at "e"
    refine value_spec W (.leaf x) hb ro' (fun v hv => ?_) (fun e => nomatch e)
    cases hv
    repeat walk_at "e"
    intro a fa
    exact h _ rfl a _ fa (Ext.new fa) (upd_self _ _ _)
  | op d l r ihl ihr =>
    intro A E H Q hb hz ro h hx
    have hh : ht (.op d l r) = 1 + max (ht l) (ht r) := rfl
    have hs : sz (.op d l r) = 1 + sz l + sz r := rfl
    have h3 : 3 < 2 ^ 62 := by decide
    refine cl_defX (ns := [Str.ofString "tree", Str.ofString "height"]) (n := ht (.op d l r) + 1) (by rw [hK]; rfl) (by rw [hK]; rfl) rfl (len2 fun _ _ => rfl) rfl (by decide) (by decide) (by decide) rfl rfl rfl rfl rfl rfl ro ?_
    intro A' env ro' ok hL
    repeat walk_at "e"
    refine height_spec W (.op d l r) ro' ?_
    repeat walk_at "e"
    by_cases q : ht (.op d l r) ≤ k
    · have hp := pol_low q
      refine ⟨fun _ => ?_, fun e => absurd (of_decide_eq_false e) (fun z => z (Int.ofNat_le.mpr q))⟩
      repeat walk_at "e"
      refine value_spec W (.op d l r) hb ro' (fun v hv => ?_) (fun e => hx (by rw [hp, e]; rfl) H (Ext.refl H))
      repeat walk_at "e"
      intro a fa
      exact h _ (by rw [hp, hv]; rfl) a _ fa (Ext.new fa) (upd_self _ _ _)
    · have hp := pol_high q
      refine ⟨fun e => absurd (Int.ofNat_le.mp (of_decide_eq_true e)) q, fun _ => ?_⟩
      repeat walk_at "e"
      refine sub_tuple (k := 0) (V := .str (chS [opN d])) (.inl ⟨by decide, rfl⟩) rfl h3 (fun _ _ => rfl) ?_
      repeat walk_at "e"
      intro b fb
      repeat walk_at "e"
      refine sub_tuple (k := 1) (V := trC l) (.inl ⟨by decide, rfl⟩) rfl h3 (fun _ _ => rfl) ?_
      repeat walk_at "e"
      have e1 : Ext H (upd H b (.list [.str (chS [opN d])])) := Ext.new fb
      have g1 := upd_self H b (.list [.str (chS [opN d])])
      generalize upd H b (.list [.str (chS [opN d])]) = H1 at e1 g1 ⊢
      refine ihl hb.1 (by omega) (ro'.le (by omega)) (fun la hla al H2 fal e2 gal => ?_) (fun e H2 e2 => hx (by rw [hp, e]; rfl) H2 (e1.trans e2))
      have zl := pol_len hla
      refine bin_add_list (e2 _ _ g1) gal (Nat.le_trans (show _ ≤ 200 by rw [ths_len]; show 1 + _ ≤ _; omega) (by decide)) ?_
      intro c fc
      have e3 : Ext H (upd H2 c (.list ([.str (chS [opN d])] ++ ths la))) := (e1.trans e2).put ((e1.trans e2).nay fc)
      have g3 := upd_self H2 c (.list ([.str (chS [opN d])] ++ ths la))
      generalize upd H2 c (.list ([.str (chS [opN d])] ++ ths la)) = H3 at e3 g3 ⊢
      repeat walk_at "e"
      refine sub_tuple (k := 2) (V := trC r) (.inl ⟨by decide, rfl⟩) rfl h3 (fun _ _ => rfl) ?_
      repeat walk_at "e"
      refine ihr hb.2 (by omega) (ro'.le (by omega)) (fun lb hlb ar H4 far e4 gar => ?_) (fun e H4 e4 => hx (by rw [hp, hla, e]; rfl) H4 (e3.trans e4))
      have zr := pol_len hlb
      refine bin_add_list (e4 _ _ g3) gar (Nat.le_trans (show _ ≤ 200 by rw [ths_len, List.length_append, ths_len]; show 1 + _ + _ ≤ _; omega) (by decide)) ?_
      intro z fz
      refine h (.op d :: la ++ lb) (by rw [hp, hla, hlb]; rfl) z _ ((e3.trans e4).nay fz) ((e3.trans e4).put ((e3.trans e4).nay fz)) ?_
      rw [upd_self, ths_app]; rfl
end
section
set_option maxRecDepth 100000
set_option maxHeartbeats 4000000
def sgn (d : Nat) : Nat := sgs.getD d 0
def unsgn (c : Nat) : Nat := sgs.idxOf c
theorem find_sgn {c : Nat} (h : c ∈ sgs) : Txt.find (chS sgs) (chS [c]) = unsgn c := by
  have : ∀ c ∈ sgs, Txt.find (chS sgs) (chS [c]) = unsgn c := by decide +kernel
  exact this c h
theorem unsgn_sgn {d : Nat} (h : d < 8) : unsgn (sgn d) = d := by
  have : ∀ d : Fin 8, unsgn (sgn d.val) = d.val := by decide
  exact this ⟨d, h⟩
theorem sgn_at {d : Nat} (h : d < 8) : (chS sgs).cps[d]? = some (sgn d) := by
  have : ∀ d : Fin 8, (chS sgs).cps[d.val]? = some (sgn d.val) := by decide
  exact this ⟨d, h⟩
def esq (q : List Nat) (c : Nat) : List Nat := if q.contains c then [92, c] else [c]
theorem flat_le : ∀ {l : List (List Nat)} {n : Nat}, (∀ p ∈ l, p.length ≤ n) → l.flatten.length ≤ l.length * n
  | [], n, _ => Nat.zero_le _
  | p :: l, n, h => by
    have a := h p (.head _)
    have b := flat_le (l := l) fun q hq => h q (.tail _ hq)
    rw [List.flatten_cons, List.length_append, List.length_cons, Nat.succ_mul]
    exact Nat.le_trans (Nat.add_le_add a b) (Nat.le_of_eq (Nat.add_comm _ _))
def wds (ws : List (List Nat)) : List CV := ws.map fun w => CV.str (chS w)
theorem wds_len (ws : List (List Nat)) : (wds ws).length = ws.length := List.length_map ..
theorem wds_app (a b : List (List Nat)) : wds (a ++ b) = wds a ++ wds b := List.map_append ..
theorem wds_get (ws : List (List Nat)) (i : Nat) : (wds ws)[i]? = ws[i]?.map fun w => CV.str (chS w) := List.getElem?_map ..
theorem occ_count (x : Str) (c : Nat) (limit : Nat) : ∀ (l : List Nat) (acc : Array Nat) (free : Nat), (∀ i ∈ l, free ≤ i) → l.Pairwise (· < ·) → acc.size + l.length ≤ limit →
    (forIn l (acc, free) (StrLaws.occBody x ⟨#[c]⟩ x.length limit)).run.fst.size = acc.size + (l.filter fun i => decide (x.cps.toList[i]? = some c)).length
  | [], acc, free, _, _, _ => rfl
  | i :: l, acc, free, hf, hp, hl => by
    rw [List.forIn_cons, List.filter_cons]
    have hfi := hf i (.head _)
    obtain ⟨hlt, hp'⟩ := List.pairwise_cons.mp hp
    rw [List.length_cons] at hl
    have hsub := StrLaws.subAt_one x c i
    unfold StrLaws.occBody
    by_cases q : x.cps.toList[i]? = some c
    · rw [if_pos ⟨⟨⟨(by show acc.size < limit; omega), hfi⟩, (hsub.mpr q).1⟩, (hsub.mpr q).2⟩, if_pos (decide_eq_true q)]
      refine (occ_count x c limit l (acc.push i) (i + (⟨#[c]⟩ : Str).length) (fun j hj => Nat.succ_le_of_lt (hlt j hj)) hp' (by rw [Array.size_push]; omega)).trans ?_
      rw [Array.size_push, List.length_cons]; omega
    · rw [if_neg (fun z => q (hsub.mp ⟨z.1.2, z.2⟩)), if_neg (by simpa using q)]
      exact occ_count x c limit l acc free (fun j hj => hf j (.tail _ hj)) hp' (by omega)
theorem filter_count (c : Nat) : ∀ (l pre : List Nat), ((List.range' pre.length (l.length + 1)).filter fun i => decide ((pre ++ l)[i]? = some c)).length = l.count c
  | [], pre => by simp [List.range'_succ]
  | x :: l, pre => by
    have ih := filter_count c l (pre ++ [x])
    rw [List.length_append, List.length_singleton, List.append_assoc, List.singleton_append] at ih
    rw [List.length_cons, List.range'_succ, List.filter_cons, List.count_cons]
    have e : (pre ++ x :: l)[pre.length]? = some x := by simp
    rw [e]
    by_cases q : x = c
    · subst q; simp [ih]
    · rw [if_neg (by simpa using q), ih, if_neg (by simpa using q)]; rfl
theorem count_nl (l : List Nat) : Txt.count (chS l) (Str.ofString "\n") = (nl l : Int) := by
  show ((Builtin.Str.occurrences (chS l) ⟨#[10]⟩ 0 (chS l).length ((chS l).length + 1)).length : Int) = _
  rw [StrLaws.occ_eq, Array.length_toList, occ_count (chS l) 10 _ _ _ _ (fun i _ => Nat.zero_le i) List.pairwise_lt_range' (by rw [List.length_range']; simp), chS_len]
  have := filter_count 10 l []
  simp only [List.length_nil, List.nil_append] at this
  show ((0 + ((List.range' 0 (l.length + 1 - 0)).filter fun i => decide (l[i]? = some 10)).length : Nat) : Int) = _
  rw [Nat.sub_zero, this, Nat.zero_add]; rfl
section
variable {α : Type}
theorem pickA (l : List α) : pick l none none = l := by unfold pick kms_lo kms_hi; simp
theorem pickD (l : List α) (p : Nat) : pick l (some (p : Int)) none = l.drop p := by
  have h1 : ¬ ((p : Int) < 0) := Int.not_lt.mpr (Int.natCast_nonneg p)
  unfold pick kms_lo kms_hi
  simp only [h1, if_false, Int.toNat_natCast]
  rcases Nat.le_total p l.length with h | h
  · rw [Nat.min_eq_left h, List.take_of_length_le (by rw [List.length_drop]; exact Nat.le_refl _)]
  · rw [Nat.min_eq_right h, Nat.sub_self, List.take_zero, List.drop_of_length_le h]
theorem pickT (l : List α) (p : Nat) : pick l none (some (p : Int)) = l.take p := by
  have h1 : ¬ ((p : Int) < 0) := Int.not_lt.mpr (Int.natCast_nonneg p)
  unfold pick kms_lo kms_hi
  simp only [h1, if_false, Int.toNat_natCast, List.drop_zero, Nat.sub_zero]
  rcases Nat.le_total p l.length with h | h
  · rw [Nat.min_eq_left h]
  · rw [Nat.min_eq_right h, List.take_of_length_le (Nat.le_refl _), List.take_of_length_le h]
theorem pickO (l : List α) (p : Nat) : pick l (some (p : Int)) (some ((p : Int) + 1)) = (l.drop p).take 1 := by
  have h1 : ¬ ((p : Int) < 0) := Int.not_lt.mpr (Int.natCast_nonneg p)
  have h2 : ¬ ((p : Int) + 1 < 0) := by omega
  have e1 : ((p : Int) + 1).toNat = p + 1 := rfl
  unfold pick kms_lo kms_hi
  simp only [h1, h2, if_false, Int.toNat_natCast, e1]
  by_cases hp : p < l.length
  · rw [Nat.min_eq_left (Nat.le_of_lt hp), Nat.min_eq_left hp, Nat.succ_eq_add_one, Nat.add_sub_cancel_left]
  · have hp := Nat.not_lt.mp hp
    rw [Nat.min_eq_right hp, Nat.min_eq_right (Nat.le_succ_of_le hp), Nat.sub_self, List.take_zero, List.drop_of_length_le hp]; rfl
end
def rngL (a n : Nat) : List CV := (List.range n).map fun i => CV.int ((a + i : Nat) : Int)
theorem rngL_len (a n : Nat) : (rngL a n).length = n := by simp [rngL]
theorem rngF_eq {a n i : Nat} {H : CHeap} : rngF a ((a + n : Nat) : Int) i H = (rngL a n)[i]? := by
  unfold rngF rngL
  rw [List.getElem?_map]
  by_cases h : i < n
  · rw [List.getElem?_range h, if_pos (by omega)]; rfl
  · rw [List.getElem?_eq_none (by rw [List.length_range]; omega), if_neg (by omega)]; rfl
theorem rngL_get {a n i : Nat} {V : CV} (h : (rngL a n)[i]? = some V) : i < n ∧ V = .int ((a + i : Nat) : Int) := by
  have hi : i < n := by have := (List.getElem?_eq_some_iff.mp h).1; rwa [rngL_len] at this
  unfold rngL at h
  rw [List.getElem?_map, List.getElem?_range hi] at h
  exact ⟨hi, (Option.some.inj h).symm⟩
def chrs (w : List Nat) : List CV := w.map fun c => CV.str (chS [c])
theorem strF_eq {w : List Nat} {i : Nat} {H : CHeap} : strF (chS w) i H = (chrs w)[i]? := by
  unfold strF chrs; rw [List.getElem?_map]; simp [chS]
theorem comp_map {X : Wd} {A : Around} {E : Loc → CHeap → Prop} {env : Env} {m : Loc} {H : CHeap} {Q : CV → CHeap → Prop} {elt iter : Expr} {x : Str} {px : Pos} {scope : Scope} {cl : List (Str × Addr)} {pos : Pos} {sc : Scope} {cells : List (Str × Addr)} {cd : Value} {qual : Str} (ok : EnvOk env sc cells cd qual)
    (f : Nat → CHeap → Option CV) (G : CHeap → Prop) (J : Nat → CHeap → Prop) (Vs Ws : List CV) (hA : A.handled = none)
    (hclos : closL cells scope.names [] = some cl) (hcell : ∀ y ∈ scope.names, y.2 ≠ .cell) (hkind : scope.kind = .function) (hnames : ∀ y ∈ scope.names, y.2 = .local → scope.names.lookup y.1 = some .local) (hx : scope.names.lookup x = some .local)
    (hs : ∀ v, foldedSetIterable iter env v = pure v)
    (hlen : Vs.length = Ws.length) (hz : Ws.length ≤ sizeLine) (hG : ∀ i Hx, J i Hx → G Hx) (hf : ∀ i Hx, J i Hx → f i Hx = Vs[i]?)
    (h : EvE X A E env iter (fun V H1 => IterR X A (E m) V f G H1 ∧ J 0 H1) m H)
    (turn : ∀ E' cenv i Hx V W, EnvOk cenv (relabelS scope sc) cl cd qual → J i Hx → Vs[i]? = some V → Ws[i]? = some W → EvE X A E' cenv elt (fun W' H2 => W' = W ∧ J (i + 1) H2) [(x, V)] Hx)
    (fin : ∀ Hx a, J Ws.length Hx → Hx a = none → Q (.ref a) (upd Hx a (.list Ws))) : EvE X A E env (.ListComp elt [⟨.Name x px, iter, [], 0⟩] scope pos) Q m H := by
  have lt : ∀ {i Hx}, J i Hx → f i Hx ≠ none → i < Vs.length := fun {i Hx} j q => Classical.byContradiction fun n => q ((hf i Hx j).trans (List.getElem?_eq_none (Nat.not_lt.mp n)))
  obtain ⟨I, hI⟩ := named3 (fun (i : Nat) (ys : List CV) (Hx : CHeap) => J i Hx ∧ i ≤ Vs.length ∧ ys = Ws.take i)
  refine ev_comp ok f G I Vs.length hA hclos hcell hkind hnames hx (fun i ys Hx hi => hG i Hx ((hI _ _ _).mp hi).1) (fun i ys Hx hi => lt ((hI _ _ _).mp hi).1) (h.mono fun V H1 ⟨a, b⟩ => ⟨a, (hI _ _ _).mpr ⟨b, Nat.zero_le _, rfl⟩⟩) ?_ ?_ hs
  · intro E' cenv i ys Hx V okc hi hfi _
    obtain ⟨j, hil, rfl⟩ := (hI _ _ _).mp hi
    have hV := (hf i Hx j).symm.trans hfi
    have hlt := (List.getElem?_eq_some_iff.mp hV).1
    have hW := List.getElem?_eq_getElem (hlen ▸ hlt : i < Ws.length)
    refine evt_nil ?_
    refine two_true ?_
    refine (turn E' cenv i Hx V _ okc j hV hW).mono ?_
    rintro W' H2 ⟨rfl, j2⟩
    refine ⟨Nat.le_trans (by rw [List.length_take]; exact Nat.min_le_right _ _) hz, (hI _ _ _).mpr ⟨j2, hlt, ?_⟩⟩
    rw [List.take_add_one, hW]; rfl
  · intro i ys Hx hi hn a fa
    obtain ⟨j, hil, rfl⟩ := (hI _ _ _).mp hi
    have hge := List.getElem?_eq_none_iff.mp ((hf i Hx j).symm.trans hn)
    have e : i = Ws.length := by rw [← hlen]; exact Nat.le_antisymm hil hge
    subst e
    rw [List.take_length]
    exact fin Hx a j fa
/-- the words that wait -/
theorem poptok_spec {X : Wd} {P : Params} (W : W01 X P) {A : Around} {E : CHeap → Prop} {H : CHeap} {Q : CV → CHeap → Prop} {r d pl : Addr} {ln : Int} {src V : CV} {xs : List CV} (ro : Room A 1) (hr : H r = some (.inst 94 d)) (hdd : H d = some (.idict (rF ln src pl))) (hpl : H pl = some (.list (V :: xs))) (hz : xs.length ≤ 100000) (h : Q V (upd H pl (.list xs))) : Cl X A E (.glob 84) [.ref r] Q H := by
  have hK := W.hK
  refine cl_def (ns := [Str.ofString "self"]) (n := 0) (by rw [hK]; rfl) (by rw [hK]; rfl) rfl (len1 fun _ => rfl) rfl (by decide) (by decide) (by decide) rfl rfl rfl rfl rfl rfl ro ?_
  intro A' E' env ro' ok hL
  repeat walk_at "e"
  refine tr_list hpl (Nat.lt_of_le_of_lt (Nat.succ_le_succ hz) (by decide)) ?_
  refine two_true ?_
  repeat walk_at "e"
  exact cl_pop0 hpl (Nat.lt_of_le_of_lt hz (by decide)) h
theorem pushtok_spec {X : Wd} {P : Params} (W : W01 X P) {A : Around} {E : CHeap → Prop} {H : CHeap} {Q : CV → CHeap → Prop} {r d pl : Addr} {ln : Int} {src V : CV} {xs : List CV} (ro : Room A 1) (hr : H r = some (.inst 94 d)) (hdd : H d = some (.idict (rF ln src pl))) (hpl : H pl = some (.list xs)) (hz : xs.length ≤ 100000) (h : Q .none (upd H pl (.list (xs ++ [V])))) : Cl X A E (.glob 91) [.ref r, V] Q H := by
  have hK := W.hK
  refine cl_def (ns := [Str.ofString "self", Str.ofString "token"]) (n := 0) (by rw [hK]; rfl) (by rw [hK]; rfl) rfl (len2 fun _ _ => rfl) rfl (by decide) (by decide) (by decide) rfl rfl rfl rfl rfl rfl ro ?_
  intro A' E' env ro' ok hL
  repeat walk_at "e"
  refine cl_append hpl (Nat.le_trans hz (by decide)) ?_
  repeat walk_at "e"
  exact h
theorem wds_str (l : List (List Nat)) : wds l = (l.map chS).map CV.str := by unfold wds; rw [List.map_map]; rfl
theorem join_flat (l : List (List Nat)) : Txt.join (Str.ofString "") (l.map chS) = chS l.flatten := by
  show Builtin.Str.glued (Str.ofString "") (l.map chS) = _
  rw [StrLaws.glued_eq_join]
  induction l with
  | nil => rfl
  | cons a r ih =>
    cases r with
    | nil => simp [Str.join]
    | cons b t =>
      show chS a ++ Str.ofString "" ++ Str.join (Str.ofString "") ((b :: t).map chS) = _
      rw [ih, show Str.ofString "" = chS [] from rfl, chS_app, chS_app, List.append_nil]
      simp
theorem join_len (l : List (List Nat)) : ((l.map chS).map (·.length)).sum = l.flatten.length := by
  induction l with
  | nil => rfl
  | cons a r ih => rw [List.map_cons, List.map_cons, List.sum_cons, ih, List.flatten_cons, List.length_append, chS_len]
theorem cl_joinw {X : Wd} {A : Around} {E : CHeap → Prop} {H : CHeap} {Q : CV → CHeap → Prop} {l : Addr} {ws : List (List Nat)} (hl : H l = some (.list (wds ws))) (hz : ws.flatten.length ≤ 10000) (h : Q (.str (chS ws.flatten)) H) : Cl X A E (.bi "str.join") [.str (Str.ofString ""), .ref l] Q H := by
  refine cl_join (ys := ws.map chS) (by rw [hl, wds_str]) ?_ (by rw [join_flat]; exact h)
  rw [join_len]
  exact Nat.le_trans (show _ ≤ 10000 from hz) (by decide)
theorem in_a : ∀ c, c < 128 → Txt.contains (Str.ofString "\"\\") (chS [c]) = [34, 92].contains c := by
  have : ∀ c : Fin 128, Txt.contains (Str.ofString "\"\\") (chS [c.val]) = [34, 92].contains c.val := by decide +kernel
  exact fun c hc => this ⟨c, hc⟩
theorem flat_len2 {g : Nat → List Nat} (hg : ∀ c, (g c).length ≤ 2) (w : List Nat) : (w.map g).flatten.length ≤ w.length * 2 := by
  have := flat_le (l := w.map g) (n := 2) (by simpa using fun a _ => hg a)
  rwa [List.length_map] at this
theorem esq_le (q : List Nat) (c : Nat) : (esq q c).length ≤ 2 := by unfold esq; split <;> simp
theorem comp_chars {X : Wd} {A : Around} {E : Loc → CHeap → Prop} {env : Env} {m : Loc} {H : CHeap} {Q : CV → CHeap → Prop} {elt iter : Expr} {x : Str} {px : Pos} {scope : Scope} {cl : List (Str × Addr)} {pos : Pos} {sc : Scope} {cells : List (Str × Addr)} {cd : Value} {qual : Str} (ok : EnvOk env sc cells cd qual)
    (w : List Nat) (g : Nat → List Nat) (hA : A.handled = none) (hw : w.length ≤ 1000)
    (hclos : closL cells scope.names [] = some cl) (hcell : ∀ y ∈ scope.names, y.2 ≠ .cell) (hkind : scope.kind = .function) (hnames : ∀ y ∈ scope.names, y.2 = .local → scope.names.lookup y.1 = some .local) (hx : scope.names.lookup x = some .local)
    (hs : ∀ v, foldedSetIterable iter env v = pure v)
    (h : EvE X A E env iter (fun V H1 => V = .str (chS w) ∧ H1 = H) m H)
    (turn : ∀ E' cenv c, EnvOk cenv (relabelS scope sc) cl cd qual → c ∈ w → EvE X A E' cenv elt (fun W' H2 => W' = .str (chS (g c)) ∧ H2 = H) [(x, .str (chS [c]))] H)
    (fin : ∀ a, H a = none → Q (.ref a) (upd H a (.list (wds (w.map g))))) : EvE X A E env (.ListComp elt [⟨.Name x px, iter, [], 0⟩] scope pos) Q m H := by
  refine comp_map ok (strF (chS w)) (fun _ => True) (fun _ Hx => Hx = H) (chrs w) (wds (w.map g)) hA hclos hcell hkind hnames hx hs (by unfold chrs wds; rw [List.length_map, List.length_map, List.length_map]) (by rw [wds_len, List.length_map]; exact Nat.le_trans hw (by decide)) (fun _ _ _ => trivial) (fun i Hx _ => strF_eq) ?_ ?_ ?_
  · refine h.mono ?_
    rintro V H1 ⟨rfl, rfl⟩
    exact ⟨iter_str, rfl⟩
  · rintro E' cenv i Hx V W okc rfl hV hW
    unfold chrs at hV
    rw [wds_get, List.getElem?_map] at hW
    rw [List.getElem?_map] at hV
    cases z : w[i]? with
    | none => rw [z] at hV; cases hV
    | some c =>
      rw [z] at hV hW
      cases hV; cases hW
      exact turn E' cenv c okc (List.mem_of_getElem? z)
  · rintro Hx a rfl fa
    exact fin a fa
theorem bin_add_chS {X : Wd} {A : Around} {E : CHeap → Prop} {H : CHeap} {Q : CV → CHeap → Prop} {a b : List Nat} (h1 : a.length ≤ 10000) (h2 : b.length ≤ 10000) (h : Q (.str (chS (a ++ b))) H) : BinR X A E .Add (.str (chS a)) (.str (chS b)) H Q := by
  refine bin_add_str ?_ (by rw [chS_app]; exact h)
  rw [chS_len, chS_len]
  exact Nat.le_trans (Nat.add_le_add h1 h2) (by decide)
theorem rd_wds {H : CHeap} {l : Addr} {ws : List (List Nat)} (hl : H l = some (.list (wds ws))) : Rd H (.ref l) (.list (ws.map fun w => .str (chS w))) := by
  refine .list hl ?_
  unfold wds
  clear hl
  induction ws with
  | nil => exact .nil
  | cons a r ih => exact .cons (.str _) ih
theorem chS_ok {l : List Nat} (h : ∀ c ∈ l, c < 128) : PyData.strOk (chS l) = true := by
  unfold PyData.strOk chS
  rw [Array.all_eq_true_iff_forall_mem]
  intro c hc
  have := h c (by simpa using hc)
  simp; omega
theorem lay_wds : ∀ {ws : List (List Nat)}, (∀ w ∈ ws, ∀ c ∈ w, c < 128) → PyData.canLayAll0 (ws.map fun w => .str (chS w)) = true
  | [], _ => rfl
  | a :: r, h => by
    rw [List.map_cons]
    unfold PyData.canLayAll0 PyData.canLay0
    rw [chS_ok (h a (.head _)), lay_wds fun w hw => h w (.tail _ hw)]; rfl
theorem depth_wds : ∀ (ws : List (List Nat)), (PyData.list (ws.map fun w => .str (chS w))).depth ≤ 1
  | [] => by simp [PyData.depth, PyData.depthAll]
  | a :: r => by
    have := depth_wds r
    unfold PyData.depth at this ⊢
    rw [List.map_cons]
    unfold PyData.depthAll PyData.depth
    omega
end
section
set_option maxRecDepth 100000
set_option maxHeartbeats 4000000
def d8 (n : Nat) : List Nat := if h : n = 0 then [] else n % 8 :: d8 (n / 8)
termination_by n
decreasing_by exact Nat.div_lt_self (Nat.pos_of_ne_zero h) (by decide)
theorem d8_zero : d8 0 = [] := by rw [d8, dif_pos rfl]
theorem d8_pos {n : Nat} (h : n ≠ 0) : d8 n = n % 8 :: d8 (n / 8) := by rw [d8, dif_neg h]
theorem d8_lt : ∀ k n, n < 8 ^ k → (d8 n).length ≤ k ∧ ∀ d ∈ d8 n, d < 8
  | 0, n, h => by
    obtain rfl : n = 0 := Nat.lt_one_iff.mp h
    rw [d8_zero]; exact ⟨Nat.le_refl _, fun d hd => nomatch hd⟩
  | k + 1, n, h => by
    by_cases q : n = 0
    · subst q; rw [d8_zero]; exact ⟨Nat.zero_le _, fun d hd => nomatch hd⟩
    · obtain ⟨a, b⟩ := d8_lt k (n / 8) (Nat.div_lt_of_lt_mul (by rw [Nat.pow_succ, Nat.mul_comm] at h; exact h))
      rw [d8_pos q]
      exact ⟨Nat.succ_le_succ a, fun d hd => (List.mem_cons.mp hd).elim (fun e => e ▸ Nat.mod_lt _ (by decide)) (b d)⟩
theorem spread_d8 : ∀ k n, n < 8 ^ k → (k = 0 ∨ 8 ^ (k - 1) ≤ n) → spread 8 n k = d8 n
  | 0, n, h, _ => by
    obtain rfl : n = 0 := Nat.lt_one_iff.mp h
    rw [d8_zero]; rfl
  | 1, n, h, q => by
    have q : 1 ≤ n := q.elim (fun e => nomatch e) id
    have h : n < 8 := h
    rw [d8_pos (by omega), show n / 8 = 0 by omega, d8_zero]; rfl
  | k + 2, n, h, q => by
    have q : 8 ^ (k + 1) ≤ n := q.elim (fun e => nomatch e) id
    rw [Nat.pow_succ] at q
    rw [Nat.pow_succ] at h
    have h0 : 0 < 8 ^ k := Nat.pow_pos (by decide)
    rw [d8_pos (by omega), spread_succ, spread_d8 (k + 1) (n / 8) (Nat.div_lt_of_lt_mul (by rw [Nat.mul_comm]; exact h)) (.inr ((Nat.le_div_iff_mul_le (by decide)).mpr q))]
theorem spread_bits (n : Nat) : spread 8 n ((Builtin.Int.intBits (n : Int) + 3 - 1) / 3) = d8 n := by
  have p8 : ∀ k, 8 ^ k = 2 ^ (3 * k) := fun k => by rw [Nat.pow_mul]
  have h1 : n < 2 ^ Builtin.Int.intBits (n : Int) := by have := (intBits_le_iff (x := (n : Int)) (m := Builtin.Int.intBits n)).mp (Nat.le_refl _); simpa using this
  generalize hb : Builtin.Int.intBits (n : Int) = b at h1 ⊢
  refine spread_d8 _ _ ?_ ?_
  · rw [p8]; exact Nat.lt_of_lt_of_le h1 (Nat.pow_le_pow_right (by decide) (by omega))
  · rcases Nat.eq_zero_or_pos b with q | q
    · subst q; exact .inl rfl
    · refine .inr (Nat.not_lt.mp fun z => ?_)
      rw [p8] at z
      have := (intBits_le_iff (x := (n : Int)) (m := 3 * ((b + 3 - 1) / 3 - 1))).mpr (by simpa using z)
      rw [hb] at this
      omega
theorem undig_d8 : ∀ k n, n < 8 ^ k → undig 8 (d8 n) = n
  | 0, n, h => by
    obtain rfl : n = 0 := Nat.lt_one_iff.mp h
    rw [d8_zero]; rfl
  | k + 1, n, h => by
    by_cases q : n = 0
    · subst q; rw [d8_zero]; rfl
    · rw [d8_pos q, undig_cons, undig_d8 k (n / 8) (Nat.div_lt_of_lt_mul (by rw [Nat.pow_succ, Nat.mul_comm] at h; exact h))]
      omega
def tw : Th → List Nat
  | .num v => (if v < 0 then 45 else 43) :: (d8 v.natAbs).map sgn
  | .op d => [opN d]
theorem tw_len {x : Th} (h : okT x) : (tw x).length ≤ 13 := by
  cases x with
  | op d => exact (by decide : 1 ≤ 13)
  | num v => exact Nat.succ_le_succ (by rw [List.length_map]; exact (d8_lt 12 _ h).1)
theorem sgn_low {d : Nat} (h : d < 8) : sgn d < 128 := by
  have : ∀ d : Fin 8, sgn d.val < 128 := by decide
  exact this ⟨d, h⟩
theorem tw_low {x : Th} (h : okT x) : ∀ c ∈ tw x, c < 128 := by
  intro c hc
  cases x with
  | op d => cases d <;> (rw [List.mem_singleton.mp hc]; decide)
  | num v =>
    rcases List.mem_cons.mp hc with rfl | hc
    · split <;> decide
    · obtain ⟨d, hd, rfl⟩ := List.mem_map.mp hc
      exact sgn_low ((d8_lt 12 _ h).2 d hd)
theorem abs_nat (v : Int) : (if v < 0 then -v else v) = (v.natAbs : Int) := by split <;> omega
theorem slash_ok (d : Bool) : PyData.strOk (chS [opN d]) = true := chS_ok fun c hc => by cases d <;> (rw [List.mem_singleton.mp hc]; decide)
theorem cmp_int_str {X : Wd} {A : Around} {E : CHeap → Prop} {H : CHeap} {Q : CV → CHeap → Prop} {v : Int} (d : Bool) {n : Nat} (ro : Room A n) (h : Q (.bool false) H) : CmpR X A E .Eq (.int v) (.str (chS [opN d])) H Q :=
  cmp_eq_data (.int v) (.str _) (by unfold PyData.canLay0; rfl) (by unfold PyData.canLay0; exact slash_ok d) (by have := ro.un; simp only [PyData.depth]; omega) (by rw [show PyData.eqv (.int v) (.str (chS [opN d])) = false by simp [PyData.eqv]]; exact h)
theorem plain_word_spec {X : Wd} {P : Params} (W : W01 X P) {x : Th} {A : Around} {E : CHeap → Prop} {H : CHeap} {Q : CV → CHeap → Prop} (hx : okT x) (ro : Room A 2) (h : Q (.str (chS (tw x))) H) : Cl X A E (.glob 145) [thC x] Q H := by
  have hK := W.hK
  refine cl_def (ns := [Str.ofString "thing"]) (n := 1) (by rw [hK]; rfl) (by rw [hK]; rfl) rfl (len1 fun _ => rfl) rfl (by decide) (by decide) (by decide) rfl rfl rfl rfl rfl rfl ro ?_
  intro A' E' env ro' ok hL
  have hu := ro'.un
  cases x with
  | op d =>
    cases d with
    | true =>
      repeat walk_at "e"
      refine cmp_eq_str (x := chS [47]) ?_
      repeat walk_at "e"
      refine ⟨fun z => absurd z (by decide), fun _ => two_true ?_⟩
      repeat walk_at "e"
      exact h
    | false =>
      repeat walk_at "e"
      refine cmp_eq_str (x := chS [37]) ?_
      repeat walk_at "e"
      refine ⟨fun _ => ?_, fun z => absurd z (by decide)⟩
      repeat walk_at "e"
      refine cmp_eq_str (x := chS [37]) ?_
      repeat walk_at "e"
      refine ⟨fun z => absurd z (by decide), fun _ => two_true ?_⟩
      repeat walk_at "e"
      exact h
  | num v =>
    repeat walk_at "e"
    refine cmp_int_str true ro' ?_
    repeat walk_at "e"
    refine ⟨fun _ => ?_, fun z => nomatch z⟩
    repeat walk_at "e"
    refine cmp_int_str false ro' ?_
    repeat walk_at "e"
    refine ⟨fun _ => ?_, fun z => nomatch z⟩
    repeat walk_at "e"
    refine two_false ?_
    iterate 3 walk_at "e"
    refine EvE.mono (Q := fun V H' => V = .str (chS [if v < 0 then 45 else 43]) ∧ H' = H) ?_ ?_
    · repeat walk_at "e"
      refine cmp_lt (a := v) (b := 0) ?_
      repeat walk_at "e"
      refine ⟨fun z => ?_, fun z => ?_⟩
      · repeat walk_at "e"
        rw [if_pos (of_decide_eq_true z)]; exact ⟨rfl, rfl⟩
      · repeat walk_at "e"
        rw [if_neg (of_decide_eq_false z)]; exact ⟨rfl, rfl⟩
    rintro V H' ⟨rfl, rfl⟩
    repeat walk_at "e"
    refine cl_abs (a := v) ?_
    rw [abs_nat]
    repeat walk_at "e"
    have hx : v.natAbs < 8 ^ 12 := hx
    obtain ⟨I, hI⟩ := named3 (fun (n : Nat) (m : Loc) (Hx : CHeap) => Hx = H' ∧ ∃ acc, m.lookup (Str.ofString "word") = some (.str (chS acc)) ∧ m.lookup (Str.ofString "size") = some (.int (n : Nat)) ∧ tw (.num v) = acc ++ (d8 n).map sgn ∧ n < 8 ^ 12)
    refine ex_while I v.natAbs ((hI _ _ _).mpr ⟨rfl, [if v < 0 then 45 else 43], by walk_at "lk", by walk_at "lk", rfl, hx⟩) ?_
    intro E2 n m Hx hi hLL
    obtain ⟨rfl, acc, m1, m2, e, hn⟩ := (hI _ _ _).mp hi
    have hal : acc.length ≤ 13 := by
      have := tw_len (x := .num v) hx
      rw [e, List.length_append] at this; omega
    repeat walk_at "e"
    refine ⟨fun z => ?_, fun z => ?_⟩
    · have h0 : n ≠ 0 := by have := of_decide_eq_true z; omega
      repeat walk_at "e"
      refine signs_spec W (ro'.le (by decide)) ?_
      repeat walk_at "e"
      refine bin_mod (by decide) ?_
      have em : (n : Int).fmod 8 = ((n % 8 : Nat) : Int) := by rw [Int.fmod_eq_emod_of_nonneg _ (by decide)]; rfl
      rw [em]
      repeat walk_at "e"
      refine sub_str (c := sgn (n % 8)) (Int.natCast_nonneg _) (by rw [Int.toNat_natCast]; exact sgn_at (Nat.mod_lt _ (by decide))) (by decide) (fun _ _ => rfl) ?_
      refine inp_add_str (x := chS acc) (y := chS [sgn (n % 8)]) (by rw [chS_len, chS_len]; exact Nat.le_trans (Nat.add_le_add hal (Nat.le_refl 1)) (by decide)) ?_
      rw [chS_app]
      repeat walk_at "e"
      refine bin_div (by decide) (PyProof.noPylong_small (by decide)) ?_
      have ed : (n : Int).fdiv 8 = ((n / 8 : Nat) : Int) := by rw [Int.fdiv_eq_ediv_of_nonneg _ (by decide)]; rfl
      rw [ed]
      repeat walk_at "e"
      refine ⟨n / 8, Nat.div_lt_self (Nat.pos_of_ne_zero h0) (by decide), (hI _ _ _).mpr ⟨rfl, acc ++ [sgn (n % 8)], by walk_at "lk", by walk_at "lk", ?_, Nat.lt_of_le_of_lt (Nat.div_le_self _ _) hn⟩⟩
      rw [e, d8_pos h0, List.append_assoc]; rfl
    · have h0 : n = 0 := by have := of_decide_eq_false z; omega
      subst h0
      rw [d8_zero] at e
      rw [List.map_nil, List.append_nil] at e
      rw [e] at h
      repeat walk_at "e"
      exact h
end
section
set_option maxRecDepth 100000
set_option maxHeartbeats 4000000
theorem comp_list {X : Wd} {A : Around} {E : Loc → CHeap → Prop} {env : Env} {m : Loc} {H : CHeap} {Q : CV → CHeap → Prop} {elt iter : Expr} {x : Str} {px : Pos} {scope : Scope} {cl : List (Str × Addr)} {pos : Pos} {sc : Scope} {cells : List (Str × Addr)} {cd : Value} {qual : Str} (ok : EnvOk env sc cells cd qual)
    (J : Addr → Nat → CHeap → Prop) (Vs Ws : List CV) (hA : A.handled = none)
    (hclos : closL cells scope.names [] = some cl) (hcell : ∀ y ∈ scope.names, y.2 ≠ .cell) (hkind : scope.kind = .function) (hnames : ∀ y ∈ scope.names, y.2 = .local → scope.names.lookup y.1 = some .local) (hx : scope.names.lookup x = some .local)
    (hs : ∀ v, foldedSetIterable iter env v = pure v)
    (hlen : Vs.length = Ws.length) (hz : Ws.length ≤ sizeLine) (hl : ∀ l i Hx, J l i Hx → Hx l = some (.list Vs))
    (h : EvE X A E env iter (fun V H1 => ∃ l, V = .ref l ∧ J l 0 H1) m H)
    (turn : ∀ E' cenv l i Hx V W, EnvOk cenv (relabelS scope sc) cl cd qual → J l i Hx → Vs[i]? = some V → Ws[i]? = some W → EvE X A E' cenv elt (fun W' H2 => W' = W ∧ J l (i + 1) H2) [(x, V)] Hx)
    (fin : ∀ l Hx a, J l Ws.length Hx → Hx a = none → Q (.ref a) (upd Hx a (.list Ws))) : EvE X A E env (.ListComp elt [⟨.Name x px, iter, [], 0⟩] scope pos) Q m H := by
  have hf : ∀ {l i Hx}, J l i Hx → listF l i Hx = Vs[i]? := fun j => listF_eq (hl _ _ _ j)
  obtain ⟨I, hI⟩ := named4 (fun (V : CV) (i : Nat) (ys : List CV) (Hx : CHeap) => ∃ l, V = .ref l ∧ J l i Hx ∧ i ≤ Vs.length ∧ ys = Ws.take i)
  refine ev_compV ok lstF lstG I Vs.length hA hclos hcell hkind hnames hx ?_ ?_ (h.mono ?_) ?_ ?_ hs
  · intro V i ys Hx hi
    obtain ⟨l, rfl, j, _⟩ := (hI _ _ _ _).mp hi
    exact ⟨_, hl _ _ _ j⟩
  · intro V i ys Hx hi hn
    obtain ⟨l, rfl, j, _⟩ := (hI _ _ _ _).mp hi
    exact Classical.byContradiction fun n => hn ((hf j).trans (List.getElem?_eq_none (Nat.not_lt.mp n)))
  · rintro V H1 ⟨l, rfl, j⟩
    exact ⟨iter_list (hl _ _ _ j), (hI _ _ _ _).mpr ⟨l, rfl, j, Nat.zero_le _, rfl⟩⟩
  · intro E' cenv U i ys Hx V okc hi hfi _
    obtain ⟨l, rfl, j, hil, rfl⟩ := (hI _ _ _ _).mp hi
    have hV := (hf j).symm.trans hfi
    have hlt := (List.getElem?_eq_some_iff.mp hV).1
    have hW := List.getElem?_eq_getElem (hlen ▸ hlt : i < Ws.length)
    refine evt_nil ?_
    refine two_true ?_
    refine (turn E' cenv l i Hx V _ okc j hV hW).mono ?_
    rintro W' H2 ⟨rfl, j2⟩
    refine ⟨Nat.le_trans (by rw [List.length_take]; exact Nat.min_le_right _ _) hz, (hI _ _ _ _).mpr ⟨l, rfl, j2, hlt, ?_⟩⟩
    rw [List.take_add_one, hW]; rfl
  · intro U i ys Hx hi hn a fa
    obtain ⟨l, rfl, j, hil, rfl⟩ := (hI _ _ _ _).mp hi
    have hge := List.getElem?_eq_none_iff.mp ((hf j).symm.trans hn)
    have e : i = Ws.length := by rw [← hlen]; exact Nat.le_antisymm hil hge
    subst e
    rw [List.take_length]
    exact fin l Hx a j fa
theorem digs_flat (l : List Nat) : (l.map fun d => [sgn d]).flatten = l.map sgn := by
  induction l with
  | nil => rfl
  | cons a r ih => rw [List.map_cons, List.flatten_cons, ih]; rfl
theorem word_spec {X : Wd} {P : Params} (W : W01 X P) {v : Int} {A : Around} {E : CHeap → Prop} {H : CHeap} {Q : CV → CHeap → Prop} (hx : v.natAbs < 8 ^ 12) (ro : Room A 32) (h : ∀ H', Ext H H' → Q (.str (chS (tw (.num v)))) H') : Cl X A E (.glob 155) [.int v] Q H := by
  have hK := W.hK
  refine cl_def (ns := [Str.ofString "number"]) (n := 31) (by rw [hK]; rfl) (by rw [hK]; rfl) rfl (len1 fun _ => rfl) rfl (by decide) (by decide) (by decide) rfl rfl rfl rfl rfl rfl ro ?_
  intro A' E' env ro' ok hL
  have hd := d8_lt 12 _ hx
  have hbits : Builtin.Int.intBits ((v.natAbs : Nat) : Int) ≤ 10000 := intBits_le_iff.mpr (by
    rw [Int.natAbs_natCast]
    exact Nat.lt_of_lt_of_le hx (Nat.le_trans (show 8 ^ 12 ≤ 2 ^ 36 by decide) (Nat.pow_le_pow_right (by decide) (by decide))))
  iterate 3 walk_at "e"
  refine EvE.mono (Q := fun V H' => V = .str (chS [if v < 0 then 45 else 43]) ∧ H' = H) ?_ ?_
  · repeat walk_at "e"
    refine ⟨fun z => ?_, fun z => ?_⟩
    · repeat walk_at "e"
      rw [if_pos (of_decide_eq_true z)]; exact ⟨rfl, rfl⟩
    · repeat walk_at "e"
      rw [if_neg (of_decide_eq_false z)]; exact ⟨rfl, rfl⟩
  rintro V H' ⟨rfl, rfl⟩
  repeat walk_at "e"
  refine comp_list ok (fun l _ Hx => Ext H' Hx ∧ Hx l = some (.list (nums (d8 v.natAbs)))) (nums (d8 v.natAbs)) (wds ((d8 v.natAbs).map fun d => [sgn d])) ro'.hd rfl (by decide) rfl (by decide) rfl (fun _ => rfl) (by rw [nums_len, wds_len, List.length_map]) (by rw [wds_len, List.length_map]; exact Nat.le_trans hd.1 (by decide)) (fun l i Hx j => j.2) ?_ ?_ ?_
  · repeat walk_at "e"
    rw [abs_nat]
    repeat walk_at "e"
    refine i2d_spec (a := v.natAbs) (n := 3) W (ro'.le (by decide)) (by decide) (by decide) hbits ?_
    intro l H1 fl e1 g1
    rw [show (2 : Nat) ^ 3 = 8 from rfl, spread_bits] at g1
    exact ⟨l, rfl, e1, g1⟩
  · rintro E3 cenv l i Hx V Wv okc ⟨ex, gx⟩ hV hW
    rw [nums_get] at hV
    rw [wds_get, List.getElem?_map] at hW
    cases z : (d8 v.natAbs)[i]? with
    | none => rw [z] at hV; cases hV
    | some d =>
      rw [z] at hV hW
      cases hV; cases hW
      have hd8 := hd.2 d (List.mem_of_getElem? z)
      repeat walk_at "e"
      refine signs_spec W (ro'.le (by decide)) ?_
      repeat walk_at "e"
      refine sub_str (c := sgn d) (Int.natCast_nonneg _) (by rw [Int.toNat_natCast]; exact sgn_at hd8) (by decide) (fun _ _ => rfl) ⟨rfl, ex, gx⟩
  · rintro l Hx a ⟨ex, gx⟩ fa
    have hfl := digs_flat (d8 v.natAbs)
    have hll : ((d8 v.natAbs).map sgn).length ≤ 12 := by rw [List.length_map]; exact hd.1
    repeat walk_at "e"
    refine cl_joinw (upd_self _ _ _) (by rw [hfl]; exact Nat.le_trans hll (by decide)) ?_
    rw [hfl]
    refine bin_add_chS (a := [if v < 0 then 45 else 43]) (by show 1 ≤ 10000; decide) (Nat.le_trans hll (by decide)) ?_
    exact h _ (ex.put (ex.nay fa))
end
section
set_option maxRecDepth 100000
set_option maxHeartbeats 4000000
theorem number_spec {X : Wd} {P : Params} (W : W01 X P) {v : Int} {A : Around} {E : CHeap → Prop} {H : CHeap} {Q : CV → CHeap → Prop} (hx : v.natAbs < 8 ^ 12) (ro : Room A 32) (h : ∀ H', Ext H H' → Q (.int v) H') : Cl X A E (.glob 160) [.str (chS (tw (.num v)))] Q H := by
  have hK := W.hK
  refine cl_def (ns := [Str.ofString "word"]) (n := 31) (by rw [hK]; rfl) (by rw [hK]; rfl) rfl (len1 fun _ => rfl) rfl (by decide) (by decide) (by decide) rfl rfl rfl rfl rfl rfl ro ?_
  intro A' E' env ro' ok hL
  have hd := d8_lt 12 _ hx
  have hll : ((d8 v.natAbs).map sgn).length ≤ 12 := by rw [List.length_map]; exact hd.1
  have htl : (tw (.num v)).length ≤ 13 := Nat.succ_le_succ hll
  repeat walk_at "e"
  refine comp_map ok (strF (chS ((d8 v.natAbs).map sgn))) (fun _ => True) (fun _ Hx => Hx = H) (chrs ((d8 v.natAbs).map sgn)) (nums (d8 v.natAbs)) ro'.hd rfl (by decide) rfl (by decide) rfl (fun _ => rfl) (by unfold chrs; rw [List.length_map, List.length_map, nums_len]) (by rw [nums_len]; exact Nat.le_trans hd.1 (by decide)) (fun _ _ _ => trivial) (fun i Hx _ => strF_eq) ?_ ?_ ?_
  · repeat walk_at "e"
    refine sli_str (by rw [chS_len]; exact Nat.le_trans htl (by decide)) ?_
    rw [show (⟨(pick (chS (tw (.num v))).cps.toList (some 1) none).toArray⟩ : Str) = chS ((d8 v.natAbs).map sgn) from by rw [show (chS (tw (.num v))).cps.toList = tw (.num v) from by simp [chS], show (1 : Int) = ((1 : Nat) : Int) from rfl, pickD]; rfl]
    exact ⟨iter_str, rfl⟩
  · rintro E3 cenv i Hx V Wv okc rfl hV hW
    unfold chrs at hV
    rw [nums_get] at hW
    rw [List.map_map, List.getElem?_map] at hV
    cases z : (d8 v.natAbs)[i]? with
    | none => rw [z] at hV; cases hV
    | some d =>
      rw [z] at hV hW
      cases hV; cases hW
      have hd8 := hd.2 d (List.mem_of_getElem? z)
      have hm : sgn d ∈ sgs := by
        have : ∀ d : Fin 8, sgn d.val ∈ sgs := by decide
        exact this ⟨d, hd8⟩
      repeat walk_at "e"
      refine signs_spec W (ro'.le (by decide)) ?_
      repeat walk_at "e"
      refine cl_find (y := chS [sgn d]) ?_
      rw [find_sgn hm, unsgn_sgn hd8]
      exact ⟨rfl, rfl⟩
  · rintro Hx a rfl fa
    repeat walk_at "e"
    refine d2i_spec (n := 3) W (ro'.le (by decide)) (by decide) (by decide) (upd_self _ _ _) (Nat.le_trans hd.1 (by decide)) (fun d hm => hd.2 d hm) ?_
    intro H1 e1
    rw [show (2 : Nat) ^ 3 = 8 from rfl, undig_d8 12 _ hx]
    repeat walk_at "e"
    refine sub_str (c := if v < 0 then 45 else 43) (by decide) rfl (by rw [chS_len]; exact Nat.lt_of_le_of_lt htl (by decide)) (fun _ _ => rfl) ?_
    repeat walk_at "e"
    have ee := h H1 ((Ext.new fa).trans e1)
    by_cases q : v < 0
    · rw [if_pos q]
      refine two_true ?_
      repeat walk_at "e"
      rw [show -(v.natAbs : Int) = v by omega]
      exact ee
    · rw [if_neg q]
      refine two_false ?_
      repeat walk_at "e"
      rw [show (v.natAbs : Int) = v by omega]
      exact ee
theorem bits12 {v : Int} (hx : v.natAbs < 8 ^ 12) {n : Nat} (hn : 36 ≤ n) : Builtin.Int.intBits v ≤ n := intBits_le_iff.mpr (Nat.lt_of_lt_of_le hx (Nat.le_trans (show 8 ^ 12 ≤ 2 ^ 36 by decide) (Nat.pow_le_pow_right (by decide) hn)))
theorem reckoned_spec {X : Wd} {P : Params} (W : W01 X P) {d : Bool} {a b : Int} {A : Around} {E : CHeap → Prop} {H : CHeap} {Q : CV → CHeap → Prop} (ha : a.natAbs < 8 ^ 12) (hb : b.natAbs < 8 ^ 12) (ro : Room A 36)
    (h : ∀ v, dv d a b = some v → ∀ H', Ext H H' → Q (.str (chS (tw (.num v)))) H') (hx : dv d a b = none → ∀ H', Ext H H' → E H') : Cl X A E (.glob 167) [.str (chS [opN d]), .str (chS (tw (.num a))), .str (chS (tw (.num b)))] Q H := by
  have hK := W.hK
  refine cl_defX (ns := [Str.ofString "sign", Str.ofString "first", Str.ofString "other"]) (n := 35) (by rw [hK]; rfl) (by rw [hK]; rfl) rfl (len3 fun _ _ _ => rfl) rfl (by decide) (by decide) (by decide) rfl rfl rfl rfl rfl rfl ro ?_
  intro A' env ro' ok hL
  repeat walk_at "e"
  refine number_spec W ha (ro'.le (by decide)) ?_
  intro H1 e1
  repeat walk_at "e"
  refine number_spec W hb (ro'.le (by decide)) ?_
  intro H2 e2
  repeat walk_at "e"
  by_cases q : b = 0
  · subst q
    exact idm_zero W (ro'.le (by decide)) (hx (if_pos rfl) H2 (e1.trans e2))
  refine idm_spec W (ro'.le (by decide)) q (bits12 hb (by decide)) (bits12 ha (by decide)) ?_
  intro H3 e3
  have hv : dv d a b = some (if d then a.fdiv b else a.fmod b) := if_neg q
  have hz := dv_le hv ha hb
  have h := h _ hv
  repeat walk_at "e"
  rw [opN_eq]
  refine ⟨fun z => ?_, fun z => ?_⟩
  · subst z
    repeat walk_at "e"
    refine sub_tuple (k := 0) (V := .int (a.fdiv b)) (.inl ⟨by decide, rfl⟩) rfl (by decide : 2 < 2 ^ 62) (fun _ _ => rfl) ?_
    repeat walk_at "e"
    refine word_spec W hz (ro'.le (by decide)) ?_
    intro H4 e4
    exact h H4 (((e1.trans e2).trans e3).trans e4)
  · subst z
    repeat walk_at "e"
    refine sub_tuple (k := 1) (V := .int (a.fmod b)) (.inl ⟨by decide, rfl⟩) rfl (by decide : 2 < 2 ^ 62) (fun _ _ => rfl) ?_
    repeat walk_at "e"
    refine word_spec W hz (ro'.le (by decide)) ?_
    intro H4 e4
    exact h H4 (((e1.trans e2).trans e3).trans e4)
end
section
set_option maxRecDepth 100000
set_option maxHeartbeats 4000000
/-- where a round takes its words from, and where it puts them -/
structure Rnd (X : Wd) (n : Nat) (src ring : Addr) where
  I : List (List Nat) → List (List Nat) → CHeap → Prop
  W : Addr → Prop
  Z : Addr → Prop
  zw : ∀ b, Z b → W b
  stab : ∀ {rem out : List (List Nat)} {H H' : CHeap}, I rem out H → (∀ b o, W b → H b = some o → H' b = some o) → I rem out H'
  live : ∀ {rem out : List (List Nat)} {H : CHeap} {b : Addr}, I rem out H → W b → H b ≠ none
  srcAt : ∀ {rem out : List (List Nat)} {H : CHeap}, I rem out H → ∃ d ln s pl, H src = some (.inst 94 d) ∧ H d = some (.idict (rF ln s pl))
  ringAt : ∀ {rem out : List (List Nat)} {H : CHeap}, I rem out H → ∃ d ln s pl, H ring = some (.inst 94 d) ∧ H d = some (.idict (rF ln s pl)) ∧ (rem = [] → H pl = some (.list (wds out)))
  get : ∀ {A : Around} {E : CHeap → Prop} {H : CHeap} {Q : CV → CHeap → Prop} {w : List Nat} {rem out : List (List Nat)}, Room A n → rem.length + out.length ≤ 1000 → I (w :: rem) out H → (∀ H', ExtZ Z H H' → I rem out H' → Q (.str (chS w)) H') → Cl X A E (.glob 84) [.ref src] Q H
  push : ∀ {A : Around} {E : CHeap → Prop} {H : CHeap} {Q : CV → CHeap → Prop} {w : List Nat} {rem out : List (List Nat)}, Room A n → rem.length + out.length ≤ 1000 → I rem out H → (∀ H', ExtZ Z H H' → I rem (out ++ [w]) H' → Q .none H') → Cl X A E (.glob 91) [.ref ring, .str (chS w)] Q H
def isOp : Th → Bool
  | .op _ => true
  | .num _ => false
theorem in_signs (x : Th) : ([PyData.str (chS [47]), .str (chS [37])].any fun y => PyData.eqv y (.str (chS (tw x)))) = isOp x := by
  cases x with
  | op d => cases d <;> simp [PyData.eqv, tw, opN, isOp]
  | num v =>
    have e : ∀ k c : Nat, ∀ r : List Nat, c ≠ k → (chS [k] == chS (c :: r)) = false := fun k c r h => by rw [chS_eq]; simpa using fun z => absurd z.symm h
    by_cases q : v < 0 <;> simp [PyData.eqv, tw, isOp, q, e]
def hdc (x : Th) : Nat := match x with | .op d => opN d | .num v => if v < 0 then 45 else 43
theorem tw_cons (x : Th) : ∃ r, tw x = hdc x :: r := by cases x <;> exact ⟨_, rfl⟩
theorem in_pm (x : Th) : Txt.contains (Str.ofString "+-") (chS [hdc x]) = !isOp x := by
  have h : ∀ c ∈ [47, 37], Txt.contains (Str.ofString "+-") (chS [c]) = false := by decide +kernel
  have h2 : ∀ c ∈ [45, 43], Txt.contains (Str.ofString "+-") (chS [c]) = true := by decide +kernel
  cases x with
  | op d => cases d <;> exact h _ (by decide)
  | num v =>
    show Txt.contains _ (chS [if v < 0 then 45 else 43]) = true
    split <;> exact h2 _ (by decide)
/-- words behind a window -/
def wsT (l : List Th) : List (List Nat) := l.map tw
end
section
set_option maxRecDepth 100000
set_option maxHeartbeats 4000000
theorem ExtZ.fr {Z : Addr → Prop} {H H' : CHeap} (a : ExtZ Z H H') {x : Addr} (e : H' x = none) : Z x ∨ H x = none := by
  by_cases z : Z x
  · exact .inl z
  · refine .inr ?_
    cases q : H x with
    | none => rfl
    | some o => exact nomatch e.symm.trans (a _ _ z q)
theorem red_short {l : List Th} (h : l.length ≤ 2) : red l = some l := by
  match l, h with
  | [], _ => rfl
  | [.num a], _ => rw [red_num]; rfl
  | [.op d], _ => rw [red_op (by intro a b r' e; cases e)]; rfl
  | [.num a, .num b], _ => rw [red_num, red_num]; rfl
  | [.num a, .op d], _ => rw [red_num, red_op (by intro a b r' e; cases e)]; rfl
  | [.op d, .num b], _ => rw [red_op (by intro a b r' e; cases e), red_num]; rfl
  | [.op d, .op d'], _ => rw [red_op (by intro a b r' e; cases e), red_op (by intro a b r' e; cases e)]; rfl
theorem round_spec {X : Wd} {P : Params} (W : W01 X P) {n : Nat} {src ring : Addr} (R : Rnd X n src ring) {ts : List Th} {A : Around} {E : CHeap → Prop} {H : CHeap} {Q : CV → CHeap → Prop} (hok : ∀ x ∈ ts, okT x) (hz : ts.length ≤ 100) (ro : Room A (n + 38)) (hI : R.I (wsT ts) [] H)
    (h : ∀ us, red ts = some us → ∀ l H', H l = none → ExtZ R.Z H H' → R.I [] (wsT us) H' → H' l = some (.list (wds (wsT us))) → Q (.ref l) H') (hx : red ts = none → ∀ H', ExtZ R.Z H H' → E H') : Cl X A E (.glob 174) [.ref src, .ref ring, .int ts.length] Q H := by
  have hK := W.hK
  refine cl_defX (ns := [Str.ofString "source", Str.ofString "ring", Str.ofString "size"]) (n := n + 37) (by rw [hK]; rfl) (by rw [hK]; rfl) rfl (len3 fun _ _ _ => rfl) rfl (by decide) (by decide) (by decide) rfl rfl rfl rfl rfl rfl ro ?_
  intro A' env ro' ok hL
  have hu := ro'.un
  repeat walk_at "e"
  intro h0 fh0
  have nW : ∀ {b : Addr}, H b = none → ¬ R.W b := fun f w => R.live hI w f
  obtain ⟨J, hJ⟩ := named3 (fun (i : Nat) (m : Loc) (Hx : CHeap) => i ≤ ts.length ∧ ∃ (hd out : List Th) (hl : Addr), hd.length ≤ 2 ∧ red ts = (red (hd ++ ts.drop i)).map (out ++ ·) ∧ (∀ x ∈ hd, okT x) ∧ out.length + hd.length ≤ i ∧ ExtZ R.Z H Hx ∧ R.I (wsT (ts.drop i)) (wsT out) Hx ∧ H hl = none ∧ Hx hl = some (.list (wds (wsT hd))) ∧ m.lookup (Str.ofString "source") = some (.ref src) ∧ m.lookup (Str.ofString "ring") = some (.ref ring) ∧ m.lookup (Str.ofString "held") = some (.ref hl))
  repeat walk_at "e"
  refine ex_forVX (fun _ => rngF 0 ((0 + ts.length : Nat) : Int)) (fun _ _ => True) (fun _ => J) ts.length ro'.hd (fun _ _ _ _ _ => trivial) ?_ ?_ ?_ ?_ (fun _ => rfl)
  · repeat walk_at "e"
    rw [show (ts.length : Int) = ((0 + ts.length : Nat) : Int) by rw [Nat.zero_add]]
    refine ⟨iter_range (by decide) (by decide) (by omega) (by omega), (hJ _ _ _).mpr ⟨Nat.zero_le _, [], [], h0, Nat.zero_le _, ?_, (fun _ hm => nomatch hm), Nat.le_refl _, (ExtZ.refl H).put (.inr fh0), R.stab hI (fun b o w e => upd_ne' (by rintro rfl; exact nW fh0 w) e), fh0, upd_self _ _ _, by walk_at "lk", by walk_at "lk", by walk_at "lk"⟩⟩
    cases z : red ts <;> simp [z]
  · intro V i m Hx hj hf
    refine Classical.byContradiction fun q => hf ?_
    rw [show rngF 0 ((0 + ts.length : Nat) : Int) i Hx = _ from rngF_eq (a := 0), List.getElem?_eq_none (by rw [rngL_len]; exact Nat.not_lt.mp q)]
  · intro U i m Hx Y hj hLL hf
    obtain ⟨hi, hd, out, hl, h2, hr, hko, hlen, ex, hI1, fhl, ghl, m1, m2, m3⟩ := (hJ _ _ _).mp hj
    rw [show rngF 0 ((0 + ts.length : Nat) : Int) i Hx = _ from rngF_eq (a := 0)] at hf
    obtain ⟨hi2, rfl⟩ := rngL_get hf
    have hdr : ts.drop i = ts[i] :: ts.drop (i + 1) := List.drop_eq_getElem_cons hi2
    have hoki := hok _ (List.getElem_mem hi2)
    rw [hdr] at hr hI1
    generalize ts[i] = x at hr hI1 hdr hoki
    obtain ⟨d, ln, sv, pl, hs1, hs2⟩ := R.srcAt hI1
    repeat walk_at "e"
    have hln : (wsT (ts.drop (i + 1))).length + (wsT out).length ≤ 1000 := by
      unfold wsT; rw [List.length_map, List.length_map, List.length_drop]; omega
    refine R.get (w := tw x) (ro'.le (by omega)) hln hI1 ?_
    intro H2 e2 hI2
    have nz : ¬ R.Z hl := fun z => nW fhl (R.zw _ z)
    have ghl2 := e2 _ _ nz ghl
    repeat walk_at "e"
    refine cl_append ghl2 (Nat.le_trans (show _ ≤ 2 by rw [wds_len]; unfold wsT; rw [List.length_map]; exact h2) (by decide)) ?_
    rw [show wds (wsT hd) ++ [.str (chS (tw x))] = wds (wsT (hd ++ [x])) by unfold wds wsT; simp]
    have ex3 : ExtZ R.Z H (upd H2 hl (.list (wds (wsT (hd ++ [x]))))) := (ex.trans e2).put (.inr fhl)
    have hI3 := R.stab (H' := upd H2 hl (.list (wds (wsT (hd ++ [x]))))) hI2 (fun b o w e => upd_ne' (by rintro rfl; exact nW fhl w) e)
    have ghl3 := upd_self H2 hl (.list (wds (wsT (hd ++ [x]))))
    generalize upd H2 hl (.list (wds (wsT (hd ++ [x])))) = H3 at ex3 hI3 ghl3 ⊢
    clear e2 hI2 ghl2 hI1 ghl ex hs1 hs2
    have hl3 : (wds (wsT (hd ++ [x]))).length = hd.length + 1 := by rw [wds_len]; unfold wsT; rw [List.length_map, List.length_append]; rfl
    repeat walk_at "e"
    refine cl_len ghl3 (Nat.lt_of_le_of_lt (show _ ≤ 3 by omega) (by decide)) ?_
    rw [hl3]
    repeat walk_at "e"
    refine ⟨fun z => ?_, fun z => ?_⟩
    · obtain ⟨a, b, rfl⟩ : ∃ a b, hd = [a, b] := by
        have h3 : hd.length = 2 := by have := eq_of_beq z; omega
        match hd, h3 with
        | [a, b], _ => exact ⟨a, b, rfl⟩
      have hw3 : wds (wsT ([a, b] ++ [x])) = [.str (chS (tw a)), .str (chS (tw b)), .str (chS (tw x))] := rfl
      rw [hw3] at ghl3
      have z3 : 3 < 2 ^ 62 := by decide
      have z13 : ∀ y : Th, okT y → (chS (tw y)).length < 2 ^ 62 := fun y hy => by rw [chS_len]; exact Nat.lt_of_le_of_lt (tw_len hy) (by decide)
      have hoka := hko a (.head _)
      have hokb := hko b (.tail _ (.head _))
      have hc0 : ∀ y : Th, (chS (tw y)).cps[(0 : Int).toNat]? = some (hdc y) := fun y => by obtain ⟨r, e⟩ := tw_cons y; rw [e]; rfl
      have lay : ∀ y : Th, okT y → PyData.canLay0 (.str (chS (tw y))) = true := fun y hy => by unfold PyData.canLay0; exact chS_ok (tw_low hy)
      iterate 2 walk_at "e"
      refine EvB.mono (QB := fun c H' => c = (isOp a && (!isOp b && !isOp x)) ∧ Ext H3 H') ?_ ?_
      · repeat walk_at "e"
        refine sub_list (k := 0) (V := .str (chS (tw a))) ghl3 (.inl ⟨by decide, rfl⟩) rfl z3 (fun _ _ => rfl) ?_
        repeat walk_at "e"
        intro l' fl'
        refine cmp_in_data (.str _) (.list (upd_self _ _ _) (.cons (.str _) (.cons (.str _) .nil))) (lay a hoka) (by unfold PyData.canLayAll0 PyData.canLayAll0 PyData.canLayAll0 PyData.canLay0; rw [show PyData.strOk (Str.ofString "/") = true from slash_ok true, show PyData.strOk (Str.ofString "%") = true from slash_ok false]; rfl) (by simp only [PyData.depthAll, PyData.depth]; omega) ?_
        rw [show ([PyData.str (Str.ofString "/"), .str (Str.ofString "%")].any fun y => PyData.eqv y (.str (chS (tw a)))) = isOp a from in_signs a]
        have e4 : Ext H3 (upd H3 l' (.list [.str (Str.ofString "/"), .str (Str.ofString "%")])) := Ext.new fl'
        generalize upd H3 l' (.list [.str (Str.ofString "/"), .str (Str.ofString "%")]) = H4 at e4 ⊢
        have ghl4 := e4 _ _ ghl3
        repeat walk_at "e"
        refine ⟨fun q => ?_, fun q => ⟨by rw [q]; rfl, e4⟩⟩
        rw [q]
        repeat walk_at "e"
        refine sub_list (k := 1) (V := .str (chS (tw b))) ghl4 (.inl ⟨by decide, rfl⟩) rfl z3 (fun _ _ => rfl) ?_
        repeat walk_at "e"
        refine sub_str (c := hdc b) (by decide) (hc0 b) (z13 b hokb) (fun _ _ => rfl) ?_
        repeat walk_at "e"
        show (Txt.contains (Str.ofString "+-") (chS [hdc b]) = true → _) ∧ (Txt.contains (Str.ofString "+-") (chS [hdc b]) = false → _)
        rw [in_pm]
        refine ⟨fun q2 => ?_, fun q2 => ⟨by rw [q2]; rfl, e4⟩⟩
        rw [q2]
        repeat walk_at "e"
        refine sub_list (k := 2) (V := .str (chS (tw x))) ghl4 (.inl ⟨by decide, rfl⟩) rfl z3 (fun _ _ => rfl) ?_
        repeat walk_at "e"
        refine sub_str (c := hdc x) (by decide) (hc0 x) (z13 x hoki) (fun _ _ => rfl) ?_
        repeat walk_at "e"
        show (Txt.contains (Str.ofString "+-") (chS [hdc x]) = true → _) ∧ (Txt.contains (Str.ofString "+-") (chS [hdc x]) = false → _)
        rw [in_pm]
        refine ⟨fun q3 => ?_, fun q3 => ⟨by rw [q3]; rfl, e4⟩⟩
        rw [q3]
        repeat walk_at "e"
        exact ⟨rfl, e4⟩
      rintro c H4 ⟨rfl, e4⟩
      have ghl4 := e4 _ _ ghl3
      have ex4 := ex3.trans e4.toZ
      have hI4 := R.stab hI3 (fun b o _ e => e4 b o e)
      clear e4 ghl3 ex3 hI3
      obtain ⟨d, ln, sv, pl, hs1, hs2, _⟩ := R.ringAt hI4
      refine ⟨fun q => ?_, fun q => ?_⟩
      · obtain ⟨q1, q2⟩ := Bool.and_eq_true_iff.mp q
        obtain ⟨q2, q3⟩ := Bool.and_eq_true_iff.mp q2
        cases a with
        | num v => cases q1
        | op dd =>
        cases b with
        | op _ => cases q2
        | num va =>
        cases x with
        | op _ => cases q3
        | num vb =>
        have hr : red ts = ((dv dd va vb).bind fun v => (red (ts.drop (i + 1))).map (.num v :: ·)).map (out ++ ·) := by rw [hr]; exact congrArg _ (red_redex dd va vb _)
        repeat walk_at "e"
        refine sub_list (k := 0) (V := .str (chS [opN dd])) ghl4 (.inl ⟨by decide, rfl⟩) rfl z3 (fun _ _ => rfl) ?_
        repeat walk_at "e"
        refine sub_list (k := 1) (V := .str (chS (tw (.num va)))) ghl4 (.inl ⟨by decide, rfl⟩) rfl z3 (fun _ _ => rfl) ?_
        repeat walk_at "e"
        refine sub_list (k := 2) (V := .str (chS (tw (.num vb)))) ghl4 (.inl ⟨by decide, rfl⟩) rfl z3 (fun _ _ => rfl) ?_
        repeat walk_at "e"
        refine reckoned_spec W hokb hoki (ro'.le (by omega)) (fun v hv H5 e5 => ?_) (fun hv H5 e5 => hx (by rw [hr, hv]; rfl) H5 (ex4.trans e5.toZ))
        have ex5 := ex4.trans e5.toZ
        have hI5 := R.stab hI4 (fun b o _ e => e5 b o e)
        repeat walk_at "e"
        refine R.push (ro'.le (by omega)) hln hI5 ?_
        intro H6 e6 hI6
        have ex6 := ex5.trans e6
        repeat walk_at "e"
        intro h7 fh7
        have f7 : H h7 = none := (ex6.fr fh7).elim (fun z => absurd fh7 (R.live hI6 (R.zw _ z))) id
        repeat walk_at "e"
        refine (hJ _ _ _).mpr ⟨hi2, [], out ++ [.num v], h7, Nat.zero_le _, ?_, (fun _ hm => nomatch hm), ?_, ex6.put (.inr f7), ?_, f7, upd_self _ _ _, by walk_at "lk", by walk_at "lk", by walk_at "lk"⟩
        · rw [hr, hv]
          show Option.map _ (Option.map _ (red (ts.drop (i + 1)))) = Option.map _ (red (ts.drop (i + 1)))
          rw [Option.map_map]
          congr 1
          funext r
          simp
        · rw [List.length_append]; simp only [List.length_cons, List.length_nil] at hlen ⊢; omega
        · refine R.stab (H := H6) ?_ (fun b o w e => upd_ne' (by rintro rfl; exact nW f7 w) e)
          rw [show wsT (out ++ [.num v]) = wsT out ++ [tw (.num v)] by unfold wsT; simp]
          exact hI6
      · have hr : red ts = ((red (b :: x :: ts.drop (i + 1))).map (a :: ·)).map (out ++ ·) := by
          rw [hr]
          refine congrArg _ ?_
          cases a with
          | num v => exact red_num _ _
          | op dd =>
            refine red_op fun a' b' r' e => ?_
            obtain ⟨e1, e2⟩ := List.cons.inj e
            obtain ⟨e3, _⟩ := List.cons.inj e2
            subst e1 e3
            cases q
        repeat walk_at "e"
        refine sub_list (k := 0) (V := .str (chS (tw a))) ghl4 (.inl ⟨by decide, rfl⟩) rfl z3 (fun _ _ => rfl) ?_
        repeat walk_at "e"
        refine R.push (ro'.le (by omega)) hln hI4 ?_
        intro H6 e6 hI6
        have ex6 := ex4.trans e6
        have ghl6 := e6 _ _ nz ghl4
        repeat walk_at "e"
        refine sli_list ghl6 (Nat.le_trans (show _ ≤ 3 from Nat.le_refl 3) (by decide)) ?_
        intro h7 fh7
        rw [show pick [CV.str (chS (tw a)), .str (chS (tw b)), .str (chS (tw x))] (some 1) none = wds (wsT [b, x]) from pickD _ 1]
        have f7 : H h7 = none := (ex6.fr fh7).elim (fun z => absurd fh7 (R.live hI6 (R.zw _ z))) id
        repeat walk_at "e"
        refine (hJ _ _ _).mpr ⟨hi2, [b, x], out ++ [a], h7, Nat.le_refl _, ?_, ?_, ?_, ex6.put (.inr f7), ?_, f7, upd_self _ _ _, by walk_at "lk", by walk_at "lk", by walk_at "lk"⟩
        · rw [hr, Option.map_map]
          congr 1
          funext r
          simp
        · intro y hy
          rcases List.mem_cons.mp hy with rfl | hy
          · exact hokb
          · rw [List.mem_singleton.mp hy]; exact hoki
        · rw [List.length_append]; simp only [List.length_cons, List.length_nil] at hlen ⊢; omega
        · refine R.stab (H := H6) ?_ (fun b o w e => upd_ne' (by rintro rfl; exact nW f7 w) e)
          rw [show wsT (out ++ [a]) = wsT out ++ [tw a] by unfold wsT; simp]
          exact hI6
    · have h3 : hd.length ≤ 1 := by
        have := beq_eq_false_iff_ne.mp z
        omega
      repeat walk_at "e"
      refine (hJ _ _ _).mpr ⟨hi2, hd ++ [x], out, hl, by rw [List.length_append]; exact Nat.succ_le_succ h3, ?_, ?_, ?_, ex3, hI3, fhl, ghl3, by walk_at "lk", by walk_at "lk", by walk_at "lk"⟩
      · rw [hr, List.append_assoc]; rfl
      · intro y hy
        rcases List.mem_append.mp hy with q | q
        · exact hko y q
        · rw [List.mem_singleton.mp q]; exact hoki
      · rw [List.length_append]; show _ + (_ + 1) ≤ _; omega
  · intro U i m Hx hj hf
    obtain ⟨hi, hd, out, hl, h2, hr, hko, hlen, ex, hI1, fhl, ghl, m1, m2, m3⟩ := (hJ _ _ _).mp hj
    rw [show rngF 0 ((0 + ts.length : Nat) : Int) i Hx = _ from rngF_eq (a := 0)] at hf
    have hge := List.getElem?_eq_none_iff.mp hf
    rw [rngL_len] at hge
    obtain rfl : i = ts.length := Nat.le_antisymm hi hge
    rw [List.drop_length] at hr hI1
    rw [List.append_nil, red_short h2] at hr
    have h := h _ hr
    have nz : ¬ R.Z hl := fun z => nW fhl (R.zw _ z)
    have hhl : (wds (wsT hd)).length = hd.length := by rw [wds_len]; unfold wsT; rw [List.length_map]
    clear hx hJ hj hf hge
    obtain ⟨I, hI⟩ := named3 (fun (k : Nat) (m' : Loc) (Hy : CHeap) => k ≤ hd.length ∧ ExtZ R.Z H Hy ∧ R.I [] (wsT (out ++ hd.take k)) Hy ∧ Hy hl = some (.list (wds (wsT hd))) ∧ m'.lookup (Str.ofString "ring") = some (.ref ring))
    repeat walk_at "e"
    refine ex_for (listF hl) (fun Hy => ∃ xs, Hy hl = some (.list xs)) I hd.length ro'.hd (fun k m' Hy q => ⟨_, ((hI _ _ _).mp q).2.2.2.1⟩) ?_ ?_ ?_ ?_ (fun _ => rfl)
    · repeat walk_at "e"
      exact ⟨iter_list ghl, (hI _ _ _).mpr ⟨Nat.zero_le _, ex, by rw [List.take_zero, List.append_nil]; exact hI1, ghl, m2⟩⟩
    · intro k m' Hy q hf
      obtain ⟨_, _, _, g, _⟩ := (hI _ _ _).mp q
      rw [listF_eq g] at hf
      refine Classical.byContradiction fun z => hf (List.getElem?_eq_none (by rw [hhl]; exact Nat.not_lt.mp z))
    · intro E2 k m' Hy Y q hLL hf
      obtain ⟨hk, ey, hIy, g, my⟩ := (hI _ _ _).mp q
      rw [listF_eq g, wds_get] at hf
      unfold wsT at hf
      rw [List.getElem?_map] at hf
      cases z : hd[k]? with
      | none => rw [z] at hf; cases hf
      | some x =>
        rw [z] at hf
        cases hf
        obtain ⟨hk2, _⟩ := List.getElem?_eq_some_iff.mp z
        obtain ⟨d, ln, sv, pl, hs1, hs2, _⟩ := R.ringAt hIy
        repeat walk_at "e"
        refine R.push (ro'.le (by omega)) (by unfold wsT; rw [List.length_map, List.length_append, List.length_take]; show 0 + _ ≤ _; omega) hIy ?_
        intro H6 e6 hI6
        repeat walk_at "e"
        refine (hI _ _ _).mpr ⟨hk2, ey.trans e6, ?_, e6 _ _ nz g, by walk_at "lk"⟩
        rw [List.take_add_one, z]
        rw [show wsT (out ++ (hd.take k ++ (some x).toList)) = wsT (out ++ hd.take k) ++ [tw x] by unfold wsT; simp]
        exact hI6
    · intro k m' Hy q hf
      obtain ⟨hk, ey, hIy, g, my⟩ := (hI _ _ _).mp q
      rw [listF_eq g] at hf
      have hge := List.getElem?_eq_none_iff.mp hf
      rw [hhl] at hge
      rw [List.take_of_length_le hge] at hIy
      obtain ⟨d, ln, sv, pl, hs1, hs2, hpl⟩ := R.ringAt hIy
      have hpl := hpl rfl
      have hzz : (wds (wsT (out ++ hd))).length ≤ 100 := by rw [wds_len]; unfold wsT; rw [List.length_map, List.length_append]; omega
      repeat walk_at "e"
      refine sli_list hpl (Nat.le_trans hzz (by decide)) ?_
      intro l fl
      rw [pickA]
      refine h l _ ?_ (ey.put ?_) (R.stab hIy fun b o w e => upd_ne' (by rintro rfl; exact R.live hIy w fl) e) (upd_self _ _ _)
      · exact (ey.fr fl).elim (fun z => absurd fl (R.live hIy (R.zw _ z))) id
      · exact .inr ((ey.fr fl).elim (fun z => absurd fl (R.live hIy (R.zw _ z))) id)
end
section
set_option maxRecDepth 100000
set_option maxHeartbeats 4000000
def nough : List (List Nat) := [[110, 111, 117, 103, 104, 116]]
/-- what the rounds show, from the height k on -/
def tale (t : Tr) : Nat → Nat → List (List (List Nat))
  | 0, _ => []
  | n + 1, k => match pol k t with
    | none => [nough]
    | some l => wsT l :: tale t n (k + 1)
theorem tale_some {t : Tr} {n k : Nat} {l : List Th} (h : pol k t = some l) : tale t (n + 1) k = wsT l :: tale t n (k + 1) := by rw [tale, h]
theorem tale_none {t : Tr} {n k : Nat} (h : pol k t = none) : tale t (n + 1) k = [nough] := by rw [tale, h]
/-- a list of lists of words -/
inductive Flm (H : CHeap) (N : Addr → Prop) : List CV → List (List (List Nat)) → Prop where
  | nil : Flm H N [] []
  | cons {a : Addr} {ws : List (List Nat)} {vs : List CV} {fs : List (List (List Nat))} (ha : N a) (h : H a = some (.list (wds ws))) (hr : Flm H N vs fs) : Flm H N (.ref a :: vs) (ws :: fs)
theorem Flm.keep {H H' : CHeap} {N N' : Addr → Prop} {vs : List CV} {fs : List (List (List Nat))} (f : Flm H N vs fs) (k : ∀ b o, N b → H b = some o → H' b = some o ∧ N' b) : Flm H' N' vs fs := by
  induction f with
  | nil => exact .nil
  | cons ha h _ ih => obtain ⟨a, b⟩ := k _ _ ha h; exact .cons b a ih
theorem Flm.app {H : CHeap} {N : Addr → Prop} {a : Addr} {ws : List (List Nat)} {vs : List CV} {fs : List (List (List Nat))} (f : Flm H N vs fs) (ha : N a) (h : H a = some (.list (wds ws))) : Flm H N (vs ++ [.ref a]) (fs ++ [ws]) := by
  induction f with
  | nil => exact .cons ha h .nil
  | cons ha' h' _ ih => exact .cons ha' h' ih
theorem Flm.rd {H : CHeap} {N : Addr → Prop} {vs : List CV} {fs : List (List (List Nat))} (f : Flm H N vs fs) : RdAll H vs (fs.map fun ws => .list (ws.map fun w => .str (chS w))) := by
  induction f with
  | nil => exact .nil
  | cons _ h _ ih => exact .cons (rd_wds h) ih
theorem wsT_len (l : List Th) : (wsT l).length = l.length := List.length_map ..
theorem told_spec {X : Wd} {P : Params} (W : W01 X P) {t : Tr} {A : Around} {E : CHeap → Prop} {H : CHeap} {Q : CV → CHeap → Prop} (hb : bnd t) (hz : sz t ≤ 100) (hht : ht t ≤ 100) (ro : Room A (ht t + 5))
    (h : ∀ l H' vs, H l = none → Ext H H' → H' l = some (.list vs) → Flm H' (fun _ => True) vs (tale t (ht t) 1) → Q (.ref l) H') : Cl X A E (.glob 150) [trC t] Q H := by
  have hK := W.hK
  refine cl_def (ns := [Str.ofString "tree"]) (n := ht t + 4) (by rw [hK]; rfl) (by rw [hK]; rfl) rfl (len1 fun _ => rfl) rfl (by decide) (by decide) (by decide) rfl rfl rfl rfl rfl rfl ro ?_
  intro A' E' env ro' ok hL
  repeat walk_at "e"
  intro l fl
  have g0 := upd_self H l (.list [])
  have e0 : Ext H (upd H l (.list [])) := Ext.new fl
  generalize upd H l (.list []) = H0 at g0 e0 ⊢
  obtain ⟨EX, hEX⟩ := named2 (fun (m' : Loc) (H' : CHeap) => m'.lookup (Str.ofString "film") = some (.ref l) ∧ Ext H H' ∧ ∃ vs fs, H' l = some (.list vs) ∧ Flm H' (· ≠ l) vs fs ∧ fs ++ [nough] = tale t (ht t) 1 ∧ vs.length ≤ 100)
  obtain ⟨J, hJ⟩ := named3 (fun (i : Nat) (m' : Loc) (H' : CHeap) => i ≤ ht t ∧ m'.lookup (Str.ofString "film") = some (.ref l) ∧ m'.lookup (Str.ofString "tree") = some (trC t) ∧ Ext H H' ∧ ∃ vs fs, H' l = some (.list vs) ∧ Flm H' (· ≠ l) vs fs ∧ fs ++ tale t (ht t - i) (i + 1) = tale t (ht t) 1 ∧ vs.length = i)
  repeat walk_at "e"
  refine ex_try EX (by rw [hK]; rfl) (kind_ok ok rfl) (kindOf_ok ok rfl) ok.gl ok.bi ?_ ?_
  · repeat walk_at "e"
    refine ex_forVX (fun _ => rngF 1 ((1 + ht t : Nat) : Int)) (fun _ _ => True) (fun _ => J) (ht t) ro'.hd (fun _ _ _ _ _ => trivial) ?_ ?_ ?_ ?_ (fun _ => rfl)
    · repeat walk_at "e"
      refine height_spec W t (ro'.le (by omega)) ?_
      repeat walk_at "e"
      rw [show (ht t : Int) + 1 = ((1 + ht t : Nat) : Int) by omega]
      exact ⟨iter_range (by decide) (by decide) (by omega) (by omega), (hJ _ _ _).mpr ⟨Nat.zero_le _, by walk_at "lk", by walk_at "lk", e0, [], [], g0, .nil, rfl, rfl⟩⟩
    · intro V i m Hx hj hf
      refine Classical.byContradiction fun q => hf ?_
      rw [show rngF 1 ((1 + ht t : Nat) : Int) i Hx = _ from rngF_eq (a := 1), List.getElem?_eq_none (by rw [rngL_len]; exact Nat.not_lt.mp q)]
    · intro U i m Hx Y hj hLL hf
      obtain ⟨hi, m1, m2, ex, vs, fs, gl, fm, tl, hlen⟩ := (hJ _ _ _).mp hj
      rw [show rngF 1 ((1 + ht t : Nat) : Int) i Hx = _ from rngF_eq (a := 1)] at hf
      obtain ⟨hi2, rfl⟩ := rngL_get hf
      rw [show ht t - i = (ht t - (i + 1)) + 1 by omega] at tl
      repeat walk_at "e"
      refine comp_list ok (fun b _ Hy => pol (1 + i) t = some ((pol (1 + i) t).getD []) ∧ Ext Hx Hy ∧ Hy b = some (.list (ths ((pol (1 + i) t).getD [])))) (ths ((pol (1 + i) t).getD [])) (wds (wsT ((pol (1 + i) t).getD []))) ro'.hd rfl (by decide) rfl (by decide) rfl (fun _ => rfl) (by rw [ths_len, wds_len, wsT_len]) ?_ (fun b i Hy j => j.2.2) ?_ ?_ ?_
      · rw [wds_len, wsT_len]
        cases z : pol (1 + i) t with
        | none => exact Nat.zero_le _
        | some pl => exact Nat.le_trans (pol_len z) (Nat.le_trans hz (by decide))
      · repeat walk_at "e"
        refine polish_spec (k := 1 + i) W t hb hz (ro'.le (by omega)) (fun pl hpl b Hy fb ey gb => ?_) (fun hpl Hy ey => ?_)
        · exact ⟨b, rfl, by rw [hpl]; rfl, ey, by rw [hpl]; exact gb⟩
        · rw [Nat.add_comm] at hpl
          refine (hEX _ _).mpr ⟨by walk_at "lk", ex.trans ey, vs, fs, ey _ _ gl, fm.keep fun b o hb e => ⟨ey _ _ e, hb⟩, ?_, by omega⟩
          rw [← tl, tale_none hpl]
      · rintro E3 cenv b j Hy V Wv okc ⟨hp, ey, gb⟩ hV hW
        unfold ths at hV
        rw [List.getElem?_map] at hV
        unfold wsT at hW
        rw [wds_get, List.getElem?_map] at hW
        cases z : ((pol (1 + i) t).getD [])[j]? with
        | none => rw [z] at hV; cases hV
        | some x =>
          rw [z] at hV hW
          cases hV; cases hW
          have hxk := pol_ok hb hp x (List.mem_of_getElem? z)
          repeat walk_at "e"
          exact plain_word_spec W hxk (ro'.le (by omega)) ⟨rfl, hp, ey, gb⟩
      · rintro b Hy c ⟨hp, ey, gb⟩ fc
        have gl1 := ey _ _ gl
        have ncl : c ≠ l := Ne.symm (ne_of fc gl1)
        repeat walk_at "e"
        refine cl_append (xs := vs) (upd_ne' (Ne.symm ncl) gl1) (Nat.le_trans (show vs.length ≤ 100 by omega) (by decide)) ?_
        repeat walk_at "e"
        refine (hJ _ _ _).mpr ⟨hi2, by walk_at "lk", by walk_at "lk", ((ex.trans ey).put ((ex.trans ey).nay fc)).put fl, vs ++ [.ref c], fs ++ [wsT ((pol (1 + i) t).getD [])], upd_self _ _ _, ?_, ?_, by rw [List.length_append]; exact congrArg (· + 1) hlen⟩
        · refine (fm.keep (N' := (· ≠ l)) fun b' o hb e => ⟨?_, hb⟩).app ncl (upd_ne' ncl (upd_self _ _ _))
          exact upd_ne' hb (upd_ne' (ne_of fc (ey _ _ e)) (ey _ _ e))
        · rw [Nat.add_comm 1 i] at hp ⊢
          rw [← tl, tale_some hp, List.append_assoc]; rfl
    · intro U i m Hx hj hf
      obtain ⟨hi, m1, m2, ex, vs, fs, gl, fm, tl, hlen⟩ := (hJ _ _ _).mp hj
      rw [show rngF 1 ((1 + ht t : Nat) : Int) i Hx = _ from rngF_eq (a := 1)] at hf
      have hge := List.getElem?_eq_none_iff.mp hf
      rw [rngL_len] at hge
      obtain rfl : i = ht t := Nat.le_antisymm hi hge
      rw [Nat.sub_self, show tale t 0 (ht t + 1) = [] from rfl, List.append_nil] at tl
      rw [← tl] at h
      repeat walk_at "e"
      exact h l Hx vs fl ex gl (fm.keep fun b o hb e => ⟨e, trivial⟩)
  · intro e m' H' hx hL'
    obtain ⟨m1, ex, vs, fs, gl, fm, tl, hlen⟩ := (hEX _ _).mp hx
    rw [← tl] at h
    repeat walk_at "e"
    intro c fc
    have ncl : c ≠ l := Ne.symm (ne_of fc gl)
    repeat walk_at "e"
    refine cl_append (xs := vs) (upd_ne' (Ne.symm ncl) gl) (Nat.le_trans hlen (by decide)) ?_
    repeat walk_at "e"
    refine h l _ _ fl ((ex.put (ex.nay fc)).put fl) (upd_self _ _ _) ((fm.keep (N' := fun _ => True) fun b' o hb e => ⟨upd_ne' hb (upd_ne' (ne_of fc e) e), trivial⟩).app trivial (upd_ne' ncl (upd_self _ _ _)))
end
section
set_option maxRecDepth 100000
set_option maxHeartbeats 4000000
def wrq (w : List Nat) (q : Bool) : List Nat := if q = true then [34] ++ (w.map (esq [34, 92])).flatten ++ [34] else (w.map (esq [92, 32, 10, 9, 13])).flatten ++ [10]
def txt : List (List Nat) → Int → List Nat
  | [], _ => []
  | w :: ws, M => wrq w (M.fmod 2 == 1) ++ txt ws (M.fdiv 2)
theorem wrq_len (w : List Nat) (q : Bool) : (wrq w q).length ≤ 2 * w.length + 2 := by
  have h1 := flat_len2 (esq_le [34, 92]) w
  have h2 := flat_len2 (esq_le [92, 32, 10, 9, 13]) w
  unfold wrq
  cases q
  · rw [if_neg Bool.false_ne_true, List.length_append]
    exact Nat.le_trans (Nat.add_le_add h2 (show [10].length ≤ 1 from Nat.le_refl _)) (by omega)
  · rw [if_pos rfl, List.length_append, List.length_append]
    exact Nat.le_trans (Nat.add_le_add (Nat.add_le_add (show [34].length ≤ 1 from Nat.le_refl _) h1) (show [34].length ≤ 1 from Nat.le_refl _)) (by omega)
theorem in_c : ∀ c, c < 128 → Txt.contains (Str.ofString "\\ \n\t\r") (chS [c]) = [92, 32, 10, 9, 13].contains c := by
  have : ∀ c : Fin 128, Txt.contains (Str.ofString "\\ \n\t\r") (chS [c.val]) = [92, 32, 10, 9, 13].contains c.val := by decide +kernel
  exact fun c hc => this ⟨c, hc⟩
def dth : Th → PyData
  | .num v => .int v
  | .op d => .str (chS [opN d])
theorem in_signs2 (x : Th) : ([PyData.str (chS [47]), .str (chS [37])].any fun y => PyData.eqv y (dth x)) = isOp x := by
  cases x with
  | op d => exact in_signs (.op d)
  | num v => simp [PyData.eqv, dth, isOp]
theorem rd_th {H : CHeap} (x : Th) : Rd H (thC x) (dth x) := by
  cases x with
  | op d => exact .str _
  | num v => exact .int _
theorem lay_th (x : Th) : PyData.canLay0 (dth x) = true := by
  cases x with
  | op d => unfold PyData.canLay0; exact slash_ok d
  | num v => unfold PyData.canLay0; rfl
/-- the sign c written so: with a backslash ahead where it is one of qs -/
theorem esc_word {X : Wd} {A : Around} {E : Loc → CHeap → Prop} {env : Env} {m : Loc} {H : CHeap} {Q : CV → CHeap → Prop} {elt iter : Expr} {x : Str} {px : Pos} {scope : Scope} {cl : List (Str × Addr)} {pos : Pos} {sc : Scope} {cells : List (Str × Addr)} {cd : Value} {qual : Str} (ok : EnvOk env sc cells cd qual)
    (w qs : List Nat) (hA : A.handled = none) (hw : w.length ≤ 13)
    (hclos : closL cells scope.names [] = some cl) (hcell : ∀ y ∈ scope.names, y.2 ≠ .cell) (hkind : scope.kind = .function) (hnames : ∀ y ∈ scope.names, y.2 = .local → scope.names.lookup y.1 = some .local) (hx : scope.names.lookup x = some .local)
    (hs : ∀ v, foldedSetIterable iter env v = pure v)
    (h : EvE X A E env iter (fun V H1 => V = .str (chS w) ∧ H1 = H) m H)
    (turn : ∀ E' cenv c, EnvOk cenv (relabelS scope sc) cl cd qual → c ∈ w → EvE X A E' cenv elt (fun W' H2 => W' = .str (chS (esq qs c)) ∧ H2 = H) [(x, .str (chS [c]))] H)
    (fin : ∀ a H', Ext H H' → H' a = some (.list (wds (w.map (esq qs)))) → Q (.ref a) H') : EvE X A E env (.ListComp elt [⟨.Name x px, iter, [], 0⟩] scope pos) Q m H :=
  comp_chars ok w (esq qs) hA (Nat.le_trans hw (by decide)) hclos hcell hkind hnames hx hs h turn fun a fa => fin a _ (Ext.new fa) (upd_self _ _ _)
theorem text_spec {X : Wd} {P : Params} (W : W01 X P) {t : Tr} {pl : List Th} {M : Int} {A : Around} {E : CHeap → Prop} {H : CHeap} {Q : CV → CHeap → Prop} (hb : bnd t) (hz : sz t ≤ 100) (hp : pol 0 t = some pl) (ro : Room A (ht t + 35))
    (h : ∀ H', Ext H H' → Q (.str (chS (txt (wsT pl) M))) H') : Cl X A E (.glob 179) [trC t, .int M] Q H := by
  have hK := W.hK
  refine cl_def (ns := [Str.ofString "tree", Str.ofString "manners"]) (n := ht t + 34) (by rw [hK]; rfl) (by rw [hK]; rfl) rfl (len2 fun _ _ => rfl) rfl (by decide) (by decide) (by decide) rfl rfl rfl rfl rfl rfl ro ?_
  intro A' E' env ro' ok hL
  have hu := ro'.un
  have hplz := pol_len hp
  repeat walk_at "e"
  obtain ⟨J, hJ⟩ := named4 (fun (V : CV) (i : Nat) (m' : Loc) (Hx : CHeap) => ∃ l acc M', V = .ref l ∧ i ≤ pl.length ∧ m'.lookup (Str.ofString "text") = some (.str (chS acc)) ∧ m'.lookup (Str.ofString "manners") = some (.int M') ∧ Ext H Hx ∧ Hx l = some (.list (ths pl)) ∧ acc ++ txt (wsT (pl.drop i)) M' = txt (wsT pl) M ∧ acc.length ≤ i * 28)
  refine ex_forV lstF lstG J pl.length ro'.hd ?_ ?_ ?_ ?_ ?_ (fun _ => rfl)
  · intro V i m' Hx hj
    obtain ⟨l, acc, M', rfl, _, _, _, _, gl, _⟩ := (hJ _ _ _ _).mp hj
    exact ⟨_, gl⟩
  · repeat walk_at "e"
    refine polish_spec (k := 0) W t hb hz (ro'.le (by omega)) (fun pl' hpl b Hy fb ey gb => ?_) (fun hpl => nomatch hp.symm.trans hpl)
    obtain rfl : pl = pl' := Option.some.inj (hp.symm.trans hpl)
    exact ⟨iter_list gb, (hJ _ _ _ _).mpr ⟨b, [], M, rfl, Nat.zero_le _, by walk_at "lk", by walk_at "lk", ey, gb, rfl, Nat.zero_le _⟩⟩
  · intro V i m' Hx hj hf
    obtain ⟨l, acc, M', rfl, _, _, _, _, gl, _⟩ := (hJ _ _ _ _).mp hj
    rw [show lstF (.ref l) i Hx = _ from listF_eq gl] at hf
    exact Classical.byContradiction fun q => hf (List.getElem?_eq_none (by rw [ths_len]; exact Nat.not_lt.mp q))
  · intro E2 V i m' Hx Y hj hLL hf
    obtain ⟨l, acc, M', rfl, hi, m1, m2, ex, gl, he, hal⟩ := (hJ _ _ _ _).mp hj
    rw [show lstF (.ref l) i Hx = _ from listF_eq gl] at hf
    unfold ths at hf
    rw [List.getElem?_map] at hf
    cases z : pl[i]? with
    | none => rw [z] at hf; cases hf
    | some x =>
    rw [z] at hf
    cases hf
    have hxk := pol_ok hb hp x (List.mem_of_getElem? z)
    obtain ⟨hi2, hxe⟩ := List.getElem?_eq_some_iff.mp z
    rw [List.drop_eq_getElem_cons hi2, hxe] at he
    have htl := tw_len hxk
    have hlo := tw_low hxk
    iterate 3 walk_at "e"
    refine EvE.mono (Q := fun V H' => V = .str (chS (tw x)) ∧ Ext Hx H') ?_ ?_
    · repeat walk_at "e"
      intro l' fl'
      refine cmp_in_data (rd_th x) (.list (upd_self _ _ _) (.cons (.str _) (.cons (.str _) .nil))) (lay_th x) (by unfold PyData.canLayAll0 PyData.canLayAll0 PyData.canLayAll0 PyData.canLay0; rw [show PyData.strOk (Str.ofString "/") = true from slash_ok true, show PyData.strOk (Str.ofString "%") = true from slash_ok false]; rfl) (by simp only [PyData.depthAll, PyData.depth]; omega) ?_
      rw [show ([PyData.str (Str.ofString "/"), .str (Str.ofString "%")].any fun y => PyData.eqv y (dth x)) = isOp x from in_signs2 x]
      have e4 : Ext Hx (upd Hx l' (.list [.str (Str.ofString "/"), .str (Str.ofString "%")])) := Ext.new fl'
      generalize upd Hx l' (.list [.str (Str.ofString "/"), .str (Str.ofString "%")]) = H4 at e4 ⊢
      repeat walk_at "e"
      refine ⟨fun q => ?_, fun q => ?_⟩
      · cases x with
        | num v => cases q
        | op d =>
          repeat walk_at "e"
          exact ⟨rfl, e4⟩
      · cases x with
        | op d => cases q
        | num v =>
          repeat walk_at "e"
          refine word_spec W hxk (ro'.le (by omega)) ?_
          intro H5 e5
          exact ⟨rfl, e4.trans e5⟩
    rintro V H2 ⟨rfl, e2⟩
    have ex2 := ex.trans e2
    have gl2 := e2 _ _ gl
    have hwl := wrq_len (tw x) (M'.fmod 2 == 1)
    iterate 2 walk_at "e"
    refine ExS.mono (Q := fun F m2 H3 => F = .next ∧ Ext H2 H3 ∧ m2.lookup (Str.ofString "text") = some (.str (chS (acc ++ wrq (tw x) (M'.fmod 2 == 1)))) ∧ m2.lookup (Str.ofString "manners") = some (.int M')) ?_ ?_
    · have hacc : acc.length ≤ 3000 := by omega
      have sq : ∀ qs : List Nat, ∀ c, (¬ qs.contains c = true) → esq qs c = [c] := fun qs c q => if_neg q
      repeat walk_at "e"
      refine bin_mod (by decide) ?_
      repeat walk_at "e"
      refine ⟨fun q => ?_, fun q => ?_⟩
      · rw [q]
        rw [q] at hwl
        repeat walk_at "e"
        refine esc_word ok (tw x) [34, 92] ro'.hd htl rfl (by decide) rfl (by decide) rfl (fun _ => rfl) ?_ ?_ ?_
        · repeat walk_at "e"
          exact ⟨rfl, rfl⟩
        · intro E3 cenv c okc hcw
          repeat walk_at "e"
          rw [in_a c (hlo c hcw)]
          refine ⟨fun q => ?_, fun q => ?_⟩
          · repeat walk_at "e"
            refine bin_add_chS (a := [92]) (b := [c]) (by decide) (by simp) ⟨?_, rfl⟩
            rw [show esq [34, 92] c = [92, c] from if_pos q]; rfl
          · repeat walk_at "e"
            rw [sq _ c (by rw [q]; exact Bool.false_ne_true)]
            exact ⟨rfl, rfl⟩
        · intro a H3 e3 ga
          have hl := flat_len2 (esq_le [34, 92]) (tw x)
          repeat walk_at "e"
          refine cl_joinw ga (by omega) ?_
          refine bin_add_chS (a := [34]) (by decide) (by omega) ?_
          repeat walk_at "e"
          refine bin_add_chS (b := [34]) (by rw [List.length_append]; exact Nat.le_trans (Nat.add_le_add (Nat.le_refl 1) hl) (by omega)) (by decide) ?_
          refine inp_add_str (x := chS acc) (y := chS ([34] ++ ((tw x).map (esq [34, 92])).flatten ++ [34])) (by rw [chS_len, chS_len]; exact Nat.le_trans (Nat.add_le_add hacc (show _ ≤ 100 from Nat.le_trans hwl (by omega))) (by decide)) ?_
          rw [chS_app]
          repeat walk_at "e"
          exact ⟨rfl, e3, by walk_at "lk", by walk_at "lk"⟩
      · rw [q]
        rw [q] at hwl
        repeat walk_at "e"
        refine esc_word ok (tw x) [92, 32, 10, 9, 13] ro'.hd htl rfl (by decide) rfl (by decide) rfl (fun _ => rfl) ?_ ?_ ?_
        · repeat walk_at "e"
          exact ⟨rfl, rfl⟩
        · intro E3 cenv c okc hcw
          repeat walk_at "e"
          rw [in_c c (hlo c hcw)]
          refine ⟨fun q => ?_, fun q => ?_⟩
          · repeat walk_at "e"
            refine bin_add_chS (a := [92]) (b := [c]) (by decide) (by simp) ⟨?_, rfl⟩
            rw [show esq [92, 32, 10, 9, 13] c = [92, c] from if_pos q]; rfl
          · repeat walk_at "e"
            rw [sq _ c (by rw [q]; exact Bool.false_ne_true)]
            exact ⟨rfl, rfl⟩
        · intro a H3 e3 ga
          have hl := flat_len2 (esq_le [92, 32, 10, 9, 13]) (tw x)
          repeat walk_at "e"
          refine cl_joinw ga (by omega) ?_
          repeat walk_at "e"
          refine bin_add_chS (b := [10]) (by omega) (by decide) ?_
          refine inp_add_str (x := chS acc) (y := chS (((tw x).map (esq [92, 32, 10, 9, 13])).flatten ++ [10])) (by rw [chS_len, chS_len]; exact Nat.le_trans (Nat.add_le_add hacc (show _ ≤ 100 from Nat.le_trans hwl (by omega))) (by decide)) ?_
          rw [chS_app]
          repeat walk_at "e"
          exact ⟨rfl, e3, by walk_at "lk", by walk_at "lk"⟩
    · rintro F m2 H3 ⟨rfl, e3, mt, mm⟩
      repeat walk_at "e"
      refine bin_div (by decide) (PyProof.noPylong_small (by decide)) ?_
      repeat walk_at "e"
      refine (hJ _ _ _ _).mpr ⟨l, acc ++ wrq (tw x) (M'.fmod 2 == 1), M'.fdiv 2, rfl, hi2, by walk_at "lk", by walk_at "lk", ex2.trans e3, e3 _ _ gl2, ?_, ?_⟩
      · rw [← he, List.append_assoc]; rfl
      · rw [List.length_append]; omega
  · intro V i m' Hx hj hf
    obtain ⟨l, acc, M', rfl, hi, m1, m2, ex, gl, he, hal⟩ := (hJ _ _ _ _).mp hj
    rw [show lstF (.ref l) i Hx = _ from listF_eq gl] at hf
    have hge := List.getElem?_eq_none_iff.mp hf
    rw [ths_len] at hge
    rw [List.drop_of_length_le hge, show txt (wsT []) M' = [] from rfl, List.append_nil] at he
    subst he
    repeat walk_at "e"
    exact h Hx ex
end
section
set_option maxRecDepth 100000
set_option maxHeartbeats 4000000
def trCs (l : List Tr) : List CV := l.map trC
theorem trCs_len (l : List Tr) : (trCs l).length = l.length := List.length_map ..
def szs (l : List Tr) : Nat := (l.map sz).sum
theorem szs_leaves {α : Type} (f : α → Int) (l : List α) : szs (l.map fun x => Tr.leaf (f x)) = l.length := by
  unfold szs
  induction l with
  | nil => rfl
  | cons a r ih => rw [List.map_cons, List.map_cons, List.sum_cons, ih, List.length_cons]; exact Nat.add_comm _ _
theorem szs_join (L R : List Tr) (d : Bool) (x y : Tr) : szs (L ++ [Tr.op d x y] ++ R) = szs (L ++ x :: y :: R) + 1 := by
  unfold szs
  simp only [List.map_append, List.sum_append, List.map_cons, List.sum_cons, List.map_nil, List.sum_nil, sz]
  omega
theorem sz_pos : ∀ t, 1 ≤ sz t
  | .leaf _ => Nat.le_refl _
  | .op _ l r => by show 1 ≤ 1 + _ + _; omega
theorem ht_sz : ∀ t, 2 * ht t + 1 ≤ sz t
  | .leaf _ => Nat.le_refl _
  | .op _ l r => by
    have := ht_sz l
    have := ht_sz r
    have := sz_pos l
    have := sz_pos r
    show 2 * (1 + max (ht l) (ht r)) + 1 ≤ 1 + sz l + sz r
    omega
theorem ht_pos : ∀ {t : Tr}, 3 ≤ sz t → 1 ≤ ht t
  | .leaf _, h => absurd h (show ¬ 3 ≤ 1 by decide)
  | .op _ l r, _ => Nat.le_add_right _ _
/-- the forest from which a tree is made -/
structure Frst (F : List Tr) : Prop where
  bn : ∀ t ∈ F, bnd t
  le : F.length ≤ 6
  lo : 4 ≤ szs F + F.length
  hi : szs F + F.length ≤ 12
theorem Frst.leaves {α : Type} (f : α → Int) (l : List α) (h1 : 2 ≤ l.length) (h2 : l.length ≤ 6) : Frst (l.map fun x => Tr.leaf (cut (f x))) := by
  have e := szs_leaves (fun x => cut (f x)) l
  refine ⟨fun t ht => ?_, by rw [List.length_map]; exact h2, by rw [e, List.length_map]; omega, by rw [e, List.length_map]; omega⟩
  obtain ⟨x, _, rfl⟩ := List.mem_map.mp ht
  exact cut_lt _
theorem Frst.join {L R : List Tr} {d : Bool} {x y : Tr} (f : Frst (L ++ x :: y :: R)) : Frst (L ++ [Tr.op d x y] ++ R) := by
  obtain ⟨a, b, c, e⟩ := f
  have hl : (L ++ [Tr.op d x y] ++ R).length + 1 = (L ++ x :: y :: R).length := by simp; omega
  refine ⟨fun t ht => ?_, by omega, by rw [szs_join]; omega, by rw [szs_join]; omega⟩
  have hx := a x (by simp)
  have hy := a y (by simp)
  rcases List.mem_append.mp ht with q | q
  · rcases List.mem_append.mp q with q | q
    · exact a t (by simp [q])
    · rw [List.mem_singleton.mp q]; exact ⟨hx, hy⟩
  · exact a t (by simp [q])
theorem Frst.two {F : List Tr} (f : Frst F) : 0 < F.length := by
  have := f.lo
  cases F with
  | nil => exact absurd this (by decide)
  | cons _ _ => exact Nat.succ_pos _
theorem log_small {k : Nat} (h : k < 8 ^ 12) : ((k : Int)).natAbs.log2 < 9000 := log36 (b := (k : Int)) (by rw [Int.natAbs_natCast]; exact h)
theorem pick6 (zs : List Int) : (pick zs (some 1) (some 7)).length ≤ 6 := by
  unfold pick
  rw [List.length_take]
  refine Nat.le_trans (Nat.min_le_left _ _) ?_
  unfold kms_lo kms_hi
  simp
  omega
theorem swapW_env {env : Env} {sc : Scope} {cells : List (Str × Addr)} {cd : Value} {qual : Str} {v : Expr} {t : Option Expr} {n : Nat} (ok : EnvOk env sc cells cd qual) : swapsWith v t n env = swapsWith v t n (envS sc) := by
  have e : ∀ env env' : Env, env.scope = env'.scope → swapsWith v t n env = swapsWith v t n env' := by
    intro env env' e
    unfold swapsWith Env.kindOf Env.blockKind
    rw [e]
  exact e env (envS sc) ok.sc
theorem asg_list {X : Wd} {A : Around} {E : Loc → CHeap → Prop} {env : Env} {m : Loc} {H : CHeap} {Q : CF → Loc → CHeap → Prop} {y : Str} {py spos : Pos} {elt iter : Expr} {x : Str} {px : Pos} {scope : Scope} {cl : List (Str × Addr)} {pos : Pos} {sc : Scope} {cells : List (Str × Addr)} {cd : Value} {qual : Str} (ok : EnvOk env sc cells cd qual)
    (J : Addr → Nat → CHeap → Prop) (Vs Ws : List CV) (hA : A.handled = none)
    (hclos : closL cells scope.names [] = some cl) (hcell : ∀ y ∈ scope.names, y.2 ≠ .cell) (hkind : scope.kind = .function) (hnames : ∀ y ∈ scope.names, y.2 = .local → scope.names.lookup y.1 = some .local) (hx : scope.names.lookup x = some .local)
    (hs : ∀ v, foldedSetIterable iter env v = pure v)
    (hlen : Vs.length = Ws.length) (hz : Ws.length ≤ sizeLine) (hl : ∀ l i Hx, J l i Hx → Hx l = some (.list Vs))
    (h : EvE X A E env iter (fun V H1 => ∃ l, V = .ref l ∧ J l 0 H1) m H)
    (turn : ∀ E' cenv l i Hx V W, EnvOk cenv (relabelS scope sc) cl cd qual → J l i Hx → Vs[i]? = some V → Ws[i]? = some W → EvE X A E' cenv elt (fun W' H2 => W' = W ∧ J l (i + 1) H2) [(x, V)] Hx)
    (fin : ∀ l Hx a, J l Ws.length Hx → Hx a = none → Q .next (put y (.ref a) m) (upd Hx a (.list Ws))) (hsw : swapsWith (.ListComp elt [⟨.Name x px, iter, [], 0⟩] scope pos) (some (.Name y py)) spos.line env = pure true) (hek : env.scope.kind = .function) (hey : env.kindOf y = some .local) : ExS X A E env (.Assign [.Name y py] (.ListComp elt [⟨.Name x px, iter, [], 0⟩] scope pos) spos) Q m H := by
  have hf : ∀ {l i Hx}, J l i Hx → listF l i Hx = Vs[i]? := fun j => listF_eq (hl _ _ _ j)
  obtain ⟨I, hI⟩ := named4 (fun (V : CV) (i : Nat) (ys : List CV) (Hx : CHeap) => ∃ l, V = .ref l ∧ J l i Hx ∧ i ≤ Vs.length ∧ ys = Ws.take i)
  refine ex_compV ok lstF lstG I Vs.length hA hclos hcell hkind hnames hx ?_ ?_ (h.mono ?_) ?_ ?_ hs hsw hek hey
  · intro V i ys Hx hi
    obtain ⟨l, rfl, j, _⟩ := (hI _ _ _ _).mp hi
    exact ⟨_, hl _ _ _ j⟩
  · intro V i ys Hx hi hn
    obtain ⟨l, rfl, j, _⟩ := (hI _ _ _ _).mp hi
    exact Classical.byContradiction fun n => hn ((hf j).trans (List.getElem?_eq_none (Nat.not_lt.mp n)))
  · rintro V H1 ⟨l, rfl, j⟩
    exact ⟨iter_list (hl _ _ _ j), (hI _ _ _ _).mpr ⟨l, rfl, j, Nat.zero_le _, rfl⟩⟩
  · intro E' cenv U i ys Hx V okc hi hfi _
    obtain ⟨l, rfl, j, hil, rfl⟩ := (hI _ _ _ _).mp hi
    have hV := (hf j).symm.trans hfi
    have hlt := (List.getElem?_eq_some_iff.mp hV).1
    have hW := List.getElem?_eq_getElem (hlen ▸ hlt : i < Ws.length)
    refine evt_nil ?_
    refine two_true ?_
    refine (turn E' cenv l i Hx V _ okc j hV hW).mono ?_
    rintro W' H2 ⟨rfl, j2⟩
    refine ⟨Nat.le_trans (by rw [List.length_take]; exact Nat.min_le_right _ _) hz, (hI _ _ _ _).mpr ⟨l, rfl, j2, hlt, ?_⟩⟩
    rw [List.take_add_one, hW]; rfl
  · intro U i ys Hx hi hn a fa
    obtain ⟨l, rfl, j, hil, rfl⟩ := (hI _ _ _ _).mp hi
    have hge := List.getElem?_eq_none_iff.mp ((hf j).symm.trans hn)
    have e : i = Ws.length := by rw [← hlen]; exact Nat.le_antisymm hil hge
    subst e
    rw [List.take_length]
    exact fin l Hx a j fa
theorem tree_spec {X : Wd} {P : Params} (W : W01 X P) {zs : List Int} {A : Around} {E : CHeap → Prop} {H : CHeap} {Q : CV → CHeap → Prop} (hz : zs.length ≤ 63) (ro : Room A 2)
    (h : ∀ t H', bnd t → sz t ≤ 11 → 1 ≤ ht t → Ext H H' → Q (trC t) H') : Cl X A E (.glob 117) [.frz zs] Q H := by
  have hK := W.hK
  refine cl_def (ns := [Str.ofString "script"]) (n := 1) (by rw [hK]; rfl) (by rw [hK]; rfl) rfl (len1 fun _ => rfl) rfl (by decide) (by decide) (by decide) rfl rfl rfl rfl rfl rfl ro ?_
  intro A' E' env ro' ok hL
  have hp6 := pick6 zs
  repeat walk_at "e"
  refine asg_list ok (fun b _ Hy => Ext H Hy ∧ Hy b = some (.list ((pick zs (some 1) (some 7)).map CV.int))) ((pick zs (some 1) (some 7)).map CV.int) (trCs ((pick zs (some 1) (some 7)).map fun x => Tr.leaf (cut x))) ro'.hd rfl (by decide) rfl (by decide) rfl (fun _ => rfl) (by rw [trCs_len, List.length_map, List.length_map]) (by rw [trCs_len, List.length_map]; exact Nat.le_trans hp6 (by decide)) (fun b i Hy j => j.2) ?_ ?_ ?_ ((swapW_env ok).trans rfl) (kind_ok ok rfl) (kindOf_ok ok rfl)
  · repeat walk_at "e"
    refine sli_frz (Nat.le_trans hz (by decide)) ?_
    intro b fb
    exact ⟨b, rfl, Ext.new fb, upd_self _ _ _⟩
  · rintro E3 cenv b j Hy V Wv okc ⟨ey, gb⟩ hV hW
    rw [List.getElem?_map] at hV
    unfold trCs at hW
    rw [List.getElem?_map, List.getElem?_map] at hW
    cases z : (pick zs (some 1) (some 7))[j]? with
    | none => rw [z] at hV; cases hV
    | some x =>
      rw [z] at hV hW
      cases hV; cases hW
      repeat walk_at "e"
      refine cut_spec W (ro'.le (by decide)) ?_
      repeat walk_at "e"
      exact ⟨rfl, ey, gb⟩
  rintro b Hy l ⟨ey, gb⟩ fl
  have e1 : Ext H (upd Hy l (.list (trCs ((pick zs (some 1) (some 7)).map fun x => Tr.leaf (cut x))))) := ey.put (ey.nay fl)
  have gl := upd_self Hy l (.list (trCs ((pick zs (some 1) (some 7)).map fun x => Tr.leaf (cut x))))
  have fl0 := ey.nay fl
  generalize upd Hy l (.list (trCs ((pick zs (some 1) (some 7)).map fun x => Tr.leaf (cut x)))) = H1 at e1 gl ⊢
  clear ey gb fl
  have hl1 : (trCs ((pick zs (some 1) (some 7)).map fun x => Tr.leaf (cut x))).length = (pick zs (some 1) (some 7)).length := by rw [trCs_len, List.length_map]
  generalize pick zs (some 1) (some 7) = ps at hp6 hl1 gl
  iterate 1 walk_at "e"
  refine ExS.mono (Q := fun F m2 H3 => F = .next ∧ ∃ F0, Frst F0 ∧ Ext H H3 ∧ H3 l = some (.list (trCs F0)) ∧ m2.lookup (Str.ofString "trees") = some (.ref l) ∧ m2.lookup (Str.ofString "script") = some (.frz zs)) ?_ ?_
  · repeat walk_at "e"
    refine cl_len gl (by rw [hl1]; exact Nat.lt_of_le_of_lt hp6 (by decide)) ?_
    rw [hl1]
    repeat walk_at "e"
    refine ⟨fun q => ?_, fun q => ?_⟩
    · have h2 : ps.length < 2 := by have := of_decide_eq_true q; omega
      repeat walk_at "e"
      refine comp_list ok (fun b _ Hy => Ext H1 Hy ∧ Hy b = some (.list ([-29, 4, 75, -13].map CV.int))) ([-29, 4, 75, -13].map CV.int) (trCs ([-29, 4, 75, -13].map fun x => Tr.leaf x)) ro'.hd rfl (by decide) rfl (by decide) rfl (fun _ => rfl) rfl (by decide) (fun b i Hy j => j.2) ?_ ?_ ?_
      · repeat walk_at "e"
        intro b fb
        exact ⟨b, rfl, Ext.new fb, upd_self _ _ _⟩
      · rintro E3 cenv b j Hy V Wv okc ⟨ey, gb⟩ hV hW
        rw [List.getElem?_map] at hV
        unfold trCs at hW
        rw [List.getElem?_map, List.getElem?_map] at hW
        cases z : ([-29, 4, 75, -13] : List Int)[j]? with
        | none => rw [z] at hV; cases hV
        | some x =>
          rw [z] at hV hW
          cases hV; cases hW
          repeat walk_at "e"
          exact ⟨rfl, ey, gb⟩
      · rintro b Hy c ⟨ey, gb⟩ fc
        have gl2 := ey _ _ gl
        have ncl : l ≠ c := ne_of fc gl2
        refine inp_add_list (upd_ne' ncl gl2) (upd_self _ _ _) ncl ?_ ?_
        · rw [hl1]; exact Nat.le_trans (show ps.length + 4 ≤ 6 by omega) (by decide)
        · repeat walk_at "e"
          refine ⟨rfl, ((ps.map fun x => Tr.leaf (cut x)) ++ [-29, 4, 75, -13].map fun x => Tr.leaf x), ?_, ((e1.trans ey).put ((e1.trans ey).nay fc)).put fl0, ?_, by walk_at "lk", by walk_at "lk"⟩
          · have e := szs_leaves cut ps
            refine ⟨fun t ht => ?_, ?_, ?_, ?_⟩
            · rcases List.mem_append.mp ht with q | q
              · obtain ⟨x, _, rfl⟩ := List.mem_map.mp q
                exact cut_lt _
              · obtain ⟨x, hx, rfl⟩ := List.mem_map.mp q
                have : ∀ x ∈ ([-29, 4, 75, -13] : List Int), x.natAbs < 8 ^ 12 := by decide
                exact this x hx
            · simp; omega
            · unfold szs at e ⊢; simp at e ⊢; omega
            · unfold szs at e ⊢
              rw [List.map_append, List.sum_append, e]
              simp [sz]; omega
          · rw [upd_self]; unfold trCs; rw [List.map_append]
    · have h2 : 2 ≤ ps.length := by have := of_decide_eq_false q; omega
      repeat walk_at "e"
      exact ⟨rfl, _, Frst.leaves id ps h2 hp6, e1, gl, by walk_at "lk", by walk_at "lk"⟩
  rintro F m2 H3 ⟨rfl, F0, hF, e3, g3, mt, ms⟩
  clear gl e1 hl1 hp6 ps fl0
  iterate 2 walk_at "e"
  refine EvE.mono (Q := fun V H' => ∃ n : Nat, V = .int (n : Nat) ∧ H' = H3) ?_ ?_
  · repeat walk_at "e"
    refine tr_frz (Nat.lt_of_le_of_lt hz (by decide)) ?_
    cases zs with
    | nil =>
      refine two_false ?_
      repeat walk_at "e"
      exact ⟨42, rfl, rfl⟩
    | cons z r =>
      refine two_true ?_
      repeat walk_at "e"
      refine sub_frz (z := z) (by decide) rfl (Nat.lt_of_le_of_lt hz (by decide)) (fun _ _ => rfl) ?_
      repeat walk_at "e"
      rw [abs_nat]
      exact ⟨_, rfl, rfl⟩
  rintro V H' ⟨n, rfl, rfl⟩
  have hlen := hF.two
  obtain ⟨I, hI⟩ := named3 (fun (k : Nat) (m' : Loc) (Hx : CHeap) => ∃ F l sh, Frst F ∧ F.length = k + 1 ∧ Ext H Hx ∧ Hx l = some (.list (trCs F)) ∧ m'.lookup (Str.ofString "trees") = some (.ref l) ∧ m'.lookup (Str.ofString "shape") = some (.int (sh : Nat)))
  repeat walk_at "e"
  refine ex_while I (F0.length - 1) ((hI _ _ _).mpr ⟨F0, l, n, hF, (Nat.succ_pred_eq_of_pos hlen).symm, e3, g3, by walk_at "lk", by walk_at "lk"⟩) ?_
  clear e3 g3 mt ms hF hlen
  intro E2 k m' Hx hi hLL
  obtain ⟨F, l, sh, hF, hk, ex, gl, m1, m2⟩ := (hI _ _ _).mp hi
  have hz6 : (trCs F).length ≤ 6 := by rw [trCs_len]; exact hF.le
  have hk5 : k ≤ 5 := by have := hF.le; omega
  repeat walk_at "e"
  refine cl_len gl (Nat.lt_of_le_of_lt hz6 (by decide)) ?_
  rw [trCs_len, hk]
  repeat walk_at "e"
  refine ⟨fun q => ?_, fun q => ?_⟩
  · have hk1 : 1 ≤ k := by have := of_decide_eq_true q; omega
    repeat walk_at "e"
    refine cl_len gl (Nat.lt_of_le_of_lt hz6 (by decide)) ?_
    rw [trCs_len, hk]
    repeat walk_at "e"
    rw [show ((k + 1 : Nat) : Int) - 1 = (k : Int) by omega]
    repeat walk_at "e"
    have hk0 : (k : Int) ≠ 0 := by omega
    refine bin_mod hk0 ?_
    rw [show (sh : Int).fmod (k : Int) = ((sh % k : Nat) : Int) by rw [Int.fmod_eq_emod_of_nonneg _ (by omega)]; rfl]
    repeat walk_at "e"
    have hnp : Builtin.divisionGoesByPylong (sh : Int) (k : Int) = false := PyProof.noPylong_of_log2 (log_small (by omega))
    refine bin_div hk0 hnp ?_
    rw [show (sh : Int).fdiv (k : Int) = ((sh / k : Nat) : Int) by rw [Int.fdiv_eq_ediv_of_nonneg _ (by omega)]; rfl]
    repeat walk_at "e"
    refine bin_mod (by decide) ?_
    rw [show ((sh / k : Nat) : Int).fmod 2 = ((sh / k % 2 : Nat) : Int) by rw [Int.fmod_eq_emod_of_nonneg _ (by decide)]; rfl]
    obtain ⟨L, x, y, R, rfl, hL⟩ : ∃ L x y R, F = L ++ x :: y :: R ∧ L.length = sh % k := by
      have hlt := Nat.mod_lt sh hk1
      have h1 : sh % k < F.length := by omega
      have h2 : sh % k + 1 < F.length := by omega
      refine ⟨F.take (sh % k), F[sh % k], F[sh % k + 1], F.drop (sh % k + 1 + 1), ?_, ?_⟩
      · rw [← List.drop_eq_getElem_cons h2, ← List.drop_eq_getElem_cons h1, List.take_append_drop]
      · rw [List.length_take]; omega
    have hd2 : sh / k % 2 < 2 := Nat.mod_lt _ (by decide)
    have hsg : ∀ q : Fin 2, (Str.ofString "/%").cps[q.val]? = some (opN (q.val == 0)) := by decide +kernel
    refine sub_str (c := opN (sh / k % 2 == 0)) (Int.natCast_nonneg _) (by rw [Int.toNat_natCast]; exact hsg ⟨_, hd2⟩) (by decide) (fun _ _ => rfl) ?_
    rw [show (⟨#[opN (sh / k % 2 == 0)]⟩ : Str) = chS [opN (sh / k % 2 == 0)] from rfl]
    have hFj := hF.join (d := sh / k % 2 == 0)
    generalize (sh / k % 2 == 0) = d at hFj ⊢
    have hap : trCs (L ++ x :: y :: R) = trCs L ++ trC x :: trC y :: trCs R := List.map_append ..
    have hLt : (trCs L).length = sh % k := (trCs_len L).trans hL
    rw [hap] at gl hz6
    have hzl : (trCs L).length ≤ 6 := Nat.le_trans (by rw [List.length_append]; exact Nat.le_add_right _ _) hz6
    have hzr : (trCs R).length ≤ 6 := Nat.le_trans (by rw [List.length_append, List.length_cons, List.length_cons]; omega) hz6
    generalize sh % k = at' at hL hLt ⊢
    repeat walk_at "e"
    refine sli_list gl (Nat.le_trans hz6 (by decide)) ?_
    intro b1 fb1
    rw [show pick (trCs L ++ trC x :: trC y :: trCs R) none (some (at' : Int)) = trCs L from by rw [pickT, List.take_left' hLt]]
    have gl1 := upd_ne' (o := .list (trCs L)) (ne_of fb1 gl) gl
    repeat walk_at "e"
    refine sub_list (k := at') (V := trC x) gl1 (.inl ⟨Int.natCast_nonneg _, (Int.toNat_natCast _).symm⟩) (by rw [List.getElem?_append_right (by omega), hLt, Nat.sub_self]; rfl) (Nat.lt_of_le_of_lt hz6 (by decide)) (fun _ _ => rfl) ?_
    repeat walk_at "e"
    refine sub_list (k := at' + 1) (V := trC y) gl1 (.inl ⟨by omega, by omega⟩) (by rw [List.getElem?_append_right (by omega), hLt, Nat.add_sub_cancel_left]; rfl) (Nat.lt_of_le_of_lt hz6 (by decide)) (fun _ _ => rfl) ?_
    repeat walk_at "e"
    intro b2 fb2
    obtain ⟨n21, fb2⟩ := upd_none fb2
    refine bin_add_list (upd_ne' n21.symm (upd_self _ _ _)) (upd_self _ _ _) (Nat.le_trans (Nat.add_le_add hzl (Nat.le_refl 1)) (by decide)) ?_
    intro b3 fb3
    obtain ⟨n32, fb3⟩ := upd_none fb3
    obtain ⟨n31, fb3⟩ := upd_none fb3
    have gl3 : upd (upd (upd Hx b1 (.list (trCs L))) b2 (.list [.tuple [.str (chS [opN d]), trC x, trC y]])) b3 (.list (trCs L ++ [.tuple [.str (chS [opN d]), trC x, trC y]])) l = _ := upd_ne' (ne_of fb3 gl) (upd_ne' (ne_of fb2 gl) gl1)
    repeat walk_at "e"
    refine sli_list gl3 (Nat.le_trans hz6 (by decide)) ?_
    intro b4 fb4
    obtain ⟨n43, fb4⟩ := upd_none fb4
    obtain ⟨n42, fb4⟩ := upd_none fb4
    obtain ⟨n41, fb4⟩ := upd_none fb4
    rw [show pick (trCs L ++ trC x :: trC y :: trCs R) (some ((at' : Int) + 2)) none = trCs R from by rw [show (at' : Int) + 2 = ((at' + 2 : Nat) : Int) from rfl, pickD, List.drop_append, hLt, Nat.add_sub_cancel_left, List.drop_of_length_le (by omega)]; rfl]
    refine bin_add_list (upd_ne' n43.symm (upd_self _ _ _)) (upd_self _ _ _) (Nat.le_trans (Nat.add_le_add (by rw [List.length_append]; exact Nat.add_le_add hzl (Nat.le_refl 1)) hzr) (by decide)) ?_
    intro b5 fb5
    obtain ⟨n54, fb5⟩ := upd_none fb5
    obtain ⟨n53, fb5⟩ := upd_none fb5
    obtain ⟨n52, fb5⟩ := upd_none fb5
    obtain ⟨n51, fb5⟩ := upd_none fb5
    have e5 := ((((ex.put (o := .list (trCs L)) (ex.nay fb1)).put (o := .list [.tuple [.str (chS [opN d]), trC x, trC y]]) (ex.nay fb2)).put (o := .list (trCs L ++ [.tuple [.str (chS [opN d]), trC x, trC y]])) (ex.nay fb3)).put (o := .list (trCs R)) (ex.nay fb4)).put (o := .list (trCs L ++ [.tuple [.str (chS [opN d]), trC x, trC y]] ++ trCs R)) (ex.nay fb5)
    have g5 := upd_self (upd (upd (upd (upd Hx b1 (.list (trCs L))) b2 (.list [.tuple [.str (chS [opN d]), trC x, trC y]])) b3 (.list (trCs L ++ [.tuple [.str (chS [opN d]), trC x, trC y]]))) b4 (.list (trCs R))) b5 (.list (trCs L ++ [.tuple [.str (chS [opN d]), trC x, trC y]] ++ trCs R))
    rw [show trCs L ++ [.tuple [.str (chS [opN d]), trC x, trC y]] ++ trCs R = trCs (L ++ [Tr.op d x y] ++ R) by unfold trCs; rw [List.map_append, List.map_append]; rfl] at e5 g5 ⊢
    generalize upd (upd (upd (upd (upd Hx b1 _) b2 _) b3 _) b4 _) b5 _ = H5 at e5 g5 ⊢
    repeat walk_at "e"
    refine bin_mul (IntMulOk.of_left (intBits_le_iff.mpr (by decide))) ?_
    rw [show (2 : Int) * (k : Int) = ((2 * k : Nat) : Int) from rfl]
    refine bin_div (by omega) (PyProof.noPylong_of_log2 (log_small (by omega))) ?_
    rw [show (sh : Int).fdiv ((2 * k : Nat) : Int) = ((sh / (2 * k) : Nat) : Int) by rw [Int.fdiv_eq_ediv_of_nonneg _ (by omega)]; rfl]
    repeat walk_at "e"
    refine ⟨k - 1, by omega, (hI _ _ _).mpr ⟨_, b5, sh / (2 * k), hFj, ?_, e5, g5, by walk_at "lk", by walk_at "lk"⟩⟩
    simp at hk ⊢; omega
  · have hk0 : k = 0 := by have := of_decide_eq_false q; omega
    subst hk0
    obtain ⟨t, rfl⟩ : ∃ t, F = [t] := by
      match F, hk with
      | [t], _ => exact ⟨t, rfl⟩
    repeat walk_at "e"
    have hszl : szs [t] = sz t := by unfold szs; simp
    have h1 := hF.lo
    have h2 := hF.hi
    rw [hszl] at h1 h2
    refine sub_list (k := 0) (V := trC t) gl (.inl ⟨by decide, rfl⟩) rfl (Nat.lt_of_le_of_lt hz6 (by decide)) (fun _ _ => rfl) ?_
    exact h t Hx (hF.bn t (.head _)) (by simp at h2; omega) (ht_pos (by simp at h1; omega)) ex
end
section
set_option maxRecDepth 100000
set_option maxHeartbeats 4000000
theorem quoted_esc (rest : List Nat) : ∀ (w acc : List Nat), quoted ((w.map (esq [34, 92])).flatten ++ 34 :: rest) acc = (acc ++ w, rest)
  | [], acc => by
    show quoted (34 :: rest) acc = _
    rw [quoted_q, List.append_nil]
  | c :: w, acc => by
    rw [List.map_cons, List.flatten_cons, List.append_assoc]
    have ih := quoted_esc rest w (acc ++ [c])
    rw [List.append_assoc] at ih
    by_cases q : [34, 92].contains c = true
    · rw [show esq [34, 92] c = [92, c] from if_pos q]
      show quoted (92 :: c :: _) acc = _
      rw [quoted_bs]; exact ih
    · rw [show esq [34, 92] c = [c] from if_neg q]
      show quoted (c :: _) acc = _
      simp at q
      rw [quoted_o _ _ q.1 q.2]; exact ih
theorem bare_esc (rest : List Nat) : ∀ (w acc : List Nat), bare ((w.map (esq [92, 32, 10, 9, 13])).flatten ++ 10 :: rest) acc = (acc ++ w, rest)
  | [], acc => by
    show bare (10 :: rest) acc = _
    rw [bare_w _ _ rfl, List.append_nil]
  | c :: w, acc => by
    rw [List.map_cons, List.flatten_cons, List.append_assoc]
    have ih := bare_esc rest w (acc ++ [c])
    rw [List.append_assoc] at ih
    by_cases q : [92, 32, 10, 9, 13].contains c = true
    · rw [show esq [92, 32, 10, 9, 13] c = [92, c] from if_pos q]
      show bare (92 :: c :: _) acc = _
      rw [bare_bs]; exact ih
    · rw [show esq [92, 32, 10, 9, 13] c = [c] from if_neg q]
      show bare (c :: _) acc = _
      simp at q
      rw [bare_o _ _ (by simp [isWs, q]) q.1]; exact ih
theorem lex_wrq (x : Th) (q : Bool) (rest : List Nat) : lexTok (wrq (tw x) q ++ rest) = (tw x, rest) := by
  unfold wrq
  cases q
  · rw [if_neg Bool.false_ne_true, List.append_assoc]
    obtain ⟨r, e⟩ := tw_cons x
    rw [e]
    have hh : hdc x = 47 ∨ hdc x = 37 ∨ hdc x = 45 ∨ hdc x = 43 := by
      cases x with
      | op d => cases d <;> simp [hdc, opN]
      | num v => by_cases z : v < 0 <;> simp [hdc, z]
    have h1 : isWs (hdc x) = false ∧ hdc x ≠ 34 ∧ hdc x ≠ 92 ∧ esq [92, 32, 10, 9, 13] (hdc x) = [hdc x] := by
      rcases hh with z | z | z | z <;> rw [z] <;> decide
    rw [List.map_cons, List.flatten_cons, h1.2.2.2, List.append_assoc]
    show lexTok (hdc x :: _) = _
    rw [lexTok_o _ h1.1 h1.2.1 h1.2.2.1]
    exact bare_esc rest r [hdc x]
  · rw [if_pos rfl, List.append_assoc, List.append_assoc]
    show lexTok (34 :: _) = _
    rw [lexTok_q]
    exact quoted_esc rest (tw x) []
theorem esq_low {qs : List Nat} {c : Nat} (h : c < 128) : ∀ e ∈ esq qs c, e < 128 := by
  unfold esq
  intro e he
  split at he
  · simp at he; omega
  · simp at he; omega
theorem flat_low {w qs : List Nat} (h : ∀ c ∈ w, c < 128) : ∀ c ∈ (w.map (esq qs)).flatten, c < 128 := by
  intro c hc
  obtain ⟨p, hp, hcp⟩ := List.mem_flatten.mp hc
  obtain ⟨a, ha, rfl⟩ := List.mem_map.mp hp
  exact esq_low (h a ha) c hcp
theorem wrq_low {w : List Nat} (q : Bool) (h : ∀ c ∈ w, c < 128) : ∀ c ∈ wrq w q, c < 128 := by
  intro c hc
  unfold wrq at hc
  cases q
  · rw [if_neg Bool.false_ne_true] at hc
    rcases List.mem_append.mp hc with z | z
    · exact flat_low h c z
    · rw [List.mem_singleton.mp z]; decide
  · rw [if_pos rfl] at hc
    rcases List.mem_append.mp hc with z | z
    · rcases List.mem_append.mp z with z | z
      · rw [List.mem_singleton.mp z]; decide
      · exact flat_low h c z
    · rw [List.mem_singleton.mp z]; decide
theorem txt_ok : ∀ (l : List Th) (M : Int), (∀ x ∈ l, okT x) → (∀ c ∈ txt (wsT l) M, c < 128) ∧ (txt (wsT l) M).length ≤ l.length * 28
  | [], M, h => ⟨fun c hc => (nomatch hc), Nat.zero_le _⟩
  | x :: l, M, h => by
    obtain ⟨a, b⟩ := txt_ok l (M.fdiv 2) fun y hy => h y (.tail _ hy)
    have h1 := wrq_low (M.fmod 2 == 1) (tw_low (h x (.head _)))
    have h2 := wrq_len (tw x) (M.fmod 2 == 1)
    have h3 := tw_len (h x (.head _))
    show (∀ c ∈ wrq (tw x) (M.fmod 2 == 1) ++ txt (wsT l) (M.fdiv 2), c < 128) ∧ (wrq (tw x) (M.fmod 2 == 1) ++ txt (wsT l) (M.fdiv 2)).length ≤ _
    refine ⟨fun c hc => (List.mem_append.mp hc).elim (h1 c) (a c), ?_⟩
    rw [List.length_append, List.length_cons]; omega
/-- a text read sign by sign -/
def TxS (tx : List Nat) (cA cT la : Addr) (rest : List Nat) (H : CHeap) : Prop :=
  ∃ p, p ≤ tx.length ∧ H cA = some (.cell (some (.ref la))) ∧ H cT = some (.cell (some (.str (chS tx)))) ∧ H la = some (.list [.int (p : Nat)]) ∧ rest = tx.drop p
abbrev GiveC (X : Wd) (d : NDef) (tx : List Nat) (cA cT la : Addr) : Prop :=
  ∀ {A : Around} {E : CHeap → Prop} {H : CHeap} {Q : CV → CHeap → Prop} {rest : List Nat}, Room A 5 → TxS tx cA cT la rest H → (∀ H', ExtZ (fun b => b = la) H H' → TxS tx cA cT la rest.tail H' → Q (.str (chS (rest.take 1))) H') → Cl X A E (.clo d [(Str.ofString "text", cT), (Str.ofString "at", cA)]) [.int 1] Q H
def txStrm {X : Wd} {d : NDef} {tx : List Nat} {cA cT la : Addr} (low : ∀ c ∈ tx, c < 128) (call : GiveC X d tx cA cT la) : Strm X 5 where
  S := TxS tx cA cT la
  W := fun b => b = cA ∨ b = cT ∨ b = la
  Z := fun b => b = la
  give := .clo d [(Str.ofString "text", cT), (Str.ofString "at", cA)]
  call := call
  stab := fun ⟨p, hp, a1, a2, a3, hr⟩ hk => ⟨p, hp, (hk _ (.inl rfl)).trans a1, (hk _ (.inr (.inl rfl))).trans a2, (hk _ (.inr (.inr rfl))).trans a3, hr⟩
  live := fun ⟨p, hp, a1, a2, a3, hr⟩ hb e => by
    rcases hb with rfl | rfl | rfl
    · exact nomatch e.symm.trans a1
    · exact nomatch e.symm.trans a2
    · exact nomatch e.symm.trans a3
  zw := fun b hb => .inr (.inr hb)
  low := fun ⟨p, hp, a1, a2, a3, hr⟩ c hc => by rw [hr] at hc; exact low c (List.mem_of_mem_drop hc)
  ok := callable_clo
  nb := fun id e => nomatch e
end
section
set_option maxRecDepth 100000
set_option maxHeartbeats 4000000
theorem rF_ne {ln ln' : Int} {a : Addr} {p p' : Addr} : rF ln .none p ≠ rF ln' (.ref a) p' := by
  intro e
  unfold rF at e
  simp at e
theorem Rdr.stay {X : Wd} {k : Nat} {T : Strm X k} {r d src ds pl spl : Addr} {ln : Int} {H H' : CHeap} (R : Rdr T r d src ds pl spl ln H) (h : ∀ b, b = r ∨ b = d ∨ b = src ∨ b = ds → ∀ o, H b = some o → H' b = some o) : Rdr T r d src ds pl spl ln H' :=
  ⟨h _ (.inl rfl) _ R.hr, h _ (.inr (.inl rfl)) _ R.hd, h _ (.inr (.inr (.inl rfl))) _ R.hs, h _ (.inr (.inr (.inr rfl))) _ R.hds, R.wr, R.wd, R.ws, R.wds, R.nd⟩
theorem Strm.stay {X : Wd} {k : Nat} {T : Strm X k} {rest : List Nat} {H H' : CHeap} (s : T.S rest H) (h : ∀ b, T.W b → ∀ o, H b = some o → H' b = some o) : T.S rest H' := T.stab s fun b hb => by
  cases z : H b with
  | none => exact absurd z (T.live s hb)
  | some o => exact h b hb o z
/-- a lexer and what waits in it -/
structure Wt (H : CHeap) (r d pl : Addr) (ws : List (List Nat)) : Prop where
  hr : H r = some (.inst 94 d)
  hd : H d = some (.idict (rF 1 .none pl))
  hp : H pl = some (.list (wds ws))
theorem Wt.stay {H H' : CHeap} {r d pl : Addr} {ws : List (List Nat)} (w : Wt H r d pl ws) (h : ∀ b, b = r ∨ b = d ∨ b = pl → ∀ o, H b = some o → H' b = some o) : Wt H' r d pl ws :=
  ⟨h _ (.inl rfl) _ w.hr, h _ (.inr (.inl rfl)) _ w.hd, h _ (.inr (.inr rfl)) _ w.hp⟩
theorem Wt.nr {H : CHeap} {r d pl : Addr} {ws : List (List Nat)} (w : Wt H r d pl ws) : r ≠ pl ∧ d ≠ pl := ⟨(by rintro rfl; exact nomatch w.hr.symm.trans w.hp), (by rintro rfl; exact nomatch w.hd.symm.trans w.hp)⟩
theorem Wt.set {H : CHeap} {r d pl : Addr} {ws ws' : List (List Nat)} (w : Wt H r d pl ws) : Wt (upd H pl (.list (wds ws'))) r d pl ws' := ⟨upd_ne' w.nr.1 w.hr, upd_ne' w.nr.2 w.hd, upd_self _ _ _⟩
def rnd2 {X : Wd} {P : Params} (W : W01 X P) (r d pl : Addr) : Rnd X 1 r r where
  I rem out H := Wt H r d pl (rem ++ out)
  W b := b = r ∨ b = d ∨ b = pl
  Z b := b = pl
  zw _ h := .inr (.inr h)
  stab w h := w.stay fun b hb o e => h b o hb e
  live w hb e := by
    rcases hb with rfl | rfl | rfl
    · exact nomatch e.symm.trans w.hr
    · exact nomatch e.symm.trans w.hd
    · exact nomatch e.symm.trans w.hp
  srcAt w := ⟨d, 1, .none, pl, w.hr, w.hd⟩
  ringAt w := ⟨d, 1, .none, pl, w.hr, w.hd, fun e => by subst e; exact w.hp⟩
  get {A E H Q w' rem out} ro hz w h := poptok_spec (V := .str (chS w')) (xs := wds (rem ++ out)) W ro w.hr w.hd w.hp (by rw [wds_len, List.length_append]; omega) (h _ ((ExtZ.refl _).put (.inl rfl)) w.set)
  push {A E H Q w' rem out} ro hz w h := by
    refine pushtok_spec W ro w.hr w.hd w.hp (by rw [wds_len, List.length_append]; omega) ?_
    rw [show wds (rem ++ out) ++ [.str (chS w')] = wds (rem ++ (out ++ [w'])) by rw [← List.append_assoc]; exact (wds_app (rem ++ out) [w']).symm]
    exact h _ ((ExtZ.refl _).put (.inl rfl)) w.set
structure In1 {X : Wd} (T : Strm X 5) (tx : List Nat) (r dd src ds pl spl r2 d2 pl2 : Addr) (rem out : List (List Nat)) (H : CHeap) : Prop where
  rd : ∃ M ln, Rdr T r dd src ds pl spl ln H ∧ T.S (txt rem M) H ∧ ln + nl (txt rem M) = 1 + nl tx ∧ (txt rem M).length ≤ 1000
  ok : ∀ w ∈ rem, ∃ x, w = tw x
  hpl : H pl = some (.list [])
  wt : Wt H r2 d2 pl2 out
structure Far {X : Wd} (T : Strm X 5) (dd pl r2 d2 pl2 : Addr) : Prop where
  n1 : pl2 ≠ pl
  n2 : ¬ T.W pl
  n3 : ¬ T.W r2
  n4 : ¬ T.W d2
  n5 : ¬ T.W pl2
def rnd1 {X : Wd} {P : Params} (W : W01 X P) (T : Strm X 5) (tx : List Nat) (r dd src ds pl spl r2 d2 pl2 : Addr) (N : Far T dd pl r2 d2 pl2) : Rnd X 9 r r2 where
  I := In1 T tx r dd src ds pl spl r2 d2 pl2
  W b := T.W b ∨ (b = r ∨ b = dd ∨ b = src ∨ b = ds) ∨ b = pl ∨ (b = r2 ∨ b = d2 ∨ b = pl2)
  Z b := T.Z b ∨ b = dd ∨ b = pl2
  zw _ h := by
    rcases h with h | h | h
    · exact .inl (T.zw _ h)
    · exact .inr (.inl (.inr (.inl h)))
    · exact .inr (.inr (.inr (.inr (.inr h))))
  stab := fun {rem out H H'} ⟨⟨M, ln, a, b, c, d⟩, e, f, g⟩ h =>
    ⟨⟨M, ln, a.stay fun b hb o q => h b o (.inr (.inl hb)) q, Strm.stay b fun b hb o q => h b o (.inl hb) q, c, d⟩, e, h _ _ (.inr (.inr (.inl rfl))) f, g.stay fun b hb o q => h b o (.inr (.inr (.inr hb))) q⟩
  live := fun {rem out H b} ⟨⟨M, ln, a, s, _, _⟩, _, f, g⟩ hb e => by
    rcases hb with hb | (rfl | rfl | rfl | rfl) | rfl | rfl | rfl | rfl
    · exact T.live s hb e
    · exact nomatch e.symm.trans a.hr
    · exact nomatch e.symm.trans a.hd
    · exact nomatch e.symm.trans a.hs
    · exact nomatch e.symm.trans a.hds
    · exact nomatch e.symm.trans f
    · exact nomatch e.symm.trans g.hr
    · exact nomatch e.symm.trans g.hd
    · exact nomatch e.symm.trans g.hp
  srcAt := fun {rem out H} ⟨⟨M, ln, a, _⟩, _, _, _⟩ => ⟨dd, ln, .ref src, pl, a.hr, a.hd⟩
  ringAt := fun {rem out H} i => ⟨d2, 1, .none, pl2, i.wt.hr, i.wt.hd, fun _ => i.wt.hp⟩
  get := fun {A E H Q w rem out} ro hz ⟨⟨M, ln, a, s, c, d⟩, e, f, g⟩ h => by
    obtain ⟨x, rfl⟩ := e w (.head _)
    have hlx := lex_wrq x (M.fmod 2 == 1) (txt rem (M.fdiv 2))
    change ln + nl (wrq (tw x) (M.fmod 2 == 1) ++ txt rem (M.fdiv 2)) = _ at c
    change (wrq (tw x) (M.fmod 2 == 1) ++ txt rem (M.fdiv 2)).length ≤ 1000 at d
    have s : T.S (wrq (tw x) (M.fmod 2 == 1) ++ txt rem (M.fdiv 2)) H := s
    refine gettok_spec W ro a s f d ?_
    intro H' ln' e' a' c' s'
    rw [hlx] at c' s' ⊢
    have nd : ∀ {b : Addr} {o : CO}, ¬ T.W b → b ≠ dd → H b = some o → H' b = some o := fun w1 w2 q => e' _ _ (fun z => z.elim (fun z => w1 (T.zw _ z)) w2) q
    refine h H' (e'.mono fun b z => z.elim .inl fun z => .inr (.inl z)) ⟨⟨M.fdiv 2, ln', a', s', c'.trans c, ?_⟩, fun w hw => e w (.tail _ hw), ?_, g.stay fun b hb o q => ?_⟩
    · rw [List.length_append] at d
      exact Nat.le_trans (Nat.le_add_left _ _) d
    · exact nd N.n2 (by rintro rfl; exact nomatch a.hd.symm.trans f) f
    · rcases hb with rfl | rfl | rfl
      · exact nd N.n3 (by rintro rfl; exact nomatch a.hd.symm.trans g.hr) q
      · refine nd N.n4 (fun z => ?_) q
        subst z
        have := a.hd.symm.trans g.hd
        injection this with this
        injection this with this
        exact rF_ne this.symm
      · exact nd N.n5 (by rintro rfl; exact nomatch a.hd.symm.trans g.hp) q
  push := fun {A E H Q w rem out} ro hz ⟨⟨M, ln, a, s, c, d⟩, e, f, g⟩ h => by
    refine pushtok_spec W (ro.le (by decide)) g.hr g.hd g.hp (by rw [wds_len]; omega) ?_
    rw [show wds out ++ [.str (chS w)] = wds (out ++ [w]) from (wds_app out [w]).symm]
    refine h _ ((ExtZ.refl _).put (.inl (.inr (.inr rfl)))) ⟨⟨M, ln, a.stay fun b hb o q => upd_ne' ?_ q, Strm.stay s fun b hb o q => upd_ne' (by rintro rfl; exact N.n5 hb) q, c, d⟩, e, upd_ne' N.n1.symm f, g.set⟩
    rintro rfl
    rcases hb with rfl | rfl | rfl | rfl
    · exact nomatch g.hp.symm.trans a.hr
    · exact nomatch g.hp.symm.trans a.hd
    · exact nomatch g.hp.symm.trans a.hs
    · exact nomatch g.hp.symm.trans a.hds
end
section
set_option maxRecDepth 100000
set_option maxHeartbeats 4000000
theorem pol_pos {k : Nat} {t : Tr} {l : List Th} (h : pol k t = some l) : 1 ≤ l.length := by
  rcases pol_head h with ⟨_, v, rfl⟩ | ⟨_, d, r, rfl⟩
  · exact Nat.le_refl _
  · exact Nat.succ_pos _
theorem pol_two {k : Nat} : ∀ {t : Tr} {l : List Th}, k < ht t → pol k t = some l → 1 < l.length
  | .leaf _, _, h, _ => absurd h (Nat.not_lt_zero _)
  | .op d a b, l, h, hp => by
    rw [pol_high (Nat.not_le.mpr h)] at hp
    obtain ⟨la, ha, h2⟩ := Option.bind_eq_some_iff.mp hp
    obtain ⟨lb, hb, rfl⟩ := Option.map_eq_some_iff.mp h2
    have := pol_pos ha
    rw [List.length_append, List.length_cons]; omega
theorem pol_one {k : Nat} {t : Tr} {l : List Th} (h : ht t ≤ k) (hp : pol k t = some l) : l.length = 1 := by
  rcases pol_head hp with ⟨_, v, rfl⟩ | ⟨q, _⟩
  · rfl
  · omega
def flmD (fs : List (List (List Nat))) : List PyData := fs.map fun ws => .list (ws.map fun w => .str (chS w))
theorem lay_flm : ∀ {fs : List (List (List Nat))}, (∀ ws ∈ fs, ∀ w ∈ ws, ∀ c ∈ w, c < 128) → PyData.canLayAll0 (flmD fs) = true
  | [], _ => rfl
  | ws :: r, h => by
    unfold flmD
    rw [List.map_cons]
    unfold PyData.canLayAll0 PyData.canLay0
    rw [lay_wds (h ws (.head _))]
    exact lay_flm (fs := r) fun w hw => h w (.tail _ hw)
theorem depth_flm : ∀ (fs : List (List (List Nat))), PyData.depthAll (flmD fs) ≤ 2
  | [] => by simp [flmD, PyData.depthAll]
  | ws :: r => by
    have h1 := depth_wds ws
    have h2 := depth_flm r
    unfold flmD at h2 ⊢
    rw [List.map_cons]
    unfold PyData.depthAll
    omega
theorem tale_low {t : Tr} (hb : bnd t) : ∀ (n k : Nat), ∀ ws ∈ tale t n k, ∀ w ∈ ws, ∀ c ∈ w, c < 128
  | 0, _, ws, hw => nomatch hw
  | n + 1, k, ws, hw => by
    cases z : pol k t with
    | none =>
      rw [tale_none z] at hw
      rw [List.mem_singleton.mp hw]
      decide
    | some l =>
      rw [tale_some z] at hw
      rcases List.mem_cons.mp hw with rfl | hw
      · intro w hm
        obtain ⟨x, hx, rfl⟩ := List.mem_map.mp hm
        exact tw_low (pol_ok hb z x hx)
      · exact tale_low hb n (k + 1) ws hw
theorem right_spec {X : Wd} {P : Params} (W : W01 X P) {t : Tr} {M : Int} {A : Around} {E : CHeap → Prop} {H : CHeap} {Q : CV → CHeap → Prop} (hb : bnd t) (hz : sz t ≤ 20) (h1 : 1 ≤ ht t) (h7 : ht t ≤ 7) (ro : Room A 80)
    (h : ∀ H', Q (.bool true) H') : Cl X A E (.glob 186) [trC t, .int M] Q H := by
  have hK := W.hK
  refine cl_defC (ns := [Str.ofString "tree", Str.ofString "manners"]) (n := 79) (by rw [hK]; rfl) (by rw [hK]; rfl) rfl (len2 fun _ _ => rfl) rfl (by decide) rfl (by decide) (by decide) (by decide) rfl rfl rfl rfl rfl rfl ro ?_
  intro A' E' env cells ro' ok hcells hfr hne hL
  obtain ⟨pl0, hp0, hpz⟩ := pol_zero t
  have hpl20 : pl0.length ≤ 20 := by rw [hpz]; exact hz
  have hok0 := pol_ok hb hp0
  obtain ⟨cT, cA, rfl⟩ := keys2 hcells
  refine with_cells2 (fun H1 => ExSs X A' E' env _ _ _ H1) hfr hne ?_
  intro H1 fT fA nTA e1 gT gA _
  repeat walk_at "e"
  refine text_spec W hb (Nat.le_trans hz (by decide)) hp0 (ro'.le (by omega)) ?_
  intro H3 e3
  obtain ⟨hlowt, htl⟩ := txt_ok pl0 M hok0
  have htl : (txt (wsT pl0) M).length ≤ 1000 := by omega
  generalize hte : txt (wsT pl0) M = tx at htl hlowt ⊢
  have gT3 := e3 _ _ gT
  have gA3 := e3 _ _ gA
  repeat walk_at "e"
  intro la fla
  obtain ⟨nlT, fla⟩ := upd_none fla
  have nlA : la ≠ cA := Ne.symm (ne_of fla gA3)
  repeat walk_at "e"
  have S4 : TxS tx cA cT la tx (upd (upd (upd H3 cT (.cell (some (.str (chS tx))))) la (.list [.int 0])) cA (.cell (some (.ref la)))) :=
    ⟨0, Nat.zero_le _, upd_self _ _ _, upd_ne' nTA (upd_ne' nlT.symm (upd_self _ _ _)), upd_ne' nlA (upd_self _ _ _), rfl⟩
  generalize upd (upd (upd H3 cT (.cell (some (.str (chS tx))))) la (.list [.int 0])) cA (.cell (some (.ref la))) = H4 at S4 ⊢
  clear e1 e3 gT3 gA3 gT gA fla
  refine ex_def' ok W.t3 rfl rfl rfl rfl rfl rfl rfl rfl rfl ?_
  intro d hdd
  have giveC : GiveC X d tx cA cT la := by
    clear ok h ro ro' hcells hfr hne hL S4 hte
    intro A E H Q rest ro ⟨p, hp, gA, gT, gla, hrest⟩ h
    have hd0 := hdd
    subst hd0
    refine cl_clo (n := 4) (ns := [Str.ofString "size"]) ro rfl (by decide) (fun _ _ _ _ => len1 fun _ => rfl) (by decide) (by decide) rfl rfl rfl ?_
    intro A' E' env c ro' ok hL
    have nAl : cA ≠ la := by rintro rfl; exact nomatch gA.symm.trans gla
    have nTl : cT ≠ la := by rintro rfl; exact nomatch gT.symm.trans gla
    have htk : ((tx.drop p).take 1).length ≤ 1 := by rw [List.length_take]; exact Nat.min_le_left _ _
    repeat walk_at "e"
    refine sub_list (k := 0) (V := .int (p : Nat)) gla (.inl ⟨by decide, rfl⟩) rfl (by decide : 1 < 2 ^ 62) (fun _ _ => rfl) ?_
    repeat walk_at "e"
    refine sub_list (k := 0) (V := .int (p : Nat)) gla (.inl ⟨by decide, rfl⟩) rfl (by decide : 1 < 2 ^ 62) (fun _ _ => rfl) ?_
    repeat walk_at "e"
    refine sli_str (by rw [chS_len]; exact Nat.le_trans htl (by decide)) ?_
    rw [show (⟨(pick (chS tx).cps.toList (some (p : Int)) (some ((p : Int) + 1))).toArray⟩ : Str) = chS ((tx.drop p).take 1) from by rw [show (chS tx).cps.toList = tx from by simp [chS], pickO]; rfl]
    repeat walk_at "e"
    refine sub_list (k := 0) (V := .int (p : Nat)) gla (.inl ⟨by decide, rfl⟩) rfl (by decide : 1 < 2 ^ 62) (fun _ _ => rfl) ?_
    repeat walk_at "e"
    refine cl_len_str (by rw [chS_len]; exact Nat.lt_of_le_of_lt htk (by decide)) ?_
    rw [chS_len]
    repeat walk_at "e"
    refine set_list_item gla (by decide) (show (0 : Int) < 1 by decide) (by decide : 1 < 2 ^ 62) ?_
    repeat walk_at "e"
    rw [← hrest]
    refine h _ ((ExtZ.refl H).put (.inl rfl)) ⟨p + ((tx.drop p).take 1).length, ?_, upd_ne' nAl gA, upd_ne' nTl gT, ?_, ?_⟩
    · rw [List.length_take, List.length_drop]; omega
    · rw [upd_self, hrest, Int.natCast_add]; rfl
    · rw [hrest]
      rcases Nat.lt_or_ge p tx.length with q | q
      · rw [List.tail_drop, List.length_take, List.length_drop, Nat.min_eq_left (by omega)]
      · rw [List.drop_of_length_le q]
        exact (List.drop_of_length_le (Nat.le_trans q (Nat.le_add_right _ _))).symm
  let T : Strm X 5 := txStrm hlowt giveC
  have S4' : T.S tx H4 := S4
  repeat walk_at "e"
  refine make_spec W (ro'.le (by decide)) ?_
  intro src ds spl H5 fsrc fds fspl n1 n2 n3 e5 hsrc hds hspl
  repeat walk_at "e"
  have lv4 : ∀ b, T.W b → H4 b ≠ none := fun b hb => T.live S4' hb
  refine make_spec W (ro'.le (by decide)) ?_
  intro r dd pl H6 fr fd fpl n4 n5 n6 e6 hr hd hpl
  obtain ⟨n7, fr⟩ := upd_none fr
  obtain ⟨n8, fd⟩ := upd_none fd
  obtain ⟨n9, fpl⟩ := upd_none fpl
  have e46 : Ext H4 H6 := (e5.put fds).trans e6
  have R6 : Rdr T r dd src ds pl spl 1 H6 := ⟨hr, hd, e6 _ _ (upd_ne' n1 hsrc), e6 _ _ (upd_self H5 ds _), fun w => lv4 _ w (e5.nay fr), fun w => lv4 _ w (e5.nay fd), fun w => lv4 _ w fsrc, fun w => lv4 _ w fds, Ne.symm n8⟩
  have wpl : ¬ T.W pl := fun w => lv4 _ w (e5.nay fpl)
  have S6 : T.S tx H6 := Strm.stay S4' fun b _ o e => e46 _ _ e
  clear e5 fsrc fds fspl hsrc hds hspl n1 n2 n3 n4 n5 n6 n7 n8 n9 fr fd fpl e6 hr hd
  repeat walk_at "e"
  refine make_spec W (ro'.le (by decide)) ?_
  intro r2 d2 pl2 H7 f1 f2 f3 m1 m2 m3 e7 hr2 hd2 hpl2
  have N : Far T dd pl r2 d2 pl2 := ⟨Ne.symm (ne_of f3 hpl), wpl, fun w => T.live S6 w f1, fun w => T.live S6 w f2, fun w => T.live S6 w f3⟩
  let R1 : Rnd X 9 r r2 := rnd1 W T tx r dd src ds pl spl r2 d2 pl2 N
  have I7 : R1.I (wsT pl0) [] H7 := ⟨⟨M, 1, R6.stay fun b _ o e => e7 b o e, (by rw [hte]; exact Strm.stay S6 fun b _ o e => e7 b o e), (by rw [hte]), (by rw [hte]; exact htl)⟩, fun w hw => let ⟨x, _, e⟩ := List.mem_map.mp hw; ⟨x, e.symm⟩, e7 _ _ hpl, ⟨hr2, hd2, hpl2⟩⟩
  clear R6 S6 e7 hpl hr2 hd2 hpl2 f1 f2 f3 m1 m2 m3 S4 S4' lv4 e46 wpl
  repeat walk_at "e"
  intro l fl
  have nWl : ¬ R1.W l := fun w => R1.live I7 w fl
  have I8 : R1.I (wsT pl0) [] (upd H7 l (.list [])) := R1.stab I7 fun b o w e => upd_ne' (by rintro rfl; exact nWl w) e
  have gl8 := upd_self H7 l (.list [])
  generalize upd H7 l (.list []) = H8 at I8 gl8 ⊢
  clear I7 fl
  obtain ⟨EX, hEX⟩ := named2 (fun (m' : Loc) (H' : CHeap) => m'.lookup (Str.ofString "film") = some (.ref l) ∧ m'.lookup (Str.ofString "tree") = some (trC t) ∧ ∃ vs fs, H' l = some (.list vs) ∧ Flm H' (· ≠ l) vs fs ∧ fs ++ [nough] = tale t (ht t) 1 ∧ vs.length ≤ 100)
  obtain ⟨FIN, hFIN⟩ := named2 (fun (m' : Loc) (H' : CHeap) => m'.lookup (Str.ofString "film") = some (.ref l) ∧ m'.lookup (Str.ofString "tree") = some (trC t) ∧ ∃ vs, H' l = some (.list vs) ∧ Flm H' (fun _ => True) vs (tale t (ht t) 1))
  iterate 2 walk_at "e"
  refine ExS.mono (Q := fun F m' H' => F = .next ∧ FIN m' H') ?_ ?_
  · clear h
    refine ex_try EX (by rw [hK]; rfl) (kind_ok ok rfl) (kindOf_ok ok rfl) ok.gl ok.bi ?_ ?_
    · repeat walk_at "e"
      refine polish_spec (k := 0) W t hb (by omega) (ro'.le (by omega)) (fun pl' hpl b Hy fb ey gb => ?_) (fun e => nomatch hp0.symm.trans e)
      obtain rfl : pl0 = pl' := Option.some.inj (hp0.symm.trans hpl)
      repeat walk_at "e"
      refine cl_len gb (by rw [ths_len]; exact Nat.lt_of_le_of_lt hpl20 (by decide)) ?_
      rw [ths_len]
      repeat walk_at "e"
      obtain ⟨hn, ehn⟩ : ∃ n, ht t = n + 1 := ⟨ht t - 1, by omega⟩
      refine round_spec W R1 hok0 (by omega) (ro'.le (by decide)) (R1.stab I8 fun b o _ e => ey b o e) (fun us hus l1 Hz fl1 ez iz gl1 => ?_) (fun hno Hz ez => ?_)
      rotate_left
      · rw [red_pol0 hp0] at hno
        refine (hEX _ _).mpr ⟨by walk_at "lk", by walk_at "lk", [], [], ez _ _ (fun z => nWl (R1.zw _ z)) (ey _ _ gl8), .nil, ?_, Nat.zero_le _⟩
        rw [ehn, tale_none hno]; rfl
      · rw [red_pol0 hp0] at hus
        obtain ⟨⟨M', ln, Ra, Sa, hln, _⟩, _, _, wt⟩ : In1 T tx r dd src ds pl spl r2 d2 pl2 [] (wsT us) Hz := iz
        have glz := ez _ _ (fun z => nWl (R1.zw _ z)) (ey _ _ gl8)
        have nl1 : l1 ≠ l := Ne.symm (ne_of fl1 (ey _ _ gl8))
        have np1 : l1 ≠ pl2 := by rintro rfl; exact R1.live (R1.stab I8 fun b o _ e => ey b o e) (.inr (.inr (.inr (.inr (.inr rfl))))) fl1
        clear I8 gl8 ey ez gb fb fl1
        repeat walk_at "e"
        refine cl_append glz (by decide) ?_
        have gl9 := upd_self Hz l (.list ([] ++ [.ref l1]))
        have g19 := upd_ne' (o := .list ([] ++ [.ref l1])) nl1 gl1
        have wt9 : Wt (upd Hz l (.list ([] ++ [.ref l1]))) r2 d2 pl2 (wsT us) := wt.stay fun b hb o e => upd_ne' (by rintro rfl; exact nWl (.inr (.inr (.inr hb)))) e
        have Ra9 : Rdr T r dd src ds pl spl ln (upd Hz l (.list ([] ++ [.ref l1]))) := Ra.stay fun b hb o e => upd_ne' (by rintro rfl; exact nWl (.inr (.inl hb))) e
        have Sa9 : TxS tx cA cT la [] (upd Hz l (.list ([] ++ [.ref l1]))) := Strm.stay Sa fun b hb o e => upd_ne' (by rintro rfl; exact nWl (.inl hb)) e
        generalize upd Hz l (.list ([] ++ [.ref l1])) = H9 at gl9 g19 wt9 Ra9 Sa9 ⊢
        clear glz gl1 wt Ra Sa
        obtain ⟨p, hp, gA9, gT9, gla9, hrest⟩ := Sa9
        obtain rfl : p = tx.length := by
          have := congrArg List.length hrest
          rw [List.length_drop, List.length_nil] at this; omega
        have hln : ln = 1 + nl tx := by
          have : ln + ((nl (txt [] M') : Nat) : Int) = 1 + nl tx := hln
          rw [show nl (txt [] M') = 0 from rfl] at this; omega
        subst hln
        have hr9 := Ra9.hr
        have hd9 := Ra9.hd
        repeat walk_at "e"
        refine sub_list (k := 0) (V := .int (tx.length : Nat)) gla9 (.inl ⟨by decide, rfl⟩) rfl (by decide : 1 < 2 ^ 62) (fun _ _ => rfl) ?_
        repeat walk_at "e"
        refine cl_len_str (by rw [chS_len]; exact Nat.lt_of_le_of_lt htl (by decide)) ?_
        rw [chS_len]
        repeat walk_at "e"
        rw [bne_self_eq_false]
        refine ⟨fun _ => ?_, fun q => nomatch q⟩
        repeat walk_at "e"
        refine cl_count ?_
        rw [count_nl]
        repeat walk_at "e"
        rw [bne_self_eq_false]
        refine ⟨fun _ => ?_, fun q => nomatch q⟩
        repeat walk_at "e"
        refine two_false ?_
        have nlp : l ≠ pl2 := by rintro rfl; exact nWl (.inr (.inr (.inr (.inr (.inr rfl)))))
        clear hr9 hd9 Ra9 gA9 gT9 gla9 hrest hp nWl
        obtain ⟨I, hI⟩ := named3 (fun (k : Nat) (m' : Loc) (Hx : CHeap) => ∃ (j : Nat) (us : List Th) (a : Addr) (vs : List CV) (fs : List (List (List Nat))), (j + k = ht t ∧ 1 ≤ j ∧ vs.length + 1 = j) ∧ pol j t = some us ∧ Wt Hx r2 d2 pl2 (wsT us) ∧ Hx l = some (.list (vs ++ [.ref a])) ∧ Hx a = some (.list (wds (wsT us))) ∧ (a ≠ pl2 ∧ a ≠ l) ∧ Flm Hx (fun b => b ≠ pl2 ∧ b ≠ l) vs fs ∧ fs ++ wsT us :: tale t (ht t - j) (j + 1) = tale t (ht t) 1 ∧ m'.lookup (Str.ofString "film") = some (.ref l) ∧ m'.lookup (Str.ofString "ring") = some (.ref r2) ∧ m'.lookup (Str.ofString "tree") = some (trC t))
        repeat walk_at "e"
        refine ex_whileX I (ht t - 1) ((hI _ _ _).mpr ⟨1, us, l1, [], [], ⟨by omega, Nat.le_refl _, rfl⟩, hus, wt9, gl9, g19, ⟨np1, nl1⟩, .nil, ?_, by walk_at "lk", by walk_at "lk", by walk_at "lk"⟩) ?_
        · rw [ehn, tale_some hus]; rfl
        clear gl9 g19 wt9 np1 nl1 hus ehn us l1 hok0 hpl20 hp0 hpz hte
        intro k m' Hx hi hLL
        obtain ⟨j, us, a, vs, fs, ⟨hjk, hj1, hvl⟩, hpj, wt, gl, ga, ⟨nap, nal⟩, fm, tl, mf, mr, mt⟩ := (hI _ _ _).mp hi
        have husz := pol_len hpj
        have hwl : (wds (wsT us)).length = us.length := by rw [wds_len, wsT_len]
        have hvz : (vs ++ [CV.ref a]).length = j := by rw [List.length_append]; exact hvl
        have hlast : (vs ++ [CV.ref a])[vs.length]? = some (.ref a) := by rw [List.getElem?_append_right (Nat.le_refl _), Nat.sub_self]; rfl
        have hj62 : (vs ++ [CV.ref a]).length < 2 ^ 62 := by rw [hvz]; exact Nat.lt_of_le_of_lt (show j ≤ 7 by omega) (by decide)
        have hm1 : (((0 : Int) ≤ -1 ∧ vs.length = (-1 : Int).toNat) ∨ ((-1 : Int) < 0 ∧ (vs.length : Int) = -1 + ((vs ++ [CV.ref a]).length : Nat))) := .inr ⟨by decide, by rw [hvz]; omega⟩
        repeat walk_at "e"
        refine sub_list (k := vs.length) (V := .ref a) gl hm1 hlast hj62 (fun _ _ => rfl) ?_
        repeat walk_at "e"
        refine cl_len ga (by rw [hwl]; exact Nat.lt_of_le_of_lt (show _ ≤ 20 by omega) (by decide)) ?_
        rw [hwl]
        repeat walk_at "e"
        have hokj := pol_ok hb hpj
        refine ⟨fun q => ?_, fun q => two_false ?_⟩
        · have hjt : j < ht t := by
            have q := of_decide_eq_true q
            refine Nat.lt_of_not_le fun z => ?_
            have := pol_one z hpj
            omega
          rw [show ht t - j = (ht t - (j + 1)) + 1 by omega] at tl
          repeat walk_at "e"
          refine cl_len gl hj62 ?_
          rw [hvz]
          repeat walk_at "e"
          refine ⟨fun _ => ?_, fun q => absurd (of_decide_eq_false q) (by omega)⟩
          repeat walk_at "e"
          refine two_true ?_
          have hr2 := wt.hr
          have hd2 := wt.hd
          repeat walk_at "e"
          refine sub_list (k := vs.length) (V := .ref a) gl hm1 hlast hj62 (fun _ _ => rfl) ?_
          repeat walk_at "e"
          refine cl_len ga (by rw [hwl]; exact Nat.lt_of_le_of_lt (show _ ≤ 20 by omega) (by decide)) ?_
          rw [hwl]
          repeat walk_at "e"
          refine round_spec W (rnd2 W r2 d2 pl2) hokj (by omega) (ro'.le (by decide)) (show Wt Hx r2 d2 pl2 (wsT us ++ []) by rw [List.append_nil]; exact wt) (fun us2 hus l2 Hz fl2 ez iz gl2 => ?_) (fun hno Hz ez => ?_)
          rotate_left
          · rw [red_pol0 hpj] at hno
            refine (hEX _ _).mpr ⟨mf, mt, vs ++ [.ref a], fs ++ [wsT us], ez _ _ nlp gl, (fm.keep (N' := (· ≠ l)) fun b o hb e => ⟨ez _ _ hb.1 e, hb.2⟩).app nal (ez _ _ nap ga), ?_, by omega⟩
            rw [← tl, tale_none hno, List.append_assoc]; rfl
          · rw [red_pol0 hpj] at hus
            have iz : Wt Hz r2 d2 pl2 (wsT us2) := iz
            have glz := ez _ _ nlp gl
            have gaz := ez _ _ nap ga
            have nl2 : l2 ≠ l := Ne.symm (ne_of fl2 gl)
            have np2 : l2 ≠ pl2 := Ne.symm (ne_of fl2 wt.hp)
            repeat walk_at "e"
            refine cl_append glz (by rw [hvz]; exact Nat.le_trans (show j ≤ 7 by omega) (by decide)) ?_
            repeat walk_at "e"
            refine ⟨k - 1, by omega, (hI _ _ _).mpr ⟨j + 1, us2, l2, vs ++ [.ref a], fs ++ [wsT us], ⟨by omega, by omega, by rw [hvz]⟩, hus, iz.stay fun b hb o e => upd_ne' ?_ e, upd_self _ _ _, upd_ne' nl2 gl2, ⟨np2, nl2⟩, (fm.keep (N' := fun b => b ≠ pl2 ∧ b ≠ l) fun b o hb e => ⟨upd_ne' hb.2 (ez _ _ hb.1 e), hb⟩).app ⟨nap, nal⟩ (upd_ne' nal gaz), ?_, mf, mr, mt⟩⟩
            · rintro rfl
              rcases hb with rfl | rfl | rfl
              · exact nomatch iz.hr.symm.trans glz
              · exact nomatch iz.hd.symm.trans glz
              · exact nlp rfl
            · rw [← tl, tale_some hus, List.append_assoc]; rfl
        · have hjt : j = ht t := by
            have q := of_decide_eq_false q
            refine Nat.le_antisymm (by omega) (Nat.le_of_not_lt fun z => ?_)
            have := pol_two z hpj
            omega
          rw [hjt, Nat.sub_self, show tale t 0 (ht t + 1) = [] from rfl] at tl
          rw [← tl] at hFIN
          repeat walk_at "e"
          exact ⟨rfl, (hFIN _ _).mpr ⟨mf, mt, _, gl, (fm.keep (N' := fun _ => True) fun b o _ e => ⟨e, trivial⟩).app trivial ga⟩⟩
    · intro e m' H' hx hL'
      obtain ⟨m1, m2, vs, fs, gl, fm, tl, hlen⟩ := (hEX _ _).mp hx
      repeat walk_at "e"
      intro c fc
      have ncl : c ≠ l := Ne.symm (ne_of fc gl)
      repeat walk_at "e"
      refine cl_append (xs := vs) (upd_ne' (Ne.symm ncl) gl) (Nat.le_trans hlen (by decide)) ?_
      repeat walk_at "e"
      refine ⟨rfl, (hFIN _ _).mpr ⟨by walk_at "lk", by walk_at "lk", _, upd_self _ _ _, ?_⟩⟩
      rw [← tl]
      exact (fm.keep (N' := fun _ => True) fun b' o hb e => ⟨upd_ne' hb (upd_ne' (ne_of fc e) e), trivial⟩).app trivial (upd_ne' ncl (upd_self _ _ _))
  · rintro F m' Hx ⟨rfl, hf⟩
    obtain ⟨m1, m2, vs, gl, fm⟩ := (hFIN _ _).mp hf
    have hu := ro'.un
    have hdp := depth_flm (tale t (ht t) 1)
    repeat walk_at "e"
    refine told_spec W hb (by omega) (by omega) (ro'.le (by omega)) ?_
    intro l2 H' vs2 fl2 e2 gl2 fm2
    repeat walk_at "e"
    refine cmp_eq_same (d := .list (flmD (tale t (ht t) 1))) (.list (e2 _ _ gl) (fm.keep (N' := fun _ => True) fun b o _ e => ⟨e2 _ _ e, trivial⟩).rd) (.list gl2 fm2.rd) (by unfold PyData.canLay0; exact lay_flm (tale_low hb _ _)) (by simp only [PyData.depth]; omega) ?_
    repeat walk_at "e"
    exact h _
end
section
set_option maxRecDepth 100000
set_option maxHeartbeats 4000000
theorem law_walk {X : Wd} {P : Params} (W : W01 X P) {A : Around} {E : Loc → CHeap → Prop} {env : Env} {H : CHeap} {zs : List Int} {nm bd : Str} {ps : Arguments} {body : List Stmt} {dl : List Expr} {rt : Option Expr} {tps : List TypeParam} {sc : Scope} {tsc : Option Scope} {pos : Pos} {cd : Value} {qual : Str}
    (hst : st 25 = .FunctionDef nm ps body dl rt tps sc tsc bd pos) (ok : EnvOk env sc [] cd qual) (ro : Room A 80) (hz : zs.length ≤ 63) : ExSs X A E env body (fun f _ _ => f = .ret (.bool true)) [(Str.ofString "script", .frz zs)] H := by
  cases hst
  have hK := W.hK
  repeat walk_at "e"
  refine tree_spec W hz (ro.le (by decide)) ?_
  intro t H1 hb hs h1 e1
  have hts := ht_sz t
  iterate 3 walk_at "e"
  refine EvE.mono (Q := fun V H' => ∃ M : Int, V = .int M) ?_ ?_
  · repeat walk_at "e"
    refine cl_len_frz (Nat.lt_of_le_of_lt hz (by decide)) ?_
    repeat walk_at "e"
    refine ⟨fun q => ?_, fun q => ?_⟩
    · have h8 : 7 < zs.length := by have := of_decide_eq_true q; omega
      repeat walk_at "e"
      exact sub_frz (z := zs[7]) (by decide) (List.getElem?_eq_getElem h8) (Nat.lt_of_le_of_lt hz (by decide)) (fun _ _ => rfl) ⟨_, rfl⟩
    · repeat walk_at "e"
      exact ⟨5, rfl⟩
  rintro V H' ⟨M, rfl⟩
  repeat walk_at "e"
  refine right_spec W hb (by omega) h1 (by omega) (ro.le (by decide)) ?_
  intro H2
  repeat walk_at "e"
  refine two_true ?_
  repeat walk_at "e"
  refine right_spec (t := Tr.op true t (Tr.op false (.leaf 7) (.leaf 1))) W ⟨hb, (show (7 : Int).natAbs < 8 ^ 12 by decide), (show (1 : Int).natAbs < 8 ^ 12 by decide)⟩ ?_ (Nat.le_add_right _ _) ?_ (ro.le (by decide)) ?_
  · show 1 + sz t + 3 ≤ 20
    omega
  · show 1 + max (ht t) 1 ≤ 7
    omega
  intro H3
  repeat walk_at "e"
  rfl
set_option maxHeartbeats 8000000 in
theorem fin1 : PySem.Challenge.rw_nb0179_03.Holds := by
  refine holds_law said1 fun said => ?_
  refine holds_open (q := view1) (loose := []) (Xt := fun s => xlAt view1 [] s && recOk (RowW.records PySem.Challenge.rw_nb0179_03.row.toRowW) s) (XP := XL view1 []) (Yf := Hook.obs hk1) (Ya := Hook.val hk1) (YP := Hook.says (kmHook K1 as1 (fun _ => by kernel_rfl) [30, 181, 37])) (N := 2148) left1 (Hook.of hk1) (Hook.keeps hk1) (fun s e => xl_of s (Bool.and_eq_true_iff.mp e).1) XL.keeps (by rfl) (by rfl) (by rfl) (fun s e => recFacts_of (Bool.and_eq_true_iff.mp e).2) (by rfl) said (by decide +kernel) ⟨rfl, rfl, rfl, rfl, rfl, by decide +kernel⟩ ?_ ?_
  · w_witness2
  k_go0
  all_goals try k_fold
  rename_i w s₀ s₁ mg mb G Y fa o pm cd doc kV ho hcd hg0 XX VV TT BB TE TW zs hs hlay0 hL1 hr1 hl2 w4 w3 a vs w0 hL0 ra w1 r0 hI hr hcond1 hcond2 hD h₁ X1 T1 K1 F1 cH1 cH2 N1 l0
  have hz : zs.length ≤ 63 := by have := hcond1; omega
  refine wpAny_mono (law_run (E := fun _ _ => False) (tbs := [⟨37, 41, 47, 4, Str.ofString "_digits2int.<locals>.inner"⟩, ⟨30, 34, 32, 4, Str.ofString "_int2digits.<locals>.inner"⟩, ⟨181, 185, 201, 4, Str.ofString "_law_right.<locals>.give"⟩]) (x := Str.ofString "script") T1 X1 ?_ ?_ F1 N1 ?_ lifted hI rfl rfl rfl (show ScopeKind.function ≠ ScopeKind.module by decide) ?_) ?_ ?_
  · intro t ht
    rcases List.mem_cons.mp ht with rfl | ht
    · exact cH1
    rcases List.mem_cons.mp ht with rfl | ht
    · exact cH2
    rcases List.mem_cons.mp ht with rfl | ht
    · exact codeHd
    cases ht
  · intro t ht t' ht' e
    simp only [List.mem_cons, List.not_mem_nil, or_false] at ht ht'
    rcases ht with rfl | rfl | rfl <;> rcases ht' with rfl | rfl | rfl <;> first | rfl | exact absurd e (by decide)
  · intro y; rfl
  · intro X hK hB
    have W : W01 X w.params := ⟨hK, by rw [hB]; exact .tail _ (.head _), by rw [hB]; exact .head _, by rw [hB]; exact .tail _ (.tail _ (.head _))⟩
    refine with_env (n := 90) (by decide) (by decide) ?_
    intro env ok ro
    exact law_walk W rfl ok (ro.le (by decide)) hz
  · rintro f s' ⟨rfl, hk, hgr, hos, hgs⟩
    refine ⟨⟨.inl ⟨_, _, _, rfl, fun _ => rfl, .bool true, ?_, fun _ => ⟨.nil, fun a ha => nomatch ha⟩⟩, hk, hos, hgs.trans hg0⟩, ?_⟩
    · exact postW_of (X := true == true) rfl (w_eq_bool (w_res rfl) w_lit) rfl
    · exact ⟨hgr _ (.head _), hgr _ (.tail _ (.head _)), hgr _ (.tail _ (.tail _ (.head _))), trivial⟩
  · exact fun _ _ e => e.elim
end
end Mine
set_option maxRecDepth 100000 in
set_option maxHeartbeats 4000000 in
theorem PySem.Challenge.cw_nb0179_03_holds : PySem.Challenge.rw_nb0179_03.Holds :=
  Mine.fin1
