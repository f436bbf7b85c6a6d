import PyProof.Rows.All
import Wide.All
import OpenK.AllK
import Wide.FinOn
import KE.KTryDeepN
import KE.KTryOn
import PyProof.FactsAll.set_4
import PyProof.SliceList
import Lean
import PySem.Challenge.RW_pm0082_01
open PySem PySem.W PyProof.Rows
set_option Elab.async false
set_option linter.all false
set_option compiler.extract_closed false
set_option maxRecDepth 100000
set_option maxHeartbeats 8000000
set_option rowWalk.seconds 0
namespace Mine
section
open PySem.Challenge
noncomputable def fdOf (o : Option Stmt) : Arguments × List Stmt × Scope := by
  cases o with
  | none => exact default
  | some s => cases s with
    | FunctionDef n a b d e f c g h i => exact (a, b, c)
    | _ => exact default
noncomputable def clOf (o : Option Stmt) : List Stmt := by
  cases o with
  | none => exact []
  | some s => cases s with
    | ClassDef n a d b e f c g h i => exact b
    | _ => exact []
noncomputable def fT (i : Nat) : Arguments × List Stmt × Scope := fdOf (pw_pm0082_01.main.body[i]?)
noncomputable def fM (j : Nat) : Arguments × List Stmt × Scope := fdOf ((clOf (pw_pm0082_01.main.body[7]?))[j]?)
noncomputable def o2 (P : Params) : Obj := { cls := PySem.Value.none, data := PySem.Data.dict #[{ hash := PySem.PyData.keyHash P (PySem.Str.ofString "\x69mport.loaded._sre"), key := PySem.Value.str (PySem.Str.ofString "\x69mport.loaded._sre") 183, val := PySem.Value.bool Bool.true }, { hash := PySem.PyData.keyHash P (PySem.Str.ofString "class._frozen_importlib.BuiltinImporter"), key := PySem.Value.str (PySem.Str.ofString "class._frozen_importlib.BuiltinImporter") 185, val := PySem.Value.ref 14 }, { hash := PySem.PyData.keyHash P (PySem.Str.ofString "watched.\x69mport"), key := PySem.Value.str (PySem.Str.ofString "watched.\x69mport") 206, val := PySem.Value.ref 18 }, { hash := PySem.PyData.keyHash P (PySem.Str.ofString "class._frozen_importlib.ModuleSpec"), key := PySem.Value.str (PySem.Str.ofString "class._frozen_importlib.ModuleSpec") 216, val := PySem.Value.ref 22 }, { hash := PySem.PyData.keyHash P (PySem.Str.ofString "sys.modules.booked-epoch"), key := PySem.Value.str (PySem.Str.ofString "sys.modules.booked-epoch") 245, val := PySem.Value.int 3 0 }, { hash := PySem.PyData.keyHash P (PySem.Str.ofString "\x69mport.later-laid._sre"), key := PySem.Value.str (PySem.Str.ofString "\x69mport.later-laid._sre") 270, val := PySem.Value.bool Bool.true }, { hash := PySem.PyData.keyHash P (PySem.Str.ofString "watched.library"), key := PySem.Value.str (PySem.Str.ofString "watched.library") 272, val := PySem.Value.ref 27 }, { hash := PySem.PyData.keyHash P (PySem.Str.ofString "watched.library-objects"), key := PySem.Value.str (PySem.Str.ofString "watched.library-objects") 0, val := PySem.Value.str (PySem.Str.ofString "\x0c") 0 }, { hash := PySem.PyData.keyHash P (PySem.Str.ofString "watched.library-deep._sre"), key := PySem.Value.str (PySem.Str.ofString "watched.library-deep._sre") 273, val := PySem.Value.str (PySem.Str.ofString "\x04\x00\x00\x0b\x04\x00\x00\x0b\x04\x00\x00\x03\x04\x00\x00\x0b\x08\x04dict\x02") 0 }] 9 }
noncomputable def o3 (P : Params) : Obj := { cls := PySem.Value.type "dict", data := PySem.Data.dict #[{ hash := PySem.PyData.keyHash P (PySem.Str.ofString "__name__"), key := PySem.Value.str (PySem.Str.ofString "__name__") 165, val := PySem.Value.str (PySem.Str.ofString "law_pm0082_01") 694 }, { hash := PySem.PyData.keyHash P (PySem.Str.ofString "__doc__"), key := PySem.Value.str (PySem.Str.ofString "__doc__") 166, val := PySem.Value.none }, { hash := PySem.PyData.keyHash P (PySem.Str.ofString "__package__"), key := PySem.Value.str (PySem.Str.ofString "__package__") 167, val := PySem.Value.none }, { hash := PySem.PyData.keyHash P (PySem.Str.ofString "__loader__"), key := PySem.Value.str (PySem.Str.ofString "__loader__") 168, val := PySem.Value.builtin "__main__.__loader__#opaque" }, { hash := PySem.PyData.keyHash P (PySem.Str.ofString "__spec__"), key := PySem.Value.str (PySem.Str.ofString "__spec__") 169, val := PySem.Value.none }, { hash := PySem.PyData.keyHash P (PySem.Str.ofString "__annotations__"), key := PySem.Value.str (PySem.Str.ofString "__annotations__") 170, val := PySem.Value.ref 6 }, { hash := PySem.PyData.keyHash P (PySem.Str.ofString "__builtins__"), key := PySem.Value.str (PySem.Str.ofString "__builtins__") 171, val := PySem.Value.ref 4 }, { hash := PySem.PyData.keyHash P (PySem.Str.ofString "__file__"), key := PySem.Value.str (PySem.Str.ofString "__file__") 173, val := PySem.Value.str (PySem.Str.ofString "/claim/cut.py") 172 }, { hash := PySem.PyData.keyHash P (PySem.Str.ofString "__cached__"), key := PySem.Value.str (PySem.Str.ofString "__cached__") 174, val := PySem.Value.none }, { hash := PySem.PyData.keyHash P (PySem.Str.ofString "_sre"), key := PySem.Value.str (PySem.Str.ofString "_sre") 275, val := PySem.Value.ref 12 }, { hash := PySem.PyData.keyHash P (PySem.Str.ofString "_wall"), key := PySem.Value.str (PySem.Str.ofString "_wall") 288, val := PySem.Value.ref 38 }, { hash := PySem.PyData.keyHash P (PySem.Str.ofString "tspecials"), key := PySem.Value.str (PySem.Str.ofString "tspecials") 324, val := PySem.Value.ref 43 }, { hash := PySem.PyData.keyHash P (PySem.Str.ofString "_name_disallowed_re"), key := PySem.Value.str (PySem.Str.ofString "_name_disallowed_re") 350, val := PySem.Value.ref 48 }, { hash := PySem.PyData.keyHash P (PySem.Str.ofString "_value_disallowed_re"), key := PySem.Value.str (PySem.Str.ofString "_value_disallowed_re") 384, val := PySem.Value.ref 53 }, { hash := PySem.PyData.keyHash P (PySem.Str.ofString "_formatparam"), key := PySem.Value.str (PySem.Str.ofString "_formatparam") 394, val := PySem.Value.ref 61 }, { hash := PySem.PyData.keyHash P (PySem.Str.ofString "Headers"), key := PySem.Value.str (PySem.Str.ofString "Headers") 551, val := PySem.Value.ref 182 }, { hash := PySem.PyData.keyHash P (PySem.Str.ofString "compute_powers"), key := PySem.Value.str (PySem.Str.ofString "compute_powers") 573, val := PySem.Value.ref 194 }, { hash := PySem.PyData.keyHash P (PySem.Str.ofString "_str_to_int_inner"), key := PySem.Value.str (PySem.Str.ofString "_str_to_int_inner") 584, val := PySem.Value.ref 201 }, { hash := PySem.PyData.keyHash P (PySem.Str.ofString "int_from_string"), key := PySem.Value.str (PySem.Str.ofString "int_from_string") 591, val := PySem.Value.ref 208 }, { hash := PySem.PyData.keyHash P (PySem.Str.ofString "_DIV_LIMIT"), key := PySem.Value.str (PySem.Str.ofString "_DIV_LIMIT") 593, val := PySem.Value.int 4000 592 }, { hash := PySem.PyData.keyHash P (PySem.Str.ofString "_div2n1n"), key := PySem.Value.str (PySem.Str.ofString "_div2n1n") 610, val := PySem.Value.ref 215 }, { hash := PySem.PyData.keyHash P (PySem.Str.ofString "_div3n2n"), key := PySem.Value.str (PySem.Str.ofString "_div3n2n") 624, val := PySem.Value.ref 222 }, { hash := PySem.PyData.keyHash P (PySem.Str.ofString "_int2digits"), key := PySem.Value.str (PySem.Str.ofString "_int2digits") 635, val := PySem.Value.ref 229 }, { hash := PySem.PyData.keyHash P (PySem.Str.ofString "_digits2int"), key := PySem.Value.str (PySem.Str.ofString "_digits2int") 646, val := PySem.Value.ref 236 }, { hash := PySem.PyData.keyHash P (PySem.Str.ofString "_divmod_pos"), key := PySem.Value.str (PySem.Str.ofString "_divmod_pos") 661, val := PySem.Value.ref 243 }, { hash := PySem.PyData.keyHash P (PySem.Str.ofString "int_divmod"), key := PySem.Value.str (PySem.Str.ofString "int_divmod") 671, val := PySem.Value.ref 250 }, { hash := PySem.PyData.keyHash P (PySem.Str.ofString "add_callers"), key := PySem.Value.str (PySem.Str.ofString "add_callers") 684, val := PySem.Value.ref 257 }, { hash := PySem.PyData.keyHash P (PySem.Str.ofString "count_calls"), key := PySem.Value.str (PySem.Str.ofString "count_calls") 693, val := PySem.Value.ref 264 }, { hash := PySem.PyData.keyHash P (PySem.Str.ofString "_law_numbers"), key := PySem.Value.str (PySem.Str.ofString "_law_numbers") 701, val := PySem.Value.ref 269 }, { hash := PySem.PyData.keyHash P (PySem.Str.ofString "_law_text"), key := PySem.Value.str (PySem.Str.ofString "_law_text") 709, val := PySem.Value.ref 276 }, { hash := PySem.PyData.keyHash P (PySem.Str.ofString "_law_table"), key := PySem.Value.str (PySem.Str.ofString "_law_table") 720, val := PySem.Value.ref 283 }, { hash := PySem.PyData.keyHash P (PySem.Str.ofString "_law_calls"), key := PySem.Value.str (PySem.Str.ofString "_law_calls") 731, val := PySem.Value.ref 290 }, { hash := PySem.PyData.keyHash P (PySem.Str.ofString "_law_gone"), key := PySem.Value.str (PySem.Str.ofString "_law_gone") 737, val := PySem.Value.ref 295 }, { hash := PySem.PyData.keyHash P (PySem.Str.ofString "_law_divided"), key := PySem.Value.str (PySem.Str.ofString "_law_divided") 743, val := PySem.Value.ref 300 }, { hash := PySem.PyData.keyHash P (PySem.Str.ofString "_law_end"), key := PySem.Value.str (PySem.Str.ofString "_law_end") 752, val := PySem.Value.ref 307 }, { hash := PySem.PyData.keyHash P (PySem.Str.ofString "_law_forests"), key := PySem.Value.str (PySem.Str.ofString "_law_forests") 758, val := PySem.Value.ref 312 }, { hash := PySem.PyData.keyHash P (PySem.Str.ofString "law"), key := PySem.Value.str (PySem.Str.ofString "law") 764, val := PySem.Value.ref 317 }] 37 }
noncomputable def o32 (P : Params) : Obj := { cls := PySem.Value.type "tuple", data := PySem.Data.seq #[] }
noncomputable def o34 (P : Params) : Obj := { cls := PySem.Value.type "tuple", data := PySem.Data.seq #[PySem.Value.str (PySem.Str.ofString "k") 285] }
noncomputable def o35 (P : Params) : Obj := { cls := PySem.Value.type "tuple", data := PySem.Data.seq #[] }
noncomputable def o37 (P : Params) : Obj := { cls := PySem.Value.type "code", data := PySem.Data.fields #[PySem.Value.str (PySem.Str.ofString "_wall") 282, PySem.Value.str (PySem.Str.ofString "_wall") 283, PySem.Value.str (PySem.Str.ofString "/claim/cut.py") 284, PySem.Value.int 2 0, PySem.Value.int 1 0, PySem.Value.int 0 0, PySem.Value.int 0 0, PySem.Value.int 3 0, PySem.Value.ref 32, PySem.Value.bool Bool.true, PySem.Value.int 276 0, PySem.Value.ref 33, PySem.Value.none, PySem.Value.ref 34, PySem.Value.ref 35, PySem.Value.ref 36, PySem.Value.int 286 0, PySem.Value.int 2 0, PySem.Value.str (PySem.Str.ofString "/claim/cut.py") 287] }
noncomputable def o38 (P : Params) : Obj := match fT 1 with
  | (a, b, c) => { cls := PySem.Value.type "function", data := PySem.Data.func { name := PySem.Str.ofString "_wall", qualname := PySem.Str.ofString "_wall", params := a, body := .stmts b, scope := c, globals := 3, closure := [], defaults := PySem.Value.none, kwdefaults := PySem.Value.none, pyModule := PySem.Value.str (PySem.Str.ofString "__main__") 164, code := PySem.Value.ref 37 } }
noncomputable def o42 (P : Params) : Obj := { cls := PySem.Value.type "tuple", data := PySem.Data.seq #[PySem.Value.int 14 0, PySem.Value.int 14 0, PySem.Value.int 4 0, PySem.Value.int 1 0, PySem.Value.int 1 0, PySem.Value.int 9 0, PySem.Value.int 0 0, PySem.Value.int 4227896069 0, PySem.Value.int 939524097 0, PySem.Value.int 0 0, PySem.Value.int 0 0, PySem.Value.int 0 0, PySem.Value.int 0 0, PySem.Value.int 0 0, PySem.Value.int 0 0, PySem.Value.int 13 0, PySem.Value.int 11 0, PySem.Value.int 9 0, PySem.Value.int 0 0, PySem.Value.int 4227896069 0, PySem.Value.int 939524097 0, PySem.Value.int 0 0, PySem.Value.int 0 0, PySem.Value.int 0 0, PySem.Value.int 0 0, PySem.Value.int 0 0, PySem.Value.int 0 0, PySem.Value.int 1 0] }
noncomputable def o43 (P : Params) : Obj := { cls := PySem.Value.type "re.Pattern", data := PySem.Data.fields #[PySem.Value.str (PySem.Str.ofString "[ \\(\\)<>@,;:\\\\\"/\\[\\]\\?=]") 292, PySem.Value.int 32 323, PySem.Value.int 0 0, PySem.Value.none, PySem.Value.none, PySem.Value.ref 42, PySem.Value.int 0 0] }
noncomputable def o47 (P : Params) : Obj := { cls := PySem.Value.type "tuple", data := PySem.Data.seq #[PySem.Value.int 14 0, PySem.Value.int 10 0, PySem.Value.int 4 0, PySem.Value.int 1 0, PySem.Value.int 1 0, PySem.Value.int 22 0, PySem.Value.int 0 0, PySem.Value.int 31 0, PySem.Value.int 16 0, PySem.Value.int 127 0, PySem.Value.int 0 0, PySem.Value.int 13 0, PySem.Value.int 7 0, PySem.Value.int 22 0, PySem.Value.int 0 0, PySem.Value.int 31 0, PySem.Value.int 16 0, PySem.Value.int 127 0, PySem.Value.int 0 0, PySem.Value.int 1 0] }
noncomputable def o48 (P : Params) : Obj := { cls := PySem.Value.type "re.Pattern", data := PySem.Data.fields #[PySem.Value.str (PySem.Str.ofString "[\\x00-\\x1F\\x7F]") 326, PySem.Value.int 32 349, PySem.Value.int 0 0, PySem.Value.none, PySem.Value.none, PySem.Value.ref 47, PySem.Value.int 0 0] }
noncomputable def o52 (P : Params) : Obj := { cls := PySem.Value.type "tuple", data := PySem.Data.seq #[PySem.Value.int 14 0, PySem.Value.int 14 0, PySem.Value.int 4 0, PySem.Value.int 1 0, PySem.Value.int 1 0, PySem.Value.int 9 0, PySem.Value.int 4294966783 0, PySem.Value.int 0 0, PySem.Value.int 0 0, PySem.Value.int 2147483648 0, PySem.Value.int 0 0, PySem.Value.int 0 0, PySem.Value.int 0 0, PySem.Value.int 0 0, PySem.Value.int 0 0, PySem.Value.int 13 0, PySem.Value.int 11 0, PySem.Value.int 9 0, PySem.Value.int 4294966783 0, PySem.Value.int 0 0, PySem.Value.int 0 0, PySem.Value.int 2147483648 0, PySem.Value.int 0 0, PySem.Value.int 0 0, PySem.Value.int 0 0, PySem.Value.int 0 0, PySem.Value.int 0 0, PySem.Value.int 1 0] }
noncomputable def o53 (P : Params) : Obj := { cls := PySem.Value.type "re.Pattern", data := PySem.Data.fields #[PySem.Value.str (PySem.Str.ofString "[\\x00-\\x08\\x0A-\\x1F\\x7F]") 352, PySem.Value.int 32 383, PySem.Value.int 0 0, PySem.Value.none, PySem.Value.none, PySem.Value.ref 52, PySem.Value.int 0 0] }
noncomputable def o54 (P : Params) : Obj := { cls := PySem.Value.type "tuple", data := PySem.Data.seq #[PySem.Value.none, PySem.Value.int 1 385] }
noncomputable def o55 (P : Params) : Obj := { cls := PySem.Value.type "tuple", data := PySem.Data.seq #[] }
noncomputable def o57 (P : Params) : Obj := { cls := PySem.Value.type "tuple", data := PySem.Data.seq #[PySem.Value.str (PySem.Str.ofString "param") 389, PySem.Value.str (PySem.Str.ofString "value") 390, PySem.Value.str (PySem.Str.ofString "quote") 391] }
noncomputable def o58 (P : Params) : Obj := { cls := PySem.Value.type "tuple", data := PySem.Data.seq #[] }
noncomputable def o60 (P : Params) : Obj := { cls := PySem.Value.type "code", data := PySem.Data.fields #[PySem.Value.str (PySem.Str.ofString "_formatparam") 386, PySem.Value.str (PySem.Str.ofString "_formatparam") 387, PySem.Value.str (PySem.Str.ofString "/claim/cut.py") 388, PySem.Value.int 9 0, PySem.Value.int 3 0, PySem.Value.int 0 0, PySem.Value.int 0 0, PySem.Value.int 3 0, PySem.Value.ref 55, PySem.Value.bool Bool.true, PySem.Value.int 276 0, PySem.Value.ref 56, PySem.Value.none, PySem.Value.ref 57, PySem.Value.ref 58, PySem.Value.ref 59, PySem.Value.int 392 0, PySem.Value.int 9 0, PySem.Value.str (PySem.Str.ofString "/claim/cut.py") 393] }
noncomputable def o61 (P : Params) : Obj := match fT 6 with
  | (a, b, c) => { cls := PySem.Value.type "function", data := PySem.Data.func { name := PySem.Str.ofString "_formatparam", qualname := PySem.Str.ofString "_formatparam", params := a, body := .stmts b, scope := c, globals := 3, closure := [], defaults := PySem.Value.ref 54, kwdefaults := PySem.Value.none, pyModule := PySem.Value.str (PySem.Str.ofString "cpy313.wsgiref.headers") 289, code := PySem.Value.ref 60 } }
noncomputable def o69 (P : Params) : Obj := { cls := PySem.Value.type "tuple", data := PySem.Data.seq #[PySem.Value.none] }
noncomputable def o70 (P : Params) : Obj := { cls := PySem.Value.type "tuple", data := PySem.Data.seq #[] }
noncomputable def o72 (P : Params) : Obj := { cls := PySem.Value.type "tuple", data := PySem.Data.seq #[PySem.Value.str (PySem.Str.ofString "self") 410, PySem.Value.str (PySem.Str.ofString "headers") 411, PySem.Value.str (PySem.Str.ofString "k") 412, PySem.Value.str (PySem.Str.ofString "v") 413] }
noncomputable def o73 (P : Params) : Obj := { cls := PySem.Value.type "tuple", data := PySem.Data.seq #[] }
noncomputable def o75 (P : Params) : Obj := { cls := PySem.Value.type "code", data := PySem.Data.fields #[PySem.Value.str (PySem.Str.ofString "__init__") 407, PySem.Value.str (PySem.Str.ofString "Headers.__init__") 408, PySem.Value.str (PySem.Str.ofString "/claim/cut.py") 409, PySem.Value.int 20 0, PySem.Value.int 2 0, PySem.Value.int 0 0, PySem.Value.int 0 0, PySem.Value.int 3 0, PySem.Value.ref 70, PySem.Value.bool Bool.true, PySem.Value.int 276 0, PySem.Value.ref 71, PySem.Value.none, PySem.Value.ref 72, PySem.Value.ref 73, PySem.Value.ref 74, PySem.Value.int 414 0, PySem.Value.int 20 0, PySem.Value.str (PySem.Str.ofString "/claim/cut.py") 415] }
noncomputable def o76 (P : Params) : Obj := match fM 0 with
  | (a, b, c) => { cls := PySem.Value.type "function", data := PySem.Data.func { name := PySem.Str.ofString "__init__", qualname := PySem.Str.ofString "Headers.__init__", params := a, body := .stmts b, scope := c, globals := 3, closure := [], defaults := PySem.Value.ref 69, kwdefaults := PySem.Value.none, pyModule := PySem.Value.str (PySem.Str.ofString "cpy313.wsgiref.headers") 289, code := PySem.Value.ref 75 } }
noncomputable def o77 (P : Params) : Obj := { cls := PySem.Value.type "tuple", data := PySem.Data.seq #[] }
noncomputable def o79 (P : Params) : Obj := { cls := PySem.Value.type "tuple", data := PySem.Data.seq #[PySem.Value.str (PySem.Str.ofString "self") 420, PySem.Value.str (PySem.Str.ofString "value") 421, PySem.Value.str (PySem.Str.ofString "name") 422, PySem.Value.str (PySem.Str.ofString "regex") 423] }
noncomputable def o80 (P : Params) : Obj := { cls := PySem.Value.type "tuple", data := PySem.Data.seq #[] }
noncomputable def o82 (P : Params) : Obj := { cls := PySem.Value.type "code", data := PySem.Data.fields #[PySem.Value.str (PySem.Str.ofString "_convert_string_type") 417, PySem.Value.str (PySem.Str.ofString "Headers._convert_string_type") 418, PySem.Value.str (PySem.Str.ofString "/claim/cut.py") 419, PySem.Value.int 30 0, PySem.Value.int 2 0, PySem.Value.int 0 0, PySem.Value.int 1 0, PySem.Value.int 3 0, PySem.Value.ref 77, PySem.Value.bool Bool.true, PySem.Value.int 276 0, PySem.Value.ref 78, PySem.Value.none, PySem.Value.ref 79, PySem.Value.ref 80, PySem.Value.ref 81, PySem.Value.int 424 0, PySem.Value.int 30 0, PySem.Value.str (PySem.Str.ofString "/claim/cut.py") 425] }
noncomputable def o83 (P : Params) : Obj := match fM 1 with
  | (a, b, c) => { cls := PySem.Value.type "function", data := PySem.Data.func { name := PySem.Str.ofString "_convert_string_type", qualname := PySem.Str.ofString "Headers._convert_string_type", params := a, body := .stmts b, scope := c, globals := 3, closure := [], defaults := PySem.Value.none, kwdefaults := PySem.Value.none, pyModule := PySem.Value.str (PySem.Str.ofString "cpy313.wsgiref.headers") 289, code := PySem.Value.ref 82 } }
noncomputable def o84 (P : Params) : Obj := { cls := PySem.Value.type "tuple", data := PySem.Data.seq #[] }
noncomputable def o86 (P : Params) : Obj := { cls := PySem.Value.type "tuple", data := PySem.Data.seq #[PySem.Value.str (PySem.Str.ofString "self") 430] }
noncomputable def o87 (P : Params) : Obj := { cls := PySem.Value.type "tuple", data := PySem.Data.seq #[] }
noncomputable def o89 (P : Params) : Obj := { cls := PySem.Value.type "code", data := PySem.Data.fields #[PySem.Value.str (PySem.Str.ofString "__len__") 427, PySem.Value.str (PySem.Str.ofString "Headers.__len__") 428, PySem.Value.str (PySem.Str.ofString "/claim/cut.py") 429, PySem.Value.int 38 0, PySem.Value.int 1 0, PySem.Value.int 0 0, PySem.Value.int 0 0, PySem.Value.int 3 0, PySem.Value.ref 84, PySem.Value.bool Bool.true, PySem.Value.int 276 0, PySem.Value.ref 85, PySem.Value.none, PySem.Value.ref 86, PySem.Value.ref 87, PySem.Value.ref 88, PySem.Value.int 431 0, PySem.Value.int 38 0, PySem.Value.str (PySem.Str.ofString "/claim/cut.py") 432] }
noncomputable def o90 (P : Params) : Obj := match fM 2 with
  | (a, b, c) => { cls := PySem.Value.type "function", data := PySem.Data.func { name := PySem.Str.ofString "__len__", qualname := PySem.Str.ofString "Headers.__len__", params := a, body := .stmts b, scope := c, globals := 3, closure := [], defaults := PySem.Value.none, kwdefaults := PySem.Value.none, pyModule := PySem.Value.str (PySem.Str.ofString "cpy313.wsgiref.headers") 289, code := PySem.Value.ref 89 } }
noncomputable def o91 (P : Params) : Obj := { cls := PySem.Value.type "tuple", data := PySem.Data.seq #[] }
noncomputable def o93 (P : Params) : Obj := { cls := PySem.Value.type "tuple", data := PySem.Data.seq #[PySem.Value.str (PySem.Str.ofString "self") 437, PySem.Value.str (PySem.Str.ofString "name") 438, PySem.Value.str (PySem.Str.ofString "val") 439] }
noncomputable def o94 (P : Params) : Obj := { cls := PySem.Value.type "tuple", data := PySem.Data.seq #[] }
noncomputable def o96 (P : Params) : Obj := { cls := PySem.Value.type "code", data := PySem.Data.fields #[PySem.Value.str (PySem.Str.ofString "__setitem__") 434, PySem.Value.str (PySem.Str.ofString "Headers.__setitem__") 435, PySem.Value.str (PySem.Str.ofString "/claim/cut.py") 436, PySem.Value.int 41 0, PySem.Value.int 3 0, PySem.Value.int 0 0, PySem.Value.int 0 0, PySem.Value.int 3 0, PySem.Value.ref 91, PySem.Value.bool Bool.true, PySem.Value.int 276 0, PySem.Value.ref 92, PySem.Value.none, PySem.Value.ref 93, PySem.Value.ref 94, PySem.Value.ref 95, PySem.Value.int 440 0, PySem.Value.int 41 0, PySem.Value.str (PySem.Str.ofString "/claim/cut.py") 441] }
noncomputable def o97 (P : Params) : Obj := match fM 3 with
  | (a, b, c) => { cls := PySem.Value.type "function", data := PySem.Data.func { name := PySem.Str.ofString "__setitem__", qualname := PySem.Str.ofString "Headers.__setitem__", params := a, body := .stmts b, scope := c, globals := 3, closure := [], defaults := PySem.Value.none, kwdefaults := PySem.Value.none, pyModule := PySem.Value.str (PySem.Str.ofString "cpy313.wsgiref.headers") 289, code := PySem.Value.ref 96 } }
noncomputable def o98 (P : Params) : Obj := { cls := PySem.Value.type "tuple", data := PySem.Data.seq #[] }
noncomputable def o101 (P : Params) : Obj := { cls := PySem.Value.type "code", data := PySem.Data.fields #[PySem.Value.str (PySem.Str.ofString "__delitem__") 443, PySem.Value.str (PySem.Str.ofString "Headers.__delitem__") 444, PySem.Value.str (PySem.Str.ofString "/claim/cut.py") 445, PySem.Value.int 45 0, PySem.Value.int 2 0, PySem.Value.int 0 0, PySem.Value.int 0 0, PySem.Value.int 3 0, PySem.Value.ref 98, PySem.Value.bool Bool.true, PySem.Value.int 276 0, PySem.Value.ref 99, PySem.Value.none, PySem.Value.none, PySem.Value.none, PySem.Value.ref 100, PySem.Value.int 446 0, PySem.Value.int 45 0, PySem.Value.str (PySem.Str.ofString "/claim/cut.py") 447] }
noncomputable def o102 (P : Params) : Obj := match fM 4 with
  | (a, b, c) => { cls := PySem.Value.type "function", data := PySem.Data.func { name := PySem.Str.ofString "__delitem__", qualname := PySem.Str.ofString "Headers.__delitem__", params := a, body := .stmts b, scope := c, globals := 3, closure := [], defaults := PySem.Value.none, kwdefaults := PySem.Value.none, pyModule := PySem.Value.str (PySem.Str.ofString "cpy313.wsgiref.headers") 289, code := PySem.Value.ref 101 } }
noncomputable def o103 (P : Params) : Obj := { cls := PySem.Value.type "tuple", data := PySem.Data.seq #[] }
noncomputable def o105 (P : Params) : Obj := { cls := PySem.Value.type "tuple", data := PySem.Data.seq #[PySem.Value.str (PySem.Str.ofString "self") 452, PySem.Value.str (PySem.Str.ofString "name") 453] }
noncomputable def o106 (P : Params) : Obj := { cls := PySem.Value.type "tuple", data := PySem.Data.seq #[] }
noncomputable def o108 (P : Params) : Obj := { cls := PySem.Value.type "code", data := PySem.Data.fields #[PySem.Value.str (PySem.Str.ofString "__getitem__") 449, PySem.Value.str (PySem.Str.ofString "Headers.__getitem__") 450, PySem.Value.str (PySem.Str.ofString "/claim/cut.py") 451, PySem.Value.int 49 0, PySem.Value.int 2 0, PySem.Value.int 0 0, PySem.Value.int 0 0, PySem.Value.int 3 0, PySem.Value.ref 103, PySem.Value.bool Bool.true, PySem.Value.int 276 0, PySem.Value.ref 104, PySem.Value.none, PySem.Value.ref 105, PySem.Value.ref 106, PySem.Value.ref 107, PySem.Value.int 454 0, PySem.Value.int 49 0, PySem.Value.str (PySem.Str.ofString "/claim/cut.py") 455] }
noncomputable def o109 (P : Params) : Obj := match fM 5 with
  | (a, b, c) => { cls := PySem.Value.type "function", data := PySem.Data.func { name := PySem.Str.ofString "__getitem__", qualname := PySem.Str.ofString "Headers.__getitem__", params := a, body := .stmts b, scope := c, globals := 3, closure := [], defaults := PySem.Value.none, kwdefaults := PySem.Value.none, pyModule := PySem.Value.str (PySem.Str.ofString "cpy313.wsgiref.headers") 289, code := PySem.Value.ref 108 } }
noncomputable def o110 (P : Params) : Obj := { cls := PySem.Value.type "tuple", data := PySem.Data.seq #[] }
noncomputable def o112 (P : Params) : Obj := { cls := PySem.Value.type "tuple", data := PySem.Data.seq #[PySem.Value.str (PySem.Str.ofString "self") 460, PySem.Value.str (PySem.Str.ofString "name") 461] }
noncomputable def o113 (P : Params) : Obj := { cls := PySem.Value.type "tuple", data := PySem.Data.seq #[] }
noncomputable def o115 (P : Params) : Obj := { cls := PySem.Value.type "code", data := PySem.Data.fields #[PySem.Value.str (PySem.Str.ofString "__contains__") 457, PySem.Value.str (PySem.Str.ofString "Headers.__contains__") 458, PySem.Value.str (PySem.Str.ofString "/claim/cut.py") 459, PySem.Value.int 52 0, PySem.Value.int 2 0, PySem.Value.int 0 0, PySem.Value.int 0 0, PySem.Value.int 3 0, PySem.Value.ref 110, PySem.Value.bool Bool.true, PySem.Value.int 276 0, PySem.Value.ref 111, PySem.Value.none, PySem.Value.ref 112, PySem.Value.ref 113, PySem.Value.ref 114, PySem.Value.int 462 0, PySem.Value.int 52 0, PySem.Value.str (PySem.Str.ofString "/claim/cut.py") 463] }
noncomputable def o116 (P : Params) : Obj := match fM 6 with
  | (a, b, c) => { cls := PySem.Value.type "function", data := PySem.Data.func { name := PySem.Str.ofString "__contains__", qualname := PySem.Str.ofString "Headers.__contains__", params := a, body := .stmts b, scope := c, globals := 3, closure := [], defaults := PySem.Value.none, kwdefaults := PySem.Value.none, pyModule := PySem.Value.str (PySem.Str.ofString "cpy313.wsgiref.headers") 289, code := PySem.Value.ref 115 } }
noncomputable def o117 (P : Params) : Obj := { cls := PySem.Value.type "tuple", data := PySem.Data.seq #[] }
noncomputable def o120 (P : Params) : Obj := { cls := PySem.Value.type "code", data := PySem.Data.fields #[PySem.Value.str (PySem.Str.ofString "get_all") 465, PySem.Value.str (PySem.Str.ofString "Headers.get_all") 466, PySem.Value.str (PySem.Str.ofString "/claim/cut.py") 467, PySem.Value.int 55 0, PySem.Value.int 2 0, PySem.Value.int 0 0, PySem.Value.int 0 0, PySem.Value.int 3 0, PySem.Value.ref 117, PySem.Value.bool Bool.true, PySem.Value.int 276 0, PySem.Value.ref 118, PySem.Value.none, PySem.Value.none, PySem.Value.none, PySem.Value.ref 119, PySem.Value.int 468 0, PySem.Value.int 55 0, PySem.Value.str (PySem.Str.ofString "/claim/cut.py") 469] }
noncomputable def o121 (P : Params) : Obj := match fM 7 with
  | (a, b, c) => { cls := PySem.Value.type "function", data := PySem.Data.func { name := PySem.Str.ofString "get_all", qualname := PySem.Str.ofString "Headers.get_all", params := a, body := .stmts b, scope := c, globals := 3, closure := [], defaults := PySem.Value.none, kwdefaults := PySem.Value.none, pyModule := PySem.Value.str (PySem.Str.ofString "cpy313.wsgiref.headers") 289, code := PySem.Value.ref 120 } }
noncomputable def o122 (P : Params) : Obj := { cls := PySem.Value.type "tuple", data := PySem.Data.seq #[PySem.Value.none] }
noncomputable def o123 (P : Params) : Obj := { cls := PySem.Value.type "tuple", data := PySem.Data.seq #[] }
noncomputable def o125 (P : Params) : Obj := { cls := PySem.Value.type "tuple", data := PySem.Data.seq #[PySem.Value.str (PySem.Str.ofString "self") 474, PySem.Value.str (PySem.Str.ofString "name") 475, PySem.Value.str (PySem.Str.ofString "default") 476, PySem.Value.str (PySem.Str.ofString "k") 477, PySem.Value.str (PySem.Str.ofString "v") 478] }
noncomputable def o126 (P : Params) : Obj := { cls := PySem.Value.type "tuple", data := PySem.Data.seq #[] }
noncomputable def o128 (P : Params) : Obj := { cls := PySem.Value.type "code", data := PySem.Data.fields #[PySem.Value.str (PySem.Str.ofString "get") 471, PySem.Value.str (PySem.Str.ofString "Headers.get") 472, PySem.Value.str (PySem.Str.ofString "/claim/cut.py") 473, PySem.Value.int 59 0, PySem.Value.int 3 0, PySem.Value.int 0 0, PySem.Value.int 0 0, PySem.Value.int 3 0, PySem.Value.ref 123, PySem.Value.bool Bool.true, PySem.Value.int 276 0, PySem.Value.ref 124, PySem.Value.none, PySem.Value.ref 125, PySem.Value.ref 126, PySem.Value.ref 127, PySem.Value.int 479 0, PySem.Value.int 59 0, PySem.Value.str (PySem.Str.ofString "/claim/cut.py") 480] }
noncomputable def o129 (P : Params) : Obj := match fM 8 with
  | (a, b, c) => { cls := PySem.Value.type "function", data := PySem.Data.func { name := PySem.Str.ofString "get", qualname := PySem.Str.ofString "Headers.get", params := a, body := .stmts b, scope := c, globals := 3, closure := [], defaults := PySem.Value.ref 122, kwdefaults := PySem.Value.none, pyModule := PySem.Value.str (PySem.Str.ofString "cpy313.wsgiref.headers") 289, code := PySem.Value.ref 128 } }
noncomputable def o130 (P : Params) : Obj := { cls := PySem.Value.type "tuple", data := PySem.Data.seq #[] }
noncomputable def o133 (P : Params) : Obj := { cls := PySem.Value.type "code", data := PySem.Data.fields #[PySem.Value.str (PySem.Str.ofString "keys") 482, PySem.Value.str (PySem.Str.ofString "Headers.keys") 483, PySem.Value.str (PySem.Str.ofString "/claim/cut.py") 484, PySem.Value.int 66 0, PySem.Value.int 1 0, PySem.Value.int 0 0, PySem.Value.int 0 0, PySem.Value.int 3 0, PySem.Value.ref 130, PySem.Value.bool Bool.true, PySem.Value.int 276 0, PySem.Value.ref 131, PySem.Value.none, PySem.Value.none, PySem.Value.none, PySem.Value.ref 132, PySem.Value.int 485 0, PySem.Value.int 66 0, PySem.Value.str (PySem.Str.ofString "/claim/cut.py") 486] }
noncomputable def o134 (P : Params) : Obj := match fM 9 with
  | (a, b, c) => { cls := PySem.Value.type "function", data := PySem.Data.func { name := PySem.Str.ofString "keys", qualname := PySem.Str.ofString "Headers.keys", params := a, body := .stmts b, scope := c, globals := 3, closure := [], defaults := PySem.Value.none, kwdefaults := PySem.Value.none, pyModule := PySem.Value.str (PySem.Str.ofString "cpy313.wsgiref.headers") 289, code := PySem.Value.ref 133 } }
noncomputable def o135 (P : Params) : Obj := { cls := PySem.Value.type "tuple", data := PySem.Data.seq #[] }
noncomputable def o138 (P : Params) : Obj := { cls := PySem.Value.type "code", data := PySem.Data.fields #[PySem.Value.str (PySem.Str.ofString "values") 488, PySem.Value.str (PySem.Str.ofString "Headers.values") 489, PySem.Value.str (PySem.Str.ofString "/claim/cut.py") 490, PySem.Value.int 69 0, PySem.Value.int 1 0, PySem.Value.int 0 0, PySem.Value.int 0 0, PySem.Value.int 3 0, PySem.Value.ref 135, PySem.Value.bool Bool.true, PySem.Value.int 276 0, PySem.Value.ref 136, PySem.Value.none, PySem.Value.none, PySem.Value.none, PySem.Value.ref 137, PySem.Value.int 491 0, PySem.Value.int 69 0, PySem.Value.str (PySem.Str.ofString "/claim/cut.py") 492] }
noncomputable def o139 (P : Params) : Obj := match fM 10 with
  | (a, b, c) => { cls := PySem.Value.type "function", data := PySem.Data.func { name := PySem.Str.ofString "values", qualname := PySem.Str.ofString "Headers.values", params := a, body := .stmts b, scope := c, globals := 3, closure := [], defaults := PySem.Value.none, kwdefaults := PySem.Value.none, pyModule := PySem.Value.str (PySem.Str.ofString "cpy313.wsgiref.headers") 289, code := PySem.Value.ref 138 } }
noncomputable def o140 (P : Params) : Obj := { cls := PySem.Value.type "tuple", data := PySem.Data.seq #[] }
noncomputable def o142 (P : Params) : Obj := { cls := PySem.Value.type "tuple", data := PySem.Data.seq #[PySem.Value.str (PySem.Str.ofString "self") 497] }
noncomputable def o143 (P : Params) : Obj := { cls := PySem.Value.type "tuple", data := PySem.Data.seq #[] }
noncomputable def o145 (P : Params) : Obj := { cls := PySem.Value.type "code", data := PySem.Data.fields #[PySem.Value.str (PySem.Str.ofString "items") 494, PySem.Value.str (PySem.Str.ofString "Headers.items") 495, PySem.Value.str (PySem.Str.ofString "/claim/cut.py") 496, PySem.Value.int 72 0, PySem.Value.int 1 0, PySem.Value.int 0 0, PySem.Value.int 0 0, PySem.Value.int 3 0, PySem.Value.ref 140, PySem.Value.bool Bool.true, PySem.Value.int 276 0, PySem.Value.ref 141, PySem.Value.none, PySem.Value.ref 142, PySem.Value.ref 143, PySem.Value.ref 144, PySem.Value.int 498 0, PySem.Value.int 72 0, PySem.Value.str (PySem.Str.ofString "/claim/cut.py") 499] }
noncomputable def o146 (P : Params) : Obj := match fM 11 with
  | (a, b, c) => { cls := PySem.Value.type "function", data := PySem.Data.func { name := PySem.Str.ofString "items", qualname := PySem.Str.ofString "Headers.items", params := a, body := .stmts b, scope := c, globals := 3, closure := [], defaults := PySem.Value.none, kwdefaults := PySem.Value.none, pyModule := PySem.Value.str (PySem.Str.ofString "cpy313.wsgiref.headers") 289, code := PySem.Value.ref 145 } }
noncomputable def o147 (P : Params) : Obj := { cls := PySem.Value.type "tuple", data := PySem.Data.seq #[] }
noncomputable def o149 (P : Params) : Obj := { cls := PySem.Value.type "tuple", data := PySem.Data.seq #[PySem.Value.str (PySem.Str.ofString "self") 504] }
noncomputable def o150 (P : Params) : Obj := { cls := PySem.Value.type "tuple", data := PySem.Data.seq #[] }
noncomputable def o152 (P : Params) : Obj := { cls := PySem.Value.type "code", data := PySem.Data.fields #[PySem.Value.str (PySem.Str.ofString "__repr__") 501, PySem.Value.str (PySem.Str.ofString "Headers.__repr__") 502, PySem.Value.str (PySem.Str.ofString "/claim/cut.py") 503, PySem.Value.int 75 0, PySem.Value.int 1 0, PySem.Value.int 0 0, PySem.Value.int 0 0, PySem.Value.int 3 0, PySem.Value.ref 147, PySem.Value.bool Bool.true, PySem.Value.int 276 0, PySem.Value.ref 148, PySem.Value.none, PySem.Value.ref 149, PySem.Value.ref 150, PySem.Value.ref 151, PySem.Value.int 505 0, PySem.Value.int 75 0, PySem.Value.str (PySem.Str.ofString "/claim/cut.py") 506] }
noncomputable def o153 (P : Params) : Obj := match fM 12 with
  | (a, b, c) => { cls := PySem.Value.type "function", data := PySem.Data.func { name := PySem.Str.ofString "__repr__", qualname := PySem.Str.ofString "Headers.__repr__", params := a, body := .stmts b, scope := c, globals := 3, closure := [], defaults := PySem.Value.none, kwdefaults := PySem.Value.none, pyModule := PySem.Value.str (PySem.Str.ofString "cpy313.wsgiref.headers") 289, code := PySem.Value.ref 152 } }
noncomputable def o154 (P : Params) : Obj := { cls := PySem.Value.type "tuple", data := PySem.Data.seq #[] }
noncomputable def o157 (P : Params) : Obj := { cls := PySem.Value.type "code", data := PySem.Data.fields #[PySem.Value.str (PySem.Str.ofString "__str__") 508, PySem.Value.str (PySem.Str.ofString "Headers.__str__") 509, PySem.Value.str (PySem.Str.ofString "/claim/cut.py") 510, PySem.Value.int 78 0, PySem.Value.int 1 0, PySem.Value.int 0 0, PySem.Value.int 0 0, PySem.Value.int 3 0, PySem.Value.ref 154, PySem.Value.bool Bool.true, PySem.Value.int 276 0, PySem.Value.ref 155, PySem.Value.none, PySem.Value.none, PySem.Value.none, PySem.Value.ref 156, PySem.Value.int 511 0, PySem.Value.int 78 0, PySem.Value.str (PySem.Str.ofString "/claim/cut.py") 512] }
noncomputable def o158 (P : Params) : Obj := match fM 13 with
  | (a, b, c) => { cls := PySem.Value.type "function", data := PySem.Data.func { name := PySem.Str.ofString "__str__", qualname := PySem.Str.ofString "Headers.__str__", params := a, body := .stmts b, scope := c, globals := 3, closure := [], defaults := PySem.Value.none, kwdefaults := PySem.Value.none, pyModule := PySem.Value.str (PySem.Str.ofString "cpy313.wsgiref.headers") 289, code := PySem.Value.ref 157 } }
noncomputable def o159 (P : Params) : Obj := { cls := PySem.Value.type "tuple", data := PySem.Data.seq #[] }
noncomputable def o161 (P : Params) : Obj := { cls := PySem.Value.type "tuple", data := PySem.Data.seq #[PySem.Value.str (PySem.Str.ofString "self") 517] }
noncomputable def o162 (P : Params) : Obj := { cls := PySem.Value.type "tuple", data := PySem.Data.seq #[] }
noncomputable def o164 (P : Params) : Obj := { cls := PySem.Value.type "code", data := PySem.Data.fields #[PySem.Value.str (PySem.Str.ofString "__bytes__") 514, PySem.Value.str (PySem.Str.ofString "Headers.__bytes__") 515, PySem.Value.str (PySem.Str.ofString "/claim/cut.py") 516, PySem.Value.int 81 0, PySem.Value.int 1 0, PySem.Value.int 0 0, PySem.Value.int 0 0, PySem.Value.int 3 0, PySem.Value.ref 159, PySem.Value.bool Bool.true, PySem.Value.int 276 0, PySem.Value.ref 160, PySem.Value.none, PySem.Value.ref 161, PySem.Value.ref 162, PySem.Value.ref 163, PySem.Value.int 518 0, PySem.Value.int 81 0, PySem.Value.str (PySem.Str.ofString "/claim/cut.py") 519] }
noncomputable def o165 (P : Params) : Obj := match fM 14 with
  | (a, b, c) => { cls := PySem.Value.type "function", data := PySem.Data.func { name := PySem.Str.ofString "__bytes__", qualname := PySem.Str.ofString "Headers.__bytes__", params := a, body := .stmts b, scope := c, globals := 3, closure := [], defaults := PySem.Value.none, kwdefaults := PySem.Value.none, pyModule := PySem.Value.str (PySem.Str.ofString "cpy313.wsgiref.headers") 289, code := PySem.Value.ref 164 } }
noncomputable def o166 (P : Params) : Obj := { cls := PySem.Value.type "tuple", data := PySem.Data.seq #[] }
noncomputable def o168 (P : Params) : Obj := { cls := PySem.Value.type "tuple", data := PySem.Data.seq #[PySem.Value.str (PySem.Str.ofString "self") 524, PySem.Value.str (PySem.Str.ofString "name") 525, PySem.Value.str (PySem.Str.ofString "value") 526] }
noncomputable def o169 (P : Params) : Obj := { cls := PySem.Value.type "tuple", data := PySem.Data.seq #[] }
noncomputable def o171 (P : Params) : Obj := { cls := PySem.Value.type "code", data := PySem.Data.fields #[PySem.Value.str (PySem.Str.ofString "setdefault") 521, PySem.Value.str (PySem.Str.ofString "Headers.setdefault") 522, PySem.Value.str (PySem.Str.ofString "/claim/cut.py") 523, PySem.Value.int 84 0, PySem.Value.int 3 0, PySem.Value.int 0 0, PySem.Value.int 0 0, PySem.Value.int 3 0, PySem.Value.ref 166, PySem.Value.bool Bool.true, PySem.Value.int 276 0, PySem.Value.ref 167, PySem.Value.none, PySem.Value.ref 168, PySem.Value.ref 169, PySem.Value.ref 170, PySem.Value.int 527 0, PySem.Value.int 84 0, PySem.Value.str (PySem.Str.ofString "/claim/cut.py") 528] }
noncomputable def o172 (P : Params) : Obj := match fM 15 with
  | (a, b, c) => { cls := PySem.Value.type "function", data := PySem.Data.func { name := PySem.Str.ofString "setdefault", qualname := PySem.Str.ofString "Headers.setdefault", params := a, body := .stmts b, scope := c, globals := 3, closure := [], defaults := PySem.Value.none, kwdefaults := PySem.Value.none, pyModule := PySem.Value.str (PySem.Str.ofString "cpy313.wsgiref.headers") 289, code := PySem.Value.ref 171 } }
noncomputable def o173 (P : Params) : Obj := { cls := PySem.Value.type "tuple", data := PySem.Data.seq #[] }
noncomputable def o175 (P : Params) : Obj := { cls := PySem.Value.type "tuple", data := PySem.Data.seq #[PySem.Value.str (PySem.Str.ofString "self") 533, PySem.Value.str (PySem.Str.ofString "_name") 534, PySem.Value.str (PySem.Str.ofString "_value") 535, PySem.Value.str (PySem.Str.ofString "_params") 536, PySem.Value.str (PySem.Str.ofString "parts") 537, PySem.Value.str (PySem.Str.ofString "k") 538, PySem.Value.str (PySem.Str.ofString "v") 539] }
noncomputable def o176 (P : Params) : Obj := { cls := PySem.Value.type "tuple", data := PySem.Data.seq #[] }
noncomputable def o178 (P : Params) : Obj := { cls := PySem.Value.type "code", data := PySem.Data.fields #[PySem.Value.str (PySem.Str.ofString "add_header") 530, PySem.Value.str (PySem.Str.ofString "Headers.add_header") 531, PySem.Value.str (PySem.Str.ofString "/claim/cut.py") 532, PySem.Value.int 87 0, PySem.Value.int 3 0, PySem.Value.int 0 0, PySem.Value.int 0 0, PySem.Value.int 11 0, PySem.Value.ref 173, PySem.Value.bool Bool.true, PySem.Value.int 276 0, PySem.Value.ref 174, PySem.Value.none, PySem.Value.ref 175, PySem.Value.ref 176, PySem.Value.ref 177, PySem.Value.int 540 0, PySem.Value.int 87 0, PySem.Value.str (PySem.Str.ofString "/claim/cut.py") 541] }
noncomputable def o179 (P : Params) : Obj := match fM 16 with
  | (a, b, c) => { cls := PySem.Value.type "function", data := PySem.Data.func { name := PySem.Str.ofString "add_header", qualname := PySem.Str.ofString "Headers.add_header", params := a, body := .stmts b, scope := c, globals := 3, closure := [], defaults := PySem.Value.none, kwdefaults := PySem.Value.none, pyModule := PySem.Value.str (PySem.Str.ofString "cpy313.wsgiref.headers") 289, code := PySem.Value.ref 178 } }
noncomputable def o180 (P : Params) : Obj := { cls := PySem.Value.type "tuple", data := PySem.Data.seq #[PySem.Value.str (PySem.Str.ofString "_headers") 543] }
noncomputable def o181 (P : Params) : Obj := { cls := PySem.Value.type "dict", data := PySem.Data.dict #[{ hash := PySem.PyData.keyHash P (PySem.Str.ofString "__module__"), key := PySem.Value.str (PySem.Str.ofString "__module__") 402, val := PySem.Value.str (PySem.Str.ofString "cpy313.wsgiref.headers") 289 }, { hash := PySem.PyData.keyHash P (PySem.Str.ofString "__firstlineno__"), key := PySem.Value.str (PySem.Str.ofString "__firstlineno__") 406, val := PySem.Value.int 18 405 }, { hash := PySem.PyData.keyHash P (PySem.Str.ofString "__init__"), key := PySem.Value.str (PySem.Str.ofString "__init__") 416, val := PySem.Value.ref 76 }, { hash := PySem.PyData.keyHash P (PySem.Str.ofString "_convert_string_type"), key := PySem.Value.str (PySem.Str.ofString "_convert_string_type") 426, val := PySem.Value.ref 83 }, { hash := PySem.PyData.keyHash P (PySem.Str.ofString "__len__"), key := PySem.Value.str (PySem.Str.ofString "__len__") 433, val := PySem.Value.ref 90 }, { hash := PySem.PyData.keyHash P (PySem.Str.ofString "__setitem__"), key := PySem.Value.str (PySem.Str.ofString "__setitem__") 442, val := PySem.Value.ref 97 }, { hash := PySem.PyData.keyHash P (PySem.Str.ofString "__delitem__"), key := PySem.Value.str (PySem.Str.ofString "__delitem__") 448, val := PySem.Value.ref 102 }, { hash := PySem.PyData.keyHash P (PySem.Str.ofString "__getitem__"), key := PySem.Value.str (PySem.Str.ofString "__getitem__") 456, val := PySem.Value.ref 109 }, { hash := PySem.PyData.keyHash P (PySem.Str.ofString "__contains__"), key := PySem.Value.str (PySem.Str.ofString "__contains__") 464, val := PySem.Value.ref 116 }, { hash := PySem.PyData.keyHash P (PySem.Str.ofString "get_all"), key := PySem.Value.str (PySem.Str.ofString "get_all") 470, val := PySem.Value.ref 121 }, { hash := PySem.PyData.keyHash P (PySem.Str.ofString "get"), key := PySem.Value.str (PySem.Str.ofString "get") 481, val := PySem.Value.ref 129 }, { hash := PySem.PyData.keyHash P (PySem.Str.ofString "keys"), key := PySem.Value.str (PySem.Str.ofString "keys") 487, val := PySem.Value.ref 134 }, { hash := PySem.PyData.keyHash P (PySem.Str.ofString "values"), key := PySem.Value.str (PySem.Str.ofString "values") 493, val := PySem.Value.ref 139 }, { hash := PySem.PyData.keyHash P (PySem.Str.ofString "items"), key := PySem.Value.str (PySem.Str.ofString "items") 500, val := PySem.Value.ref 146 }, { hash := PySem.PyData.keyHash P (PySem.Str.ofString "__repr__"), key := PySem.Value.str (PySem.Str.ofString "__repr__") 507, val := PySem.Value.ref 153 }, { hash := PySem.PyData.keyHash P (PySem.Str.ofString "__str__"), key := PySem.Value.str (PySem.Str.ofString "__str__") 513, val := PySem.Value.ref 158 }, { hash := PySem.PyData.keyHash P (PySem.Str.ofString "__bytes__"), key := PySem.Value.str (PySem.Str.ofString "__bytes__") 520, val := PySem.Value.ref 165 }, { hash := PySem.PyData.keyHash P (PySem.Str.ofString "setdefault"), key := PySem.Value.str (PySem.Str.ofString "setdefault") 529, val := PySem.Value.ref 172 }, { hash := PySem.PyData.keyHash P (PySem.Str.ofString "add_header"), key := PySem.Value.str (PySem.Str.ofString "add_header") 542, val := PySem.Value.ref 179 }, { hash := PySem.PyData.keyHash P (PySem.Str.ofString "__static_attributes__"), key := PySem.Value.str (PySem.Str.ofString "__static_attributes__") 544, val := PySem.Value.ref 180 }, { hash := PySem.PyData.keyHash P (PySem.Str.ofString "__dict__"), key := PySem.Value.str (PySem.Str.ofString "__dict__") 546, val := PySem.Value.ref 183 }, { hash := PySem.PyData.keyHash P (PySem.Str.ofString "__weakref__"), key := PySem.Value.str (PySem.Str.ofString "__weakref__") 548, val := PySem.Value.ref 184 }, { hash := PySem.PyData.keyHash P (PySem.Str.ofString "__doc__"), key := PySem.Value.str (PySem.Str.ofString "__doc__") 549, val := PySem.Value.none }] 4 }
noncomputable def o182 (P : Params) : Obj := { cls := PySem.Value.type "type", data := PySem.Data.cls { name := PySem.Str.ofString "Headers", bases := [PySem.Value.type "object"], mro := [PySem.Value.ref 182, PySem.Value.type "object"], ns := 181, qualname := PySem.Str.ofString "Headers" }, slots := #[Option.none, Option.none, Option.some (PySem.Value.str (PySem.Str.ofString "Headers") 395), Option.some (PySem.Value.str (PySem.Str.ofString "Headers") 403), Option.some (PySem.Value.builtin "object.__new__"), Option.some (PySem.Value.bool Bool.true)] }
noncomputable def o183 (P : Params) : Obj := { cls := PySem.Value.type "getset_descriptor", data := PySem.Data.fields #[PySem.Value.str (PySem.Str.ofString "__dict__") 545, PySem.Value.ref 182, PySem.Value.builtin "function.__dict__", PySem.Value.builtin "function.__dict__#set"] }
noncomputable def o184 (P : Params) : Obj := { cls := PySem.Value.type "getset_descriptor", data := PySem.Data.fields #[PySem.Value.str (PySem.Str.ofString "__weakref__") 547, PySem.Value.ref 182, PySem.Value.builtin "ExceptionGroup.__weakref__", PySem.Value.none] }
noncomputable def o187 (P : Params) : Obj := { cls := PySem.Value.type "tuple", data := PySem.Data.seq #[PySem.Value.bool Bool.false] }
noncomputable def o188 (P : Params) : Obj := { cls := PySem.Value.type "tuple", data := PySem.Data.seq #[] }
noncomputable def o190 (P : Params) : Obj := { cls := PySem.Value.type "tuple", data := PySem.Data.seq #[PySem.Value.str (PySem.Str.ofString "w") 557, PySem.Value.str (PySem.Str.ofString "base") 558, PySem.Value.str (PySem.Str.ofString "more_than") 559, PySem.Value.str (PySem.Str.ofString "show") 560, PySem.Value.str (PySem.Str.ofString "seen") 561, PySem.Value.str (PySem.Str.ofString "need") 562, PySem.Value.str (PySem.Str.ofString "ws") 563, PySem.Value.str (PySem.Str.ofString "lo") 564, PySem.Value.str (PySem.Str.ofString "d") 565, PySem.Value.str (PySem.Str.ofString "it") 566, PySem.Value.str (PySem.Str.ofString "first") 567, PySem.Value.str (PySem.Str.ofString "this") 568, PySem.Value.str (PySem.Str.ofString "hi") 569, PySem.Value.str (PySem.Str.ofString "sq") 570] }
noncomputable def o191 (P : Params) : Obj := { cls := PySem.Value.type "tuple", data := PySem.Data.seq #[] }
noncomputable def o193 (P : Params) : Obj := { cls := PySem.Value.type "code", data := PySem.Data.fields #[PySem.Value.str (PySem.Str.ofString "compute_powers") 554, PySem.Value.str (PySem.Str.ofString "compute_powers") 555, PySem.Value.str (PySem.Str.ofString "/claim/cut.py") 556, PySem.Value.int 101 0, PySem.Value.int 4 0, PySem.Value.int 0 0, PySem.Value.int 0 0, PySem.Value.int 3 0, PySem.Value.ref 188, PySem.Value.bool Bool.true, PySem.Value.int 276 0, PySem.Value.ref 189, PySem.Value.none, PySem.Value.ref 190, PySem.Value.ref 191, PySem.Value.ref 192, PySem.Value.int 571 0, PySem.Value.int 101 0, PySem.Value.str (PySem.Str.ofString "/claim/cut.py") 572] }
noncomputable def o194 (P : Params) : Obj := match fT 9 with
  | (a, b, c) => { cls := PySem.Value.type "function", data := PySem.Data.func { name := PySem.Str.ofString "compute_powers", qualname := PySem.Str.ofString "compute_powers", params := a, body := .stmts b, scope := c, globals := 3, closure := [], defaults := PySem.Value.ref 187, kwdefaults := PySem.Value.none, pyModule := PySem.Value.str (PySem.Str.ofString "cpy313._pylong") 552, code := PySem.Value.ref 193 } }
noncomputable def o195 (P : Params) : Obj := { cls := PySem.Value.type "tuple", data := PySem.Data.seq #[] }
noncomputable def o197 (P : Params) : Obj := { cls := PySem.Value.type "tuple", data := PySem.Data.seq #[PySem.Value.str (PySem.Str.ofString "s") 577] }
noncomputable def o198 (P : Params) : Obj := { cls := PySem.Value.type "tuple", data := PySem.Data.seq #[PySem.Value.str (PySem.Str.ofString "s") 578, PySem.Value.str (PySem.Str.ofString "DIGLIM") 579, PySem.Value.str (PySem.Str.ofString "inner") 580, PySem.Value.str (PySem.Str.ofString "w5pow") 581] }
noncomputable def o200 (P : Params) : Obj := { cls := PySem.Value.type "code", data := PySem.Data.fields #[PySem.Value.str (PySem.Str.ofString "_str_to_int_inner") 574, PySem.Value.str (PySem.Str.ofString "_str_to_int_inner") 575, PySem.Value.str (PySem.Str.ofString "/claim/cut.py") 576, PySem.Value.int 142 0, PySem.Value.int 1 0, PySem.Value.int 0 0, PySem.Value.int 0 0, PySem.Value.int 3 0, PySem.Value.ref 195, PySem.Value.bool Bool.true, PySem.Value.int 276 0, PySem.Value.ref 196, PySem.Value.none, PySem.Value.ref 197, PySem.Value.ref 198, PySem.Value.ref 199, PySem.Value.int 582 0, PySem.Value.int 142 0, PySem.Value.str (PySem.Str.ofString "/claim/cut.py") 583] }
noncomputable def o201 (P : Params) : Obj := match fT 10 with
  | (a, b, c) => { cls := PySem.Value.type "function", data := PySem.Data.func { name := PySem.Str.ofString "_str_to_int_inner", qualname := PySem.Str.ofString "_str_to_int_inner", params := a, body := .stmts b, scope := c, globals := 3, closure := [], defaults := PySem.Value.none, kwdefaults := PySem.Value.none, pyModule := PySem.Value.str (PySem.Str.ofString "cpy313._pylong") 552, code := PySem.Value.ref 200 } }
noncomputable def o202 (P : Params) : Obj := { cls := PySem.Value.type "tuple", data := PySem.Data.seq #[] }
noncomputable def o204 (P : Params) : Obj := { cls := PySem.Value.type "tuple", data := PySem.Data.seq #[PySem.Value.str (PySem.Str.ofString "s") 588] }
noncomputable def o205 (P : Params) : Obj := { cls := PySem.Value.type "tuple", data := PySem.Data.seq #[] }
noncomputable def o207 (P : Params) : Obj := { cls := PySem.Value.type "code", data := PySem.Data.fields #[PySem.Value.str (PySem.Str.ofString "int_from_string") 585, PySem.Value.str (PySem.Str.ofString "int_from_string") 586, PySem.Value.str (PySem.Str.ofString "/claim/cut.py") 587, PySem.Value.int 152 0, PySem.Value.int 1 0, PySem.Value.int 0 0, PySem.Value.int 0 0, PySem.Value.int 3 0, PySem.Value.ref 202, PySem.Value.bool Bool.true, PySem.Value.int 276 0, PySem.Value.ref 203, PySem.Value.none, PySem.Value.ref 204, PySem.Value.ref 205, PySem.Value.ref 206, PySem.Value.int 589 0, PySem.Value.int 152 0, PySem.Value.str (PySem.Str.ofString "/claim/cut.py") 590] }
noncomputable def o208 (P : Params) : Obj := match fT 11 with
  | (a, b, c) => { cls := PySem.Value.type "function", data := PySem.Data.func { name := PySem.Str.ofString "int_from_string", qualname := PySem.Str.ofString "int_from_string", params := a, body := .stmts b, scope := c, globals := 3, closure := [], defaults := PySem.Value.none, kwdefaults := PySem.Value.none, pyModule := PySem.Value.str (PySem.Str.ofString "cpy313._pylong") 552, code := PySem.Value.ref 207 } }
noncomputable def o209 (P : Params) : Obj := { cls := PySem.Value.type "tuple", data := PySem.Data.seq #[] }
noncomputable def o211 (P : Params) : Obj := { cls := PySem.Value.type "tuple", data := PySem.Data.seq #[PySem.Value.str (PySem.Str.ofString "a") 597, PySem.Value.str (PySem.Str.ofString "b") 598, PySem.Value.str (PySem.Str.ofString "n") 599, PySem.Value.str (PySem.Str.ofString "pad") 600, PySem.Value.str (PySem.Str.ofString "half_n") 601, PySem.Value.str (PySem.Str.ofString "mask") 602, PySem.Value.str (PySem.Str.ofString "b1") 603, PySem.Value.str (PySem.Str.ofString "b2") 604, PySem.Value.str (PySem.Str.ofString "q1") 605, PySem.Value.str (PySem.Str.ofString "r") 606, PySem.Value.str (PySem.Str.ofString "q2") 607] }
noncomputable def o212 (P : Params) : Obj := { cls := PySem.Value.type "tuple", data := PySem.Data.seq #[] }
noncomputable def o214 (P : Params) : Obj := { cls := PySem.Value.type "code", data := PySem.Data.fields #[PySem.Value.str (PySem.Str.ofString "_div2n1n") 594, PySem.Value.str (PySem.Str.ofString "_div2n1n") 595, PySem.Value.str (PySem.Str.ofString "/claim/cut.py") 596, PySem.Value.int 156 0, PySem.Value.int 3 0, PySem.Value.int 0 0, PySem.Value.int 0 0, PySem.Value.int 3 0, PySem.Value.ref 209, PySem.Value.bool Bool.true, PySem.Value.int 276 0, PySem.Value.ref 210, PySem.Value.none, PySem.Value.ref 211, PySem.Value.ref 212, PySem.Value.ref 213, PySem.Value.int 608 0, PySem.Value.int 156 0, PySem.Value.str (PySem.Str.ofString "/claim/cut.py") 609] }
noncomputable def o215 (P : Params) : Obj := match fT 13 with
  | (a, b, c) => { cls := PySem.Value.type "function", data := PySem.Data.func { name := PySem.Str.ofString "_div2n1n", qualname := PySem.Str.ofString "_div2n1n", params := a, body := .stmts b, scope := c, globals := 3, closure := [], defaults := PySem.Value.none, kwdefaults := PySem.Value.none, pyModule := PySem.Value.str (PySem.Str.ofString "cpy313._pylong") 552, code := PySem.Value.ref 214 } }
noncomputable def o216 (P : Params) : Obj := { cls := PySem.Value.type "tuple", data := PySem.Data.seq #[] }
noncomputable def o218 (P : Params) : Obj := { cls := PySem.Value.type "tuple", data := PySem.Data.seq #[PySem.Value.str (PySem.Str.ofString "a12") 614, PySem.Value.str (PySem.Str.ofString "a3") 615, PySem.Value.str (PySem.Str.ofString "b") 616, PySem.Value.str (PySem.Str.ofString "b1") 617, PySem.Value.str (PySem.Str.ofString "b2") 618, PySem.Value.str (PySem.Str.ofString "n") 619, PySem.Value.str (PySem.Str.ofString "q") 620, PySem.Value.str (PySem.Str.ofString "r") 621] }
noncomputable def o219 (P : Params) : Obj := { cls := PySem.Value.type "tuple", data := PySem.Data.seq #[] }
noncomputable def o221 (P : Params) : Obj := { cls := PySem.Value.type "code", data := PySem.Data.fields #[PySem.Value.str (PySem.Str.ofString "_div3n2n") 611, PySem.Value.str (PySem.Str.ofString "_div3n2n") 612, PySem.Value.str (PySem.Str.ofString "/claim/cut.py") 613, PySem.Value.int 172 0, PySem.Value.int 6 0, PySem.Value.int 0 0, PySem.Value.int 0 0, PySem.Value.int 3 0, PySem.Value.ref 216, PySem.Value.bool Bool.true, PySem.Value.int 276 0, PySem.Value.ref 217, PySem.Value.none, PySem.Value.ref 218, PySem.Value.ref 219, PySem.Value.ref 220, PySem.Value.int 622 0, PySem.Value.int 172 0, PySem.Value.str (PySem.Str.ofString "/claim/cut.py") 623] }
noncomputable def o222 (P : Params) : Obj := match fT 14 with
  | (a, b, c) => { cls := PySem.Value.type "function", data := PySem.Data.func { name := PySem.Str.ofString "_div3n2n", qualname := PySem.Str.ofString "_div3n2n", params := a, body := .stmts b, scope := c, globals := 3, closure := [], defaults := PySem.Value.none, kwdefaults := PySem.Value.none, pyModule := PySem.Value.str (PySem.Str.ofString "cpy313._pylong") 552, code := PySem.Value.ref 221 } }
noncomputable def o223 (P : Params) : Obj := { cls := PySem.Value.type "tuple", data := PySem.Data.seq #[] }
noncomputable def o225 (P : Params) : Obj := { cls := PySem.Value.type "tuple", data := PySem.Data.seq #[PySem.Value.str (PySem.Str.ofString "a") 628, PySem.Value.str (PySem.Str.ofString "n") 629] }
noncomputable def o226 (P : Params) : Obj := { cls := PySem.Value.type "tuple", data := PySem.Data.seq #[PySem.Value.str (PySem.Str.ofString "n") 630, PySem.Value.str (PySem.Str.ofString "a_digits") 631, PySem.Value.str (PySem.Str.ofString "inner") 632] }
noncomputable def o228 (P : Params) : Obj := { cls := PySem.Value.type "code", data := PySem.Data.fields #[PySem.Value.str (PySem.Str.ofString "_int2digits") 625, PySem.Value.str (PySem.Str.ofString "_int2digits") 626, PySem.Value.str (PySem.Str.ofString "/claim/cut.py") 627, PySem.Value.int 182 0, PySem.Value.int 2 0, PySem.Value.int 0 0, PySem.Value.int 0 0, PySem.Value.int 3 0, PySem.Value.ref 223, PySem.Value.bool Bool.true, PySem.Value.int 276 0, PySem.Value.ref 224, PySem.Value.none, PySem.Value.ref 225, PySem.Value.ref 226, PySem.Value.ref 227, PySem.Value.int 633 0, PySem.Value.int 182 0, PySem.Value.str (PySem.Str.ofString "/claim/cut.py") 634] }
noncomputable def o229 (P : Params) : Obj := match fT 15 with
  | (a, b, c) => { cls := PySem.Value.type "function", data := PySem.Data.func { name := PySem.Str.ofString "_int2digits", qualname := PySem.Str.ofString "_int2digits", params := a, body := .stmts b, scope := c, globals := 3, closure := [], defaults := PySem.Value.none, kwdefaults := PySem.Value.none, pyModule := PySem.Value.str (PySem.Str.ofString "cpy313._pylong") 552, code := PySem.Value.ref 228 } }
noncomputable def o230 (P : Params) : Obj := { cls := PySem.Value.type "tuple", data := PySem.Data.seq #[] }
noncomputable def o232 (P : Params) : Obj := { cls := PySem.Value.type "tuple", data := PySem.Data.seq #[PySem.Value.str (PySem.Str.ofString "digits") 639, PySem.Value.str (PySem.Str.ofString "n") 640] }
noncomputable def o233 (P : Params) : Obj := { cls := PySem.Value.type "tuple", data := PySem.Data.seq #[PySem.Value.str (PySem.Str.ofString "digits") 641, PySem.Value.str (PySem.Str.ofString "n") 642, PySem.Value.str (PySem.Str.ofString "inner") 643] }
noncomputable def o235 (P : Params) : Obj := { cls := PySem.Value.type "code", data := PySem.Data.fields #[PySem.Value.str (PySem.Str.ofString "_digits2int") 636, PySem.Value.str (PySem.Str.ofString "_digits2int") 637, PySem.Value.str (PySem.Str.ofString "/claim/cut.py") 638, PySem.Value.int 198 0, PySem.Value.int 2 0, PySem.Value.int 0 0, PySem.Value.int 0 0, PySem.Value.int 3 0, PySem.Value.ref 230, PySem.Value.bool Bool.true, PySem.Value.int 276 0, PySem.Value.ref 231, PySem.Value.none, PySem.Value.ref 232, PySem.Value.ref 233, PySem.Value.ref 234, PySem.Value.int 644 0, PySem.Value.int 198 0, PySem.Value.str (PySem.Str.ofString "/claim/cut.py") 645] }
noncomputable def o236 (P : Params) : Obj := match fT 16 with
  | (a, b, c) => { cls := PySem.Value.type "function", data := PySem.Data.func { name := PySem.Str.ofString "_digits2int", qualname := PySem.Str.ofString "_digits2int", params := a, body := .stmts b, scope := c, globals := 3, closure := [], defaults := PySem.Value.none, kwdefaults := PySem.Value.none, pyModule := PySem.Value.str (PySem.Str.ofString "cpy313._pylong") 552, code := PySem.Value.ref 235 } }
noncomputable def o237 (P : Params) : Obj := { cls := PySem.Value.type "tuple", data := PySem.Data.seq #[] }
noncomputable def o239 (P : Params) : Obj := { cls := PySem.Value.type "tuple", data := PySem.Data.seq #[PySem.Value.str (PySem.Str.ofString "a") 650, PySem.Value.str (PySem.Str.ofString "b") 651, PySem.Value.str (PySem.Str.ofString "n") 652, PySem.Value.str (PySem.Str.ofString "a_digits") 653, PySem.Value.str (PySem.Str.ofString "r") 654, PySem.Value.str (PySem.Str.ofString "q_digits") 655, PySem.Value.str (PySem.Str.ofString "a_digit") 656, PySem.Value.str (PySem.Str.ofString "q_digit") 657, PySem.Value.str (PySem.Str.ofString "q") 658] }
noncomputable def o240 (P : Params) : Obj := { cls := PySem.Value.type "tuple", data := PySem.Data.seq #[] }
noncomputable def o242 (P : Params) : Obj := { cls := PySem.Value.type "code", data := PySem.Data.fields #[PySem.Value.str (PySem.Str.ofString "_divmod_pos") 647, PySem.Value.str (PySem.Str.ofString "_divmod_pos") 648, PySem.Value.str (PySem.Str.ofString "/claim/cut.py") 649, PySem.Value.int 207 0, PySem.Value.int 2 0, PySem.Value.int 0 0, PySem.Value.int 0 0, PySem.Value.int 3 0, PySem.Value.ref 237, PySem.Value.bool Bool.true, PySem.Value.int 276 0, PySem.Value.ref 238, PySem.Value.none, PySem.Value.ref 239, PySem.Value.ref 240, PySem.Value.ref 241, PySem.Value.int 659 0, PySem.Value.int 207 0, PySem.Value.str (PySem.Str.ofString "/claim/cut.py") 660] }
noncomputable def o243 (P : Params) : Obj := match fT 17 with
  | (a, b, c) => { cls := PySem.Value.type "function", data := PySem.Data.func { name := PySem.Str.ofString "_divmod_pos", qualname := PySem.Str.ofString "_divmod_pos", params := a, body := .stmts b, scope := c, globals := 3, closure := [], defaults := PySem.Value.none, kwdefaults := PySem.Value.none, pyModule := PySem.Value.str (PySem.Str.ofString "cpy313._pylong") 552, code := PySem.Value.ref 242 } }
noncomputable def o244 (P : Params) : Obj := { cls := PySem.Value.type "tuple", data := PySem.Data.seq #[] }
noncomputable def o246 (P : Params) : Obj := { cls := PySem.Value.type "tuple", data := PySem.Data.seq #[PySem.Value.str (PySem.Str.ofString "a") 665, PySem.Value.str (PySem.Str.ofString "b") 666, PySem.Value.str (PySem.Str.ofString "q") 667, PySem.Value.str (PySem.Str.ofString "r") 668] }
noncomputable def o247 (P : Params) : Obj := { cls := PySem.Value.type "tuple", data := PySem.Data.seq #[] }
noncomputable def o249 (P : Params) : Obj := { cls := PySem.Value.type "code", data := PySem.Data.fields #[PySem.Value.str (PySem.Str.ofString "int_divmod") 662, PySem.Value.str (PySem.Str.ofString "int_divmod") 663, PySem.Value.str (PySem.Str.ofString "/claim/cut.py") 664, PySem.Value.int 218 0, PySem.Value.int 2 0, PySem.Value.int 0 0, PySem.Value.int 0 0, PySem.Value.int 3 0, PySem.Value.ref 244, PySem.Value.bool Bool.true, PySem.Value.int 276 0, PySem.Value.ref 245, PySem.Value.none, PySem.Value.ref 246, PySem.Value.ref 247, PySem.Value.ref 248, PySem.Value.int 669 0, PySem.Value.int 218 0, PySem.Value.str (PySem.Str.ofString "/claim/cut.py") 670] }
noncomputable def o250 (P : Params) : Obj := match fT 18 with
  | (a, b, c) => { cls := PySem.Value.type "function", data := PySem.Data.func { name := PySem.Str.ofString "int_divmod", qualname := PySem.Str.ofString "int_divmod", params := a, body := .stmts b, scope := c, globals := 3, closure := [], defaults := PySem.Value.none, kwdefaults := PySem.Value.none, pyModule := PySem.Value.str (PySem.Str.ofString "cpy313._pylong") 552, code := PySem.Value.ref 249 } }
noncomputable def o251 (P : Params) : Obj := { cls := PySem.Value.type "tuple", data := PySem.Data.seq #[] }
noncomputable def o253 (P : Params) : Obj := { cls := PySem.Value.type "tuple", data := PySem.Data.seq #[PySem.Value.str (PySem.Str.ofString "target") 677, PySem.Value.str (PySem.Str.ofString "source") 678, PySem.Value.str (PySem.Str.ofString "new_callers") 679, PySem.Value.str (PySem.Str.ofString "func") 680, PySem.Value.str (PySem.Str.ofString "caller") 681] }
noncomputable def o254 (P : Params) : Obj := { cls := PySem.Value.type "tuple", data := PySem.Data.seq #[] }
noncomputable def o256 (P : Params) : Obj := { cls := PySem.Value.type "code", data := PySem.Data.fields #[PySem.Value.str (PySem.Str.ofString "add_callers") 674, PySem.Value.str (PySem.Str.ofString "add_callers") 675, PySem.Value.str (PySem.Str.ofString "/claim/cut.py") 676, PySem.Value.int 230 0, PySem.Value.int 2 0, PySem.Value.int 0 0, PySem.Value.int 0 0, PySem.Value.int 3 0, PySem.Value.ref 251, PySem.Value.bool Bool.true, PySem.Value.int 276 0, PySem.Value.ref 252, PySem.Value.none, PySem.Value.ref 253, PySem.Value.ref 254, PySem.Value.ref 255, PySem.Value.int 682 0, PySem.Value.int 230 0, PySem.Value.str (PySem.Str.ofString "/claim/cut.py") 683] }
noncomputable def o257 (P : Params) : Obj := match fT 20 with
  | (a, b, c) => { cls := PySem.Value.type "function", data := PySem.Data.func { name := PySem.Str.ofString "add_callers", qualname := PySem.Str.ofString "add_callers", params := a, body := .stmts b, scope := c, globals := 3, closure := [], defaults := PySem.Value.none, kwdefaults := PySem.Value.none, pyModule := PySem.Value.str (PySem.Str.ofString "cpy313.pstats") 672, code := PySem.Value.ref 256 } }
noncomputable def o258 (P : Params) : Obj := { cls := PySem.Value.type "tuple", data := PySem.Data.seq #[] }
noncomputable def o260 (P : Params) : Obj := { cls := PySem.Value.type "tuple", data := PySem.Data.seq #[PySem.Value.str (PySem.Str.ofString "callers") 688, PySem.Value.str (PySem.Str.ofString "nc") 689, PySem.Value.str (PySem.Str.ofString "calls") 690] }
noncomputable def o261 (P : Params) : Obj := { cls := PySem.Value.type "tuple", data := PySem.Data.seq #[] }
noncomputable def o263 (P : Params) : Obj := { cls := PySem.Value.type "code", data := PySem.Data.fields #[PySem.Value.str (PySem.Str.ofString "count_calls") 685, PySem.Value.str (PySem.Str.ofString "count_calls") 686, PySem.Value.str (PySem.Str.ofString "/claim/cut.py") 687, PySem.Value.int 243 0, PySem.Value.int 1 0, PySem.Value.int 0 0, PySem.Value.int 0 0, PySem.Value.int 3 0, PySem.Value.ref 258, PySem.Value.bool Bool.true, PySem.Value.int 276 0, PySem.Value.ref 259, PySem.Value.none, PySem.Value.ref 260, PySem.Value.ref 261, PySem.Value.ref 262, PySem.Value.int 691 0, PySem.Value.int 243 0, PySem.Value.str (PySem.Str.ofString "/claim/cut.py") 692] }
noncomputable def o264 (P : Params) : Obj := match fT 21 with
  | (a, b, c) => { cls := PySem.Value.type "function", data := PySem.Data.func { name := PySem.Str.ofString "count_calls", qualname := PySem.Str.ofString "count_calls", params := a, body := .stmts b, scope := c, globals := 3, closure := [], defaults := PySem.Value.none, kwdefaults := PySem.Value.none, pyModule := PySem.Value.str (PySem.Str.ofString "cpy313.pstats") 672, code := PySem.Value.ref 263 } }
noncomputable def o265 (P : Params) : Obj := { cls := PySem.Value.type "tuple", data := PySem.Data.seq #[] }
noncomputable def o268 (P : Params) : Obj := { cls := PySem.Value.type "code", data := PySem.Data.fields #[PySem.Value.str (PySem.Str.ofString "_law_numbers") 696, PySem.Value.str (PySem.Str.ofString "_law_numbers") 697, PySem.Value.str (PySem.Str.ofString "/claim/cut.py") 698, PySem.Value.int 249 0, PySem.Value.int 1 0, PySem.Value.int 0 0, PySem.Value.int 0 0, PySem.Value.int 3 0, PySem.Value.ref 265, PySem.Value.bool Bool.true, PySem.Value.int 276 0, PySem.Value.ref 266, PySem.Value.none, PySem.Value.none, PySem.Value.none, PySem.Value.ref 267, PySem.Value.int 699 0, PySem.Value.int 249 0, PySem.Value.str (PySem.Str.ofString "/claim/cut.py") 700] }
noncomputable def o269 (P : Params) : Obj := match fT 23 with
  | (a, b, c) => { cls := PySem.Value.type "function", data := PySem.Data.func { name := PySem.Str.ofString "_law_numbers", qualname := PySem.Str.ofString "_law_numbers", params := a, body := .stmts b, scope := c, globals := 3, closure := [], defaults := PySem.Value.none, kwdefaults := PySem.Value.none, pyModule := PySem.Value.str (PySem.Str.ofString "law_pm0082_01") 694, code := PySem.Value.ref 268 } }
noncomputable def o270 (P : Params) : Obj := { cls := PySem.Value.type "tuple", data := PySem.Data.seq #[] }
noncomputable def o272 (P : Params) : Obj := { cls := PySem.Value.type "tuple", data := PySem.Data.seq #[PySem.Value.str (PySem.Str.ofString "callee") 705, PySem.Value.str (PySem.Str.ofString "weight") 706] }
noncomputable def o273 (P : Params) : Obj := { cls := PySem.Value.type "tuple", data := PySem.Data.seq #[] }
noncomputable def o275 (P : Params) : Obj := { cls := PySem.Value.type "code", data := PySem.Data.fields #[PySem.Value.str (PySem.Str.ofString "_law_text") 702, PySem.Value.str (PySem.Str.ofString "_law_text") 703, PySem.Value.str (PySem.Str.ofString "/claim/cut.py") 704, PySem.Value.int 254 0, PySem.Value.int 2 0, PySem.Value.int 0 0, PySem.Value.int 0 0, PySem.Value.int 3 0, PySem.Value.ref 270, PySem.Value.bool Bool.true, PySem.Value.int 276 0, PySem.Value.ref 271, PySem.Value.none, PySem.Value.ref 272, PySem.Value.ref 273, PySem.Value.ref 274, PySem.Value.int 707 0, PySem.Value.int 254 0, PySem.Value.str (PySem.Str.ofString "/claim/cut.py") 708] }
noncomputable def o276 (P : Params) : Obj := match fT 24 with
  | (a, b, c) => { cls := PySem.Value.type "function", data := PySem.Data.func { name := PySem.Str.ofString "_law_text", qualname := PySem.Str.ofString "_law_text", params := a, body := .stmts b, scope := c, globals := 3, closure := [], defaults := PySem.Value.none, kwdefaults := PySem.Value.none, pyModule := PySem.Value.str (PySem.Str.ofString "law_pm0082_01") 694, code := PySem.Value.ref 275 } }
noncomputable def o277 (P : Params) : Obj := { cls := PySem.Value.type "tuple", data := PySem.Data.seq #[] }
noncomputable def o279 (P : Params) : Obj := { cls := PySem.Value.type "tuple", data := PySem.Data.seq #[PySem.Value.str (PySem.Str.ofString "numbers") 713, PySem.Value.str (PySem.Str.ofString "table") 714, PySem.Value.str (PySem.Str.ofString "k") 715, PySem.Value.str (PySem.Str.ofString "weight") 716, PySem.Value.str (PySem.Str.ofString "callee") 717] }
noncomputable def o280 (P : Params) : Obj := { cls := PySem.Value.type "tuple", data := PySem.Data.seq #[] }
noncomputable def o282 (P : Params) : Obj := { cls := PySem.Value.type "code", data := PySem.Data.fields #[PySem.Value.str (PySem.Str.ofString "_law_table") 710, PySem.Value.str (PySem.Str.ofString "_law_table") 711, PySem.Value.str (PySem.Str.ofString "/claim/cut.py") 712, PySem.Value.int 256 0, PySem.Value.int 1 0, PySem.Value.int 0 0, PySem.Value.int 0 0, PySem.Value.int 3 0, PySem.Value.ref 277, PySem.Value.bool Bool.true, PySem.Value.int 276 0, PySem.Value.ref 278, PySem.Value.none, PySem.Value.ref 279, PySem.Value.ref 280, PySem.Value.ref 281, PySem.Value.int 718 0, PySem.Value.int 256 0, PySem.Value.str (PySem.Str.ofString "/claim/cut.py") 719] }
noncomputable def o283 (P : Params) : Obj := match fT 25 with
  | (a, b, c) => { cls := PySem.Value.type "function", data := PySem.Data.func { name := PySem.Str.ofString "_law_table", qualname := PySem.Str.ofString "_law_table", params := a, body := .stmts b, scope := c, globals := 3, closure := [], defaults := PySem.Value.none, kwdefaults := PySem.Value.none, pyModule := PySem.Value.str (PySem.Str.ofString "law_pm0082_01") 694, code := PySem.Value.ref 282 } }
noncomputable def o284 (P : Params) : Obj := { cls := PySem.Value.type "tuple", data := PySem.Data.seq #[] }
noncomputable def o286 (P : Params) : Obj := { cls := PySem.Value.type "tuple", data := PySem.Data.seq #[PySem.Value.str (PySem.Str.ofString "table") 724, PySem.Value.str (PySem.Str.ofString "place") 725, PySem.Value.str (PySem.Str.ofString "calls") 726, PySem.Value.str (PySem.Str.ofString "text") 727, PySem.Value.str (PySem.Str.ofString "weight") 728] }
noncomputable def o287 (P : Params) : Obj := { cls := PySem.Value.type "tuple", data := PySem.Data.seq #[] }
noncomputable def o289 (P : Params) : Obj := { cls := PySem.Value.type "code", data := PySem.Data.fields #[PySem.Value.str (PySem.Str.ofString "_law_calls") 721, PySem.Value.str (PySem.Str.ofString "_law_calls") 722, PySem.Value.str (PySem.Str.ofString "/claim/cut.py") 723, PySem.Value.int 262 0, PySem.Value.int 2 0, PySem.Value.int 0 0, PySem.Value.int 0 0, PySem.Value.int 3 0, PySem.Value.ref 284, PySem.Value.bool Bool.true, PySem.Value.int 276 0, PySem.Value.ref 285, PySem.Value.none, PySem.Value.ref 286, PySem.Value.ref 287, PySem.Value.ref 288, PySem.Value.int 729 0, PySem.Value.int 262 0, PySem.Value.str (PySem.Str.ofString "/claim/cut.py") 730] }
noncomputable def o290 (P : Params) : Obj := match fT 26 with
  | (a, b, c) => { cls := PySem.Value.type "function", data := PySem.Data.func { name := PySem.Str.ofString "_law_calls", qualname := PySem.Str.ofString "_law_calls", params := a, body := .stmts b, scope := c, globals := 3, closure := [], defaults := PySem.Value.none, kwdefaults := PySem.Value.none, pyModule := PySem.Value.str (PySem.Str.ofString "law_pm0082_01") 694, code := PySem.Value.ref 289 } }
noncomputable def o291 (P : Params) : Obj := { cls := PySem.Value.type "tuple", data := PySem.Data.seq #[] }
noncomputable def o294 (P : Params) : Obj := { cls := PySem.Value.type "code", data := PySem.Data.fields #[PySem.Value.str (PySem.Str.ofString "_law_gone") 732, PySem.Value.str (PySem.Str.ofString "_law_gone") 733, PySem.Value.str (PySem.Str.ofString "/claim/cut.py") 734, PySem.Value.int 268 0, PySem.Value.int 2 0, PySem.Value.int 0 0, PySem.Value.int 0 0, PySem.Value.int 3 0, PySem.Value.ref 291, PySem.Value.bool Bool.true, PySem.Value.int 276 0, PySem.Value.ref 292, PySem.Value.none, PySem.Value.none, PySem.Value.none, PySem.Value.ref 293, PySem.Value.int 735 0, PySem.Value.int 268 0, PySem.Value.str (PySem.Str.ofString "/claim/cut.py") 736] }
noncomputable def o295 (P : Params) : Obj := match fT 27 with
  | (a, b, c) => { cls := PySem.Value.type "function", data := PySem.Data.func { name := PySem.Str.ofString "_law_gone", qualname := PySem.Str.ofString "_law_gone", params := a, body := .stmts b, scope := c, globals := 3, closure := [], defaults := PySem.Value.none, kwdefaults := PySem.Value.none, pyModule := PySem.Value.str (PySem.Str.ofString "law_pm0082_01") 694, code := PySem.Value.ref 294 } }
noncomputable def o296 (P : Params) : Obj := { cls := PySem.Value.type "tuple", data := PySem.Data.seq #[] }
noncomputable def o299 (P : Params) : Obj := { cls := PySem.Value.type "code", data := PySem.Data.fields #[PySem.Value.str (PySem.Str.ofString "_law_divided") 738, PySem.Value.str (PySem.Str.ofString "_law_divided") 739, PySem.Value.str (PySem.Str.ofString "/claim/cut.py") 740, PySem.Value.int 287 0, PySem.Value.int 3 0, PySem.Value.int 0 0, PySem.Value.int 0 0, PySem.Value.int 3 0, PySem.Value.ref 296, PySem.Value.bool Bool.true, PySem.Value.int 276 0, PySem.Value.ref 297, PySem.Value.none, PySem.Value.none, PySem.Value.none, PySem.Value.ref 298, PySem.Value.int 741 0, PySem.Value.int 287 0, PySem.Value.str (PySem.Str.ofString "/claim/cut.py") 742] }
noncomputable def o300 (P : Params) : Obj := match fT 28 with
  | (a, b, c) => { cls := PySem.Value.type "function", data := PySem.Data.func { name := PySem.Str.ofString "_law_divided", qualname := PySem.Str.ofString "_law_divided", params := a, body := .stmts b, scope := c, globals := 3, closure := [], defaults := PySem.Value.none, kwdefaults := PySem.Value.none, pyModule := PySem.Value.str (PySem.Str.ofString "law_pm0082_01") 694, code := PySem.Value.ref 299 } }
noncomputable def o301 (P : Params) : Obj := { cls := PySem.Value.type "tuple", data := PySem.Data.seq #[] }
noncomputable def o303 (P : Params) : Obj := { cls := PySem.Value.type "tuple", data := PySem.Data.seq #[PySem.Value.str (PySem.Str.ofString "leads") 747, PySem.Value.str (PySem.Str.ofString "here") 748, PySem.Value.str (PySem.Str.ofString "turn") 749] }
noncomputable def o304 (P : Params) : Obj := { cls := PySem.Value.type "tuple", data := PySem.Data.seq #[] }
noncomputable def o306 (P : Params) : Obj := { cls := PySem.Value.type "code", data := PySem.Data.fields #[PySem.Value.str (PySem.Str.ofString "_law_end") 744, PySem.Value.str (PySem.Str.ofString "_law_end") 745, PySem.Value.str (PySem.Str.ofString "/claim/cut.py") 746, PySem.Value.int 297 0, PySem.Value.int 2 0, PySem.Value.int 0 0, PySem.Value.int 0 0, PySem.Value.int 3 0, PySem.Value.ref 301, PySem.Value.bool Bool.true, PySem.Value.int 276 0, PySem.Value.ref 302, PySem.Value.none, PySem.Value.ref 303, PySem.Value.ref 304, PySem.Value.ref 305, PySem.Value.int 750 0, PySem.Value.int 297 0, PySem.Value.str (PySem.Str.ofString "/claim/cut.py") 751] }
noncomputable def o307 (P : Params) : Obj := match fT 29 with
  | (a, b, c) => { cls := PySem.Value.type "function", data := PySem.Data.func { name := PySem.Str.ofString "_law_end", qualname := PySem.Str.ofString "_law_end", params := a, body := .stmts b, scope := c, globals := 3, closure := [], defaults := PySem.Value.none, kwdefaults := PySem.Value.none, pyModule := PySem.Value.str (PySem.Str.ofString "law_pm0082_01") 694, code := PySem.Value.ref 306 } }
noncomputable def o308 (P : Params) : Obj := { cls := PySem.Value.type "tuple", data := PySem.Data.seq #[] }
noncomputable def o311 (P : Params) : Obj := { cls := PySem.Value.type "code", data := PySem.Data.fields #[PySem.Value.str (PySem.Str.ofString "_law_forests") 753, PySem.Value.str (PySem.Str.ofString "_law_forests") 754, PySem.Value.str (PySem.Str.ofString "/claim/cut.py") 755, PySem.Value.int 303 0, PySem.Value.int 4 0, PySem.Value.int 0 0, PySem.Value.int 0 0, PySem.Value.int 3 0, PySem.Value.ref 308, PySem.Value.bool Bool.true, PySem.Value.int 276 0, PySem.Value.ref 309, PySem.Value.none, PySem.Value.none, PySem.Value.none, PySem.Value.ref 310, PySem.Value.int 756 0, PySem.Value.int 303 0, PySem.Value.str (PySem.Str.ofString "/claim/cut.py") 757] }
noncomputable def o312 (P : Params) : Obj := match fT 30 with
  | (a, b, c) => { cls := PySem.Value.type "function", data := PySem.Data.func { name := PySem.Str.ofString "_law_forests", qualname := PySem.Str.ofString "_law_forests", params := a, body := .stmts b, scope := c, globals := 3, closure := [], defaults := PySem.Value.none, kwdefaults := PySem.Value.none, pyModule := PySem.Value.str (PySem.Str.ofString "law_pm0082_01") 694, code := PySem.Value.ref 311 } }
noncomputable def o313 (P : Params) : Obj := { cls := PySem.Value.type "tuple", data := PySem.Data.seq #[] }
noncomputable def o316 (P : Params) : Obj := { cls := PySem.Value.type "code", data := PySem.Data.fields #[PySem.Value.str (PySem.Str.ofString "law") 759, PySem.Value.str (PySem.Str.ofString "law") 760, PySem.Value.str (PySem.Str.ofString "/claim/cut.py") 761, PySem.Value.int 311 0, PySem.Value.int 1 0, PySem.Value.int 0 0, PySem.Value.int 0 0, PySem.Value.int 3 0, PySem.Value.ref 313, PySem.Value.bool Bool.true, PySem.Value.int 276 0, PySem.Value.ref 314, PySem.Value.none, PySem.Value.none, PySem.Value.none, PySem.Value.ref 315, PySem.Value.int 762 0, PySem.Value.int 311 0, PySem.Value.str (PySem.Str.ofString "/claim/cut.py") 763] }
noncomputable def o317 (P : Params) : Obj := match fT 31 with
  | (a, b, c) => { cls := PySem.Value.type "function", data := PySem.Data.func { name := PySem.Str.ofString "law", qualname := PySem.Str.ofString "law", params := a, body := .stmts b, scope := c, globals := 3, closure := [], defaults := PySem.Value.none, kwdefaults := PySem.Value.none, pyModule := PySem.Value.str (PySem.Str.ofString "law_pm0082_01") 694, code := PySem.Value.ref 316 } }
noncomputable def kads : List Addr := nat_lit 2 :: nat_lit 3 :: nat_lit 32 :: nat_lit 34 :: nat_lit 35 :: nat_lit 37 :: nat_lit 38 :: nat_lit 42 :: nat_lit 43 :: nat_lit 47 :: nat_lit 48 :: nat_lit 52 :: nat_lit 53 :: nat_lit 54 :: nat_lit 55 :: nat_lit 57 :: nat_lit 58 :: nat_lit 60 :: nat_lit 61 :: nat_lit 69 :: nat_lit 70 :: nat_lit 72 :: nat_lit 73 :: nat_lit 75 :: nat_lit 76 :: nat_lit 77 :: nat_lit 79 :: nat_lit 80 :: nat_lit 82 :: nat_lit 83 :: nat_lit 84 :: nat_lit 86 :: nat_lit 87 :: nat_lit 89 :: nat_lit 90 :: nat_lit 91 :: nat_lit 93 :: nat_lit 94 :: nat_lit 96 :: nat_lit 97 :: nat_lit 98 :: nat_lit 101 :: nat_lit 102 :: nat_lit 103 :: nat_lit 105 :: nat_lit 106 :: nat_lit 108 :: nat_lit 109 :: nat_lit 110 :: nat_lit 112 :: nat_lit 113 :: nat_lit 115 :: nat_lit 116 :: nat_lit 117 :: nat_lit 120 :: nat_lit 121 :: nat_lit 122 :: nat_lit 123 :: nat_lit 125 :: nat_lit 126 :: nat_lit 128 :: nat_lit 129 :: nat_lit 130 :: nat_lit 133 :: nat_lit 134 :: nat_lit 135 :: nat_lit 138 :: nat_lit 139 :: nat_lit 140 :: nat_lit 142 :: nat_lit 143 :: nat_lit 145 :: nat_lit 146 :: nat_lit 147 :: nat_lit 149 :: nat_lit 150 :: nat_lit 152 :: nat_lit 153 :: nat_lit 154 :: nat_lit 157 :: nat_lit 158 :: nat_lit 159 :: nat_lit 161 :: nat_lit 162 :: nat_lit 164 :: nat_lit 165 :: nat_lit 166 :: nat_lit 168 :: nat_lit 169 :: nat_lit 171 :: nat_lit 172 :: nat_lit 173 :: nat_lit 175 :: nat_lit 176 :: nat_lit 178 :: nat_lit 179 :: nat_lit 180 :: nat_lit 181 :: nat_lit 182 :: nat_lit 183 :: nat_lit 184 :: nat_lit 187 :: nat_lit 188 :: nat_lit 190 :: nat_lit 191 :: nat_lit 193 :: nat_lit 194 :: nat_lit 195 :: nat_lit 197 :: nat_lit 198 :: nat_lit 200 :: nat_lit 201 :: nat_lit 202 :: nat_lit 204 :: nat_lit 205 :: nat_lit 207 :: nat_lit 208 :: nat_lit 209 :: nat_lit 211 :: nat_lit 212 :: nat_lit 214 :: nat_lit 215 :: nat_lit 216 :: nat_lit 218 :: nat_lit 219 :: nat_lit 221 :: nat_lit 222 :: nat_lit 223 :: nat_lit 225 :: nat_lit 226 :: nat_lit 228 :: nat_lit 229 :: nat_lit 230 :: nat_lit 232 :: nat_lit 233 :: nat_lit 235 :: nat_lit 236 :: nat_lit 237 :: nat_lit 239 :: nat_lit 240 :: nat_lit 242 :: nat_lit 243 :: nat_lit 244 :: nat_lit 246 :: nat_lit 247 :: nat_lit 249 :: nat_lit 250 :: nat_lit 251 :: nat_lit 253 :: nat_lit 254 :: nat_lit 256 :: nat_lit 257 :: nat_lit 258 :: nat_lit 260 :: nat_lit 261 :: nat_lit 263 :: nat_lit 264 :: nat_lit 265 :: nat_lit 268 :: nat_lit 269 :: nat_lit 270 :: nat_lit 272 :: nat_lit 273 :: nat_lit 275 :: nat_lit 276 :: nat_lit 277 :: nat_lit 279 :: nat_lit 280 :: nat_lit 282 :: nat_lit 283 :: nat_lit 284 :: nat_lit 286 :: nat_lit 287 :: nat_lit 289 :: nat_lit 290 :: nat_lit 291 :: nat_lit 294 :: nat_lit 295 :: nat_lit 296 :: nat_lit 299 :: nat_lit 300 :: nat_lit 301 :: nat_lit 303 :: nat_lit 304 :: nat_lit 306 :: nat_lit 307 :: nat_lit 308 :: nat_lit 311 :: nat_lit 312 :: nat_lit 313 :: nat_lit 316 :: nat_lit 317 :: []
noncomputable def K (P : Params) : Frag := (nat_lit 2, o2 P) :: (nat_lit 3, o3 P) :: (nat_lit 32, o32 P) :: (nat_lit 34, o34 P) :: (nat_lit 35, o35 P) :: (nat_lit 37, o37 P) :: (nat_lit 38, o38 P) :: (nat_lit 42, o42 P) :: (nat_lit 43, o43 P) :: (nat_lit 47, o47 P) :: (nat_lit 48, o48 P) :: (nat_lit 52, o52 P) :: (nat_lit 53, o53 P) :: (nat_lit 54, o54 P) :: (nat_lit 55, o55 P) :: (nat_lit 57, o57 P) :: (nat_lit 58, o58 P) :: (nat_lit 60, o60 P) :: (nat_lit 61, o61 P) :: (nat_lit 69, o69 P) :: (nat_lit 70, o70 P) :: (nat_lit 72, o72 P) :: (nat_lit 73, o73 P) :: (nat_lit 75, o75 P) :: (nat_lit 76, o76 P) :: (nat_lit 77, o77 P) :: (nat_lit 79, o79 P) :: (nat_lit 80, o80 P) :: (nat_lit 82, o82 P) :: (nat_lit 83, o83 P) :: (nat_lit 84, o84 P) :: (nat_lit 86, o86 P) :: (nat_lit 87, o87 P) :: (nat_lit 89, o89 P) :: (nat_lit 90, o90 P) :: (nat_lit 91, o91 P) :: (nat_lit 93, o93 P) :: (nat_lit 94, o94 P) :: (nat_lit 96, o96 P) :: (nat_lit 97, o97 P) :: (nat_lit 98, o98 P) :: (nat_lit 101, o101 P) :: (nat_lit 102, o102 P) :: (nat_lit 103, o103 P) :: (nat_lit 105, o105 P) :: (nat_lit 106, o106 P) :: (nat_lit 108, o108 P) :: (nat_lit 109, o109 P) :: (nat_lit 110, o110 P) :: (nat_lit 112, o112 P) :: (nat_lit 113, o113 P) :: (nat_lit 115, o115 P) :: (nat_lit 116, o116 P) :: (nat_lit 117, o117 P) :: (nat_lit 120, o120 P) :: (nat_lit 121, o121 P) :: (nat_lit 122, o122 P) :: (nat_lit 123, o123 P) :: (nat_lit 125, o125 P) :: (nat_lit 126, o126 P) :: (nat_lit 128, o128 P) :: (nat_lit 129, o129 P) :: (nat_lit 130, o130 P) :: (nat_lit 133, o133 P) :: (nat_lit 134, o134 P) :: (nat_lit 135, o135 P) :: (nat_lit 138, o138 P) :: (nat_lit 139, o139 P) :: (nat_lit 140, o140 P) :: (nat_lit 142, o142 P) :: (nat_lit 143, o143 P) :: (nat_lit 145, o145 P) :: (nat_lit 146, o146 P) :: (nat_lit 147, o147 P) :: (nat_lit 149, o149 P) :: (nat_lit 150, o150 P) :: (nat_lit 152, o152 P) :: (nat_lit 153, o153 P) :: (nat_lit 154, o154 P) :: (nat_lit 157, o157 P) :: (nat_lit 158, o158 P) :: (nat_lit 159, o159 P) :: (nat_lit 161, o161 P) :: (nat_lit 162, o162 P) :: (nat_lit 164, o164 P) :: (nat_lit 165, o165 P) :: (nat_lit 166, o166 P) :: (nat_lit 168, o168 P) :: (nat_lit 169, o169 P) :: (nat_lit 171, o171 P) :: (nat_lit 172, o172 P) :: (nat_lit 173, o173 P) :: (nat_lit 175, o175 P) :: (nat_lit 176, o176 P) :: (nat_lit 178, o178 P) :: (nat_lit 179, o179 P) :: (nat_lit 180, o180 P) :: (nat_lit 181, o181 P) :: (nat_lit 182, o182 P) :: (nat_lit 183, o183 P) :: (nat_lit 184, o184 P) :: (nat_lit 187, o187 P) :: (nat_lit 188, o188 P) :: (nat_lit 190, o190 P) :: (nat_lit 191, o191 P) :: (nat_lit 193, o193 P) :: (nat_lit 194, o194 P) :: (nat_lit 195, o195 P) :: (nat_lit 197, o197 P) :: (nat_lit 198, o198 P) :: (nat_lit 200, o200 P) :: (nat_lit 201, o201 P) :: (nat_lit 202, o202 P) :: (nat_lit 204, o204 P) :: (nat_lit 205, o205 P) :: (nat_lit 207, o207 P) :: (nat_lit 208, o208 P) :: (nat_lit 209, o209 P) :: (nat_lit 211, o211 P) :: (nat_lit 212, o212 P) :: (nat_lit 214, o214 P) :: (nat_lit 215, o215 P) :: (nat_lit 216, o216 P) :: (nat_lit 218, o218 P) :: (nat_lit 219, o219 P) :: (nat_lit 221, o221 P) :: (nat_lit 222, o222 P) :: (nat_lit 223, o223 P) :: (nat_lit 225, o225 P) :: (nat_lit 226, o226 P) :: (nat_lit 228, o228 P) :: (nat_lit 229, o229 P) :: (nat_lit 230, o230 P) :: (nat_lit 232, o232 P) :: (nat_lit 233, o233 P) :: (nat_lit 235, o235 P) :: (nat_lit 236, o236 P) :: (nat_lit 237, o237 P) :: (nat_lit 239, o239 P) :: (nat_lit 240, o240 P) :: (nat_lit 242, o242 P) :: (nat_lit 243, o243 P) :: (nat_lit 244, o244 P) :: (nat_lit 246, o246 P) :: (nat_lit 247, o247 P) :: (nat_lit 249, o249 P) :: (nat_lit 250, o250 P) :: (nat_lit 251, o251 P) :: (nat_lit 253, o253 P) :: (nat_lit 254, o254 P) :: (nat_lit 256, o256 P) :: (nat_lit 257, o257 P) :: (nat_lit 258, o258 P) :: (nat_lit 260, o260 P) :: (nat_lit 261, o261 P) :: (nat_lit 263, o263 P) :: (nat_lit 264, o264 P) :: (nat_lit 265, o265 P) :: (nat_lit 268, o268 P) :: (nat_lit 269, o269 P) :: (nat_lit 270, o270 P) :: (nat_lit 272, o272 P) :: (nat_lit 273, o273 P) :: (nat_lit 275, o275 P) :: (nat_lit 276, o276 P) :: (nat_lit 277, o277 P) :: (nat_lit 279, o279 P) :: (nat_lit 280, o280 P) :: (nat_lit 282, o282 P) :: (nat_lit 283, o283 P) :: (nat_lit 284, o284 P) :: (nat_lit 286, o286 P) :: (nat_lit 287, o287 P) :: (nat_lit 289, o289 P) :: (nat_lit 290, o290 P) :: (nat_lit 291, o291 P) :: (nat_lit 294, o294 P) :: (nat_lit 295, o295 P) :: (nat_lit 296, o296 P) :: (nat_lit 299, o299 P) :: (nat_lit 300, o300 P) :: (nat_lit 301, o301 P) :: (nat_lit 303, o303 P) :: (nat_lit 304, o304 P) :: (nat_lit 306, o306 P) :: (nat_lit 307, o307 P) :: (nat_lit 308, o308 P) :: (nat_lit 311, o311 P) :: (nat_lit 312, o312 P) :: (nat_lit 313, o313 P) :: (nat_lit 316, o316 P) :: (nat_lit 317, o317 P) :: []
noncomputable def kq : Program := view pw_pm0082_01 [31]
noncomputable def kloose : List Str := ["_sre", "_wall", "__name__", "tspecials", "_name_disallowed_re", "_value_disallowed_re", "_formatparam", "Headers", "compute_powers", "_str_to_int_inner", "int_from_string", "_DIV_LIMIT", "_div2n1n", "_div3n2n", "_int2digits", "_digits2int", "_divmod_pos", "int_divmod", "add_callers", "count_calls", "_law_numbers", "_law_text", "_law_table", "_law_calls", "_law_gone", "_law_divided", "_law_end", "_law_forests"]
set_option maxHeartbeats 0 in
-- the library's own quick forms of the functions that are run (each equal to the function by the theorem named)
theorem said0 : OpenLaw.wellSaid rw_pm0082_01 = true := by
  try rw [PySem.W.Fast.te9446332074065402090]
  kernel_rfl
set_option maxHeartbeats 0 in
theorem left : LeftO pw_pm0082_01 kq kloose (fun _ => true) (kmHook K kads (fun _ => rfl) [196, 231, 224]).obs (kmHook K kads (fun _ => rfl) [196, 231, 224]).val 3510 := by
  intro w
  unfold openEnds fencedOpening topFrom
  try rw [PySem.W.Fast.te14364793385576792824, PySem.W.Fast.te10274390034422433532, PySem.W.Fast.te14082659384304107361, PySem.W.Fast.te4187177175401517315, PySem.W.Fast.te14289696077712309145]
  kernel_rfl
end

section
open PySem.Calls

theorem lk_search : typeLookup (.type "re.Pattern") "search" = pure (some (.builtin "re.Pattern.search")) := by rw [typeLookup_type, builtinLookup_eq_fast]; kernel_rfl
theorem lk_pat_ga : typeLookup (.type "re.Pattern") "__getattribute__" = pure (some (.builtin "object.__getattribute__")) := by rw [typeLookup_type, builtinLookup_eq_fast]; kernel_rfl
theorem lk_pat_gn : typeLookup (.type "re.Pattern") "__getattr__" = pure none := by rw [typeLookup_type, builtinLookup_eq_fast]; kernel_rfl
theorem canon_obj_ga : (Manifest.canonical "object.__getattribute__" != "object.__getattribute__") = false := by decide +kernel
theorem ty_search : typeOf (.builtin "re.Pattern.search") = pure (.type "method_descriptor") := by show builtinType _ = _; rw [builtinType_eq_fast]; kernel_rfl
theorem slot_search : Slot "re.Pattern" "search" "re.Pattern.search" :=
  Slot.of (owner := "re.Pattern") (n := "search") lk_search (by decide +kernel) (by decide +kernel) (by decide +kernel) (.inr (by decide +kernel)) (by rw [isSubtype_type]; kernel_rfl)
theorem entry_search : entryFor table "re.Pattern.search" = some Builtin.«re.Pattern.search» := entryFor_of_fast (by kernel_rfl)

section
variable {M : Model} {A : Around} {E : Value → Shared → Prop} {s : Shared}
theorem getMethod_search {P : Addr} {fs : Array Value} {pl : Sem Bool} {Q : Value × List Value → Shared → Prop} (ho : s.heap.get? P = some { cls := .type "re.Pattern", data := .fields fs })
    (h : Q (.builtin "re.Pattern.search", [.ref P]) s) : wpAny M A (getMethod (.ref P) "search" pl) Q E s := by
  have hT : s.TypeIs (.ref P) "re.Pattern" := ⟨_, ho, rfl⟩
  unfold getMethod
  refine wpAny_bind (wpAny_specialOf hT lk_pat_ga ?_)
  show wpAny M A (if (Manifest.canonical "object.__getattribute__" != "object.__getattribute__") = true then _ else _) Q E s
  rw [canon_obj_ga, if_neg Bool.false_ne_true]
  refine wpAny_bind (wpAny_specialOf hT lk_pat_gn ?_)
  refine wpAny_bind (wpAny_specialOf hT lk_search ?_)
  refine wpAny_bind (wpAny_of_eq ty_search ?_)
  refine wpAny_bind (wpAny_load ho ?_)
  exact wpAny_bind (wpAny_rule (wpAny_pure h))
end

/-- a sign that no header text of the law's lacks: 32 .. 126 -/
noncomputable def plainC (c : Nat) : Bool := 32 ≤ c && c < 127
noncomputable def plainS (x : Str) : Bool := x.cps.toList.all plainC

noncomputable def nameCode : Array Nat := #[14, 10, 4, 1, 1, 22, 0, 31, 16, 127, 0, 13, 7, 22, 0, 31, 16, 127, 0, 1]
noncomputable def valueCode : Array Nat := #[14, 14, 4, 1, 1, 9, 4294966783, 0, 0, 2147483648, 0, 0, 0, 0, 0, 13, 11, 9, 4294966783, 0, 0, 2147483648, 0, 0, 0, 0, 0, 1]

noncomputable def chkC (code : Array Nat) (n : Nat) (seen : Sre.Seen) (c : Nat) : Bool := decide (c < 32) || Except.casesOn (Sre.inSet code c n 5 true seen) (fun _ => false) fun r => !r.1
theorem chk_name (seen : Sre.Seen) : (List.range 127).all (chkC nameCode 20 seen) = true := by kernel_rfl!
theorem chk_value (seen : Sre.Seen) : (List.range 127).all (chkC valueCode 28 seen) = true := by kernel_rfl!
theorem inSet_chk {code : Array Nat} {n : Nat} {seen : Sre.Seen} (k : (List.range 127).all (chkC code n seen) = true) (c : Nat) (h : plainC c = true) : ∃ seen', Sre.inSet code c n 5 true seen = .ok (false, seen') := by
  have h2 : decide (c < 127) = true := (Bool.and_eq_true_iff.mp h).2
  have h1 : decide (32 ≤ c) = true := (Bool.and_eq_true_iff.mp h).1
  have h3 := List.all_eq_true.mp k c (List.mem_range.mpr (of_decide_eq_true h2))
  rcases Bool.or_eq_true_iff.mp h3 with h4 | h4
  · exact absurd (of_decide_eq_true h4) (Nat.not_lt.mpr (of_decide_eq_true h1))
  · revert h4
    generalize Sre.inSet code c n 5 true seen = r
    intro h4
    cases r with
    | error e => exact absurd h4 Bool.false_ne_true
    | ok r =>
      obtain ⟨b, s⟩ := r
      cases b with
      | false => exact ⟨s, rfl⟩
      | true => exact absurd h4 Bool.false_ne_true
theorem inSet_name (c : Nat) (h : plainC c = true) (seen : Sre.Seen) : ∃ seen', Sre.inSet nameCode c 20 5 true seen = .ok (false, seen') := inSet_chk (chk_name seen) c h
theorem inSet_value (c : Nat) (h : plainC c = true) (seen : Sre.Seen) : ∃ seen', Sre.inSet valueCode c 28 5 true seen = .ok (false, seen') := inSet_chk (chk_value seen) c h

noncomputable def GoodCode (code : Array Nat) : Prop := ∀ c, plainC c = true → ∀ seen, ∃ seen', Sre.inSet code c code.size 5 true seen = .ok (false, seen')

theorem admitted_none {m : Sre.M} (hg : GoodCode m.code) (ht : ∀ i, i < m.lim → plainC (m.text.getD i 0) = true) (fuel : Nat) : ∀ (i : Nat) (seen : Sre.Seen), ∃ seen', Sre.M.admitted m fuel i seen = .ok (none, seen') := by
  induction fuel with
  | zero => exact fun _ seen => ⟨seen, rfl⟩
  | succ fuel ih =>
    intro i seen
    show ∃ seen', (if i ≥ m.lim then _ else _) = _
    by_cases h : i ≥ m.lim
    · rw [if_pos h]; exact ⟨seen, rfl⟩
    · rw [if_neg h]
      obtain ⟨seen', e⟩ := hg _ (ht i (Nat.lt_of_not_le h)) seen
      rw [e]
      exact ih (i + 1) seen'

theorem said_false {m : Sre.M} (ha : m.answer = some false) (hf : m.frames = []) (ho : m.outcome = none) : ∃ m', Builtin.Re.reDrive (2 ^ 64) m = pure m' ∧ m'.outcome = some .failed := by
  have h1 : m.step = { m with outcome := some .failed } := by unfold Sre.M.step; rw [ho, ha, hf]; rfl
  refine ⟨{ m with outcome := some .failed }, ?_, rfl⟩
  show Builtin.Re.reDrive (18446744073709551615 + 1) m = _
  unfold Builtin.Re.reDrive
  have h2 : m.runFor Builtin.Re.reTurnSteps = { m with outcome := some .failed } := by
    show m.runFor 4 = _
    unfold Sre.M.runFor
    rw [ho]
    show Sre.M.runFor 3 m.step = _
    rw [h1]
    rfl
  rw [h2]
  rfl

theorem attempt_false {m : Sre.M} (hg : GoodCode m.code) (hf : m.hasFirstSet = true) (ht : ∀ i, i < m.lim → plainC (m.text.getD i 0) = true) (i : Nat) (b : Bool) :
    ∃ seen', m.attemptFrom i b = ({ m with seen := seen' } : Sre.M).say false := by
  obtain ⟨seen', e⟩ := admitted_none hg ht (m.lim + 1 - i) i m.seen
  refine ⟨seen', ?_⟩
  unfold Sre.M.attemptFrom
  rw [hf]
  simp only [Bool.not_true, Bool.false_eq_true, if_false]
  rw [e]

theorem search_false {code : Array Nat} (hc : code = nameCode ∨ code = valueCode) {text : Array Nat} (ht : text.toList.all plainC = true) (lim : Nat) (hlim : lim ≤ text.size) :
    ∃ m', Builtin.Re.reDrive (2 ^ 64) (Sre.forSearch code text 0 0 lim false) = pure m' ∧ m'.outcome = some .failed := by
  have hg : GoodCode code := by rcases hc with rfl | rfl; exact inSet_name; exact inSet_value
  have hpl : ∀ i, i < lim → plainC (text.getD i 0) = true := fun i hi => by
    rw [Array.getD_eq_getD_getElem?, Array.getElem?_eq_getElem (Nat.lt_of_lt_of_le hi hlim)]
    exact List.all_eq_true.mp ht _ (by simp)
  have hb : ∀ m : Sre.M, m.code = code → m.hasFirstSet = true := fun m e => by unfold Sre.M.hasFirstSet; rw [e]; rcases hc with rfl | rfl <;> rfl
  unfold Sre.forSearch
  dsimp only
  split
  · refine said_false rfl ?_ ?_ <;> rfl
  · generalize hm : (Sre.M.mk _ _ _ _ _ _ _ _ _ _ _ _ _ _ _ _ _ _ _ _ _) = m
    have e1 : m.code = code := by rw [← hm]; rfl
    have e2 : m.lim = lim := by rw [← hm]; rfl
    have e3 : m.text = text := by rw [← hm]; rfl
    have e4 : m.frames = [] := by rw [← hm]; rfl
    have e5 : m.outcome = none := by rw [← hm]; rfl
    obtain ⟨seen', e⟩ := attempt_false (m := m) (e1 ▸ hg) (hb m e1) (by rw [e2, e3]; exact hpl) 0 true
    rw [e]
    exact said_false rfl e4 e5

section
variable {prog : Program} {w : World} {A : Around} {E : Value → Shared → Prop} {s : Shared}
theorem call_search {P T : Addr} {fs ws : Array Value} {n : Nat} {x : Str} {t : Tok} {Q : Value → Shared → Prop} (ho : s.heap.get? P = some { cls := .type "re.Pattern", data := .fields fs }) (h5 : fs.getD 5 .none = .ref T)
    (h2 : Builtin.Re.reRawNat (fs.getD 2 .none) = 0) (h6 : Builtin.Re.reRawNat (fs.getD 6 .none) = 0) (hT : s.heap.get? T = some { cls := .type "tuple", data := .seq ws n })
    (hc : (ws.map Builtin.Re.reRawOf).map (·.toNat) = nameCode ∨ (ws.map Builtin.Re.reRawOf).map (·.toNat) = valueCode) (hx : plainS x = true) (h : Q .none s) :
    wpAny (model prog w) A (call (.builtin "re.Pattern.search") [.ref P, .str x t]) Q E s := by
  have hty : s.TypeIs (.ref P) "re.Pattern" := ⟨_, ho, rfl⟩
  refine wpAny_call_entry slot_search hty entry_search ?_ (by rfl)
  show wpAny _ _ (Builtin.Re.reTarget "re.Pattern.search" "search" _ >>= _) _ _ s
  refine wpAny_bind ?_
  unfold Builtin.Re.reTarget
  dsimp only
  refine wpAny_bind (m := Builtin.Re.reNamed _ _ _ _ _ _) (wpAny_of_eq (a := [some (.str x t), none, none]) (by rfl) ?_)
  dsimp only
  refine wpAny_bind (wpAny_pure (wpAny_bind (wpAny_pure (wpAny_bind (wpAny_fieldsOf ho rfl ?_)))))
  refine wpAny_bind (m := Builtin.Re.reTextOf _) (wpAny_of_eq (a := (x.cps, 0)) (by rfl) ?_)
  dsimp only
  rw [h6]
  simp only [show (0 == 1) = false from rfl, Bool.and_false, Bool.and_true, Bool.false_eq_true, if_false, beq_self_eq_true]
  refine wpAny_bind (m := Builtin.Re.reNoCollectionInside _ _) (wpAny_of_eq (a := ()) (by rfl) ?_)
  refine wpAny_bind ?_
  rw [h5, h2]
  unfold Builtin.Re.reRawItems
  refine wpAny_bind (wpAny_seqItems hT rfl (wpAny_pure (wpAny_pure ?_)))
  dsimp only [Option.getD_some]
  obtain ⟨m', e1, e2⟩ := search_false hc (List.all_eq_true.mpr (List.all_eq_true.mp hx)) (min (2 ^ 63 - 1 : Int).toNat x.cps.size) (Nat.min_le_right _ _)
  rw [show min (Int.toNat 0) x.cps.size = 0 from Nat.zero_min _]
  unfold Builtin.Re.reAnswer Builtin.Re.reRunToEnd
  refine wpAny_bind (wpAny_bind (wpAny_of_eq e1 ?_))
  dsimp only
  refine wpAny_bind ?_
  refine wpAny_forIn_list _ (fun _ _ s' => s' = s) _ ?_ ?_ _ _ rfl
  · rintro y rest b s' rfl
    split
    · exact wpAny_bind (wpAny_rule (wpAny_pure rfl))
    · exact wpAny_pure rfl
  · rintro b s' rfl
    rw [e2]
    exact wpAny_pure (wpAny_pure ⟨_, rfl, h⟩)
end

section
variable {prog : Program} {w : World} {A : Around} {E : Value → Shared → Prop} {s : Shared} {K : Frag} {h₀ : Heap} {L : Addr} {m : Str → Option Value}
theorem getMethod_searchK {P : Addr} {fs : Array Value} {pl : Sem Bool} {Q : Value × List Value → Shared → Prop} (F : Fr h₀ L s.heap m) (X : K.In h₀) (hl : K.lookup P = some { cls := .type "re.Pattern", data := .fields fs })
    (h : Q (.builtin "re.Pattern.search", [.ref P]) s) : wpAny (model prog w) A (getMethod (.ref P) "search" pl) Q E s := getMethod_search (X.keeps F.keep _ _ hl) h
theorem call_searchK {P T : Addr} {fs ws : Array Value} {n : Nat} {x : Str} {t : Tok} {Q : Value → Shared → Prop} (F : Fr h₀ L s.heap m) (X : K.In h₀) (hl : K.lookup P = some { cls := .type "re.Pattern", data := .fields fs }) (h5 : fs.getD 5 .none = .ref T)
    (h2 : Builtin.Re.reRawNat (fs.getD 2 .none) = 0) (h6 : Builtin.Re.reRawNat (fs.getD 6 .none) = 0) (hT : K.lookup T = some { cls := .type "tuple", data := .seq ws n })
    (hc : (ws.map Builtin.Re.reRawOf).map (·.toNat) = nameCode ∨ (ws.map Builtin.Re.reRawOf).map (·.toNat) = valueCode) (hx : plainS x = true) (h : Q .none s) :
    wpAny (model prog w) A (call (.builtin "re.Pattern.search") [.ref P, .str x t]) Q E s := call_search (X.keeps F.keep _ _ hl) h5 h2 h6 (X.keeps F.keep _ _ hT) hc hx h
end

theorem allLt_ne {d e : Nat} : ∀ {l : List (Addr × Obj)}, AllLt d l → d ≤ e → ∀ p ∈ l, p.1 ≠ e
  | [], _, _, _, h => nomatch h
  | q :: r, h, he, p, hp => by
    rcases List.mem_cons.mp hp with rfl | hp
    · exact Nat.ne_of_lt (Nat.lt_of_lt_of_le h.1 he)
    · exact allLt_ne h.2 he p hp
end

section
open PySem.Calls

noncomputable def low (i : Fin 4) : Str := match i with | 0 => Str.ofString "a" | 1 => Str.ofString "b" | 2 => Str.ofString "c" | 3 => Str.ofString "d"
noncomputable def upp (i : Fin 4) : Str := match i with | 0 => Str.ofString "A" | 1 => Str.ofString "B" | 2 => Str.ofString "C" | 3 => Str.ofString "D"
/-- a name: small or great -/
noncomputable def nm (u : Bool) (i : Fin 4) : Str := if u then upp i else low i
noncomputable def num (w : Int) : Str := Str.ofString (toString (if w < 0 then -w else w))
noncomputable def hed (f : Fin 4) (w : Int) : Str := if 0 ≤ w then low f else upp f
noncomputable def txt (f : Fin 4) (w : Int) : Str := hed f w ++ num w

theorem lower_nm : ∀ (u : Bool) (i : Fin 4), Txt.lower (nm u i) = low i := by decide +kernel
theorem upper_low : ∀ (i : Fin 4), Txt.upper (low i) = upp i := by decide +kernel
theorem lower_low (i : Fin 4) : Txt.lower (low i) = low i := lower_nm false i
theorem lower_upp (i : Fin 4) : Txt.lower (upp i) = low i := lower_nm true i
theorem len_low : ∀ (i : Fin 4), (low i).length = 1 := by decide +kernel
theorem len_upp : ∀ (i : Fin 4), (upp i).length = 1 := by decide +kernel
theorem low_inj : ∀ (i j : Fin 4), (low i == low j) = (i == j) := by decide +kernel
theorem plain_nm : ∀ (u : Bool) (i : Fin 4), plainS (nm u i) = true := by decide +kernel
theorem plain_low (i : Fin 4) : plainS (low i) = true := plain_nm false i
theorem plain_upp (i : Fin 4) : plainS (upp i) = true := plain_nm true i
theorem lower_hed (f : Fin 4) (w : Int) : Txt.lower (hed f w) = low f := by unfold hed; split; exact lower_low f; exact lower_upp f
theorem len_hed (f : Fin 4) (w : Int) : (hed f w).length = 1 := by unfold hed; split; exact len_low f; exact len_upp f

theorem len_nm (u : Bool) (i : Fin 4) : (nm u i).length = 1 := by unfold nm; split; exact len_upp i; exact len_low i
section
variable {prog : Program} {w : World} {A : Around} {E : Value → Shared → Prop} {s : Shared} {Q : Value → Shared → Prop} {t : Tok}
theorem call_lower_nm {u : Bool} {i : Fin 4} (h : ∀ t', Q (.str (low i) t') { s with toks := s.toks + 1 }) : wpAny (model prog w) A (call (.builtin "str.lower") [.str (nm u i) t]) Q E s :=
  SCL.lower (by rw [len_nm]; lia) (by rw [lower_nm]; exact fun _ => h _)
theorem call_lower_low {i : Fin 4} (h : ∀ t', Q (.str (low i) t') { s with toks := s.toks + 1 }) : wpAny (model prog w) A (call (.builtin "str.lower") [.str (low i) t]) Q E s :=
  call_lower_nm (u := false) h
theorem call_lower_hed {f : Fin 4} {x : Int} (h : ∀ t', Q (.str (low f) t') { s with toks := s.toks + 1 }) : wpAny (model prog w) A (call (.builtin "str.lower") [.str (hed f x) t]) Q E s :=
  SCL.lower (by rw [len_hed]; lia) (by rw [lower_hed]; exact fun _ => h _)
theorem call_upper_low {i : Fin 4} (h : ∀ t', Q (.str (upp i) t') { s with toks := s.toks + 1 }) : wpAny (model prog w) A (call (.builtin "str.upper") [.str (low i) t]) Q E s :=
  SCL.upper (by rw [len_low]; lia) (by rw [upper_low]; exact fun _ => h _)
end
end

section
open PySem.Calls PySem.NumText PySem.W.KIN

/-- the bound of all weights -/
noncomputable def Small (w : Int) : Prop := -1000000000000000 < w ∧ w < 1000000000000000
noncomputable def mag (w : Int) : Int := if w < 0 then -w else w
theorem mag_nn (w : Int) : 0 ≤ mag w := by unfold mag; split <;> lia
theorem mag_lt {w : Int} (h : Small w) : mag w < 1000000000000000 := by unfold mag; unfold Small at h; split <;> lia
theorem num_eq (w : Int) : num w = Str.ofString (toString (mag w)) := rfl
theorem mag_nat (w : Int) : ∃ n : Nat, mag w = (n : Int) := Int.eq_ofNat_of_zero_le (mag_nn w)

theorem num_all (w : Int) : AllDigits (num w).cps.toList := by
  obtain ⟨m, e⟩ := mag_nat w
  rw [num_eq, e]
  intro c hc
  rw [signs_num] at hc
  obtain ⟨ch, hch, e⟩ := List.mem_map.mp hc
  have r := digit_range (Nat.isDigit_of_mem_toDigits (by decide) (by decide) hch)
  rw [← e]
  exact r
theorem num_ne (w : Int) : (num w).cps.toList ≠ [] := by
  obtain ⟨m, e⟩ := mag_nat w
  rw [num_eq, e, signs_num]
  intro e
  have h := toDigits_len_ge 10 m
  rw [List.map_eq_nil_iff.mp e] at h
  exact absurd h (by decide)
theorem num_len {w : Int} (h : Small w) : (num w).length ≤ 15 := by
  rw [num_eq]
  exact toString_length_le (k := 15) (mag_nn w) (by decide) (by have := mag_lt h; lia)
theorem num_int {w : Int} (h : Small w) : PySem.intText? (num w) = some (mag w) := by
  have e := intText_digits (num_all w) (num_ne w) (Nat.le_trans (num_len h) (by decide))
  rw [e]
  obtain ⟨m, em⟩ := mag_nat w
  rw [num_eq, em, signs_num, val_back]
theorem list_app (a y : PySem.Str) : (a ++ y).cps.toList = a.cps.toList ++ y.cps.toList := by rw [PySem.Str.cps_append, Array.toList_append]
theorem plain_num (w : Int) : plainS (num w) = true := List.all_eq_true.mpr fun c hc => by
  have := num_all w c hc
  simp only [plainC, Bool.and_eq_true, decide_eq_true_eq]; lia
theorem plain_hed (f : Fin 4) (w : Int) : plainS (hed f w) = true := by unfold hed; split; exact plain_low f; exact plain_upp f
theorem plain_txt (f : Fin 4) (w : Int) : plainS (txt f w) = true := by
  unfold plainS txt
  rw [list_app, List.all_append]
  exact Bool.and_eq_true_iff.mpr ⟨plain_hed f w, plain_num w⟩
theorem cps_len (x : Str) : x.cps.toList.length = x.length := Array.length_toList
theorem txt_len {w : Int} (h : Small w) (f : Fin 4) : (txt f w).length ≤ 16 := by
  have e := cps_len (txt f w)
  unfold txt at e ⊢
  rw [list_app, List.length_append, cps_len, cps_len, len_hed] at e
  have := num_len h
  lia
end

section
open PySem.Calls PySem.NumText PySem.W.KIN PySem.StrLaws
open PySem.Builtin.Str (subAt occurrences)

theorem slice_all (x : Str) : Txt.slice x (some 0) (some (x.length : Int)) = x := by
  unfold Txt.slice
  rw [if_pos]
  have := strSliceIndices_plain (a := 0) (b := x.length) (len := x.length) (Nat.zero_le _) (Nat.le_refl _)
  simp at this
  rw [this]
  simp
theorem str_ext {x y : Str} (h : x.cps.toList = y.cps.toList) : x = y := by
  obtain ⟨a⟩ := x; obtain ⟨b⟩ := y
  simp only at h
  rw [Array.toList_inj.mp h]
theorem clip_none (n : Nat) : PySem.Builtin.Str.strSliceIndices (some 1) none 1 n = PySem.Builtin.Str.strSliceIndices (some 1) (some (n : Int)) 1 n := by
  unfold PySem.Builtin.Str.strSliceIndices
  have h2 : ¬ ((n : Int) < 0) := by lia
  simp [h2]
theorem slice_tail {h y : Str} (hh : h.length = 1) : Txt.slice (h ++ y) (some 1) none = y := by
  have hl : (h ++ y).length = y.length + 1 := by
    have e := cps_len (h ++ y)
    rw [list_app, List.length_append, cps_len, cps_len, hh] at e
    lia
  have hp := strSliceIndices_plain (a := 1) (b := (h ++ y).length) (len := (h ++ y).length) (by lia) (Nat.le_refl _)
  have hq := sliced_plain (h ++ y) (a := 1) (b := (h ++ y).length) (by lia) (Nat.le_refl _)
  unfold Txt.slice
  rw [clip_none]
  have e1 : ((1 : Nat) : Int) = 1 := rfl
  rw [e1] at hp hq
  rw [if_neg]
  · apply str_ext
    simp only
    rw [hq, list_app, hl]
    obtain ⟨a⟩ := h
    have ha : a.toList.length = 1 := by simpa [Str.length] using hh
    rcases hx : a.toList with _ | ⟨c, r⟩
    · rw [hx] at ha; simp at ha
    · rw [hx] at ha
      have : r = [] := by simpa using ha
      subst this
      simp only [List.singleton_append, List.drop_succ_cons, List.drop_zero]
      rw [show y.length + 1 - 1 = y.cps.toList.length by rw [cps_len]; lia, List.take_length]
  · rw [hp]
    simp [hl]
theorem item_head {h y : Str} (hh : h.length = 1) : Txt.item (h ++ y) 0 = h := by
  obtain ⟨a⟩ := h
  have ha : a.toList.length = 1 := by simpa [Str.length] using hh
  rcases hx : a.toList with _ | ⟨c, r⟩
  · rw [hx] at ha; simp at ha
  · rw [hx] at ha
    have : r = [] := by simpa using ha
    subst this
    have haa : a = #[c] := by rw [← Array.toArray_toList (xs := a), hx]
    subst haa
    apply str_ext
    have hl : (⟨#[c]⟩ ++ y : Str).length = y.length + 1 := by
      have e := cps_len ((⟨#[c]⟩ : Str) ++ y)
      rw [list_app, List.length_append, cps_len] at e
      rw [show (⟨#[c]⟩ : Str).length = 1 from rfl, cps_len] at e
      lia
    have e1 : ((⟨#[c]⟩ : Str) ++ y).cps[0]? = some c := by
      rw [← Array.getElem?_toList, list_app]; rfl
    unfold Txt.item Txt.charAt seqIndex?
    simp [hl, e1]
theorem txt_ge (f : Fin 4) (w : Int) : 1 ≤ (txt f w).length := by
  have e := cps_len (txt f w)
  unfold txt at e ⊢
  rw [list_app, List.length_append, cps_len, cps_len, len_hed] at e
  lia
theorem slice_txt (f : Fin 4) (w : Int) : Txt.slice (txt f w) (some 1) none = num w := slice_tail (len_hed f w)
theorem item_txt (f : Fin 4) (w : Int) : Txt.item (txt f w) 0 = hed f w := item_head (len_hed f w)
theorem space_digit0 : ∀ c, c < 58 → 48 ≤ c → Unicode.isSpace c = false := by decide +kernel
theorem space_digit (c : Nat) (h : 48 ≤ c) (h2 : c ≤ 57) : Unicode.isSpace c = false := space_digit0 c (by lia) h
theorem rstrip_num (x : Int) : Txt.rstrip (num x) = num x := by
  unfold Txt.rstrip Txt.stripBy
  rw [if_pos]
  have hn := num_ne x
  have ha := num_all x
  unfold stripSame stripLo stripHi
  simp only [Bool.false_eq_true, if_false, if_true, List.drop_zero, beq_self_eq_true, Bool.true_and, beq_iff_eq]
  have : (num x).cps.toList.reverse.takeWhile Unicode.isSpace = [] := by
    rcases hx : (num x).cps.toList.reverse with _ | ⟨c, r⟩
    · rfl
    · have hc : c ∈ (num x).cps.toList := by rw [← List.mem_reverse, hx]; exact List.mem_cons_self
      have := ha c hc
      rw [List.takeWhile_cons, space_digit c (by lia) (by lia)]
      rfl
  rw [this]
  rfl
theorem occ_none (s sub : Str) (hi limit : Nat) (hn : ∀ i, i + sub.length ≤ hi → subAt s sub i = false) : ∀ (l : List Nat) (st : Array Nat × Nat), (forIn l st (occBody s sub hi limit)).run.fst = st.fst
  | [], st => rfl
  | a :: l, st => by
    rw [List.forIn_cons]
    unfold occBody
    split
    · rename_i hc
      rw [hn a hc.1.2] at hc
      exact absurd hc.2 Bool.false_ne_true
    · exact occ_none s sub hi limit hn l _
theorem no_under (x : Int) (i : Nat) (hi : i + (Str.ofString "_").length ≤ (num x).length) : subAt (num x) (Str.ofString "_") i = false := by
  rw [subAt_eq]
  rw [show (Str.ofString "_").length = 1 by decide +kernel] at hi ⊢
  rw [show (Str.ofString "_").cps.toList = [95] by decide +kernel]
  rcases hx : (num x).cps.toList.drop i with _ | ⟨c, r⟩
  · rfl
  · have hc : c ∈ (num x).cps.toList := List.mem_of_mem_drop (by rw [hx]; exact List.mem_cons_self)
    have := num_all x c hc
    have hne : ¬ c = 95 := by lia
    show (([c] : List Nat) == [95]) = false
    simp [hne]
theorem occ_under (x : Int) : (occurrences (num x) (Str.ofString "_") 0 (num x).length ((num x).length + 1)).isEmpty = true := by
  rw [occ_eq, occ_none _ _ _ _ (no_under x)]
  rfl
theorem call_replace_num {prog : Program} {w : World} {A : Around} {E : Value → Shared → Prop} {s : Shared} {Q : Value → Shared → Prop} {x : Int} {t u v : Tok} {z : Str} (h : Q (.str (num x) t) s) :
    wpAny (model prog w) A (call (.builtin "str.replace") [.str (num x) t, .str (Str.ofString "_") u, .str z v]) Q E s := by
  refine call_gives PySem.F.slot_str_replace (typeIs_str _ _ _) PySem.F.entry_str_replace (PySem.F.args_str_replace_3 _ _ _)
    (gives_str_replace (num x) (Str.ofString "_") z t u v fun hc => by rw [occ_under] at hc; cases hc) ?_
  rw [occ_under]
  exact h
theorem call_int_sl {prog : Program} {w : World} {A : Around} {E : Value → Shared → Prop} {s : Shared} {Q : Value → Shared → Prop} {x : Int} {t : Tok} (hx : Small x) (h : Q (.int (mag x) s.toks) { s with toks := s.toks + 1 }) :
    wpAny (model prog w) A (call (.type "int") [.str (Txt.slice (num x) (some 0) (some ((num x).length : Int))) t]) Q E s := by
  rw [slice_all]
  exact call_text (num_int hx) (Nat.le_trans (num_len hx) (by decide)) h
noncomputable def low4 : Bool → Fin 4 → Str := fun b f => if b then low f else upp f
theorem in_low : ∀ (b : Bool) (f : Fin 4), Txt.contains (Str.ofString "abcd") (low4 b f) = b := by decide +kernel
theorem in_hed (f : Fin 4) (w : Int) : Txt.contains (Str.ofString "abcd") (hed f w) = decide (0 ≤ w) := by
  have h := in_low (decide (0 ≤ w)) f
  unfold low4 at h
  unfold hed
  by_cases e : 0 ≤ w
  · simpa [e] using h
  · simpa [e] using h
end

section
open PySem.Calls

inductive All2 {α β : Type} (R : α → β → Prop) : List α → List β → Prop
  | nil : All2 R [] []
  | cons {a b as bs} : R a b → All2 R as bs → All2 R (a :: as) (b :: bs)
theorem All2.length {α β : Type} {R : α → β → Prop} : ∀ {as : List α} {bs : List β}, All2 R as bs → as.length = bs.length := fun h => by
  induction h with
  | nil => rfl
  | cons _ _ ih => exact congrArg (· + 1) ih
theorem All2.imp {α β : Type} {R S : α → β → Prop} (f : ∀ a b, R a b → S a b) : ∀ {as : List α} {bs : List β}, All2 R as bs → All2 S as bs := fun h => by
  induction h with
  | nil => exact .nil
  | cons h _ ih => exact .cons (f _ _ h) ih
theorem All2.append {α β : Type} {R : α → β → Prop} {cs : List α} {ds : List β} (h : All2 R cs ds) : ∀ {as : List α} {bs : List β}, All2 R as bs → All2 R (as ++ cs) (bs ++ ds) := fun k => by
  induction k with
  | nil => exact h
  | cons x _ ih => exact .cons x ih
theorem All2.snoc {α β : Type} {R : α → β → Prop} {as : List α} {bs : List β} {a : α} {b : β} (h : All2 R as bs) (x : R a b) : All2 R (as ++ [a]) (bs ++ [b]) := All2.append (.cons x .nil) h
theorem All2.get' {α β : Type} {R : α → β → Prop} : ∀ {as : List α} {bs : List β}, All2 R as bs → ∀ {i : Nat} {b : β}, bs[i]? = some b → ∃ a, as[i]? = some a ∧ R a b := fun k => by
  induction k with
  | nil => exact fun h => absurd h (Option.some_ne_none _).symm
  | cons x _ ih =>
    intro i a h
    cases i with
    | zero => exact ⟨_, rfl, Option.some.inj h ▸ x⟩
    | succ i => exact ih (i := i) h
theorem All2.mapl {α β γ : Type} {R : γ → β → Prop} {f : α → γ} {as : List α} {bs : List β} (h : All2 (fun a b => R (f a) b) as bs) : All2 R (as.map f) bs := by
  induction h with
  | nil => exact .nil
  | cons h _ ih => exact .cons h ih

structure Row where
  u : Bool
  p : Fin 4
  f : Fin 4
  w : Int
noncomputable def tupO (vs : List Value) (n : Nat) : Obj := { cls := .type "tuple", data := .seq vs.toArray n }
inductive RowV (news : List (Addr × Obj)) (r : Row) (v : Value) : Prop
  | mk (T : Addr) (t1 t2 : Tok) (n : Nat) (e : v = .ref T) (m : (T, ({ cls := .type "tuple", data := .seq #[.str (nm r.u r.p) t1, .str (txt r.f r.w) t2] n } : Obj)) ∈ news) (s : Small r.w) : RowV news r v
inductive CallV (news : List (Addr × Obj)) (c : Fin 4 × Int) (v : Value) : Prop
  | mk (T : Addr) (t1 t2 : Tok) (n : Nat) (e : v = .ref T) (m : (T, ({ cls := .type "tuple", data := .seq #[.str (low c.1) t1, .int c.2 t2] n } : Obj)) ∈ news) (s : Small c.2) : CallV news c v
noncomputable def IsS (x : Str) (v : Value) : Prop := ∃ t, v = .str x t
noncomputable def IsI (x : Int) (v : Value) : Prop := ∃ t, v = .int x t
noncomputable abbrev RowsIn (news : List (Addr × Obj)) := All2 (RowV news)
noncomputable abbrev CallsIn (news : List (Addr × Obj)) := All2 (CallV news)
theorem RowV.mono {n n' : List (Addr × Obj)} (h : ∀ p ∈ n, p ∈ n') {r : Row} {v : Value} : RowV n r v → RowV n' r v := fun k => k.rec fun T a b k e m s => .mk T a b k e (h _ m) s
theorem CallV.mono {n n' : List (Addr × Obj)} (h : ∀ p ∈ n, p ∈ n') {r : Fin 4 × Int} {v : Value} : CallV n r v → CallV n' r v := fun k => k.rec fun T a b k e m s => .mk T a b k e (h _ m) s
theorem RowsIn.mono {n n' : List (Addr × Obj)} (h : ∀ p ∈ n, p ∈ n') {rs : List Row} {vs : List Value} : RowsIn n rs vs → RowsIn n' rs vs := All2.imp fun _ _ => RowV.mono h
theorem CallsIn.mono {n n' : List (Addr × Obj)} (h : ∀ p ∈ n, p ∈ n') {rs : List (Fin 4 × Int)} {vs : List Value} : CallsIn n rs vs → CallsIn n' rs vs := All2.imp fun _ _ => CallV.mono h
/-- the table of a maker of one inner def: empty, or with its code in the ledger -/
inductive TabOk (line col : Int) (qual : Str) (o : Obj) (led : List (Addr × Obj)) : Prop
  | inl (e : o = tabObj #[]) : TabOk line col qual o led
  | inr (cN : Addr) (oC : Obj) (vs : Array Value) (t : Tok) (e : o = tabObj #[rawInt line, rawInt col, .ref cN]) (m : (cN, oC) ∈ led) (d : oC.data = .fields vs) (q : vs[1]? = some (.str qual t)) : TabOk line col qual o led
theorem RowsIn.small {n : List (Addr × Obj)} : ∀ {rs : List Row} {vs : List Value}, RowsIn n rs vs → ∀ r ∈ rs, Small r.w := fun k => by
  induction k with
  | nil => exact fun _ h => absurd h List.not_mem_nil
  | cons x _ ih =>
    refine List.forall_mem_cons.mpr ⟨?_, ih⟩
    obtain ⟨_, _, _, _, _, _, s⟩ := x
    exact s
theorem TabOk.mono {line col : Int} {qual : Str} {o : Obj} {a b : List (Addr × Obj)} (hs : ∀ p ∈ a, p ∈ b) : TabOk line col qual o a → TabOk line col qual o b :=
  fun k => k.rec .inl fun cN oC vs t e m d q => .inr cN oC vs t e (hs _ m) d q
inductive Ex1 {α1 : Type} (P : α1 → Prop) : Prop
  | mk (a1 : α1) (h : P a1) : Ex1 P
inductive Ex2 {α1 α2 : Type} (P : α1 → α2 → Prop) : Prop
  | mk (a1 : α1) (a2 : α2) (h : P a1 a2) : Ex2 P
inductive Ex3 {α1 α2 α3 : Type} (P : α1 → α2 → α3 → Prop) : Prop
  | mk (a1 : α1) (a2 : α2) (a3 : α3) (h : P a1 a2 a3) : Ex3 P
inductive Ex4 {α1 α2 α3 α4 : Type} (P : α1 → α2 → α3 → α4 → Prop) : Prop
  | mk (a1 : α1) (a2 : α2) (a3 : α3) (a4 : α4) (h : P a1 a2 a3 a4) : Ex4 P
inductive Ex5 {α1 α2 α3 α4 α5 : Type} (P : α1 → α2 → α3 → α4 → α5 → Prop) : Prop
  | mk (a1 : α1) (a2 : α2) (a3 : α3) (a4 : α4) (a5 : α5) (h : P a1 a2 a3 a4 a5) : Ex5 P
inductive Ex6 {α1 α2 α3 α4 α5 α6 : Type} (P : α1 → α2 → α3 → α4 → α5 → α6 → Prop) : Prop
  | mk (a1 : α1) (a2 : α2) (a3 : α3) (a4 : α4) (a5 : α5) (a6 : α6) (h : P a1 a2 a3 a4 a5 a6) : Ex6 P
inductive Ex7 {α1 α2 α3 α4 α5 α6 α7 : Type} (P : α1 → α2 → α3 → α4 → α5 → α6 → α7 → Prop) : Prop
  | mk (a1 : α1) (a2 : α2) (a3 : α3) (a4 : α4) (a5 : α5) (a6 : α6) (a7 : α7) (h : P a1 a2 a3 a4 a5 a6 a7) : Ex7 P
inductive Ex8 {α1 α2 α3 α4 α5 α6 α7 α8 : Type} (P : α1 → α2 → α3 → α4 → α5 → α6 → α7 → α8 → Prop) : Prop
  | mk (a1 : α1) (a2 : α2) (a3 : α3) (a4 : α4) (a5 : α5) (a6 : α6) (a7 : α7) (a8 : α8) (h : P a1 a2 a3 a4 a5 a6 a7 a8) : Ex8 P
inductive Co2 (p1 p2 : Prop) : Prop
  | mk (h1 : p1) (h2 : p2) : Co2 p1 p2
inductive Co4 (p1 p2 p3 p4 : Prop) : Prop
  | mk (h1 : p1) (h2 : p2) (h3 : p3) (h4 : p4) : Co4 p1 p2 p3 p4
inductive Co6 (p1 p2 p3 p4 p5 p6 : Prop) : Prop
  | mk (h1 : p1) (h2 : p2) (h3 : p3) (h4 : p4) (h5 : p5) (h6 : p6) : Co6 p1 p2 p3 p4 p5 p6
inductive Co7 (p1 p2 p3 p4 p5 p6 p7 : Prop) : Prop
  | mk (h1 : p1) (h2 : p2) (h3 : p3) (h4 : p4) (h5 : p5) (h6 : p6) (h7 : p7) : Co7 p1 p2 p3 p4 p5 p6 p7
inductive Co8 (p1 p2 p3 p4 p5 p6 p7 p8 : Prop) : Prop
  | mk (h1 : p1) (h2 : p2) (h3 : p3) (h4 : p4) (h5 : p5) (h6 : p6) (h7 : p7) (h8 : p8) : Co8 p1 p2 p3 p4 p5 p6 p7 p8
inductive Co10 (p1 p2 p3 p4 p5 p6 p7 p8 p9 p10 : Prop) : Prop
  | mk (h1 : p1) (h2 : p2) (h3 : p3) (h4 : p4) (h5 : p5) (h6 : p6) (h7 : p7) (h8 : p8) (h9 : p9) (h10 : p10) : Co10 p1 p2 p3 p4 p5 p6 p7 p8 p9 p10
theorem hideG {P : Prop} (h : ∀ G : Prop, (P → G) → G) : P := h P id
theorem room_lt {d k j n : Nat} (h : d + k < n) (hk : j ≤ k) : d + j < n := Nat.lt_of_le_of_lt (Nat.add_le_add_left hk d) h
theorem room_lt0 {d k n : Nat} (h : d + k < n) : d < n := Nat.lt_of_le_of_lt (Nat.le_add_right d k) h
theorem agree_l {xs : List Str} {x y : Str} {v a b : Option Value} (hy : y ∉ xs) (hx : x ∈ xs) (e : a = b) : (if y = x then v else a) = b := (if_neg fun h => hy (Eq.mpr (congrArg (· ∈ xs) h) hx)).trans e
theorem agree_r {xs : List Str} {x y : Str} {v a b : Option Value} (hy : y ∉ xs) (hx : x ∈ xs) (e : a = b) : a = (if y = x then v else b) := e.trans (if_neg fun h => hy (Eq.mpr (congrArg (· ∈ xs) h) hx)).symm
inductive Tag : Prop
  | mk
inductive Same (G : Prop) : Prop → Prop
  | mk : Same G G
noncomputable def Dz (G T : Prop) : Prop := Same G T → T → G
theorem room_b {d k j n : Nat} (h : d + k < n) (hk : Nat.ble j k = true) : d + j < n := room_lt h (Nat.le_of_ble_eq_true hk)
noncomputable def atL {α : Type} : List α → Nat → Option α
  | [], _ => none
  | a :: _, 0 => some a
  | _ :: l, n + 1 => atL l n
theorem mem_at {α : Type} {a : α} : ∀ {l : List α} (i : Nat), atL l i = some a → a ∈ l
  | [], _, h => nomatch h
  | _ :: _, 0, h => Option.some.inj h ▸ List.mem_cons_self
  | _ :: _, n + 1, h => List.mem_cons_of_mem _ (mem_at n h)
noncomputable def dropL {α : Type} : Nat → List α → List α
  | 0, l => l
  | n + 1, l => dropL n l.tail
theorem mem_dropL {α : Type} {a : α} : ∀ {n : Nat} {l : List α}, a ∈ dropL n l → a ∈ l
  | 0, _, h => h
  | n + 1, _, h => List.mem_of_mem_tail (mem_dropL (n := n) h)
/-- the entries at the places `is`, and behind them the list less its first `n - 1` entries (nothing where n = 0) -/
noncomputable def pickL {α : Type} (l : List α) (n : Nat) : List Nat → List α
  | [] => match n with
    | 0 => []
    | n + 1 => dropL n l
  | i :: is => match atL l i with
    | some a => a :: pickL l n is
    | none => []
theorem sub_pick {α : Type} {l l' : List α} (n : Nat) (is : List Nat) (h : pickL l n is = l') : ∀ q ∈ l', q ∈ l := by
  subst h
  induction is with
  | nil =>
    cases n with
    | zero => exact fun _ h => absurd h List.not_mem_nil
    | succ n => exact fun _ h => mem_dropL h
  | cons i is ih =>
    intro q hq
    unfold pickL at hq
    cases e : atL l i with
    | none => rw [e] at hq; exact absurd hq List.not_mem_nil
    | some a =>
      rw [e] at hq
      rcases List.mem_cons.mp hq with rfl | hq
      · exact mem_at i e
      · exact ih q hq
inductive Ix {α : Type} (a : α) : List α → Nat → Prop
  | z (l : List α) : Ix a (a :: l) 0
  | s (b : α) (l : List α) (i : Nat) (h : Ix a l i) : Ix a (b :: l) (Nat.succ i)
inductive Tl {α : Type} (r : List α) : List α → Nat → Prop
  | z : Tl r r 1
  | s (b : α) (l : List α) (i : Nat) (h : Tl r l i) : Tl r (b :: l) (Nat.succ i)
inductive Pk {α : Type} (l : List α) (n : Nat) : List α → List Nat → Prop
  | tail (r : List α) (h : Tl r l n) : Pk l n r []
  | nil (h : n = 0) : Pk l n [] []
  | cons (a : α) (r : List α) (i : Nat) (is : List Nat) (h : Ix a l i) (k : Pk l n r is) : Pk l n (a :: r) (i :: is)
noncomputable def Me {α : Type} (a : α) (l : List α) (_ : Nat) : Prop := a ∈ l
noncomputable def Mp {α : Type} (l' l : List α) (_ : Nat) (_ : List Nat) : Prop := ∀ q ∈ l', q ∈ l
noncomputable def Dm {α : Type} (a : α) (l : List α) (i : Nat) : Prop := Ix a l i → Me a l i
noncomputable def Dp {α : Type} (l' l : List α) (n : Nat) (is : List Nat) : Prop := Pk l n l' is → Mp l' l n is
theorem me {α : Type} {a : α} {l : List α} {i : Nat} (h : atL l i = some a) : Me a l i := mem_at i h
theorem mp {α : Type} {l' l : List α} {n : Nat} {is : List Nat} (h : pickL l n is = l') : Mp l' l n is := sub_pick n is h
theorem letN {h₀ h : Heap} {L : Addr} {l : List (Addr × Obj)} {P : Prop} (N : News h₀ L h l) (k : let l' := l; News h₀ L h l' → P) : P := k N
theorem letA {α : Type} {M : Model} {A : Around} {t : Sem α} {Q : α → Shared → Prop} {E : Value → Shared → Prop} {s : Shared}
    (h : let a := A; wpAny M a t Q E s) : wpAny M A t Q E s := h
theorem letF {h₀ h : Heap} {L : Addr} {m : Str → Option Value} {P : Prop} (F : Fr h₀ L h m) (k : let m' := m; Fr h₀ L h m' → P) : P := k F
theorem nameL {α : Type} {P : Prop} (t : α) (h : ∀ e, e = t → P) : P := h t rfl
theorem foldE {α : Type} {M : Model} {A : Around} {t : Sem α} {Q : α → Shared → Prop} {E : Value → Shared → Prop} {s : Shared}
    (h : ∀ (e : Value → Shared → Prop), (∀ v s, E v s → e v s) → wpAny M A t Q e s) : wpAny M A t Q E s := h E (fun _ _ x => x)
theorem letQ {α : Type} {M : Model} {A : Around} {t : Sem α} {Q : α → Shared → Prop} {E : Value → Shared → Prop} {s : Shared}
    (h : let q := Q; wpAny M A t q E s) : wpAny M A t Q E s := h
end

section
open PySem.Calls LCg LCt LCp PySem.Spec

theorem off1_mem {D : Addr} : ∀ {l : List (Addr × Obj)}, Off1 D l → ∀ p ∈ l, p.1 ≠ D
  | [], _, _, h => nomatch h
  | _ :: _, x, p, h => by
    rcases List.mem_cons.mp h with rfl | h
    · exact x.1
    · exact off1_mem x.2 p h
theorem off1_of {D : Addr} : ∀ {l : List (Addr × Obj)}, (∀ p ∈ l, p.1 ≠ D) → Off1 D l
  | [], _ => trivial
  | _ :: _, h => ⟨h _ List.mem_cons_self, off1_of fun p hp => h p (List.mem_cons_of_mem _ hp)⟩
theorem News.sub {h₀ h : Heap} {L : Addr} {n n' : List (Addr × Obj)} (N : News h₀ L h n) (hs : ∀ p ∈ n', p ∈ n) : News h₀ L h n' := fun p hp => N p (hs p hp)
theorem News.tl {h₀ h : Heap} {L : Addr} {a : Addr × Obj} {n : List (Addr × Obj)} (N : News h₀ L h (a :: n)) : News h₀ L h n := fun p hp => N p (List.mem_cons_of_mem _ hp)
theorem News.drop2 {h₀ h : Heap} {L : Addr} {a b : Addr × Obj} {n : List (Addr × Obj)} (N : News h₀ L h (a :: b :: n)) : News h₀ L h (a :: n) := fun p hp => by
  rcases List.mem_cons.mp hp with rfl | hp
  · exact N _ List.mem_cons_self
  · exact N _ (List.mem_cons_of_mem _ (List.mem_cons_of_mem _ hp))
theorem News.rot3 {h₀ h : Heap} {L : Addr} {a b c p : Addr × Obj} {r : List (Addr × Obj)} (N : News h₀ L h (a :: b :: c :: p :: r)) : News h₀ L h (p :: a :: b :: c :: r) := News.sub N fun q hq => by
  simp only [List.mem_cons] at hq ⊢
  rcases hq with h | h | h | h | h <;> simp [h]
theorem News.unrot3 {h₀ h : Heap} {L : Addr} {a b c p : Addr × Obj} {e r : List (Addr × Obj)} (N : News h₀ L h (e ++ p :: a :: b :: c :: r)) : News h₀ L h (a :: b :: c :: p :: (e ++ r)) := News.sub N fun q hq => by
  simp only [List.mem_cons, List.mem_append] at hq ⊢
  rcases hq with h | h | h | h | h | h <;> simp [h]
theorem News.fin1 {h₀ h : Heap} {L : Addr} {t i d l p : Addr × Obj} {e2 e1 r : List (Addr × Obj)} (N : News h₀ L h (t :: i :: d :: l :: p :: (e2 ++ (e1 ++ r)))) : News h₀ L h (i :: d :: l :: p :: ((t :: (e2 ++ e1)) ++ r)) := News.sub N fun q hq => by
  simp only [List.mem_cons, List.mem_append, List.cons_append] at hq ⊢
  rcases hq with h | h | h | h | h | (h | h) | h <;> simp [h]
theorem off1_append {D : Addr} {a b : List (Addr × Obj)} (h : Off1 D a) (k : Off1 D b) : Off1 D (a ++ b) := off1_of fun p hp => by
  rcases List.mem_append.mp hp with hp | hp
  · exact off1_mem h p hp
  · exact off1_mem k p hp
theorem off1_swap {e l : List (Addr × Obj)} (h : ∀ q ∈ e, Off1 q.1 l) {D : Addr} {o : Obj} (hm : (D, o) ∈ l) : Off1 D e := off1_of fun p hp => Ne.symm (off1_mem (h p hp) _ hm)
theorem off1_sub {D : Addr} {a b : List (Addr × Obj)} (h : Off1 D b) (hs : ∀ p ∈ a, p ∈ b) : Off1 D a := off1_of fun p hp => off1_mem h p (hs p hp)
noncomputable def Sealed (P : Prop) : Prop := P
theorem openSeal {P : Prop} (h : Sealed P) : P := h
inductive SameLed (h₀ : Heap) (L : Addr) (m : Str → Option Value) (s : Shared) (led : List (Addr × Obj)) (s' : Shared) : Prop
  | mk (h' : Heap) (tk' : Nat) (e : s' = { s with heap := h', toks := tk' }) (F : Fr h₀ L h' m) (N : News h₀ L h' led) : SameLed h₀ L m s led s'
section
variable {prog : Program} {w : World} {A : Around} {E : Value → Shared → Prop} {s : Shared} {h₀ : Heap} {L : Addr} {m : Str → Option Value} {env : Env}

theorem CompEnd.up {h₀ : Heap} {L I C D : Addr} {m : Str → Option Value} {s₁ : Shared} {oI oC oD : Obj} {S : List (Addr × Obj) → Prop} {r r' : Value → List (Addr × Obj) → Prop} {y : Value} {s₂ : Shared} (f : ∀ y n, r y n → r' y n)
    (h : CompEnd h₀ L m s₁ I oI C oC D oD S r y s₂) : CompEnd h₀ L m s₁ I oI C oC D oD S r' y s₂ := by
  refine h.imp fun h' => Exists.imp fun tk' => Exists.imp fun news' => And.imp_right (And.imp_right (And.imp_right (And.imp_right (And.imp_right (f _ _)))))
theorem ite_up {c a b a' b' : Prop} [Decidable c] (ha : a → a') (hb : b → b') (h : if c then a else b) : if c then a' else b' := by
  by_cases k : c
  · rw [if_pos k] at h ⊢; exact ha h
  · rw [if_neg k] at h ⊢; exact hb h
theorem wp_up {α : Type} {M : Model} {A : Around} {t : Sem α} {Q Q' : α → Shared → Prop} {E : Value → Shared → Prop} {s : Shared} (f : ∀ v s, Q v s → Q' v s) (h : wpAny M A t Q E s) : wpAny M A t Q' E s := wpAny_mono h f fun _ _ e => e
theorem same_at {J : Nat → List Value → List (Addr × Obj) → Prop} {i n : Nat} {ys : List Value} {news : List (Addr × Obj)} (e : i + 0 = n) (h : J i ys news) : J n ys news := e ▸ h
theorem turn_lt {i k n : Nat} (e : i + (k + 1) = n) : i < n ∧ i + 1 + k = n := by lia
theorem restT_J {ct elt : PySem.Expr} {x : Str} {scope : Scope} {cl : List (Str × Addr)} {S : List (Addr × Obj) → Prop} {P : Nat → Value → Prop} {Fin : List Value → List (Addr × Obj) → Prop} {n : Nat}
    (J : Nat → List Value → List (Addr × Obj) → Prop)
    (turn : ∀ i v ys news, i < n → P i v → J i ys news → ∀ I oI C oC D m₂ h tk (E' : Value → Shared → Prop), NsObj oC m₂ → m₂ x = some v → Fr h₀ L h m → News h₀ L h ((I, oI) :: (C, oC) :: (D, lst ys) :: news) → Off3 I C D news → ((@Ne Nat I C) ∧ (@Ne Nat I D) ∧ (@Ne Nat C D)) →
      wpAny (model prog w) A (isTrue ct (compEnvC scope cl C env) (eval ct (compEnvC scope cl C env))) (fun ok s' => if ok = true then
        wpAny (model prog w) A (eval elt (compEnvC scope cl C env)) (CompEnd h₀ L m { s with heap := h, toks := tk } I oI C oC D (lst ys) S (fun y news' => J (i + 1) (ys ++ [y]) news')) E' s'
        else CompEnd h₀ L m { s with heap := h, toks := tk } I oI C oC D (lst ys) S (fun _ news' => J (i + 1) ys news') Value.none s') E' { s with heap := h, toks := tk })
    (fin : ∀ ys news, J n ys news → Fin ys news) : ∀ k i ys news, i + k = n → J i ys news → CompRestT prog w A h₀ L m env ct elt x scope cl s S P Fin k i ys news := by
  intro k
  induction k with
  | zero => exact fun i ys news e hJ => fin ys news (same_at e hJ)
  | succ k ih => exact fun i ys news e hJ => fun v I oI C oC D m₂ h tk E' hP a1 a2 a3 a4 a5 a6 => wp_up (fun ok s' => ite_up (wp_up fun y s₂ => CompEnd.up fun y n => ih (i + 1) _ n (turn_lt e).2) (CompEnd.up fun y n => ih (i + 1) _ n (turn_lt e).2)) (turn i v ys news (turn_lt e).1 hP hJ I oI C oC D m₂ h tk E' a1 a2 a3 a4 a5 a6)
theorem restU_J {elt : PySem.Expr} {x : Str} {scope : Scope} {cl : List (Str × Addr)} {S : List (Addr × Obj) → Prop} {P : Nat → Value → Prop} {Fin : List Value → List (Addr × Obj) → Prop} {n : Nat}
    (J : Nat → List Value → List (Addr × Obj) → Prop)
    (turn : ∀ i v ys news, i < n → P i v → J i ys news → ∀ I oI C oC D m₂ h tk (E' : Value → Shared → Prop), NsObj oC m₂ → m₂ x = some v → Fr h₀ L h m → News h₀ L h ((I, oI) :: (C, oC) :: (D, lst ys) :: news) → Off3 I C D news → ((@Ne Nat I C) ∧ (@Ne Nat I D) ∧ (@Ne Nat C D)) →
        wpAny (model prog w) A (eval elt (compEnvC scope cl C env)) (CompEnd h₀ L m { s with heap := h, toks := tk } I oI C oC D (lst ys) S (fun y news' => J (i + 1) (ys ++ [y]) news')) E' { s with heap := h, toks := tk })
    (fin : ∀ ys news, J n ys news → Fin ys news) : ∀ k i ys news, i + k = n → J i ys news → CompRest prog w A h₀ L m env elt x scope cl s S P Fin k i ys news := by
  intro k
  induction k with
  | zero => exact fun i ys news e hJ => fin ys news (same_at e hJ)
  | succ k ih => exact fun i ys news e hJ => fun v I oI C oC D m₂ h tk E' hP a1 a2 a3 a4 a5 a6 => wp_up (fun y s₂ => CompEnd.up fun y n => ih (i + 1) _ n (turn_lt e).2) (turn i v ys news (turn_lt e).1 hP hJ I oI C oC D m₂ h tk E' a1 a2 a3 a4 a5 a6)
theorem restP_J {elt : PySem.Expr} {x x₂ : Str} {scope : Scope} {cl : List (Str × Addr)} {S : List (Addr × Obj) → Prop} {P : Nat → Value → Prop} {Fin : List Value → List (Addr × Obj) → Prop} {n : Nat}
    (J : Nat → List Value → List (Addr × Obj) → Prop)
    (turn : ∀ i v ys news, i < n → P i v → J i ys news → ∃ (t : Addr) (ot : Obj) (v₁ v₂ : Value) (nt : Nat), v = .ref t ∧ (t, ot) ∈ news ∧ ot.cls = .type "tuple" ∧ ot.data = .seq #[v₁, v₂] nt ∧
      ∀ I oI C oC D m₂ h tk (E' : Value → Shared → Prop), NsObj oC m₂ → m₂ x = some v₁ → m₂ x₂ = some v₂ → Fr h₀ L h m → News h₀ L h ((I, oI) :: (C, oC) :: (D, lst ys) :: news) → Off3 I C D news → ((@Ne Nat I C) ∧ (@Ne Nat I D) ∧ (@Ne Nat C D)) →
        wpAny (model prog w) A (eval elt (compEnvC scope cl C env)) (CompEnd h₀ L m { s with heap := h, toks := tk } I oI C oC D (lst ys) S (fun y news' => J (i + 1) (ys ++ [y]) news')) E' { s with heap := h, toks := tk })
    (fin : ∀ ys news, J n ys news → Fin ys news) : ∀ k i ys news, i + k = n → J i ys news → CompRestP prog w A h₀ L m env elt x x₂ scope cl s S P Fin k i ys news := by
  intro k
  induction k with
  | zero => exact fun i ys news e hJ => fin ys news (same_at e hJ)
  | succ k ih =>
    intro i ys news e hJ v hP
    refine hideG fun GG hGG => ?_
    obtain ⟨t, ot, v₁, v₂, nt, c1, c2, c3, c4, go⟩ := turn i v ys news (turn_lt e).1 hP hJ
    refine hGG ?_
    clear hGG GG
    exact ⟨t, ot, v₁, v₂, nt, c1, c2, c3, c4, fun I oI C oC D m₂ h tk E' a1 a2 a3 a4 a5 a6 a7 => wp_up (fun y s₂ => CompEnd.up fun y n => ih (i + 1) _ n (turn_lt e).2) (go I oI C oC D m₂ h tk E' a1 a2 a3 a4 a5 a6 a7)⟩

/-- a block with a test whose turns leave the ledger as it is -/
theorem restT_same {α β : Type} (test : α → Bool) (val : α → β) {RR : α → Value → Prop} {RS : β → Value → Prop} {as : List α} {vs : List Value} (hA : All2 RR as vs)
    {ct elt : PySem.Expr} {x : Str} {scope : Scope} {cl : List (Str × Addr)} {S : List (Addr × Obj) → Prop} {Fin : List Value → List (Addr × Obj) → Prop} {news : List (Addr × Obj)} (hS : S news)
    (turn : ∀ a v ys, RR a v → ∀ I oI C oC D m₂ h tk (E' : Value → Shared → Prop), NsObj oC m₂ → m₂ x = some v → Fr h₀ L h m → News h₀ L h ((I, oI) :: (C, oC) :: (D, lst ys) :: news) → Off3 I C D news → ((@Ne Nat I C) ∧ (@Ne Nat I D) ∧ (@Ne Nat C D)) →
      wpAny (model prog w) A (isTrue ct (compEnvC scope cl C env) (eval ct (compEnvC scope cl C env))) (fun ok s' => ok = test a ∧ SameLed h₀ L m s ((I, oI) :: (C, oC) :: (D, lst ys) :: news) s') E' { s with heap := h, toks := tk })
    (elm : ∀ a v ys, RR a v → ∀ I oI C oC D m₂ h tk (E' : Value → Shared → Prop), NsObj oC m₂ → m₂ x = some v → Fr h₀ L h m → News h₀ L h ((I, oI) :: (C, oC) :: (D, lst ys) :: news) → Off3 I C D news → ((@Ne Nat I C) ∧ (@Ne Nat I D) ∧ (@Ne Nat C D)) →
        wpAny (model prog w) A (eval elt (compEnvC scope cl C env)) (fun y s' => RS (val a) y ∧ SameLed h₀ L m s ((I, oI) :: (C, oC) :: (D, lst ys) :: news) s') E' { s with heap := h, toks := tk })
    (fin : ∀ ys, All2 RS ((as.filter test).map val) ys → Fin ys news) :
    CompRestT prog w A h₀ L m env ct elt x scope cl s S (fun i v => vs.toArray[i]? = some v) Fin vs.toArray.size 0 [] news := by
  have hl := hA.length
  refine restT_J (n := vs.length) (fun i ys news' => news' = news ∧ All2 RS (((as.take i).filter test).map val) ys) ?_ ?_ _ _ _ _ (by simp) ⟨rfl, by simpa using All2.nil⟩
  · rintro i v ys news' hi hP ⟨rfl, hJ⟩ I oI C oC D m₂ h tk E' a1 a2 a3 a4 a5 a6
    refine hideG fun GG hGG => ?_
    obtain ⟨a, ha, hr⟩ := hA.get' (i := i) (b := v) (by simpa using hP)
    refine hGG ?_
    clear hGG GG
    have ht : as.take (i + 1) = as.take i ++ [a] := by rw [List.take_add_one, ha]; rfl
    refine wpAny_mono (turn a v ys hr I oI C oC D m₂ h tk E' a1 a2 a3 a4 a5 a6) (fun ok s' h' => ?_) fun _ _ e => e
    refine hideG fun GG hGG => ?_
    obtain ⟨hok, h', tk', rfl, F', N'⟩ := h'
    refine hGG ?_
    clear hGG GG
    have sub : ∀ {q : List (Addr × Obj)}, ∀ p ∈ q, p ∈ q := fun p h => h
    cases ok with
    | true =>
      rw [if_pos rfl]
      refine wpAny_mono (elm a v ys hr I oI C oC D m₂ h' tk' E' a1 a2 F' N' a5 a6) (fun y s₂ h₂ => ?_) fun _ _ e => e
      refine hideG fun GG hGG => ?_
      obtain ⟨hy, h₂, tk₂, rfl, F₂, N₂⟩ := h₂
      refine hGG ?_
      clear hGG GG
      refine ⟨h₂, tk₂, news', rfl, F₂, N₂, a5, hS, rfl, ?_⟩
      rw [ht, List.filter_append, List.map_append]
      simp only [List.filter_cons, ← hok, List.filter_nil, if_true, List.map_cons, List.map_nil]
      exact hJ.snoc hy
    | false =>
      rw [if_neg Bool.false_ne_true]
      refine ⟨h', tk', news', rfl, F', N', a5, hS, rfl, ?_⟩
      rw [ht, List.filter_append, List.map_append]
      simp only [List.filter_cons, ← hok, List.filter_nil, Bool.false_eq_true, if_false, List.map_nil, List.append_nil]
      exact hJ
  · rintro ys news' ⟨rfl, hJ⟩
    rw [← hl, List.take_length] at hJ
    exact fin ys hJ

theorem restU_same {α β : Type} (val : α → β) {RR : α → Value → Prop} {RS : β → Value → Prop} {as : List α} {vs : List Value} (hA : All2 RR as vs)
    {elt : PySem.Expr} {x : Str} {scope : Scope} {cl : List (Str × Addr)} {S : List (Addr × Obj) → Prop} {Fin : List Value → List (Addr × Obj) → Prop} {news : List (Addr × Obj)} (hS : S news)
    (elm : ∀ a v ys, RR a v → ∀ I oI C oC D m₂ h tk (E' : Value → Shared → Prop), NsObj oC m₂ → m₂ x = some v → Fr h₀ L h m → News h₀ L h ((I, oI) :: (C, oC) :: (D, lst ys) :: news) → Off3 I C D news → ((@Ne Nat I C) ∧ (@Ne Nat I D) ∧ (@Ne Nat C D)) →
        wpAny (model prog w) A (eval elt (compEnvC scope cl C env)) (fun y s' => RS (val a) y ∧ SameLed h₀ L m s ((I, oI) :: (C, oC) :: (D, lst ys) :: news) s') E' { s with heap := h, toks := tk })
    (fin : ∀ ys, All2 RS (as.map val) ys → Fin ys news) :
    CompRest prog w A h₀ L m env elt x scope cl s S (fun i v => vs.toArray[i]? = some v) Fin vs.toArray.size 0 [] news := by
  have hl := hA.length
  refine restU_J (n := vs.length) (fun i ys news' => news' = news ∧ All2 RS ((as.take i).map val) ys) ?_ ?_ _ _ _ _ (by simp) ⟨rfl, by simpa using All2.nil⟩
  · rintro i v ys news' hi hP ⟨rfl, hJ⟩ I oI C oC D m₂ h tk E' a1 a2 a3 a4 a5 a6
    refine hideG fun GG hGG => ?_
    obtain ⟨a, ha, hr⟩ := hA.get' (i := i) (b := v) (by simpa using hP)
    refine hGG ?_
    clear hGG GG
    have ht : as.take (i + 1) = as.take i ++ [a] := by rw [List.take_add_one, ha]; rfl
    refine wpAny_mono (elm a v ys hr I oI C oC D m₂ h tk E' a1 a2 a3 a4 a5 a6) (fun y s₂ h₂ => ?_) fun _ _ e => e
    refine hideG fun GG hGG => ?_
    obtain ⟨hy, h₂, tk₂, rfl, F₂, N₂⟩ := h₂
    refine hGG ?_
    clear hGG GG
    refine ⟨h₂, tk₂, news', rfl, F₂, N₂, a5, hS, rfl, ?_⟩
    rw [ht, List.map_append]
    exact hJ.snoc hy
  · rintro ys news' ⟨rfl, hJ⟩
    rw [← hl, List.take_length] at hJ
    exact fin ys hJ
end
end

section
open PySem.Calls LCg LCt LCp PySem.Spec

/-- how an iterator hands out its items to a loop's target -/
structure Prot (prog : Program) (w : World) (A : Around) (target : PySem.Expr) (I : Addr) (fp : List Addr) (n : Nat) (P : Nat → Value → List (Addr × Obj) → Prop) (St : Nat → Heap → Prop) : Prop where
  frame : ∀ i h h', St i h → (∀ b ∈ fp, ∀ o, h.get? b = some o → h'.get? b = some o) → St i h'
  item : ∀ i (s : Shared) (Q : Value → Shared → Prop) (E E' : Value → Shared → Prop), i < n → St i s.heap →
    (∀ v ex h' tk, P i v ex → St (i + 1) h' → (∀ b o, b ≠ I → s.heap.get? b = some o → h'.get? b = some o) → (∀ p ∈ ex, h'.get? p.1 = some p.2 ∧ s.heap.objs.size ≤ p.1) → Q v { s with heap := h', toks := tk }) →
    wpAny (model prog w) A (pyNext (.ref I)) (fun r s₁ => ∃ v, r = some v ∧ wpAny (model prog w) A (letOwnedTupleGo target (.ref I) v) (fun _ s₂ => Q v s₂) E' s₁) E s
  done : ∀ (s : Shared) (Q : Option Value → Shared → Prop) (E : Value → Shared → Prop), St n s.heap →
    (∀ h' tk, (∀ b o, b ≠ I → s.heap.get? b = some o → h'.get? b = some o) → Q none { s with heap := h', toks := tk }) → wpAny (model prog w) A (pyNext (.ref I)) Q E s

/-- an iterator that hands out what is there already -/
theorem Prot.of {prog : Program} {w : World} {A : Around} {target : PySem.Expr} {I : Addr} {fp : List Addr} {n : Nat} {P : Nat → Value → Prop} {St : Nat → Heap → Prop} (W : Walks prog w A I fp [I] n P St)
    (go : ∀ i (s : Shared) v (Q : Unit → Shared → Prop) (E : Value → Shared → Prop), St i s.heap → Q () s → (∃ j, P j v) → wpAny (model prog w) A (letOwnedTupleGo target (.ref I) v) Q E s) :
    Prot prog w A target I fp n (fun i v ex => P i v ∧ ex = []) St where
  frame := W.frame
  item := fun i s Q E E' hi st hQ => W.item i s _ E hi st fun v h' tk hP st' hk => ⟨v, rfl, go (i + 1) _ v _ _ st' (hQ v [] h' tk ⟨hP, rfl⟩ st' (fun b o hb e => hk b o (by simpa using hb) e) fun p hp => nomatch hp) ⟨i, hP⟩⟩
  done := fun s Q E st hQ => W.done s Q E st fun h' tk hk => hQ h' tk fun b o hb e => hk b o (by simpa using hb) e

/-- two frame maps that agree off some names -/
noncomputable def AgreeOff (xs : List Str) (m₁ m₀ : Str → Option Value) : Prop := ∀ y, y ∉ xs → m₁ y = m₀ y
noncomputable def canonL (xs : List Str) (m₁ m₀ : Str → Option Value) : Str → Option Value := xs.foldr (fun a f y => if y = a then m₁ a else f y) m₀
theorem AgreeOff.canon : ∀ {xs : List Str} {m₁ m₀ : Str → Option Value}, AgreeOff xs m₁ m₀ → m₁ = canonL xs m₁ m₀
  | [], m₁, m₀, h => funext fun y => h y (by simp)
  | a :: r, m₁, m₀, h => by
    let m₂ : Str → Option Value := fun y => if y = a then m₀ a else m₁ y
    have h2 : AgreeOff r m₂ m₀ := fun y hy => by
      show (if y = a then m₀ a else m₁ y) = m₀ y
      by_cases e : y = a
      · rw [if_pos e, e]
      · rw [if_neg e]; exact h y (by simp [e, hy])
    funext y
    show m₁ y = if y = a then m₁ a else canonL r m₁ m₀ y
    by_cases e : y = a
    · rw [if_pos e, e]
    · rw [if_neg e]
      have q : ∀ (r : List Str), AgreeOff (a :: r) m₁ m₀ → y ≠ a → m₁ y = canonL r m₁ m₀ y := by
        intro r
        induction r with
        | nil => intro h e; exact h y (by simp [e])
        | cons b r ih =>
          intro h e
          show m₁ y = if y = b then m₁ b else canonL r m₁ m₀ y
          by_cases eb : y = b
          · rw [if_pos eb, eb]
          · rw [if_neg eb]
            by_cases hm : y ∈ r
            · exact (fun r (hm : y ∈ r) => by
                induction r with
                | nil => cases hm
                | cons c r ih =>
                  show m₁ y = if y = c then m₁ c else canonL r m₁ m₀ y
                  by_cases ec : y = c
                  · rw [if_pos ec, ec]
                  · rw [if_neg ec]; exact ih ((List.mem_cons.mp hm).resolve_left ec) : ∀ r, y ∈ r → m₁ y = canonL r m₁ m₀ y) r hm
            · have hy : m₁ y = m₀ y := h y (by simp [e, eb, hm])
              have : ∀ r : List Str, y ∉ r → canonL r m₁ m₀ y = m₀ y := by
                intro r
                induction r with
                | nil => intro _; rfl
                | cons c r ih =>
                  intro hn
                  show (if y = c then m₁ c else canonL r m₁ m₀ y) = m₀ y
                  rw [if_neg (fun q => hn (by simp [q]))]
                  exact ih fun q => hn (by simp [q])
              rw [this r hm, hy]
      exact q r h e
theorem AgreeOff.refl (xs : List Str) (m : Str → Option Value) : AgreeOff xs m m := fun _ _ => rfl
noncomputable def LStep (DD : Drawn → Prop) (h₀ : Heap) (L I : Addr) (oI : Obj) (Jn : (Str → Option Value) → List (Addr × Obj) → Prop) (s : Shared) (Qr : Value → Shared → Prop) (Qb : Shared → Prop) (f : Flow) (s₂ : Shared) : Prop :=
  match f with
  | .ret v => Qr v s₂
  | .brk => Qb s₂
  | _ => Ex5 fun h' tk dr m₂ news₂ => Co6 (s₂ = { s with heap := h', toks := tk, drawn := dr }) (DD dr) (Fr h₀ L h' m₂) (News h₀ L h' ((I, oI) :: news₂)) (Off1 I news₂) (Jn m₂ news₂)

noncomputable def Turn (DD : Drawn → Prop) (prog : Program) (w : World) (A : Around) (h₀ : Heap) (env : Env) (target : PySem.Expr) (body : List Stmt) (s : Shared) (I : Addr) (n : Nat) (P : Nat → Value → List (Addr × Obj) → Prop) (J : Nat → (Str → Option Value) → List (Addr × Obj) → Prop) (Qr : Value → Shared → Prop) (Qb : Shared → Prop) : Prop :=
  ∀ i v ex m₁ news₁ h tk dr oI (E' : Value → Shared → Prop), DD dr → i < n → P i v ex → J i m₁ news₁ → Fr h₀ env.locals h m₁ → News h₀ env.locals h ((I, oI) :: (ex ++ news₁)) → Off1 I (ex ++ news₁) → (∀ p ∈ ex, Off1 p.1 news₁) →
    wpAny (model prog w) A (assign target env v) (fun _ s₂ => wpAny (model prog w) A (execs body env) (LStep DD h₀ env.locals I oI (J (i + 1)) s Qr Qb) E' s₂) E' { s with heap := h, toks := tk, drawn := dr }

noncomputable def TurnX (DD : Drawn → Prop) (prog : Program) (w : World) (A : Around) (h₀ : Heap) (env : Env) (target : PySem.Expr) (body : List Stmt) (s : Shared) (I : Addr) (n : Nat) (P : Nat → Value → List (Addr × Obj) → Prop) (xs : List Str) (m : Str → Option Value) (J : Nat → (Str → Option Value) → List (Addr × Obj) → Prop) (Qr : Value → Shared → Prop) (Qb : Shared → Prop) : Prop :=
  ∀ i v ex o news₁ h tk dr oI (E' : Value → Shared → Prop), DD dr → i < n → P i v ex → J i (canonL xs o m) news₁ → Fr h₀ env.locals h (canonL xs o m) → News h₀ env.locals h ((I, oI) :: (ex ++ news₁)) → Off1 I (ex ++ news₁) → (∀ p ∈ ex, Off1 p.1 news₁) →
    wpAny (model prog w) A (assign target env v) (fun _ s₂ => wpAny (model prog w) A (execs body env) (LStep DD h₀ env.locals I oI (fun m₂ nw => AgreeOff xs m₂ m ∧ J (i + 1) m₂ nw) s Qr Qb) E' s₂) E' { s with heap := h, toks := tk, drawn := dr }
theorem TurnX.turn {DD : Drawn → Prop} {prog : Program} {w : World} {A : Around} {h₀ : Heap} {env : Env} {target : PySem.Expr} {body : List Stmt} {s : Shared} {I : Addr} {n : Nat} {P : Nat → Value → List (Addr × Obj) → Prop} {xs : List Str} {m : Str → Option Value} {J : Nat → (Str → Option Value) → List (Addr × Obj) → Prop} {Qr : Value → Shared → Prop} {Qb : Shared → Prop}
    (h : TurnX DD prog w A h₀ env target body s I n P xs m J Qr Qb) : Turn DD prog w A h₀ env target body s I n P (fun i m₁ nw => AgreeOff xs m₁ m ∧ J i m₁ nw) Qr Qb := by
  rintro i v ex m₁ news₁ hp tk dr oI E' hD hi hP ⟨ha, hJ⟩ F N o1 o2
  rw [ha.canon] at F hJ
  exact h i v ex m₁ news₁ hp tk dr oI E' hD hi hP hJ F N o1 o2

section
variable {prog : Program} {w : World} {A : Around} {E : Value → Shared → Prop} {s : Shared} {h₀ : Heap} {m : Str → Option Value} {env : Env}

theorem forLed {R : Result → Shared → Prop} {target : PySem.Expr} {body : List Stmt} {I : Addr} {fp : List Addr} {n : Nat} {P : Nat → Value → List (Addr × Obj) → Prop} {St : Nat → Heap → Prop} {S : List (Addr × Obj) → Prop} {news : List (Addr × Obj)}
    (W : Prot prog w A target I fp n P St) (hIo : ∀ i h, St i h → ∃ o, h.get? I = some o)
    (hSt : ∀ i h h' o nw, St i h → h.get? I = some o → h'.get? I = some o → (∀ b o, h₀.get? b = some o → h'.get? b = some o) → News h₀ env.locals h' nw → S nw → St i h')
    (hIL : env.locals ≠ I) (hI₀ : h₀.get? I = none) (hst : St 0 s.heap) (F : Fr h₀ env.locals s.heap m) (N : News h₀ env.locals s.heap news) (off : Off1 I news)
    (DD : Drawn → Prop) (hD : DD s.drawn) (J : Nat → (Str → Option Value) → List (Addr × Obj) → Prop) (hJS : ∀ i m nw, J i m nw → S nw) (h0 : J 0 m news)
    (step : Turn DD prog w A h₀ env target body s I n P J (fun v s' => R (.ok (.ret v)) s') (fun s' => R (.ok .next) s'))
    (hR : ∀ h' tk dr m' news', DD dr → Fr h₀ env.locals h' m' → News h₀ env.locals h' news' → J n m' news' → R (.ok .next) { s with heap := h', toks := tk, drawn := dr }) :
    codeAny (model prog w) A (.forLoop target (.ref I) body [] env) R s := by
  refine codeAny_forLoop_any
    (fun k s' => ∃ h' tk dr m' news' i, s' = { s with heap := h', toks := tk, drawn := dr } ∧ DD dr ∧ St i h' ∧ Fr h₀ env.locals h' m' ∧ News h₀ env.locals h' news' ∧ Off1 I news' ∧ J i m' news' ∧ i ≤ n ∧ k = n + 1 - i) ?_ (n + 1)
    ⟨s.heap, s.toks, s.drawn, m, news, 0, rfl, hD, hst, F, N, off, h0, Nat.zero_le _, rfl⟩
  rintro k s' ⟨H, tk, dr, m', news', i, rfl, hDr, hst', F', N', off', hJ, hi, rfl⟩
  have next : ∀ h₁ : Heap, (∀ b o, b ≠ I → H.get? b = some o → h₁.get? b = some o) → Fr h₀ env.locals h₁ m' ∧ News h₀ env.locals h₁ news' := fun h₁ hk₁ =>
    ⟨⟨F'.ns.at' fun o e => hk₁ _ o hIL e, fun b o e => hk₁ b o (fun q => by rw [q, hI₀] at e; cases e) (F'.keep b o e), F'.above⟩, fun p hp => ⟨hk₁ _ _ (off1_mem off' p hp) (N' p hp).1, (N' p hp).2⟩⟩
  have hLlt : env.locals < H.objs.size := F'.ns.lt
  have fresh₀ : ∀ a, H.objs.size ≤ a → h₀.get? a = none := fun a ha => by
    cases e : h₀.get? a with
    | none => rfl
    | some o' => exact absurd (Heap.lt_size (F'.keep a o' e)) (Nat.not_lt.mpr ha)
  by_cases hlt : i < n
  · obtain ⟨oH, eH⟩ := hIo _ _ hst'
    have hIlt : I < H.objs.size := Heap.lt_size eH
    refine wpAny_mono (W.item i { s with heap := H, toks := tk, drawn := dr } (fun v s₂ => wpAny (model prog w) A (assign target env v) (fun _ s₂ => wpAny (model prog w) A (execs body env) (fun f s₃ => match f with
            | .next | .cont => ∃ m, m < n + 1 - i ∧ ∃ h' tk dr m' news' i, s₃ = { s with heap := h', toks := tk, drawn := dr } ∧ DD dr ∧ St i h' ∧ Fr h₀ env.locals h' m' ∧ News h₀ env.locals h' news' ∧ Off1 I news' ∧ J i m' news' ∧ i ≤ n ∧ m = n + 1 - i
            | .brk => R (.ok .next) s₃
            | .ret v => R (.ok (.ret v)) s₃) (notedBy (model prog w) A env fun e s' => R (.error e) s') s₂) (notedBy (model prog w) A env fun e s' => R (.error e) s') s₂) (notedBy (model prog w) A env fun e s' => R (.error e) s') (notedBy (model prog w) A env fun e s' => R (.error e) s') hlt hst' fun v ex h₁ tk₁ hP hst₁ hk₁ hex => ?_) (fun r s₁ h₁ => ?_) fun _ _ e => e
    rotate_left
    · refine hideG fun GG hGG => ?_
      obtain ⟨v, rfl, h₁⟩ := h₁
      refine hGG ?_
      clear hGG GG
      exact h₁
    · obtain ⟨F₁, N₁⟩ := next h₁ hk₁
      obtain ⟨oI, eI⟩ := hIo _ _ hst₁
      have Nx : News h₀ env.locals h₁ ((I, oI) :: (ex ++ news')) := fun p hp => by
        rcases List.mem_cons.mp hp with rfl | hp
        · exact ⟨eI, Ne.symm hIL, hI₀⟩
        · rcases List.mem_append.mp hp with hp | hp
          · exact ⟨(hex p hp).1, Ne.symm (Nat.ne_of_lt (Nat.lt_of_lt_of_le hLlt (hex p hp).2)), fresh₀ _ (hex p hp).2⟩
          · exact N₁ p hp
      have offx : Off1 I (ex ++ news') := off1_of fun p hp => by
        rcases List.mem_append.mp hp with hp | hp
        · exact Ne.symm (Nat.ne_of_lt (Nat.lt_of_lt_of_le hIlt (hex p hp).2))
        · exact off1_mem off' p hp
      have offe : ∀ p ∈ ex, Off1 p.1 news' := fun p hp => off1_of fun q hq => Nat.ne_of_lt (Nat.lt_of_lt_of_le (Heap.lt_size (N' q hq).1) (hex p hp).2)
      refine wpAny_mono (step i v ex m' news' h₁ tk₁ _ oI _ hDr hlt hP hJ F₁ Nx offx offe) (fun _ s₂ h₂ => wpAny_mono h₂ (fun f s₃ h₃ => ?_) fun _ _ e => e) fun _ _ e => e
      have fin : (Ex5 fun h' tk dr m₂ news₂ => Co6 (s₃ = { s with heap := h', toks := tk, drawn := dr }) (DD dr) (Fr h₀ env.locals h' m₂) (News h₀ env.locals h' ((I, oI) :: news₂)) (Off1 I news₂) (J (i + 1) m₂ news₂)) →
          ∃ k', k' < n + 1 - i ∧ ∃ h' tk dr m' news' i, s₃ = { s with heap := h', toks := tk, drawn := dr } ∧ DD dr ∧ St i h' ∧ Fr h₀ env.locals h' m' ∧ News h₀ env.locals h' news' ∧ Off1 I news' ∧ J i m' news' ∧ i ≤ n ∧ k' = n + 1 - i := by
        rintro ⟨h₃', tk₃, dr₃, m₂, news₂, rfl, hD₃, F₃, N₃, off₃, hJ₃⟩
        have N₃' : News h₀ env.locals h₃' news₂ := fun p hp => N₃ p (List.mem_cons_of_mem _ hp)
        exact ⟨n + 1 - (i + 1), by lia, h₃', tk₃, dr₃, m₂, news₂, i + 1, rfl, hD₃, hSt _ _ _ _ _ hst₁ eI (N₃ _ List.mem_cons_self).1 F₃.keep N₃' (hJS _ _ _ hJ₃), F₃, N₃', off₃, hJ₃, hlt, rfl⟩
      cases f with
      | ret v => exact h₃
      | brk => exact h₃
      | cont => exact fin h₃
      | next => exact fin h₃
  · have hin : i = n := by lia
    subst hin
    refine W.done _ _ _ hst' fun h₁ tk₁ hk₁ => wpAny_execs_nil ?_
    obtain ⟨F₁, N₁⟩ := next h₁ hk₁
    exact hR h₁ tk₁ _ m' news' hDr F₁ N₁ hJ

/-- what a `for` has to do with its iterable: sealed -/
noncomputable def LoopSrc (prog : Program) (w : World) (A : Around) (target : PySem.Expr) (body : List Stmt) (env : Env) (Q : Flow → Shared → Prop) (E : Value → Shared → Prop) (xv : Value) (s₁ : Shared) : Prop :=
  wpAny (model prog w) A (pyIter xv) (fun it s₂ => codeAny (model prog w) A (.forLoop target it body [] env) (fun r s' => match r with | .ok f => Q f s' | .error e => cameBackBy (model prog w) A env E e s') s₂) E s₁

theorem For_src {target iter : PySem.Expr} {body : List Stmt} {pos : Pos} {Q : Flow → Shared → Prop}
    (h : wpAny (model prog w) A (eval iter env) (fun xv s₁ => LoopSrc prog w A target body env Q E xv s₁) E s) (hs : ∀ x, foldedSetIterable iter env x = pure x) :
    wpAny (model prog w) A (exec (.For target iter body [] pos) env) Q E s := wpAny_For h hs

theorem fresh_at {h : Heap} {L : Addr} (F : Fr h₀ L h m) : h₀.get? h.objs.size = none := by
  cases e : h₀.get? h.objs.size with
  | none => rfl
  | some o' => exact absurd (Heap.lt_size (F.keep _ o' e)) (Nat.lt_irrefl _)
theorem off_new {h : Heap} {L : Addr} {news : List (Addr × Obj)} (N : News h₀ L h news) : Off1 h.objs.size news := off1_of fun p hp => Nat.ne_of_lt (Heap.lt_size (N p hp).1)

theorem src_list {target : PySem.Expr} {body : List Stmt} {Q : Flow → Shared → Prop} {ax : Addr} {its : Array Value} {news : List (Addr × Obj)} (hh : A.handled = none)
    (go : ∀ (I : Addr) i (s : Shared) v (Q : Unit → Shared → Prop) (E : Value → Shared → Prop), s.heap.IsListIter I ax i → Q () s → (∃ j : Nat, its[j]? = some v) → wpAny (model prog w) A (letOwnedTupleGo target (.ref I) v) Q E s)
    (F : Fr h₀ env.locals s.heap m) (N : News h₀ env.locals s.heap news)
    (DD : Drawn → Prop) (hD : DD s.drawn) (xs : List Str) (J : Nat → (Str → Option Value) → List (Addr × Obj) → Prop) (hJS : ∀ i m nw, J i m nw → SrcAt h₀ ax its nw) (h0 : J 0 m news)
    (step : ∀ I g tk, TurnX DD prog w A h₀ env target body { s with heap := g, toks := tk } I its.size (fun i v ex => its[i]? = some v ∧ ex = []) xs m J (fun v s' => Q (.ret v) s') (fun s' => Q .next s'))
    (hR : ∀ h' tk dr o news', DD dr → Fr h₀ env.locals h' (canonL xs o m) → News h₀ env.locals h' news' → J its.size (canonL xs o m) news' → Q .next { s with heap := h', toks := tk, drawn := dr }) :
    LoopSrc prog w A target body env Q E (.ref ax) s := by
  have hl := (hJS _ _ _ h0).list F.keep N
  have hlt : ax < s.heap.objs.size := by obtain ⟨_, e, _⟩ := hl; exact Heap.lt_size e
  refine wpAny_pyIter_list hl ?_
  refine forLed (S := SrcAt h₀ ax its) (Prot.of (Walks.list hh s.heap.objs.size ax (Nat.ne_of_lt hlt) its) fun i s' v Q' E' st hQ hv => go _ i s' v Q' E' st.1 hQ hv) (fun i h st => by obtain ⟨o, e, _⟩ := st.1; exact ⟨o, e⟩) list_st
    (Nat.ne_of_lt F.ns.lt) (fresh_at F) ⟨⟨_, Heap.get?_push_size _ rfl, rfl, rfl⟩, hl.push _⟩ (F.keeps fun _ _ e => Heap.get?_push_of_some _ e) (N.grown fun _ _ e => Heap.get?_push_of_some _ e) (off_new N) DD hD (fun i m₁ nw => AgreeOff xs m₁ m ∧ J i m₁ nw) (fun i m nw h => hJS i m nw h.2) ⟨AgreeOff.refl _ _, h0⟩ (TurnX.turn (step _ _ _)) ?_
  rintro h' tk dr m' news' hDr F' N' ⟨ha, hJ⟩
  rw [ha.canon] at F' hJ
  exact hR h' tk dr m' news' hDr F' N' hJ

theorem src_range {target : PySem.Expr} {body : List Stmt} {Q : Flow → Shared → Prop} {r : Addr} {a b : Int} {t u v : Tok} {n : Nat} {news : List (Addr × Obj)} (hh : A.handled = none)
    (go : ∀ v (I : Addr), letOwnedTupleGo target (.ref I) v = pure ())
    (F : Fr h₀ env.locals s.heap m) (N : News h₀ env.locals s.heap news) (hr : IsRange s.heap r a b 1 t u v) (hsm : Builtin.Range.small a b 1 = true) (hn : Builtin.Range.rangeSize a b 1 = ((n : Nat) : Int))
    (DD : Drawn → Prop) (hD : DD s.drawn) (xs : List Str) (J : Nat → (Str → Option Value) → List (Addr × Obj) → Prop) (h0 : J 0 m news)
    (step : ∀ I g tk, TurnX DD prog w A h₀ env target body { s with heap := g, toks := tk } I n (fun i v ex => (∃ t, v = .int (a + (i : Int)) t) ∧ ex = []) xs m J (fun v s' => Q (.ret v) s') (fun s' => Q .next s'))
    (hR : ∀ h' tk dr o news', DD dr → Fr h₀ env.locals h' (canonL xs o m) → News h₀ env.locals h' news' → J n (canonL xs o m) news' → Q .next { s with heap := h', toks := tk, drawn := dr }) :
    LoopSrc prog w A target body env Q E (.ref r) s := by
  refine wpAny_pyIter_range hr hsm ?_
  refine forLed (S := fun _ => True) (Prot.of (range_walks hh a n) fun i s' v Q' E' st hQ hv => by rw [go]; exact wpAny_pure hQ) (fun i h st => ⟨_, st⟩) range_st
    (Nat.ne_of_lt F.ns.lt) (fresh_at F) (by show IsRangeIter _ _ _ _ _; rw [hn]; simpa using Heap.get?_push_size _ rfl) (F.keeps fun _ _ e => Heap.get?_push_of_some _ e) (N.grown fun _ _ e => Heap.get?_push_of_some _ e) (off_new N) DD hD (fun i m₁ nw => AgreeOff xs m₁ m ∧ J i m₁ nw) (fun _ _ _ _ => trivial) ⟨AgreeOff.refl _ _, h0⟩ (TurnX.turn (step _ _ _)) ?_
  rintro h' tk dr m' news' hDr F' N' ⟨ha, hJ⟩
  rw [ha.canon] at F' hJ
  exact hR h' tk dr m' news' hDr F' N' hJ
theorem src_str {target : PySem.Expr} {body : List Stmt} {Q : Flow → Shared → Prop} {x : Str} {t : Tok} {news : List (Addr × Obj)} (hh : A.handled = none) (ha : x.cps.all (· < 128) = true)
    (go : ∀ v (I : Addr), letOwnedTupleGo target (.ref I) v = pure ())
    (F : Fr h₀ env.locals s.heap m) (N : News h₀ env.locals s.heap news)
    (DD : Drawn → Prop) (hD : DD s.drawn) (xs : List Str) (J : Nat → (Str → Option Value) → List (Addr × Obj) → Prop) (h0 : J 0 m news)
    (step : ∀ I g tk, TurnX DD prog w A h₀ env target body { s with heap := g, toks := tk } I x.cps.size (fun i v ex => SignAt x i v ∧ ex = []) xs m J (fun v s' => Q (.ret v) s') (fun s' => Q .next s'))
    (hR : ∀ h' tk dr o news', DD dr → Fr h₀ env.locals h' (canonL xs o m) → News h₀ env.locals h' news' → J x.cps.size (canonL xs o m) news' → Q .next { s with heap := h', toks := tk, drawn := dr }) :
    LoopSrc prog w A target body env Q E (.str x t) s := by
  refine wpAny_pyIter_ascii ha ?_
  refine forLed (S := fun _ => True) (Prot.of (Walks.strAscii hh s.heap.objs.size x t) fun i s' v Q' E' st hQ hv => by rw [go]; exact wpAny_pure hQ) (fun i h st => by obtain ⟨o, e, _⟩ := st; exact ⟨o, e⟩)
    (fun i h h' o nw st e e' _ _ _ => by obtain ⟨o', q, r⟩ := st; rw [e] at q; cases q; exact ⟨o, e', r⟩)
    (Nat.ne_of_lt F.ns.lt) (fresh_at F) ⟨_, Heap.get?_push_size _ rfl, rfl, rfl⟩ (F.keeps fun _ _ e => Heap.get?_push_of_some _ e) (N.grown fun _ _ e => Heap.get?_push_of_some _ e) (off_new N) DD hD (fun i m₁ nw => AgreeOff xs m₁ m ∧ J i m₁ nw) (fun _ _ _ _ => trivial) ⟨AgreeOff.refl _ _, h0⟩ (TurnX.turn (step _ _ _)) ?_
  rintro h' tk dr m' news' hDr F' N' ⟨ha, hJ⟩
  rw [ha.canon] at F' hJ
  exact hR h' tk dr m' news' hDr F' N' hJ

variable {K : Type} [DecidableEq K] {knd : KeyKind prog w K}
noncomputable def DictIn (knd : KeyKind prog w K) (d : Addr) (kvs : List (K × Value)) (ep : Nat) (nw : List (Addr × Obj)) : Prop := ∃ o, (d, o) ∈ nw ∧ KdkAt knd o kvs ep
theorem DictIn.at {h : Heap} {L d : Addr} {kvs : List (K × Value)} {ep : Nat} {nw : List (Addr × Obj)} (x : DictIn knd d kvs ep nw) (N : News h₀ L h nw) : h.DictAt knd d kvs ep := let ⟨_, hm, ha⟩ := x; ha.dictAt (N _ hm).1

theorem src_keys {target : PySem.Expr} {body : List Stmt} {Q : Flow → Shared → Prop} {d : Addr} {kvs : List (K × Value)} {ep : Nat} {news : List (Addr × Obj)} (hh : A.handled = none) (hd : (d == sysModules) = false)
    (go : ∀ v (I : Addr), letOwnedTupleGo target (.ref I) v = pure ())
    (F : Fr h₀ env.locals s.heap m) (N : News h₀ env.locals s.heap news)
    (DD : Drawn → Prop) (hD : DD s.drawn) (xs : List Str) (J : Nat → (Str → Option Value) → List (Addr × Obj) → Prop) (hJS : ∀ i m nw, J i m nw → DictIn knd d kvs ep nw) (h0 : J 0 m news)
    (step : ∀ I g tk, TurnX DD prog w A h₀ env target body { s with heap := g, toks := tk } I kvs.length (fun i v ex => (∃ k x, kvs[i]? = some (k, x) ∧ knd.is k v = true) ∧ ex = []) xs m J (fun v s' => Q (.ret v) s') (fun s' => Q .next s'))
    (hR : ∀ h' tk dr o news', DD dr → Fr h₀ env.locals h' (canonL xs o m) → News h₀ env.locals h' news' → J kvs.length (canonL xs o m) news' → Q .next { s with heap := h', toks := tk, drawn := dr }) :
    LoopSrc prog w A target body env Q E (.ref d) s := by
  have hm := (hJS _ _ _ h0).at N
  have hlt : d < s.heap.objs.size := by obtain ⟨_, _, e, _⟩ := hm; exact Heap.lt_size e
  refine wpAny_pyIter_dict hd hm ?_
  refine forLed (S := DictIn knd d kvs ep) (Prot.of (Walks.dictKeys hh s.heap.objs.size d (Nat.ne_of_lt hlt) kvs ep) fun i s' v Q' E' st hQ hv => by rw [go]; exact wpAny_pure hQ) (fun i h st => by obtain ⟨o, e, _⟩ := st.1; exact ⟨o, e⟩)
    (fun i h h' o nw st e e' _ N' S => ⟨by obtain ⟨o', q, r⟩ := st.1; rw [e] at q; cases q; exact ⟨o, e', r⟩, S.at N'⟩)
    (Nat.ne_of_lt F.ns.lt) (fresh_at F) ⟨⟨_, Heap.get?_push_size _ rfl, rfl, rfl⟩, hm.at' fun o e => Heap.get?_push_of_some _ e⟩ (F.keeps fun _ _ e => Heap.get?_push_of_some _ e) (N.grown fun _ _ e => Heap.get?_push_of_some _ e) (off_new N) DD hD (fun i m₁ nw => AgreeOff xs m₁ m ∧ J i m₁ nw) (fun i m nw h => hJS i m nw h.2) ⟨AgreeOff.refl _ _, h0⟩ (TurnX.turn (step _ _ _)) ?_
  rintro h' tk dr m' news' hDr F' N' ⟨ha, hJ⟩
  rw [ha.canon] at F' hJ
  exact hR h' tk dr m' news' hDr F' N' hJ

theorem src_values {target : PySem.Expr} {body : List Stmt} {Q : Flow → Shared → Prop} {v d : Addr} {kvs : List (K × Value)} {ep : Nat} {news : List (Addr × Obj)} (hh : A.handled = none) (hv : s.heap.IsValuesView v d)
    (go : ∀ v (I : Addr), letOwnedTupleGo target (.ref I) v = pure ())
    (F : Fr h₀ env.locals s.heap m) (N : News h₀ env.locals s.heap news)
    (DD : Drawn → Prop) (hD : DD s.drawn) (xs : List Str) (J : Nat → (Str → Option Value) → List (Addr × Obj) → Prop) (hJS : ∀ i m nw, J i m nw → DictIn knd d kvs ep nw) (h0 : J 0 m news)
    (step : ∀ I g tk, TurnX DD prog w A h₀ env target body { s with heap := g, toks := tk } I kvs.length (fun i v ex => (∃ k, kvs[i]? = some (k, v)) ∧ ex = []) xs m J (fun v s' => Q (.ret v) s') (fun s' => Q .next s'))
    (hR : ∀ h' tk dr o news', DD dr → Fr h₀ env.locals h' (canonL xs o m) → News h₀ env.locals h' news' → J kvs.length (canonL xs o m) news' → Q .next { s with heap := h', toks := tk, drawn := dr }) :
    LoopSrc prog w A target body env Q E (.ref v) s := by
  have hm := (hJS _ _ _ h0).at N
  have hlt : d < s.heap.objs.size := by obtain ⟨_, _, e, _⟩ := hm; exact Heap.lt_size e
  refine wpAny_pyIter_values hv hm ?_
  refine forLed (S := DictIn knd d kvs ep) (Prot.of (Walks.dictValues hh s.heap.objs.size d (Nat.ne_of_lt hlt) kvs ep) fun i s' v Q' E' st hQ hv => by rw [go]; exact wpAny_pure hQ) (fun i h st => by obtain ⟨o, e, _⟩ := st.1; exact ⟨o, e⟩)
    (fun i h h' o nw st e e' _ N' S => ⟨by obtain ⟨o', q, r⟩ := st.1; rw [e] at q; cases q; exact ⟨o, e', r⟩, S.at N'⟩)
    (Nat.ne_of_lt F.ns.lt) (fresh_at F) ⟨⟨_, Heap.get?_push_size _ rfl, rfl, rfl⟩, hm.at' fun o e => Heap.get?_push_of_some _ e⟩ (F.keeps fun _ _ e => Heap.get?_push_of_some _ e) (N.grown fun _ _ e => Heap.get?_push_of_some _ e) (off_new N) DD hD (fun i m₁ nw => AgreeOff xs m₁ m ∧ J i m₁ nw) (fun i m nw h => hJS i m nw h.2) ⟨AgreeOff.refl _ _, h0⟩ (TurnX.turn (step _ _ _)) ?_
  rintro h' tk dr m' news' hDr F' N' ⟨ha, hJ⟩
  rw [ha.canon] at F' hJ
  exact hR h' tk dr m' news' hDr F' N' hJ

theorem Prot.items {elts : List PySem.Expr} {x1 : Nat} {pos : Pos} (hh : A.handled = none) (I d : Addr) (hne : d ≠ I) (kvs : List (K × Value)) (ep : Nat) :
    Prot prog w A (.Tuple elts x1 pos) I [I, d] kvs.length (fun i v ex => ∃ k x key T, kvs[i]? = some (k, x) ∧ knd.is k key = true ∧ v = .ref T ∧ ex = [(T, { cls := .type "tuple", data := .seq #[key, x] })])
      (fun i h => (∃ ok ov, IsItemIter h I d i kvs.length ep ok ov) ∧ h.DictAt knd d kvs ep) where
  frame := fun _ _ _ st hk => ⟨let ⟨ok, ov, e⟩ := st.1; ⟨ok, ov, hk I (by simp) _ e⟩, st.2.at' fun o e => hk d (by simp) o e⟩
  item := fun i s Q E E' hi st hQ => by
    refine hideG fun GG hGG => ?_
    obtain ⟨⟨k, x⟩, hx⟩ : ∃ p, kvs[i]? = some p := ⟨kvs[i], by simp [hi]⟩
    obtain ⟨⟨ok, ov, hit⟩, hm⟩ := st
    refine hGG ?_
    clear hGG GG
    have hIlt : I < s.heap.objs.size := Heap.lt_size hit
    refine wpAny_pyNext_items_item hit hm hx fun key h' hkey ho ht hz hk => ?_
    refine ⟨_, rfl, wpAny_letOwnedTupleGo_items ho fun h₂ hi₂ hs₂ => ?_⟩
    have hk₂ : ∀ b o, b ≠ I → s.heap.get? b = some o → h₂.get? b = some o := fun b o hb e => hs₂.extBut b o hb (hk b o hb e)
    refine hQ _ [(s.heap.objs.size, { cls := .type "tuple", data := .seq #[key, x] })] h₂ s.toks ⟨k, x, key, _, hx, hkey, rfl, rfl⟩ ⟨⟨_, _, hi₂⟩, hm.at' fun o e => hk₂ d o hne e⟩ hk₂ fun p hp => ?_
    rw [List.mem_singleton.mp hp]
    exact ⟨hs₂.extBut _ _ (Ne.symm (Nat.ne_of_lt hIlt)) ht, Nat.le_refl _⟩
  done := fun s Q E st hQ => by
    refine hideG fun GG hGG => ?_
    obtain ⟨⟨ok, ov, hit⟩, hm⟩ := st
    refine hGG ?_
    clear hGG GG
    exact wpAny_pyNext_items_end hh hit hm (by simp) fun h' he' => hQ h' s.toks fun b o hb e => he' b o hb e

theorem src_items {elts : List PySem.Expr} {x1 : Nat} {pos : Pos} {body : List Stmt} {Q : Flow → Shared → Prop} {v d : Addr} {kvs : List (K × Value)} {ep : Nat} {news : List (Addr × Obj)} (hh : A.handled = none) (hv : s.heap.IsItemsView v d)
    (F : Fr h₀ env.locals s.heap m) (N : News h₀ env.locals s.heap news)
    (DD : Drawn → Prop) (hD : DD s.drawn) (xs : List Str) (J : Nat → (Str → Option Value) → List (Addr × Obj) → Prop) (hJS : ∀ i m nw, J i m nw → DictIn knd d kvs ep nw) (h0 : J 0 m news)
    (step : ∀ I g tk, TurnX DD prog w A h₀ env (.Tuple elts x1 pos) body { s with heap := g, toks := tk } I kvs.length (fun i v ex => ∃ k x key T, kvs[i]? = some (k, x) ∧ knd.is k key = true ∧ v = .ref T ∧ ex = [(T, { cls := .type "tuple", data := .seq #[key, x] })]) xs m J (fun v s' => Q (.ret v) s') (fun s' => Q .next s'))
    (hR : ∀ h' tk dr o news', DD dr → Fr h₀ env.locals h' (canonL xs o m) → News h₀ env.locals h' news' → J kvs.length (canonL xs o m) news' → Q .next { s with heap := h', toks := tk, drawn := dr }) :
    LoopSrc prog w A (.Tuple elts x1 pos) body env Q E (.ref v) s := by
  have hm := (hJS _ _ _ h0).at N
  have hlt : d < s.heap.objs.size := by obtain ⟨_, _, e, _⟩ := hm; exact Heap.lt_size e
  refine wpAny_pyIter_items hv hm ?_
  refine forLed (S := DictIn knd d kvs ep) (Prot.items hh s.heap.objs.size d (Nat.ne_of_lt hlt) kvs ep) (fun i h st => by obtain ⟨_, _, e⟩ := st.1; exact ⟨_, e⟩)
    (fun i h h' o nw st e e' _ N' S => ⟨by obtain ⟨ok, ov, q⟩ := st.1; exact ⟨ok, ov, by have q' : h.get? _ = some _ := q; rw [e] at q'; show h'.get? _ = some _; rw [e', q']⟩, S.at N'⟩)
    (Nat.ne_of_lt F.ns.lt) (fresh_at F) ⟨⟨_, _, Heap.get?_push_size _ rfl⟩, hm.at' fun o e => Heap.get?_push_of_some _ e⟩ (F.keeps fun _ _ e => Heap.get?_push_of_some _ e) (N.grown fun _ _ e => Heap.get?_push_of_some _ e) (off_new N) DD hD (fun i m₁ nw => AgreeOff xs m₁ m ∧ J i m₁ nw) (fun i m nw h => hJS i m nw h.2) ⟨AgreeOff.refl _ _, h0⟩ (TurnX.turn (step _ _ _)) ?_
  rintro h' tk dr m' news' hDr F' N' ⟨ha, hJ⟩
  rw [ha.canon] at F' hJ
  exact hR h' tk dr m' news' hDr F' N' hJ
end
end

section
open PySem.Calls PySem.Spec
section
variable {M : Model} {A : Around} {E : Value → Shared → Prop} {s : Shared} {h₀ : Heap} {L a c P : Addr} {m mg mb : Str → Option Value} {cn : Str} {cs : Scope} {ccd : Value} {cl : List (Str × Addr)} {news : List (Addr × Obj)} {g : Obj → List (Addr × Obj)}
  {p : Program} {loose : List Str} {mean : ExcName → Option Value} {name qual : Str} {params : Arguments} {body : List Stmt} {scope : Scope} {pos : Pos} {firstLine : Nat} {clos : List (Str × Addr)}
/-- the statement of an inner def, whether its maker's table knows it or not -/
theorem nestTab {Q : Value → Shared → Prop} {line col : Int} {o1 : Obj} {tt : List (Addr × Obj)} (F : Fr h₀ L s.heap m) (N : News h₀ L s.heap news) (T : Top p loose mean mg mb h₀) (C : CodeHd h₀ c P) (hcd : ccd = .ref c) (U : UpdF P o1 news g)
    (tb : TabOk line col qual o1 tt) (htt : ∀ q ∈ tt, q ∈ news) (hl : line = pos.line) (hc : col = pos.col) (hcl : closureFor scope (envX cn cs L a ccd cl) = pure clos)
    (h : ∀ f c' oc vs t ctv doc h' tk o1' ext, Fr h₀ L h' m →
      News h₀ L h' ((f, fnMade name qual params body scope clos doc ((mg "__name__").getD .none) c' ctv) :: (g o1' ++ ext)) →
      (c', oc) ∈ ext ++ tt → oc.data = .fields vs → vs[1]? = some (.str qual t) → (∀ q ∈ news, q.1 < f) → (∀ q ∈ ext, q.1 < f) → (∀ q ∈ ext, ∀ r ∈ news, r.1 < q.1) → TabOk line col qual o1' (ext ++ tt) → Q (.ref f) { s with heap := h', toks := tk }) :
    wpAny M A (makeFunction name qual params (.stmts body) scope (envX cn cs L a ccd cl) [] [] [] pos firstLine) Q E s := by
  refine hideG fun GG hGG => ?_
  obtain ⟨own, rest, e, hgr, h1, h2⟩ := U.split
  refine hGG ?_
  clear hGG GG
  rcases tb with rfl | ⟨cN, oC, vs, tq, rfl, hm, hd, hq⟩
  · refine nest_K F N T C hcd U True.intro rfl hcl fun f c' oc vs t ctv doc h' tk F' N' hd hv l1 l2 => ?_
    refine h f c' oc vs t ctv doc h' tk (tabObj (#[] ++ #[rawInt pos.line, rawInt pos.col, .ref c'])) [(c', oc)] F' (News.sub N' ?_) List.mem_cons_self hd hv (fun q hq => Nat.lt_trans (l1 q hq) l2) (fun q hq => by rw [List.mem_singleton.mp hq]; exact l2) (fun q hq => by rw [List.mem_singleton.mp hq]; exact l1) ?_
    · intro q hq
      rcases List.mem_cons.mp hq with rfl | hq
      · exact List.mem_cons_self
      · rcases List.mem_append.mp hq with hq | hq
        · exact List.mem_cons_of_mem _ (List.mem_cons_of_mem _ hq)
        · rw [List.mem_singleton.mp hq]; exact List.mem_cons_of_mem _ List.mem_cons_self
    · subst hl hc
      exact .inr c' oc vs t (by rw [Array.empty_append]) List.mem_cons_self hd hv
  · subst hl hc
    have hmem : (P, tabObj #[rawInt pos.line, rawInt pos.col, .ref cN]) ∈ news := by rw [e]; simp
    refine nestHit_K (c' := cN) F N T C hcd hmem (by simp [TriplesOk, rawInt]) (by simp [codeAmong, rawInt]) hcl fun f ctv doc h' tk F' N' l1 => ?_
    refine h f cN oC vs tq ctv doc h' tk _ [] F' (by rw [hgr, ← e, List.append_nil]; exact N') hm hd hq l1 (fun q hq => nomatch hq) (fun q hq => nomatch hq) ?_
    exact .inr cN oC vs tq rfl hm hd hq
end

theorem replicate_flat {α : Type} (c : α) : ∀ k : Nat, (List.replicate k [c]).flatten = List.replicate k c
  | 0 => rfl
  | k + 1 => by rw [List.replicate_succ, List.replicate_succ, List.flatten_cons, replicate_flat c k]; rfl

theorem withObj {h₀ h : Heap} {L f : Addr} {o : Obj} {news : List (Addr × Obj)} (KeyP : Obj → Prop) {G : Prop} (_N : News h₀ L h news) (_hm : (f, o) ∈ news) (key : KeyP o) (use : KeyP o → G) : G := use key
theorem News.swap2 {h₀ h : Heap} {L : Addr} {a b : Addr × Obj} {r : List (Addr × Obj)} (N : News h₀ L h (a :: b :: r)) : News h₀ L h (b :: a :: r) := News.sub N fun q hq => by
  simp only [List.mem_cons] at hq ⊢
  rcases hq with h | h | h <;> simp [h]
theorem sub_nil {b : List (Addr × Obj)} : ∀ q ∈ ([] : List (Addr × Obj)), q ∈ b := fun _ h => nomatch h
theorem sub_cons {p : Addr × Obj} {a b : List (Addr × Obj)} (h : p ∈ b) (k : ∀ q ∈ a, q ∈ b) : ∀ q ∈ p :: a, q ∈ b := fun q hq => (List.mem_cons.mp hq).elim (fun e => e ▸ h) (k q)
theorem sub_app {a b c : List (Addr × Obj)} (h : ∀ q ∈ a, q ∈ c) (k : ∀ q ∈ b, q ∈ c) : ∀ q ∈ a ++ b, q ∈ c := fun q hq => (List.mem_append.mp hq).elim (h q) (k q)
theorem withObj1 {h₀ h : Heap} {L f : Addr} {o : Obj} {led : List (Addr × Obj)} (KeyP : List (Addr × Obj) → Obj → Prop) {G : Prop} (_N : News h₀ L h ((f, o) :: led)) (key : KeyP led o) (use : KeyP led o → G) : G := use key
theorem withObj2 {h₀ h : Heap} {L f D : Addr} {o oD : Obj} {led : List (Addr × Obj)} (KeyP : List (Addr × Obj) → Obj → Prop) {G : Prop} (_N : News h₀ L h ((f, o) :: (D, oD) :: led)) (key : KeyP led o) (use : KeyP led o → G) : G := use key
end

section
open PySem.Calls LCg LCt LCp PySem.Spec
section
variable {prog : Program} {w : World} {A : Around} {E : Value → Shared → Prop} {s : Shared} {h₀ : Heap} {L sa : Addr} {m : Str → Option Value} {news : List (Addr × Obj)} {g : Obj → List (Addr × Obj)} {so : Obj}
theorem noBool_set : typeLookup (.type "set") "__bool__" = pure none := by rw [typeLookup_type, builtinLookup_eq_fast]; kernel_rfl

theorem truthy_set {S : Int → Bool} {n : Nat} {Q : Bool → Shared → Prop} (N : News h₀ L s.heap news) (hm : (sa, so) ∈ news) (hs : so.SetObjOf (intKind prog w) S n) (hn : n < 1000)
    (h : Q (n != 0) { s with toks := s.toks + 1 + 1 }) : wpAny (model prog w) A (truthy (.ref sa)) Q E s := by
  refine hideG fun GG hGG => ?_
  obtain ⟨hex, es, ep, t, hd, hel, hmem, hsz, hf⟩ := hs
  refine hGG ?_
  clear hGG GG
  have ho := (N _ hm).1
  have hT : s.TypeIs (.ref sa) "set" := ⟨so, ho, hex.1⟩
  have hne : ((es.size : Int) != 0) = (n != 0) := by
    rw [hsz]
    cases n with
    | zero => rfl
    | succ k => have : ((k + 1 : Nat) : Int) ≠ 0 := by lia
                simp [bne]; lia
  have key : wpAny (model prog w) A (runValue (.builtin "len" ⟨[.ref sa], []⟩)) (fun r s' => r = .int es.size (s.toks + 1) ∧ Q (n != 0) s') E s := by
    refine wpAny_runValue (codeAny_builtin entry_len ?_)
    rw [Around.under_plainId plain_len _]
    exact wpAny_mono (wpAny_len_body_set (Q := fun r s' => r = .int es.size (s.toks + 1) ∧ Q (n != 0) s') ho hex hd hf (by lia) ⟨rfl, h⟩)
      (fun fin s' h' => by obtain ⟨r, rfl, hq⟩ := h'; exact hq) fun _ _ e => e
  unfold truthy
  first
    | refine wpAny_bind (wpAny_callSpecial?_none (name := Str.ofString "__bool__") hT noBool_set ?_)
    | refine wpAny_bind (wpAny_pure (wpAny_bind (wpAny_callSpecial?_none (name := Str.ofString "__bool__") hT noBool_set ?_)))
  first
    | refine wpAny_bind (wpAny_specialOf (name := Str.ofString "__len__") hT F.slot_set_len.lookup ?_)
    | refine wpAny_bind (wpAny_pure (wpAny_bind (wpAny_specialOf (name := Str.ofString "__len__") hT F.slot_set_len.lookup ?_)))
  first
    | exact wpAny_bind (wpAny_mono key (fun r s' h' => by obtain ⟨rfl, hq⟩ := h'; exact wpAny_pure (hne ▸ hq)) fun _ _ e => e)
    | exact wpAny_bind (wpAny_pure (wpAny_bind (wpAny_mono key (fun r s' h' => by obtain ⟨rfl, hq⟩ := h'; exact wpAny_pure (hne ▸ hq)) fun _ _ e => e)))

theorem getMethod_pop {pl : Sem Bool} {S : Int → Bool} {n : Nat} {Q : Value × List Value → Shared → Prop} (N : News h₀ L s.heap news) (hm : (sa, so) ∈ news) (hs : so.SetObjOf (intKind prog w) S n)
    (h : Q (.builtin "set.pop", [.ref sa]) s) : wpAny (model prog w) A (getMethod (.ref sa) "pop" pl) Q E s := by
  have hT : s.TypeIs (.ref sa) "set" := ⟨so, (N _ hm).1, hs.1.1⟩
  exact getMethod_builtin hT PySem.F.plainAttrs_set PySem.F.slot_set_pop PySem.F.type_set_pop (fun b e => by injection e with e; subst e; exact ⟨so, (N _ hm).1, hs.1.2.1⟩) h

theorem wpAny_choose1 {src : Source} {Q : Nat → Shared → Prop} (h : ∀ dr, Q 0 { s with drawn := dr }) : wpAny (model prog w) A (choose src 1) Q E s := fun Γ p _ => by
  show Sem.wp _ _ (Sem.choose src 1 _) _ _ _ _
  rw [Sem.wp_choose]
  exact ⟨by decide, by rw [Nat.mod_one]; exact h _⟩

theorem call_pop {k : Int} {Q : Value → Shared → Prop} (F : Fr h₀ L s.heap m) (N : News h₀ L s.heap news) (U : UpdF sa so news g) (hs : so.SetObjOf (intKind prog w) (fun j => false || decide (j = k)) (0 + 1))
    (h : ∀ h' so' t dr, Fr h₀ L h' m → News h₀ L h' (g so') → so'.SetObjOf (intKind prog w) (fun _ => false) 0 → Q (.int k t) { s with heap := h', drawn := dr }) :
    wpAny (model prog w) A (call (.builtin "set.pop") [.ref sa]) Q E s := by
  refine hideG fun GG hGG => ?_
  obtain ⟨pre, post, rfl, hg, a, b⟩ := U.split
  obtain ⟨hex, es, ep, t, hd, hel, hmem, hsz, hf⟩ := hs
  have ho := (N (sa, so) (by simp)).1
  have hT : s.TypeIs (.ref sa) "set" := ⟨so, ho, hex.1⟩
  obtain ⟨e, rfl⟩ : ∃ e, es = #[e] := by
    refine ⟨es[0]'(by lia), ?_⟩
    apply Array.ext
    · simp [hsz]
    · intro i h1 h2; have : i = 0 := by lia
      subst this; rfl
  obtain ⟨t', ht'⟩ : ∃ t', e.2 = .int k t' := by
    obtain ⟨e', he', hk⟩ := (hmem k).mp (by simp)
    have : e' = e := by simpa using he'
    subst this
    exact Value.isInt_shape hk
  refine hGG ?_
  clear hGG GG
  refine wpAny_call_entry PySem.F.slot_set_pop hT PySem.F.entry_set_pop ?_ (PySem.F.args_set_pop_1 _)
  unfold Builtin.«set.pop»
  refine wpAny_bind (wpAny_pure ?_)
  refine wpAny_bind ?_
  unfold setPop
  refine wpAny_bind (wpAny_setState_of ho hd hf ?_)
  have hfits : t.place.size = 1 ∧ t.fill ≤ t.mask := by
    simp only [SetTable.fits, Bool.and_eq_true, beq_iff_eq, decide_eq_true_eq] at hf
    exact ⟨hf.1, hf.2⟩
  have hpp : t.popPlace = some 0 := by
    unfold SetTable.popPlace
    have : t.place.isEmpty = false := by unfold Array.isEmpty; rw [hfits.1]; rfl
    rw [this]
    simp only [Bool.false_eq_true, if_false, hfits.1]
    split
    · have : SetTable.below t.place (t.finger % (t.mask + 1)) = 0 := by lia
      rw [this]
    · rfl
  obtain ⟨j, hj⟩ : ∃ j, t.place = #[j] := by
    refine ⟨t.place[0]'(by lia), ?_⟩
    apply Array.ext
    · simp [hfits.1]
    · intro i h1 h2
      have : i = 0 := by lia
      subst this; rfl
  have fin : ∀ (A' : Around) (s₁ : Shared), (∃ dr, s₁ = { s with drawn := dr }) → wpAny (model prog w) A' (match (#[e] : Array (Int × Value))[0]? with
      | some (_, x) => do
        storeSet sa (SetTable.eraseAt #[e] 0) (t.popped 0)
        pure (some x)
      | _ => unsupported "internal:set.pop") (fun x s' => ∃ t', x = some (.int k t') ∧ Q (.int k t') s') E s₁ := by
    rintro A' s₁ ⟨dr, rfl⟩
    show wpAny _ _ (storeSet sa (SetTable.eraseAt #[e] 0) (t.popped 0) >>= fun _ => pure (some e.2)) _ _ _
    have hz : (SetTable.eraseAt #[e] 0).size = 0 := by simp [SetTable.eraseAt]
    refine wpAny_bind (wpAny_storeSet_of ho hd ?_ (by rw [hz]; exact Nat.zero_le _))
    refine wpAny_pure ⟨t', by rw [ht'], ?_⟩
    have hsb := Heap.SameBut.update s.heap sa (Obj.putSet (SetTable.eraseAt #[e] 0) (t.popped 0))
    have hm := N (sa, so) (by simp)
    have ho' : (s.heap.update sa (Obj.putSet (SetTable.eraseAt #[e] 0) (t.popped 0))).get? sa = some (Obj.putSet (SetTable.eraseAt #[e] 0) (t.popped 0) so) := by
      exact Heap.get?_update_self _ ho (by obtain ⟨c, d, dt, sl⟩ := so; simp only at hd; subst hd; rfl)
    refine h _ _ t' dr (F.change hsb hm.2.1 hm.2.2) (hg _ ▸ N.setIn a b hsb ho') ?_
    have hf2 : (t.popped 0).fits 0 = true := by
      have e1 : t.popped 0 = { ({ t with place := SetTable.eraseAt t.place 0, dummies := SetTable.insertAt t.dummies (SetTable.below t.dummies j) j } : SetTable) with finger := t.place.getD 0 0 + 1 } := by
        unfold SetTable.popped SetTable.drop
        rw [hj]
        rfl
      rw [e1]
      have h2 := hfits.2
      simp only [SetTable.fill, hj] at h2
      simp only [SetTable.fits, SetTable.fill, hj, SetTable.eraseAt, SetTable.insertAt, Bool.and_eq_true, beq_iff_eq, decide_eq_true_eq]
      refine ⟨by simp, ?_⟩
      simp at h2 ⊢
      lia
    refine hideG fun GG hGG => ?_
    obtain ⟨c, d, dt, sl⟩ := so
    refine hGG ?_
    clear hGG GG
    simp only at hd
    subst hd
    refine hideG fun GG hGG => ?_
    obtain ⟨q1, q2, q3⟩ := hex
    refine hGG ?_
    clear hGG GG
    refine ⟨⟨q1, q2, q3⟩, SetTable.eraseAt #[e] 0, ep + 1, t.popped 0, rfl, ?_, ?_, ?_, ?_⟩
    · intro x hx; simp [SetTable.eraseAt] at hx
    · intro x; simp [SetTable.eraseAt]
    · simp [SetTable.eraseAt]
    · rw [hz]; exact hf2
  have drawnF : ∀ {β : Type} (b : Bool) (x y : β), (if (b || (!t.plain && decide ((#[e] : Array (Int × Value)).size > 1))) = true then x else y) = if b = true then x else y := fun b x y => by
    have : decide ((#[e] : Array (Int × Value)).size > 1) = false := rfl
    rw [this, Bool.and_false, Bool.or_false]
  dsimp only
  rw [hpp]
  dsimp only
  refine wpAny_mono (?_ : wpAny _ _ _ (fun x s' => ∃ t', x = some (.int k t') ∧ Q (.int k t') s') _ _) (fun x s' h' => by obtain ⟨t', rfl, hq⟩ := h'; exact wpAny_pure ⟨_, rfl, hq⟩) fun _ _ e => e
  unfold setsByText
  refine wpAny_bind (wpAny_bind (wpAny_askSetting (wpAny_pure ?_)))
  refine (drawnF _ _ _) ▸ ?_
  split
  · refine wpAny_bind (wpAny_choose1 fun dr => ?_)
    exact fin _ _ ⟨dr, rfl⟩
  · refine wpAny_bind ?_
    show wpAny _ _ (if (!t.led && decide ((#[e] : Array (Int × Value)).size > 1)) = true then unsupported "set:maker-not-led" else pure ()) _ _ _
    rw [show decide ((#[e] : Array (Int × Value)).size > 1) = false from rfl, Bool.and_false, if_neg Bool.false_ne_true]
    exact wpAny_pure (wpAny_bind (wpAny_pure (fin _ _ ⟨_, rfl⟩)))
end
end

section
open PySem.Calls PySem.Spec
noncomputable def valN (B : Int) : List Int → Int
  | [] => 0
  | d :: r => d + B * valN B r
theorem valN_append (B : Int) : ∀ (a b : List Int), valN B (a ++ b) = valN B a + B ^ a.length * valN B b
  | [], b => by simp [valN]
  | d :: r, b => by
    rw [List.cons_append, valN, valN, valN_append B r b, List.length_cons, Int.pow_succ, Int.mul_add, Int.mul_comm (B ^ r.length) B, Int.mul_assoc]
    lia
/-- digits of x to the base 2^n, the least first -/
noncomputable def Digs (n : Nat) (ds : List Int) (x : Int) : Prop := valN (2 ^ n) ds = x ∧ ∀ d ∈ ds, 0 ≤ d ∧ d < 2 ^ n
theorem valN_nn {B : Int} (hB : 0 ≤ B) : ∀ {a : List Int}, (∀ d ∈ a, 0 ≤ d) → 0 ≤ valN B a
  | [], _ => by simp [valN]
  | d :: r, h => by
    have h1 := valN_nn hB (a := r) fun x hx => h x (by simp [hx])
    have h2 := h d (by simp)
    have h3 := Int.mul_nonneg hB h1
    rw [valN]; lia
theorem valN_split {B : Int} (hB : 1 ≤ B) {a b : List Int} (ha : ∀ d ∈ a, 0 ≤ d) (hb : ∀ d ∈ b, 0 ≤ d) : valN B a ≤ valN B (a ++ b) ∧ valN B b ≤ valN B (a ++ b) ∧ B ^ a.length * valN B b ≤ valN B (a ++ b) := by
  have h1 := valN_nn (B := B) (by lia) ha
  have h2 := valN_nn (B := B) (by lia) hb
  have h3 : 1 ≤ B ^ a.length := Int.pow_pos (by lia)
  have h4 : valN B b ≤ B ^ a.length * valN B b := by
    have := Int.mul_le_mul_of_nonneg_right h3 h2
    lia
  rw [valN_append]
  lia
theorem two_pos (n : Nat) : (0 : Int) < 2 ^ n := Int.pow_pos (by decide)
theorem pow_pos' (n k : Nat) : (0 : Int) < (2 ^ n) ^ k := Int.pow_pos (two_pos n)
theorem Digs.one {n : Nat} {x : Int} (h : 0 ≤ x ∧ x < 2 ^ n) : Digs n [x] x := ⟨by simp [valN], fun d hd => by rw [List.mem_singleton.mp hd]; exact h⟩
theorem Digs.append {n k : Nat} {x : Int} {a b : List Int} (ha : Digs n a (x % (2 ^ n) ^ k)) (hb : Digs n b (x / (2 ^ n) ^ k)) (hk : a.length = k) : Digs n (a ++ b) x :=
  ⟨by rw [valN_append, ha.1, hb.1, hk]; exact Int.emod_add_mul_ediv x _, fun d hd => (List.mem_append.mp hd).elim (ha.2 d) (hb.2 d)⟩
theorem and_low (y s : Nat) : y &&& (y / 2 ^ s * 2 ^ s) = y / 2 ^ s * 2 ^ s := by
  rw [← Nat.shiftRight_eq_div_pow, ← Nat.shiftLeft_eq]
  apply Nat.eq_of_testBit_eq
  intro i
  rw [Nat.testBit_and, Nat.testBit_shiftLeft, Nat.testBit_shiftRight]
  by_cases h : i ≥ s
  · rw [Nat.add_sub_cancel' h]
    simp [h]
  · simp [h]
theorem xor_low {y : Int} (hy : 0 ≤ y) (s : Nat) : Builtin.bitXor y (y / 2 ^ s * 2 ^ s) = y % 2 ^ s := by
  obtain ⟨k, rfl⟩ := Int.eq_ofNat_of_zero_le hy
  have e : ((k : Int) / 2 ^ s * 2 ^ s) = ((k / 2 ^ s * 2 ^ s : Nat) : Int) := by
    rw [Int.natCast_mul, Int.natCast_ediv, Int.natCast_pow]
    rfl
  have e2 : Builtin.bitAnd (k : Int) ((k / 2 ^ s * 2 ^ s : Nat) : Int) = ((k / 2 ^ s * 2 ^ s : Nat) : Int) := by
    unfold Builtin.bitAnd
    have p1 : decide (0 ≤ (k : Int)) = true := decide_eq_true (Int.natCast_nonneg k)
    have p2 : decide (0 ≤ ((k / 2 ^ s * 2 ^ s : Nat) : Int)) = true := decide_eq_true (Int.natCast_nonneg _)
    rw [p1, p2]
    show (((k : Int).toNat &&& ((k / 2 ^ s * 2 ^ s : Nat) : Int).toNat : Nat) : Int) = _
    rw [Int.toNat_natCast, Int.toNat_natCast, and_low]
  rw [bitXor_and, e, e2, ← e, Int.emod_def, Int.mul_comm (2 ^ s)]
  lia
theorem small_mod {y b : Int} (h : 0 ≤ y) (hs : Small y) (hb : 0 < b) : Small (y % b) := by
  have h1 := Int.emod_nonneg y (show b ≠ 0 by lia)
  have h2 : 0 ≤ b * (y / b) := Int.mul_nonneg (by lia) (Int.ediv_nonneg h (by lia))
  have h3 := Int.emod_def y b
  unfold Small at *; lia
theorem small_div {y b : Int} (h : 0 ≤ y) (hs : Small y) (hb : 0 < b) : Small (y / b) := by
  have h1 := Int.ediv_nonneg h (show 0 ≤ b by lia)
  have h2 := Int.ediv_le_self b h
  unfold Small at *; lia
theorem div_lt {y B : Int} {k j : Nat} (hB : 0 < B) (h : y < B ^ (k + j)) : y / B ^ k < B ^ j := by
  have hp : 0 < B ^ k := Int.pow_pos hB
  refine Int.ediv_lt_of_lt_mul hp ?_
  rw [Int.mul_comm, ← Int.pow_add]
  exact h
section
variable {prog : Program} {w : World} {A : Around} {E : Value → Shared → Prop} {s : Shared} {h₀ : Heap} {L D : Addr} {m : Str → Option Value} {news : List (Addr × Obj)} {g : Obj → List (Addr × Obj)} {t u : Tok}
theorem rsh_to {a n c : Int} {Q : Value → Shared → Prop} (hn : 0 ≤ n) (e : a.fdiv (2 ^ n.toNat) = c) (h : Q (.int c s.toks) { s with toks := s.toks + 1 }) : wpAny (model prog w) A (binaryOp .RShift (.int a t) (.int n u)) Q E s :=
  rshift_int hn (by rw [e]; exact h)
theorem lsh_to {a n c : Int} {Q : Value → Shared → Prop} (hn : 0 ≤ n) (hn2 : n ≤ 1000000) (ha : a.natAbs < 2 ^ 64) (e : a * 2 ^ n.toNat = c) (h : Q (.int c s.toks) { s with toks := s.toks + 1 }) : wpAny (model prog w) A (binaryOp .LShift (.int a t) (.int n u)) Q E s :=
  lshift_int_small hn hn2 ha (by rw [e]; exact h)
theorem xor_to {a b c : Int} {Q : Value → Shared → Prop} (e : Builtin.bitXor a b = c) (h : Q (.int c s.toks) { s with toks := s.toks + 1 }) : wpAny (model prog w) A (binaryOp .BitXor (.int a t) (.int b u)) Q E s :=
  xor_int (by rw [e]; exact h)
theorem set_list {pre post : List Value} {v₀ v : Value} {n : Nat} {k : Int} {Q : Unit → Shared → Prop} (F : Fr h₀ L s.heap m) (N : News h₀ L s.heap news) (U : UpdF D (W.listOf (pre ++ v₀ :: post).toArray n) news g) (hk : k = pre.length) (hl : pre.length ≤ 1000)
    (h : ∀ h', Fr h₀ L h' m → News h₀ L h' (g (W.listOf (pre ++ v :: post).toArray n)) → Q () { s with heap := h' }) : wpAny (model prog w) A (setItem (.ref D) (.int k t) v) Q E s := by
  obtain ⟨p1, p2, rfl, hg, a, b⟩ := U.split
  have z := N (D, W.listOf (pre ++ v₀ :: post).toArray n) (List.mem_append.mpr (.inr (.head _)))
  subst hk
  refine ki_setAt z.1 (by lia) (by lia) (by rw [List.size_toArray, List.length_append, List.length_cons]; lia) ?_
  refine h _ (F.change (Heap.SameBut.update ..) z.2.1 z.2.2) ?_
  rw [hg]
  refine ki_turn _ N a b ?_ ?_
  · show (pre ++ v₀ :: post).toArray.setIfInBounds _ v = (pre ++ v :: post).toArray
    rw [Int.toNat_natCast]
    apply Array.toList_inj.mp
    simp
  · simp
end
section
variable {M l p q n1 n2 F : Nat} {b1 b2 : Int}
theorem hf_le (hM : M = l / 2) : M ≤ l := hM ▸ Nat.div_le_self l 2
theorem hf_two (hM : M = l / 2) : M + M ≤ l := by lia
theorem hf_min (hM : M = l / 2) : min M l = M := Nat.min_eq_left (hf_le hM)
theorem hf_add (hM : M = l / 2) : M + (l - M) = l := Nat.add_sub_of_le (hf_le hM)
theorem hf_sub (hM : M = l / 2) (h : 1 ≤ M) : 1 ≤ l - M := by lia
theorem hf_f1 (hM : M = l / 2) (h1 : 1 ≤ l) (hf : l ≤ F + 1) : min M l ≤ F := by lia
theorem hf_f2 (h : 1 ≤ M) (hf : l ≤ F + 1) : l - M ≤ F := by lia
theorem hf_m1 (hM : M = l / 2) (h : 1 ≤ M) : 1 ≤ min M l := by rw [hf_min hM]; exact h
theorem hf_l1 (hM : M = l / 2) (h : p + l + q ≤ 64) : p + min M l + (l - M + q) ≤ 64 := by
  rw [hf_min hM, ← Nat.add_assoc, Nat.add_assoc p, hf_add hM]; exact h
theorem hf_l2 (hM : M = l / 2) (h : p + l + q ≤ 64) (hn : n1 = M) : p + n1 + (l - M) + q ≤ 64 := by
  rw [hn, Nat.add_assoc p, hf_add hM]; exact h
theorem hf_l3 (hM : M = l / 2) (h : p + l + q ≤ 64) : p + min M l + (l - M) + q ≤ 64 := hf_l2 hM h (hf_min hM)
theorem hf_64 (hM : M = l / 2) (h : p + l + q ≤ 64) : M ≤ 64 := by lia
theorem hf_b (hM : M = l / 2) (h1 : b1 = p) (h2 : b2 = (p : Int) + l) : (b1 + b2) / 2 = b1 + M := by lia
theorem hf_c (hM : M = l / 2) : (p : Int) + M = p + ((min M l : Nat) : Int) := by rw [hf_min hM]
theorem hf_d (hn : n1 = M) : (p : Int) + M = ((p + n1 : Nat) : Int) := by rw [hn, Int.natCast_add]
theorem hf_e (hM : M = l / 2) (hn : n1 = M) : (p : Int) + l = ((p + n1 : Nat) : Int) + ((l - M : Nat) : Int) := by lia
theorem hf_1 (h1 : b1 = p) (h2 : b2 = (p : Int) + l) (h : b1 + 1 = b2) : l = 1 := by lia
theorem hf_M (h1 : b1 = p) (h2 : b2 = (p : Int) + l) (h0 : 1 ≤ l) (hM : M = l / 2) (h : ¬ b1 + 1 = b2) : 1 ≤ M := by lia
theorem hf_j (hM : M = l / 2) (hn : n1 = M) (h2 : n2 = l - M) : n1 + n2 = l := by rw [hn, h2]; exact hf_add hM
theorem add_sub_b (b m : Int) : b + m - b = m := by lia
theorem rg_of {x : Int} {m : Nat} (h : x = (m : Int)) {K : Nat} (hm : m ≤ K) {N : Int} (hK : (K : Int) ≤ N := by decide) : 0 ≤ x ∧ x ≤ N := ⟨h ▸ Int.natCast_nonneg m, h ▸ Int.le_trans (Int.ofNat_le.mpr hm) hK⟩
theorem rg_0 {x : Int} {m : Nat} (h : x = (m : Int)) : 0 ≤ x := h ▸ Int.natCast_nonneg m
theorem rg_64 {x : Int} (h : Small x) : x.natAbs < 2 ^ 64 := by unfold Small at h; lia
theorem rm_sub {a b : Nat} {C : Nat} (h : a + (b + 1) + 10 < C) : a + 1 + b + 10 < C := by rw [Nat.add_assoc a, Nat.add_comm 1]; exact h
theorem rm_un {a b : Nat} {C : Nat} (h : a + 80 * (b + 1) + 160 < C) : a + 3 + 80 * b + 160 < C := by lia
end
end

section
open PySem.Calls LCg LCt LCp PySem.Spec
theorem ints_of : ∀ {ds : List Int} {vs : List Value}, All2 IsI ds vs → IntsAre vs ds := fun h => by
  induction h with
  | nil => exact .nil
  | cons x _ ih =>
    obtain ⟨t, e⟩ := x
    exact e ▸ .cons _ t ih
theorem All2.reverse {α β : Type} {R : α → β → Prop} : ∀ {as : List α} {bs : List β}, All2 R as bs → All2 R as.reverse bs.reverse := fun h => by
  induction h with
  | nil => exact .nil
  | cons x _ ih =>
    rw [List.reverse_cons, List.reverse_cons]
    exact All2.snoc ih x
theorem divmod_of {V y r x : Int} (h : V * y + r = x) (h0 : 0 ≤ r) (h1 : r < y) : x / y = V ∧ x % y = r :=
  (Int.ediv_emod_unique (by lia)).mpr ⟨by rw [← h, Int.mul_comm]; lia, h0, h1⟩
theorem le_of_mul {V y r x : Int} (h : V * y + r = x) (h0 : 0 ≤ r) (hy : 1 ≤ y) (hV : 0 ≤ V) : V ≤ x := by
  have := Int.mul_le_mul_of_nonneg_left hy hV
  lia
section
variable {prog : Program} {w : World} {A : Around} {E : Value → Shared → Prop} {s : Shared} {h₀ : Heap} {m : Str → Option Value} {env : Env}
theorem src_rev {target : PySem.Expr} {body : List Stmt} {Q : Flow → Shared → Prop} {I ax : Addr} {its : Array Value} {k : Int} {news : List (Addr × Obj)} (hh : A.handled = none)
    (go : ∀ v (I : Addr) (s : Shared) (Q : Unit → Shared → Prop) (E : Value → Shared → Prop), Q () s → wpAny (model prog w) A (letOwnedTupleGo target (.ref I) v) Q E s)
    (F : Fr h₀ env.locals s.heap m) (N : News h₀ env.locals s.heap ((I, revObj ax k) :: news)) (hk : k = (its.size : Int) - 1) (off : Off1 I news)
    (DD : Drawn → Prop) (hD : DD s.drawn) (xs : List Str) (J : Nat → (Str → Option Value) → List (Addr × Obj) → Prop) (hJS : ∀ i m nw, J i m nw → SrcAt h₀ ax its nw) (h0 : J 0 m news) (hne : ax ≠ I)
    (step : TurnX DD prog w A h₀ env target body s I its.size (fun i v ex => its[its.size - 1 - i]? = some v ∧ ex = []) xs m J (fun v s' => Q (.ret v) s') (fun s' => Q .next s'))
    (hR : ∀ h' tk dr o news', DD dr → Fr h₀ env.locals h' (canonL xs o m) → News h₀ env.locals h' news' → J its.size (canonL xs o m) news' → Q .next { s with heap := h', toks := tk, drawn := dr }) :
    LoopSrc prog w A target body env Q E (.ref I) s := by
  subst hk
  have hl := (hJS _ _ _ h0).list F.keep (News.tl N)
  have hI := N _ List.mem_cons_self
  have hit : s.heap.IsRevIter I ax ((its.size : Int) - 1) := ⟨_, hI.1, rfl, rfl⟩
  refine wpAny_pyIter_revIter hit ?_
  refine forLed (S := SrcAt h₀ ax its) (Prot.of (Walks.listRev hh I ax hne its) fun i s' v Q' E' st hQ hv => go v I s' Q' E' hQ) (fun i h st => by obtain ⟨o, e, _⟩ := st.2.1; exact ⟨o, e⟩)
    (fun i h h' o nw st e e' k N' S => ⟨st.1, by obtain ⟨o', q, r⟩ := st.2.1; rw [e] at q; cases q; exact ⟨o, e', r⟩, S.list k N'⟩)
    hI.2.1.symm hI.2.2 ⟨Nat.zero_le _, by rw [show ((its.size : Int) - 1 - ((0 : Nat) : Int)) = (its.size : Int) - 1 by lia]; exact hit, hl⟩ F (News.tl N) off DD hD (fun i m₁ nw => AgreeOff xs m₁ m ∧ J i m₁ nw) (fun i m nw h => hJS i m nw h.2) ⟨AgreeOff.refl _ _, h0⟩ (TurnX.turn step) ?_
  rintro h' tk dr m' news' hDr F' N' ⟨ha, hJ⟩
  rw [ha.canon] at F' hJ
  exact hR h' tk dr m' news' hDr F' N' hJ
end
end

section
theorem item8 : ∀ k : Fin 8, Txt.item (Str.ofString "abcdABCD") (k.val : Int) = nm (decide (4 ≤ k.val)) ⟨k.val % 4, Nat.mod_lt _ (by decide)⟩ := by decide +kernel
theorem item4 : ∀ k : Fin 4, Txt.item (Str.ofString "abcd") (k.val : Int) = low k := by decide +kernel
theorem item4u : ∀ k : Fin 4, Txt.item (Str.ofString "ABCD") (k.val : Int) = upp k := by decide +kernel
noncomputable def fOf (x : Int) : Fin 4 := ⟨(x % 4).toNat, by have h1 := Int.emod_nonneg x (show (4 : Int) ≠ 0 by decide); have h2 := Int.emod_lt_of_pos x (show (0 : Int) < 4 by decide); lia⟩
theorem fOf_val (x : Int) : ((fOf x).val : Int) = x % 4 := Int.toNat_of_nonneg (Int.emod_nonneg x (by decide))
noncomputable def rowOf (k : Nat) (x : Int) : Row := { u := decide (4 ≤ k), p := ⟨k % 4, Nat.mod_lt _ (by decide)⟩, f := fOf x, w := x / 4 }
noncomputable def rowsTo (ns : List Int) (i : Nat) : List Row := (List.range i).map fun k => rowOf k (ns.getD k 0)
theorem rowsTo_zero (ns : List Int) : rowsTo ns 0 = [] := rfl
theorem rowsTo_succ (ns : List Int) (i : Nat) : rowsTo ns (i + 1) = rowsTo ns i ++ [rowOf i (ns.getD i 0)] := by
  unfold rowsTo
  rw [List.range_succ, List.map_append]
  rfl
/-- the eight numbers with the script's first i added -/
noncomputable def base8 : List Int := [9, 14, 7, -12, 14, -17, 20, 29]
noncomputable def adds (ns : List Int) : Nat → List Int
  | 0 => base8
  | i + 1 => (adds ns i).set i ((adds ns i).getD i 0 + ns.getD i 0)
theorem adds_len (ns : List Int) : ∀ i, (adds ns i).length = 8
  | 0 => rfl
  | i + 1 => by rw [adds, List.length_set, adds_len ns i]
noncomputable def red (x : Int) : Int := if 0 ≤ x then x % 400 else -((-x) % 400)
noncomputable def numsOf (ns : List Int) : List Int := (adds ns (min 8 ns.length)).map red
theorem red_bound (x : Int) : -400 < red x ∧ red x < 400 := by
  unfold red
  have h1 := Int.emod_nonneg x (show (400 : Int) ≠ 0 by decide)
  have h2 := Int.emod_lt_of_pos x (show (0 : Int) < 400 by decide)
  have h3 := Int.emod_nonneg (-x) (show (400 : Int) ≠ 0 by decide)
  have h4 := Int.emod_lt_of_pos (-x) (show (0 : Int) < 400 by decide)
  split <;> lia
theorem range9 : ∀ n : Fin 9, Builtin.Range.small 0 (n.val : Int) 1 = true ∧ Builtin.Range.rangeSize 0 (n.val : Int) 1 = ((n.val : Nat) : Int) := by decide +kernel
theorem all2_of : ∀ {vs : List Value} {ds : List Int}, IntsAre vs ds → All2 IsI ds vs := fun h => by
  induction h with
  | nil => exact .nil
  | cons i t _ ih => exact .cons ⟨t, rfl⟩ ih
theorem off_sub {a b : List (Addr × Obj)} {D : Addr} (h : LCg.Off1 D b) (hs : ∀ p ∈ a, p ∈ b) : LCg.Off1 D a := off1_of fun p hp => off1_mem h p (hs p hp)
end

section
open PySem.Calls PySem.Spec PyProof.V
noncomputable abbrev Cl := List (Fin 4 × Int)
noncomputable def emb (c : Cl) : List (Str × Int) := c.map fun q => (low q.1, q.2)
theorem low_inj' {i j : Fin 4} (h : low i = low j) : i = j := by
  have h1 := low_inj i j
  rw [h, beq_self_eq_true] at h1
  exact eq_of_beq h1.symm
theorem low_dec (i j : Fin 4) : decide (low i = low j) = decide (i = j) := decide_eq_decide.mpr ⟨low_inj', fun h => h ▸ rfl⟩
theorem emb_has (c : Cl) (k : Fin 4) : kdpHas (emb c) (low k) = kprHas c k := by
  unfold kdpHas kprHas emb
  rw [List.any_map]
  congr 1
  funext p
  exact low_dec _ _
theorem emb_look (k : Fin 4) (d : Int) : ∀ (c : Cl), kdpLook (emb c) (low k) d = kprLook c k d
  | [] => rfl
  | p :: c => by
    have ih := emb_look k d c
    unfold kdpLook kprLook emb at *
    rw [List.map_cons, List.find?_cons, List.find?_cons]
    dsimp only
    rw [low_dec]
    cases decide (p.1 = k) with
    | true => rfl
    | false => exact ih
theorem emb_put (c : Cl) (k : Fin 4) (v : Int) : kdpPut (emb c) (low k) v = emb (kprPut c k v) := by
  have h := emb_has c k
  unfold kdpHas kprHas at h
  unfold kdpPut kprPut
  rw [h]
  by_cases hb : (c.any fun p => decide (p.1 = k)) = true
  · rw [if_pos hb, if_pos hb]
    unfold emb
    rw [List.map_map, List.map_map]
    refine List.map_congr_left fun p _ => ?_
    show _ = (low (kprSet k v p).1, (kprSet k v p).2)
    unfold kprSet
    simp only [Function.comp, low_dec]
    split <;> rfl
  · rw [if_neg hb, if_neg hb]
    unfold emb
    rw [List.map_append]
    rfl
theorem emb_len (c : Cl) : (emb c).length = c.length := List.length_map _
noncomputable def DK (prog : Program) (w : World) (o : Obj) (c : Cl) : Prop := ∃ kvs, o.IsDictOf (PySem.strKind prog w) kvs ∧ FlatPairs PyData.str kvs (kdpD (emb c))
theorem flat_at {kvs : List (Str × Value)} {x : Str} {v : Value} : ∀ {c : Cl} {i : Nat}, FlatPairs PyData.str kvs (kdpD (emb c)) → kvs[i]? = some (x, v) → ∃ p wv t, c[i]? = some (p, wv) ∧ x = low p ∧ v = .int wv t := by
  induction kvs with
  | nil => intro c i h e; simp at e
  | cons a r ih =>
    intro c i h e
    cases c with
    | nil => cases h
    | cons q c =>
      obtain ⟨p, wv⟩ := q
      cases h with
      | cons hf ht =>
        cases i with
        | zero =>
          simp at e
          obtain ⟨rfl, rfl⟩ := e
          obtain ⟨t, ht⟩ := Flat.int_inv hf
          exact ⟨p, wv, t, rfl, rfl, ht⟩
        | succ i =>
          refine hideG fun GG hGG => ?_
          obtain ⟨p', w', t, e1, e2, e3⟩ := ih ht (i := i) (by simpa using e)
          refine hGG ?_
          clear hGG GG
          exact ⟨p', w', t, by simpa using e1, e2, e3⟩
theorem flat_len {kvs : List (Str × Value)} : ∀ {c : Cl}, FlatPairs PyData.str kvs (kdpD (emb c)) → kvs.length = c.length := by
  induction kvs with
  | nil => intro c h; cases c with | nil => rfl | cons _ _ => cases h
  | cons a r ih =>
    intro c h
    cases c with
    | nil => cases h
    | cons q c => cases h with | cons hf ht => simp [ih ht]
section
variable {prog : Program} {w : World} {A : Around} {E : Value → Shared → Prop} {s : Shared} {h₀ : Heap} {L d : Addr} {m : Str → Option Value} {news : List (Addr × Obj)} {u : Obj → List (Addr × Obj)} {o : Obj} {c : Cl} {k : Fin 4} {e : Int} {tk te : Tok}
theorem dk_tab (N : News h₀ L s.heap news) (hm : (d, o) ∈ news) (lo : (d == sysModules) = false) (h : DK prog w o c) : StrTab prog w s.heap d (kdpD (emb c)) := by
  refine hideG fun GG hGG => ?_
  obtain ⟨kvs, h1, h2⟩ := h
  refine hGG ?_
  clear hGG GG
  exact TabAt.ofNews N hm lo h1 h2
theorem dk_in {Q : Value → Shared → Prop} (N : News h₀ L s.heap news) (hm : (d, o) ∈ news) (lo : (d == sysModules) = false) (hd : DK prog w o c) (h : Q (.bool (kprHas c k)) { s with toks := s.toks + 1 }) : wpAny (model prog w) A (compareOp .In (.str (low k) tk) (.ref d)) Q E s :=
  kdp_in (dk_tab N hm lo hd) (by rw [emb_has]; exact h)
theorem dk_getItem {Q : Value → Shared → Prop} (N : News h₀ L s.heap news) (hm : (d, o) ∈ news) (lo : (d == sysModules) = false) (hd : DK prog w o c) (hk : kprHas c k = true) (h : ∀ t, Q (.int (kprLook c k 0) t) { s with toks := s.toks + 1 }) : wpAny (model prog w) A (getItem (.ref d) (.str (low k) tk)) Q E s :=
  kdp_getItem (dk_tab N hm lo hd) (by rw [emb_has]; exact hk) (by rw [emb_look]; exact h)
theorem dk_get2 {Q : Value → Shared → Prop} (N : News h₀ L s.heap news) (hm : (d, o) ∈ news) (lo : (d == sysModules) = false) (hd : DK prog w o c) (h : ∀ t, Q (.int (kprLook c k e) t) { s with toks := s.toks + 1 }) : wpAny (model prog w) A (call (.builtin "dict.get") [.ref d, .str (low k) tk, .int e te]) Q E s :=
  kdp_get2 (dk_tab N hm lo hd) (by rw [emb_look]; exact h)
theorem dk_set {Q : Unit → Shared → Prop} (F : Fr h₀ L s.heap m) (N : News h₀ L s.heap news) (U : UpdF d o news u) (hd : DK prog w o c) (hc : c.length ≤ 100)
    (h : ∀ h' o', Fr h₀ L h' m → News h₀ L h' (u o') → DK prog w o' (kprPut c k e) → Q () { s with heap := h', toks := s.toks + 1 }) : wpAny (model prog w) A (setItem (.ref d) (.str (low k) tk) (.int e te)) Q E s := by
  refine hideG fun GG hGG => ?_
  obtain ⟨kvs, h1, h2⟩ := hd
  refine hGG ?_
  clear hGG GG
  exact kdp_setItem F N U h1 h2 (by rw [emb_len]; lia) fun h' o' kvs' F' N' a b => h h' o' F' N' ⟨kvs', a, by rw [← emb_put]; exact b⟩
end
/-- what add_callers makes of its two tables -/
noncomputable def putAll (c : Cl) (l : Cl) : Cl := l.foldl (fun c p => kprPut c p.1 p.2) c
noncomputable def addAll (c : Cl) (l : Cl) : Cl := l.foldl (fun c p => kprPut c p.1 (kprLook c p.1 0 + p.2)) c
theorem put_len (c : Cl) (k : Fin 4) (v : Int) : (kprPut c k v).length ≤ c.length + 1 := by
  cases h : kprHas c k with
  | true => rw [kpr_len_old h]; lia
  | false => rw [kpr_len_new h]; exact Nat.le_refl _
theorem putAll_len : ∀ (l c : Cl), (putAll c l).length ≤ c.length + l.length
  | [], c => Nat.le_refl _
  | p :: l, c => by
    have h := putAll_len l (kprPut c p.1 p.2)
    have h2 := put_len c p.1 p.2
    rw [List.length_cons]
    exact Nat.le_trans h (by lia)
theorem addAll_len : ∀ (l c : Cl), (addAll c l).length ≤ c.length + l.length
  | [], c => Nat.le_refl _
  | p :: l, c => by
    have h := addAll_len l (kprPut c p.1 (kprLook c p.1 0 + p.2))
    have h2 := put_len c p.1 (kprLook c p.1 0 + p.2)
    rw [List.length_cons]
    exact Nat.le_trans h (by lia)
theorem putAll_snoc (c l : Cl) (p : Fin 4 × Int) : putAll c (l ++ [p]) = kprPut (putAll c l) p.1 p.2 := by
  unfold putAll; rw [List.foldl_append]; rfl
theorem addAll_snoc (c l : Cl) (p : Fin 4 × Int) : addAll c (l ++ [p]) = kprPut (addAll c l) p.1 (kprLook (addAll c l) p.1 0 + p.2) := by
  unfold addAll; rw [List.foldl_append]; rfl
end

section
open PySem.Calls PySem.Spec
section
variable {prog : Program} {w : World} {A : Around} {E : Value → Shared → Prop} {s : Shared} {h₀ : Heap} {L D l sl : Addr} {m : Str → Option Value} {news : List (Addr × Obj)} {g : Obj → List (Addr × Obj)} {n : Nat}
theorem set_all0 {items new : Array Value} {Q : Unit → Shared → Prop} (ho : s.heap.get? l = some (W.listOf items n)) (hD : s.heap.IsList D new) (hs : s.heap.IsSliceOf sl .none .none .none) (hne : l ≠ D) (hz : items.size ≤ 1000) (hz2 : new.size ≤ 1000)
    (h : Q () { s with heap := s.heap.update l (Obj.mapSeq fun xs => xs.extract 0 (0 : Int).toNat ++ new ++ xs.extract (max (0 : Int) (items.size : Int)).toNat xs.size) }) :
    wpAny (model prog w) A (setItem (.ref l) (.ref sl) (.ref D)) Q E s := by
  have hl : s.heap.IsList l items := PySem.IsL.isList (n := n) ho
  refine hideG fun GG hGG => ?_
  obtain ⟨oD, hoD, hcD, nD, hdD⟩ := id hD
  obtain ⟨os, hos, hcs, hds⟩ := id hs
  refine hGG ?_
  clear hGG GG
  have hTs : s.TypeIs (.ref sl) "slice" := ⟨os, hos, hcs⟩
  have hTD : s.TypeIs (.ref D) "list" := ⟨oD, hoD, hcD⟩
  unfold setItem
  try with_reducible refine wpAny_holding ?_
  first | refine wpAny_bind (wpAny_pure ?_) | skip
  refine wpAny_bind (wpAny_sequenceKey hl.typeIs (by decide) ?_)
  refine wpAny_bind (wpAny_callSpecial?_slot (name := Str.ofString "__setitem__") hl.typeIs slot_list_setitem
    (wpAny_call_entry slot_list_setitem hl.typeIs entry_list_setitem ?_ (args_list_setitem _ _ _)))
  show wpAny _ _ (Builtin.List.listSubscript? (.ref sl) >>= _) _ _ s
  refine wpAny_bind ?_
  unfold Builtin.List.listSubscript?
  refine wpAny_bind (wpAny_specialOf hTs slice_no_index ?_)
  simp only [Option.isNone_none, if_true]
  refine wpAny_pure ?_
  show wpAny _ _ (typeOf (.ref sl) >>= _) _ _ s
  refine wpAny_bind (wpAny_typeOf hTs ?_)
  rw [if_neg (by decide)]
  rw [listSliceParts_eq]
  refine wpAny_bind (wpAny_bind (wpAny_field hos hds (x := .none) rfl (wpAny_bind (wpAny_listPart .none ?_))))
  rw [if_neg (show ¬ ((rawPart none == rawInt 0) = true) from Bool.false_ne_true)]
  refine wpAny_bind (wpAny_field hos hds (x := .none) rfl (wpAny_bind (wpAny_listPart .none ?_)))
  refine wpAny_bind (wpAny_field hos hds (x := .none) rfl (wpAny_bind (wpAny_listPart .none (wpAny_pure ?_))))
  have hsr : Builtin.List.listSameRef (.ref l) (.ref D) = false := beq_eq_false_iff_ne.mpr hne
  rw [if_neg (show ¬ (Builtin.List.listSameRef (.ref l) (.ref D) = true) by rw [hsr]; exact Bool.false_ne_true)]
  refine wpAny_bind ?_
  unfold Builtin.List.listAllItems
  refine wpAny_bind (wpAny_typeOf hTD ?_)
  rw [if_pos (by decide)]
  unfold Builtin.List.listItems
  refine wpAny_bind (wpAny_seqItems hoD hdD (wpAny_pure ?_))
  refine wpAny_bind (wpAny_bind (wpAny_seqItems ho rfl (wpAny_pure ?_)))
  refine wpAny_bind (wpAny_of_eq (sliceIndices_raw none none none items.size (by decide)) ?_)
  rw [if_pos (show ((sliceBounds none none none items.size).2.2 == 1) = true from rfl)]
  refine wpAny_bind (wpAny_rule ?_)
  rw [if_neg (show ¬ (Builtin.List.listTooLong (items.size + new.size) = true) by unfold Builtin.List.listTooLong; rw [sizeLine_eq]; simp; lia)]
  have hz3 : ∀ a b : Nat, (items.extract 0 a ++ new ++ items.extract b items.size).size ≤ sizeLine + 1 := fun a b => by
    rw [sizeLine_eq, Array.size_append, Array.size_append, Array.size_extract, Array.size_extract]; lia
  first
  | refine wpAny_bind (listUpdate_at ho rfl ?_ (by rw [sizeLine_eq]; lia) (hz3 _ _))
  | refine wpAny_bind (wpAny_bind (listUpdate_at ho rfl ?_ (by rw [sizeLine_eq]; lia) (hz3 _ _)))
  refine wpAny_bind (wpAny_letGo ?_)
  first
    | exact wpAny_bind (wpAny_pure (wpAny_pure ⟨.none, rfl, wpAny_pure h⟩))
    | exact wpAny_pure ⟨.none, rfl, wpAny_pure h⟩
theorem set_all {vs new : List Value} {Q : Unit → Shared → Prop} (F : Fr h₀ L s.heap m) (N : News h₀ L s.heap news) (U : UpdF l (W.listOf vs.toArray n) news g) (hD : s.heap.IsList D new.toArray) (hs : s.heap.IsSliceOf sl .none .none .none) (hne : l ≠ D) (hz : vs.length ≤ 1000) (hz2 : new.length ≤ 1000)
    (h : ∀ h' n', Fr h₀ L h' m → News h₀ L h' (g (W.listOf new.toArray n')) → Q () { s with heap := h' }) :
    wpAny (model prog w) A (setItem (.ref l) (.ref sl) (.ref D)) Q E s := by
  refine hideG fun GG hGG => ?_
  obtain ⟨p1, p2, rfl, hg, a, b⟩ := U.split
  refine hGG ?_
  clear hGG GG
  have z := N (l, W.listOf vs.toArray n) (List.mem_append.mpr (.inr (.head _)))
  refine set_all0 z.1 hD hs hne (by rw [List.size_toArray]; exact hz) (by rw [List.size_toArray]; exact hz2) ?_
  refine h _ (if new.toArray.size == vs.toArray.size then n else n + 1) (F.change (Heap.SameBut.update ..) z.2.1 z.2.2) ?_
  rw [hg]
  refine ki_turn _ N a b ?_ rfl
  apply Array.toList_inj.mp
  simp
end
end

section
open PySem.Calls LCg LCt LCp PySem.Spec
noncomputable def StrSrcT (prog : Program) (w : World) (A : Around) (h₀ : Heap) (L : Addr) (m : Str → Option Value) (env : Env) (ct elt : PySem.Expr) (x : Str) (scope : Scope) (cl : List (Str × Addr)) (Fin : Shared → List Value → List (Addr × Obj) → Prop) (xv : Value) (s₁ : Shared) : Prop :=
  ∃ x9 t news, xv = .str x9 t ∧ A.handled = none ∧ x9.cps.all (· < 128) = true ∧ Fr h₀ L s₁.heap m ∧ News h₀ L s₁.heap news ∧ x9.cps.size ≤ sizeLine ∧
    ∀ s₂ : Shared, (∃ h, s₂ = { s₁ with heap := h }) → CompRestT prog w A h₀ L m env ct elt x scope cl s₂ (fun _ => True) (SignAt x9) (Fin s₂) x9.cps.size 0 [] news
noncomputable def StrSrcU (prog : Program) (w : World) (A : Around) (h₀ : Heap) (L : Addr) (m : Str → Option Value) (env : Env) (elt : PySem.Expr) (x : Str) (scope : Scope) (cl : List (Str × Addr)) (Fin : Shared → List Value → List (Addr × Obj) → Prop) (xv : Value) (s₁ : Shared) : Prop :=
  ∃ x9 t news, xv = .str x9 t ∧ A.handled = none ∧ x9.cps.all (· < 128) = true ∧ Fr h₀ L s₁.heap m ∧ News h₀ L s₁.heap news ∧ x9.cps.size ≤ sizeLine ∧
    ∀ s₂ : Shared, (∃ h, s₂ = { s₁ with heap := h }) → CompRest prog w A h₀ L m env elt x scope cl s₂ (fun _ => True) (SignAt x9) (Fin s₂) x9.cps.size 0 [] news
section
variable {prog : Program} {w : World} {A : Around} {E : Value → Shared → Prop} {s : Shared} {h₀ : Heap} {L : Addr} {m : Str → Option Value} {env : Env}
theorem ListComp_TS {ct elt iter : PySem.Expr} {x : Str} {px : Pos} {scope : Scope} {cl : List (Str × Addr)} {pos : Pos} {Q : Value → Shared → Prop} (F₀ : Fr h₀ L s.heap m)
    (hclos : closureFor scope env = pure cl) (hcell : ∀ y ∈ scope.names, y.2 ≠ .cell) (hkind : scope.kind = .function)
    (hnames : ∀ y ∈ scope.names, y.2 = .local → scope.names.lookup y.1 = some .local) (hx : scope.names.lookup x = some .local)
    (h : wpAny (model prog w) A (eval iter env) (StrSrcT prog w A h₀ L m env ct elt x scope cl (fun s₂ => FinE h₀ L m s₂ Q)) E s)
    (hs : ∀ x, foldedSetIterable iter env x = pure x) :
    wpAny (model prog w) A (eval (.ListComp elt [⟨.Name x px, iter, [ct], 0⟩] scope pos) env) Q E s := by
  rw [eval_ListComp]
  refine wpAny_comprehension_free (use := none) rfl hs hclos hkind hnames (wpAny_mono h (fun xv s₁ h₁ => ?_) fun _ _ e => e)
  refine hideG fun GG hGG => ?_
  obtain ⟨x9, t, news, rfl, hh, ha, F, N, hsz, R⟩ := h₁
  refine hGG ?_
  clear hGG GG
  refine wpAny_pyIter_ascii ha ?_
  refine block_T (Walks.strAscii hh s₁.heap.objs.size x9 t) hsz (fun i h st => by obtain ⟨o, e, _⟩ := st; exact ⟨o, e⟩) (fun i h h' o nw st e e' _ _ _ => by obtain ⟨o', q, r⟩ := st; rw [e] at q; cases q; exact ⟨o, e', r⟩) hcell hkind hx ⟨_, Heap.get?_push_size _ rfl, rfl, rfl⟩ (fun b hb => ?_)
      (F.keeps fun _ _ e => Heap.get?_push_of_some _ e) (N.grown fun _ _ e => Heap.get?_push_of_some _ e) (Nat.ne_of_lt F.ns.lt) (next_is_new F) (fun p hp => Nat.ne_of_lt (Heap.lt_size (N p hp).1)) trivial (R _ ⟨_, rfl⟩) ?_
  · rw [List.mem_singleton.mp hb]
    show s₁.heap.objs.size < (s₁.heap.push _).objs.size
    rw [Heap.size_push]; exact Nat.lt_succ_self _
  · intro D C h tk m' ys news' F' N' o1 hn hC₀ hD₀ hCL hDL hCD offC fin
    refine ⟨m', hn, fun h'' hs'' => fin D h'' tk (F'.change hs'' hCL hC₀) (fun p hp => ?_) o1⟩
    refine ⟨hs''.extBut _ _ ?_ (N' p hp).1, (N' p hp).2⟩
    rcases List.mem_cons.mp hp with rfl | hp
    · exact Ne.symm hCD
    · exact offC p hp
theorem ListComp_US {elt iter : PySem.Expr} {x : Str} {px : Pos} {scope : Scope} {cl : List (Str × Addr)} {pos : Pos} {Q : Value → Shared → Prop} (F₀ : Fr h₀ L s.heap m)
    (hclos : closureFor scope env = pure cl) (hcell : ∀ y ∈ scope.names, y.2 ≠ .cell) (hkind : scope.kind = .function)
    (hnames : ∀ y ∈ scope.names, y.2 = .local → scope.names.lookup y.1 = some .local) (hx : scope.names.lookup x = some .local)
    (h : wpAny (model prog w) A (eval iter env) (StrSrcU prog w A h₀ L m env elt x scope cl (fun s₂ => FinE h₀ L m s₂ Q)) E s)
    (hs : ∀ x, foldedSetIterable iter env x = pure x) :
    wpAny (model prog w) A (eval (.ListComp elt [⟨.Name x px, iter, [], 0⟩] scope pos) env) Q E s := by
  rw [eval_ListComp]
  refine wpAny_comprehension_free (use := none) rfl hs hclos hkind hnames (wpAny_mono h (fun xv s₁ h₁ => ?_) fun _ _ e => e)
  refine hideG fun GG hGG => ?_
  obtain ⟨x9, t, news, rfl, hh, ha, F, N, hsz, R⟩ := h₁
  refine hGG ?_
  clear hGG GG
  refine wpAny_pyIter_ascii ha ?_
  refine block_U (Walks.strAscii hh s₁.heap.objs.size x9 t) hsz (fun i h st => by obtain ⟨o, e, _⟩ := st; exact ⟨o, e⟩) (fun i h h' o nw st e e' _ _ _ => by obtain ⟨o', q, r⟩ := st; rw [e] at q; cases q; exact ⟨o, e', r⟩) hcell hkind hx ⟨_, Heap.get?_push_size _ rfl, rfl, rfl⟩ (fun b hb => ?_)
      (F.keeps fun _ _ e => Heap.get?_push_of_some _ e) (N.grown fun _ _ e => Heap.get?_push_of_some _ e) (Nat.ne_of_lt F.ns.lt) (next_is_new F) (fun p hp => Nat.ne_of_lt (Heap.lt_size (N p hp).1)) trivial (R _ ⟨_, rfl⟩) ?_
  · rw [List.mem_singleton.mp hb]
    show s₁.heap.objs.size < (s₁.heap.push _).objs.size
    rw [Heap.size_push]; exact Nat.lt_succ_self _
  · intro D C h tk m' ys news' F' N' o1 hn hC₀ hD₀ hCL hDL hCD offC fin
    refine ⟨m', hn, fun h'' hs'' => fin D h'' tk (F'.change hs'' hCL hC₀) (fun p hp => ?_) o1⟩
    refine ⟨hs''.extBut _ _ ?_ (N' p hp).1, (N' p hp).2⟩
    rcases List.mem_cons.mp hp with rfl | hp
    · exact Ne.symm hCD
    · exact offC p hp
/-- a block over pairs (callee, weight) whose turns leave the ledger as it is -/
theorem restP_calls {β : Type} (val : Fin 4 × Int → β) {RS : β → Value → Prop} {led news : List (Addr × Obj)} {as : Cl} {vs : List Value} (hA : CallsIn led as vs) (hsub : ∀ p ∈ led, p ∈ news)
    {elt : PySem.Expr} {x x₂ : Str} {scope : Scope} {cl : List (Str × Addr)} {S : List (Addr × Obj) → Prop} {Fin : List Value → List (Addr × Obj) → Prop} (hS : S news)
    (elm : ∀ f w9 t1 t2 ys, Small w9 → ∀ I oI C oC D m₂ h tk (E' : Value → Shared → Prop), NsObj oC m₂ → m₂ x = some (.str (low f) t1) → m₂ x₂ = some (.int w9 t2) → Fr h₀ L h m → News h₀ L h ((I, oI) :: (C, oC) :: (D, lst ys) :: news) → Off3 I C D news → ((@Ne Nat I C) ∧ (@Ne Nat I D) ∧ (@Ne Nat C D)) →
        wpAny (model prog w) A (eval elt (compEnvC scope cl C env)) (fun y s' => RS (val (f, w9)) y ∧ SameLed h₀ L m s ((I, oI) :: (C, oC) :: (D, lst ys) :: news) s') E' { s with heap := h, toks := tk })
    (fin : ∀ ys, All2 RS (as.map val) ys → Fin ys news) :
    CompRestP prog w A h₀ L m env elt x x₂ scope cl s S (fun i v => vs.toArray[i]? = some v) Fin vs.toArray.size 0 [] news := by
  have hl := hA.length
  refine restP_J (n := vs.length) (fun i ys news' => news' = news ∧ All2 RS ((as.take i).map val) ys) ?_ ?_ _ _ _ _ (by simp) ⟨rfl, by simpa using All2.nil⟩
  · rintro i v ys news' hi hP ⟨rfl, hJ⟩
    refine hideG fun GG hGG => ?_
    obtain ⟨⟨f, w9⟩, ha, T, t1, t2, n, rfl, hT, hsm⟩ := hA.get' (i := i) (b := v) (by simpa using hP)
    refine hGG ?_
    clear hGG GG
    have ht : as.take (i + 1) = as.take i ++ [(f, w9)] := by rw [List.take_add_one, ha]; rfl
    refine ⟨T, _, _, _, _, rfl, hsub _ hT, rfl, rfl, fun I oI C oC D m₂ h tk E' a1 a2 a3 a4 a5 a6 a7 => ?_⟩
    refine wpAny_mono (elm f w9 t1 t2 ys hsm I oI C oC D m₂ h tk E' a1 a2 a3 a4 a5 a6 a7) (fun y s₂ h₂ => ?_) fun _ _ e => e
    refine hideG fun GG hGG => ?_
    obtain ⟨hy, h₂, tk₂, rfl, F₂, N₂⟩ := h₂
    refine hGG ?_
    clear hGG GG
    refine ⟨h₂, tk₂, news', rfl, F₂, N₂, a6, hS, rfl, ?_⟩
    rw [ht, List.map_append]
    exact hJ.snoc hy
  · rintro ys news' ⟨rfl, hJ⟩
    rw [← hl, List.take_length] at hJ
    exact fin ys hJ
end
end

section
open PySem.Calls PySem.Spec PyProof.V
theorem sign_abcd {i : Nat} {v : Value} (h : SignAt (Str.ofString "abcd") i v) : ∃ (p : Fin 4) (u : Tok), p.val = i ∧ v = .str (low p) u := by
  refine hideG fun GG hGG => ?_
  obtain ⟨c, u, hc, rfl⟩ := h
  have hi : i < 4 := by
    have h1 := (Array.getElem?_eq_some_iff.mp hc).1
    exact h1
  have key : ∀ p : Fin 4, (Str.ofString "abcd").cps[p.val]? = some ((low p).cps.getD 0 0) ∧ (⟨#[(low p).cps.getD 0 0]⟩ : Str) = low p := by decide +kernel
  obtain ⟨k1, k2⟩ := key ⟨i, hi⟩
  refine hGG ?_
  clear hGG GG
  rw [hc] at k1
  refine ⟨⟨i, hi⟩, u, rfl, ?_⟩
  rw [Option.some.inj k1, k2]
section
open LCg LCt LCp
variable {prog : Program} {w : World} {A : Around} {E : Value → Shared → Prop} {s : Shared} {h₀ : Heap} {L : Addr} {m : Str → Option Value} {env : Env}
theorem take4 (p : Fin 4) : ([0, 1, 2, 3] : List (Fin 4)).take (p.val + 1) = ([0, 1, 2, 3] : List (Fin 4)).take p.val ++ [p] := by revert p; decide
/-- a block with a test over the four letters whose turns leave the ledger as it is -/
theorem restT_abcd (test : Fin 4 → Bool) {RS : Fin 4 → Value → Prop}
    {ct elt : PySem.Expr} {x : Str} {scope : Scope} {cl : List (Str × Addr)} {S : List (Addr × Obj) → Prop} {Fin : List Value → List (Addr × Obj) → Prop} {news : List (Addr × Obj)} (hS : S news)
    (turn : ∀ (p : _root_.Fin 4) t ys, ∀ I oI C oC D m₂ h tk (E' : Value → Shared → Prop), NsObj oC m₂ → m₂ x = some (.str (low p) t) → Fr h₀ L h m → News h₀ L h ((I, oI) :: (C, oC) :: (D, lst ys) :: news) → Off3 I C D news → ((@Ne Nat I C) ∧ (@Ne Nat I D) ∧ (@Ne Nat C D)) →
      wpAny (model prog w) A (isTrue ct (compEnvC scope cl C env) (eval ct (compEnvC scope cl C env))) (fun ok s' => ok = test p ∧ SameLed h₀ L m s ((I, oI) :: (C, oC) :: (D, lst ys) :: news) s') E' { s with heap := h, toks := tk })
    (elm : ∀ (p : _root_.Fin 4) t ys, ∀ I oI C oC D m₂ h tk (E' : Value → Shared → Prop), NsObj oC m₂ → m₂ x = some (.str (low p) t) → Fr h₀ L h m → News h₀ L h ((I, oI) :: (C, oC) :: (D, lst ys) :: news) → Off3 I C D news → ((@Ne Nat I C) ∧ (@Ne Nat I D) ∧ (@Ne Nat C D)) →
        wpAny (model prog w) A (eval elt (compEnvC scope cl C env)) (fun y s' => RS p y ∧ SameLed h₀ L m s ((I, oI) :: (C, oC) :: (D, lst ys) :: news) s') E' { s with heap := h, toks := tk })
    (fin : ∀ ys, All2 RS (([0, 1, 2, 3] : List (_root_.Fin 4)).filter test) ys → Fin ys news) :
    CompRestT prog w A h₀ L m env ct elt x scope cl s S (SignAt (Str.ofString "abcd")) Fin 4 0 [] news := by
  refine restT_J (n := 4) (fun i ys news' => news' = news ∧ All2 RS ((([0, 1, 2, 3] : List (_root_.Fin 4)).take i).filter test) ys) ?_ ?_ _ _ _ _ (by simp) ⟨rfl, by rw [List.take_zero]; exact All2.nil⟩
  · rintro i v ys news' hi hP ⟨rfl, hJ⟩ I oI C oC D m₂ h tk E' a1 a2 a3 a4 a5 a6
    refine hideG fun GG hGG => ?_
    obtain ⟨p, t, rfl, rfl⟩ := sign_abcd hP
    refine hGG ?_
    clear hGG GG
    refine wpAny_mono (turn p t ys I oI C oC D m₂ h tk E' a1 a2 a3 a4 a5 a6) (fun ok s' h' => ?_) fun _ _ e => e
    refine hideG fun GG hGG => ?_
    obtain ⟨hok, h', tk', rfl, F', N'⟩ := h'
    refine hGG ?_
    clear hGG GG
    cases ok with
    | true =>
      rw [if_pos rfl]
      refine wpAny_mono (elm p t ys I oI C oC D m₂ h' tk' E' a1 a2 F' N' a5 a6) (fun y s₂ h₂ => ?_) fun _ _ e => e
      refine hideG fun GG hGG => ?_
      obtain ⟨hy, h₂, tk₂, rfl, F₂, N₂⟩ := h₂
      refine hGG ?_
      clear hGG GG
      refine ⟨h₂, tk₂, news', rfl, F₂, N₂, a5, hS, rfl, ?_⟩
      rw [take4, List.filter_append]
      simp only [List.filter_cons, ← hok, List.filter_nil, if_true]
      exact hJ.snoc hy
    | false =>
      rw [if_neg Bool.false_ne_true]
      refine ⟨h', tk', news', rfl, F', N', a5, hS, rfl, ?_⟩
      rw [take4, List.filter_append]
      simp only [List.filter_cons, ← hok, List.filter_nil, Bool.false_eq_true, if_false, List.append_nil]
      exact hJ
  · rintro ys news' ⟨rfl, hJ⟩
    exact fin ys hJ
end
/-- the tables of callers, one for each called place, in their order -/
noncomputable abbrev Book := List (Fin 4 × Cl)
noncomputable def callsOf' (rows : List Row) (pl : Fin 4) : Cl := (rows.filter (·.p = pl)).map fun r => (r.f, r.w)
noncomputable def onOf (rows : List Row) (g : Fin 4) : Cl := (callsOf' rows g).filter (fun q => decide (q.1 ≠ g))
noncomputable def overOf (rows : List Row) (g : Fin 4) : Int := ((onOf rows g).map (·.2)).sum
noncomputable def waysOf (rows : List Row) (g : Fin 4) (c : Fin 4 × Int) : Cl := if c.1 = g then (onOf rows g).map (fun q => (q.1, c.2 * q.2)) else [(c.1, c.2 * overOf rows g)]
noncomputable def getB (B : Book) (k : Fin 4) : Cl := ((B.find? fun b => decide (b.1 = k)).map (·.2)).getD []
noncomputable def putB (B : Book) (k : Fin 4) (c : Cl) : Book := if B.any (fun b => decide (b.1 = k)) then B.map (fun b => if decide (b.1 = k) then (b.1, c) else b) else B ++ [(k, c)]
noncomputable def stepB (B : Book) (p : Fin 4) (q : Fin 4 × Int) : Book := putB B q.1 (addAll (putAll [] (getB B q.1)) [(p, q.2)])
noncomputable def callB (rows : List Row) (g : Fin 4) (B : Book) (p : Fin 4) (c : Fin 4 × Int) : Book := (waysOf rows g c).foldl (fun B q => stepB B p q) B
noncomputable def placeB (rows : List Row) (g : Fin 4) (B : Book) (p : Fin 4) : Book := (callsOf' rows p).foldl (fun B c => callB rows g B p c) B
noncomputable def others (g : Fin 4) : List (Fin 4) := [0, 1, 2, 3].filter (fun p => decide (p ≠ g))
noncomputable def bookOf (rows : List Row) (g : Fin 4) : Book := (others g).foldl (placeB rows g) []
noncomputable def totalOf (B : Book) : Cl := B.foldl (fun t b => addAll (putAll [] t) b.2) []
noncomputable def rowsB (B : Book) : List Row := B.flatMap fun b => b.2.map fun q => { u := !decide (q.1 < b.1), p := q.1, f := b.1, w := q.2 }

inductive WayV (news : List (Addr × Obj)) (c : Fin 4 × Int) (v : Value) : Prop
  | mk (T : Addr) (t1 t2 : Tok) (n : Nat) (e : v = .ref T) (m : (T, ({ cls := .type "tuple", data := .seq #[.str (low c.1) t1, .int c.2 t2] n } : Obj)) ∈ news) : WayV news c v
theorem WayV.mono {n n' : List (Addr × Obj)} (h : ∀ p ∈ n, p ∈ n') {c : Fin 4 × Int} {v : Value} : WayV n c v → WayV n' c v := fun k => k.rec fun T a b k e m => .mk T a b k e (h _ m)
theorem nodup_len : ∀ {l m : List (Fin 4)}, l.Nodup → (∀ x ∈ l, x ∈ m) → l.length ≤ m.length := fun {l} => by
  induction l with
  | nil => exact fun _ _ => Nat.zero_le _
  | cons x l ih =>
    intro m hn hs
    have hx : x ∈ m := hs x List.mem_cons_self
    obtain ⟨hxl, hnl⟩ := List.nodup_cons.mp hn
    have h := ih (m := m.erase x) hnl fun y hy => (List.mem_erase_of_ne (fun e : y = x => hxl (by rw [← e]; exact hy))).mpr (hs y (List.mem_cons_of_mem _ hy))
    rw [List.length_erase_of_mem hx] at h
    have := List.length_pos_of_mem hx
    rw [List.length_cons]
    lia
theorem nodup4 {α : Type} {c : List (Fin 4 × α)} (h : (c.map (·.1)).Nodup) : c.length ≤ 4 := by
  have key : ∀ x : Fin 4, x ∈ ([0, 1, 2, 3] : List (Fin 4)) := by decide
  have h1 := nodup_len (m := [0, 1, 2, 3]) h fun x _ => key x
  rwa [List.length_map] at h1
theorem putAll_nodup : ∀ (l c : Cl), (c.map (·.1)).Nodup → ((putAll c l).map (·.1)).Nodup := fun l => by
  induction l with
  | nil => exact fun _ h => h
  | cons p l ih => exact fun c h => ih _ (kpr_nodup h p.1 p.2)
theorem addAll_nodup : ∀ (l c : Cl), (c.map (·.1)).Nodup → ((addAll c l).map (·.1)).Nodup := fun l => by
  induction l with
  | nil => exact fun _ h => h
  | cons p l ih => exact fun c h => ih _ (kpr_nodup h p.1 _)
theorem nil_nodup : (([] : Cl).map (·.1)).Nodup := List.nodup_nil
inductive BV (prog : Program) (w : World) (ext : List (Addr × Obj)) (b : Fin 4 × Cl) (kv : Str × Value) : Prop
  | mk (k : kv.1 = low b.1) (n : (b.2.map (·.1)).Nodup) (d : Addr) (o : Obj) (e : kv.2 = .ref d) (m : (d, o) ∈ ext) (l : (d == sysModules) = false) (D : DK prog w o b.2) : BV prog w ext b kv
noncomputable abbrev BookIn (prog : Program) (w : World) (ext : List (Addr × Obj)) : Book → List (Str × Value) → Prop := All2 (BV prog w ext)
theorem BookIn.mono {prog : Program} {w : World} {e e' : List (Addr × Obj)} (h : ∀ p ∈ e, p ∈ e') {B : Book} {kvs : List (Str × Value)} : BookIn prog w e B kvs → BookIn prog w e' B kvs :=
  All2.imp fun _ _ k => k.rec fun a n d o x y z u => .mk a n d o x (h _ y) z u
theorem book_get {prog : Program} {w : World} {ext : List (Addr × Obj)} (k : Fin 4) : ∀ {B : Book} {kvs : List (Str × Value)}, BookIn prog w ext B kvs →
    (∃ d o, valueAt kvs (low k) = some (.ref d) ∧ (d, o) ∈ ext ∧ (d == sysModules) = false ∧ DK prog w o (getB B k) ∧ ((getB B k).map (·.1)).Nodup) ∨ (valueAt kvs (low k) = none ∧ getB B k = [])
  := fun k9 => by
  induction k9 with
  | nil => exact .inr ⟨rfl, rfl⟩
  | @cons b kv B kvs x _ ih =>
    refine hideG fun GG hGG => ?_
    obtain ⟨e, hn, d, o, ev, hm, lo, hd⟩ := x
    refine hGG ?_
    clear hGG GG
    unfold valueAt getB at ih ⊢
    rw [List.find?_cons, List.find?_cons]
    rw [e, show decide (low b.1 = low k) = decide (b.1 = k) from low_dec _ _]
    cases h : decide (b.1 = k) with
    | true => exact .inl ⟨d, o, congrArg some ev, hm, lo, hd, hn⟩
    | false => exact ih
theorem book_any {prog : Program} {w : World} {ext : List (Addr × Obj)} (k : Fin 4) : ∀ {B : Book} {kvs : List (Str × Value)}, BookIn prog w ext B kvs → kvs.any (fun kv => decide (kv.1 = low k)) = B.any (fun b => decide (b.1 = k)) := fun k9 => by
  induction k9 with
  | nil => rfl
  | cons x _ ih => rw [List.any_cons, List.any_cons, ih, x.1, low_dec]
theorem book_map {prog : Program} {w : World} {ext : List (Addr × Obj)} {k : Fin 4} {c : Cl} {v : Value} (hb : BV prog w ext (k, c) (low k, v)) : ∀ {B : Book} {kvs : List (Str × Value)}, BookIn prog w ext B kvs →
    BookIn prog w ext (B.map fun b => if decide (b.1 = k) then (b.1, c) else b) (kvs.map fun kv => if kv.1 = low k then (kv.1, v) else kv)
  := fun k9 => by
  induction k9 with
  | nil => exact .nil
  | @cons b kv B kvs x _ ih =>
    have e : kv.1 = low b.1 := x.rec fun k _ _ _ _ _ _ _ => k
    refine .cons ?_ ih
    dsimp only
    by_cases h : b.1 = k
    · rw [if_pos (decide_eq_true h), if_pos (by rw [e, h])]
      exact hb.rec fun _ n d o e2 m l D => .mk e n d o e2 m l D
    · rw [if_neg (by simpa using h), if_neg (by rw [e]; exact fun q => h (low_inj' q))]
      exact x
theorem book_put {prog : Program} {w : World} {ext : List (Addr × Obj)} {k : Fin 4} {c : Cl} {v : Value} (hb : BV prog w ext (k, c) (low k, v)) {B : Book} {kvs : List (Str × Value)} (h : BookIn prog w ext B kvs) :
    BookIn prog w ext (putB B k c) (stored kvs (low k) v) := by
  unfold putB stored
  rw [book_any k h]
  by_cases ha : (B.any fun b => decide (b.1 = k)) = true
  · rw [if_pos ha, if_pos ha]
    exact book_map hb h
  · rw [if_neg ha, if_neg ha]
    exact All2.snoc h hb
theorem putB_keys (B : Book) (k : Fin 4) (c : Cl) (h : (B.map (·.1)).Nodup) : ((putB B k c).map (·.1)).Nodup := by
  unfold putB
  by_cases ha : (B.any fun b => decide (b.1 = k)) = true
  · rw [if_pos ha, List.map_map]
    rw [show (List.map ((fun x : Fin 4 × Cl => x.1) ∘ fun b => if decide (b.1 = k) = true then (b.1, c) else b) B) = B.map (·.1) from List.map_congr_left fun b _ => by simp only [Function.comp]; split <;> rfl]
    exact h
  · rw [if_neg ha, List.map_append]
    refine List.nodup_append.mpr ⟨h, List.nodup_cons.mpr ⟨by simp, List.nodup_nil⟩, fun a hm b hb => ?_⟩
    intro e
    rw [List.map_cons, List.map_nil, List.mem_singleton] at hb
    subst e hb
    refine hideG fun GG hGG => ?_
    obtain ⟨q, hq, e⟩ := List.mem_map.mp hm
    refine hGG ?_
    clear hGG GG
    exact ha (List.any_eq_true.mpr ⟨q, hq, decide_eq_true e⟩)
end

section
section
variable {M : Model} {A : Around} {E : Value → Shared → Prop} {s : Shared} {K : Frag} {x C L f : Addr} {h₀ : Heap} {m : Str → Option Value} {ox : Obj} {od : Option Obj} {v : Value}
/-- deleting an item of an object whose class has __delitem__ -/
theorem delItem_K {Q : Unit → Shared → Prop} (F : Fr h₀ L s.heap m) (X₀ : K.In h₀) (I : InstAt s.heap x ox C od) (hq : noSeq K C = true) (hs : findIn K (.ref C) "__delitem__" = some (some (.ref f))) (hf : isFn K (.ref f) = true)
    (h : wpAny M A (call (.ref f) [.ref x, v]) (fun _ s' => Q () s') E s) : wpAny M A (delItem (.ref x) v) Q E s := by
  have X := X₀.keeps F.keep
  unfold delItem sequenceKey
  refine wpAny_holding (wpAny_bind (wpAny_bind (I.type.here ?_)))
  refine wpAny_bind ((anyM_none X hq).here ?_)
  rw [if_pos (show (!false) = true from rfl)]
  exact wpAny_pure (wpAny_bind (special_fn X I hs (beq_iff_eq.mp hf) (wpAny_mono h (fun _ _ z => wpAny_pure z) fun _ _ z => z)))
end
end

section
open PySem.Calls LCg LCt LCp PySem.Spec
/-- what a list comprehension with a pair of names for its target and one test has to do with its list -/
noncomputable def SrcPT (prog : Program) (w : World) (A : Around) (h₀ : Heap) (L : Addr) (m : Str → Option Value) (env : Env) (ct elt : PySem.Expr) (x x₂ : Str) (scope : Scope) (cl : List (Str × Addr)) (Q : Value → Shared → Prop) (xv : Value) (s₁ : Shared) : Prop :=
  ∃ (ax : Addr) (its : Array Value) (news : List (Addr × Obj)) (J : Nat → List Value → List (Addr × Obj) → Prop), xv = .ref ax ∧ A.handled = none ∧ Fr h₀ L s₁.heap m ∧ News h₀ L s₁.heap news ∧ its.size ≤ sizeLine ∧ J 0 [] news ∧ (∀ i ys nw, J i ys nw → SrcAt h₀ ax its nw) ∧
    ∀ g : Heap, (∀ i v ys nw, i < its.size → its[i]? = some v → J i ys nw → ∃ (t : Addr) (ot : Obj) (v₁ v₂ : Value) (nt : Nat), v = .ref t ∧ (t, ot) ∈ nw ∧ ot.cls = .type "tuple" ∧ ot.data = .seq #[v₁, v₂] nt ∧
        ∀ I oI C oC D m₂ h tk (E' : Value → Shared → Prop), NsObj oC m₂ → m₂ x = some v₁ → m₂ x₂ = some v₂ → Fr h₀ L h m → News h₀ L h ((I, oI) :: (C, oC) :: (D, lst ys) :: nw) → Off3 I C D nw → ((@Ne Nat I C) ∧ (@Ne Nat I D) ∧ (@Ne Nat C D)) →
          wpAny (model prog w) A (isTrue ct (compEnvC scope cl C env) (eval ct (compEnvC scope cl C env))) (fun ok s' => if ok = true then
            wpAny (model prog w) A (eval elt (compEnvC scope cl C env)) (CompEnd h₀ L m { s₁ with heap := h, toks := tk } I oI C oC D (lst ys) (fun _ => True) (fun y nw' => J (i + 1) (ys ++ [y]) nw')) E' s'
            else CompEnd h₀ L m { s₁ with heap := h, toks := tk } I oI C oC D (lst ys) (fun _ => True) (fun _ nw' => J (i + 1) ys nw') Value.none s') E' { s₁ with heap := h, toks := tk }) ∧
      ∀ ys nw, J its.size ys nw → FinE h₀ L m { s₁ with heap := g } Q ys nw
section
variable {prog : Program} {w : World} {A : Around} {E : Value → Shared → Prop} {s : Shared} {h₀ : Heap} {L : Addr} {m : Str → Option Value} {env : Env}
theorem alt {h : Heap} {b : Addr} {o : Obj} (e : h.get? b = some o) : @LT.lt Nat _ b h.objs.size := Heap.lt_size e
theorem blkPT {ct elt iter : PySem.Expr} {x x₂ : Str} {px px₂ tp : Pos} {tk₀} {scope : Scope} {cl : List (Str × Addr)} {pos : Pos} {s₂ : Shared} {I ax : Addr} {its : Array Value} {news : List (Addr × Obj)} {J : Nat → List Value → List (Addr × Obj) → Prop}
    {RR : Value → Addr → Result → Shared → Prop} {St : Nat → Heap → Prop} {fp : List Addr}
    (W : Walks prog w A I fp [I] its.size (fun i v => its[i]? = some v) St) (hsz : its.size ≤ sizeLine) (hLi : ∀ i h, St i h → ∃ l j, h.IsListIter I l j)
    (hSt : ∀ i h h' o nw, St i h → h.get? I = some o → h'.get? I = some o → (∀ b o, h₀.get? b = some o → h'.get? b = some o) → News h₀ L h' nw → SrcAt h₀ ax its nw → St i h')
    (hcell : ∀ y ∈ scope.names, y.2 ≠ .cell) (hkind : scope.kind = .function) (hx : scope.names.lookup x = some .local) (hx₂ : scope.names.lookup x₂ = some .local) (hxx : x ≠ x₂) (hh : A.handled = none)
    (hst : St 0 s₂.heap) (hfp : ∀ b ∈ fp, b < s₂.heap.objs.size) (F : Fr h₀ L s₂.heap m) (N : News h₀ L s₂.heap news) (hIL : L ≠ I) (hI₀ : h₀.get? I = none) (off : ∀ p ∈ news, p.1 ≠ I)
    (hJ0 : J 0 [] news) (hJS : ∀ i ys nw, J i ys nw → SrcAt h₀ ax its nw)
    (turn : ∀ i v ys nw, i < its.size → its[i]? = some v → J i ys nw → ∃ (t : Addr) (ot : Obj) (v₁ v₂ : Value) (nt : Nat), v = .ref t ∧ (t, ot) ∈ nw ∧ ot.cls = .type "tuple" ∧ ot.data = .seq #[v₁, v₂] nt ∧
        ∀ I oI C oC D m₂ h tk (E' : Value → Shared → Prop), NsObj oC m₂ → m₂ x = some v₁ → m₂ x₂ = some v₂ → Fr h₀ L h m → News h₀ L h ((I, oI) :: (C, oC) :: (D, lst ys) :: nw) → Off3 I C D nw → ((@Ne Nat I C) ∧ (@Ne Nat I D) ∧ (@Ne Nat C D)) →
          wpAny (model prog w) A (isTrue ct (compEnvC scope cl C env) (eval ct (compEnvC scope cl C env))) (fun ok s' => if ok = true then
            wpAny (model prog w) A (eval elt (compEnvC scope cl C env)) (CompEnd h₀ L m { s₂ with heap := h, toks := tk } I oI C oC D (lst ys) (fun _ => True) (fun y nw' => J (i + 1) (ys ++ [y]) nw')) E' s'
            else CompEnd h₀ L m { s₂ with heap := h, toks := tk } I oI C oC D (lst ys) (fun _ => True) (fun _ nw' => J (i + 1) ys nw') Value.none s') E' { s₂ with heap := h, toks := tk })
    (hRR : ∀ D C h tk m' ys nw, Fr h₀ L h m → News h₀ L h ((D, lst ys) :: nw) → Off1 D nw → h.Ns C m' → h₀.get? C = none → h₀.get? D = none → C ≠ L → D ≠ L → C ≠ D → (∀ p ∈ nw, p.1 ≠ C) → J its.size ys nw → RR (.ref D) C (.ok .next) { s₂ with heap := h, toks := tk }) :
    wpAny (model prog w) A (newList []) (fun acc s₃ => wpAny (model prog w) A (newFunctionEnv scope env.globals cl [] env.qual none .none (some env)) (fun cenv s₄ =>
      codeAny (model prog w) A (.compStart (.ListComp elt [⟨.Tuple [.Name x px, .Name x₂ px₂] tk₀ tp, iter, [ct], 0⟩] scope pos) 0 (.ref I) acc { cenv with scope := relabel scope env }) (RR acc cenv.locals) s₄) E s₃) E s₂ := by
  refine wpAny_newObj_type (wpAny_newFunctionEnv hcell (by intro y hy; simp at hy) (fun h₁ hns₁ hsb₁ => ?_) hkind)
  dsimp only at hns₁ hsb₁ ⊢
  obtain ⟨D, hD⟩ : ∃ D, D = s₂.heap.objs.size := ⟨_, rfl⟩
  obtain ⟨g2, hg2⟩ : ∃ x, x = s₂.heap.push { cls := .type "list", dict := none, data := .seq ([] : List Value).toArray } := ⟨_, rfl⟩
  rw [← hg2] at hns₁ hsb₁ ⊢
  have hCs : g2.objs.size = D + 1 := by rw [hg2, Heap.size_push, hD]
  generalize hCe : g2.objs.size = C at hns₁ hsb₁ hCs ⊢
  rw [← hD]
  have hIlt : @LT.lt Nat _ I D := by rw [hD]; exact hfp I (W.sub I (List.mem_singleton.mpr rfl))
  have hLlt : @LT.lt Nat _ L D := by rw [hD]; exact F.ns.lt
  have hfp' : ∀ b ∈ fp, @LT.lt Nat _ b D := by rw [hD]; exact hfp
  have hnl : ∀ p ∈ news, @LT.lt Nat _ p.1 D := fun p hp => by rw [hD]; exact Heap.lt_size (N p hp).1
  have grown : ∀ b o, s₂.heap.get? b = some o → h₁.get? b = some o := fun b o e => hsb₁.extBut b o (by have := alt e; show @Ne Nat _ _; lia) (Heap.get?_push_of_some _ (by rw [hg2]; exact Heap.get?_push_of_some _ e))
  have hacc : h₁.get? D = some (lst []) := hsb₁.extBut _ _ (by show @Ne Nat _ _; lia) (Heap.get?_push_of_some _ (by rw [hD, hg2]; exact Heap.get?_push_size _ rfl))
  have free : ∀ a : Addr, @LE.le Nat _ D a → h₀.get? a = none := fun a ha => by
    cases e : h₀.get? a with
    | none => rfl
    | some o => have := alt (F.keep a o e); lia
  have hDf : h₀.get? D = none := free D (Nat.le_refl _)
  have hCf : h₀.get? C = none := free C (by show @LE.le Nat _ _ _; lia)
  have hDL : D ≠ L := by show @Ne Nat _ _; lia
  have hCL : C ≠ L := by show @Ne Nat _ _; lia
  have hIC : I ≠ C := by show @Ne Nat _ _; lia
  have hID : I ≠ D := by show @Ne Nat _ _; lia
  have hDC : D ≠ C := by show @Ne Nat _ _; lia
  have loop : ∀ s₃ : Shared, (∃ tk, s₃ = { s₂ with heap := h₁, toks := tk }) →
      codeAny (model prog w) A (.compLoop (.ListComp elt [⟨.Tuple [.Name x px, .Name x₂ px₂] tk₀ tp, iter, [ct], 0⟩] scope pos) 0 (.ref I) (.ref D) (compEnvC scope cl C env)) (RR (.ref D) C) s₃ := by
    intro s₃ pp1
    refine hideG fun GG hGG => ?_
    obtain ⟨tk₁, rfl⟩ := pp1
    refine hGG ?_
    clear hGG GG
    refine kct_loop (fun k s' => Ex6 fun h' tk i ys m' nw => Co10 (s' = { s₂ with heap := h', toks := tk }) (i ≤ its.size) (k = its.size + 1 - i) (ys.length ≤ i) (St i h') (Fr h₀ L h' m) (h'.Ns C m') (News h₀ L h' ((D, lst ys) :: nw)) (Off3 I C D nw) (J i ys nw)) ?_ (its.size + 1)
      ⟨h₁, _, 0, [], _, news, rfl, Nat.zero_le _, rfl, Nat.le_refl _, W.frame _ _ _ hst (fun b _ o e => grown b o e), F.keeps grown, hns₁, ?_, ?_, hJ0⟩
    · intro k s' pp2
      refine hideG fun GG hGG => ?_
      obtain ⟨h', tk, i, ys, m', nw, rfl, hi, rfl, hyl, hst', F', hn', N', off', hJ⟩ := pp2
      refine hGG ?_
      clear hGG GG
      have o3 := off'.mem
      by_cases hlt : i < its.size
      · refine W.item i _ _ _ hlt hst' fun v h₂ tk₂ hPv hst₂ hk₂ => ?_
        refine hideG fun GG hGG => ?_
        obtain ⟨t, ot, v₁, v₂, nt, rfl, hmt, hct, hdt, go⟩ := turn i v ys nw hlt hPv hJ
        have N₂ : News h₀ L h₂ ((D, lst ys) :: nw) := news_but N' hk₂ fun p hp => by
          rcases List.mem_cons.mp hp with rfl | hp
          · exact Ne.symm hID
          · exact (o3 p hp).1
        obtain ⟨lI, jI, hLI⟩ := hLi _ _ hst₂
        refine hGG ?_
        clear hGG GG
        refine wpAny_letOwnedTupleGo_listiter hLI ?_
        refine assign_Tuple_tuple hh (items := #[v₁, v₂]) ⟨ot, (N₂ _ (List.mem_cons_of_mem _ hmt)).1, hct, nt, hdt⟩ rfl rfl fun h₃ he₃ => ?_
        have e23 : ∀ b o, h₂.get? b = some o → h₃.get? b = some o := fun b o e => he₃ b o (Nat.ne_of_lt (Heap.lt_size e)) e
        have hn₃ := (hn'.at' fun o e => hk₂ _ o (by simpa using Ne.symm hIC) e).at' fun o e => e23 _ o e
        refine assignInOrder_cons (wpAny_assign_Name (wpAny_storeName_local (lookup_relabel_local hx) hn₃ (fun h₄ hn₄ hs₄ => ?_) (by simp [compEnvC, relabel, hkind])))
        refine assignInOrder_cons (wpAny_assign_Name (wpAny_storeName_local (lookup_relabel_local hx₂) hn₄ (fun h₅ hn₅ hs₅ => ?_) (by simp [compEnvC, relabel, hkind])))
        refine assignInOrder_nil ?_
        have e25 : ∀ b o, b ≠ C → h₂.get? b = some o → h₅.get? b = some o := fun b o hb e => hs₅.extBut b o hb (hs₄.extBut b o hb (e23 b o e))
        have hst₅ : St (i + 1) h₅ := W.frame _ _ _ hst₂ fun b hb o e => e25 b o (by have := hfp' b hb; show @Ne Nat _ _; lia) e
        refine hideG fun GG hGG => ?_
        obtain ⟨_, _, hLI5⟩ := hLi _ _ hst₅
        obtain ⟨oI, heI, _⟩ := hLI5
        obtain ⟨oC, heC, hoC⟩ := ns_obj hn₅
        refine hGG ?_
        clear hGG GG
        have F₅ : Fr h₀ L h₅ m := (((fr_but F' hk₂ hIL hI₀).keeps e23).change hs₄ hCL hCf).change hs₅ hCL hCf
        have N₅ : News h₀ L h₅ ((I, oI) :: (C, oC) :: (D, lst ys) :: nw) := fun p hp => by
          rcases List.mem_cons.mp hp with rfl | hp
          · exact ⟨heI, Ne.symm hIL, hI₀⟩
          · rcases List.mem_cons.mp hp with rfl | hp
            · exact ⟨heC, hCL, hCf⟩
            · refine ⟨e25 _ _ ?_ (N₂ p hp).1, (N₂ p hp).2⟩
              rcases List.mem_cons.mp hp with rfl | hp
              · exact hDC
              · exact (o3 p hp).2.1
        refine wpAny_mono (go I oI C oC D _ h₅ _ _ hoC (by simp [hxx]) (by simp) F₅ N₅ off' ⟨hIC, hID, Ne.symm hDC⟩) (fun ok s₄ h₄ => ?_) fun _ _ e => e
        have parts : ∀ {hE : Heap} {nE : List (Addr × Obj)}, Fr h₀ L hE m → News h₀ L hE ((I, oI) :: (C, oC) :: (D, lst ys) :: nE) → SrcAt h₀ ax its nE → St (i + 1) hE ∧ News h₀ L hE ((D, lst ys) :: nE) ∧ hE.get? C = some oC := fun FE NE hS =>
          ⟨hSt _ _ _ _ _ hst₅ heI (NE _ List.mem_cons_self).1 FE.keep (fun p hp => NE p (List.mem_cons_of_mem _ (List.mem_cons_of_mem _ (List.mem_cons_of_mem _ hp)))) hS, fun p hp => NE p (List.mem_cons_of_mem _ (List.mem_cons_of_mem _ hp)), (NE _ (List.mem_cons_of_mem _ List.mem_cons_self)).1⟩
        cases ok with
        | true =>
          simp only [if_true] at h₄ ⊢
          refine wpAny_mono h₄ (fun y s₅ h₅ => ?_) fun _ _ e => e
          refine hideG fun GG hGG => ?_
          obtain ⟨h₆, tk₆, n₆, rfl, F₆, N₆, off₆, _, hJ₆⟩ := h₅
          obtain ⟨st₆, ND₆, zC⟩ := parts F₆ N₆ (hJS _ _ _ hJ₆)
          refine hGG ?_
          clear hGG GG
          have o6 := off₆.mem
          refine append_at (hsz := by show ys.toArray.size ≤ sizeLine; rw [List.size_toArray]; exact Nat.le_trans (Nat.le_trans hyl hi) hsz) (ND₆ _ List.mem_cons_self).1 fun h₇ hs₇ hD₇ => ?_
          refine ⟨its.size + 1 - (i + 1), by lia, h₇, tk₆, i + 1, ys ++ [y], _, n₆, rfl, hlt, rfl, by rw [List.length_append, List.length_singleton]; lia, W.frame _ _ _ st₆ fun b hb o e => hs₇.extBut b o (by have := hfp' b hb; show @Ne Nat _ _; lia) e, F₆.change hs₇ hDL hDf,
            (hoC.ns zC).sameBut hs₇ (Ne.symm hDC), fun p hp => ?_, off₆, hJ₆⟩
          rcases List.mem_cons.mp hp with rfl | hp
          · exact ⟨hD₇.trans (congrArg some (lst_snoc ys y)), hDL, hDf⟩
          · exact ⟨hs₇.extBut _ _ (o6 p hp).2.2 (ND₆ p (List.mem_cons_of_mem _ hp)).1, (ND₆ p (List.mem_cons_of_mem _ hp)).2⟩
        | false =>
          simp only [Bool.false_eq_true, if_false] at h₄ ⊢
          refine hideG fun GG hGG => ?_
          obtain ⟨h₆, tk₆, n₆, rfl, F₆, N₆, off₆, _, hJ₆⟩ := h₄
          obtain ⟨st₆, ND₆, zC⟩ := parts F₆ N₆ (hJS _ _ _ hJ₆)
          refine hGG ?_
          clear hGG GG
          exact ⟨its.size + 1 - (i + 1), by lia, h₆, tk₆, i + 1, ys, _, n₆, rfl, hlt, rfl, Nat.le_succ_of_le hyl, st₆, F₆, hoC.ns zC, ND₆, off₆, hJ₆⟩
      · obtain rfl : i = its.size := Nat.le_antisymm hi (Nat.not_lt.mp hlt)
        refine W.done _ _ _ hst' fun h₂ tk₂ hk₂ => ?_
        exact hRR D C h₂ tk₂ _ ys nw (fr_but F' hk₂ hIL hI₀) (news_but N' hk₂ fun p hp => by
          rcases List.mem_cons.mp hp with rfl | hp
          · exact Ne.symm hID
          · exact (o3 p hp).1) off'.one (hn'.at' fun o e => hk₂ _ o (by simpa using Ne.symm hIC) e) hCf hDf hCL hDL (Ne.symm hDC) (fun p hp => (o3 p hp).2.1) hJ
    · intro p hp
      rcases List.mem_cons.mp hp with rfl | hp
      · exact ⟨hacc, hDL, hDf⟩
      · exact ⟨grown _ _ (N p hp).1, (N p hp).2⟩
    · exact Off3.of fun p hp => ⟨off p hp, by have := hnl p hp; show @Ne Nat _ _; lia, by have := hnl p hp; show @Ne Nat _ _; lia⟩
  exact codeAny_compStart_list (loop _ ⟨_, rfl⟩) (W.self 0 _ _ _ (W.frame _ _ _ hst (fun b _ o e => grown b o e)) (loop _ ⟨_, rfl⟩))
theorem ListComp_PT {ct elt iter : PySem.Expr} {x x₂ : Str} {px px₂ tp : Pos} {tk₀} {scope : Scope} {cl : List (Str × Addr)} {pos : Pos} {Q : Value → Shared → Prop} (F₀ : Fr h₀ L s.heap m)
    (hclos : closureFor scope env = pure cl) (hcell : ∀ y ∈ scope.names, y.2 ≠ .cell) (hkind : scope.kind = .function)
    (hnames : ∀ y ∈ scope.names, y.2 = .local → scope.names.lookup y.1 = some .local) (hx : scope.names.lookup x = some .local) (hx₂ : scope.names.lookup x₂ = some .local) (hxx : x ≠ x₂)
    (h : wpAny (model prog w) A (eval iter env) (SrcPT prog w A h₀ L m env ct elt x x₂ scope cl Q) E s)
    (hs : ∀ x, foldedSetIterable iter env x = pure x) :
    wpAny (model prog w) A (eval (.ListComp elt [⟨.Tuple [.Name x px, .Name x₂ px₂] tk₀ tp, iter, [ct], 0⟩] scope pos) env) Q E s := by
  rw [eval_ListComp]
  refine wpAny_comprehension_free (use := none) rfl hs hclos hkind hnames (wpAny_mono h (fun xv s₁ h₁ => ?_) fun _ _ e => e)
  refine hideG fun GG hGG => ?_
  obtain ⟨ax, its, news, J, rfl, hh, F, N, hsz, hJ0, hJS, R⟩ := h₁
  refine hGG ?_
  clear hGG GG
  have hl := (hJS _ _ _ hJ0).list F.keep N
  have hlt : ax < s₁.heap.objs.size := by obtain ⟨_, e, _⟩ := hl; exact Heap.lt_size e
  refine wpAny_pyIter_list hl ?_
  have up : ∀ b o, s₁.heap.get? b = some o → (s₁.heap.push { cls := .type "list_iterator", data := .fields #[.ref ax, .int 0 0] }).get? b = some o := fun b o e => Heap.get?_push_of_some _ e
  obtain ⟨turn, fin⟩ := R (s₁.heap.push { cls := .type "list_iterator", data := .fields #[.ref ax, .int 0 0] })
  refine blkPT (Walks.list hh s₁.heap.objs.size ax (Nat.ne_of_lt hlt) its) hsz (fun i h st => ⟨_, _, st.1⟩) list_st hcell hkind hx hx₂ hxx hh ⟨⟨_, Heap.get?_push_size _ rfl, rfl, rfl⟩, hl.push _⟩ (fun b hb => ?_)
    (F.keeps up) (N.grown up) (Nat.ne_of_lt F.ns.lt) (next_is_new F) (fun p hp => Nat.ne_of_lt (Heap.lt_size (N p hp).1)) hJ0 hJS turn ?_
  · rw [Heap.size_push]
    rcases List.mem_cons.mp hb with rfl | hb
    · exact Nat.lt_succ_self _
    · rw [List.mem_singleton.mp hb]; exact Nat.lt_succ_of_lt hlt
  · intro D C h tk m' ys nw F' N' o1 hn hC₀ hD₀ hCL hDL hCD offC hJ
    refine ⟨m', hn, fun h'' hs'' => fin ys nw hJ D h'' tk (F'.change hs'' hCL hC₀) (fun p hp => ?_) o1⟩
    refine ⟨hs''.extBut _ _ ?_ (N' p hp).1, (N' p hp).2⟩
    rcases List.mem_cons.mp hp with rfl | hp
    · exact Ne.symm hCD
    · exact offC p hp
end
end

section
theorem cells_cons {cm : Str → Option Value} {n : Str} {c : Addr} {r : List (Str × Addr)} {cells : List (Addr × Obj)} (x : CellsAre cm ((n, c) :: r) cells) : ∃ o rest, cells = (c, o) :: rest ∧ o.data = .cell (cm n) ∧ CellsAre cm r rest := by
  cases x with
  | cons h1 h2 => exact ⟨_, _, rfl, h1, h2⟩
inductive Cells11 (cm : Str → Option Value) (n1 n2 n3 n4 n5 n6 n7 n8 n9 n10 n11 : Str) (c1 c2 c3 c4 c5 c6 c7 c8 c9 c10 c11 : Addr) : List (Addr × Obj) → Prop
  | mk (o1 o2 o3 o4 o5 o6 o7 o8 o9 o10 o11 : Obj) (d1 : o1.data = .cell (cm n1)) (d2 : o2.data = .cell (cm n2)) (d3 : o3.data = .cell (cm n3)) (d4 : o4.data = .cell (cm n4)) (d5 : o5.data = .cell (cm n5)) (d6 : o6.data = .cell (cm n6)) (d7 : o7.data = .cell (cm n7)) (d8 : o8.data = .cell (cm n8)) (d9 : o9.data = .cell (cm n9)) (d10 : o10.data = .cell (cm n10)) (d11 : o11.data = .cell (cm n11)) : Cells11 cm n1 n2 n3 n4 n5 n6 n7 n8 n9 n10 n11 c1 c2 c3 c4 c5 c6 c7 c8 c9 c10 c11 [(c1, o1), (c2, o2), (c3, o3), (c4, o4), (c5, o5), (c6, o6), (c7, o7), (c8, o8), (c9, o9), (c10, o10), (c11, o11)]
theorem cells_nil {cm : Str → Option Value} {cells : List (Addr × Obj)} (x : CellsAre cm [] cells) : cells = [] := by
  cases x; rfl
theorem cells11 {cm : Str → Option Value} {n1 n2 n3 n4 n5 n6 n7 n8 n9 n10 n11 : Str} {c1 c2 c3 c4 c5 c6 c7 c8 c9 c10 c11 : Addr} {cells : List (Addr × Obj)} (x : CellsAre cm [(n1, c1), (n2, c2), (n3, c3), (n4, c4), (n5, c5), (n6, c6), (n7, c7), (n8, c8), (n9, c9), (n10, c10), (n11, c11)] cells) : Cells11 cm n1 n2 n3 n4 n5 n6 n7 n8 n9 n10 n11 c1 c2 c3 c4 c5 c6 c7 c8 c9 c10 c11 cells := by
  refine hideG fun GG hGG => ?_
  obtain ⟨o1, r1, e1, d1, x1⟩ := cells_cons x
  obtain ⟨o2, r2, e2, d2, x2⟩ := cells_cons x1
  obtain ⟨o3, r3, e3, d3, x3⟩ := cells_cons x2
  obtain ⟨o4, r4, e4, d4, x4⟩ := cells_cons x3
  obtain ⟨o5, r5, e5, d5, x5⟩ := cells_cons x4
  obtain ⟨o6, r6, e6, d6, x6⟩ := cells_cons x5
  obtain ⟨o7, r7, e7, d7, x7⟩ := cells_cons x6
  obtain ⟨o8, r8, e8, d8, x8⟩ := cells_cons x7
  obtain ⟨o9, r9, e9, d9, x9⟩ := cells_cons x8
  obtain ⟨o10, r10, e10, d10, x10⟩ := cells_cons x9
  obtain ⟨o11, r11, e11, d11, x11⟩ := cells_cons x10
  have e12 := cells_nil x11
  refine hGG ?_
  clear hGG GG
  rw [e1, e2, e3, e4, e5, e6, e7, e8, e9, e10, e11, e12]
  exact .mk _ _ _ _ _ _ _ _ _ _ _ d1 d2 d3 d4 d5 d6 d7 d8 d9 d10 d11

section
variable {prog : Program} {w : World} {A : Around} {s : Shared} {h₀ : Heap} {news : List (Addr × Obj)} {K : Frag} {p : Program} {loose : List Str} {mean : ExcName → Option Value} {mg mb : Str → Option Value}
/-- a def with cells called from no frame at all: the ground is any part of the heap -/
theorem code_topC {R : Result → Shared → Prop} {name qual : Str} {params : Arguments} {body : List Stmt} {scope : Scope} {dV kV doc pm cdv ct : Value} {an : Option Addr} {f : Addr} {args : Args} {binds : List (Str × Value)}
    (hA : A.frames = some []) (hkeep : ∀ b o, h₀.get? b = some o → s.heap.get? b = some o) (hsz : h₀.objs.size ≤ s.heap.objs.size) (N : ∀ q ∈ news, s.heap.get? q.1 = some q.2 ∧ h₀.get? q.1 = none)
    (X₀ : K.In h₀) (T : Top p loose mean mg mb h₀)
    {fo : Obj} (ho : s.heap.get? f = some fo) (hd : fo.data = .func (fnX name qual params body scope [] dV kV doc pm an cdv ct)) (hcd : s.heap.CodeRec cdv qual) (hroom : A.depth < recursionLimit)
    (hbind : BindsTo s (fnX name qual params body scope [] dV kV doc pm an cdv ct) args binds) (hkind : ∀ n, ∀ x ∈ binds, scope.names.lookup x.1 = some .local ∨ (scope.names.lookup x.1 = some .cell ∧ ((cellsFrom n scope.names []).lookup x.1).isSome = true))
    (hnd : ((cellsFrom 0 scope.names []).map (·.1)).Nodup)
    (h : ∀ L' h₁ tk cells, Fr h₀ L' h₁ (bindL (envOfC qual scope L' f cdv).kindOf binds fun _ => none) → News h₀ L' h₁ (cells ++ news) →
      CellsAre (bindC (envOfC qual scope L' f cdv).kindOf binds fun _ => none) (cellsFrom (L' + 1) scope.names []) cells → Below A h₀ [] h₀ → K.In h₀ → Top p loose mean mg mb h₀ → (∀ q ∈ news, q.1 < L') →
      wpAny (model prog w) (A.deeper (envOfC qual scope L' f cdv)) (execs body (envOfC qual scope L' f cdv))
        (fun fl s' => R (.ok (.ret (match fl with | .ret v => v | _ => .none))) s')
        (fun e s' => wpAny (model prog w) (A.deeper (envOfC qual scope L' f cdv)) (leaving (envOfC qual scope L' f cdv) e) (fun _ s'' => R (.error e) s'') (fun e' s'' => R (.error e') s'') s')
        { s with heap := h₁, toks := tk })
    (hco : scope.isCoroutine = false) (hgen : scope.isGenerator = false) (hk : scope.kind = .function) : codeAny (model prog w) A (.call (.ref f) args) R s := by
  refine codeAny_call_function hroom ho hd hco hgen rfl hcd (hbind _ _ _ _ ?_)
  refine wpAny_newFunctionEnv_cells hk (hkind _) fun env' he s' x => ?_
  subst he
  refine ⟨(T.nolimit.keeps hkeep).keeps x.toInCall.keep, codeAny_func ?_⟩
  obtain ⟨h₁, tk, rfl, _⟩ := x.done
  have hk₁ := x.toInCall.keep
  obtain ⟨cells, NC, Y⟩ := Cl.news (h₀ := s.heap) (Nat.le_refl _) fun n c hm => ⟨x.cell n c (lookup_of_mem_nodup (cellsFrom_names scope.names 0 (s.heap.objs.size + 1) [] [] rfl ▸ hnd) hm), x.above n c hm⟩
  have old : ∀ b, s.heap.get? b = none → h₀.get? b = none := fun b e => by
    cases q : h₀.get? b with
    | none => rfl
    | some o => rw [hkeep b o q] at e; cases e
  refine wpAny_mono (h s.heap.objs.size h₁ tk cells ⟨x.toInCall.ns, fun b o e => hk₁ b o (hkeep b o e), hsz⟩ (fun q hq => ?_) Y ⟨hA, fun _ _ e => e, trivial⟩ X₀ T (fun q hq => Heap.lt_size (N q hq).1)) (fun fl s' hl => hl) fun _ _ y => y
  rcases List.mem_append.mp hq with hq | hq
  · exact ⟨(NC q hq).1, (NC q hq).2.1, old _ (NC q hq).2.2⟩
  · exact ⟨hk₁ _ _ (N q hq).1, Nat.ne_of_lt (Heap.lt_size (N q hq).1), (N q hq).2⟩
end
end

section
open PySem.Calls LCg LCt LCp PySem.Spec
section
variable {prog : Program} {w : World} {A : Around} {E : Value → Shared → Prop} {s : Shared} {h₀ : Heap} {L : Addr} {m : Str → Option Value} {env : Env} {R : Result → Shared → Prop}

theorem compTurn_two0 (elt t1 t2 iter iter2 : PySem.Expr) (scope : Scope) (pos : Pos) (it acc : Value) (env : Env) :
    compTurn (.ListComp elt [⟨t1, iter, [], 0⟩, ⟨t2, iter2, [], 0⟩] scope pos) 0 it acc env = (do
      standAt iter.pos
      match ← pyNext it with
      | none => pure (.done .next)
      | some v =>
        letOwnedTupleGo t1 it v
        assign t1 env v
        let x ← eval iter2 env
        standAt iter2.pos
        let x ← foldedSetIterable iter2 env x
        let _ ← runOwn (.compStart (.ListComp elt [⟨t1, iter, [], 0⟩, ⟨t2, iter2, [], 0⟩] scope pos) 1 (← holding [x] (pyIter x)) acc env) env
        again (.compLoop (.ListComp elt [⟨t1, iter, [], 0⟩, ⟨t2, iter2, [], 0⟩] scope pos) 0 it acc env)) := by rfl

theorem compTurn_two1 (elt t1 t2 iter iter2 : PySem.Expr) (scope : Scope) (pos : Pos) (it acc : Value) (env : Env) :
    compTurn (.ListComp elt [⟨t1, iter, [], 0⟩, ⟨t2, iter2, [], 0⟩] scope pos) 1 it acc env = (do
      standAt iter2.pos
      match ← pyNext it with
      | none => pure (.done .next)
      | some v =>
        letOwnedTupleGo t2 it v
        assign t2 env v
        (do let _ ← call (.builtin "list.append") [acc, ← eval elt env])
        again (.compLoop (.ListComp elt [⟨t1, iter, [], 0⟩, ⟨t2, iter2, [], 0⟩] scope pos) 1 it acc env)) := by rfl

theorem codeAny_start_two {elt t1 t2 iter iter2 : PySem.Expr} {scope : Scope} {pos : Pos} {it acc : Value} {env : Env}
    (h0 : codeAny (model prog w) A (.compLoop (.ListComp elt [⟨t1, iter, [], 0⟩, ⟨t2, iter2, [], 0⟩] scope pos) 1 it acc env) R s)
    (h : wpAny (model prog w) A (pyIter it) (fun it' s' => codeAny (model prog w) A (.compLoop (.ListComp elt [⟨t1, iter, [], 0⟩, ⟨t2, iter2, [], 0⟩] scope pos) 1 it' acc env) R s')
      (notedBy (model prog w) A env fun x s' => R (.error x) s') s) :
    codeAny (model prog w) A (.compStart (.ListComp elt [⟨t1, iter, [], 0⟩, ⟨t2, iter2, [], 0⟩] scope pos) 1 it acc env) R s := by
  refine codeAny_of_tree ?_
  show wpAny _ _ ((compStart (.ListComp elt [⟨t1, iter, [], 0⟩, ⟨t2, iter2, [], 0⟩] scope pos) 1 it acc env).onRaise (fun x => do noteFrame x env; standAt theWindowsPlace)) _ _ s
  refine wpAny_notedAt ?_
  unfold compStart
  show wpAny _ _ (ask >>= _) _ _ s
  refine wpAny_bind (wpAny_askSetting (wpAny_ite ?_))
  split
  · first
      | exact wpAny_bind (wpAny_pure (wpAny_pure (And.intro rfl h0)))
      | exact wpAny_pure (And.intro rfl h0)
  · first
      | exact wpAny_bind (wpAny_rule (wpAny_bind (wpAny_standAt (wpAny_bind (wpAny_mono h (fun it' s' h' => wpAny_pure (And.intro rfl h')) fun _ _ x => x)))))
      | (refine wpAny_bind (wpAny_rule ?_); show wpAny _ _ (standAt iter2.pos >>= _) _ _ s; exact wpAny_bind (wpAny_standAt (wpAny_bind (wpAny_mono h (fun it' s' h' => wpAny_pure (And.intro rfl h')) fun _ _ x => x))))

theorem codeAny_two1 {elt t1 t2 iter iter2 : PySem.Expr} {scope : Scope} {pos : Pos} {it acc : Value} {env : Env} (I : Nat → Shared → Prop)
    (turn : ∀ n s, I n s → wpAny (model prog w) A (pyNext it) (fun r s₁ => match r with
      | none => R (.ok .next) s₁
      | some v => wpAny (model prog w) A (assign t2 env v) (fun _ s₂ => wpAny (model prog w) A (eval elt env) (fun x s₃ =>
          wpAny (model prog w) A (call (.builtin "list.append") [acc, x]) (fun _ s₄ => ∃ m, m < n ∧ I m s₄) (notedBy (model prog w) A env fun e s' => R (.error e) s') s₃)
          (notedBy (model prog w) A env fun e s' => R (.error e) s') s₂) (notedBy (model prog w) A env fun e s' => R (.error e) s') s₁) (notedBy (model prog w) A env fun e s' => R (.error e) s') s)
    (n : Nat) (h : I n s) (ht : ∀ v, letOwnedTupleGo t2 it v = pure () := by intro _; rfl) :
    codeAny (model prog w) A (.compLoop (.ListComp elt [⟨t1, iter, [], 0⟩, ⟨t2, iter2, [], 0⟩] scope pos) 1 it acc env) R s := by
  refine codeAny_loop rfl I (fun n s hI => ?_) n h
  show wpAny _ _ ((compTurn (.ListComp elt [⟨t1, iter, [], 0⟩, ⟨t2, iter2, [], 0⟩] scope pos) 1 it acc env).onRaise (fun x => do noteFrame x env; theTreesLotGoes x)) _ _ s
  refine wpAny_noted ?_
  rw [compTurn_two1]
  refine wpAny_bind (wpAny_standAt (wpAny_bind (wpAny_mono (turn n s hI) (fun r s₁ h₁ => ?_) fun _ _ h' => h')))
  cases r with
  | none => exact wpAny_pure h₁
  | some v =>
    refine wpAny_bind (wpAny_of_eq (ht v) ?_)
    exact wpAny_bind (wpAny_mono h₁ (fun _ s₂ h₂ => wpAny_bind (wpAny_bind (wpAny_mono h₂ (fun x s₃ h₃ => wpAny_bind (wpAny_mono h₃
      (fun _ s₄ h₄ => wpAny_pure (wpAny_pure ⟨rfl, h₄⟩)) fun _ _ h' => h')) fun _ _ h' => h'))) fun _ _ h' => h')

theorem codeAny_two0 {elt t1 t2 iter iter2 : PySem.Expr} {scope : Scope} {pos : Pos} {it acc : Value} {env : Env} (I : Nat → Shared → Prop)
    (turn : ∀ n s, I n s → wpAny (model prog w) A (pyNext it) (fun r s₁ => match r with
      | none => R (.ok .next) s₁
      | some v => wpAny (model prog w) A (assign t1 env v) (fun _ s₂ => wpAny (model prog w) A (eval iter2 env) (fun x s₃ =>
          wpAny (model prog w) A (pyIter x) (fun it2 s₄ => codeAny (model prog w) A (.compStart (.ListComp elt [⟨t1, iter, [], 0⟩, ⟨t2, iter2, [], 0⟩] scope pos) 1 it2 acc env)
            (fun r s' => match r with | .ok f => (∃ m, m < n ∧ I m s') | .error e => cameBackBy (model prog w) A env (notedBy (model prog w) A env fun e s' => R (.error e) s') e s') s₄) (notedBy (model prog w) A env fun e s' => R (.error e) s') s₃)
          (notedBy (model prog w) A env fun e s' => R (.error e) s') s₂) (notedBy (model prog w) A env fun e s' => R (.error e) s') s₁) (notedBy (model prog w) A env fun e s' => R (.error e) s') s)
    (n : Nat) (h : I n s) (ht : ∀ v, letOwnedTupleGo t1 it v = pure () := by intro _; rfl) (hs2 : ∀ x, foldedSetIterable iter2 env x = pure x := by intro _; rfl) :
    codeAny (model prog w) A (.compLoop (.ListComp elt [⟨t1, iter, [], 0⟩, ⟨t2, iter2, [], 0⟩] scope pos) 0 it acc env) R s := by
  refine codeAny_loop rfl I (fun n s hI => ?_) n h
  show wpAny _ _ ((compTurn (.ListComp elt [⟨t1, iter, [], 0⟩, ⟨t2, iter2, [], 0⟩] scope pos) 0 it acc env).onRaise (fun x => do noteFrame x env; theTreesLotGoes x)) _ _ s
  refine wpAny_noted ?_
  rw [compTurn_two0]
  refine wpAny_bind (wpAny_standAt (wpAny_bind (wpAny_mono (turn n s hI) (fun r s₁ h₁ => ?_) fun _ _ h' => h')))
  cases r with
  | none => exact wpAny_pure h₁
  | some v =>
    refine wpAny_bind (wpAny_of_eq (ht v) ?_)
    refine wpAny_bind (wpAny_mono h₁ (fun _ s₂ h₂ => wpAny_bind (wpAny_mono h₂ (fun x s₃ h₃ => ?_) fun _ _ h' => h')) fun _ _ h' => h')
    refine wpAny_bind (wpAny_standAt (wpAny_bind (wpAny_of_eq (hs2 x) ?_)))
    refine wpAny_bind (wpAny_holding (wpAny_mono h₃ (fun it2 s₄ h₄ => ?_) fun _ _ h' => h'))
    refine wpAny_bind (wpAny_runOwn (h := none) ?_)
    rw [Around.mark_none]
    refine codeAny_mono h₄ fun r s' hr => ?_
    cases r with
    | ok f => exact wpAny_pure ⟨rfl, hr⟩
    | error e => exact hr

theorem inner22 {α : Type} {RA : α → Value → Prop} {RB : α → Value → Prop} {elt iter iter2 : PySem.Expr} {x x2 : Str} {px px2 : Pos} {scope : Scope} {cl : List (Str × Addr)} {pos : Pos} {as : List α} {vs : List Value} (hA : All2 RA as vs) {va : Value}
    {I I2 ax C D : Addr} {oI : Obj} {ys : List Value} {news : List (Addr × Obj)} {k : Nat} {RR : Result → Shared → Prop} {s : Shared} {h₁ : Heap} {tk₁ : Nat} {m₁ : Str → Option Value}
    (hh : A.handled = none) (hsz : ys.length + vs.length ≤ sizeLine) (hkind : scope.kind = .function) (hx2 : scope.names.lookup x2 = some .local) (hxx : x ≠ x2)
    (hax : (ax, ({ cls := .type "list", data := .seq vs.toArray k } : Obj)) ∈ news)
    (elm : ∀ b vb, RA b vb → ∀ ys oI2 oC m₂ h tk (E' : Value → Shared → Prop), NsObj oC m₂ → m₂ x = some va → m₂ x2 = some vb → Fr h₀ L h m → News h₀ L h ((C, oC) :: (D, lst ys) :: (I, oI) :: (I2, oI2) :: news) →
      wpAny (model prog w) A (eval elt (compEnvC scope cl C env)) (fun y s' => RB b y ∧ SameLed h₀ L m { s with heap := h, toks := tk } ((C, oC) :: (D, lst ys) :: (I, oI) :: (I2, oI2) :: news) s') E' { s with heap := h, toks := tk })
    (F : Fr h₀ L h₁ m) (N : News h₀ L h₁ ((D, lst ys) :: (I, oI) :: news)) (hns : h₁.Ns C m₁) (hma : m₁ x = some va) (hit : h₁.IsListIter I2 ax 0)
    (hCL : (@Ne Nat C L)) (hC₀ : h₀.get? C = none) (hIL : (@Ne Nat I2 L)) (hI₀ : h₀.get? I2 = none)
    (dCD : (@Ne Nat C D)) (dCI : (@Ne Nat C I)) (dCI2 : (@Ne Nat C I2)) (dDI : (@Ne Nat D I)) (dDI2 : (@Ne Nat D I2)) (dII2 : (@Ne Nat I I2)) (off : ∀ p ∈ news, (@Ne Nat p.1 C) ∧ (@Ne Nat p.1 D) ∧ (@Ne Nat p.1 I2))
    (fin : ∀ h tk ys' m₂, Fr h₀ L h m → News h₀ L h ((D, lst (ys ++ ys')) :: (I, oI) :: news) → h.Ns C m₂ → All2 RB as ys' → RR (.ok .next) { s with heap := h, toks := tk }) :
    codeAny (model prog w) A (.compLoop (.ListComp elt [⟨.Name x px, iter, [], 0⟩, ⟨.Name x2 px2, iter2, [], 0⟩] scope pos) 1 (.ref I2) (.ref D) (compEnvC scope cl C env)) RR { s with heap := h₁, toks := tk₁ } := by
  have hlv : as.length = vs.length := hA.length
  have hD0 := N (D, lst ys) List.mem_cons_self
  have hI0 := N (I, oI) (List.mem_cons_of_mem _ List.mem_cons_self)
  have hx0 := N _ (List.mem_cons_of_mem _ (List.mem_cons_of_mem _ hax))
  have dax := off _ hax
  have hne : ax ≠ I2 := dax.2.2
  have W := Walks.list (prog := prog) (w := w) (A := A) hh I2 ax hne vs.toArray
  refine codeAny_two1
    (fun n s' => ∃ h' tk j ys' m₂, s' = { s with heap := h', toks := tk } ∧ j ≤ vs.length ∧ n = vs.length + 1 - j ∧ ys'.length = j ∧ Fr h₀ L h' m ∧ News h₀ L h' ((D, lst (ys ++ ys')) :: (I, oI) :: news) ∧ h'.Ns C m₂ ∧ m₂ x = some va ∧ h'.IsListIter I2 ax j ∧ All2 RB (as.take j) ys') ?_ (vs.length + 1)
    ⟨h₁, tk₁, 0, [], m₁, rfl, Nat.zero_le _, rfl, rfl, F, by rw [List.append_nil]; exact N, hns, hma, hit, All2.nil⟩
  intro n s' pp1
  refine hideG fun GG hGG => ?_
  obtain ⟨h', tk, j, ys', m₂, rfl, hj, rfl, hyl, F', N', hn', hm', hit', hB⟩ := pp1
  refine hGG ?_
  clear hGG GG
  have isl : h'.IsList ax vs.toArray := ⟨_, (N' _ (List.mem_cons_of_mem _ (List.mem_cons_of_mem _ hax))).1, rfl, _, rfl⟩
  by_cases hlt : j < vs.length
  · refine W.item j _ _ _ (by rw [List.size_toArray]; exact hlt) ⟨hit', isl⟩ fun v h₂ tk₂ hPv hst₂ hk₂ => ?_
    refine wpAny_assign_Name (wpAny_storeName_local (lookup_relabel_local hx2) (hn'.at' fun o e => hk₂ _ o (by simpa using dCI2) e) (fun h₃ hn₃ hs₃ => ?_) (by simp [compEnvC, relabel, hkind]))
    refine hideG fun GG hGG => ?_
    obtain ⟨oC, heC, hoC⟩ := ns_obj hn₃
    obtain ⟨oI2, heI2, hcI2, hdI2⟩ := hst₂.1
    have F₃ : Fr h₀ L h₃ m := (fr_but F' hk₂ (Ne.symm hIL) hI₀).change hs₃ hCL hC₀
    have N₂ : News h₀ L h₂ ((D, lst (ys ++ ys')) :: (I, oI) :: news) := news_but N' hk₂ fun p hp => by
      rcases List.mem_cons.mp hp with rfl | hp
      · exact dDI2
      · rcases List.mem_cons.mp hp with rfl | hp
        · exact dII2
        · exact (off p hp).2.2
    have N₃ : News h₀ L h₃ ((C, oC) :: (D, lst (ys ++ ys')) :: (I, oI) :: (I2, oI2) :: news) := fun p hp => by
      rcases List.mem_cons.mp hp with rfl | hp
      · exact ⟨heC, hCL, hC₀⟩
      · rcases List.mem_cons.mp hp with rfl | hp
        · have z := N₂ _ List.mem_cons_self
          exact ⟨hs₃.extBut _ _ (Ne.symm dCD) z.1, z.2⟩
        · rcases List.mem_cons.mp hp with rfl | hp
          · have z := N₂ _ (List.mem_cons_of_mem _ List.mem_cons_self)
            exact ⟨hs₃.extBut _ _ (Ne.symm dCI) z.1, z.2⟩
          · rcases List.mem_cons.mp hp with rfl | hp
            · exact ⟨hs₃.extBut _ _ (Ne.symm dCI2) heI2, hIL, hI₀⟩
            · have z := N₂ _ (List.mem_cons_of_mem _ (List.mem_cons_of_mem _ hp))
              exact ⟨hs₃.extBut _ _ (off p hp).1 z.1, z.2⟩
    obtain ⟨b, hb, hr⟩ := hA.get' (i := j) (b := v) (by simpa using hPv)
    refine hGG ?_
    clear hGG GG
    refine wpAny_mono (elm b v hr (ys ++ ys') oI2 oC _ h₃ _ _ hoC (by rw [if_neg hxx]; exact hm') (by simp) F₃ N₃) (fun y s₄ h₄ => ?_) fun _ _ e => e
    refine hideG fun GG hGG => ?_
    obtain ⟨hy, h₄, tk₄, rfl, F₄, N₄⟩ := h₄
    refine hGG ?_
    clear hGG GG
    have zC := (N₄ (C, oC) List.mem_cons_self).1
    have zD := (N₄ (D, lst (ys ++ ys')) (List.mem_cons_of_mem _ List.mem_cons_self)).1
    have zI := (N₄ (I, oI) (List.mem_cons_of_mem _ (List.mem_cons_of_mem _ List.mem_cons_self)))
    have zI2 := (N₄ (I2, oI2) (List.mem_cons_of_mem _ (List.mem_cons_of_mem _ (List.mem_cons_of_mem _ List.mem_cons_self)))).1
    have zr : ∀ p ∈ news, _ := fun p hp => N₄ p (List.mem_cons_of_mem _ (List.mem_cons_of_mem _ (List.mem_cons_of_mem _ (List.mem_cons_of_mem _ hp))))
    refine append_at (hsz := by show (ys ++ ys').toArray.size ≤ sizeLine; rw [List.size_toArray, List.length_append, hyl]; lia) zD fun h₅ hs₅ hD₅ => ?_
    refine ⟨vs.length + 1 - (j + 1), by lia, h₅, tk₄, j + 1, ys' ++ [y], _, rfl, hlt, rfl, by rw [List.length_append, List.length_singleton, hyl], F₄.change hs₅ hD0.2.1 hD0.2.2, fun p hp => ?_, (hoC.ns zC).sameBut hs₅ dCD, by rw [if_neg hxx]; exact hm', ⟨oI2, hs₅.extBut _ _ (Ne.symm dDI2) zI2, hcI2, hdI2⟩, ?_⟩
    · rcases List.mem_cons.mp hp with rfl | hp
      · refine ⟨?_, hD0.2⟩
        show h₅.get? D = some (lst (ys ++ (ys' ++ [y])))
        rw [← List.append_assoc]
        exact hD₅.trans (congrArg some (lst_snoc (ys ++ ys') y))
      · rcases List.mem_cons.mp hp with rfl | hp
        · exact ⟨hs₅.extBut _ _ (Ne.symm dDI) zI.1, zI.2⟩
        · exact ⟨hs₅.extBut _ _ (off p hp).2.1 (zr p hp).1, (zr p hp).2⟩
    · rw [List.take_add_one, hb]
      exact hB.snoc hy
  · obtain rfl : j = vs.length := Nat.le_antisymm hj (Nat.not_lt.mp hlt)
    refine W.done _ _ _ (by rw [List.size_toArray]; exact ⟨hit', isl⟩) fun h₂ tk₂ hk₂ => ?_
    refine fin h₂ tk₂ ys' _ (fr_but F' hk₂ (Ne.symm hIL) hI₀) (news_but N' hk₂ fun p hp => ?_) (hn'.at' fun o e => hk₂ _ o (by simpa using dCI2) e) (by rw [← hlv, List.take_length] at hB; exact hB)
    rcases List.mem_cons.mp hp with rfl | hp
    · exact dDI2
    · rcases List.mem_cons.mp hp with rfl | hp
      · exact dII2
      · exact (off p hp).2.2

noncomputable abbrev F4 := Fin 4
noncomputable def Src22 (prog : Program) (w : World) (A : Around) (h₀ : Heap) (L : Addr) (m : Str → Option Value) (env : Env) (elt iter2 : PySem.Expr) (x x2 : Str) (scope : Scope) (cl : List (Str × Addr)) (Fin : Shared → List Value → List (Addr × Obj) → Prop) (xv : Value) (s₁ : Shared) : Prop :=
  ∃ (ax : Addr) (vs : List Value) (k : Nat) (news : List (Addr × Obj)) (as : List F4) (RB : F4 → F4 → Value → Prop), xv = .ref ax ∧ A.handled = none ∧ Fr h₀ L s₁.heap m ∧ News h₀ L s₁.heap news ∧
    (ax, ({ cls := .type "list", data := .seq vs.toArray k } : Obj)) ∈ news ∧ vs.length * vs.length + vs.length ≤ sizeLine ∧ All2 (fun (p : F4) v => IsI (p.val : Int) v) as vs ∧
    (∀ va C D I ys oI oC m₂ h tk (E' : Value → Shared → Prop), NsObj oC m₂ → m₂ x = some va → Fr h₀ L h m → News h₀ L h ((C, oC) :: (D, lst ys) :: (I, oI) :: news) →
      wpAny (model prog w) A (eval iter2 (compEnvC scope cl C env)) (fun y s' => y = .ref ax ∧ SameLed h₀ L m { s₁ with heap := h, toks := tk } ((C, oC) :: (D, lst ys) :: (I, oI) :: news) s') E' { s₁ with heap := h, toks := tk }) ∧
    (∀ a b va vb, a ∈ as → b ∈ as → IsI ((a : F4).val : Int) va → IsI ((b : F4).val : Int) vb → ∀ C D I I2 ys oI oI2 oC m₂ h tk (E' : Value → Shared → Prop), NsObj oC m₂ → m₂ x = some va → m₂ x2 = some vb → Fr h₀ L h m → News h₀ L h ((C, oC) :: (D, lst ys) :: (I, oI) :: (I2, oI2) :: news) →
      wpAny (model prog w) A (eval elt (compEnvC scope cl C env)) (fun y s' => RB a b y ∧ SameLed h₀ L m { s₁ with heap := h, toks := tk } ((C, oC) :: (D, lst ys) :: (I, oI) :: (I2, oI2) :: news) s') E' { s₁ with heap := h, toks := tk }) ∧
    ∀ g ys, All2 (fun (p : F4 × F4) v => RB p.1 p.2 v) (as.flatMap fun a => as.map fun b => (a, b)) ys → Fin { s₁ with heap := g } ys news

theorem all2_pair {RB : Fin 4 → Fin 4 → Value → Prop} {a : Fin 4} : ∀ {bs : List (Fin 4)} {ys : List Value}, All2 (fun b v => RB a b v) bs ys → All2 (fun (p : Fin 4 × Fin 4) v => RB p.1 p.2 v) (bs.map fun b => (a, b)) ys := fun h => All2.mapl h
theorem all2_app {α : Type} {R : α → Value → Prop} : ∀ {as bs : List α} {xs ys : List Value}, All2 R as xs → All2 R bs ys → All2 R (as ++ bs) (xs ++ ys) := fun h k => All2.append k h
theorem all2_mem {α : Type} {R : α → Value → Prop} : ∀ {as : List α} {xs : List Value}, All2 R as xs → All2 (fun a v => a ∈ as ∧ R a v) as xs := fun h => by
  induction h with
  | nil => exact .nil
  | cons h _ ih => exact .cons ⟨List.mem_cons_self, h⟩ (All2.imp (fun _ _ k => ⟨List.mem_cons_of_mem _ k.1, k.2⟩) ih)

theorem blk22 {elt iter iter2 : PySem.Expr} {x x2 : Str} {px px2 : Pos} {scope : Scope} {cl : List (Str × Addr)} {pos : Pos} {s₁ : Shared} {ax : Addr} {vs : List Value} {k : Nat} {news : List (Addr × Obj)} {as : List (Fin 4)} {RB : Fin 4 → Fin 4 → Value → Prop} {RR : Value → Addr → Result → Shared → Prop}
    (hcell : ∀ y ∈ scope.names, y.2 ≠ .cell) (hkind : scope.kind = .function) (hx : scope.names.lookup x = some .local) (hx2 : scope.names.lookup x2 = some .local) (hxx : x ≠ x2) (hs2 : ∀ C x, foldedSetIterable iter2 (compEnvC scope cl C env) x = pure x)
    (hh : A.handled = none) (F : Fr h₀ L s₁.heap m) (N : News h₀ L s₁.heap news) (hax : (ax, ({ cls := .type "list", data := .seq vs.toArray k } : Obj)) ∈ news) (hsz : vs.length * vs.length + vs.length ≤ sizeLine) (hA0 : All2 (fun (p : Fin 4) v => IsI (p.val : Int) v) as vs)
    (hi2 : ∀ va C D I ys oI oC m₂ h tk (E' : Value → Shared → Prop), NsObj oC m₂ → m₂ x = some va → Fr h₀ L h m → News h₀ L h ((C, oC) :: (D, lst ys) :: (I, oI) :: news) →
      wpAny (model prog w) A (eval iter2 (compEnvC scope cl C env)) (fun y s' => y = .ref ax ∧ SameLed h₀ L m { s₁ with heap := h, toks := tk } ((C, oC) :: (D, lst ys) :: (I, oI) :: news) s') E' { s₁ with heap := h, toks := tk })
    (hel : ∀ a b va vb, a ∈ as → b ∈ as → IsI ((a : Fin 4).val : Int) va → IsI ((b : Fin 4).val : Int) vb → ∀ C D I I2 ys oI oI2 oC m₂ h tk (E' : Value → Shared → Prop), NsObj oC m₂ → m₂ x = some va → m₂ x2 = some vb → Fr h₀ L h m → News h₀ L h ((C, oC) :: (D, lst ys) :: (I, oI) :: (I2, oI2) :: news) →
      wpAny (model prog w) A (eval elt (compEnvC scope cl C env)) (fun y s' => RB a b y ∧ SameLed h₀ L m { s₁ with heap := h, toks := tk } ((C, oC) :: (D, lst ys) :: (I, oI) :: (I2, oI2) :: news) s') E' { s₁ with heap := h, toks := tk })
    (done : ∀ D C h (tk : Nat) m' ys, Fr h₀ L h m → News h₀ L h ((D, lst ys) :: news) → h.Ns C m' → h₀.get? C = none → (@Ne Nat C L) → (@Ne Nat D C) → (∀ p ∈ news, (@Ne Nat p.1 C) ∧ (@Ne Nat p.1 D)) → All2 (fun (p : Fin 4 × Fin 4) v => RB p.1 p.2 v) (as.flatMap fun a => as.map fun b => (a, b)) ys → RR (.ref D) C (.ok .next) { s₁ with heap := h, toks := tk }) :
    wpAny (model prog w) A (pyIter (.ref ax)) (fun it s₂ => wpAny (model prog w) A (newList []) (fun acc s₃ => wpAny (model prog w) A (newFunctionEnv scope env.globals cl [] env.qual none .none (some env)) (fun cenv s₄ =>
      codeAny (model prog w) A (.compStart (.ListComp elt [⟨.Name x px, iter, [], 0⟩, ⟨.Name x2 px2, iter2, [], 0⟩] scope pos) 0 it acc { cenv with scope := relabel scope env }) (RR acc cenv.locals) s₄) E s₃) E s₂) E s₁ := by
  have hA := all2_mem hA0
  have hlv : as.length = vs.length := hA.length
  have hl : s₁.heap.IsList ax vs.toArray := ⟨_, (N _ hax).1, rfl, _, rfl⟩
  have hlt : ax < s₁.heap.objs.size := Heap.lt_size (N _ hax).1
  refine wpAny_pyIter_list hl ?_
  obtain ⟨s₂, hs₂⟩ : ∃ z : Shared, z = { s₁ with heap := s₁.heap.push { cls := .type "list_iterator", data := .fields #[.ref ax, .int 0 0] } } := ⟨_, rfl⟩
  rw [← hs₂]
  obtain ⟨I, hIe⟩ : ∃ z : Addr, z = s₁.heap.objs.size := ⟨_, rfl⟩
  have up : ∀ b o, s₁.heap.get? b = some o → s₂.heap.get? b = some o := fun b o e => by rw [hs₂]; exact Heap.get?_push_of_some _ e
  have hI2 : s₂.heap.get? I = some { cls := .type "list_iterator", data := .fields #[.ref ax, .int 0 0] } := by rw [hs₂, hIe]; exact Heap.get?_push_size _ rfl
  have hIL : (@Ne Nat L I) := by rw [hIe]; exact Nat.ne_of_lt F.ns.lt
  have hI₀ : h₀.get? I = none := by rw [hIe]; exact next_is_new F
  have offI : ∀ p ∈ news, (@Ne Nat p.1 I) := fun p hp => by rw [hIe]; exact Nat.ne_of_lt (Heap.lt_size (N p hp).1)
  have F := F.keeps up
  have N := N.grown up
  have hIlt : I < s₂.heap.objs.size := Heap.lt_size hI2
  rw [← hIe]
  refine wpAny_newObj_type (wpAny_newFunctionEnv hcell (by intro y hy; simp at hy) (fun h₁ hns₁ hsb₁ => ?_) hkind)
  dsimp only at hns₁ hsb₁ ⊢
  generalize hH2 : s₂.heap.push { cls := .type "list", dict := none, data := .seq ([] : List Value).toArray } = H2 at hns₁ hsb₁ ⊢
  have hC : H2.objs.size = s₂.heap.objs.size + 1 := by rw [← hH2, Heap.size_push]
  obtain ⟨D, hDe⟩ : ∃ z : Addr, z = s₂.heap.objs.size := ⟨_, rfl⟩
  obtain ⟨C, hCe⟩ : ∃ z : Addr, z = H2.objs.size := ⟨_, rfl⟩
  rw [← hCe] at hns₁ hsb₁ ⊢
  have below : ∀ b, b < s₂.heap.objs.size → (@Ne Nat b C) ∧ (@Ne Nat b D) := fun b hb => ⟨by rw [hCe, hC]; exact Nat.ne_of_lt (Nat.lt_succ_of_lt hb), by rw [hDe]; exact Nat.ne_of_lt hb⟩
  have hDC : (@Ne Nat D C) := by rw [hDe, hCe, hC]; exact Nat.ne_of_lt (Nat.lt_succ_self _)
  have old : ∀ b o, s₂.heap.get? b = some o → h₁.get? b = some o := fun b o e => hsb₁.extBut b o (below b (Heap.lt_size e)).1 (Heap.get?_push_of_some _ (hH2 ▸ Heap.get?_push_of_some _ e))
  have hacc : h₁.get? D = some (lst []) := hsb₁.extBut _ _ hDC (Heap.get?_push_of_some _ (hH2 ▸ hDe ▸ Heap.get?_push_size _ rfl))
  have fresh : ∀ a, s₂.heap.objs.size ≤ a → s₂.heap.get? a = none := fun a ha => by
    cases e : s₂.heap.get? a with
    | none => rfl
    | some o' => exact absurd (Heap.lt_size e) (Nat.not_lt.mpr ha)
  have fresh₀ : ∀ a, s₂.heap.objs.size ≤ a → h₀.get? a = none := fun a ha => by
    cases e : h₀.get? a with
    | none => rfl
    | some o' => have := F.keep a o' e; rw [fresh a ha] at this; cases this
  have hD₀ : h₀.get? D = none := fresh₀ _ (by rw [hDe]; exact Nat.le_refl _)
  have hC₀ : h₀.get? C = none := fresh₀ _ (by rw [hCe, hC]; exact Nat.le_succ _)
  have hLlt : L < s₂.heap.objs.size := F.ns.lt
  have hDL : (@Ne Nat D L) := Ne.symm (below L hLlt).2
  have hCL : (@Ne Nat C L) := Ne.symm (below L hLlt).1
  have hCI : (@Ne Nat I C) := (below I hIlt).1
  have hDI : (@Ne Nat I D) := (below I hIlt).2
  have off : ∀ p ∈ news, (@Ne Nat p.1 I) ∧ (@Ne Nat p.1 C) ∧ (@Ne Nat p.1 D) := fun p hp => ⟨offI p hp, (below _ (Heap.lt_size (N p hp).1)).1, (below _ (Heap.lt_size (N p hp).1)).2⟩
  have hne : (@Ne Nat ax I) := (off _ hax).1
  have W := Walks.list (prog := prog) (w := w) (A := A) hh I ax hne vs.toArray
  have hit₁ : h₁.IsListIter I ax 0 := ⟨_, old _ _ hI2, rfl, rfl⟩
  have isl₁ : h₁.IsList ax vs.toArray := ⟨_, old _ _ (N _ hax).1, rfl, _, rfl⟩
  rw [← hDe]
  show codeAny _ _ (.compStart _ 0 (.ref I) (.ref D) (compEnvC scope cl C env)) _ _
  have loop : ∀ (RR : Result → Shared → Prop) (tk₀ : Nat) (hRR : ∀ h tk m' ys, Fr h₀ L h m → News h₀ L h ((D, lst ys) :: news) → h.Ns C m' → All2 (fun (p : Fin 4 × Fin 4) v => RB p.1 p.2 v) (as.flatMap fun a => as.map fun b => (a, b)) ys → RR (.ok .next) { s₁ with heap := h, toks := tk }),
      codeAny (model prog w) A (.compLoop (.ListComp elt [⟨.Name x px, iter, [], 0⟩, ⟨.Name x2 px2, iter2, [], 0⟩] scope pos) 0 (.ref I) (.ref D) (compEnvC scope cl C env)) RR { s₁ with heap := h₁, toks := tk₀ } := by
    intro RR tk₀ hRR
    refine codeAny_two0 (hs2 := hs2 C)
      (fun q s' => ∃ h' tk i ys m', s' = { s₁ with heap := h', toks := tk } ∧ i ≤ vs.length ∧ q = vs.length + 1 - i ∧ ys.length = i * vs.length ∧ Fr h₀ L h' m ∧ News h₀ L h' ((D, lst ys) :: news) ∧ h'.Ns C m' ∧ h'.IsListIter I ax i ∧
        All2 (fun (p : Fin 4 × Fin 4) v => RB p.1 p.2 v) ((as.take i).flatMap fun a => as.map fun b => (a, b)) ys) ?_ (vs.length + 1)
      ⟨h₁, tk₀, 0, [], _, rfl, Nat.zero_le _, rfl, (Nat.zero_mul _).symm, F.keeps old, fun p hp => ?_, hns₁, hit₁, All2.nil⟩
    · intro q s' pp2
      refine hideG fun GG hGG => ?_
      obtain ⟨h', tk, i, ys, m', rfl, hi, rfl, hyl, F', N', hn', hit', hB⟩ := pp2
      refine hGG ?_
      clear hGG GG
      have isl : h'.IsList ax vs.toArray := ⟨_, (N' _ (List.mem_cons_of_mem _ hax)).1, rfl, _, rfl⟩
      have hD' := N' (D, lst ys) List.mem_cons_self
      by_cases hlt : i < vs.length
      · refine W.item i _ _ _ (by rw [List.size_toArray]; exact hlt) ⟨hit', isl⟩ fun v h₂ tk₂ hPv hst₂ hk₂ => ?_
        refine wpAny_assign_Name (wpAny_storeName_local (lookup_relabel_local hx) (hn'.at' fun o e => hk₂ _ o (by simpa using Ne.symm hCI) e) (fun h₃ hn₃ hs₃ => ?_) (by simp [compEnvC, relabel, hkind]))
        refine hideG fun GG hGG => ?_
        obtain ⟨oC, heC, hoC⟩ := ns_obj hn₃
        obtain ⟨oI, heI, hcI, hdI⟩ := hst₂.1
        have F₃ : Fr h₀ L h₃ m := (fr_but F' hk₂ hIL hI₀).change hs₃ hCL hC₀
        have N₂ : News h₀ L h₂ ((D, lst ys) :: news) := news_but N' hk₂ fun p hp => by
          rcases List.mem_cons.mp hp with rfl | hp
          · exact Ne.symm hDI
          · exact (off p hp).1
        have N₃ : News h₀ L h₃ ((C, oC) :: (D, lst ys) :: (I, oI) :: news) := fun p hp => by
          rcases List.mem_cons.mp hp with rfl | hp
          · exact ⟨heC, hCL, hC₀⟩
          · rcases List.mem_cons.mp hp with rfl | hp
            · have z := N₂ _ List.mem_cons_self
              exact ⟨hs₃.extBut _ _ hDC z.1, z.2⟩
            · rcases List.mem_cons.mp hp with rfl | hp
              · exact ⟨hs₃.extBut _ _ hCI heI, Ne.symm hIL, hI₀⟩
              · have z := N₂ _ (List.mem_cons_of_mem _ hp)
                exact ⟨hs₃.extBut _ _ (off p hp).2.1 z.1, z.2⟩
        obtain ⟨a, ha, ham, hr⟩ := hA.get' (i := i) (b := v) (by simpa using hPv)
        refine hGG ?_
        clear hGG GG
        have hvx : (fun z => if z = x then some v else m' z) x = some v := if_pos rfl
        refine wpAny_mono (hi2 v C D I ys oI oC _ h₃ _ _ hoC hvx F₃ N₃) (fun y s₄ h₄ => ?_) fun _ _ e => e
        refine hideG fun GG hGG => ?_
        obtain ⟨rfl, h₄, tk₄, rfl, F₄, N₄⟩ := h₄
        refine hGG ?_
        clear hGG GG
        have isl₄ : h₄.IsList ax vs.toArray := ⟨_, (N₄ _ (List.mem_cons_of_mem _ (List.mem_cons_of_mem _ (List.mem_cons_of_mem _ hax)))).1, rfl, _, rfl⟩
        refine wpAny_pyIter_list isl₄ ?_
        have up4 : ∀ b o, h₄.get? b = some o → (h₄.push { cls := .type "list_iterator", data := .fields #[.ref ax, .int 0 0] }).get? b = some o := fun b o e => Heap.get?_push_of_some _ e
        have lt4 : ∀ p ∈ (C, oC) :: (D, lst ys) :: (I, oI) :: news, (@Ne Nat p.1 h₄.objs.size) := fun p hp => Nat.ne_of_lt (Heap.lt_size (N₄ p hp).1)
        have hIL2 : (@Ne Nat L h₄.objs.size) := Nat.ne_of_lt F₄.ns.lt
        have hI20 : h₀.get? h₄.objs.size = none := next_is_new F₄
        obtain ⟨I2, hI2e⟩ : ∃ z : Addr, z = h₄.objs.size := ⟨_, rfl⟩
        rw [← hI2e] at lt4 hIL2 hI20
        have hit2 : (h₄.push { cls := .type "list_iterator", data := .fields #[.ref ax, .int 0 0] }).IsListIter I2 ax 0 := by rw [hI2e]; exact ⟨_, Heap.get?_push_size _ rfl, rfl, rfl⟩
        generalize h₄.push { cls := .type "list_iterator", data := .fields #[.ref ax, .int 0 0] } = h₅ at up4 hit2 ⊢
        show codeAny (model prog w) A (.compStart _ 1 (.ref h₄.objs.size) _ _) _ _
        rw [← hI2e]
        clear hI2e
        have F₅ := F₄.keeps up4
        have N₅ := N₄.grown up4
        have hn₅ : h₅.Ns C _ := hoC.ns (N₅ (C, oC) List.mem_cons_self).1
        have isl₅ : h₅.IsList ax vs.toArray := ⟨_, (N₅ _ (List.mem_cons_of_mem _ (List.mem_cons_of_mem _ (List.mem_cons_of_mem _ hax)))).1, rfl, _, rfl⟩
        have hne2 : (@Ne Nat ax I2) := lt4 _ (List.mem_cons_of_mem _ (List.mem_cons_of_mem _ (List.mem_cons_of_mem _ hax)))
        have W2 := Walks.list (prog := prog) (w := w) (A := A) hh I2 ax hne2 vs.toArray
        have hsz1 : ys.length + vs.length ≤ sizeLine := by
          rw [hyl]
          have : i * vs.length ≤ vs.length * vs.length := Nat.mul_le_mul_right _ hi
          lia
        have inn : ∀ RQ : Result → Shared → Prop, (∀ h tk ys' m₂, Fr h₀ L h m → News h₀ L h ((D, lst (ys ++ ys')) :: (I, oI) :: news) → h.Ns C m₂ → All2 (fun b v => RB a b v) as ys' → RQ (.ok .next) { s₁ with heap := h, toks := tk }) →
            codeAny (model prog w) A (.compLoop (.ListComp elt [⟨.Name x px, iter, [], 0⟩, ⟨.Name x2 px2, iter2, [], 0⟩] scope pos) 1 (.ref I2) (.ref D) (compEnvC scope cl C env)) RQ { s₁ with heap := h₅, toks := tk₄ } := fun RQ hq =>
          inner22 (RB := fun b v => RB a b v) hA hh hsz1 hkind hx2 hxx hax (fun b vb hb ys oI2 oC m₂ h tk E' a1 a2 a3 a4 a5 => hel a b v vb ham hb.1 hr hb.2 C D I I2 ys oI oI2 oC m₂ h tk E' a1 a2 a3 a4 a5)
            F₅ (fun p hp => N₅ p (List.mem_cons_of_mem _ hp)) hn₅ hvx hit2 hCL hC₀ (Ne.symm hIL2) hI20 (Ne.symm hDC) (Ne.symm hCI) (lt4 _ List.mem_cons_self) (Ne.symm hDI) (lt4 _ (List.mem_cons_of_mem _ List.mem_cons_self)) (lt4 _ (List.mem_cons_of_mem _ (List.mem_cons_of_mem _ List.mem_cons_self)))
            (fun p hp => ⟨(off p hp).2.1, (off p hp).2.2, lt4 p (List.mem_cons_of_mem _ (List.mem_cons_of_mem _ (List.mem_cons_of_mem _ hp)))⟩) hq
        have nxt : ∀ (h : Heap) (tk : Nat) ys' m₂, Fr h₀ L h m → News h₀ L h ((D, lst (ys ++ ys')) :: (I, oI) :: news) → h.Ns C m₂ → All2 (fun b v => RB a b v) as ys' →
            ∃ mm, mm < vs.length + 1 - i ∧ ∃ h' tk' i ys m', ({ s₁ with heap := h, toks := tk } : Shared) = { s₁ with heap := h', toks := tk' } ∧ i ≤ vs.length ∧ mm = vs.length + 1 - i ∧ ys.length = i * vs.length ∧ Fr h₀ L h' m ∧ News h₀ L h' ((D, lst ys) :: news) ∧ h'.Ns C m' ∧ h'.IsListIter I ax i ∧
              All2 (fun (p : Fin 4 × Fin 4) v => RB p.1 p.2 v) ((as.take i).flatMap fun a => as.map fun b => (a, b)) ys := by
          intro h tk ys' m₂ F6 N6 hn6 hB6
          refine ⟨vs.length + 1 - (i + 1), by lia, h, tk, i + 1, ys ++ ys', m₂, rfl, hlt, rfl, ?_, F6, News.drop2 N6, hn6, ⟨oI, (N6 (I, oI) (List.mem_cons_of_mem _ List.mem_cons_self)).1, hcI, hdI⟩, ?_⟩
          · rw [List.length_append, hyl, ← hB6.length, hlv, Nat.add_mul, Nat.one_mul]
          · rw [List.take_add_one, ha, List.flatMap_append]
            refine all2_app hB ?_
            show All2 _ ((as.map fun b => (a, b)) ++ []) ys'
            rw [List.append_nil]
            exact all2_pair hB6
        exact codeAny_start_two (inn _ fun h tk ys' m₂ a b c d => by have z := nxt h tk ys' m₂ a b c d; exact z) (W2.self 0 _ _ _ ⟨hit2, isl₅⟩ (inn _ fun h tk ys' m₂ a b c d => by have z := nxt h tk ys' m₂ a b c d; exact z))
      · obtain rfl : i = vs.length := Nat.le_antisymm hi (Nat.not_lt.mp hlt)
        refine W.done _ _ _ (by rw [List.size_toArray]; exact ⟨hit', isl⟩) fun h₂ tk₂ hk₂ => ?_
        refine hRR h₂ tk₂ _ ys (fr_but F' hk₂ hIL hI₀) (news_but N' hk₂ fun p hp => ?_) (hn'.at' fun o e => hk₂ _ o (by simpa using Ne.symm hCI) e) (by rw [← hlv, List.take_length] at hB; exact hB)
        rcases List.mem_cons.mp hp with rfl | hp
        · exact Ne.symm hDI
        · exact (off p hp).1
    · rcases List.mem_cons.mp hp with rfl | hp
      · exact ⟨hacc, hDL, hD₀⟩
      · exact ⟨old _ _ (N p hp).1, (N p hp).2⟩
  rw [hs₂]
  have fin : ∀ (h : Heap) (tk : Nat) m' ys, Fr h₀ L h m → News h₀ L h ((D, lst ys) :: news) → h.Ns C m' → All2 (fun (p : Fin 4 × Fin 4) v => RB p.1 p.2 v) (as.flatMap fun a => as.map fun b => (a, b)) ys → RR (.ref D) C (.ok .next) { s₁ with heap := h, toks := tk } :=
    fun h tk m' ys a b c d => done D C h tk m' ys a b c hC₀ hCL hDC (fun p hp => ⟨(off p hp).2.1, (off p hp).2.2⟩) d
  exact codeAny_compStart_list (loop _ _ fin) (W.self 0 _ _ _ ⟨hit₁, isl₁⟩ (loop _ _ fin))

theorem Assign_22 {elt iter iter2 : PySem.Expr} {x x2 y : Str} {px px2 py : Pos} {scope : Scope} {cl : List (Str × Addr)} {pos spos : Pos} {Q : Flow → Shared → Prop} (F₀ : Fr h₀ L s.heap m) (hLe : env.locals = L)
    (hsw : swapsWith (.ListComp elt [⟨.Name x px, iter, [], 0⟩, ⟨.Name x2 px2, iter2, [], 0⟩] scope pos) (some (.Name y py)) spos.line env = pure true)
    (hclos : closureFor scope env = pure cl) (hcell : ∀ z ∈ scope.names, z.2 ≠ .cell) (hkind : scope.kind = .function)
    (hnames : ∀ z ∈ scope.names, z.2 = .local → scope.names.lookup z.1 = some .local) (hx : scope.names.lookup x = some .local) (hx2 : scope.names.lookup x2 = some .local) (hxx : x ≠ x2)
    (hy : env.kindOf y = some .local) (hp : (env.scope.kind == .class || (env.scope.kind == .module && env.locals != env.globals)) = false)
    (h : wpAny (model prog w) A (eval iter env) (Src22 prog w A h₀ L m env elt iter2 x x2 scope cl fun s₂ => FinA h₀ L m s₂ y Q) E s)
    (hs : ∀ x, foldedSetIterable iter env x = pure x) (hs2 : ∀ C x, foldedSetIterable iter2 (compEnvC scope cl C env) x = pure x) :
    wpAny (model prog w) A (exec (.Assign [.Name y py] (.ListComp elt [⟨.Name x px, iter, [], 0⟩, ⟨.Name x2 px2, iter2, [], 0⟩] scope pos) spos) env) Q E s := by
  subst hLe
  rw [exec_Assign_Name_used _ _ _ _ hsw]
  refine wpAny_bind (wpAny_standAt (wpAny_bind ?_))
  show wpAny _ A (do let _ ← comprehension (.ListComp elt [⟨.Name x px, iter, [], 0⟩, ⟨.Name x2 px2, iter2, [], 0⟩] scope pos) scope env _ (newList []) false (eval iter env) (some (assign (.Name y py) env))) _ _ s
  refine wpAny_bind (wpAny_mono (wpAny_comprehension_free (use := some (assign (.Name y py) env)) (Q := fun _ s' => Q .next s') rfl hs hclos hkind hnames
    (wpAny_mono h (fun xv s₁ h₁ => ?_) fun _ _ e => e)) (fun _ s' hq => wpAny_pure (wpAny_pure hq)) fun _ _ e => e)
  refine hideG fun GG hGG => ?_
  obtain ⟨ax, vs, k, news, as, RB, rfl, hh, F, N, hax, hsz, hA0, hi2, hel, hfin⟩ := h₁
  refine hGG ?_
  clear hGG GG
  refine blk22 hcell hkind hx hx2 hxx hs2 hh F N hax hsz hA0 hi2 hel fun D C h' tk m' ys F' N' hn hC₀ hCL hDC off hB => ?_
  show wpAny _ A (assign (.Name y py) env (.ref D)) _ _ _
  refine wpAny_assign_Name (wpAny_storeName_local hy F'.ns (fun h₂ hn₂ hs₂ => ?_) hp)
  have hL₀ : h₀.get? env.locals = none := Heap.get?_none_of_le F'.above
  have F₂ : Fr h₀ env.locals h₂ (fun z => if z = y then some (.ref D) else m z) := ⟨hn₂, fun b o e => hs₂.extBut b o (fun q => by rw [q, hL₀] at e; cases e) (F'.keep b o e), F'.above⟩
  refine ⟨m', hn.sameBut hs₂ hCL, fun h'' hs'' => hfin h'' ys hB D h'' _ (F₂.change hs'' hCL hC₀) (fun p hp => ?_) (off1_of fun p hp => (off p hp).2)⟩
  have z : h₂.get? p.1 = some p.2 := hs₂.extBut _ _ (N' p hp).2.1 (N' p hp).1
  refine ⟨hs''.extBut _ _ ?_ z, (N' p hp).2⟩
  rcases List.mem_cons.mp hp with rfl | hp
  · exact hDC
  · exact (off p hp).1
end
end

section
open PySem.Calls LCg LCt LCp PySem.Spec
/-- a loop step whose ground may be another -/
noncomputable def LStepG (G : Heap → Prop) (DD : Drawn → Prop) (L I : Addr) (oI : Obj) (Jn : (Str → Option Value) → List (Addr × Obj) → Prop) (s : Shared) (Qr : Value → Shared → Prop) (Qb : Shared → Prop) (f : Flow) (s₂ : Shared) : Prop :=
  match f with
  | .ret v => Qr v s₂
  | .brk => Qb s₂
  | _ => Ex6 fun g h' tk dr m₂ news₂ => Co7 (s₂ = { s with heap := h', toks := tk, drawn := dr }) (G g) (DD dr) (Fr g L h' m₂) (News g L h' ((I, oI) :: news₂)) (Off1 I news₂) (Jn m₂ news₂)
noncomputable def TurnG (G : Heap → Prop) (DD : Drawn → Prop) (prog : Program) (w : World) (A : Around) (env : Env) (target : PySem.Expr) (body : List Stmt) (s : Shared) (I : Addr) (its : Array Value) (xs : List Str) (m : Str → Option Value) (J : Nat → (Str → Option Value) → List (Addr × Obj) → Prop) (Qr : Value → Shared → Prop) (Qb : Shared → Prop) : Prop :=
  ∀ i v g o news₁ h tk dr oI (E' : Value → Shared → Prop), G g → DD dr → i < its.size → its[i]? = some v → J i (canonL xs o m) news₁ → Fr g env.locals h (canonL xs o m) → News g env.locals h ((I, oI) :: news₁) → Off1 I news₁ →
    wpAny (model prog w) A (assign target env v) (fun _ s₂ => wpAny (model prog w) A (execs body env) (LStepG G DD env.locals I oI (fun m₂ nw => AgreeOff xs m₂ m ∧ J (i + 1) m₂ nw) s Qr Qb) E' s₂) E' { s with heap := h, toks := tk, drawn := dr }
section
variable {prog : Program} {w : World} {A : Around} {E : Value → Shared → Prop} {s : Shared} {m : Str → Option Value} {env : Env}
theorem srcG_list {target : PySem.Expr} {body : List Stmt} {Q : Flow → Shared → Prop} {ax : Addr} {its : Array Value} {news : List (Addr × Obj)} {g₁ : Heap} (hh : A.handled = none)
    (go : ∀ (I : Addr) v, letOwnedTupleGo target (.ref I) v = pure ())
    (G : Heap → Prop) (hG : ∀ g, G g → ∀ b, g₁.get? b = none → g.get? b = none) (hg : G g₁)
    (F : Fr g₁ env.locals s.heap m) (N : News g₁ env.locals s.heap news)
    (DD : Drawn → Prop) (hD : DD s.drawn) (xs : List Str) (J : Nat → (Str → Option Value) → List (Addr × Obj) → Prop) (hJS : ∀ i m nw, J i m nw → ∃ k, (ax, ({ cls := .type "list", data := .seq its k } : Obj)) ∈ nw) (h0 : J 0 m news)
    (step : ∀ I g tk, TurnG G DD prog w A env target body { s with heap := g, toks := tk } I its xs m J (fun v s' => Q (.ret v) s') (fun s' => Q .next s'))
    (hR : ∀ g h' tk dr o news', G g → DD dr → Fr g env.locals h' (canonL xs o m) → News g env.locals h' news' → J its.size (canonL xs o m) news' → Q .next { s with heap := h', toks := tk, drawn := dr }) :
    LoopSrc prog w A target body env Q E (.ref ax) s := by
  obtain ⟨k0, hm0⟩ := hJS _ _ _ h0
  have hl : s.heap.IsList ax its := ⟨_, (N _ hm0).1, rfl, _, rfl⟩
  have hlt : ax < s.heap.objs.size := Heap.lt_size (N _ hm0).1
  refine wpAny_pyIter_list hl ?_
  obtain ⟨I, hIe⟩ : ∃ z : Addr, z = s.heap.objs.size := ⟨_, rfl⟩
  have up : ∀ b o, s.heap.get? b = some o → (s.heap.push { cls := .type "list_iterator", data := .fields #[.ref ax, .int 0 0] }).get? b = some o := fun b o e => Heap.get?_push_of_some _ e
  have hit0 : (s.heap.push { cls := .type "list_iterator", data := .fields #[.ref ax, .int 0 0] }).IsListIter I ax 0 := by rw [hIe]; exact ⟨_, Heap.get?_push_size _ rfl, rfl, rfl⟩
  have hIL : (@Ne Nat env.locals I) := by rw [hIe]; exact Nat.ne_of_lt F.ns.lt
  have hI₁ : g₁.get? I = none := by rw [hIe]; exact fresh_at F
  have off0 : Off1 I news := by rw [hIe]; exact off_new N
  have hne : (@Ne Nat ax I) := by rw [hIe]; exact Nat.ne_of_lt hlt
  have F0 := F.keeps up
  have N0 := N.grown up
  generalize s.heap.push { cls := .type "list_iterator", data := .fields #[.ref ax, .int 0 0] } = hp at F0 N0 hit0 ⊢
  rw [← hIe]
  clear hIe up F N
  have W := Walks.list (prog := prog) (w := w) (A := A) hh I ax hne its
  refine codeAny_forLoop_any
    (fun k s' => ∃ g h' tk dr m' news' i, s' = { s with heap := h', toks := tk, drawn := dr } ∧ G g ∧ DD dr ∧ h'.IsListIter I ax i ∧ Fr g env.locals h' m' ∧ News g env.locals h' news' ∧ Off1 I news' ∧ (AgreeOff xs m' m ∧ J i m' news') ∧ i ≤ its.size ∧ k = its.size + 1 - i) ?_ (its.size + 1)
    ⟨g₁, hp, s.toks, s.drawn, m, news, 0, rfl, hg, hD, hit0, F0, N0, off0, ⟨AgreeOff.refl _ _, h0⟩, Nat.zero_le _, rfl⟩
  intro k s' pp1
  refine hideG fun GG hGG => ?_
  obtain ⟨g, H, tk, dr, m', news', i, rfl, hGg, hDr, hit, F', N', off', ⟨ha, hJ⟩, hi, rfl⟩ := pp1
  refine hGG ?_
  clear hGG GG
  have hI₀ : g.get? I = none := hG g hGg _ hI₁
  obtain ⟨k1, hm1⟩ := hJS _ _ _ hJ
  have isl : H.IsList ax its := ⟨_, (N' _ hm1).1, rfl, _, rfl⟩
  have next : ∀ h₁ : Heap, (∀ b o, b ∉ [I] → H.get? b = some o → h₁.get? b = some o) → Fr g env.locals h₁ m' ∧ News g env.locals h₁ news' := fun h₁ hk₁ =>
    ⟨fr_but F' hk₁ hIL hI₀, news_but N' hk₁ fun p hp => off1_mem off' p hp⟩
  by_cases hlt : i < its.size
  · refine W.item i _ _ _ hlt ⟨hit, isl⟩ fun v h₁ tk₁ hPv hst₁ hk₁ => ?_
    obtain ⟨F₁, N₁⟩ := next h₁ hk₁
    refine hideG fun GG hGG => ?_
    obtain ⟨oI, eI, cI, dI⟩ := hst₁.1
    refine hGG ?_
    clear hGG GG
    have Nx : News g env.locals h₁ ((I, oI) :: news') := fun p hp => by
      rcases List.mem_cons.mp hp with rfl | hp
      · exact ⟨eI, Ne.symm hIL, hI₀⟩
      · exact N₁ p hp
    dsimp only
    refine wpAny_of_eq (go I v) ?_
    rw [ha.canon] at F₁ hJ
    refine wpAny_mono (step I s.heap s.toks i v g m' news' h₁ tk₁ _ oI _ hGg hDr hlt hPv hJ F₁ Nx off') (fun _ s₂ h₂ => wpAny_mono h₂ (fun f s₃ h₃ => ?_) fun _ _ e => e) fun _ _ e => e
    have fin : (Ex6 fun g h' tk dr m₂ news₂ => Co7 (s₃ = { s with heap := h', toks := tk, drawn := dr }) (G g) (DD dr) (Fr g env.locals h' m₂) (News g env.locals h' ((I, oI) :: news₂)) (Off1 I news₂) (AgreeOff xs m₂ m ∧ J (i + 1) m₂ news₂)) →
        ∃ k', k' < its.size + 1 - i ∧ ∃ g h' tk dr m' news' i, s₃ = { s with heap := h', toks := tk, drawn := dr } ∧ G g ∧ DD dr ∧ h'.IsListIter I ax i ∧ Fr g env.locals h' m' ∧ News g env.locals h' news' ∧ Off1 I news' ∧ (AgreeOff xs m' m ∧ J i m' news') ∧ i ≤ its.size ∧ k' = its.size + 1 - i := by
      intro pp2
      refine hideG fun GG hGG => ?_
      obtain ⟨g₃, h₃', tk₃, dr₃, m₂, news₂, rfl, hg₃, hD₃, F₃, N₃, off₃, hJ₃⟩ := pp2
      refine hGG ?_
      clear hGG GG
      exact ⟨its.size + 1 - (i + 1), by lia, g₃, h₃', tk₃, dr₃, m₂, news₂, i + 1, rfl, hg₃, hD₃, ⟨oI, (N₃ _ List.mem_cons_self).1, cI, dI⟩, F₃, fun p hp => N₃ p (List.mem_cons_of_mem _ hp), off₃, hJ₃, hlt, rfl⟩
    cases f with
    | ret v => exact h₃
    | brk => exact h₃
    | cont => exact fin h₃
    | next => exact fin h₃
  · have hin : i = its.size := by lia
    subst hin
    refine W.done _ _ _ ⟨hit, isl⟩ fun h₁ tk₁ hk₁ => wpAny_execs_nil ?_
    obtain ⟨F₁, N₁⟩ := next h₁ hk₁
    rw [ha.canon] at F₁ hJ
    exact hR g h₁ tk₁ _ m' news' hGg hDr F₁ N₁ hJ
end
end

section
open PySem.Calls LCg LCt LCp PySem.Spec
section
variable {prog : Program} {w : World} {A₀ A : Around} {s : Shared} {base h₀ : Heap} {L : Addr} {m : Str → Option Value} {news : List (Addr × Obj)} {K : Frag} {p : Program} {loose : List Str} {mean : ExcName → Option Value} {mg mb : Str → Option Value}
/-- a def with cells, called from a frame that stands alone: while it runs the slots of that frame may change (a caught exception) -/
theorem code_defS0C {env : Env} {R : Result → Shared → Prop} {name qual : Str} {params : Arguments} {body : List Stmt} {scope : Scope} {dV kV doc pm cdv ct oc : Value} {an od : Option Addr} {osl : Array (Option Value)} {f : Addr} {args : Args} {binds : List (Str × Value)}
    (B : Below A₀ base [] h₀) (F : Fr h₀ L s.heap m) (X₀ : K.In h₀) (N : News h₀ L s.heap news) (T : Top p loose mean mg mb h₀) (hA : A.frames = some [env]) (hf : env.frame = some L) (hke : env.scope.kind = .function)
    (ho : K.lookup f = some ⟨oc, od, .func (fnOf name qual params body scope dV kV doc pm an cdv ct), osl⟩) (hcd : codeIn K cdv qual = true) (hroom : A.depth < recursionLimit)
    (hbind : BindsTo s (fnOf name qual params body scope dV kV doc pm an cdv ct) args binds) (hkind : (binds.all fun y => scope.names.lookup y.1 == some .local || scope.names.lookup y.1 == some .cell) = true)
    (hnd : ((cellsFrom 0 scope.names []).map (·.1)).Nodup)
    (h : ∀ g L' h₁ tk cells, Fr g L' h₁ (bindL (envOfC qual scope L' f cdv).kindOf binds fun _ => none) → News g L' h₁ (cells ++ news) →
      CellsAre (bindC (envOfC qual scope L' f cdv).kindOf binds fun _ => none) (cellsFrom (L' + 1) scope.names []) cells → Below A base [env] g → K.In g → Top p loose mean mg mb g → h₀.StaysIn g → KtsDicts [L] g → (∀ p ∈ news, p.1 < L') →
      wpAny (model prog w) (A.deeper (envOfC qual scope L' f cdv)) (execs body (envOfC qual scope L' f cdv))
        (fun fl s' => LeaveS0 [L] h₀ L m g R (match fl with | .ret v => v | _ => .none) s')
        (fun e s' => wpAny (model prog w) (A.deeper (envOfC qual scope L' f cdv)) (leaving (envOfC qual scope L' f cdv) e) (fun _ s'' => R (.error e) s'') (fun e' s'' => R (.error e') s'') s')
        { s with heap := h₁, toks := tk })
    (hco : scope.isCoroutine = false) (hgen : scope.isGenerator = false) (hk : scope.kind = .function) : codeAny (model prog w) A (.call (.ref f) args) R s := by
  have X := X₀.keeps F.keep
  refine hideG fun GG hGG => ?_
  obtain ⟨FG, BG, st, lv⟩ := groundX (R := R) B F N hA hf hke
  refine hGG ?_
  clear hGG GG
  refine codeAny_call_function hroom (X _ _ ho) rfl hco hgen rfl (codeRec_of X hcd) (hbind _ _ _ _ ?_)
  refine wpAny_newFunctionEnv_cells hk (kindsX hkind _) fun env' he s' x => ?_
  subst he
  refine ⟨(T.nolimit.keeps F.keep).keeps x.toInCall.keep, codeAny_func ?_⟩
  refine hideG fun GG hGG => ?_
  obtain ⟨h₁, tk, rfl, _⟩ := x.done
  have hk₁ := x.toInCall.keep
  obtain ⟨cells, NC, Y⟩ := Cl.news (h₀ := s.heap) (Nat.le_refl _) fun n c hm => ⟨x.cell n c (lookup_of_mem_nodup (cellsFrom_names scope.names 0 (s.heap.objs.size + 1) [] [] rfl ▸ hnd) hm), x.above n c hm⟩
  obtain ⟨oL, es, ep, hL, hLd, hLk, hLf⟩ := F.ns
  refine hGG ?_
  clear hGG GG
  have nL : L ∉ news.map (·.1) := fun q => by
    refine hideG fun GG hGG => ?_
    obtain ⟨p, hp, e⟩ := List.mem_map.mp q
    refine hGG ?_
    clear hGG GG
    exact (N p hp).2.1 e
  have hLg : (hideAll s.heap (news.map (·.1))).get? L = some oL := hideAll_get _ hL nL
  refine wpAny_mono (h _ s.heap.objs.size h₁ tk cells ⟨x.toInCall.ns, fun b o e => hk₁ b o (of_hideAll _ e), Nat.le_of_eq (hideAll_size _ _)⟩ (fun p hp => ?_) Y BG (X₀.keeps st) (T.keeps st) st (fun b hb => by
      rw [List.mem_singleton.mp hb]
      exact ⟨oL, es, ep, hLg, hLd⟩) (fun p hp => Heap.lt_size (N p hp).1)) (fun fl s' hl => ?_) fun _ _ y => y
  · rcases List.mem_append.mp hp with hp | hp
    · refine ⟨(NC p hp).1, (NC p hp).2.1, ?_⟩
      cases q : (hideAll s.heap (news.map (·.1))).get? p.1 with
      | none => rfl
      | some o => have := of_hideAll _ q; rw [(NC p hp).2.2] at this; cases this
    · exact ⟨hk₁ _ _ (N p hp).1, Nat.ne_of_lt (Heap.lt_size (N p hp).1), hideAll_none _ (List.mem_map_of_mem hp)⟩
  refine hideG fun GG hGG => ?_
  obtain ⟨g', L', m', news', T', F', N', k⟩ := hl
  have nL₀ : h₀.get? L = none := kts_self F
  obtain ⟨sl, hs⟩ := T'.up hLg
  refine hGG ?_
  clear hGG GG
  refine k ⟨⟨_, es, ep, F'.keep _ _ hs, hLd, hLk, hLf⟩, fun b o e => F'.keep b o (T'.other b o (st b o e) (fun q => by
    rw [List.mem_singleton.mp q, nL₀] at e
    cases e)), F.above⟩ fun p hp => ⟨(N' p hp).1, fun q => ?_, ?_⟩
  · have := (N' p hp).2.2; rw [q, hs] at this; cases this
  · cases q : h₀.get? p.1 with
    | none => rfl
    | some o =>
      obtain ⟨sl', hs'⟩ := T'.up (st _ _ q)
      have := (N' p hp).2.2
      rw [hs'] at this
      cases this
end
end

section
open PySem.Calls LCg LCt LCp PySem.Spec
section
variable {prog : Program} {w : World} {A₀ : Around} {E : Value → Shared → Prop} {s' : Shared} {base g G : Heap} {outer : List Env} {L a e : Addr} {m : Str → Option Value} {name : Str} {scope : Scope} {cd : Value} {cl : List (Str × Addr)}
  {b₀ : Stmt} {suite : List Stmt} {pos np : Pos} {rest : List ExceptHandler} {Q : Flow → Shared → Prop} {news : List (Addr × Obj)} {KF : Frag}
  {p : Program} {loose : List Str} {mean : ExcName → Option Value} {mg mb : Str → Option Value} {x : Str} {X T' : String}
/-- a caught exception in a def with cells: the suite may not raise -/
theorem caughtC (R : RaisedSN base G (envX name scope L a cd cl :: outer) e (.type X) news s'.heap) (F : Fr g L G m) (K : Below A₀ base outer g) (hsm : G.UpToSlots s'.heap) (XB : KF.In base) (TB : Top p loose mean mg mb base)
    (D : KtsDicts (outer.filterMap (·.frame)) g)
    (ex : nsIn KF mainGlobals x = some none) (hv : bootBuiltins x = some (.type T')) (hn' : x ≠ "__name__")
    (hexc : isSubtype (.type T') (.type "BaseException") = pure true) (hnt : isSubtype (.type ((Manifest.find? T').elim "type" fun y => y.metatype)) (.type "tuple") = pure false) (hsub : isSubtype (.type X) (.type T') = pure true)
    (k : ∀ h' g', KtsTurn (outer.filterMap (·.frame)) g g' → Fr g' L h' m → News g' L h' news → Below A₀ base outer g' → KF.In g' → Top p loose mean mg mb g' → KtsDicts (outer.filterMap (·.frame)) g' →
      wpAny (model prog w) ((A₀.deeper (envX name scope L a cd cl)).mark (some (.ref e))) (execs (b₀ :: suite) (envX name scope L a cd cl)) Q (fun _ _ => False) { s' with heap := h' })
    (hk : scope.kind = .function) (hx : (envX name scope L a cd cl).kindOf x = some .globalImplicit) (hd : (x == ("__debug__" : Str)) = false) :
    wpAny (model prog w) (A₀.deeper (envX name scope L a cd cl)) (noteFrame (.ref e) (envX name scope L a cd cl))
      (fun _ s₂ => wpAny (model prog w) (A₀.deeper (envX name scope L a cd cl)) (setFlight (.ref e) none) (fun _ s₃ =>
        wpAny (model prog w) (A₀.deeper (envX name scope L a cd cl)) (handleBy (.ref e) (envX name scope L a cd cl) (.ExceptHandler (some (.Name x np)) none (b₀ :: suite) pos :: rest)) Q E s₃) E s₂) E s' := by
  refine hideG fun GG hGG => ?_
  obtain ⟨B, a0, hB, hBG, hl, hfl⟩ := R
  refine hGG ?_
  clear hGG GG
  have hL : B.get? L = none := by
    refine hideG fun GG hGG => ?_
    obtain ⟨_, ⟨L', _, hf, hn', _⟩, _⟩ := hfl.2.2.1
    obtain rfl : L = L' := Option.some.inj hf
    refine hGG ?_
    clear hGG GG
    exact hn'
  refine wpAny_looks_onW (Around.frames_deeper K.stack) rfl hfl fun h₄ hheld₄ hsm₄ => ?_
  refine wpAny_landsW hheld₄ fun h₅ hheld hsm₅' => ?_
  have hsm₅ := hsm₄.trans hsm₅'
  have hBG' : ∀ b o, G.get? b = some o → b ∉ (envOf name scope L a cd :: outer).filterMap (·.frame) → B.get? b = some o := hBG
  refine hideG fun GG hGG => ?_
  obtain ⟨g₅, T₅, F₅, K₅⟩ := kts_ground K F hBG' hheld.1 (hsm.trans hsm₅)
  have X₅ : KF.In g₅ := XB.keeps K₅.stays
  have P₅ : TopRead p loose mg mb g₅ := topRead_of (TB.keeps K₅.stays)
  obtain ⟨ob, hob, hobc⟩ := hheld.there
  refine hGG ?_
  clear hGG GG
  refine wpAny_mono (E := fun _ _ => False) (wpAny_handleBy_builtin (X := X) (T := T') (b := true) hexc hnt hsub (nameX_B F₅ X₅ P₅ ex hv hn' ⟨rfl, ⟨ob, hob, hobc⟩, ?_⟩ hk hx hd)) (fun _ _ q => q) fun _ _ q => q.elim
  refine lands_againW hheld fun h₆ hfl₆ hsm₆ => ?_
  refine hideG fun GG hGG => ?_
  obtain ⟨g₆, T₆, F₆, K₆⟩ := kts_ground K F hBG' hfl₆.1 ((hsm.trans hsm₅).trans hsm₆)
  refine hGG ?_
  clear hGG GG
  have Nl : News g₆ L h₆ news := fun q hq => ⟨hfl₆.1 _ _ (hl q hq).1, (fun z => by have := (hl q hq).1; rw [z, hL] at this; cases this), T₆.none_ _ (kts_none F.keep (hl q hq).2.1)⟩
  have X₆ : KF.In g₆ := XB.keeps K₆.stays
  have P₆ : Top p loose mean mg mb g₆ := TB.keeps K₆.stays
  have D₆ : KtsDicts (outer.filterMap (·.frame)) g₆ := D.turn T₆
  exact wpAny_passesOwnAt PassesOwnAt.never (k h₆ g₆ T₆ F₆ Nl K₆ X₆ P₆ D₆)
end
end

-- rules for the walks of the functions

local macro_rules | `(tactic| walk_at $s:str) => `(tactic| k_extra $s)
local macro_rules | `(tactic| k_room) => `(tactic| k_extra "k_room")
local macro_rules | `(tactic| k_all) => `(tactic| k_extra "k_all")
local macro_rules | `(tactic| k_mem) => `(tactic| k_extra "k_mem")
local macro_rules | `(tactic| kpc_turns) => `(tactic| k_extra "kpc_turns")
local macro_rules | `(tactic| kpt_turns) => `(tactic| k_extra "kpt_turns")
local macro_rules | `(tactic| kfm_turns) => `(tactic| k_extra "kfm_turns")
local macro_rules | `(tactic| k_steps) => `(tactic| k_extra "k_steps")
local macro_rules | `(tactic| k_ne) => `(tactic| k_extra "k_ne")
local macro_rules | `(tactic| ktr_room) => `(tactic| k_extra "ktr_room")
local macro_rules | `(tactic| ktr_units) => `(tactic| k_extra "ktr_units")
local macro_rules | `(tactic| k_lt $h:ident) => `(tactic| (replace $h := allLt_of $h; simp only [AllLt, and_true] at $h:ident; (repeat (have hAL := And.left $h; replace $h := And.right $h))))
theorem lines0 : True := by
  k_with "k_room" => ktr_room
  k_with "k_all" => first | with_reducible assumption | exact off1_mem (by with_reducible assumption) | exact off1_mem (off1_append (by with_reducible assumption) (by with_reducible assumption)) | ((with_reducible rename AllLt _ _ => hq); first | exact allLt_ne hq (by omega) | (clear hq; k_all))
  k_with "FinE" => ((first | unfold LCg.FinE | unfold LCg.FinA); intro D' h' tk' F' N' o1'; (try simp only [LCg.Off1, and_true] at o1'); (repeat (have hAL := And.left o1'; replace o1' := And.right o1')); (try simp only [List.nil_append, List.cons_append] at N'); revert D' h' tk'; intros; (try kfm_turns))
  k_with "FinA" => ((first | unfold LCg.FinE | unfold LCg.FinA); intro D' h' tk' F' N' o1'; (try simp only [LCg.Off1, and_true] at o1'); (repeat (have hAL := And.left o1'; replace o1' := And.right o1')); (try simp only [List.nil_append, List.cons_append] at N'); revert D' h' tk'; intros; (try kfm_turns))
  k_with "k_mem" => first | (with_reducible assumption) | (refine' (?z1zf : Dm _ _ _) ?z1zx; (case z1zx => ((repeat (first | with_reducible exact Ix.z _ | ((with_reducible refine Ix.s _ _ ?_ ?_); rotate_left))); done)); (case z1zf => exact fun _ => me rfl)) | kpc_turns
  k_with "kpc_turns" => first | (with_reducible assumption) | exact List.mem_cons_self | (refine' List.mem_cons_of_mem _ ?_; kpc_turns) | (refine' List.mem_append_left _ ?_; kpc_turns) | (refine' List.mem_append_right _ ?_; kpc_turns)
  k_with "kpt_turns" => (refine' (?z2zf : Dp _ _ _ _) ?z2zx; (case z2zx => ((repeat (first | with_reducible exact Ix.z _ | ((with_reducible refine Ix.s _ _ ?_ ?_); rotate_left) | with_reducible exact Pk.nil rfl | ((with_reducible refine Pk.tail _ ?_); focus ((repeat (first | with_reducible exact Tl.z | ((with_reducible refine Tl.s _ _ ?_ ?_); rotate_left))); done)) | ((with_reducible refine Pk.cons _ _ ?_ ?_ ?_ ?_); rotate_left 2))); done)); (case z2zf => exact fun _ => mp rfl))
  k_with "call builtin:str.lower" => (k_here; first | ((with_reducible show wpAny _ _ (call (Value.builtin "str.lower") [Value.str (nm _ _) _]) _ _ _); refine call_lower_nm ?_; intro _) | ((with_reducible show wpAny _ _ (call (Value.builtin "str.lower") [Value.str (low _) _]) _ _ _); refine call_lower_low ?_; intro _) | ((with_reducible show wpAny _ _ (call (Value.builtin "str.lower") [Value.str (hed _ _) _]) _ _ _); refine call_lower_hed ?_; intro _))
  k_with "call builtin:str.upper" => (k_here; (with_reducible show wpAny _ _ (call (Value.builtin "str.upper") [Value.str (low _) _]) _ _ _); refine call_upper_low ?_; intro _)
  k_with "eval ListComp" => (k_here; lct_look; k_dflt (refine LCt.ListComp_T (F₀ := by k_asm) (by with_unfolding_all rfl) (by decide) (by rfl) (by decide) (by rfl) ?_))
  k_with "exec Assign cons ListComp" => (k_here; lct_look; k_dflt (refine LCt.Assign_ListComp_T (F₀ := by k_asm) (by rfl) (by with_unfolding_all rfl) (by with_unfolding_all rfl) (by decide) (by rfl) (by decide) (by rfl) (by rfl) (by rfl) ?_))
  k_with "CompSrcT" => (k_here; k_dflt (refine LCt.CompSrcT.ledger (by rfl) (by k_asm) (by k_asm) (by k_mem) (by rw [List.size_toArray]; omega) ?_; intro _))
  k_with "CompSrc" => (k_here; k_dflt (refine LCg.CompSrc.ledger (by rfl) (by k_asm) (by k_asm) (by k_mem) (by rw [List.size_toArray]; omega) ?_; intro _))
  k_with "exec For" => (k_here; k_dflt (refine For_src ?_ (by intro _; rfl)))
  k_with "exec For Tuple Call cons nil" => (k_here; k_dflt (refine For_src ?_ (by intro _; rfl)))
  k_with "exec For Tuple Call" => (k_here; k_dflt (refine For_src ?_ (by intro _; rfl)))
  k_with "exec For Tuple Name" => (k_here; k_dflt (refine For_src ?_ (by intro _; rfl)))
  k_with "exec For Tuple Name cons nil" => (k_here; k_dflt (refine For_src ?_ (by intro _; rfl)))
  k_with "exec For Name Call cons nil" => (k_here; k_dflt (refine For_src ?_ (by intro _; rfl)))
  k_with "exec For Name Name cons nil" => (k_here; k_dflt (refine For_src ?_ (by intro _; rfl)))
  k_with "exec For Name Constant cons nil" => (k_here; k_dflt (refine For_src ?_ (by intro _; rfl)))
  k_with "exec For Name Call" => (k_here; k_dflt (refine For_src ?_ (by intro _; rfl)))
  k_with "exec For Name" => (k_here; k_dflt (refine For_src ?_ (by intro _; rfl)))
  k_with "kfm_turns" => (refine' (?z3zf : Dz _ _) ?z3zx ?_; (case z3zx => dsimp only; exact Same.mk); (case z3zf => k_dflt (exact fun _ h => h)))
  k_with "k_steps" => ((try ((with_reducible refine letQ ?_); intro qf9)); (repeat' (first | (k_unfold; (try clear qf9); (try kfm_turns); (try ((with_reducible refine letQ ?_); intro qf9))) | (k_end; wrow_close) | walk1 | (kfm_turns; first | (k_unfold; (try clear qf9); (try kfm_turns); (try ((with_reducible refine letQ ?_); intro _))) | walk1) | (leave1; walk_say "STEP leave1"; try kfm_turns) | fail "no step")))
  k_with "k_ne" => (refine neN ?_; (try kfm_turns); first | (with_reducible assumption) | exact Ne.symm (by with_reducible assumption) | exact Nat.ne_of_gt (by with_reducible assumption) | exact Nat.ne_of_lt (by with_reducible assumption) | exact Nat.ne_of_beq_eq_false rfl | (refine Nat.ne_of_lt ?_; (iterate 12 first | done | (with_reducible assumption) | exact Nat.lt_succ_self _ | refine Nat.lt_succ_of_lt ?_ | skip); done) | (refine Nat.ne_of_gt ?_; (iterate 12 first | done | (with_reducible assumption) | exact Nat.lt_succ_self _ | refine Nat.lt_succ_of_lt ?_ | skip); done) | omega)
  k_with "ktr_room" => (refine' (?z4zf : Dz _ _) ?z4zx ?_; (case z4zx => ((first | simp only [A9, depth_under_make, depth_under_kw, depth_in1, depth_deeper, depth_caller] | (try simp only [depth_under_make, depth_under_kw, depth_in1, depth_deeper, depth_caller])); (try dsimp only [ktrTop]); (try simp only [Nat.add_assoc, Nat.reduceAdd]); exact Same.mk)); (case z4zf => k_dflt (exact fun _ h => h)); first | exact room_b hd rfl | exact room_lt0 hd | exact Nat.le_of_ble_eq_true rfl | decide)
  k_with "ktr_units" => (refine' (?z5zf : Dz _ _) ?z5zx ?_; (case z5zx => ((first | simp only [A9, units_in1, units_deeper, Around.mark_units, units_caller] | (try simp only [units_in1, units_deeper, Around.mark_units, units_caller])); (try dsimp only [ktrTop]); (try simp only [Nat.add_assoc, Nat.reduceAdd]); exact Same.mk)); (case z5zf => k_dflt (exact fun _ h => h)); first | exact room_b hu rfl | exact room_lt0 hu | exact Nat.le_of_ble_eq_true rfl)
  k_with "execs" => ((fail_if_success with_reducible show wpAny _ _ (execs (_ :: _) _) _ _ _); with_unfolding_all show wpAny _ _ (execs (_ :: _) _) _ _ _)
  exact True.intro

section
/-- where a chain of leads ends, if it does within n steps -/
noncomputable def endN (c : List (Int × Int)) : Nat → Int → Option Int
  | 0, _ => none
  | n + 1, h => if kdfHas c h = true then endN c n (kdfLook c h 0) else some h
noncomputable def optV (o : Option Int) (v : Value) : Prop := match o with
  | some x => ∃ t, v = .int x t
  | none => v = .none

set_option maxRecDepth 100000 in
set_option maxHeartbeats 1000000 in
theorem c_end : ∀ {w : World} {mean : ExcName → Option Value} {mg mb : Str → Option Value} {p : Program} {loose : List Str} {dp un : Nat} {gd : Option (List Code)} {cn : Str} {cs : Scope} {a : Addr} {ccd : Value} {cl : List (Str × Addr)} {outer : List Env} {A₀ : Around} {base h₀ : Heap} {L : Addr} {m : Str → Option Value} {s : Shared} {Q E : Value → Shared → Prop} (B : Below A₀ base outer h₀) (F : Fr h₀ L s.heap m) (X : (K w.params).In h₀) (T : Top p loose mean mg mb h₀) (hk : cs.kind = .function)
  (news : List (Addr × Obj)) (N : News h₀ L s.heap news) (hd : dp + 20 < recursionLimit) (hu : un + 160 < cLine)
  (dl : Addr) (ol : Obj) (kvs : List (Int × Value)) (c : List (Int × Int)) (x : Int) (t1 : Tok) (hm : (dl, ol) ∈ news) (lo : (dl == sysModules) = false) (hk1 : ol.IsDictOf (intKind PySem.Challenge.rw_pm0082_01.row.toRowW.prog w) kvs) (hf1 : PyProof.V.FlatPairs PyData.int kvs (kdfD c))
  (hret : ∀ v h' tk', optV (endN c 3 x) v → Fr h₀ L h' m → News h₀ L h' news → Q v { s with heap := h', toks := tk' }),
  wpAny (model PySem.Challenge.rw_pm0082_01.row.toRowW.prog w) (ktrTop dp un gd cn cs L a ccd cl outer) (call (.ref 307) [.ref dl, .int x t1]) Q E s := by
  w_top off
  have in_c22 := Tag.mk
  k_with "compareOp NotIn int ref" => (guard_hyp in_c22; (k_here; refine openSeal ?_))
  k_with "subscriptTail" => (guard_hyp in_c22; (k_here; refine openSeal ?_))
  k_fill
  intro w mean mg mb p loose dp un gd cn cs a ccd cl outer A₀ base h₀ L m s Q E B F X T hk news N hd hu dl ol kvs c x t1 hm lo hk1 hf1 hret
  refine wpAny_call ?_
  k_dflt (refine' code_def ?k1 ?k2 ?k3 ?k4 ?k5 ?kA ?kF ?kK ?k6 ?k7 ?k8 ?k9 ?kB ?_ ?c2 ?c3 ?c4 ?c5; (case kA => exact rfl); (case kF => exact rfl); (case kK => assumption); (case k1 => k_asm); (case k2 => k_asm); (case k3 => k_asm); (case k4 => k_asm); (case k5 => k_asm); (case k6 => k_is); (case k7 => k_is); (case k8 => ktr_room); (case k9 => first | exact BindsTo.of_eq rfl | exact binds_K (by k_in) rfl (by k_is) rfl rfl rfl); (case c5 => decide); (case kB => exact locs rfl); (case c2 => exact rfl); (case c3 => exact rfl); (case c4 => exact rfl); k_whole; intro g' L' h' FG' F' N' B' X' T'; (refine letF F' ?_); (clear F'); (intro mF F'); (try kfm_turns); (try k_lift B'); (try k_fold); (refine letA ?_); (intro A9))
  k_steps
  rename_i F2 N2 g1 tk1 r1 r2 r3 hrg F3 N3 hkp
  refine src_range (n := 3) (DD := (· = s.drawn)) (hD := rfl) (xs := [Str.ofString "here", Str.ofString "turn"]) (hh := rfl) (fun _ _ => rfl) F3 N3 hrg (by decide +kernel) (by decide +kernel)
    (J := fun i m₁ nw => nw = news ∧ ∃ y ty, m₁ (Str.ofString "here") = some (.int y ty) ∧ endN c 3 x = endN c (3 - i) y) ?h0 ?step ?hR
  case h0 =>
    exact ⟨rfl, x, t1, rfl, rfl⟩
  case step =>
    intro I gg tk2
    unfold TurnX
    intro i v ex o nw h tk dr oI E' hdr hi pp1 pp2 F5 N5 oo1 oo2
    refine hideG fun GG hGG => ?_
    obtain ⟨⟨ti, rfl⟩, rfl⟩ := pp1
    obtain ⟨rfl, y, ty, hy, hend⟩ := pp2
    refine hGG ?_
    clear hGG GG
    dsimp only [canonL, List.foldr, List.nil_append] at F5 N5 oo1
    simp only [canonL, List.foldr, List.nil_append, if_true] at hy
    rw [hy] at F5
    subst hdr
    obtain ⟨j, hj⟩ : ∃ j, 3 - i = j + 1 := ⟨2 - i, by omega⟩
    rw [hj, show endN c (j + 1) y = if kdfHas c y = true then endN c j (kdfLook c y 0) else some y from rfl] at hend
    k_steps
    unfold Sealed
    refine kdf_notin (TabAt.ofNews (by k_asm) (by k_mem) lo hk1 hf1) ?_
    cases hb : kdfHas c y
    · rw [hb, if_neg Bool.false_ne_true] at hend
      k_steps
      unfold LStep
      dsimp only
      k_steps
      exact hret _ _ _ (by rw [hend]; exact ⟨_, rfl⟩) (by k_asm) (News.tl (by k_asm))
    · rw [hb, if_pos rfl] at hend
      k_steps
      unfold Sealed
      refine kdf_item (TabAt.ofNews (by k_asm) (by k_mem) lo hk1 hf1) hb ?_
      intro t9
      k_steps
      refine' ⟨_, _, _, _, _, rfl, rfl, ?f9, ?n9, oo1, ⟨?g9, rfl, _, _, ?e9, ?d9⟩⟩
      case f9 => k_asm
      case n9 => k_asm
      case g9 => exact (by (intro y hy; first | ((repeat (first | refine agree_l hy (by k_mem) ?_ | refine agree_r hy (by k_mem) ?_)); exact rfl) | (simp only [List.mem_cons, List.not_mem_nil, or_false, not_or] at hy; simp only [hy, if_false])))
      case e9 => rfl
      case d9 => rw [show 3 - (i + 1) = j by omega]; exact hend
  case hR =>
    intro h2 tk2 dr o news' hdr F5 N5 pp3
    refine hideG fun GG hGG => ?_
    obtain ⟨rfl, y, ty, hy, hend⟩ := pp3
    refine hGG ?_
    clear hGG GG
    dsimp only [canonL, List.foldr] at F5 N5
    subst hdr
    k_steps
    exact hret _ _ _ (by rw [hend]; rfl) (by k_asm) (by k_asm)
end

section
open PySem.Calls PySem.Spec PyProof.V
noncomputable def chN (ns : List Int) (g0 g1 p : Int) (k j : Nat) : Int := ns.getD (([g0, g1, p] : List Int).getD j 0 + 4 * ((k : Int) / 2 ^ j % 2)).toNat 0
noncomputable def okF (g0 g1 cd c0 c1 c2 : Int) : Bool := ((endN [(g0, c0 % 4), (g1, c1 % 4)] 3 g0).isSome && (endN [(g0, c0 % 4), (g1, c1 % 4)] 3 g1).isSome) && decide (endN [(g0, c0 % 4), (g1, c1 % 4)] 3 (c2 % 4) = some cd)
noncomputable def termF (ns : List Int) (g0 g1 p cd : Int) (k : Nat) : Int := if okF g0 g1 cd (chN ns g0 g1 p k 0) (chN ns g0 g1 p k 1) (chN ns g0 g1 p k 2) then chN ns g0 g1 p k 0 / 4 * (chN ns g0 g1 p k 1 / 4) * (chN ns g0 g1 p k 2 / 4) else 0
noncomputable def worthTo (ns : List Int) (g0 g1 p cd : Int) : Nat → Int
  | 0 => 0
  | k + 1 => worthTo ns g0 g1 p cd k + termF ns g0 g1 p cd k
section
variable {prog : Program} {w : World} {A : Around} {E : Value → Shared → Prop} {s : Shared} {h₀ : Heap} {L D : Addr} {news : List (Addr × Obj)} {a b c : Int} {ta tb tc u : Tok} {n : Nat} {value slice : PySem.Expr} {Q : Value → Shared → Prop}
theorem sub20 (N : News h₀ L s.heap news) (hm : (D, W.listOf #[.int a ta, .int b tb] n) ∈ news) (h : ∀ t, Q (.int a t) s)
    (hs : subscripted slice false (.ref D) (.int 0 u) = operate [.ref D, .int 0 u] (getItem (.ref D) (.int 0 u))) : wpAny (model prog w) A (subscriptTail value slice (.ref D) (.int 0 u)) Q E s :=
  ksa_sub (vs := [.int a ta, .int b tb]) N hm (.cons _ _ (.cons _ _ .nil)) (by decide) (by simp only [List.length_cons, List.length_nil]; lia) (by decide) h hs
theorem sub21 (N : News h₀ L s.heap news) (hm : (D, W.listOf #[.int a ta, .int b tb] n) ∈ news) (h : ∀ t, Q (.int b t) s)
    (hs : subscripted slice false (.ref D) (.int 1 u) = operate [.ref D, .int 1 u] (getItem (.ref D) (.int 1 u))) : wpAny (model prog w) A (subscriptTail value slice (.ref D) (.int 1 u)) Q E s :=
  ksa_sub (vs := [.int a ta, .int b tb]) N hm (.cons _ _ (.cons _ _ .nil)) (by decide) (by simp only [List.length_cons, List.length_nil]; lia) (by decide) h hs
theorem sub30 (N : News h₀ L s.heap news) (hm : (D, W.listOf #[.int a ta, .int b tb, .int c tc] n) ∈ news) (h : ∀ t, Q (.int a t) s)
    (hs : subscripted slice false (.ref D) (.int 0 u) = operate [.ref D, .int 0 u] (getItem (.ref D) (.int 0 u))) : wpAny (model prog w) A (subscriptTail value slice (.ref D) (.int 0 u)) Q E s :=
  ksa_sub (vs := [.int a ta, .int b tb, .int c tc]) N hm (.cons _ _ (.cons _ _ (.cons _ _ .nil))) (by decide) (by simp only [List.length_cons, List.length_nil]; lia) (by decide) h hs
theorem sub31 (N : News h₀ L s.heap news) (hm : (D, W.listOf #[.int a ta, .int b tb, .int c tc] n) ∈ news) (h : ∀ t, Q (.int b t) s)
    (hs : subscripted slice false (.ref D) (.int 1 u) = operate [.ref D, .int 1 u] (getItem (.ref D) (.int 1 u))) : wpAny (model prog w) A (subscriptTail value slice (.ref D) (.int 1 u)) Q E s :=
  ksa_sub (vs := [.int a ta, .int b tb, .int c tc]) N hm (.cons _ _ (.cons _ _ (.cons _ _ .nil))) (by decide) (by simp only [List.length_cons, List.length_nil]; lia) (by decide) h hs
theorem sub32 (N : News h₀ L s.heap news) (hm : (D, W.listOf #[.int a ta, .int b tb, .int c tc] n) ∈ news) (h : ∀ t, Q (.int c t) s)
    (hs : subscripted slice false (.ref D) (.int 2 u) = operate [.ref D, .int 2 u] (getItem (.ref D) (.int 2 u))) : wpAny (model prog w) A (subscriptTail value slice (.ref D) (.int 2 u)) Q E s :=
  ksa_sub (vs := [.int a ta, .int b tb, .int c tc]) N hm (.cons _ _ (.cons _ _ (.cons _ _ .nil))) (by decide) (by simp only [List.length_cons, List.length_nil]; lia) (by decide) h hs
end
/-- the shape of an answer of _law_end -/
noncomputable def datO : Option Int → W.Dat
  | some x => .int x
  | none => .none
theorem datO_in {n : List (Addr × Obj)} {o : Option Int} {v : Value} (h : optV o v) : DatIn n v (datO o) := by
  cases o with
  | none => cases h; exact .none
  | some x => obtain ⟨t, rfl⟩ := h; exact .int x t
open Classical in
theorem datO_none {a b : Option Int} : (!decide (W.Dat.none ∈ [datO a, datO b])) = (a.isSome && b.isSome) := by
  cases a <;> cases b <;> simp [datO]
end

section
theorem fin4 : ∀ x : Fin 4, x = 0 ∨ x = 1 ∨ x = 2 ∨ x = 3 := by decide
noncomputable def lin (c : Cl) (φ : Fin 4 → Int) : Int := (c.map fun q => q.2 * φ q.1).sum
noncomputable def LIN (B : Book) (ψ : Fin 4 → Fin 4 → Int) : Int := (B.map fun b => lin b.2 (ψ b.1)).sum
noncomputable def dl (k x : Fin 4) : Int := if x = k then 1 else 0
theorem lin_nil (φ : Fin 4 → Int) : lin [] φ = 0 := rfl
theorem lin_cons (q : Fin 4 × Int) (c : Cl) (φ : Fin 4 → Int) : lin (q :: c) φ = q.2 * φ q.1 + lin c φ := by unfold lin; rw [List.map_cons, List.sum_cons]
theorem lin_append (c e : Cl) (φ : Fin 4 → Int) : lin (c ++ e) φ = lin c φ + lin e φ := by unfold lin; rw [List.map_append, List.sum_append]
theorem LIN_nil (ψ : Fin 4 → Fin 4 → Int) : LIN [] ψ = 0 := rfl
theorem LIN_cons (b : Fin 4 × Cl) (B : Book) (ψ : Fin 4 → Fin 4 → Int) : LIN (b :: B) ψ = lin b.2 (ψ b.1) + LIN B ψ := by unfold LIN; rw [List.map_cons, List.sum_cons]
theorem LIN_append (B C : Book) (ψ : Fin 4 → Fin 4 → Int) : LIN (B ++ C) ψ = LIN B ψ + LIN C ψ := by unfold LIN; rw [List.map_append, List.sum_append]
theorem lin_map (k : Fin 4) (v : Int) (φ : Fin 4 → Int) : ∀ {c : Cl}, (c.map (·.1)).Nodup → kprHas c k = true → lin (c.map (kprSet k v)) φ = lin c φ + (v - kprLook c k 0) * φ k
  := fun {c} => by
  induction c with
  | nil => exact fun _ h => Bool.noConfusion h
  | cons p c ih =>
    intro hn h
    rw [List.map_cons] at hn
    obtain ⟨hp, hn⟩ := List.nodup_cons.mp hn
    rw [List.map_cons, lin_cons, lin_cons, kpr_look_cons]
    by_cases e : p.1 = k
    · rw [if_pos e, kprSet_yes e, kpr_map_id k v (kpr_has_false.mpr (by rw [← e]; exact hp)), e, Int.sub_mul]
      dsimp only
      lia
    · rw [if_neg e, kprSet_no e]
      rw [kpr_has_cons, decide_eq_false e, Bool.false_or] at h
      rw [ih hn h]
      lia
theorem lin_put {c : Cl} (hn : (c.map (·.1)).Nodup) (k : Fin 4) (v : Int) (φ : Fin 4 → Int) : lin (kprPut c k v) φ = lin c φ + (v - kprLook c k 0) * φ k := by
  cases h : kprHas c k with
  | true => rw [kpr_put_old h, lin_map k v φ hn h]
  | false =>
    rw [kpr_put_new h, lin_append, kpr_look_none h, lin_cons, lin_nil, Int.sub_zero, Int.add_zero]
theorem lin_none (k : Fin 4) : ∀ {c : Cl}, kprHas c k = false → lin c (dl k) = 0 := fun {c} => by
  induction c with
  | nil => exact fun _ => rfl
  | cons p c ih =>
    intro h
    rw [kpr_has_cons, Bool.or_eq_false_iff] at h
    rw [lin_cons, ih h.2, dl, if_neg (of_decide_eq_false h.1)]
    lia
theorem lin_look (k : Fin 4) : ∀ {c : Cl}, (c.map (·.1)).Nodup → kprLook c k 0 = lin c (dl k) := fun {c} => by
  induction c with
  | nil => exact fun _ => rfl
  | cons p c ih =>
    intro hn
    rw [List.map_cons] at hn
    obtain ⟨hp, hn⟩ := List.nodup_cons.mp hn
    rw [kpr_look_cons, lin_cons]
    by_cases e : p.1 = k
    · rw [if_pos e, lin_none k (kpr_has_false.mpr (by rw [← e]; exact hp)), dl, if_pos e]
      lia
    · rw [if_neg e, ih hn, dl, if_neg e]
      lia
theorem lin_addAll (φ : Fin 4 → Int) : ∀ (l c : Cl), (c.map (·.1)).Nodup → lin (addAll c l) φ = lin c φ + lin l φ
  := fun l => by
  induction l with
  | nil => exact fun c _ => by show lin c φ = _; rw [lin_nil, Int.add_zero]
  | cons p l ih =>
    intro c h
    show lin (addAll (kprPut c p.1 (kprLook c p.1 0 + p.2)) l) φ = _
    rw [ih _ (kpr_nodup h _ _), lin_put h, lin_cons, show kprLook c p.1 0 + p.2 - kprLook c p.1 0 = p.2 by lia]
    lia
theorem putAll_nil {l : Cl} (h : (l.map (·.1)).Nodup) : putAll [] l = l := by
  have e := kpr_foldl_new l [] (fun p _ => kpr_has_nil p.1) h
  rw [List.nil_append] at e
  exact e
theorem lin_sum : ∀ c : Cl, kprSum c = lin c (fun _ => 1) := fun c => by
  induction c with
  | nil => rfl
  | cons p c ih => rw [kpr_sum_cons, lin_cons, ih, Int.mul_one]
/-- a book in order -/
noncomputable def Good (B : Book) : Prop := (B.map (·.1)).Nodup ∧ ∀ b ∈ B, (b.2.map (·.1)).Nodup
theorem good_nil : Good [] := ⟨List.nodup_nil, fun _ h => nomatch h⟩
theorem getB_cons (b : Fin 4 × Cl) (B : Book) (k : Fin 4) : getB (b :: B) k = if b.1 = k then b.2 else getB B k := by
  unfold getB
  rw [List.find?_cons]
  by_cases h : b.1 = k
  · rw [decide_eq_true h, if_pos h]; rfl
  · rw [decide_eq_false h, if_neg h]
theorem getB_good {k : Fin 4} : ∀ {B : Book}, (∀ b ∈ B, (b.2.map (·.1)).Nodup) → ((getB B k).map (·.1)).Nodup := fun {B} => by
  induction B with
  | nil => exact fun _ => List.nodup_nil
  | cons b B ih =>
    intro h
    rw [getB_cons]
    split
    · exact h b List.mem_cons_self
    · exact ih fun b hb => h b (List.mem_cons_of_mem _ hb)
theorem good_put {B : Book} (h : Good B) (k : Fin 4) {c : Cl} (hc : (c.map (·.1)).Nodup) : Good (putB B k c) := by
  refine ⟨putB_keys B k c h.1, fun b hb => ?_⟩
  unfold putB at hb
  split at hb
  · refine hideG fun GG hGG => ?_
    obtain ⟨b', hb', e⟩ := List.mem_map.mp hb
    refine hGG ?_
    clear hGG GG
    split at e
    · rw [← e]; exact hc
    · rw [← e]; exact h.2 b' hb'
  · rcases List.mem_append.mp hb with hb | hb
    · exact h.2 b hb
    · rw [List.mem_singleton] at hb
      rw [hb]; exact hc
theorem LIN_map (k : Fin 4) (c : Cl) (ψ : Fin 4 → Fin 4 → Int) : ∀ {B : Book}, (B.map (·.1)).Nodup → (B.any fun b => decide (b.1 = k)) = true →
    LIN (B.map fun b => if decide (b.1 = k) then (b.1, c) else b) ψ = LIN B ψ + lin c (ψ k) - lin (getB B k) (ψ k)
  := fun {B} => by
  induction B with
  | nil => exact fun _ h => Bool.noConfusion h
  | cons b B ih =>
    intro hn h
    rw [List.map_cons] at hn
    obtain ⟨hp, hn⟩ := List.nodup_cons.mp hn
    rw [List.map_cons, LIN_cons, LIN_cons, getB_cons]
    by_cases e : b.1 = k
    · have hno : (B.map fun b => if decide (b.1 = k) then (b.1, c) else b) = B := by
        refine (List.map_congr_left fun b' hb' => ?_).trans (List.map_id _)
        have : b'.1 ≠ k := fun e' => hp (List.mem_map.mpr ⟨b', hb', e'.trans e.symm⟩)
        simp [this]
      rw [hno, if_pos e, if_pos (decide_eq_true e), e]
      dsimp only
      lia
    · rw [if_neg e, if_neg (by simpa using e)]
      rw [List.any_cons, decide_eq_false e, Bool.false_or] at h
      rw [ih hn h]
      lia
theorem getB_none (k : Fin 4) : ∀ {B : Book}, (B.any fun b => decide (b.1 = k)) = false → getB B k = [] := fun {B} => by
  induction B with
  | nil => exact fun _ => rfl
  | cons b B ih =>
    intro h
    rw [List.any_cons, Bool.or_eq_false_iff] at h
    rw [getB_cons, if_neg (of_decide_eq_false h.1), ih h.2]
theorem LIN_put {B : Book} (h : Good B) (k : Fin 4) (c : Cl) (ψ : Fin 4 → Fin 4 → Int) : LIN (putB B k c) ψ = LIN B ψ + lin c (ψ k) - lin (getB B k) (ψ k) := by
  unfold putB
  cases ha : (B.any fun b => decide (b.1 = k)) with
  | true => rw [if_pos rfl]; exact LIN_map k c ψ h.1 ha
  | false =>
    rw [if_neg Bool.false_ne_true, LIN_append, getB_none k ha, lin_nil, LIN_cons, LIN_nil]
    dsimp only
    lia
theorem LIN_step {B : Book} (h : Good B) (p : Fin 4) (q : Fin 4 × Int) (ψ : Fin 4 → Fin 4 → Int) : Good (stepB B p q) ∧ LIN (stepB B p q) ψ = LIN B ψ + q.2 * ψ q.1 p := by
  have hg := getB_good (k := q.1) h.2
  unfold stepB
  rw [putAll_nil hg]
  refine ⟨good_put h _ (addAll_nodup _ _ hg), ?_⟩
  rw [LIN_put h, lin_addAll _ _ _ hg, lin_cons, lin_nil]
  dsimp only
  lia
theorem LIN_ways (p : Fin 4) (ψ : Fin 4 → Fin 4 → Int) : ∀ (ws : Cl) {B : Book}, Good B → Good (ws.foldl (fun B q => stepB B p q) B) ∧ LIN (ws.foldl (fun B q => stepB B p q) B) ψ = LIN B ψ + lin ws (fun f => ψ f p)
  := fun ws => by
  induction ws with
  | nil => exact fun {B} h => ⟨h, by show LIN B ψ = _; rw [lin_nil, Int.add_zero]⟩
  | cons q ws ih =>
    intro B h
    have h1 := LIN_step h p q ψ
    have h2 := ih h1.1
    refine ⟨h2.1, h2.2.trans ?_⟩
    rw [h1.2, lin_cons]
    lia
noncomputable def wl (rows : List Row) (g p : Fin 4) (φ : Fin 4 → Int) : Int := ((callsOf' rows p).map fun c => lin (waysOf rows g c) φ).sum
theorem LIN_place (rows : List Row) (g p : Fin 4) (ψ : Fin 4 → Fin 4 → Int) {B : Book} (h : Good B) : Good (placeB rows g B p) ∧ LIN (placeB rows g B p) ψ = LIN B ψ + wl rows g p (fun f => ψ f p) := by
  unfold placeB wl
  have key : ∀ (cs : Cl) {B : Book}, Good B → Good (cs.foldl (fun B c => callB rows g B p c) B) ∧ LIN (cs.foldl (fun B c => callB rows g B p c) B) ψ = LIN B ψ + (cs.map fun c => lin (waysOf rows g c) (fun f => ψ f p)).sum := by
    intro cs
    induction cs with
    | nil => intro B h; exact ⟨h, by rw [List.map_nil, List.sum_nil, Int.add_zero]; rfl⟩
    | cons c cs ih =>
      intro B h
      have h1 : Good (callB rows g B p c) ∧ LIN (callB rows g B p c) ψ = _ := LIN_ways p ψ (waysOf rows g c) h
      have h2 := ih h1.1
      refine ⟨h2.1, h2.2.trans ?_⟩
      rw [h1.2, List.map_cons, List.sum_cons]
      lia
  exact key _ h
theorem LIN_book (rows : List Row) (g : Fin 4) (ψ : Fin 4 → Fin 4 → Int) : Good (bookOf rows g) ∧ LIN (bookOf rows g) ψ = ((others g).map fun p => wl rows g p (fun f => ψ f p)).sum := by
  unfold bookOf
  have key : ∀ (ps : List (Fin 4)) {B : Book}, Good B → Good (ps.foldl (placeB rows g) B) ∧ LIN (ps.foldl (placeB rows g) B) ψ = LIN B ψ + (ps.map fun p => wl rows g p (fun f => ψ f p)).sum := by
    intro ps
    induction ps with
    | nil => intro B h; exact ⟨h, by rw [List.map_nil, List.sum_nil, Int.add_zero]; rfl⟩
    | cons p ps ih =>
      intro B h
      have h1 := LIN_place rows g p ψ h
      have h2 := ih h1.1
      refine ⟨h2.1, h2.2.trans ?_⟩
      rw [h1.2, List.map_cons, List.sum_cons]
      lia
  have h := key (others g) good_nil
  exact ⟨h.1, h.2.trans (by rw [LIN_nil, Int.zero_add])⟩
theorem lin_filter (g : Fin 4) (φ : Fin 4 → Int) : ∀ c : Cl, lin (c.filter (fun q => decide (q.1 ≠ g))) φ = lin c (fun x => if x = g then 0 else φ x) := fun c => by
  induction c with
  | nil => rfl
  | cons p c ih =>
    rw [List.filter_cons, lin_cons, ← ih]
    by_cases e : p.1 = g
    · rw [if_neg (by simpa using e), if_pos e]; lia
    · rw [if_pos (by simpa using e), if_neg e, lin_cons]
theorem lin_on (rows : List Row) (g : Fin 4) (φ : Fin 4 → Int) : lin (onOf rows g) φ = lin (callsOf' rows g) (fun x => if x = g then 0 else φ x) := lin_filter g φ _
theorem over_on (rows : List Row) (g : Fin 4) : overOf rows g = lin (onOf rows g) fun _ => 1 := by
  unfold overOf lin
  exact congrArg List.sum (List.map_congr_left fun q _ => (Int.mul_one q.2).symm)
theorem over_lin (rows : List Row) (g : Fin 4) : overOf rows g = lin (callsOf' rows g) (fun x => if x = g then 0 else 1) := by rw [over_on, lin_on]
theorem lin_add (φ ψ : Fin 4 → Int) : ∀ c : Cl, lin c (fun x => φ x + ψ x) = lin c φ + lin c ψ := fun c => by
  induction c with
  | nil => rfl
  | cons p c ih => rw [lin_cons, lin_cons, lin_cons, ih, Int.mul_add]; lia
theorem lin_mul (k : Int) (φ : Fin 4 → Int) : ∀ c : Cl, lin c (fun x => k * φ x) = k * lin c φ := fun c => by
  induction c with
  | nil => exact (Int.mul_zero k).symm
  | cons p c ih => rw [lin_cons, lin_cons, ih, Int.mul_add, Int.mul_left_comm]
theorem lin_zero : ∀ c : Cl, lin c (fun _ => 0) = 0 := fun c => by
  induction c with
  | nil => rfl
  | cons p c ih => rw [lin_cons, ih, Int.mul_zero, Int.zero_add]
theorem lin_sums (c : Cl) (l : List (Fin 4)) : lin c (fun x => (l.map fun k => dl k x).sum) = (l.map fun k => lin c (dl k)).sum := by
  induction l with
  | nil => exact lin_zero c
  | cons k l ih => rw [List.map_cons, List.sum_cons, ← ih, ← lin_add]; rfl
theorem lin_scale (k : Int) (φ : Fin 4 → Int) : ∀ c : Cl, lin (c.map fun q => (q.1, k * q.2)) φ = k * lin c φ := fun c => by
  induction c with
  | nil => exact (Int.mul_zero k).symm
  | cons p c ih => rw [List.map_cons, lin_cons, lin_cons, ih, Int.mul_add, Int.mul_assoc]
theorem lin_ways (rows : List Row) (g : Fin 4) (c : Fin 4 × Int) (φ : Fin 4 → Int) : lin (waysOf rows g c) φ = c.2 * (if c.1 = g then lin (onOf rows g) φ else overOf rows g * φ c.1) := by
  unfold waysOf
  split
  · exact lin_scale _ _ _
  · rw [lin_cons, lin_nil, Int.add_zero, Int.mul_assoc]
theorem wl_lin (rows : List Row) (g p : Fin 4) (φ : Fin 4 → Int) : wl rows g p φ = lin (callsOf' rows p) (fun x => if x = g then lin (onOf rows g) φ else overOf rows g * φ x) := by
  unfold wl
  show _ = ((callsOf' rows p).map _).sum
  exact congrArg List.sum (List.map_congr_left fun c _ => lin_ways rows g c φ)
noncomputable def A (rows : List Row) (p x : Fin 4) : Int := lin (callsOf' rows p) (dl x)
theorem dl_others : ∀ g x : Fin 4, (if x = g then (0 : Int) else 1) = ((others g).map fun k => dl k x).sum := by decide +kernel
theorem over_A (rows : List Row) (g : Fin 4) : overOf rows g = ((others g).map fun x => A rows g x).sum := by
  rw [over_lin, show (fun x => if x = g then (0 : Int) else 1) = fun x => ((others g).map fun k => dl k x).sum from funext (dl_others g), lin_sums]
  rfl
theorem dl_ne {k x : Fin 4} (h : x ≠ k) : dl k x = 0 := if_neg h
theorem dl_self (k : Fin 4) : dl k k = 1 := if_pos rfl
theorem on_A (rows : List Row) (g x : Fin 4) : lin (onOf rows g) (dl x) = if x = g then 0 else A rows g x := by
  rw [lin_on]
  by_cases h : x = g
  · rw [if_pos h, show (fun y => if y = g then (0 : Int) else dl x y) = fun _ => 0 from funext fun y => by
      by_cases e : y = g
      · rw [if_pos e]
      · rw [if_neg e, h, dl_ne e], lin_zero]
  · rw [if_neg h, show (fun y => if y = g then (0 : Int) else dl x y) = dl x from funext fun y => by
      by_cases e : y = g
      · rw [if_pos e, e, dl_ne (Ne.symm h)]
      · rw [if_neg e]]
    rfl
theorem wl_A (rows : List Row) (g p x : Fin 4) : wl rows g p (dl x) = if x = g then 0 else A rows p x * overOf rows g + A rows p g * A rows g x := by
  rw [wl_lin, on_A]
  by_cases h : x = g
  · rw [if_pos h, if_pos h, show (fun y => if y = g then (0 : Int) else overOf rows g * dl x y) = fun _ => 0 from funext fun y => by
      by_cases e : y = g
      · rw [if_pos e]
      · rw [if_neg e, h, dl_ne e, Int.mul_zero], lin_zero]
  · rw [if_neg h, if_neg h, show (fun y => if y = g then A rows g x else overOf rows g * dl x y) = fun y => A rows g x * dl g y + overOf rows g * dl x y from funext fun y => by
      by_cases e : y = g
      · rw [if_pos e, e, dl_self, dl_ne (Ne.symm h), Int.mul_one, Int.mul_zero, Int.add_zero]
      · rw [if_neg e, dl_ne e, Int.mul_zero, Int.zero_add], lin_add, lin_mul, lin_mul, Int.add_comm, Int.mul_comm (overOf rows g), Int.mul_comm (A rows g x)]
    rfl
theorem lin_rows : ∀ (B : Book) (p : Fin 4) (φ : Fin 4 → Int), lin (callsOf' (rowsB B) p) φ = LIN B (fun f p' => if p' = p then φ f else 0)
  := fun B => by
  induction B with
  | nil => exact fun _ _ => rfl
  | cons b B ih0 =>
    intro p φ
    have e : callsOf' (rowsB (b :: B)) p = callsOf' (b.2.map fun q => ({ u := !decide (q.1 < b.1), p := q.1, f := b.1, w := q.2 } : Row)) p ++ callsOf' (rowsB B) p := by
      unfold callsOf' rowsB
      rw [List.flatMap_cons, List.filter_append, List.map_append]
    rw [e, lin_append, ih0 p φ, LIN_cons]
    refine congrArg (· + _) ?_
    generalize b.2 = c
    induction c with
    | nil => rfl
    | cons q c ih =>
      rw [List.map_cons, lin_cons]
      unfold callsOf' at ih ⊢
      rw [List.filter_cons]
      dsimp only
      by_cases h : q.1 = p
      · rw [if_pos (by simpa using h), List.map_cons, lin_cons, ih, if_pos h]
      · rw [if_neg (by simpa using h), ih, if_neg h]; lia
theorem A_rows (B : Book) (p x : Fin 4) : A (rowsB B) p x = LIN B (fun f p' => if p' = p then dl x f else 0) := lin_rows B p (dl x)
theorem sum_at (p : Fin 4) (t : Fin 4 → Int) : ∀ l : List (Fin 4), l.Nodup → (l.map fun p' => if p' = p then t p' else 0).sum = if p ∈ l then t p else 0 := fun l => by
  induction l with
  | nil => exact fun _ => (if_neg List.not_mem_nil).symm
  | cons x l ih =>
    intro hn
    obtain ⟨hx, hn⟩ := List.nodup_cons.mp hn
    rw [List.map_cons, List.sum_cons, ih hn]
    by_cases e : x = p
    · rw [if_pos e, ← e, if_neg hx, if_pos List.mem_cons_self, Int.add_zero]
    · rw [if_neg e, Int.zero_add]
      by_cases h : p ∈ l
      · rw [if_pos h, if_pos (List.mem_cons_of_mem _ h)]
      · rw [if_neg h, if_neg fun k => (List.mem_cons.mp k).elim (fun k => e k.symm) h]
theorem others_nodup : ∀ g : Fin 4, (others g).Nodup := by decide
theorem mem_others : ∀ g p : Fin 4, p ∈ others g ↔ ¬p = g := by decide
theorem sum_others (g p : Fin 4) (t : Fin 4 → Int) : ((others g).map fun p' => if p' = p then t p' else 0).sum = if p = g then 0 else t p := by
  rw [sum_at p t _ (others_nodup g)]
  by_cases h : p = g
  · rw [if_pos h, if_neg fun k => (mem_others g p).mp k h]
  · rw [if_neg h, if_pos ((mem_others g p).mpr h)]
theorem wl_zero (rows : List Row) (g p : Fin 4) : wl rows g p (fun _ => 0) = 0 := by
  rw [wl_lin, lin_zero, show (fun x => if x = g then (0 : Int) else overOf rows g * 0) = fun _ => 0 from funext fun x => by rw [Int.mul_zero, ite_self], lin_zero]
theorem A_book (rows : List Row) (g p x : Fin 4) : A (rowsB (bookOf rows g)) p x = if p = g ∨ x = g then 0 else A rows p x * overOf rows g + A rows p g * A rows g x := by
  rw [A_rows, (LIN_book rows g _).2]
  rw [show (fun p' => wl rows g p' (fun f => if p' = p then dl x f else 0)) = fun p' => if p' = p then wl rows g p' (dl x) else 0 from funext fun p' => by
    split
    · rfl
    · exact wl_zero rows g p']
  rw [sum_others, wl_A]
  by_cases hp : p = g
  · rw [if_pos hp, if_pos (.inl hp)]
  · rw [if_neg hp]
    by_cases hx : x = g
    · rw [if_pos hx, if_pos (.inr hx)]
    · rw [if_neg hx, if_neg (by rintro (h | h); exact hp h; exact hx h)]
theorem total_lin (φ : Fin 4 → Int) (B : Book) (h : Good B) : ((totalOf B).map (·.1)).Nodup ∧ lin (totalOf B) φ = LIN B (fun _ p => φ p) := by
  unfold totalOf
  have key : ∀ (C : Book) (t : Cl), (t.map (·.1)).Nodup → ((C.foldl (fun t b => addAll (putAll [] t) b.2) t).map (·.1)).Nodup ∧ lin (C.foldl (fun t b => addAll (putAll [] t) b.2) t) φ = lin t φ + LIN C (fun _ p => φ p) := by
    intro C
    induction C with
    | nil => intro t ht; exact ⟨ht, by rw [LIN_nil, Int.add_zero]; rfl⟩
    | cons b C ih =>
      intro t ht
      have e := putAll_nil ht
      have h1 : ((addAll (putAll [] t) b.2).map (·.1)).Nodup := by rw [e]; exact addAll_nodup _ _ ht
      have h2 := ih _ h1
      refine ⟨h2.1, h2.2.trans ?_⟩
      rw [e, lin_addAll _ _ _ ht, LIN_cons]
      show lin t φ + lin b.2 φ + LIN C (fun _ p => φ p) = lin t φ + (lin b.2 φ + LIN C (fun _ p => φ p))
      lia
  have h := key B [] nil_nodup
  exact ⟨h.1, h.2.trans (by rw [lin_nil, Int.zero_add])⟩
noncomputable def W1 (rows : List Row) (p : Fin 4) : Int := lin (callsOf' rows p) (fun _ => 1)
theorem wl_const (rows : List Row) (g p : Fin 4) (a : Int) : wl rows g p (fun _ => a) = overOf rows g * W1 rows p * a := by
  have e : lin (onOf rows g) (fun _ => a) = overOf rows g * a := by
    rw [over_on, Int.mul_comm, ← lin_mul]
    exact congrArg (lin _) (funext fun _ => (Int.mul_one a).symm)
  rw [wl_lin, e, show (fun x => if x = g then overOf rows g * a else overOf rows g * a) = fun _ => overOf rows g * a * 1 from funext fun x => by rw [ite_self, Int.mul_one], lin_mul, Int.mul_right_comm]
  rfl
theorem sum_mul (k : Int) (f : Fin 4 → Int) (l : List (Fin 4)) : (l.map fun x => k * f x).sum = k * (l.map f).sum := by
  induction l with
  | nil => exact (Int.mul_zero k).symm
  | cons x l ih => rw [List.map_cons, List.sum_cons, ih, List.map_cons, List.sum_cons, Int.mul_add]
theorem once_look (rows : List Row) (g k : Fin 4) : kprLook (totalOf (bookOf rows g)) k 0 = if k = g then 0 else overOf rows g * W1 rows k := by
  have hb := LIN_book rows g (fun _ p => dl k p)
  have ht := total_lin (dl k) _ hb.1
  rw [lin_look k ht.1, ht.2, hb.2]
  rw [show (fun p => wl rows g p fun f => dl k p) = fun p => if p = k then wl rows g p (fun _ => 1) else 0 from funext fun p => by
    unfold dl
    split
    · rfl
    · exact wl_zero rows g p]
  rw [sum_others, wl_const, Int.mul_one]
theorem once_sum (rows : List Row) (g : Fin 4) : kprSum (totalOf (bookOf rows g)) = overOf rows g * ((others g).map fun k => W1 rows k).sum := by
  have hb := LIN_book rows g (fun _ _ => 1)
  have ht := total_lin (fun _ => 1) _ hb.1
  rw [lin_sum, ht.2, hb.2, show (fun p => wl rows g p fun _ => 1) = fun p => overOf rows g * W1 rows p from funext fun p => by rw [wl_const, Int.mul_one], sum_mul]
theorem W1_book (rows : List Row) (g k : Fin 4) : W1 (rowsB (bookOf rows g)) k = if k = g then 0 else overOf rows g * W1 rows k := by
  rw [W1, lin_rows, (LIN_book rows g _).2]
  rw [show (fun p' => wl rows g p' (fun f => if p' = k then 1 else 0)) = fun p' => if p' = k then wl rows g p' (fun _ => 1) else 0 from funext fun p' => by
    split
    · rfl
    · exact wl_zero rows g p']
  rw [sum_others, wl_const, Int.mul_one]
theorem good_take {B : Book} (h : Good B) (i : Nat) : Good (B.take i) := by
  refine ⟨?_, fun b hb => h.2 b (List.mem_of_mem_take hb)⟩
  rw [List.map_take]
  exact h.1.sublist (List.take_sublist _ _)
theorem total_snoc {B : Book} {i : Nat} {b : Fin 4 × Cl} (h : B[i]? = some b) : totalOf (B.take (i + 1)) = addAll (putAll [] (totalOf (B.take i))) b.2 := by
  unfold totalOf
  rw [List.take_add_one, h, Option.toList_some, List.foldl_append]
  rfl
noncomputable def rowB (f : Fin 4) (q : Fin 4 × Int) : Row := { u := !decide (q.1 < f), p := q.1, f := f, w := q.2 }
theorem rowsB_snoc {B : Book} {i : Nat} {b : Fin 4 × Cl} (h : B[i]? = some b) : rowsB (B.take (i + 1)) = rowsB (B.take i) ++ b.2.map (rowB b.1) := by
  unfold rowsB
  rw [List.take_add_one, h, Option.toList_some, List.flatMap_append, List.flatMap_cons, List.flatMap_nil, List.append_nil]
  rfl
theorem rowsB_len : ∀ {B : Book}, (∀ b ∈ B, (b.2.map (·.1)).Nodup) → (rowsB B).length ≤ 4 * B.length := fun {B} => by
  induction B with
  | nil => exact fun _ => Nat.le_refl _
  | cons b B ih =>
    intro h
    have h1 := ih fun b hb => h b (List.mem_cons_of_mem _ hb)
    have h2 := nodup4 (h b List.mem_cons_self)
    unfold rowsB at h1 ⊢
    rw [List.flatMap_cons, List.length_append, List.length_map, List.length_cons]
    lia
theorem book_at {prog : Program} {w : World} {ext : List (Addr × Obj)} : ∀ {B : Book} {kvs : List (Str × Value)} {i : Nat} {k : Str} {v : Value}, BookIn prog w ext B kvs → (B.map (·.1)).Nodup → kvs[i]? = some (k, v) →
    ∃ b d o, B[i]? = some b ∧ k = low b.1 ∧ v = .ref d ∧ valueAt kvs (low b.1) = some (.ref d) ∧ (d, o) ∈ ext ∧ (d == sysModules) = false ∧ DK prog w o b.2 ∧ (b.2.map (·.1)).Nodup
  := fun {B kvs i k v} k9 => by
  induction k9 generalizing i with
  | nil => exact fun _ h => absurd h (Option.some_ne_none _).symm
  | @cons b kv B kvs x t ih =>
    intro hB h
    refine hideG fun GG hGG => ?_
    obtain ⟨e, hn, d, o, ev, hm, lo, hd⟩ := x
    refine hGG ?_
    clear hGG GG
    cases i with
    | zero =>
      have e0 : kv = (k, v) := Option.some.inj h
      subst e0
      refine ⟨b, d, o, rfl, e, ev, ?_, hm, lo, hd, hn⟩
      unfold valueAt
      rw [List.find?_cons, decide_eq_true (show (k, v).1 = low b.1 from e)]
      exact congrArg some ev
    | succ i =>
      rw [List.map_cons] at hB
      obtain ⟨hb, hB⟩ := List.nodup_cons.mp hB
      refine hideG fun GG hGG => ?_
      obtain ⟨b', d, o, h1, h2, h3, h4, h5⟩ := ih (i := i) hB h
      refine hGG ?_
      clear hGG GG
      refine ⟨b', d, o, h1, h2, h3, ?_, h5⟩
      unfold valueAt at h4 ⊢
      rw [List.find?_cons, decide_eq_false (show ¬ kv.1 = low b'.1 from fun q => by
        rw [e] at q
        exact hb (List.mem_map.mpr ⟨b', List.mem_of_getElem? h1, (low_inj' q).symm⟩))]
      exact h4
theorem low_lt : ∀ p q : Fin 4, (low p).cps.toList < (low q).cps.toList ↔ p < q := by decide +kernel
end

section
theorem calls8 (ns : List Int) (p : Fin 4) : callsOf' (rowsTo ns 8) p = [(fOf (ns.getD p.val 0), ns.getD p.val 0 / 4), (fOf (ns.getD (p.val + 4) 0), ns.getD (p.val + 4) 0 / 4)] := by
  rcases fin4 p with rfl | rfl | rfl | rfl <;> rfl
theorem W1_8 (ns : List Int) (p : Fin 4) : W1 (rowsTo ns 8) p = ns.getD p.val 0 / 4 + ns.getD (p.val + 4) 0 / 4 := by
  rw [W1, calls8, lin_cons, lin_cons, lin_nil]
  lia
theorem lin8 (ns : List Int) (p : Fin 4) (φ : Fin 4 → Int) : lin (callsOf' (rowsTo ns 8) p) φ = ns.getD p.val 0 / 4 * φ (fOf (ns.getD p.val 0)) + ns.getD (p.val + 4) 0 / 4 * φ (fOf (ns.getD (p.val + 4) 0)) := by
  rw [calls8, lin_cons, lin_cons, lin_nil, Int.add_zero]
noncomputable def okT (g s q x y z : Fin 4) : Int := if okF g.val s.val q.val x.val y.val z.val then 1 else 0
theorem fOf_mod (x : Int) : ((fOf x).val : Int) % 4 = x % 4 := by rw [fOf_val]; exact Int.emod_emod_of_dvd x (Int.dvd_refl 4)
theorem okF_f (g0 g1 cd a b c : Int) : okF g0 g1 cd (fOf a).val (fOf b).val (fOf c).val = okF g0 g1 cd a b c := by
  unfold okF
  rw [fOf_mod, fOf_mod, fOf_mod]
theorem ch_ (ns : List Int) (g s p : Fin 4) (k : Nat) (hk : k < 8) : chN ns g.val s.val p.val k 0 = ns.getD (g.val + 4 * (k % 2)) 0 ∧ chN ns g.val s.val p.val k 1 = ns.getD (s.val + 4 * (k / 2 % 2)) 0 ∧ chN ns g.val s.val p.val k 2 = ns.getD (p.val + 4 * (k / 4 % 2)) 0 := by
  have h : k = 0 ∨ k = 1 ∨ k = 2 ∨ k = 3 ∨ k = 4 ∨ k = 5 ∨ k = 6 ∨ k = 7 := by lia
  unfold chN
  refine ⟨congrArg (ns.getD · 0) ?_, congrArg (ns.getD · 0) ?_, congrArg (ns.getD · 0) ?_⟩ <;> rcases h with rfl | rfl | rfl | rfl | rfl | rfl | rfl | rfl <;> rfl
theorem term8 (ns : List Int) (g s p q : Fin 4) (k : Nat) (hk : k < 8) : termF ns g.val s.val p.val q.val k =
    ns.getD (g.val + 4 * (k % 2)) 0 / 4 * (ns.getD (s.val + 4 * (k / 2 % 2)) 0 / 4 * (ns.getD (p.val + 4 * (k / 4 % 2)) 0 / 4 * okT g s q (fOf (ns.getD (g.val + 4 * (k % 2)) 0)) (fOf (ns.getD (s.val + 4 * (k / 2 % 2)) 0)) (fOf (ns.getD (p.val + 4 * (k / 4 % 2)) 0)))) := by
  refine hideG fun GG hGG => ?_
  obtain ⟨h0, h1, h2⟩ := ch_ ns g s p k hk
  refine hGG ?_
  clear hGG GG
  unfold termF okT
  rw [h0, h1, h2, okF_f]
  split
  · rw [Int.mul_one, Int.mul_assoc]
  · simp
theorem worth8 (ns : List Int) (g s p q : Fin 4) : worthTo ns g.val s.val p.val q.val 8 =
    lin (callsOf' (rowsTo ns 8) g) fun x => lin (callsOf' (rowsTo ns 8) s) fun y => lin (callsOf' (rowsTo ns 8) p) fun z => okT g s q x y z := by
  simp only [lin8]
  unfold worthTo worthTo worthTo worthTo worthTo worthTo worthTo worthTo worthTo
  rw [term8 _ _ _ _ _ 0 (by decide), term8 _ _ _ _ _ 1 (by decide), term8 _ _ _ _ _ 2 (by decide), term8 _ _ _ _ _ 3 (by decide), term8 _ _ _ _ _ 4 (by decide), term8 _ _ _ _ _ 5 (by decide), term8 _ _ _ _ _ 6 (by decide), term8 _ _ _ _ _ 7 (by decide)]
  simp only [Int.mul_add, Nat.reduceMod, Nat.reduceDiv, Nat.reduceMul, Nat.mul_zero, Nat.mul_one, Nat.add_zero, Int.add_assoc, Int.zero_add]
  lia
noncomputable def Fcl (a b c : Fin 4 → Int) (g s q : Fin 4) : Int :=
  let D := ((others g).map a).sum
  let Bs := ((others s).map b).sum
  c q * (D * Bs - a s * b g) + c s * (b q * D + b g * a q) + c g * (a q * Bs + a s * b q)
theorem sum_perm : ∀ {l k : List Int}, l.Perm k → l.sum = k.sum := fun h => by
  induction h with
  | nil => rfl
  | cons x _ ih => rw [List.sum_cons, List.sum_cons, ih]
  | swap x y l => simp only [List.sum_cons]; lia
  | trans _ _ a b => exact a.trans b
noncomputable def ex (k x : Fin 4) : Int := if x = k then 0 else 1
theorem lin_mulr (k : Int) (φ : Fin 4 → Int) (c : Cl) : lin c (fun x => φ x * k) = lin c φ * k := by
  rw [Int.mul_comm, ← lin_mul]
  exact congrArg (lin c) (funext fun x => Int.mul_comm _ _)
theorem lin_ex (c : Cl) (k : Fin 4) : lin c (ex k) = ((others k).map fun x => lin c (dl x)).sum := by
  rw [show ex k = fun x => ((others k).map fun y => dl y x).sum from funext (dl_others k), lin_sums]
noncomputable def lin3 (a b c : Cl) (F : Fin 4 → Fin 4 → Fin 4 → Int) : Int := lin a fun x => lin b fun y => lin c fun z => F x y z
theorem lin3_add (a b c : Cl) (F G : Fin 4 → Fin 4 → Fin 4 → Int) : lin3 a b c (fun x y z => F x y z + G x y z) = lin3 a b c F + lin3 a b c G := by
  unfold lin3
  rw [← lin_add]
  refine congrArg (lin a) (funext fun x => ?_)
  rw [← lin_add]
  exact congrArg (lin b) (funext fun y => lin_add _ _ c)
theorem lin3_mul (a b c : Cl) (φ ψ χ : Fin 4 → Int) : lin3 a b c (fun x y z => φ x * (ψ y * χ z)) = lin a φ * (lin b ψ * lin c χ) := by
  rw [← lin_mulr]
  refine congrArg (lin a) (funext fun x => ?_)
  rw [← lin_mulr, ← lin_mul]
  refine congrArg (lin b) (funext fun y => ?_)
  rw [lin_mul, lin_mul]
theorem okT_val : ∀ g s q : Fin 4, s ≠ g → q ≠ g → q ≠ s → ∀ x y z : Fin 4, okT g s q x y z =
    ex g x * (ex s y * dl q z) + (-dl s x * (dl g y * dl q z) + (dl q x * (ex s y * dl g z) + (dl s x * (dl q y * dl g z) + (ex g x * (dl q y * dl s z) + dl q x * (dl g y * dl s z))))) := by decide +kernel
theorem lin_neg (φ : Fin 4 → Int) (c : Cl) : lin c (fun x => -φ x) = -lin c φ := by
  rw [Int.neg_eq_neg_one_mul, ← lin_mul]
  exact congrArg (lin c) (funext fun x => Int.neg_eq_neg_one_mul _)
theorem fcl_id (D B s g q h b r e : Int) : D * (B * q) + (-s * (g * q) + (b * (B * h) + (s * (r * h) + (D * (r * e) + b * (g * e))))) = q * (D * B - s * g) + e * (r * D + g * b) + h * (b * B + s * r) := by grind
theorem forest (R : List Row) (g s p q : Fin 4) (h1 : s ≠ g) (h2 : q ≠ g) (h3 : q ≠ s) :
    (lin (callsOf' R g) fun x => lin (callsOf' R s) fun y => lin (callsOf' R p) fun z => okT g s q x y z) = Fcl (A R g) (A R s) (A R p) g s q := by
  show lin3 _ _ _ (okT g s q) = _
  rw [show okT g s q = _ from funext fun x => funext fun y => funext fun z => okT_val g s q h1 h2 h3 x y z, lin3_add, lin3_add, lin3_add, lin3_add, lin3_add, lin3_mul, lin3_mul (φ := fun x => -dl s x), lin3_mul, lin3_mul, lin3_mul, lin3_mul, lin_neg, lin_ex, lin_ex]
  exact fcl_id _ _ _ _ _ _ _ _ _
theorem perm3a : ∀ g s : Fin 4, s ≠ g → ∃ u v : Fin 4, u ≠ g ∧ v ≠ g ∧ ((others g).isPerm [s, u, v]) = true ∧ ((others s).isPerm [g, u, v]) = true := by decide +kernel
theorem sum3 {l : List (Fin 4)} {a b c : Fin 4} (h : l.isPerm [a, b, c] = true) (f : Fin 4 → Int) : (l.map f).sum = f a + (f b + f c) := by
  have e := sum_perm ((List.isPerm_iff.mp h).map f)
  rw [e, List.map_cons, List.map_cons, List.map_cons, List.map_nil, List.sum_cons, List.sum_cons, List.sum_cons, List.sum_nil, Int.add_zero]
theorem twice_id {O gs gu gv sg su sv : Int} (e : O = gs + (gu + gv)) : 0 + (su * O + sg * gu + (sv * O + sg * gv)) = (sg + (su + sv)) * O - sg * gs := by
  rw [Int.add_mul, Int.add_mul]
  have h : sg * O = sg * gs + (sg * gu + sg * gv) := by rw [e, Int.mul_add, Int.mul_add]
  lia
theorem A_twice (R : List Row) (g s p q : Fin 4) (h1 : s ≠ g) (hp1 : p ≠ g) (hp2 : p ≠ s) (h2 : q ≠ g) (h3 : q ≠ s) :
    A (rowsB (bookOf (rowsB (bookOf R g)) s)) p q = overOf R g * Fcl (A R g) (A R s) (A R p) g s q := by
  have ho : overOf (rowsB (bookOf R g)) s = ((others s).map (A R s)).sum * overOf R g - A R s g * A R g s := by
    obtain ⟨u, v, hu, hv, hg, hs⟩ := perm3a g s h1
    have ng : ∀ {y : Fin 4}, y ≠ g → ¬(s = g ∨ y = g) := fun hy h => h.elim h1 hy
    rw [over_A (rowsB _), sum3 hs, A_book, if_pos (.inr rfl), A_book, if_neg (ng hu), A_book, if_neg (ng hv), sum3 hs]
    have e := (over_A R g).trans (sum3 hg (A R g))
    exact twice_id e
  rw [A_book, if_neg (by rintro (h | h); exact hp2 h; exact h3 h), ho]
  rw [A_book, if_neg (by rintro (h | h); exact hp1 h; exact h2 h), A_book, if_neg (by rintro (h | h); exact hp1 h; exact h1 h), A_book, if_neg (by rintro (h | h); exact h1 h; exact h2 h)]
  unfold Fcl
  have e : ((others g).map (A R g)).sum = overOf R g := (over_A R g).symm
  simp only [e]
  generalize overOf R g = D
  generalize ((others s).map (A R s)).sum = Bs
  generalize A R g = a
  generalize A R s = b
  generalize A R p = c
  grind
end

section
theorem lin_zf (c : Cl) {φ : Fin 4 → Int} (h : ∀ x, φ x = 0) : lin c φ = 0 := by rw [show φ = fun _ => 0 from funext h, lin_zero]
theorem look_mem : ∀ {c : Cl} {q : Fin 4 × Int}, (c.map (·.1)).Nodup → q ∈ c → kprLook c q.1 0 = q.2 := fun {c} => by
  induction c with
  | nil => exact fun _ h => absurd h List.not_mem_nil
  | cons p c ih =>
    intro q hn h
    rw [List.map_cons] at hn
    obtain ⟨hp, hn⟩ := List.nodup_cons.mp hn
    rw [kpr_look_cons]
    rcases List.mem_cons.mp h with rfl | h
    · rw [if_pos rfl]
    · rw [if_neg (fun e => hp (by rw [e]; exact List.mem_map_of_mem h)), ih hn h]
theorem entry {b : Fin 4 × Cl} {q : Fin 4 × Int} : ∀ {B : Book}, Good B → b ∈ B → q ∈ b.2 → LIN B (fun f p' => if p' = q.1 then dl b.1 f else 0) = q.2 := fun {B} => by
  induction B with
  | nil => exact fun _ h _ => absurd h List.not_mem_nil
  | cons b' B ih =>
    intro hG h hq
    have hG' : Good B := ⟨(List.nodup_cons.mp (by have := hG.1; rwa [List.map_cons] at this)).2, fun x hx => hG.2 x (List.mem_cons_of_mem _ hx)⟩
    have hnb : b'.1 ∉ B.map (·.1) := (List.nodup_cons.mp (by have := hG.1; rwa [List.map_cons] at this)).1
    have zero : ∀ {C : Book}, (∀ x ∈ C, x.1 ≠ b.1) → LIN C (fun f p' => if p' = q.1 then dl b.1 f else 0) = 0 := by
      intro C
      induction C with
      | nil => intro _; rfl
      | cons x C ih1 =>
        intro hx
        rw [LIN_cons, ih1 fun y hy => hx y (List.mem_cons_of_mem _ hy), lin_zf, Int.add_zero]
        intro y
        rw [dl, if_neg (hx x List.mem_cons_self)]
        split <;> rfl
    rw [LIN_cons]
    rcases List.mem_cons.mp h with rfl | h
    · rw [zero fun x hx e => hnb (List.mem_map.mpr ⟨x, hx, e⟩), Int.add_zero]
      rw [show (fun p' => if p' = q.1 then dl b.1 b.1 else 0) = dl q.1 from funext fun p' => by unfold dl; simp]
      rw [← lin_look q.1 (hG.2 b List.mem_cons_self), look_mem (hG.2 b List.mem_cons_self) hq]
    · rw [ih hG' h hq, lin_zf, Int.zero_add]
      intro y
      rw [dl, if_neg (fun e : b'.1 = b.1 => hnb (by rw [e]; exact List.mem_map_of_mem h))]
      split <;> rfl
theorem entry_A {R : List Row} {g : Fin 4} {b : Fin 4 × Cl} {q : Fin 4 × Int} (hb : b ∈ bookOf R g) (hq : q ∈ b.2) : q.2 = A (rowsB (bookOf R g)) q.1 b.1 := by
  rw [A_rows, entry (LIN_book R g (fun _ _ => 0)).1 hb hq]
noncomputable def Bnd (R : List Row) (M : Int) : Prop := ∀ p x, -M ≤ A R p x ∧ A R p x ≤ M
theorem mul_bnd {a b M N : Int} (ha : -M ≤ a ∧ a ≤ M) (hb : -N ≤ b ∧ b ≤ N) : -(M * N) ≤ a * b ∧ a * b ≤ M * N := by
  have hM : 0 ≤ M := by lia
  have hN : 0 ≤ N := by lia
  have h1 : (a * b).natAbs ≤ (M * N).natAbs := by
    rw [Int.natAbs_mul, Int.natAbs_mul]
    exact Nat.mul_le_mul (by lia) (by lia)
  have h2 : 0 ≤ M * N := Int.mul_nonneg hM hN
  lia
theorem bnd_over {R : List Row} {M : Int} (h : Bnd R M) (g : Fin 4) : -(3 * M) ≤ overOf R g ∧ overOf R g ≤ 3 * M := by
  rw [over_A]
  have h0 := h g 0
  have h1 := h g 1
  have h2 := h g 2
  have h3 := h g 3
  rcases fin4 g with rfl | rfl | rfl | rfl <;> simp [others] <;> lia
theorem bnd_book {R : List Row} {M : Int} (h : Bnd R M) (g : Fin 4) : Bnd (rowsB (bookOf R g)) (4 * (M * M)) := fun p x => by
  have h0 : 0 ≤ M := by have := h 0 0; lia
  have hMM : 0 ≤ M * M := Int.mul_nonneg h0 h0
  rw [A_book]
  split
  · lia
  · have h1 := mul_bnd (h p x) (bnd_over h g)
    have h2 := mul_bnd (h p g) (h g x)
    have e : M * (3 * M) = 3 * (M * M) := by rw [Int.mul_left_comm]
    lia
theorem bnd8 {ns : List Int} (hl : ns.length = 8) (hb : ∀ x ∈ ns, -400 < x ∧ x < 400) : Bnd (rowsTo ns 8) 200 := fun p x => by
  have g : ∀ k, -100 ≤ ns.getD k 0 / 4 ∧ ns.getD k 0 / 4 ≤ 100 := by
    intro k
    rw [List.getD_eq_getElem?_getD]
    cases hx : ns[k]? with
    | none => exact ⟨by decide, by decide⟩
    | some y =>
      have := hb y (List.mem_of_getElem? hx)
      simp only [Option.getD_some]
      lia
  have h1 := g p.val
  have h2 := g (p.val + 4)
  unfold A
  rw [lin8]
  unfold dl
  split <;> split <;> lia
theorem small_book {R : List Row} {M : Int} (h : Bnd R M) (hM : 4 * (M * M) < 1000000000000000) (g : Fin 4) : ∀ b ∈ bookOf R g, ∀ q ∈ b.2, Small q.2 := fun b hb q hq => by
  rw [entry_A hb hq]
  have := bnd_book h g q.1 b.1
  unfold Small
  lia
end

section
open PySem.Calls PySem.Spec PyProof.V LCg
theorem sign_mixed (even : Bool) (x : Str) (hx : x = if even then Str.ofString "AbCd" else Str.ofString "aBcD") {i : Nat} {v : Value} (h : SignAt x i v) :
    ∃ (p : Fin 4) (u : Tok), p.val = i ∧ v = .str (nm (decide ((p.val % 2 = 0) = (even = true))) p) u := by
  refine hideG fun GG hGG => ?_
  obtain ⟨c, u, hc, rfl⟩ := h
  have key : ∀ (even : Bool) (p : Fin 4), (if even then Str.ofString "AbCd" else Str.ofString "aBcD").cps[p.val]? = some ((nm (decide ((p.val % 2 = 0) = (even = true))) p).cps.getD 0 0) ∧ (⟨#[(nm (decide ((p.val % 2 = 0) = (even = true))) p).cps.getD 0 0]⟩ : Str) = nm (decide ((p.val % 2 = 0) = (even = true))) p := by decide +kernel
  have hi : i < 4 := by
    have h1 := (Array.getElem?_eq_some_iff.mp hc).1
    rw [hx] at h1
    have h2 : ∀ even : Bool, (if even then Str.ofString "AbCd" else Str.ofString "aBcD").cps.size = 4 := by decide +kernel
    rw [h2] at h1
    exact h1
  obtain ⟨k1, k2⟩ := key even ⟨i, hi⟩
  refine hGG ?_
  clear hGG GG
  rw [hx, k1] at hc
  exact ⟨⟨i, hi⟩, u, rfl, by rw [← Option.some.inj hc, k2]⟩
theorem filter8 (ns : List Int) (p : Fin 4) : ((rowsTo ns 8).filter (·.p = p)).map (fun r => txt r.f r.w) = [txt (fOf (ns.getD p.val 0)) (ns.getD p.val 0 / 4), txt (fOf (ns.getD (p.val + 4) 0)) (ns.getD (p.val + 4) 0 / 4)] := by
  rcases fin4 p with rfl | rfl | rfl | rfl <;> rfl
theorem find8 (ns : List Int) (p : Fin 4) : (rowsTo ns 8).find? (·.p = p) = some (rowOf p.val (ns.getD p.val 0)) := by
  rcases fin4 p with rfl | rfl | rfl | rfl <;> rfl
theorem strOk_txt (f : Fin 4) (w : Int) : PyData.strOk (txt f w) = true := by
  have h := plain_txt f w
  unfold PyData.strOk
  unfold plainS at h
  rw [Array.all_eq_true_iff_forall_mem]
  intro c hc
  have := List.all_eq_true.mp h c (by simpa using hc)
  unfold plainC at this
  simp at this
  simp
  lia
/-- the list of two texts that get_all gives, in the ledger -/
inductive LV (ex : List (Addr × Obj)) (ss : List Str) (v : Value) : Prop
  | mk (D : Addr) (zs : List Value) (k : Nat) (e : v = .ref D) (m : (D, W.listOf zs.toArray k) ∈ ex) (h : All2 IsS ss zs) : LV ex ss v
theorem LV.mono {n n' : List (Addr × Obj)} (h : ∀ p ∈ n, p ∈ n') {ss : List Str} {v : Value} : LV n ss v → LV n' ss v := fun k => k.rec fun D zs k a b c => .mk D zs k a (h _ b) c
noncomputable def datS (ss : List Str) : List W.Dat := ss.map .str
theorem dat_strs {n : List (Addr × Obj)} : ∀ {ss : List Str} {zs : List Value}, All2 IsS ss zs → DatAll n zs (datS ss) := fun h => by
  induction h with
  | nil => exact .nil
  | cons x _ ih =>
    obtain ⟨t, e⟩ := x
    exact e ▸ .cons (.str _ _) ih
theorem dat_lv {n : List (Addr × Obj)} {ss : List Str} {v : Value} (h : LV n ss v) : DatIn n v (.list (datS ss)) := by
  refine hideG fun GG hGG => ?_
  obtain ⟨D, zs, k, rfl, hm, hz⟩ := h
  refine hGG ?_
  clear hGG GG
  exact .list hm (dat_strs hz)
theorem dat_lvs {n : List (Addr × Obj)} : ∀ {sss : List (List Str)} {vs : List Value}, All2 (LV n) sss vs → DatAll n vs (sss.map fun ss => .list (datS ss)) := fun h => by
  induction h with
  | nil => exact .nil
  | cons h _ ih => exact .cons (dat_lv h) ih
theorem dat_ints {n : List (Addr × Obj)} : ∀ {xs : List Int} {zs : List Value}, All2 IsI xs zs → DatAll n zs (xs.map .int) := fun h => by
  induction h with
  | nil => exact .nil
  | cons x _ ih =>
    obtain ⟨t, e⟩ := x
    exact e ▸ .cons (.int _ _) ih
theorem ok_ints (xs : List Int) : ∀ d ∈ xs.map W.Dat.int, kqdOk 8 d = true := fun d hd => by
  refine hideG fun GG hGG => ?_
  obtain ⟨x, _, rfl⟩ := List.mem_map.mp hd
  refine hGG ?_
  clear hGG GG
  rfl
theorem ok_strs {ss : List Str} (h : ∀ x ∈ ss, PyData.strOk x = true) : ∀ d ∈ datS ss, kqdOk 8 d = true := fun d hd => by
  refine hideG fun GG hGG => ?_
  obtain ⟨x, hx, rfl⟩ := List.mem_map.mp hd
  refine hGG ?_
  clear hGG GG
  exact h x hx
theorem ok_strs7 {ss : List Str} (h : ∀ x ∈ ss, PyData.strOk x = true) : ∀ d ∈ datS ss, kqdOk 7 d = true := fun d hd => by
  refine hideG fun GG hGG => ?_
  obtain ⟨x, hx, rfl⟩ := List.mem_map.mp hd
  refine hGG ?_
  clear hGG GG
  exact h x hx
theorem ok_lists {sss : List (List Str)} (h : ∀ ss ∈ sss, ∀ x ∈ ss, PyData.strOk x = true) : ∀ d ∈ sss.map (fun ss => W.Dat.list (datS ss)), kqdOk 8 d = true := fun d hd => by
  refine hideG fun GG hGG => ?_
  obtain ⟨ss, hs, rfl⟩ := List.mem_map.mp hd
  refine hGG ?_
  clear hGG GG
  exact List.all_eq_true.mpr (ok_strs7 (h ss hs))
/-- the pairs of texts by place -/
noncomputable def pairT (ns : List Int) (p : Nat) : List Str := [txt (fOf (ns.getD p 0)) (ns.getD p 0 / 4), txt (fOf (ns.getD (p + 4) 0)) (ns.getD (p + 4) 0 / 4)]
theorem pairT_ok (ns : List Int) (p : Nat) : ∀ x ∈ pairT ns p, PyData.strOk x = true := fun x hx => by
  simp only [pairT, List.mem_cons, List.not_mem_nil, or_false] at hx
  rcases hx with rfl | rfl <;> exact strOk_txt _ _
theorem off3_ins {I C D X : Addr} {o : Obj} {a b : List (Addr × Obj)} (h : Off3 I C D b) (hX : X ≠ I ∧ X ≠ C ∧ X ≠ D) (hs : ∀ p ∈ a, p ∈ (X, o) :: b) : Off3 I C D a := Off3.of fun p hp => by
  rcases List.mem_cons.mp (hs p hp) with rfl | h1
  · exact hX
  · exact h.mem p h1
theorem all2_getD {α : Type} {R : α → Value → Prop} (d : α) : ∀ {as : List α} {vs : List Value} {i : Nat}, All2 R as vs → i < as.length → ∃ v, vs[i]? = some v ∧ R (as.getD i d) v := fun {as vs i} k => by
  induction k generalizing i with
  | nil => exact fun h => absurd h (Nat.not_lt_zero _)
  | cons x _ ih =>
    cases i with
    | zero => exact fun _ => ⟨_, rfl, x⟩
    | succ i => exact fun h => ih (i := i) (Nat.lt_of_succ_lt_succ h)
open Classical in
theorem ne_same {d e : List W.Dat} (h : d = e) : (!decide (d = e)) = false := by simp [h]
open Classical in
theorem eq_same {d e : List W.Dat} (h : d = e) : decide (d = e) = true := by simp [h]
theorem strs_map {f : Nat → Str} : ∀ {ps : List Nat} {ys : List Value}, All2 (fun p v => IsS (f p) v) ps ys → All2 IsS (ps.map f) ys := fun h => All2.mapl h
theorem strs_take {nums : List Int} {ysT : List Value} (hl : nums.length = 8) (h : All2 (fun x v => IsS (txt (fOf x) (x / 4)) v) nums ysT) : All2 IsS ((List.range 4).map fun p => txt (fOf (nums.getD p 0)) (nums.getD p 0 / 4)) (ysT.take 4) := by
  have key : ∀ {k n : Nat} {xs : List Int} {vs : List Value}, k ≤ xs.length → All2 (fun x v => IsS (txt (fOf x) (x / 4)) v) xs vs → All2 (fun p v => IsS (txt (fOf (xs.getD p 0)) (xs.getD p 0 / 4)) v) (List.range k) (vs.take k) := by
    intro k n xs vs
    induction k with
    | zero => exact fun _ _ => .nil
    | succ k ih =>
      intro hk h
      refine hideG fun GG hGG => ?_
      obtain ⟨v, hv, hr⟩ := all2_getD (i := k) 0 h hk
      refine hGG ?_
      clear hGG GG
      rw [List.range_succ, List.take_add_one, hv, Option.toList_some]
      exact All2.snoc (ih (Nat.le_of_lt hk) h) hr
  exact All2.mapl (key (n := 0) (by rw [hl]; decide) h)
theorem ok_txts (nums : List Int) : ∀ x ∈ (List.range 4).map (fun p => txt (fOf (nums.getD p 0)) (nums.getD p 0 / 4)), PyData.strOk x = true := fun x hx => by
  refine hideG fun GG hGG => ?_
  obtain ⟨p, _, rfl⟩ := List.mem_map.mp hx
  refine hGG ?_
  clear hGG GG
  exact strOk_txt _ _
theorem pick_upto4 {ys : List Value} (h : ys.length = 8) : kms_pick ys.toArray.toList none (some 4) = ys.take 4 := by
  unfold kms_pick kms_lo kms_hi
  simp [h]
section
open LCg LCt LCp
variable {prog : Program} {w : World} {A : Around} {E : Value → Shared → Prop} {s : Shared} {h₀ : Heap} {L : Addr} {m : Str → Option Value} {env : Env}
/-- a block with a test over range(4) whose turns leave the ledger as it is -/
theorem restT_r4 (test : _root_.Fin 4 → Bool)
    {ct elt : PySem.Expr} {x : Str} {scope : Scope} {cl : List (Str × Addr)} {S : List (Addr × Obj) → Prop} {Fin : List Value → List (Addr × Obj) → Prop} {news : List (Addr × Obj)} (hS : S news)
    (turn : ∀ (p : _root_.Fin 4) t ys, ∀ I oI C oC D m₂ h tk (E' : Value → Shared → Prop), NsObj oC m₂ → m₂ x = some (.int (0 + (p.val : Int)) t) → Fr h₀ L h m → News h₀ L h ((I, oI) :: (C, oC) :: (D, lst ys) :: news) → Off3 I C D news → ((@Ne Nat I C) ∧ (@Ne Nat I D) ∧ (@Ne Nat C D)) →
      wpAny (model prog w) A (isTrue ct (compEnvC scope cl C env) (eval ct (compEnvC scope cl C env))) (fun ok s' => ok = test p ∧ SameLed h₀ L m s ((I, oI) :: (C, oC) :: (D, lst ys) :: news) s') E' { s with heap := h, toks := tk })
    (elm : ∀ (p : _root_.Fin 4) t ys, ∀ I oI C oC D m₂ h tk (E' : Value → Shared → Prop), NsObj oC m₂ → m₂ x = some (.int (0 + (p.val : Int)) t) → Fr h₀ L h m → News h₀ L h ((I, oI) :: (C, oC) :: (D, lst ys) :: news) → Off3 I C D news → ((@Ne Nat I C) ∧ (@Ne Nat I D) ∧ (@Ne Nat C D)) →
        wpAny (model prog w) A (eval elt (compEnvC scope cl C env)) (fun y s' => IsI (p.val : Int) y ∧ SameLed h₀ L m s ((I, oI) :: (C, oC) :: (D, lst ys) :: news) s') E' { s with heap := h, toks := tk })
    (fin : ∀ ys, All2 (fun p v => IsI ((p : _root_.Fin 4).val : Int) v) (([0, 1, 2, 3] : List (_root_.Fin 4)).filter test) ys → Fin ys news) :
    CompRestT prog w A h₀ L m env ct elt x scope cl s S (fun i v => ∃ t, v = .int (0 + (i : Int)) t) Fin 4 0 [] news := by
  refine restT_J (n := 4) (fun i ys news' => news' = news ∧ All2 (fun p v => IsI ((p : _root_.Fin 4).val : Int) v) ((([0, 1, 2, 3] : List (_root_.Fin 4)).take i).filter test) ys) ?_ ?_ _ _ _ _ (by simp) ⟨rfl, by rw [List.take_zero]; exact All2.nil⟩
  · rintro i v ys news' hi ⟨t, rfl⟩ ⟨rfl, hJ⟩ I oI C oC D m₂ h tk E' a1 a2 a3 a4 a5 a6
    obtain ⟨p, rfl⟩ : ∃ p : _root_.Fin 4, p.val = i := ⟨⟨i, hi⟩, rfl⟩
    refine wpAny_mono (turn p t ys I oI C oC D m₂ h tk E' a1 a2 a3 a4 a5 a6) (fun ok s' h' => ?_) fun _ _ e => e
    refine hideG fun GG hGG => ?_
    obtain ⟨hok, h', tk', rfl, F', N'⟩ := h'
    refine hGG ?_
    clear hGG GG
    cases ok with
    | true =>
      rw [if_pos rfl]
      refine wpAny_mono (elm p t ys I oI C oC D m₂ h' tk' E' a1 a2 F' N' a5 a6) (fun y s₂ h₂ => ?_) fun _ _ e => e
      refine hideG fun GG hGG => ?_
      obtain ⟨hy, h₂, tk₂, rfl, F₂, N₂⟩ := h₂
      refine hGG ?_
      clear hGG GG
      refine ⟨h₂, tk₂, news', rfl, F₂, N₂, a5, hS, rfl, ?_⟩
      rw [take4, List.filter_append]
      simp only [List.filter_cons, ← hok, List.filter_nil, if_true]
      exact hJ.snoc hy
    | false =>
      rw [if_neg Bool.false_ne_true]
      refine ⟨h', tk', news', rfl, F', N', a5, hS, rfl, ?_⟩
      rw [take4, List.filter_append]
      simp only [List.filter_cons, ← hok, List.filter_nil, Bool.false_eq_true, if_false, List.append_nil]
      exact hJ
  · rintro ys news' ⟨rfl, hJ⟩
    exact fin ys hJ
end
theorem left2 : ∀ g s : Fin 4, s ≠ g → ∃ p0 p1 : Fin 4, (([0, 1, 2, 3] : List (Fin 4)).filter fun p => decide (p ≠ g) && decide (p ≠ s)) = [p0, p1] ∧ p0 ≠ g ∧ p0 ≠ s ∧ p1 ≠ g ∧ p1 ≠ s ∧ p0 ≠ p1 := by decide
theorem others3 : ∀ g : Fin 4, (others g).length = 3 ∧ ∀ i, i < 3 → (others g).getD i 0 ≠ g := by decide
theorem ne_fin : ∀ p g : Fin 4, ((0 + (p.val : Int)) != (g.val : Int)) = decide (p ≠ g) := by decide
theorem isI_map : ∀ {ps : List (Fin 4)} {ys : List Value}, All2 (fun p v => IsI ((p : Fin 4).val : Int) v) ps ys → All2 IsI (ps.map fun p => (p.val : Int)) ys := fun h => All2.mapl h
theorem others_get (g : Fin 4) {i : Nat} (hi : i < 3) : ((others g).map fun p => (p.val : Int)).getD i 0 = (((others g).getD i 0).val : Int) := by
  have key : ∀ (g : Fin 4) (i : Fin 3), ((others g).map fun p => (p.val : Int)).getD i.val 0 = (((others g).getD i.val 0).val : Int) := by decide
  exact key g ⟨i, hi⟩
theorem ne2_fin : ∀ p g s : Fin 4, (((p.val : Int)) != (g.val : Int)) = decide (p ≠ g) := by decide
end

section
noncomputable def wts (ns : List Int) : List Int := (List.range 4).map fun p => ns.getD p 0 / 4 + ns.getD (p + 4) 0 / 4
theorem wts_len (ns : List Int) : (wts ns).length = 4 := rfl
theorem wts_get (ns : List Int) (k : Fin 4) : (wts ns).getD k.val 0 = W1 (rowsTo ns 8) k := by
  rw [W1_8]
  rcases fin4 k with rfl | rfl | rfl | rfl <;> rfl
theorem wts_all {ns : List Int} {ys : List Value} (h : All2 (fun p v => IsI (ns.getD p 0 / 4 + ns.getD (p + 4) 0 / 4) v) (List.range 4) ys) : All2 IsI (wts ns) ys := by
  unfold wts
  generalize List.range 4 = r at h ⊢
  induction h with
  | nil => exact .nil
  | cons h _ ih => exact .cons h ih
theorem wts_bnd {ns : List Int} (hl : ns.length = 8) (hb : ∀ x ∈ ns, -400 < x ∧ x < 400) (k : Fin 4) : -200 ≤ W1 (rowsTo ns 8) k ∧ W1 (rowsTo ns 8) k ≤ 200 := by
  rw [W1_8]
  have g : ∀ k, -100 ≤ ns.getD k 0 / 4 ∧ ns.getD k 0 / 4 ≤ 100 := by
    intro k
    rw [List.getD_eq_getElem?_getD]
    cases hx : ns[k]? with
    | none => exact ⟨by decide, by decide⟩
    | some x =>
      have := hb x (List.mem_of_getElem? hx)
      simp only [Option.getD_some]
      lia
  have h1 := g k.val
  have h2 := g (k.val + 4)
  lia
theorem isI_mapf {α : Type} {f : α → Int} : ∀ {ps : List α} {ys : List Value}, All2 (fun p v => IsI (f p) v) ps ys → All2 IsI (ps.map f) ys := fun h => All2.mapl h
theorem perm3 : ∀ g s p q : Fin 4, s ≠ g → p ≠ g → p ≠ s → q ≠ g → q ≠ s → p ≠ q → ((others g).isPerm [s, p, q]) = true := by decide
theorem perm_sum {g s p q : Fin 4} (h1 : s ≠ g) (h2 : p ≠ g) (h3 : p ≠ s) (h4 : q ≠ g) (h5 : q ≠ s) (h6 : p ≠ q) (f : Fin 4 → Int) : ((others g).map f).sum = f s + f p + f q := by
  have hp := List.isPerm_iff.mp (perm3 g s p q h1 h2 h3 h4 h5 h6)
  rw [sum_perm (hp.map f)]
  simp only [List.map_cons, List.map_nil, List.sum_cons, List.sum_nil]
  lia
section
variable {ns : List Int} {g s p q : Fin 4} (h1 : s ≠ g) (h2 : p ≠ g) (h3 : p ≠ s) (h4 : q ≠ g) (h5 : q ≠ s) (h6 : p ≠ q)
include h1 h2 h3 h4 h5 h6
/-- the first check: what `once` tells of the places left and the second -/
theorem law_once : [s, p, q].map (fun k => kprLook (totalOf (bookOf (rowsTo ns 8) g)) k 0) = [s, p, q].map fun k => overOf (rowsTo ns 8) g * W1 (rowsTo ns 8) k := by
  simp only [List.map_cons, List.map_nil, once_look, if_neg h1, if_neg h2, if_neg h4]
theorem law_twice : [p, q].map (fun k => kprLook (totalOf (bookOf (rowsB (bookOf (rowsTo ns 8) g)) s)) k 0) = [p, q].map fun k => overOf (rowsB (bookOf (rowsTo ns 8) g)) s * overOf (rowsTo ns 8) g * W1 (rowsTo ns 8) k := by
  simp only [List.map_cons, List.map_nil, once_look, W1_book, if_neg h2, if_neg h3, if_neg h4, if_neg h5, Int.mul_assoc]
theorem law_sum1 : kprSum (totalOf (bookOf (rowsTo ns 8) g)) = overOf (rowsTo ns 8) g * ([s, p, q].map (W1 (rowsTo ns 8))).sum := by
  rw [once_sum, perm_sum h1 h2 h3 h4 h5 h6]
  simp only [List.map_cons, List.map_nil, List.sum_cons, List.sum_nil, Int.add_zero, Int.add_assoc]
theorem law_sum2 : kprSum (totalOf (bookOf (rowsB (bookOf (rowsTo ns 8) g)) s)) = overOf (rowsB (bookOf (rowsTo ns 8) g)) s * overOf (rowsTo ns 8) g * ([p, q].map (W1 (rowsTo ns 8))).sum := by
  rw [once_sum, perm_sum (Ne.symm h1) h3 h2 h5 h4 h6]
  simp only [List.map_cons, List.map_nil, List.sum_cons, List.sum_nil, Int.add_zero, W1_book, if_neg h2, if_neg h4, if_pos, Int.zero_add, Int.mul_assoc, Int.mul_add]
theorem law_worth (x y : Fin 4) (hx : x = p ∨ x = q) (hy : y = p ∨ y = q) :
    A (rowsB (bookOf (rowsB (bookOf (rowsTo ns 8) g)) s)) x y = overOf (rowsTo ns 8) g * worthTo ns g.val s.val x.val y.val 8 := by
  have hxg : x ≠ g := by rcases hx with rfl | rfl <;> assumption
  have hxs : x ≠ s := by rcases hx with rfl | rfl <;> assumption
  have hyg : y ≠ g := by rcases hy with rfl | rfl <;> assumption
  have hys : y ≠ s := by rcases hy with rfl | rfl <;> assumption
  rw [A_twice _ g s x y h1 hxg hxs hyg hys, worth8, forest _ g s x y h1 hyg hys]
end
/-- addresses of cells that lie apart -/
theorem up1 (n : Nat) : @Ne Nat n (n + 1) := Nat.ne_of_lt (Nat.lt_add_of_pos_right (k := 1) (by decide))
theorem up2 (n : Nat) : @Ne Nat n (n + 1 + 1) := Nat.ne_of_lt (Nat.lt_add_of_pos_right (k := 2) (by decide))
theorem up3 (n : Nat) : @Ne Nat n (n + 1 + 1 + 1) := Nat.ne_of_lt (Nat.lt_add_of_pos_right (k := 3) (by decide))
theorem up4 (n : Nat) : @Ne Nat n (n + 1 + 1 + 1 + 1) := Nat.ne_of_lt (Nat.lt_add_of_pos_right (k := 4) (by decide))
theorem up5 (n : Nat) : @Ne Nat n (n + 1 + 1 + 1 + 1 + 1) := Nat.ne_of_lt (Nat.lt_add_of_pos_right (k := 5) (by decide))
theorem tb1 {a n : Nat} (h : a < n) : @Ne Nat a (n + 1) := Nat.ne_of_lt (Nat.lt_add_right 1 h)
theorem tb2 {a n : Nat} (h : a < n) : @Ne Nat a (n + 1 + 1) := Nat.ne_of_lt (Nat.lt_add_right 2 h)
theorem tb3 {a n : Nat} (h : a < n) : @Ne Nat a (n + 1 + 1 + 1) := Nat.ne_of_lt (Nat.lt_add_right 3 h)
theorem tb4 {a n : Nat} (h : a < n) : @Ne Nat a (n + 1 + 1 + 1 + 1) := Nat.ne_of_lt (Nat.lt_add_right 4 h)
theorem tb5 {a n : Nat} (h : a < n) : @Ne Nat a (n + 1 + 1 + 1 + 1 + 1) := Nat.ne_of_lt (Nat.lt_add_right 5 h)
theorem tb6 {a n : Nat} (h : a < n) : @Ne Nat a (n + 1 + 1 + 1 + 1 + 1 + 1) := Nat.ne_of_lt (Nat.lt_add_right 6 h)
theorem tb7 {a n : Nat} (h : a < n) : @Ne Nat a (n + 1 + 1 + 1 + 1 + 1 + 1 + 1) := Nat.ne_of_lt (Nat.lt_add_right 7 h)
theorem tb8 {a n : Nat} (h : a < n) : @Ne Nat a (n + 1 + 1 + 1 + 1 + 1 + 1 + 1 + 1) := Nat.ne_of_lt (Nat.lt_add_right 8 h)
theorem tb9 {a n : Nat} (h : a < n) : @Ne Nat a (n + 1 + 1 + 1 + 1 + 1 + 1 + 1 + 1 + 1) := Nat.ne_of_lt (Nat.lt_add_right 9 h)
theorem tb10 {a n : Nat} (h : a < n) : @Ne Nat a (n + 1 + 1 + 1 + 1 + 1 + 1 + 1 + 1 + 1 + 1) := Nat.ne_of_lt (Nat.lt_add_right 10 h)
theorem tb11 {a n : Nat} (h : a < n) : @Ne Nat a (n + 1 + 1 + 1 + 1 + 1 + 1 + 1 + 1 + 1 + 1 + 1) := Nat.ne_of_lt (Nat.lt_add_right 11 h)
open PyProof.Rows in
theorem keys_ne {D : Addr} {rest : List (Addr × Obj)} : ∀ {pre : List (Addr × Obj)}, LCg.Off1 D (pre ++ rest) → ∀ a ∈ pre.map (·.1), a ≠ D := fun {pre} => by
  induction pre with
  | nil => exact fun _ _ h => absurd h List.not_mem_nil
  | cons p r ih => exact fun x => List.forall_mem_cons.mpr ⟨x.1, ih x.2⟩
theorem News.mv {h₀ h : Heap} {L : Addr} {p : Addr × Obj} {E : List (Addr × Obj)} (pre : List (Addr × Obj)) (N : News h₀ L h (p :: (pre ++ E))) : News h₀ L h (pre ++ (p :: E)) := fun q hq => N q (by
  rcases List.mem_append.mp hq with hq | hq
  · exact List.mem_cons_of_mem _ (List.mem_append_left _ hq)
  · rcases List.mem_cons.mp hq with rfl | hq
    · exact List.mem_cons_self
    · exact List.mem_cons_of_mem _ (List.mem_append_right _ hq))
end

section
/-- what _law_divided answers for a weight x over ov -/
inductive AnsV (ext : List (Addr × Obj)) (ov x : Int) (v : Value) : Prop
  | inl (h : ov = 0) (e : v = .none) : AnsV ext ov x v
  | inr (h : ov ≠ 0) (T : Addr) (t1 t2 : Tok) (e : v = .ref T) (m : (T, ({ cls := .type "tuple", data := .seq #[.int (x.fdiv ov) t1, .int (x.fmod ov) t2] } : Obj)) ∈ ext) : AnsV ext ov x v
theorem AnsV.mono {ext ext' : List (Addr × Obj)} {ov x : Int} {v : Value} (hs : ∀ p ∈ ext, p ∈ ext') : AnsV ext ov x v → AnsV ext' ov x v := fun k => k.rec .inl fun h T t1 t2 e hm => .inr h T t1 t2 e (hs _ hm)
noncomputable abbrev four (p0 p1 : Fin 4) : List (Fin 4 × Fin 4) := [(p0, p0), (p0, p1), (p1, p0), (p1, p1)]
theorem ans_none {f : Fin 4 × Fin 4 → Int} {ext : List (Addr × Obj)} : ∀ {l : List (Fin 4 × Fin 4)} {ys : List Value}, All2 (fun pq v => AnsV ext 0 (f pq) v) l ys → DatAll [] ys (l.map fun _ => W.Dat.none) := fun k => by
  induction k with
  | nil => exact .nil
  | cons h _ ih =>
    rcases h with ⟨_, e⟩ | ⟨h, _⟩
    · exact e ▸ .cons .none ih
    · exact absurd rfl h
theorem ans_some {f : Fin 4 × Fin 4 → Int} {ov : Int} (h0 : ov ≠ 0) {ext : List (Addr × Obj)} : ∀ {l : List (Fin 4 × Fin 4)} {ys : List Value}, All2 (fun pq v => AnsV ext ov (f pq) v) l ys → DatAll ext ys (l.map fun pq => W.Dat.tuple [.int ((f pq).fdiv ov), .int ((f pq).fmod ov)])
  := fun k => by
  induction k with
  | nil => exact .nil
  | cons h _ ih =>
    rcases h with ⟨h, _⟩ | ⟨_, T, t1, t2, e, hm⟩
    · exact absurd h h0
    · exact e ▸ .cons (.tuple (vs := [_, _]) hm (.cons (.int _ _) (.cons (.int _ _) .nil))) ih
theorem ok_none (l : List (Fin 4 × Fin 4)) : ∀ d ∈ l.map fun _ => W.Dat.none, kqdOk 8 d = true := fun d hd => by
  refine hideG fun GG hGG => ?_
  obtain ⟨_, _, rfl⟩ := List.mem_map.mp hd
  refine hGG ?_
  clear hGG GG
  rfl
theorem ok_two (l : List (Fin 4 × Fin 4)) (f g : Fin 4 × Fin 4 → Int) : ∀ d ∈ l.map fun pq => W.Dat.tuple [.int (f pq), .int (g pq)], kqdOk 8 d = true := fun d hd => by
  refine hideG fun GG hGG => ?_
  obtain ⟨_, _, rfl⟩ := List.mem_map.mp hd
  refine hGG ?_
  clear hGG GG
  rfl
/-- the tuple (worth, 0) -/
inductive WorV (ext : List (Addr × Obj)) (x : Int) (v : Value) : Prop
  | mk (T : Addr) (n : Nat) (t1 t2 : Tok) (e : v = .ref T) (m : (T, ({ cls := .type "tuple", data := .seq #[.int x t1, .int 0 t2] n } : Obj)) ∈ ext) : WorV ext x v
theorem WorV.mono {ext ext' : List (Addr × Obj)} {x : Int} {v : Value} (hs : ∀ p ∈ ext, p ∈ ext') : WorV ext x v → WorV ext' x v := fun k => k.rec fun T n t1 t2 e hm => .mk T n t1 t2 e (hs _ hm)
theorem wor_some {f : Fin 4 × Fin 4 → Int} {ext : List (Addr × Obj)} : ∀ {l : List (Fin 4 × Fin 4)} {ys : List Value}, All2 (fun pq v => WorV ext (f pq) v) l ys → DatAll ext ys (l.map fun pq => W.Dat.tuple [.int (f pq), .int 0])
  := fun k => by
  induction k with
  | nil => exact .nil
  | cons h _ ih =>
    refine hideG fun GG hGG => ?_
    obtain ⟨T, n, t1, t2, e, hm⟩ := h
    refine hGG ?_
    clear hGG GG
    exact e ▸ .cons (.tuple (vs := [_, _]) hm (.cons (.int _ _) (.cons (.int _ _) .nil))) ih
section
variable {ns : List Int} {g s p q : Fin 4} (h1 : s ≠ g) (h2 : p ≠ g) (h3 : p ≠ s) (h4 : q ≠ g) (h5 : q ≠ s) (h6 : p ≠ q)
include h1 h2 h3 h4 h5 h6
theorem law_last (h0 : overOf (rowsTo ns 8) g ≠ 0) : ((four p q).map fun pq => W.Dat.tuple [.int ((A (rowsB (bookOf (rowsB (bookOf (rowsTo ns 8) g)) s)) pq.1 pq.2).fdiv (overOf (rowsTo ns 8) g)), .int ((A (rowsB (bookOf (rowsB (bookOf (rowsTo ns 8) g)) s)) pq.1 pq.2).fmod (overOf (rowsTo ns 8) g))])
    = (four p q).map fun pq => W.Dat.tuple [.int (worthTo ns g.val s.val pq.1.val pq.2.val 8), .int 0] := by
  simp only [List.map_cons, List.map_nil]
  rw [law_worth h1 h2 h3 h4 h5 h6 p p (.inl rfl) (.inl rfl), law_worth h1 h2 h3 h4 h5 h6 p q (.inl rfl) (.inr rfl), law_worth h1 h2 h3 h4 h5 h6 q p (.inr rfl) (.inl rfl), law_worth h1 h2 h3 h4 h5 h6 q q (.inr rfl) (.inr rfl)]
  simp only [Int.mul_fdiv_cancel_left _ h0, Int.mul_fmod_right]
end
theorem grown_tab {h₀ h : Heap} {L P : Addr} {o : Obj} {news led : List (Addr × Obj)} {line col : Int} {qual : Str} (N : News h₀ L h news) (hm : (P, o) ∈ news) (T : TabOk line col qual o led) : GrownAt P h := by
  rcases T with rfl | ⟨cN, oC, vs, t, rfl, _⟩
  · exact GrownAt.of N hm
  · exact GrownAt.of N hm
theorem law_nr (ns : List Int) : ∀ (ct : ExcName × WTm), ct ∈ PySem.Challenge.rw_pm0082_01.row.raises → WTm.holds PySem.Challenge.rw_pm0082_01.row.records ct.snd { args := [ofPy (PyData.list (List.map PyData.int ns))] } = false := by
  wrow_none_raised
theorem law_post (ns : List Int) : PySem.Challenge.rw_pm0082_01.row.claim.post [ofPy (PyData.list (List.map PyData.int ns))] (WData.bool true) [ofPy (PyData.list (List.map PyData.int ns))] = true := by
  wrow_post
end

section
set_option maxRecDepth 100000 in
set_option maxHeartbeats 8000000 in
theorem c_conv : ∀ {w : World} {mean : ExcName → Option Value} {mg mb : Str → Option Value} {p : Program} {loose : List Str} {dp un : Nat} {gd : Option (List Code)} {cn : Str} {cs : Scope} {a : Addr} {ccd : Value} {cl : List (Str × Addr)} {outer : List Env} {A₀ : Around} {base h₀ : Heap} {L : Addr} {m : Str → Option Value} {s : Shared} {Q E : Value → Shared → Prop} (B : Below A₀ base outer h₀) (F : Fr h₀ L s.heap m) (X : (K w.params).In h₀) (T : Top p loose mean mg mb h₀) (hk : cs.kind = .function)
  (news : List (Addr × Obj)) (N : News h₀ L s.heap news) (hd : dp + 10 < recursionLimit) (hu : un + 80 < cLine)
  (nm : Bool) (x : Str) (tx : Tok) (sv : Value) (hx : plainS x = true)
  (hret : ∀ h' tk', Fr h₀ L h' m → News h₀ L h' news → Q (.str x tx) { s with heap := h', toks := tk' }),
  wpAny (model PySem.Challenge.rw_pm0082_01.row.toRowW.prog w) (ktrTop dp un gd cn cs L a ccd cl outer) (call (.ref 83) [sv, .str x tx] [(Str.ofString "name", .bool nm)]) Q E s := by
  w_top off
  have in_c1 := Tag.mk
  k_with "getMethod ref" => (guard_hyp in_c1; (k_here; (with_reducible show wpAny _ _ (getMethod (Value.ref _) (Str.ofString "search") _) _ _ _); k_dflt (refine' getMethod_searchK ?z6k1 ?z6k2 ?z6k3 ?_; (case z6k1 => k_asm); (case z6k2 => k_asm); (case z6k3 => k_is); k_whole)))
  k_with "call builtin:re.Pattern.search" => (guard_hyp in_c1; (k_here; k_dflt (refine' call_searchK ?z7k1 ?z7k2 ?z7k3 ?z7k4 ?z7k5 ?z7k6 ?z7k7 ?z7k8 ?z7k9 ?_; (case z7k1 => k_asm); (case z7k2 => k_asm); (case z7k3 => k_is); (case z7k4 => rfl); (case z7k5 => rfl); (case z7k6 => rfl); (case z7k7 => k_is); (case z7k8 => first | exact Or.inl (by kernel_rfl!) | exact Or.inr (by kernel_rfl!)); (case z7k9 => assumption); k_whole)))
  k_fill
  intro w mean mg mb p loose dp un gd cn cs a ccd cl outer A₀ base h₀ L m s Q E B F X T hk news N hd hu nm x tx sv hx hret
  refine wpAny_call ?_
  k_dflt (refine' code_def ?k1 ?k2 ?k3 ?k4 ?k5 ?kA ?kF ?kK ?k6 ?k7 ?k8 ?k9 ?kB ?_ ?c2 ?c3 ?c4 ?c5; (case kA => exact rfl); (case kF => exact rfl); (case kK => assumption); (case k1 => k_asm); (case k2 => k_asm); (case k3 => k_asm); (case k4 => k_asm); (case k5 => k_asm); (case k6 => k_is); (case k7 => k_is); (case k8 => ktr_room); (case k9 => first | exact BindsTo.of_eq rfl | exact binds_K (by k_in) rfl (by k_is) rfl rfl rfl); (case c5 => decide); (case kB => exact locs rfl); (case c2 => exact rfl); (case c3 => exact rfl); (case c4 => exact rfl); k_whole; intro g' L' h' FG' F' N' B' X' T'; (refine letF F' ?_); (clear F'); (intro mF F'); (try kfm_turns); (try k_lift B'); (try k_fold); (refine letA ?_); (intro A9))
  k_steps
  all_goals exact hret _ _ (by k_asm) (by k_asm)
end

theorem lines1 : True := by
  k_with "call ref" => (k_here; (with_reducible show wpAny _ _ (call (Value.ref 83) _ _) _ _ _); k_dflt (refine' c_conv ?z8k1 ?z8k2 ?z8k3 ?z8k4 ?z8k5 _ ?z8k6 ?z8k7 ?z8k8 _ _ _ _ ?z8k9 ?_; (case z8k1 => k_asm); (case z8k2 => k_asm); (case z8k3 => k_asm); (case z8k4 => k_asm); (case z8k5 => first | exact rfl | assumption); (case z8k6 => k_asm); (case z8k7 => ktr_room); (case z8k8 => ktr_units); (case z8k9 => first | assumption | (decide +kernel)); k_whole); intro _ _ _ _; (try kfm_turns))
  exact True.intro

section
set_option maxRecDepth 100000 in
set_option maxHeartbeats 1000000 in
theorem c_count : ∀ {w : World} {mean : ExcName → Option Value} {mg mb : Str → Option Value} {p : Program} {loose : List Str} {dp un : Nat} {gd : Option (List Code)} {cn : Str} {cs : Scope} {a : Addr} {ccd : Value} {cl : List (Str × Addr)} {outer : List Env} {A₀ : Around} {base h₀ : Heap} {L : Addr} {m : Str → Option Value} {s : Shared} {Q E : Value → Shared → Prop} (B : Below A₀ base outer h₀) (F : Fr h₀ L s.heap m) (X : (K w.params).In h₀) (T : Top p loose mean mg mb h₀) (hk : cs.kind = .function)
  (news : List (Addr × Obj)) (N : News h₀ L s.heap news) (hd : dp + 20 < recursionLimit) (hu : un + 160 < cLine)
  (dt : Addr) (ot : Obj) (ct : Cl) (hmt : (dt, ot) ∈ news) (hlt : (dt == sysModules) = false) (hDt : DK PySem.Challenge.rw_pm0082_01.row.toRowW.prog w ot ct)
  (hret : ∀ t h' tk', Fr h₀ L h' m → News h₀ L h' news → Q (.int (kprSum ct) t) { s with heap := h', toks := tk' }),
  wpAny (model PySem.Challenge.rw_pm0082_01.row.toRowW.prog w) (ktrTop dp un gd cn cs L a ccd cl outer) (call (.ref 264) [.ref dt]) Q E s := by
  w_top off
  k_fill
  intro w mean mg mb p loose dp un gd cn cs a ccd cl outer A₀ base h₀ L m s Q E B F X T hk news N hd hu dt ot ct hmt hlt hDt hret
  refine hideG fun GG hGG => ?_
  obtain ⟨kvt, hkt, hft⟩ := hDt
  obtain ⟨ept, hkdt⟩ := KdkAt.of hkt
  refine hGG ?_
  clear hGG GG
  have hlt2 := flat_len hft
  refine wpAny_call ?_
  k_dflt (refine' code_def ?k1 ?k2 ?k3 ?k4 ?k5 ?kA ?kF ?kK ?k6 ?k7 ?k8 ?k9 ?kB ?_ ?c2 ?c3 ?c4 ?c5; (case kA => exact rfl); (case kF => exact rfl); (case kK => assumption); (case k1 => k_asm); (case k2 => k_asm); (case k3 => k_asm); (case k4 => k_asm); (case k5 => k_asm); (case k6 => k_is); (case k7 => k_is); (case k8 => ktr_room); (case k9 => first | exact BindsTo.of_eq rfl | exact binds_K (by k_in) rfl (by k_is) rfl rfl rfl); (case c5 => decide); (case kB => exact locs rfl); (case c2 => exact rfl); (case c3 => exact rfl); (case c4 => exact rfl); k_whole; intro g' L' h' FG' F' N' B' X' T'; (refine letF F' ?_); (clear F'); (intro mF F'); (try kfm_turns); (try k_lift B'); (try k_fold); (refine letA ?_); (intro A9))
  k_steps
  rename_i g1 F2 N2 V0 g2 F3 N3 l1
  refine src_values (knd := PySem.strKind _ w) (kvs := kvt) (ep := ept) (DD := (· = s.drawn)) (hD := rfl) (xs := [Str.ofString "nc", Str.ofString "calls"]) (hh := rfl) (v := V0) (d := dt) (hv := ⟨_, (N3 _ List.mem_cons_self).1, rfl, rfl⟩) (fun _ _ => rfl) (by k_asm) (by k_asm)
    (J := fun i m₁ nw => ∃ t, nw = (V0, ({ cls := .type "dict_values", data := .fields #[.ref dt] } : Obj)) :: news ∧ m₁ (Str.ofString "nc") = some (.int (kprSum (ct.take i)) t)) ?hS ?h0 ?step ?hR
  case hS =>
    intro i m nw pp1
    refine hideG fun GG hGG => ?_
    obtain ⟨t, rfl, _⟩ := pp1
    refine hGG ?_
    clear hGG GG
    exact ⟨ot, by k_mem, hkdt⟩
  case h0 =>
    exact ⟨_, rfl, rfl⟩
  case step =>
    intro I gg tk2
    unfold TurnX
    intro i v ex o nw h tk dr oI E' hdr hi pp2 pp3 F5 N5 oo1 oo2
    refine hideG fun GG hGG => ?_
    obtain ⟨⟨k, hk⟩, rfl⟩ := pp2
    obtain ⟨t7, rfl, hm7⟩ := pp3
    refine hGG ?_
    clear hGG GG
    refine hideG fun GG hGG => ?_
    obtain ⟨p9, wv, t9, hc9, rfl, rfl⟩ := flat_at hft hk
    refine hGG ?_
    clear hGG GG
    dsimp only [canonL, List.foldr, List.nil_append] at F5 N5 oo1
    simp only [canonL, List.foldr, List.nil_append, if_true] at hm7
    rw [hm7] at F5
    subst hdr
    k_steps
    have es : kprSum (ct.take (i + 1)) = kprSum (ct.take i) + wv := by
      rw [List.take_add_one, hc9]
      show kprSum (ct.take i ++ [(p9, wv)]) = _
      rw [kpr_sum_append, kpr_sum_cons]
      show kprSum (ct.take i) + (wv + 0) = _
      omega
    rw [es]
    refine' ⟨_, _, _, _, _, rfl, rfl, ?f9, ?n9, oo1, ⟨?g9, _, rfl, ?e9⟩⟩
    case f9 => k_asm
    case n9 => k_asm
    case g9 => exact (by (intro y hy; first | ((repeat (first | refine agree_l hy (by k_mem) ?_ | refine agree_r hy (by k_mem) ?_)); exact rfl) | (simp only [List.mem_cons, List.not_mem_nil, or_false, not_or] at hy; simp only [hy, if_false])))
    case e9 => rfl
  case hR =>
    intro h2 tk2 dr o news' hdr F5 N5 pp4
    refine hideG fun GG hGG => ?_
    obtain ⟨t7, rfl, hm7⟩ := pp4
    refine hGG ?_
    clear hGG GG
    dsimp only [canonL, List.foldr] at F5 N5
    simp only [canonL, List.foldr, if_true] at hm7
    rw [hm7] at F5
    subst hdr
    rw [hlt2, List.take_length] at F5
    k_steps
    exact hret _ _ _ (by k_asm) (News.tl (by k_asm))
end

section
set_option maxRecDepth 100000 in
set_option maxHeartbeats 300000 in
theorem c_d2n : ∀ {w : World} {mean : ExcName → Option Value} {mg mb : Str → Option Value} {p : Program} {loose : List Str} {dp un : Nat} {gd : Option (List Code)} {cn : Str} {cs : Scope} {a : Addr} {ccd : Value} {cl : List (Str × Addr)} {outer : List Env} {A₀ : Around} {base h₀ : Heap} {L : Addr} {m : Str → Option Value} {s : Shared} {Q E : Value → Shared → Prop} (B : Below A₀ base outer h₀) (F : Fr h₀ L s.heap m) (X : (K w.params).In h₀) (T : Top p loose mean mg mb h₀) (hk : cs.kind = .function)
  (news : List (Addr × Obj)) (N : News h₀ L s.heap news) (hd : dp + 10 < recursionLimit) (hu : un + 80 < cLine)
  (x y n : Int) (t1 t2 t3 : Tok) (hx : 0 ≤ x ∧ x < 1000000000000000000) (hy : 0 < y ∧ y < 1000000) (hn : 0 ≤ n)
  (hret : ∀ T h' tk' t1 t2, Fr h₀ L h' m → News h₀ L h' ((T, { cls := .type "tuple", data := .seq #[.int (x / y) t1, .int (x % y) t2] }) :: news) → LCg.Off1 T news → Q (.ref T) { s with heap := h', toks := tk' }),
  wpAny (model PySem.Challenge.rw_pm0082_01.row.toRowW.prog w) (ktrTop dp un gd cn cs L a ccd cl outer) (call (.ref 215) [.int x t1, .int y t2, .int n t3]) Q E s := by
  w_top off
  have in_c10 := Tag.mk
  k_with "call builtin:divmod" => (guard_hyp in_c10; (k_here; k_dflt (refine' divmod_N ?z9kF ?z9kN ?z9kb ?_ ?z9kp; (case z9kF => k_asm); (case z9kN => k_asm); (case z9kb => omega); (case z9kp => exact .inl (PyProof.noPylong_small (by omega))); k_whole); intro _ _ _; (try kfm_turns)))
  k_fill
  intro w mean mg mb p loose dp un gd cn cs a ccd cl outer A₀ base h₀ L m s Q E B F X T hk news N hd hu x y n t1 t2 t3 hx hy hn hret
  have hbl : Builtin.Int.intBits x ≤ 64 := intBits_le_iff.mpr (show x.natAbs < 18446744073709551616 by omega)
  refine wpAny_call ?_
  k_dflt (refine' code_def ?k1 ?k2 ?k3 ?k4 ?k5 ?kA ?kF ?kK ?k6 ?k7 ?k8 ?k9 ?kB ?_ ?c2 ?c3 ?c4 ?c5; (case kA => exact rfl); (case kF => exact rfl); (case kK => assumption); (case k1 => k_asm); (case k2 => k_asm); (case k3 => k_asm); (case k4 => k_asm); (case k5 => k_asm); (case k6 => k_is); (case k7 => k_is); (case k8 => ktr_room); (case k9 => first | exact BindsTo.of_eq rfl | exact binds_K (by k_in) rfl (by k_is) rfl rfl rfl); (case c5 => decide); (case kB => exact locs rfl); (case c2 => exact rfl); (case c3 => exact rfl); (case c4 => exact rfl); k_whole; intro g' L' h' FG' F' N' B' X' T'; (refine letF F' ?_); (clear F'); (intro mF F'); (try kfm_turns); (try k_lift B'); (try k_fold); (refine letA ?_); (intro A9))
  k_steps
  rename News h₀ L _ (_ :: news) => N9
  rename News _ _ _ news => N8
  rename Nat => tkx
  rw [Int.fdiv_eq_ediv_of_nonneg x (by omega), Int.fmod_eq_emod_of_nonneg x (by omega)] at N9
  exact hret _ _ _ _ _ (by k_asm) N9 (off_new N8)
end

section
set_option maxRecDepth 100000 in
set_option maxHeartbeats 1000000 in
theorem c_numbers : ∀ {w : World} {mean : ExcName → Option Value} {mg mb : Str → Option Value} {p : Program} {loose : List Str} {dp un : Nat} {gd : Option (List Code)} {cn : Str} {cs : Scope} {a : Addr} {ccd : Value} {cl : List (Str × Addr)} {outer : List Env} {A₀ : Around} {base h₀ : Heap} {L : Addr} {m : Str → Option Value} {s : Shared} {Q E : Value → Shared → Prop} (B : Below A₀ base outer h₀) (F : Fr h₀ L s.heap m) (X : (K w.params).In h₀) (T : Top p loose mean mg mb h₀) (hk : cs.kind = .function)
  (news : List (Addr × Obj)) (N : News h₀ L s.heap news) (hd : dp + 20 < recursionLimit) (hu : un + 160 < cLine)
  (sl : Addr) (vs : List Value) (ns : List Int) (hsl : h₀.IsList sl vs.toArray) (hA : IntsAre vs ns) (hlen : ns.length ≤ 63)
  (hret : ∀ D h' tk' ys, Fr h₀ L h' m → News h₀ L h' ((D, LCg.lst ys) :: news) → LCg.Off1 D news → IntsAre ys (numsOf ns) → Q (.ref D) { s with heap := h', toks := tk' }),
  wpAny (model PySem.Challenge.rw_pm0082_01.row.toRowW.prog w) (ktrTop dp un gd cn cs L a ccd cl outer) (call (.ref 269) [.ref sl]) Q E s := by
  w_top off
  have in_c16 := Tag.mk
  k_with "eval ListComp" => (guard_hyp in_c16; (k_here; (with_reducible show wpAny _ _ (eval (PySem.Expr.ListComp _ [⟨_, _, [], _⟩] _ _) _) _ _ _); k_dflt (refine LCg.ListComp_U (F₀ := by k_asm) (by with_unfolding_all rfl) (by decide) (by rfl) (by decide) (by rfl) ?_)))
  k_with "exec Assign cons ListComp" => (guard_hyp in_c16; (k_here; (with_reducible show wpAny _ _ (exec (PySem.Stmt.Assign _ (PySem.Expr.ListComp _ [⟨_, _, [], _⟩] _ _) _) _) _ _ _); k_dflt (refine LCg.Assign_ListComp_U (F₀ := by k_asm) (by rfl) (by with_unfolding_all rfl) (by with_unfolding_all rfl) (by decide) (by rfl) (by decide) (by rfl) (by rfl) (by rfl) ?_)))
  k_with "subscriptTail" => (guard_hyp in_c16; (k_here; (with_reducible show wpAny _ _ (subscriptTail _ _ (Value.ref _) (Value.int _ _)) _ _ _); refine openSeal ?_))
  k_with "setItem ref int" => (guard_hyp in_c16; (k_here; refine openSeal ?_))
  k_fill
  intro w mean mg mb p loose dp un gd cn cs a ccd cl outer A₀ base h₀ L m s Q E B F X T hk news N hd hu sl vs ns hsl hA hlen hret
  have hvl : vs.length = ns.length := hA.length
  have hszv : vs.toArray.size = ns.length := by rw [List.size_toArray]; exact hA.length
  refine wpAny_call ?_
  k_dflt (refine' code_def ?k1 ?k2 ?k3 ?k4 ?k5 ?kA ?kF ?kK ?k6 ?k7 ?k8 ?k9 ?kB ?_ ?c2 ?c3 ?c4 ?c5; (case kA => exact rfl); (case kF => exact rfl); (case kK => assumption); (case k1 => k_asm); (case k2 => k_asm); (case k3 => k_asm); (case k4 => k_asm); (case k5 => k_asm); (case k6 => k_is); (case k7 => k_is); (case k8 => ktr_room); (case k9 => first | exact BindsTo.of_eq rfl | exact binds_K (by k_in) rfl (by k_is) rfl rfl rfl); (case c5 => decide); (case kB => exact locs rfl); (case c2 => exact rfl); (case c3 => exact rfl); (case c4 => exact rfl); k_whole; intro g' L' h' FG' F' N' B' X' T'; (refine letF F' ?_); (clear F'); (intro mF F'); (try kfm_turns); (try k_lift B'); (try k_fold); (refine letA ?_); (intro A9))
  have hsl' : g'.IsList sl vs.toArray := by
    refine hideG fun GG hGG => ?_
    obtain ⟨o, e, r⟩ := hsl
    refine hGG ?_
    clear hGG GG
    exact ⟨o, FG'.keep _ _ e, r⟩
  k_steps
  rename_i l0 g1 l1 g2 F2 g3 tkx F3 N3 g4 tky r1 r2 r3 hrg F4 N4 hkeep
  have e8 : (if (ns.length : Int) < 8 then (ns.length : Int) else 8) = ((min 8 ns.length : Nat) : Int) := by split <;> omega
  rw [e8] at hrg
  refine src_range (n := min 8 ns.length) (DD := (· = s.drawn)) (hD := rfl) (xs := [Str.ofString "k"]) (hh := rfl) (fun _ _ => rfl) F4 N4 hrg ?hsm ?hrs
    (J := fun i m₁ nw => Ex2 fun b kk => Co2 (nw = (l0, W.listOf (List.toArray b) kk) :: news) (IntsAre b (adds ns i))) ?h0 ?step ?hR
  case hsm => exact (range9 ⟨min 8 ns.length, by omega⟩).1
  case hrs => exact (range9 ⟨min 8 ns.length, by omega⟩).2
  case h0 =>
    exact ⟨_, _, rfl, .cons _ _ (.cons _ _ (.cons _ _ (.cons _ _ (.cons _ _ (.cons _ _ (.cons _ _ (.cons _ _ .nil)))))))⟩
  case step =>
    intro I gg tk2
    unfold TurnX
    intro i v ex o nw h tk dr oI E' hdr hi pp1 pp2 F5 N5 oo1 oo2
    refine hideG fun GG hGG => ?_
    obtain ⟨⟨ti, rfl⟩, rfl⟩ := pp1
    obtain ⟨b, kk, rfl, hbi⟩ := pp2
    dsimp only [canonL, List.foldr, List.nil_append] at F5 N5 oo1
    refine hGG ?_
    clear hGG GG
    rw [Int.zero_add]
    subst hdr
    have hal := adds_len ns i
    have hbl := hbi.length
    obtain ⟨hI1, hI2⟩ := oo1
    dsimp only at hI1
    k_steps
    unfold Sealed
    refine ksa_set (vs := b) (by k_asm) (by k_asm) (by k_upd) hbi (by omega) (by omega) (by omega) ?_
    intro h9 F9 N9 hb9 _ _
    rw [Int.toNat_natCast] at hb9 N9
    (try dsimp only at N9)
    k_steps
    exact ⟨_, _, _, _, _, rfl, rfl, by k_asm, N9, ⟨hI1, hI2⟩, ⟨by (intro y hy; first | ((repeat (first | refine agree_l hy (by k_mem) ?_ | refine agree_r hy (by k_mem) ?_)); exact rfl) | (simp only [List.mem_cons, List.not_mem_nil, or_false, not_or] at hy; simp only [hy, if_false])), _, _, rfl, hb9⟩⟩
  case hR =>
    intro h2 tk2 dr o news' hdr F5 N5 pp3
    refine hideG fun GG hGG => ?_
    obtain ⟨b, kk, rfl, hbi⟩ := pp3
    dsimp only [canonL, List.foldr] at F5 N5
    refine hGG ?_
    clear hGG GG
    subst hdr
    k_steps
    have hal := adds_len ns (min 8 ns.length)
    have hbl := hbi.length
    k_dflt (refine LCg.CompSrc.ledger (by rfl) (by k_asm) (by k_asm) (by k_mem) ?_ ?_)
    · rw [List.size_toArray, hbl, hal]; decide +kernel
    intro gg
    refine restU_same (RR := IsI) (RS := IsI) (as := adds ns (min 8 ns.length)) red (all2_of hbi) (.inr ⟨_, by k_mem, rfl, _, rfl⟩) ?_ ?_
    · intro x v ys pp4 I oI C oC D m₂ h tk E' a1 a2 a3 a4 a5 a6
      refine hideG fun GG hGG => ?_
      obtain ⟨tx, rfl⟩ := pp4
      have hred : red x = if 0 ≤ x then x % 400 else -((-x) % 400) := rfl
      refine hGG ?_
      clear hGG GG
      k_steps
      · rw [hred, if_pos (by omega), Int.fmod_eq_emod_of_nonneg _ (by decide)]
        exact ⟨_, rfl⟩
      · exact ⟨_, _, rfl, by k_asm, by k_asm⟩
      · rw [hred, if_neg (by omega), Int.fmod_eq_emod_of_nonneg _ (by decide)]
        exact ⟨_, rfl⟩
      · exact ⟨_, _, rfl, by k_asm, by k_asm⟩
    · intro ys hys
      k_steps
      exact hret _ _ _ ys (by k_asm) (News.drop2 (by k_asm)) (by assumption) (ints_of hys)
end

section
set_option maxRecDepth 100000 in
set_option maxHeartbeats 1000000 in
theorem c_addc : ∀ {w : World} {mean : ExcName → Option Value} {mg mb : Str → Option Value} {p : Program} {loose : List Str} {dp un : Nat} {gd : Option (List Code)} {cn : Str} {cs : Scope} {a : Addr} {ccd : Value} {cl : List (Str × Addr)} {outer : List Env} {A₀ : Around} {base h₀ : Heap} {L : Addr} {m : Str → Option Value} {s : Shared} {Q E : Value → Shared → Prop} (B : Below A₀ base outer h₀) (F : Fr h₀ L s.heap m) (X : (K w.params).In h₀) (T : Top p loose mean mg mb h₀) (hk : cs.kind = .function)
  (news : List (Addr × Obj)) (N : News h₀ L s.heap news) (hd : dp + 20 < recursionLimit) (hu : un + 160 < cLine)
  (dt ds : Addr) (ot os : Obj) (ct cx : Cl) (hmt : (dt, ot) ∈ news) (hms : (ds, os) ∈ news) (hlt : (dt == sysModules) = false) (hls : (ds == sysModules) = false) (hDt : DK PySem.Challenge.rw_pm0082_01.row.toRowW.prog w ot ct) (hDs : DK PySem.Challenge.rw_pm0082_01.row.toRowW.prog w os cx) (hct : ct.length ≤ 16) (hcx : cx.length ≤ 16)
  (hret : ∀ D o h' tk', Fr h₀ L h' m → News h₀ L h' ((D, o) :: news) → LCg.Off1 D news → (D == sysModules) = false → DK PySem.Challenge.rw_pm0082_01.row.toRowW.prog w o (addAll (putAll [] ct) cx) → Q (.ref D) { s with heap := h', toks := tk' }),
  wpAny (model PySem.Challenge.rw_pm0082_01.row.toRowW.prog w) (ktrTop dp un gd cn cs L a ccd cl outer) (call (.ref 257) [.ref dt, .ref ds]) Q E s := by
  w_top off
  have in_c18 := Tag.mk
  k_with "compareOp In str ref" => (guard_hyp in_c18; (k_here; refine openSeal ?_))
  k_with "setItem ref str" => (guard_hyp in_c18; (k_here; refine openSeal ?_))
  k_with "getItem ref str" => (guard_hyp in_c18; (k_here; refine openSeal ?_))
  k_fill
  intro w mean mg mb p loose dp un gd cn cs a ccd cl outer A₀ base h₀ L m s Q E B F X T hk news N hd hu dt ds ot os ct cx hmt hms hlt hls hDt hDs hct hcx hret
  refine hideG fun GG hGG => ?_
  obtain ⟨kvt, hkt, hft⟩ := hDt
  obtain ⟨kvx, hkx, hfx⟩ := hDs
  refine hGG ?_
  clear hGG GG
  refine wpAny_call ?_
  k_dflt (refine' code_def ?k1 ?k2 ?k3 ?k4 ?k5 ?kA ?kF ?kK ?k6 ?k7 ?k8 ?k9 ?kB ?_ ?c2 ?c3 ?c4 ?c5; (case kA => exact rfl); (case kF => exact rfl); (case kK => assumption); (case k1 => k_asm); (case k2 => k_asm); (case k3 => k_asm); (case k4 => k_asm); (case k5 => k_asm); (case k6 => k_is); (case k7 => k_is); (case k8 => ktr_room); (case k9 => first | exact BindsTo.of_eq rfl | exact binds_K (by k_in) rfl (by k_is) rfl rfl rfl); (case c5 => decide); (case kB => exact locs rfl); (case c2 => exact rfl); (case c3 => exact rfl); (case c4 => exact rfl); k_whole; intro g' L' h' FG' F' N' B' X' T'; (refine letF F' ?_); (clear F'); (intro mF F'); (try kfm_turns); (try k_lift B'); (try k_fold); (refine letA ?_); (intro A9))
  k_steps
  rename_i d0 g1 o0 l1 lo0 hs0 fs0 hi0 fi0 g2 F2 N2 V0 g3 F3 N3 a1 a2
  obtain ⟨ept, hkdt⟩ := KdkAt.of hkt
  obtain ⟨epx, hkdx⟩ := KdkAt.of hkx
  have hlt2 := flat_len hft
  have hlx2 := flat_len hfx
  refine src_items (knd := PySem.strKind _ w) (kvs := kvt) (ep := ept) (DD := (· = s.drawn)) (hD := rfl) (xs := [Str.ofString "func", Str.ofString "caller"]) (hh := rfl) (v := V0) (d := dt) (hv := ⟨_, (N3 _ List.mem_cons_self).1, rfl, rfl⟩) (by k_asm) (by k_asm)
    (J := fun i m₁ nw => ∃ o, nw = (V0, ({ cls := .type "dict_items", data := .fields #[.ref dt] } : Obj)) :: (d0, o) :: news ∧ DK PySem.Challenge.rw_pm0082_01.row.toRowW.prog w o (putAll [] (ct.take i))) ?hS ?h0 ?step ?hR
  case hS =>
    intro i m nw pp1
    refine hideG fun GG hGG => ?_
    obtain ⟨o, rfl, _⟩ := pp1
    refine hGG ?_
    clear hGG GG
    exact ⟨ot, by k_mem, hkdt⟩
  case h0 =>
    refine ⟨o0, rfl, [], hs0, fs0⟩
  case step =>
    intro I gg tk2
    unfold TurnX
    intro i v ex o nw h tk dr oI E' hdr hi pp2 pp3 F5 N5 oo1 oo2
    refine hideG fun GG hGG => ?_
    obtain ⟨k, x, key, T, hk, his, rfl, rfl⟩ := pp2
    obtain ⟨o9, rfl, hDK⟩ := pp3
    obtain ⟨p9, wv, t9, hc9, rfl, rfl⟩ := flat_at hft hk
    obtain ⟨t8, rfl⟩ := Value.isStrOf_shape his
    dsimp only [canonL, List.foldr, List.singleton_append] at F5 N5 oo1
    obtain ⟨hT1, hT2, hT3⟩ := oo2 _ (List.mem_singleton.mpr rfl)
    obtain ⟨hI1, hI2, hI3, hI4⟩ := oo1
    dsimp only at hI1 hI2 hI3 hT1 hT2
    have hln : (putAll [] (ct.take i)).length ≤ 100 := by
      have h1 := putAll_len (ct.take i) []
      rw [List.length_take, List.length_nil] at h1
      omega
    refine hGG ?_
    clear hGG GG
    subst hdr
    k_steps
    unfold Sealed
    refine dk_set (by k_asm) (by k_asm) (by k_updF) hDK hln ?_
    intro h9 o9' F9 N9 hD9
    (try dsimp only at N9)
    k_steps
    refine ⟨_, _, _, _, _, rfl, rfl, by k_asm, News.drop2 N9, ⟨hI2, hI3, hI4⟩, ⟨by (intro y hy; first | ((repeat (first | refine agree_l hy (by k_mem) ?_ | refine agree_r hy (by k_mem) ?_)); exact rfl) | (simp only [List.mem_cons, List.not_mem_nil, or_false, not_or] at hy; simp only [hy, if_false])), o9', rfl, ?_⟩⟩
    rw [List.take_add_one, hc9]
    show DK _ _ _ (putAll [] (ct.take i ++ [(p9, wv)]))
    rw [putAll_snoc]
    exact hD9
  case hR =>
    intro h2 tk2 dr o news' hdr F5 N5 pp4
    refine hideG fun GG hGG => ?_
    obtain ⟨o9, rfl, hDK⟩ := pp4
    dsimp only [canonL, List.foldr] at F5 N5
    refine hGG ?_
    clear hGG GG
    subst hdr
    rw [hlt2, List.take_length] at hDK
    k_steps
    rename_i V1 g5 F6 N6 b1 b2 b3
    have hpl := putAll_len ct []
    rw [List.length_nil] at hpl
    refine src_items (knd := PySem.strKind _ w) (kvs := kvx) (ep := epx) (DD := (· = s.drawn)) (hD := rfl) (xs := [Str.ofString "func", Str.ofString "caller"]) (hh := rfl) (v := V1) (d := ds) (hv := ⟨_, (N6 _ List.mem_cons_self).1, rfl, rfl⟩) (by k_asm) (by k_asm)
      (J := fun i m₁ nw => ∃ o, nw = (V1, ({ cls := .type "dict_items", data := .fields #[.ref ds] } : Obj)) :: (V0, ({ cls := .type "dict_items", data := .fields #[.ref dt] } : Obj)) :: (d0, o) :: news ∧ DK PySem.Challenge.rw_pm0082_01.row.toRowW.prog w o (addAll (putAll [] ct) (cx.take i))) ?hS2 ?h02 ?step2 ?hR2
    case hS2 =>
      intro i m nw pp5
      refine hideG fun GG hGG => ?_
      obtain ⟨o, rfl, _⟩ := pp5
      refine hGG ?_
      clear hGG GG
      exact ⟨os, by k_mem, hkdx⟩
    case h02 =>
      exact ⟨o9, rfl, hDK⟩
    case step2 =>
      intro I gg tk2
      unfold TurnX
      intro i v ex o nw h tk dr oI E' hdr hi pp6 pp7 F5 N5 oo1 oo2
      refine hideG fun GG hGG => ?_
      obtain ⟨k, x, key, T, hk, his, rfl, rfl⟩ := pp6
      obtain ⟨o8, rfl, hDK⟩ := pp7
      obtain ⟨p9, wv, t9, hc9, rfl, rfl⟩ := flat_at hfx hk
      obtain ⟨t8, rfl⟩ := Value.isStrOf_shape his
      dsimp only [canonL, List.foldr, List.singleton_append] at F5 N5 oo1
      obtain ⟨hT1, hT2, hT3, hT4⟩ := oo2 _ (List.mem_singleton.mpr rfl)
      obtain ⟨hI1, hI2, hI3, hI4, hI5⟩ := oo1
      dsimp only at hI1 hI2 hI3 hI4 hT1 hT2 hT3
      have hln : (addAll (putAll [] ct) (cx.take i)).length ≤ 100 := by
        have h1 := addAll_len (cx.take i) (putAll [] ct)
        rw [List.length_take] at h1
        omega
      have hstep : ∀ o', DK PySem.Challenge.rw_pm0082_01.row.toRowW.prog w o' (kprPut (addAll (putAll [] ct) (cx.take i)) p9 (kprLook (addAll (putAll [] ct) (cx.take i)) p9 0 + wv)) → DK PySem.Challenge.rw_pm0082_01.row.toRowW.prog w o' (addAll (putAll [] ct) (cx.take (i + 1))) := fun o' h => by
        rw [List.take_add_one, hc9]
        show DK _ _ _ (addAll (putAll [] ct) (cx.take i ++ [(p9, wv)]))
        rw [addAll_snoc]
        exact h
      refine hGG ?_
      clear hGG GG
      subst hdr
      k_steps
      unfold Sealed
      refine dk_in (by k_asm) (by k_mem) lo0 hDK ?_
      cases hb : kprHas (addAll (putAll [] ct) (cx.take i)) p9
      · rw [kpr_look_none hb, Int.zero_add] at hstep
        k_steps
        unfold Sealed
        refine dk_set (by k_asm) (by k_asm) (by k_updF) hDK hln ?_
        intro h9 o9' F9 N9 hD9
        (try dsimp only at N9)
        k_steps
        exact ⟨_, _, _, _, _, rfl, rfl, by k_asm, News.drop2 N9, ⟨hI2, hI3, hI4, hI5⟩, ⟨by (intro y hy; first | ((repeat (first | refine agree_l hy (by k_mem) ?_ | refine agree_r hy (by k_mem) ?_)); exact rfl) | (simp only [List.mem_cons, List.not_mem_nil, or_false, not_or] at hy; simp only [hy, if_false])), o9', rfl, hstep o9' hD9⟩⟩
      · k_steps
        unfold Sealed
        refine dk_getItem (by k_asm) (by k_mem) lo0 hDK hb ?_
        intro t7
        k_steps
        unfold Sealed
        refine dk_set (by k_asm) (by k_asm) (by k_updF) hDK hln ?_
        intro h9 o9' F9 N9 hD9
        (try dsimp only at N9)
        k_steps
        exact ⟨_, _, _, _, _, rfl, rfl, by k_asm, News.drop2 N9, ⟨hI2, hI3, hI4, hI5⟩, ⟨by (intro y hy; first | ((repeat (first | refine agree_l hy (by k_mem) ?_ | refine agree_r hy (by k_mem) ?_)); exact rfl) | (simp only [List.mem_cons, List.not_mem_nil, or_false, not_or] at hy; simp only [hy, if_false])), o9', rfl, hstep o9' hD9⟩⟩
    case hR2 =>
      intro h2 tk2 dr o news' hdr F5 N5 pp8
      refine hideG fun GG hGG => ?_
      obtain ⟨o8, rfl, hDK⟩ := pp8
      dsimp only [canonL, List.foldr] at F5 N5
      refine hGG ?_
      clear hGG GG
      subst hdr
      rw [hlx2, List.take_length] at hDK
      k_steps
      refine hret d0 o8 _ _ (by k_asm) (News.tl (News.tl (by k_asm))) (off1_of fun q hq => Nat.ne_of_lt (l1 q hq)) lo0 hDK
end

section
noncomputable def KeyI (f D : Addr) (led : List (Addr × Obj)) (n : Nat) (o : Obj) : Prop :=
  ∀ (fuel : Nat) {w : World} {mean : ExcName → Option Value} {mg mb : Str → Option Value} {p : Program} {loose : List Str} {dp un : Nat} {gd : Option (List Code)} {cn : Str} {cs : Scope} {a : Addr} {ccd : Value} {cl : List (Str × Addr)} {outer : List Env} {A₀ : Around} {base h₀ : Heap} {L : Addr} {m : Str → Option Value} {s : Shared} {Q E : Value → Shared → Prop} (B : Below A₀ base outer h₀) (F : Fr h₀ L s.heap m) (X : (K w.params).In h₀) (T : Top p loose mean mg mb h₀) (hk : cs.kind = .function) (pre old post : List Value) (kk : Nat) (N : News h₀ L s.heap ((D, W.listOf (pre ++ old ++ post).toArray kk) :: (f, o) :: led)) (x : Int) (t1 t2 t3 : Tok) (b1 b2 : Int) (hb1 : b1 = pre.length) (hb2 : b2 = pre.length + old.length)
    (hfu : old.length ≤ fuel) (h1 : 1 ≤ old.length) (hx : 0 ≤ x ∧ x < (2 ^ n) ^ old.length) (hx2 : Small x) (hlen : pre.length + old.length + post.length ≤ 64)
    (hd : dp + fuel + 10 < recursionLimit) (hu : un + 80 * fuel + 160 < cLine)
    (hret : ∀ h' tk' new ds kk', new.length = old.length → All2 IsI ds new → Digs n ds x → Fr h₀ L h' m → News h₀ L h' ((D, W.listOf (pre ++ new ++ post).toArray kk') :: (f, o) :: led) → Q .none { s with heap := h', toks := tk' }),
    wpAny (model PySem.Challenge.rw_pm0082_01.row.toRowW.prog w) (ktrTop dp un gd cn cs L a ccd cl outer) (call (.ref f) [.int x t1, .int b1 t2, .int b2 t3]) Q E s

set_option maxRecDepth 100000 in
set_option maxHeartbeats 1000000 in
theorem c_i2d : ∀ {w : World} {mean : ExcName → Option Value} {mg mb : Str → Option Value} {p : Program} {loose : List Str} {dp un : Nat} {gd : Option (List Code)} {cn : Str} {cs : Scope} {a : Addr} {ccd : Value} {cl : List (Str × Addr)} {outer : List Env} {A₀ : Around} {base h₀ : Heap} {L : Addr} {m : Str → Option Value} {s : Shared} {Q E : Value → Shared → Prop} (B : Below A₀ base outer h₀) (F : Fr h₀ L s.heap m) (X : (K w.params).In h₀) (T : Top p loose mean mg mb h₀) (hk : cs.kind = .function) (C2 : CodeHd base 228 224)
  (news : List (Addr × Obj)) (N : News h₀ L s.heap news) (hd : dp + 100 < recursionLimit) (hu : un + 5500 < cLine)
  (o1 : Obj) (rest0 : List (Addr × Obj)) (e0 : news = (224, o1) :: rest0) (hoff : LCg.Off1 224 rest0) (tt : List (Addr × Obj)) (hts : ∀ p ∈ tt, p ∈ rest0) (T1 : TabOk 185 4 "_int2digits.<locals>.inner" o1 tt)
  (x : Int) (n : Nat) (t1 t2 : Tok) (hx : 0 ≤ x ∧ Small x) (hn : 1 ≤ n ∧ n ≤ 20)
  (hret : ∀ D h' tk' o1' ext ys k ds, All2 IsI ds ys.toList → Digs n ds x → ys.size ≤ 50 → Fr h₀ L h' m → News h₀ L h' ((D, W.listOf ys k) :: (ext ++ (224, o1') :: rest0)) → LCg.Off1 D ((224, o1) :: (ext ++ rest0)) → (∀ q ∈ ext, LCg.Off1 q.1 ((224, o1) :: rest0)) → TabOk 185 4 "_int2digits.<locals>.inner" o1' (ext ++ tt) → Q (.ref D) { s with heap := h', toks := tk' }),
  wpAny (model PySem.Challenge.rw_pm0082_01.row.toRowW.prog w) (ktrTop dp un gd cn cs L a ccd cl outer) (call (.ref 229) [.int x t1, .int n t2]) Q E s := by
  w_top off
  have in_c11 := Tag.mk
  k_with "call ref" => (guard_hyp in_c11; (k_here; refine openSeal ?_))
  k_with "exec FunctionDef" => (guard_hyp in_c11; (k_here; kn_here; k_dflt (refine' nestDef_K ?z10d0 ?z10k0 ?z10a0 ?_; (case z10d0 => exact rfl); (case z10k0 => exact rfl); (case z10a0 => exact rfl)); refine openSeal ?_))
  k_with "binaryOp RShift int int" => (guard_hyp in_c11; (k_here; refine openSeal ?_))
  k_with "binaryOp LShift int int" => (guard_hyp in_c11; (k_here; refine openSeal ?_))
  k_with "binaryOp BitXor int int" => (guard_hyp in_c11; (k_here; refine openSeal ?_))
  k_with "setItem ref int" => (guard_hyp in_c11; (k_here; refine openSeal ?_))
  k_fill
  intro w mean mg mb p loose dp un gd cn cs a ccd cl outer A₀ base h₀ L m s Q E B F X T hk C2 news N hd hu o1 rest0 e0 hoff tt hts T1 x n t1 t2 hx hn hret
  subst e0
  have hbl : Builtin.Int.intBits x ≤ 50 := intBits_le_iff.mpr (show x.natAbs < 1125899906842624 by unfold Small at hx; (revert hx; kjx_bare; omega))
  refine hideG fun GG hGG => ?_
  obtain ⟨c9, hc9, hc50, hcb⟩ : ∃ c : Nat, ((Builtin.Int.intBits x : Int) + n - 1).fdiv n = (c : Int) ∧ c ≤ 50 ∧ Builtin.Int.intBits x ≤ n * c := by
    rw [Int.fdiv_eq_ediv_of_nonneg _ (Int.natCast_nonneg n)]
    have h0 : 0 ≤ ((Builtin.Int.intBits x : Int) + n - 1) / n := Int.ediv_nonneg (by (revert hn hbl; kjx_bare; omega)) (Int.natCast_nonneg n)
    obtain ⟨q, hq⟩ := Int.eq_ofNat_of_zero_le h0
    have h1 : ((Builtin.Int.intBits x : Int) + n - 1) / n < 51 := Int.ediv_lt_of_lt_mul (Int.natCast_pos.mpr hn.1) (by (revert hn hbl; kjx_bare; omega))
    have h2 := Int.mul_ediv_add_emod ((Builtin.Int.intBits x : Int) + n - 1) n
    have h3 := Int.emod_lt_of_pos ((Builtin.Int.intBits x : Int) + n - 1) (Int.natCast_pos.mpr hn.1)
    rw [hq] at h2 h1
    refine ⟨q, hq, by (revert h0 hq h1; kjx_bare; omega), ?_⟩
    have h4 : ((n * q : Nat) : Int) = (n : Int) * (q : Int) := Int.natCast_mul n q
    (revert h2 h3; kjx_bare; omega)
  refine hGG ?_
  clear hGG GG
  have hxp : x < (2 ^ n) ^ c9 := by
    have h := intBits_le_iff.mp hcb
    rw [← Int.pow_mul]
    have e : ((2 ^ (n * c9) : Nat) : Int) = 2 ^ (n * c9) := Int.natCast_pow 2 _
    (revert hx h e; kjx_bare; omega)
  refine wpAny_call ?_
  k_dflt (refine' code_defC ?k1 ?k2 ?k3 ?k4 ?k5 ?kA ?kF ?kK ?k6 ?k7 ?k8 ?k9 ?kB ?kD ?_ ?c2 ?c3 ?c4; (case kA => exact rfl); (case kF => exact rfl); (case kK => assumption); (case k1 => k_asm); (case k2 => k_asm); (case k3 => k_asm); (case k4 => k_asm); (case k5 => k_asm); (case k6 => k_is); (case k7 => k_is); (case k8 => ktr_room); (case k9 => first | exact BindsTo.of_eq rfl | exact binds_K (by k_in) rfl (by k_is) rfl rfl rfl); (case kB => exact rfl); (case kD => decide +kernel); (case c2 => exact rfl); (case c3 => exact rfl); (case c4 => exact rfl); k_whole; intro g' L' h' tk' cells' FG' F' N' Y' B' X' T' l1; (refine letF F' ?_); (clear F'); (intro mF F'); (refine hideG fun GG hGG => ?_); (have hAL := allLt_of l1); (try k_lt l1); (repeat (replace hAL := And.right hAL)); k_cells Y'; (try simp only [List.cons_append, List.nil_append] at N'); (refine hGG ?_); (clear hGG GG); (try kfm_turns); (try k_lift B'); (try k_fold); (refine letA ?_); (intro A9))
  k_steps
  rename_i q0 oI oA oN dI dA dN l0 g1 q1 q2 q3 q4 q5 D0 g2 i1 n1 s1 e1 e2 e3 z1 z2 z3 z4 z5 z6 g3 oA2 F3 N3 dA2
  rw [hc9, Int.toNat_natCast, replicate_flat] at N3
  clear i1 s1 e1 e2 e3
  unfold Sealed
  refine' nestTab ?wF ?wN ?wT ?wC ?wcd ?wU T1 ?wtt ?wl ?wc ?wcl ?_
  case wF => k_asm
  case wN => k_asm
  case wT => k_asm
  case wC => kn_code
  case wcd => exact rfl
  case wU => k_updF
  case wtt => exact fun q hq => by simp [hts q hq]
  case wl => exact rfl
  case wc => exact rfl
  case wcl => exact rfl
  intro f c1 oc vs tq ctv doc h9 tk9 o2 ext F9 N9 hcm hvs hq hf hfe hE hT2
  simp only [List.cons_append] at N9
  have hf0 := hf
  k_lt hf
  refine nameL (rest0 ++ ext) fun rx hrx => ?_
  rw [← hrx] at N9
  have hlx : AllLt f rx := by
    rw [hrx]
    exact allLt_of fun q hq => (List.mem_append.mp hq).elim (fun h => hf0 q (by simp [h])) (hfe q)
  have offx : ∀ {A : Addr} {o : Obj}, (A, o) ∈ _ → LCg.Off1 A rest0 → LCg.Off1 A rx := fun {A o} hm h0 => by
    rw [hrx]
    exact off1_append h0 (off1_of fun q hq => Nat.ne_of_gt (hE q hq (A, o) hm))
  have x1 : LCg.Off1 D0 rx := offx List.mem_cons_self (off1_of (by k_all))
  have x2 : LCg.Off1 l0 rx := offx (o := W.listOf #[Value.int 0 tk'] 0) (by k_mem) (off1_of (by k_all))
  have x3 : LCg.Off1 (L' + 1 + 1 + 1) rx := offx (o := oI) (by k_mem) (off1_of (by k_all))
  have x4 : LCg.Off1 (L' + 1 + 1) rx := offx (o := oA2) (by k_mem) (off1_of (by k_all))
  have x5 : LCg.Off1 (L' + 1) rx := offx (o := oN) (by k_mem) (off1_of (by k_all))
  have x6 : LCg.Off1 224 rx := offx (o := o1) (by k_mem) hoff
  have hszc : (List.replicate c9 (Value.int 0 tk')).toArray.size = c9 := by rw [List.size_toArray, List.length_replicate]
  have hDx : LCg.Off1 D0 ((224, o1) :: (ext ++ rest0)) := ⟨Nat.ne_of_lt z5, off1_of fun q hq => off1_mem x1 q (by rw [hrx]; rcases List.mem_append.mp hq with h | h <;> simp [h])⟩
  have hEx : ∀ q ∈ ext, LCg.Off1 q.1 ((224, o1) :: rest0) := fun q hq => off1_of fun r hr => Nat.ne_of_lt (hE q hq r (by
    rcases List.mem_cons.mp hr with rfl | hr
    · k_mem
    · simp [hr]))
  clear hf0 hfe offx N3
  k_steps
  · unfold Sealed
    have hcx : (c1, oc) ∈ rx := by
      rw [hrx]
      rcases List.mem_append.mp hcm with h | h
      · exact List.mem_append_right _ h
      · exact List.mem_append_left _ (hts _ h)
    refine' withObj2 (f := f) (D := D0) (fun led o => KeyI f D0 led n o) ?wN ?key ?use
    case wN => k_asm
    case key =>
      repeat (rename News _ _ _ _ => hz; clear hz)
      repeat (rename Fr _ _ _ _ => hz; clear hz)
      unfold KeyI
      intro fuel
      induction fuel with
      | zero => intros; omega
      | succ fuel ih =>
        intro w' mean' mg' mb' p' loose' dp' un' gd' cn' cs' a' ccd' cl' outer' A₀' base' g₀ L₂ m₂ s₂ Q₂ E₂ B₂ F₂ X₂ T₂ hk₂ pre old post kk N₂ y u1 u2 u3 b1 b2 hb1 hb2 hfu h1 hy hy2 hlen hd₂ hu₂ hret₂
        refine nameL (old.length / 2) fun M hM => ?_
        have hBp := pow_pos' n M
        have hsh : (b1 + (M : Int) - b1) * (n : Int) = ((n * M : Nat) : Int) := by
          rw [add_sub_b, Int.natCast_mul, Int.mul_comm]
        have hnM : n * M ≤ 20 * 64 := Nat.mul_le_mul hn.2 (hf_64 hM hlen)
        refine wpAny_call ?_
        k_dflt (refine' code_nest ?k1 ?k2 ?k3 ?k4 ?k5 ?kA ?kF ?kK ?k6 ?k7 ?k8 ?k9 ?kB ?_ ?c2 ?c3 ?c4 ?c5; (case kA => exact rfl); (case kF => exact rfl); (case kK => assumption); (case k1 => k_asm); (case k2 => k_asm); (case k3 => k_asm); (case k4 => k_asm); (case k5 => k_asm); (case k6 => k_mem); (case k7 => exact codeRec_news (by k_asm) (by k_mem) (by assumption) (by assumption)); (case k8 => ktr_room); (case k9 => exact BindsTo.of_eq rfl); (case c5 => decide); (case kB => exact locs rfl); (case c2 => exact rfl); (case c3 => exact rfl); (case c4 => exact rfl); k_whole; intro g' L' h' FG' F' N' B' X' T'; (refine letF F' ?_); (clear F'); (intro mF F'); (try kfm_turns); (try k_lift B'); (try k_fold); (refine letA ?_); (intro A9))
        k_steps
        · rename b1 + 1 = b2 => hab
          obtain ⟨v0, rfl⟩ : ∃ v, old = [v] := List.length_eq_one_iff.mp (hf_1 hb1 hb2 hab)
          rw [List.append_assoc, List.singleton_append] at N'
          unfold Sealed
          refine set_list (v₀ := v0) (by k_asm) (by k_asm) (by k_updF) hb1 (by (revert hb1 hab hb2 hlen; kjx_bare; omega)) ?_
          intro h9 F9 N9
          (try dsimp only at N9)
          k_steps
          refine hret₂ _ _ [Value.int y u1] [y] kk rfl (All2.cons ⟨_, rfl⟩ All2.nil) (Digs.one ⟨hy.1, by have h := hy.2; rwa [List.length_singleton, Int.pow_succ, Int.pow_zero, Int.one_mul] at h⟩) (by k_asm) ?_
          rw [List.append_assoc, List.singleton_append]
          k_asm
        · unfold Sealed
          refine rsh_to (c := b1 + M) (by decide) (by show Int.fdiv _ 2 = _; rw [Int.fdiv_eq_ediv_of_nonneg _ (by decide)]; exact hf_b hM hb1 hb2) ?_
          k_steps
          unfold Sealed
          refine rsh_to (c := y / (2 ^ n) ^ M) (rg_0 hsh) (by rw [hsh, Int.toNat_natCast, Int.pow_mul, Int.fdiv_eq_ediv_of_nonneg _ (Int.le_of_lt hBp)]) ?_
          k_steps
          unfold Sealed
          refine lsh_to (c := y / (2 ^ n) ^ M * (2 ^ n) ^ M) (rg_0 hsh) (rg_of hsh hnM).2 (rg_64 (small_div hy.1 hy2 hBp)) (by rw [hsh, Int.toNat_natCast, Int.pow_mul]) ?_
          k_steps
          unfold Sealed
          refine xor_to (c := y % (2 ^ n) ^ M) (by rw [← Int.pow_mul]; exact xor_low hy.1 _) ?_
          k_steps
          rename ¬b1 + 1 = b2 => hab
          have hM1 : 1 ≤ M := hf_M hb1 hb2 h1 hM hab
          have hM2 : M + M ≤ old.length := hf_two hM
          unfold Sealed
          k_dflt (refine' ih ?k1 ?k2 ?k3 ?k4 ?k5 pre (old.take M) (old.drop M ++ post) kk ?k6 (y % (2 ^ n) ^ M) _ _ _ _ _ ?e1 ?e2 ?e3 ?e4 ?e5 ?e6 ?e7 ?e8 ?e9 ?_; (case k1 => k_asm); (case k2 => k_asm); (case k3 => k_asm); (case k4 => k_asm); (case k5 => first | exact rfl | assumption); (case k6 => (rw [show pre ++ old.take M ++ (old.drop M ++ post) = pre ++ old ++ post by rw [List.append_assoc, ← List.append_assoc (old.take M), List.take_append_drop, List.append_assoc]]; k_asm)); (case e1 => exact hb1); (case e2 => rw [List.length_take, hb1]; exact hf_c hM); (case e3 => rw [List.length_take]; exact hf_f1 hM h1 hfu); (case e4 => rw [List.length_take]; exact hf_m1 hM hM1); (case e5 => exact ⟨Int.emod_nonneg _ (Int.ne_of_gt hBp), by rw [List.length_take, hf_min hM]; exact Int.emod_lt_of_pos _ hBp⟩); (case e6 => exact small_mod hy.1 hy2 hBp); (case e7 => rw [List.length_take, List.length_append, List.length_drop]; exact hf_l1 hM hlen); (case e8 => exact rm_sub hd₂); (case e9 => exact rm_un hu₂); k_whole)
          intro h1 tk1 new1 ds1 kk1 hl1 hA1 hD1 F1 N1
          rw [List.length_take, hf_min hM] at hl1
          dsimp only
          k_steps
          unfold Sealed
          k_dflt (refine' ih ?k1 ?k2 ?k3 ?k4 ?k5 (pre ++ new1) (old.drop M) post kk1 ?k6 (y / (2 ^ n) ^ M) _ _ _ _ _ ?g1 ?g2 ?g3 ?g4 ?g5 ?g6 ?g7 ?g8 ?g9 ?_; (case k1 => k_asm); (case k2 => k_asm); (case k3 => k_asm); (case k4 => k_asm); (case k5 => first | exact rfl | assumption); (case k6 => (rw [List.append_assoc (pre ++ new1)]; k_asm)); (case g1 => rw [List.length_append, hb1]; exact hf_d hl1); (case g2 => rw [List.length_append, List.length_drop, hb2]; exact hf_e hM hl1); (case g3 => rw [List.length_drop]; exact hf_f2 hM1 hfu); (case g4 => rw [List.length_drop]; exact hf_sub hM hM1); (case g5 => exact ⟨Int.ediv_nonneg hy.1 (Int.le_of_lt hBp), by rw [List.length_drop]; exact div_lt (two_pos n) (by rw [hf_add hM]; exact hy.2)⟩); (case g6 => exact small_div hy.1 hy2 hBp); (case g7 => rw [List.length_append, List.length_drop]; exact hf_l2 hM hlen hl1); (case g8 => exact rm_sub hd₂); (case g9 => exact rm_un hu₂); k_whole)
          intro h2 tk2 new2 ds2 kk2 hl2 hA2 hD2 F2 N2
          rw [List.length_drop] at hl2
          dsimp only
          k_steps
          refine hret₂ _ _ (new1 ++ new2) (ds1 ++ ds2) kk2 (by rw [List.length_append]; exact hf_j hM hl1 hl2) (All2.append hA2 hA1) (Digs.append hD1 hD2 (by rw [hA1.length]; exact hl1)) (by k_asm) ?_
          rw [← List.append_assoc]
          k_asm
    case use =>
      intro key
      have hc1 : 1 ≤ c9 := by
        rcases Nat.eq_zero_or_pos c9 with h | h
        · rw [h, Int.pow_zero] at hxp; omega
        · exact h
      k_dflt (refine' key c9 ?k1 ?k2 ?k3 ?k4 ?k5 [] (List.replicate c9 (Value.int 0 tk')) [] 0 ?k6 x _ _ _ _ _ ?e1 ?e2 ?e3 ?e4 ?e5 ?e6 ?e7 ?e8 ?e9 ?_; (case k1 => k_asm); (case k2 => k_asm); (case k3 => k_asm); (case k4 => k_asm); (case k5 => first | exact rfl | assumption); (case k6 => (rw [List.nil_append, List.append_nil]; exact News.swap2 (by k_asm))); (case e1 => rfl); (case e2 => simp); (case e3 => simp); (case e4 => simpa using hc1); (case e5 => exact ⟨hx.1, by simpa using hxp⟩); (case e6 => exact hx.2); (case e7 => simp; (revert hc50 hszc hc1; kjx_bare; omega)); (case e8 => ktr_room); (case e9 => ktr_units); k_whole)
      intro h1 tk1 new1 ds1 kk1 hl1 hA1 hD1 F1 N1
      dsimp only
      k_steps
      rename News h₀ L _ _ => N9
      rw [List.nil_append, List.append_nil] at N9
      refine hret D0 _ _ o2 ext _ kk1 ds1 (by exact hA1) hD1 (by rw [List.size_toArray, hl1, List.length_replicate]; exact hc50) (by k_asm) (News.sub N9 ?_) hDx hEx hT2
      intro q hq
      rcases List.mem_cons.mp hq with rfl | hq
      · simp
      · rw [hrx]
        simp only [List.mem_cons, List.mem_append] at hq ⊢
        rcases hq with h | h | h <;> simp [h]
  · rename x = 0 => hx0
    have hc0 : c9 = 0 := by
      rw [hx0, show Builtin.Int.intBits 0 = 0 from rfl, Int.fdiv_eq_ediv_of_nonneg _ (Int.natCast_nonneg n)] at hc9
      have h := Int.ediv_eq_zero_of_lt (show (0 : Int) ≤ ((0 : Nat) : Int) + n - 1 by (revert hn; kjx_bare; omega)) (show ((0 : Nat) : Int) + n - 1 < (n : Int) by (kjx_bare; omega))
      (revert hc9 hszc h; kjx_bare; omega)
    rename News h₀ L _ _ => N9
    refine hret D0 _ _ o2 ext #[] 0 [] All2.nil ⟨by rw [hx0]; rfl, fun d hd => nomatch hd⟩ (by decide) (by k_asm) (News.sub N9 ?_) hDx hEx hT2
    rw [hc0]
    intro q hq
    rcases List.mem_cons.mp hq with rfl | hq
    · simp
    · rw [hrx]
      simp only [List.mem_cons, List.mem_append] at hq ⊢
      rcases hq with h | h | h <;> simp [h]
end

section
theorem txt_pos {x : Int} (h : 0 ≤ x) (f : Fin 4) : low f ++ num x = txt f x := by unfold txt hed; rw [if_pos h]
theorem txt_neg {x : Int} (h : ¬0 ≤ x) (f : Fin 4) : upp f ++ num x = txt f x := by unfold txt hed; rw [if_neg h]
set_option maxRecDepth 100000 in
set_option maxHeartbeats 8000000 in
theorem c_text : ∀ {w : World} {mean : ExcName → Option Value} {mg mb : Str → Option Value} {p : Program} {loose : List Str} {dp un : Nat} {gd : Option (List Code)} {cn : Str} {cs : Scope} {a : Addr} {ccd : Value} {cl : List (Str × Addr)} {outer : List Env} {A₀ : Around} {base h₀ : Heap} {L : Addr} {m : Str → Option Value} {s : Shared} {Q E : Value → Shared → Prop} (B : Below A₀ base outer h₀) (F : Fr h₀ L s.heap m) (X : (K w.params).In h₀) (T : Top p loose mean mg mb h₀) (hk : cs.kind = .function)
  (news : List (Addr × Obj)) (N : News h₀ L s.heap news) (hd : dp + 10 < recursionLimit) (hu : un + 80 < cLine)
  (f : Fin 4) (x : Int) (tf tx : Tok) (hx : Small x)
  (hret : ∀ t h' tk', Fr h₀ L h' m → News h₀ L h' news → Q (.str (txt f x) t) { s with heap := h', toks := tk' }),
  wpAny (model PySem.Challenge.rw_pm0082_01.row.toRowW.prog w) (ktrTop dp un gd cn cs L a ccd cl outer) (call (.ref 276) [.str (low f) tf, .int x tx]) Q E s := by
  w_top off
  have in_c2 := Tag.mk
  k_with "call type:str" => (guard_hyp in_c2; (k_here; refine str_of_int_fit (N := 1000000000000000) (by first | omega | (simp only [Small] at *; split <;> split <;> omega) | (simp only [Small] at *; split <;> omega)) (by decide) ?_; intro _))
  k_with "binaryOp Add str str" => (guard_hyp in_c2; (k_here; refine SBL.add ?_ (Nat.le_trans (Nat.add_le_add (Nat.le_of_eq (by assumption)) (show Str.length (num _) ≤ 15 by assumption)) (by decide +kernel)); intro _ _ _))
  k_fill
  intro w mean mg mb p loose dp un gd cn cs a ccd cl outer A₀ base h₀ L m s Q E B F X T hk news N hd hu f x tf tx hx hret
  have hlen := num_len hx
  have hpos : 0 ≤ x → ∀ t h' tk', Fr h₀ L h' m → News h₀ L h' news → Q (.str (low f ++ Str.ofString (toString (if x < 0 then -x else x))) t) { s with heap := h', toks := tk' } := fun h => by have e := txt_pos h f; unfold num at e; rw [e]; exact hret
  have hneg : ¬0 ≤ x → ∀ t h' tk', Fr h₀ L h' m → News h₀ L h' news → Q (.str (upp f ++ Str.ofString (toString (if x < 0 then -x else x))) t) { s with heap := h', toks := tk' } := fun h => by have e := txt_neg h f; unfold num at e; rw [e]; exact hret
  have hlow := len_low f
  have hupp := len_upp f
  refine wpAny_call ?_
  k_dflt (refine' code_def ?k1 ?k2 ?k3 ?k4 ?k5 ?kA ?kF ?kK ?k6 ?k7 ?k8 ?k9 ?kB ?_ ?c2 ?c3 ?c4 ?c5; (case kA => exact rfl); (case kF => exact rfl); (case kK => assumption); (case k1 => k_asm); (case k2 => k_asm); (case k3 => k_asm); (case k4 => k_asm); (case k5 => k_asm); (case k6 => k_is); (case k7 => k_is); (case k8 => ktr_room); (case k9 => first | exact BindsTo.of_eq rfl | exact binds_K (by k_in) rfl (by k_is) rfl rfl rfl); (case c5 => decide); (case kB => exact locs rfl); (case c2 => exact rfl); (case c3 => exact rfl); (case c4 => exact rfl); k_whole; intro g' L' h' FG' F' N' B' X' T'; (refine letF F' ?_); (clear F'); (intro mF F'); (try kfm_turns); (try k_lift B'); (try k_fold); (refine letA ?_); (intro A9))
  k_steps
  · exact hpos (by with_reducible assumption) _ _ _ (by k_asm) (by k_asm)
  · exact hneg (by with_reducible assumption) _ _ _ (by k_asm) (by k_asm)
end

section
noncomputable def KeyJ (f D : Addr) (vs : List Value) (kk : Nat) (led : List (Addr × Obj)) (n : Nat) (o : Obj) : Prop :=
  ∀ (fuel : Nat) {w : World} {mean : ExcName → Option Value} {mg mb : Str → Option Value} {p : Program} {loose : List Str} {dp un : Nat} {gd : Option (List Code)} {cn : Str} {cs : Scope} {a : Addr} {ccd : Value} {cl : List (Str × Addr)} {outer : List Env} {A₀ : Around} {base h₀ : Heap} {L : Addr} {m : Str → Option Value} {s : Shared} {Q E : Value → Shared → Prop} (B : Below A₀ base outer h₀) (F : Fr h₀ L s.heap m) (X : (K w.params).In h₀) (T : Top p loose mean mg mb h₀) (hk : cs.kind = .function) (pre mid post : List Int) (N : News h₀ L s.heap ((f, o) :: led)) (hA : IntsAre vs (pre ++ mid ++ post)) (b1 b2 : Int) (t1 t2 : Tok) (hb1 : b1 = pre.length) (hb2 : b2 = pre.length + mid.length)
    (hfu : mid.length ≤ fuel) (h1 : 1 ≤ mid.length) (hnn : ∀ d ∈ mid, 0 ≤ d) (hx : valN (2 ^ n) mid < 1000000000000000) (hlen : pre.length + mid.length + post.length ≤ 64)
    (hd : dp + fuel + 10 < recursionLimit) (hu : un + 80 * fuel + 160 < cLine)
    (hret : ∀ t h' tk', Fr h₀ L h' m → News h₀ L h' ((f, o) :: led) → Q (.int (valN (2 ^ n) mid) t) { s with heap := h', toks := tk' }),
    wpAny (model PySem.Challenge.rw_pm0082_01.row.toRowW.prog w) (ktrTop dp un gd cn cs L a ccd cl outer) (call (.ref f) [.int b1 t1, .int b2 t2]) Q E s

set_option maxRecDepth 100000 in
set_option maxHeartbeats 1000000 in
theorem c_d2i : ∀ {w : World} {mean : ExcName → Option Value} {mg mb : Str → Option Value} {p : Program} {loose : List Str} {dp un : Nat} {gd : Option (List Code)} {cn : Str} {cs : Scope} {a : Addr} {ccd : Value} {cl : List (Str × Addr)} {outer : List Env} {A₀ : Around} {base h₀ : Heap} {L : Addr} {m : Str → Option Value} {s : Shared} {Q E : Value → Shared → Prop} (B : Below A₀ base outer h₀) (F : Fr h₀ L s.heap m) (X : (K w.params).In h₀) (T : Top p loose mean mg mb h₀) (hk : cs.kind = .function) (C3 : CodeHd base 235 231)
  (news : List (Addr × Obj)) (N : News h₀ L s.heap news) (hd : dp + 100 < recursionLimit) (hu : un + 5500 < cLine)
  (o1 : Obj) (rest0 : List (Addr × Obj)) (e0 : news = (231, o1) :: rest0) (hoff : LCg.Off1 231 rest0) (tt : List (Addr × Obj)) (hts : ∀ p ∈ tt, p ∈ rest0) (T1 : TabOk 200 4 "_digits2int.<locals>.inner" o1 tt)
  (D : Addr) (vs : List Value) (kk : Nat) (ds : List Int) (n : Nat) (t2 : Tok) (hm : (D, W.listOf vs.toArray kk) ∈ rest0) (hA : IntsAre vs ds) (hnn : ∀ d ∈ ds, 0 ≤ d) (hx : valN (2 ^ n) ds < 1000000000000000) (hlen : ds.length ≤ 60) (hn : 1 ≤ n ∧ n ≤ 20)
  (hret : ∀ t h' tk' o1' ext, Fr h₀ L h' m → News h₀ L h' (ext ++ (231, o1') :: rest0) → (∀ q ∈ ext, LCg.Off1 q.1 ((231, o1) :: rest0)) → TabOk 200 4 "_digits2int.<locals>.inner" o1' (ext ++ tt) → Q (.int (valN (2 ^ n) ds) t) { s with heap := h', toks := tk' }),
  wpAny (model PySem.Challenge.rw_pm0082_01.row.toRowW.prog w) (ktrTop dp un gd cn cs L a ccd cl outer) (call (.ref 236) [.ref D, .int n t2]) Q E s := by
  w_top off
  have in_c12 := Tag.mk
  k_with "call ref" => (guard_hyp in_c12; (k_here; refine openSeal ?_))
  k_with "exec FunctionDef" => (guard_hyp in_c12; (k_here; kn_here; k_dflt (refine' nestDef_K ?z11d0 ?z11k0 ?z11a0 ?_; (case z11d0 => exact rfl); (case z11k0 => exact rfl); (case z11a0 => exact rfl)); refine openSeal ?_))
  k_with "binaryOp RShift int int" => (guard_hyp in_c12; (k_here; refine openSeal ?_))
  k_with "binaryOp LShift int int" => (guard_hyp in_c12; (k_here; refine openSeal ?_))
  k_with "subscriptTail" => (guard_hyp in_c12; (k_here; refine openSeal ?_))
  k_fill
  intro w mean mg mb p loose dp un gd cn cs a ccd cl outer A₀ base h₀ L m s Q E B F X T hk C3 news N hd hu o1 rest0 e0 hoff tt hts T1 D vs kk ds n t2 hm hA hnn hx hlen hn hret
  subst e0
  refine wpAny_call ?_
  k_dflt (refine' code_defC ?k1 ?k2 ?k3 ?k4 ?k5 ?kA ?kF ?kK ?k6 ?k7 ?k8 ?k9 ?kB ?kD ?_ ?c2 ?c3 ?c4; (case kA => exact rfl); (case kF => exact rfl); (case kK => assumption); (case k1 => k_asm); (case k2 => k_asm); (case k3 => k_asm); (case k4 => k_asm); (case k5 => k_asm); (case k6 => k_is); (case k7 => k_is); (case k8 => ktr_room); (case k9 => first | exact BindsTo.of_eq rfl | exact binds_K (by k_in) rfl (by k_is) rfl rfl rfl); (case kB => exact rfl); (case kD => decide +kernel); (case c2 => exact rfl); (case c3 => exact rfl); (case c4 => exact rfl); k_whole; intro g' L' h' tk' cells' FG' F' N' Y' B' X' T' l1; (refine letF F' ?_); (clear F'); (intro mF F'); (refine hideG fun GG hGG => ?_); (have hAL := allLt_of l1); (try k_lt l1); (repeat (replace hAL := And.right hAL)); k_cells Y'; (try simp only [List.cons_append, List.nil_append] at N'); (refine hGG ?_); (clear hGG GG); (try kfm_turns); (try k_lift B'); (try k_fold); (refine letA ?_); (intro A9))
  k_steps
  rename_i q0 oI oN oD dI dN dD
  unfold Sealed
  refine' nestTab ?wF ?wN ?wT ?wC ?wcd ?wU T1 ?wtt ?wl ?wc ?wcl ?_
  case wF => k_asm
  case wN => k_asm
  case wT => k_asm
  case wC => kn_code
  case wcd => exact rfl
  case wU => k_updF
  case wtt => exact fun q hq => by simp [hts q hq]
  case wl => exact rfl
  case wc => exact rfl
  case wcl => exact rfl
  intro f c1 oc vs1 tq ctv doc h9 tk9 o2 ext F9 N9 hcm hvs hq hf hfe hE hT2
  simp only [List.cons_append] at N9
  have hf0 := hf
  k_lt hf
  refine nameL (rest0 ++ ext) fun rx hrx => ?_
  rw [← hrx] at N9
  have hlx : AllLt f rx := by
    rw [hrx]
    exact allLt_of fun q hq => (List.mem_append.mp hq).elim (fun h => hf0 q (by simp [h])) (hfe q)
  have offx : ∀ {A : Addr} {o : Obj}, (A, o) ∈ _ → LCg.Off1 A rest0 → LCg.Off1 A rx := fun {A o} hm h0 => by
    rw [hrx]
    exact off1_append h0 (off1_of fun q hq => Nat.ne_of_gt (hE q hq (A, o) hm))
  have x3 : LCg.Off1 (L' + 1 + 1 + 1) rx := offx (o := oI) (by k_mem) (off1_of (by k_all))
  have x4 : LCg.Off1 (L' + 1 + 1) rx := offx (o := oN) (by k_mem) (off1_of (by k_all))
  have x5 : LCg.Off1 (L' + 1) rx := offx (o := oD) (by k_mem) (off1_of (by k_all))
  have x6 : LCg.Off1 231 rx := offx (o := o1) (by k_mem) hoff
  have hmx : (D, W.listOf vs.toArray kk) ∈ rx := by rw [hrx]; exact List.mem_append_left _ hm
  have hcx : (c1, oc) ∈ rx := by
    rw [hrx]
    rcases List.mem_append.mp hcm with h | h
    · exact List.mem_append_right _ h
    · exact List.mem_append_left _ (hts _ h)
  have hEx : ∀ q ∈ ext, LCg.Off1 q.1 ((231, o1) :: rest0) := fun q hq => off1_of fun r hr => Nat.ne_of_lt (hE q hq r (by
    rcases List.mem_cons.mp hr with rfl | hr
    · k_mem
    · simp [hr]))
  have hvl : vs.length = ds.length := hA.length
  have hszv : vs.toArray.size = ds.length := by rw [List.size_toArray]; exact hA.length
  clear hf0 hfe offx
  k_steps
  refine kgr_truthy (n := kk) (vs := vs) (lo := W.listOf vs.toArray kk) (by k_asm) (by k_mem) rfl rfl (by (revert hlen hvl hszv; kjx_bare; omega)) ?_
  rcases Nat.eq_zero_or_pos ds.length with h0 | h0
  · obtain rfl := List.length_eq_zero_iff.mp h0
    obtain rfl := List.length_eq_zero_iff.mp (hvl.trans h0)
    simp only [List.isEmpty_nil, Bool.not_true]
    k_steps
    rename News h₀ L _ _ => N9
    refine hret _ _ _ o2 ext (by k_asm) (News.sub N9 ?_) hEx hT2
    intro q hq
    rw [hrx]
    simp only [List.mem_cons, List.mem_append] at hq ⊢
    rcases hq with h | h | h <;> simp [h]
  · rw [show (!vs.isEmpty) = true by cases vs with | nil => simp at hvl; (revert hlen h0 hvl; kjx_bare; omega) | cons _ _ => rfl]
    k_steps
    unfold Sealed
    refine' withObj1 (f := f) (fun led o => KeyJ f D vs kk led n o) ?wN ?key ?use
    case wN => k_asm
    case key =>
      repeat (rename News _ _ _ _ => hz; clear hz)
      repeat (rename Fr _ _ _ _ => hz; clear hz)
      clear hnn hx hlen hd hu hvl hszv
      unfold KeyJ
      intro fuel
      repeat (rename @LT.lt Nat _ _ _ => hz; clear hz)
      repeat (rename @LE.le Nat _ _ _ => hz; clear hz)
      repeat (rename @LT.lt Int _ _ _ => hz; clear hz)
      (try clear hx)
      (try clear hc9)
      induction fuel with
      | zero => intros; omega
      | succ fuel ih =>
        intro w' mean' mg' mb' p' loose' dp' un' gd' cn' cs' a' ccd' cl' outer' A₀' base' g₀ L₂ m₂ s₂ Q₂ E₂ B₂ F₂ X₂ T₂ hk₂ pre mid post N₂ hA₂ b1 b2 u1 u2 hb1 hb2 hfu h1 hnn hx hlen hd₂ hu₂ hret₂
        refine nameL (mid.length / 2) fun M hM => ?_
        have hBp := pow_pos' n M
        have hsh : (b1 + (M : Int) - b1) * (n : Int) = ((n * M : Nat) : Int) := by
          rw [add_sub_b, Int.natCast_mul, Int.mul_comm]
        have hnM : n * M ≤ 20 * 64 := Nat.mul_le_mul hn.2 (hf_64 hM hlen)
        have hmd : mid.take M ++ mid.drop M = mid := List.take_append_drop _ _
        have hsp := valN_split (B := 2 ^ n) (two_pos n) (a := mid.take M) (b := mid.drop M) (fun d hd => hnn d (List.mem_of_mem_take hd)) (fun d hd => hnn d (List.mem_of_mem_drop hd))
        have hn2 := valN_nn (B := 2 ^ n) (Int.le_of_lt (two_pos n)) (a := mid.drop M) (fun d hd => hnn d (List.mem_of_mem_drop hd))
        have hap := valN_append (2 ^ n) (mid.take M) (mid.drop M)
        rw [hmd] at hsp hap
        refine wpAny_call ?_
        k_dflt (refine' code_nest ?k1 ?k2 ?k3 ?k4 ?k5 ?kA ?kF ?kK ?k6 ?k7 ?k8 ?k9 ?kB ?_ ?c2 ?c3 ?c4 ?c5; (case kA => exact rfl); (case kF => exact rfl); (case kK => assumption); (case k1 => k_asm); (case k2 => k_asm); (case k3 => k_asm); (case k4 => k_asm); (case k5 => k_asm); (case k6 => k_mem); (case k7 => exact codeRec_news (by k_asm) (by k_mem) (by assumption) (by assumption)); (case k8 => ktr_room); (case k9 => exact BindsTo.of_eq rfl); (case c5 => decide); (case kB => exact locs rfl); (case c2 => exact rfl); (case c3 => exact rfl); (case c4 => exact rfl); k_whole; intro g' L' h' FG' F' N' B' X' T'; (refine letF F' ?_); (clear F'); (intro mF F'); (try kfm_turns); (try k_lift B'); (try k_fold); (refine letA ?_); (intro A9))
        k_steps
        · rename b1 + 1 = b2 => hab
          obtain ⟨v0, rfl⟩ : ∃ v, mid = [v] := List.length_eq_one_iff.mp (hf_1 hb1 hb2 hab)
          unfold Sealed
          refine ksa_sub (D := D) (vs := vs) (n := kk) (by k_asm) (by k_mem) hA₂ (by (revert hb1 hab; kjx_bare; omega)) (by rw [List.length_append, List.length_append]; (revert hb1 hab hb2; kjx_bare; omega)) (by (revert hb1 hab hb2 hlen; kjx_bare; omega)) ?_ (by with_unfolding_all rfl)
          intro t9
          rw [show (pre ++ [v0] ++ post).getD b1.toNat 0 = v0 by rw [hb1, Int.toNat_natCast, List.getD_eq_getElem?_getD, List.append_assoc, List.getElem?_append_right (Nat.le_refl _)]; simp]
          k_steps
          have e := hret₂
          simp only [valN, Int.mul_zero, Int.add_zero] at e
          exact e _ _ _ (by k_asm) (by k_asm)
        · rename ¬b1 + 1 = b2 => hab
          have hM1 : 1 ≤ M := hf_M hb1 hb2 h1 hM hab
          unfold Sealed
          refine rsh_to (c := b1 + M) (by decide) (by show Int.fdiv _ 2 = _; rw [Int.fdiv_eq_ediv_of_nonneg _ (by decide)]; exact hf_b hM hb1 hb2) ?_
          k_steps
          unfold Sealed
          k_dflt (refine' ih ?k1 ?k2 ?k3 ?k4 ?k5 (pre ++ mid.take M) (mid.drop M) post ?k6 ?e0 _ _ _ _ ?e1 ?e2 ?e3 ?e4 ?e5 ?e6 ?e7 ?e8 ?e9 ?_; (case k1 => k_asm); (case k2 => k_asm); (case k3 => k_asm); (case k4 => k_asm); (case k5 => first | exact rfl | assumption); (case k6 => k_asm); (case e0 => rw [List.append_assoc pre, hmd]; exact hA₂); (case e1 => rw [List.length_append, List.length_take, hb1]; exact hf_d (hf_min hM)); (case e2 => rw [List.length_append, List.length_take, List.length_drop, hb2]; exact hf_e hM (hf_min hM)); (case e3 => rw [List.length_drop]; exact hf_f2 hM1 hfu); (case e4 => rw [List.length_drop]; exact hf_sub hM hM1); (case e5 => exact fun d hd => hnn d (List.mem_of_mem_drop hd)); (case e6 => (revert hx hsp hap; kjx_bare; omega)); (case e7 => rw [List.length_append, List.length_take, List.length_drop]; exact hf_l3 hM hlen); (case e8 => exact rm_sub hd₂); (case e9 => exact rm_un hu₂); k_whole)
          intro t1 hp1 tk1 F1 N1
          dsimp only
          k_steps
          unfold Sealed
          refine lsh_to (c := valN (2 ^ n) (mid.drop M) * (2 ^ n) ^ M) (rg_0 hsh) (rg_of hsh hnM).2 (by (revert hx hsp hn2 hap; kjx_bare; omega)) (by rw [hsh, Int.toNat_natCast, Int.pow_mul]) ?_
          k_steps
          unfold Sealed
          k_dflt (refine' ih ?k1 ?k2 ?k3 ?k4 ?k5 pre (mid.take M) (mid.drop M ++ post) ?k6 ?g0 _ _ _ _ ?g1 ?g2 ?g3 ?g4 ?g5 ?g6 ?g7 ?g8 ?g9 ?_; (case k1 => k_asm); (case k2 => k_asm); (case k3 => k_asm); (case k4 => k_asm); (case k5 => first | exact rfl | assumption); (case k6 => k_asm); (case g0 => rw [List.append_assoc pre, ← List.append_assoc (mid.take M), hmd, ← List.append_assoc]; exact hA₂); (case g1 => exact hb1); (case g2 => rw [List.length_take, hb1]; exact hf_c hM); (case g3 => rw [List.length_take]; exact hf_f1 hM h1 hfu); (case g4 => rw [List.length_take]; exact hf_m1 hM hM1); (case g5 => exact fun d hd => hnn d (List.mem_of_mem_take hd)); (case g6 => (revert hx hsp hn2 hap; kjx_bare; omega)); (case g7 => rw [List.length_take, List.length_append, List.length_drop]; exact hf_l1 hM hlen); (case g8 => exact rm_sub hd₂); (case g9 => exact rm_un hu₂); k_whole)
          intro t2 h2 tk2 F2 N2
          dsimp only
          k_steps
          rw [show valN (2 ^ n) (mid.drop M) * (2 ^ n) ^ M + valN (2 ^ n) (mid.take M) = valN (2 ^ n) mid by rw [hap, List.length_take, hf_min hM, Int.mul_comm, Int.add_comm]]
          exact hret₂ _ _ _ (by k_asm) (by k_asm)
    case use =>
      intro key
      k_dflt (refine' key ds.length ?k1 ?k2 ?k3 ?k4 ?k5 [] ds [] ?k6 ?e0 _ _ _ _ ?e1 ?e2 ?e3 ?e4 ?e5 ?e6 ?e7 ?e8 ?e9 ?_; (case k1 => k_asm); (case k2 => k_asm); (case k3 => k_asm); (case k4 => k_asm); (case k5 => first | exact rfl | assumption); (case k6 => k_asm); (case e0 => simpa using hA); (case e1 => rfl); (case e2 => simp); (case e3 => exact Nat.le_refl _); (case e4 => (revert hlen hvl hszv h0; kjx_bare; omega)); (case e5 => exact hnn); (case e6 => exact hx); (case e7 => simp; (revert hlen hvl hszv h0; kjx_bare; omega)); (case e8 => ktr_room); (case e9 => ktr_units); k_whole)
      intro t1 h1 tk1 F1 N1
      dsimp only
      k_steps
      rename News h₀ L _ _ => N9
      refine hret _ _ _ o2 ext (by k_asm) (News.sub N9 ?_) hEx hT2
      intro q hq
      rw [hrx]
      simp only [List.mem_cons, List.mem_append] at hq ⊢
      rcases hq with h | h | h <;> simp [h]
end

section
theorem find_step {α : Type} {rows : List α} {i : Nat} {a : α} {p : α → Bool} (ha : rows[i]? = some a) (hn : (rows.take i).find? p = none) (hp : p a = true) : rows.find? p = some a := by
  have e : rows = rows.take i ++ a :: rows.drop (i + 1) := by
    obtain ⟨hi, rfl⟩ := List.getElem?_eq_some_iff.mp ha
    rw [← List.drop_eq_getElem_cons hi, List.take_append_drop]
  rw [e, List.find?_append, hn]
  simp [hp]
theorem find_none {α : Type} {rows : List α} {i : Nat} {a : α} {p : α → Bool} (ha : rows[i]? = some a) (hn : (rows.take i).find? p = none) (hp : p a = false) : (rows.take (i + 1)).find? p = none := by
  rw [List.take_add_one, ha, List.find?_append, hn]
  simp [hp]
set_option maxRecDepth 100000 in
set_option maxHeartbeats 8000000 in
theorem c_get : ∀ {w : World} {mean : ExcName → Option Value} {mg mb : Str → Option Value} {p : Program} {loose : List Str} {dp un : Nat} {gd : Option (List Code)} {cn : Str} {cs : Scope} {a : Addr} {ccd : Value} {cl : List (Str × Addr)} {outer : List Env} {A₀ : Around} {base h₀ : Heap} {L : Addr} {m : Str → Option Value} {s : Shared} {Q E : Value → Shared → Prop} (B : Below A₀ base outer h₀) (F : Fr h₀ L s.heap m) (X : (K w.params).In h₀) (T : Top p loose mean mg mb h₀) (hk : cs.kind = .function)
  (news : List (Addr × Obj)) (N : News h₀ L s.heap news) (hd : dp + 20 < recursionLimit) (hu : un + 160 < cLine)
  (t d l : Addr) (n1 n2 : Nat) (vs : List Value) (rows : List Row) (tk1 tn : Tok) (u : Bool) (pl : Fin 4)
  (hTt : (t, instObj 182 d) ∈ news) (hTd : (d, dictOf [⟨PyData.keyHash w.params "_headers", .str "_headers" tk1, .ref l⟩] n1) ∈ news)
  (hTl : (l, ({ cls := .type "list", data := .seq vs.toArray n2 } : Obj)) ∈ news) (hR : RowsIn news rows vs) (hlen : vs.length ≤ 100)
  (hret : ∀ r h' tk', Fr h₀ L h' m → News h₀ L h' news → (match rows.find? (·.p = pl) with | some r0 => IsS (txt r0.f r0.w) r | none => r = .none) → Q r { s with heap := h', toks := tk' }),
  wpAny (model PySem.Challenge.rw_pm0082_01.row.toRowW.prog w) (ktrTop dp un gd cn cs L a ccd cl outer) (call (.ref 129) [.ref t, .str (nm u pl) tn]) Q E s := by
  w_top off
  k_fill
  intro w mean mg mb p loose dp un gd cn cs a ccd cl outer A₀ base h₀ L m s Q E B F X T hk news N hd hu t d l n1 n2 vs rows tk1 tn u pl hTt hTd hTl hR hlen hret
  have hplain := plain_low pl
  refine wpAny_call ?_
  k_dflt (refine' code_def ?k1 ?k2 ?k3 ?k4 ?k5 ?kA ?kF ?kK ?k6 ?k7 ?k8 ?k9 ?kB ?_ ?c2 ?c3 ?c4 ?c5; (case kA => exact rfl); (case kF => exact rfl); (case kK => assumption); (case k1 => k_asm); (case k2 => k_asm); (case k3 => k_asm); (case k4 => k_asm); (case k5 => k_asm); (case k6 => k_is); (case k7 => k_is); (case k8 => ktr_room); (case k9 => first | exact BindsTo.of_eq rfl | exact binds_K (by k_in) rfl (by k_is) rfl rfl rfl); (case c5 => decide); (case kB => exact locs rfl); (case c2 => exact rfl); (case c3 => exact rfl); (case c4 => exact rfl); k_whole; intro g' L' h' FG' F' N' B' X' T'; (refine letF F' ?_); (clear F'); (intro mF F'); (try kfm_turns); (try k_lift B'); (try k_fold); (refine letA ?_); (intro A9))
  k_steps
  have hrow : ∀ {v : Value}, (∃ j : Nat, vs.toArray[j]? = some v) → ∃ T, v = .ref T := by
    intro v pp1
    refine hideG fun GG hGG => ?_
    obtain ⟨j, hj⟩ := pp1
    refine hGG ?_
    clear hGG GG
    refine hideG fun GG hGG => ?_
    obtain ⟨_, _, T, _, _, _, e, _⟩ := hR.get' (i := j) (b := v) (by simpa using hj)
    refine hGG ?_
    clear hGG GG
    exact ⟨T, e⟩
  refine src_list (DD := (· = s.drawn)) (hD := rfl) (xs := [Str.ofString "k", Str.ofString "v"]) (ax := l) (its := vs.toArray) (hh := rfl) ?go (by k_asm) (by k_asm)
    (fun i m₁ nw => nw = news ∧ (rows.take i).find? (·.p = pl) = none) ?hS ⟨rfl, by simp⟩ ?step ?hR
  case go =>
    intro I i s v Q E hit hQ hv
    obtain ⟨T, rfl⟩ := hrow hv
    exact wpAny_letOwnedTupleGo_listiter hit hQ
  case hS =>
    intro i m nw pp2
    refine hideG fun GG hGG => ?_
    obtain ⟨rfl, _⟩ := pp2
    refine hGG ?_
    clear hGG GG
    exact .inr ⟨_, by k_mem, rfl, _, rfl⟩
  case step =>
    intro I gg tk2 i v ex o news₁ h tk dr oI E' hdr hi pp3 pp4 F1 N1 o1 o2
    refine hideG fun GG hGG => ?_
    obtain ⟨hv, rfl⟩ := pp3
    obtain ⟨rfl, hnone⟩ := pp4
    refine hGG ?_
    clear hGG GG
    refine hideG fun GG hGG => ?_
    obtain ⟨⟨u, p, f, x⟩, ha, T, t1, t2, n, rfl, hT, hsm⟩ := hR.get' (i := i) (b := v) (by simpa using hv)
    refine hGG ?_
    clear hGG GG
    dsimp only [canonL, List.foldr, List.nil_append] at F1 N1 o1
    subst hdr
    k_steps
    · unfold LStep
      dsimp only
      k_steps
      refine hret _ _ _ (by k_asm) (News.tl (by k_asm)) ?_
      rename (_ == _) = true => e
      dsimp only at e
      rw [low_inj] at e
      rw [find_step ha hnone (by simpa using e)]
      exact ⟨_, rfl⟩
    · refine ⟨_, _, _, _, _, rfl, by first | exact rfl | exact trivial, by k_asm, by k_asm, by with_reducible assumption, ⟨by (intro y hy; first | ((repeat (first | refine agree_l hy (by k_mem) ?_ | refine agree_r hy (by k_mem) ?_)); exact rfl) | (simp only [List.mem_cons, List.not_mem_nil, or_false, not_or] at hy; simp only [hy, if_false])), ?_⟩⟩
      refine ⟨rfl, ?_⟩
      rename (_ == _) = false => e
      dsimp only at e
      rw [low_inj] at e
      exact find_none ha hnone (by simpa using e)
  case hR =>
    intro h2 tk2 dr o news' hdr F1 N1 pp5
    refine hideG fun GG hGG => ?_
    obtain ⟨rfl, hnone⟩ := pp5
    refine hGG ?_
    clear hGG GG
    subst hdr
    dsimp only [canonL, List.foldr] at F1 N1
    k_steps
    refine hret _ _ _ (by k_asm) (by k_asm) ?_
    have e : rows.take vs.toArray.size = rows := by rw [List.size_toArray, ← hR.length, List.take_length]
    rw [e] at hnone
    rw [hnone]
end

section
set_option maxRecDepth 100000 in
set_option maxHeartbeats 8000000 in
theorem c_powers : ∀ {w : World} {mean : ExcName → Option Value} {mg mb : Str → Option Value} {p : Program} {loose : List Str} {dp un : Nat} {gd : Option (List Code)} {cn : Str} {cs : Scope} {a : Addr} {ccd : Value} {cl : List (Str × Addr)} {outer : List Env} {A₀ : Around} {base h₀ : Heap} {L : Addr} {m : Str → Option Value} {s : Shared} {Q E : Value → Shared → Prop} (B : Below A₀ base outer h₀) (F : Fr h₀ L s.heap m) (X : (K w.params).In h₀) (T : Top p loose mean mg mb h₀) (hk : cs.kind = .function)
  (news : List (Addr × Obj)) (N : News h₀ L s.heap news) (hd : dp + 20 < recursionLimit) (hu : un + 160 < cLine)
  (n : Int) (t1 t2 t3 : Tok) (hn : 0 ≤ n ∧ n ≤ 2048)
  (hret : ∀ D o h' tk' dr', Fr h₀ L h' m → News h₀ L h' ((D, o) :: news) → LCg.Off1 D news → Q (.ref D) { s with heap := h', toks := tk', drawn := dr' }),
  wpAny (model PySem.Challenge.rw_pm0082_01.row.toRowW.prog w) (ktrTop dp un gd cn cs L a ccd cl outer) (call (.ref 194) [.int n t1, .int 5 t2, .int 2048 t3]) Q E s := by
  w_top off
  have in_c5 := Tag.mk
  k_with "truthy ref" => (guard_hyp in_c5; (k_here; k_dflt (refine truthy_set (by k_asm) (by k_mem) (by with_reducible assumption) (by decide) ?_); (try simp only [Nat.reduceAdd, Nat.reduceBNe])))
  k_with "getMethod ref" => (guard_hyp in_c5; (k_here; (with_reducible show wpAny _ _ (getMethod (Value.ref _) (Str.ofString "pop") _) _ _ _); k_dflt (refine getMethod_pop (by k_asm) (by k_mem) (by with_reducible assumption) ?_)))
  k_with "call builtin:set.pop" => (guard_hyp in_c5; (k_here; k_dflt (refine' call_pop ?z12k1 ?z12k2 ?z12k3 ?z12k4 ?_; (case z12k1 => k_asm); (case z12k2 => k_asm); (case z12k3 => k_updF); (case z12k4 => with_reducible assumption); k_whole); intro h' so' t' dr' F' N' hs'; (try dsimp only at N'); revert h' so' t' dr'; intros; (try kfm_turns)))
  k_fill
  intro w mean mg mb p loose dp un gd cn cs a ccd cl outer A₀ base h₀ L m s Q E B F X T hk news N hd hu n t1 t2 t3 hn hret
  refine wpAny_call ?_
  k_dflt (refine' code_def ?k1 ?k2 ?k3 ?k4 ?k5 ?kA ?kF ?kK ?k6 ?k7 ?k8 ?k9 ?kB ?_ ?c2 ?c3 ?c4 ?c5; (case kA => exact rfl); (case kF => exact rfl); (case kK => assumption); (case k1 => k_asm); (case k2 => k_asm); (case k3 => k_asm); (case k4 => k_asm); (case k5 => k_asm); (case k6 => k_is); (case k7 => k_is); (case k8 => ktr_room); (case k9 => first | exact BindsTo.of_eq rfl | exact binds_K (by k_in) rfl (by k_is) rfl rfl rfl); (case c5 => decide); (case kB => exact locs rfl); (case c2 => exact rfl); (case c3 => exact rfl); (case c4 => exact rfl); k_whole; intro g' L' h' FG' F' N' B' X' T'; (refine letF F' ?_); (clear F'); (intro mF F'); (try kfm_turns); (try k_lift B'); (try k_fold); (refine letA ?_); (intro A9))
  k_steps
  all_goals exact hret _ _ _ _ _ (by k_asm) (News.drop2 (News.drop2 (News.drop2 (by k_asm)))) (off1_of (by k_all))
end

section
set_option maxRecDepth 100000 in
set_option maxHeartbeats 8000000 in
theorem c_add : ∀ {w : World} {mean : ExcName → Option Value} {mg mb : Str → Option Value} {p : Program} {loose : List Str} {dp un : Nat} {gd : Option (List Code)} {cn : Str} {cs : Scope} {a : Addr} {ccd : Value} {cl : List (Str × Addr)} {outer : List Env} {A₀ : Around} {base h₀ : Heap} {L : Addr} {m : Str → Option Value} {s : Shared} {Q E : Value → Shared → Prop} (B : Below A₀ base outer h₀) (F : Fr h₀ L s.heap m) (X : (K w.params).In h₀) (T : Top p loose mean mg mb h₀) (hk : cs.kind = .function)
  (news : List (Addr × Obj)) (N : News h₀ L s.heap news) (hd : dp + 20 < recursionLimit) (hu : un + 160 < cLine)
  (t d l : Addr) (n1 k : Nat) (vs : Array Value) (rest0 : List (Addr × Obj)) (e0 : news = (l, W.listOf vs k) :: rest0) (hoff : LCg.Off1 l rest0) (tk1 tn tt : Tok) (u : Bool) (pl f : Fin 4) (x : Int) (hx : Small x)
  (hTt : (t, instObj 182 d) ∈ rest0) (hTd : (d, dictOf [⟨PyData.keyHash w.params "_headers", .str "_headers" tk1, .ref l⟩] n1) ∈ rest0) (hlen : vs.size ≤ 100) (hlen2 : vs.size ≤ sizeLine)
  (hret : ∀ T h' tk' t1 t2, Fr h₀ L h' m → News h₀ L h' ((T, { cls := .type "tuple", data := .seq #[.str (nm u pl) t1, .str (txt f x) t2] }) :: (l, W.listOf (vs.push (.ref T)) (k + 1)) :: rest0) → LCg.Off1 T ((l, W.listOf vs k) :: rest0) → Q .none { s with heap := h', toks := tk' }),
  wpAny (model PySem.Challenge.rw_pm0082_01.row.toRowW.prog w) (ktrTop dp un gd cn cs L a ccd cl outer) (call (.ref 179) [.ref t, .str (nm u pl) tn, .str (txt f x) tt]) Q E s := by
  w_top off
  k_fill
  intro w mean mg mb p loose dp un gd cn cs a ccd cl outer A₀ base h₀ L m s Q E B F X T hk news N hd hu t d l n1 k vs rest0 e0 hoff tk1 tn tt u pl f x hx hTt hTd hlen hlen2 hret
  subst e0
  have hplain := plain_nm u pl
  have hplain2 := plain_txt f x
  have htl := txt_len hx f
  refine wpAny_call ?_
  k_dflt (refine' kp_more ?k1 ?k2 ?k3 ?k4 ?k5 ?kA ?kF ?kK ?k6 ?k7 ?k8 ?kX ?kM ?kN ?kD ?kR ?kP ?kT ?kB ?_ ?c2 ?c3 ?c4 ?c5; (case kA => exact rfl); (case kF => exact rfl); (case kK => assumption); (case k1 => k_asm); (case k2 => k_asm); (case k3 => k_asm); (case k4 => k_asm); (case k5 => k_asm); (case k6 => k_is); (case k7 => k_is); (case k8 => ktr_room); (case kX => kp_lit); (case kM => exact rfl); (case kN => exact rfl); (case kD => kp_flats); (case kR => exact rfl); (case kP => exact rfl); (case kT => exact fun _ => rfl); (case kB => exact fun _ => locs rfl); (case c5 => decide); (case c2 => exact rfl); (case c3 => exact rfl); (case c4 => exact rfl); k_whole; intro D' o' g' L' h' tk' l1 lo' hs' fs' FG' F' N' B' X' T'; (refine letF F' ?_); (clear F'); (intro mF F'); (try k_lt l1); (try kfm_turns); (try k_lift B'); (try k_fold); (refine letA ?_); (intro A9))
  k_steps
  rename_i g1 g2 l0 g3 g4 g5 g6 g7 g8 g9 g10 g11 g12 F8 N8 V0 g13 F9 N9 g14 g15 g16 g17
  obtain ⟨ep, hK⟩ := KdkAt.of hs'
  refine src_items (knd := PySem.strKind _ w) (kvs := []) (ep := ep) (DD := (· = s.drawn)) (hD := rfl) (xs := []) (hh := rfl) (v := V0) (d := D') (hv := ⟨_, (N9 _ List.mem_cons_self).1, rfl, rfl⟩) (by k_asm) (by k_asm)
    (fun i m₁ nw => nw = _) ?hS rfl ?step ?hR
  case hS =>
    rintro i m nw rfl
    exact ⟨o', by k_mem, hK⟩
  case step =>
    intro I gg tk2
    unfold TurnX
    intro i v ex o nw h tk dr oI E' hdr hi
    exact absurd hi (Nat.not_lt_zero _)
  case hR =>
    rintro h2 tk2 dr o news' hdr F1 N1 rfl
    dsimp only [canonL, List.foldr] at F1 N1
    subst hdr
    clear N8 N9 F8 F9
    k_steps
    rename_i hA1 tA1 tB1 kA1 D9 hA2 a1 a2 a3 a4 a5 hA3 F8 N8 F9 N9 T9 kX
    have ej : Txt.join (Str.ofString "; ") [txt f x] = txt f x := rfl
    rw [ej] at N9
    refine hret D9 _ _ tn tB1 (by k_asm) (News.sub N9 ?_) ⟨Nat.ne_of_lt a4, off1_of (allLt_ne a5 (Nat.le_refl _))⟩
    intro q hq
    simp only [List.mem_cons] at hq ⊢
    rcases hq with h | h | h <;> simp [h]
end

section
theorem beq_eq_decide (i j : _root_.Fin 4) : (i == j) = decide (i = j) := by cases h : decide (i = j) <;> simp_all
set_option maxRecDepth 100000 in
set_option maxHeartbeats 8000000 in
theorem c_getall : ∀ {w : World} {mean : ExcName → Option Value} {mg mb : Str → Option Value} {p : Program} {loose : List Str} {dp un : Nat} {gd : Option (List Code)} {cn : Str} {cs : Scope} {a : Addr} {ccd : Value} {cl : List (Str × Addr)} {outer : List Env} {A₀ : Around} {base h₀ : Heap} {L : Addr} {m : Str → Option Value} {s : Shared} {Q E : Value → Shared → Prop} (B : Below A₀ base outer h₀) (F : Fr h₀ L s.heap m) (X : (K w.params).In h₀) (T : Top p loose mean mg mb h₀) (hk : cs.kind = .function)
  (news : List (Addr × Obj)) (N : News h₀ L s.heap news) (hd : dp + 20 < recursionLimit) (hu : un + 160 < cLine)
  (t d l : Addr) (n1 n2 : Nat) (vs : List Value) (rows : List Row) (tk1 tn : Tok) (u : Bool) (pl : Fin 4)
  (hTt : (t, instObj 182 d) ∈ news) (hTd : (d, dictOf [⟨PyData.keyHash w.params "_headers", .str "_headers" tk1, .ref l⟩] n1) ∈ news)
  (hTl : (l, ({ cls := .type "list", data := .seq vs.toArray n2 } : Obj)) ∈ news) (hR : RowsIn news rows vs) (hlen : vs.length ≤ 100)
  (hret : ∀ D h' tk' ys, Fr h₀ L h' m → News h₀ L h' ((D, LCg.lst ys) :: news) → LCg.Off1 D news → All2 IsS ((rows.filter (·.p = pl)).map fun r => txt r.f r.w) ys → Q (.ref D) { s with heap := h', toks := tk' }),
  wpAny (model PySem.Challenge.rw_pm0082_01.row.toRowW.prog w) (ktrTop dp un gd cn cs L a ccd cl outer) (call (.ref 121) [.ref t, .str (nm u pl) tn]) Q E s := by
  w_top off
  k_fill
  intro w mean mg mb p loose dp un gd cn cs a ccd cl outer A₀ base h₀ L m s Q E B F X T hk news N hd hu t d l n1 n2 vs rows tk1 tn u pl hTt hTd hTl hR hlen hret
  have hplain := plain_low pl
  refine wpAny_call ?_
  k_dflt (refine' code_defC ?k1 ?k2 ?k3 ?k4 ?k5 ?kA ?kF ?kK ?k6 ?k7 ?k8 ?k9 ?kB ?kD ?_ ?c2 ?c3 ?c4; (case kA => exact rfl); (case kF => exact rfl); (case kK => assumption); (case k1 => k_asm); (case k2 => k_asm); (case k3 => k_asm); (case k4 => k_asm); (case k5 => k_asm); (case k6 => k_is); (case k7 => k_is); (case k8 => ktr_room); (case k9 => first | exact BindsTo.of_eq rfl | exact binds_K (by k_in) rfl (by k_is) rfl rfl rfl); (case kB => exact rfl); (case kD => decide +kernel); (case c2 => exact rfl); (case c3 => exact rfl); (case c4 => exact rfl); k_whole; intro g' L' h' tk' cells' FG' F' N' Y' B' X' T' l1; (refine letF F' ?_); (clear F'); (intro mF F'); (refine hideG fun GG hGG => ?_); (have hAL := allLt_of l1); (try k_lt l1); (repeat (replace hAL := And.right hAL)); k_cells Y'; (try simp only [List.cons_append, List.nil_append] at N'); (refine hGG ?_); (clear hGG GG); (try kfm_turns); (try k_lift B'); (try k_fold); (refine letA ?_); (intro A9))
  k_steps
  k_dflt (refine LCt.CompSrcT.ledger (hh := rfl) (by k_asm) (by k_asm) (by k_mem) ?_ ?_)
  · rw [List.size_toArray]; exact Nat.le_trans hlen (by decide +kernel)
  intro gg
  refine restT_same (RR := RowV news) (RS := IsS) (as := rows) (fun r => decide (r.p = pl)) (fun r => txt r.f r.w) hR (.inr ⟨_, by k_mem, rfl, _, rfl⟩) ?_ ?_ ?_
  · intro pp1 v ys pp2 I oI C oC D m₂ h tk E' a1 a2 a3 a4 a5 a6
    refine hideG fun GG hGG => ?_
    obtain ⟨u, p, f, x⟩ := pp1
    obtain ⟨T, t1, t2, n, rfl, hT, hsm⟩ := pp2
    refine hGG ?_
    clear hGG GG
    k_steps
    · rw [low_inj]; exact beq_eq_decide p pl
    · exact ⟨_, _, rfl, by k_asm, by k_asm⟩
  · intro pp3 v ys pp4 I oI C oC D m₂ h tk E' a1 a2 a3 a4 a5 a6
    refine hideG fun GG hGG => ?_
    obtain ⟨u, p, f, x⟩ := pp3
    obtain ⟨T, t1, t2, n, rfl, hT, hsm⟩ := pp4
    refine hGG ?_
    clear hGG GG
    k_steps
    · exact ⟨_, rfl⟩
    · exact ⟨_, _, rfl, by k_asm, by k_asm⟩
  · intro ys hys
    k_steps
    exact hret _ _ _ _ (by k_asm) (News.drop2 (by k_asm)) (by assumption) hys
end

section
set_option maxRecDepth 100000 in
set_option maxHeartbeats 1000000 in
theorem c_del : ∀ {w : World} {mean : ExcName → Option Value} {mg mb : Str → Option Value} {p : Program} {loose : List Str} {dp un : Nat} {gd : Option (List Code)} {cn : Str} {cs : Scope} {a : Addr} {ccd : Value} {cl : List (Str × Addr)} {outer : List Env} {A₀ : Around} {base h₀ : Heap} {L : Addr} {m : Str → Option Value} {s : Shared} {Q E : Value → Shared → Prop} (B : Below A₀ base outer h₀) (F : Fr h₀ L s.heap m) (X : (K w.params).In h₀) (T : Top p loose mean mg mb h₀) (hk : cs.kind = .function)
  (news : List (Addr × Obj)) (N : News h₀ L s.heap news) (hd : dp + 20 < recursionLimit) (hu : un + 160 < cLine)
  (t d l : Addr) (n1 kk : Nat) (vs : List Value) (rest0 : List (Addr × Obj)) (e0 : news = (l, W.listOf vs.toArray kk) :: rest0) (hoff : LCg.Off1 l rest0) (rows : List Row) (tk1 tn : Tok) (u : Bool) (pl : Fin 4)
  (hTt : (t, instObj 182 d) ∈ rest0) (hTd : (d, dictOf [⟨PyData.keyHash w.params "_headers", .str "_headers" tk1, .ref l⟩] n1) ∈ rest0) (rt : List (Addr × Obj)) (hrt : ∀ p ∈ rt, p ∈ rest0) (hR : RowsIn rt rows vs) (hlen : vs.length ≤ 100)
  (hret : ∀ h' tk' vs' kk', Fr h₀ L h' m → News h₀ L h' ((l, W.listOf vs'.toArray kk') :: rest0) → RowsIn rt (rows.filter (·.p ≠ pl)) vs' → vs'.length ≤ vs.length → Q .none { s with heap := h', toks := tk' }),
  wpAny (model PySem.Challenge.rw_pm0082_01.row.toRowW.prog w) (ktrTop dp un gd cn cs L a ccd cl outer) (call (.ref 102) [.ref t, .str (nm u pl) tn]) Q E s := by
  w_top off
  k_fill
  intro w mean mg mb p loose dp un gd cn cs a ccd cl outer A₀ base h₀ L m s Q E B F X T hk news N hd hu t d l n1 kk vs rest0 e0 hoff rows tk1 tn u pl hTt hTd rt hrt hR hlen hret
  subst e0
  have hplain := plain_low pl
  refine wpAny_call ?_
  k_dflt (refine' code_defC ?k1 ?k2 ?k3 ?k4 ?k5 ?kA ?kF ?kK ?k6 ?k7 ?k8 ?k9 ?kB ?kD ?_ ?c2 ?c3 ?c4; (case kA => exact rfl); (case kF => exact rfl); (case kK => assumption); (case k1 => k_asm); (case k2 => k_asm); (case k3 => k_asm); (case k4 => k_asm); (case k5 => k_asm); (case k6 => k_is); (case k7 => k_is); (case k8 => ktr_room); (case k9 => first | exact BindsTo.of_eq rfl | exact binds_K (by k_in) rfl (by k_is) rfl rfl rfl); (case kB => exact rfl); (case kD => decide +kernel); (case c2 => exact rfl); (case c3 => exact rfl); (case c4 => exact rfl); k_whole; intro g' L' h' tk' cells' FG' F' N' Y' B' X' T' l1; (refine letF F' ?_); (clear F'); (intro mF F'); (refine hideG fun GG hGG => ?_); (have hAL := allLt_of l1); (try k_lt l1); (repeat (replace hAL := And.right hAL)); k_cells Y'; (try simp only [List.cons_append, List.nil_append] at N'); (refine hGG ?_); (clear hGG GG); (try kfm_turns); (try k_lift B'); (try k_fold); (refine letA ?_); (intro A9))
  k_steps
  k_dflt (refine LCt.CompSrcT.ledger (hh := rfl) (by k_asm) (by k_asm) (by k_mem) ?_ ?_)
  · rw [List.size_toArray]; exact Nat.le_trans hlen (by decide +kernel)
  intro gg
  refine restT_same (RR := RowV rt) (RS := RowV rt) (as := rows) (fun r => decide (r.p ≠ pl)) (fun r => r) hR (.inr ⟨_, by k_mem, rfl, _, rfl⟩) ?_ ?_ ?_
  · intro pp1 v ys pp2 I oI C oC D m₂ h tk E' a1 a2 a3 a4 a5 a6
    refine hideG fun GG hGG => ?_
    obtain ⟨u, p, f, x⟩ := pp1
    obtain ⟨T, t1, t2, n, rfl, hT0, hsm⟩ := pp2
    refine hGG ?_
    clear hGG GG
    have hT := hrt _ hT0
    k_steps
    · show (!(low p == low pl)) = decide (p ≠ pl)
      rw [low_inj, decide_not]
      congr 1
    · exact ⟨_, _, rfl, by k_asm, by k_asm⟩
  · intro pp3 v ys pp4 I oI C oC D m₂ h tk E' a1 a2 a3 a4 a5 a6
    refine hideG fun GG hGG => ?_
    obtain ⟨u, p, f, x⟩ := pp3
    obtain ⟨T, t1, t2, n, rfl, hT0, hsm⟩ := pp4
    refine hGG ?_
    clear hGG GG
    have hT := hrt _ hT0
    k_steps
    · exact ⟨T, t1, t2, n, rfl, hT0, hsm⟩
    · exact ⟨_, _, rfl, by k_asm, by k_asm⟩
  · intro ys hys
    rw [List.map_id'] at hys
    k_steps
    rename_i q1 oN dN tN g1 tk1 g2 oN2 F2 N2 dN2 D9 g3 tk3 F3 N3 a1 a2 a3
    have hyl : ys.length ≤ vs.length := by
      rw [← hys.length, ← hR.length]
      exact List.length_filter_le _ _
    have F9 := F3.push ({ cls := .type "slice", data := .fields #[.none, .none, .none] } : Obj)
    have N9 := N3.grown fun _ _ e => Heap.get?_push_of_some ({ cls := .type "slice", data := .fields #[.none, .none, .none] } : Obj) e
    refine set_all (vs := vs) (new := ys) (n := kk) (D := D9) F9 N9 (by k_updF) ⟨_, (N9 _ List.mem_cons_self).1, rfl, _, rfl⟩ (Heap.IsSliceOf.new _ _ _ _) a2 (by omega) (by omega) ?_
    intro h9 n9 F8 N8
    (try dsimp only at N8)
    k_steps
    exact hret _ _ ys n9 (by k_asm) (News.tl (News.tl (by k_asm))) hys hyl
end

section
set_option maxRecDepth 100000 in
set_option maxHeartbeats 1000000 in
theorem c_dpos : ∀ {w : World} {mean : ExcName → Option Value} {mg mb : Str → Option Value} {p : Program} {loose : List Str} {dp un : Nat} {gd : Option (List Code)} {cn : Str} {cs : Scope} {a : Addr} {ccd : Value} {cl : List (Str × Addr)} {outer : List Env} {A₀ : Around} {base h₀ : Heap} {L : Addr} {m : Str → Option Value} {s : Shared} {Q E : Value → Shared → Prop} (B : Below A₀ base outer h₀) (F : Fr h₀ L s.heap m) (X : (K w.params).In h₀) (T : Top p loose mean mg mb h₀) (hk : cs.kind = .function) (C2 : CodeHd base 228 224) (C3 : CodeHd base 235 231)
  (news : List (Addr × Obj)) (N : News h₀ L s.heap news) (hd : dp + 120 < recursionLimit) (hu : un + 5700 < cLine)
  (o1 o2 : Obj) (rest0 : List (Addr × Obj)) (e0 : news = (224, o1) :: (231, o2) :: rest0) (hoffA : LCg.Off1 224 rest0) (hoffB : LCg.Off1 231 rest0) (tt : List (Addr × Obj)) (hts : ∀ p ∈ tt, p ∈ rest0) (T1 : TabOk 185 4 "_int2digits.<locals>.inner" o1 tt) (T2 : TabOk 200 4 "_digits2int.<locals>.inner" o2 tt)
  (x y : Int) (t1 t2 : Tok) (hx : 0 ≤ x ∧ Small x) (hy : 0 < y ∧ y < 1000000)
  (hret : ∀ T h' tk' o1' o2' ext t1 t2, Fr h₀ L h' m → News h₀ L h' ((T, { cls := .type "tuple", data := .seq #[.int (x / y) t1, .int (x % y) t2] }) :: (224, o1') :: (231, o2') :: (ext ++ rest0)) → LCg.Off1 T ((224, o1) :: (231, o2) :: (ext ++ rest0)) →
     (∀ q ∈ ext, LCg.Off1 q.1 ((224, o1) :: (231, o2) :: rest0)) → TabOk 185 4 "_int2digits.<locals>.inner" o1' (ext ++ tt) → TabOk 200 4 "_digits2int.<locals>.inner" o2' (ext ++ tt) → Q (.ref T) { s with heap := h', toks := tk' }),
  wpAny (model PySem.Challenge.rw_pm0082_01.row.toRowW.prog w) (ktrTop dp un gd cn cs L a ccd cl outer) (call (.ref 243) [.int x t1, .int y t2]) Q E s := by
  w_top off
  have in_c13 := Tag.mk
  k_with "call ref" => (guard_hyp in_c13; (k_here; refine openSeal ?_))
  k_with "binaryOp LShift int int" => (guard_hyp in_c13; (k_here; refine openSeal ?_))
  k_fill
  intro w mean mg mb p loose dp un gd cn cs a ccd cl outer A₀ base h₀ L m s Q E B F X T hk C2 C3 news N hd hu o1 o2 rest0 e0 hoffA hoffB tt hts T1 T2 x y t1 t2 hx hy hret
  subst e0
  have hn20 : Builtin.Int.intBits y ≤ 20 := intBits_le_iff.mpr (show y.natAbs < 1048576 by lia)
  have hn1 : 1 ≤ Builtin.Int.intBits y := by
    rcases Nat.eq_zero_or_pos (Builtin.Int.intBits y) with h | h
    · have := intBits_le_iff.mp (Nat.le_of_eq h)
      lia
    · exact h
  refine wpAny_call ?_
  k_dflt (refine' code_def ?k1 ?k2 ?k3 ?k4 ?k5 ?kA ?kF ?kK ?k6 ?k7 ?k8 ?k9 ?kB ?_ ?c2 ?c3 ?c4 ?c5; (case kA => exact rfl); (case kF => exact rfl); (case kK => assumption); (case k1 => k_asm); (case k2 => k_asm); (case k3 => k_asm); (case k4 => k_asm); (case k5 => k_asm); (case k6 => k_is); (case k7 => k_is); (case k8 => ktr_room); (case k9 => first | exact BindsTo.of_eq rfl | exact binds_K (by k_in) rfl (by k_is) rfl rfl rfl); (case c5 => decide); (case kB => exact locs rfl); (case c2 => exact rfl); (case c3 => exact rfl); (case c4 => exact rfl); k_whole; intro g' L' h' FG' F' N' B' X' T'; (refine letF F' ?_); (clear F'); (intro mF F'); (try kfm_turns); (try k_lift B'); (try k_fold); (refine letA ?_); (intro A9))
  k_steps
  unfold Sealed
  k_dflt (refine' c_i2d ?k1 ?k2 ?k3 ?k4 ?k5 ?kC2 _ ?k6 ?k7 ?k8 _ _ rfl ?kO tt ?kTs ?kT x (Builtin.Int.intBits y) _ _ hx ⟨hn1, hn20⟩ ?_; (case k1 => k_asm); (case k2 => k_asm); (case k3 => k_asm); (case k4 => k_asm); (case k5 => first | exact rfl | assumption); (case kC2 => kn_code); (case k6 => k_asm); (case k7 => ktr_room); (case k8 => ktr_units); (case kO => exact ⟨by show (231 : Nat) ≠ 224; decide, hoffA⟩); (case kTs => exact fun p hp => List.mem_cons_of_mem _ (hts p hp)); (case kT => exact T1); k_whole)
  intro D0 h1 tk1 o1' ext ys kd ds hA1 hD1 hys F1 N1 oD oE T1'
  dsimp only
  k_steps
  rename_i g1 g2 g3 l0 g4 a1 a2 g5 I0 g6 F2 N2 b1 b2 b3
  refine nameL (ext ++ (224, o1') :: (231, o2) :: rest0) fun led hled => ?_
  rw [← hled] at N2 a2 b3
  have oDl : LCg.Off1 D0 led := by
    rw [hled]
    refine off1_of fun q hq => ?_
    rcases List.mem_append.mp hq with h | h
    · exact off1_mem oD q (by simp [h])
    · rcases List.mem_cons.mp h with rfl | h
      · exact off1_mem oD (224, o1) (by simp)
      · exact off1_mem oD q (by simp only [List.mem_cons, List.mem_append] at h ⊢; rcases h with h | h <;> simp [h])
  have hal : LCg.Off1 l0 led := off1_of (allLt_ne a2 (Nat.le_refl _))
  have hbl : LCg.Off1 I0 led := off1_of (allLt_ne b3 (Nat.le_refl _))
  have hdl : ds.length = ys.size := by rw [hA1.length, Array.length_toList]
  refine src_rev (DD := (· = s.drawn)) (hD := rfl) (xs := [Str.ofString "r", Str.ofString "a_digit", Str.ofString "q_digit"]) (I := I0) (ax := D0) (its := ys) (hh := rfl) ?go (by k_asm) (news := (l0, W.listOf #[] 0) :: (D0, W.listOf ys kd) :: led) (by k_asm) (by rw [Array.length_toList]) ⟨Nat.ne_of_lt b1, Nat.ne_of_lt b2, hbl⟩
    (J := fun i m₁ nw => Ex5 fun rv tr qs qv kq => Co7 (m₁ (Str.ofString "r") = some (.int rv tr)) (nw = (l0, W.listOf qs kq) :: (D0, W.listOf ys kd) :: led) (All2 IsI qv qs.toList) (qs.size = i) ((0 ≤ rv ∧ rv < y)) ((∀ q ∈ qv, 0 ≤ q)) (valN (2 ^ (Builtin.Int.intBits y)) qv.reverse * y + rv = valN (2 ^ (Builtin.Int.intBits y)) (ds.drop (ds.length - i)))) ?hS ?h0 (Nat.ne_of_lt b2) ?step ?hR
  case go =>
    intro v I s Q E hQ
    exact wpAny_pure hQ
  case hS =>
    intro i m nw pp1
    refine hideG fun GG hGG => ?_
    obtain ⟨rv, tr, qs, qv, kq, hr, rfl, _⟩ := pp1
    refine hGG ?_
    clear hGG GG
    exact .inr ⟨_, by k_mem, rfl, _, rfl⟩
  case h0 =>
    refine ⟨0, _, #[], [], 0, rfl, rfl, All2.nil, rfl, ⟨by lia, by lia⟩, fun q hq => absurd hq List.not_mem_nil, ?_⟩
    rw [Nat.sub_zero, List.drop_length]
    simp [valN]
  case step =>
    unfold TurnX
    intro i v ex o nw h tk dr oI E' hdr hi pp2 pp3 F3 N3 oo1 oo2
    refine hideG fun GG hGG => ?_
    obtain ⟨hv, rfl⟩ := pp2
    obtain ⟨rv, tr, qs, qv, kq, hr, rfl, hqv, hqs, hrv, hqn, hval⟩ := pp3
    dsimp only [canonL, List.foldr, List.nil_append] at F3 N3 oo1
    simp only [canonL, List.foldr, List.nil_append, if_true] at hr
    refine hGG ?_
    clear hGG GG
    rw [hr] at F3
    subst hdr
    refine hideG fun GG hGG => ?_
    obtain ⟨d, hd9, td, rfl⟩ := hA1.get' (i := ys.size - 1 - i) (b := v) (by simpa using hv)
    have hdb := hD1.2 d (List.mem_of_getElem? hd9)
    have hB : (2 : Int) ^ (Builtin.Int.intBits y) ≤ 1048576 := by
      have h1 : 2 ^ (Builtin.Int.intBits y) ≤ 2 ^ 20 := Nat.pow_le_pow_right (by decide) hn20
      have h2 : ((2 ^ (Builtin.Int.intBits y) : Nat) : Int) = 2 ^ (Builtin.Int.intBits y) := Int.natCast_pow 2 _
      have h3 : (2 : Nat) ^ 20 = 1048576 := by decide
      lia
    have hB0 := two_pos (Builtin.Int.intBits y)
    have hmul0 : 0 ≤ rv * 2 ^ (Builtin.Int.intBits y) := Int.mul_nonneg hrv.1 (Int.le_of_lt hB0)
    have hmul1 : rv * 2 ^ (Builtin.Int.intBits y) ≤ 1000000 * 1048576 := Int.mul_le_mul (by lia) hB (Int.le_of_lt hB0) (by decide)
    have hqs2 : qs.size ≤ sizeLine := Nat.le_trans (by lia : qs.size ≤ 50) (by decide +kernel)
    have hqs1 : qs.size ≤ 100 := by lia
    obtain ⟨hI1, hI2, hI3⟩ := oo1
    refine hGG ?_
    clear hGG GG
    dsimp only at hI1 hI2
    k_steps
    unfold Sealed
    refine lsh_to (c := rv * 2 ^ (Builtin.Int.intBits y)) (by lia) (by lia) (by lia) (by rw [Int.toNat_natCast]) ?_
    k_steps
    unfold Sealed
    k_dflt (refine' c_d2n ?k1 ?k2 ?k3 ?k4 ?k5 _ ?k6 ?k7 ?k8 (rv * 2 ^ (Builtin.Int.intBits y) + d) y _ _ _ _ ?e1 hy ?e2 ?_; (case k1 => k_asm); (case k2 => k_asm); (case k3 => k_asm); (case k4 => k_asm); (case k5 => first | exact rfl | assumption); (case k6 => k_asm); (case k7 => ktr_room); (case k8 => ktr_units); (case e1 => constructor <;> lia); (case e2 => lia); k_whole)
    intro T9 h9 tk9 u1 u2 F9 N9 o9
    refine hideG fun GG hGG => ?_
    obtain ⟨o9a, o9b, o9c, o9d⟩ := o9
    refine hGG ?_
    clear hGG GG
    dsimp only at o9a o9b o9c
    dsimp only
    k_steps
    rename_i k1 k2 k3 k4 k5 k6 F8 N8
    refine ⟨_, _, _, _, _, rfl, rfl, F8, News.tl N8, ⟨hI1, hI2, hI3⟩, ⟨by (intro y hy; first | ((repeat (first | refine agree_l hy (by k_mem) ?_ | refine agree_r hy (by k_mem) ?_)); exact rfl) | (simp only [List.mem_cons, List.not_mem_nil, or_false, not_or] at hy; simp only [hy, if_false])), (rv * 2 ^ (Builtin.Int.intBits y) + d) % y, u2, qs.push (.int ((rv * 2 ^ (Builtin.Int.intBits y) + d) / y) u1), qv ++ [(rv * 2 ^ (Builtin.Int.intBits y) + d) / y], kq + 1, rfl, rfl, ?_, ?_, ⟨Int.emod_nonneg _ (by lia), Int.emod_lt_of_pos _ hy.1⟩, ?_, ?_⟩⟩
    · rw [Array.toList_push]
      exact All2.snoc hqv ⟨_, rfl⟩
    · rw [Array.size_push, hqs]
    · intro q hq
      rcases List.mem_append.mp hq with h | h
      · exact hqn q h
      · rw [List.mem_singleton.mp h]
        exact Int.ediv_nonneg (by lia) (by lia)
    · have hlt : ds.length - (i + 1) < ds.length := by lia
      have e1 : ds.drop (ds.length - (i + 1)) = d :: ds.drop (ds.length - i) := by
        rw [List.drop_eq_getElem_cons hlt, show ds.length - (i + 1) + 1 = ds.length - i by lia]
        congr 1
        rw [show ys.size - 1 - i = ds.length - (i + 1) by lia] at hd9
        rw [List.getElem?_eq_getElem hlt] at hd9
        exact Option.some.inj hd9
      rw [e1, List.reverse_append, List.reverse_singleton, List.singleton_append, valN, valN, ← hval, Int.add_mul, Int.mul_add, Int.mul_assoc, Int.mul_comm _ rv]
      have h3 := Int.mul_ediv_add_emod (rv * 2 ^ (Builtin.Int.intBits y) + d) y
      have h4 := Int.mul_comm y ((rv * 2 ^ (Builtin.Int.intBits y) + d) / y)
      lia
  case hR =>
    intro h2 tk2 dr o news' hdr F3 N3 pp4
    refine hideG fun GG hGG => ?_
    obtain ⟨rv, tr, qs, qv, kq, hr, rfl, hqv, hqs, hrv, hqn, hval⟩ := pp4
    dsimp only [canonL, List.foldr, List.nil_append] at F3 N3
    simp only [canonL, List.foldr, List.nil_append, if_true] at hr
    refine hGG ?_
    clear hGG GG
    rw [hr] at F3
    subst hdr
    rw [show ds.length - ys.size = 0 by lia, List.drop_zero, hD1.1] at hval
    have hqz : qs.toList.length ≤ 50 := by rw [Array.length_toList]; lia
    k_steps
    refine kl_reverse (its := qs) (l := qs.toList.reverse) (by k_asm) (by k_asm) rfl (by k_upd) (Nat.le_trans hqz (by decide +kernel)) ?_
    intros
    rename_i hr1 Fr1 Nr1
    have hm231 : ((231, o2) : Addr × Obj) ∈ led := by rw [hled]; simp
    have hext : LCg.Off1 231 ext := off1_swap oE (o := o2) (by simp)
    have hV0 := valN_nn (B := 2 ^ (Builtin.Int.intBits y)) (Int.le_of_lt (two_pos _)) (a := qv.reverse) (fun d hd => hqn d (List.mem_reverse.mp hd))
    have hVx := le_of_mul hval hrv.1 (by lia) hV0
    obtain ⟨hq1, hq2⟩ := divmod_of hval hrv.1 hrv.2
    have hsm := hx.2
    unfold Small at hsm
    have hqvl := hqv.length
    have hsubs : ∀ p ∈ (231, o2) :: (l0, W.listOf qs.toList.reverse.toArray kq) :: (D0, W.listOf ys kd) :: (224, o1') :: (ext ++ rest0), p ∈ (l0, W.listOf qs.toList.reverse.toArray kq) :: (D0, W.listOf ys kd) :: led := by
      intro q hq
      rw [hled]
      simp only [List.mem_cons, List.mem_append] at hq ⊢
      rcases hq with h | h | h | h | h | h <;> simp [h]
    k_steps
    unfold Sealed
    k_dflt (refine' c_d2i ?k1 ?k2 ?k3 ?k4 ?k5 ?kC3 ((231, o2) :: (l0, W.listOf qs.toList.reverse.toArray kq) :: (D0, W.listOf ys kd) :: (224, o1') :: (ext ++ rest0)) ?k6 ?k7 ?k8 _ _ rfl ?kO tt ?kTs ?kT l0 qs.toList.reverse kq qv.reverse (Builtin.Int.intBits y) _ ?km ?kI ?kn ?kx ?kl ⟨hn1, hn20⟩ ?_; (case k1 => k_asm); (case k2 => k_asm); (case k3 => k_asm); (case k4 => k_asm); (case k5 => first | exact rfl | assumption); (case kC3 => kn_code); (case k6 => exact News.sub Nr1 hsubs); (case k7 => ktr_room); (case k8 => ktr_units); (case kO => exact ⟨Ne.symm (off1_mem hal _ hm231), Ne.symm (off1_mem oDl _ hm231), by show (224 : Nat) ≠ 231; decide, off1_append hext hoffB⟩); (case kTs => exact fun p hp => by simp [hts p hp]); (case kT => exact T2); (case km => k_mem); (case kI => exact ints_of (All2.reverse hqv)); (case kn => exact fun d hd => hqn d (List.mem_reverse.mp hd)); (case kx => lia); (case kl => rw [List.length_reverse]; lia); k_whole)
    intro t9 h9 tk9 o2' ext2 F9 N9 oE2 T3'
    dsimp only
    k_steps
    rename_i w1 w2 D9 w3 F8 N8 l8 F7 N7 T7 X7
    rw [← hq1, ← hq2] at N7
    refine hret D9 _ _ o1' o2' (ext2 ++ ext) t9 tr F7 (News.sub N7 ?_) (off1_of fun q hq => Nat.ne_of_lt ?_) (fun q hq => off1_of fun r hr => ?_) (TabOk.mono ?_ T1') (TabOk.mono ?_ T3')
    · intro q hq
      simp only [List.mem_cons, List.mem_append] at hq ⊢
      rcases hq with h | h | h | (h | h) | h <;> simp [h]
    · have h1 : ∀ p ∈ ext2 ++ (231, o2') :: (l0, W.listOf qs.toList.reverse.toArray kq) :: (D0, W.listOf ys kd) :: (224, o1') :: (ext ++ rest0), p.1 < D9 := l8
      simp only [List.mem_cons, List.mem_append] at hq
      rcases hq with rfl | rfl | (h | h) | h
      · exact h1 (224, o1') (by simp)
      · exact h1 (231, o2') (by simp)
      · exact h1 q (by simp [h])
      · exact h1 q (by simp [h])
      · exact h1 q (by simp [h])
    · rcases List.mem_append.mp hq with h | h
      · have h1 := oE2 q h
        simp only [List.mem_cons] at hr
        rcases hr with rfl | rfl | hr
        · exact off1_mem h1 (224, o1') (by simp)
        · exact off1_mem h1 (231, o2) (by simp)
        · exact off1_mem h1 r (by simp [hr])
      · exact off1_mem (oE q h) r hr
    · intro q hq
      simp only [List.mem_append] at hq ⊢
      rcases hq with h | h <;> simp [h]
    · intro q hq
      simp only [List.mem_append] at hq ⊢
      rcases hq with h | h <;> simp [h]
end

section
theorem neg_divmod {x y : Int} (hy : 0 < y) : x / y = -((-x - 1) / y) - 1 ∧ x % y = y + (-((-x - 1) % y) - 1) := by
  have h1 := Int.mul_ediv_add_emod (-x - 1) y
  have h2 := Int.emod_nonneg (-x - 1) (show y ≠ 0 by omega)
  have h3 := Int.emod_lt_of_pos (-x - 1) hy
  refine (Int.ediv_emod_unique hy).mpr ⟨?_, by omega, by omega⟩
  rw [Int.mul_sub, Int.mul_neg, Int.mul_one]
  omega

set_option maxRecDepth 100000 in
set_option maxHeartbeats 1000000 in
theorem c_idm0 : ∀ {w : World} {mean : ExcName → Option Value} {mg mb : Str → Option Value} {p : Program} {loose : List Str} {dp un : Nat} {gd : Option (List Code)} {cn : Str} {cs : Scope} {a : Addr} {ccd : Value} {cl : List (Str × Addr)} {outer : List Env} {A₀ : Around} {base h₀ : Heap} {L : Addr} {m : Str → Option Value} {s : Shared} {Q E : Value → Shared → Prop} (B : Below A₀ base outer h₀) (F : Fr h₀ L s.heap m) (X : (K w.params).In h₀) (T : Top p loose mean mg mb h₀) (hk : cs.kind = .function) (C2 : CodeHd base 228 224) (C3 : CodeHd base 235 231)
  (news : List (Addr × Obj)) (N : News h₀ L s.heap news) (hd : dp + 130 < recursionLimit) (hu : un + 5800 < cLine)
  (o1 o2 : Obj) (rest0 : List (Addr × Obj)) (e0 : news = (224, o1) :: (231, o2) :: rest0) (hoffA : LCg.Off1 224 rest0) (hoffB : LCg.Off1 231 rest0) (tt : List (Addr × Obj)) (hts : ∀ p ∈ tt, p ∈ rest0) (T1 : TabOk 185 4 "_int2digits.<locals>.inner" o1 tt) (T2 : TabOk 200 4 "_digits2int.<locals>.inner" o2 tt)
  (x y : Int) (t1 t2 : Tok) (hx : Small x) (hxy : 0 ≤ x ∧ 0 < y ∧ y < 1000000)
  (hret : ∀ T h' tk' o1' o2' ext t1 t2, Fr h₀ L h' m → News h₀ L h' ((T, { cls := .type "tuple", data := .seq #[.int (x.fdiv y) t1, .int (x.fmod y) t2] }) :: (224, o1') :: (231, o2') :: (ext ++ rest0)) → LCg.Off1 T ((224, o1) :: (231, o2) :: (ext ++ rest0)) →
     (∀ q ∈ ext, LCg.Off1 q.1 ((224, o1) :: (231, o2) :: rest0)) → TabOk 185 4 "_int2digits.<locals>.inner" o1' (ext ++ tt) → TabOk 200 4 "_digits2int.<locals>.inner" o2' (ext ++ tt) → Q (.ref T) { s with heap := h', toks := tk' }),
  wpAny (model PySem.Challenge.rw_pm0082_01.row.toRowW.prog w) (ktrTop dp un gd cn cs L a ccd cl outer) (call (.ref 250) [.int x t1, .int y t2]) Q E s := by
  w_top off
  have in_c14 := Tag.mk
  k_with "call ref" => (guard_hyp in_c14; (k_here; refine openSeal ?_))
  k_fill
  intro w mean mg mb p loose dp un gd cn cs a ccd cl outer A₀ base h₀ L m s Q E B F X T hk C2 C3 news N hd hu o1 o2 rest0 e0 hoffA hoffB tt hts T1 T2 x y t1 t2 hx hxy hret
  subst e0
  refine wpAny_call ?_
  k_dflt (refine' code_def ?k1 ?k2 ?k3 ?k4 ?k5 ?kA ?kF ?kK ?k6 ?k7 ?k8 ?k9 ?kB ?_ ?c2 ?c3 ?c4 ?c5; (case kA => exact rfl); (case kF => exact rfl); (case kK => assumption); (case k1 => k_asm); (case k2 => k_asm); (case k3 => k_asm); (case k4 => k_asm); (case k5 => k_asm); (case k6 => k_is); (case k7 => k_is); (case k8 => ktr_room); (case k9 => first | exact BindsTo.of_eq rfl | exact binds_K (by k_in) rfl (by k_is) rfl rfl rfl); (case c5 => decide); (case kB => exact locs rfl); (case c2 => exact rfl); (case c3 => exact rfl); (case c4 => exact rfl); k_whole; intro g' L' h' FG' F' N' B' X' T'; (refine letF F' ?_); (clear F'); (intro mF F'); (try kfm_turns); (try k_lift B'); (try k_fold); (refine letA ?_); (intro A9))
  k_steps
  any_goals (exfalso; omega)
  unfold Sealed
  k_dflt (refine' c_dpos ?k1 ?k2 ?k3 ?k4 ?k5 ?kC2 ?kC3 _ ?k6 ?k7 ?k8 _ _ _ rfl hoffA hoffB tt hts T1 T2 (x) (y) _ _ ?hx ?hxy ?_; (case k1 => k_asm); (case k2 => k_asm); (case k3 => k_asm); (case k4 => k_asm); (case k5 => first | exact rfl | assumption); (case kC2 => kn_code); (case kC3 => kn_code); (case k6 => k_asm); (case k7 => ktr_room); (case k8 => ktr_units); (case hx => exact ⟨hxy.1, hx⟩); (case hxy => exact hxy.2); k_whole)
  intro T9 h9 tk9 o1' o2' ext u1 u2 F9 N9 oT oE T1' T2'
  dsimp only
  rw [← Int.fdiv_eq_ediv_of_nonneg x (by omega), ← Int.fmod_eq_emod_of_nonneg x (by omega)] at N9
  k_steps
  exact hret T9 _ _ o1' o2' ext u1 u2 (by k_asm) (by k_asm) oT oE T1' T2'
set_option maxRecDepth 100000 in
set_option maxHeartbeats 1000000 in
theorem c_idm1 : ∀ {w : World} {mean : ExcName → Option Value} {mg mb : Str → Option Value} {p : Program} {loose : List Str} {dp un : Nat} {gd : Option (List Code)} {cn : Str} {cs : Scope} {a : Addr} {ccd : Value} {cl : List (Str × Addr)} {outer : List Env} {A₀ : Around} {base h₀ : Heap} {L : Addr} {m : Str → Option Value} {s : Shared} {Q E : Value → Shared → Prop} (B : Below A₀ base outer h₀) (F : Fr h₀ L s.heap m) (X : (K w.params).In h₀) (T : Top p loose mean mg mb h₀) (hk : cs.kind = .function) (C2 : CodeHd base 228 224) (C3 : CodeHd base 235 231)
  (news : List (Addr × Obj)) (N : News h₀ L s.heap news) (hd : dp + 150 < recursionLimit) (hu : un + 5900 < cLine)
  (o1 o2 : Obj) (rest0 : List (Addr × Obj)) (e0 : news = (224, o1) :: (231, o2) :: rest0) (hoffA : LCg.Off1 224 rest0) (hoffB : LCg.Off1 231 rest0) (tt : List (Addr × Obj)) (hts : ∀ p ∈ tt, p ∈ rest0) (T1 : TabOk 185 4 "_int2digits.<locals>.inner" o1 tt) (T2 : TabOk 200 4 "_digits2int.<locals>.inner" o2 tt)
  (x y : Int) (t1 t2 : Tok) (hx : Small x) (hxy : 0 < y ∧ y < 1000000)
  (hret : ∀ T h' tk' o1' o2' ext t1 t2, Fr h₀ L h' m → News h₀ L h' ((T, { cls := .type "tuple", data := .seq #[.int (x.fdiv y) t1, .int (x.fmod y) t2] }) :: (224, o1') :: (231, o2') :: (ext ++ rest0)) → LCg.Off1 T ((224, o1) :: (231, o2) :: (ext ++ rest0)) →
     (∀ q ∈ ext, LCg.Off1 q.1 ((224, o1) :: (231, o2) :: rest0)) → TabOk 185 4 "_int2digits.<locals>.inner" o1' (ext ++ tt) → TabOk 200 4 "_digits2int.<locals>.inner" o2' (ext ++ tt) → Q (.ref T) { s with heap := h', toks := tk' }),
  wpAny (model PySem.Challenge.rw_pm0082_01.row.toRowW.prog w) (ktrTop dp un gd cn cs L a ccd cl outer) (call (.ref 250) [.int x t1, .int y t2]) Q E s := by
  have in_c14 := Tag.mk
  k_fill
  intro w mean mg mb p loose dp un gd cn cs a ccd cl outer A₀ base h₀ L m s Q E B F X T hk C2 C3 news N hd hu o1 o2 rest0 e0 hoffA hoffB tt hts T1 T2 x y t1 t2 hx hxy hret
  subst e0
  have hbn : Builtin.bitNot x = -x - 1 := by unfold Builtin.bitNot; omega
  by_cases hneg : x < 0
  · refine wpAny_call ?_
    k_dflt (refine' code_def ?k1 ?k2 ?k3 ?k4 ?k5 ?kA ?kF ?kK ?k6 ?k7 ?k8 ?k9 ?kB ?_ ?c2 ?c3 ?c4 ?c5; (case kA => exact rfl); (case kF => exact rfl); (case kK => assumption); (case k1 => k_asm); (case k2 => k_asm); (case k3 => k_asm); (case k4 => k_asm); (case k5 => k_asm); (case k6 => k_is); (case k7 => k_is); (case k8 => ktr_room); (case k9 => first | exact BindsTo.of_eq rfl | exact binds_K (by k_in) rfl (by k_is) rfl rfl rfl); (case c5 => decide); (case kB => exact locs rfl); (case c2 => exact rfl); (case c3 => exact rfl); (case c4 => exact rfl); k_whole; intro g' L' h' FG' F' N' B' X' T'; (refine letF F' ?_); (clear F'); (intro mF F'); (try kfm_turns); (try k_lift B'); (try k_fold); (refine letA ?_); (intro A9))
    k_steps
    any_goals (exfalso; omega)
    unfold Sealed
    k_dflt (refine' c_idm0 ?k1 ?k2 ?k3 ?k4 ?k5 ?kC2 ?kC3 _ ?k6 ?k7 ?k8 _ _ _ rfl hoffA hoffB tt hts T1 T2 (Builtin.bitNot x) (y) _ _ ?hx ?hxy ?_; (case k1 => k_asm); (case k2 => k_asm); (case k3 => k_asm); (case k4 => k_asm); (case k5 => first | exact rfl | assumption); (case kC2 => kn_code); (case kC3 => kn_code); (case k6 => k_asm); (case k7 => ktr_room); (case k8 => ktr_units); (case hx => rw [hbn]; unfold Small at *; omega); (case hxy => exact ⟨by rw [hbn]; omega, hxy⟩); k_whole)
    intro T9 h9 tk9 o1' o2' ext u1 u2 F9 N9 oT oE T1' T2'
    dsimp only
    k_steps
    rename_i w1 w2 w3 D9 w4 F8 N8 l1 l2 l3 l4 F7 N7 T7 X7
    have e1 : ∀ z : Int, Builtin.bitNot z = -z - 1 := fun z => rfl
    obtain ⟨d1, d2⟩ := neg_divmod (x := x) hxy.1
    rw [hbn, Int.fdiv_eq_ediv_of_nonneg _ (Int.le_of_lt hxy.1), Int.fmod_eq_emod_of_nonneg _ (Int.le_of_lt hxy.1), e1, e1, ← d1, ← d2, ← Int.fdiv_eq_ediv_of_nonneg _ (Int.le_of_lt hxy.1), ← Int.fmod_eq_emod_of_nonneg _ (Int.le_of_lt hxy.1)] at N7
    exact hret D9 _ _ o1' o2' ext _ _ F7 (News.drop2 N7) ⟨Nat.ne_of_lt l2, Nat.ne_of_lt l3, off1_of (allLt_ne l4 (Nat.le_refl _))⟩ oE T1' T2'
  · exact c_idm0 B F X T hk C2 C3 _ N (by omega) (by omega) o1 o2 rest0 rfl hoffA hoffB tt hts T1 T2 x y t1 t2 hx ⟨by omega, hxy⟩ hret
set_option maxRecDepth 100000 in
set_option maxHeartbeats 1000000 in
theorem c_idm : ∀ {w : World} {mean : ExcName → Option Value} {mg mb : Str → Option Value} {p : Program} {loose : List Str} {dp un : Nat} {gd : Option (List Code)} {cn : Str} {cs : Scope} {a : Addr} {ccd : Value} {cl : List (Str × Addr)} {outer : List Env} {A₀ : Around} {base h₀ : Heap} {L : Addr} {m : Str → Option Value} {s : Shared} {Q E : Value → Shared → Prop} (B : Below A₀ base outer h₀) (F : Fr h₀ L s.heap m) (X : (K w.params).In h₀) (T : Top p loose mean mg mb h₀) (hk : cs.kind = .function) (C2 : CodeHd base 228 224) (C3 : CodeHd base 235 231)
  (news : List (Addr × Obj)) (N : News h₀ L s.heap news) (hd : dp + 170 < recursionLimit) (hu : un + 6000 < cLine)
  (o1 o2 : Obj) (rest0 : List (Addr × Obj)) (e0 : news = (224, o1) :: (231, o2) :: rest0) (hoffA : LCg.Off1 224 rest0) (hoffB : LCg.Off1 231 rest0) (tt : List (Addr × Obj)) (hts : ∀ p ∈ tt, p ∈ rest0) (T1 : TabOk 185 4 "_int2digits.<locals>.inner" o1 tt) (T2 : TabOk 200 4 "_digits2int.<locals>.inner" o2 tt)
  (x y : Int) (t1 t2 : Tok) (hx : Small x) (hxy : y ≠ 0 ∧ -1000000 < y ∧ y < 1000000)
  (hret : ∀ T h' tk' o1' o2' ext t1 t2, Fr h₀ L h' m → News h₀ L h' ((T, { cls := .type "tuple", data := .seq #[.int (x.fdiv y) t1, .int (x.fmod y) t2] }) :: (224, o1') :: (231, o2') :: (ext ++ rest0)) → LCg.Off1 T ((224, o1) :: (231, o2) :: (ext ++ rest0)) →
     (∀ q ∈ ext, LCg.Off1 q.1 ((224, o1) :: (231, o2) :: rest0)) → TabOk 185 4 "_int2digits.<locals>.inner" o1' (ext ++ tt) → TabOk 200 4 "_digits2int.<locals>.inner" o2' (ext ++ tt) → Q (.ref T) { s with heap := h', toks := tk' }),
  wpAny (model PySem.Challenge.rw_pm0082_01.row.toRowW.prog w) (ktrTop dp un gd cn cs L a ccd cl outer) (call (.ref 250) [.int x t1, .int y t2]) Q E s := by
  have in_c14 := Tag.mk
  k_fill
  intro w mean mg mb p loose dp un gd cn cs a ccd cl outer A₀ base h₀ L m s Q E B F X T hk C2 C3 news N hd hu o1 o2 rest0 e0 hoffA hoffB tt hts T1 T2 x y t1 t2 hx hxy hret
  subst e0
  by_cases hneg : y < 0
  · refine wpAny_call ?_
    k_dflt (refine' code_def ?k1 ?k2 ?k3 ?k4 ?k5 ?kA ?kF ?kK ?k6 ?k7 ?k8 ?k9 ?kB ?_ ?c2 ?c3 ?c4 ?c5; (case kA => exact rfl); (case kF => exact rfl); (case kK => assumption); (case k1 => k_asm); (case k2 => k_asm); (case k3 => k_asm); (case k4 => k_asm); (case k5 => k_asm); (case k6 => k_is); (case k7 => k_is); (case k8 => ktr_room); (case k9 => first | exact BindsTo.of_eq rfl | exact binds_K (by k_in) rfl (by k_is) rfl rfl rfl); (case c5 => decide); (case kB => exact locs rfl); (case c2 => exact rfl); (case c3 => exact rfl); (case c4 => exact rfl); k_whole; intro g' L' h' FG' F' N' B' X' T'; (refine letF F' ?_); (clear F'); (intro mF F'); (try kfm_turns); (try k_lift B'); (try k_fold); (refine letA ?_); (intro A9))
    k_steps
    any_goals (exfalso; omega)
    unfold Sealed
    k_dflt (refine' c_idm1 ?k1 ?k2 ?k3 ?k4 ?k5 ?kC2 ?kC3 _ ?k6 ?k7 ?k8 _ _ _ rfl hoffA hoffB tt hts T1 T2 (-x) (-y) _ _ ?hx ?hxy ?_; (case k1 => k_asm); (case k2 => k_asm); (case k3 => k_asm); (case k4 => k_asm); (case k5 => first | exact rfl | assumption); (case kC2 => kn_code); (case kC3 => kn_code); (case k6 => k_asm); (case k7 => ktr_room); (case k8 => ktr_units); (case hx => unfold Small at *; omega); (case hxy => omega); k_whole)
    intro T9 h9 tk9 o1' o2' ext u1 u2 F9 N9 oT oE T1' T2'
    dsimp only
    k_steps
    rename_i w1 w2 w3 D9 w4 F8 N8 l1 l2 l3 l4 F7 N7 T7 X7
    rw [Int.neg_fdiv_neg, Int.neg_fmod_neg, Int.neg_neg] at N7
    exact hret D9 _ _ o1' o2' ext _ _ F7 (News.drop2 N7) ⟨Nat.ne_of_lt l2, Nat.ne_of_lt l3, off1_of (allLt_ne l4 (Nat.le_refl _))⟩ oE T1' T2'
  · exact c_idm1 B F X T hk C2 C3 _ N (by omega) (by omega) o1 o2 rest0 rfl hoffA hoffB tt hts T1 T2 x y t1 t2 hx ⟨by omega, hxy.2.2⟩ hret
end

section
set_option maxRecDepth 100000 in
set_option maxHeartbeats 8000000 in
theorem c_inner : ∀ {w : World} {mean : ExcName → Option Value} {mg mb : Str → Option Value} {p : Program} {loose : List Str} {dp un : Nat} {gd : Option (List Code)} {cn : Str} {cs : Scope} {a : Addr} {ccd : Value} {cl : List (Str × Addr)} {outer : List Env} {A₀ : Around} {base h₀ : Heap} {L : Addr} {m : Str → Option Value} {s : Shared} {Q E : Value → Shared → Prop} (B : Below A₀ base outer h₀) (F : Fr h₀ L s.heap m) (X : (K w.params).In h₀) (T : Top p loose mean mg mb h₀) (hk : cs.kind = .function) (C1 : CodeHd base 200 196)
  (news : List (Addr × Obj)) (N : News h₀ L s.heap news) (hd : dp + 40 < recursionLimit) (hu : un + 400 < cLine)
  (o1 : Obj) (rest0 : List (Addr × Obj)) (e0 : news = (196, o1) :: rest0) (hoff : LCg.Off1 196 rest0) (tt : List (Addr × Obj)) (hts : ∀ p ∈ tt, p ∈ rest0) (T1 : TabOk 145 4 "_str_to_int_inner.<locals>.inner" o1 tt)
  (x : Int) (t1 : Tok) (hx : Small x)
  (hret : ∀ t h' tk' dr' o1' ext, Fr h₀ L h' m → News h₀ L h' (ext ++ (196, o1') :: rest0) → (∀ q ∈ ext, LCg.Off1 q.1 ((196, o1) :: rest0)) → TabOk 145 4 "_str_to_int_inner.<locals>.inner" o1' (ext ++ tt) → Q (.int (mag x) t) { s with heap := h', toks := tk', drawn := dr' }),
  wpAny (model PySem.Challenge.rw_pm0082_01.row.toRowW.prog w) (ktrTop dp un gd cn cs L a ccd cl outer) (call (.ref 201) [.str (num x) t1]) Q E s := by
  w_top off
  have in_c6 := Tag.mk
  k_with "call ref" => (guard_hyp in_c6; (k_here; (with_reducible show wpAny _ _ (call (Value.ref 194) _ _) _ _ _); k_dflt (refine' c_powers ?z13k1 ?z13k2 ?z13k3 ?z13k4 ?z13k5 _ ?z13k6 ?z13k7 ?z13k8 _ _ _ _ ?z13k9 ?_; (case z13k1 => k_asm); (case z13k2 => k_asm); (case z13k3 => k_asm); (case z13k4 => k_asm); (case z13k5 => first | exact rfl | assumption); (case z13k6 => k_asm); (case z13k7 => ktr_room); (case z13k8 => ktr_units); (case z13k9 => constructor <;> omega); k_whole); intro D' o' h' tk' dr' F' N' o1'; (try simp only [LCg.Off1, and_true] at o1'); (repeat (have hAL := And.left o1'; replace o1' := And.right o1')); (try kfm_turns)))
  k_with "call type:int" => (guard_hyp in_c6; (k_here; (refine call_int_sl (by with_reducible assumption) ?_)))
  k_fill
  intro w mean mg mb p loose dp un gd cn cs a ccd cl outer A₀ base h₀ L m s Q E B F X T hk C1 news N hd hu o1 rest0 e0 hoff tt hts T1 x t1 hx hret
  subst e0
  have hlen := num_len hx
  refine wpAny_call ?_
  rcases T1 with rfl | ⟨cN, oC, vs, tq, rfl, hmem0, hvs, hq⟩
  · k_dflt (refine' code_defC ?k1 ?k2 ?k3 ?k4 ?k5 ?kA ?kF ?kK ?k6 ?k7 ?k8 ?k9 ?kB ?kD ?_ ?c2 ?c3 ?c4; (case kA => exact rfl); (case kF => exact rfl); (case kK => assumption); (case k1 => k_asm); (case k2 => k_asm); (case k3 => k_asm); (case k4 => k_asm); (case k5 => k_asm); (case k6 => k_is); (case k7 => k_is); (case k8 => ktr_room); (case k9 => first | exact BindsTo.of_eq rfl | exact binds_K (by k_in) rfl (by k_is) rfl rfl rfl); (case kB => exact rfl); (case kD => decide +kernel); (case c2 => exact rfl); (case c3 => exact rfl); (case c4 => exact rfl); k_whole; intro g' L' h' tk' cells' FG' F' N' Y' B' X' T' l1; (refine letF F' ?_); (clear F'); (intro mF F'); (refine hideG fun GG hGG => ?_); (have hAL := allLt_of l1); (try k_lt l1); (repeat (replace hAL := And.right hAL)); k_cells Y'; (try simp only [List.cons_append, List.nil_append] at N'); (refine hGG ?_); (clear hGG GG); (try kfm_turns); (try k_lift B'); (try k_fold); (refine letA ?_); (intro A9))
    k_steps
    refine' hret _ _ _ _ ?o1 [?e2] ?F (News.sub (n := ?led) ?N ?sub) ?off ?tab
    case F => k_asm
    case N => k_asm
    case' tab => refine' .inr _ _ _ _ rfl List.mem_cons_self ?d1 ?d2
    case d1 => with_reducible assumption
    case d2 => (with_reducible rename _ = some (Value.str (qualnameIn _ _ _) _) => hq2); exact hq2
    case sub => refine List.forall_mem_cons.mpr ⟨by k_mem, List.forall_mem_cons.mpr ⟨by k_mem, fun p_ hp_ => ?_⟩⟩; (repeat (first | (with_reducible exact hp_) | refine List.mem_cons_of_mem _ ?_))
    case off =>
      refine List.forall_mem_cons.mpr ⟨off1_of (List.forall_mem_cons.mpr ⟨?_, ?_⟩), fun _ h => nomatch h⟩
      · k_ne
      · dsimp only
        (with_reducible rename AllLt _ _ => hq)
        exact allLt_ne hq (by omega)
  · have hmem := hts _ hmem0
    k_dflt (refine' code_defC ?k1 ?k2 ?k3 ?k4 ?k5 ?kA ?kF ?kK ?k6 ?k7 ?k8 ?k9 ?kB ?kD ?_ ?c2 ?c3 ?c4; (case kA => exact rfl); (case kF => exact rfl); (case kK => assumption); (case k1 => k_asm); (case k2 => k_asm); (case k3 => k_asm); (case k4 => k_asm); (case k5 => k_asm); (case k6 => k_is); (case k7 => k_is); (case k8 => ktr_room); (case k9 => first | exact BindsTo.of_eq rfl | exact binds_K (by k_in) rfl (by k_is) rfl rfl rfl); (case kB => exact rfl); (case kD => decide +kernel); (case c2 => exact rfl); (case c3 => exact rfl); (case c4 => exact rfl); k_whole; intro g' L' h' tk' cells' FG' F' N' Y' B' X' T' l1; (refine letF F' ?_); (clear F'); (intro mF F'); (refine hideG fun GG hGG => ?_); (have hAL := allLt_of l1); (try k_lt l1); (repeat (replace hAL := And.right hAL)); k_cells Y'; (try simp only [List.cons_append, List.nil_append] at N'); (refine hGG ?_); (clear hGG GG); (try kfm_turns); (try k_lift B'); (try k_fold); (refine letA ?_); (intro A9))
    k_steps
    refine' hret _ _ _ _ ?o2 [] ?F2 (News.sub (n := ?led2) ?N2 ?sub2) ?off2 ?tab2
    case F2 => k_asm
    case N2 => k_asm
    case' tab2 => refine' .inr _ _ _ _ rfl hmem0 hvs hq
    case sub2 => refine List.forall_mem_cons.mpr ⟨by k_mem, fun p_ hp_ => ?_⟩; (repeat (first | (with_reducible exact hp_) | refine List.mem_cons_of_mem _ ?_))
    case off2 => exact fun _ h => nomatch h
end

section
set_option maxRecDepth 100000 in
set_option maxHeartbeats 8000000 in
theorem c_ifs : ∀ {w : World} {mean : ExcName → Option Value} {mg mb : Str → Option Value} {p : Program} {loose : List Str} {dp un : Nat} {gd : Option (List Code)} {cn : Str} {cs : Scope} {a : Addr} {ccd : Value} {cl : List (Str × Addr)} {outer : List Env} {A₀ : Around} {base h₀ : Heap} {L : Addr} {m : Str → Option Value} {s : Shared} {Q E : Value → Shared → Prop} (B : Below A₀ base outer h₀) (F : Fr h₀ L s.heap m) (X : (K w.params).In h₀) (T : Top p loose mean mg mb h₀) (hk : cs.kind = .function) (C1 : CodeHd base 200 196)
  (news : List (Addr × Obj)) (N : News h₀ L s.heap news) (hd : dp + 50 < recursionLimit) (hu : un + 480 < cLine)
  (o1 : Obj) (rest0 : List (Addr × Obj)) (e0 : news = (196, o1) :: rest0) (hoff : LCg.Off1 196 rest0) (tt : List (Addr × Obj)) (hts : ∀ p ∈ tt, p ∈ rest0) (T1 : TabOk 145 4 "_str_to_int_inner.<locals>.inner" o1 tt)
  (x : Int) (t1 : Tok) (hx : Small x)
  (hret : ∀ t h' tk' dr' o1' ext, Fr h₀ L h' m → News h₀ L h' (ext ++ (196, o1') :: rest0) → (∀ q ∈ ext, LCg.Off1 q.1 ((196, o1) :: rest0)) → TabOk 145 4 "_str_to_int_inner.<locals>.inner" o1' (ext ++ tt) → Q (.int (mag x) t) { s with heap := h', toks := tk', drawn := dr' }),
  wpAny (model PySem.Challenge.rw_pm0082_01.row.toRowW.prog w) (ktrTop dp un gd cn cs L a ccd cl outer) (call (.ref 208) [.str (num x) t1]) Q E s := by
  w_top off
  have in_c7 := Tag.mk
  k_with "call ref" => (guard_hyp in_c7; (k_here; (with_reducible show wpAny _ _ (call (Value.ref 201) _ _) _ _ _); k_dflt (refine' c_inner ?z14k1 ?z14k2 ?z14k3 ?z14k4 ?z14k5 ?z14kC1 _ ?z14k6 ?z14k7 ?z14k8 _ _ rfl ?z14kO _ ?z14kTs ?z14kT _ _ ?z14k9 ?_; (case z14k1 => k_asm); (case z14k2 => k_asm); (case z14k3 => k_asm); (case z14k4 => k_asm); (case z14k5 => first | exact rfl | assumption); (case z14kC1 => with_reducible assumption); (case z14k6 => k_asm); (case z14k7 => ktr_room); (case z14k8 => ktr_units); (case z14kO => with_reducible assumption); (case z14kT => with_reducible assumption); (case z14kTs => with_reducible assumption); (case z14k9 => with_reducible assumption); k_whole); intro _ _ _ _ _ _ _ _ _ _; (try kfm_turns)))
  k_with "call builtin:str.replace" => (guard_hyp in_c7; (k_here; (rw [rstrip_num]); (refine call_replace_num ?_)))
  k_fill
  intro w mean mg mb p loose dp un gd cn cs a ccd cl outer A₀ base h₀ L m s Q E B F X T hk C1 news N hd hu o1 rest0 e0 hoff tt hts T1 x t1 hx hret
  subst e0
  have hlen := num_len hx
  refine wpAny_call ?_
  k_dflt (refine' code_def ?k1 ?k2 ?k3 ?k4 ?k5 ?kA ?kF ?kK ?k6 ?k7 ?k8 ?k9 ?kB ?_ ?c2 ?c3 ?c4 ?c5; (case kA => exact rfl); (case kF => exact rfl); (case kK => assumption); (case k1 => k_asm); (case k2 => k_asm); (case k3 => k_asm); (case k4 => k_asm); (case k5 => k_asm); (case k6 => k_is); (case k7 => k_is); (case k8 => ktr_room); (case k9 => first | exact BindsTo.of_eq rfl | exact binds_K (by k_in) rfl (by k_is) rfl rfl rfl); (case c5 => decide); (case kB => exact locs rfl); (case c2 => exact rfl); (case c3 => exact rfl); (case c4 => exact rfl); k_whole; intro g' L' h' FG' F' N' B' X' T'; (refine letF F' ?_); (clear F'); (intro mF F'); (try kfm_turns); (try k_lift B'); (try k_fold); (refine letA ?_); (intro A9))
  k_steps
  exact hret _ _ _ _ _ _ (by k_asm) (by k_asm) (by with_reducible assumption) (by with_reducible assumption)
end

section
noncomputable def callsOf (rows : List Row) (pl : Fin 4) : List (Fin 4 × Int) := (rows.filter (·.p = pl)).map fun r => (r.f, r.w)
set_option maxRecDepth 100000 in
set_option maxHeartbeats 8000000 in
theorem c_calls : ∀ {w : World} {mean : ExcName → Option Value} {mg mb : Str → Option Value} {p : Program} {loose : List Str} {dp un : Nat} {gd : Option (List Code)} {cn : Str} {cs : Scope} {a : Addr} {ccd : Value} {cl : List (Str × Addr)} {outer : List Env} {A₀ : Around} {base h₀ : Heap} {L : Addr} {m : Str → Option Value} {s : Shared} {Q E : Value → Shared → Prop} (B : Below A₀ base outer h₀) (F : Fr h₀ L s.heap m) (X : (K w.params).In h₀) (T : Top p loose mean mg mb h₀) (hk : cs.kind = .function) (C1 : CodeHd base 200 196)
  (news : List (Addr × Obj)) (N : News h₀ L s.heap news) (hd : dp + 60 < recursionLimit) (hu : un + 560 < cLine)
  (o1 : Obj) (rest0 : List (Addr × Obj)) (e0 : news = (196, o1) :: rest0) (hoff : LCg.Off1 196 rest0) (tt : List (Addr × Obj)) (hts : ∀ p ∈ tt, p ∈ rest0) (T1 : TabOk 145 4 "_str_to_int_inner.<locals>.inner" o1 tt)
  (t d l : Addr) (n1 n2 : Nat) (vs : List Value) (rows : List Row) (tk1 tn : Tok) (u : Bool) (pl : Fin 4)
  (hTt : (t, instObj 182 d) ∈ rest0) (hTd : (d, dictOf [⟨PyData.keyHash w.params "_headers", .str "_headers" tk1, .ref l⟩] n1) ∈ rest0)
  (hTl : (l, ({ cls := .type "list", data := .seq vs.toArray n2 } : Obj)) ∈ rest0) (hR : RowsIn rest0 rows vs) (hlen : vs.length ≤ 100)
  (hret : ∀ D h' tk' dr' o1' ext ys k, Fr h₀ L h' m → News h₀ L h' ((D, W.listOf ys k) :: (196, o1') :: (ext ++ rest0)) → CallsIn ext (callsOf rows pl) ys.toList → (∀ q ∈ ext, LCg.Off1 q.1 ((196, o1) :: rest0)) → LCg.Off1 D ((196, o1) :: (ext ++ rest0)) → TabOk 145 4 "_str_to_int_inner.<locals>.inner" o1' (ext ++ tt) → Q (.ref D) { s with heap := h', toks := tk', drawn := dr' }),
  wpAny (model PySem.Challenge.rw_pm0082_01.row.toRowW.prog w) (ktrTop dp un gd cn cs L a ccd cl outer) (call (.ref 290) [.ref t, .str (nm u pl) tn]) Q E s := by
  w_top off
  have in_c8 := Tag.mk
  k_with "call ref" => (guard_hyp in_c8; (k_here; (with_reducible show wpAny _ _ (call (Value.ref 121) _ _) _ _ _); k_dflt (refine' c_getall ?z15k1 ?z15k2 ?z15k3 ?z15k4 ?z15k5 _ ?z15k6 ?z15k7 ?z15k8 _ _ _ _ _ _ _ _ _ _ _ ?z15kTt ?z15kTd ?z15kTl ?z15kR ?z15kL ?_; (case z15k1 => k_asm); (case z15k2 => k_asm); (case z15k3 => k_asm); (case z15k4 => k_asm); (case z15k5 => first | exact rfl | assumption); (case z15k6 => k_asm); (case z15k7 => ktr_room); (case z15k8 => ktr_units); (case z15kTt => k_mem); (case z15kTd => k_mem); (case z15kTl => k_mem); (case z15kR => (refine' RowsIn.mono ?z15kRs ?z15kRa; (case z15kRa => with_reducible assumption); (case z15kRs => (intro p_ hp_; (repeat (first | (with_reducible exact hp_) | refine List.mem_cons_of_mem _ ?_ | refine List.mem_append_right _ ?_)))))); (case z15kL => with_reducible assumption); k_whole); intro D' h' tk' ys' F' N' o1' hys'; (try simp only [LCg.Off1, and_true] at o1'); (repeat (have hAL := And.left o1'; replace o1' := And.right o1')); revert D' h' tk' ys'; intros; (try kfm_turns)))
  k_with "call ref" => (guard_hyp in_c8; (k_here; (with_reducible show wpAny _ _ (call (Value.ref 208) _ _) _ _ _); refine openSeal ?_))
  k_with "call builtin:str.lower" => (guard_hyp in_c8; (k_here; (rw [item_txt]); refine call_lower_hed ?_; intro _))
  k_fill
  intro w mean mg mb p loose dp un gd cn cs a ccd cl outer A₀ base h₀ L m s Q E B F X T hk C1 news N hd hu o1 rest0 e0 hoff tt hts T1 t d l n1 n2 vs rows tk1 tn u pl hTt hTd hTl hR hlen hret
  subst e0
  refine wpAny_call ?_
  k_dflt (refine' code_def ?k1 ?k2 ?k3 ?k4 ?k5 ?kA ?kF ?kK ?k6 ?k7 ?k8 ?k9 ?kB ?_ ?c2 ?c3 ?c4 ?c5; (case kA => exact rfl); (case kF => exact rfl); (case kK => assumption); (case k1 => k_asm); (case k2 => k_asm); (case k3 => k_asm); (case k4 => k_asm); (case k5 => k_asm); (case k6 => k_is); (case k7 => k_is); (case k8 => ktr_room); (case k9 => first | exact BindsTo.of_eq rfl | exact binds_K (by k_in) rfl (by k_is) rfl rfl rfl); (case c5 => decide); (case kB => exact locs rfl); (case c2 => exact rfl); (case c3 => exact rfl); (case c4 => exact rfl); k_whole; intro g' L' h' FG' F' N' B' X' T'; (refine letF F' ?_); (clear F'); (intro mF F'); (try kfm_turns); (try k_lift B'); (try k_fold); (refine letA ?_); (intro A9))
  k_steps
  rename_i l0 hp1 hA0 hl1 hp2 F2 N2 D0 hp3 tk3 ys0 F3 N3 hys hA1 hA2 hD0
  refine src_list (DD := fun _ => True) (hD := trivial) (xs := [Str.ofString "text", Str.ofString "weight"]) (ax := D0) (its := ys0.toArray) (hh := rfl) ?go (by k_asm) (by k_asm)
    (fun i m₁ nw => Ex4 fun o1' cs k ext => Co4 (nw = (D0, LCg.lst ys0) :: (l0, W.listOf cs k) :: (196, o1') :: (ext ++ rest0)) (CallsIn ext ((callsOf rows pl).take i) cs.toList) ((∀ q ∈ ext, LCg.Off1 q.1 ((D0, LCg.lst ys0) :: (l0, W.listOf #[] 0) :: (196, o1) :: rest0))) (TabOk 145 4 "_str_to_int_inner.<locals>.inner" o1' (ext ++ tt))) ?hS ?h0 ?step ?hR
  case go =>
    intro I i s v Q E hit hQ hv
    exact wpAny_pure hQ
  case hS =>
    intro i m nw pp1
    refine hideG fun GG hGG => ?_
    obtain ⟨o1', cs, k, ext, rfl, _⟩ := pp1
    refine hGG ?_
    clear hGG GG
    exact .inr ⟨_, by k_mem, rfl, _, rfl⟩
  case h0 =>
    refine ⟨o1, #[], 0, [], ?_, ?_, ?_, ?_⟩
    · rfl
    · rw [List.take_zero]; exact All2.nil
    · exact fun _ h => nomatch h
    · exact T1
  case step =>
    intro I gg tk2 i v ex o nw h tk dr oI E' hdr hi pp2 pp3 F1 N1 oo1 oo2
    refine hideG fun GG hGG => ?_
    obtain ⟨hv, rfl⟩ := pp2
    obtain ⟨o1', cs, k, ext, rfl, hcs, hex, hT1⟩ := pp3
    obtain ⟨x0, hx0, tv, rfl⟩ := hys.get' (i := i) (b := v) (by simpa using hv)
    obtain ⟨r, hr, rfl⟩ : ∃ r, (rows.filter (·.p = pl))[i]? = some r ∧ txt r.f r.w = x0 := by simpa using hx0
    have hsm : Small r.w := RowsIn.small hR r (List.mem_filter.mp (List.mem_of_getElem? hr)).1
    have htl := txt_len hsm r.f
    have htg := txt_ge r.f r.w
    have hcs1 : cs.size ≤ 100 := by
      have e := hcs.length
      rw [List.length_take, Array.length_toList] at e
      have e2 : (callsOf rows pl).length ≤ rows.length := by unfold callsOf; rw [List.length_map]; exact List.length_filter_le _ _
      have e3 : rows.length = vs.length := hR.length
      have e4 : cs.size ≤ (callsOf rows pl).length := Nat.le_trans (Nat.le_of_eq e.symm) (Nat.min_le_right _ _)
      exact Nat.le_trans e4 (Nat.le_trans e2 (e3 ▸ hlen))
    have hcs2 : cs.size ≤ sizeLine := Nat.le_trans hcs1 (by decide +kernel)
    dsimp only [canonL, List.foldr, List.nil_append] at F1 N1 oo1
    have hl0 : LCg.Off1 l0 (ext ++ rest0) := off1_append (off1_swap hex (o := W.listOf #[] 0) (by simp)) (off1_of (allLt_ne hl1 (Nat.le_refl _)))
    have hD1 : LCg.Off1 D0 (ext ++ rest0) := off1_append (off1_swap hex (o := LCg.lst ys0) (by simp)) hD0
    have h196 : LCg.Off1 196 (ext ++ rest0) := off1_append (off1_swap hex (o := o1) (by simp)) hoff
    obtain ⟨hI1, hI2, hI3, hI4⟩ := oo1
    refine nameL (ext ++ rest0) fun rx hrx => ?_
    refine hGG ?_
    clear hGG GG
    rw [← hrx] at N1 hl0 hD1 h196 hI4
    have hsub : ∀ p ∈ ext ++ tt, p ∈ (I, oI) :: (D0, LCg.lst ys0) :: (l0, W.listOf cs k) :: rx := fun p hp => by
      refine List.mem_cons_of_mem _ (List.mem_cons_of_mem _ (List.mem_cons_of_mem _ ?_))
      rw [hrx]
      rcases List.mem_append.mp hp with hp | hp
      · exact List.mem_append_left _ hp
      · exact List.mem_append_right _ (hts p hp)
    dsimp only at hI1 hI2 hI3
    k_steps
    unfold Sealed
    rw [slice_txt]
    k_dflt (refine' c_ifs ?k1 ?k2 ?k3 ?k4 ?k5 ?kC1 _ ?k6 ?k7 ?k8 _ _ rfl ?kO (ext ++ tt) ?kTs ?kT _ _ hsm ?_; (case k1 => k_asm); (case k2 => k_asm); (case k3 => k_asm); (case k4 => k_asm); (case k5 => first | exact rfl | assumption); (case kC1 => with_reducible assumption); (case k6 => exact News.rot3 (by k_asm)); (case k7 => ktr_room); (case k8 => ktr_units); (case kO => exact off1_of (by k_all)); (case kTs => exact hsub); (case kT => exact hT1); k_whole)
    intro t' h' tk' dr' o2 ext2 F' N' O2 T2
    have N2' := News.unrot3 N'
    have q1 : LCg.Off1 I ext2 := off1_swap O2 (o := oI) (by k_mem)
    have q2 : LCg.Off1 D0 ext2 := off1_swap O2 (o := LCg.lst ys0) (by k_mem)
    have q3 : LCg.Off1 l0 ext2 := off1_swap O2 (o := W.listOf cs k) (by k_mem)
    have q4 : LCg.Off1 196 ext2 := off1_swap O2 (o := o1') (by k_mem)
    have r1 := off1_append q1 hI4
    have r2 := off1_append q2 hD1
    have r3 := off1_append q3 hl0
    have r4 := off1_append q4 h196
    refine nameL (ext2 ++ rx) fun ry hry => ?_
    rw [← hry] at N2' r1 r2 r3 r4
    clear N' N1 hI4 hD1 hl0 h196 q1 q2 q3 q4
    have hcall : (callsOf rows pl)[i]? = some (r.f, r.w) := by unfold callsOf; rw [List.getElem?_map, hr]; rfl
    k_steps
    · have hneg : ¬ 0 ≤ r.w := by
        rename _ = true => e
        rw [item_txt] at e
        have q := in_hed r.f r.w
        unfold Txt.contains at q
        rw [e] at q
        simpa using q.symm
      rename_i hpA hpB tA kA aA hpC aB tB aC aD D2 hpD b1 b2 b3 b4 b5 hpE F8 N8
      rw [show -mag r.w = r.w by unfold mag; split <;> lia] at N8
      refine ⟨_, _, _, _, _, rfl, trivial, F8, News.fin1 (e2 := ext2) (e1 := ext) (r := rest0) (by rw [← hrx, ← hry]; exact N8), ?_, ⟨by (intro y hy; first | ((repeat (first | refine agree_l hy (by k_mem) ?_ | refine agree_r hy (by k_mem) ?_)); exact rfl) | (simp only [List.mem_cons, List.not_mem_nil, or_false, not_or] at hy; simp only [hy, if_false])), o2, _, _, _, rfl, ?_, ?_, ?_⟩⟩
      · refine ⟨hI1, hI2, hI3, Nat.ne_of_gt b1, off1_sub r1 ?_⟩
        rw [hry, hrx, ← List.append_assoc]
        exact fun p hp => hp
      · rw [List.take_add_one, hcall, Array.toList_push]
        exact All2.snoc (CallsIn.mono (fun p hp => List.mem_cons_of_mem _ (List.mem_append_right _ hp)) hcs) ⟨D2, _, _, _, rfl, List.mem_cons_self, hsm⟩
      · refine List.forall_mem_cons.mpr ⟨⟨Nat.ne_of_lt b2, Nat.ne_of_lt b3, Nat.ne_of_lt b4, off1_of fun p hp => allLt_ne b5 (Nat.le_refl _) p (by rw [hry, hrx]; simp [hp])⟩, fun q hq => ?_⟩
        rcases List.mem_append.mp hq with hq | hq
        · refine hideG fun GG hGG => ?_
          obtain ⟨z1, z2, z3, z4, z5⟩ := O2 q hq
          refine hGG ?_
          clear hGG GG
          exact ⟨z3, z4, z1, off1_sub z5 fun p hp => by rw [hrx]; exact List.mem_append_right _ hp⟩
        · exact hex q hq
      · refine TabOk.mono ?_ T2
        intro p hp
        rcases List.mem_append.mp hp with hp | hp
        · exact List.mem_append_left _ (List.mem_cons_of_mem _ (List.mem_append_left _ hp))
        · rcases List.mem_append.mp hp with hp | hp
          · exact List.mem_append_left _ (List.mem_cons_of_mem _ (List.mem_append_right _ hp))
          · exact List.mem_append_right _ hp
    · have hpos : 0 ≤ r.w := by
        rename _ = false => e
        rw [item_txt] at e
        have q := in_hed r.f r.w
        unfold Txt.contains at q
        rw [e] at q
        simpa using q.symm
      rename_i hpA hpB tA kA aA hpC aB tB aC aD D2 hpD b1 b2 b3 b4 b5 hpE F8 N8
      rw [show mag r.w = r.w by unfold mag; split <;> lia] at N8
      refine ⟨_, _, _, _, _, rfl, trivial, F8, News.fin1 (e2 := ext2) (e1 := ext) (r := rest0) (by rw [← hrx, ← hry]; exact N8), ?_, ⟨by (intro y hy; first | ((repeat (first | refine agree_l hy (by k_mem) ?_ | refine agree_r hy (by k_mem) ?_)); exact rfl) | (simp only [List.mem_cons, List.not_mem_nil, or_false, not_or] at hy; simp only [hy, if_false])), o2, _, _, _, rfl, ?_, ?_, ?_⟩⟩
      · refine ⟨hI1, hI2, hI3, Nat.ne_of_gt b1, off1_sub r1 ?_⟩
        rw [hry, hrx, ← List.append_assoc]
        exact fun p hp => hp
      · rw [List.take_add_one, hcall, Array.toList_push]
        exact All2.snoc (CallsIn.mono (fun p hp => List.mem_cons_of_mem _ (List.mem_append_right _ hp)) hcs) ⟨D2, _, _, _, rfl, List.mem_cons_self, hsm⟩
      · refine List.forall_mem_cons.mpr ⟨⟨Nat.ne_of_lt b2, Nat.ne_of_lt b3, Nat.ne_of_lt b4, off1_of fun p hp => allLt_ne b5 (Nat.le_refl _) p (by rw [hry, hrx]; simp [hp])⟩, fun q hq => ?_⟩
        rcases List.mem_append.mp hq with hq | hq
        · refine hideG fun GG hGG => ?_
          obtain ⟨z1, z2, z3, z4, z5⟩ := O2 q hq
          refine hGG ?_
          clear hGG GG
          exact ⟨z3, z4, z1, off1_sub z5 fun p hp => by rw [hrx]; exact List.mem_append_right _ hp⟩
        · exact hex q hq
      · refine TabOk.mono ?_ T2
        intro p hp
        rcases List.mem_append.mp hp with hp | hp
        · exact List.mem_append_left _ (List.mem_cons_of_mem _ (List.mem_append_left _ hp))
        · rcases List.mem_append.mp hp with hp | hp
          · exact List.mem_append_left _ (List.mem_cons_of_mem _ (List.mem_append_right _ hp))
          · exact List.mem_append_right _ hp
  case hR =>
    intro h2 tk2 dr o news' hdr F1 N1 pp4
    refine hideG fun GG hGG => ?_
    obtain ⟨o1', cs, k, ext, rfl, hcs, hex, hT1⟩ := pp4
    dsimp only [canonL, List.foldr] at F1 N1
    refine hGG ?_
    clear hGG GG
    k_steps
    have e9 : (callsOf rows pl).take ys0.toArray.size = callsOf rows pl := by
      have e := hys.length
      rw [List.length_map] at e
      rw [List.size_toArray, ← e]
      unfold callsOf
      rw [show (rows.filter (·.p = pl)).length = ((rows.filter (·.p = pl)).map fun r => (r.f, r.w)).length by rw [List.length_map], List.take_length]
    rw [e9] at hcs
    refine hret l0 _ _ _ o1' ext cs k (by k_asm) (News.tl (by k_asm)) hcs ?_ ?_ hT1
    · exact fun q hq => ⟨(hex q hq).2.2.1, (hex q hq).2.2.2⟩
    · exact ⟨Nat.ne_of_lt hA0, off1_append (off1_swap hex (o := W.listOf #[] 0) (by simp)) (off1_of (allLt_ne hl1 (Nat.le_refl _)))⟩
end

section
set_option maxRecDepth 100000 in
set_option maxHeartbeats 1000000 in
theorem c_table : ∀ {w : World} {mean : ExcName → Option Value} {mg mb : Str → Option Value} {p : Program} {loose : List Str} {dp un : Nat} {gd : Option (List Code)} {cn : Str} {cs : Scope} {a : Addr} {ccd : Value} {cl : List (Str × Addr)} {outer : List Env} {A₀ : Around} {base h₀ : Heap} {L : Addr} {m : Str → Option Value} {s : Shared} {Q E : Value → Shared → Prop} (B : Below A₀ base outer h₀) (F : Fr h₀ L s.heap m) (X : (K w.params).In h₀) (T : Top p loose mean mg mb h₀) (hk : cs.kind = .function) (C2 : CodeHd base 228 224) (C3 : CodeHd base 235 231)
  (news : List (Addr × Obj)) (N : News h₀ L s.heap news) (hd : dp + 180 < recursionLimit) (hu : un + 6200 < cLine)
  (o1 o2 : Obj) (rest0 : List (Addr × Obj)) (e0 : news = (224, o1) :: (231, o2) :: rest0) (hoffA : LCg.Off1 224 rest0) (hoffB : LCg.Off1 231 rest0) (tt : List (Addr × Obj)) (hts : ∀ p ∈ tt, p ∈ rest0) (T1 : TabOk 185 4 "_int2digits.<locals>.inner" o1 tt) (T2 : TabOk 200 4 "_digits2int.<locals>.inner" o2 tt)
  (ln kn : Nat) (vs : List Value) (ns : List Int) (hin : (ln, W.listOf vs.toArray kn) ∈ rest0) (hA : IntsAre vs ns) (hl : ns.length = 8) (hb : ∀ x ∈ ns, -400 < x ∧ x < 400)
  (hret : ∀ t d l h' tk' o1' o2' ext vsT kT tkH, Fr h₀ L h' m → News h₀ L h' ((l, W.listOf vsT kT) :: (t, instObj 182 d) :: (d, dictOf [⟨PyData.keyHash w.params "_headers", .str "_headers" tkH, .ref l⟩] 1) :: (224, o1') :: (231, o2') :: (ext ++ rest0)) →
     RowsIn ext (rowsTo ns 8) vsT.toList → (∀ q ∈ ext, LCg.Off1 q.1 ((l, W.listOf #[] 0) :: (t, instObj 182 d) :: (d, dictOf [] 1) :: (224, o1) :: (231, o2) :: rest0)) → LCg.Off1 l ((t, instObj 182 d) :: (d, dictOf [] 1) :: (224, o1) :: (231, o2) :: rest0) → LCg.Off1 t ((d, dictOf [] 1) :: (224, o1) :: (231, o2) :: rest0) → LCg.Off1 d ((224, o1) :: (231, o2) :: rest0) →
     TabOk 185 4 "_int2digits.<locals>.inner" o1' (ext ++ tt) → TabOk 200 4 "_digits2int.<locals>.inner" o2' (ext ++ tt) → Q (.ref t) { s with heap := h', toks := tk' }),
  wpAny (model PySem.Challenge.rw_pm0082_01.row.toRowW.prog w) (ktrTop dp un gd cn cs L a ccd cl outer) (call (.ref 283) [.ref ln]) Q E s := by
  w_top off
  have in_c15 := Tag.mk
  k_with "subscriptTail" => (guard_hyp in_c15; (k_here; (with_reducible show wpAny _ _ (subscriptTail _ _ (Value.ref _) (Value.int _ _)) _ _ _); refine openSeal ?_))
  k_with "call ref" => (guard_hyp in_c15; (k_here; (with_reducible show wpAny _ _ (call (Value.ref 276) _ _) _ _ _); refine openSeal ?_))
  k_with "call ref" => (guard_hyp in_c15; (k_here; (with_reducible show wpAny _ _ (call (Value.ref 179) _ _) _ _ _); refine openSeal ?_))
  k_with "call ref" => (guard_hyp in_c15; (k_here; (with_reducible show wpAny _ _ (call (Value.ref 250) _ _) _ _ _); refine openSeal ?_))
  k_fill
  intro w mean mg mb p loose dp un gd cn cs a ccd cl outer A₀ base h₀ L m s Q E B F X T hk C2 C3 news N hd hu o1 o2 rest0 e0 hoffA hoffB tt hts T1 T2 ln kn vs ns hin hA hl hb hret
  subst e0
  refine wpAny_call ?_
  k_dflt (refine' code_def ?k1 ?k2 ?k3 ?k4 ?k5 ?kA ?kF ?kK ?k6 ?k7 ?k8 ?k9 ?kB ?_ ?c2 ?c3 ?c4 ?c5; (case kA => exact rfl); (case kF => exact rfl); (case kK => assumption); (case k1 => k_asm); (case k2 => k_asm); (case k3 => k_asm); (case k4 => k_asm); (case k5 => k_asm); (case k6 => k_is); (case k7 => k_is); (case k8 => ktr_room); (case k9 => first | exact BindsTo.of_eq rfl | exact binds_K (by k_in) rfl (by k_is) rfl rfl rfl); (case c5 => decide); (case kB => exact locs rfl); (case c2 => exact rfl); (case c3 => exact rfl); (case c4 => exact rfl); k_whole; intro g' L' h' FG' F' N' B' X' T'; (refine letF F' ?_); (clear F'); (intro mF F'); (try kfm_turns); (try k_lift B'); (try k_fold); (refine letA ?_); (intro A9))
  k_steps
  rename_i x0 d0 g1 F2 N2 a1 a2 a3 a4 g3 L3 g4 FG3 B3 X3 T3 tq1 l0 g5 b1 b2 b3 b4 b5 g6 tq2 g7 F3 N3
  refine src_list (its := #[]) (ax := l0) (DD := (· = s.drawn)) (hD := rfl) (xs := []) (hh := rfl) ?go (by k_asm) (by k_asm) (fun i m nw => nw = _) ?hS rfl ?step ?hR
  case go =>
    intro I i s v Q E hit hQ pp1
    refine hideG fun GG hGG => ?_
    obtain ⟨j, hj⟩ := pp1
    refine hGG ?_
    clear hGG GG
    simp at hj
  case hS =>
    rintro i m nw rfl
    exact .inr ⟨_, by k_mem, rfl, _, rfl⟩
  case step =>
    intro I gg tk2
    unfold TurnX
    intro i v ex o nw h tk dr oI E' hdr hi
    exact absurd hi (Nat.not_lt_zero _)
  case hR =>
    rintro h2 tk2 dr o news' hdr F1 N1 rfl
    dsimp only [canonL, List.foldr] at F1 N1
    subst hdr
    clear N3 F3
    k_steps
    rename_i T9 X9 g8 F8 N8 g9 tk9 r1 r2 r3 hrg F7 N7 hkeep
    have f1 : LCg.Off1 l0 ((x0, instObj 182 d0) :: (d0, dictOf [] 1) :: (224, o1) :: (231, o2) :: rest0) := ⟨Nat.ne_of_lt b1, Nat.ne_of_lt b2, Nat.ne_of_lt b3, Nat.ne_of_lt b4, off1_of (allLt_ne b5 (Nat.le_refl _))⟩
    have f3 : LCg.Off1 d0 ((224, o1) :: (231, o2) :: rest0) := ⟨Nat.ne_of_lt a1, Nat.ne_of_lt a2, off1_of (allLt_ne a3 (Nat.le_refl _))⟩
    have f2 : LCg.Off1 x0 ((d0, dictOf [] 1) :: (224, o1) :: (231, o2) :: rest0) := ⟨Nat.ne_of_lt a4, Nat.ne_of_lt (Nat.lt_trans a1 a4), Nat.ne_of_lt (Nat.lt_trans a2 a4), off1_of (allLt_ne a3 (Nat.le_of_lt a4))⟩
    refine src_range (n := 8) (DD := (· = s.drawn)) (hD := rfl) (xs := [Str.ofString "k", Str.ofString "weight", Str.ofString "callee"]) (hh := rfl) (fun _ _ => rfl) F7 N7 hrg (by decide +kernel) (by decide +kernel)
      (J := fun i m₁ nw => Ex5 fun o1' o2' ext vsT kT => Co6 (nw = (l0, W.listOf vsT kT) :: (x0, instObj 182 d0) :: (d0, dictOf [⟨PyData.keyHash w.params "_headers", .str "_headers" (tq2 + 1), .ref l0⟩] 1) :: (224, o1') :: (231, o2') :: (ext ++ rest0)) (RowsIn ext (rowsTo ns i) vsT.toList) (vsT.size = i) ((∀ q ∈ ext, LCg.Off1 q.1 ((l0, W.listOf #[] 0) :: (x0, instObj 182 d0) :: (d0, dictOf [] 1) :: (224, o1) :: (231, o2) :: rest0))) (TabOk 185 4 "_int2digits.<locals>.inner" o1' (ext ++ tt)) (TabOk 200 4 "_digits2int.<locals>.inner" o2' (ext ++ tt))) ?h0 ?step ?hR
    case h0 =>
      refine ⟨o1, o2, [], #[], 0, ?_, ?_, ?_, ?_, ?_, ?_⟩
      · rw [List.nil_append]
      · rw [rowsTo_zero]; exact All2.nil
      · exact Array.size_empty
      · exact fun q hq => absurd hq List.not_mem_nil
      · exact T1
      · exact T2
    case step =>
      intro I gg tk2
      unfold TurnX
      intro i v ex o nw h tk dr oI E' hdr hi pp2 pp3 F3 N3 oo1 oo2
      refine hideG fun GG hGG => ?_
      obtain ⟨⟨ti, rfl⟩, rfl⟩ := pp2
      obtain ⟨o1', o2', ext, vsT, kT, rfl, hR, hvz, hex, hT1, hT2⟩ := pp3
      dsimp only [canonL, List.foldr, List.nil_append] at F3 N3 oo1
      refine hGG ?_
      clear hGG GG
      rw [Int.zero_add]
      subst hdr
      refine hideG fun GG hGG => ?_
      obtain ⟨hI1, hI2, hI3, hI4, hI5, hI6⟩ := oo1
      dsimp only at hI1 hI2 hI3 hI4 hI5
      refine nameL (ns.getD i 0) fun y9 hy9 => ?_
      refine hGG ?_
      clear hGG GG
      have hyb : -400 < y9 ∧ y9 < 400 := by
        rw [hy9, List.getD_eq_getElem?_getD, List.getElem?_eq_getElem (by lia), Option.getD_some]
        exact hb _ (List.getElem_mem _)
      have hys : Small y9 := by unfold Small; lia
      have hf4 := (fOf y9).isLt
      k_steps
      unfold Sealed
      refine ksa_sub (D := ln) (vs := vs) (n := kn) (by k_asm) (by k_mem) hA (by lia) (by lia) (by lia) ?_ (by with_unfolding_all rfl)
      intro t9
      rw [Int.toNat_natCast, ← hy9]
      k_steps
      unfold Sealed
      refine nameL (ext ++ rest0) fun rx hrx => ?_
      k_dflt (refine' c_idm ?k1 ?k2 ?k3 ?k4 ?k5 ?kC2 ?kC3 ((224, o1') :: (231, o2') :: (I, oI) :: (l0, W.listOf vsT kT) :: (x0, instObj 182 d0) :: (d0, dictOf [⟨PyData.keyHash w.params "_headers", .str "_headers" (tq2 + 1), .ref l0⟩] 1) :: (ext ++ rest0)) ?k6 ?k7 ?k8 _ _ _ rfl ?kO1 ?kO2 (ext ++ tt) ?kTs hT1 hT2 y9 4 _ _ hys (by decide) ?_; (case k1 => k_asm); (case k2 => k_asm); (case k3 => k_asm); (case k4 => k_asm); (case k5 => first | exact rfl | assumption); (case kC2 => kn_code); (case kC3 => kn_code); (case k6 => exact News.sub (by k_asm) (by ((try simp only [List.cons_append, List.append_assoc, List.nil_append]); repeat' (first | (with_reducible refine sub_cons ?_ ?_; k_mem) | with_reducible refine sub_app ?_ ?_ | exact sub_nil | (intro q hq; kpc_turns))))); (case k7 => ktr_room); (case k8 => ktr_units); (case kO1 => exact ⟨Ne.symm hI4, Nat.ne_of_gt b3, Nat.ne_of_gt (Nat.lt_trans a1 a4), Nat.ne_of_gt a1, off1_append (off1_swap hex (o := o1) (by simp)) hoffA⟩); (case kO2 => exact ⟨Ne.symm hI5, Nat.ne_of_gt b4, Nat.ne_of_gt (Nat.lt_trans a2 a4), Nat.ne_of_gt a2, off1_append (off1_swap hex (o := o2) (by simp)) hoffB⟩); (case kTs => exact (fun q hq => by rcases List.mem_append.mp hq with h | h <;> simp [h, hts q])); k_whole)
      intro T9 h9 tk9 o1'' o2'' ext2 u1 u2 F9 N9 oT oE T1' T2'
      rw [Int.fdiv_eq_ediv_of_nonneg y9 (by decide), Int.fmod_eq_emod_of_nonneg y9 (by decide), ← fOf_val] at N9
      dsimp only
      k_steps
      unfold Sealed
      rw [item4]
      k_dflt (refine' c_text ?k1 ?k2 ?k3 ?k4 ?k5 _ ?k6 ?k7 ?k8 _ _ _ _ ?hx ?_; (case k1 => k_asm); (case k2 => k_asm); (case k3 => k_asm); (case k4 => k_asm); (case k5 => first | exact rfl | assumption); (case k6 => k_asm); (case k7 => ktr_room); (case k8 => ktr_units); (case hx => unfold Small at *; lia); k_whole)
      intro t8 h8 tk8 F8 N8
      dsimp only
      k_steps
      unfold Sealed
      have e8 : Txt.item (Str.ofString "abcdABCD") (i : Int) = nm (decide (4 ≤ i)) ⟨i % 4, Nat.mod_lt _ (by decide)⟩ := item8 ⟨i, hi⟩
      rw [e8]
      k_dflt (refine' c_add ?k1 ?k2 ?k3 ?k4 ?k5 ((l0, W.listOf vsT kT) :: (I, oI) :: (x0, instObj 182 d0) :: (d0, dictOf [⟨PyData.keyHash w.params "_headers", .str "_headers" (tq2 + 1), .ref l0⟩] 1) :: (224, o1'') :: (231, o2'') :: (ext2 ++ (ext ++ rest0))) ?k6 ?k7 ?k8 x0 d0 l0 1 kT vsT _ rfl ?kO (tq2 + 1) _ _ _ _ _ _ ?hx ?m1 ?m2 ?z1 ?z2 ?_; (case k1 => k_asm); (case k2 => k_asm); (case k3 => k_asm); (case k4 => k_asm); (case k5 => first | exact rfl | assumption); (case k6 => exact News.sub N8 (by ((try simp only [List.cons_append, List.append_assoc, List.nil_append]); repeat' (first | (with_reducible refine sub_cons ?_ ?_; k_mem) | with_reducible refine sub_app ?_ ?_ | exact sub_nil | (intro q hq; kpc_turns))))); (case k7 => ktr_room); (case k8 => ktr_units); (case kO => exact ⟨Ne.symm hI1, Nat.ne_of_lt b1, Nat.ne_of_lt b2, Nat.ne_of_lt b3, Nat.ne_of_lt b4, off1_append (off1_swap oE (o := W.listOf vsT kT) (by simp)) (off1_append (off1_swap hex (o := W.listOf #[] 0) (by simp)) (off1_of (allLt_ne b5 (Nat.le_refl _))))⟩); (case hx => unfold Small at *; lia); (case m1 => k_mem); (case m2 => k_mem); (case z1 => lia); (case z2 => exact Nat.le_trans (show vsT.size ≤ 100 by lia) (by decide +kernel)); k_whole)
      intro T8 h8' tk8' u3 u4 F8' N8' oT8
      dsimp only
      k_steps
      unfold LStep
      dsimp only
      refine nameL ((T8, ({ cls := .type "tuple", data := .seq #[.str (nm (decide (4 ≤ i)) ⟨i % 4, Nat.mod_lt _ (by decide)⟩) u3, .str (txt (fOf y9) (y9 / 4)) u4] } : Obj)) :: (ext2 ++ ext)) fun ext9 hext9 => ?_
      have hsubE : ∀ q ∈ ext, q ∈ ext9 := fun q hq => by rw [hext9]; simp [hq]
      have hsub9 : ∀ q ∈ ext2 ++ (ext ++ tt), q ∈ ext9 ++ tt := by rw [hext9]; ((try simp only [List.cons_append, List.append_assoc, List.nil_append]); repeat' (first | (with_reducible refine sub_cons ?_ ?_; k_mem) | with_reducible refine sub_app ?_ ?_ | exact sub_nil | (intro q hq; kpc_turns)))
      have N7' : News g' _ h8' ((I, oI) :: (l0, W.listOf (vsT.push (.ref T8)) (kT + 1)) :: (x0, instObj 182 d0) :: (d0, dictOf [⟨PyData.keyHash w.params "_headers", .str "_headers" (tq2 + 1), .ref l0⟩] 1) :: (224, o1'') :: (231, o2'') :: (ext9 ++ rest0)) := News.sub N8' (by rw [hext9]; ((try simp only [List.cons_append, List.append_assoc, List.nil_append]); repeat' (first | (with_reducible refine sub_cons ?_ ?_; k_mem) | with_reducible refine sub_app ?_ ?_ | exact sub_nil | (intro q hq; kpc_turns))))
      have hex9 : ∀ q ∈ ext9, LCg.Off1 q.1 ((l0, W.listOf #[] 0) :: (x0, instObj 182 d0) :: (d0, dictOf [] 1) :: (224, o1) :: (231, o2) :: rest0) := by
        refine hideG fun GG hGG => ?_
        obtain ⟨p1, p2, p3, p4, p5, p6, p7⟩ := oT8
        refine hGG ?_
        clear hGG GG
        rw [hext9]
        intro q hq
        rcases List.mem_cons.mp hq with rfl | hq
        · exact ⟨p1, p3, p4, p5, p6, off_sub p7 (by ((try simp only [List.cons_append, List.append_assoc, List.nil_append]); repeat' (first | (with_reducible refine sub_cons ?_ ?_; k_mem) | with_reducible refine sub_app ?_ ?_ | exact sub_nil | (intro q hq; kpc_turns))))⟩
        · rcases List.mem_append.mp hq with h | h
          · refine hideG fun GG hGG => ?_
            obtain ⟨v1, v2, v3, v4, v5, v6, v7⟩ := oE q h
            refine hGG ?_
            clear hGG GG
            exact ⟨v4, v5, v6, v1, v2, off_sub v7 (by ((try simp only [List.cons_append, List.append_assoc, List.nil_append]); repeat' (first | (with_reducible refine sub_cons ?_ ?_; k_mem) | with_reducible refine sub_app ?_ ?_ | exact sub_nil | (intro q hq; kpc_turns))))⟩
          · exact hex q h
      have o9I : LCg.Off1 I ((l0, W.listOf (vsT.push (.ref T8)) (kT + 1)) :: (x0, instObj 182 d0) :: (d0, dictOf [⟨PyData.keyHash w.params "_headers", .str "_headers" (tq2 + 1), .ref l0⟩] 1) :: (224, o1'') :: (231, o2'') :: (ext9 ++ rest0)) := by
        refine ⟨hI1, hI2, hI3, hI4, hI5, ?_⟩
        rw [hext9, List.cons_append, List.append_assoc]
        refine hideG fun GG hGG => ?_
        obtain ⟨p1, p2, p3, p4, p5, p6, p7⟩ := oT8
        refine hGG ?_
        clear hGG GG
        refine ⟨Ne.symm p2, off_sub (off1_append (off1_swap oE (o := oI) (by simp)) hI6) (by ((try simp only [List.cons_append, List.append_assoc, List.nil_append]); repeat' (first | (with_reducible refine sub_cons ?_ ?_; k_mem) | with_reducible refine sub_app ?_ ?_ | exact sub_nil | (intro q hq; kpc_turns))))⟩
      refine ⟨_, _, _, _, _, rfl, rfl, by k_asm, N7', o9I, ⟨by (intro y hy; first | ((repeat (first | refine agree_l hy (by k_mem) ?_ | refine agree_r hy (by k_mem) ?_)); exact rfl) | (simp only [List.mem_cons, List.not_mem_nil, or_false, not_or] at hy; simp only [hy, if_false])), o1'', o2'', ext9, _, _, rfl, ?_, ?_, hex9, TabOk.mono hsub9 T1', TabOk.mono hsub9 T2'⟩⟩
      · rw [rowsTo_succ, Array.toList_push, ← hy9]
        refine All2.snoc (RowsIn.mono hsubE hR) ⟨T8, u3, u4, 0, rfl, ?_, ?_⟩
        · rw [hext9]; exact List.mem_cons_self
        · show Small (y9 / 4)
          unfold Small at *; lia
      · rw [Array.size_push, hvz]
    case hR =>
      intro h2 tk2 dr o news' hdr F1 N1 pp4
      refine hideG fun GG hGG => ?_
      obtain ⟨o1', o2', ext, vsT, kT, rfl, hR, hvz, hex, hT1, hT2⟩ := pp4
      dsimp only [canonL, List.foldr] at F1 N1
      refine hGG ?_
      clear hGG GG
      subst hdr
      k_steps
      exact hret x0 d0 l0 _ _ o1' o2' ext vsT kT _ (by k_asm) (by k_asm) hR hex f1 f2 f3 hT1 hT2
end

theorem lines2 : True := by
  k_with "eval ListComp" => (k_here; (with_reducible show wpAny _ _ (eval (PySem.Expr.ListComp _ [⟨_, _, [], _⟩] _ _) _) _ _ _); k_dflt (refine LCg.ListComp_U (F₀ := by k_asm) (by with_unfolding_all rfl) (by decide) (by rfl) (by decide) (by rfl) ?_))
  k_with "exec Assign cons ListComp" => (k_here; (with_reducible show wpAny _ _ (exec (PySem.Stmt.Assign _ (PySem.Expr.ListComp _ [⟨_, _, [], _⟩] _ _) _) _) _ _ _); k_dflt (refine LCg.Assign_ListComp_U (F₀ := by k_asm) (by rfl) (by with_unfolding_all rfl) (by with_unfolding_all rfl) (by decide) (by rfl) (by decide) (by rfl) (by rfl) (by rfl) ?_))
  k_with "eval ListComp" => (k_here; (with_reducible show wpAny _ _ (eval (PySem.Expr.ListComp _ [⟨PySem.Expr.Tuple _ _ _, _, [], _⟩] _ _) _) _ _ _); k_dflt (refine LCp.ListComp_P (F₀ := by k_asm) (by with_unfolding_all rfl) (by decide) (by rfl) (by decide) (by rfl) (by rfl) (by decide) ?_))
  k_with "exec Assign cons ListComp" => (k_here; (with_reducible show wpAny _ _ (exec (PySem.Stmt.Assign _ (PySem.Expr.ListComp _ [⟨PySem.Expr.Tuple _ _ _, _, [], _⟩] _ _) _) _) _ _ _); k_dflt (refine LCp.Assign_ListComp_P (F₀ := by k_asm) (by rfl) (by with_unfolding_all rfl) (by with_unfolding_all rfl) (by decide) (by rfl) (by decide) (by rfl) (by rfl) (by decide) (by rfl) (by rfl) ?_))
  k_with "eval ListComp" => (k_here; (with_reducible show wpAny _ _ (eval (PySem.Expr.ListComp _ [⟨_, PySem.Expr.Constant _ _ _, [_], _⟩] _ _) _) _ _ _); k_dflt (refine ListComp_TS (F₀ := by k_asm) (by with_unfolding_all rfl) (by decide) (by rfl) (by decide) (by rfl) ?_ (by intro _; rfl)))
  k_with "eval ListComp" => (k_here; (with_reducible show wpAny _ _ (eval (PySem.Expr.ListComp _ [⟨_, PySem.Expr.Constant _ _ _, [], _⟩] _ _) _) _ _ _); k_dflt (refine ListComp_US (F₀ := by k_asm) (by with_unfolding_all rfl) (by decide) (by rfl) (by decide) (by rfl) ?_ (by intro _; rfl)))
  exact True.intro

section
set_option maxRecDepth 100000 in
set_option maxHeartbeats 8000000 in
theorem c_forests : ∀ {w : World} {mean : ExcName → Option Value} {mg mb : Str → Option Value} {p : Program} {loose : List Str} {dp un : Nat} {gd : Option (List Code)} {cn : Str} {cs : Scope} {a : Addr} {ccd : Value} {cl : List (Str × Addr)} {outer : List Env} {A₀ : Around} {base h₀ : Heap} {L : Addr} {m : Str → Option Value} {s : Shared} {Q E : Value → Shared → Prop} (B : Below A₀ base outer h₀) (F : Fr h₀ L s.heap m) (X : (K w.params).In h₀) (T : Top p loose mean mg mb h₀) (hk : cs.kind = .function)
  (news : List (Addr × Obj)) (N : News h₀ L s.heap news) (hd : dp + 60 < recursionLimit) (hu : un + 300 < cLine)
  (ln kn : Nat) (vs : List Value) (ns : List Int) (hln : (ln, W.listOf vs.toArray kn) ∈ news) (hA : IntsAre vs ns) (hl : ns.length = 8) (hb : ∀ x ∈ ns, -400 < x ∧ x < 400)
  (gl kg : Nat) (tg0 tg1 : Tok) (g0 g1 : Int) (hgl : (gl, W.listOf #[.int g0 tg0, .int g1 tg1] kg) ∈ news) (hg0 : 0 ≤ g0 ∧ g0 < 4) (hg1 : 0 ≤ g1 ∧ g1 < 4) (hgg : g0 ≠ g1) (pl cd : Int) (hpl : 0 ≤ pl ∧ pl < 4) (hcd : 0 ≤ cd ∧ cd < 4) (tp tc : Tok)
  (hret : ∀ t h' tk', Fr h₀ L h' m → News h₀ L h' news → Q (.int (worthTo ns g0 g1 pl cd 8) t) { s with heap := h', toks := tk' }),
  wpAny (model PySem.Challenge.rw_pm0082_01.row.toRowW.prog w) (ktrTop dp un gd cn cs L a ccd cl outer) (call (.ref 312) [.ref ln, .ref gl, .int pl tp, .int cd tc]) Q E s := by
  w_top off
  have in_c23 := Tag.mk
  k_with "call ref" => (guard_hyp in_c23; (k_here; refine openSeal ?_))
  k_with "subscriptTail BinOp Name Add List Name ref int" => (guard_hyp in_c23; (k_here; refine openSeal ?_))
  k_with "subscriptTail Name BinOp ref int" => (guard_hyp in_c23; (k_here; refine openSeal ?_))
  k_with "binaryOp Pow int int" => (guard_hyp in_c23; (k_here; refine openSeal ?_))
  k_with "binaryOp FloorDiv int int" => (guard_hyp in_c23; (k_here; refine openSeal ?_))
  k_with "binaryOp Mod int int" => (guard_hyp in_c23; (k_here; refine mod_int' (by decide) ?_; rw [Int.fmod_eq_emod_of_nonneg _ (by decide)]))
  k_with "binaryOp Add ref ref" => (guard_hyp in_c23; (k_here; refine openSeal ?_))
  k_with "CompSrc" => (guard_hyp in_c23; (k_here; refine openSeal ?_))
  k_with "exec Assign cons Dict" => (guard_hyp in_c23; (k_here; refine openSeal ?_))
  k_with "eval Dict" => (guard_hyp in_c23; (k_here; k_dflt (refine' kdn_eval (knd := PySem.intKind PySem.Challenge.rw_pm0082_01.row.toRowW.prog _) ?z16F ?z16N ?z16b ?z16a ?z16l ?z16e ?z16n ?_; (case z16F => k_asm); (case z16N => k_asm); (case z16b => exact Top.nolimit (by k_asm)); (case z16a => rfl); (case z16l => rfl); (case z16e => exact List.cons_ne_nil _ _); (case z16n => exact Nat.le_of_ble_eq_true rfl)); intro _ _ _ _ _ _ _ _))
  k_with "subscriptTail Name Constant ref int" => (guard_hyp in_c23; (k_here; (with_reducible show wpAny _ _ (subscriptTail (PySem.Expr.Name (Str.ofString "gone") _) _ _ (Value.int 0 _)) _ _ _); k_dflt (refine sub20 (by k_asm) (by k_mem) ?_ (by with_unfolding_all rfl)); intro _))
  k_with "subscriptTail Name Constant ref int" => (guard_hyp in_c23; (k_here; (with_reducible show wpAny _ _ (subscriptTail (PySem.Expr.Name (Str.ofString "gone") _) _ _ (Value.int 1 _)) _ _ _); k_dflt (refine sub21 (by k_asm) (by k_mem) ?_ (by with_unfolding_all rfl)); intro _))
  k_with "subscriptTail Name Constant ref int" => (guard_hyp in_c23; (k_here; (with_reducible show wpAny _ _ (subscriptTail (PySem.Expr.Name (Str.ofString "chosen") _) _ _ (Value.int 0 _)) _ _ _); k_dflt (refine sub30 (by k_asm) (by k_mem) ?_ (by with_unfolding_all rfl)); intro _))
  k_with "subscriptTail Name Constant ref int" => (guard_hyp in_c23; (k_here; (with_reducible show wpAny _ _ (subscriptTail (PySem.Expr.Name (Str.ofString "chosen") _) _ _ (Value.int 1 _)) _ _ _); k_dflt (refine sub31 (by k_asm) (by k_mem) ?_ (by with_unfolding_all rfl)); intro _))
  k_with "subscriptTail Name Constant ref int" => (guard_hyp in_c23; (k_here; (with_reducible show wpAny _ _ (subscriptTail (PySem.Expr.Name (Str.ofString "chosen") _) _ _ (Value.int 2 _)) _ _ _); k_dflt (refine sub32 (by k_asm) (by k_mem) ?_ (by with_unfolding_all rfl)); intro _))
  k_with "binaryOp Mult int int" => (guard_hyp in_c23; (k_here; refine mul_int ?_ (.of_right (PySem.intBits_le_64 (by lia) (by lia)))))
  k_with "binaryOp FloorDiv int int" => (guard_hyp in_c23; (k_here; (with_reducible show wpAny _ _ (binaryOp _ (Value.int _ _) (Value.int 4 _)) _ _ _); refine floordiv_int (by decide) ?_ (.inl (PyProof.noPylong_small (by lia))); rw [Int.fdiv_eq_ediv_of_nonneg _ (by decide)]))
  k_with "KdnMade cons" => (guard_hyp in_c23; (k_here; refine openSeal ?_))
  k_with "compareOp NotIn none ref" => (guard_hyp in_c23; (k_here; refine openSeal ?_))
  k_with "eval Name" => (guard_hyp in_c23; (k_here; (with_reducible show wpAny _ _ (eval (PySem.Expr.Name (Str.ofString "j") _) _) _ _ _); k_dflt (refine' LCgL.ld_own (N := ?z17n1) ?z17n2 ?z17n3 ?z17n4 ?_ ?z17n5 ?z17n6 ?z17n7; (case z17n1 => k_asm); (case z17n3 => with_reducible assumption); (case z17n2 => k_mem); (case z17n4 => with_reducible assumption); (case z17n5 => exact rfl); (case z17n6 => exact rfl); (case z17n7 => decide))))
  k_with "eval Name" => (guard_hyp in_c23; (k_here; (with_reducible show wpAny _ _ (eval (PySem.Expr.Name (Str.ofString "far") _) _) _ _ _); k_dflt (refine' LCgL.ld_own (N := ?z18n1) ?z18n2 ?z18n3 ?z18n4 ?_ ?z18n5 ?z18n6 ?z18n7; (case z18n1 => k_asm); (case z18n3 => with_reducible assumption); (case z18n2 => k_mem); (case z18n4 => with_reducible assumption); (case z18n5 => exact rfl); (case z18n6 => exact rfl); (case z18n7 => decide))))
  k_with "CompEnd" => (guard_hyp in_c23; (k_here; refine openSeal ?_))
  k_fill
  intro w mean mg mb p loose dp un gd cn cs a ccd cl outer A₀ base h₀ L m s Q E B F X T hk news N hd hu ln kn vs ns hln hA hl hb gl kg tg0 tg1 g0 g1 hgl hg0 hg1 hgg pl cd hpl hcd tp tc hret
  refine wpAny_call ?_
  k_dflt (refine' code_defC ?k1 ?k2 ?k3 ?k4 ?k5 ?kA ?kF ?kK ?k6 ?k7 ?k8 ?k9 ?kB ?kD ?_ ?c2 ?c3 ?c4; (case kA => exact rfl); (case kF => exact rfl); (case kK => assumption); (case k1 => k_asm); (case k2 => k_asm); (case k3 => k_asm); (case k4 => k_asm); (case k5 => k_asm); (case k6 => k_is); (case k7 => k_is); (case k8 => ktr_room); (case k9 => first | exact BindsTo.of_eq rfl | exact binds_K (by k_in) rfl (by k_is) rfl rfl rfl); (case kB => exact rfl); (case kD => decide +kernel); (case c2 => exact rfl); (case c3 => exact rfl); (case c4 => exact rfl); k_whole; intro g' L' h' tk' cells' FG' F' N' Y' B' X' T' l1; (refine letF F' ?_); (clear F'); (intro mF F'); (refine hideG fun GG hGG => ?_); (have hAL := allLt_of l1); (try k_lt l1); (repeat (replace hAL := And.right hAL)); k_cells Y'; (try simp only [List.cons_append, List.nil_append] at N'); (refine hGG ?_); (clear hGG GG); (try kfm_turns); (try k_lift B'); (try k_fold); (refine letA ?_); (intro A9))
  k_steps
  rename_i oL oK oP oG oN dL dK dP dG dN g1' F2 N2 g2 tk2 r1 r2 r3 hrg F3 N3 hkp
  have hall0 : AllLt L' news := by with_reducible assumption
  have dN2 : oN.data = .cell (some (.ref ln)) := dN
  have dG2 : oG.data = .cell (some (.ref gl)) := dG
  have dP2 : oP.data = .cell (some (.int pl tp)) := dP
  have dL2 : oL.data = .cell none := dL
  have dK2 : oK.data = .cell none := dK
  clear dN dG dP dL dK
  have hK : LCg.Off1 (L' + 1 + 1 + 1 + 1) ((L' + 1 + 1 + 1, oP) :: (L' + 1 + 1, oG) :: (L' + 1, oN) :: news) := ⟨Nat.ne_of_lt (Nat.lt_succ_self _), Nat.ne_of_lt (by lia), Nat.ne_of_lt (by lia), off1_of (allLt_ne hall0 (by lia))⟩
  refine src_range (n := 8) (DD := (· = s.drawn)) (hD := rfl) (xs := [Str.ofString "worth", Str.ofString "chosen"]) (hh := rfl) (fun _ _ => rfl) F3 N3 hrg (by decide +kernel) (by decide +kernel)
    (J := fun i m₁ nw => Ex5 fun oL' vL oK' vK tw => Co4 (nw = (L' + 1 + 1 + 1 + 1 + 1, oL') :: (L' + 1 + 1 + 1 + 1, oK') :: (L' + 1 + 1 + 1, oP) :: (L' + 1 + 1, oG) :: (L' + 1, oN) :: news) (oL'.data = .cell vL) (oK'.data = .cell vK) (m₁ (Str.ofString "worth") = some (.int (worthTo ns g0 g1 pl cd i) tw))) ?h0 ?step ?hR
  case h0 =>
    refine' ⟨oL, _, oK, _, ?tw0, rfl, dL2, dK2, ?hw0⟩
    case' hw0 => skip
    have e0 : worthTo ns g0 g1 pl cd 0 = 0 := rfl
    rw [e0]
    exact rfl
  case step =>
    intro I gg tk3
    unfold TurnX
    intro i v ex o nw h tk dr oI E' hdr hi pp1 pp2 F5 N5 oo1 oo2
    refine hideG fun GG hGG => ?_
    obtain ⟨⟨ti, rfl⟩, rfl⟩ := pp1
    obtain ⟨oL', vL, oK', vK, tw, rfl, hoL, hoK, hw⟩ := pp2
    dsimp only [canonL, List.foldr, List.nil_append] at F5 N5 oo1
    simp only [canonL, List.foldr, List.nil_append, if_true] at hw
    refine hGG ?_
    clear hGG GG
    rw [hw] at F5
    rw [Int.zero_add]
    subst hdr
    refine hideG fun GG hGG => ?_
    obtain ⟨hI1, hI2, hI3, hI4, hI5, hI6⟩ := oo1
    refine hGG ?_
    clear hGG GG
    dsimp only at hI1 hI2 hI3 hI4 hI5
    k_steps
    rename_i g3 oK2 F6 N6 dK2 g4 tk4 r4 r5 r6 hrg2 F7 N7 hkp2
    unfold Sealed
    k_dflt (refine LCg.CompSrc.range (n := 3) rfl F7 N7 hrg2 (by decide +kernel) (by decide +kernel) (by decide +kernel) ?_)
    intro gg4
    refine restU_J (n := 3) (fun j ys9 nw => nw = ((I, oI) :: (L' + 1 + 1 + 1 + 1 + 1, oL') :: (L' + 1 + 1 + 1 + 1, oK2) :: (L' + 1 + 1 + 1, oP) :: (L' + 1 + 1, oG) :: (L' + 1, oN) :: news) ∧
      All2 IsI ((List.range j).map fun j => chN ns g0 g1 pl i j) ys9) ?turn ?fin _ _ _ _ rfl ?j0
    case j0 =>
      exact ⟨rfl, .nil⟩
    case fin =>
      intro ys9 nw pp3
      refine hideG fun GG hGG => ?_
      obtain ⟨rfl, hys9⟩ := pp3
      obtain ⟨c0, c1, c2, tc0, tc1, tc2, e0, e1, e2, rfl⟩ : ∃ c0 c1 c2 t0 t1 t2, c0 = chN ns g0 g1 pl i 0 ∧ c1 = chN ns g0 g1 pl i 1 ∧ c2 = chN ns g0 g1 pl i 2 ∧ ys9 = [.int c0 t0, .int c1 t1, .int c2 t2] := by
        obtain _ | ⟨⟨t0, e0⟩, h0⟩ := hys9
        obtain _ | ⟨⟨t1, e1⟩, h1⟩ := h0
        obtain _ | ⟨⟨t2, e2⟩, h2⟩ := h1
        obtain _ | _ := h2
        exact ⟨_, _, _, t0, t1, t2, rfl, rfl, rfl, by rw [e0, e1, e2]⟩
      refine hGG ?_
      clear hGG GG
      k_steps
      rename_i Dc hc tkc Fc Nc y1 y2 y3 y4 y5 y6 y7
      have Nd : News g' L' hc ((Dc, W.listOf #[.int c0 tc0, .int c1 tc1, .int c2 tc2] 3) :: (I, oI) :: (L' + 1 + 1 + 1 + 1 + 1, oL') :: (L' + 1 + 1 + 1 + 1, oK2) :: (L' + 1 + 1 + 1, oP) :: (L' + 1 + 1, oG) :: (L' + 1, oN) :: news) := Nc
      clear Nc
      unfold Sealed
      refine wpAny_Assign_Name ?_
      k_steps
      rename_i dS hS oS FS NS lS loS hdS t1 t2 t3 t4
      unfold Sealed
      refine' kdn_made_intF ?F ?N ?U ?d ?k ?n ?v ?_
      case F => k_asm
      case N => k_asm
      case U => exact UpdF.head fun p hp => Nat.ne_of_lt (lS p hp)
      case d => k_asm
      case k => exact rfl
      case n => (show [g0, g1].Nodup; exact List.nodup_cons.mpr ⟨by simpa using hgg, List.nodup_cons.mpr ⟨List.not_mem_nil, List.nodup_nil⟩⟩)
      case v => exact rfl
      intro hE oE FE NE hdE hfE
      (try dsimp only at NE)
      have hfE2 : PyProof.V.FlatPairs PyData.int _ (kdfD [(g0, c0 % 4), (g1, c1 % 4)]) := hfE
      clear hfE
      k_lt lS
      k_steps
      rename_i z1 z2 z3 z4 z5 z6 z7 hZ oL2 FZ NZ dZ
      unfold Sealed
      k_dflt (refine LCg.CompSrc.ledger (its := #[.int g0 tg0, .int g1 tg1]) (hh := rfl) (by k_asm) NZ (by k_mem) (by show 2 ≤ _; decide +kernel) ?_)
      intro gg5
      have hbn : ∀ j, -400 < chN ns g0 g1 pl i j ∧ chN ns g0 g1 pl i j < 400 := by
        intro j
        unfold chN
        rw [List.getD_eq_getElem?_getD]
        cases hx : ns[(([g0, g1, pl] : List Int).getD j 0 + 4 * ((i : Int) / 2 ^ j % 2)).toNat]? with
        | none => exact ⟨by decide, by decide⟩
        | some x => exact hb x (List.mem_of_getElem? hx)
      have hb0 := hbn 0
      have hb1 := hbn 1
      have hb2 := hbn 2
      rw [← e0] at hb0
      rw [← e1] at hb1
      rw [← e2] at hb2
      clear hbn
      have hd0 : -100 ≤ c0 / 4 ∧ c0 / 4 ≤ 100 := by lia
      have hd1 : -100 ≤ c1 / 4 ∧ c1 / 4 ≤ 100 := by lia
      have hd2 : -100 ≤ c2 / 4 ∧ c2 / 4 ≤ 100 := by lia
      refine nameL ([(g0, c0 % 4), (g1, c1 % 4)]) fun CC hCC => ?_
      have hok0 : okF g0 g1 cd c0 c1 c2 = (((endN CC 3 g0).isSome && (endN CC 3 g1).isSome) && decide (endN CC 3 (c2 % 4) = some cd)) := by rw [hCC]; rfl
      have hwt : worthTo ns g0 g1 pl cd (i + 1) = worthTo ns g0 g1 pl cd i + (if okF g0 g1 cd c0 c1 c2 = true then c0 / 4 * (c1 / 4) * (c2 / 4) else 0) := by rw [e0, e1, e2]; rfl
      rw [← hCC] at hfE2
      refine restU_J (n := 2) (fun j ys8 nw => nw = (dS, oE) :: (Dc, W.listOf #[.int c0 tc0, .int c1 tc1, .int c2 tc2] 3) :: (I, oI) :: (L' + 1 + 1 + 1 + 1 + 1, oL2) :: (L' + 1 + 1 + 1 + 1, oK2) :: (L' + 1 + 1 + 1, oP) :: (L' + 1 + 1, oG) :: (L' + 1, oN) :: news ∧ All2 (fun x v => optV (endN CC 3 x) v) (([g0, g1] : List Int).take j) ys8) ?turn2 ?fin2 _ _ _ _ rfl ?j02
      case j02 => exact ⟨rfl, All2.nil⟩
      case turn2 =>
        intro j v ys8 nw hj hv pp4 J0 oJ C0 oC D0 m₂ h tk E' a1 a2 a3 a4 a5
        refine hideG fun GG hGG => ?_
        obtain ⟨rfl, hys8⟩ := pp4
        refine hGG ?_
        clear hGG GG
        intro a6
        refine hideG fun GG hGG => ?_
        obtain ⟨gx, tx, rfl, hgx⟩ : ∃ gx tx, v = .int gx tx ∧ ([g0, g1] : List Int)[j]? = some gx := by
          have h2 : j = 0 ∨ j = 1 := by lia
          rcases h2 with rfl | rfl
          · exact ⟨g0, tg0, (Option.some.inj hv).symm, rfl⟩
          · exact ⟨g1, tg1, (Option.some.inj hv).symm, rfl⟩
        refine hGG ?_
        clear hGG GG
        k_steps
        unfold Sealed
        k_dflt (refine' c_end ?k1 ?k2 ?k3 ?k4 ?k5 _ ?k6 ?k7 ?k8 dS oE _ CC gx _ ?m1 ?m2 ?m3 ?m4 ?_; (case k1 => k_asm); (case k2 => k_asm); (case k3 => k_asm); (case k4 => k_asm); (case k5 => first | exact rfl | assumption); (case k6 => k_asm); (case k7 => ktr_room); (case k8 => ktr_units); (case m1 => k_mem); (case m2 => exact loS); (case m3 => exact hdE); (case m4 => exact hfE2); k_whole)
        intro v h9 tk9 hv9 F9 N9
        k_steps
        unfold Sealed
        refine' ⟨_, _, _, rfl, ?f8, News.sub N9 (by ((try simp only [List.cons_append, List.append_assoc, List.nil_append]); repeat' (first | (with_reducible refine sub_cons ?_ ?_; k_mem) | with_reducible refine sub_app ?_ ?_ | exact sub_nil | (intro q hq; kpc_turns)))), a5, ?s8, rfl, ?a8⟩
        case f8 => k_asm
        case s8 => exact .inr ⟨_, by k_mem, rfl, _, rfl⟩
        case a8 =>
          rw [List.take_add_one, hgx]
          exact hys8.snoc hv9
      case fin2 =>
        intro ys8 nw pp5
        refine hideG fun GG hGG => ?_
        obtain ⟨rfl, hys8⟩ := pp5
        refine hGG ?_
        clear hGG GG
        k_steps
        rename_i De he tke Fe Ne x1 x2 x3 x4 x5 x6 x7 x8 x9
        refine hideG fun GG hGG => ?_
        obtain ⟨v0, v1, hv0, hv1, rfl⟩ : ∃ v0 v1, optV (endN CC 3 g0) v0 ∧ optV (endN CC 3 g1) v1 ∧ ys8 = [v0, v1] := by
          obtain _ | ⟨h0, hys8⟩ := hys8
          obtain _ | ⟨h1, hys8⟩ := hys8
          obtain _ | _ := hys8
          exact ⟨_, _, h0, h1, rfl⟩
        refine hGG ?_
        clear hGG GG
        unfold Sealed
        refine kqd_notIn (n₁ := []) (n₂ := []) (ds := [datO (endN CC 3 g0), datO (endN CC 3 g1)]) (d := .none) Ne List.mem_cons_self rfl rfl (.cons (datO_in hv0) (.cons (datO_in hv1) .nil)) (fun _ h => nomatch h) .none (fun _ h => nomatch h) ?ha rfl ?hu ?_
        case ha =>
          intro d hd
          have key : ∀ o : Option Int, kqdOk 8 (datO o) = true := fun o => by cases o <;> rfl
          rcases List.mem_cons.mp hd with rfl | hd
          · exact key _
          · rcases List.mem_cons.mp hd with rfl | hd
            · exact key _
            · exact nomatch hd
        case hu => ktr_units
        rw [datO_none]
        k_steps
        · rename_i hok t'
          unfold Sealed
          k_dflt (refine' c_end ?k1 ?k2 ?k3 ?k4 ?k5 _ ?k6 ?k7 ?k8 dS oE _ CC (c2 % 4) _ ?m1 ?m2 ?m3 ?m4 ?_; (case k1 => k_asm); (case k2 => k_asm); (case k3 => k_asm); (case k4 => k_asm); (case k5 => first | exact rfl | assumption); (case k6 => k_asm); (case k7 => ktr_room); (case k8 => ktr_units); (case m1 => k_mem); (case m2 => exact loS); (case m3 => exact hdE); (case m4 => exact hfE2); k_whole)
          intro v h9 tk9 hv9 F9 N9
          cases hend : endN CC 3 (c2 % 4) with
          | none =>
            rw [hend] at hv9
            cases hv9
            k_steps
            refine' ⟨_, _, _, _, _, rfl, rfl, ?f9, ?n9, ?o9, ⟨?g9, oL2, _, oK2, _, _, rfl, dZ, dK2, ?e9⟩⟩
            case f9 => k_asm
            case n9 => exact News.sub (by k_asm) (by ((try simp only [List.cons_append, List.append_assoc, List.nil_append]); repeat' (first | (with_reducible refine sub_cons ?_ ?_; k_mem) | with_reducible refine sub_app ?_ ?_ | exact sub_nil | (intro q hq; kpc_turns))))
            case o9 => exact ⟨hI1, hI2, hI3, hI4, hI5, hI6⟩
            case g9 => exact (by (intro y hy; first | ((repeat (first | refine agree_l hy (by k_mem) ?_ | refine agree_r hy (by k_mem) ?_)); exact rfl) | (simp only [List.mem_cons, List.not_mem_nil, or_false, not_or] at hy; simp only [hy, if_false])))
            case e9 =>
              have hbt : okF g0 g1 cd c0 c1 c2 = false := by
                rw [hok0, hok, hend, decide_eq_false (show ¬ ((none : Option Int) = some cd) from fun h => nomatch h)]
                rfl
              have hvv : worthTo ns g0 g1 pl cd (i + 1) = worthTo ns g0 g1 pl cd i := by
                rw [hwt, if_neg (by rw [hbt]; exact Bool.false_ne_true), Int.add_zero]
              refine Eq.trans ?_ (congrArg (fun z => some (Value.int z _)) hvv.symm)
              exact rfl
          | some xe =>
            rw [hend] at hv9
            obtain ⟨te, rfl⟩ := hv9
            k_steps
            · rename (xe = cd) => hxe
              refine' ⟨_, _, _, _, _, rfl, rfl, ?f9, ?n9, ?o9, ⟨?g9, oL2, _, oK2, _, _, rfl, dZ, dK2, ?e9⟩⟩
              case f9 => k_asm
              case n9 => exact News.sub (by k_asm) (by ((try simp only [List.cons_append, List.append_assoc, List.nil_append]); repeat' (first | (with_reducible refine sub_cons ?_ ?_; k_mem) | with_reducible refine sub_app ?_ ?_ | exact sub_nil | (intro q hq; kpc_turns))))
              case o9 => exact ⟨hI1, hI2, hI3, hI4, hI5, hI6⟩
              case g9 => exact (by (intro y hy; first | ((repeat (first | refine agree_l hy (by k_mem) ?_ | refine agree_r hy (by k_mem) ?_)); exact rfl) | (simp only [List.mem_cons, List.not_mem_nil, or_false, not_or] at hy; simp only [hy, if_false])))
              case e9 =>
                have hbt : okF g0 g1 cd c0 c1 c2 = true := by
                  rw [hok0, hok, hend, hxe, decide_eq_true rfl]
                  rfl
                have hvv : worthTo ns g0 g1 pl cd (i + 1) = worthTo ns g0 g1 pl cd i + c0 / 4 * (c1 / 4) * (c2 / 4) := by
                  rw [hwt, if_pos hbt]
                refine Eq.trans ?_ (congrArg (fun z => some (Value.int z _)) hvv.symm)
                exact rfl
            · rename (xe ≠ cd) => hxe
              refine' ⟨_, _, _, _, _, rfl, rfl, ?f9, ?n9, ?o9, ⟨?g9, oL2, _, oK2, _, _, rfl, dZ, dK2, ?e9⟩⟩
              case f9 => k_asm
              case n9 => exact News.sub (by k_asm) (by ((try simp only [List.cons_append, List.append_assoc, List.nil_append]); repeat' (first | (with_reducible refine sub_cons ?_ ?_; k_mem) | with_reducible refine sub_app ?_ ?_ | exact sub_nil | (intro q hq; kpc_turns))))
              case o9 => exact ⟨hI1, hI2, hI3, hI4, hI5, hI6⟩
              case g9 => exact (by (intro y hy; first | ((repeat (first | refine agree_l hy (by k_mem) ?_ | refine agree_r hy (by k_mem) ?_)); exact rfl) | (simp only [List.mem_cons, List.not_mem_nil, or_false, not_or] at hy; simp only [hy, if_false])))
              case e9 =>
                have hbt : okF g0 g1 cd c0 c1 c2 = false := by
                  rw [hok0, hok, hend, decide_eq_false (show ¬ (some xe = some cd) from fun h => hxe (Option.some.inj h))]
                  rfl
                have hvv : worthTo ns g0 g1 pl cd (i + 1) = worthTo ns g0 g1 pl cd i := by
                  rw [hwt, if_neg (by rw [hbt]; exact Bool.false_ne_true), Int.add_zero]
                refine Eq.trans ?_ (congrArg (fun z => some (Value.int z _)) hvv.symm)
                exact rfl
        · rename_i hok
          refine' ⟨_, _, _, _, _, rfl, rfl, ?f9, ?n9, ?o9, ⟨?g9, oL2, _, oK2, _, _, rfl, dZ, dK2, ?e9⟩⟩
          case f9 => k_asm
          case n9 => exact News.sub (by k_asm) (by ((try simp only [List.cons_append, List.append_assoc, List.nil_append]); repeat' (first | (with_reducible refine sub_cons ?_ ?_; k_mem) | with_reducible refine sub_app ?_ ?_ | exact sub_nil | (intro q hq; kpc_turns))))
          case o9 => exact ⟨hI1, hI2, hI3, hI4, hI5, hI6⟩
          case g9 => exact (by (intro y hy; first | ((repeat (first | refine agree_l hy (by k_mem) ?_ | refine agree_r hy (by k_mem) ?_)); exact rfl) | (simp only [List.mem_cons, List.not_mem_nil, or_false, not_or] at hy; simp only [hy, if_false])))
          case e9 =>
            have hbt : okF g0 g1 cd c0 c1 c2 = false := by
              rw [hok0, hok, Bool.false_and]
            have hvv : worthTo ns g0 g1 pl cd (i + 1) = worthTo ns g0 g1 pl cd i := by
              rw [hwt, if_neg (by rw [hbt]; exact Bool.false_ne_true), Int.add_zero]
            refine Eq.trans ?_ (congrArg (fun z => some (Value.int z _)) hvv.symm)
            exact rfl
    case turn =>
      intro j v ys9 nw hj pp6 pp7 J0 oJ C0 oC D0 m₂ h tk E' a1 a2 a3 a4 a5
      refine hideG fun GG hGG => ?_
      obtain ⟨tj, rfl⟩ := pp6
      obtain ⟨rfl, hys9⟩ := pp7
      refine hGG ?_
      clear hGG GG
      intro a6
      k_steps
      unfold Sealed
      rename News _ _ _ _ => N8
      refine kmk_add_lit (its := #[.int g0 tg0, .int g1 tg1]) (its2 := #[.int pl tp]) (zs := [.int g0 tg0, .int g1 tg1, .int pl tp]) (by k_asm) (by k_asm) ?la ?lb rfl ?_ ?lz
      case la => exact News.isList (by k_asm) (by k_mem)
      case lb => exact News.isList (by k_asm) (by k_mem)
      case lz => (show 2 + 1 ≤ _; decide +kernel)
      intro D9 h9 F9 N9 l9
      k_steps
      unfold Sealed
      refine ksa_sub (vs := [_, _, _]) (by k_asm) (by k_mem) (.cons _ _ (.cons _ _ (.cons _ _ .nil))) (by lia) (by simp only [List.length_cons, List.length_nil]; lia) (by lia) ?_ (by with_unfolding_all rfl)
      intro t7
      have hp0 : (0 : Int) < 2 ^ j := Int.pow_pos (by decide)
      have hp4 : (2 : Int) ^ j ≤ 4 := by
        have key : ∀ j : Fin 3, (2 : Int) ^ j.val ≤ 4 := by decide
        exact key ⟨j, hj⟩
      have hm0 := Int.emod_nonneg ((i : Int) / 2 ^ j) (show (2 : Int) ≠ 0 by decide)
      have hm1 := Int.emod_lt_of_pos ((i : Int) / 2 ^ j) (show (0 : Int) < 2 by decide)
      have ej : (0 + (j : Int)).toNat = j := by lia
      rw [ej]
      have hgp : 0 ≤ ([g0, g1, pl] : List Int).getD j 0 ∧ ([g0, g1, pl] : List Int).getD j 0 < 4 := by
        have h3 : j = 0 ∨ j = 1 ∨ j = 2 := by lia
        rcases h3 with rfl | rfl | rfl
        · exact hg0
        · exact hg1
        · exact hpl
      refine nameL (([g0, g1, pl] : List Int).getD j 0) fun gj hgj => ?_
      rw [← hgj] at hgp ⊢
      k_steps
      unfold Sealed
      refine pow_int_small (by lia) (by lia) (by decide) ?_
      rw [ej]
      k_steps
      unfold Sealed
      refine floordiv_int (by lia) ?_ (.inl (PyProof.noPylong_small (by lia)))
      rw [Int.fdiv_eq_ediv_of_nonneg _ (Int.le_of_lt hp0)]
      k_steps
      unfold Sealed
      refine ksa_sub (D := ln) (vs := vs) (n := kn) (by k_asm) (by k_mem) hA (by lia) (by lia) (by lia) ?_ (by with_unfolding_all rfl)
      intro t8
      k_steps
      unfold Sealed
      refine' ⟨_, _, _, rfl, ?f8, News.sub N9 (by ((try simp only [List.cons_append, List.append_assoc, List.nil_append]); repeat' (first | (with_reducible refine sub_cons ?_ ?_; k_mem) | with_reducible refine sub_app ?_ ?_ | exact sub_nil | (intro q hq; kpc_turns)))), ?o8, ?s8, rfl, ?a8⟩
      case f8 => k_asm
      case o8 => exact a5
      case s8 => exact trivial
      case a8 =>
        rw [List.range_succ, List.map_append]
        exact hys9.snoc ⟨_, by rw [hgj]; rfl⟩
  case hR =>
    intro h2 tk2 dr o news' hdr F5 N5 pp8
    refine hideG fun GG hGG => ?_
    obtain ⟨oL', vL, oK', vK, tw, rfl, hoL, hoK, hw⟩ := pp8
    dsimp only [canonL, List.foldr, List.nil_append] at F5 N5
    simp only [canonL, List.foldr, List.nil_append, if_true] at hw
    refine hGG ?_
    clear hGG GG
    rw [hw] at F5
    subst hdr
    k_steps
    exact hret _ _ _ (by k_asm) (News.sub (by k_asm) (by ((try simp only [List.cons_append, List.append_assoc, List.nil_append]); repeat' (first | (with_reducible refine sub_cons ?_ ?_; k_mem) | with_reducible refine sub_app ?_ ?_ | exact sub_nil | (intro q hq; kpc_turns)))))
end

section
set_option maxRecDepth 100000 in
set_option maxHeartbeats 8000000 in
theorem c_gone : ∀ {w : World} {mean : ExcName → Option Value} {mg mb : Str → Option Value} {p : Program} {loose : List Str} {dp un : Nat} {gd : Option (List Code)} {cn : Str} {cs : Scope} {a : Addr} {ccd : Value} {cl : List (Str × Addr)} {outer : List Env} {A₀ : Around} {base h₀ : Heap} {L : Addr} {m : Str → Option Value} {s : Shared} {Q E : Value → Shared → Prop} (B : Below A₀ base outer h₀) (F : Fr h₀ L s.heap m) (X : (K w.params).In h₀) (T : Top p loose mean mg mb h₀) (hk : cs.kind = .function) (C1 : CodeHd base 200 196)
  (news : List (Addr × Obj)) (N : News h₀ L s.heap news) (hd : dp + 90 < recursionLimit) (hu : un + 700 < cLine)
  (o1 : Obj) (l kk : Nat) (vs : List Value) (rest0 : List (Addr × Obj)) (e0 : news = (196, o1) :: (l, W.listOf vs.toArray kk) :: rest0) (hoff1 : LCg.Off1 196 rest0) (hl196 : l ≠ 196) (hoffl : LCg.Off1 l rest0) (tt : List (Addr × Obj)) (hts : ∀ p ∈ tt, p ∈ rest0) (T1 : TabOk 145 4 "_str_to_int_inner.<locals>.inner" o1 tt)
  (t d : Addr) (n1 : Nat) (rows : List Row) (tk1 tg : Tok) (g : Fin 4)
  (hTt : (t, instObj 182 d) ∈ rest0) (hTd : (d, dictOf [⟨PyData.keyHash w.params "_headers", .str "_headers" tk1, .ref l⟩] n1) ∈ rest0) (hR : RowsIn rest0 rows vs) (hlen : vs.length ≤ 16) (hsmB : ∀ b ∈ bookOf rows g, ∀ q ∈ b.2, Small q.2)
  (hret : ∀ T dT oT t1 nT h' tk' dr' o1' vsL kL ext, Fr h₀ L h' m → News h₀ L h' ((196, o1') :: (l, W.listOf vsL.toArray kL) :: (ext ++ rest0)) → (T, ({ cls := .type "tuple", data := .seq #[.int (overOf rows g) t1, .ref dT] nT } : Obj)) ∈ ext → (dT, oT) ∈ ext → (dT == sysModules) = false → DK PySem.Challenge.rw_pm0082_01.row.toRowW.prog w oT (totalOf (bookOf rows g)) → RowsIn ext (rowsB (bookOf rows g)) vsL → vsL.length ≤ 16 → TabOk 145 4 "_str_to_int_inner.<locals>.inner" o1' (ext ++ tt) → (∀ q ∈ ext, LCg.Off1 q.1 ((196, o1) :: (l, W.listOf vs.toArray kk) :: rest0)) → Q (.ref T) { s with heap := h', toks := tk', drawn := dr' }),
  wpAny (model PySem.Challenge.rw_pm0082_01.row.toRowW.prog w) (ktrTop dp un gd cn cs L a ccd cl outer) (call (.ref 295) [.ref t, .str (low g) tg]) Q E s := by
  w_top off
  have in_c20 := Tag.mk
  k_with "call ref" => (guard_hyp in_c20; (k_here; refine openSeal ?_))
  k_with "eval Dict" => (guard_hyp in_c20; (k_here; k_dflt (refine' kdn_eval (knd := PySem.strKind PySem.Challenge.rw_pm0082_01.row.toRowW.prog _) ?z19F ?z19N ?z19b ?z19a ?z19l ?z19e ?z19n ?_; (case z19F => k_asm); (case z19N => k_asm); (case z19b => exact Top.nolimit (by k_asm)); (case z19a => rfl); (case z19l => rfl); (case z19e => exact List.cons_ne_nil _ _); (case z19n => exact Nat.le_of_ble_eq_true rfl)); intro _ _ _ _ _ _ _ _))
  k_with "setItem ref str ref" => (guard_hyp in_c20; (k_here; refine openSeal ?_))
  k_with "delItem ref str" => (guard_hyp in_c20; (k_here; k_dflt (refine' delItem_K ?z20k1 ?z20k2 ?z20k3 ?z20k4 ?z20k5 ?z20k6 ?_; (case z20k1 => k_asm); (case z20k2 => k_asm); (case z20k3 => k_inst); (case z20k4 => k_is); (case z20k5 => k_is); (case z20k6 => k_is); k_whole)))
  k_with "subscriptTail Name Name ref str" => (guard_hyp in_c20; (k_here; refine openSeal ?_))
  k_with "compareOp Lt str str" => (guard_hyp in_c20; (k_here; refine openSeal ?_))
  k_with "callWith ref" => (guard_hyp in_c20; (k_here; k_dflt (refine' callWith_K ?z21k1 ?z21k2 ?_; (case z21k1 => k_asm); (case z21k2 => k_is); k_whole)))
  k_with "CompEnd" => (guard_hyp in_c20; (k_here; refine openSeal ?_))
  k_with "KdnMade cons" => (guard_hyp in_c20; (k_here; refine openSeal ?_))
  k_with "newTuple" => (guard_hyp in_c20; (k_here; k_dflt (refine' kup_newTuple ?z22F ?z22N ?_ ?z22z; (case z22F => k_asm); (case z22N => k_asm); (case z22z => kmk_size)); intro D' h' F' N' l1; (try k_lt l1); revert D' h'; intros))
  k_with "SrcLP" => (guard_hyp in_c20; (k_here; refine openSeal ?_))
  k_with "CompSrcT" => (guard_hyp in_c20; (k_here; refine openSeal ?_))
  k_with "LoopSrc" => (guard_hyp in_c20; (k_here; refine openSeal ?_))
  k_with "StrSrcT" => (guard_hyp in_c20; (k_here; refine openSeal ?_))
  k_fill
  intro w mean mg mb p loose dp un gd cn cs a ccd cl outer A₀ base h₀ L m s Q E B F X T hk C1 news N hd hu o1 l kk vs rest0 e0 hoff1 hl196 hoffl tt hts T1 t d n1 rows tk1 tg g hTt hTd hR hlen hsmB hret
  subst e0
  refine wpAny_call ?_
  k_dflt (refine' code_defC ?k1 ?k2 ?k3 ?k4 ?k5 ?kA ?kF ?kK ?k6 ?k7 ?k8 ?k9 ?kB ?kD ?_ ?c2 ?c3 ?c4; (case kA => exact rfl); (case kF => exact rfl); (case kK => assumption); (case k1 => k_asm); (case k2 => k_asm); (case k3 => k_asm); (case k4 => k_asm); (case k5 => k_asm); (case k6 => k_is); (case k7 => k_is); (case k8 => ktr_room); (case k9 => first | exact BindsTo.of_eq rfl | exact binds_K (by k_in) rfl (by k_is) rfl rfl rfl); (case kB => exact rfl); (case kD => decide +kernel); (case c2 => exact rfl); (case c3 => exact rfl); (case c4 => exact rfl); k_whole; intro g' L' h' tk' cells' FG' F' N' Y' B' X' T' l1; (refine letF F' ?_); (clear F'); (intro mF F'); (refine hideG fun GG hGG => ?_); (have hAL := allLt_of l1); (try k_lt l1); (repeat (replace hAL := And.right hAL)); k_cells Y'; (try simp only [List.cons_append, List.nil_append] at N'); (refine hGG ?_); (clear hGG GG); (try kfm_turns); (try k_lift B'); (try k_fold); (refine letA ?_); (intro A9))
  k_steps
  rename_i q1 q2 oW oG dW dG
  have hall0 : AllLt L' rest0 := by with_reducible assumption
  unfold Sealed
  k_dflt (refine' c_calls ?k1 ?k2 ?k3 ?k4 ?k5 ?kC1 ((196, o1) :: (L' + 1 + 1, oW) :: (L' + 1, oG) :: (l, W.listOf vs.toArray kk) :: rest0) ?k6 ?k7 ?k8 _ _ rfl ?kO tt ?kTs T1 t d l n1 kk vs rows tk1 _ false g ?m1 ?m2 ?m3 ?kR ?kL ?_; (case k1 => k_asm); (case k2 => k_asm); (case k3 => k_asm); (case k4 => k_asm); (case k5 => first | exact rfl | assumption); (case kC1 => kn_code); (case k6 => exact News.sub (by k_asm) (by ((try simp only [List.cons_append, List.append_assoc, List.nil_append]); repeat' (first | (with_reducible refine sub_cons ?_ ?_; k_mem) | with_reducible refine sub_app ?_ ?_ | exact sub_nil | (intro q hq; kpc_turns))))); (case k7 => ktr_room); (case k8 => ktr_units); (case kO => exact ⟨Nat.ne_of_gt (by lia), Nat.ne_of_gt (by lia), hl196, hoff1⟩); (case kTs => exact fun p hp => by simp [hts p hp]); (case m1 => k_mem); (case m2 => k_mem); (case m3 => k_mem); (case kR => exact RowsIn.mono (by ((try simp only [List.cons_append, List.append_assoc, List.nil_append]); repeat' (first | (with_reducible refine sub_cons ?_ ?_; k_mem) | with_reducible refine sub_app ?_ ?_ | exact sub_nil | (intro q hq; kpc_turns)))) hR); (case kL => lia); k_whole)
  intro D0 h1 tk1' dr1 o1a ext1 ys1 k1 F1 N1 hC1 oE1 oD1 T1a
  dsimp only
  have hc1l := hC1.length
  have hcl1 : ys1.toList.length ≤ 16 := by
    rw [← hc1l]
    unfold callsOf
    rw [List.length_map]
    exact Nat.le_trans (List.length_filter_le _ _) (by rw [hR.length]; exact hlen)
  k_steps
  k_dflt (refine LCt.CompSrcT.ledger (its := ys1) (k := k1) (hh := rfl) (by k_asm) (by k_asm) (by k_mem) ?_ ?_)
  · rw [← Array.length_toList]; exact Nat.le_trans hcl1 (by decide +kernel)
  intro gg
  rw [show ys1 = ys1.toList.toArray by simp]
  refine restT_same (RR := CallV ext1) (RS := CallV ext1) (as := callsOf rows g) (fun q => decide (q.1 ≠ g)) (fun q => q) hC1 (.inr ⟨_, by k_mem, rfl, _, rfl⟩) ?_ ?_ ?_
  · intro pp1 v ys pp2 I oI C oC D m₂ h tk E' a1 a2 a3 a4 a5 a6
    refine hideG fun GG hGG => ?_
    obtain ⟨f, x⟩ := pp1
    obtain ⟨T, t1, t2, n, rfl, hT, hsm⟩ := pp2
    refine hGG ?_
    clear hGG GG
    k_steps
    · show (!(low f == low g)) = decide (f ≠ g)
      rw [low_inj, decide_not]
      congr 1
    · exact ⟨_, _, rfl, by k_asm, by k_asm⟩
  · intro pp3 v ys pp4 I oI C oC D m₂ h tk E' a1 a2 a3 a4 a5 a6
    refine hideG fun GG hGG => ?_
    obtain ⟨f, x⟩ := pp3
    obtain ⟨T, t1, t2, n, rfl, hT, hsm⟩ := pp4
    refine hGG ?_
    clear hGG GG
    k_steps
    · exact ⟨T, t1, t2, n, rfl, hT, hsm⟩
    · exact ⟨_, _, rfl, by k_asm, by k_asm⟩
  · intro ys hys
    rw [List.map_id'] at hys
    k_steps
    rename_i D1 g2 tk2 F2 N2 b1 b2 b3
    refine nameL ((D1, LCg.lst ys) :: (D0, W.listOf ys1.toList.toArray k1) :: ext1) fun ext2 hext2 => ?_
    have N3 : News g' L' g2 ((L' + 1 + 1, oW) :: (L' + 1, oG) :: (196, o1a) :: (l, W.listOf vs.toArray kk) :: (ext2 ++ rest0)) := News.sub N2 (by rw [hext2]; ((try simp only [List.cons_append, List.append_assoc, List.nil_append]); repeat' (first | (with_reducible refine sub_cons ?_ ?_; k_mem) | with_reducible refine sub_app ?_ ?_ | exact sub_nil | (intro q hq; kpc_turns))))
    have hfr2 : ∀ q ∈ ext2, LCg.Off1 q.1 ((L' + 1 + 1, oW) :: (L' + 1, oG) :: (196, o1) :: (l, W.listOf vs.toArray kk) :: rest0) := by
      rw [hext2]
      intro q hq
      rcases List.mem_cons.mp hq with rfl | hq
      · refine off1_of fun r hr => ?_
        rcases List.mem_cons.mp hr with rfl | hr
        · exact off1_mem b3 (L' + 1 + 1, oW) (by k_mem)
        · rcases List.mem_cons.mp hr with rfl | hr
          · exact off1_mem b3 (L' + 1, oG) (by k_mem)
          · rcases List.mem_cons.mp hr with rfl | hr
            · exact b2
            · exact off1_mem b3 r (by simp only [List.mem_append, List.mem_cons] at hr ⊢; rcases hr with h | h <;> simp [h])
      · rcases List.mem_cons.mp hq with rfl | hq
        · exact off_sub oD1 (by ((try simp only [List.cons_append, List.append_assoc, List.nil_append]); repeat' (first | (with_reducible refine sub_cons ?_ ?_; k_mem) | with_reducible refine sub_app ?_ ?_ | exact sub_nil | (intro q hq; kpc_turns))))
        · exact off_sub (oE1 q hq) (by ((try simp only [List.cons_append, List.append_assoc, List.nil_append]); repeat' (first | (with_reducible refine sub_cons ?_ ?_; k_mem) | with_reducible refine sub_app ?_ ?_ | exact sub_nil | (intro q hq; kpc_turns))))
    have hys2 : CallsIn ext2 (onOf rows g) ys := CallsIn.mono (by rw [hext2]; ((try simp only [List.cons_append, List.append_assoc, List.nil_append]); repeat' (first | (with_reducible refine sub_cons ?_ ?_; k_mem) | with_reducible refine sub_app ?_ ?_ | exact sub_nil | (intro q hq; kpc_turns)))) hys
    have hyl2 : ys.length ≤ 16 := by
      rw [← hys.length]
      exact Nat.le_trans (List.length_filter_le _ _) (by rw [hc1l]; exact hcl1)
    have hmD1 : ((D1, ({ cls := .type "list", data := .seq ys.toArray ys.length } : Obj)) : Addr × Obj) ∈ ext2 := by rw [hext2]; exact List.mem_cons_self
    have T1b : TabOk 145 4 "_str_to_int_inner.<locals>.inner" o1a (ext2 ++ tt) := TabOk.mono (by rw [hext2]; ((try simp only [List.cons_append, List.append_assoc, List.nil_append]); repeat' (first | (with_reducible refine sub_cons ?_ ?_; k_mem) | with_reducible refine sub_app ?_ ?_ | exact sub_nil | (intro q hq; kpc_turns)))) T1a
    clear N2 hys hext2 T1a oE1 oD1 b1 b2 b3 N1 F1
    k_dflt (refine LCp.SrcLP.ledger (its := ys.toArray) (hh := rfl) (by k_asm) N3 (by k_mem) ?_ ?_)
    · rw [List.size_toArray]; exact Nat.le_trans hyl2 (by decide +kernel)
    intro gg2
    refine restP_calls (RS := IsI) (as := onOf rows g) (·.2) hys2 (by ((try simp only [List.cons_append, List.append_assoc, List.nil_append]); repeat' (first | (with_reducible refine sub_cons ?_ ?_; k_mem) | with_reducible refine sub_app ?_ ?_ | exact sub_nil | (intro q hq; kpc_turns)))) (.inr ⟨_, by k_mem, rfl, _, rfl⟩) ?_ ?_
    · intro f w9 t1 t2 ys3 hsm I oI C oC D m₂ h tk E' a1 a2 a3 a4 a5 a6 a7
      k_steps
      · exact ⟨_, rfl⟩
      · exact ⟨_, _, rfl, by k_asm, by k_asm⟩
    · intro ys3 hys3
      have hi3 := ints_of hys3
      k_steps
      rename_i D2 g3 tk3 c1 c2 c3 c4 c5 g4 tk4 tS g5 bk g6 ob lob hsb fsb hib fib e1 e2 e3 e4 e5 e6 g7 F4 N4
      have hfb : LCg.Off1 bk ((D2, LCg.lst ys3) :: (L' + 1 + 1, oW) :: (L' + 1, oG) :: (196, o1a) :: (l, W.listOf vs.toArray kk) :: (ext2 ++ rest0)) := ⟨Nat.ne_of_lt e1, Nat.ne_of_lt e2, Nat.ne_of_lt e3, Nat.ne_of_lt e4, Nat.ne_of_lt e5, off1_of (allLt_ne e6 (Nat.le_refl _))⟩
      refine ⟨_, _, _, rfl, rfl, by decide +kernel, by k_asm, N4, by decide +kernel, ?_⟩
      intro s₂ pp5
      refine hideG fun GG hGG => ?_
      obtain ⟨g8, rfl⟩ := pp5
      refine hGG ?_
      clear hGG GG
      refine restT_abcd (fun p => decide (p ≠ g)) (RS := fun p v => IsS (low p) v) trivial ?_ ?_ ?_
      · intro p tp ys4 I oI C oC D m₂ h tk E' a1 a2 a3 a4 a5 a6
        k_steps
        · show (!(low p == low g)) = decide (p ≠ g)
          rw [low_inj, decide_not]
          congr 1
        · exact ⟨_, _, rfl, by k_asm, by k_asm⟩
      · intro p tp ys4 I oI C oC D m₂ h tk E' a1 a2 a3 a4 a5 a6
        k_steps
        · exact ⟨_, rfl⟩
        · exact ⟨_, _, rfl, by k_asm, by k_asm⟩
      · intro ys4 hys4
        k_steps
        rename_i D4 g9 tk9 F5 N5 d1 d2 d3 d4 d5 d6 d7
        refine nameL ((D4, LCg.lst ys4) :: (D2, LCg.lst ys3) :: ext2) fun ext3 hext3 => ?_
        refine nameL (W.listOf vs.toArray kk) fun oV hoV => ?_
        rw [← hoV] at N5 hfr2 hfb
        have N6 : News g' L' g9 ((bk, ob) :: (L' + 1 + 1, oW) :: (L' + 1, oG) :: (196, o1a) :: (l, oV) :: (ext3 ++ rest0)) := News.sub N5 (by rw [hext3]; ((try simp only [List.cons_append, List.append_assoc, List.nil_append]); repeat' (first | (with_reducible refine sub_cons ?_ ?_; k_mem) | with_reducible refine sub_app ?_ ?_ | exact sub_nil | (intro q hq; kpc_turns))))
        have hfr3 : ∀ q ∈ ext3, LCg.Off1 q.1 ((bk, ob) :: (L' + 1 + 1, oW) :: (L' + 1, oG) :: (196, o1) :: (l, oV) :: rest0) := by
          refine hideG fun GG hGG => ?_
          obtain ⟨p1, p2, p3, p4, p5, p6⟩ := hfb
          refine hGG ?_
          clear hGG GG
          rw [hext3]
          intro q hq
          rcases List.mem_cons.mp hq with rfl | hq
          · exact ⟨d1, d3, d4, d5, d6, off_sub d7 (by ((try simp only [List.cons_append, List.append_assoc, List.nil_append]); repeat' (first | (with_reducible refine sub_cons ?_ ?_; k_mem) | with_reducible refine sub_app ?_ ?_ | exact sub_nil | (intro q hq; kpc_turns))))⟩
          · rcases List.mem_cons.mp hq with rfl | hq
            · exact ⟨Ne.symm p1, c1, c2, c3, c4, off_sub c5 (by ((try simp only [List.cons_append, List.append_assoc, List.nil_append]); repeat' (first | (with_reducible refine sub_cons ?_ ?_; k_mem) | with_reducible refine sub_app ?_ ?_ | exact sub_nil | (intro q hq; kpc_turns))))⟩
            · exact ⟨Ne.symm (off1_mem p6 q (List.mem_append_left _ hq)), hfr2 q hq⟩
        have hfbk : LCg.Off1 bk ((L' + 1 + 1, oW) :: (L' + 1, oG) :: (196, o1) :: (l, oV) :: rest0) := by
          refine hideG fun GG hGG => ?_
          obtain ⟨p1, p2, p3, p4, p5, p6⟩ := hfb
          refine hGG ?_
          clear hGG GG
          exact ⟨p2, p3, p4, p5, off_sub p6 (by ((try simp only [List.cons_append, List.append_assoc, List.nil_append]); repeat' (first | (with_reducible refine sub_cons ?_ ?_; k_mem) | with_reducible refine sub_app ?_ ?_ | exact sub_nil | (intro q hq; kpc_turns))))⟩
        have hmD1' : ((D1, ({ cls := .type "list", data := .seq ys.toArray ys.length } : Obj)) : Addr × Obj) ∈ ext3 := by rw [hext3]; simp [hmD1]
        have hmD4 : ((D4, ({ cls := .type "list", data := .seq ys4.toArray ys4.length } : Obj)) : Addr × Obj) ∈ ext3 := by rw [hext3]; simp
        have hys5 : CallsIn ext3 (onOf rows g) ys := CallsIn.mono (by rw [hext3]; ((try simp only [List.cons_append, List.append_assoc, List.nil_append]); repeat' (first | (with_reducible refine sub_cons ?_ ?_; k_mem) | with_reducible refine sub_app ?_ ?_ | exact sub_nil | (intro q hq; kpc_turns)))) hys2
        have T1c : TabOk 145 4 "_str_to_int_inner.<locals>.inner" o1a (ext3 ++ tt) := TabOk.mono (by rw [hext3]; ((try simp only [List.cons_append, List.append_assoc, List.nil_append]); repeat' (first | (with_reducible refine sub_cons ?_ ?_; k_mem) | with_reducible refine sub_app ?_ ?_ | exact sub_nil | (intro q hq; kpc_turns)))) T1b
        clear N5 N4 hext3 hfb c1 c2 c3 c4 c5 d1 d2 d3 d4 d5 d6 d7 hys2 hmD1 T1b hfr2
        refine src_list (DD := fun _ => True) (hD := trivial) (xs := [Str.ofString "place", Str.ofString "callee", Str.ofString "ways", Str.ofString "far", Str.ofString "product"]) (ax := D4) (its := ys4.toArray) (hh := rfl) ?go (by k_asm) (by k_asm)
          (fun i m₁ nw => Ex6 fun ob' oW' v0 o1' kvs ext => Co8 (nw = (bk, ob') :: (L' + 1 + 1, oW') :: (L' + 1, oG) :: (196, o1') :: (l, oV) :: (ext ++ rest0)) (ob'.IsDictOf (PySem.strKind PySem.Challenge.rw_pm0082_01.row.toRowW.prog w) kvs) (oW'.data = .cell v0) (BookIn PySem.Challenge.rw_pm0082_01.row.toRowW.prog w ext (((others g).take i).foldl (placeB rows g) []) kvs) (((((others g).take i).foldl (placeB rows g) []).map (·.1)).Nodup) ((∀ q ∈ ext3, q ∈ ext)) ((∀ q ∈ ext, LCg.Off1 q.1 ((bk, ob) :: (L' + 1 + 1, oW) :: (L' + 1, oG) :: (196, o1) :: (l, oV) :: rest0))) (TabOk 145 4 "_str_to_int_inner.<locals>.inner" o1' (ext ++ tt))) ?hS ?h0 ?step ?hR
        case go =>
          intro I i s v Q E hit hQ hv
          exact wpAny_pure hQ
        case hS =>
          intro i m nw pp6
          refine hideG fun GG hGG => ?_
          obtain ⟨ob', oW', v0, o1', kvs, ext, rfl, _, _, _, _, hsub, _⟩ := pp6
          refine hGG ?_
          clear hGG GG
          refine .inr ⟨_, List.mem_cons_of_mem _ (List.mem_cons_of_mem _ (List.mem_cons_of_mem _ (List.mem_cons_of_mem _ (List.mem_cons_of_mem _ (List.mem_append_left _ (hsub _ hmD4)))))), rfl, _, rfl⟩
        case h0 =>
          refine ⟨ob, oW, _, o1a, [], ext3, rfl, hsb, dW, ?_, ?_, fun q h => h, hfr3, T1c⟩
          · rw [List.take_zero]; exact All2.nil
          · rw [List.take_zero]; exact List.nodup_nil
        case step =>
          unfold TurnX
          intro I gg tk2 i v ex o nw h tk dr oI E' hdr hi pp7 pp8 F7 N7 oo1 oo2
          refine hideG fun GG hGG => ?_
          obtain ⟨hv, rfl⟩ := pp7
          obtain ⟨ob', oW', v0, o1', kvs, ext, rfl, hkv, hoW', hBk, hBn, hsub, hfr, hT1⟩ := pp8
          dsimp only [canonL, List.foldr, List.nil_append] at F7 N7 oo1
          obtain ⟨p9, hp9, tp, rfl⟩ := hys4.get' (i := i) (b := v) (by simpa using hv)
          refine hGG ?_
          clear hGG GG
          k_steps
          rename_i g10 F8 N8 tU
          unfold Sealed
          refine hideG fun GG hGG => ?_
          obtain ⟨hI1, hI2, hI3, hI4, hI5, hI6⟩ := oo1
          refine hGG ?_
          clear hGG GG
          dsimp only at hI1 hI2 hI3 hI4 hI5
          k_dflt (refine' c_calls ?k1 ?k2 ?k3 ?k4 ?k5 ?kC1 ((196, o1') :: (I, oI) :: (bk, ob') :: (L' + 1 + 1, oW') :: (L' + 1, oG) :: (l, oV) :: (ext ++ rest0)) ?k6 ?k7 ?k8 _ _ rfl ?kO (ext ++ tt) ?kTs hT1 t d l n1 kk vs rows tk1 _ true p9 ?m1 ?m2 ?m3 ?kR ?kL ?_; (case k1 => k_asm); (case k2 => k_asm); (case k3 => k_asm); (case k4 => k_asm); (case k5 => first | exact rfl | assumption); (case kC1 => kn_code); (case k6 => exact News.sub N8 (by ((try simp only [List.cons_append, List.append_assoc, List.nil_append]); repeat' (first | (with_reducible refine sub_cons ?_ ?_; k_mem) | with_reducible refine sub_app ?_ ?_ | exact sub_nil | (intro q hq; kpc_turns))))); (case k7 => ktr_room); (case k8 => ktr_units); (case kO => exact ⟨Ne.symm hI4, Ne.symm (off1_mem hfbk (196, o1) (by k_mem)), Nat.ne_of_gt (by lia), Nat.ne_of_gt (by lia), hl196, off1_append (off1_swap hfr (o := o1) (by k_mem)) hoff1⟩); (case kTs => exact fun p hp => by rcases List.mem_append.mp hp with h | h <;> simp [h, hts p]); (case m1 => k_mem); (case m2 => k_mem); (case m3 => (have e := hoV; subst e; k_mem)); (case kR => exact RowsIn.mono (by ((try simp only [List.cons_append, List.append_assoc, List.nil_append]); repeat' (first | (with_reducible refine sub_cons ?_ ?_; k_mem) | with_reducible refine sub_app ?_ ?_ | exact sub_nil | (intro q hq; kpc_turns)))) hR); (case kL => lia); k_whole)
          intro D5 h5 tk5 dr5 o1'' ext5 ys5 k5 F9 N9 hC5 oE5 oD5 T1d
          dsimp only
          have hc5l := hC5.length
          refine nameL ((D5, W.listOf ys5.toList.toArray k5) :: (ext5 ++ ext)) fun extM hextM => ?_
          have N10 : News g' L' h5 ((I, oI) :: (bk, ob') :: (L' + 1 + 1, oW') :: (L' + 1, oG) :: (196, o1'') :: (l, oV) :: (extM ++ rest0)) := by
            refine News.sub N9 ?_
            rw [hextM, show ys5.toList.toArray = ys5 by simp]
            ((try simp only [List.cons_append, List.append_assoc, List.nil_append]); repeat' (first | (with_reducible refine sub_cons ?_ ?_; k_mem) | with_reducible refine sub_app ?_ ?_ | exact sub_nil | (intro q hq; kpc_turns)))
          have hoI : LCg.Off1 I ((bk, ob) :: (L' + 1 + 1, oW) :: (L' + 1, oG) :: (196, o1) :: (l, oV) :: rest0) := ⟨hI1, hI2, hI3, hI4, hI5, off_sub hI6 (by ((try simp only [List.cons_append, List.append_assoc, List.nil_append]); repeat' (first | (with_reducible refine sub_cons ?_ ?_; k_mem) | with_reducible refine sub_app ?_ ?_ | exact sub_nil | (intro q hq; kpc_turns))))⟩
          have hfrM : ∀ q ∈ extM, LCg.Off1 q.1 ((I, oI) :: (bk, ob) :: (L' + 1 + 1, oW) :: (L' + 1, oG) :: (196, o1) :: (l, oV) :: rest0) := by
            rw [hextM]
            intro q hq
            rcases List.mem_cons.mp hq with rfl | hq
            · obtain ⟨p1, p2⟩ := oD5
              refine ⟨off1_mem p2 (I, oI) (by k_mem), off1_mem p2 (bk, ob') (by k_mem), off1_mem p2 (L' + 1 + 1, oW') (by k_mem), off1_mem p2 (L' + 1, oG) (by k_mem), p1, off1_mem p2 (l, oV) (by k_mem), off_sub p2 (by ((try simp only [List.cons_append, List.append_assoc, List.nil_append]); repeat' (first | (with_reducible refine sub_cons ?_ ?_; k_mem) | with_reducible refine sub_app ?_ ?_ | exact sub_nil | (intro q hq; kpc_turns))))⟩
            · rcases List.mem_append.mp hq with h | h
              · refine hideG fun GG hGG => ?_
                obtain ⟨p1, p2, p3, p4, p5, p6, p7⟩ := oE5 q h
                refine hGG ?_
                clear hGG GG
                exact ⟨p2, p3, p4, p5, p1, p6, off_sub p7 (by ((try simp only [List.cons_append, List.append_assoc, List.nil_append]); repeat' (first | (with_reducible refine sub_cons ?_ ?_; k_mem) | with_reducible refine sub_app ?_ ?_ | exact sub_nil | (intro q hq; kpc_turns))))⟩
              · exact ⟨Ne.symm (off1_mem hI6 q (List.mem_append_left _ h)), hfr q h⟩
          have hsubM : ∀ q ∈ ext, q ∈ extM := by rw [hextM]; ((try simp only [List.cons_append, List.append_assoc, List.nil_append]); repeat' (first | (with_reducible refine sub_cons ?_ ?_; k_mem) | with_reducible refine sub_app ?_ ?_ | exact sub_nil | (intro q hq; kpc_turns)))
          have hC6 : CallsIn extM (callsOf' rows p9) ys5.toList := CallsIn.mono (by rw [hextM]; ((try simp only [List.cons_append, List.append_assoc, List.nil_append]); repeat' (first | (with_reducible refine sub_cons ?_ ?_; k_mem) | with_reducible refine sub_app ?_ ?_ | exact sub_nil | (intro q hq; kpc_turns)))) hC5
          have hBk6 := BookIn.mono hsubM hBk
          have T1e : TabOk 145 4 "_str_to_int_inner.<locals>.inner" o1'' (extM ++ tt) := TabOk.mono (by rw [hextM]; ((try simp only [List.cons_append, List.append_assoc, List.nil_append]); repeat' (first | (with_reducible refine sub_cons ?_ ?_; k_mem) | with_reducible refine sub_app ?_ ?_ | exact sub_nil | (intro q hq; kpc_turns)))) T1d
          have hmD5 : ((D5, ({ cls := .type "list", data := .seq ys5.toList.toArray k5 } : Obj)) : Addr × Obj) ∈ extM := by rw [hextM]; exact List.mem_cons_self
          clear N9 N8 hextM oE5 oD5 hI6 hBk T1d
          refine src_list (DD := fun _ => True) (hD := trivial) (xs := [Str.ofString "callee", Str.ofString "ways", Str.ofString "far", Str.ofString "product"]) (ax := D5) (its := ys5.toList.toArray) (hh := rfl) ?go2 (by k_asm) (by k_asm)
            (fun j m₁ nw => Ex5 fun ob' oW' v0 kvs ext' => Co7 (nw = (I, oI) :: (bk, ob') :: (L' + 1 + 1, oW') :: (L' + 1, oG) :: (196, o1'') :: (l, oV) :: (ext' ++ rest0)) (ob'.IsDictOf (PySem.strKind PySem.Challenge.rw_pm0082_01.row.toRowW.prog w) kvs) (oW'.data = .cell v0) (BookIn PySem.Challenge.rw_pm0082_01.row.toRowW.prog w ext' (((callsOf' rows p9).take j).foldl (fun B c => callB rows g B p9 c) (((others g).take i).foldl (placeB rows g) [])) kvs) (((((callsOf' rows p9).take j).foldl (fun B c => callB rows g B p9 c) (((others g).take i).foldl (placeB rows g) [])).map (·.1)).Nodup) ((∀ q ∈ extM, q ∈ ext')) ((∀ q ∈ ext', LCg.Off1 q.1 ((I, oI) :: (bk, ob) :: (L' + 1 + 1, oW) :: (L' + 1, oG) :: (196, o1) :: (l, oV) :: rest0)))) ?hS2 ?h02 ?step2 ?hR2
          case go2 =>
            intro I i s v Q E hit hQ hv
            exact letGo_listiter hit hQ
          case hS2 =>
            intro i m nw pp9
            refine hideG fun GG hGG => ?_
            obtain ⟨ob', oW', v0, kvs, ext', rfl, _, _, _, _, hsub, _⟩ := pp9
            refine hGG ?_
            clear hGG GG
            refine .inr ⟨_, List.mem_cons_of_mem _ (List.mem_cons_of_mem _ (List.mem_cons_of_mem _ (List.mem_cons_of_mem _ (List.mem_cons_of_mem _ (List.mem_cons_of_mem _ (List.mem_append_left _ (hsub _ hmD5))))))), rfl, _, rfl⟩
          case h02 =>
            refine ⟨ob', oW', _, kvs, extM, rfl, hkv, hoW', ?_, ?_, fun q h => h, hfrM⟩
            · rw [List.take_zero]; exact hBk6
            · rw [List.take_zero]; exact hBn
          case step2 =>
            unfold TurnX
            intro I2 gg2 tk6 j v ex o nw h tk dr oI2 E' hdr hi2 pp10 pp11 F11 N11 oo1 oo2
            refine hideG fun GG hGG => ?_
            obtain ⟨hv, rfl⟩ := pp10
            obtain ⟨ob2, oW2, v2, kvs2, ext6, rfl, hkv2, hoW2, hBk2, hBn2, hsub2, hfr2⟩ := pp11
            dsimp only [canonL, List.foldr, List.nil_append] at F11 N11 oo1
            obtain ⟨⟨f9, w9⟩, hq9, T9, u1, u2, n9, rfl, hT9, hsm9⟩ := hC6.get' (i := j) (b := v) (by simpa using hv)
            obtain ⟨hJ0, hJ1, hJ2, hJ3, hJ4, hJ5, hJ6⟩ := oo1
            dsimp only at hJ0 hJ1 hJ2 hJ3 hJ4 hJ5
            have hT9' : (T9, ({ cls := .type "tuple", data := .seq #[.str (low f9) u1, .int w9 u2] n9 } : Obj)) ∈ ext6 := hsub2 _ hT9
            clear hT9
            have hw9 : -1000000000000000 < w9 ∧ w9 < 1000000000000000 := hsm9
            clear hsm9
            have hbW : bk ≠ L' + 1 + 1 := Ne.symm (off1_mem hfbk (L' + 1 + 1, oW) (by k_mem))
            have hbG : bk ≠ L' + 1 := Ne.symm (off1_mem hfbk (L' + 1, oG) (by k_mem))
            have hW : LCg.Off1 (L' + 1 + 1) ((L' + 1, oG) :: (196, o1'') :: (l, oV) :: (ext6 ++ rest0)) := ⟨Nat.ne_of_lt (Nat.lt_succ_self _), Nat.ne_of_lt (by lia), Nat.ne_of_lt (by lia), off1_append (off1_swap hfr2 (o := oW) (by k_mem)) (off1_of (allLt_ne hall0 (by lia)))⟩
            have hfq : LCg.Off1 bk ((L' + 1 + 1, oW2) :: (L' + 1, oG) :: (196, o1'') :: (l, oV) :: (ext6 ++ rest0)) := by
              obtain ⟨p1, p2, p3, p4, p5⟩ := hfbk
              exact ⟨p1, p2, p3, p4, off1_append (off1_swap hfr2 (o := ob) (by k_mem)) p5⟩
            refine hGG ?_
            clear hGG GG
            k_steps
            · rename_i oW3 dW3 tk9 TT hTp i1 i2 i3 i4 i5 i6 i7 i8 WW hWp j1 j2 j3 j4 j5 j6 j7 j8 j9 hx F12 N12 hfg
              have hfg' : f9 = g := by rw [low_inj] at hfg; exact of_decide_eq_true hfg
              have N13 : News g' L' hx ((I2, oI2) :: (I, oI) :: (bk, ob2) :: (L' + 1 + 1, oW3) :: (L' + 1, oG) :: (196, o1'') :: (l, oV) :: (ext6 ++ rest0)) := News.sub N12 (by ((try simp only [List.cons_append, List.append_assoc, List.nil_append]); repeat' (first | (with_reducible refine sub_cons ?_ ?_; k_mem) | with_reducible refine sub_app ?_ ?_ | exact sub_nil | (intro q hq; kpc_turns))))
              have hmD1'' := hsub2 _ (hsubM _ (hsub _ hmD1'))
              have hys6 : CallsIn ext6 (onOf rows g) ys := CallsIn.mono (fun q h => hsub2 _ (hsubM _ (hsub _ h))) hys5
              clear N12 i1 i2 i3 i4 i5 i6 i7 i8 j1 j2 j3 j4 j5 j6 j7 j8 j9
              have hfr6 : ∀ q ∈ ext6, LCg.Off1 q.1 ((I2, oI2) :: (I, oI) :: (bk, ob) :: (L' + 1 + 1, oW) :: (L' + 1, oG) :: (196, o1) :: (l, oV) :: rest0) := fun q hq => ⟨Ne.symm (off1_mem hJ6 q (List.mem_append_left _ hq)), hfr2 q hq⟩
              unfold Sealed
              k_dflt (refine LCp.SrcLP.ledger (its := ys.toArray) (hh := rfl) (by k_asm) N13 (by k_mem) ?_ ?_)
              · rw [List.size_toArray]; exact Nat.le_trans hyl2 (by decide +kernel)
              intro gg9
              refine restP_J (n := ys.length) (fun k ys7 nw => Ex1 fun exT => Co4 (nw = (I2, oI2) :: (I, oI) :: (bk, ob2) :: (L' + 1 + 1, oW3) :: (L' + 1, oG) :: (196, o1'') :: (l, oV) :: (exT ++ rest0)) (All2 (WayV exT) (((onOf rows g).take k).map fun q => (q.1, w9 * q.2)) ys7) ((∀ q ∈ ext6, q ∈ exT)) ((∀ q ∈ exT, LCg.Off1 q.1 ((I2, oI2) :: (I, oI) :: (bk, ob) :: (L' + 1 + 1, oW) :: (L' + 1, oG) :: (196, o1) :: (l, oV) :: rest0)))) ?turnP ?finP _ _ _ _ (by simp) ⟨ext6, rfl, by rw [List.take_zero]; exact All2.nil, fun q h => h, hfr6⟩
              case turnP =>
                intro k v ys7 nw hk hv pp12
                refine hideG fun GG hGG => ?_
                obtain ⟨exT, rfl, hys7, hsT, hofT⟩ := pp12
                obtain ⟨⟨fP, wP⟩, hfw, TP, u3, u4, nP, rfl, hTP, hsmP⟩ := hys6.get' (i := k) (b := v) (by simpa using hv)
                have hTP' := hsT _ hTP
                refine hGG ?_
                clear hGG GG
                refine ⟨TP, _, _, _, _, rfl, by k_mem, rfl, rfl, ?_⟩
                intro I3 oI3 C3 oC3 D3 m₂ h tk E' a1 a2 a3 a4 a5 a6 a7
                k_steps
                rename_i TN hTN FN NN v1 v2 v3 v4 v5 v6 v7 v8 v9 v10 v11
                unfold Sealed
                refine nameL ((TN, ({ cls := .type "tuple", data := .seq #[.str (low fP) u3, .int (w9 * wP) tk] } : Obj)) :: exT) fun exN hexN => ?_
                have NN2 : News g' L' hTN ((I3, oI3) :: (C3, oC3) :: (D3, LCg.lst ys7) :: (I2, oI2) :: (I, oI) :: (bk, ob2) :: (L' + 1 + 1, oW3) :: (L' + 1, oG) :: (196, o1'') :: (l, oV) :: (exN ++ rest0)) := News.sub NN (by rw [hexN]; ((try simp only [List.cons_append, List.append_assoc, List.nil_append]); repeat' (first | (with_reducible refine sub_cons ?_ ?_; k_mem) | with_reducible refine sub_app ?_ ?_ | exact sub_nil | (intro q hq; kpc_turns))))
                have hmD1N := (show ∀ q ∈ exT, q ∈ exN by rw [hexN]; exact fun q h => List.mem_cons_of_mem _ h) _ (hsT _ hmD1'')
                refine' ⟨_, _, _, rfl, ?fP, NN2, ?oP, ?sP, ⟨exN, rfl, ?wP, ?tP, ?qP⟩⟩
                case fP => k_asm
                case oP =>
                  refine LCg.Off3.of fun p hp => ?_
                  have am := a6.mem
                  rw [hexN] at hp
                  simp only [List.cons_append, List.mem_cons] at hp
                  rcases hp with h | h | h | h | h | h | h | h | h
                  · exact am p (by simp [h])
                  · exact am p (by simp [h])
                  · exact am p (by simp [h])
                  · exact am p (by simp [h])
                  · exact am p (by simp [h])
                  · exact am p (by simp [h])
                  · exact am p (by simp [h])
                  · rw [h]; exact ⟨Nat.ne_of_gt v1, Nat.ne_of_gt v2, Nat.ne_of_gt v3⟩
                  · exact am p (by simp [List.mem_append.mp h])
                case sP => exact .inr ⟨_, by k_mem, rfl, _, rfl⟩
                case wP =>
                  rw [List.take_add_one, hfw, Option.toList_some, List.map_append]
                  refine All2.snoc (All2.imp (fun _ _ => WayV.mono (by rw [hexN]; exact fun q h => List.mem_cons_of_mem _ h)) hys7) ⟨TN, u3, tk, 0, rfl, ?_⟩
                  rw [hexN]
                  exact List.mem_cons_self
                case tP => exact fun q hq => by rw [hexN]; exact List.mem_cons_of_mem _ (hsT q hq)
                case qP =>
                  rw [hexN]
                  intro q hq
                  rcases List.mem_cons.mp hq with rfl | hq
                  · exact ⟨Nat.ne_of_lt v4, Nat.ne_of_lt v5, Nat.ne_of_lt v6, Nat.ne_of_lt v7, Nat.ne_of_lt v8, Nat.ne_of_lt v9, Nat.ne_of_lt v10, off_sub (off1_of (allLt_ne v11 (Nat.le_refl _))) (by ((try simp only [List.cons_append, List.append_assoc, List.nil_append]); repeat' (first | (with_reducible refine sub_cons ?_ ?_; k_mem) | with_reducible refine sub_app ?_ ?_ | exact sub_nil | (intro q hq; kpc_turns))))⟩
                  · exact hofT q hq
              case finP =>
                intro ys7 nw pp13
                refine hideG fun GG hGG => ?_
                obtain ⟨exT, rfl, hys7, hsT, hofT⟩ := pp13
                refine hGG ?_
                clear hGG GG
                k_steps
                rename_i W9 hx9 tkP FP NP y1 y2 y3 y4 y5 y6 y7 y8
                obtain ⟨zs, hzs⟩ : ∃ z : List Value, z = ys7 := ⟨_, rfl⟩
                refine nameL ((W9, W.listOf zs.toArray zs.length) :: exT) fun extW hextW => ?_
                clear N13
                have N13 : News g' L' hx9 ((I2, oI2) :: (I, oI) :: (bk, ob2) :: (L' + 1 + 1, oW3) :: (L' + 1, oG) :: (196, o1'') :: (l, oV) :: (extW ++ rest0)) := News.sub NP (by rw [hextW, hzs]; exact (show ∀ q ∈ (I2, oI2) :: (I, oI) :: (bk, ob2) :: (L' + 1 + 1, oW3) :: (L' + 1, oG) :: (196, o1'') :: (l, oV) :: (((W9, LCg.lst ys7) :: exT) ++ rest0), q ∈ (W9, LCg.lst ys7) :: (I2, oI2) :: (I, oI) :: (bk, ob2) :: (L' + 1 + 1, oW3) :: (L' + 1, oG) :: (196, o1'') :: (l, oV) :: (exT ++ rest0) by ((try simp only [List.cons_append, List.append_assoc, List.nil_append]); repeat' (first | (with_reducible refine sub_cons ?_ ?_; k_mem) | with_reducible refine sub_app ?_ ?_ | exact sub_nil | (intro q hq; kpc_turns)))))
                have hfrW : ∀ q ∈ extW, LCg.Off1 q.1 ((I2, oI2) :: (I, oI) :: (bk, ob) :: (L' + 1 + 1, oW) :: (L' + 1, oG) :: (196, o1) :: (l, oV) :: rest0) := by
                  rw [hextW]
                  intro q hq
                  rcases List.mem_cons.mp hq with rfl | hq
                  · exact ⟨y1, y2, y3, y4, y5, y6, y7, off_sub y8 (by ((try simp only [List.cons_append, List.append_assoc, List.nil_append]); repeat' (first | (with_reducible refine sub_cons ?_ ?_; k_mem) | with_reducible refine sub_app ?_ ?_ | exact sub_nil | (intro q hq; kpc_turns))))⟩
                  · exact hofT q hq
                have hsubW : ∀ q ∈ ext6, q ∈ extW := by rw [hextW]; exact fun q h => List.mem_cons_of_mem _ (hsT q h)
                have hmW : (W9, W.listOf zs.toArray zs.length) ∈ extW := by rw [hextW]; exact List.mem_cons_self
                have hWz : All2 (WayV extW) (waysOf rows g (f9, w9)) zs := by
                  unfold waysOf
                  rw [if_pos hfg', hzs]
                  rw [show ys.length = (onOf rows g).length from hys6.length.symm, List.take_length] at hys7
                  exact All2.imp (fun _ _ => WayV.mono (by rw [hextW]; exact fun q h => List.mem_cons_of_mem _ h)) hys7
                refine nameL (((callsOf' rows p9).take j).foldl (fun B c => callB rows g B p9 c) (((others g).take i).foldl (placeB rows g) [])) fun B0 hB0 => ?_
                rw [← hB0] at hBk2 hBn2
                clear NP hextW hzs hys7 y1 y2 y3 y4 y5 y6 y7 y8
                have hBkW := BookIn.mono hsubW hBk2
                unfold Sealed
                refine src_list (DD := fun _ => True) (hD := trivial) (xs := [Str.ofString "far", Str.ofString "product"]) (ax := W9) (its := zs.toArray) (hh := rfl) ?go3x (by k_asm) N13
                  (fun k m₁ nw => Ex3 fun ob' kvs ext' => Co6 (nw = (I2, oI2) :: (I, oI) :: (bk, ob') :: (L' + 1 + 1, oW3) :: (L' + 1, oG) :: (196, o1'') :: (l, oV) :: (ext' ++ rest0)) (ob'.IsDictOf (PySem.strKind PySem.Challenge.rw_pm0082_01.row.toRowW.prog w) kvs) (BookIn PySem.Challenge.rw_pm0082_01.row.toRowW.prog w ext' (((waysOf rows g (f9, w9)).take k).foldl (fun B q => stepB B p9 q) B0) kvs) (((((waysOf rows g (f9, w9)).take k).foldl (fun B q => stepB B p9 q) B0).map (·.1)).Nodup) ((∀ q ∈ extW, q ∈ ext')) ((∀ q ∈ ext', LCg.Off1 q.1 ((I2, oI2) :: (I, oI) :: (bk, ob) :: (L' + 1 + 1, oW) :: (L' + 1, oG) :: (196, o1) :: (l, oV) :: rest0)))) ?hS3x ?h03x ?step3x ?hR3x
                case go3x =>
                  intro I i s v Q E hit hQ hv
                  exact letGo_listiter hit hQ
                case hS3x =>
                  intro i m nw pp14
                  refine hideG fun GG hGG => ?_
                  obtain ⟨ob', kvs, ext', rfl, _, _, _, hsub, _⟩ := pp14
                  refine hGG ?_
                  clear hGG GG
                  refine .inr ⟨_, List.mem_cons_of_mem _ (List.mem_cons_of_mem _ (List.mem_cons_of_mem _ (List.mem_cons_of_mem _ (List.mem_cons_of_mem _ (List.mem_cons_of_mem _ (List.mem_cons_of_mem _ (List.mem_append_left _ (hsub _ hmW)))))))), rfl, _, rfl⟩
                case h03x =>
                  refine ⟨ob2, kvs2, extW, rfl, hkv2, ?_, ?_, fun q h => h, hfrW⟩
                  · rw [List.take_zero]; exact hBkW
                  · rw [List.take_zero]; exact hBn2
                case step3x =>
                  unfold TurnX
                  intro I3 gg3 tk8 k v ex o nw h tk dr oI3 E' hdr hi3 pp15 pp16 F13 N14 oo1 oo2
                  refine hideG fun GG hGG => ?_
                  obtain ⟨hv, rfl⟩ := pp15
                  obtain ⟨ob3, kvs3, ext7, rfl, hkv3, hBk3, hBn3, hsub3, hfr3⟩ := pp16
                  dsimp only [canonL, List.foldr, List.nil_append] at F13 N14 oo1
                  obtain ⟨⟨f7, x7⟩, hq7, T7, u5, u6, n7, rfl, hT7⟩ := hWz.get' (i := k) (b := v) (by simpa using hv)
                  obtain ⟨hM0, hM1, hM2, hM3, hM4, hM5, hM6, hM7⟩ := oo1
                  dsimp only at hM0 hM1 hM2 hM3 hM4 hM5 hM6
                  have hT7' := hsub3 _ hT7
                  clear hT7
                  refine hGG ?_
                  clear hGG GG
                  k_steps
                  rename_i d0 gD od FD ND lo0 hs0 fs0 hi0 fi0 z1 z2 z3 z4 z5 z6 z7 z8 z9
                  refine hideG fun GG hGG => ?_
                  obtain ⟨dx, ox, hvx, hmx, hlx, hDx, hnx⟩ : ∃ dx ox, (valueAt kvs3 (low f7)).getD (.ref d0) = .ref dx ∧ (dx, ox) ∈ (d0, od) :: ext7 ∧ (dx == sysModules) = false ∧ DK PySem.Challenge.rw_pm0082_01.row.toRowW.prog w ox (getB (((waysOf rows g (f9, w9)).take k).foldl (fun B q => stepB B p9 q) B0) f7) ∧ ((getB (((waysOf rows g (f9, w9)).take k).foldl (fun B q => stepB B p9 q) B0) f7).map (·.1)).Nodup := by
                    rcases book_get f7 hBk3 with ⟨dx, ox, hvx, hmx, hlx, hDx, hnx⟩ | ⟨hvx, hgx⟩
                    · exact ⟨dx, ox, by rw [hvx]; rfl, List.mem_cons_of_mem _ hmx, hlx, hDx, hnx⟩
                    · exact ⟨d0, od, by rw [hvx]; rfl, List.mem_cons_self, lo0, by rw [hgx]; exact ⟨[], hs0, fs0⟩, by rw [hgx]; exact List.nodup_nil⟩
                  refine hGG ?_
                  clear hGG GG
                  refine kdg_get2 (k := low f7) (by k_asm) (by k_mem) hkv3 lob ?hkyx _ rfl ?_
                  case hkyx => exact strKind_is _ _ _ _
                  rw [hvx]
                  dsimp only
                  k_steps
                  rename_i dS hS oS FS NS lS loS hdS
                  unfold Sealed
                  refine' kdn_made_strF ?F ?N ?U ?d ?k ?n ?v ?_
                  case F => k_asm
                  case N => k_asm
                  case U => exact UpdF.head fun p hp => Nat.ne_of_lt (lS p hp)
                  case d => k_asm
                  case k => exact rfl
                  case n => (show [low p9].Nodup; exact List.nodup_cons.mpr ⟨List.not_mem_nil, List.nodup_nil⟩)
                  case v => exact rfl
                  intro hE oE FE NE hdE hfE
                  (try dsimp only at NE)
                  k_steps
                  unfold Sealed
                  have hbd := nodup4 hnx
                  k_dflt (refine' c_addc ?k1 ?k2 ?k3 ?k4 ?k5 _ ?k6 ?k7 ?k8 dx dS ox oE _ [(p9, x7)] ?ma ?mb ?e1 ?e2 ?D1 ?D2 ?c1 ?c2 ?_; (case k1 => k_asm); (case k2 => k_asm); (case k3 => k_asm); (case k4 => k_asm); (case k5 => first | exact rfl | assumption); (case k6 => exact NE); (case k7 => ktr_room); (case k8 => ktr_units); (case ma => exact (show ∀ q ∈ (d0, od) :: ext7, q ∈ _ by ((try simp only [List.cons_append, List.append_assoc, List.nil_append]); repeat' (first | (with_reducible refine sub_cons ?_ ?_; k_mem) | with_reducible refine sub_app ?_ ?_ | exact sub_nil | (intro q hq; kpc_turns)))) _ hmx); (case mb => exact List.mem_cons_self); (case e1 => exact hlx); (case e2 => exact loS); (case D1 => exact hDx); (case D2 => exact ⟨_, hdE, hfE⟩); (case c1 => lia); (case c2 => exact (show 1 ≤ 16 by decide)); k_whole)
                  intro DA oA hA tkA FA NA offA loA hDA
                  dsimp only
                  k_steps
                  unfold Sealed
                  refine nameL ((DA, oA) :: ext7) fun extA hextA => ?_
                  have NB : News g' L' hA ((bk, ob3) :: (I3, oI3) :: (I2, oI2) :: (I, oI) :: (L' + 1 + 1, oW3) :: (L' + 1, oG) :: (196, o1'') :: (l, oV) :: (extA ++ rest0)) := News.sub NA (by rw [hextA]; ((try simp only [List.cons_append, List.append_assoc, List.nil_append]); repeat' (first | (with_reducible refine sub_cons ?_ ?_; k_mem) | with_reducible refine sub_app ?_ ?_ | exact sub_nil | (intro q hq; kpc_turns))))
                  have hDAb : LCg.Off1 DA ((I3, oI3) :: (I2, oI2) :: (I, oI) :: (bk, ob) :: (L' + 1 + 1, oW) :: (L' + 1, oG) :: (196, o1) :: (l, oV) :: rest0) :=
                    ⟨off1_mem offA (I3, oI3) (by k_mem), off1_mem offA (I2, oI2) (by k_mem), off1_mem offA (I, oI) (by k_mem), off1_mem offA (bk, ob3) (by k_mem), off1_mem offA (L' + 1 + 1, oW3) (by k_mem), off1_mem offA (L' + 1, oG) (by k_mem), off1_mem offA (196, o1'') (by k_mem), off1_mem offA (l, oV) (by k_mem), off_sub offA (by ((try simp only [List.cons_append, List.append_assoc, List.nil_append]); repeat' (first | (with_reducible refine sub_cons ?_ ?_; k_mem) | with_reducible refine sub_app ?_ ?_ | exact sub_nil | (intro q hq; kpc_turns))))⟩
                  have hOB : LCg.Off1 bk ((I3, oI3) :: (I2, oI2) :: (I, oI) :: (L' + 1 + 1, oW3) :: (L' + 1, oG) :: (196, o1'') :: (l, oV) :: (extA ++ rest0)) := by
                    refine hideG fun GG hGG => ?_
                    obtain ⟨p1, p2, p3, p4, p5⟩ := hfbk
                    refine hGG ?_
                    clear hGG GG
                    rw [hextA]
                    exact ⟨Ne.symm hM2, Ne.symm hJ1, Ne.symm hI1, p1, p2, p3, p4, Ne.symm hDAb.2.2.2.1, off1_append (off1_swap hfr3 (o := ob) (by k_mem)) p5⟩
                  refine kda_set (k := low f7) (by k_asm) NB (UpdF.head fun p hp => off1_mem hOB p hp) hkv3 (strKind_is _ _ _ _) ?hszx ?_
                  case hszx =>
                    rw [hBk3.length.symm]
                    have h4 := nodup4 hBn3
                    exact Nat.le_trans h4 (by decide +kernel)
                  intro hB obB FB NB2 hkvB
                  (try kfm_turns)
                  k_steps
                  have hfold : ((waysOf rows g (f9, w9)).take (k + 1)).foldl (fun B q => stepB B p9 q) B0 = stepB (((waysOf rows g (f9, w9)).take k).foldl (fun B q => stepB B p9 q) B0) p9 (f7, x7) := by
                    rw [List.take_add_one, hq7, Option.toList_some, List.foldl_append]
                    rfl
                  refine' ⟨_, _, _, _, _, rfl, trivial, ?f9x, News.sub NB2 (by ((try simp only [List.cons_append, List.append_assoc, List.nil_append]); repeat' (first | (with_reducible refine sub_cons ?_ ?_; k_mem) | with_reducible refine sub_app ?_ ?_ | exact sub_nil | (intro q hq; kpc_turns)))), ?o9x, ⟨?g9x, obB, _, extA, rfl, hkvB, ?b9x, ?n9x, ?s9x, ?r9x⟩⟩
                  case f9x => k_asm
                  case g9x => exact (by (intro y hy; first | ((repeat (first | refine agree_l hy (by k_mem) ?_ | refine agree_r hy (by k_mem) ?_)); exact rfl) | (simp only [List.mem_cons, List.not_mem_nil, or_false, not_or] at hy; simp only [hy, if_false])))
                  case o9x =>
                    rw [hextA]
                    exact ⟨hM0, hM1, hM2, hM3, hM4, hM5, hM6, Ne.symm hDAb.1, hM7⟩
                  case b9x =>
                    rw [hfold]
                    exact book_put ⟨rfl, addAll_nodup _ _ (putAll_nodup _ _ nil_nodup), DA, oA, rfl, by rw [hextA]; exact List.mem_cons_self, loA, hDA⟩ (BookIn.mono (by rw [hextA]; ((try simp only [List.cons_append, List.append_assoc, List.nil_append]); repeat' (first | (with_reducible refine sub_cons ?_ ?_; k_mem) | with_reducible refine sub_app ?_ ?_ | exact sub_nil | (intro q hq; kpc_turns)))) hBk3)
                  case n9x =>
                    rw [hfold]
                    exact putB_keys _ _ _ hBn3
                  case s9x => exact fun q hq => by rw [hextA]; exact List.mem_cons_of_mem _ (hsub3 q hq)
                  case r9x =>
                    rw [hextA]
                    intro q hq
                    rcases List.mem_cons.mp hq with rfl | hq
                    · exact hDAb.2
                    · exact hfr3 q hq
                case hR3x =>
                  intro h2 tk2 dr o news' hdr F13 N14 pp17
                  refine hideG fun GG hGG => ?_
                  obtain ⟨ob3, kvs3, ext7, rfl, hkv3, hBk3, hBn3, hsub3, hfr3⟩ := pp17
                  dsimp only [canonL, List.foldr, List.nil_append] at F13 N14
                  refine hGG ?_
                  clear hGG GG
                  k_steps
                  have hfold2 : ((callsOf' rows p9).take (j + 1)).foldl (fun B c => callB rows g B p9 c) (((others g).take i).foldl (placeB rows g) []) = (waysOf rows g (f9, w9)).foldl (fun B q => stepB B p9 q) B0 := by
                    rw [List.take_add_one, hq9, Option.toList_some, List.foldl_append, ← hB0]
                    rfl
                  have hzl : zs.toArray.size = (waysOf rows g (f9, w9)).length := by rw [List.size_toArray]; exact hWz.length.symm
                  rw [hzl, List.take_length] at hBk3 hBn3
                  refine' ⟨_, _, _, _, _, rfl, trivial, ?f9x, News.sub N14 (by ((try simp only [List.cons_append, List.append_assoc, List.nil_append]); repeat' (first | (with_reducible refine sub_cons ?_ ?_; k_mem) | with_reducible refine sub_app ?_ ?_ | exact sub_nil | (intro q hq; kpc_turns)))), ?o9x, ⟨?g9x, ob3, oW3, _, kvs3, ext7, rfl, hkv3, dW3, ?b9x, ?n9x, ?s9x, ?r9x⟩⟩
                  case f9x => k_asm
                  case g9x => exact (by (intro y hy; first | ((repeat (first | refine agree_l hy (by k_mem) ?_ | refine agree_r hy (by k_mem) ?_)); exact rfl) | (simp only [List.mem_cons, List.not_mem_nil, or_false, not_or] at hy; simp only [hy, if_false])))
                  case o9x => exact ⟨hJ0, hJ1, hJ2, hJ3, hJ4, hJ5, off1_append (off1_swap hfr3 (o := oI2) (by k_mem)) (off_sub hJ6 (by ((try simp only [List.cons_append, List.append_assoc, List.nil_append]); repeat' (first | (with_reducible refine sub_cons ?_ ?_; k_mem) | with_reducible refine sub_app ?_ ?_ | exact sub_nil | (intro q hq; kpc_turns)))))⟩
                  case b9x => rw [hfold2]; exact hBk3
                  case n9x => rw [hfold2]; exact hBn3
                  case s9x => exact fun q hq => hsub3 _ (hsubW _ (hsub2 _ hq))
                  case r9x => exact fun q hq => (hfr3 q hq).2
            rename_i oW3 dW3 tk9 TT hTp i1 i2 i3 i4 i5 i6 i7 i8 W9 hWp j1 j2 j3 j4 j5 j6 j7 j8 j9 hx F12 N12 hfg
            have hfg' : f9 ≠ g := by rw [low_inj] at hfg; exact of_decide_eq_false hfg
            obtain ⟨zs, hzs⟩ : ∃ z : List Value, z = [.ref TT] := ⟨_, rfl⟩
            refine nameL ((W9, W.listOf zs.toArray 0) :: (TT, ({ cls := .type "tuple", data := .seq #[.str (low f9) u1, .int (w9 * ((onOf rows g).map (·.2)).sum) tk9] } : Obj)) :: ext6) fun extW hextW => ?_
            have N13 : News g' L' hx ((I2, oI2) :: (I, oI) :: (bk, ob2) :: (L' + 1 + 1, oW3) :: (L' + 1, oG) :: (196, o1'') :: (l, oV) :: (extW ++ rest0)) := News.sub N12 (by rw [hextW, hzs]; ((try simp only [List.cons_append, List.append_assoc, List.nil_append]); repeat' (first | (with_reducible refine sub_cons ?_ ?_; k_mem) | with_reducible refine sub_app ?_ ?_ | exact sub_nil | (intro q hq; kpc_turns))))
            have hfrW : ∀ q ∈ extW, LCg.Off1 q.1 ((I2, oI2) :: (I, oI) :: (bk, ob) :: (L' + 1 + 1, oW) :: (L' + 1, oG) :: (196, o1) :: (l, oV) :: rest0) := by
              rw [hextW]
              intro q hq
              rcases List.mem_cons.mp hq with rfl | hq
              · exact ⟨Nat.ne_of_lt j2, Nat.ne_of_lt j3, Nat.ne_of_lt j4, Nat.ne_of_lt j5, Nat.ne_of_lt j6, Nat.ne_of_lt j7, Nat.ne_of_lt j8, off_sub (off1_of (allLt_ne j9 (Nat.le_refl _))) (by ((try simp only [List.cons_append, List.append_assoc, List.nil_append]); repeat' (first | (with_reducible refine sub_cons ?_ ?_; k_mem) | with_reducible refine sub_app ?_ ?_ | exact sub_nil | (intro q hq; kpc_turns))))⟩
              · rcases List.mem_cons.mp hq with rfl | hq
                · exact ⟨Nat.ne_of_lt i1, Nat.ne_of_lt i2, Nat.ne_of_lt i3, Nat.ne_of_lt i4, Nat.ne_of_lt i5, Nat.ne_of_lt i6, Nat.ne_of_lt i7, off_sub (off1_of (allLt_ne i8 (Nat.le_refl _))) (by ((try simp only [List.cons_append, List.append_assoc, List.nil_append]); repeat' (first | (with_reducible refine sub_cons ?_ ?_; k_mem) | with_reducible refine sub_app ?_ ?_ | exact sub_nil | (intro q hq; kpc_turns))))⟩
                · exact ⟨Ne.symm (off1_mem hJ6 q (List.mem_append_left _ hq)), hfr2 q hq⟩
            have hsubW : ∀ q ∈ ext6, q ∈ extW := by rw [hextW]; ((try simp only [List.cons_append, List.append_assoc, List.nil_append]); repeat' (first | (with_reducible refine sub_cons ?_ ?_; k_mem) | with_reducible refine sub_app ?_ ?_ | exact sub_nil | (intro q hq; kpc_turns)))
            have hmW : (W9, W.listOf zs.toArray 0) ∈ extW := by rw [hextW]; exact List.mem_cons_self
            have hWz : All2 (WayV extW) (waysOf rows g (f9, w9)) zs := by
              unfold waysOf
              rw [if_neg hfg', hzs, hextW]
              exact .cons ⟨TT, u1, tk9, _, rfl, by k_mem⟩ .nil
            refine nameL (((callsOf' rows p9).take j).foldl (fun B c => callB rows g B p9 c) (((others g).take i).foldl (placeB rows g) [])) fun B0 hB0 => ?_
            rw [← hB0] at hBk2 hBn2
            clear N12 i1 i2 i3 i4 i5 i6 i7 i8 j1 j2 j3 j4 j5 j6 j7 j8 j9 hextW hzs
            have hBkW := BookIn.mono hsubW hBk2
            unfold Sealed
            refine src_list (DD := fun _ => True) (hD := trivial) (xs := [Str.ofString "far", Str.ofString "product"]) (ax := W9) (its := zs.toArray) (hh := rfl) ?go3 (by k_asm) N13
              (fun k m₁ nw => Ex3 fun ob' kvs ext' => Co6 (nw = (I2, oI2) :: (I, oI) :: (bk, ob') :: (L' + 1 + 1, oW3) :: (L' + 1, oG) :: (196, o1'') :: (l, oV) :: (ext' ++ rest0)) (ob'.IsDictOf (PySem.strKind PySem.Challenge.rw_pm0082_01.row.toRowW.prog w) kvs) (BookIn PySem.Challenge.rw_pm0082_01.row.toRowW.prog w ext' (((waysOf rows g (f9, w9)).take k).foldl (fun B q => stepB B p9 q) B0) kvs) (((((waysOf rows g (f9, w9)).take k).foldl (fun B q => stepB B p9 q) B0).map (·.1)).Nodup) ((∀ q ∈ extW, q ∈ ext')) ((∀ q ∈ ext', LCg.Off1 q.1 ((I2, oI2) :: (I, oI) :: (bk, ob) :: (L' + 1 + 1, oW) :: (L' + 1, oG) :: (196, o1) :: (l, oV) :: rest0)))) ?hS3 ?h03 ?step3 ?hR3
            case go3 =>
              intro I i s v Q E hit hQ hv
              exact letGo_listiter hit hQ
            case hS3 =>
              intro i m nw pp18
              refine hideG fun GG hGG => ?_
              obtain ⟨ob', kvs, ext', rfl, _, _, _, hsub, _⟩ := pp18
              refine hGG ?_
              clear hGG GG
              refine .inr ⟨_, List.mem_cons_of_mem _ (List.mem_cons_of_mem _ (List.mem_cons_of_mem _ (List.mem_cons_of_mem _ (List.mem_cons_of_mem _ (List.mem_cons_of_mem _ (List.mem_cons_of_mem _ (List.mem_append_left _ (hsub _ hmW)))))))), rfl, _, rfl⟩
            case h03 =>
              refine ⟨ob2, kvs2, extW, rfl, hkv2, ?_, ?_, fun q h => h, hfrW⟩
              · rw [List.take_zero]; exact hBkW
              · rw [List.take_zero]; exact hBn2
            case step3 =>
              unfold TurnX
              intro I3 gg3 tk8 k v ex o nw h tk dr oI3 E' hdr hi3 pp19 pp20 F13 N14 oo1 oo2
              refine hideG fun GG hGG => ?_
              obtain ⟨hv, rfl⟩ := pp19
              obtain ⟨ob3, kvs3, ext7, rfl, hkv3, hBk3, hBn3, hsub3, hfr3⟩ := pp20
              dsimp only [canonL, List.foldr, List.nil_append] at F13 N14 oo1
              obtain ⟨⟨f7, x7⟩, hq7, T7, u5, u6, n7, rfl, hT7⟩ := hWz.get' (i := k) (b := v) (by simpa using hv)
              obtain ⟨hM0, hM1, hM2, hM3, hM4, hM5, hM6, hM7⟩ := oo1
              dsimp only at hM0 hM1 hM2 hM3 hM4 hM5 hM6
              have hT7' := hsub3 _ hT7
              clear hT7
              refine hGG ?_
              clear hGG GG
              k_steps
              rename_i d0 gD od FD ND lo0 hs0 fs0 hi0 fi0 z1 z2 z3 z4 z5 z6 z7 z8 z9
              refine hideG fun GG hGG => ?_
              obtain ⟨dx, ox, hvx, hmx, hlx, hDx, hnx⟩ : ∃ dx ox, (valueAt kvs3 (low f7)).getD (.ref d0) = .ref dx ∧ (dx, ox) ∈ (d0, od) :: ext7 ∧ (dx == sysModules) = false ∧ DK PySem.Challenge.rw_pm0082_01.row.toRowW.prog w ox (getB (((waysOf rows g (f9, w9)).take k).foldl (fun B q => stepB B p9 q) B0) f7) ∧ ((getB (((waysOf rows g (f9, w9)).take k).foldl (fun B q => stepB B p9 q) B0) f7).map (·.1)).Nodup := by
                rcases book_get f7 hBk3 with ⟨dx, ox, hvx, hmx, hlx, hDx, hnx⟩ | ⟨hvx, hgx⟩
                · exact ⟨dx, ox, by rw [hvx]; rfl, List.mem_cons_of_mem _ hmx, hlx, hDx, hnx⟩
                · exact ⟨d0, od, by rw [hvx]; rfl, List.mem_cons_self, lo0, by rw [hgx]; exact ⟨[], hs0, fs0⟩, by rw [hgx]; exact List.nodup_nil⟩
              refine hGG ?_
              clear hGG GG
              refine kdg_get2 (k := low f7) (by k_asm) (by k_mem) hkv3 lob ?hky _ rfl ?_
              case hky => exact strKind_is _ _ _ _
              rw [hvx]
              dsimp only
              k_steps
              rename_i dS hS oS FS NS lS loS hdS
              unfold Sealed
              refine' kdn_made_strF ?F ?N ?U ?d ?k ?n ?v ?_
              case F => k_asm
              case N => k_asm
              case U => exact UpdF.head fun p hp => Nat.ne_of_lt (lS p hp)
              case d => k_asm
              case k => exact rfl
              case n => (show [low p9].Nodup; exact List.nodup_cons.mpr ⟨List.not_mem_nil, List.nodup_nil⟩)
              case v => exact rfl
              intro hE oE FE NE hdE hfE
              (try dsimp only at NE)
              k_steps
              unfold Sealed
              have hbd := nodup4 hnx
              k_dflt (refine' c_addc ?k1 ?k2 ?k3 ?k4 ?k5 _ ?k6 ?k7 ?k8 dx dS ox oE _ [(p9, x7)] ?ma ?mb ?e1 ?e2 ?D1 ?D2 ?c1 ?c2 ?_; (case k1 => k_asm); (case k2 => k_asm); (case k3 => k_asm); (case k4 => k_asm); (case k5 => first | exact rfl | assumption); (case k6 => exact NE); (case k7 => ktr_room); (case k8 => ktr_units); (case ma => exact (show ∀ q ∈ (d0, od) :: ext7, q ∈ _ by ((try simp only [List.cons_append, List.append_assoc, List.nil_append]); repeat' (first | (with_reducible refine sub_cons ?_ ?_; k_mem) | with_reducible refine sub_app ?_ ?_ | exact sub_nil | (intro q hq; kpc_turns)))) _ hmx); (case mb => exact List.mem_cons_self); (case e1 => exact hlx); (case e2 => exact loS); (case D1 => exact hDx); (case D2 => exact ⟨_, hdE, hfE⟩); (case c1 => lia); (case c2 => exact (show 1 ≤ 16 by decide)); k_whole)
              intro DA oA hA tkA FA NA offA loA hDA
              dsimp only
              k_steps
              unfold Sealed
              refine nameL ((DA, oA) :: ext7) fun extA hextA => ?_
              have NB : News g' L' hA ((bk, ob3) :: (I3, oI3) :: (I2, oI2) :: (I, oI) :: (L' + 1 + 1, oW3) :: (L' + 1, oG) :: (196, o1'') :: (l, oV) :: (extA ++ rest0)) := News.sub NA (by rw [hextA]; ((try simp only [List.cons_append, List.append_assoc, List.nil_append]); repeat' (first | (with_reducible refine sub_cons ?_ ?_; k_mem) | with_reducible refine sub_app ?_ ?_ | exact sub_nil | (intro q hq; kpc_turns))))
              have hDAb : LCg.Off1 DA ((I3, oI3) :: (I2, oI2) :: (I, oI) :: (bk, ob) :: (L' + 1 + 1, oW) :: (L' + 1, oG) :: (196, o1) :: (l, oV) :: rest0) :=
                ⟨off1_mem offA (I3, oI3) (by k_mem), off1_mem offA (I2, oI2) (by k_mem), off1_mem offA (I, oI) (by k_mem), off1_mem offA (bk, ob3) (by k_mem), off1_mem offA (L' + 1 + 1, oW3) (by k_mem), off1_mem offA (L' + 1, oG) (by k_mem), off1_mem offA (196, o1'') (by k_mem), off1_mem offA (l, oV) (by k_mem), off_sub offA (by ((try simp only [List.cons_append, List.append_assoc, List.nil_append]); repeat' (first | (with_reducible refine sub_cons ?_ ?_; k_mem) | with_reducible refine sub_app ?_ ?_ | exact sub_nil | (intro q hq; kpc_turns))))⟩
              have hOB : LCg.Off1 bk ((I3, oI3) :: (I2, oI2) :: (I, oI) :: (L' + 1 + 1, oW3) :: (L' + 1, oG) :: (196, o1'') :: (l, oV) :: (extA ++ rest0)) := by
                refine hideG fun GG hGG => ?_
                obtain ⟨p1, p2, p3, p4, p5⟩ := hfbk
                refine hGG ?_
                clear hGG GG
                rw [hextA]
                exact ⟨Ne.symm hM2, Ne.symm hJ1, Ne.symm hI1, p1, p2, p3, p4, Ne.symm hDAb.2.2.2.1, off1_append (off1_swap hfr3 (o := ob) (by k_mem)) p5⟩
              refine kda_set (k := low f7) (by k_asm) NB (UpdF.head fun p hp => off1_mem hOB p hp) hkv3 (strKind_is _ _ _ _) ?hsz ?_
              case hsz =>
                rw [hBk3.length.symm]
                have h4 := nodup4 hBn3
                exact Nat.le_trans h4 (by decide +kernel)
              intro hB obB FB NB2 hkvB
              (try kfm_turns)
              k_steps
              have hfold : ((waysOf rows g (f9, w9)).take (k + 1)).foldl (fun B q => stepB B p9 q) B0 = stepB (((waysOf rows g (f9, w9)).take k).foldl (fun B q => stepB B p9 q) B0) p9 (f7, x7) := by
                rw [List.take_add_one, hq7, Option.toList_some, List.foldl_append]
                rfl
              refine' ⟨_, _, _, _, _, rfl, trivial, ?f9, News.sub NB2 (by ((try simp only [List.cons_append, List.append_assoc, List.nil_append]); repeat' (first | (with_reducible refine sub_cons ?_ ?_; k_mem) | with_reducible refine sub_app ?_ ?_ | exact sub_nil | (intro q hq; kpc_turns)))), ?o9, ⟨?g9, obB, _, extA, rfl, hkvB, ?b9, ?n9, ?s9, ?r9⟩⟩
              case f9 => k_asm
              case g9 => exact (by (intro y hy; first | ((repeat (first | refine agree_l hy (by k_mem) ?_ | refine agree_r hy (by k_mem) ?_)); exact rfl) | (simp only [List.mem_cons, List.not_mem_nil, or_false, not_or] at hy; simp only [hy, if_false])))
              case o9 =>
                rw [hextA]
                exact ⟨hM0, hM1, hM2, hM3, hM4, hM5, hM6, Ne.symm hDAb.1, hM7⟩
              case b9 =>
                rw [hfold]
                exact book_put ⟨rfl, addAll_nodup _ _ (putAll_nodup _ _ nil_nodup), DA, oA, rfl, by rw [hextA]; exact List.mem_cons_self, loA, hDA⟩ (BookIn.mono (by rw [hextA]; ((try simp only [List.cons_append, List.append_assoc, List.nil_append]); repeat' (first | (with_reducible refine sub_cons ?_ ?_; k_mem) | with_reducible refine sub_app ?_ ?_ | exact sub_nil | (intro q hq; kpc_turns)))) hBk3)
              case n9 =>
                rw [hfold]
                exact putB_keys _ _ _ hBn3
              case s9 => exact fun q hq => by rw [hextA]; exact List.mem_cons_of_mem _ (hsub3 q hq)
              case r9 =>
                rw [hextA]
                intro q hq
                rcases List.mem_cons.mp hq with rfl | hq
                · exact hDAb.2
                · exact hfr3 q hq
            case hR3 =>
              intro h2 tk2 dr o news' hdr F13 N14 pp21
              refine hideG fun GG hGG => ?_
              obtain ⟨ob3, kvs3, ext7, rfl, hkv3, hBk3, hBn3, hsub3, hfr3⟩ := pp21
              dsimp only [canonL, List.foldr, List.nil_append] at F13 N14
              refine hGG ?_
              clear hGG GG
              k_steps
              have hfold2 : ((callsOf' rows p9).take (j + 1)).foldl (fun B c => callB rows g B p9 c) (((others g).take i).foldl (placeB rows g) []) = (waysOf rows g (f9, w9)).foldl (fun B q => stepB B p9 q) B0 := by
                rw [List.take_add_one, hq9, Option.toList_some, List.foldl_append, ← hB0]
                rfl
              have hzl : zs.toArray.size = (waysOf rows g (f9, w9)).length := by rw [List.size_toArray]; exact hWz.length.symm
              rw [hzl, List.take_length] at hBk3 hBn3
              refine' ⟨_, _, _, _, _, rfl, trivial, ?f9, News.sub N14 (by ((try simp only [List.cons_append, List.append_assoc, List.nil_append]); repeat' (first | (with_reducible refine sub_cons ?_ ?_; k_mem) | with_reducible refine sub_app ?_ ?_ | exact sub_nil | (intro q hq; kpc_turns)))), ?o9, ⟨?g9, ob3, oW3, _, kvs3, ext7, rfl, hkv3, dW3, ?b9, ?n9, ?s9, ?r9⟩⟩
              case f9 => k_asm
              case g9 => exact (by (intro y hy; first | ((repeat (first | refine agree_l hy (by k_mem) ?_ | refine agree_r hy (by k_mem) ?_)); exact rfl) | (simp only [List.mem_cons, List.not_mem_nil, or_false, not_or] at hy; simp only [hy, if_false])))
              case o9 => exact ⟨hJ0, hJ1, hJ2, hJ3, hJ4, hJ5, off1_append (off1_swap hfr3 (o := oI2) (by k_mem)) (off_sub hJ6 (by ((try simp only [List.cons_append, List.append_assoc, List.nil_append]); repeat' (first | (with_reducible refine sub_cons ?_ ?_; k_mem) | with_reducible refine sub_app ?_ ?_ | exact sub_nil | (intro q hq; kpc_turns)))))⟩
              case b9 => rw [hfold2]; exact hBk3
              case n9 => rw [hfold2]; exact hBn3
              case s9 => exact fun q hq => hsub3 _ (hsubW _ (hsub2 _ hq))
              case r9 => exact fun q hq => (hfr3 q hq).2
          case hR2 =>
            intro h2 tk2 dr o news' hdr F13 N14 pp22
            refine hideG fun GG hGG => ?_
            obtain ⟨ob3, oW3, v3, kvs3, ext7, rfl, hkv3, hoW3, hBk3, hBn3, hsub3, hfr3⟩ := pp22
            dsimp only [canonL, List.foldr, List.nil_append] at F13 N14
            refine hGG ?_
            clear hGG GG
            k_steps
            have hfold3 : ((others g).take (i + 1)).foldl (placeB rows g) [] = (callsOf' rows p9).foldl (fun B c => callB rows g B p9 c) (((others g).take i).foldl (placeB rows g) []) := by
              rw [List.take_add_one, show (others g)[i]? = some p9 from hp9, Option.toList_some, List.foldl_append]
              rfl
            have hzl : ys5.toList.toArray.size = (callsOf' rows p9).length := by rw [List.size_toArray]; exact hC6.length.symm
            rw [hzl, List.take_length] at hBk3 hBn3
            refine' ⟨_, _, _, _, _, rfl, trivial, ?f9, News.sub N14 (by ((try simp only [List.cons_append, List.append_assoc, List.nil_append]); repeat' (first | (with_reducible refine sub_cons ?_ ?_; k_mem) | with_reducible refine sub_app ?_ ?_ | exact sub_nil | (intro q hq; kpc_turns)))), ?o9, ⟨?g9, ob3, oW3, _, o1'', kvs3, ext7, rfl, hkv3, hoW3, ?b9, ?n9, ?s9, ?r9, ?t9⟩⟩
            case f9 => k_asm
            case g9 => exact (by (intro y hy; first | ((repeat (first | refine agree_l hy (by k_mem) ?_ | refine agree_r hy (by k_mem) ?_)); exact rfl) | (simp only [List.mem_cons, List.not_mem_nil, or_false, not_or] at hy; simp only [hy, if_false])))
            case o9 => exact ⟨hI1, hI2, hI3, hI4, hI5, off1_append (off1_swap hfr3 (o := oI) (by k_mem)) (off_sub hoI (by ((try simp only [List.cons_append, List.append_assoc, List.nil_append]); repeat' (first | (with_reducible refine sub_cons ?_ ?_; k_mem) | with_reducible refine sub_app ?_ ?_ | exact sub_nil | (intro q hq; kpc_turns)))))⟩
            case b9 => rw [hfold3]; exact hBk3
            case n9 => rw [hfold3]; exact hBn3
            case s9 => exact fun q hq => hsub3 _ (hsubM _ (hsub _ hq))
            case r9 => exact fun q hq => (hfr3 q hq).2
            case t9 => exact TabOk.mono (show ∀ q ∈ extM ++ tt, q ∈ ext7 ++ tt from fun q hq => by rcases List.mem_append.mp hq with h | h; exact List.mem_append_left _ (hsub3 _ h); exact List.mem_append_right _ h) T1e
        case hR =>
          intro h2 tk2 dr o news' hdr F13 N14 pp23
          refine hideG fun GG hGG => ?_
          obtain ⟨ob3, oW3, v3, o1c, kvs3, ext7, rfl, hkv3, hoW3, hBk3, hBn3, hsub3, hfr3, T1f⟩ := pp23
          dsimp only [canonL, List.foldr, List.nil_append] at F13 N14
          refine hGG ?_
          clear hGG GG
          k_steps
          have h4l : ys4.toArray.size = (others g).length := by rw [List.size_toArray]; exact hys4.length.symm
          rw [h4l, List.take_length] at hBk3 hBn3
          refine nameL (bookOf rows g) fun BB hBB => ?_
          rw [show (others g).foldl (placeB rows g) [] = BB from hBB.symm] at hBk3 hBn3
          have N15 : News g' L' h2 ((bk, ob3) :: (L' + 1 + 1, oW3) :: (L' + 1, oG) :: (196, o1c) :: (l, W.listOf vs.toArray kk) :: (ext7 ++ rest0)) := by rw [← hoV]; exact N14
          have hE7l : LCg.Off1 l ext7 := off1_swap hfr3 (o := oV) (by k_mem)
          have hRe : RowsIn (ext7 ++ rest0) rows vs := RowsIn.mono (by ((try simp only [List.cons_append, List.append_assoc, List.nil_append]); repeat' (first | (with_reducible refine sub_cons ?_ ?_; k_mem) | with_reducible refine sub_app ?_ ?_ | exact sub_nil | (intro q hq; kpc_turns)))) hR
          clear N14 N6 hys4 hys5 hsb hib fsb fib hmD1' hmD4 T1c
          unfold Sealed
          refine src_str (hh := rfl) (by decide +kernel) (fun _ _ => rfl) (by k_asm) N15 (fun _ => True) trivial (xs := [Str.ofString "place"])
            (J := fun i m₁ nw => ∃ vs' kk', nw = (bk, ob3) :: (L' + 1 + 1, oW3) :: (L' + 1, oG) :: (196, o1c) :: (l, W.listOf vs'.toArray kk') :: (ext7 ++ rest0) ∧ RowsIn (ext7 ++ rest0) (rows.filter (fun r => decide (i ≤ r.p.val))) vs' ∧ vs'.length ≤ 16) ?h0d ?stepd ?hRd
          case h0d =>
            refine ⟨vs, kk, rfl, ?_, hlen⟩
            rw [List.filter_eq_self.mpr (fun r _ => by simp)]
            exact hRe
          case stepd =>
            intro I gg tkd
            unfold TurnX
            intro i v ex o nw h tk dr oI E' hdr hi pp24 pp25 F7 N7 oo1 oo2
            refine hideG fun GG hGG => ?_
            obtain ⟨hsv, rfl⟩ := pp24
            obtain ⟨vs', kk', rfl, hR', hlen'⟩ := pp25
            dsimp only [canonL, List.foldr, List.nil_append] at F7 N7 oo1
            obtain ⟨pd, ud, hpi, rfl⟩ := sign_abcd hsv
            refine hGG ?_
            clear hGG GG
            subst hpi
            k_steps
            unfold Sealed
            have hlI := oo1
            refine hideG fun GG hGG => ?_
            obtain ⟨hI1, hI2, hI3, hI4, hI5, hI6⟩ := oo1
            refine hGG ?_
            clear hGG GG
            dsimp only at hI1 hI2 hI3 hI4 hI5
            k_dflt (refine' c_del ?k1 ?k2 ?k3 ?k4 ?k5 ((l, W.listOf vs'.toArray kk') :: (I, oI) :: (bk, ob3) :: (L' + 1 + 1, oW3) :: (L' + 1, oG) :: (196, o1c) :: (ext7 ++ rest0)) ?k6 ?k7 ?k8 t d l n1 kk' vs' _ rfl ?kO _ tk1 _ false pd ?m1 ?m2 (ext7 ++ rest0) ?m3 hR' ?kL ?_; (case k1 => k_asm); (case k2 => k_asm); (case k3 => k_asm); (case k4 => k_asm); (case k5 => first | exact rfl | assumption); (case k6 => exact News.sub (by k_asm) (by ((try simp only [List.cons_append, List.append_assoc, List.nil_append]); repeat' (first | (with_reducible refine sub_cons ?_ ?_; k_mem) | with_reducible refine sub_app ?_ ?_ | exact sub_nil | (intro q hq; kpc_turns))))); (case k7 => ktr_room); (case k8 => ktr_units); (case kO => exact ⟨Ne.symm hI5, Ne.symm (off1_mem hfbk (l, oV) (by k_mem)), Nat.ne_of_gt (by lia), Nat.ne_of_gt (by lia), Ne.symm hl196, off1_append hE7l hoffl⟩); (case m1 => k_mem); (case m2 => k_mem); (case m3 => ((try simp only [List.cons_append, List.append_assoc, List.nil_append]); repeat' (first | (with_reducible refine sub_cons ?_ ?_; k_mem) | with_reducible refine sub_app ?_ ?_ | exact sub_nil | (intro q hq; kpc_turns)))); (case kL => lia); k_whole)
            intro h9 tk9 vs'' kk'' F9 N9 hR9 hl9
            (try kfm_turns)
            k_steps
            have hfl : (rows.filter (fun r => decide (pd.val ≤ r.p.val))).filter (fun r => decide (r.p ≠ pd)) = rows.filter (fun r => decide (pd.val + 1 ≤ r.p.val)) := by
              rw [List.filter_filter]
              refine List.filter_congr fun r _ => ?_
              have : (r.p ≠ pd) ↔ r.p.val ≠ pd.val := not_congr Fin.ext_iff
              by_cases h1 : r.p.val = pd.val
              · simp [Fin.ext_iff, h1]
              · simp only [decide_eq_true (this.mpr h1), Bool.true_and]
                exact decide_eq_decide.mpr (by lia)
            rw [hfl] at hR9
            refine' ⟨_, _, _, _, _, rfl, trivial, ?f9, News.sub N9 (by ((try simp only [List.cons_append, List.append_assoc, List.nil_append]); repeat' (first | (with_reducible refine sub_cons ?_ ?_; k_mem) | with_reducible refine sub_app ?_ ?_ | exact sub_nil | (intro q hq; kpc_turns)))), ?o9, ⟨?g9, vs'', kk'', rfl, hR9, by lia⟩⟩
            case f9 => k_asm
            case g9 => exact (by (intro y hy; first | ((repeat (first | refine agree_l hy (by k_mem) ?_ | refine agree_r hy (by k_mem) ?_)); exact rfl) | (simp only [List.mem_cons, List.not_mem_nil, or_false, not_or] at hy; simp only [hy, if_false])))
            case o9 => exact ⟨hI1, hI2, hI3, hI4, hI5, hI6⟩
          case hRd =>
            intro h3 tk3 dr3 o3 news3 hdr3 F7 N7 pp26
            refine hideG fun GG hGG => ?_
            obtain ⟨vs', kk', rfl, hR', hlen'⟩ := pp26
            dsimp only [canonL, List.foldr, List.nil_append] at F7 N7
            refine hGG ?_
            clear hGG GG
            k_steps
            rename_i dT hTp oT FT NT loT hsT fsT hiT fiT y1 y2 y3 y4 y5 y6 h4 F8 N8
            have hv0 : vs' = [] := by
              rw [show (Str.ofString "abcd").cps.size = 4 from rfl, List.filter_eq_nil_iff.mpr (fun r _ => by have := r.p.isLt; simp)] at hR'
              obtain _ | _ := hR'
              rfl
            subst hv0
            unfold Sealed
            have hGB : Good BB := by rw [hBB]; exact (LIN_book rows g (fun _ _ => 0)).1
            have hBl : BB.length ≤ 4 := nodup4 hGB.1
            rw [← hBB] at hsmB
            obtain ⟨epB, hkB⟩ := KdkAt.of hkv3
            have N8b : News g' L' h4 ((bk, ob3) :: (L' + 1 + 1, oW3) :: (L' + 1, oG) :: (196, o1c) :: (l, W.listOf ([] : List Value).toArray kk') :: (((dT, oT) :: ext7) ++ rest0)) := News.sub N8 (by ((try simp only [List.cons_append, List.append_assoc, List.nil_append]); repeat' (first | (with_reducible refine sub_cons ?_ ?_; k_mem) | with_reducible refine sub_app ?_ ?_ | exact sub_nil | (intro q hq; kpc_turns))))
            refine src_keys (knd := PySem.strKind _ w) (kvs := kvs3) (ep := epB) (d := bk) (hh := rfl) lob (fun _ _ => rfl) (by k_asm) N8b (fun _ => True) trivial (xs := [Str.ofString "total", Str.ofString "far", Str.ofString "place"])
              (J := fun i m₁ nw => ∃ dT oT' oW' v0 vsL kL ext, nw = (bk, ob3) :: (L' + 1 + 1, oW') :: (L' + 1, oG) :: (196, o1c) :: (l, W.listOf vsL.toArray kL) :: (ext ++ rest0) ∧ m₁ (Str.ofString "total") = some (.ref dT) ∧ (dT, oT') ∈ ext ∧ (dT == sysModules) = false ∧ DK PySem.Challenge.rw_pm0082_01.row.toRowW.prog w oT' (totalOf (BB.take i)) ∧ oW'.data = .cell v0 ∧ RowsIn ext (rowsB (BB.take i)) vsL ∧ (∀ q ∈ ext7, q ∈ ext) ∧ (∀ q ∈ ext, LCg.Off1 q.1 ((bk, ob) :: (L' + 1 + 1, oW) :: (L' + 1, oG) :: (196, o1) :: (l, oV) :: rest0))) ?hSk ?h0k ?stepk ?hRk
            case hSk =>
              intro i m nw pp27
              refine hideG fun GG hGG => ?_
              obtain ⟨dT, oT', oW', v0, vsL, kL, ext, rfl, _⟩ := pp27
              refine hGG ?_
              clear hGG GG
              exact ⟨ob3, by k_mem, hkB⟩
            case h0k =>
              refine ⟨dT, oT, oW3, v3, [], kk', (dT, oT) :: ext7, rfl, rfl, List.mem_cons_self, loT, ⟨[], hsT, fsT⟩, hoW3, All2.nil, fun q h => List.mem_cons_of_mem _ h, ?offk⟩
              case offk =>
                intro q hq
                rcases List.mem_cons.mp hq with rfl | hq
                · exact ⟨Nat.ne_of_lt y1, Nat.ne_of_lt y2, Nat.ne_of_lt y3, Nat.ne_of_lt y4, Nat.ne_of_lt y5, off_sub (off1_of (allLt_ne y6 (Nat.le_refl _))) (by ((try simp only [List.cons_append, List.append_assoc, List.nil_append]); repeat' (first | (with_reducible refine sub_cons ?_ ?_; k_mem) | with_reducible refine sub_app ?_ ?_ | exact sub_nil | (intro q hq; kpc_turns))))⟩
                · exact hfr3 q hq
            case stepk =>
              intro I gg tkk
              unfold TurnX
              intro i v ex o nw h tk dr oI E' hdr hi pp28 pp29 F7 N7 oo1 oo2
              refine hideG fun GG hGG => ?_
              obtain ⟨⟨k9, x9, hk9, his⟩, rfl⟩ := pp28
              obtain ⟨dT', oT', oW', v0, vsL, kL, ext, rfl, hmT, hTe, hTl, hTD, hoW', hRL, hsub, hfr⟩ := pp29
              dsimp only [canonL, List.foldr, List.nil_append] at F7 N7 oo1
              simp only [canonL, List.foldr, List.nil_append, if_true] at hmT
              refine hGG ?_
              clear hGG GG
              rw [hmT] at F7
              obtain ⟨tk9, rfl⟩ := Value.isStrOf_shape his
              refine hideG fun GG hGG => ?_
              obtain ⟨b, db, obb, hb, rfl, rfl, hvb, hmb, hlb, hDb, hnb⟩ := book_at hBk3 hBn3 hk9
              refine hGG ?_
              clear hGG GG
              have hmb' := hsub _ hmb
              k_steps
              unfold Sealed
              refine kda_item (k := low b.1) (by k_asm) (by k_mem) hkv3 (strKind_is _ _ _ _) hvb ?_
              (try kfm_turns)
              k_steps
              unfold Sealed
              have hlT : (totalOf (BB.take i)).length ≤ 4 := nodup4 (total_lin (fun _ => 0) _ (good_take hGB i)).1
              have hlb4 := nodup4 hnb
              k_dflt (refine' c_addc ?k1 ?k2 ?k3 ?k4 ?k5 _ ?k6 ?k7 ?k8 dT' db oT' obb _ b.2 ?ma ?mb ?e1 ?e2 ?D1 ?D2 ?c1 ?c2 ?_; (case k1 => k_asm); (case k2 => k_asm); (case k3 => k_asm); (case k4 => k_asm); (case k5 => first | exact rfl | assumption); (case k6 => k_asm); (case k7 => ktr_room); (case k8 => ktr_units); (case ma => k_mem); (case mb => k_mem); (case e1 => exact hTl); (case e2 => exact hlb); (case D1 => exact hTD); (case D2 => exact hDb); (case c1 => lia); (case c2 => lia); k_whole)
              intro DA oA hA tkA FA NA offA loA hDA
              (try kfm_turns)
              refine hideG fun GG hGG => ?_
              obtain ⟨kvb, hkb, hfb9⟩ := hDb
              refine hGG ?_
              clear hGG GG
              k_steps
              unfold Sealed
              refine kda_item (k := low b.1) (by k_asm) (by k_mem) hkv3 (strKind_is _ _ _ _) hvb ?_
              (try kfm_turns)
              k_steps
              rename_i DV hV FV NV v1 v2 v3 v4 v5 v6 v7 v8
              refine nameL ((DA, oA) :: ext) fun extD hextD => ?_
              have NVn : News g' L' hV ((DV, ({ cls := .type "dict_items", data := .fields #[.ref db] } : Obj)) :: (I, oI) :: (bk, ob3) :: (L' + 1 + 1, oW') :: (L' + 1, oG) :: (196, o1c) :: (l, W.listOf vsL.toArray kL) :: (extD ++ rest0)) := News.sub NV (by rw [hextD]; ((try simp only [List.cons_append, List.append_assoc, List.nil_append]); repeat' (first | (with_reducible refine sub_cons ?_ ?_; k_mem) | with_reducible refine sub_app ?_ ?_ | exact sub_nil | (intro q hq; kpc_turns))))
              refine hideG fun GG hGG => ?_
              obtain ⟨hI1, hI2, hI3, hI4, hI5, hI6⟩ := oo1
              refine hGG ?_
              clear hGG GG
              dsimp only at hI1 hI2 hI3 hI4 hI5
              have hfrD : ∀ q ∈ extD, LCg.Off1 q.1 ((DV, oI) :: (I, oI) :: (bk, ob) :: (L' + 1 + 1, oW) :: (L' + 1, oG) :: (196, o1) :: (l, oV) :: rest0) := by
                rw [hextD]
                intro q hq
                rcases List.mem_cons.mp hq with rfl | hq
                · exact ⟨Nat.ne_of_gt v1, off1_mem offA (I, oI) (by k_mem), off1_mem offA (bk, ob3) (by k_mem), off1_mem offA (L' + 1 + 1, oW') (by k_mem), off1_mem offA (L' + 1, oG) (by k_mem), off1_mem offA (196, o1c) (by k_mem), off1_mem offA (l, W.listOf vsL.toArray kL) (by k_mem), off_sub offA (by ((try simp only [List.cons_append, List.append_assoc, List.nil_append]); repeat' (first | (with_reducible refine sub_cons ?_ ?_; k_mem) | with_reducible refine sub_app ?_ ?_ | exact sub_nil | (intro q hq; kpc_turns))))⟩
                · exact ⟨Ne.symm (allLt_ne v8 (Nat.le_refl _) q (List.mem_append_left _ hq)), Ne.symm (off1_mem hI6 q (List.mem_append_left _ hq)), hfr q hq⟩
              have hDVo : LCg.Off1 DV ((I, oI) :: (bk, ob) :: (L' + 1 + 1, oW) :: (L' + 1, oG) :: (196, o1) :: (l, oV) :: rest0) := ⟨Nat.ne_of_lt v2, Nat.ne_of_lt v3, Nat.ne_of_lt v4, Nat.ne_of_lt v5, Nat.ne_of_lt v6, Nat.ne_of_lt v7, off_sub (off1_of (allLt_ne v8 (Nat.le_refl _))) (by ((try simp only [List.cons_append, List.append_assoc, List.nil_append]); repeat' (first | (with_reducible refine sub_cons ?_ ?_; k_mem) | with_reducible refine sub_app ?_ ?_ | exact sub_nil | (intro q hq; kpc_turns))))⟩
              have hRD : RowsIn extD (rowsB (BB.take i)) vsL := RowsIn.mono (by rw [hextD]; ((try simp only [List.cons_append, List.append_assoc, List.nil_append]); repeat' (first | (with_reducible refine sub_cons ?_ ?_; k_mem) | with_reducible refine sub_app ?_ ?_ | exact sub_nil | (intro q hq; kpc_turns)))) hRL
              have hmbD : (db, obb) ∈ extD := by rw [hextD]; exact List.mem_cons_of_mem _ hmb'
              have hDAD : (DA, oA) ∈ extD := by rw [hextD]; exact List.mem_cons_self
              have hsubD : ∀ q ∈ ext7, q ∈ extD := by rw [hextD]; exact fun q h => List.mem_cons_of_mem _ (hsub q h)
              have hbW : bk ≠ L' + 1 + 1 := Ne.symm (off1_mem hfbk (L' + 1 + 1, oW) (by k_mem))
              clear NV v1 v2 v3 v4 v5 v6 v7 v8 hextD offA
              obtain ⟨epb, hkbA⟩ := KdkAt.of hkb
              unfold Sealed
              refine src_items (knd := PySem.strKind _ w) (kvs := kvb) (ep := epb) (DD := fun _ => True) (hD := trivial) (xs := [Str.ofString "place"]) (hh := rfl) (v := DV) (d := db) (hv := ⟨_, (NVn _ List.mem_cons_self).1, rfl, rfl⟩) (by k_asm) NVn
                (J := fun j m₁ nw => ∃ oW2 v0 vsM kM extJ, nw = (DV, ({ cls := .type "dict_items", data := .fields #[.ref db] } : Obj)) :: (I, oI) :: (bk, ob3) :: (L' + 1 + 1, oW2) :: (L' + 1, oG) :: (196, o1c) :: (l, W.listOf vsM.toArray kM) :: (extJ ++ rest0) ∧ oW2.data = .cell v0 ∧ RowsIn extJ (rowsB (BB.take i) ++ (b.2.take j).map (rowB b.1)) vsM ∧ (∀ q ∈ extD, q ∈ extJ) ∧
                  (∀ q ∈ extJ, LCg.Off1 q.1 ((DV, oI) :: (I, oI) :: (bk, ob) :: (L' + 1 + 1, oW) :: (L' + 1, oG) :: (196, o1) :: (l, oV) :: rest0))) ?hSi ?h0i ?stepi ?hRi
              case hSi =>
                intro i m nw pp30
                refine hideG fun GG hGG => ?_
                obtain ⟨oW2, v0, vsM, kM, extJ, rfl, _, _, hs, _⟩ := pp30
                refine hGG ?_
                clear hGG GG
                exact ⟨obb, List.mem_cons_of_mem _ (List.mem_cons_of_mem _ (List.mem_cons_of_mem _ (List.mem_cons_of_mem _ (List.mem_cons_of_mem _ (List.mem_cons_of_mem _ (List.mem_cons_of_mem _ (List.mem_append_left _ (hs _ hmbD)))))))), hkbA⟩
              case h0i =>
                refine ⟨oW', v0, vsL, kL, extD, rfl, hoW', ?_, fun q h => h, hfrD⟩
                rw [List.take_zero, List.map_nil, List.append_nil]
                exact hRD
              case stepi =>
                intro I2 gg2 tki
                unfold TurnX
                intro j v ex o nw h tk dr oI2 E' hdr hi2 pp31 pp32 F8 N8 oo1 oo2
                refine hideG fun GG hGG => ?_
                obtain ⟨k8, x8, key, T, hk8, his8, rfl, rfl⟩ := pp31
                obtain ⟨oW2, v2, vsM, kM, extJ, rfl, hoW2, hRM, hsubJ, hfrJ⟩ := pp32
                obtain ⟨p9, wv, t9, hc9, rfl, rfl⟩ := flat_at hfb9 hk8
                obtain ⟨t8, rfl⟩ := Value.isStrOf_shape his8
                dsimp only [canonL, List.foldr, List.nil_append, List.singleton_append] at F8 N8 oo1
                obtain ⟨hT1, hT2, hT3, hT4, hT5, hT6, hT7, hT8⟩ := oo2 _ (List.mem_singleton.mpr rfl)
                obtain ⟨hM1, hM2, hM3, hM4, hM5, hM6, hM7, hM8, hM9⟩ := oo1
                dsimp only at hM1 hM2 hM3 hM4 hM5 hM6 hM7 hM8 hT1 hT2 hT3 hT4 hT5 hT6 hT7
                have hW : LCg.Off1 (L' + 1 + 1) ((L' + 1, oG) :: (196, o1c) :: (l, W.listOf vsM.toArray kM) :: (extJ ++ rest0)) := ⟨Nat.ne_of_lt (Nat.lt_succ_self _), Nat.ne_of_lt (by lia), Nat.ne_of_lt (by lia), off1_append (off1_swap hfrJ (o := oW) (by k_mem)) (off1_of (allLt_ne hall0 (by lia)))⟩
                have hDVW : DV ≠ L' + 1 + 1 := Ne.symm hDVo.2.2.1
                have hIW : I ≠ L' + 1 + 1 := Ne.symm hI2
                have hsw : Small wv := hsmB b (List.mem_of_getElem? hb) _ (List.mem_of_getElem? hc9)
                refine hGG ?_
                clear hGG GG
                k_steps
                rename_i oW4 FX4 NX4 dW4
                unfold Sealed
                refine lt_str ?_
                rw [show decide ((low p9).cps.toList < (low b.1).cps.toList) = decide (p9 < b.1) from decide_eq_decide.mpr (low_lt p9 b.1)]
                have hlM : vsM.length ≤ 16 + 16 := by
                  rw [← hRM.length, List.length_append, List.length_map, List.length_take]
                  have h1 := rowsB_len (good_take hGB i).2
                  rw [List.length_take] at h1
                  lia
                have hOl : LCg.Off1 l ((I2, oI2) :: (T, ({ cls := .type "tuple", data := .seq #[.str (low p9) t8, .int wv t9] } : Obj)) :: (DV, ({ cls := .type "dict_items", data := .fields #[.ref db] } : Obj)) :: (I, oI) :: (bk, ob3) :: (L' + 1 + 1, oW4) :: (L' + 1, oG) :: (196, o1c) :: (extJ ++ rest0)) :=
                  ⟨Ne.symm hM8, Ne.symm hT7, Ne.symm hDVo.2.2.2.2.2.1, Ne.symm hI5, Ne.symm (off1_mem hfbk (l, oV) (by k_mem)), Nat.ne_of_gt (by lia), Nat.ne_of_gt (by lia), Ne.symm hl196, off1_append (off1_swap hfrJ (o := oV) (by k_mem)) hoffl⟩
                cases hltd : decide (p9 < b.1) with
                | true =>
                  k_steps
                  unfold Sealed
                  k_dflt (refine' c_text ?k1 ?k2 ?k3 ?k4 ?k5 _ ?k6 ?k7 ?k8 b.1 wv _ _ hsw ?_; (case k1 => k_asm); (case k2 => k_asm); (case k3 => k_asm); (case k4 => k_asm); (case k5 => first | exact rfl | assumption); (case k6 => k_asm); (case k7 => ktr_room); (case k8 => ktr_units); k_whole)
                  intro tX hX tkX FX NX
                  k_steps
                  unfold Sealed
                  k_dflt (refine' c_add ?k1 ?k2 ?k3 ?k4 ?k5 ((l, W.listOf vsM.toArray kM) :: (I2, oI2) :: (T, ({ cls := .type "tuple", data := .seq #[.str (low p9) t8, .int wv t9] } : Obj)) :: (DV, ({ cls := .type "dict_items", data := .fields #[.ref db] } : Obj)) :: (I, oI) :: (bk, ob3) :: (L' + 1 + 1, oW4) :: (L' + 1, oG) :: (196, o1c) :: (extJ ++ rest0)) ?k6 ?k7 ?k8 t d l n1 kM vsM.toArray _ rfl ?kO tk1 _ _ false p9 b.1 wv hsw ?m1 ?m2 ?kL ?kL2 ?_; (case k1 => k_asm); (case k2 => k_asm); (case k3 => k_asm); (case k4 => k_asm); (case k5 => first | exact rfl | assumption); (case k6 => exact News.sub (by k_asm) (by ((try simp only [List.cons_append, List.append_assoc, List.nil_append]); repeat' (first | (with_reducible refine sub_cons ?_ ?_; k_mem) | with_reducible refine sub_app ?_ ?_ | exact sub_nil | (intro q hq; kpc_turns))))); (case k7 => ktr_room); (case k8 => ktr_units); (case kO => exact hOl); (case m1 => k_mem); (case m2 => k_mem); (case kL => rw [List.size_toArray]; lia); (case kL2 => rw [List.size_toArray]; exact Nat.le_trans hlM (by decide +kernel)); k_whole)
                  intro T9 h9 tkA9 ta tb F9 N9 off9
                  rw [show vsM.toArray.push (Value.ref T9) = (vsM ++ [Value.ref T9]).toArray by simp] at N9
                  k_steps
                  refine nameL ((T9, ({ cls := .type "tuple", data := .seq #[.str (nm false p9) ta, .str (txt b.1 wv) tb] } : Obj)) :: extJ) fun extQ hextQ => ?_
                  have hTQ : LCg.Off1 T9 ((DV, oI) :: (I, oI) :: (bk, ob) :: (L' + 1 + 1, oW) :: (L' + 1, oG) :: (196, o1) :: (l, oV) :: rest0) :=
                    ⟨off1_mem off9 (DV, ({ cls := .type "dict_items", data := .fields #[.ref db] } : Obj)) (by k_mem), off1_mem off9 (I, oI) (by k_mem), off1_mem off9 (bk, ob3) (by k_mem), off1_mem off9 (L' + 1 + 1, oW4) (by k_mem), off1_mem off9 (L' + 1, oG) (by k_mem), off1_mem off9 (196, o1c) (by k_mem), off1_mem off9 (l, W.listOf vsM.toArray kM) (by k_mem), off_sub off9 (by ((try simp only [List.cons_append, List.append_assoc, List.nil_append]); repeat' (first | (with_reducible refine sub_cons ?_ ?_; k_mem) | with_reducible refine sub_app ?_ ?_ | exact sub_nil | (intro q hq; kpc_turns))))⟩
                  have NN : News g' L' h9 ((I2, oI2) :: (DV, ({ cls := .type "dict_items", data := .fields #[.ref db] } : Obj)) :: (I, oI) :: (bk, ob3) :: (L' + 1 + 1, oW4) :: (L' + 1, oG) :: (196, o1c) :: (l, W.listOf (vsM ++ [Value.ref T9]).toArray (kM + 1)) :: (extQ ++ rest0)) := News.sub N9 (by rw [hextQ]; ((try simp only [List.cons_append, List.append_assoc, List.nil_append]); repeat' (first | (with_reducible refine sub_cons ?_ ?_; k_mem) | with_reducible refine sub_app ?_ ?_ | exact sub_nil | (intro q hq; kpc_turns))))
                  refine' ⟨_, _, _, _, _, rfl, trivial, ?f9false, NN, ?o9false, ⟨?g9false, oW4, _, vsM ++ [Value.ref T9], kM + 1, extQ, rfl, dW4, ?r9false, ?s9false, ?q9false⟩⟩
                  case f9false => k_asm
                  case g9false => exact (by (intro y hy; first | ((repeat (first | refine agree_l hy (by k_mem) ?_ | refine agree_r hy (by k_mem) ?_)); exact rfl) | (simp only [List.mem_cons, List.not_mem_nil, or_false, not_or] at hy; simp only [hy, if_false])))
                  case o9false =>
                    rw [hextQ]
                    exact ⟨hM2, hM3, hM4, hM5, hM6, hM7, hM8, Ne.symm (off1_mem off9 (I2, oI2) (by k_mem)), hM9⟩
                  case r9false =>
                    rw [List.take_add_one, hc9, Option.toList_some, List.map_append, ← List.append_assoc]
                    refine All2.snoc (RowsIn.mono (by rw [hextQ]; ((try simp only [List.cons_append, List.append_assoc, List.nil_append]); repeat' (first | (with_reducible refine sub_cons ?_ ?_; k_mem) | with_reducible refine sub_app ?_ ?_ | exact sub_nil | (intro q hq; kpc_turns)))) hRM) ⟨T9, ta, tb, 0, rfl, ?_, hsw⟩
                    unfold rowB
                    dsimp only
                    rw [hltd, hextQ]
                    exact List.mem_cons_self
                  case s9false => exact fun q hq => by rw [hextQ]; exact List.mem_cons_of_mem _ (hsubJ q hq)
                  case q9false =>
                    rw [hextQ]
                    intro q hq
                    rcases List.mem_cons.mp hq with rfl | hq
                    · exact hTQ
                    · exact hfrJ q hq
                | false =>
                  k_steps
                  unfold Sealed
                  k_dflt (refine' c_text ?k1 ?k2 ?k3 ?k4 ?k5 _ ?k6 ?k7 ?k8 b.1 wv _ _ hsw ?_; (case k1 => k_asm); (case k2 => k_asm); (case k3 => k_asm); (case k4 => k_asm); (case k5 => first | exact rfl | assumption); (case k6 => k_asm); (case k7 => ktr_room); (case k8 => ktr_units); k_whole)
                  intro tX hX tkX FX NX
                  k_steps
                  unfold Sealed
                  k_dflt (refine' c_add ?k1 ?k2 ?k3 ?k4 ?k5 ((l, W.listOf vsM.toArray kM) :: (I2, oI2) :: (T, ({ cls := .type "tuple", data := .seq #[.str (low p9) t8, .int wv t9] } : Obj)) :: (DV, ({ cls := .type "dict_items", data := .fields #[.ref db] } : Obj)) :: (I, oI) :: (bk, ob3) :: (L' + 1 + 1, oW4) :: (L' + 1, oG) :: (196, o1c) :: (extJ ++ rest0)) ?k6 ?k7 ?k8 t d l n1 kM vsM.toArray _ rfl ?kO tk1 _ _ true p9 b.1 wv hsw ?m1 ?m2 ?kL ?kL2 ?_; (case k1 => k_asm); (case k2 => k_asm); (case k3 => k_asm); (case k4 => k_asm); (case k5 => first | exact rfl | assumption); (case k6 => exact News.sub (by k_asm) (by ((try simp only [List.cons_append, List.append_assoc, List.nil_append]); repeat' (first | (with_reducible refine sub_cons ?_ ?_; k_mem) | with_reducible refine sub_app ?_ ?_ | exact sub_nil | (intro q hq; kpc_turns))))); (case k7 => ktr_room); (case k8 => ktr_units); (case kO => exact hOl); (case m1 => k_mem); (case m2 => k_mem); (case kL => rw [List.size_toArray]; lia); (case kL2 => rw [List.size_toArray]; exact Nat.le_trans hlM (by decide +kernel)); k_whole)
                  intro T9 h9 tkA9 ta tb F9 N9 off9
                  rw [show vsM.toArray.push (Value.ref T9) = (vsM ++ [Value.ref T9]).toArray by simp] at N9
                  k_steps
                  refine nameL ((T9, ({ cls := .type "tuple", data := .seq #[.str (nm true p9) ta, .str (txt b.1 wv) tb] } : Obj)) :: extJ) fun extQ hextQ => ?_
                  have hTQ : LCg.Off1 T9 ((DV, oI) :: (I, oI) :: (bk, ob) :: (L' + 1 + 1, oW) :: (L' + 1, oG) :: (196, o1) :: (l, oV) :: rest0) :=
                    ⟨off1_mem off9 (DV, ({ cls := .type "dict_items", data := .fields #[.ref db] } : Obj)) (by k_mem), off1_mem off9 (I, oI) (by k_mem), off1_mem off9 (bk, ob3) (by k_mem), off1_mem off9 (L' + 1 + 1, oW4) (by k_mem), off1_mem off9 (L' + 1, oG) (by k_mem), off1_mem off9 (196, o1c) (by k_mem), off1_mem off9 (l, W.listOf vsM.toArray kM) (by k_mem), off_sub off9 (by ((try simp only [List.cons_append, List.append_assoc, List.nil_append]); repeat' (first | (with_reducible refine sub_cons ?_ ?_; k_mem) | with_reducible refine sub_app ?_ ?_ | exact sub_nil | (intro q hq; kpc_turns))))⟩
                  have NN : News g' L' h9 ((I2, oI2) :: (DV, ({ cls := .type "dict_items", data := .fields #[.ref db] } : Obj)) :: (I, oI) :: (bk, ob3) :: (L' + 1 + 1, oW4) :: (L' + 1, oG) :: (196, o1c) :: (l, W.listOf (vsM ++ [Value.ref T9]).toArray (kM + 1)) :: (extQ ++ rest0)) := News.sub N9 (by rw [hextQ]; ((try simp only [List.cons_append, List.append_assoc, List.nil_append]); repeat' (first | (with_reducible refine sub_cons ?_ ?_; k_mem) | with_reducible refine sub_app ?_ ?_ | exact sub_nil | (intro q hq; kpc_turns))))
                  refine' ⟨_, _, _, _, _, rfl, trivial, ?f9true, NN, ?o9true, ⟨?g9true, oW4, _, vsM ++ [Value.ref T9], kM + 1, extQ, rfl, dW4, ?r9true, ?s9true, ?q9true⟩⟩
                  case f9true => k_asm
                  case g9true => exact (by (intro y hy; first | ((repeat (first | refine agree_l hy (by k_mem) ?_ | refine agree_r hy (by k_mem) ?_)); exact rfl) | (simp only [List.mem_cons, List.not_mem_nil, or_false, not_or] at hy; simp only [hy, if_false])))
                  case o9true =>
                    rw [hextQ]
                    exact ⟨hM2, hM3, hM4, hM5, hM6, hM7, hM8, Ne.symm (off1_mem off9 (I2, oI2) (by k_mem)), hM9⟩
                  case r9true =>
                    rw [List.take_add_one, hc9, Option.toList_some, List.map_append, ← List.append_assoc]
                    refine All2.snoc (RowsIn.mono (by rw [hextQ]; ((try simp only [List.cons_append, List.append_assoc, List.nil_append]); repeat' (first | (with_reducible refine sub_cons ?_ ?_; k_mem) | with_reducible refine sub_app ?_ ?_ | exact sub_nil | (intro q hq; kpc_turns)))) hRM) ⟨T9, ta, tb, 0, rfl, ?_, hsw⟩
                    unfold rowB
                    dsimp only
                    rw [hltd, hextQ]
                    exact List.mem_cons_self
                  case s9true => exact fun q hq => by rw [hextQ]; exact List.mem_cons_of_mem _ (hsubJ q hq)
                  case q9true =>
                    rw [hextQ]
                    intro q hq
                    rcases List.mem_cons.mp hq with rfl | hq
                    · exact hTQ
                    · exact hfrJ q hq
              case hRi =>
                intro h6 tk6 dr6 o6 news6 hdr6 F8 N8 pp33
                refine hideG fun GG hGG => ?_
                obtain ⟨oW2, v2, vsM, kM, extJ, rfl, hoW2, hRM, hsubJ, hfrJ⟩ := pp33
                dsimp only [canonL, List.foldr, List.nil_append] at F8 N8
                refine hGG ?_
                clear hGG GG
                k_steps
                have hkl : kvb.length = b.2.length := flat_len hfb9
                rw [hkl, List.take_length] at hRM
                have NN : News g' L' h6 ((I, oI) :: (bk, ob3) :: (L' + 1 + 1, oW2) :: (L' + 1, oG) :: (196, o1c) :: (l, W.listOf vsM.toArray kM) :: (extJ ++ rest0)) := News.sub N8 (by ((try simp only [List.cons_append, List.append_assoc, List.nil_append]); repeat' (first | (with_reducible refine sub_cons ?_ ?_; k_mem) | with_reducible refine sub_app ?_ ?_ | exact sub_nil | (intro q hq; kpc_turns))))
                refine' ⟨_, _, _, _, _, rfl, trivial, ?f9, NN, ?o9, ⟨?g9, DA, oA, oW2, _, vsM, kM, extJ, rfl, ?mT, hsubJ _ hDAD, loA, ?dk, hoW2, ?r9, ?s9, ?q9⟩⟩
                case f9 => k_asm
                case g9 => exact (by (intro y hy; first | ((repeat (first | refine agree_l hy (by k_mem) ?_ | refine agree_r hy (by k_mem) ?_)); exact rfl) | (simp only [List.mem_cons, List.not_mem_nil, or_false, not_or] at hy; simp only [hy, if_false])))
                case o9 => exact ⟨hI1, hI2, hI3, hI4, hI5, off1_append (off1_swap hfrJ (o := oI) (by k_mem)) (off_sub hI6 (by ((try simp only [List.cons_append, List.append_assoc, List.nil_append]); repeat' (first | (with_reducible refine sub_cons ?_ ?_; k_mem) | with_reducible refine sub_app ?_ ?_ | exact sub_nil | (intro q hq; kpc_turns)))))⟩
                case mT => rfl
                case dk => rw [total_snoc hb]; exact hDA
                case r9 => rw [rowsB_snoc hb]; exact hRM
                case s9 => exact fun q hq => hsubJ _ (hsubD _ hq)
                case q9 => exact fun q hq => (hfrJ q hq).2.2
            case hRk =>
              intro h5 tk5 dr5 o5 news5 hdr5 F7 N7 pp34
              refine hideG fun GG hGG => ?_
              obtain ⟨dT', oT', oW', v0, vsL, kL, ext, rfl, hmT, hTe, hTl, hTD, hoW', hRL, hsub, hfr⟩ := pp34
              dsimp only [canonL, List.foldr, List.nil_append] at F7 N7
              simp only [canonL, List.foldr, List.nil_append, if_true] at hmT
              refine hGG ?_
              clear hGG GG
              rw [hmT] at F7
              k_steps
              rename_i DR hR9 FR NR r1 r2 r3 r4 r5 r6 kF9 kN9 kT9 kX9
              have hlk : kvs3.length = BB.length := hBk3.length.symm
              rw [hlk, List.take_length] at hTD hRL
              rw [hBB] at hTD hRL
              refine hret DR dT' oT' tS _ _ _ _ o1c vsL kL ((DR, ({ cls := .type "tuple", data := .seq #[.int ((onOf rows g).map (·.2)).sum tS, .ref dT'] } : Obj)) :: ext) (by k_asm) (News.sub kN9 (by ((try simp only [List.cons_append, List.append_assoc, List.nil_append]); repeat' (first | (with_reducible refine sub_cons ?_ ?_; k_mem) | with_reducible refine sub_app ?_ ?_ | exact sub_nil | (intro q hq; kpc_turns))))) List.mem_cons_self (List.mem_cons_of_mem _ hTe) hTl hTD (RowsIn.mono (by ((try simp only [List.cons_append, List.append_assoc, List.nil_append]); repeat' (first | (with_reducible refine sub_cons ?_ ?_; k_mem) | with_reducible refine sub_app ?_ ?_ | exact sub_nil | (intro q hq; kpc_turns)))) hRL) ?hl16 (TabOk.mono (show ∀ q ∈ ext7 ++ tt, _ from fun q hq => by rcases List.mem_append.mp hq with h | h; exact List.mem_cons_of_mem _ (List.mem_append_left _ (hsub _ h)); exact List.mem_cons_of_mem _ (List.mem_append_right _ h)) T1f) ?hoff
              case hl16 =>
                rw [← hRL.length, ← hBB]
                have := rowsB_len hGB.2
                lia
              case hoff =>
                intro q hq
                rcases List.mem_cons.mp hq with rfl | hq
                · exact ⟨Nat.ne_of_lt r4, Nat.ne_of_lt r5, off_sub (off1_of (allLt_ne r6 (Nat.le_refl _))) (by ((try simp only [List.cons_append, List.append_assoc, List.nil_append]); repeat' (first | (with_reducible refine sub_cons ?_ ?_; k_mem) | with_reducible refine sub_app ?_ ?_ | exact sub_nil | (intro q hq; kpc_turns))))⟩
                · exact (hfr q hq).2.2.2
end

section
set_option maxRecDepth 100000 in
set_option maxHeartbeats 8000000 in
theorem c_idmz : ∀ {w : World} {mean : ExcName → Option Value} {mg mb : Str → Option Value} {p : Program} {loose : List Str} {dp un : Nat} {gd : Option (List Code)} {cn : Str} {cs : Scope} {a : Addr} {ccd : Value} {cl : List (Str × Addr)} {outer : List Env} {A₀ : Around} {base h₀ : Heap} {L : Addr} {m : Str → Option Value} {s : Shared} {Q E : Value → Shared → Prop} (B : Below A₀ base outer h₀) (F : Fr h₀ L s.heap m) (X : (K w.params).In h₀) (T : Top p loose mean mg mb h₀) (hk : cs.kind = .function)
  (news : List (Addr × Obj)) (N : News h₀ L s.heap news) (hd : dp + 20 < recursionLimit) (hu : un + 160 < cLine) (x : Int) (t1 t2 : Tok)
  (hret : ∀ G e h' tk', Fr h₀ L G m → RaisedSN base G (envX cn cs L a ccd cl :: outer) e (.type "ZeroDivisionError") news h' → G.UpToSlots h' → E (.ref e) { s with heap := h', toks := tk' }),
  wpAny (model PySem.Challenge.rw_pm0082_01.row.toRowW.prog w) (ktrTop dp un gd cn cs L a ccd cl outer) (call (.ref 250) [.int x t1, .int 0 t2]) Q E s := by
  w_top off
  have in_c24 := Tag.mk
  k_with "exec Raise some none" => (guard_hyp in_c24; (k_here; refine openSeal ?_))
  k_fill
  intro w mean mg mb p loose dp un gd cn cs a ccd cl outer A₀ base h₀ L m s Q E B F X T hk news N hd hu x t1 t2 hret
  refine wpAny_call ?_
  k_dflt (refine' code_def ?k1 ?k2 ?k3 ?k4 ?k5 ?kA ?kF ?kK ?k6 ?k7 ?k8 ?k9 ?kB ?_ ?c2 ?c3 ?c4 ?c5; (case kA => exact rfl); (case kF => exact rfl); (case kK => assumption); (case k1 => k_asm); (case k2 => k_asm); (case k3 => k_asm); (case k4 => k_asm); (case k5 => k_asm); (case k6 => k_is); (case k7 => k_is); (case k8 => ktr_room); (case k9 => first | exact BindsTo.of_eq rfl | exact binds_K (by k_in) rfl (by k_is) rfl rfl rfl); (case c5 => decide); (case kB => exact locs rfl); (case c2 => exact rfl); (case c3 => exact rfl); (case c4 => exact rfl); k_whole; intro g' L' h' FG' F' N' B' X' T'; (refine letF F' ?_); (clear F'); (intro mF F'); (try kfm_turns); (try k_lift B'); (try k_fold); (refine letA ?_); (intro A9))
  k_steps
  unfold Sealed
  refine Raise_classB rfl excClass_ZeroDivisionError (by rw [isSubtype_type]; kernel_rfl) ?hx ?_
  case hx =>
    k_dflt (refine' name_B (by k_asm) ?kX9 ?kT9 ?kE9 ?kV9 ?kN9 ⟨rfl, rfl⟩; (case kX9 => k_asm); (case kT9 => k_asm); (case kE9 => k_is); (case kV9 => boot_fast); (case kN9 => decide))
  intro h9 e9 hx9
  (try kfm_turns)
  show wpAny _ _ _ _ _ _
  refine leave_newS B' hx9 F' N' fun h3 R9 _ up => ?_
  exact hret _ _ _ _ FG' R9 up
end

section
theorem four_get {p0 p1 pl kl : Fin 4} {i j : Nat} (hi : i < 2) (hj : j < 2) (h1 : ([p0, p1] : List (Fin 4))[i]? = some pl) (h2 : ([p0, p1] : List (Fin 4))[j]? = some kl) : (four p0 p1)[2 * i + j]? = some (pl, kl) := by
  have hi' : i = 0 ∨ i = 1 := by lia
  have hj' : j = 0 ∨ j = 1 := by lia
  rcases hi' with rfl | rfl <;> rcases hj' with rfl | rfl <;> (simp only [List.getElem?_cons_zero, List.getElem?_cons_succ, Option.some.injEq] at h1 h2; subst h1; subst h2; rfl)
theorem A_sum (rows : List Row) (p x : Fin 4) : A rows p x = (((callsOf rows p).filter fun q => decide (q.1 = x)).map (·.2)).sum := by
  show lin (callsOf rows p) (dl x) = _
  generalize callsOf rows p = c
  induction c with
  | nil => rfl
  | cons q c ih =>
    rw [lin_cons, ih, List.filter_cons]
    unfold dl
    by_cases h : q.1 = x
    · simp [h]
    · simp [h]
set_option maxRecDepth 100000 in
set_option maxHeartbeats 8000000 in
theorem c_divided : ∀ {w : World} {mean : ExcName → Option Value} {mg mb : Str → Option Value} {p : Program} {loose : List Str} {dp un : Nat} {gd : Option (List Code)} {cn : Str} {cs : Scope} {a : Addr} {ccd : Value} {cl : List (Str × Addr)} {outer : List Env} {A₀ : Around} {base h₀ : Heap} {L : Addr} {m : Str → Option Value} {s : Shared} {Q E : Value → Shared → Prop} (B : Below A₀ base outer h₀) (F : Fr h₀ L s.heap m) (X : (K w.params).In h₀) (T : Top p loose mean mg mb h₀) (hk : cs.kind = .function) (C1 : CodeHd base 200 196) (C2 : CodeHd base 228 224) (C3 : CodeHd base 235 231) (hout : outer = []) (hbh : base = h₀)
  (news : List (Addr × Obj)) (N : News h₀ L s.heap news) (hd : dp + 260 < recursionLimit) (hu : un + 6600 < cLine)
  (o1 o2 o3 : Obj) (rest0 : List (Addr × Obj)) (e0 : news = (196, o1) :: (224, o2) :: (231, o3) :: rest0) (hoff1 : LCg.Off1 196 rest0) (hoff2 : LCg.Off1 224 rest0) (hoff3 : LCg.Off1 231 rest0)
  (tt : List (Addr × Obj)) (hts : ∀ p ∈ tt, p ∈ rest0) (T1 : TabOk 145 4 "_str_to_int_inner.<locals>.inner" o1 tt) (T2 : TabOk 185 4 "_int2digits.<locals>.inner" o2 tt) (T3 : TabOk 200 4 "_digits2int.<locals>.inner" o3 tt)
  (t d l : Addr) (n1 n2 : Nat) (vs : List Value) (rows : List Row) (tk1 : Tok)
  (hTt : (t, instObj 182 d) ∈ rest0) (hTd : (d, dictOf [⟨PyData.keyHash w.params "_headers", .str "_headers" tk1, .ref l⟩] n1) ∈ rest0)
  (hTl : (l, W.listOf vs.toArray n2) ∈ rest0) (hR : RowsIn rest0 rows vs) (hlen : vs.length ≤ 16)
  (ln kn : Nat) (p0 p1 : Fin 4) (q0 q1 : Tok) (hln : (ln, W.listOf #[.int (p0.val : Int) q0, .int (p1.val : Int) q1] kn) ∈ rest0)
  (ov : Int) (to : Tok) (hov : -1000000 < ov ∧ ov < 1000000) (hsm : ∀ p q, Small (A rows p q))
  (hret : ∀ D h' tk' dr' o1' o2' o3' ext ys k, Fr h₀ L h' m → News h₀ L h' ((D, W.listOf ys k) :: (196, o1') :: (224, o2') :: (231, o3') :: (ext ++ rest0)) →
     All2 (fun (pq : Fin 4 × Fin 4) v => AnsV ext ov (A rows pq.1 pq.2) v) (four p0 p1) ys.toList → (∀ q ∈ ext, LCg.Off1 q.1 ((196, o1) :: (224, o2) :: (231, o3) :: rest0)) →
     TabOk 145 4 "_str_to_int_inner.<locals>.inner" o1' (ext ++ tt) → TabOk 185 4 "_int2digits.<locals>.inner" o2' (ext ++ tt) → TabOk 200 4 "_digits2int.<locals>.inner" o3' (ext ++ tt) → Q (.ref D) { s with heap := h', toks := tk', drawn := dr' }),
  wpAny (model PySem.Challenge.rw_pm0082_01.row.toRowW.prog w) (ktrTop dp un gd cn cs L a ccd cl outer) (call (.ref 300) [.ref t, .ref ln, .int ov to]) Q E s := by
  w_top off
  have in_c21 := Tag.mk
  k_with "call ref" => (guard_hyp in_c21; (k_here; refine openSeal ?_))
  k_with "callWith ref" => (guard_hyp in_c21; (k_here; k_dflt (refine' callWith_K ?z23k1 ?z23k2 ?_; (case z23k1 => k_asm); (case z23k2 => k_is); k_whole)))
  k_with "CompEnd" => (guard_hyp in_c21; (k_here; refine openSeal ?_))
  k_with "SrcPT" => (guard_hyp in_c21; (k_here; refine openSeal ?_))
  k_with "LoopSrc" => (guard_hyp in_c21; (k_here; refine openSeal ?_))
  k_with "call builtin:sum cons nil" => (guard_hyp in_c21; (k_here; refine openSeal ?_))
  k_with "exec Try cons cons nil nil" => (guard_hyp in_c21; (k_here; (with_reducible show wpAny _ _ (exec (Stmt.Try _ (_ :: _) _ [] _) _) _ _ _); refine wpAny_Try_except ?_))
  k_with "exec Try" => (guard_hyp in_c21; (k_here; (with_reducible show wpAny _ _ (exec (Stmt.Try _ (_ :: _) _ [] _) _) _ _ _); refine wpAny_Try_except ?_))
  k_with "eval ListComp" => (guard_hyp in_c21; (k_here; (with_reducible show wpAny _ _ (eval (PySem.Expr.ListComp _ [⟨PySem.Expr.Tuple _ _ _, _, [_], _⟩] _ _) _) _ _ _); k_dflt (refine ListComp_PT (F₀ := by k_asm) (by with_unfolding_all rfl) (by decide) (by rfl) (by decide) (by rfl) (by rfl) (by decide) ?_ (by intro _; rfl))))
  k_with "call builtin:list.append cons nil" => (guard_hyp in_c21; (k_here; refine openSeal ?_))
  k_with "call builtin:list.append" => (guard_hyp in_c21; (k_here; refine openSeal ?_))
  k_fill
  intro w mean mg mb p loose dp un gd cn cs a ccd cl outer A₀ base h₀ L m s Q E B F X T hk C1 C2 C3 hout hbh news N hd hu o1 o2 o3 rest0 e0 hoff1 hoff2 hoff3 tt hts T1 T2 T3 t d l n1 n2 vs rows tk1 hTt hTd hTl hR hlen ln kn p0 p1 q0 q1 hln ov to hov hsm hret
  subst e0
  subst hout
  subst hbh
  refine wpAny_call ?_
  k_dflt (refine' code_defS0C ?k1 ?k2 ?k3 ?k4 ?k5 ?kA ?kF ?kK ?k6 ?k7 ?k8 ?k9 ?kB ?kD ?_ ?c2 ?c3 ?c4; (case kA => exact rfl); (case kF => exact rfl); (case kK => assumption); (case k1 => k_asm); (case k2 => k_asm); (case k3 => k_asm); (case k4 => k_asm); (case k5 => k_asm); (case k6 => k_is); (case k7 => k_is); (case k8 => ktr_room); (case k9 => first | exact BindsTo.of_eq rfl | exact binds_K (by k_in) rfl (by k_is) rfl rfl rfl); (case kB => exact rfl); (case kD => decide +kernel); (case c2 => exact rfl); (case c3 => exact rfl); (case c4 => exact rfl); k_whole; intro g' L' h' tk' cells' F' N' Y' B' X' T' st' D' l1; (have hAL := allLt_of l1); (try k_lt l1); (repeat (replace hAL := And.right hAL)); k_cells Y'; (try simp only [List.cons_append, List.nil_append] at N'); (try kfm_turns); (try k_lift B'); (try k_fold))
  k_steps
  have hall0 : AllLt L' rest0 := by with_reducible assumption
  rename_i b1 b2 b3 oC0 dC0 DA hA0 c1 c2 c3 c4 c5 hA1 FA NA
  unfold Sealed
  have hfA : LCg.Off1 DA ((L' + 1, oC0) :: (196, o1) :: (224, o2) :: (231, o3) :: rest0) := ⟨Nat.ne_of_lt c1, Nat.ne_of_lt c2, Nat.ne_of_lt c3, Nat.ne_of_lt c4, off1_of (allLt_ne c5 (Nat.le_refl _))⟩
  have hG0 : KtsTurn [L] g' g' ∧ Below (ktrTop dp un gd cn cs L a ccd cl []) base [envX cn cs L a ccd cl] g' ∧ (K w.params).In g' ∧ Top p loose mean mg mb g' ∧ KtsDicts [L] g' := ⟨KtsTurn.refl, B', X', T', D'⟩
  refine srcG_list (its := #[.int (p0.val : Int) q0, .int (p1.val : Int) q1]) (hh := rfl) (fun _ _ => rfl)
    (fun g => KtsTurn [L] g' g ∧ Below (ktrTop dp un gd cn cs L a ccd cl []) base [envX cn cs L a ccd cl] g ∧ (K w.params).In g ∧ Top p loose mean mg mb g ∧ KtsDicts [L] g)
    (fun g hg => hg.1.none_) hG0 FA NA (fun _ => True) trivial [Str.ofString "place", Str.ofString "calls"]
    (fun i m₁ nw => Ex8 fun oC v0 o1' o2' o3' ext vsA kA => Co7 (nw = (DA, W.listOf vsA.toArray kA) :: (L' + 1, oC) :: (196, o1') :: (224, o2') :: (231, o3') :: (ext ++ rest0)) (oC.data = .cell v0) (All2 (fun (pq : Fin 4 × Fin 4) v => AnsV ext ov (A rows pq.1 pq.2) v) ((four p0 p1).take (2 * i)) vsA) ((∀ q ∈ ext, LCg.Off1 q.1 ((DA, W.listOf #[] 0) :: (L' + 1, oC0) :: (196, o1) :: (224, o2) :: (231, o3) :: rest0))) (TabOk 145 4 "_str_to_int_inner.<locals>.inner" o1' (ext ++ tt)) (TabOk 185 4 "_int2digits.<locals>.inner" o2' (ext ++ tt)) (TabOk 200 4 "_digits2int.<locals>.inner" o3' (ext ++ tt))) ?hJS ?h0 ?step ?hR
  case hJS =>
    intro i m nw pp1
    refine hideG fun GG hGG => ?_
    obtain ⟨oC, v0, o1', o2', o3', ext, vsA, kA, rfl, _⟩ := pp1
    refine hGG ?_
    clear hGG GG
    exact ⟨_, by k_mem⟩
  case h0 =>
    exact ⟨oC0, _, o1, o2, o3, [], [], 0, rfl, dC0, All2.nil, fun q h => absurd h List.not_mem_nil, T1, T2, T3⟩
  case step =>
    unfold TurnG
    intro I gg tk2 i v gr o nw h tk dr oI E' pp2 hdr hi hv pp3 F7 N7 oo1
    refine hideG fun GG hGG => ?_
    obtain ⟨g1, g2, g3, g4, g5⟩ := pp2
    obtain ⟨oC, v0, o1', o2', o3', ext, vsA, kA, rfl, hoC, hys, hfr, hT1, hT2, hT3⟩ := pp3
    dsimp only [canonL, List.foldr] at F7
    obtain ⟨pl, tp, rfl, hpl⟩ : ∃ pl : Fin 4, ∃ t, v = .int (pl.val : Int) t ∧ ([p0, p1] : List (Fin 4))[i]? = some pl := by
      have h3 : i = 0 ∨ i = 1 := by have : i < 2 := hi; lia
      rcases h3 with rfl | rfl
      · exact ⟨p0, _, (Option.some.inj hv).symm, rfl⟩
      · exact ⟨p1, _, (Option.some.inj hv).symm, rfl⟩
    have hpll := pl.isLt
    clear FA NA B' X' T'
    refine hGG ?_
    clear hGG GG
    k_steps
    rename_i hA2 FA2 NA2 kxiE
    clear kxiE
    refine hideG fun GG hGG => ?_
    obtain ⟨i1, i2, i3, i4, i5, i6⟩ := oo1
    dsimp only at i1 i2 i3 i4 i5
    obtain ⟨d1, d2, d3, d4, d5⟩ := hfA
    refine hGG ?_
    clear hGG GG
    dsimp only at d1 d2 d3 d4
    have fx1 : LCg.Off1 196 (ext ++ rest0) := off1_append (off1_swap hfr (o := o1) (by k_mem)) hoff1
    have fx2 : LCg.Off1 224 (ext ++ rest0) := off1_append (off1_swap hfr (o := o2) (by k_mem)) hoff2
    have fx3 : LCg.Off1 231 (ext ++ rest0) := off1_append (off1_swap hfr (o := o3) (by k_mem)) hoff3
    have fxD : LCg.Off1 DA (ext ++ rest0) := off1_append (off1_swap hfr (o := W.listOf #[] 0) (by k_mem)) d5
    unfold Sealed
    rw [item4u, show upp pl = nm true pl from rfl]
    k_dflt (refine' c_calls ?k1 ?k2 ?k3 ?k4 ?k5 ?kC1 ((196, o1') :: (I, oI) :: (DA, W.listOf vsA.toArray kA) :: (L' + 1, oC) :: (224, o2') :: (231, o3') :: (ext ++ rest0)) ?k6 ?k7 ?k8 _ _ rfl ?kO (ext ++ tt) ?kTs hT1 t d l n1 n2 vs rows tk1 _ true pl ?m1 ?m2 ?m3 ?kR ?kL ?_; (case k1 => k_asm); (case k2 => k_asm); (case k3 => k_asm); (case k4 => k_asm); (case k5 => first | exact rfl | assumption); (case kC1 => exact C1); (case k6 => exact News.sub (by k_asm) (by ((try simp only [List.cons_append, List.append_assoc, List.nil_append]); repeat' (first | (with_reducible refine sub_cons ?_ ?_; k_mem) | with_reducible refine sub_app ?_ ?_ | exact sub_nil | (intro q hq; kpc_turns))))); (case k7 => ktr_room); (case k8 => ktr_units); (case kO => exact ⟨Ne.symm i3, Ne.symm d2, Nat.ne_of_gt (by lia), by show @Ne Nat 224 196; decide, by show @Ne Nat 231 196; decide, fx1⟩); (case kTs => exact fun p hp => by rcases List.mem_append.mp hp with h | h <;> simp [h, hts p]); (case m1 => k_mem); (case m2 => k_mem); (case m3 => k_mem); (case kR => exact RowsIn.mono (by ((try simp only [List.cons_append, List.append_assoc, List.nil_append]); repeat' (first | (with_reducible refine sub_cons ?_ ?_; k_mem) | with_reducible refine sub_app ?_ ?_ | exact sub_nil | (intro q hq; kpc_turns)))) hR); (case kL => lia); k_whole)
    intro D5 h5 tk5 dr5 o1'' ext5 ys5 k5 F9 N9 hC5 oE5 oD5 T1d
    dsimp only
    refine nameL (ext5 ++ ext) fun extI hextI => ?_
    have N9b : News gr L' h5 ((D5, W.listOf ys5 k5) :: (I, oI) :: (DA, W.listOf vsA.toArray kA) :: (L' + 1, oC) :: (196, o1'') :: (224, o2') :: (231, o3') :: (extI ++ rest0)) := News.sub N9 (by rw [hextI]; ((try simp only [List.cons_append, List.append_assoc, List.nil_append]); repeat' (first | (with_reducible refine sub_cons ?_ ?_; k_mem) | with_reducible refine sub_app ?_ ?_ | exact sub_nil | (intro q hq; kpc_turns))))
    have hfrI : ∀ q ∈ extI, LCg.Off1 q.1 ((DA, W.listOf #[] 0) :: (L' + 1, oC0) :: (196, o1) :: (224, o2) :: (231, o3) :: rest0) := by
      rw [hextI]
      intro q hq
      rcases List.mem_append.mp hq with hq | hq
      · have z := oE5 q hq
        exact ⟨off1_mem z (DA, W.listOf vsA.toArray kA) (by k_mem), off1_mem z (L' + 1, oC) (by k_mem), off1_mem z (196, o1') (by k_mem), off1_mem z (224, o2') (by k_mem), off1_mem z (231, o3') (by k_mem), off1_sub z (by ((try simp only [List.cons_append, List.append_assoc, List.nil_append]); repeat' (first | (with_reducible refine sub_cons ?_ ?_; k_mem) | with_reducible refine sub_app ?_ ?_ | exact sub_nil | (intro q hq; kpc_turns))))⟩
      · exact hfr q hq
    have hIE : ∀ q ∈ extI, q.1 ≠ I := by
      rw [hextI]
      intro q hq
      rcases List.mem_append.mp hq with hq | hq
      · exact Ne.symm (off1_mem (oE5 q hq) (I, oI) (by k_mem))
      · exact off1_mem i6 q (List.mem_append_left _ hq)
    have hD5 : LCg.Off1 D5 ((I, oI) :: (DA, W.listOf vsA.toArray kA) :: (L' + 1, oC) :: (196, o1'') :: (224, o2') :: (231, o3') :: (extI ++ rest0)) := by
      have z : ∀ (a : Addr) (o : Obj), (a, o) ∈ (196, o1') :: (ext5 ++ (I, oI) :: (DA, W.listOf vsA.toArray kA) :: (L' + 1, oC) :: (224, o2') :: (231, o3') :: (ext ++ rest0)) → a ≠ D5 := fun a o h => off1_mem oD5 (a, o) h
      refine ⟨z I oI (by k_mem), z DA _ (by k_mem), z (L' + 1) oC (by k_mem), z 196 o1' (by k_mem), z 224 o2' (by k_mem), z 231 o3' (by k_mem), ?_⟩
      rw [hextI]
      exact off1_sub oD5 (by ((try simp only [List.cons_append, List.append_assoc, List.nil_append]); repeat' (first | (with_reducible refine sub_cons ?_ ?_; k_mem) | with_reducible refine sub_app ?_ ?_ | exact sub_nil | (intro q hq; kpc_turns))))
    have hysI : All2 (fun (pq : Fin 4 × Fin 4) v => AnsV extI ov (A rows pq.1 pq.2) v) ((four p0 p1).take (2 * i)) vsA := All2.imp (fun _ _ => AnsV.mono (by rw [hextI]; exact fun q h => List.mem_append_right _ h)) hys
    have hT1I : TabOk 145 4 "_str_to_int_inner.<locals>.inner" o1'' (extI ++ tt) := TabOk.mono (by rw [hextI]; ((try simp only [List.cons_append, List.append_assoc, List.nil_append]); repeat' (first | (with_reducible refine sub_cons ?_ ?_; k_mem) | with_reducible refine sub_app ?_ ?_ | exact sub_nil | (intro q hq; kpc_turns)))) T1d
    have hT2I : TabOk 185 4 "_int2digits.<locals>.inner" o2' (extI ++ tt) := TabOk.mono (by rw [hextI]; ((try simp only [List.cons_append, List.append_assoc, List.nil_append]); repeat' (first | (with_reducible refine sub_cons ?_ ?_; k_mem) | with_reducible refine sub_app ?_ ?_ | exact sub_nil | (intro q hq; kpc_turns)))) hT2
    have hT3I : TabOk 200 4 "_digits2int.<locals>.inner" o3' (extI ++ tt) := TabOk.mono (by rw [hextI]; ((try simp only [List.cons_append, List.append_assoc, List.nil_append]); repeat' (first | (with_reducible refine sub_cons ?_ ?_; k_mem) | with_reducible refine sub_app ?_ ?_ | exact sub_nil | (intro q hq; kpc_turns)))) hT3
    have hC5I : CallsIn extI (callsOf rows pl) ys5.toList := CallsIn.mono (by rw [hextI]; exact fun q h => List.mem_append_left _ h) hC5
    have hlC : ys5.toList.length ≤ 16 := by
      rw [← hC5.length]
      unfold callsOf
      rw [List.length_map]
      exact Nat.le_trans (List.length_filter_le _ _) (by rw [hR.length]; exact hlen)
    have hIrest : LCg.Off1 I ((DA, W.listOf vsA.toArray kA) :: (L' + 1, oC) :: (196, o1'') :: (224, o2') :: (231, o3') :: rest0) := ⟨i1, i2, i3, i4, i5, off1_sub i6 (by ((try simp only [List.cons_append, List.append_assoc, List.nil_append]); repeat' (first | (with_reducible refine sub_cons ?_ ?_; k_mem) | with_reducible refine sub_app ?_ ?_ | exact sub_nil | (intro q hq; kpc_turns))))⟩
    have hDrest : LCg.Off1 DA ((L' + 1, oC) :: (196, o1'') :: (224, o2') :: (231, o3') :: rest0) := ⟨d1, d2, d3, d4, d5⟩
    clear N9 hextI hys hT1 hT2 hT3 T1d hC5 oE5 oD5 hfr FA2 NA2 F7 N7 i6 fx1 fx2 fx3 fxD
    k_steps
    rename_i hA3 FA3 NA3
    unfold Sealed
    have hup : ∀ b, gr.get? b = none → g'.get? b = none := fun b hb => by
      cases q : g'.get? b with
      | none => rfl
      | some o =>
        obtain ⟨sl, hs⟩ := g1.up q
        rw [hb] at hs
        cases hs
    have hID : ∀ q ∈ extI, q.1 ≠ D5 := fun q hq => off1_mem hD5 q (by simp [hq])
    refine srcG_list (its := #[.int (p0.val : Int) q0, .int (p1.val : Int) q1]) (hh := rfl) (fun _ _ => rfl)
      (fun g => KtsTurn [L] g' g ∧ Below (ktrTop dp un gd cn cs L a ccd cl []) base [envX cn cs L a ccd cl] g ∧ (K w.params).In g ∧ Top p loose mean mg mb g ∧ KtsDicts [L] g)
      (fun g hg b hb => hg.1.none_ b (hup b hb)) ⟨g1, g2, g3, g4, g5⟩ FA3 NA3 (fun _ => True) trivial []
      (fun j m₁ nw => Ex7 fun oC' v0 o2'' o3'' ext' vsA' kA' => Co8 (nw = (D5, W.listOf ys5 k5) :: (I, oI) :: (DA, W.listOf vsA'.toArray kA') :: (L' + 1, oC') :: (196, o1'') :: (224, o2'') :: (231, o3'') :: (ext' ++ rest0)) (oC'.data = .cell v0) (All2 (fun (pq : Fin 4 × Fin 4) v => AnsV ext' ov (A rows pq.1 pq.2) v) ((four p0 p1).take (2 * i + j)) vsA') ((∀ q ∈ extI, q ∈ ext')) ((∀ q ∈ ext', q.1 ≠ I ∧ q.1 ≠ D5)) ((∀ q ∈ ext', LCg.Off1 q.1 ((DA, W.listOf #[] 0) :: (L' + 1, oC0) :: (196, o1) :: (224, o2) :: (231, o3) :: rest0))) (TabOk 185 4 "_int2digits.<locals>.inner" o2'' (ext' ++ tt)) (TabOk 200 4 "_digits2int.<locals>.inner" o3'' (ext' ++ tt))) ?hJS2 ?h02 ?step2 ?hR2
    case hJS2 =>
      intro j m nw pp4
      refine hideG fun GG hGG => ?_
      obtain ⟨oC', v0, o2'', o3'', ext', vsA', kA', rfl, _, _, hsub, _⟩ := pp4
      refine hGG ?_
      clear hGG GG
      exact ⟨_, by k_mem⟩
    case h02 =>
      exact ⟨oC, _, o2', o3', extI, vsA, kA, rfl, hoC, hysI, fun q h => h, fun q h => ⟨hIE q h, hID q h⟩, hfrI, hT2I, hT3I⟩
    case step2 =>
      unfold TurnG
      intro I2 gg3 tk3 j v2 gs9 oz nw h tk dr oI2 E'' pp5 hdr2 hj hv2 pp6 F8 N8 oo2
      refine hideG fun GG hGG => ?_
      obtain ⟨gA, gB, gC, gD, gE⟩ := pp5
      obtain ⟨oC', v0', o2'', o3'', ext', vsA', kA', rfl, hoC', hys', hsub, hEI, hfr', hT2', hT3'⟩ := pp6
      dsimp only [canonL, List.foldr] at F8
      obtain ⟨kl, tkl, rfl, hkl⟩ : ∃ kl : Fin 4, ∃ t, v2 = .int (kl.val : Int) t ∧ ([p0, p1] : List (Fin 4))[j]? = some kl := by
        have h3 : j = 0 ∨ j = 1 := by have : j < 2 := hj; lia
        rcases h3 with rfl | rfl
        · exact ⟨p0, _, (Option.some.inj hv2).symm, rfl⟩
        · exact ⟨p1, _, (Option.some.inj hv2).symm, rfl⟩
      have hkll := kl.isLt
      clear FA3 NA3 g2 g3 g4 g5
      obtain ⟨m1, m2, m3, m4, m5, m6, m7, m8⟩ := oo2
      obtain ⟨r1, r2, r3, r4, r5, r6, r7⟩ := hD5
      dsimp only at m1 m2 m3 m4 m5 m6 m7 r1 r2 r3 r4 r5 r6
      have hW : LCg.Off1 (L' + 1) ((196, o1'') :: (224, o2'') :: (231, o3'') :: (ext' ++ rest0)) := ⟨Nat.ne_of_lt (by lia), Nat.ne_of_lt (by lia), Nat.ne_of_lt (by lia), off1_append (off1_swap hfr' (o := oC0) (by k_mem)) (off1_of (allLt_ne hall0 (by lia)))⟩
      refine hGG ?_
      clear hGG GG
      k_steps
      rename_i hS oC9 FS NS dC9
      unfold Sealed
      refine ⟨D5, ys5, _, fun n ys nw => nw = (I2, oI2) :: (D5, W.listOf ys5 k5) :: (I, oI) :: (DA, W.listOf vsA'.toArray kA') :: (L' + 1, oC9) :: (196, o1'') :: (224, o2'') :: (231, o3'') :: (ext' ++ rest0) ∧ All2 IsI ((((callsOf rows pl).take n).filter fun q => decide (q.1 = kl)).map (·.2)) ys, rfl, rfl, FS, NS, ?hszP, ⟨rfl, ?hJ0P⟩, ?hJSP, fun gP => ⟨?turnP, ?finP⟩⟩
      case hszP => rw [← Array.length_toList]; exact Nat.le_trans hlC (by decide +kernel)
      case hJ0P => exact All2.nil
      case hJSP =>
        intro n ys nw pp7
        refine hideG fun GG hGG => ?_
        obtain ⟨rfl, _⟩ := pp7
        refine hGG ?_
        clear hGG GG
        exact .inr ⟨_, by k_mem, rfl, _, rfl⟩
      case turnP =>
        intro n v ys nw hn hvP pp8
        refine hideG fun GG hGG => ?_
        obtain ⟨rfl, hysP⟩ := pp8
        obtain ⟨⟨f9, w9⟩, hq9, T9, u1, u2, n9, rfl, hT9, hsm9⟩ := hC5I.get' (i := n) (b := v) (by simpa using hvP)
        have hT9' : (T9, ({ cls := .type "tuple", data := .seq #[.str (low f9) u1, .int w9 u2] n9 } : Obj)) ∈ ext' := hsub _ hT9
        refine hGG ?_
        clear hGG GG
        refine ⟨T9, _, _, _, _, rfl, by k_mem, rfl, rfl, ?_⟩
        intro I3 oI3 C3 oC3 D3 m₂ h tk E' a1 a2 a3 a4 a5 a6 a7
        clear N8 F8
        k_steps
        · rename_i kx9 hfg
          have hfk : f9 = kl := by rw [item4, low_inj] at hfg; exact of_decide_eq_true hfg
          unfold Sealed
          refine ⟨_, _, _, rfl, by k_asm, a5, a6, trivial, rfl, ?_⟩
          rw [List.take_add_one, hq9, Option.toList_some, List.filter_append, List.map_append]
          simp only [List.filter_cons, hfk, decide_true, List.filter_nil, if_true, List.map_cons, List.map_nil]
          exact hysP.snoc ⟨_, rfl⟩
        · rename_i kx9 hfg
          have hfk : ¬ f9 = kl := by
            rw [item4, low_inj] at hfg
            exact of_decide_eq_false hfg
          unfold Sealed
          refine ⟨_, _, _, rfl, by k_asm, a5, a6, trivial, rfl, ?_⟩
          rw [List.take_add_one, hq9, Option.toList_some, List.filter_append, List.map_append]
          simp only [List.filter_cons, hfk, decide_false, List.filter_nil, List.map_nil, List.append_nil, Bool.false_eq_true, if_false]
          exact hysP
      case finP =>
        intro ysS nw pp9
        refine hideG fun GG hGG => ?_
        obtain ⟨rfl, hysS⟩ := pp9
        refine hGG ?_
        clear hGG GG
        rw [show (callsOf rows pl).take ys5.size = callsOf rows pl by rw [← Array.length_toList, ← hC5I.length, List.take_length]] at hysS
        (try refine openSeal ?_)
        (try unfold Sealed)
        unfold LCg.FinE
        intro DP hP tkP FP NP offP
        (try kfm_turns)
        clear N8 F8 FS NS
        k_steps
        unfold Sealed
        refine sumK (vs := ysS) (ns := ((callsOf rows pl).filter fun q => decide (q.1 = kl)).map (·.2)) rfl (by k_asm) (by k_asm) (News.isList (by k_asm) (by k_mem)) (ints_of hysS) ?_
        intro hs9 tks9 ts9 Fs9 Ns9
        rw [← A_sum]
        (try kfm_turns)
        have hsA := hsm pl kl
        k_steps
        have Ns : News gs9 L' hs9 ((I2, oI2) :: (D5, W.listOf ys5 k5) :: (I, oI) :: (DA, W.listOf vsA'.toArray kA') :: (L' + 1, oC9) :: (196, o1'') :: (224, o2'') :: (231, o3'') :: (ext' ++ rest0)) := News.sub Ns9 (by ((try simp only [List.cons_append, List.append_assoc, List.nil_append]); repeat' (first | (with_reducible refine sub_cons ?_ ?_; k_mem) | with_reducible refine sub_app ?_ ?_ | exact sub_nil | (intro q hq; kpc_turns))))
        clear Ns9 NP FP offP
        have hvl : vsA'.length ≤ 4 := by
          rw [← hys'.length, List.length_take]
          exact Nat.le_trans (Nat.min_le_right _ _) (show 4 ≤ 4 from Nat.le_refl 4)
        by_cases hov0 : ov = 0
        · subst hov0
          unfold Sealed
          k_dflt (refine' c_idmz ?k1 ?k2 ?k3 ?k4 ?k5 _ Ns ?k7 ?k8 _ _ _ ?_; (case k1 => k_asm); (case k2 => k_asm); (case k3 => k_asm); (case k4 => k_asm); (case k5 => first | exact rfl | assumption); (case k7 => ktr_room); (case k8 => ktr_units); k_whole)
          intro G9 e9 h9 tk9 FG9 R9 up9
          show wpAny _ _ _ _ _ _
          have fxD' : LCg.Off1 DA (ext' ++ rest0) := off1_append (off1_swap hfr' (o := W.listOf #[] 0) (by k_mem)) d5
          have hDA2 : LCg.Off1 DA ((L' + 1, oC9) :: (196, o1'') :: (224, o2'') :: (231, o3'') :: (ext' ++ rest0)) := ⟨d1, d2, d3, d4, fxD'⟩
          k_dflt (refine' caughtC (T' := "ZeroDivisionError") R9 FG9 gB up9 X T gE ?ex9 PyProof.Rows.Boot.«ZeroDivisionError» ?hn9 PySem.F.isExc_ZeroDivisionError PySem.F.notTuple_ZeroDivisionError ?hs9 ?_ rfl rfl (by decide); (case ex9 => k_is); (case hn9 => decide); (case hs9 => rw [isSubtype_type]; kernel_rfl); k_whole)
          intro h10 g10 T10 F10 N10 B10 X10 P10 D10
          (try kfm_turns)
          clear Ns R9 FG9 up9
          k_steps
          unfold Sealed
          k_dflt (refine' append_K ?k1 ?k2 ?k3 ?_ ?z; (case k1 => k_asm); (case k2 => k_asm); (case k3 => k_upd); (case z => rw [List.size_toArray]; exact Nat.le_trans hvl (by decide +kernel)); k_whole)
          intro hX FX NX
          (try kfm_turns)
          k_steps
          rw [List.push_toArray] at NX
          refine ⟨g10, _, _, _, _, (D5, W.listOf ys5 k5) :: (I, oI) :: (DA, W.listOf (vsA' ++ [Value.none]).toArray (kA' + 1)) :: (L' + 1, oC9) :: (196, o1'') :: (224, o2'') :: (231, o3'') :: (ext' ++ rest0), rfl, ⟨gA.trans T10, B10, X10, P10, D10⟩, trivial, FX, NX, ⟨m1, m2, m3, m4, m5, m6, m7, m8⟩, fun _ _ => rfl, oC9, _, o2'', o3'', ext', vsA' ++ [Value.none], kA' + 1, rfl, dC9, ?_, hsub, hEI, hfr', hT2', hT3'⟩
          rw [← Nat.add_assoc, List.take_add_one, four_get (show i < 2 from hi) (show j < 2 from hj) hpl hkl, Option.toList_some]
          exact hys'.snoc (.inl rfl rfl)
        · have fx2 : LCg.Off1 224 (ext' ++ rest0) := off1_append (off1_swap hfr' (o := o2) (by k_mem)) hoff2
          have fx3 : LCg.Off1 231 (ext' ++ rest0) := off1_append (off1_swap hfr' (o := o3) (by k_mem)) hoff3
          unfold Sealed
          k_dflt (refine' c_idm ?k1 ?k2 ?k3 ?k4 ?k5 ?kC2 ?kC3 ((224, o2'') :: (231, o3'') :: (I2, oI2) :: (D5, W.listOf ys5 k5) :: (I, oI) :: (DA, W.listOf vsA'.toArray kA') :: (L' + 1, oC9) :: (196, o1'') :: (ext' ++ rest0)) ?k6 ?k7 ?k8 _ _ _ rfl ?kO1 ?kO2 (ext' ++ tt) ?kTs hT2' hT3' _ _ _ _ hsA ?kov ?_; (case k1 => k_asm); (case k2 => k_asm); (case k3 => k_asm); (case k4 => k_asm); (case k5 => first | exact rfl | assumption); (case kC2 => exact C2); (case kC3 => exact C3); (case k6 => exact News.sub Ns (by ((try simp only [List.cons_append, List.append_assoc, List.nil_append]); repeat' (first | (with_reducible refine sub_cons ?_ ?_; k_mem) | with_reducible refine sub_app ?_ ?_ | exact sub_nil | (intro q hq; kpc_turns))))); (case k7 => ktr_room); (case k8 => ktr_units); (case kO1 => exact ⟨Ne.symm m6, Ne.symm r5, Ne.symm i4, Ne.symm d3, Nat.ne_of_gt (by lia), by show @Ne Nat 196 224; decide, fx2⟩); (case kO2 => exact ⟨Ne.symm m7, Ne.symm r6, Ne.symm i5, Ne.symm d4, Nat.ne_of_gt (by lia), by show @Ne Nat 196 231; decide, fx3⟩); (case kTs => exact fun p hp => by rcases List.mem_append.mp hp with h | h <;> simp [h, hts p]); (case kov => exact ⟨hov0, hov.1, hov.2⟩); k_whole)
          intro T6 h6 tk6 o2n o3n ext6 t61 t62 F6 N6 oT6 oE6 T26 T36
          (try kfm_turns)
          refine nameL ((T6, ({ cls := .type "tuple", data := .seq #[.int ((A rows pl kl).fdiv ov) t61, .int ((A rows pl kl).fmod ov) t62] } : Obj)) :: (ext6 ++ ext')) fun extN hextN => ?_
          have hTm : (T6, ({ cls := .type "tuple", data := .seq #[.int ((A rows pl kl).fdiv ov) t61, .int ((A rows pl kl).fmod ov) t62] } : Obj)) ∈ extN := by rw [hextN]; exact List.mem_cons_self
          have hsN : ∀ q ∈ ext', q ∈ extN := by rw [hextN]; exact fun q h => List.mem_cons_of_mem _ (List.mem_append_right _ h)
          have N7b : News gs9 L' h6 ((I2, oI2) :: (D5, W.listOf ys5 k5) :: (I, oI) :: (DA, W.listOf vsA'.toArray kA') :: (L' + 1, oC9) :: (196, o1'') :: (224, o2n) :: (231, o3n) :: (extN ++ rest0)) := News.sub N6 (by rw [hextN]; ((try simp only [List.cons_append, List.append_assoc, List.nil_append]); repeat' (first | (with_reducible refine sub_cons ?_ ?_; k_mem) | with_reducible refine sub_app ?_ ?_ | exact sub_nil | (intro q hq; kpc_turns))))
          have hfrN : ∀ q ∈ extN, LCg.Off1 q.1 ((DA, W.listOf #[] 0) :: (L' + 1, oC0) :: (196, o1) :: (224, o2) :: (231, o3) :: rest0) ∧ q.1 ≠ I ∧ q.1 ≠ D5 ∧ q.1 ≠ I2 := by
            rw [hextN]
            intro q hq
            have key : ∀ q : Addr × Obj, (LCg.Off1 q.1 ((224, o2'') :: (231, o3'') :: (I2, oI2) :: (D5, W.listOf ys5 k5) :: (I, oI) :: (DA, W.listOf vsA'.toArray kA') :: (L' + 1, oC9) :: (196, o1'') :: (ext' ++ rest0))) → LCg.Off1 q.1 ((DA, W.listOf #[] 0) :: (L' + 1, oC0) :: (196, o1) :: (224, o2) :: (231, o3) :: rest0) ∧ q.1 ≠ I ∧ q.1 ≠ D5 ∧ q.1 ≠ I2 := fun q z =>
              ⟨⟨off1_mem z (DA, W.listOf vsA'.toArray kA') (by k_mem), off1_mem z (L' + 1, oC9) (by k_mem), off1_mem z (196, o1'') (by k_mem), off1_mem z (224, o2'') (by k_mem), off1_mem z (231, o3'') (by k_mem), off1_sub z (by ((try simp only [List.cons_append, List.append_assoc, List.nil_append]); repeat' (first | (with_reducible refine sub_cons ?_ ?_; k_mem) | with_reducible refine sub_app ?_ ?_ | exact sub_nil | (intro q hq; kpc_turns))))⟩, Ne.symm (off1_mem z (I, oI) (by k_mem)), Ne.symm (off1_mem z (D5, W.listOf ys5 k5) (by k_mem)), Ne.symm (off1_mem z (I2, oI2) (by k_mem))⟩
            rcases List.mem_cons.mp hq with rfl | hq
            · exact key _ (off1_sub oT6 (by ((try simp only [List.cons_append, List.append_assoc, List.nil_append]); repeat' (first | (with_reducible refine sub_cons ?_ ?_; k_mem) | with_reducible refine sub_app ?_ ?_ | exact sub_nil | (intro q hq; kpc_turns)))))
            · rcases List.mem_append.mp hq with hq | hq
              · exact key q (oE6 q hq)
              · exact ⟨hfr' q hq, (hEI q hq).1, (hEI q hq).2, off1_mem m8 q (List.mem_append_left _ hq)⟩
          have hDA2 : LCg.Off1 DA ((L' + 1, oC9) :: (196, o1'') :: (224, o2n) :: (231, o3n) :: (extN ++ rest0)) := ⟨d1, d2, d3, d4, off1_append (off1_swap (fun q hq => (hfrN q hq).1) (o := W.listOf #[] 0) (by k_mem)) d5⟩
          have hT2N : TabOk 185 4 "_int2digits.<locals>.inner" o2n (extN ++ tt) := TabOk.mono (by rw [hextN]; ((try simp only [List.cons_append, List.append_assoc, List.nil_append]); repeat' (first | (with_reducible refine sub_cons ?_ ?_; k_mem) | with_reducible refine sub_app ?_ ?_ | exact sub_nil | (intro q hq; kpc_turns)))) T26
          have hT3N : TabOk 200 4 "_digits2int.<locals>.inner" o3n (extN ++ tt) := TabOk.mono (by rw [hextN]; ((try simp only [List.cons_append, List.append_assoc, List.nil_append]); repeat' (first | (with_reducible refine sub_cons ?_ ?_; k_mem) | with_reducible refine sub_app ?_ ?_ | exact sub_nil | (intro q hq; kpc_turns)))) T36
          have hysN := All2.imp (fun _ _ => AnsV.mono hsN) hys'
          clear Ns N6 hextN oT6 oE6 T26 T36
          k_steps
          unfold Sealed
          k_dflt (refine' append_K ?k1 ?k2 ?k3 ?_ ?z; (case k1 => k_asm); (case k2 => k_asm); (case k3 => k_upd); (case z => rw [List.size_toArray]; exact Nat.le_trans hvl (by decide +kernel)); k_whole)
          intro hX FX NX
          (try kfm_turns)
          k_steps
          rw [List.push_toArray] at NX
          refine ⟨gs9, _, _, _, _, (D5, W.listOf ys5 k5) :: (I, oI) :: (DA, W.listOf (vsA' ++ [Value.ref T6]).toArray (kA' + 1)) :: (L' + 1, oC9) :: (196, o1'') :: (224, o2n) :: (231, o3n) :: (extN ++ rest0), rfl, ⟨gA, gB, gC, gD, gE⟩, trivial, FX, NX, ⟨m1, m2, m3, m4, m5, m6, m7, off1_append (off1_of fun p hp => (hfrN p hp).2.2.2) (off1_sub m8 (by ((try simp only [List.cons_append, List.append_assoc, List.nil_append]); repeat' (first | (with_reducible refine sub_cons ?_ ?_; k_mem) | with_reducible refine sub_app ?_ ?_ | exact sub_nil | (intro q hq; kpc_turns)))))⟩, fun _ _ => rfl, oC9, _, o2n, o3n, extN, vsA' ++ [Value.ref T6], kA' + 1, rfl, dC9, ?_, fun q hq => hsN q (hsub q hq), fun q hq => ⟨(hfrN q hq).2.1, (hfrN q hq).2.2.1⟩, fun q hq => (hfrN q hq).1, hT2N, hT3N⟩
          rw [← Nat.add_assoc, List.take_add_one, four_get (show i < 2 from hi) (show j < 2 from hj) hpl hkl, Option.toList_some]
          exact hysN.snoc (.inr hov0 T6 t61 t62 rfl hTm)
    case hR2 =>
      intro gq hq9 tkq drq oq nwq pp10 hdrq FQ NQ pp11
      refine hideG fun GG hGG => ?_
      obtain ⟨gA, gB, gC, gD, gE⟩ := pp10
      obtain ⟨oC', v0', o2'', o3'', ext', vsA', kA', rfl, hoC', hys', hsub, hEI, hfr', hT2', hT3'⟩ := pp11
      dsimp only [canonL, List.foldr] at FQ
      clear FA3 NA3
      refine hGG ?_
      clear hGG GG
      k_steps
      refine ⟨gq, _, _, _, _, (DA, W.listOf vsA'.toArray kA') :: (L' + 1, oC') :: (196, o1'') :: (224, o2'') :: (231, o3'') :: (ext' ++ rest0), rfl, ⟨gA, gB, gC, gD, gE⟩, trivial, FQ, News.sub NQ (by ((try simp only [List.cons_append, List.append_assoc, List.nil_append]); repeat' (first | (with_reducible refine sub_cons ?_ ?_; k_mem) | with_reducible refine sub_app ?_ ?_ | exact sub_nil | (intro q hq; kpc_turns)))), ⟨i1, i2, i3, i4, i5, off1_append (off1_of fun p hp => (hEI p hp).1) hIrest.2.2.2.2.2⟩, ?ag, oC', v0', o1'', o2'', o3'', ext', vsA', kA', rfl, hoC', hys', hfr', TabOk.mono (fun q hq => ?tb) hT1I, hT2', hT3'⟩
      case ag => (intro y hy; first | ((repeat (first | refine agree_l hy (by k_mem) ?_ | refine agree_r hy (by k_mem) ?_)); exact rfl) | (simp only [List.mem_cons, List.not_mem_nil, or_false, not_or] at hy; simp only [hy, if_false]))
      case tb =>
        rcases List.mem_append.mp hq with hq | hq
        · exact List.mem_append_left _ (hsub q hq)
        · exact List.mem_append_right _ hq
  case hR =>
    intro gq hq9 tkq drq oq nwq pp12 hdrq FQ NQ pp13
    refine hideG fun GG hGG => ?_
    obtain ⟨gA, gB, gC, gD, gE⟩ := pp12
    obtain ⟨oC, v0, o1', o2', o3', ext, vsA, kA, rfl, hoC, hys, hfr, hT1, hT2, hT3⟩ := pp13
    dsimp only [canonL, List.foldr] at FQ
    clear FA NA
    refine hGG ?_
    clear hGG GG
    k_steps
    rename_i kF9 kN9 kT9 kX9
    exact hret DA _ _ _ o1' o2' o3' ext vsA.toArray kA kF9 (News.sub kN9 (by ((try simp only [List.cons_append, List.append_assoc, List.nil_append]); repeat' (first | (with_reducible refine sub_cons ?_ ?_; k_mem) | with_reducible refine sub_app ?_ ?_ | exact sub_nil | (intro q hq; kpc_turns))))) hys (fun q hq => (hfr q hq).2.2) hT1 hT2 hT3
end

section
set_option maxRecDepth 100000 in
set_option maxHeartbeats 8000000 in
theorem law_holds : PySem.Challenge.rw_pm0082_01.Holds := by
  w_on
  refine holds_law said0 fun hs9 => ?_
  refine holds_open (q := kq) (loose := kloose) (Xt := fun _ => true) (XP := fun _ _ => True) (Yf := (kmHook K kads (fun _ => rfl) [196, 231, 224]).obs) (Ya := (kmHook K kads (fun _ => rfl) [196, 231, 224]).val) (YP := (kmHook K kads (fun _ => rfl) [196, 231, 224]).says) (N := 3510) left (kmHook K kads (fun _ => rfl) [196, 231, 224]).of (kmHook K kads (fun _ => rfl) [196, 231, 224]).keeps (fun _ _ => trivial) (fun _ _ _ _ _ => trivial) (by rfl) (by rfl) (by rfl) (fun s e => recFacts_nil rfl) (by rfl) (by first | assumption | decide +kernel) (by decide +kernel) ⟨rfl, rfl, rfl, rfl, rfl, by decide +kernel⟩ ?hw ?hc
  case hw => w_witness2
  clear hs9
  w_top off
  have in_law := Tag.mk
  k_with "eval ListComp" => (guard_hyp in_law; (k_here; (with_reducible show wpAny _ _ (eval (PySem.Expr.ListComp _ [⟨PySem.Expr.Name _ _, _, [_], _⟩] _ _) _) _ _ _); k_dflt (refine LCt.ListComp_T (F₀ := by k_asm) (by with_unfolding_all rfl) (by decide) (by rfl) (by decide) (by rfl) ?_)))
  k_with "exec Assign cons ListComp" => (guard_hyp in_law; (k_here; k_dflt (refine wpAny_Assign_Name ?_)))
  k_with "call ref" => (guard_hyp in_law; (k_here; refine openSeal ?_))
  k_with "CompSrc" => (guard_hyp in_law; (k_here; refine openSeal ?_))
  k_with "CompSrcT" => (guard_hyp in_law; (k_here; refine openSeal ?_))
  k_with "StrSrcT" => (guard_hyp in_law; (k_here; refine openSeal ?_))
  k_with "StrSrcU" => (guard_hyp in_law; (k_here; refine openSeal ?_))
  k_with "LoopSrc" => (guard_hyp in_law; (k_here; refine openSeal ?_))
  k_with "eval Name" => (guard_hyp in_law; (k_here; (with_reducible show wpAny _ _ (eval (PySem.Expr.Name _ _) (PySem.compEnvC _ _ _ _)) _ _ _); first | (name_kind "globalImplicit"; k_dflt (first | refine LCgL.ld_global (by k_asm) (by k_asm) (by k_asm) (by k_is) ?_ | refine LCgL.ld_built (by k_asm) (by k_asm) (by k_asm) (by k_is) (by boot_by_name) (by decide) ?_)) | (name_kind "free"; k_dflt (refine kcf_cell (by k_asm) (by rfl) (by k_mem) (by k_asm) ?_)) | (name_kind "local"; k_dflt (refine' LCgL.ld_own (N := ?z24n1) ?z24n2 ?z24n3 ?z24n4 ?_ ?z24n5 ?z24n6 ?z24n7; (case z24n1 => k_asm); (case z24n3 => with_reducible assumption); (case z24n4 => with_reducible assumption); (case z24n2 => k_mem); (case z24n5 => exact rfl); (case z24n6 => exact rfl); (case z24n7 => decide)))))
  k_with "binaryOp Mod int int" => (guard_hyp in_law; (k_here; (with_reducible show wpAny _ _ (binaryOp _ (Value.int _ _) (Value.int 4 _)) _ _ _); refine mod_int' (by decide) ?_; rw [Int.fmod_eq_emod_of_nonneg _ (by decide), ← fOf_val]))
  k_with "binaryOp FloorDiv int int" => (guard_hyp in_law; (k_here; (with_reducible show wpAny _ _ (binaryOp _ (Value.int _ _) (Value.int 4 _)) _ _ _); refine floordiv_int (by decide) ?_ (.inl (PyProof.noPylong_small (by omega))); rw [Int.fdiv_eq_ediv_of_nonneg _ (by decide)]))
  k_with "CompEnd" => (guard_hyp in_law; (k_here; refine openSeal ?_))
  k_with "subscriptTail Name Name ref int" => (guard_hyp in_law; (k_here; refine openSeal ?_))
  k_with "subscriptTail Name BinOp ref int" => (guard_hyp in_law; (k_here; refine openSeal ?_))
  k_with "compareOp NotEq ref ref" => (guard_hyp in_law; (k_here; refine openSeal ?_))
  k_with "subscriptTail Name Slice ref ref" => (guard_hyp in_law; (k_here; refine openSeal ?_))
  k_with "call builtin:sum cons nil" => (guard_hyp in_law; (k_here; refine openSeal ?_))
  k_with "subscriptTail ListComp Name cons BinOp ref int" => (guard_hyp in_law; (k_here; refine openSeal ?_))
  k_with "binaryOp Mod int int" => (guard_hyp in_law; (k_here; (with_reducible show wpAny _ _ (binaryOp _ (Value.int _ _) (Value.int 3 _)) _ _ _); refine mod_int' (by decide) ?_; rw [Int.fmod_eq_emod_of_nonneg _ (by decide)]))
  k_with "k_all" => (guard_hyp in_law; (refine off1_mem ?_; (repeat (refine ⟨by k_ne, ?_⟩)); (with_reducible rename ∀ a ∈ _, LCg.Off1 a _ => law_off); exact law_off _ (by k_mem)))
  k_with "call builtin:dict.get" => (guard_hyp in_law; (k_here; refine openSeal ?_))
  k_with "getMethod ref" => (guard_hyp in_law; (k_here; (with_reducible show wpAny _ _ (getMethod (Value.ref _) (Str.ofString "get") _) _ _ _); k_dflt (refine kdg_method (knd := PySem.strKind PySem.Challenge.rw_pm0082_01.row.toRowW.prog _) (by k_asm) (by k_mem) (by with_reducible assumption) ?_)))
  k_with "FinE cons" => (guard_hyp in_law; (k_here; refine openSeal ?_))
  k_with "FinE" => (guard_hyp in_law; refine openSeal ?_)
  k_with "callWith ref" => (guard_hyp in_law; (k_here; k_dflt (refine' callWith_K ?z25k1 ?z25k2 ?_; (case z25k1 => k_asm); (case z25k2 => k_is); k_whole)))
  k_with "callWith ref nil nil" => (guard_hyp in_law; (k_here; k_dflt (refine' callWith_K ?z26k1 ?z26k2 ?_; (case z26k1 => k_asm); (case z26k2 => k_is); k_whole)))
  k_with "callWith ref cons nil" => (guard_hyp in_law; (k_here; k_dflt (refine' callWith_K ?z27k1 ?z27k2 ?_; (case z27k1 => k_asm); (case z27k2 => k_is); k_whole)))
  k_with "binaryOp Mult int int" => (guard_hyp in_law; (k_here; refine mul_int ?_ (.of_right (PySem.intBits_le_64 (by omega) (by omega)))))
  k_with "compareOp NotEq int int" => (guard_hyp in_law; (k_here; (with_reducible show wpAny _ _ (compareOp _ (Value.int (kprSum _) _) _) _ _ _); refine openSeal ?_))
  k_with "exec Assign cons ListComp" => (guard_hyp in_law; (k_here; (with_reducible show wpAny _ _ (exec (PySem.Stmt.Assign [PySem.Expr.Name _ _] (PySem.Expr.ListComp _ [⟨PySem.Expr.Name _ _, _, [], _⟩, ⟨PySem.Expr.Name _ _, _, [], _⟩] _ _) _) _) _ _ _); k_dflt (refine Assign_22 (F₀ := by k_asm) (by rfl) (by with_unfolding_all rfl) (by with_unfolding_all rfl) (by decide) (by rfl) (by decide) (by rfl) (by rfl) (by decide) (by rfl) (by rfl) ?_ (by intro _; rfl) (by intro _ _; rfl))))
  k_with "Src22" => (guard_hyp in_law; (k_here; refine openSeal ?_))
  k_with "binaryOp Mult ref int" => (guard_hyp in_law; (k_here; refine openSeal ?_))
  k_with "compareOp Eq int int" => (guard_hyp in_law; (k_here; refine openSeal ?_))
  k_with "compareOp Eq ref ref" => (guard_hyp in_law; (k_here; refine openSeal ?_))
  k_with "storeName" => (guard_hyp in_law; (k_here; (with_reducible show wpAny _ _ (storeName _ (Str.ofString "weights") _) _ _ _); k_dflt (refine' storeX_C ?z28F ?z28N ?z28c ?z28U ?z28d ?_ ?z28a ?z28b; (case z28a => rfl); (case z28b => rfl); (case z28F => k_asm); (case z28N => k_asm); (case z28c => rfl); (case z28U => k_updF); (case z28d => k_asm); k_whole; intro h' o' F' N' d'; (try dsimp only at N'); (try k_sweep)); (refine letN N' ?_); clear N'; intro LD' N'; revert h' o'; intros))
  k_fill
  intro w s₀ s₁ mg mb G Y fa o pm cd doc dV kV ho hd hcd hD hmg hg args vals as hpre hlay hrd hwl hlo
  have KX := km_in_of Y
  km_tabs Y
  refine Ground.open G ?_
  intro T B D TE TW
  try (refine guard_noD D (by decide +kernel) ?_; clear D)
  km_lay T hmg ho hd cd
  clear hmg
  wrow_args hpre hlay hrd hwl hlo
  refine enter_call ?_
  w_top on
  kn_posts
  have X2 := ghost_K hT9 KX (by kernel_rfl)
  have T2 := ghost_top hT9 T
  have CC := ghost_code hT9
  obtain ⟨C1, C3, C2, _⟩ := CC
  rename IntsAre _ _ => hI
  rename Heap.IsList _ _ _ => hL9
  rename_i ns q1 q2 q3 q4 q5 q6 q7 sl vs q8 q9 q10 q11 q12 hlen9 q13 q14
  have hns63 : ns.length ≤ 63 := by omega
  have hsl := ghost_list hT9 hL9
  obtain ⟨G0, hG0⟩ : ∃ G, G = ghostOf s₁.heap [(200, 196), (235, 231), (228, 224)] := ⟨_, rfl⟩
  rw [← hG0] at X2 T2 C1 C2 C3 hsl
  have hkeep : ∀ b o, G0.get? b = some o → s₁.heap.get? b = some o := fun b o e => of_hideAll _ (by rw [hG0] at e; exact e)
  have hsz : G0.objs.size ≤ s₁.heap.objs.size := by rw [hG0]; exact Nat.le_of_eq (hideAll_size _ _)
  have hN : ∀ q ∈ [((196 : Addr), tabObj #[]), (224, tabObj #[]), (231, tabObj #[])], s₁.heap.get? q.1 = some q.2 ∧ G0.get? q.1 = none := by
    intro q hq
    have h1 : q.1 ∈ [196, 231, 224] ∧ q.2 = tabObj #[] := by
      simp only [List.mem_cons, List.not_mem_nil, or_false] at hq
      rcases hq with rfl | rfl | rfl <;> exact ⟨by decide, rfl⟩
    refine ⟨by rw [h1.2]; exact hT8 _ h1.1, ?_⟩
    rw [hG0]
    refine hideAll_none _ ?_
    have := h1.1
    simp only [List.mem_cons, List.not_mem_nil, or_false, List.map_cons, List.map_nil] at this ⊢
    rcases this with h | h | h <;> simp [h]
  rw [← hG0]
  clear hL9 KX T B TE TW Y G hT9 hT8
  have he := Dflts.none hD rfl
  subst he
  have he := Dflts.noKw hD
  subst he
  dsimp only [PySem.Calls.docDef] at hd hcd
  k_dflt (refine' code_topC (K := K w.params) (A := callerA) ?kA hkeep hsz hN X2 T2 ho hd hcd ?k8 ?k9 ?kB ?kD ?_ ?c2 ?c3 ?c4)
  case kA => exact rfl
  case k8 => decide
  case k9 => exact BindsTo.of_eq rfl
  case kB => exact kindsX rfl
  case kD => decide +kernel
  case c2 => exact rfl
  case c3 => exact rfl
  case c4 => exact rfl
  intro L' h' tk' cells' F' N' Y' B' X' T' l1
  have h196 : 196 < L' := l1 (196, tabObj #[]) List.mem_cons_self
  have h224 : 224 < L' := l1 (224, tabObj #[]) (List.mem_cons_of_mem _ List.mem_cons_self)
  have h231 : 231 < L' := l1 (231, tabObj #[]) (List.mem_cons_of_mem _ (List.mem_cons_of_mem _ List.mem_cons_self))
  (have hAL := allLt_of l1)
  (try k_lt l1)
  (repeat (replace hAL := And.right hAL))
  refine hideG fun GG hGG => ?_
  obtain ⟨oc1, oc2, oc3, oc4, oc5, oc6, oc7, oc8, oc9, oc10, oc11, dc1, dc2, dc3, dc4, dc5, dc6, dc7, dc8, dc9, dc10, dc11⟩ := cells11 Y'
  refine hGG ?_
  clear hGG GG
  (try simp only [List.cons_append, List.nil_append] at N')
  (try kfm_turns)
  (try k_fold)
  refine foldE ?_
  intro eL9 heL9
  k_steps
  unfold Sealed
  k_dflt (refine' c_numbers ?k1 ?k2 ?k3 ?k4 ?k5 _ ?k6 ?k7 ?k8 sl vs ns hsl hI hns63 ?_; (case k1 => k_asm); (case k2 => k_asm); (case k3 => k_asm); (case k4 => k_asm); (case k5 => first | exact rfl | assumption); (case k6 => k_asm); (case k7 => ktr_room); (case k8 => ktr_units); k_whole)
  intro ND h1 tk1 ysN F1 N1 hoffN hN8
  obtain ⟨nums, hnums⟩ : ∃ x, x = numsOf ns := ⟨_, rfl⟩
  rw [← hnums] at hN8
  have hn8 : nums.length = 8 := by rw [hnums, numsOf, List.length_map, adds_len]
  have hnb : ∀ x ∈ nums, -400 < x ∧ x < 400 := by
    rw [hnums]
    intro x hx
    obtain ⟨y, _, rfl⟩ := List.mem_map.mp hx
    exact red_bound y
  have hNA : All2 IsI nums ysN := all2_of hN8
  obtain ⟨E1, hE1⟩ : ∃ e, e = [((ND : Addr), LCg.lst ysN)] := ⟨_, rfl⟩
  have hKN : ∀ a ∈ [(L' + 1 + 1 + 1 + 1 + 1 + 1 + 1 + 1 + 1 + 1 + 1 : Addr), (L' + 1 + 1 + 1 + 1 + 1 + 1 + 1 + 1 + 1 + 1 : Addr), (L' + 1 + 1 + 1 + 1 + 1 + 1 + 1 + 1 + 1 : Addr), (L' + 1 + 1 + 1 + 1 + 1 + 1 + 1 + 1 : Addr), (L' + 1 + 1 + 1 + 1 + 1 + 1 + 1 : Addr), (L' + 1 + 1 + 1 + 1 + 1 + 1 : Addr), (L' + 1 + 1 + 1 + 1 + 1 : Addr), (L' + 1 + 1 + 1 + 1 : Addr), (L' + 1 + 1 + 1 : Addr), (L' + 1 + 1 : Addr), (L' + 1 : Addr), 196, 224, 231], a ≠ ND := List.forall_mem_cons.mpr ⟨off1_mem hoffN (L' + 1 + 1 + 1 + 1 + 1 + 1 + 1 + 1 + 1 + 1 + 1, oc1) (by k_mem), List.forall_mem_cons.mpr ⟨off1_mem hoffN (L' + 1 + 1 + 1 + 1 + 1 + 1 + 1 + 1 + 1 + 1, oc2) (by k_mem), List.forall_mem_cons.mpr ⟨off1_mem hoffN (L' + 1 + 1 + 1 + 1 + 1 + 1 + 1 + 1 + 1, oc3) (by k_mem), List.forall_mem_cons.mpr ⟨off1_mem hoffN (L' + 1 + 1 + 1 + 1 + 1 + 1 + 1 + 1, oc4) (by k_mem), List.forall_mem_cons.mpr ⟨off1_mem hoffN (L' + 1 + 1 + 1 + 1 + 1 + 1 + 1, oc5) (by k_mem), List.forall_mem_cons.mpr ⟨off1_mem hoffN (L' + 1 + 1 + 1 + 1 + 1 + 1, oc6) (by k_mem), List.forall_mem_cons.mpr ⟨off1_mem hoffN (L' + 1 + 1 + 1 + 1 + 1, oc7) (by k_mem), List.forall_mem_cons.mpr ⟨off1_mem hoffN (L' + 1 + 1 + 1 + 1, oc8) (by k_mem), List.forall_mem_cons.mpr ⟨off1_mem hoffN (L' + 1 + 1 + 1, oc9) (by k_mem), List.forall_mem_cons.mpr ⟨off1_mem hoffN (L' + 1 + 1, oc10) (by k_mem), List.forall_mem_cons.mpr ⟨off1_mem hoffN (L' + 1, oc11) (by k_mem), List.forall_mem_cons.mpr ⟨off1_mem hoffN (196, tabObj #[]) (by k_mem), List.forall_mem_cons.mpr ⟨off1_mem hoffN (224, tabObj #[]) (by k_mem), List.forall_mem_cons.mpr ⟨off1_mem hoffN (231, tabObj #[]) (by k_mem), (fun _ h => nomatch h)⟩⟩⟩⟩⟩⟩⟩⟩⟩⟩⟩⟩⟩⟩
  have NA : News G0 L' h1 ((L' + 1 + 1 + 1 + 1 + 1 + 1 + 1 + 1 + 1 + 1 + 1, oc1) :: (L' + 1 + 1 + 1 + 1 + 1 + 1 + 1 + 1 + 1 + 1, oc2) :: (L' + 1 + 1 + 1 + 1 + 1 + 1 + 1 + 1 + 1, oc3) :: (L' + 1 + 1 + 1 + 1 + 1 + 1 + 1 + 1, oc4) :: (L' + 1 + 1 + 1 + 1 + 1 + 1 + 1, oc5) :: (L' + 1 + 1 + 1 + 1 + 1 + 1, oc6) :: (L' + 1 + 1 + 1 + 1 + 1, oc7) :: (L' + 1 + 1 + 1 + 1, oc8) :: (L' + 1 + 1 + 1, oc9) :: (L' + 1 + 1, oc10) :: (L' + 1, oc11) :: (196, tabObj #[]) :: (224, tabObj #[]) :: (231, tabObj #[]) :: E1) := News.sub N1 (by rw [hE1]; (first | kpt_turns | ((try simp only [List.cons_append, List.append_assoc, List.nil_append]); repeat' (first | (with_reducible refine sub_cons ?_ ?_; k_mem) | with_reducible refine sub_app ?_ ?_ | exact sub_nil | (intro q hq; kpc_turns)))))
  have hO1 : ∀ q ∈ E1, ∀ a ∈ [(L' + 1 + 1 + 1 + 1 + 1 + 1 + 1 + 1 + 1 + 1 + 1 : Addr), (L' + 1 + 1 + 1 + 1 + 1 + 1 + 1 + 1 + 1 + 1 : Addr), (L' + 1 + 1 + 1 + 1 + 1 + 1 + 1 + 1 + 1 : Addr), (L' + 1 + 1 + 1 + 1 + 1 + 1 + 1 + 1 : Addr), (L' + 1 + 1 + 1 + 1 + 1 + 1 + 1 : Addr), (L' + 1 + 1 + 1 + 1 + 1 + 1 : Addr), (L' + 1 + 1 + 1 + 1 + 1 : Addr), (L' + 1 + 1 + 1 + 1 : Addr), (L' + 1 + 1 + 1 : Addr), (L' + 1 + 1 : Addr), (L' + 1 : Addr), 196, 224, 231], a ≠ q.1 := by
    rw [hE1]
    intro q hq
    rw [List.mem_singleton.mp hq]
    exact hKN
  have hmN : (ND, W.listOf ysN.toArray ysN.length) ∈ E1 := by rw [hE1]; exact List.mem_cons_self
  clear N1 N' hoffN hE1 hKN
  have hcA : LCg.Off1 (L' + 1) ((196, tabObj #[]) :: (224, tabObj #[]) :: (231, tabObj #[]) :: E1) := ⟨(tb1 h196), (tb1 h224), (tb1 h231), (off1_of fun p hp => Ne.symm (hO1 p hp _ (List.mem_cons_of_mem _ (List.mem_cons_of_mem _ (List.mem_cons_of_mem _ (List.mem_cons_of_mem _ (List.mem_cons_of_mem _ (List.mem_cons_of_mem _ (List.mem_cons_of_mem _ (List.mem_cons_of_mem _ (List.mem_cons_of_mem _ (List.mem_cons_of_mem _ (List.mem_cons_self)))))))))))))⟩
  refine letN NA ?_
  clear NA
  intro LD1 NA
  k_steps
  rename_i hx0 oN1 F2 N2 dN1
  refine letN N2 ?_
  clear N2
  intro LD2 N2
  unfold Sealed
  have hoffA : LCg.Off1 224 ((L' + 1 + 1 + 1 + 1 + 1 + 1 + 1 + 1 + 1 + 1 + 1, oc1) :: (L' + 1 + 1 + 1 + 1 + 1 + 1 + 1 + 1 + 1 + 1, oc2) :: (L' + 1 + 1 + 1 + 1 + 1 + 1 + 1 + 1 + 1, oc3) :: (L' + 1 + 1 + 1 + 1 + 1 + 1 + 1 + 1, oc4) :: (L' + 1 + 1 + 1 + 1 + 1 + 1 + 1, oc5) :: (L' + 1 + 1 + 1 + 1 + 1 + 1, oc6) :: (L' + 1 + 1 + 1 + 1 + 1, oc7) :: (L' + 1 + 1 + 1 + 1, oc8) :: (L' + 1 + 1 + 1, oc9) :: (L' + 1 + 1, oc10) :: (L' + 1, oN1) :: (196, tabObj #[]) :: E1) := ⟨Ne.symm (tb11 h224), Ne.symm (tb10 h224), Ne.symm (tb9 h224), Ne.symm (tb8 h224), Ne.symm (tb7 h224), Ne.symm (tb6 h224), Ne.symm (tb5 h224), Ne.symm (tb4 h224), Ne.symm (tb3 h224), Ne.symm (tb2 h224), Ne.symm (tb1 h224), by show @Ne Nat 196 224; decide, (off1_of fun p hp => Ne.symm (hO1 p hp _ (List.mem_cons_of_mem _ (List.mem_cons_of_mem _ (List.mem_cons_of_mem _ (List.mem_cons_of_mem _ (List.mem_cons_of_mem _ (List.mem_cons_of_mem _ (List.mem_cons_of_mem _ (List.mem_cons_of_mem _ (List.mem_cons_of_mem _ (List.mem_cons_of_mem _ (List.mem_cons_of_mem _ (List.mem_cons_of_mem _ (List.mem_cons_self)))))))))))))))⟩
  have hoffB : LCg.Off1 231 ((L' + 1 + 1 + 1 + 1 + 1 + 1 + 1 + 1 + 1 + 1 + 1, oc1) :: (L' + 1 + 1 + 1 + 1 + 1 + 1 + 1 + 1 + 1 + 1, oc2) :: (L' + 1 + 1 + 1 + 1 + 1 + 1 + 1 + 1 + 1, oc3) :: (L' + 1 + 1 + 1 + 1 + 1 + 1 + 1 + 1, oc4) :: (L' + 1 + 1 + 1 + 1 + 1 + 1 + 1, oc5) :: (L' + 1 + 1 + 1 + 1 + 1 + 1, oc6) :: (L' + 1 + 1 + 1 + 1 + 1, oc7) :: (L' + 1 + 1 + 1 + 1, oc8) :: (L' + 1 + 1 + 1, oc9) :: (L' + 1 + 1, oc10) :: (L' + 1, oN1) :: (196, tabObj #[]) :: E1) := ⟨Ne.symm (tb11 h231), Ne.symm (tb10 h231), Ne.symm (tb9 h231), Ne.symm (tb8 h231), Ne.symm (tb7 h231), Ne.symm (tb6 h231), Ne.symm (tb5 h231), Ne.symm (tb4 h231), Ne.symm (tb3 h231), Ne.symm (tb2 h231), Ne.symm (tb1 h231), by show @Ne Nat 196 231; decide, (off1_of fun p hp => Ne.symm (hO1 p hp _ (List.mem_cons_of_mem _ (List.mem_cons_of_mem _ (List.mem_cons_of_mem _ (List.mem_cons_of_mem _ (List.mem_cons_of_mem _ (List.mem_cons_of_mem _ (List.mem_cons_of_mem _ (List.mem_cons_of_mem _ (List.mem_cons_of_mem _ (List.mem_cons_of_mem _ (List.mem_cons_of_mem _ (List.mem_cons_of_mem _ (List.mem_cons_of_mem _ (List.mem_cons_self))))))))))))))))⟩
  k_dflt (refine' c_table ?k1 ?k2 ?k3 ?k4 ?k5 ?kC2 ?kC3 ((224, tabObj #[]) :: (231, tabObj #[]) :: (L' + 1 + 1 + 1 + 1 + 1 + 1 + 1 + 1 + 1 + 1 + 1, oc1) :: (L' + 1 + 1 + 1 + 1 + 1 + 1 + 1 + 1 + 1 + 1, oc2) :: (L' + 1 + 1 + 1 + 1 + 1 + 1 + 1 + 1 + 1, oc3) :: (L' + 1 + 1 + 1 + 1 + 1 + 1 + 1 + 1, oc4) :: (L' + 1 + 1 + 1 + 1 + 1 + 1 + 1, oc5) :: (L' + 1 + 1 + 1 + 1 + 1 + 1, oc6) :: (L' + 1 + 1 + 1 + 1 + 1, oc7) :: (L' + 1 + 1 + 1 + 1, oc8) :: (L' + 1 + 1 + 1, oc9) :: (L' + 1 + 1, oc10) :: (L' + 1, oN1) :: (196, tabObj #[]) :: E1) ?k6 ?k7 ?k8 _ _ _ rfl hoffA hoffB [] (fun _ h => nomatch h) ?kT1 ?kT2 ND ysN.length ysN nums ?kin hN8 hn8 hnb ?_; (case k1 => k_asm); (case k2 => k_asm); (case k3 => k_asm); (case k4 => k_asm); (case k5 => first | exact rfl | assumption); (case kC2 => exact C2); (case kC3 => exact C3); (case k6 => exact News.sub (by k_asm) (by (first | kpt_turns | ((try simp only [List.cons_append, List.append_assoc, List.nil_append]); repeat' (first | (with_reducible refine sub_cons ?_ ?_; k_mem) | with_reducible refine sub_app ?_ ?_ | exact sub_nil | (intro q hq; kpc_turns)))))); (case k7 => ktr_room); (case k8 => ktr_units); (case kT1 => exact .inl rfl); (case kT2 => exact .inl rfl); (case kin => k_mem); k_whole)
  intro t d l h3 tk3 ob oc ext3 vsT kT tkH F3 N3 hR3 hx3 hol hot hod T2a T3a
  clear hoffA hoffB
  have hlK : ∀ a ∈ [(L' + 1 + 1 + 1 + 1 + 1 + 1 + 1 + 1 + 1 + 1 + 1 : Addr), (L' + 1 + 1 + 1 + 1 + 1 + 1 + 1 + 1 + 1 + 1 : Addr), (L' + 1 + 1 + 1 + 1 + 1 + 1 + 1 + 1 + 1 : Addr), (L' + 1 + 1 + 1 + 1 + 1 + 1 + 1 + 1 : Addr), (L' + 1 + 1 + 1 + 1 + 1 + 1 + 1 : Addr), (L' + 1 + 1 + 1 + 1 + 1 + 1 : Addr), (L' + 1 + 1 + 1 + 1 + 1 : Addr), (L' + 1 + 1 + 1 + 1 : Addr), (L' + 1 + 1 + 1 : Addr), (L' + 1 + 1 : Addr), (L' + 1 : Addr), 196, 224, 231], a ≠ l := List.forall_mem_cons.mpr ⟨off1_mem hol (L' + 1 + 1 + 1 + 1 + 1 + 1 + 1 + 1 + 1 + 1 + 1, oc1) (by k_mem), List.forall_mem_cons.mpr ⟨off1_mem hol (L' + 1 + 1 + 1 + 1 + 1 + 1 + 1 + 1 + 1 + 1, oc2) (by k_mem), List.forall_mem_cons.mpr ⟨off1_mem hol (L' + 1 + 1 + 1 + 1 + 1 + 1 + 1 + 1 + 1, oc3) (by k_mem), List.forall_mem_cons.mpr ⟨off1_mem hol (L' + 1 + 1 + 1 + 1 + 1 + 1 + 1 + 1, oc4) (by k_mem), List.forall_mem_cons.mpr ⟨off1_mem hol (L' + 1 + 1 + 1 + 1 + 1 + 1 + 1, oc5) (by k_mem), List.forall_mem_cons.mpr ⟨off1_mem hol (L' + 1 + 1 + 1 + 1 + 1 + 1, oc6) (by k_mem), List.forall_mem_cons.mpr ⟨off1_mem hol (L' + 1 + 1 + 1 + 1 + 1, oc7) (by k_mem), List.forall_mem_cons.mpr ⟨off1_mem hol (L' + 1 + 1 + 1 + 1, oc8) (by k_mem), List.forall_mem_cons.mpr ⟨off1_mem hol (L' + 1 + 1 + 1, oc9) (by k_mem), List.forall_mem_cons.mpr ⟨off1_mem hol (L' + 1 + 1, oc10) (by k_mem), List.forall_mem_cons.mpr ⟨off1_mem hol (L' + 1, oN1) (by k_mem), List.forall_mem_cons.mpr ⟨off1_mem hol (196, tabObj #[]) (by k_mem), List.forall_mem_cons.mpr ⟨off1_mem hol (224, tabObj #[]) (by k_mem), List.forall_mem_cons.mpr ⟨off1_mem hol (231, tabObj #[]) (by k_mem), (fun _ h => nomatch h)⟩⟩⟩⟩⟩⟩⟩⟩⟩⟩⟩⟩⟩⟩
  have htK : ∀ a ∈ [(L' + 1 + 1 + 1 + 1 + 1 + 1 + 1 + 1 + 1 + 1 + 1 : Addr), (L' + 1 + 1 + 1 + 1 + 1 + 1 + 1 + 1 + 1 + 1 : Addr), (L' + 1 + 1 + 1 + 1 + 1 + 1 + 1 + 1 + 1 : Addr), (L' + 1 + 1 + 1 + 1 + 1 + 1 + 1 + 1 : Addr), (L' + 1 + 1 + 1 + 1 + 1 + 1 + 1 : Addr), (L' + 1 + 1 + 1 + 1 + 1 + 1 : Addr), (L' + 1 + 1 + 1 + 1 + 1 : Addr), (L' + 1 + 1 + 1 + 1 : Addr), (L' + 1 + 1 + 1 : Addr), (L' + 1 + 1 : Addr), (L' + 1 : Addr), 196, 224, 231], a ≠ t := List.forall_mem_cons.mpr ⟨off1_mem hot (L' + 1 + 1 + 1 + 1 + 1 + 1 + 1 + 1 + 1 + 1 + 1, oc1) (by k_mem), List.forall_mem_cons.mpr ⟨off1_mem hot (L' + 1 + 1 + 1 + 1 + 1 + 1 + 1 + 1 + 1 + 1, oc2) (by k_mem), List.forall_mem_cons.mpr ⟨off1_mem hot (L' + 1 + 1 + 1 + 1 + 1 + 1 + 1 + 1 + 1, oc3) (by k_mem), List.forall_mem_cons.mpr ⟨off1_mem hot (L' + 1 + 1 + 1 + 1 + 1 + 1 + 1 + 1, oc4) (by k_mem), List.forall_mem_cons.mpr ⟨off1_mem hot (L' + 1 + 1 + 1 + 1 + 1 + 1 + 1, oc5) (by k_mem), List.forall_mem_cons.mpr ⟨off1_mem hot (L' + 1 + 1 + 1 + 1 + 1 + 1, oc6) (by k_mem), List.forall_mem_cons.mpr ⟨off1_mem hot (L' + 1 + 1 + 1 + 1 + 1, oc7) (by k_mem), List.forall_mem_cons.mpr ⟨off1_mem hot (L' + 1 + 1 + 1 + 1, oc8) (by k_mem), List.forall_mem_cons.mpr ⟨off1_mem hot (L' + 1 + 1 + 1, oc9) (by k_mem), List.forall_mem_cons.mpr ⟨off1_mem hot (L' + 1 + 1, oc10) (by k_mem), List.forall_mem_cons.mpr ⟨off1_mem hot (L' + 1, oN1) (by k_mem), List.forall_mem_cons.mpr ⟨off1_mem hot (196, tabObj #[]) (by k_mem), List.forall_mem_cons.mpr ⟨off1_mem hot (224, tabObj #[]) (by k_mem), List.forall_mem_cons.mpr ⟨off1_mem hot (231, tabObj #[]) (by k_mem), (fun _ h => nomatch h)⟩⟩⟩⟩⟩⟩⟩⟩⟩⟩⟩⟩⟩⟩
  have hdK : ∀ a ∈ [(L' + 1 + 1 + 1 + 1 + 1 + 1 + 1 + 1 + 1 + 1 + 1 : Addr), (L' + 1 + 1 + 1 + 1 + 1 + 1 + 1 + 1 + 1 + 1 : Addr), (L' + 1 + 1 + 1 + 1 + 1 + 1 + 1 + 1 + 1 : Addr), (L' + 1 + 1 + 1 + 1 + 1 + 1 + 1 + 1 : Addr), (L' + 1 + 1 + 1 + 1 + 1 + 1 + 1 : Addr), (L' + 1 + 1 + 1 + 1 + 1 + 1 : Addr), (L' + 1 + 1 + 1 + 1 + 1 : Addr), (L' + 1 + 1 + 1 + 1 : Addr), (L' + 1 + 1 + 1 : Addr), (L' + 1 + 1 : Addr), (L' + 1 : Addr), 196, 224, 231], a ≠ d := List.forall_mem_cons.mpr ⟨off1_mem hod (L' + 1 + 1 + 1 + 1 + 1 + 1 + 1 + 1 + 1 + 1 + 1, oc1) (by k_mem), List.forall_mem_cons.mpr ⟨off1_mem hod (L' + 1 + 1 + 1 + 1 + 1 + 1 + 1 + 1 + 1 + 1, oc2) (by k_mem), List.forall_mem_cons.mpr ⟨off1_mem hod (L' + 1 + 1 + 1 + 1 + 1 + 1 + 1 + 1 + 1, oc3) (by k_mem), List.forall_mem_cons.mpr ⟨off1_mem hod (L' + 1 + 1 + 1 + 1 + 1 + 1 + 1 + 1, oc4) (by k_mem), List.forall_mem_cons.mpr ⟨off1_mem hod (L' + 1 + 1 + 1 + 1 + 1 + 1 + 1, oc5) (by k_mem), List.forall_mem_cons.mpr ⟨off1_mem hod (L' + 1 + 1 + 1 + 1 + 1 + 1, oc6) (by k_mem), List.forall_mem_cons.mpr ⟨off1_mem hod (L' + 1 + 1 + 1 + 1 + 1, oc7) (by k_mem), List.forall_mem_cons.mpr ⟨off1_mem hod (L' + 1 + 1 + 1 + 1, oc8) (by k_mem), List.forall_mem_cons.mpr ⟨off1_mem hod (L' + 1 + 1 + 1, oc9) (by k_mem), List.forall_mem_cons.mpr ⟨off1_mem hod (L' + 1 + 1, oc10) (by k_mem), List.forall_mem_cons.mpr ⟨off1_mem hod (L' + 1, oN1) (by k_mem), List.forall_mem_cons.mpr ⟨off1_mem hod (196, tabObj #[]) (by k_mem), List.forall_mem_cons.mpr ⟨off1_mem hod (224, tabObj #[]) (by k_mem), List.forall_mem_cons.mpr ⟨off1_mem hod (231, tabObj #[]) (by k_mem), (fun _ h => nomatch h)⟩⟩⟩⟩⟩⟩⟩⟩⟩⟩⟩⟩⟩⟩
  have hxK : ∀ q ∈ ext3, ∀ a ∈ [(L' + 1 + 1 + 1 + 1 + 1 + 1 + 1 + 1 + 1 + 1 + 1 : Addr), (L' + 1 + 1 + 1 + 1 + 1 + 1 + 1 + 1 + 1 + 1 : Addr), (L' + 1 + 1 + 1 + 1 + 1 + 1 + 1 + 1 + 1 : Addr), (L' + 1 + 1 + 1 + 1 + 1 + 1 + 1 + 1 : Addr), (L' + 1 + 1 + 1 + 1 + 1 + 1 + 1 : Addr), (L' + 1 + 1 + 1 + 1 + 1 + 1 : Addr), (L' + 1 + 1 + 1 + 1 + 1 : Addr), (L' + 1 + 1 + 1 + 1 : Addr), (L' + 1 + 1 + 1 : Addr), (L' + 1 + 1 : Addr), (L' + 1 : Addr), 196, 224, 231], a ≠ q.1 := fun q hq => List.forall_mem_cons.mpr ⟨off1_mem (hx3 q hq) (L' + 1 + 1 + 1 + 1 + 1 + 1 + 1 + 1 + 1 + 1 + 1, oc1) (by k_mem), List.forall_mem_cons.mpr ⟨off1_mem (hx3 q hq) (L' + 1 + 1 + 1 + 1 + 1 + 1 + 1 + 1 + 1 + 1, oc2) (by k_mem), List.forall_mem_cons.mpr ⟨off1_mem (hx3 q hq) (L' + 1 + 1 + 1 + 1 + 1 + 1 + 1 + 1 + 1, oc3) (by k_mem), List.forall_mem_cons.mpr ⟨off1_mem (hx3 q hq) (L' + 1 + 1 + 1 + 1 + 1 + 1 + 1 + 1, oc4) (by k_mem), List.forall_mem_cons.mpr ⟨off1_mem (hx3 q hq) (L' + 1 + 1 + 1 + 1 + 1 + 1 + 1, oc5) (by k_mem), List.forall_mem_cons.mpr ⟨off1_mem (hx3 q hq) (L' + 1 + 1 + 1 + 1 + 1 + 1, oc6) (by k_mem), List.forall_mem_cons.mpr ⟨off1_mem (hx3 q hq) (L' + 1 + 1 + 1 + 1 + 1, oc7) (by k_mem), List.forall_mem_cons.mpr ⟨off1_mem (hx3 q hq) (L' + 1 + 1 + 1 + 1, oc8) (by k_mem), List.forall_mem_cons.mpr ⟨off1_mem (hx3 q hq) (L' + 1 + 1 + 1, oc9) (by k_mem), List.forall_mem_cons.mpr ⟨off1_mem (hx3 q hq) (L' + 1 + 1, oc10) (by k_mem), List.forall_mem_cons.mpr ⟨off1_mem (hx3 q hq) (L' + 1, oN1) (by k_mem), List.forall_mem_cons.mpr ⟨off1_mem (hx3 q hq) (196, tabObj #[]) (by k_mem), List.forall_mem_cons.mpr ⟨off1_mem (hx3 q hq) (224, tabObj #[]) (by k_mem), List.forall_mem_cons.mpr ⟨off1_mem (hx3 q hq) (231, tabObj #[]) (by k_mem), (fun _ h => nomatch h)⟩⟩⟩⟩⟩⟩⟩⟩⟩⟩⟩⟩⟩⟩
  obtain ⟨vsL, hvsL⟩ : ∃ x, x = vsT.toList := ⟨_, rfl⟩
  rw [← hvsL] at hR3
  rw [show vsT = vsL.toArray by simp [hvsL]] at N3
  clear hvsL
  obtain ⟨E2, hE2⟩ : ∃ e, e = (t, instObj 182 d) :: (d, dictOf [⟨PyData.keyHash w.params "_headers", .str "_headers" tkH, .ref l⟩] 1) :: (ext3 ++ E1) := ⟨_, rfl⟩
  have NB : News G0 L' h3 ((L' + 1 + 1 + 1 + 1 + 1 + 1 + 1 + 1 + 1 + 1 + 1, oc1) :: (L' + 1 + 1 + 1 + 1 + 1 + 1 + 1 + 1 + 1 + 1, oc2) :: (L' + 1 + 1 + 1 + 1 + 1 + 1 + 1 + 1 + 1, oc3) :: (L' + 1 + 1 + 1 + 1 + 1 + 1 + 1 + 1, oc4) :: (L' + 1 + 1 + 1 + 1 + 1 + 1 + 1, oc5) :: (L' + 1 + 1 + 1 + 1 + 1 + 1, oc6) :: (L' + 1 + 1 + 1 + 1 + 1, oc7) :: (L' + 1 + 1 + 1 + 1, oc8) :: (L' + 1 + 1 + 1, oc9) :: (L' + 1 + 1, oc10) :: (L' + 1, oN1) :: (196, tabObj #[]) :: (224, ob) :: (231, oc) :: (l, W.listOf vsL.toArray kT) :: E2) := News.sub N3 (by rw [hE2]; (first | kpt_turns | ((try simp only [List.cons_append, List.append_assoc, List.nil_append]); repeat' (first | (with_reducible refine sub_cons ?_ ?_; k_mem) | with_reducible refine sub_app ?_ ?_ | exact sub_nil | (intro q hq; kpc_turns)))))
  have hO2 : ∀ q ∈ E2, ∀ a ∈ [(L' + 1 + 1 + 1 + 1 + 1 + 1 + 1 + 1 + 1 + 1 + 1 : Addr), (L' + 1 + 1 + 1 + 1 + 1 + 1 + 1 + 1 + 1 + 1 : Addr), (L' + 1 + 1 + 1 + 1 + 1 + 1 + 1 + 1 + 1 : Addr), (L' + 1 + 1 + 1 + 1 + 1 + 1 + 1 + 1 : Addr), (L' + 1 + 1 + 1 + 1 + 1 + 1 + 1 : Addr), (L' + 1 + 1 + 1 + 1 + 1 + 1 : Addr), (L' + 1 + 1 + 1 + 1 + 1 : Addr), (L' + 1 + 1 + 1 + 1 : Addr), (L' + 1 + 1 + 1 : Addr), (L' + 1 + 1 : Addr), (L' + 1 : Addr), 196, 224, 231], a ≠ q.1 := by
    rw [hE2]
    intro q hq
    rcases List.mem_cons.mp hq with rfl | hq
    · exact htK
    · rcases List.mem_cons.mp hq with rfl | hq
      · exact hdK
      · rcases List.mem_append.mp hq with hq | hq
        · exact hxK q hq
        · exact hO1 q hq
  have hoL : LCg.Off1 l E2 := by
    rw [hE2]
    exact ⟨off1_mem hol (t, instObj 182 d) (by k_mem), off1_mem hol (d, dictOf [] 1) (by k_mem), off1_append (off1_swap hx3 (o := W.listOf #[] 0) (by k_mem)) (off_sub hol (by (first | kpt_turns | ((try simp only [List.cons_append, List.append_assoc, List.nil_append]); repeat' (first | (with_reducible refine sub_cons ?_ ?_; k_mem) | with_reducible refine sub_app ?_ ?_ | exact sub_nil | (intro q hq; kpc_turns))))))⟩
  have hmt : (t, instObj 182 d) ∈ E2 := by rw [hE2]; k_mem
  have hmd : (d, dictOf [⟨PyData.keyHash w.params "_headers", .str "_headers" tkH, .ref l⟩] 1) ∈ E2 := by rw [hE2]; k_mem
  have hmN2 : (ND, W.listOf ysN.toArray ysN.length) ∈ E2 := by rw [hE2]; exact List.mem_cons_of_mem _ (List.mem_cons_of_mem _ (List.mem_append_right _ hmN))
  have hR4 : RowsIn E2 (rowsTo nums 8) vsL := RowsIn.mono (by rw [hE2]; (first | kpt_turns | ((try simp only [List.cons_append, List.append_assoc, List.nil_append]); repeat' (first | (with_reducible refine sub_cons ?_ ?_; k_mem) | with_reducible refine sub_app ?_ ?_ | exact sub_nil | (intro q hq; kpc_turns))))) hR3
  have T2b : TabOk 185 4 "_int2digits.<locals>.inner" ob E2 := TabOk.mono (by rw [hE2]; (first | kpt_turns | ((try simp only [List.cons_append, List.append_assoc, List.nil_append]); repeat' (first | (with_reducible refine sub_cons ?_ ?_; k_mem) | with_reducible refine sub_app ?_ ?_ | exact sub_nil | (intro q hq; kpc_turns))))) T2a
  have T3b : TabOk 200 4 "_digits2int.<locals>.inner" oc E2 := TabOk.mono (by rw [hE2]; (first | kpt_turns | ((try simp only [List.cons_append, List.append_assoc, List.nil_append]); repeat' (first | (with_reducible refine sub_cons ?_ ?_; k_mem) | with_reducible refine sub_app ?_ ?_ | exact sub_nil | (intro q hq; kpc_turns))))) T3a
  have hlT : vsL.length = 8 := by rw [← hR4.length]; rfl
  clear N3 hR3 hx3 hol hot hod T2a T3a htK hdK hxK hE2 hmN hO1
  have hcB : LCg.Off1 (L' + 1 + 1) ((L' + 1, oN1) :: (196, tabObj #[]) :: (224, ob) :: (231, oc) :: (l, W.listOf vsL.toArray kT) :: E2) := ⟨(up1 _), (tb2 h196), (tb2 h224), (tb2 h231), Ne.symm (hlK _ (List.mem_cons_of_mem _ (List.mem_cons_of_mem _ (List.mem_cons_of_mem _ (List.mem_cons_of_mem _ (List.mem_cons_of_mem _ (List.mem_cons_of_mem _ (List.mem_cons_of_mem _ (List.mem_cons_of_mem _ (List.mem_cons_of_mem _ (List.mem_cons_self))))))))))), (off1_of fun p hp => Ne.symm (hO2 p hp _ (List.mem_cons_of_mem _ (List.mem_cons_of_mem _ (List.mem_cons_of_mem _ (List.mem_cons_of_mem _ (List.mem_cons_of_mem _ (List.mem_cons_of_mem _ (List.mem_cons_of_mem _ (List.mem_cons_of_mem _ (List.mem_cons_of_mem _ (List.mem_cons_self))))))))))))⟩
  refine letN NB ?_
  clear NB
  intro LD3 NB
  k_steps
  rename_i hx1 oN2 F4 N4 dN2
  refine letN N4 ?_
  clear N4
  intro LD4 N4
  unfold Sealed
  k_dflt (refine LCg.CompSrc.ledger (its := ysN.toArray) (hh := rfl) (by k_asm) N4 (by k_mem) ?_ ?_)
  · rw [List.size_toArray, ← (all2_of hN8).length, hn8]; show 8 ≤ _; decide +kernel
  intro ggC
  refine restU_same (RR := fun x v => IsI x v ∧ -400 < x ∧ x < 400) (RS := fun x v => IsS (txt (fOf x) (x / 4)) v) (as := nums) (fun x => x) ?hA2 (.inr ⟨_, by k_mem, rfl, _, rfl⟩) ?elmC ?finC
  case hA2 =>
    have key : ∀ {xs : List Int} {vs : List Value}, All2 IsI xs vs → (∀ x ∈ xs, -400 < x ∧ x < 400) → All2 (fun x v => IsI x v ∧ -400 < x ∧ x < 400) xs vs := by
      intro xs vs h
      induction h with
      | nil => intro _; exact .nil
      | cons h1 _ ih => intro hb; exact .cons ⟨h1, hb _ List.mem_cons_self⟩ (ih fun x hx => hb x (List.mem_cons_of_mem _ hx))
    exact key (all2_of hN8) hnb
  case elmC =>
    intro x v ys pp1 I oI C oC D m₂ h tk E' a1 a2 a3 a4 a5 a6
    refine hideG fun GG hGG => ?_
    obtain ⟨⟨tx, rfl⟩, hx1, hx2⟩ := pp1
    refine hGG ?_
    clear hGG GG
    have hf9 := (fOf x).isLt
    k_steps
    unfold Sealed
    rw [item4]
    k_dflt (refine' c_text ?k1 ?k2 ?k3 ?k4 ?k5 _ ?k6 ?k7 ?k8 _ _ _ _ ?hx ?_; (case k1 => k_asm); (case k2 => k_asm); (case k3 => k_asm); (case k4 => k_asm); (case k5 => first | exact rfl | assumption); (case k6 => k_asm); (case k7 => ktr_room); (case k8 => ktr_units); (case hx => unfold Small; omega); k_whole)
    intro t8 h8 tk8 F8 N8
    (try kfm_turns)
    k_steps
    · exact ⟨_, rfl⟩
    · exact ⟨_, _, rfl, by k_asm, by k_asm⟩
  intro ysT hysT
  rw [List.map_id'] at hysT
  (try refine openSeal ?_)
  (try unfold Sealed)
  unfold LCg.FinE
  intro DT hT tkT FT NT offT
  (try kfm_turns)
  obtain ⟨E3, hE3⟩ : ∃ e, e = (DT, LCg.lst ysT) :: E2 := ⟨_, rfl⟩
  have hK3 : ∀ a ∈ [(L' + 1 + 1 + 1 + 1 + 1 + 1 + 1 + 1 + 1 + 1 + 1 : Addr), (L' + 1 + 1 + 1 + 1 + 1 + 1 + 1 + 1 + 1 + 1 : Addr), (L' + 1 + 1 + 1 + 1 + 1 + 1 + 1 + 1 + 1 : Addr), (L' + 1 + 1 + 1 + 1 + 1 + 1 + 1 + 1 : Addr), (L' + 1 + 1 + 1 + 1 + 1 + 1 + 1 : Addr), (L' + 1 + 1 + 1 + 1 + 1 + 1 : Addr), (L' + 1 + 1 + 1 + 1 + 1 : Addr), (L' + 1 + 1 + 1 + 1 : Addr), (L' + 1 + 1 + 1 : Addr), (L' + 1 + 1 : Addr), (L' + 1 : Addr), 196, 224, 231], a ≠ DT := keys_ne (pre := [(L' + 1 + 1 + 1 + 1 + 1 + 1 + 1 + 1 + 1 + 1 + 1, oc1), (L' + 1 + 1 + 1 + 1 + 1 + 1 + 1 + 1 + 1 + 1, oc2), (L' + 1 + 1 + 1 + 1 + 1 + 1 + 1 + 1 + 1, oc3), (L' + 1 + 1 + 1 + 1 + 1 + 1 + 1 + 1, oc4), (L' + 1 + 1 + 1 + 1 + 1 + 1 + 1, oc5), (L' + 1 + 1 + 1 + 1 + 1 + 1, oc6), (L' + 1 + 1 + 1 + 1 + 1, oc7), (L' + 1 + 1 + 1 + 1, oc8), (L' + 1 + 1 + 1, oc9), (L' + 1 + 1, oN2), (L' + 1, oN1), (196, tabObj #[]), (224, ob), (231, oc)]) offT
  have NN3 : News G0 L' hT ((L' + 1 + 1 + 1 + 1 + 1 + 1 + 1 + 1 + 1 + 1 + 1, oc1) :: (L' + 1 + 1 + 1 + 1 + 1 + 1 + 1 + 1 + 1 + 1, oc2) :: (L' + 1 + 1 + 1 + 1 + 1 + 1 + 1 + 1 + 1, oc3) :: (L' + 1 + 1 + 1 + 1 + 1 + 1 + 1 + 1, oc4) :: (L' + 1 + 1 + 1 + 1 + 1 + 1 + 1, oc5) :: (L' + 1 + 1 + 1 + 1 + 1 + 1, oc6) :: (L' + 1 + 1 + 1 + 1 + 1, oc7) :: (L' + 1 + 1 + 1 + 1, oc8) :: (L' + 1 + 1 + 1, oc9) :: (L' + 1 + 1, oN2) :: (L' + 1, oN1) :: (196, tabObj #[]) :: (224, ob) :: (231, oc) :: (l, W.listOf vsL.toArray kT) :: E3) := by
    rw [hE3]
    first
      | exact News.mv [(L' + 1 + 1 + 1 + 1 + 1 + 1 + 1 + 1 + 1 + 1 + 1, oc1), (L' + 1 + 1 + 1 + 1 + 1 + 1 + 1 + 1 + 1 + 1, oc2), (L' + 1 + 1 + 1 + 1 + 1 + 1 + 1 + 1 + 1, oc3), (L' + 1 + 1 + 1 + 1 + 1 + 1 + 1 + 1, oc4), (L' + 1 + 1 + 1 + 1 + 1 + 1 + 1, oc5), (L' + 1 + 1 + 1 + 1 + 1 + 1, oc6), (L' + 1 + 1 + 1 + 1 + 1, oc7), (L' + 1 + 1 + 1 + 1, oc8), (L' + 1 + 1 + 1, oc9), (L' + 1 + 1, oN2), (L' + 1, oN1), (196, tabObj #[]), (224, ob), (231, oc), (l, W.listOf vsL.toArray kT)] NT
      | exact News.sub NT (by (first | kpt_turns | ((try simp only [List.cons_append, List.append_assoc, List.nil_append]); repeat' (first | (with_reducible refine sub_cons ?_ ?_; k_mem) | with_reducible refine sub_app ?_ ?_ | exact sub_nil | (intro q hq; kpc_turns)))))
  have hO3 : ∀ q ∈ E3, ∀ a ∈ [(L' + 1 + 1 + 1 + 1 + 1 + 1 + 1 + 1 + 1 + 1 + 1 : Addr), (L' + 1 + 1 + 1 + 1 + 1 + 1 + 1 + 1 + 1 + 1 : Addr), (L' + 1 + 1 + 1 + 1 + 1 + 1 + 1 + 1 + 1 : Addr), (L' + 1 + 1 + 1 + 1 + 1 + 1 + 1 + 1 : Addr), (L' + 1 + 1 + 1 + 1 + 1 + 1 + 1 : Addr), (L' + 1 + 1 + 1 + 1 + 1 + 1 : Addr), (L' + 1 + 1 + 1 + 1 + 1 : Addr), (L' + 1 + 1 + 1 + 1 : Addr), (L' + 1 + 1 + 1 : Addr), (L' + 1 + 1 : Addr), (L' + 1 : Addr), 196, 224, 231], a ≠ q.1 := by
    rw [hE3]
    intro q hq
    rcases List.mem_cons.mp hq with rfl | hq
    · exact hK3
    · exact hO2 q hq
  have hS3 : ∀ q ∈ E2, q ∈ E3 := by rw [hE3]; exact fun q h => List.mem_cons_of_mem _ h
  replace hoL : LCg.Off1 l E3 := by rw [hE3]; exact ⟨Ne.symm (off1_mem offT (l, W.listOf vsL.toArray kT) (by k_mem)), hoL⟩
  have hm3 : (DT, LCg.lst ysT) ∈ E3 := by rw [hE3]; exact List.mem_cons_self
  replace hmt := hS3 _ hmt
  replace hmd := hS3 _ hmd
  replace hmN2 := hS3 _ hmN2
  replace hR4 := RowsIn.mono hS3 hR4
  replace T2b := TabOk.mono hS3 T2b
  replace T3b := TabOk.mono hS3 T3b
  have hS3k := hS3
  clear NT offT hO2 hE3 hK3 hS3
  refine letN NN3 ?_
  clear NN3
  intro LD5 NN3
  have hcC : LCg.Off1 (L' + 1 + 1 + 1) ((L' + 1 + 1, oN2) :: (L' + 1, oN1) :: (196, tabObj #[]) :: (224, ob) :: (231, oc) :: (l, W.listOf vsL.toArray kT) :: E3) := ⟨(up1 _), (up2 _), (tb3 h196), (tb3 h224), (tb3 h231), Ne.symm (hlK _ (List.mem_cons_of_mem _ (List.mem_cons_of_mem _ (List.mem_cons_of_mem _ (List.mem_cons_of_mem _ (List.mem_cons_of_mem _ (List.mem_cons_of_mem _ (List.mem_cons_of_mem _ (List.mem_cons_of_mem _ (List.mem_cons_self)))))))))), (off1_of fun p hp => Ne.symm (hO3 p hp _ (List.mem_cons_of_mem _ (List.mem_cons_of_mem _ (List.mem_cons_of_mem _ (List.mem_cons_of_mem _ (List.mem_cons_of_mem _ (List.mem_cons_of_mem _ (List.mem_cons_of_mem _ (List.mem_cons_of_mem _ (List.mem_cons_self)))))))))))⟩
  k_steps
  rename_i hx2 oN3 F5 N5 dN3
  refine letN N5 ?_
  clear N5
  intro LD6 N5
  unfold Sealed
  refine ⟨_, _, _, rfl, rfl, by decide +kernel, by k_asm, N5, by decide +kernel, ?_⟩
  intro s₂ pp2
  refine hideG fun GG hGG => ?_
  obtain ⟨ggD, rfl⟩ := pp2
  refine hGG ?_
  clear hGG GG
  refine restU_J (n := 4) (fun i ys nw => ∃ ex, nw = ex ++ LD6 ∧ All2 (fun p v => LV ex (pairT nums p) v) (List.range i) ys) ?turnD ?finD _ _ _ _ rfl ⟨[], rfl, All2.nil⟩
  case turnD =>
    intro i v ys nw hi hsv pp3 I oI C oC D m₂ h tk E' a1 a2 a3 a4 a5 a6
    refine hideG fun GG hGG => ?_
    obtain ⟨ex, rfl, hys⟩ := pp3
    refine hGG ?_
    clear hGG GG
    obtain ⟨p, u, rfl, rfl⟩ := sign_mixed true _ rfl hsv
    ((with_reducible rename News _ _ _ _ => N9); refine letN N9 ?_; (clear N9); intro LD9 N9)
    k_steps
    unfold Sealed
    k_dflt (refine' c_getall ?k1 ?k2 ?k3 ?k4 ?k5 _ ?k6 ?k7 ?k8 t d l 1 kT vsL (rowsTo nums 8) tkH _ _ p ?Tt ?Td ?Tl ?R ?L ?_; (case k1 => k_asm); (case k2 => k_asm); (case k3 => k_asm); (case k4 => k_asm); (case k5 => first | exact rfl | assumption); (case k6 => k_asm); (case k7 => ktr_room); (case k8 => ktr_units); (case Tt => k_mem); (case Td => k_mem); (case Tl => k_mem); (case R => exact RowsIn.mono (by (first | kpt_turns | ((try simp only [List.cons_append, List.append_assoc, List.nil_append]); repeat' (first | (with_reducible refine sub_cons ?_ ?_; k_mem) | with_reducible refine sub_app ?_ ?_ | exact sub_nil | (intro q hq; kpc_turns))))) hR4); (case L => omega); k_whole)
    intro Dg hg9 tkg ysg Fg Ng offg hysg
    rw [filter8] at hysg
    k_steps
    unfold Sealed
    have NNg : News G0 L' hg9 ((I, oI) :: (C, oC) :: (D, LCg.lst ys) :: (((Dg, LCg.lst ysg) :: ex) ++ LD6)) := News.sub Ng (by (first | kpt_turns | ((try simp only [List.cons_append, List.append_assoc, List.nil_append]); repeat' (first | (with_reducible refine sub_cons ?_ ?_; k_mem) | with_reducible refine sub_app ?_ ?_ | exact sub_nil | (intro q hq; kpc_turns)))))
    refine' ⟨_, _, _, rfl, ?fD, NNg, ?oD, trivial, ⟨(Dg, LCg.lst ysg) :: ex, rfl, ?aD⟩⟩
    case fD => k_asm
    case oD => exact off3_ins (X := Dg) (o := LCg.lst ysg) a5 ⟨Ne.symm (off1_mem offg (I, oI) (by k_mem)), Ne.symm (off1_mem offg (C, oC) (by k_mem)), Ne.symm (off1_mem offg (D, LCg.lst ys) (by k_mem))⟩ (by (first | kpt_turns | ((try simp only [List.cons_append, List.append_assoc, List.nil_append]); repeat' (first | (with_reducible refine sub_cons ?_ ?_; k_mem) | with_reducible refine sub_app ?_ ?_ | exact sub_nil | (intro q hq; kpc_turns)))))
    case aD =>
      rw [List.range_succ]
      exact All2.snoc (All2.imp (fun _ _ => LV.mono fun q h => List.mem_cons_of_mem _ h) hys) ⟨Dg, ysg, _, rfl, List.mem_cons_self, hysg⟩
  intro ysG nw pp4
  refine hideG fun GG hGG => ?_
  obtain ⟨exG, rfl, hysG⟩ := pp4
  refine hGG ?_
  clear hGG GG
  (try refine openSeal ?_)
  (try unfold Sealed)
  unfold LCg.FinE
  intro DG hG tkG FG NG offG
  (try kfm_turns)
  clear offG
  k_steps
  rename_i hE9 tkE9 tr1 ur1 vr1 hrgE FE9 NE9 kpE
  refine letN NE9 ?_
  clear NE9
  intro LDe NE9
  unfold Sealed
  k_dflt (refine LCg.CompSrc.range (n := 4) rfl FE9 NE9 hrgE (by decide +kernel) (by decide +kernel) (by decide +kernel) ?_)
  intro ggE
  refine restU_J (n := 4) (fun i ys nw => ∃ ex, nw = ex ++ LDe ∧ All2 (fun p v => LV ex (pairT nums p) v) (List.range i) ys) ?turnE ?finE _ _ _ _ rfl ⟨[], rfl, All2.nil⟩
  case turnE =>
    intro i v ys nw hi pp5 pp6 I oI C oC D m₂ h tk E' a1 a2 a3 a4 a5 a6
    refine hideG fun GG hGG => ?_
    obtain ⟨ti, rfl⟩ := pp5
    obtain ⟨ex, rfl, hys⟩ := pp6
    refine hGG ?_
    clear hGG GG
    obtain ⟨va, hva, ta, rfl⟩ := all2_getD (i := i) 0 hysT (by omega)
    obtain ⟨vb, hvb, tb, rfl⟩ := all2_getD (i := i + 4) 0 hysT (by omega)
    ((with_reducible rename News _ _ _ _ => N9); refine letN N9 ?_; (clear N9); intro LD9 N9)
    k_steps
    unfold Sealed
    refine PyProof.Rows.item_list (items := ysT.toArray) (News.isList (by k_asm) (by k_mem)) (by omega) (by omega) (x := .str (txt (fOf (nums.getD i 0)) (nums.getD i 0 / 4)) ta) (by rw [show (0 + (i : Int)).toNat = i by omega]; simpa using hva) ?_
    k_steps
    unfold Sealed
    refine PyProof.Rows.item_list (items := ysT.toArray) (News.isList (by k_asm) (by k_mem)) (by omega) (by omega) (x := .str (txt (fOf (nums.getD (i + 4) 0)) (nums.getD (i + 4) 0 / 4)) tb) (by rw [show (0 + (i : Int) + 4).toNat = i + 4 by omega]; simpa using hvb) ?_
    k_steps
    rename_i lE hE FE NE g19
    have offe : LCg.Off1 lE ((I, oI) :: (C, oC) :: (D, LCg.lst ys) :: (ex ++ LDe)) := off1_of (allLt_ne (allLt_of g19) (Nat.le_refl _))
    clear g19
    unfold Sealed
    have NNe : News G0 L' hE ((I, oI) :: (C, oC) :: (D, LCg.lst ys) :: (((lE, W.listOf #[.str (txt (fOf (nums.getD i 0)) (nums.getD i 0 / 4)) ta, .str (txt (fOf (nums.getD (i + 4) 0)) (nums.getD (i + 4) 0 / 4)) tb] 0) :: ex) ++ LDe)) := News.sub NE (by (first | kpt_turns | ((try simp only [List.cons_append, List.append_assoc, List.nil_append]); repeat' (first | (with_reducible refine sub_cons ?_ ?_; k_mem) | with_reducible refine sub_app ?_ ?_ | exact sub_nil | (intro q hq; kpc_turns)))))
    refine' ⟨_, _, _, rfl, ?fE, NNe, ?oE, trivial, ⟨_, rfl, ?aE⟩⟩
    case fE => k_asm
    case oE => exact off3_ins (X := lE) (o := W.listOf #[.str (txt (fOf (nums.getD i 0)) (nums.getD i 0 / 4)) ta, .str (txt (fOf (nums.getD (i + 4) 0)) (nums.getD (i + 4) 0 / 4)) tb] 0) a5 ⟨Ne.symm (off1_mem offe (I, oI) (by k_mem)), Ne.symm (off1_mem offe (C, oC) (by k_mem)), Ne.symm (off1_mem offe (D, LCg.lst ys) (by k_mem))⟩ (by (first | kpt_turns | ((try simp only [List.cons_append, List.append_assoc, List.nil_append]); repeat' (first | (with_reducible refine sub_cons ?_ ?_; k_mem) | with_reducible refine sub_app ?_ ?_ | exact sub_nil | (intro q hq; kpc_turns)))))
    case aE =>
      rw [List.range_succ]
      exact All2.snoc (All2.imp (fun _ _ => LV.mono fun q h => List.mem_cons_of_mem _ h) hys) ⟨lE, [.str (txt (fOf (nums.getD i 0)) (nums.getD i 0 / 4)) ta, .str (txt (fOf (nums.getD (i + 4) 0)) (nums.getD (i + 4) 0 / 4)) tb], 0, rfl, List.mem_cons_self, .cons ⟨_, rfl⟩ (.cons ⟨_, rfl⟩ .nil)⟩
  intro ysE nw pp7
  refine hideG fun GG hGG => ?_
  obtain ⟨exE, rfl, hysE⟩ := pp7
  refine hGG ?_
  clear hGG GG
  (try refine openSeal ?_)
  (try unfold Sealed)
  unfold LCg.FinE
  intro DE hE tkE FE NE offE
  (try kfm_turns)
  clear offE
  k_steps
  unfold Sealed
  have mapG : ∀ {ex : List (Addr × Obj)} {ysx : List Value}, All2 (fun p v => LV ex (pairT nums p) v) (List.range 4) ysx → All2 (LV ex) ((List.range 4).map (pairT nums)) ysx := fun h => by
    generalize List.range 4 = rr at h ⊢
    induction h with
    | nil => exact .nil
    | cons h1 _ ih => exact .cons h1 ih
  have okP : ∀ d ∈ ((List.range 4).map (pairT nums)).map (fun ss => W.Dat.list (datS ss)), kqdOk 8 d = true := ok_lists fun ss hs => by
    obtain ⟨p, _, rfl⟩ := List.mem_map.mp hs
    exact pairT_ok nums p
  refine kqd_ne (n₁ := exG) (n₂ := exE) (by k_asm) (by k_mem) rfl rfl (dat_lvs (mapG hysG)) (by (first | kpt_turns | ((try simp only [List.cons_append, List.append_assoc, List.nil_append]); repeat' (first | (with_reducible refine sub_cons ?_ ?_; k_mem) | with_reducible refine sub_app ?_ ?_ | exact sub_nil | (intro q hq; kpc_turns))))) (by k_mem) rfl rfl (dat_lvs (mapG hysE)) (by (first | kpt_turns | ((try simp only [List.cons_append, List.append_assoc, List.nil_append]); repeat' (first | (with_reducible refine sub_cons ?_ ?_; k_mem) | with_reducible refine sub_app ?_ ?_ | exact sub_nil | (intro q hq; kpc_turns))))) okP okP ?huE ?_
  case huE => ktr_units
  rw [ne_same rfl]
  clear mapG okP hysG hysE
  (with_reducible rename News _ _ _ _ => N5z)
  have N6z : News G0 L' _ LD6 := News.sub N5z (by (first | kpt_turns | ((try simp only [List.cons_append, List.append_assoc, List.nil_append]); repeat' (first | (with_reducible refine sub_cons ?_ ?_; k_mem) | with_reducible refine sub_app ?_ ?_ | exact sub_nil | (intro q hq; kpc_turns)))))
  clear N5z
  k_steps
  unfold Sealed
  rename News _ _ _ _ => N6
  refine ⟨_, _, _, rfl, rfl, by decide +kernel, by k_asm, N6, by decide +kernel, ?_⟩
  intro s₂ pp8
  refine hideG fun GG hGG => ?_
  obtain ⟨ggF, rfl⟩ := pp8
  refine hGG ?_
  clear hGG GG
  refine restU_J (n := 4) (fun i ys nw => nw = LD6 ∧ All2 (fun p v => IsS (txt (fOf (nums.getD p 0)) (nums.getD p 0 / 4)) v) (List.range i) ys) ?turnF ?finF _ _ _ _ rfl ⟨rfl, All2.nil⟩
  case turnF =>
    intro i v ys nw hi hsv pp9 I oI C oC D m₂ h tk E' a1 a2 a3 a4 a5 a6
    refine hideG fun GG hGG => ?_
    obtain ⟨rfl, hys⟩ := pp9
    refine hGG ?_
    clear hGG GG
    obtain ⟨p, u, rfl, rfl⟩ := sign_mixed false _ rfl hsv
    k_steps
    unfold Sealed
    k_dflt (refine' c_get ?k1 ?k2 ?k3 ?k4 ?k5 _ ?k6 ?k7 ?k8 t d l 1 kT vsL (rowsTo nums 8) tkH _ _ p ?Tt ?Td ?Tl ?R ?L ?_; (case k1 => k_asm); (case k2 => k_asm); (case k3 => k_asm); (case k4 => k_asm); (case k5 => first | exact rfl | assumption); (case k6 => k_asm); (case k7 => ktr_room); (case k8 => ktr_units); (case Tt => k_mem); (case Td => k_mem); (case Tl => k_mem); (case R => exact RowsIn.mono (by (first | kpt_turns | ((try simp only [List.cons_append, List.append_assoc, List.nil_append]); repeat' (first | (with_reducible refine sub_cons ?_ ?_; k_mem) | with_reducible refine sub_app ?_ ?_ | exact sub_nil | (intro q hq; kpc_turns))))) hR4); (case L => omega); k_whole)
    intro rg hg9 tkg Fg Ng hrg
    rw [find8] at hrg
    obtain ⟨trg, rfl⟩ := hrg
    k_steps
    unfold Sealed
    refine' ⟨_, _, _, rfl, ?fF, Ng, a5, trivial, ⟨rfl, ?aF⟩⟩
    case fF => k_asm
    case aF =>
      rw [List.range_succ]
      exact hys.snoc ⟨_, rfl⟩
  intro ysF nw pp10
  refine hideG fun GG hGG => ?_
  obtain ⟨rfl, hysF⟩ := pp10
  refine hGG ?_
  clear hGG GG
  (try refine openSeal ?_)
  (try unfold Sealed)
  unfold LCg.FinE
  intro DF hF tkF FF NF offF
  (try kfm_turns)
  clear offF
  k_steps
  unfold Sealed
  have hlT8 : ysT.length = 8 := by rw [← hysT.length, hn8]
  refine kms_slice_lit (its := ysT.toArray) (zs := ysT.take 4) (by k_asm) (by k_asm) (News.isList (by k_asm) (by k_mem)) .none (.int _ _) (pick_upto4 hlT8) ?_ (by with_unfolding_all rfl) (by intro _; with_unfolding_all rfl) (by rw [List.size_toArray, hlT8]; show 8 ≤ _; decide +kernel)
  intro DS hS FS NS lS
  (try kfm_turns)
  k_steps
  unfold Sealed
  refine kqd_ne (n₁ := []) (n₂ := []) NS (by k_mem) rfl rfl (dat_strs (strs_map hysF)) (fun _ h => nomatch h) (List.mem_cons_self) rfl rfl (dat_strs (strs_take hn8 hysT)) (fun _ h => nomatch h) (ok_strs (ok_txts nums)) (ok_strs (ok_txts nums)) ?huG ?_
  case huG => ktr_units
  rw [ne_same rfl]
  have NG7 : News G0 L' hS LD6 := News.sub NS (by (first | kpt_turns | ((try simp only [List.cons_append, List.append_assoc, List.nil_append]); repeat' (first | (with_reducible refine sub_cons ?_ ?_; k_mem) | with_reducible refine sub_app ?_ ?_ | exact sub_nil | (intro q hq; kpc_turns)))))
  clear NS lS hysF
  k_steps
  unfold Sealed
  have hvl : vs.length = ns.length := (all2_of hI).length.symm
  refine kmk_slice_ints (ns := ns) (ms := ns.drop 8) (vs := vs) (by k_asm) (by k_asm) ?hlS (.int _ _) .none hI (kmk_from hI (by decide)) rfl ?_ (by with_unfolding_all rfl) (by intro _; with_unfolding_all rfl) ?hzS
  case hlS =>
    obtain ⟨oS, hoS, hrS⟩ := hsl
    exact ⟨oS, Fr.keep (by k_asm) _ _ hoS, hrS⟩
  case hzS => rw [List.size_toArray, hvl]; exact Nat.le_trans hns63 (by decide +kernel)
  intro DV wsV hV FV NV lV hwV hcV hleV
  (try kfm_turns)
  have hne4 : DV ≠ L' + 1 + 1 + 1 + 1 := Nat.ne_of_gt (lV (L' + 1 + 1 + 1 + 1, oc8) (by k_mem))
  clear lV NG7
  have hcF : LCg.Off1 (L' + 1 + 1 + 1 + 1) ((L' + 1 + 1 + 1, oN3) :: (L' + 1 + 1, oN2) :: (L' + 1, oN1) :: (196, tabObj #[]) :: (224, ob) :: (231, oc) :: (l, W.listOf vsL.toArray kT) :: E3) := ⟨(up1 _), (up2 _), (up3 _), (tb4 h196), (tb4 h224), (tb4 h231), Ne.symm (hlK _ (List.mem_cons_of_mem _ (List.mem_cons_of_mem _ (List.mem_cons_of_mem _ (List.mem_cons_of_mem _ (List.mem_cons_of_mem _ (List.mem_cons_of_mem _ (List.mem_cons_of_mem _ (List.mem_cons_self))))))))), (off1_of fun p hp => Ne.symm (hO3 p hp _ (List.mem_cons_of_mem _ (List.mem_cons_of_mem _ (List.mem_cons_of_mem _ (List.mem_cons_of_mem _ (List.mem_cons_of_mem _ (List.mem_cons_of_mem _ (List.mem_cons_of_mem _ (List.mem_cons_self))))))))))⟩
  obtain ⟨tn, htn⟩ : ∃ x, x = (ns.drop 8).sum := ⟨_, rfl⟩
  k_steps
  unfold Sealed
  refine sumK (vs := wsV) (ns := ns.drop 8) rfl (by k_asm) (by k_asm) (News.isList (by k_asm) (by k_mem)) hwV ?_
  intros
  (try kfm_turns)
  k_steps
  first
  | (rename_i oN4 F7 N7 dN4 q21 q22 hR9 tkR tr2 ur2 vr2 hrgR FR9 NR9 kpR; have zz : oN4.data = _ := dN4; clear zz)
  | rename_i oN4 F7 N7 dN4 hR9 tkR tr2 ur2 vr2 hrgR FR9 NR9 kpR
  have N8 : News G0 L' hR9 ((L' + 1 + 1 + 1 + 1 + 1 + 1 + 1 + 1 + 1 + 1 + 1, oc1) :: (L' + 1 + 1 + 1 + 1 + 1 + 1 + 1 + 1 + 1 + 1, oc2) :: (L' + 1 + 1 + 1 + 1 + 1 + 1 + 1 + 1 + 1, oc3) :: (L' + 1 + 1 + 1 + 1 + 1 + 1 + 1 + 1, oc4) :: (L' + 1 + 1 + 1 + 1 + 1 + 1 + 1, oc5) :: (L' + 1 + 1 + 1 + 1 + 1 + 1, oc6) :: (L' + 1 + 1 + 1 + 1 + 1, oc7) :: (L' + 1 + 1 + 1 + 1, oN4) :: (L' + 1 + 1 + 1, oN3) :: (L' + 1 + 1, oN2) :: (L' + 1, oN1) :: (196, tabObj #[]) :: (224, ob) :: (231, oc) :: (l, W.listOf vsL.toArray kT) :: E3) := News.sub NR9 (by (first | kpt_turns | ((try simp only [List.cons_append, List.append_assoc, List.nil_append]); repeat' (first | (with_reducible refine sub_cons ?_ ?_; k_mem) | with_reducible refine sub_app ?_ ?_ | exact sub_nil | (intro q hq; kpc_turns)))))
  clear N7 NR9
  refine letN N8 ?_
  clear N8
  intro LDa N8
  obtain ⟨g, hg4⟩ : ∃ g : Fin 4, g = fOf (ns.drop 8).sum := ⟨_, rfl⟩
  rw [← hg4] at dN4
  unfold Sealed
  k_dflt (refine LCt.CompSrcT.range (n := 4) rfl FR9 N8 hrgR (by decide +kernel) (by decide +kernel) (by decide +kernel) ?_)
  intro ggI
  refine restT_r4 (fun p => decide (p ≠ g)) trivial ?turnI ?elmI ?finI
  case turnI =>
    intro p tp ys I oI C oC D m₂ h tk E' a1 a2 a3 a4 a5 a6
    k_steps
    · exact ne_fin p g
    · exact ⟨_, _, rfl, by k_asm, by k_asm⟩
  case elmI =>
    intro p tp ys I oI C oC D m₂ h tk E' a1 a2 a3 a4 a5 a6
    k_steps
    · exact ⟨_, by rw [Int.zero_add]⟩
    · exact ⟨_, _, rfl, by k_asm, by k_asm⟩
  intro ysW hysW
  (try refine openSeal ?_)
  (try unfold Sealed)
  unfold LCg.FinE
  intro DW hW tkW FW NW offW
  (try kfm_turns)
  have hneW : (L' + 1 + 1 + 1 + 1 + 1) ≠ DW := off1_mem offW (L' + 1 + 1 + 1 + 1 + 1, oc7) (by k_mem)
  clear offW
  k_steps
  unfold Sealed
  obtain ⟨si, hsi⟩ : ∃ i, i = ((ns.drop 8).sum / 4 % 3).toNat := ⟨_, rfl⟩
  have hs3 : si < 3 := by omega
  have hysW2 : All2 (fun p v => IsI ((p : Fin 4).val : Int) v) (others g) ysW := hysW
  refine ksa_sub (ns := (others g).map fun p => (p.val : Int)) (vs := ysW) (n := ysW.length) (by k_asm) (by k_mem) (ints_of (isI_map hysW2)) (by omega) (by rw [List.length_map, (others3 g).1]; omega) (by omega) ?_ (by with_unfolding_all rfl)
  intro tW
  rw [← hsi, others_get g hs3]
  have hsg := (others3 g).2 si hs3
  obtain ⟨s2, hs2⟩ : ∃ s : Fin 4, s = (others g).getD si 0 := ⟨_, rfl⟩
  rw [← hs2] at hsg ⊢
  clear hysW hysW2
  have hcG : LCg.Off1 (L' + 1 + 1 + 1 + 1 + 1) ((L' + 1 + 1 + 1 + 1, oN4) :: (L' + 1 + 1 + 1, oN3) :: (L' + 1 + 1, oN2) :: (L' + 1, oN1) :: (196, tabObj #[]) :: (224, ob) :: (231, oc) :: (l, W.listOf vsL.toArray kT) :: E3) := ⟨(up1 _), (up2 _), (up3 _), (up4 _), (tb5 h196), (tb5 h224), (tb5 h231), Ne.symm (hlK _ (List.mem_cons_of_mem _ (List.mem_cons_of_mem _ (List.mem_cons_of_mem _ (List.mem_cons_of_mem _ (List.mem_cons_of_mem _ (List.mem_cons_of_mem _ (List.mem_cons_self)))))))), (off1_of fun p hp => Ne.symm (hO3 p hp _ (List.mem_cons_of_mem _ (List.mem_cons_of_mem _ (List.mem_cons_of_mem _ (List.mem_cons_of_mem _ (List.mem_cons_of_mem _ (List.mem_cons_of_mem _ (List.mem_cons_self)))))))))⟩
  k_steps
  first
  | (rename_i oN5 F9 N9 dN5 q23 q24 hR10 tkR2 tr3 ur3 vr3 hrgR2 FR10 NR10 kpR2; have zz : oN5.data = _ := dN5; clear zz)
  | rename_i oN5 F9 N9 dN5 hR10 tkR2 tr3 ur3 vr3 hrgR2 FR10 NR10 kpR2
  have N11 : News G0 L' hR10 ((L' + 1 + 1 + 1 + 1 + 1 + 1 + 1 + 1 + 1 + 1 + 1, oc1) :: (L' + 1 + 1 + 1 + 1 + 1 + 1 + 1 + 1 + 1 + 1, oc2) :: (L' + 1 + 1 + 1 + 1 + 1 + 1 + 1 + 1 + 1, oc3) :: (L' + 1 + 1 + 1 + 1 + 1 + 1 + 1 + 1, oc4) :: (L' + 1 + 1 + 1 + 1 + 1 + 1 + 1, oc5) :: (L' + 1 + 1 + 1 + 1 + 1 + 1, oc6) :: (L' + 1 + 1 + 1 + 1 + 1, oN5) :: (L' + 1 + 1 + 1 + 1, oN4) :: (L' + 1 + 1 + 1, oN3) :: (L' + 1 + 1, oN2) :: (L' + 1, oN1) :: (196, tabObj #[]) :: (224, ob) :: (231, oc) :: (l, W.listOf vsL.toArray kT) :: E3) := News.sub NR10 (by (first | kpt_turns | ((try simp only [List.cons_append, List.append_assoc, List.nil_append]); repeat' (first | (with_reducible refine sub_cons ?_ ?_; k_mem) | with_reducible refine sub_app ?_ ?_ | exact sub_nil | (intro q hq; kpc_turns)))))
  clear N9 NR10
  refine letN N11 ?_
  clear N11
  intro LDb N11
  unfold Sealed
  k_dflt (refine LCt.CompSrcT.range (n := 4) rfl FR10 N11 hrgR2 (by decide +kernel) (by decide +kernel) (by decide +kernel) ?_)
  intro ggJ
  refine restT_r4 (fun p => decide (p ≠ g) && decide (p ≠ s2)) trivial ?turnJ ?elmJ ?finJ
  case turnJ =>
    intro p tp ys I oI C oC D m₂ h tk E' a1 a2 a3 a4 a5 a6
    k_steps
    all_goals first | exact ⟨_, _, rfl, by k_asm, by k_asm⟩ | (simp [Fin.ext_iff]; done) | (simp [Fin.ext_iff]; omega)
  case elmJ =>
    intro p tp ys I oI C oC D m₂ h tk E' a1 a2 a3 a4 a5 a6
    k_steps
    · exact ⟨_, by rw [Int.zero_add]⟩
    · exact ⟨_, _, rfl, by k_asm, by k_asm⟩
  intro ysQ hysQ
  (try refine openSeal ?_)
  (try unfold Sealed)
  unfold LCg.FinE
  intro DQ hQ tkQ FQ NQ offQ
  (try kfm_turns)
  obtain ⟨p0, p1, hpq, hp0g, hp0s, hp1g, hp1s, hp01⟩ := left2 g s2 hsg
  rw [hpq] at hysQ
  obtain ⟨tq0, tq1, rfl⟩ : ∃ t0 t1, ysQ = [.int p0.val t0, .int p1.val t1] := by
    obtain _ | ⟨⟨t0, e0⟩, h1⟩ := hysQ
    obtain _ | ⟨⟨t1, e1⟩, h2⟩ := h1
    obtain _ | _ := h2
    exact ⟨t0, t1, by rw [e0, e1]⟩
  obtain ⟨E8, hE8⟩ : ∃ e, e = (DQ, LCg.lst [Value.int (p0.val : Int) tq0, Value.int (p1.val : Int) tq1]) :: E3 := ⟨_, rfl⟩
  have hK8 : ∀ a ∈ [(L' + 1 + 1 + 1 + 1 + 1 + 1 + 1 + 1 + 1 + 1 + 1 : Addr), (L' + 1 + 1 + 1 + 1 + 1 + 1 + 1 + 1 + 1 + 1 : Addr), (L' + 1 + 1 + 1 + 1 + 1 + 1 + 1 + 1 + 1 : Addr), (L' + 1 + 1 + 1 + 1 + 1 + 1 + 1 + 1 : Addr), (L' + 1 + 1 + 1 + 1 + 1 + 1 + 1 : Addr), (L' + 1 + 1 + 1 + 1 + 1 + 1 : Addr), (L' + 1 + 1 + 1 + 1 + 1 : Addr), (L' + 1 + 1 + 1 + 1 : Addr), (L' + 1 + 1 + 1 : Addr), (L' + 1 + 1 : Addr), (L' + 1 : Addr), 196, 224, 231], a ≠ DQ := keys_ne (pre := [(L' + 1 + 1 + 1 + 1 + 1 + 1 + 1 + 1 + 1 + 1 + 1, oc1), (L' + 1 + 1 + 1 + 1 + 1 + 1 + 1 + 1 + 1 + 1, oc2), (L' + 1 + 1 + 1 + 1 + 1 + 1 + 1 + 1 + 1, oc3), (L' + 1 + 1 + 1 + 1 + 1 + 1 + 1 + 1, oc4), (L' + 1 + 1 + 1 + 1 + 1 + 1 + 1, oc5), (L' + 1 + 1 + 1 + 1 + 1 + 1, oc6), (L' + 1 + 1 + 1 + 1 + 1, oN5), (L' + 1 + 1 + 1 + 1, oN4), (L' + 1 + 1 + 1, oN3), (L' + 1 + 1, oN2), (L' + 1, oN1), (196, tabObj #[]), (224, ob), (231, oc)]) offQ
  have NN8 : News G0 L' hQ ((L' + 1 + 1 + 1 + 1 + 1 + 1 + 1 + 1 + 1 + 1 + 1, oc1) :: (L' + 1 + 1 + 1 + 1 + 1 + 1 + 1 + 1 + 1 + 1, oc2) :: (L' + 1 + 1 + 1 + 1 + 1 + 1 + 1 + 1 + 1, oc3) :: (L' + 1 + 1 + 1 + 1 + 1 + 1 + 1 + 1, oc4) :: (L' + 1 + 1 + 1 + 1 + 1 + 1 + 1, oc5) :: (L' + 1 + 1 + 1 + 1 + 1 + 1, oc6) :: (L' + 1 + 1 + 1 + 1 + 1, oN5) :: (L' + 1 + 1 + 1 + 1, oN4) :: (L' + 1 + 1 + 1, oN3) :: (L' + 1 + 1, oN2) :: (L' + 1, oN1) :: (196, tabObj #[]) :: (224, ob) :: (231, oc) :: (l, W.listOf vsL.toArray kT) :: E8) := by
    rw [hE8]
    first
      | exact News.mv [(L' + 1 + 1 + 1 + 1 + 1 + 1 + 1 + 1 + 1 + 1 + 1, oc1), (L' + 1 + 1 + 1 + 1 + 1 + 1 + 1 + 1 + 1 + 1, oc2), (L' + 1 + 1 + 1 + 1 + 1 + 1 + 1 + 1 + 1, oc3), (L' + 1 + 1 + 1 + 1 + 1 + 1 + 1 + 1, oc4), (L' + 1 + 1 + 1 + 1 + 1 + 1 + 1, oc5), (L' + 1 + 1 + 1 + 1 + 1 + 1, oc6), (L' + 1 + 1 + 1 + 1 + 1, oN5), (L' + 1 + 1 + 1 + 1, oN4), (L' + 1 + 1 + 1, oN3), (L' + 1 + 1, oN2), (L' + 1, oN1), (196, tabObj #[]), (224, ob), (231, oc), (l, W.listOf vsL.toArray kT)] NQ
      | exact News.sub NQ (by (first | kpt_turns | ((try simp only [List.cons_append, List.append_assoc, List.nil_append]); repeat' (first | (with_reducible refine sub_cons ?_ ?_; k_mem) | with_reducible refine sub_app ?_ ?_ | exact sub_nil | (intro q hq; kpc_turns)))))
  have hO8 : ∀ q ∈ E8, ∀ a ∈ [(L' + 1 + 1 + 1 + 1 + 1 + 1 + 1 + 1 + 1 + 1 + 1 : Addr), (L' + 1 + 1 + 1 + 1 + 1 + 1 + 1 + 1 + 1 + 1 : Addr), (L' + 1 + 1 + 1 + 1 + 1 + 1 + 1 + 1 + 1 : Addr), (L' + 1 + 1 + 1 + 1 + 1 + 1 + 1 + 1 : Addr), (L' + 1 + 1 + 1 + 1 + 1 + 1 + 1 : Addr), (L' + 1 + 1 + 1 + 1 + 1 + 1 : Addr), (L' + 1 + 1 + 1 + 1 + 1 : Addr), (L' + 1 + 1 + 1 + 1 : Addr), (L' + 1 + 1 + 1 : Addr), (L' + 1 + 1 : Addr), (L' + 1 : Addr), 196, 224, 231], a ≠ q.1 := by
    rw [hE8]
    intro q hq
    rcases List.mem_cons.mp hq with rfl | hq
    · exact hK8
    · exact hO3 q hq
  have hS8 : ∀ q ∈ E3, q ∈ E8 := by rw [hE8]; exact fun q h => List.mem_cons_of_mem _ h
  replace hoL : LCg.Off1 l E8 := by rw [hE8]; exact ⟨Ne.symm (off1_mem offQ (l, W.listOf vsL.toArray kT) (by k_mem)), hoL⟩
  have hm8 : (DQ, LCg.lst [Value.int (p0.val : Int) tq0, Value.int (p1.val : Int) tq1]) ∈ E8 := by rw [hE8]; exact List.mem_cons_self
  replace hmt := hS8 _ hmt
  replace hmd := hS8 _ hmd
  replace hmN2 := hS8 _ hmN2
  replace hm3 := hS8 _ hm3
  replace hR4 := RowsIn.mono hS8 hR4
  replace T2b := TabOk.mono hS8 T2b
  replace T3b := TabOk.mono hS8 T3b
  have hS8k := hS8
  clear NQ offQ hO3 hE8 hK8 hS8
  refine letN NN8 ?_
  clear NN8
  intro LD7 NN8
  have hcH : LCg.Off1 (L' + 1 + 1 + 1 + 1 + 1 + 1) ((L' + 1 + 1 + 1 + 1 + 1, oN5) :: (L' + 1 + 1 + 1 + 1, oN4) :: (L' + 1 + 1 + 1, oN3) :: (L' + 1 + 1, oN2) :: (L' + 1, oN1) :: (196, tabObj #[]) :: (224, ob) :: (231, oc) :: (l, W.listOf vsL.toArray kT) :: E8) := ⟨(up1 _), (up2 _), (up3 _), (up4 _), (up5 _), (tb6 h196), (tb6 h224), (tb6 h231), Ne.symm (hlK _ (List.mem_cons_of_mem _ (List.mem_cons_of_mem _ (List.mem_cons_of_mem _ (List.mem_cons_of_mem _ (List.mem_cons_of_mem _ (List.mem_cons_self))))))), (off1_of fun p hp => Ne.symm (hO8 p hp _ (List.mem_cons_of_mem _ (List.mem_cons_of_mem _ (List.mem_cons_of_mem _ (List.mem_cons_of_mem _ (List.mem_cons_of_mem _ (List.mem_cons_self))))))))⟩
  k_steps
  rename_i hx9 oN6 F11 N12 dN6 kxiE
  refine letN N12 ?_
  clear N12
  intro LD8 N12
  clear kxiE
  have hl1 : l ≠ L' + 1 := Ne.symm (hlK _ (List.mem_cons_of_mem _ (List.mem_cons_of_mem _ (List.mem_cons_of_mem _ (List.mem_cons_of_mem _ (List.mem_cons_of_mem _ (List.mem_cons_of_mem _ (List.mem_cons_of_mem _ (List.mem_cons_of_mem _ (List.mem_cons_of_mem _ (List.mem_cons_of_mem _ (List.mem_cons_self))))))))))))
  have hl2 : l ≠ L' + 1 + 1 := Ne.symm (hlK _ (List.mem_cons_of_mem _ (List.mem_cons_of_mem _ (List.mem_cons_of_mem _ (List.mem_cons_of_mem _ (List.mem_cons_of_mem _ (List.mem_cons_of_mem _ (List.mem_cons_of_mem _ (List.mem_cons_of_mem _ (List.mem_cons_of_mem _ (List.mem_cons_self)))))))))))
  have hl3 : l ≠ L' + 1 + 1 + 1 := Ne.symm (hlK _ (List.mem_cons_of_mem _ (List.mem_cons_of_mem _ (List.mem_cons_of_mem _ (List.mem_cons_of_mem _ (List.mem_cons_of_mem _ (List.mem_cons_of_mem _ (List.mem_cons_of_mem _ (List.mem_cons_of_mem _ (List.mem_cons_self))))))))))
  have hl4 : l ≠ L' + 1 + 1 + 1 + 1 := Ne.symm (hlK _ (List.mem_cons_of_mem _ (List.mem_cons_of_mem _ (List.mem_cons_of_mem _ (List.mem_cons_of_mem _ (List.mem_cons_of_mem _ (List.mem_cons_of_mem _ (List.mem_cons_of_mem _ (List.mem_cons_self)))))))))
  have hl5 : l ≠ L' + 1 + 1 + 1 + 1 + 1 := Ne.symm (hlK _ (List.mem_cons_of_mem _ (List.mem_cons_of_mem _ (List.mem_cons_of_mem _ (List.mem_cons_of_mem _ (List.mem_cons_of_mem _ (List.mem_cons_of_mem _ (List.mem_cons_self))))))))
  have hl6 : l ≠ L' + 1 + 1 + 1 + 1 + 1 + 1 := Ne.symm (hlK _ (List.mem_cons_of_mem _ (List.mem_cons_of_mem _ (List.mem_cons_of_mem _ (List.mem_cons_of_mem _ (List.mem_cons_of_mem _ (List.mem_cons_self)))))))
  have hl7 : l ≠ L' + 1 + 1 + 1 + 1 + 1 + 1 + 1 := Ne.symm (hlK _ (List.mem_cons_of_mem _ (List.mem_cons_of_mem _ (List.mem_cons_of_mem _ (List.mem_cons_of_mem _ (List.mem_cons_self))))))
  have hl8 : l ≠ L' + 1 + 1 + 1 + 1 + 1 + 1 + 1 + 1 := Ne.symm (hlK _ (List.mem_cons_of_mem _ (List.mem_cons_of_mem _ (List.mem_cons_of_mem _ (List.mem_cons_self)))))
  have hl9 : l ≠ L' + 1 + 1 + 1 + 1 + 1 + 1 + 1 + 1 + 1 := Ne.symm (hlK _ (List.mem_cons_of_mem _ (List.mem_cons_of_mem _ (List.mem_cons_self))))
  have hl10 : l ≠ L' + 1 + 1 + 1 + 1 + 1 + 1 + 1 + 1 + 1 + 1 := Ne.symm (hlK _ (List.mem_cons_of_mem _ (List.mem_cons_self)))
  have hl11 : l ≠ L' + 1 + 1 + 1 + 1 + 1 + 1 + 1 + 1 + 1 + 1 + 1 := Ne.symm (hlK _ (List.mem_cons_self))
  unfold Sealed
  rw [item4]
  have hg1 : LCg.Off1 196 ((L' + 1 + 1 + 1 + 1 + 1 + 1 + 1 + 1 + 1 + 1 + 1, oc1) :: (L' + 1 + 1 + 1 + 1 + 1 + 1 + 1 + 1 + 1 + 1, oc2) :: (L' + 1 + 1 + 1 + 1 + 1 + 1 + 1 + 1 + 1, oc3) :: (L' + 1 + 1 + 1 + 1 + 1 + 1 + 1 + 1, oc4) :: (L' + 1 + 1 + 1 + 1 + 1 + 1 + 1, oc5) :: (L' + 1 + 1 + 1 + 1 + 1 + 1, oN6) :: (L' + 1 + 1 + 1 + 1 + 1, oN5) :: (L' + 1 + 1 + 1 + 1, oN4) :: (L' + 1 + 1 + 1, oN3) :: (L' + 1 + 1, oN2) :: (L' + 1, oN1) :: (224, ob) :: (231, oc) :: E8) := ⟨Ne.symm (tb11 h196), Ne.symm (tb10 h196), Ne.symm (tb9 h196), Ne.symm (tb8 h196), Ne.symm (tb7 h196), Ne.symm (tb6 h196), Ne.symm (tb5 h196), Ne.symm (tb4 h196), Ne.symm (tb3 h196), Ne.symm (tb2 h196), Ne.symm (tb1 h196), by show @Ne Nat 224 196; decide, by show @Ne Nat 231 196; decide, (off1_of fun p hp => Ne.symm (hO8 p hp _ (List.mem_cons_of_mem _ (List.mem_cons_of_mem _ (List.mem_cons_of_mem _ (List.mem_cons_of_mem _ (List.mem_cons_of_mem _ (List.mem_cons_of_mem _ (List.mem_cons_of_mem _ (List.mem_cons_of_mem _ (List.mem_cons_of_mem _ (List.mem_cons_of_mem _ (List.mem_cons_of_mem _ (List.mem_cons_self))))))))))))))⟩
  have hgl : LCg.Off1 l ((L' + 1 + 1 + 1 + 1 + 1 + 1 + 1 + 1 + 1 + 1 + 1, oc1) :: (L' + 1 + 1 + 1 + 1 + 1 + 1 + 1 + 1 + 1 + 1, oc2) :: (L' + 1 + 1 + 1 + 1 + 1 + 1 + 1 + 1 + 1, oc3) :: (L' + 1 + 1 + 1 + 1 + 1 + 1 + 1 + 1, oc4) :: (L' + 1 + 1 + 1 + 1 + 1 + 1 + 1, oc5) :: (L' + 1 + 1 + 1 + 1 + 1 + 1, oN6) :: (L' + 1 + 1 + 1 + 1 + 1, oN5) :: (L' + 1 + 1 + 1 + 1, oN4) :: (L' + 1 + 1 + 1, oN3) :: (L' + 1 + 1, oN2) :: (L' + 1, oN1) :: (224, ob) :: (231, oc) :: E8) := ⟨hlK _ (List.mem_cons_self), hlK _ (List.mem_cons_of_mem _ (List.mem_cons_self)), hlK _ (List.mem_cons_of_mem _ (List.mem_cons_of_mem _ (List.mem_cons_self))), hlK _ (List.mem_cons_of_mem _ (List.mem_cons_of_mem _ (List.mem_cons_of_mem _ (List.mem_cons_self)))), hlK _ (List.mem_cons_of_mem _ (List.mem_cons_of_mem _ (List.mem_cons_of_mem _ (List.mem_cons_of_mem _ (List.mem_cons_self))))), hlK _ (List.mem_cons_of_mem _ (List.mem_cons_of_mem _ (List.mem_cons_of_mem _ (List.mem_cons_of_mem _ (List.mem_cons_of_mem _ (List.mem_cons_self)))))), hlK _ (List.mem_cons_of_mem _ (List.mem_cons_of_mem _ (List.mem_cons_of_mem _ (List.mem_cons_of_mem _ (List.mem_cons_of_mem _ (List.mem_cons_of_mem _ (List.mem_cons_self))))))), hlK _ (List.mem_cons_of_mem _ (List.mem_cons_of_mem _ (List.mem_cons_of_mem _ (List.mem_cons_of_mem _ (List.mem_cons_of_mem _ (List.mem_cons_of_mem _ (List.mem_cons_of_mem _ (List.mem_cons_self)))))))), hlK _ (List.mem_cons_of_mem _ (List.mem_cons_of_mem _ (List.mem_cons_of_mem _ (List.mem_cons_of_mem _ (List.mem_cons_of_mem _ (List.mem_cons_of_mem _ (List.mem_cons_of_mem _ (List.mem_cons_of_mem _ (List.mem_cons_self))))))))), hlK _ (List.mem_cons_of_mem _ (List.mem_cons_of_mem _ (List.mem_cons_of_mem _ (List.mem_cons_of_mem _ (List.mem_cons_of_mem _ (List.mem_cons_of_mem _ (List.mem_cons_of_mem _ (List.mem_cons_of_mem _ (List.mem_cons_of_mem _ (List.mem_cons_self)))))))))), hlK _ (List.mem_cons_of_mem _ (List.mem_cons_of_mem _ (List.mem_cons_of_mem _ (List.mem_cons_of_mem _ (List.mem_cons_of_mem _ (List.mem_cons_of_mem _ (List.mem_cons_of_mem _ (List.mem_cons_of_mem _ (List.mem_cons_of_mem _ (List.mem_cons_of_mem _ (List.mem_cons_self))))))))))), hlK _ (List.mem_cons_of_mem _ (List.mem_cons_of_mem _ (List.mem_cons_of_mem _ (List.mem_cons_of_mem _ (List.mem_cons_of_mem _ (List.mem_cons_of_mem _ (List.mem_cons_of_mem _ (List.mem_cons_of_mem _ (List.mem_cons_of_mem _ (List.mem_cons_of_mem _ (List.mem_cons_of_mem _ (List.mem_cons_of_mem _ (List.mem_cons_self))))))))))))), hlK _ (List.mem_cons_of_mem _ (List.mem_cons_of_mem _ (List.mem_cons_of_mem _ (List.mem_cons_of_mem _ (List.mem_cons_of_mem _ (List.mem_cons_of_mem _ (List.mem_cons_of_mem _ (List.mem_cons_of_mem _ (List.mem_cons_of_mem _ (List.mem_cons_of_mem _ (List.mem_cons_of_mem _ (List.mem_cons_of_mem _ (List.mem_cons_of_mem _ (List.mem_cons_self)))))))))))))), hoL⟩
  k_dflt (refine' c_gone ?k1 ?k2 ?k3 ?k4 ?k5 ?kC1 ((196, tabObj #[]) :: (l, W.listOf vsL.toArray kT) :: (L' + 1 + 1 + 1 + 1 + 1 + 1 + 1 + 1 + 1 + 1 + 1, oc1) :: (L' + 1 + 1 + 1 + 1 + 1 + 1 + 1 + 1 + 1 + 1, oc2) :: (L' + 1 + 1 + 1 + 1 + 1 + 1 + 1 + 1 + 1, oc3) :: (L' + 1 + 1 + 1 + 1 + 1 + 1 + 1 + 1, oc4) :: (L' + 1 + 1 + 1 + 1 + 1 + 1 + 1, oc5) :: (L' + 1 + 1 + 1 + 1 + 1 + 1, oN6) :: (L' + 1 + 1 + 1 + 1 + 1, oN5) :: (L' + 1 + 1 + 1 + 1, oN4) :: (L' + 1 + 1 + 1, oN3) :: (L' + 1 + 1, oN2) :: (L' + 1, oN1) :: (224, ob) :: (231, oc) :: E8) ?k6 ?k7 ?k8 _ l _ _ _ rfl hg1 (Ne.symm (hlK _ (List.mem_cons_of_mem _ (List.mem_cons_of_mem _ (List.mem_cons_of_mem _ (List.mem_cons_of_mem _ (List.mem_cons_of_mem _ (List.mem_cons_of_mem _ (List.mem_cons_of_mem _ (List.mem_cons_of_mem _ (List.mem_cons_of_mem _ (List.mem_cons_of_mem _ (List.mem_cons_of_mem _ (List.mem_cons_self)))))))))))))) hgl E8 ?kts ?kT1 t d 1 (rowsTo nums 8) tkH _ g ?m1 ?m2 ?mR ?kL (small_book (bnd8 hn8 hnb) (by decide) g) ?_; (case k1 => k_asm); (case k2 => k_asm); (case k3 => k_asm); (case k4 => k_asm); (case k5 => first | exact rfl | assumption); (case kC1 => exact C1); (case k6 => exact News.sub (by k_asm) (by (first | kpt_turns | ((try simp only [List.cons_append, List.append_assoc, List.nil_append]); repeat' (first | (with_reducible refine sub_cons ?_ ?_; k_mem) | with_reducible refine sub_app ?_ ?_ | exact sub_nil | (intro q hq; kpc_turns)))))); (case k7 => ktr_room); (case k8 => ktr_units); (case kts => (first | kpt_turns | ((try simp only [List.cons_append, List.append_assoc, List.nil_append]); repeat' (first | (with_reducible refine sub_cons ?_ ?_; k_mem) | with_reducible refine sub_app ?_ ?_ | exact sub_nil | (intro q hq; kpc_turns))))); (case kT1 => exact .inl rfl); (case m1 => k_mem); (case m2 => k_mem); (case mR => exact RowsIn.mono (by (first | kpt_turns | ((try simp only [List.cons_append, List.append_assoc, List.nil_append]); repeat' (first | (with_reducible refine sub_cons ?_ ?_; k_mem) | with_reducible refine sub_app ?_ ?_ | exact sub_nil | (intro q hq; kpc_turns))))) hR4); (case kL => omega); k_whole)
  intro T9 dT9 oT9 tT9 nT9 hG9 tkG9 drG9 oa9 vsG9 kG9 ext9 FG9 NG9 hmT9 hmd9 hlT9 hDT9 hRG9 hln9 T1G9 hxG9
  clear hg1 hgl
  have hxK9 : ∀ q ∈ ext9, ∀ a ∈ [(L' + 1 + 1 + 1 + 1 + 1 + 1 + 1 + 1 + 1 + 1 + 1 : Addr), (L' + 1 + 1 + 1 + 1 + 1 + 1 + 1 + 1 + 1 + 1 : Addr), (L' + 1 + 1 + 1 + 1 + 1 + 1 + 1 + 1 + 1 : Addr), (L' + 1 + 1 + 1 + 1 + 1 + 1 + 1 + 1 : Addr), (L' + 1 + 1 + 1 + 1 + 1 + 1 + 1 : Addr), (L' + 1 + 1 + 1 + 1 + 1 + 1 : Addr), (L' + 1 + 1 + 1 + 1 + 1 : Addr), (L' + 1 + 1 + 1 + 1 : Addr), (L' + 1 + 1 + 1 : Addr), (L' + 1 + 1 : Addr), (L' + 1 : Addr), 196, 224, 231], a ≠ q.1 := fun q hq => List.forall_mem_cons.mpr ⟨off1_mem (hxG9 q hq) (L' + 1 + 1 + 1 + 1 + 1 + 1 + 1 + 1 + 1 + 1 + 1, oc1) (by k_mem), List.forall_mem_cons.mpr ⟨off1_mem (hxG9 q hq) (L' + 1 + 1 + 1 + 1 + 1 + 1 + 1 + 1 + 1 + 1, oc2) (by k_mem), List.forall_mem_cons.mpr ⟨off1_mem (hxG9 q hq) (L' + 1 + 1 + 1 + 1 + 1 + 1 + 1 + 1 + 1, oc3) (by k_mem), List.forall_mem_cons.mpr ⟨off1_mem (hxG9 q hq) (L' + 1 + 1 + 1 + 1 + 1 + 1 + 1 + 1, oc4) (by k_mem), List.forall_mem_cons.mpr ⟨off1_mem (hxG9 q hq) (L' + 1 + 1 + 1 + 1 + 1 + 1 + 1, oc5) (by k_mem), List.forall_mem_cons.mpr ⟨off1_mem (hxG9 q hq) (L' + 1 + 1 + 1 + 1 + 1 + 1, oN6) (by k_mem), List.forall_mem_cons.mpr ⟨off1_mem (hxG9 q hq) (L' + 1 + 1 + 1 + 1 + 1, oN5) (by k_mem), List.forall_mem_cons.mpr ⟨off1_mem (hxG9 q hq) (L' + 1 + 1 + 1 + 1, oN4) (by k_mem), List.forall_mem_cons.mpr ⟨off1_mem (hxG9 q hq) (L' + 1 + 1 + 1, oN3) (by k_mem), List.forall_mem_cons.mpr ⟨off1_mem (hxG9 q hq) (L' + 1 + 1, oN2) (by k_mem), List.forall_mem_cons.mpr ⟨off1_mem (hxG9 q hq) (L' + 1, oN1) (by k_mem), List.forall_mem_cons.mpr ⟨off1_mem (hxG9 q hq) (196, tabObj #[]) (by k_mem), List.forall_mem_cons.mpr ⟨off1_mem (hxG9 q hq) (224, ob) (by k_mem), List.forall_mem_cons.mpr ⟨off1_mem (hxG9 q hq) (231, oc) (by k_mem), (fun _ h => nomatch h)⟩⟩⟩⟩⟩⟩⟩⟩⟩⟩⟩⟩⟩⟩
  obtain ⟨E9, hE9⟩ : ∃ e, e = ext9 ++ E8 := ⟨_, rfl⟩
  have NN9 : News G0 L' hG9 ((L' + 1 + 1 + 1 + 1 + 1 + 1 + 1 + 1 + 1 + 1 + 1, oc1) :: (L' + 1 + 1 + 1 + 1 + 1 + 1 + 1 + 1 + 1 + 1, oc2) :: (L' + 1 + 1 + 1 + 1 + 1 + 1 + 1 + 1 + 1, oc3) :: (L' + 1 + 1 + 1 + 1 + 1 + 1 + 1 + 1, oc4) :: (L' + 1 + 1 + 1 + 1 + 1 + 1 + 1, oc5) :: (L' + 1 + 1 + 1 + 1 + 1 + 1, oN6) :: (L' + 1 + 1 + 1 + 1 + 1, oN5) :: (L' + 1 + 1 + 1 + 1, oN4) :: (L' + 1 + 1 + 1, oN3) :: (L' + 1 + 1, oN2) :: (L' + 1, oN1) :: (196, oa9) :: (224, ob) :: (231, oc) :: (l, W.listOf vsG9.toArray kG9) :: E9) := News.sub NG9 (by rw [hE9]; (first | kpt_turns | ((try simp only [List.cons_append, List.append_assoc, List.nil_append]); repeat' (first | (with_reducible refine sub_cons ?_ ?_; k_mem) | with_reducible refine sub_app ?_ ?_ | exact sub_nil | (intro q hq; kpc_turns)))))
  have hO9 : ∀ q ∈ E9, ∀ a ∈ [(L' + 1 + 1 + 1 + 1 + 1 + 1 + 1 + 1 + 1 + 1 + 1 : Addr), (L' + 1 + 1 + 1 + 1 + 1 + 1 + 1 + 1 + 1 + 1 : Addr), (L' + 1 + 1 + 1 + 1 + 1 + 1 + 1 + 1 + 1 : Addr), (L' + 1 + 1 + 1 + 1 + 1 + 1 + 1 + 1 : Addr), (L' + 1 + 1 + 1 + 1 + 1 + 1 + 1 : Addr), (L' + 1 + 1 + 1 + 1 + 1 + 1 : Addr), (L' + 1 + 1 + 1 + 1 + 1 : Addr), (L' + 1 + 1 + 1 + 1 : Addr), (L' + 1 + 1 + 1 : Addr), (L' + 1 + 1 : Addr), (L' + 1 : Addr), 196, 224, 231], a ≠ q.1 := by
    rw [hE9]
    intro q hq
    rcases List.mem_append.mp hq with hq | hq
    · exact hxK9 q hq
    · exact hO8 q hq
  have hS9 : ∀ q ∈ E8, q ∈ E9 := by rw [hE9]; exact fun q h => List.mem_append_right _ h
  have hX9 : ∀ q ∈ ext9, q ∈ E9 := by rw [hE9]; exact fun q h => List.mem_append_left _ h
  replace hoL : LCg.Off1 l E9 := by rw [hE9]; exact off1_append (off1_of fun p hp => Ne.symm (off1_mem (hxG9 p hp) (l, W.listOf (vsL).toArray _) (List.mem_cons_of_mem _ List.mem_cons_self))) hoL
  replace hmT9 := hX9 _ hmT9
  replace hmd9 := hX9 _ hmd9
  replace T1G9 : TabOk 145 4 "_str_to_int_inner.<locals>.inner" oa9 E9 := TabOk.mono (by rw [hE9]; exact fun q h => h) T1G9
  have hR9x : RowsIn E9 (rowsB (bookOf (rowsTo nums 8) g)) vsG9 := RowsIn.mono hX9 hRG9
  replace hmt := hS9 _ hmt
  replace hmd := hS9 _ hmd
  replace hmN2 := hS9 _ hmN2
  replace hm3 := hS9 _ hm3
  replace hm8 := hS9 _ hm8
  replace T2b := TabOk.mono hS9 T2b
  replace T3b := TabOk.mono hS9 T3b
  have hcE9 : ∀ a ∈ [(L' + 1 + 1 + 1 + 1 + 1 + 1 + 1 + 1 + 1 + 1 + 1 : Addr), (L' + 1 + 1 + 1 + 1 + 1 + 1 + 1 + 1 + 1 + 1 : Addr), (L' + 1 + 1 + 1 + 1 + 1 + 1 + 1 + 1 + 1 : Addr), (L' + 1 + 1 + 1 + 1 + 1 + 1 + 1 + 1 : Addr), (L' + 1 + 1 + 1 + 1 + 1 + 1 + 1 : Addr), (L' + 1 + 1 + 1 + 1 + 1 + 1 : Addr), (L' + 1 + 1 + 1 + 1 + 1 : Addr), (L' + 1 + 1 + 1 + 1 : Addr), (L' + 1 + 1 + 1 : Addr), (L' + 1 + 1 : Addr), (L' + 1 : Addr), 196, 224, 231], LCg.Off1 a E9 := fun a ha => off1_of fun p hp => Ne.symm (hO9 p hp a ha)
  clear NG9 hxG9 hE9 hxK9 hO8
  refine letN NN9 ?_
  clear NN9
  intro LD9 NN9
  k_steps
  rename_i oN7 dN7 hx10 oN8 F13 N14 dN8 kxiE
  refine letN N14 ?_
  clear N14
  intro LD10 N14
  clear kxiE
  unfold Sealed
  rw [item4]
  have hg1 : LCg.Off1 196 ((L' + 1 + 1 + 1 + 1 + 1 + 1 + 1 + 1 + 1 + 1 + 1, oc1) :: (L' + 1 + 1 + 1 + 1 + 1 + 1 + 1 + 1 + 1 + 1, oc2) :: (L' + 1 + 1 + 1 + 1 + 1 + 1 + 1 + 1 + 1, oc3) :: (L' + 1 + 1 + 1 + 1 + 1 + 1 + 1 + 1, oN8) :: (L' + 1 + 1 + 1 + 1 + 1 + 1 + 1, oN7) :: (L' + 1 + 1 + 1 + 1 + 1 + 1, oN6) :: (L' + 1 + 1 + 1 + 1 + 1, oN5) :: (L' + 1 + 1 + 1 + 1, oN4) :: (L' + 1 + 1 + 1, oN3) :: (L' + 1 + 1, oN2) :: (L' + 1, oN1) :: (224, ob) :: (231, oc) :: E9) := ⟨Ne.symm (tb11 h196), Ne.symm (tb10 h196), Ne.symm (tb9 h196), Ne.symm (tb8 h196), Ne.symm (tb7 h196), Ne.symm (tb6 h196), Ne.symm (tb5 h196), Ne.symm (tb4 h196), Ne.symm (tb3 h196), Ne.symm (tb2 h196), Ne.symm (tb1 h196), by show @Ne Nat 224 196; decide, by show @Ne Nat 231 196; decide, (off1_of fun p hp => Ne.symm (hO9 p hp _ (List.mem_cons_of_mem _ (List.mem_cons_of_mem _ (List.mem_cons_of_mem _ (List.mem_cons_of_mem _ (List.mem_cons_of_mem _ (List.mem_cons_of_mem _ (List.mem_cons_of_mem _ (List.mem_cons_of_mem _ (List.mem_cons_of_mem _ (List.mem_cons_of_mem _ (List.mem_cons_of_mem _ (List.mem_cons_self))))))))))))))⟩
  have hgl : LCg.Off1 l ((L' + 1 + 1 + 1 + 1 + 1 + 1 + 1 + 1 + 1 + 1 + 1, oc1) :: (L' + 1 + 1 + 1 + 1 + 1 + 1 + 1 + 1 + 1 + 1, oc2) :: (L' + 1 + 1 + 1 + 1 + 1 + 1 + 1 + 1 + 1, oc3) :: (L' + 1 + 1 + 1 + 1 + 1 + 1 + 1 + 1, oN8) :: (L' + 1 + 1 + 1 + 1 + 1 + 1 + 1, oN7) :: (L' + 1 + 1 + 1 + 1 + 1 + 1, oN6) :: (L' + 1 + 1 + 1 + 1 + 1, oN5) :: (L' + 1 + 1 + 1 + 1, oN4) :: (L' + 1 + 1 + 1, oN3) :: (L' + 1 + 1, oN2) :: (L' + 1, oN1) :: (224, ob) :: (231, oc) :: E9) := ⟨hlK _ (List.mem_cons_self), hlK _ (List.mem_cons_of_mem _ (List.mem_cons_self)), hlK _ (List.mem_cons_of_mem _ (List.mem_cons_of_mem _ (List.mem_cons_self))), hlK _ (List.mem_cons_of_mem _ (List.mem_cons_of_mem _ (List.mem_cons_of_mem _ (List.mem_cons_self)))), hlK _ (List.mem_cons_of_mem _ (List.mem_cons_of_mem _ (List.mem_cons_of_mem _ (List.mem_cons_of_mem _ (List.mem_cons_self))))), hlK _ (List.mem_cons_of_mem _ (List.mem_cons_of_mem _ (List.mem_cons_of_mem _ (List.mem_cons_of_mem _ (List.mem_cons_of_mem _ (List.mem_cons_self)))))), hlK _ (List.mem_cons_of_mem _ (List.mem_cons_of_mem _ (List.mem_cons_of_mem _ (List.mem_cons_of_mem _ (List.mem_cons_of_mem _ (List.mem_cons_of_mem _ (List.mem_cons_self))))))), hlK _ (List.mem_cons_of_mem _ (List.mem_cons_of_mem _ (List.mem_cons_of_mem _ (List.mem_cons_of_mem _ (List.mem_cons_of_mem _ (List.mem_cons_of_mem _ (List.mem_cons_of_mem _ (List.mem_cons_self)))))))), hlK _ (List.mem_cons_of_mem _ (List.mem_cons_of_mem _ (List.mem_cons_of_mem _ (List.mem_cons_of_mem _ (List.mem_cons_of_mem _ (List.mem_cons_of_mem _ (List.mem_cons_of_mem _ (List.mem_cons_of_mem _ (List.mem_cons_self))))))))), hlK _ (List.mem_cons_of_mem _ (List.mem_cons_of_mem _ (List.mem_cons_of_mem _ (List.mem_cons_of_mem _ (List.mem_cons_of_mem _ (List.mem_cons_of_mem _ (List.mem_cons_of_mem _ (List.mem_cons_of_mem _ (List.mem_cons_of_mem _ (List.mem_cons_self)))))))))), hlK _ (List.mem_cons_of_mem _ (List.mem_cons_of_mem _ (List.mem_cons_of_mem _ (List.mem_cons_of_mem _ (List.mem_cons_of_mem _ (List.mem_cons_of_mem _ (List.mem_cons_of_mem _ (List.mem_cons_of_mem _ (List.mem_cons_of_mem _ (List.mem_cons_of_mem _ (List.mem_cons_self))))))))))), hlK _ (List.mem_cons_of_mem _ (List.mem_cons_of_mem _ (List.mem_cons_of_mem _ (List.mem_cons_of_mem _ (List.mem_cons_of_mem _ (List.mem_cons_of_mem _ (List.mem_cons_of_mem _ (List.mem_cons_of_mem _ (List.mem_cons_of_mem _ (List.mem_cons_of_mem _ (List.mem_cons_of_mem _ (List.mem_cons_of_mem _ (List.mem_cons_self))))))))))))), hlK _ (List.mem_cons_of_mem _ (List.mem_cons_of_mem _ (List.mem_cons_of_mem _ (List.mem_cons_of_mem _ (List.mem_cons_of_mem _ (List.mem_cons_of_mem _ (List.mem_cons_of_mem _ (List.mem_cons_of_mem _ (List.mem_cons_of_mem _ (List.mem_cons_of_mem _ (List.mem_cons_of_mem _ (List.mem_cons_of_mem _ (List.mem_cons_of_mem _ (List.mem_cons_self)))))))))))))), hoL⟩
  k_dflt (refine' c_gone ?k1 ?k2 ?k3 ?k4 ?k5 ?kC1 ((196, oa9) :: (l, W.listOf vsG9.toArray kG9) :: (L' + 1 + 1 + 1 + 1 + 1 + 1 + 1 + 1 + 1 + 1 + 1, oc1) :: (L' + 1 + 1 + 1 + 1 + 1 + 1 + 1 + 1 + 1 + 1, oc2) :: (L' + 1 + 1 + 1 + 1 + 1 + 1 + 1 + 1 + 1, oc3) :: (L' + 1 + 1 + 1 + 1 + 1 + 1 + 1 + 1, oN8) :: (L' + 1 + 1 + 1 + 1 + 1 + 1 + 1, oN7) :: (L' + 1 + 1 + 1 + 1 + 1 + 1, oN6) :: (L' + 1 + 1 + 1 + 1 + 1, oN5) :: (L' + 1 + 1 + 1 + 1, oN4) :: (L' + 1 + 1 + 1, oN3) :: (L' + 1 + 1, oN2) :: (L' + 1, oN1) :: (224, ob) :: (231, oc) :: E9) ?k6 ?k7 ?k8 _ l _ _ _ rfl hg1 (Ne.symm (hlK _ (List.mem_cons_of_mem _ (List.mem_cons_of_mem _ (List.mem_cons_of_mem _ (List.mem_cons_of_mem _ (List.mem_cons_of_mem _ (List.mem_cons_of_mem _ (List.mem_cons_of_mem _ (List.mem_cons_of_mem _ (List.mem_cons_of_mem _ (List.mem_cons_of_mem _ (List.mem_cons_of_mem _ (List.mem_cons_self)))))))))))))) hgl E9 ?kts ?kT1 t d 1 (rowsB (bookOf (rowsTo nums 8) g)) tkH _ s2 ?m1 ?m2 ?mR ?kL (small_book (bnd_book (bnd8 hn8 hnb) g) (by decide) s2) ?_; (case k1 => k_asm); (case k2 => k_asm); (case k3 => k_asm); (case k4 => k_asm); (case k5 => first | exact rfl | assumption); (case kC1 => exact C1); (case k6 => exact News.sub (by k_asm) (by (first | kpt_turns | ((try simp only [List.cons_append, List.append_assoc, List.nil_append]); repeat' (first | (with_reducible refine sub_cons ?_ ?_; k_mem) | with_reducible refine sub_app ?_ ?_ | exact sub_nil | (intro q hq; kpc_turns)))))); (case k7 => ktr_room); (case k8 => ktr_units); (case kts => (first | kpt_turns | ((try simp only [List.cons_append, List.append_assoc, List.nil_append]); repeat' (first | (with_reducible refine sub_cons ?_ ?_; k_mem) | with_reducible refine sub_app ?_ ?_ | exact sub_nil | (intro q hq; kpc_turns))))); (case kT1 => exact T1G9); (case m1 => k_mem); (case m2 => k_mem); (case mR => exact RowsIn.mono (by (first | kpt_turns | ((try simp only [List.cons_append, List.append_assoc, List.nil_append]); repeat' (first | (with_reducible refine sub_cons ?_ ?_; k_mem) | with_reducible refine sub_app ?_ ?_ | exact sub_nil | (intro q hq; kpc_turns))))) hR9x); (case kL => omega); k_whole)
  intro T10 dT10 oT10 tT10 nT10 hG10 tkG10 drG10 oa10 vsG10 kG10 ext10 FG10 NG10 hmT10 hmd10 hlT10 hDT10 hRG10 hln10 T1G10 hxG10
  clear hg1 hgl
  have hxK10 : ∀ q ∈ ext10, ∀ a ∈ [(L' + 1 + 1 + 1 + 1 + 1 + 1 + 1 + 1 + 1 + 1 + 1 : Addr), (L' + 1 + 1 + 1 + 1 + 1 + 1 + 1 + 1 + 1 + 1 : Addr), (L' + 1 + 1 + 1 + 1 + 1 + 1 + 1 + 1 + 1 : Addr), (L' + 1 + 1 + 1 + 1 + 1 + 1 + 1 + 1 : Addr), (L' + 1 + 1 + 1 + 1 + 1 + 1 + 1 : Addr), (L' + 1 + 1 + 1 + 1 + 1 + 1 : Addr), (L' + 1 + 1 + 1 + 1 + 1 : Addr), (L' + 1 + 1 + 1 + 1 : Addr), (L' + 1 + 1 + 1 : Addr), (L' + 1 + 1 : Addr), (L' + 1 : Addr), 196, 224, 231], a ≠ q.1 := fun q hq => List.forall_mem_cons.mpr ⟨off1_mem (hxG10 q hq) (L' + 1 + 1 + 1 + 1 + 1 + 1 + 1 + 1 + 1 + 1 + 1, oc1) (by k_mem), List.forall_mem_cons.mpr ⟨off1_mem (hxG10 q hq) (L' + 1 + 1 + 1 + 1 + 1 + 1 + 1 + 1 + 1 + 1, oc2) (by k_mem), List.forall_mem_cons.mpr ⟨off1_mem (hxG10 q hq) (L' + 1 + 1 + 1 + 1 + 1 + 1 + 1 + 1 + 1, oc3) (by k_mem), List.forall_mem_cons.mpr ⟨off1_mem (hxG10 q hq) (L' + 1 + 1 + 1 + 1 + 1 + 1 + 1 + 1, oN8) (by k_mem), List.forall_mem_cons.mpr ⟨off1_mem (hxG10 q hq) (L' + 1 + 1 + 1 + 1 + 1 + 1 + 1, oN7) (by k_mem), List.forall_mem_cons.mpr ⟨off1_mem (hxG10 q hq) (L' + 1 + 1 + 1 + 1 + 1 + 1, oN6) (by k_mem), List.forall_mem_cons.mpr ⟨off1_mem (hxG10 q hq) (L' + 1 + 1 + 1 + 1 + 1, oN5) (by k_mem), List.forall_mem_cons.mpr ⟨off1_mem (hxG10 q hq) (L' + 1 + 1 + 1 + 1, oN4) (by k_mem), List.forall_mem_cons.mpr ⟨off1_mem (hxG10 q hq) (L' + 1 + 1 + 1, oN3) (by k_mem), List.forall_mem_cons.mpr ⟨off1_mem (hxG10 q hq) (L' + 1 + 1, oN2) (by k_mem), List.forall_mem_cons.mpr ⟨off1_mem (hxG10 q hq) (L' + 1, oN1) (by k_mem), List.forall_mem_cons.mpr ⟨off1_mem (hxG10 q hq) (196, oa9) (by k_mem), List.forall_mem_cons.mpr ⟨off1_mem (hxG10 q hq) (224, ob) (by k_mem), List.forall_mem_cons.mpr ⟨off1_mem (hxG10 q hq) (231, oc) (by k_mem), (fun _ h => nomatch h)⟩⟩⟩⟩⟩⟩⟩⟩⟩⟩⟩⟩⟩⟩
  obtain ⟨E10, hE10⟩ : ∃ e, e = ext10 ++ E9 := ⟨_, rfl⟩
  have NN10 : News G0 L' hG10 ((L' + 1 + 1 + 1 + 1 + 1 + 1 + 1 + 1 + 1 + 1 + 1, oc1) :: (L' + 1 + 1 + 1 + 1 + 1 + 1 + 1 + 1 + 1 + 1, oc2) :: (L' + 1 + 1 + 1 + 1 + 1 + 1 + 1 + 1 + 1, oc3) :: (L' + 1 + 1 + 1 + 1 + 1 + 1 + 1 + 1, oN8) :: (L' + 1 + 1 + 1 + 1 + 1 + 1 + 1, oN7) :: (L' + 1 + 1 + 1 + 1 + 1 + 1, oN6) :: (L' + 1 + 1 + 1 + 1 + 1, oN5) :: (L' + 1 + 1 + 1 + 1, oN4) :: (L' + 1 + 1 + 1, oN3) :: (L' + 1 + 1, oN2) :: (L' + 1, oN1) :: (196, oa10) :: (224, ob) :: (231, oc) :: (l, W.listOf vsG10.toArray kG10) :: E10) := News.sub NG10 (by rw [hE10]; (first | kpt_turns | ((try simp only [List.cons_append, List.append_assoc, List.nil_append]); repeat' (first | (with_reducible refine sub_cons ?_ ?_; k_mem) | with_reducible refine sub_app ?_ ?_ | exact sub_nil | (intro q hq; kpc_turns)))))
  have hO10 : ∀ q ∈ E10, ∀ a ∈ [(L' + 1 + 1 + 1 + 1 + 1 + 1 + 1 + 1 + 1 + 1 + 1 : Addr), (L' + 1 + 1 + 1 + 1 + 1 + 1 + 1 + 1 + 1 + 1 : Addr), (L' + 1 + 1 + 1 + 1 + 1 + 1 + 1 + 1 + 1 : Addr), (L' + 1 + 1 + 1 + 1 + 1 + 1 + 1 + 1 : Addr), (L' + 1 + 1 + 1 + 1 + 1 + 1 + 1 : Addr), (L' + 1 + 1 + 1 + 1 + 1 + 1 : Addr), (L' + 1 + 1 + 1 + 1 + 1 : Addr), (L' + 1 + 1 + 1 + 1 : Addr), (L' + 1 + 1 + 1 : Addr), (L' + 1 + 1 : Addr), (L' + 1 : Addr), 196, 224, 231], a ≠ q.1 := by
    rw [hE10]
    intro q hq
    rcases List.mem_append.mp hq with hq | hq
    · exact hxK10 q hq
    · exact hO9 q hq
  have hS10 : ∀ q ∈ E9, q ∈ E10 := by rw [hE10]; exact fun q h => List.mem_append_right _ h
  have hX10 : ∀ q ∈ ext10, q ∈ E10 := by rw [hE10]; exact fun q h => List.mem_append_left _ h
  replace hoL : LCg.Off1 l E10 := by rw [hE10]; exact off1_append (off1_of fun p hp => Ne.symm (off1_mem (hxG10 p hp) (l, W.listOf (vsG9).toArray _) (List.mem_cons_of_mem _ List.mem_cons_self))) hoL
  replace hmT10 := hX10 _ hmT10
  replace hmd10 := hX10 _ hmd10
  replace T1G10 : TabOk 145 4 "_str_to_int_inner.<locals>.inner" oa10 E10 := TabOk.mono (by rw [hE10]; exact fun q h => h) T1G10
  have hR10x : RowsIn E10 (rowsB (bookOf (rowsB (bookOf (rowsTo nums 8) g)) s2)) vsG10 := RowsIn.mono hX10 hRG10
  replace hmt := hS10 _ hmt
  replace hmd := hS10 _ hmd
  replace hmN2 := hS10 _ hmN2
  replace hm3 := hS10 _ hm3
  replace hm8 := hS10 _ hm8
  replace hmT9 := hS10 _ hmT9
  replace hmd9 := hS10 _ hmd9
  replace T2b := TabOk.mono hS10 T2b
  replace T3b := TabOk.mono hS10 T3b
  replace T1G9 := TabOk.mono hS10 T1G9
  have hcE10 : ∀ a ∈ [(L' + 1 + 1 + 1 + 1 + 1 + 1 + 1 + 1 + 1 + 1 + 1 : Addr), (L' + 1 + 1 + 1 + 1 + 1 + 1 + 1 + 1 + 1 + 1 : Addr), (L' + 1 + 1 + 1 + 1 + 1 + 1 + 1 + 1 + 1 : Addr), (L' + 1 + 1 + 1 + 1 + 1 + 1 + 1 + 1 : Addr), (L' + 1 + 1 + 1 + 1 + 1 + 1 + 1 : Addr), (L' + 1 + 1 + 1 + 1 + 1 + 1 : Addr), (L' + 1 + 1 + 1 + 1 + 1 : Addr), (L' + 1 + 1 + 1 + 1 : Addr), (L' + 1 + 1 + 1 : Addr), (L' + 1 + 1 : Addr), (L' + 1 : Addr), 196, 224, 231], LCg.Off1 a E10 := fun a ha => off1_of fun p hp => Ne.symm (hO10 p hp a ha)
  clear NG10 hxG10 hE10 hxK10 hO9
  refine letN NN10 ?_
  clear NN10
  intro LD11 NN10
  k_steps
  first
  | (rename_i oN9 dN9 hx11 oN10 F15 N16 dN10 q25 q26 hR12 tkR3 tr4 ur4 vr4 hrgR3 FR12 NR12 kpR3; have zz : oN10.data = _ := dN10; clear zz)
  | rename_i oN9 dN9 hx11 oN10 F15 N16 dN10 hR12 tkR3 tr4 ur4 vr4 hrgR3 FR12 NR12 kpR3
  have N17 : News G0 L' hR12 ((L' + 1 + 1 + 1 + 1 + 1 + 1 + 1 + 1 + 1 + 1 + 1, oc1) :: (L' + 1 + 1 + 1 + 1 + 1 + 1 + 1 + 1 + 1 + 1, oN10) :: (L' + 1 + 1 + 1 + 1 + 1 + 1 + 1 + 1 + 1, oN9) :: (L' + 1 + 1 + 1 + 1 + 1 + 1 + 1 + 1, oN8) :: (L' + 1 + 1 + 1 + 1 + 1 + 1 + 1, oN7) :: (L' + 1 + 1 + 1 + 1 + 1 + 1, oN6) :: (L' + 1 + 1 + 1 + 1 + 1, oN5) :: (L' + 1 + 1 + 1 + 1, oN4) :: (L' + 1 + 1 + 1, oN3) :: (L' + 1 + 1, oN2) :: (L' + 1, oN1) :: (196, oa10) :: (224, ob) :: (231, oc) :: (l, W.listOf vsG10.toArray kG10) :: E10) := News.sub NR12 (by (first | kpt_turns | ((try simp only [List.cons_append, List.append_assoc, List.nil_append]); repeat' (first | (with_reducible refine sub_cons ?_ ?_; k_mem) | with_reducible refine sub_app ?_ ?_ | exact sub_nil | (intro q hq; kpc_turns)))))
  clear N16 NR12
  refine letN N17 ?_
  clear N17
  intro LDc N17
  unfold Sealed
  k_dflt (refine LCg.CompSrc.range (n := 4) rfl FR12 N17 hrgR3 (by decide +kernel) (by decide +kernel) (by decide +kernel) ?_)
  intro ggM
  refine restU_J (n := 4) (fun i ys nw => nw = LDc ∧ All2 (fun p v => IsI (nums.getD p 0 / 4 + nums.getD (p + 4) 0 / 4) v) (List.range i) ys) ?turnM ?finM _ _ _ _ rfl ⟨rfl, All2.nil⟩
  case turnM =>
    intro i v ys nw hi pp11 pp12 I oI C oC D m₂ h tk E' a1 a2 a3 a4 a5 a6
    refine hideG fun GG hGG => ?_
    obtain ⟨ti, rfl⟩ := pp11
    obtain ⟨rfl, hys⟩ := pp12
    refine hGG ?_
    clear hGG GG
    k_steps
    unfold Sealed
    refine ksa_sub (D := ND) (vs := ysN) (n := ysN.length) (by k_asm) (by k_mem) (ints_of hNA) (by omega) (by omega) (by omega) ?_ (by with_unfolding_all rfl)
    intro t1
    rw [show (0 + (i : Int)).toNat = i by omega]
    k_steps
    unfold Sealed
    refine ksa_sub (D := ND) (vs := ysN) (n := ysN.length) (by k_asm) (by k_mem) (ints_of hNA) (by omega) (by omega) (by omega) ?_ (by with_unfolding_all rfl)
    intro t2
    rw [show (0 + (i : Int) + 4).toNat = i + 4 by omega]
    k_steps
    unfold Sealed
    refine' ⟨_, _, _, rfl, ?fM, ?nM, a5, trivial, ⟨rfl, ?aM⟩⟩
    case fM => k_asm
    case nM => exact News.sub (by k_asm) (by (first | kpt_turns | ((try simp only [List.cons_append, List.append_assoc, List.nil_append]); repeat' (first | (with_reducible refine sub_cons ?_ ?_; k_mem) | with_reducible refine sub_app ?_ ?_ | exact sub_nil | (intro q hq; kpc_turns)))))
    case aM =>
      rw [List.range_succ]
      exact hys.snoc ⟨_, rfl⟩
  intro ysM nw pp13
  refine hideG fun GG hGG => ?_
  obtain ⟨rfl, hysM⟩ := pp13
  refine hGG ?_
  clear hGG GG
  (try refine openSeal ?_)
  (try unfold Sealed)
  unfold LCg.FinE
  intro DM hM tkM FM NM offM
  (try kfm_turns)
  obtain ⟨E11, hE11⟩ : ∃ e, e = (DM, LCg.lst ysM) :: E10 := ⟨_, rfl⟩
  have hK11 : ∀ a ∈ [(L' + 1 + 1 + 1 + 1 + 1 + 1 + 1 + 1 + 1 + 1 + 1 : Addr), (L' + 1 + 1 + 1 + 1 + 1 + 1 + 1 + 1 + 1 + 1 : Addr), (L' + 1 + 1 + 1 + 1 + 1 + 1 + 1 + 1 + 1 : Addr), (L' + 1 + 1 + 1 + 1 + 1 + 1 + 1 + 1 : Addr), (L' + 1 + 1 + 1 + 1 + 1 + 1 + 1 : Addr), (L' + 1 + 1 + 1 + 1 + 1 + 1 : Addr), (L' + 1 + 1 + 1 + 1 + 1 : Addr), (L' + 1 + 1 + 1 + 1 : Addr), (L' + 1 + 1 + 1 : Addr), (L' + 1 + 1 : Addr), (L' + 1 : Addr), 196, 224, 231], a ≠ DM := keys_ne (pre := [(L' + 1 + 1 + 1 + 1 + 1 + 1 + 1 + 1 + 1 + 1 + 1, oc1), (L' + 1 + 1 + 1 + 1 + 1 + 1 + 1 + 1 + 1 + 1, oN10), (L' + 1 + 1 + 1 + 1 + 1 + 1 + 1 + 1 + 1, oN9), (L' + 1 + 1 + 1 + 1 + 1 + 1 + 1 + 1, oN8), (L' + 1 + 1 + 1 + 1 + 1 + 1 + 1, oN7), (L' + 1 + 1 + 1 + 1 + 1 + 1, oN6), (L' + 1 + 1 + 1 + 1 + 1, oN5), (L' + 1 + 1 + 1 + 1, oN4), (L' + 1 + 1 + 1, oN3), (L' + 1 + 1, oN2), (L' + 1, oN1), (196, oa10), (224, ob), (231, oc)]) offM
  have NN11 : News G0 L' hM ((L' + 1 + 1 + 1 + 1 + 1 + 1 + 1 + 1 + 1 + 1 + 1, oc1) :: (L' + 1 + 1 + 1 + 1 + 1 + 1 + 1 + 1 + 1 + 1, oN10) :: (L' + 1 + 1 + 1 + 1 + 1 + 1 + 1 + 1 + 1, oN9) :: (L' + 1 + 1 + 1 + 1 + 1 + 1 + 1 + 1, oN8) :: (L' + 1 + 1 + 1 + 1 + 1 + 1 + 1, oN7) :: (L' + 1 + 1 + 1 + 1 + 1 + 1, oN6) :: (L' + 1 + 1 + 1 + 1 + 1, oN5) :: (L' + 1 + 1 + 1 + 1, oN4) :: (L' + 1 + 1 + 1, oN3) :: (L' + 1 + 1, oN2) :: (L' + 1, oN1) :: (196, oa10) :: (224, ob) :: (231, oc) :: (l, W.listOf vsG10.toArray kG10) :: E11) := by
    rw [hE11]
    first
      | exact News.mv [(L' + 1 + 1 + 1 + 1 + 1 + 1 + 1 + 1 + 1 + 1 + 1, oc1), (L' + 1 + 1 + 1 + 1 + 1 + 1 + 1 + 1 + 1 + 1, oN10), (L' + 1 + 1 + 1 + 1 + 1 + 1 + 1 + 1 + 1, oN9), (L' + 1 + 1 + 1 + 1 + 1 + 1 + 1 + 1, oN8), (L' + 1 + 1 + 1 + 1 + 1 + 1 + 1, oN7), (L' + 1 + 1 + 1 + 1 + 1 + 1, oN6), (L' + 1 + 1 + 1 + 1 + 1, oN5), (L' + 1 + 1 + 1 + 1, oN4), (L' + 1 + 1 + 1, oN3), (L' + 1 + 1, oN2), (L' + 1, oN1), (196, oa10), (224, ob), (231, oc), (l, W.listOf vsG10.toArray kG10)] NM
      | exact News.sub NM (by (first | kpt_turns | ((try simp only [List.cons_append, List.append_assoc, List.nil_append]); repeat' (first | (with_reducible refine sub_cons ?_ ?_; k_mem) | with_reducible refine sub_app ?_ ?_ | exact sub_nil | (intro q hq; kpc_turns)))))
  have hO11 : ∀ q ∈ E11, ∀ a ∈ [(L' + 1 + 1 + 1 + 1 + 1 + 1 + 1 + 1 + 1 + 1 + 1 : Addr), (L' + 1 + 1 + 1 + 1 + 1 + 1 + 1 + 1 + 1 + 1 : Addr), (L' + 1 + 1 + 1 + 1 + 1 + 1 + 1 + 1 + 1 : Addr), (L' + 1 + 1 + 1 + 1 + 1 + 1 + 1 + 1 : Addr), (L' + 1 + 1 + 1 + 1 + 1 + 1 + 1 : Addr), (L' + 1 + 1 + 1 + 1 + 1 + 1 : Addr), (L' + 1 + 1 + 1 + 1 + 1 : Addr), (L' + 1 + 1 + 1 + 1 : Addr), (L' + 1 + 1 + 1 : Addr), (L' + 1 + 1 : Addr), (L' + 1 : Addr), 196, 224, 231], a ≠ q.1 := by
    rw [hE11]
    intro q hq
    rcases List.mem_cons.mp hq with rfl | hq
    · exact hK11
    · exact hO10 q hq
  have hS11 : ∀ q ∈ E10, q ∈ E11 := by rw [hE11]; exact fun q h => List.mem_cons_of_mem _ h
  replace hoL : LCg.Off1 l E11 := by rw [hE11]; exact ⟨Ne.symm (off1_mem offM (l, W.listOf vsG10.toArray kG10) (by k_mem)), hoL⟩
  have hm11 : (DM, LCg.lst ysM) ∈ E11 := by rw [hE11]; exact List.mem_cons_self
  replace hmt := hS11 _ hmt
  replace hmd := hS11 _ hmd
  replace hmN2 := hS11 _ hmN2
  replace hm3 := hS11 _ hm3
  replace hm8 := hS11 _ hm8
  replace hmT9 := hS11 _ hmT9
  replace hmd9 := hS11 _ hmd9
  replace hmT10 := hS11 _ hmT10
  replace hmd10 := hS11 _ hmd10
  replace hR10x := RowsIn.mono hS11 hR10x
  replace T2b := TabOk.mono hS11 T2b
  replace T3b := TabOk.mono hS11 T3b
  replace T1G9 := TabOk.mono hS11 T1G9
  replace T1G10 := TabOk.mono hS11 T1G10
  have hS11k := hS11
  clear NM offM hO10 hE11 hK11 hS11
  refine letN NN11 ?_
  clear NN11
  intro LD12 NN11
  have hcE11 : ∀ a ∈ [(L' + 1 + 1 + 1 + 1 + 1 + 1 + 1 + 1 + 1 + 1 + 1 : Addr), (L' + 1 + 1 + 1 + 1 + 1 + 1 + 1 + 1 + 1 + 1 : Addr), (L' + 1 + 1 + 1 + 1 + 1 + 1 + 1 + 1 + 1 : Addr), (L' + 1 + 1 + 1 + 1 + 1 + 1 + 1 + 1 : Addr), (L' + 1 + 1 + 1 + 1 + 1 + 1 + 1 : Addr), (L' + 1 + 1 + 1 + 1 + 1 + 1 : Addr), (L' + 1 + 1 + 1 + 1 + 1 : Addr), (L' + 1 + 1 + 1 + 1 : Addr), (L' + 1 + 1 + 1 : Addr), (L' + 1 + 1 : Addr), (L' + 1 : Addr), 196, 224, 231], LCg.Off1 a E11 := fun a ha => off1_of fun p hp => Ne.symm (hO11 p hp a ha)
  k_steps
  rename_i oN11 dN11 LDw lA hA9 gA DB hB9 FB NB gB1 gB2
  have offB : LCg.Off1 DB ((L' + 1 + 1 + 1 + 1 + 1 + 1 + 1 + 1 + 1 + 1 + 1, oN11) :: (L' + 1 + 1 + 1 + 1 + 1 + 1 + 1 + 1 + 1 + 1, oN10) :: (L' + 1 + 1 + 1 + 1 + 1 + 1 + 1 + 1 + 1, oN9) :: (L' + 1 + 1 + 1 + 1 + 1 + 1 + 1 + 1, oN8) :: (L' + 1 + 1 + 1 + 1 + 1 + 1 + 1, oN7) :: (L' + 1 + 1 + 1 + 1 + 1 + 1, oN6) :: (L' + 1 + 1 + 1 + 1 + 1, oN5) :: (L' + 1 + 1 + 1 + 1, oN4) :: (L' + 1 + 1 + 1, oN3) :: (L' + 1 + 1, oN2) :: (L' + 1, oN1) :: (196, oa10) :: (224, ob) :: (231, oc) :: (l, W.listOf vsG10.toArray kG10) :: E11) := off1_of (allLt_ne gB2 (Nat.le_refl _))
  clear gA gB1 gB2
  clear offB
  refine letN NB ?_
  clear NB
  intro LD13 NN12
  have hDk9 := hDT9
  obtain ⟨kv9, hkv9, hfv9⟩ := hDk9
  unfold Sealed
  k_dflt (refine LCg.CompSrc.ledger (its := #[.int (s2.val : Int) tW, .int (p0.val : Int) tq0, .int (p1.val : Int) tq1]) (hh := rfl) (by k_asm) NN12 (by k_mem) (by show 3 ≤ _; decide +kernel) ?_)
  intro ggO
  refine restU_J (n := 3) (fun i ys nw => nw = LD13 ∧ All2 (fun (k : Fin 4) v => IsI (kprLook (totalOf (bookOf (rowsTo nums 8) g)) k 0) v) (([s2, p0, p1] : List (Fin 4)).take i) ys) ?turnO ?finO _ _ _ _ rfl ⟨rfl, All2.nil⟩
  case turnO =>
    intro i v ys nw hi hv pp14 I oI C oC D m₂ h tk E' a1 a2 a3 a4 a5 a6
    refine hideG fun GG hGG => ?_
    obtain ⟨rfl, hys⟩ := pp14
    refine hGG ?_
    clear hGG GG
    obtain ⟨k, tk0, rfl, hk⟩ : ∃ k : Fin 4, ∃ t, v = .int (k.val : Int) t ∧ ([s2, p0, p1] : List (Fin 4))[i]? = some k := by
      have h3 : i = 0 ∨ i = 1 ∨ i = 2 := by omega
      rcases h3 with rfl | rfl | rfl
      · exact ⟨s2, _, (Option.some.inj hv).symm, rfl⟩
      · exact ⟨p0, _, (Option.some.inj hv).symm, rfl⟩
      · exact ⟨p1, _, (Option.some.inj hv).symm, rfl⟩
    have hkl := k.isLt
    k_steps
    unfold Sealed
    rw [item4]
    refine dk_get2 (k := k) (e := 0) (by k_asm) (by k_mem) hlT9 hDT9 ?_
    intro tvO
    (try kfm_turns)
    k_steps
    unfold Sealed
    refine' ⟨_, _, _, rfl, ?fO, ?nO, a5, .inr ⟨_, by k_mem, rfl, _, rfl⟩, ⟨rfl, ?aO⟩⟩
    case fO => k_asm
    case nO => exact News.sub (by k_asm) (by (first | kpt_turns | ((try simp only [List.cons_append, List.append_assoc, List.nil_append]); repeat' (first | (with_reducible refine sub_cons ?_ ?_; k_mem) | with_reducible refine sub_app ?_ ?_ | exact sub_nil | (intro q hq; kpc_turns)))))
    case aO =>
      rw [List.take_add_one, hk, Option.toList_some]
      exact hys.snoc ⟨_, rfl⟩
  intro ysU nw pp15
  refine hideG fun GG hGG => ?_
  obtain ⟨rfl, hysU⟩ := pp15
  refine hGG ?_
  clear hGG GG
  (try refine openSeal ?_)
  (try unfold Sealed)
  unfold LCg.FinE
  intro DU hU tkU FU NU offU
  (try kfm_turns)
  have hysU2 : All2 (fun (k : Fin 4) v => IsI (kprLook (totalOf (bookOf (rowsTo nums 8) g)) k 0) v) [s2, p0, p1] ysU := hysU
  clear hysU kv9 hkv9 hfv9
  clear offU
  refine letN NU ?_
  clear NU
  intro LD14 NN13
  have hysM3 := wts_all hysM
  have hovB := bnd_over (bnd8 hn8 hnb) g
  k_steps
  rename_i lA14 hA14z gA DB14 hB14z FB14 NB14 gB1 gB2
  have offB14 : LCg.Off1 DB14 LD14 := off1_of (allLt_ne gB2 (Nat.le_refl _))
  clear gA gB1 gB2
  clear offB14
  refine letN NB14 ?_
  clear NB14
  intro LD15 NN14
  unfold Sealed
  k_dflt (refine LCg.CompSrc.ledger (its := #[.int (s2.val : Int) tW, .int (p0.val : Int) tq0, .int (p1.val : Int) tq1]) (hh := rfl) (by k_asm) NN14 (by k_mem) (by show 3 ≤ _; decide +kernel) ?_)
  intro ggR
  refine restU_J (n := 3) (fun i ys nw => nw = LD15 ∧ All2 (fun (k : Fin 4) v => IsI (overOf (rowsTo nums 8) g * W1 (rowsTo nums 8) k) v) (([s2, p0, p1] : List (Fin 4)).take i) ys) ?turnR ?finR _ _ _ _ rfl ⟨rfl, All2.nil⟩
  case turnR =>
    intro i v ys nw hi hv pp16 I oI C oC D m₂ h tk E' a1 a2 a3 a4 a5 a6
    refine hideG fun GG hGG => ?_
    obtain ⟨rfl, hys⟩ := pp16
    refine hGG ?_
    clear hGG GG
    obtain ⟨k, tk0, rfl, hk⟩ : ∃ k : Fin 4, ∃ t, v = .int (k.val : Int) t ∧ ([s2, p0, p1] : List (Fin 4))[i]? = some k := by
      have h3 : i = 0 ∨ i = 1 ∨ i = 2 := by omega
      rcases h3 with rfl | rfl | rfl
      · exact ⟨s2, _, (Option.some.inj hv).symm, rfl⟩
      · exact ⟨p0, _, (Option.some.inj hv).symm, rfl⟩
      · exact ⟨p1, _, (Option.some.inj hv).symm, rfl⟩
    have hkl := k.isLt
    have hwk := wts_bnd hn8 hnb k
    k_steps
    unfold Sealed
    refine ksa_sub (vs := ysM) (n := ysM.length) (by k_asm) (by k_mem) (ints_of hysM3) (by omega) (by rw [wts_len]; omega) (by omega) ?_ (by with_unfolding_all rfl)
    intro twR
    rw [show ((k.val : Int)).toNat = k.val from rfl, wts_get]
    k_steps
    unfold Sealed
    refine' ⟨_, _, _, rfl, ?fR, ?nR, a5, .inr ⟨_, by k_mem, rfl, _, rfl⟩, ⟨rfl, ?aR⟩⟩
    case fR => k_asm
    case nR => exact News.sub (by k_asm) (by (first | kpt_turns | ((try simp only [List.cons_append, List.append_assoc, List.nil_append]); repeat' (first | (with_reducible refine sub_cons ?_ ?_; k_mem) | with_reducible refine sub_app ?_ ?_ | exact sub_nil | (intro q hq; kpc_turns)))))
    case aR =>
      rw [List.take_add_one, hk, Option.toList_some]
      exact hys.snoc ⟨_, rfl⟩
  intro ysR nw pp17
  refine hideG fun GG hGG => ?_
  obtain ⟨rfl, hysRz⟩ := pp17
  refine hGG ?_
  clear hGG GG
  (try refine openSeal ?_)
  (try unfold Sealed)
  unfold LCg.FinE
  intro DR hR tkR FR NR offR
  (try kfm_turns)
  have hysR : All2 (fun (k : Fin 4) v => IsI (overOf (rowsTo nums 8) g * W1 (rowsTo nums 8) k) v) [s2, p0, p1] ysR := hysRz
  clear hysRz
  clear offR
  refine letN NR ?_
  clear NR
  intro LD16 NN15
  k_steps
  unfold Sealed
  refine kqd_ne (n₁ := []) (n₂ := []) (by k_asm) (by k_mem) rfl rfl (dat_ints (isI_mapf hysU2)) (fun _ h => nomatch h) (by k_mem) rfl rfl (dat_ints (isI_mapf hysR)) (fun _ h => nomatch h) (ok_ints _) (ok_ints _) ?huR ?_
  case huR => ktr_units
  rw [ne_same (congrArg (List.map W.Dat.int) (law_once hsg hp0g hp0s hp1g hp1s hp01))]
  clear hysU2 hysR
  k_steps
  have hDk10 := hDT10
  obtain ⟨kv10, hkv10, hfv10⟩ := hDk10
  unfold Sealed
  k_dflt (refine LCg.CompSrc.ledger (its := #[.int (p0.val : Int) tq0, .int (p1.val : Int) tq1]) (hh := rfl) (by k_asm) NN15 (by k_mem) (by show 2 ≤ _; decide +kernel) ?_)
  intro ggS
  refine restU_J (n := 2) (fun i ys nw => nw = LD16 ∧ All2 (fun (k : Fin 4) v => IsI (kprLook (totalOf (bookOf (rowsB (bookOf (rowsTo nums 8) g)) s2)) k 0) v) (([p0, p1] : List (Fin 4)).take i) ys) ?turnS ?finS _ _ _ _ rfl ⟨rfl, All2.nil⟩
  case turnS =>
    intro i v ys nw hi hv pp18 I oI C oC D m₂ h tk E' a1 a2 a3 a4 a5 a6
    refine hideG fun GG hGG => ?_
    obtain ⟨rfl, hys⟩ := pp18
    refine hGG ?_
    clear hGG GG
    obtain ⟨k, tk0, rfl, hk⟩ : ∃ k : Fin 4, ∃ t, v = .int (k.val : Int) t ∧ ([p0, p1] : List (Fin 4))[i]? = some k := by
      have h3 : i = 0 ∨ i = 1 := by omega
      rcases h3 with rfl | rfl
      · exact ⟨p0, _, (Option.some.inj hv).symm, rfl⟩
      · exact ⟨p1, _, (Option.some.inj hv).symm, rfl⟩
    have hkl := k.isLt
    have hwk := wts_bnd hn8 hnb k
    k_steps
    unfold Sealed
    rw [item4]
    refine dk_get2 (k := k) (e := 0) (by k_asm) (by k_mem) hlT10 hDT10 ?_
    intro tvS
    (try kfm_turns)
    k_steps
    unfold Sealed
    refine' ⟨_, _, _, rfl, ?fS, ?nS, a5, .inr ⟨_, by k_mem, rfl, _, rfl⟩, ⟨rfl, ?aS⟩⟩
    case fS => k_asm
    case nS => exact News.sub (by k_asm) (by (first | kpt_turns | ((try simp only [List.cons_append, List.append_assoc, List.nil_append]); repeat' (first | (with_reducible refine sub_cons ?_ ?_; k_mem) | with_reducible refine sub_app ?_ ?_ | exact sub_nil | (intro q hq; kpc_turns)))))
    case aS =>
      rw [List.take_add_one, hk, Option.toList_some]
      exact hys.snoc ⟨_, rfl⟩
  intro ysS nw pp19
  refine hideG fun GG hGG => ?_
  obtain ⟨rfl, hysSz⟩ := pp19
  refine hGG ?_
  clear hGG GG
  (try refine openSeal ?_)
  (try unfold Sealed)
  unfold LCg.FinE
  intro DS hS tkS FS NS offS
  (try kfm_turns)
  have hysS : All2 (fun (k : Fin 4) v => IsI (kprLook (totalOf (bookOf (rowsB (bookOf (rowsTo nums 8) g)) s2)) k 0) v) [p0, p1] ysS := hysSz
  clear hysSz
  clear kv10 hkv10 hfv10
  clear offS
  refine letN NS ?_
  clear NS
  intro LD17 NN16
  k_steps
  unfold Sealed
  k_dflt (refine LCg.CompSrc.ledger (its := #[.int (p0.val : Int) tq0, .int (p1.val : Int) tq1]) (hh := rfl) (by k_asm) NN16 (by k_mem) (by show 2 ≤ _; decide +kernel) ?_)
  intro ggV
  refine restU_J (n := 2) (fun i ys nw => nw = LD17 ∧ All2 (fun (k : Fin 4) v => IsI (overOf (rowsB (bookOf (rowsTo nums 8) g)) s2 * overOf (rowsTo nums 8) g * W1 (rowsTo nums 8) k) v) (([p0, p1] : List (Fin 4)).take i) ys) ?turnV ?finV _ _ _ _ rfl ⟨rfl, All2.nil⟩
  case turnV =>
    intro i v ys nw hi hv pp20 I oI C oC D m₂ h tk E' a1 a2 a3 a4 a5 a6
    refine hideG fun GG hGG => ?_
    obtain ⟨rfl, hys⟩ := pp20
    refine hGG ?_
    clear hGG GG
    obtain ⟨k, tk0, rfl, hk⟩ : ∃ k : Fin 4, ∃ t, v = .int (k.val : Int) t ∧ ([p0, p1] : List (Fin 4))[i]? = some k := by
      have h3 : i = 0 ∨ i = 1 := by omega
      rcases h3 with rfl | rfl
      · exact ⟨p0, _, (Option.some.inj hv).symm, rfl⟩
      · exact ⟨p1, _, (Option.some.inj hv).symm, rfl⟩
    have hkl := k.isLt
    have hwk := wts_bnd hn8 hnb k
    k_steps
    unfold Sealed
    refine ksa_sub (vs := ysM) (n := ysM.length) (by k_asm) (by k_mem) (ints_of hysM3) (by omega) (by rw [wts_len]; omega) (by omega) ?_ (by with_unfolding_all rfl)
    intro twV
    rw [show ((k.val : Int)).toNat = k.val from rfl, wts_get]
    k_steps
    unfold Sealed
    refine' ⟨_, _, _, rfl, ?fV, ?nV, a5, .inr ⟨_, by k_mem, rfl, _, rfl⟩, ⟨rfl, ?aV⟩⟩
    case fV => k_asm
    case nV => exact News.sub (by k_asm) (by (first | kpt_turns | ((try simp only [List.cons_append, List.append_assoc, List.nil_append]); repeat' (first | (with_reducible refine sub_cons ?_ ?_; k_mem) | with_reducible refine sub_app ?_ ?_ | exact sub_nil | (intro q hq; kpc_turns)))))
    case aV =>
      rw [List.take_add_one, hk, Option.toList_some]
      exact hys.snoc ⟨_, rfl⟩
  intro ysV nw pp21
  refine hideG fun GG hGG => ?_
  obtain ⟨rfl, hysVz⟩ := pp21
  refine hGG ?_
  clear hGG GG
  (try refine openSeal ?_)
  (try unfold Sealed)
  unfold LCg.FinE
  intro DV hV tkV FV NV offV
  (try kfm_turns)
  have hysV : All2 (fun (k : Fin 4) v => IsI (overOf (rowsB (bookOf (rowsTo nums 8) g)) s2 * overOf (rowsTo nums 8) g * W1 (rowsTo nums 8) k) v) [p0, p1] ysV := hysVz
  clear hysVz
  clear offV
  refine letN NV ?_
  clear NV
  intro LD18 NN17
  k_steps
  unfold Sealed
  refine kqd_ne (n₁ := []) (n₂ := []) (by k_asm) (by k_mem) rfl rfl (dat_ints (isI_mapf hysS)) (fun _ h => nomatch h) (by k_mem) rfl rfl (dat_ints (isI_mapf hysV)) (fun _ h => nomatch h) (ok_ints _) (ok_ints _) ?huT ?_
  case huT => ktr_units
  rw [ne_same (congrArg (List.map W.Dat.int) (law_twice hsg hp0g hp0s hp1g hp1s hp01))]
  clear hysS hysV
  k_steps
  unfold Sealed
  k_dflt (refine' c_count ?k1 ?k2 ?k3 ?k4 ?k5 _ ?k6 ?k7 ?k8 _ _ _ ?m1 hlT9 hDT9 ?_; (case k1 => k_asm); (case k2 => k_asm); (case k3 => k_asm); (case k4 => k_asm); (case k5 => first | exact rfl | assumption); (case k6 => k_asm); (case k7 => ktr_room); (case k8 => ktr_units); (case m1 => k_mem); k_whole)
  intro tcX hcXz tkcX FcX NcX
  (try kfm_turns)
  k_steps
  rename_i lA18 hA18z gA DB18 hB18z FB18 NB18 gB1 gB2
  have offB18 : LCg.Off1 DB18 LD18 := off1_of (allLt_ne gB2 (Nat.le_refl _))
  clear gA gB1 gB2
  clear offB18
  refine letN NB18 ?_
  clear NB18
  intro LD19 NN18
  unfold Sealed
  k_dflt (refine LCg.CompSrc.ledger (its := #[.int (s2.val : Int) tW, .int (p0.val : Int) tq0, .int (p1.val : Int) tq1]) (hh := rfl) (by k_asm) NN18 (by k_mem) (by show 3 ≤ _; decide +kernel) ?_)
  intro ggY
  refine restU_J (n := 3) (fun i ys nw => nw = LD19 ∧ All2 (fun (k : Fin 4) v => IsI (W1 (rowsTo nums 8) k) v) (([s2, p0, p1] : List (Fin 4)).take i) ys) ?turnY ?finY _ _ _ _ rfl ⟨rfl, All2.nil⟩
  case turnY =>
    intro i v ys nw hi hv pp22 I oI C oC D m₂ h tk E' a1 a2 a3 a4 a5 a6
    refine hideG fun GG hGG => ?_
    obtain ⟨rfl, hys⟩ := pp22
    refine hGG ?_
    clear hGG GG
    obtain ⟨k, tk0, rfl, hk⟩ : ∃ k : Fin 4, ∃ t, v = .int (k.val : Int) t ∧ ([s2, p0, p1] : List (Fin 4))[i]? = some k := by
      have h3 : i = 0 ∨ i = 1 ∨ i = 2 := by omega
      rcases h3 with rfl | rfl | rfl
      · exact ⟨s2, _, (Option.some.inj hv).symm, rfl⟩
      · exact ⟨p0, _, (Option.some.inj hv).symm, rfl⟩
      · exact ⟨p1, _, (Option.some.inj hv).symm, rfl⟩
    have hkl := k.isLt
    have hwk := wts_bnd hn8 hnb k
    k_steps
    unfold Sealed
    refine ksa_sub (vs := ysM) (n := ysM.length) (by k_asm) (by k_mem) (ints_of hysM3) (by omega) (by rw [wts_len]; omega) (by omega) ?_ (by with_unfolding_all rfl)
    intro twY
    rw [show ((k.val : Int)).toNat = k.val from rfl, wts_get]
    k_steps
    unfold Sealed
    refine' ⟨_, _, _, rfl, ?fY, ?nY, a5, .inr ⟨_, by k_mem, rfl, _, rfl⟩, ⟨rfl, ?aY⟩⟩
    case fY => k_asm
    case nY => exact News.sub (by k_asm) (by (first | kpt_turns | ((try simp only [List.cons_append, List.append_assoc, List.nil_append]); repeat' (first | (with_reducible refine sub_cons ?_ ?_; k_mem) | with_reducible refine sub_app ?_ ?_ | exact sub_nil | (intro q hq; kpc_turns)))))
    case aY =>
      rw [List.take_add_one, hk, Option.toList_some]
      exact hys.snoc ⟨_, rfl⟩
  intro ysY nw pp23
  refine hideG fun GG hGG => ?_
  obtain ⟨rfl, hysYz⟩ := pp23
  refine hGG ?_
  clear hGG GG
  (try refine openSeal ?_)
  (try unfold Sealed)
  unfold LCg.FinE
  intro DY hY tkY FY NY offY
  (try kfm_turns)
  have hysY : All2 (fun (k : Fin 4) v => IsI (W1 (rowsTo nums 8) k) v) [s2, p0, p1] ysY := hysYz
  clear hysYz
  clear offY
  refine letN NY ?_
  clear NY
  intro LD20 NN19
  k_steps
  unfold Sealed
  refine sumK (vs := ysY) (ns := ([s2, p0, p1] : List (Fin 4)).map fun k => W1 (rowsTo nums 8) k) rfl (by k_asm) (by k_asm) (News.isList (by k_asm) (by k_mem)) (ints_of (isI_mapf hysY)) ?_
  intro hsYz tksY tsY FsY NsY
  (try kfm_turns)
  have hbs : -600 ≤ (([s2, p0, p1] : List (Fin 4)).map fun k => W1 (rowsTo nums 8) k).sum ∧ (([s2, p0, p1] : List (Fin 4)).map fun k => W1 (rowsTo nums 8) k).sum ≤ 600 := by
    have h1 := wts_bnd hn8 hnb s2
    have h2 := wts_bnd hn8 hnb p0
    have h3 := wts_bnd hn8 hnb p1
    simp only [List.map_cons, List.map_nil, List.sum_cons, List.sum_nil]
    omega
  k_steps
  clear hbs
  unfold Sealed
  refine ne_int ?_
  rw [law_sum1 hsg hp0g hp0s hp1g hp1s hp01, bne_self_eq_false]
  clear hysY
  k_steps
  unfold Sealed
  k_dflt (refine' c_count ?k1 ?k2 ?k3 ?k4 ?k5 _ ?k6 ?k7 ?k8 _ _ _ ?m1 hlT10 hDT10 ?_; (case k1 => k_asm); (case k2 => k_asm); (case k3 => k_asm); (case k4 => k_asm); (case k5 => first | exact rfl | assumption); (case k6 => k_asm); (case k7 => ktr_room); (case k8 => ktr_units); (case m1 => k_mem); k_whole)
  intro tcAA hcAAz tkcAA FcAA NcAA
  (try kfm_turns)
  k_steps
  unfold Sealed
  k_dflt (refine LCg.CompSrc.ledger (its := #[.int (p0.val : Int) tq0, .int (p1.val : Int) tq1]) (hh := rfl) (by k_asm) NcAA (by k_mem) (by show 2 ≤ _; decide +kernel) ?_)
  intro ggAB
  refine restU_J (n := 2) (fun i ys nw => nw = LD20 ∧ All2 (fun (k : Fin 4) v => IsI (W1 (rowsTo nums 8) k) v) (([p0, p1] : List (Fin 4)).take i) ys) ?turnAB ?finAB _ _ _ _ rfl ⟨rfl, All2.nil⟩
  case turnAB =>
    intro i v ys nw hi hv pp24 I oI C oC D m₂ h tk E' a1 a2 a3 a4 a5 a6
    refine hideG fun GG hGG => ?_
    obtain ⟨rfl, hys⟩ := pp24
    refine hGG ?_
    clear hGG GG
    obtain ⟨k, tk0, rfl, hk⟩ : ∃ k : Fin 4, ∃ t, v = .int (k.val : Int) t ∧ ([p0, p1] : List (Fin 4))[i]? = some k := by
      have h3 : i = 0 ∨ i = 1 := by omega
      rcases h3 with rfl | rfl
      · exact ⟨p0, _, (Option.some.inj hv).symm, rfl⟩
      · exact ⟨p1, _, (Option.some.inj hv).symm, rfl⟩
    have hkl := k.isLt
    have hwk := wts_bnd hn8 hnb k
    k_steps
    unfold Sealed
    refine ksa_sub (vs := ysM) (n := ysM.length) (by k_asm) (by k_mem) (ints_of hysM3) (by omega) (by rw [wts_len]; omega) (by omega) ?_ (by with_unfolding_all rfl)
    intro twAB
    rw [show ((k.val : Int)).toNat = k.val from rfl, wts_get]
    k_steps
    unfold Sealed
    refine' ⟨_, _, _, rfl, ?fAB, ?nAB, a5, .inr ⟨_, by k_mem, rfl, _, rfl⟩, ⟨rfl, ?aAB⟩⟩
    case fAB => k_asm
    case nAB => exact News.sub (by k_asm) (by (first | kpt_turns | ((try simp only [List.cons_append, List.append_assoc, List.nil_append]); repeat' (first | (with_reducible refine sub_cons ?_ ?_; k_mem) | with_reducible refine sub_app ?_ ?_ | exact sub_nil | (intro q hq; kpc_turns)))))
    case aAB =>
      rw [List.take_add_one, hk, Option.toList_some]
      exact hys.snoc ⟨_, rfl⟩
  intro ysAB nw pp25
  refine hideG fun GG hGG => ?_
  obtain ⟨rfl, hysABz⟩ := pp25
  refine hGG ?_
  clear hGG GG
  (try refine openSeal ?_)
  (try unfold Sealed)
  unfold LCg.FinE
  intro DAB hAB tkAB FAB NAB offAB
  (try kfm_turns)
  have hysAB : All2 (fun (k : Fin 4) v => IsI (W1 (rowsTo nums 8) k) v) [p0, p1] ysAB := hysABz
  clear hysABz
  clear offAB
  refine letN NAB ?_
  clear NAB
  intro LD21 NN20
  k_steps
  unfold Sealed
  refine sumK (vs := ysAB) (ns := ([p0, p1] : List (Fin 4)).map fun k => W1 (rowsTo nums 8) k) rfl (by k_asm) (by k_asm) (News.isList (by k_asm) (by k_mem)) (ints_of (isI_mapf hysAB)) ?_
  intro hsABz tksAB tsAB FsAB NsAB
  (try kfm_turns)
  have hbs : -600 ≤ (([p0, p1] : List (Fin 4)).map fun k => W1 (rowsTo nums 8) k).sum ∧ (([p0, p1] : List (Fin 4)).map fun k => W1 (rowsTo nums 8) k).sum ≤ 600 := by
    have h1 := wts_bnd hn8 hnb s2
    have h2 := wts_bnd hn8 hnb p0
    have h3 := wts_bnd hn8 hnb p1
    simp only [List.map_cons, List.map_nil, List.sum_cons, List.sum_nil]
    omega
  k_steps
  clear hbs
  unfold Sealed
  refine ne_int ?_
  rw [law_sum2 hsg hp0g hp0s hp1g hp1s hp01, bne_self_eq_false]
  clear hysAB
  k_steps
  unfold Sealed
  (try clear NN15)
  (try clear NN16)
  (try clear NN17)
  (try clear NN18)
  (try clear NcX)
  (try clear NN19)
  (try clear NsY)
  (try clear NcAA)
  (try clear NN20)
  have hgl9 := g.isLt
  have hsl9 := s2.isLt
  refine ⟨DQ, [.int (p0.val : Int) tq0, .int (p1.val : Int) tq1], 2, _, [p0, p1], fun a b v => IsI (worthTo nums g.val s2.val a.val b.val 8) v, rfl, rfl, by k_asm, NsAB, by (refine (?_ : ∀ q ∈ E11, q ∈ _) _ hm8; (first | kpt_turns | ((try simp only [List.cons_append, List.append_assoc, List.nil_append]); repeat' (first | (with_reducible refine sub_cons ?_ ?_; k_mem) | with_reducible refine sub_app ?_ ?_ | exact sub_nil | (intro q hq; kpc_turns))))), by show 6 ≤ _; decide +kernel, .cons ⟨_, rfl⟩ (.cons ⟨_, rfl⟩ .nil), ?i2, ?el, ?fiD⟩
  case i2 =>
    intro va C D I ys oI oC m₂ h tk E' a1 a2 a3 a4
    k_steps
    exact ⟨_, _, rfl, by k_asm, by k_asm⟩
  case el =>
    intro a b va vb ha hb ia ib C D I I2 ys oI oI2 oC m₂ h tk E' a1 a2 a3 a4 a5
    obtain ⟨ta, rfl⟩ := ia
    obtain ⟨tb, rfl⟩ := ib
    have hal := a.isLt
    have hbl := b.isLt
    k_steps
    unfold Sealed
    k_dflt (refine' c_forests ?k1 ?k2 ?k3 ?k4 ?k5 _ ?k6 ?k7 ?k8 ND ysN.length ysN nums ?kln (ints_of hNA) hn8 hnb _ _ _ _ (g.val : Int) (s2.val : Int) ?kgl ?kg0 ?kg1 ?kgg (a.val : Int) (b.val : Int) ?kp ?kc _ _ ?_; (case k1 => k_asm); (case k2 => k_asm); (case k3 => k_asm); (case k4 => k_asm); (case k5 => first | exact rfl | assumption); (case k6 => k_asm); (case k7 => ktr_room); (case k8 => ktr_units); (case kln => k_mem); (case kgl => k_mem); (case kg0 => omega); (case kg1 => omega); (case kgg => intro e; exact hsg (Fin.ext (by omega))); (case kp => omega); (case kc => omega); k_whole)
    intro tf hfz tkf Ff Nf
    (try kfm_turns)
    k_steps
    · exact ⟨_, rfl⟩
    · exact ⟨_, _, rfl, by k_asm, News.sub Nf (by (first | kpt_turns | ((try simp only [List.cons_append, List.append_assoc, List.nil_append]); repeat' (first | (with_reducible refine sub_cons ?_ ?_; k_mem) | with_reducible refine sub_app ?_ ?_ | exact sub_nil | (intro q hq; kpc_turns)))))⟩
  intro ggD ysD hysDz
  have hysD : All2 (fun (p : Fin 4 × Fin 4) v => IsI (worthTo nums g.val s2.val p.1.val p.2.val 8) v) [(p0, p0), (p0, p1), (p1, p0), (p1, p1)] ysD := hysDz
  clear hysDz
  (try refine openSeal ?_)
  (try unfold Sealed)
  unfold LCg.FinA
  intro DD hD tkD FD ND2 offD
  (try kfm_turns)
  refine letN ND2 ?_
  clear ND2
  intro LD22 NN21
  k_steps
  have hof1 : LCg.Off1 196 ((L' + 1 + 1 + 1 + 1 + 1 + 1 + 1 + 1 + 1 + 1 + 1, oN11) :: (L' + 1 + 1 + 1 + 1 + 1 + 1 + 1 + 1 + 1 + 1, oN10) :: (L' + 1 + 1 + 1 + 1 + 1 + 1 + 1 + 1 + 1, oN9) :: (L' + 1 + 1 + 1 + 1 + 1 + 1 + 1 + 1, oN8) :: (L' + 1 + 1 + 1 + 1 + 1 + 1 + 1, oN7) :: (L' + 1 + 1 + 1 + 1 + 1 + 1, oN6) :: (L' + 1 + 1 + 1 + 1 + 1, oN5) :: (L' + 1 + 1 + 1 + 1, oN4) :: (L' + 1 + 1 + 1, oN3) :: (L' + 1 + 1, oN2) :: (L' + 1, oN1) :: (l, W.listOf vsG10.toArray kG10) :: (DD, LCg.lst ysD) :: E11) := ⟨Ne.symm (tb11 h196), Ne.symm (tb10 h196), Ne.symm (tb9 h196), Ne.symm (tb8 h196), Ne.symm (tb7 h196), Ne.symm (tb6 h196), Ne.symm (tb5 h196), Ne.symm (tb4 h196), Ne.symm (tb3 h196), Ne.symm (tb2 h196), Ne.symm (tb1 h196), Ne.symm (hlK _ (List.mem_cons_of_mem _ (List.mem_cons_of_mem _ (List.mem_cons_of_mem _ (List.mem_cons_of_mem _ (List.mem_cons_of_mem _ (List.mem_cons_of_mem _ (List.mem_cons_of_mem _ (List.mem_cons_of_mem _ (List.mem_cons_of_mem _ (List.mem_cons_of_mem _ (List.mem_cons_of_mem _ (List.mem_cons_self))))))))))))), Ne.symm (off1_mem offD (196, oa10) (by k_mem)), (off1_of fun p hp => Ne.symm (hO11 p hp _ (List.mem_cons_of_mem _ (List.mem_cons_of_mem _ (List.mem_cons_of_mem _ (List.mem_cons_of_mem _ (List.mem_cons_of_mem _ (List.mem_cons_of_mem _ (List.mem_cons_of_mem _ (List.mem_cons_of_mem _ (List.mem_cons_of_mem _ (List.mem_cons_of_mem _ (List.mem_cons_of_mem _ (List.mem_cons_self))))))))))))))⟩
  have hof2 : LCg.Off1 224 ((L' + 1 + 1 + 1 + 1 + 1 + 1 + 1 + 1 + 1 + 1 + 1, oN11) :: (L' + 1 + 1 + 1 + 1 + 1 + 1 + 1 + 1 + 1 + 1, oN10) :: (L' + 1 + 1 + 1 + 1 + 1 + 1 + 1 + 1 + 1, oN9) :: (L' + 1 + 1 + 1 + 1 + 1 + 1 + 1 + 1, oN8) :: (L' + 1 + 1 + 1 + 1 + 1 + 1 + 1, oN7) :: (L' + 1 + 1 + 1 + 1 + 1 + 1, oN6) :: (L' + 1 + 1 + 1 + 1 + 1, oN5) :: (L' + 1 + 1 + 1 + 1, oN4) :: (L' + 1 + 1 + 1, oN3) :: (L' + 1 + 1, oN2) :: (L' + 1, oN1) :: (l, W.listOf vsG10.toArray kG10) :: (DD, LCg.lst ysD) :: E11) := ⟨Ne.symm (tb11 h224), Ne.symm (tb10 h224), Ne.symm (tb9 h224), Ne.symm (tb8 h224), Ne.symm (tb7 h224), Ne.symm (tb6 h224), Ne.symm (tb5 h224), Ne.symm (tb4 h224), Ne.symm (tb3 h224), Ne.symm (tb2 h224), Ne.symm (tb1 h224), Ne.symm (hlK _ (List.mem_cons_of_mem _ (List.mem_cons_of_mem _ (List.mem_cons_of_mem _ (List.mem_cons_of_mem _ (List.mem_cons_of_mem _ (List.mem_cons_of_mem _ (List.mem_cons_of_mem _ (List.mem_cons_of_mem _ (List.mem_cons_of_mem _ (List.mem_cons_of_mem _ (List.mem_cons_of_mem _ (List.mem_cons_of_mem _ (List.mem_cons_self)))))))))))))), Ne.symm (off1_mem offD (224, ob) (by k_mem)), (off1_of fun p hp => Ne.symm (hO11 p hp _ (List.mem_cons_of_mem _ (List.mem_cons_of_mem _ (List.mem_cons_of_mem _ (List.mem_cons_of_mem _ (List.mem_cons_of_mem _ (List.mem_cons_of_mem _ (List.mem_cons_of_mem _ (List.mem_cons_of_mem _ (List.mem_cons_of_mem _ (List.mem_cons_of_mem _ (List.mem_cons_of_mem _ (List.mem_cons_of_mem _ (List.mem_cons_self)))))))))))))))⟩
  have hof3 : LCg.Off1 231 ((L' + 1 + 1 + 1 + 1 + 1 + 1 + 1 + 1 + 1 + 1 + 1, oN11) :: (L' + 1 + 1 + 1 + 1 + 1 + 1 + 1 + 1 + 1 + 1, oN10) :: (L' + 1 + 1 + 1 + 1 + 1 + 1 + 1 + 1 + 1, oN9) :: (L' + 1 + 1 + 1 + 1 + 1 + 1 + 1 + 1, oN8) :: (L' + 1 + 1 + 1 + 1 + 1 + 1 + 1, oN7) :: (L' + 1 + 1 + 1 + 1 + 1 + 1, oN6) :: (L' + 1 + 1 + 1 + 1 + 1, oN5) :: (L' + 1 + 1 + 1 + 1, oN4) :: (L' + 1 + 1 + 1, oN3) :: (L' + 1 + 1, oN2) :: (L' + 1, oN1) :: (l, W.listOf vsG10.toArray kG10) :: (DD, LCg.lst ysD) :: E11) := ⟨Ne.symm (tb11 h231), Ne.symm (tb10 h231), Ne.symm (tb9 h231), Ne.symm (tb8 h231), Ne.symm (tb7 h231), Ne.symm (tb6 h231), Ne.symm (tb5 h231), Ne.symm (tb4 h231), Ne.symm (tb3 h231), Ne.symm (tb2 h231), Ne.symm (tb1 h231), Ne.symm (hlK _ (List.mem_cons_of_mem _ (List.mem_cons_of_mem _ (List.mem_cons_of_mem _ (List.mem_cons_of_mem _ (List.mem_cons_of_mem _ (List.mem_cons_of_mem _ (List.mem_cons_of_mem _ (List.mem_cons_of_mem _ (List.mem_cons_of_mem _ (List.mem_cons_of_mem _ (List.mem_cons_of_mem _ (List.mem_cons_of_mem _ (List.mem_cons_of_mem _ (List.mem_cons_self))))))))))))))), Ne.symm (off1_mem offD (231, oc) (by k_mem)), (off1_of fun p hp => Ne.symm (hO11 p hp _ (List.mem_cons_of_mem _ (List.mem_cons_of_mem _ (List.mem_cons_of_mem _ (List.mem_cons_of_mem _ (List.mem_cons_of_mem _ (List.mem_cons_of_mem _ (List.mem_cons_of_mem _ (List.mem_cons_of_mem _ (List.mem_cons_of_mem _ (List.mem_cons_of_mem _ (List.mem_cons_of_mem _ (List.mem_cons_of_mem _ (List.mem_cons_of_mem _ (List.mem_cons_self))))))))))))))))⟩
  have hsmA : ∀ p q, Small (A (rowsB (bookOf (rowsB (bookOf (rowsTo nums 8) g)) s2)) p q) := fun p q => by
    have := bnd_book (bnd_book (bnd8 hn8 hnb) g) s2 p q
    unfold Small
    omega
  unfold Sealed
  k_dflt (refine' c_divided ?k1 ?k2 ?k3 ?k4 ?k5 ?kC1 ?kC2 ?kC3 rfl rfl ((196, oa10) :: (224, ob) :: (231, oc) :: (L' + 1 + 1 + 1 + 1 + 1 + 1 + 1 + 1 + 1 + 1 + 1, oN11) :: (L' + 1 + 1 + 1 + 1 + 1 + 1 + 1 + 1 + 1 + 1, oN10) :: (L' + 1 + 1 + 1 + 1 + 1 + 1 + 1 + 1 + 1, oN9) :: (L' + 1 + 1 + 1 + 1 + 1 + 1 + 1 + 1, oN8) :: (L' + 1 + 1 + 1 + 1 + 1 + 1 + 1, oN7) :: (L' + 1 + 1 + 1 + 1 + 1 + 1, oN6) :: (L' + 1 + 1 + 1 + 1 + 1, oN5) :: (L' + 1 + 1 + 1 + 1, oN4) :: (L' + 1 + 1 + 1, oN3) :: (L' + 1 + 1, oN2) :: (L' + 1, oN1) :: (l, W.listOf vsG10.toArray kG10) :: (DD, LCg.lst ysD) :: E11) ?k6 ?k7 ?k8 _ _ _ _ rfl hof1 hof2 hof3 E11 ?kts T1G10 T2b T3b t d l 1 kG10 vsG10 _ tkH ?m1 ?m2 ?m3 ?mR hln10 DQ 2 p0 p1 tq0 tq1 ?m4 (overOf (rowsTo nums 8) g) _ ?hov hsmA ?_; (case k1 => k_asm); (case k2 => k_asm); (case k3 => k_asm); (case k4 => k_asm); (case k5 => first | exact rfl | assumption); (case kC1 => exact C1); (case kC2 => exact C2); (case kC3 => exact C3); (case k6 => exact News.sub (by k_asm) (by (first | kpt_turns | ((try simp only [List.cons_append, List.append_assoc, List.nil_append]); repeat' (first | (with_reducible refine sub_cons ?_ ?_; k_mem) | with_reducible refine sub_app ?_ ?_ | exact sub_nil | (intro q hq; kpc_turns)))))); (case k7 => ktr_room); (case k8 => ktr_units); (case kts => (first | kpt_turns | ((try simp only [List.cons_append, List.append_assoc, List.nil_append]); repeat' (first | (with_reducible refine sub_cons ?_ ?_; k_mem) | with_reducible refine sub_app ?_ ?_ | exact sub_nil | (intro q hq; kpc_turns))))); (case m1 => k_mem); (case m2 => k_mem); (case m3 => k_mem); (case mR => exact RowsIn.mono (by (first | kpt_turns | ((try simp only [List.cons_append, List.append_assoc, List.nil_append]); repeat' (first | (with_reducible refine sub_cons ?_ ?_; k_mem) | with_reducible refine sub_app ?_ ?_ | exact sub_nil | (intro q hq; kpc_turns))))) hR10x); (case m4 => (refine (?_ : ∀ q ∈ E11, q ∈ _) _ hm8; (first | kpt_turns | ((try simp only [List.cons_append, List.append_assoc, List.nil_append]); repeat' (first | (with_reducible refine sub_cons ?_ ?_; k_mem) | with_reducible refine sub_app ?_ ?_ | exact sub_nil | (intro q hq; kpc_turns)))))); (case hov => omega); k_whole)
  intro DZ hZ tkZ drZ oaZ obZ ocZ extZ ysZ kZ FZ NZ hysZ hxZ T1Z T2Z T3Z
  obtain ⟨ysZl, hysZl⟩ : ∃ x, x = ysZ.toList := ⟨_, rfl⟩
  rw [← hysZl] at hysZ
  rw [show ysZ = ysZl.toArray by simp [hysZl]] at NZ
  clear hysZl
  (try kfm_turns)
  by_cases hov0 : overOf (rowsTo nums 8) g = 0
  · rw [hov0] at hysZ
    k_steps
    unfold Sealed
    refine eq_int ?_
    rw [hov0, show ((0 : Int) == 0) = true from rfl]
    k_steps
    unfold Sealed
    refine KMa.mul (vs := [.none]) (ws := [.none, .none, .none, .none]) (by k_asm) (by k_asm) (News.isList (by k_asm) (by k_mem)) (by decide) (by decide) (by decide) (by decide +kernel) ?_
    intro DN hN9 FN9 NN9 lN9
    clear lN9
    (try kfm_turns)
    k_steps
    unfold Sealed
    refine kqd_eq (n₁ := []) (n₂ := []) NN9 (by k_mem) rfl rfl (ans_none hysZ) (fun _ h => nomatch h) (List.mem_cons_self) rfl rfl (.cons .none (.cons .none (.cons .none (.cons .none .nil)))) (fun _ h => nomatch h) (ok_none _) (ok_none (four p0 p1)) ?huE ?_
    case huE => ktr_units
    rw [eq_same (show (four p0 p1).map (fun _ => W.Dat.none) = [W.Dat.none, W.Dat.none, W.Dat.none, W.Dat.none] from rfl)]
    repeat (k_unfold; (try kfm_turns))
    refine ⟨goodW_bool FN9 (by assumption) (raisesW_false ?_) ?_, grown_tab NN9 (by k_mem) T1Z, grown_tab NN9 (by k_mem) T3Z, grown_tab NN9 (by k_mem) T2Z, trivial⟩
    · exact law_nr _
    · exact law_post _
  · skip
    k_steps
    unfold Sealed
    refine eq_int ?_
    rw [beq_false_of_ne hov0]
    k_steps
    unfold Sealed
    obtain ⟨EZ, hEZ⟩ : ∃ e, e = extZ ++ (L' + 1 + 1 + 1 + 1 + 1 + 1 + 1 + 1 + 1 + 1 + 1, oN11) :: (L' + 1 + 1 + 1 + 1 + 1 + 1 + 1 + 1 + 1 + 1, oN10) :: (L' + 1 + 1 + 1 + 1 + 1 + 1 + 1 + 1 + 1, oN9) :: (L' + 1 + 1 + 1 + 1 + 1 + 1 + 1 + 1, oN8) :: (L' + 1 + 1 + 1 + 1 + 1 + 1 + 1, oN7) :: (L' + 1 + 1 + 1 + 1 + 1 + 1, oN6) :: (L' + 1 + 1 + 1 + 1 + 1, oN5) :: (L' + 1 + 1 + 1 + 1, oN4) :: (L' + 1 + 1 + 1, oN3) :: (L' + 1 + 1, oN2) :: (L' + 1, oN1) :: (l, W.listOf vsG10.toArray kG10) :: (DD, LCg.lst ysD) :: E11 := ⟨_, rfl⟩
    have NZ2 : News G0 L' hZ ((DZ, W.listOf ysZl.toArray kZ) :: (196, oaZ) :: (224, obZ) :: (231, ocZ) :: EZ) := by rw [hEZ]; exact News.sub NZ (by (first | kpt_turns | ((try simp only [List.cons_append, List.append_assoc, List.nil_append]); repeat' (first | (with_reducible refine sub_cons ?_ ?_; k_mem) | with_reducible refine sub_app ?_ ?_ | exact sub_nil | (intro q hq; kpc_turns)))))
    have hm21z : (DD, LCg.lst ysD) ∈ EZ := by rw [hEZ]; k_mem
    have hX9z : ∀ q ∈ extZ, q ∈ EZ := by rw [hEZ]; exact fun q h => List.mem_append_left _ h
    clear NZ hEZ
    k_dflt (refine LCg.CompSrc.ledger (its := ysD.toArray) (hh := rfl) (by k_asm) NZ2 (by k_mem) ?hszK ?_)
    case hszK => rw [List.size_toArray, ← hysD.length]; show 4 ≤ _; decide +kernel
    intro ggK
    refine restU_J (n := 4) (fun i ys nw => ∃ ex, nw = (DZ, W.listOf ysZl.toArray kZ) :: (196, oaZ) :: (224, obZ) :: (231, ocZ) :: (ex ++ EZ) ∧ All2 (fun (pq : Fin 4 × Fin 4) v => WorV ex (worthTo nums g.val s2.val pq.1.val pq.2.val 8) v) ((four p0 p1).take i) ys) ?turnK ?finK _ _ _ _ ?hnK ⟨[], rfl, All2.nil⟩
    case hnK => rw [List.size_toArray, ← hysD.length]; rfl
    case turnK =>
      intro i v ys nw hi hv pp26 I oI C oC D m₂ h tk E' a1 a2 a3 a4 a5 a6
      refine hideG fun GG hGG => ?_
      obtain ⟨ex, rfl, hys⟩ := pp26
      refine hGG ?_
      clear hGG GG
      obtain ⟨pq, hpq9, tq9, rfl⟩ := hysD.get' (i := i) (b := v) (by simpa using hv)
      k_steps
      rename_i dT9 hT9z FT9 NT9 g1 g2 g3 g4 g5 g6 g7 g8
      unfold Sealed
      have NNt : News G0 L' hT9z ((I, oI) :: (C, oC) :: (D, LCg.lst ys) :: (DZ, W.listOf ysZl.toArray kZ) :: (196, oaZ) :: (224, obZ) :: (231, ocZ) :: (((dT9, ({ cls := .type "tuple", data := .seq #[.int (worthTo nums g.val s2.val pq.1.val pq.2.val 8) tq9, .int 0 tk] } : Obj)) :: ex) ++ EZ)) := News.sub NT9 (by (first | kpt_turns | ((try simp only [List.cons_append, List.append_assoc, List.nil_append]); repeat' (first | (with_reducible refine sub_cons ?_ ?_; k_mem) | with_reducible refine sub_app ?_ ?_ | exact sub_nil | (intro q hq; kpc_turns)))))
      refine' ⟨_, _, _, rfl, ?fK, NNt, ?oK, .inr ⟨_, by k_mem, rfl, _, rfl⟩, ⟨_, rfl, ?aK⟩⟩
      case fK => k_asm
      case oK => exact off3_ins (X := dT9) (o := { cls := .type "tuple", data := .seq #[.int (worthTo nums g.val s2.val pq.1.val pq.2.val 8) tq9, .int 0 tk] }) a5 ⟨Nat.ne_of_gt g1, Nat.ne_of_gt g2, Nat.ne_of_gt g3⟩ (by (first | kpt_turns | ((try simp only [List.cons_append, List.append_assoc, List.nil_append]); repeat' (first | (with_reducible refine sub_cons ?_ ?_; k_mem) | with_reducible refine sub_app ?_ ?_ | exact sub_nil | (intro q hq; kpc_turns)))))
      case aK =>
        rw [List.take_add_one, hpq9, Option.toList_some]
        exact All2.snoc (All2.imp (fun _ _ => WorV.mono fun q h => List.mem_cons_of_mem _ h) hys) ⟨dT9, _, _, _, rfl, List.mem_cons_self⟩
    intro ysK nw pp27
    refine hideG fun GG hGG => ?_
    obtain ⟨exK, rfl, hysKz⟩ := pp27
    refine hGG ?_
    clear hGG GG
    (try refine openSeal ?_)
    (try unfold Sealed)
    unfold LCg.FinE
    intro DK hK tkK FK NK offK
    (try kfm_turns)
    have hysK : All2 (fun (pq : Fin 4 × Fin 4) v => WorV exK (worthTo nums g.val s2.val pq.1.val pq.2.val 8) v) (four p0 p1) ysK := hysKz
    clear hysKz
    k_steps
    unfold Sealed
    refine kqd_eq (n₁ := extZ) (n₂ := exK) NK (by k_mem) rfl rfl (ans_some hov0 hysZ) (fun p hp => List.mem_cons_of_mem _ (List.mem_cons_of_mem _ (List.mem_cons_of_mem _ (List.mem_cons_of_mem _ (List.mem_cons_of_mem _ (List.mem_append_right _ (hX9z _ hp))))))) (List.mem_cons_self) rfl rfl (wor_some hysK) (fun p hp => List.mem_cons_of_mem _ (List.mem_cons_of_mem _ (List.mem_cons_of_mem _ (List.mem_cons_of_mem _ (List.mem_cons_of_mem _ (List.mem_append_left _ hp)))))) (ok_two _ _ _) (ok_two _ _ (fun _ => 0)) ?huK ?_
    case huK => ktr_units
    rw [eq_same (law_last hsg hp0g hp0s hp1g hp1s hp01 hov0)]
    repeat (k_unfold; (try kfm_turns))
    refine ⟨goodW_bool FK (by assumption) (raisesW_false ?_) ?_, grown_tab NK (by k_mem) T1Z, grown_tab NK (by k_mem) T3Z, grown_tab NK (by k_mem) T2Z, trivial⟩
    · exact law_nr _
    · exact law_post _
end

end Mine
theorem PySem.Challenge.cw_pm0082_01_holds : PySem.Challenge.rw_pm0082_01.Holds :=
  Mine.law_holds
