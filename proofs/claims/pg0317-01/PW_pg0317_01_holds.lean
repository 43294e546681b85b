import PyProof.Rows.All
import Wide.All
import OpenK.AllK
import Wide.FinOn
import PySem.Challenge.RW_pg0317_01
open PySem PySem.W PyProof.Rows PySem.Calls
set_option Elab.async false
set_option maxRecDepth 100000
set_option maxHeartbeats 8000000
set_option linter.all false
set_option compiler.extract_closed false
namespace Mine
-- part HN
set_option maxHeartbeats 8000000
@[reducible] noncomputable def litOf {α : Type} {x y : α} (_ : x = y) : α := x
noncomputable def topAt (i : Nat) : Stmt := PySem.Challenge.pw_pg0317_01.main.body.getD i (.Pass default)
noncomputable def clsAt (i j : Nat) : Stmt := match topAt i with
  | .ClassDef _ _ _ b .. => b.getD j (.Pass default)
  | _ => .Pass default
noncomputable def fBody (s : Stmt) : List Stmt := match s with
  | .FunctionDef _ _ b .. => b
  | _ => []
noncomputable def fArgs (s : Stmt) : Arguments := match s with
  | .FunctionDef _ a .. => a
  | _ => { posonlyargs := [], args := [], vararg := none, kwonlyargs := [], kw_defaults := [], kwarg := none, defaults := [] }
noncomputable def fScope (s : Stmt) : Scope := match s with
  | .FunctionDef _ _ _ _ _ _ sc .. => sc
  | _ => { kind := .function, names := [], isGenerator := false, isCoroutine := false }
noncomputable def viewD : Program := { PySem.Challenge.pw_pg0317_01 with main := { PySem.Challenge.pw_pg0317_01.main with body := litOf (y := [0, 1, 3, 4, 5, 7, 8, 9, 11, 13, 14].map topAt) (by dsimp only [List.map, topAt, PySem.Challenge.pw_pg0317_01, List.getD, List.getElem?_cons_succ, List.getElem?_cons_zero, Option.getD_some]) } }
noncomputable def heapD : Params → Frag := fun P => (((nat_lit 2), PySem.Obj.mk PySem.Value.none Option.none (PySem.Data.dict #[PySem.DictEntry.mk (PySem.PyData.keyHash P (PySem.Str.ofString "\x69mport.loaded._sre")) (PySem.Value.str (PySem.Str.ofString "\x69mport.loaded._sre") 183) (PySem.Value.bool Bool.true), PySem.DictEntry.mk (PySem.PyData.keyHash P (PySem.Str.ofString "class._frozen_importlib.BuiltinImporter")) (PySem.Value.str (PySem.Str.ofString "class._frozen_importlib.BuiltinImporter") 185) (PySem.Value.ref 14), PySem.DictEntry.mk (PySem.PyData.keyHash P (PySem.Str.ofString "watched.\x69mport")) (PySem.Value.str (PySem.Str.ofString "watched.\x69mport") 206) (PySem.Value.ref 18), PySem.DictEntry.mk (PySem.PyData.keyHash P (PySem.Str.ofString "class._frozen_importlib.ModuleSpec")) (PySem.Value.str (PySem.Str.ofString "class._frozen_importlib.ModuleSpec") 216) (PySem.Value.ref 22), PySem.DictEntry.mk (PySem.PyData.keyHash P (PySem.Str.ofString "sys.modules.booked-epoch")) (PySem.Value.str (PySem.Str.ofString "sys.modules.booked-epoch") 245) (PySem.Value.int 3 0), PySem.DictEntry.mk (PySem.PyData.keyHash P (PySem.Str.ofString "\x69mport.later-laid._sre")) (PySem.Value.str (PySem.Str.ofString "\x69mport.later-laid._sre") 270) (PySem.Value.bool Bool.true), PySem.DictEntry.mk (PySem.PyData.keyHash P (PySem.Str.ofString "watched.library")) (PySem.Value.str (PySem.Str.ofString "watched.library") 272) (PySem.Value.ref 27), PySem.DictEntry.mk (PySem.PyData.keyHash P (PySem.Str.ofString "watched.library-objects")) (PySem.Value.str (PySem.Str.ofString "watched.library-objects") 0) (PySem.Value.str (PySem.Str.ofString "\x0c") 0), PySem.DictEntry.mk (PySem.PyData.keyHash P (PySem.Str.ofString "watched.library-deep._sre")) (PySem.Value.str (PySem.Str.ofString "watched.library-deep._sre") 273) (PySem.Value.str (PySem.Str.ofString "\x04\x00\x00\x0b\x04\x00\x00\x0b\x04\x00\x00\x03\x04\x00\x00\x0b\x08\x04dict\x02") 0)] 9) #[]) :: ((nat_lit 3), PySem.Obj.mk (PySem.Value.type "dict") Option.none (PySem.Data.dict #[PySem.DictEntry.mk (PySem.PyData.keyHash P (PySem.Str.ofString "__name__")) (PySem.Value.str (PySem.Str.ofString "__name__") 165) (PySem.Value.str (PySem.Str.ofString "law_pg0317_01") 675), PySem.DictEntry.mk (PySem.PyData.keyHash P (PySem.Str.ofString "__doc__")) (PySem.Value.str (PySem.Str.ofString "__doc__") 166) PySem.Value.none, PySem.DictEntry.mk (PySem.PyData.keyHash P (PySem.Str.ofString "__package__")) (PySem.Value.str (PySem.Str.ofString "__package__") 167) PySem.Value.none, PySem.DictEntry.mk (PySem.PyData.keyHash P (PySem.Str.ofString "__loader__")) (PySem.Value.str (PySem.Str.ofString "__loader__") 168) (PySem.Value.builtin "__main__.__loader__#opaque"), PySem.DictEntry.mk (PySem.PyData.keyHash P (PySem.Str.ofString "__spec__")) (PySem.Value.str (PySem.Str.ofString "__spec__") 169) PySem.Value.none, PySem.DictEntry.mk (PySem.PyData.keyHash P (PySem.Str.ofString "__annotations__")) (PySem.Value.str (PySem.Str.ofString "__annotations__") 170) (PySem.Value.ref 6), PySem.DictEntry.mk (PySem.PyData.keyHash P (PySem.Str.ofString "__builtins__")) (PySem.Value.str (PySem.Str.ofString "__builtins__") 171) (PySem.Value.ref 4), PySem.DictEntry.mk (PySem.PyData.keyHash P (PySem.Str.ofString "__file__")) (PySem.Value.str (PySem.Str.ofString "__file__") 173) (PySem.Value.str (PySem.Str.ofString "/claim/cut.py") 172), PySem.DictEntry.mk (PySem.PyData.keyHash P (PySem.Str.ofString "__cached__")) (PySem.Value.str (PySem.Str.ofString "__cached__") 174) PySem.Value.none, PySem.DictEntry.mk (PySem.PyData.keyHash P (PySem.Str.ofString "_sre")) (PySem.Value.str (PySem.Str.ofString "_sre") 275) (PySem.Value.ref 12), PySem.DictEntry.mk (PySem.PyData.keyHash P (PySem.Str.ofString "_wall")) (PySem.Value.str (PySem.Str.ofString "_wall") 288) (PySem.Value.ref 38), PySem.DictEntry.mk (PySem.PyData.keyHash P (PySem.Str.ofString "_name_disallowed_re")) (PySem.Value.str (PySem.Str.ofString "_name_disallowed_re") 316) (PySem.Value.ref 43), PySem.DictEntry.mk (PySem.PyData.keyHash P (PySem.Str.ofString "_value_disallowed_re")) (PySem.Value.str (PySem.Str.ofString "_value_disallowed_re") 350) (PySem.Value.ref 48), PySem.DictEntry.mk (PySem.PyData.keyHash P (PySem.Str.ofString "Headers")) (PySem.Value.str (PySem.Str.ofString "Headers") 507) (PySem.Value.ref 171), PySem.DictEntry.mk (PySem.PyData.keyHash P (PySem.Str.ofString "TupleComp")) (PySem.Value.str (PySem.Str.ofString "TupleComp") 551) (PySem.Value.ref 199), PySem.DictEntry.mk (PySem.PyData.keyHash P (PySem.Str.ofString "add_func_stats")) (PySem.Value.str (PySem.Str.ofString "add_func_stats") 569) (PySem.Value.ref 210), PySem.DictEntry.mk (PySem.PyData.keyHash P (PySem.Str.ofString "add_callers")) (PySem.Value.str (PySem.Str.ofString "add_callers") 580) (PySem.Value.ref 217), PySem.DictEntry.mk (PySem.PyData.keyHash P (PySem.Str.ofString "Whitespace")) (PySem.Value.str (PySem.Str.ofString "Whitespace") 674) (PySem.Value.ref 279), PySem.DictEntry.mk (PySem.PyData.keyHash P (PySem.Str.ofString "_law_heights")) (PySem.Value.str (PySem.Str.ofString "_law_heights") 688) (PySem.Value.ref 290), PySem.DictEntry.mk (PySem.PyData.keyHash P (PySem.Str.ofString "law")) (PySem.Value.str (PySem.Str.ofString "law") 694) (PySem.Value.ref 295)] 20) #[]) :: ((nat_lit 32), PySem.Obj.mk (PySem.Value.type "tuple") Option.none (PySem.Data.seq #[]) #[]) :: ((nat_lit 34), PySem.Obj.mk (PySem.Value.type "tuple") Option.none (PySem.Data.seq #[PySem.Value.str (PySem.Str.ofString "k") 285]) #[]) :: ((nat_lit 35), PySem.Obj.mk (PySem.Value.type "tuple") Option.none (PySem.Data.seq #[]) #[]) :: ((nat_lit 37), PySem.Obj.mk (PySem.Value.type "code") Option.none (PySem.Data.fields #[PySem.Value.str (PySem.Str.ofString "_wall") 282, PySem.Value.str (PySem.Str.ofString "_wall") 283, PySem.Value.str (PySem.Str.ofString "/claim/cut.py") 284, PySem.Value.int 2 0, PySem.Value.int 1 0, PySem.Value.int 0 0, PySem.Value.int 0 0, PySem.Value.int 3 0, PySem.Value.ref 32, PySem.Value.bool Bool.true, PySem.Value.int 276 0, PySem.Value.ref 33, PySem.Value.none, PySem.Value.ref 34, PySem.Value.ref 35, PySem.Value.ref 36, PySem.Value.int 286 0, PySem.Value.int 2 0, PySem.Value.str (PySem.Str.ofString "/claim/cut.py") 287]) #[]) :: ((nat_lit 38), PySem.Obj.mk (PySem.Value.type "function") Option.none (PySem.Data.func (PySem.FuncData.mk (PySem.Str.ofString "_wall") (PySem.Str.ofString "_wall") (litOf (y := fArgs (topAt 1)) (by dsimp only [fBody, fArgs, fScope, clsAt, topAt, PySem.Challenge.pw_pg0317_01, List.getD, List.getElem?_cons_succ, List.getElem?_cons_zero, Option.getD_some])) (PySem.FuncBody.stmts (litOf (y := fBody (topAt 1)) (by dsimp only [fBody, fArgs, fScope, clsAt, topAt, PySem.Challenge.pw_pg0317_01, List.getD, List.getElem?_cons_succ, List.getElem?_cons_zero, Option.getD_some]))) (litOf (y := fScope (topAt 1)) (by dsimp only [fBody, fArgs, fScope, clsAt, topAt, PySem.Challenge.pw_pg0317_01, List.getD, List.getElem?_cons_succ, List.getElem?_cons_zero, Option.getD_some])) 3 [] PySem.Value.none PySem.Value.none PySem.Value.none (PySem.Value.str (PySem.Str.ofString "__main__") 164) Option.none (PySem.Value.ref 37) PySem.Value.none 0)) #[]) :: ((nat_lit 42), PySem.Obj.mk (PySem.Value.type "tuple") Option.none (PySem.Data.seq #[PySem.Value.int 14 0, PySem.Value.int 10 0, PySem.Value.int 4 0, PySem.Value.int 1 0, PySem.Value.int 1 0, PySem.Value.int 22 0, PySem.Value.int 0 0, PySem.Value.int 31 0, PySem.Value.int 16 0, PySem.Value.int 127 0, PySem.Value.int 0 0, PySem.Value.int 13 0, PySem.Value.int 7 0, PySem.Value.int 22 0, PySem.Value.int 0 0, PySem.Value.int 31 0, PySem.Value.int 16 0, PySem.Value.int 127 0, PySem.Value.int 0 0, PySem.Value.int 1 0]) #[]) :: ((nat_lit 43), PySem.Obj.mk (PySem.Value.type "re.Pattern") Option.none (PySem.Data.fields #[PySem.Value.str (PySem.Str.ofString "[\\x00-\\x1F\\x7F]") 292, PySem.Value.int 32 315, PySem.Value.int 0 0, PySem.Value.none, PySem.Value.none, PySem.Value.ref 42, PySem.Value.int 0 0]) #[]) :: ((nat_lit 47), PySem.Obj.mk (PySem.Value.type "tuple") Option.none (PySem.Data.seq #[PySem.Value.int 14 0, PySem.Value.int 14 0, PySem.Value.int 4 0, PySem.Value.int 1 0, PySem.Value.int 1 0, PySem.Value.int 9 0, PySem.Value.int 4294966783 0, PySem.Value.int 0 0, PySem.Value.int 0 0, PySem.Value.int 2147483648 0, PySem.Value.int 0 0, PySem.Value.int 0 0, PySem.Value.int 0 0, PySem.Value.int 0 0, PySem.Value.int 0 0, PySem.Value.int 13 0, PySem.Value.int 11 0, PySem.Value.int 9 0, PySem.Value.int 4294966783 0, PySem.Value.int 0 0, PySem.Value.int 0 0, PySem.Value.int 2147483648 0, PySem.Value.int 0 0, PySem.Value.int 0 0, PySem.Value.int 0 0, PySem.Value.int 0 0, PySem.Value.int 0 0, PySem.Value.int 1 0]) #[]) :: ((nat_lit 48), PySem.Obj.mk (PySem.Value.type "re.Pattern") Option.none (PySem.Data.fields #[PySem.Value.str (PySem.Str.ofString "[\\x00-\\x08\\x0A-\\x1F\\x7F]") 318, PySem.Value.int 32 349, PySem.Value.int 0 0, PySem.Value.none, PySem.Value.none, PySem.Value.ref 47, PySem.Value.int 0 0]) #[]) :: ((nat_lit 56), PySem.Obj.mk (PySem.Value.type "tuple") Option.none (PySem.Data.seq #[PySem.Value.none]) #[]) :: ((nat_lit 57), PySem.Obj.mk (PySem.Value.type "tuple") Option.none (PySem.Data.seq #[]) #[]) :: ((nat_lit 59), PySem.Obj.mk (PySem.Value.type "tuple") Option.none (PySem.Data.seq #[PySem.Value.str (PySem.Str.ofString "self") 366, PySem.Value.str (PySem.Str.ofString "headers") 367, PySem.Value.str (PySem.Str.ofString "k") 368, PySem.Value.str (PySem.Str.ofString "v") 369]) #[]) :: ((nat_lit 60), PySem.Obj.mk (PySem.Value.type "tuple") Option.none (PySem.Data.seq #[]) #[]) :: ((nat_lit 62), PySem.Obj.mk (PySem.Value.type "code") Option.none (PySem.Data.fields #[PySem.Value.str (PySem.Str.ofString "__init__") 363, PySem.Value.str (PySem.Str.ofString "Headers.__init__") 364, PySem.Value.str (PySem.Str.ofString "/claim/cut.py") 365, PySem.Value.int 10 0, PySem.Value.int 2 0, PySem.Value.int 0 0, PySem.Value.int 0 0, PySem.Value.int 3 0, PySem.Value.ref 57, PySem.Value.bool Bool.true, PySem.Value.int 276 0, PySem.Value.ref 58, PySem.Value.none, PySem.Value.ref 59, PySem.Value.ref 60, PySem.Value.ref 61, PySem.Value.int 370 0, PySem.Value.int 10 0, PySem.Value.str (PySem.Str.ofString "/claim/cut.py") 371]) #[]) :: ((nat_lit 63), PySem.Obj.mk (PySem.Value.type "function") Option.none (PySem.Data.func (PySem.FuncData.mk (PySem.Str.ofString "__init__") (PySem.Str.ofString "Headers.__init__") (litOf (y := fArgs (clsAt 5 0)) (by dsimp only [fBody, fArgs, fScope, clsAt, topAt, PySem.Challenge.pw_pg0317_01, List.getD, List.getElem?_cons_succ, List.getElem?_cons_zero, Option.getD_some])) (PySem.FuncBody.stmts (litOf (y := fBody (clsAt 5 0)) (by dsimp only [fBody, fArgs, fScope, clsAt, topAt, PySem.Challenge.pw_pg0317_01, List.getD, List.getElem?_cons_succ, List.getElem?_cons_zero, Option.getD_some]))) (litOf (y := fScope (clsAt 5 0)) (by dsimp only [fBody, fArgs, fScope, clsAt, topAt, PySem.Challenge.pw_pg0317_01, List.getD, List.getElem?_cons_succ, List.getElem?_cons_zero, Option.getD_some])) 3 [] (PySem.Value.ref 56) PySem.Value.none PySem.Value.none (PySem.Value.str (PySem.Str.ofString "cpy313.wsgiref.headers") 289) Option.none (PySem.Value.ref 62) PySem.Value.none 0)) #[]) :: ((nat_lit 64), PySem.Obj.mk (PySem.Value.type "tuple") Option.none (PySem.Data.seq #[]) #[]) :: ((nat_lit 66), PySem.Obj.mk (PySem.Value.type "tuple") Option.none (PySem.Data.seq #[PySem.Value.str (PySem.Str.ofString "self") 376, PySem.Value.str (PySem.Str.ofString "value") 377, PySem.Value.str (PySem.Str.ofString "name") 378, PySem.Value.str (PySem.Str.ofString "regex") 379]) #[]) :: ((nat_lit 67), PySem.Obj.mk (PySem.Value.type "tuple") Option.none (PySem.Data.seq #[]) #[]) :: ((nat_lit 69), PySem.Obj.mk (PySem.Value.type "code") Option.none (PySem.Data.fields #[PySem.Value.str (PySem.Str.ofString "_convert_string_type") 373, PySem.Value.str (PySem.Str.ofString "Headers._convert_string_type") 374, PySem.Value.str (PySem.Str.ofString "/claim/cut.py") 375, PySem.Value.int 20 0, PySem.Value.int 2 0, PySem.Value.int 0 0, PySem.Value.int 1 0, PySem.Value.int 3 0, PySem.Value.ref 64, PySem.Value.bool Bool.true, PySem.Value.int 276 0, PySem.Value.ref 65, PySem.Value.none, PySem.Value.ref 66, PySem.Value.ref 67, PySem.Value.ref 68, PySem.Value.int 380 0, PySem.Value.int 20 0, PySem.Value.str (PySem.Str.ofString "/claim/cut.py") 381]) #[]) :: ((nat_lit 70), PySem.Obj.mk (PySem.Value.type "function") Option.none (PySem.Data.func (PySem.FuncData.mk (PySem.Str.ofString "_convert_string_type") (PySem.Str.ofString "Headers._convert_string_type") (litOf (y := fArgs (clsAt 5 1)) (by dsimp only [fBody, fArgs, fScope, clsAt, topAt, PySem.Challenge.pw_pg0317_01, List.getD, List.getElem?_cons_succ, List.getElem?_cons_zero, Option.getD_some])) (PySem.FuncBody.stmts (litOf (y := fBody (clsAt 5 1)) (by dsimp only [fBody, fArgs, fScope, clsAt, topAt, PySem.Challenge.pw_pg0317_01, List.getD, List.getElem?_cons_succ, List.getElem?_cons_zero, Option.getD_some]))) (litOf (y := fScope (clsAt 5 1)) (by dsimp only [fBody, fArgs, fScope, clsAt, topAt, PySem.Challenge.pw_pg0317_01, List.getD, List.getElem?_cons_succ, List.getElem?_cons_zero, Option.getD_some])) 3 [] PySem.Value.none PySem.Value.none PySem.Value.none (PySem.Value.str (PySem.Str.ofString "cpy313.wsgiref.headers") 289) Option.none (PySem.Value.ref 69) PySem.Value.none 0)) #[]) :: ((nat_lit 71), PySem.Obj.mk (PySem.Value.type "tuple") Option.none (PySem.Data.seq #[]) #[]) :: ((nat_lit 73), PySem.Obj.mk (PySem.Value.type "tuple") Option.none (PySem.Data.seq #[PySem.Value.str (PySem.Str.ofString "self") 386]) #[]) :: ((nat_lit 74), PySem.Obj.mk (PySem.Value.type "tuple") Option.none (PySem.Data.seq #[]) #[]) :: ((nat_lit 76), PySem.Obj.mk (PySem.Value.type "code") Option.none (PySem.Data.fields #[PySem.Value.str (PySem.Str.ofString "__len__") 383, PySem.Value.str (PySem.Str.ofString "Headers.__len__") 384, PySem.Value.str (PySem.Str.ofString "/claim/cut.py") 385, PySem.Value.int 28 0, PySem.Value.int 1 0, PySem.Value.int 0 0, PySem.Value.int 0 0, PySem.Value.int 3 0, PySem.Value.ref 71, PySem.Value.bool Bool.true, PySem.Value.int 276 0, PySem.Value.ref 72, PySem.Value.none, PySem.Value.ref 73, PySem.Value.ref 74, PySem.Value.ref 75, PySem.Value.int 387 0, PySem.Value.int 28 0, PySem.Value.str (PySem.Str.ofString "/claim/cut.py") 388]) #[]) :: ((nat_lit 77), PySem.Obj.mk (PySem.Value.type "function") Option.none (PySem.Data.func (PySem.FuncData.mk (PySem.Str.ofString "__len__") (PySem.Str.ofString "Headers.__len__") (litOf (y := fArgs (clsAt 5 2)) (by dsimp only [fBody, fArgs, fScope, clsAt, topAt, PySem.Challenge.pw_pg0317_01, List.getD, List.getElem?_cons_succ, List.getElem?_cons_zero, Option.getD_some])) (PySem.FuncBody.stmts (litOf (y := fBody (clsAt 5 2)) (by dsimp only [fBody, fArgs, fScope, clsAt, topAt, PySem.Challenge.pw_pg0317_01, List.getD, List.getElem?_cons_succ, List.getElem?_cons_zero, Option.getD_some]))) (litOf (y := fScope (clsAt 5 2)) (by dsimp only [fBody, fArgs, fScope, clsAt, topAt, PySem.Challenge.pw_pg0317_01, List.getD, List.getElem?_cons_succ, List.getElem?_cons_zero, Option.getD_some])) 3 [] PySem.Value.none PySem.Value.none PySem.Value.none (PySem.Value.str (PySem.Str.ofString "cpy313.wsgiref.headers") 289) Option.none (PySem.Value.ref 76) PySem.Value.none 0)) #[]) :: ((nat_lit 78), PySem.Obj.mk (PySem.Value.type "tuple") Option.none (PySem.Data.seq #[]) #[]) :: ((nat_lit 80), PySem.Obj.mk (PySem.Value.type "tuple") Option.none (PySem.Data.seq #[PySem.Value.str (PySem.Str.ofString "self") 393, PySem.Value.str (PySem.Str.ofString "name") 394, PySem.Value.str (PySem.Str.ofString "val") 395]) #[]) :: ((nat_lit 81), PySem.Obj.mk (PySem.Value.type "tuple") Option.none (PySem.Data.seq #[]) #[]) :: ((nat_lit 83), PySem.Obj.mk (PySem.Value.type "code") Option.none (PySem.Data.fields #[PySem.Value.str (PySem.Str.ofString "__setitem__") 390, PySem.Value.str (PySem.Str.ofString "Headers.__setitem__") 391, PySem.Value.str (PySem.Str.ofString "/claim/cut.py") 392, PySem.Value.int 31 0, PySem.Value.int 3 0, PySem.Value.int 0 0, PySem.Value.int 0 0, PySem.Value.int 3 0, PySem.Value.ref 78, PySem.Value.bool Bool.true, PySem.Value.int 276 0, PySem.Value.ref 79, PySem.Value.none, PySem.Value.ref 80, PySem.Value.ref 81, PySem.Value.ref 82, PySem.Value.int 396 0, PySem.Value.int 31 0, PySem.Value.str (PySem.Str.ofString "/claim/cut.py") 397]) #[]) :: ((nat_lit 84), PySem.Obj.mk (PySem.Value.type "function") Option.none (PySem.Data.func (PySem.FuncData.mk (PySem.Str.ofString "__setitem__") (PySem.Str.ofString "Headers.__setitem__") (litOf (y := fArgs (clsAt 5 3)) (by dsimp only [fBody, fArgs, fScope, clsAt, topAt, PySem.Challenge.pw_pg0317_01, List.getD, List.getElem?_cons_succ, List.getElem?_cons_zero, Option.getD_some])) (PySem.FuncBody.stmts (litOf (y := fBody (clsAt 5 3)) (by dsimp only [fBody, fArgs, fScope, clsAt, topAt, PySem.Challenge.pw_pg0317_01, List.getD, List.getElem?_cons_succ, List.getElem?_cons_zero, Option.getD_some]))) (litOf (y := fScope (clsAt 5 3)) (by dsimp only [fBody, fArgs, fScope, clsAt, topAt, PySem.Challenge.pw_pg0317_01, List.getD, List.getElem?_cons_succ, List.getElem?_cons_zero, Option.getD_some])) 3 [] PySem.Value.none PySem.Value.none PySem.Value.none (PySem.Value.str (PySem.Str.ofString "cpy313.wsgiref.headers") 289) Option.none (PySem.Value.ref 83) PySem.Value.none 0)) #[]) :: ((nat_lit 85), PySem.Obj.mk (PySem.Value.type "tuple") Option.none (PySem.Data.seq #[]) #[]) :: ((nat_lit 88), PySem.Obj.mk (PySem.Value.type "code") Option.none (PySem.Data.fields #[PySem.Value.str (PySem.Str.ofString "__delitem__") 399, PySem.Value.str (PySem.Str.ofString "Headers.__delitem__") 400, PySem.Value.str (PySem.Str.ofString "/claim/cut.py") 401, PySem.Value.int 35 0, PySem.Value.int 2 0, PySem.Value.int 0 0, PySem.Value.int 0 0, PySem.Value.int 3 0, PySem.Value.ref 85, PySem.Value.bool Bool.true, PySem.Value.int 276 0, PySem.Value.ref 86, PySem.Value.none, PySem.Value.none, PySem.Value.none, PySem.Value.ref 87, PySem.Value.int 402 0, PySem.Value.int 35 0, PySem.Value.str (PySem.Str.ofString "/claim/cut.py") 403]) #[]) :: ((nat_lit 89), PySem.Obj.mk (PySem.Value.type "function") Option.none (PySem.Data.func (PySem.FuncData.mk (PySem.Str.ofString "__delitem__") (PySem.Str.ofString "Headers.__delitem__") (litOf (y := fArgs (clsAt 5 4)) (by dsimp only [fBody, fArgs, fScope, clsAt, topAt, PySem.Challenge.pw_pg0317_01, List.getD, List.getElem?_cons_succ, List.getElem?_cons_zero, Option.getD_some])) (PySem.FuncBody.stmts (litOf (y := fBody (clsAt 5 4)) (by dsimp only [fBody, fArgs, fScope, clsAt, topAt, PySem.Challenge.pw_pg0317_01, List.getD, List.getElem?_cons_succ, List.getElem?_cons_zero, Option.getD_some]))) (litOf (y := fScope (clsAt 5 4)) (by dsimp only [fBody, fArgs, fScope, clsAt, topAt, PySem.Challenge.pw_pg0317_01, List.getD, List.getElem?_cons_succ, List.getElem?_cons_zero, Option.getD_some])) 3 [] PySem.Value.none PySem.Value.none PySem.Value.none (PySem.Value.str (PySem.Str.ofString "cpy313.wsgiref.headers") 289) Option.none (PySem.Value.ref 88) PySem.Value.none 0)) #[]) :: ((nat_lit 90), PySem.Obj.mk (PySem.Value.type "tuple") Option.none (PySem.Data.seq #[]) #[]) :: ((nat_lit 92), PySem.Obj.mk (PySem.Value.type "tuple") Option.none (PySem.Data.seq #[PySem.Value.str (PySem.Str.ofString "self") 408, PySem.Value.str (PySem.Str.ofString "name") 409]) #[]) :: ((nat_lit 93), PySem.Obj.mk (PySem.Value.type "tuple") Option.none (PySem.Data.seq #[]) #[]) :: ((nat_lit 95), PySem.Obj.mk (PySem.Value.type "code") Option.none (PySem.Data.fields #[PySem.Value.str (PySem.Str.ofString "__getitem__") 405, PySem.Value.str (PySem.Str.ofString "Headers.__getitem__") 406, PySem.Value.str (PySem.Str.ofString "/claim/cut.py") 407, PySem.Value.int 39 0, PySem.Value.int 2 0, PySem.Value.int 0 0, PySem.Value.int 0 0, PySem.Value.int 3 0, PySem.Value.ref 90, PySem.Value.bool Bool.true, PySem.Value.int 276 0, PySem.Value.ref 91, PySem.Value.none, PySem.Value.ref 92, PySem.Value.ref 93, PySem.Value.ref 94, PySem.Value.int 410 0, PySem.Value.int 39 0, PySem.Value.str (PySem.Str.ofString "/claim/cut.py") 411]) #[]) :: ((nat_lit 96), PySem.Obj.mk (PySem.Value.type "function") Option.none (PySem.Data.func (PySem.FuncData.mk (PySem.Str.ofString "__getitem__") (PySem.Str.ofString "Headers.__getitem__") (litOf (y := fArgs (clsAt 5 5)) (by dsimp only [fBody, fArgs, fScope, clsAt, topAt, PySem.Challenge.pw_pg0317_01, List.getD, List.getElem?_cons_succ, List.getElem?_cons_zero, Option.getD_some])) (PySem.FuncBody.stmts (litOf (y := fBody (clsAt 5 5)) (by dsimp only [fBody, fArgs, fScope, clsAt, topAt, PySem.Challenge.pw_pg0317_01, List.getD, List.getElem?_cons_succ, List.getElem?_cons_zero, Option.getD_some]))) (litOf (y := fScope (clsAt 5 5)) (by dsimp only [fBody, fArgs, fScope, clsAt, topAt, PySem.Challenge.pw_pg0317_01, List.getD, List.getElem?_cons_succ, List.getElem?_cons_zero, Option.getD_some])) 3 [] PySem.Value.none PySem.Value.none PySem.Value.none (PySem.Value.str (PySem.Str.ofString "cpy313.wsgiref.headers") 289) Option.none (PySem.Value.ref 95) PySem.Value.none 0)) #[]) :: ((nat_lit 97), PySem.Obj.mk (PySem.Value.type "tuple") Option.none (PySem.Data.seq #[]) #[]) :: ((nat_lit 99), PySem.Obj.mk (PySem.Value.type "tuple") Option.none (PySem.Data.seq #[PySem.Value.str (PySem.Str.ofString "self") 416, PySem.Value.str (PySem.Str.ofString "name") 417]) #[]) :: ((nat_lit 100), PySem.Obj.mk (PySem.Value.type "tuple") Option.none (PySem.Data.seq #[]) #[]) :: ((nat_lit 102), PySem.Obj.mk (PySem.Value.type "code") Option.none (PySem.Data.fields #[PySem.Value.str (PySem.Str.ofString "__contains__") 413, PySem.Value.str (PySem.Str.ofString "Headers.__contains__") 414, PySem.Value.str (PySem.Str.ofString "/claim/cut.py") 415, PySem.Value.int 42 0, PySem.Value.int 2 0, PySem.Value.int 0 0, PySem.Value.int 0 0, PySem.Value.int 3 0, PySem.Value.ref 97, PySem.Value.bool Bool.true, PySem.Value.int 276 0, PySem.Value.ref 98, PySem.Value.none, PySem.Value.ref 99, PySem.Value.ref 100, PySem.Value.ref 101, PySem.Value.int 418 0, PySem.Value.int 42 0, PySem.Value.str (PySem.Str.ofString "/claim/cut.py") 419]) #[]) :: ((nat_lit 103), PySem.Obj.mk (PySem.Value.type "function") Option.none (PySem.Data.func (PySem.FuncData.mk (PySem.Str.ofString "__contains__") (PySem.Str.ofString "Headers.__contains__") (litOf (y := fArgs (clsAt 5 6)) (by dsimp only [fBody, fArgs, fScope, clsAt, topAt, PySem.Challenge.pw_pg0317_01, List.getD, List.getElem?_cons_succ, List.getElem?_cons_zero, Option.getD_some])) (PySem.FuncBody.stmts (litOf (y := fBody (clsAt 5 6)) (by dsimp only [fBody, fArgs, fScope, clsAt, topAt, PySem.Challenge.pw_pg0317_01, List.getD, List.getElem?_cons_succ, List.getElem?_cons_zero, Option.getD_some]))) (litOf (y := fScope (clsAt 5 5)) (by dsimp only [fBody, fArgs, fScope, clsAt, topAt, PySem.Challenge.pw_pg0317_01, List.getD, List.getElem?_cons_succ, List.getElem?_cons_zero, Option.getD_some])) 3 [] PySem.Value.none PySem.Value.none PySem.Value.none (PySem.Value.str (PySem.Str.ofString "cpy313.wsgiref.headers") 289) Option.none (PySem.Value.ref 102) PySem.Value.none 0)) #[]) :: ((nat_lit 104), PySem.Obj.mk (PySem.Value.type "tuple") Option.none (PySem.Data.seq #[]) #[]) :: ((nat_lit 106), PySem.Obj.mk (PySem.Value.type "tuple") Option.none (PySem.Data.seq #[PySem.Value.str (PySem.Str.ofString "self") 424, PySem.Value.str (PySem.Str.ofString "name") 425]) #[]) :: ((nat_lit 107), PySem.Obj.mk (PySem.Value.type "tuple") Option.none (PySem.Data.seq #[]) #[]) :: ((nat_lit 109), PySem.Obj.mk (PySem.Value.type "code") Option.none (PySem.Data.fields #[PySem.Value.str (PySem.Str.ofString "get_all") 421, PySem.Value.str (PySem.Str.ofString "Headers.get_all") 422, PySem.Value.str (PySem.Str.ofString "/claim/cut.py") 423, PySem.Value.int 45 0, PySem.Value.int 2 0, PySem.Value.int 0 0, PySem.Value.int 0 0, PySem.Value.int 3 0, PySem.Value.ref 104, PySem.Value.bool Bool.true, PySem.Value.int 276 0, PySem.Value.ref 105, PySem.Value.none, PySem.Value.ref 106, PySem.Value.ref 107, PySem.Value.ref 108, PySem.Value.int 426 0, PySem.Value.int 45 0, PySem.Value.str (PySem.Str.ofString "/claim/cut.py") 427]) #[]) :: ((nat_lit 110), PySem.Obj.mk (PySem.Value.type "function") Option.none (PySem.Data.func (PySem.FuncData.mk (PySem.Str.ofString "get_all") (PySem.Str.ofString "Headers.get_all") (litOf (y := fArgs (clsAt 5 7)) (by dsimp only [fBody, fArgs, fScope, clsAt, topAt, PySem.Challenge.pw_pg0317_01, List.getD, List.getElem?_cons_succ, List.getElem?_cons_zero, Option.getD_some])) (PySem.FuncBody.stmts (litOf (y := fBody (clsAt 5 7)) (by dsimp only [fBody, fArgs, fScope, clsAt, topAt, PySem.Challenge.pw_pg0317_01, List.getD, List.getElem?_cons_succ, List.getElem?_cons_zero, Option.getD_some]))) (litOf (y := fScope (clsAt 5 7)) (by dsimp only [fBody, fArgs, fScope, clsAt, topAt, PySem.Challenge.pw_pg0317_01, List.getD, List.getElem?_cons_succ, List.getElem?_cons_zero, Option.getD_some])) 3 [] PySem.Value.none PySem.Value.none PySem.Value.none (PySem.Value.str (PySem.Str.ofString "cpy313.wsgiref.headers") 289) Option.none (PySem.Value.ref 109) PySem.Value.none 0)) #[]) :: ((nat_lit 111), PySem.Obj.mk (PySem.Value.type "tuple") Option.none (PySem.Data.seq #[PySem.Value.none]) #[]) :: ((nat_lit 112), PySem.Obj.mk (PySem.Value.type "tuple") Option.none (PySem.Data.seq #[]) #[]) :: ((nat_lit 114), PySem.Obj.mk (PySem.Value.type "tuple") Option.none (PySem.Data.seq #[PySem.Value.str (PySem.Str.ofString "self") 432, PySem.Value.str (PySem.Str.ofString "name") 433, PySem.Value.str (PySem.Str.ofString "default") 434, PySem.Value.str (PySem.Str.ofString "k") 435, PySem.Value.str (PySem.Str.ofString "v") 436]) #[]) :: ((nat_lit 115), PySem.Obj.mk (PySem.Value.type "tuple") Option.none (PySem.Data.seq #[]) #[]) :: ((nat_lit 117), PySem.Obj.mk (PySem.Value.type "code") Option.none (PySem.Data.fields #[PySem.Value.str (PySem.Str.ofString "get") 429, PySem.Value.str (PySem.Str.ofString "Headers.get") 430, PySem.Value.str (PySem.Str.ofString "/claim/cut.py") 431, PySem.Value.int 48 0, PySem.Value.int 3 0, PySem.Value.int 0 0, PySem.Value.int 0 0, PySem.Value.int 3 0, PySem.Value.ref 112, PySem.Value.bool Bool.true, PySem.Value.int 276 0, PySem.Value.ref 113, PySem.Value.none, PySem.Value.ref 114, PySem.Value.ref 115, PySem.Value.ref 116, PySem.Value.int 437 0, PySem.Value.int 48 0, PySem.Value.str (PySem.Str.ofString "/claim/cut.py") 438]) #[]) :: ((nat_lit 118), PySem.Obj.mk (PySem.Value.type "function") Option.none (PySem.Data.func (PySem.FuncData.mk (PySem.Str.ofString "get") (PySem.Str.ofString "Headers.get") (litOf (y := fArgs (clsAt 5 8)) (by dsimp only [fBody, fArgs, fScope, clsAt, topAt, PySem.Challenge.pw_pg0317_01, List.getD, List.getElem?_cons_succ, List.getElem?_cons_zero, Option.getD_some])) (PySem.FuncBody.stmts (litOf (y := fBody (clsAt 5 8)) (by dsimp only [fBody, fArgs, fScope, clsAt, topAt, PySem.Challenge.pw_pg0317_01, List.getD, List.getElem?_cons_succ, List.getElem?_cons_zero, Option.getD_some]))) (litOf (y := fScope (clsAt 5 8)) (by dsimp only [fBody, fArgs, fScope, clsAt, topAt, PySem.Challenge.pw_pg0317_01, List.getD, List.getElem?_cons_succ, List.getElem?_cons_zero, Option.getD_some])) 3 [] (PySem.Value.ref 111) PySem.Value.none PySem.Value.none (PySem.Value.str (PySem.Str.ofString "cpy313.wsgiref.headers") 289) Option.none (PySem.Value.ref 117) PySem.Value.none 0)) #[]) :: ((nat_lit 119), PySem.Obj.mk (PySem.Value.type "tuple") Option.none (PySem.Data.seq #[]) #[]) :: ((nat_lit 122), PySem.Obj.mk (PySem.Value.type "code") Option.none (PySem.Data.fields #[PySem.Value.str (PySem.Str.ofString "keys") 440, PySem.Value.str (PySem.Str.ofString "Headers.keys") 441, PySem.Value.str (PySem.Str.ofString "/claim/cut.py") 442, PySem.Value.int 55 0, PySem.Value.int 1 0, PySem.Value.int 0 0, PySem.Value.int 0 0, PySem.Value.int 3 0, PySem.Value.ref 119, PySem.Value.bool Bool.true, PySem.Value.int 276 0, PySem.Value.ref 120, PySem.Value.none, PySem.Value.none, PySem.Value.none, PySem.Value.ref 121, PySem.Value.int 443 0, PySem.Value.int 55 0, PySem.Value.str (PySem.Str.ofString "/claim/cut.py") 444]) #[]) :: ((nat_lit 123), PySem.Obj.mk (PySem.Value.type "function") Option.none (PySem.Data.func (PySem.FuncData.mk (PySem.Str.ofString "keys") (PySem.Str.ofString "Headers.keys") (litOf (y := fArgs (clsAt 5 9)) (by dsimp only [fBody, fArgs, fScope, clsAt, topAt, PySem.Challenge.pw_pg0317_01, List.getD, List.getElem?_cons_succ, List.getElem?_cons_zero, Option.getD_some])) (PySem.FuncBody.stmts (litOf (y := fBody (clsAt 5 9)) (by dsimp only [fBody, fArgs, fScope, clsAt, topAt, PySem.Challenge.pw_pg0317_01, List.getD, List.getElem?_cons_succ, List.getElem?_cons_zero, Option.getD_some]))) (litOf (y := fScope (clsAt 5 9)) (by dsimp only [fBody, fArgs, fScope, clsAt, topAt, PySem.Challenge.pw_pg0317_01, List.getD, List.getElem?_cons_succ, List.getElem?_cons_zero, Option.getD_some])) 3 [] PySem.Value.none PySem.Value.none PySem.Value.none (PySem.Value.str (PySem.Str.ofString "cpy313.wsgiref.headers") 289) Option.none (PySem.Value.ref 122) PySem.Value.none 0)) #[]) :: ((nat_lit 124), PySem.Obj.mk (PySem.Value.type "tuple") Option.none (PySem.Data.seq #[]) #[]) :: ((nat_lit 127), PySem.Obj.mk (PySem.Value.type "code") Option.none (PySem.Data.fields #[PySem.Value.str (PySem.Str.ofString "values") 446, PySem.Value.str (PySem.Str.ofString "Headers.values") 447, PySem.Value.str (PySem.Str.ofString "/claim/cut.py") 448, PySem.Value.int 58 0, PySem.Value.int 1 0, PySem.Value.int 0 0, PySem.Value.int 0 0, PySem.Value.int 3 0, PySem.Value.ref 124, PySem.Value.bool Bool.true, PySem.Value.int 276 0, PySem.Value.ref 125, PySem.Value.none, PySem.Value.none, PySem.Value.none, PySem.Value.ref 126, PySem.Value.int 449 0, PySem.Value.int 58 0, PySem.Value.str (PySem.Str.ofString "/claim/cut.py") 450]) #[]) :: ((nat_lit 128), PySem.Obj.mk (PySem.Value.type "function") Option.none (PySem.Data.func (PySem.FuncData.mk (PySem.Str.ofString "values") (PySem.Str.ofString "Headers.values") (litOf (y := fArgs (clsAt 5 10)) (by dsimp only [fBody, fArgs, fScope, clsAt, topAt, PySem.Challenge.pw_pg0317_01, List.getD, List.getElem?_cons_succ, List.getElem?_cons_zero, Option.getD_some])) (PySem.FuncBody.stmts (litOf (y := fBody (clsAt 5 10)) (by dsimp only [fBody, fArgs, fScope, clsAt, topAt, PySem.Challenge.pw_pg0317_01, List.getD, List.getElem?_cons_succ, List.getElem?_cons_zero, Option.getD_some]))) (litOf (y := fScope (clsAt 5 9)) (by dsimp only [fBody, fArgs, fScope, clsAt, topAt, PySem.Challenge.pw_pg0317_01, List.getD, List.getElem?_cons_succ, List.getElem?_cons_zero, Option.getD_some])) 3 [] PySem.Value.none PySem.Value.none PySem.Value.none (PySem.Value.str (PySem.Str.ofString "cpy313.wsgiref.headers") 289) Option.none (PySem.Value.ref 127) PySem.Value.none 0)) #[]) :: ((nat_lit 129), PySem.Obj.mk (PySem.Value.type "tuple") Option.none (PySem.Data.seq #[]) #[]) :: ((nat_lit 131), PySem.Obj.mk (PySem.Value.type "tuple") Option.none (PySem.Data.seq #[PySem.Value.str (PySem.Str.ofString "self") 455]) #[]) :: ((nat_lit 132), PySem.Obj.mk (PySem.Value.type "tuple") Option.none (PySem.Data.seq #[]) #[]) :: ((nat_lit 134), PySem.Obj.mk (PySem.Value.type "code") Option.none (PySem.Data.fields #[PySem.Value.str (PySem.Str.ofString "items") 452, PySem.Value.str (PySem.Str.ofString "Headers.items") 453, PySem.Value.str (PySem.Str.ofString "/claim/cut.py") 454, PySem.Value.int 61 0, PySem.Value.int 1 0, PySem.Value.int 0 0, PySem.Value.int 0 0, PySem.Value.int 3 0, PySem.Value.ref 129, PySem.Value.bool Bool.true, PySem.Value.int 276 0, PySem.Value.ref 130, PySem.Value.none, PySem.Value.ref 131, PySem.Value.ref 132, PySem.Value.ref 133, PySem.Value.int 456 0, PySem.Value.int 61 0, PySem.Value.str (PySem.Str.ofString "/claim/cut.py") 457]) #[]) :: ((nat_lit 135), PySem.Obj.mk (PySem.Value.type "function") Option.none (PySem.Data.func (PySem.FuncData.mk (PySem.Str.ofString "items") (PySem.Str.ofString "Headers.items") (litOf (y := fArgs (clsAt 5 11)) (by dsimp only [fBody, fArgs, fScope, clsAt, topAt, PySem.Challenge.pw_pg0317_01, List.getD, List.getElem?_cons_succ, List.getElem?_cons_zero, Option.getD_some])) (PySem.FuncBody.stmts (litOf (y := fBody (clsAt 5 11)) (by dsimp only [fBody, fArgs, fScope, clsAt, topAt, PySem.Challenge.pw_pg0317_01, List.getD, List.getElem?_cons_succ, List.getElem?_cons_zero, Option.getD_some]))) (litOf (y := fScope (clsAt 5 11)) (by dsimp only [fBody, fArgs, fScope, clsAt, topAt, PySem.Challenge.pw_pg0317_01, List.getD, List.getElem?_cons_succ, List.getElem?_cons_zero, Option.getD_some])) 3 [] PySem.Value.none PySem.Value.none PySem.Value.none (PySem.Value.str (PySem.Str.ofString "cpy313.wsgiref.headers") 289) Option.none (PySem.Value.ref 134) PySem.Value.none 0)) #[]) :: ((nat_lit 136), PySem.Obj.mk (PySem.Value.type "tuple") Option.none (PySem.Data.seq #[]) #[]) :: ((nat_lit 138), PySem.Obj.mk (PySem.Value.type "tuple") Option.none (PySem.Data.seq #[PySem.Value.str (PySem.Str.ofString "self") 462]) #[]) :: ((nat_lit 139), PySem.Obj.mk (PySem.Value.type "tuple") Option.none (PySem.Data.seq #[]) #[]) :: ((nat_lit 141), PySem.Obj.mk (PySem.Value.type "code") Option.none (PySem.Data.fields #[PySem.Value.str (PySem.Str.ofString "__repr__") 459, PySem.Value.str (PySem.Str.ofString "Headers.__repr__") 460, PySem.Value.str (PySem.Str.ofString "/claim/cut.py") 461, PySem.Value.int 64 0, PySem.Value.int 1 0, PySem.Value.int 0 0, PySem.Value.int 0 0, PySem.Value.int 3 0, PySem.Value.ref 136, PySem.Value.bool Bool.true, PySem.Value.int 276 0, PySem.Value.ref 137, PySem.Value.none, PySem.Value.ref 138, PySem.Value.ref 139, PySem.Value.ref 140, PySem.Value.int 463 0, PySem.Value.int 64 0, PySem.Value.str (PySem.Str.ofString "/claim/cut.py") 464]) #[]) :: ((nat_lit 142), PySem.Obj.mk (PySem.Value.type "function") Option.none (PySem.Data.func (PySem.FuncData.mk (PySem.Str.ofString "__repr__") (PySem.Str.ofString "Headers.__repr__") (litOf (y := fArgs (clsAt 5 12)) (by dsimp only [fBody, fArgs, fScope, clsAt, topAt, PySem.Challenge.pw_pg0317_01, List.getD, List.getElem?_cons_succ, List.getElem?_cons_zero, Option.getD_some])) (PySem.FuncBody.stmts (litOf (y := fBody (clsAt 5 12)) (by dsimp only [fBody, fArgs, fScope, clsAt, topAt, PySem.Challenge.pw_pg0317_01, List.getD, List.getElem?_cons_succ, List.getElem?_cons_zero, Option.getD_some]))) (litOf (y := fScope (clsAt 5 11)) (by dsimp only [fBody, fArgs, fScope, clsAt, topAt, PySem.Challenge.pw_pg0317_01, List.getD, List.getElem?_cons_succ, List.getElem?_cons_zero, Option.getD_some])) 3 [] PySem.Value.none PySem.Value.none PySem.Value.none (PySem.Value.str (PySem.Str.ofString "cpy313.wsgiref.headers") 289) Option.none (PySem.Value.ref 141) PySem.Value.none 0)) #[]) :: ((nat_lit 143), PySem.Obj.mk (PySem.Value.type "tuple") Option.none (PySem.Data.seq #[]) #[]) :: ((nat_lit 146), PySem.Obj.mk (PySem.Value.type "code") Option.none (PySem.Data.fields #[PySem.Value.str (PySem.Str.ofString "__str__") 466, PySem.Value.str (PySem.Str.ofString "Headers.__str__") 467, PySem.Value.str (PySem.Str.ofString "/claim/cut.py") 468, PySem.Value.int 67 0, PySem.Value.int 1 0, PySem.Value.int 0 0, PySem.Value.int 0 0, PySem.Value.int 3 0, PySem.Value.ref 143, PySem.Value.bool Bool.true, PySem.Value.int 276 0, PySem.Value.ref 144, PySem.Value.none, PySem.Value.none, PySem.Value.none, PySem.Value.ref 145, PySem.Value.int 469 0, PySem.Value.int 67 0, PySem.Value.str (PySem.Str.ofString "/claim/cut.py") 470]) #[]) :: ((nat_lit 147), PySem.Obj.mk (PySem.Value.type "function") Option.none (PySem.Data.func (PySem.FuncData.mk (PySem.Str.ofString "__str__") (PySem.Str.ofString "Headers.__str__") (litOf (y := fArgs (clsAt 5 13)) (by dsimp only [fBody, fArgs, fScope, clsAt, topAt, PySem.Challenge.pw_pg0317_01, List.getD, List.getElem?_cons_succ, List.getElem?_cons_zero, Option.getD_some])) (PySem.FuncBody.stmts (litOf (y := fBody (clsAt 5 13)) (by dsimp only [fBody, fArgs, fScope, clsAt, topAt, PySem.Challenge.pw_pg0317_01, List.getD, List.getElem?_cons_succ, List.getElem?_cons_zero, Option.getD_some]))) (litOf (y := fScope (clsAt 5 13)) (by dsimp only [fBody, fArgs, fScope, clsAt, topAt, PySem.Challenge.pw_pg0317_01, List.getD, List.getElem?_cons_succ, List.getElem?_cons_zero, Option.getD_some])) 3 [] PySem.Value.none PySem.Value.none PySem.Value.none (PySem.Value.str (PySem.Str.ofString "cpy313.wsgiref.headers") 289) Option.none (PySem.Value.ref 146) PySem.Value.none 0)) #[]) :: ((nat_lit 148), PySem.Obj.mk (PySem.Value.type "tuple") Option.none (PySem.Data.seq #[]) #[]) :: ((nat_lit 150), PySem.Obj.mk (PySem.Value.type "tuple") Option.none (PySem.Data.seq #[PySem.Value.str (PySem.Str.ofString "self") 475]) #[]) :: ((nat_lit 151), PySem.Obj.mk (PySem.Value.type "tuple") Option.none (PySem.Data.seq #[]) #[]) :: ((nat_lit 153), PySem.Obj.mk (PySem.Value.type "code") Option.none (PySem.Data.fields #[PySem.Value.str (PySem.Str.ofString "__bytes__") 472, PySem.Value.str (PySem.Str.ofString "Headers.__bytes__") 473, PySem.Value.str (PySem.Str.ofString "/claim/cut.py") 474, PySem.Value.int 70 0, PySem.Value.int 1 0, PySem.Value.int 0 0, PySem.Value.int 0 0, PySem.Value.int 3 0, PySem.Value.ref 148, PySem.Value.bool Bool.true, PySem.Value.int 276 0, PySem.Value.ref 149, PySem.Value.none, PySem.Value.ref 150, PySem.Value.ref 151, PySem.Value.ref 152, PySem.Value.int 476 0, PySem.Value.int 70 0, PySem.Value.str (PySem.Str.ofString "/claim/cut.py") 477]) #[]) :: ((nat_lit 154), PySem.Obj.mk (PySem.Value.type "function") Option.none (PySem.Data.func (PySem.FuncData.mk (PySem.Str.ofString "__bytes__") (PySem.Str.ofString "Headers.__bytes__") (litOf (y := fArgs (clsAt 5 14)) (by dsimp only [fBody, fArgs, fScope, clsAt, topAt, PySem.Challenge.pw_pg0317_01, List.getD, List.getElem?_cons_succ, List.getElem?_cons_zero, Option.getD_some])) (PySem.FuncBody.stmts (litOf (y := fBody (clsAt 5 14)) (by dsimp only [fBody, fArgs, fScope, clsAt, topAt, PySem.Challenge.pw_pg0317_01, List.getD, List.getElem?_cons_succ, List.getElem?_cons_zero, Option.getD_some]))) (litOf (y := fScope (clsAt 5 14)) (by dsimp only [fBody, fArgs, fScope, clsAt, topAt, PySem.Challenge.pw_pg0317_01, List.getD, List.getElem?_cons_succ, List.getElem?_cons_zero, Option.getD_some])) 3 [] PySem.Value.none PySem.Value.none PySem.Value.none (PySem.Value.str (PySem.Str.ofString "cpy313.wsgiref.headers") 289) Option.none (PySem.Value.ref 153) PySem.Value.none 0)) #[]) :: ((nat_lit 155), PySem.Obj.mk (PySem.Value.type "tuple") Option.none (PySem.Data.seq #[]) #[]) :: ((nat_lit 157), PySem.Obj.mk (PySem.Value.type "tuple") Option.none (PySem.Data.seq #[PySem.Value.str (PySem.Str.ofString "self") 482, PySem.Value.str (PySem.Str.ofString "name") 483, PySem.Value.str (PySem.Str.ofString "value") 484, PySem.Value.str (PySem.Str.ofString "result") 485]) #[]) :: ((nat_lit 158), PySem.Obj.mk (PySem.Value.type "tuple") Option.none (PySem.Data.seq #[]) #[]) :: ((nat_lit 160), PySem.Obj.mk (PySem.Value.type "code") Option.none (PySem.Data.fields #[PySem.Value.str (PySem.Str.ofString "setdefault") 479, PySem.Value.str (PySem.Str.ofString "Headers.setdefault") 480, PySem.Value.str (PySem.Str.ofString "/claim/cut.py") 481, PySem.Value.int 73 0, PySem.Value.int 3 0, PySem.Value.int 0 0, PySem.Value.int 0 0, PySem.Value.int 3 0, PySem.Value.ref 155, PySem.Value.bool Bool.true, PySem.Value.int 276 0, PySem.Value.ref 156, PySem.Value.none, PySem.Value.ref 157, PySem.Value.ref 158, PySem.Value.ref 159, PySem.Value.int 486 0, PySem.Value.int 73 0, PySem.Value.str (PySem.Str.ofString "/claim/cut.py") 487]) #[]) :: ((nat_lit 161), PySem.Obj.mk (PySem.Value.type "function") Option.none (PySem.Data.func (PySem.FuncData.mk (PySem.Str.ofString "setdefault") (PySem.Str.ofString "Headers.setdefault") (litOf (y := fArgs (clsAt 5 15)) (by dsimp only [fBody, fArgs, fScope, clsAt, topAt, PySem.Challenge.pw_pg0317_01, List.getD, List.getElem?_cons_succ, List.getElem?_cons_zero, Option.getD_some])) (PySem.FuncBody.stmts (litOf (y := fBody (clsAt 5 15)) (by dsimp only [fBody, fArgs, fScope, clsAt, topAt, PySem.Challenge.pw_pg0317_01, List.getD, List.getElem?_cons_succ, List.getElem?_cons_zero, Option.getD_some]))) (litOf (y := fScope (clsAt 5 15)) (by dsimp only [fBody, fArgs, fScope, clsAt, topAt, PySem.Challenge.pw_pg0317_01, List.getD, List.getElem?_cons_succ, List.getElem?_cons_zero, Option.getD_some])) 3 [] PySem.Value.none PySem.Value.none PySem.Value.none (PySem.Value.str (PySem.Str.ofString "cpy313.wsgiref.headers") 289) Option.none (PySem.Value.ref 160) PySem.Value.none 0)) #[]) :: ((nat_lit 162), PySem.Obj.mk (PySem.Value.type "tuple") Option.none (PySem.Data.seq #[]) #[]) :: ((nat_lit 164), PySem.Obj.mk (PySem.Value.type "tuple") Option.none (PySem.Data.seq #[PySem.Value.str (PySem.Str.ofString "self") 492, PySem.Value.str (PySem.Str.ofString "_name") 493, PySem.Value.str (PySem.Str.ofString "_value") 494, PySem.Value.str (PySem.Str.ofString "_params") 495]) #[]) :: ((nat_lit 165), PySem.Obj.mk (PySem.Value.type "tuple") Option.none (PySem.Data.seq #[]) #[]) :: ((nat_lit 167), PySem.Obj.mk (PySem.Value.type "code") Option.none (PySem.Data.fields #[PySem.Value.str (PySem.Str.ofString "add_header") 489, PySem.Value.str (PySem.Str.ofString "Headers.add_header") 490, PySem.Value.str (PySem.Str.ofString "/claim/cut.py") 491, PySem.Value.int 81 0, PySem.Value.int 3 0, PySem.Value.int 0 0, PySem.Value.int 0 0, PySem.Value.int 11 0, PySem.Value.ref 162, PySem.Value.bool Bool.true, PySem.Value.int 276 0, PySem.Value.ref 163, PySem.Value.none, PySem.Value.ref 164, PySem.Value.ref 165, PySem.Value.ref 166, PySem.Value.int 496 0, PySem.Value.int 81 0, PySem.Value.str (PySem.Str.ofString "/claim/cut.py") 497]) #[]) :: ((nat_lit 168), PySem.Obj.mk (PySem.Value.type "function") Option.none (PySem.Data.func (PySem.FuncData.mk (PySem.Str.ofString "add_header") (PySem.Str.ofString "Headers.add_header") (litOf (y := fArgs (clsAt 5 16)) (by dsimp only [fBody, fArgs, fScope, clsAt, topAt, PySem.Challenge.pw_pg0317_01, List.getD, List.getElem?_cons_succ, List.getElem?_cons_zero, Option.getD_some])) (PySem.FuncBody.stmts (litOf (y := fBody (clsAt 5 16)) (by dsimp only [fBody, fArgs, fScope, clsAt, topAt, PySem.Challenge.pw_pg0317_01, List.getD, List.getElem?_cons_succ, List.getElem?_cons_zero, Option.getD_some]))) (litOf (y := fScope (clsAt 5 16)) (by dsimp only [fBody, fArgs, fScope, clsAt, topAt, PySem.Challenge.pw_pg0317_01, List.getD, List.getElem?_cons_succ, List.getElem?_cons_zero, Option.getD_some])) 3 [] PySem.Value.none PySem.Value.none PySem.Value.none (PySem.Value.str (PySem.Str.ofString "cpy313.wsgiref.headers") 289) Option.none (PySem.Value.ref 167) PySem.Value.none 0)) #[]) :: ((nat_lit 169), PySem.Obj.mk (PySem.Value.type "tuple") Option.none (PySem.Data.seq #[PySem.Value.str (PySem.Str.ofString "_headers") 499]) #[]) :: ((nat_lit 170), PySem.Obj.mk (PySem.Value.type "dict") Option.none (PySem.Data.dict #[PySem.DictEntry.mk (PySem.PyData.keyHash P (PySem.Str.ofString "__module__")) (PySem.Value.str (PySem.Str.ofString "__module__") 358) (PySem.Value.str (PySem.Str.ofString "cpy313.wsgiref.headers") 289), PySem.DictEntry.mk (PySem.PyData.keyHash P (PySem.Str.ofString "__firstlineno__")) (PySem.Value.str (PySem.Str.ofString "__firstlineno__") 362) (PySem.Value.int 8 361), PySem.DictEntry.mk (PySem.PyData.keyHash P (PySem.Str.ofString "__init__")) (PySem.Value.str (PySem.Str.ofString "__init__") 372) (PySem.Value.ref 63), PySem.DictEntry.mk (PySem.PyData.keyHash P (PySem.Str.ofString "_convert_string_type")) (PySem.Value.str (PySem.Str.ofString "_convert_string_type") 382) (PySem.Value.ref 70), PySem.DictEntry.mk (PySem.PyData.keyHash P (PySem.Str.ofString "__len__")) (PySem.Value.str (PySem.Str.ofString "__len__") 389) (PySem.Value.ref 77), PySem.DictEntry.mk (PySem.PyData.keyHash P (PySem.Str.ofString "__setitem__")) (PySem.Value.str (PySem.Str.ofString "__setitem__") 398) (PySem.Value.ref 84), PySem.DictEntry.mk (PySem.PyData.keyHash P (PySem.Str.ofString "__delitem__")) (PySem.Value.str (PySem.Str.ofString "__delitem__") 404) (PySem.Value.ref 89), PySem.DictEntry.mk (PySem.PyData.keyHash P (PySem.Str.ofString "__getitem__")) (PySem.Value.str (PySem.Str.ofString "__getitem__") 412) (PySem.Value.ref 96), PySem.DictEntry.mk (PySem.PyData.keyHash P (PySem.Str.ofString "__contains__")) (PySem.Value.str (PySem.Str.ofString "__contains__") 420) (PySem.Value.ref 103), PySem.DictEntry.mk (PySem.PyData.keyHash P (PySem.Str.ofString "get_all")) (PySem.Value.str (PySem.Str.ofString "get_all") 428) (PySem.Value.ref 110), PySem.DictEntry.mk (PySem.PyData.keyHash P (PySem.Str.ofString "get")) (PySem.Value.str (PySem.Str.ofString "get") 439) (PySem.Value.ref 118), PySem.DictEntry.mk (PySem.PyData.keyHash P (PySem.Str.ofString "keys")) (PySem.Value.str (PySem.Str.ofString "keys") 445) (PySem.Value.ref 123), PySem.DictEntry.mk (PySem.PyData.keyHash P (PySem.Str.ofString "values")) (PySem.Value.str (PySem.Str.ofString "values") 451) (PySem.Value.ref 128), PySem.DictEntry.mk (PySem.PyData.keyHash P (PySem.Str.ofString "items")) (PySem.Value.str (PySem.Str.ofString "items") 458) (PySem.Value.ref 135), PySem.DictEntry.mk (PySem.PyData.keyHash P (PySem.Str.ofString "__repr__")) (PySem.Value.str (PySem.Str.ofString "__repr__") 465) (PySem.Value.ref 142), PySem.DictEntry.mk (PySem.PyData.keyHash P (PySem.Str.ofString "__str__")) (PySem.Value.str (PySem.Str.ofString "__str__") 471) (PySem.Value.ref 147), PySem.DictEntry.mk (PySem.PyData.keyHash P (PySem.Str.ofString "__bytes__")) (PySem.Value.str (PySem.Str.ofString "__bytes__") 478) (PySem.Value.ref 154), PySem.DictEntry.mk (PySem.PyData.keyHash P (PySem.Str.ofString "setdefault")) (PySem.Value.str (PySem.Str.ofString "setdefault") 488) (PySem.Value.ref 161), PySem.DictEntry.mk (PySem.PyData.keyHash P (PySem.Str.ofString "add_header")) (PySem.Value.str (PySem.Str.ofString "add_header") 498) (PySem.Value.ref 168), PySem.DictEntry.mk (PySem.PyData.keyHash P (PySem.Str.ofString "__static_attributes__")) (PySem.Value.str (PySem.Str.ofString "__static_attributes__") 500) (PySem.Value.ref 169), PySem.DictEntry.mk (PySem.PyData.keyHash P (PySem.Str.ofString "__dict__")) (PySem.Value.str (PySem.Str.ofString "__dict__") 502) (PySem.Value.ref 172), PySem.DictEntry.mk (PySem.PyData.keyHash P (PySem.Str.ofString "__weakref__")) (PySem.Value.str (PySem.Str.ofString "__weakref__") 504) (PySem.Value.ref 173), PySem.DictEntry.mk (PySem.PyData.keyHash P (PySem.Str.ofString "__doc__")) (PySem.Value.str (PySem.Str.ofString "__doc__") 505) PySem.Value.none] 4) #[]) :: ((nat_lit 171), PySem.Obj.mk (PySem.Value.type "type") Option.none (PySem.Data.cls (PySem.ClassData.mk (PySem.Str.ofString "Headers") [PySem.Value.type "object"] [PySem.Value.ref 171, PySem.Value.type "object"] 170 (PySem.Str.ofString "Headers") Bool.true [] [] Bool.false Option.none Bool.false)) #[Option.none, Option.none, Option.some (PySem.Value.str (PySem.Str.ofString "Headers") 351), Option.some (PySem.Value.str (PySem.Str.ofString "Headers") 359), Option.some (PySem.Value.builtin "object.__new__"), Option.some (PySem.Value.bool Bool.true)]) :: ((nat_lit 172), PySem.Obj.mk (PySem.Value.type "getset_descriptor") Option.none (PySem.Data.fields #[PySem.Value.str (PySem.Str.ofString "__dict__") 501, PySem.Value.ref 171, PySem.Value.builtin "function.__dict__", PySem.Value.builtin "function.__dict__#set"]) #[]) :: ((nat_lit 173), PySem.Obj.mk (PySem.Value.type "getset_descriptor") Option.none (PySem.Data.fields #[PySem.Value.str (PySem.Str.ofString "__weakref__") 503, PySem.Value.ref 171, PySem.Value.builtin "ExceptionGroup.__weakref__", PySem.Value.none]) #[]) :: ((nat_lit 183), PySem.Obj.mk (PySem.Value.type "tuple") Option.none (PySem.Data.seq #[]) #[]) :: ((nat_lit 185), PySem.Obj.mk (PySem.Value.type "tuple") Option.none (PySem.Data.seq #[PySem.Value.str (PySem.Str.ofString "self") 525, PySem.Value.str (PySem.Str.ofString "comp_select_list") 526]) #[]) :: ((nat_lit 186), PySem.Obj.mk (PySem.Value.type "tuple") Option.none (PySem.Data.seq #[]) #[]) :: ((nat_lit 188), PySem.Obj.mk (PySem.Value.type "code") Option.none (PySem.Data.fields #[PySem.Value.str (PySem.Str.ofString "__init__") 522, PySem.Value.str (PySem.Str.ofString "TupleComp.__init__") 523, PySem.Value.str (PySem.Str.ofString "/claim/cut.py") 524, PySem.Value.int 86 0, PySem.Value.int 2 0, PySem.Value.int 0 0, PySem.Value.int 0 0, PySem.Value.int 3 0, PySem.Value.ref 183, PySem.Value.bool Bool.true, PySem.Value.int 276 0, PySem.Value.ref 184, PySem.Value.none, PySem.Value.ref 185, PySem.Value.ref 186, PySem.Value.ref 187, PySem.Value.int 527 0, PySem.Value.int 86 0, PySem.Value.str (PySem.Str.ofString "/claim/cut.py") 528]) #[]) :: ((nat_lit 189), PySem.Obj.mk (PySem.Value.type "function") Option.none (PySem.Data.func (PySem.FuncData.mk (PySem.Str.ofString "__init__") (PySem.Str.ofString "TupleComp.__init__") (litOf (y := fArgs (clsAt 7 0)) (by dsimp only [fBody, fArgs, fScope, clsAt, topAt, PySem.Challenge.pw_pg0317_01, List.getD, List.getElem?_cons_succ, List.getElem?_cons_zero, Option.getD_some])) (PySem.FuncBody.stmts (litOf (y := fBody (clsAt 7 0)) (by dsimp only [fBody, fArgs, fScope, clsAt, topAt, PySem.Challenge.pw_pg0317_01, List.getD, List.getElem?_cons_succ, List.getElem?_cons_zero, Option.getD_some]))) (litOf (y := fScope (clsAt 7 0)) (by dsimp only [fBody, fArgs, fScope, clsAt, topAt, PySem.Challenge.pw_pg0317_01, List.getD, List.getElem?_cons_succ, List.getElem?_cons_zero, Option.getD_some])) 3 [] PySem.Value.none PySem.Value.none PySem.Value.none (PySem.Value.str (PySem.Str.ofString "cpy313.pstats") 508) Option.none (PySem.Value.ref 188) PySem.Value.none 0)) #[]) :: ((nat_lit 190), PySem.Obj.mk (PySem.Value.type "tuple") Option.none (PySem.Data.seq #[]) #[]) :: ((nat_lit 192), PySem.Obj.mk (PySem.Value.type "tuple") Option.none (PySem.Data.seq #[PySem.Value.str (PySem.Str.ofString "self") 533, PySem.Value.str (PySem.Str.ofString "left") 534, PySem.Value.str (PySem.Str.ofString "right") 535, PySem.Value.str (PySem.Str.ofString "index") 536, PySem.Value.str (PySem.Str.ofString "direction") 537, PySem.Value.str (PySem.Str.ofString "l") 538, PySem.Value.str (PySem.Str.ofString "r") 539]) #[]) :: ((nat_lit 193), PySem.Obj.mk (PySem.Value.type "tuple") Option.none (PySem.Data.seq #[]) #[]) :: ((nat_lit 195), PySem.Obj.mk (PySem.Value.type "code") Option.none (PySem.Data.fields #[PySem.Value.str (PySem.Str.ofString "compare") 530, PySem.Value.str (PySem.Str.ofString "TupleComp.compare") 531, PySem.Value.str (PySem.Str.ofString "/claim/cut.py") 532, PySem.Value.int 89 0, PySem.Value.int 3 0, PySem.Value.int 0 0, PySem.Value.int 0 0, PySem.Value.int 3 0, PySem.Value.ref 190, PySem.Value.bool Bool.true, PySem.Value.int 276 0, PySem.Value.ref 191, PySem.Value.none, PySem.Value.ref 192, PySem.Value.ref 193, PySem.Value.ref 194, PySem.Value.int 540 0, PySem.Value.int 89 0, PySem.Value.str (PySem.Str.ofString "/claim/cut.py") 541]) #[]) :: ((nat_lit 196), PySem.Obj.mk (PySem.Value.type "function") Option.none (PySem.Data.func (PySem.FuncData.mk (PySem.Str.ofString "compare") (PySem.Str.ofString "TupleComp.compare") (litOf (y := fArgs (clsAt 7 1)) (by dsimp only [fBody, fArgs, fScope, clsAt, topAt, PySem.Challenge.pw_pg0317_01, List.getD, List.getElem?_cons_succ, List.getElem?_cons_zero, Option.getD_some])) (PySem.FuncBody.stmts (litOf (y := fBody (clsAt 7 1)) (by dsimp only [fBody, fArgs, fScope, clsAt, topAt, PySem.Challenge.pw_pg0317_01, List.getD, List.getElem?_cons_succ, List.getElem?_cons_zero, Option.getD_some]))) (litOf (y := fScope (clsAt 7 1)) (by dsimp only [fBody, fArgs, fScope, clsAt, topAt, PySem.Challenge.pw_pg0317_01, List.getD, List.getElem?_cons_succ, List.getElem?_cons_zero, Option.getD_some])) 3 [] PySem.Value.none PySem.Value.none PySem.Value.none (PySem.Value.str (PySem.Str.ofString "cpy313.pstats") 508) Option.none (PySem.Value.ref 195) PySem.Value.none 0)) #[]) :: ((nat_lit 197), PySem.Obj.mk (PySem.Value.type "tuple") Option.none (PySem.Data.seq #[PySem.Value.str (PySem.Str.ofString "comp_select_list") 543]) #[]) :: ((nat_lit 198), PySem.Obj.mk (PySem.Value.type "dict") Option.none (PySem.Data.dict #[PySem.DictEntry.mk (PySem.PyData.keyHash P (PySem.Str.ofString "__module__")) (PySem.Value.str (PySem.Str.ofString "__module__") 517) (PySem.Value.str (PySem.Str.ofString "cpy313.pstats") 508), PySem.DictEntry.mk (PySem.PyData.keyHash P (PySem.Str.ofString "__firstlineno__")) (PySem.Value.str (PySem.Str.ofString "__firstlineno__") 521) (PySem.Value.int 84 520), PySem.DictEntry.mk (PySem.PyData.keyHash P (PySem.Str.ofString "__init__")) (PySem.Value.str (PySem.Str.ofString "__init__") 529) (PySem.Value.ref 189), PySem.DictEntry.mk (PySem.PyData.keyHash P (PySem.Str.ofString "compare")) (PySem.Value.str (PySem.Str.ofString "compare") 542) (PySem.Value.ref 196), PySem.DictEntry.mk (PySem.PyData.keyHash P (PySem.Str.ofString "__static_attributes__")) (PySem.Value.str (PySem.Str.ofString "__static_attributes__") 544) (PySem.Value.ref 197), PySem.DictEntry.mk (PySem.PyData.keyHash P (PySem.Str.ofString "__dict__")) (PySem.Value.str (PySem.Str.ofString "__dict__") 546) (PySem.Value.ref 200), PySem.DictEntry.mk (PySem.PyData.keyHash P (PySem.Str.ofString "__weakref__")) (PySem.Value.str (PySem.Str.ofString "__weakref__") 548) (PySem.Value.ref 201), PySem.DictEntry.mk (PySem.PyData.keyHash P (PySem.Str.ofString "__doc__")) (PySem.Value.str (PySem.Str.ofString "__doc__") 549) PySem.Value.none] 4) #[]) :: ((nat_lit 199), PySem.Obj.mk (PySem.Value.type "type") Option.none (PySem.Data.cls (PySem.ClassData.mk (PySem.Str.ofString "TupleComp") [PySem.Value.type "object"] [PySem.Value.ref 199, PySem.Value.type "object"] 198 (PySem.Str.ofString "TupleComp") Bool.true [] [] Bool.false Option.none Bool.false)) #[Option.none, Option.none, Option.some (PySem.Value.str (PySem.Str.ofString "TupleComp") 510), Option.some (PySem.Value.str (PySem.Str.ofString "TupleComp") 518), Option.some (PySem.Value.builtin "object.__new__"), Option.some (PySem.Value.bool Bool.true)]) :: ((nat_lit 200), PySem.Obj.mk (PySem.Value.type "getset_descriptor") Option.none (PySem.Data.fields #[PySem.Value.str (PySem.Str.ofString "__dict__") 545, PySem.Value.ref 199, PySem.Value.builtin "function.__dict__", PySem.Value.builtin "function.__dict__#set"]) #[]) :: ((nat_lit 201), PySem.Obj.mk (PySem.Value.type "getset_descriptor") Option.none (PySem.Data.fields #[PySem.Value.str (PySem.Str.ofString "__weakref__") 547, PySem.Value.ref 199, PySem.Value.builtin "ExceptionGroup.__weakref__", PySem.Value.none]) #[]) :: ((nat_lit 204), PySem.Obj.mk (PySem.Value.type "tuple") Option.none (PySem.Data.seq #[]) #[]) :: ((nat_lit 206), PySem.Obj.mk (PySem.Value.type "tuple") Option.none (PySem.Data.seq #[PySem.Value.str (PySem.Str.ofString "target") 555, PySem.Value.str (PySem.Str.ofString "source") 556, PySem.Value.str (PySem.Str.ofString "cc") 557, PySem.Value.str (PySem.Str.ofString "nc") 558, PySem.Value.str (PySem.Str.ofString "tt") 559, PySem.Value.str (PySem.Str.ofString "ct") 560, PySem.Value.str (PySem.Str.ofString "callers") 561, PySem.Value.str (PySem.Str.ofString "t_cc") 562, PySem.Value.str (PySem.Str.ofString "t_nc") 563, PySem.Value.str (PySem.Str.ofString "t_tt") 564, PySem.Value.str (PySem.Str.ofString "t_ct") 565, PySem.Value.str (PySem.Str.ofString "t_callers") 566]) #[]) :: ((nat_lit 207), PySem.Obj.mk (PySem.Value.type "tuple") Option.none (PySem.Data.seq #[]) #[]) :: ((nat_lit 209), PySem.Obj.mk (PySem.Value.type "code") Option.none (PySem.Data.fields #[PySem.Value.str (PySem.Str.ofString "add_func_stats") 552, PySem.Value.str (PySem.Str.ofString "add_func_stats") 553, PySem.Value.str (PySem.Str.ofString "/claim/cut.py") 554, PySem.Value.int 98 0, PySem.Value.int 2 0, PySem.Value.int 0 0, PySem.Value.int 0 0, PySem.Value.int 3 0, PySem.Value.ref 204, PySem.Value.bool Bool.true, PySem.Value.int 276 0, PySem.Value.ref 205, PySem.Value.none, PySem.Value.ref 206, PySem.Value.ref 207, PySem.Value.ref 208, PySem.Value.int 567 0, PySem.Value.int 98 0, PySem.Value.str (PySem.Str.ofString "/claim/cut.py") 568]) #[]) :: ((nat_lit 210), PySem.Obj.mk (PySem.Value.type "function") Option.none (PySem.Data.func (PySem.FuncData.mk (PySem.Str.ofString "add_func_stats") (PySem.Str.ofString "add_func_stats") (litOf (y := fArgs (topAt 8)) (by dsimp only [fBody, fArgs, fScope, clsAt, topAt, PySem.Challenge.pw_pg0317_01, List.getD, List.getElem?_cons_succ, List.getElem?_cons_zero, Option.getD_some])) (PySem.FuncBody.stmts (litOf (y := fBody (topAt 8)) (by dsimp only [fBody, fArgs, fScope, clsAt, topAt, PySem.Challenge.pw_pg0317_01, List.getD, List.getElem?_cons_succ, List.getElem?_cons_zero, Option.getD_some]))) (litOf (y := fScope (topAt 8)) (by dsimp only [fBody, fArgs, fScope, clsAt, topAt, PySem.Challenge.pw_pg0317_01, List.getD, List.getElem?_cons_succ, List.getElem?_cons_zero, Option.getD_some])) 3 [] PySem.Value.none PySem.Value.none PySem.Value.none (PySem.Value.str (PySem.Str.ofString "cpy313.pstats") 508) Option.none (PySem.Value.ref 209) PySem.Value.none 0)) #[]) :: ((nat_lit 211), PySem.Obj.mk (PySem.Value.type "tuple") Option.none (PySem.Data.seq #[]) #[]) :: ((nat_lit 213), PySem.Obj.mk (PySem.Value.type "tuple") Option.none (PySem.Data.seq #[PySem.Value.str (PySem.Str.ofString "target") 573, PySem.Value.str (PySem.Str.ofString "source") 574, PySem.Value.str (PySem.Str.ofString "new_callers") 575, PySem.Value.str (PySem.Str.ofString "func") 576, PySem.Value.str (PySem.Str.ofString "caller") 577]) #[]) :: ((nat_lit 214), PySem.Obj.mk (PySem.Value.type "tuple") Option.none (PySem.Data.seq #[]) #[]) :: ((nat_lit 216), PySem.Obj.mk (PySem.Value.type "code") Option.none (PySem.Data.fields #[PySem.Value.str (PySem.Str.ofString "add_callers") 570, PySem.Value.str (PySem.Str.ofString "add_callers") 571, PySem.Value.str (PySem.Str.ofString "/claim/cut.py") 572, PySem.Value.int 102 0, PySem.Value.int 2 0, PySem.Value.int 0 0, PySem.Value.int 0 0, PySem.Value.int 3 0, PySem.Value.ref 211, PySem.Value.bool Bool.true, PySem.Value.int 276 0, PySem.Value.ref 212, PySem.Value.none, PySem.Value.ref 213, PySem.Value.ref 214, PySem.Value.ref 215, PySem.Value.int 578 0, PySem.Value.int 102 0, PySem.Value.str (PySem.Str.ofString "/claim/cut.py") 579]) #[]) :: ((nat_lit 217), PySem.Obj.mk (PySem.Value.type "function") Option.none (PySem.Data.func (PySem.FuncData.mk (PySem.Str.ofString "add_callers") (PySem.Str.ofString "add_callers") (litOf (y := fArgs (topAt 9)) (by dsimp only [fBody, fArgs, fScope, clsAt, topAt, PySem.Challenge.pw_pg0317_01, List.getD, List.getElem?_cons_succ, List.getElem?_cons_zero, Option.getD_some])) (PySem.FuncBody.stmts (litOf (y := fBody (topAt 9)) (by dsimp only [fBody, fArgs, fScope, clsAt, topAt, PySem.Challenge.pw_pg0317_01, List.getD, List.getElem?_cons_succ, List.getElem?_cons_zero, Option.getD_some]))) (litOf (y := fScope (topAt 9)) (by dsimp only [fBody, fArgs, fScope, clsAt, topAt, PySem.Challenge.pw_pg0317_01, List.getD, List.getElem?_cons_succ, List.getElem?_cons_zero, Option.getD_some])) 3 [] PySem.Value.none PySem.Value.none PySem.Value.none (PySem.Value.str (PySem.Str.ofString "cpy313.pstats") 508) Option.none (PySem.Value.ref 216) PySem.Value.none 0)) #[]) :: ((nat_lit 228), PySem.Obj.mk (PySem.Value.type "tuple") Option.none (PySem.Data.seq #[]) #[]) :: ((nat_lit 230), PySem.Obj.mk (PySem.Value.type "tuple") Option.none (PySem.Data.seq #[PySem.Value.str (PySem.Str.ofString "self") 603, PySem.Value.str (PySem.Str.ofString "ws") 604, PySem.Value.str (PySem.Str.ofString "S") 605, PySem.Value.str (PySem.Str.ofString "T") 606, PySem.Value.str (PySem.Str.ofString "count") 607, PySem.Value.str (PySem.Str.ofString "b") 608, PySem.Value.str (PySem.Str.ofString "n") 609, PySem.Value.str (PySem.Str.ofString "nt") 610, PySem.Value.str (PySem.Str.ofString "ch") 611]) #[]) :: ((nat_lit 231), PySem.Obj.mk (PySem.Value.type "tuple") Option.none (PySem.Data.seq #[]) #[]) :: ((nat_lit 233), PySem.Obj.mk (PySem.Value.type "code") Option.none (PySem.Data.fields #[PySem.Value.str (PySem.Str.ofString "__init__") 600, PySem.Value.str (PySem.Str.ofString "Whitespace.__init__") 601, PySem.Value.str (PySem.Str.ofString "/claim/cut.py") 602, PySem.Value.int 119 0, PySem.Value.int 2 0, PySem.Value.int 0 0, PySem.Value.int 0 0, PySem.Value.int 3 0, PySem.Value.ref 228, PySem.Value.bool Bool.true, PySem.Value.int 276 0, PySem.Value.ref 229, PySem.Value.none, PySem.Value.ref 230, PySem.Value.ref 231, PySem.Value.ref 232, PySem.Value.int 612 0, PySem.Value.int 119 0, PySem.Value.str (PySem.Str.ofString "/claim/cut.py") 613]) #[]) :: ((nat_lit 234), PySem.Obj.mk (PySem.Value.type "function") Option.none (PySem.Data.func (PySem.FuncData.mk (PySem.Str.ofString "__init__") (PySem.Str.ofString "Whitespace.__init__") (litOf (y := fArgs (clsAt 11 1)) (by dsimp only [fBody, fArgs, fScope, clsAt, topAt, PySem.Challenge.pw_pg0317_01, List.getD, List.getElem?_cons_succ, List.getElem?_cons_zero, Option.getD_some])) (PySem.FuncBody.stmts (litOf (y := fBody (clsAt 11 1)) (by dsimp only [fBody, fArgs, fScope, clsAt, topAt, PySem.Challenge.pw_pg0317_01, List.getD, List.getElem?_cons_succ, List.getElem?_cons_zero, Option.getD_some]))) (litOf (y := fScope (clsAt 11 1)) (by dsimp only [fBody, fArgs, fScope, clsAt, topAt, PySem.Challenge.pw_pg0317_01, List.getD, List.getElem?_cons_succ, List.getElem?_cons_zero, Option.getD_some])) 3 [] PySem.Value.none PySem.Value.none PySem.Value.none (PySem.Value.str (PySem.Str.ofString "cpy313.tabnanny") 581) Option.none (PySem.Value.ref 233) PySem.Value.none 0)) #[]) :: ((nat_lit 235), PySem.Obj.mk (PySem.Value.type "tuple") Option.none (PySem.Data.seq #[]) #[]) :: ((nat_lit 237), PySem.Obj.mk (PySem.Value.type "tuple") Option.none (PySem.Data.seq #[PySem.Value.str (PySem.Str.ofString "self") 618]) #[]) :: ((nat_lit 238), PySem.Obj.mk (PySem.Value.type "tuple") Option.none (PySem.Data.seq #[]) #[]) :: ((nat_lit 240), PySem.Obj.mk (PySem.Value.type "code") Option.none (PySem.Data.fields #[PySem.Value.str (PySem.Str.ofString "longest_run_of_spaces") 615, PySem.Value.str (PySem.Str.ofString "Whitespace.longest_run_of_spaces") 616, PySem.Value.str (PySem.Str.ofString "/claim/cut.py") 617, PySem.Value.int 142 0, PySem.Value.int 1 0, PySem.Value.int 0 0, PySem.Value.int 0 0, PySem.Value.int 3 0, PySem.Value.ref 235, PySem.Value.bool Bool.true, PySem.Value.int 276 0, PySem.Value.ref 236, PySem.Value.none, PySem.Value.ref 237, PySem.Value.ref 238, PySem.Value.ref 239, PySem.Value.int 619 0, PySem.Value.int 142 0, PySem.Value.str (PySem.Str.ofString "/claim/cut.py") 620]) #[]) :: ((nat_lit 241), PySem.Obj.mk (PySem.Value.type "function") Option.none (PySem.Data.func (PySem.FuncData.mk (PySem.Str.ofString "longest_run_of_spaces") (PySem.Str.ofString "Whitespace.longest_run_of_spaces") (litOf (y := fArgs (clsAt 11 2)) (by dsimp only [fBody, fArgs, fScope, clsAt, topAt, PySem.Challenge.pw_pg0317_01, List.getD, List.getElem?_cons_succ, List.getElem?_cons_zero, Option.getD_some])) (PySem.FuncBody.stmts (litOf (y := fBody (clsAt 11 2)) (by dsimp only [fBody, fArgs, fScope, clsAt, topAt, PySem.Challenge.pw_pg0317_01, List.getD, List.getElem?_cons_succ, List.getElem?_cons_zero, Option.getD_some]))) (litOf (y := fScope (clsAt 11 2)) (by dsimp only [fBody, fArgs, fScope, clsAt, topAt, PySem.Challenge.pw_pg0317_01, List.getD, List.getElem?_cons_succ, List.getElem?_cons_zero, Option.getD_some])) 3 [] PySem.Value.none PySem.Value.none PySem.Value.none (PySem.Value.str (PySem.Str.ofString "cpy313.tabnanny") 581) Option.none (PySem.Value.ref 240) PySem.Value.none 0)) #[]) :: ((nat_lit 242), PySem.Obj.mk (PySem.Value.type "tuple") Option.none (PySem.Data.seq #[]) #[]) :: ((nat_lit 244), PySem.Obj.mk (PySem.Value.type "tuple") Option.none (PySem.Data.seq #[PySem.Value.str (PySem.Str.ofString "self") 625, PySem.Value.str (PySem.Str.ofString "tabsize") 626]) #[]) :: ((nat_lit 245), PySem.Obj.mk (PySem.Value.type "tuple") Option.none (PySem.Data.seq #[]) #[]) :: ((nat_lit 247), PySem.Obj.mk (PySem.Value.type "code") Option.none (PySem.Data.fields #[PySem.Value.str (PySem.Str.ofString "indent_level") 622, PySem.Value.str (PySem.Str.ofString "Whitespace.indent_level") 623, PySem.Value.str (PySem.Str.ofString "/claim/cut.py") 624, PySem.Value.int 145 0, PySem.Value.int 2 0, PySem.Value.int 0 0, PySem.Value.int 0 0, PySem.Value.int 3 0, PySem.Value.ref 242, PySem.Value.bool Bool.true, PySem.Value.int 276 0, PySem.Value.ref 243, PySem.Value.none, PySem.Value.ref 244, PySem.Value.ref 245, PySem.Value.ref 246, PySem.Value.int 627 0, PySem.Value.int 145 0, PySem.Value.str (PySem.Str.ofString "/claim/cut.py") 628]) #[]) :: ((nat_lit 248), PySem.Obj.mk (PySem.Value.type "function") Option.none (PySem.Data.func (PySem.FuncData.mk (PySem.Str.ofString "indent_level") (PySem.Str.ofString "Whitespace.indent_level") (litOf (y := fArgs (clsAt 11 3)) (by dsimp only [fBody, fArgs, fScope, clsAt, topAt, PySem.Challenge.pw_pg0317_01, List.getD, List.getElem?_cons_succ, List.getElem?_cons_zero, Option.getD_some])) (PySem.FuncBody.stmts (litOf (y := fBody (clsAt 11 3)) (by dsimp only [fBody, fArgs, fScope, clsAt, topAt, PySem.Challenge.pw_pg0317_01, List.getD, List.getElem?_cons_succ, List.getElem?_cons_zero, Option.getD_some]))) (litOf (y := fScope (clsAt 11 3)) (by dsimp only [fBody, fArgs, fScope, clsAt, topAt, PySem.Challenge.pw_pg0317_01, List.getD, List.getElem?_cons_succ, List.getElem?_cons_zero, Option.getD_some])) 3 [] PySem.Value.none PySem.Value.none PySem.Value.none (PySem.Value.str (PySem.Str.ofString "cpy313.tabnanny") 581) Option.none (PySem.Value.ref 247) PySem.Value.none 0)) #[]) :: ((nat_lit 249), PySem.Obj.mk (PySem.Value.type "tuple") Option.none (PySem.Data.seq #[]) #[]) :: ((nat_lit 251), PySem.Obj.mk (PySem.Value.type "tuple") Option.none (PySem.Data.seq #[PySem.Value.str (PySem.Str.ofString "self") 633, PySem.Value.str (PySem.Str.ofString "other") 634]) #[]) :: ((nat_lit 252), PySem.Obj.mk (PySem.Value.type "tuple") Option.none (PySem.Data.seq #[]) #[]) :: ((nat_lit 254), PySem.Obj.mk (PySem.Value.type "code") Option.none (PySem.Data.fields #[PySem.Value.str (PySem.Str.ofString "equal") 630, PySem.Value.str (PySem.Str.ofString "Whitespace.equal") 631, PySem.Value.str (PySem.Str.ofString "/claim/cut.py") 632, PySem.Value.int 148 0, PySem.Value.int 2 0, PySem.Value.int 0 0, PySem.Value.int 0 0, PySem.Value.int 3 0, PySem.Value.ref 249, PySem.Value.bool Bool.true, PySem.Value.int 276 0, PySem.Value.ref 250, PySem.Value.none, PySem.Value.ref 251, PySem.Value.ref 252, PySem.Value.ref 253, PySem.Value.int 635 0, PySem.Value.int 148 0, PySem.Value.str (PySem.Str.ofString "/claim/cut.py") 636]) #[]) :: ((nat_lit 255), PySem.Obj.mk (PySem.Value.type "function") Option.none (PySem.Data.func (PySem.FuncData.mk (PySem.Str.ofString "equal") (PySem.Str.ofString "Whitespace.equal") (litOf (y := fArgs (clsAt 11 4)) (by dsimp only [fBody, fArgs, fScope, clsAt, topAt, PySem.Challenge.pw_pg0317_01, List.getD, List.getElem?_cons_succ, List.getElem?_cons_zero, Option.getD_some])) (PySem.FuncBody.stmts (litOf (y := fBody (clsAt 11 4)) (by dsimp only [fBody, fArgs, fScope, clsAt, topAt, PySem.Challenge.pw_pg0317_01, List.getD, List.getElem?_cons_succ, List.getElem?_cons_zero, Option.getD_some]))) (litOf (y := fScope (clsAt 11 4)) (by dsimp only [fBody, fArgs, fScope, clsAt, topAt, PySem.Challenge.pw_pg0317_01, List.getD, List.getElem?_cons_succ, List.getElem?_cons_zero, Option.getD_some])) 3 [] PySem.Value.none PySem.Value.none PySem.Value.none (PySem.Value.str (PySem.Str.ofString "cpy313.tabnanny") 581) Option.none (PySem.Value.ref 254) PySem.Value.none 0)) #[]) :: ((nat_lit 256), PySem.Obj.mk (PySem.Value.type "tuple") Option.none (PySem.Data.seq #[]) #[]) :: ((nat_lit 258), PySem.Obj.mk (PySem.Value.type "tuple") Option.none (PySem.Data.seq #[PySem.Value.str (PySem.Str.ofString "self") 641, PySem.Value.str (PySem.Str.ofString "other") 642]) #[]) :: ((nat_lit 259), PySem.Obj.mk (PySem.Value.type "tuple") Option.none (PySem.Data.seq #[]) #[]) :: ((nat_lit 261), PySem.Obj.mk (PySem.Value.type "code") Option.none (PySem.Data.fields #[PySem.Value.str (PySem.Str.ofString "not_equal_witness") 638, PySem.Value.str (PySem.Str.ofString "Whitespace.not_equal_witness") 639, PySem.Value.str (PySem.Str.ofString "/claim/cut.py") 640, PySem.Value.int 151 0, PySem.Value.int 2 0, PySem.Value.int 0 0, PySem.Value.int 0 0, PySem.Value.int 3 0, PySem.Value.ref 256, PySem.Value.bool Bool.true, PySem.Value.int 276 0, PySem.Value.ref 257, PySem.Value.none, PySem.Value.ref 258, PySem.Value.ref 259, PySem.Value.ref 260, PySem.Value.int 643 0, PySem.Value.int 151 0, PySem.Value.str (PySem.Str.ofString "/claim/cut.py") 644]) #[]) :: ((nat_lit 262), PySem.Obj.mk (PySem.Value.type "function") Option.none (PySem.Data.func (PySem.FuncData.mk (PySem.Str.ofString "not_equal_witness") (PySem.Str.ofString "Whitespace.not_equal_witness") (litOf (y := fArgs (clsAt 11 5)) (by dsimp only [fBody, fArgs, fScope, clsAt, topAt, PySem.Challenge.pw_pg0317_01, List.getD, List.getElem?_cons_succ, List.getElem?_cons_zero, Option.getD_some])) (PySem.FuncBody.stmts (litOf (y := fBody (clsAt 11 5)) (by dsimp only [fBody, fArgs, fScope, clsAt, topAt, PySem.Challenge.pw_pg0317_01, List.getD, List.getElem?_cons_succ, List.getElem?_cons_zero, Option.getD_some]))) (litOf (y := fScope (clsAt 11 4)) (by dsimp only [fBody, fArgs, fScope, clsAt, topAt, PySem.Challenge.pw_pg0317_01, List.getD, List.getElem?_cons_succ, List.getElem?_cons_zero, Option.getD_some])) 3 [] PySem.Value.none PySem.Value.none PySem.Value.none (PySem.Value.str (PySem.Str.ofString "cpy313.tabnanny") 581) Option.none (PySem.Value.ref 261) PySem.Value.none 0)) #[]) :: ((nat_lit 263), PySem.Obj.mk (PySem.Value.type "tuple") Option.none (PySem.Data.seq #[]) #[]) :: ((nat_lit 265), PySem.Obj.mk (PySem.Value.type "tuple") Option.none (PySem.Data.seq #[PySem.Value.str (PySem.Str.ofString "self") 649, PySem.Value.str (PySem.Str.ofString "other") 650]) #[]) :: ((nat_lit 266), PySem.Obj.mk (PySem.Value.type "tuple") Option.none (PySem.Data.seq #[]) #[]) :: ((nat_lit 268), PySem.Obj.mk (PySem.Value.type "code") Option.none (PySem.Data.fields #[PySem.Value.str (PySem.Str.ofString "less") 646, PySem.Value.str (PySem.Str.ofString "Whitespace.less") 647, PySem.Value.str (PySem.Str.ofString "/claim/cut.py") 648, PySem.Value.int 154 0, PySem.Value.int 2 0, PySem.Value.int 0 0, PySem.Value.int 0 0, PySem.Value.int 3 0, PySem.Value.ref 263, PySem.Value.bool Bool.true, PySem.Value.int 276 0, PySem.Value.ref 264, PySem.Value.none, PySem.Value.ref 265, PySem.Value.ref 266, PySem.Value.ref 267, PySem.Value.int 651 0, PySem.Value.int 154 0, PySem.Value.str (PySem.Str.ofString "/claim/cut.py") 652]) #[]) :: ((nat_lit 269), PySem.Obj.mk (PySem.Value.type "function") Option.none (PySem.Data.func (PySem.FuncData.mk (PySem.Str.ofString "less") (PySem.Str.ofString "Whitespace.less") (litOf (y := fArgs (clsAt 11 6)) (by dsimp only [fBody, fArgs, fScope, clsAt, topAt, PySem.Challenge.pw_pg0317_01, List.getD, List.getElem?_cons_succ, List.getElem?_cons_zero, Option.getD_some])) (PySem.FuncBody.stmts (litOf (y := fBody (clsAt 11 6)) (by dsimp only [fBody, fArgs, fScope, clsAt, topAt, PySem.Challenge.pw_pg0317_01, List.getD, List.getElem?_cons_succ, List.getElem?_cons_zero, Option.getD_some]))) (litOf (y := fScope (clsAt 11 4)) (by dsimp only [fBody, fArgs, fScope, clsAt, topAt, PySem.Challenge.pw_pg0317_01, List.getD, List.getElem?_cons_succ, List.getElem?_cons_zero, Option.getD_some])) 3 [] PySem.Value.none PySem.Value.none PySem.Value.none (PySem.Value.str (PySem.Str.ofString "cpy313.tabnanny") 581) Option.none (PySem.Value.ref 268) PySem.Value.none 0)) #[]) :: ((nat_lit 270), PySem.Obj.mk (PySem.Value.type "tuple") Option.none (PySem.Data.seq #[]) #[]) :: ((nat_lit 272), PySem.Obj.mk (PySem.Value.type "tuple") Option.none (PySem.Data.seq #[PySem.Value.str (PySem.Str.ofString "self") 657, PySem.Value.str (PySem.Str.ofString "other") 658]) #[]) :: ((nat_lit 273), PySem.Obj.mk (PySem.Value.type "tuple") Option.none (PySem.Data.seq #[]) #[]) :: ((nat_lit 275), PySem.Obj.mk (PySem.Value.type "code") Option.none (PySem.Data.fields #[PySem.Value.str (PySem.Str.ofString "not_less_witness") 654, PySem.Value.str (PySem.Str.ofString "Whitespace.not_less_witness") 655, PySem.Value.str (PySem.Str.ofString "/claim/cut.py") 656, PySem.Value.int 157 0, PySem.Value.int 2 0, PySem.Value.int 0 0, PySem.Value.int 0 0, PySem.Value.int 3 0, PySem.Value.ref 270, PySem.Value.bool Bool.true, PySem.Value.int 276 0, PySem.Value.ref 271, PySem.Value.none, PySem.Value.ref 272, PySem.Value.ref 273, PySem.Value.ref 274, PySem.Value.int 659 0, PySem.Value.int 157 0, PySem.Value.str (PySem.Str.ofString "/claim/cut.py") 660]) #[]) :: ((nat_lit 276), PySem.Obj.mk (PySem.Value.type "function") Option.none (PySem.Data.func (PySem.FuncData.mk (PySem.Str.ofString "not_less_witness") (PySem.Str.ofString "Whitespace.not_less_witness") (litOf (y := fArgs (clsAt 11 7)) (by dsimp only [fBody, fArgs, fScope, clsAt, topAt, PySem.Challenge.pw_pg0317_01, List.getD, List.getElem?_cons_succ, List.getElem?_cons_zero, Option.getD_some])) (PySem.FuncBody.stmts (litOf (y := fBody (clsAt 11 7)) (by dsimp only [fBody, fArgs, fScope, clsAt, topAt, PySem.Challenge.pw_pg0317_01, List.getD, List.getElem?_cons_succ, List.getElem?_cons_zero, Option.getD_some]))) (litOf (y := fScope (clsAt 11 4)) (by dsimp only [fBody, fArgs, fScope, clsAt, topAt, PySem.Challenge.pw_pg0317_01, List.getD, List.getElem?_cons_succ, List.getElem?_cons_zero, Option.getD_some])) 3 [] PySem.Value.none PySem.Value.none PySem.Value.none (PySem.Value.str (PySem.Str.ofString "cpy313.tabnanny") 581) Option.none (PySem.Value.ref 275) PySem.Value.none 0)) #[]) :: ((nat_lit 277), PySem.Obj.mk (PySem.Value.type "tuple") Option.none (PySem.Data.seq #[PySem.Value.str (PySem.Str.ofString "is_simple") 662, PySem.Value.str (PySem.Str.ofString "n") 663, PySem.Value.str (PySem.Str.ofString "norm") 664, PySem.Value.str (PySem.Str.ofString "nt") 665, PySem.Value.str (PySem.Str.ofString "raw") 666]) #[]) :: ((nat_lit 278), PySem.Obj.mk (PySem.Value.type "dict") Option.none (PySem.Data.dict #[PySem.DictEntry.mk (PySem.PyData.keyHash P (PySem.Str.ofString "__module__")) (PySem.Value.str (PySem.Str.ofString "__module__") 590) (PySem.Value.str (PySem.Str.ofString "cpy313.tabnanny") 581), PySem.DictEntry.mk (PySem.PyData.keyHash P (PySem.Str.ofString "__firstlineno__")) (PySem.Value.str (PySem.Str.ofString "__firstlineno__") 594) (PySem.Value.int 116 593), PySem.DictEntry.mk (PySem.PyData.keyHash P (PySem.Str.ofString "S")) (PySem.Value.str (PySem.Str.ofString "S") 598) (PySem.Value.str (PySem.Str.ofString " ") 596), PySem.DictEntry.mk (PySem.PyData.keyHash P (PySem.Str.ofString "T")) (PySem.Value.str (PySem.Str.ofString "T") 599) (PySem.Value.str (PySem.Str.ofString "\t") 597), PySem.DictEntry.mk (PySem.PyData.keyHash P (PySem.Str.ofString "__init__")) (PySem.Value.str (PySem.Str.ofString "__init__") 614) (PySem.Value.ref 234), PySem.DictEntry.mk (PySem.PyData.keyHash P (PySem.Str.ofString "longest_run_of_spaces")) (PySem.Value.str (PySem.Str.ofString "longest_run_of_spaces") 621) (PySem.Value.ref 241), PySem.DictEntry.mk (PySem.PyData.keyHash P (PySem.Str.ofString "indent_level")) (PySem.Value.str (PySem.Str.ofString "indent_level") 629) (PySem.Value.ref 248), PySem.DictEntry.mk (PySem.PyData.keyHash P (PySem.Str.ofString "equal")) (PySem.Value.str (PySem.Str.ofString "equal") 637) (PySem.Value.ref 255), PySem.DictEntry.mk (PySem.PyData.keyHash P (PySem.Str.ofString "not_equal_witness")) (PySem.Value.str (PySem.Str.ofString "not_equal_witness") 645) (PySem.Value.ref 262), PySem.DictEntry.mk (PySem.PyData.keyHash P (PySem.Str.ofString "less")) (PySem.Value.str (PySem.Str.ofString "less") 653) (PySem.Value.ref 269), PySem.DictEntry.mk (PySem.PyData.keyHash P (PySem.Str.ofString "not_less_witness")) (PySem.Value.str (PySem.Str.ofString "not_less_witness") 661) (PySem.Value.ref 276), PySem.DictEntry.mk (PySem.PyData.keyHash P (PySem.Str.ofString "__static_attributes__")) (PySem.Value.str (PySem.Str.ofString "__static_attributes__") 667) (PySem.Value.ref 277), PySem.DictEntry.mk (PySem.PyData.keyHash P (PySem.Str.ofString "__dict__")) (PySem.Value.str (PySem.Str.ofString "__dict__") 669) (PySem.Value.ref 280), PySem.DictEntry.mk (PySem.PyData.keyHash P (PySem.Str.ofString "__weakref__")) (PySem.Value.str (PySem.Str.ofString "__weakref__") 671) (PySem.Value.ref 281), PySem.DictEntry.mk (PySem.PyData.keyHash P (PySem.Str.ofString "__doc__")) (PySem.Value.str (PySem.Str.ofString "__doc__") 672) PySem.Value.none] 4) #[]) :: ((nat_lit 279), PySem.Obj.mk (PySem.Value.type "type") Option.none (PySem.Data.cls (PySem.ClassData.mk (PySem.Str.ofString "Whitespace") [PySem.Value.type "object"] [PySem.Value.ref 279, PySem.Value.type "object"] 278 (PySem.Str.ofString "Whitespace") Bool.true [] [] Bool.false Option.none Bool.false)) #[Option.none, Option.none, Option.some (PySem.Value.str (PySem.Str.ofString "Whitespace") 583), Option.some (PySem.Value.str (PySem.Str.ofString "Whitespace") 591), Option.some (PySem.Value.builtin "object.__new__"), Option.some (PySem.Value.bool Bool.true)]) :: ((nat_lit 280), PySem.Obj.mk (PySem.Value.type "getset_descriptor") Option.none (PySem.Data.fields #[PySem.Value.str (PySem.Str.ofString "__dict__") 668, PySem.Value.ref 279, PySem.Value.builtin "function.__dict__", PySem.Value.builtin "function.__dict__#set"]) #[]) :: ((nat_lit 281), PySem.Obj.mk (PySem.Value.type "getset_descriptor") Option.none (PySem.Data.fields #[PySem.Value.str (PySem.Str.ofString "__weakref__") 670, PySem.Value.ref 279, PySem.Value.builtin "ExceptionGroup.__weakref__", PySem.Value.none]) #[]) :: ((nat_lit 284), PySem.Obj.mk (PySem.Value.type "tuple") Option.none (PySem.Data.seq #[]) #[]) :: ((nat_lit 286), PySem.Obj.mk (PySem.Value.type "tuple") Option.none (PySem.Data.seq #[PySem.Value.str (PySem.Str.ofString "ring") 680, PySem.Value.str (PySem.Str.ofString "total") 681, PySem.Value.str (PySem.Str.ofString "heights") 682, PySem.Value.str (PySem.Str.ofString "name") 683, PySem.Value.str (PySem.Str.ofString "value") 684, PySem.Value.str (PySem.Str.ofString "lead") 685]) #[]) :: ((nat_lit 287), PySem.Obj.mk (PySem.Value.type "tuple") Option.none (PySem.Data.seq #[]) #[]) :: ((nat_lit 289), PySem.Obj.mk (PySem.Value.type "code") Option.none (PySem.Data.fields #[PySem.Value.str (PySem.Str.ofString "_law_heights") 677, PySem.Value.str (PySem.Str.ofString "_law_heights") 678, PySem.Value.str (PySem.Str.ofString "/claim/cut.py") 679, PySem.Value.int 160 0, PySem.Value.int 1 0, PySem.Value.int 0 0, PySem.Value.int 0 0, PySem.Value.int 3 0, PySem.Value.ref 284, PySem.Value.bool Bool.true, PySem.Value.int 276 0, PySem.Value.ref 285, PySem.Value.none, PySem.Value.ref 286, PySem.Value.ref 287, PySem.Value.ref 288, PySem.Value.int 686 0, PySem.Value.int 160 0, PySem.Value.str (PySem.Str.ofString "/claim/cut.py") 687]) #[]) :: ((nat_lit 290), PySem.Obj.mk (PySem.Value.type "function") Option.none (PySem.Data.func (PySem.FuncData.mk (PySem.Str.ofString "_law_heights") (PySem.Str.ofString "_law_heights") (litOf (y := fArgs (topAt 13)) (by dsimp only [fBody, fArgs, fScope, clsAt, topAt, PySem.Challenge.pw_pg0317_01, List.getD, List.getElem?_cons_succ, List.getElem?_cons_zero, Option.getD_some])) (PySem.FuncBody.stmts (litOf (y := fBody (topAt 13)) (by dsimp only [fBody, fArgs, fScope, clsAt, topAt, PySem.Challenge.pw_pg0317_01, List.getD, List.getElem?_cons_succ, List.getElem?_cons_zero, Option.getD_some]))) (litOf (y := fScope (topAt 13)) (by dsimp only [fBody, fArgs, fScope, clsAt, topAt, PySem.Challenge.pw_pg0317_01, List.getD, List.getElem?_cons_succ, List.getElem?_cons_zero, Option.getD_some])) 3 [] PySem.Value.none PySem.Value.none PySem.Value.none (PySem.Value.str (PySem.Str.ofString "law_pg0317_01") 675) Option.none (PySem.Value.ref 289) PySem.Value.none 0)) #[]) :: ((nat_lit 291), PySem.Obj.mk (PySem.Value.type "tuple") Option.none (PySem.Data.seq #[]) #[]) :: ((nat_lit 294), PySem.Obj.mk (PySem.Value.type "code") Option.none (PySem.Data.fields #[PySem.Value.str (PySem.Str.ofString "law") 689, PySem.Value.str (PySem.Str.ofString "law") 690, PySem.Value.str (PySem.Str.ofString "/claim/cut.py") 691, PySem.Value.int 168 0, PySem.Value.int 1 0, PySem.Value.int 0 0, PySem.Value.int 0 0, PySem.Value.int 3 0, PySem.Value.ref 291, PySem.Value.bool Bool.true, PySem.Value.int 276 0, PySem.Value.ref 292, PySem.Value.none, PySem.Value.none, PySem.Value.none, PySem.Value.ref 293, PySem.Value.int 692 0, PySem.Value.int 168 0, PySem.Value.str (PySem.Str.ofString "/claim/cut.py") 693]) #[]) :: ((nat_lit 295), PySem.Obj.mk (PySem.Value.type "function") Option.none (PySem.Data.func (PySem.FuncData.mk (PySem.Str.ofString "law") (PySem.Str.ofString "law") (litOf (y := fArgs (topAt 14)) (by dsimp only [fBody, fArgs, fScope, clsAt, topAt, PySem.Challenge.pw_pg0317_01, List.getD, List.getElem?_cons_succ, List.getElem?_cons_zero, Option.getD_some])) (PySem.FuncBody.stmts (litOf (y := fBody (topAt 14)) (by dsimp only [fBody, fArgs, fScope, clsAt, topAt, PySem.Challenge.pw_pg0317_01, List.getD, List.getElem?_cons_succ, List.getElem?_cons_zero, Option.getD_some]))) (litOf (y := fScope (topAt 14)) (by dsimp only [fBody, fArgs, fScope, clsAt, topAt, PySem.Challenge.pw_pg0317_01, List.getD, List.getElem?_cons_succ, List.getElem?_cons_zero, Option.getD_some])) 3 [] PySem.Value.none PySem.Value.none PySem.Value.none (PySem.Value.str (PySem.Str.ofString "law_pg0317_01") 675) Option.none (PySem.Value.ref 294) PySem.Value.none 0)) #[]) :: [])
noncomputable def asD : List Nat := [2, 3, 32, 34, 35, 37, 38, 42, 43, 47, 48, 56, 57, 59, 60, 62, 63, 64, 66, 67, 69, 70, 71, 73, 74, 76, 77, 78, 80, 81, 83, 84, 85, 88, 89, 90, 92, 93, 95, 96, 97, 99, 100, 102, 103, 104, 106, 107, 109, 110, 111, 112, 114, 115, 117, 118, 119, 122, 123, 124, 127, 128, 129, 131, 132, 134, 135, 136, 138, 139, 141, 142, 143, 146, 147, 148, 150, 151, 153, 154, 155, 157, 158, 160, 161, 162, 164, 165, 167, 168, 169, 170, 171, 172, 173, 183, 185, 186, 188, 189, 190, 192, 193, 195, 196, 197, 198, 199, 200, 201, 204, 206, 207, 209, 210, 211, 213, 214, 216, 217, 228, 230, 231, 233, 234, 235, 237, 238, 240, 241, 242, 244, 245, 247, 248, 249, 251, 252, 254, 255, 256, 258, 259, 261, 262, 263, 265, 266, 268, 269, 270, 272, 273, 275, 276, 277, 278, 279, 280, 281, 284, 286, 287, 289, 290, 291, 294, 295]

-- part HL
set_option maxHeartbeats 8000000
noncomputable abbrev rowR : RowW := OpenRow.toRowW (OpenLaw.row PySem.Challenge.rw_pg0317_01)
theorem said9 : PySem.W.Fast.tw9446332074065402090 PySem.Challenge.rw_pg0317_01 = true := by kernel_rfl
theorem lawO (h : (OpenLaw.row PySem.Challenge.rw_pg0317_01).wellSaid = true → (OpenLaw.row PySem.Challenge.rw_pg0317_01).Holds) : PySem.Challenge.rw_pg0317_01.Holds :=
  holds_law (l := PySem.Challenge.rw_pg0317_01) ((congrFun PySem.W.Fast.te9446332074065402090 PySem.Challenge.rw_pg0317_01).trans said9) h
noncomputable def viewOf (P : Program) : Program := { P with main := { P.main with body := [0, 1, 3, 4, 5, 7, 8, 9, 11, 13, 14].map fun i => P.main.body.getD i (.Pass default) } }
theorem viewD_eq : viewD = viewOf PySem.Challenge.pw_pg0317_01 := by kernel_rfl
theorem asD_eq : ∀ P, asD = (heapD P).map (·.1) := fun _ => by kernel_rfl
noncomputable abbrev looseD : List Str := [Str.ofString "_name_disallowed_re", Str.ofString "_value_disallowed_re", Str.ofString "Whitespace"]
noncomputable def buildT (l : List Obj) : BT → Nat → Option (BT × Nat) :=
  @List.rec Obj (fun _ => BT → Nat → Option (BT × Nat)) (fun t n => some (t, n)) (fun o _ ih t n => match ((t.ins n o).get n).isSome with
    | true => ih (t.ins n o) (n + 1)
    | false => none) l
theorem buildT_abs (life : Life) : ∀ (l : List Obj) (t : BT) (n : Nat) (t' : BT) (n' : Nat), buildT l t n = some (t', n') → absHeap t' n' life = ⟨(absHeap t n life).objs ++ l.toArray, life⟩
  | [], t, n, t', n', h => by cases h; simp [absHeap]
  | o :: l, t, n, t', n', h => by
    have h' : (match ((t.ins n o).get n).isSome with
      | true => buildT l (t.ins n o) (n + 1)
      | false => none) = some (t', n') := h
    cases e : ((t.ins n o).get n).isSome with
    | false => rw [e] at h'; cases h'
    | true =>
      rw [e] at h'
      rw [buildT_abs life l _ _ _ _ h', absHeap_ins e]
      simp [Heap.push]
noncomputable def liftS (s : Shared) : Option SharedT := match buildT s.heap.objs.toList .nil 0 with
  | some (t, n) => some ⟨t, n, s.heap.life, s.gens, s.drawn, s.toks, s.os⟩
  | none => none
theorem liftS_abs {s : Shared} {T : SharedT} (h : liftS s = some T) : T.abs = s := by
  obtain ⟨⟨objs, life⟩, gens, drawn, toks, os⟩ := s
  unfold liftS at h
  cases e : buildT objs.toList .nil 0 with
  | none => dsimp only at h; rw [e] at h; cases h
  | some r =>
    obtain ⟨t, n⟩ := r
    dsimp only at h
    rw [e] at h
    cases h
    have := buildT_abs life _ _ _ _ _ e
    show Shared.mk (absHeap t n life) gens drawn toks os = _
    rw [this]
    simp [absHeap, BT.list]
noncomputable def stepQ (p : Program) (w : World) : SharedT → Thread → Option (SharedT × Thread) := PySem.W.Fast.tw10156331382660048174 (PySem.W.Fast.tw11892475500146522536 PySem.W.Fast.tw14364793385576792824) p w
theorem stepQ_eq : stepT (denote treeTable) = stepQ := by
  rw [PySem.W.Fast.te10156331382660048174, PySem.W.Fast.te11892475500146522536, PySem.W.Fast.te14364793385576792824]
  rfl
noncomputable def topRunT (p : Program) (w : World) (n₀ : Nat) (ann : Option Value) (n : Nat) : SharedT → Thread → Option SharedT :=
  @Nat.rec (fun _ => SharedT → Thread → Option SharedT) (fun _ _ => none) (fun _ ih s t => match through t with
    | true => some s
    | false => match PySem.W.Fast.tw6613529449190102663 n₀ ann t with
      | false => none
      | true => match stepQ p w s t with
        | some (s', t') => ih s' t'
        | none => none) n
theorem topRunT_spec {p : Program} {w : World} {n₀ : Nat} {ann : Option Value} : ∀ {n : Nat} {s r : SharedT} {t : Thread}, topRunT p w n₀ ann n s t = some r → topRun treeTable p w n₀ ann n s.abs t = some r.abs
  | 0, _, _, _, h => by cases h
  | n + 1, s, r, t, h => by
    have h' : (match through t with
      | true => some s
      | false => match PySem.W.Fast.tw6613529449190102663 n₀ ann t with
        | false => none
        | true => match stepQ p w s t with
          | some (s', t') => topRunT p w n₀ ann n s' t'
          | none => none) = some r := h
    unfold topRun
    cases ht : through t with
    | true => rw [ht] at h'; cases h'; rfl
    | false =>
      rw [ht, ← PySem.W.Fast.te6613529449190102663] at h'
      cases hk : stepOk n₀ ann t with
      | false => rw [hk] at h'; cases h'
      | true =>
        rw [hk, ← stepQ_eq] at h'
        cases hs : stepT (denote treeTable) p w s t with
        | none => rw [hs] at h'; cases h'
        | some x => obtain ⟨s₂, t₂⟩ := x; rw [hs] at h'; dsimp only; rw [stepT_spec hs]; exact topRunT_spec h'
noncomputable def impRunT (p : Program) (w : World) (n : Nat) : SharedT → Thread → Option SharedT :=
  @Nat.rec (fun _ => SharedT → Thread → Option SharedT) (fun _ _ => none) (fun _ ih s t => match PySem.W.Fast.tw3805553451399329143 t with
    | some [] => some s
    | some (_ :: _) => none
    | none => match stepQ p w s t with
      | some (s', t') => ih s' t'
      | none => none) n
theorem impRunT_spec {p : Program} {w : World} : ∀ {n : Nat} {s r : SharedT} {t : Thread}, impRunT p w n s t = some r → importEnds treeTable p w n s.abs t = some r.abs
  | 0, _, _, _, h => by cases h
  | n + 1, s, r, t, h => by
    have h' : (match PySem.W.Fast.tw3805553451399329143 t with
      | some [] => some s
      | some (_ :: _) => none
      | none => match stepQ p w s t with
        | some (s', t') => impRunT p w n s' t'
        | none => none) = some r := h
    unfold importEnds
    rw [← PySem.W.Fast.te3805553451399329143] at h'
    cases ht : t.atExitBegin with
    | some l => cases l with
      | nil => rw [ht] at h'; cases h'; rfl
      | cons => rw [ht] at h'; cases h'
    | none =>
      rw [ht, ← stepQ_eq] at h'
      cases hs : stepT (denote treeTable) p w s t with
      | none => rw [hs] at h'; cases h'
      | some x => obtain ⟨s₂, t₂⟩ := x; rw [hs] at h'; dsimp only; rw [stepT_spec hs]; exact impRunT_spec h'
noncomputable def openT (p : Program) (w : World) (N : Nat) : Option Shared :=
  match liftS (PySem.W.Fast.tw1435165496053646825 (opening p)).1 with
  | none => none
  | some a => match impRunT (opening p) w N a (PySem.W.Fast.tw1435165496053646825 (opening p)).2 with
    | none => none
    | some b => PySem.W.Fast.tw14289696077712309145 p b.abs
theorem openT_spec {p : Program} {w : World} {N : Nat} {s : Shared} (h : openT p w N = some s) : fencedOpening treeTable p w N = some s := by
  unfold openT at h
  rw [← PySem.W.Fast.te1435165496053646825, ← PySem.W.Fast.te14289696077712309145] at h
  unfold fencedOpening
  cases e : liftS (start (opening p)).1 with
  | none => rw [e] at h; cases h
  | some a =>
    rw [e] at h
    dsimp only at h
    cases e2 : impRunT (opening p) w N a (start (opening p)).2 with
    | none => rw [e2] at h; cases h
    | some b =>
      rw [e2] at h
      have := impRunT_spec e2
      rw [liftS_abs e] at this
      rw [this]
      exact h
noncomputable def topT (p : Program) (w : World) (N : Nat) (s₀ : Shared) : Option Shared :=
  match s₀.heap.isNs mainGlobals && s₀.gens.size == 0 with
  | false => none
  | true => match liftS s₀ with
    | none => none
    | some c => match topRunT p w c.n (PySem.W.Fast.tw8920871248978507458 s₀.heap mainGlobals "__annotations__") N c (topStub p) with
      | none => none
      | some d => match staticsOk (PySem.W.Fast.tw5923862056798008813 p.main.body) s₀.heap d.abs.heap && namesBound p d.abs.heap && gensDone d.abs && laidKept s₀.heap d.abs.heap with
        | true => some d.abs
        | false => none
theorem topT_spec {p : Program} {w : World} {N : Nat} {s₀ s : Shared} (h : topT p w N s₀ = some s) : topFrom treeTable p w N s₀ = some s := by
  unfold topT at h
  rw [← PySem.W.Fast.te8920871248978507458, ← PySem.W.Fast.te5923862056798008813] at h
  unfold topFrom
  cases e : (s₀.heap.isNs mainGlobals && s₀.gens.size == 0) with
  | false => rw [e] at h; cases h
  | true =>
    rw [e] at h
    dsimp only at h ⊢
    cases e1 : liftS s₀ with
    | none => rw [e1] at h; cases h
    | some c =>
      rw [e1] at h
      dsimp only at h
      have ea := liftS_abs e1
      have en : s₀.heap.objs.size = c.n := by rw [← ea]; exact absHeap_size _ _ _
      cases e2 : topRunT p w c.n (s₀.heap.nsMap mainGlobals "__annotations__") N c (topStub p) with
      | none => rw [e2] at h; cases h
      | some d =>
        rw [e2] at h
        have r := topRunT_spec e2
        rw [ea] at r
        rw [en, r]
        dsimp only at h
        cases e3 : (staticsOk (importedModules p.main.body) s₀.heap d.abs.heap && namesBound p d.abs.heap && gensDone d.abs && laidKept s₀.heap d.abs.heap) with
        | false => rw [e3] at h; cases h
        | true =>
          rw [e3] at h
          show (match staticsOk (importedModules p.main.body) s₀.heap d.abs.heap && namesBound p d.abs.heap && gensDone d.abs && laidKept s₀.heap d.abs.heap with | true => some d.abs | false => none) = some s
          rw [e3]
          exact h
noncomputable abbrev seenQ (P : Program) (s : Shared) := (PySem.W.Fast.tw4187177175401517315 (viewOf P) looseD (PySem.W.Fast.tw5923862056798008813 P.main.body) (fun s => xlAt (viewOf P) [] s && recOk (RowW.records rowR) s) true s, Hook.obs (kHook heapD asD asD_eq) s)
theorem leftF (w : World) : (openT PySem.Challenge.pw_pg0317_01 w 3756).bind (fun s₀ => (topT PySem.Challenge.pw_pg0317_01 (w.withFollow "special-get-raises" false) 3756 s₀).map (seenQ PySem.Challenge.pw_pg0317_01)) =
    some (openGood (viewOf PySem.Challenge.pw_pg0317_01) looseD, Hook.val (kHook heapD asD asD_eq) (w.withFollow "special-get-raises" false)) := by
  kernel_rfl
theorem leftT (w : World) : (openT PySem.Challenge.pw_pg0317_01 w 3756).bind (fun s₀ => (topT PySem.Challenge.pw_pg0317_01 (w.withFollow "special-get-raises" true) 3756 s₀).map (seenQ PySem.Challenge.pw_pg0317_01)) =
    some (openGood (viewOf PySem.Challenge.pw_pg0317_01) looseD, Hook.val (kHook heapD asD asD_eq) (w.withFollow "special-get-raises" true)) := by
  kernel_rfl
theorem left_two {α : Type} {p : Program} {w u v : World} {N : Nat} {g : Shared → α} {x y : α} (a : (openT p w N).bind (fun s₀ => (topT p u N s₀).map g) = some x) (b : (openT p w N).bind (fun s₀ => (topT p v N s₀).map g) = some y) :
    (fencedOpening treeTable p w N).map (fun s₀ => ((topFrom treeTable p u N s₀).map g, (topFrom treeTable p v N s₀).map g)) = some (some x, some y) := by
  obtain ⟨s₀, e, a⟩ := Option.bind_eq_some_iff.mp a
  obtain ⟨s₀', e', b⟩ := Option.bind_eq_some_iff.mp b
  obtain rfl : s₀ = s₀' := Option.some.inj (e.symm.trans e')
  obtain ⟨s1, e1, a⟩ := Option.map_eq_some_iff.mp a
  obtain ⟨s2, e2, b⟩ := Option.map_eq_some_iff.mp b
  rw [openT_spec e, Option.map_some, topT_spec e1, topT_spec e2, Option.map_some, Option.map_some, a, b]
theorem leftD : LeftO rowR.prog viewD looseD (fun s => xlAt viewD [] s && recOk (RowW.records rowR) s) (Hook.obs (kHook heapD asD asD_eq)) (Hook.val (kHook heapD asD asD_eq)) 3756 := by
  refine LeftO.of_split "special-get-raises" ?_
  intro w
  have h := left_two (leftF w) (leftT w)
  show (fencedOpening treeTable PySem.Challenge.pw_pg0317_01 w 3756).map (fun s₀ =>
    ((topFrom treeTable PySem.Challenge.pw_pg0317_01 (w.withFollow "special-get-raises" false) 3756 s₀).map (fun s => (openSeen viewD looseD (importedModules PySem.Challenge.pw_pg0317_01.main.body) (fun s => xlAt viewD [] s && recOk (RowW.records rowR) s) true s, Hook.obs (kHook heapD asD asD_eq) s)),
     (topFrom treeTable PySem.Challenge.pw_pg0317_01 (w.withFollow "special-get-raises" true) 3756 s₀).map (fun s => (openSeen viewD looseD (importedModules PySem.Challenge.pw_pg0317_01.main.body) (fun s => xlAt viewD [] s && recOk (RowW.records rowR) s) true s, Hook.obs (kHook heapD asD asD_eq) s)))) = _
  rw [PySem.W.Fast.te4187177175401517315, PySem.W.Fast.te5923862056798008813, viewD_eq]
  exact h

theorem topOff : True := by
  w_top off
  trivial
-- part S1
set_option maxHeartbeats 8000000

noncomputable def nameCode : Array Nat := #[14, 10, 4, 1, 1, 22, 0, 31, 16, 127, 0, 13, 7, 22, 0, 31, 16, 127, 0, 1]
noncomputable def valCode : Array Nat := #[14, 14, 4, 1, 1, 9, 4294966783, 0, 0, 2147483648, 0, 0, 0, 0, 0, 13, 11, 9, 4294966783, 0, 0, 2147483648, 0, 0, 0, 0, 0, 1]

/-- no sign of the text is in the first set -/
noncomputable def SetFree (code text : Array Nat) : Prop := ∀ c ∈ text.toList, ∀ seen, ∃ seen', Sre.inSet code c code.size 5 true seen = .ok (false, seen')

theorem setFree_name {text : Array Nat} (h : ∀ c ∈ text.toList, 31 < c ∧ c < 127) : SetFree nameCode text := by
  intro c hc seen
  have := h c hc
  have h1 : ¬ (c ≤ 31) := by omega
  have h2 : (c == 127) = false := by simp; omega
  simp [nameCode, Sre.inSet, Sre.ops, h1, h2]

theorem setFree_val {text : Array Nat} (h : ∀ c ∈ text.toList, c = 9 ∨ (31 < c ∧ c < 127)) : SetFree valCode text := by
  intro c hc seen
  have hc := h c hc
  have key : ∀ c, c < 127 → (c = 9 ∨ 31 < c) → (decide (c < 256) && (valCode.getD (5 + (1 + c / 32)) 0).testBit (c % 32)) = false := by decide +kernel
  have k := key c (by omega) (by omega)
  have hs : valCode.size = 28 := rfl
  rw [hs]
  unfold Sre.inSet
  have e : Sre.ops[valCode.getD (5 + 0) 0]? = some .CHARSET := by rfl
  simp only [e]
  rw [if_neg (by rw [k]; exact Bool.false_ne_true)]
  unfold Sre.inSet
  have e : Sre.ops[valCode.getD (5 + 9 + 0) 0]? = some .FAILURE := by rfl
  simp only [e]
  exact ⟨_, rfl⟩

theorem admitted_none {m : Sre.M} (h : SetFree m.code m.text) (hl : m.lim ≤ m.text.size) : ∀ fuel s seen, ∃ seen', m.admitted fuel s seen = .ok (none, seen')
  | 0, s, seen => ⟨seen, rfl⟩
  | fuel + 1, s, seen => by
    unfold Sre.M.admitted
    by_cases hs : s ≥ m.lim
    · rw [if_pos hs]; exact ⟨_, rfl⟩
    · rw [if_neg hs]
      obtain ⟨seen', e⟩ := h (m.text.getD s 0) (by
        have : s < m.text.size := by omega
        simp [this]) seen
      rw [e]
      exact admitted_none h hl fuel (s + 1) seen'

theorem attempt_fails {m : Sre.M} (h : SetFree m.code m.text) (hl : m.lim ≤ m.text.size) (hf : m.hasFirstSet = true) (s : Nat) : ∃ seen', m.attemptFrom s true = { m with seen := seen' }.say false := by
  unfold Sre.M.attemptFrom
  rw [hf]
  obtain ⟨seen', e⟩ := admitted_none h hl (m.lim + 1 - s) s m.seen
  rw [e]
  exact ⟨seen', rfl⟩

theorem runFor_says {m : Sre.M} (ha : m.answer = some false) (ho : m.outcome = none) (hf : m.frames = []) : m.runFor 4 = { m with outcome := some .failed } := by
  unfold Sre.M.runFor
  rw [ho]
  unfold Sre.M.step
  rw [ho, ha, hf]
  rfl

theorem search_fails (code text : Array Nat) (hc : code = nameCode ∨ code = valCode) (h : SetFree code text) :
    ∃ m, (Sre.forSearch code text 0 0 text.size false).runFor 4 = m ∧ m.outcome = some .failed := by
  have key : ∃ m0 : Sre.M, m0.code = code ∧ m0.text = text ∧ m0.lim = text.size ∧ m0.hasFirstSet = true ∧ m0.outcome = none ∧ m0.frames = [] ∧
      (Sre.forSearch code text 0 0 text.size false = m0.say false ∨ Sre.forSearch code text 0 0 text.size false = m0.attemptFrom 0 true) := by
    unfold Sre.forSearch
    dsimp only
    split
    · refine ⟨_, ?_, ?_, ?_, ?_, ?_, ?_, .inl rfl⟩
      · rfl
      · rfl
      · rfl
      · rcases hc with rfl | rfl <;> rfl
      · rfl
      · rfl
    · refine ⟨_, ?_, ?_, ?_, ?_, ?_, ?_, .inr rfl⟩
      · rfl
      · rfl
      · rfl
      · rcases hc with rfl | rfl <;> rfl
      · rfl
      · rfl
  obtain ⟨m0, h1, h2, h3, h4, h5, h6, h7⟩ := key
  rcases h7 with h7 | h7
  · rw [h7, runFor_says (by rfl) (by exact h5) (by exact h6)]
    exact ⟨_, rfl, rfl⟩
  · obtain ⟨seen', e⟩ := attempt_fails (m := m0) (by rw [h1, h2]; exact h) (by rw [h2, h3]; exact Nat.le_refl _) h4 0
    rw [h7, e, runFor_says (by rfl) (by exact h5) (by exact h6)]
    exact ⟨_, rfl, rfl⟩

section
variable {prog : Program} {w : World} {A : Around} {E : Value → Shared → Prop} {s : Shared}
theorem slot_search : Slot "re.Pattern" "search" "re.Pattern.search" :=
  .of (owner := "re.Pattern") (n := "search") (by rw [typeLookup_type, builtinLookup_eq_fast]; kernel_rfl) (by decide +kernel) (by decide +kernel) (by decide +kernel)
    (by first | exact .inl (by decide +kernel) | exact .inr (by decide +kernel)) (by rw [isSubtype_type]; kernel_rfl)
theorem entry_search : entryFor table "re.Pattern.search" = some Builtin.«re.Pattern.search» := entryFor_of_tree (by kernel_rfl)
theorem args_search (a b : Value) : argsOk "re.Pattern.search" ⟨[a, b], []⟩ := by unfold argsOk; kernel_rfl
theorem type_search : typeOf (.builtin "re.Pattern.search") = pure (.type "method_descriptor") := by show builtinType _ = _; rw [builtinType_eq_fast]; kernel_rfl
theorem attrs_pattern : PlainAttrs "re.Pattern" :=
  ⟨⟨"object.__getattribute__", by rw [typeLookup_type, builtinLookup_eq_fast]; kernel_rfl, by decide +kernel⟩, by rw [typeLookup_type, builtinLookup_eq_fast]; kernel_rfl⟩

theorem wp_rules {M : Model} {f : Nat → Bool} {g : Nat → String} {Q : PUnit → Shared → Prop} (h : Q ⟨⟩ s) : ∀ l : List Nat,
    wpAny M A (forIn l PUnit.unit fun i _ => if f i = true then do rule (g i); pure (ForInStep.yield PUnit.unit) else pure (ForInStep.yield PUnit.unit)) Q E s
  | [] => wpAny_pure h
  | i :: l => by
    rw [List.forIn_cons]
    by_cases hf : f i = true
    · rw [if_pos hf]; exact wpAny_bind (wpAny_bind (wpAny_rule (wpAny_pure (wp_rules h l))))
    · rw [if_neg hf]; exact wpAny_bind (wpAny_pure (wp_rules h l))

theorem drive_pure {m : Sre.M} {n : Nat} {Q : Sre.M → Shared → Prop} {M : Model} (ho : (m.runFor 4).outcome = some .failed) (h : Q (m.runFor 4) s) : wpAny M A (Builtin.Re.reDrive (n + 1) m) Q E s := by
  unfold Builtin.Re.reDrive
  dsimp only [Builtin.Re.reTurnSteps]
  rw [ho]
  exact wpAny_pure h

theorem answer_none {t : Builtin.Re.ReTarget} {m : Sre.M} {Q : Fin → Shared → Prop} {M : Model} (ho : (m.runFor 4).outcome = some .failed) (h : Q (.done (.ret .none)) s) : wpAny M A (Builtin.Re.reAnswer t m) Q E s := by
  unfold Builtin.Re.reAnswer Builtin.Re.reRunToEnd
  refine wpAny_bind (wpAny_bind ?_)
  refine drive_pure (n := 2 ^ 64 - 1) ho ?_
  refine wpAny_bind (wp_rules (f := fun i => (m.runFor 4).seen.has i) ?_ _)
  rw [ho]
  refine wpAny_pure ?_
  exact wpAny_pure h

theorem named_search (v : Value) : Builtin.Re.reNamed "re.Pattern.search" "search" ["string", "pos", "endpos"] 1 [v] [] = pure [some v, none, none] := by
  rfl

theorem call_search {p c : Addr} {op oc : Obj} {pt : Value} {tk1 : Tok} {code : Array Nat} {items : Array Value} {n : Nat} {x : Str} {t : Tok} {Q : Value → Shared → Prop}
    (hp : s.heap.get? p = some op) (hpc : op.cls = .type "re.Pattern") (hpd : op.data = .fields #[pt, .int 32 tk1, .int 0 0, .none, .none, .ref c, .int 0 0])
    (hc : s.heap.get? c = some oc) (hcd : oc.data = .seq items n) (hcode : (items.map Builtin.Re.reRawOf).map (·.toNat) = code)
    (hk : code = nameCode ∨ code = valCode) (hf : SetFree code x.cps) (hsz : x.cps.size < 2 ^ 63) (h : Q .none s) :
    wpAny (model prog w) A (call (.builtin "re.Pattern.search") [.ref p, .str x t]) Q E s := by
  refine wpAny_call_entry slot_search ⟨op, hp, hpc⟩ entry_search ?_ (args_search _ _)
  unfold Builtin.«re.Pattern.search» Builtin.Re.reTarget
  refine wpAny_bind ?_
  dsimp only
  rw [named_search]
  refine wpAny_bind (wpAny_pure ?_)
  dsimp only
  refine wpAny_bind (wpAny_pure (wpAny_bind (wpAny_pure (wpAny_bind (wpAny_fieldsOf hp hpd ?_)))))
  have ht : Builtin.Re.reTextOf (.str x t) = pure (x.cps, 0) := rfl
  rw [ht]
  refine wpAny_bind (wpAny_pure ?_)
  dsimp only
  have hw : Builtin.Re.reRawNat ((#[pt, .int 32 tk1, .int 0 0, .none, .none, .ref c, .int 0 0] : Array Value).getD 6 .none) = 0 := rfl
  have hg : Builtin.Re.reRawNat ((#[pt, .int 32 tk1, .int 0 0, .none, .none, .ref c, .int 0 0] : Array Value).getD 2 .none) = 0 := rfl
  have hi : ((#[pt, .int 32 tk1, .int 0 0, .none, .none, .ref c, .int 0 0] : Array Value).getD 5 .none) = .ref c := rfl
  rw [hw, hg, hi]
  simp only [show ((0 : Nat) == 0) = true from rfl, show ((0 : Nat) == 1) = false from rfl, Bool.and_false, Bool.and_true, Bool.false_and, Bool.true_and, Bool.false_eq_true, if_false]
  have hn : Builtin.Re.reNoCollectionInside (.str x t) 0 = pure () := rfl
  rw [hn]
  refine wpAny_bind (wpAny_pure ?_)
  refine wpAny_bind ?_
  unfold Builtin.Re.reRawItems
  refine wpAny_bind (wpAny_seqItems hc hcd ?_)
  refine wpAny_pure (wpAny_pure ?_)
  dsimp only [Option.getD_some]
  rw [hcode]
  have e1 : min (2 ^ 63 - 1 : Int).toNat x.cps.size = x.cps.size := by omega
  have e0 : min (0 : Int).toNat x.cps.size = 0 := by omega
  rw [e1, e0]
  obtain ⟨m, hm, ho⟩ := search_fails code x.cps hk hf
  refine answer_none ?_ ⟨_, rfl, h⟩
  rw [hm]; exact ho
end

-- part L1
set_option maxHeartbeats 8000000

/-- one name more -/
noncomputable def upd (m : Str → Option Value) (x : Str) (v : Value) : Str → Option Value := fun y => if y = x then some v else m y

section
variable {prog : Program} {w : World} {A : Around} {E : Value → Shared → Prop} {s : Shared} {env : Env} {m : Str → Option Value}

theorem asg1 {x : Str} {p : Pos} {v : Value} {Q : Unit → Shared → Prop} (hn : s.heap.Ns env.locals m) (hx : env.kindOf x = some .local)
    (hp : (env.scope.kind == .class || (env.scope.kind == .module && env.locals != env.globals)) = false)
    (h : ∀ h' tk, h'.Ns env.locals (upd m x v) → (∀ b o, b ≠ env.locals → s.heap.get? b = some o → h'.get? b = some o) → Q () { s with heap := h', toks := tk }) :
    wpAny (model prog w) A (assign (.Name x p) env v) Q E s :=
  wpAny_assign_Name (wpAny_storeName_local hx hn (fun h' hn' hs' => h h' _ hn' fun b o hb e => hs'.extBut b o hb e) hp)

theorem asg2 {x1 x2 : Str} {p1 p2 tp : Pos} {k : Nat} {t : Addr} {v1 v2 : Value} {Q : Unit → Shared → Prop} (hh : A.handled = none) (ht : IsTup s.heap t #[v1, v2])
    (hn : s.heap.Ns env.locals m) (hx1 : env.kindOf x1 = some .local) (hx2 : env.kindOf x2 = some .local)
    (hp : (env.scope.kind == .class || (env.scope.kind == .module && env.locals != env.globals)) = false)
    (h : ∀ h' tk, h'.Ns env.locals (upd (upd m x1 v1) x2 v2) → (∀ b o, b ≠ env.locals → s.heap.get? b = some o → h'.get? b = some o) → Q () { s with heap := h', toks := tk }) :
    wpAny (model prog w) A (assign (.Tuple [.Name x1 p1, .Name x2 p2] k tp) env (.ref t)) Q E s := by
  refine assign_Tuple_tuple hh ht (by rfl) (by rfl) fun h0 he => ?_
  have hlt := hn.lt
  have hn0 : h0.Ns env.locals m := hn.extBut he (Nat.ne_of_lt hlt)
  refine assignInOrder_cons (asg1 hn0 hx1 hp fun h1 tk1 hn1 k1 => ?_)
  refine assignInOrder_cons (asg1 hn1 hx2 hp fun h2 tk2 hn2 k2 => ?_)
  refine assignInOrder_nil (h h2 tk2 hn2 fun b o hb e => k2 b o hb (k1 b o hb (he b o (Nat.ne_of_lt (Heap.lt_size e)) e)))

theorem asg3 {x1 x2 x3 : Str} {p1 p2 p3 tp : Pos} {k : Nat} {t : Addr} {v1 v2 v3 : Value} {Q : Unit → Shared → Prop} (hh : A.handled = none) (ht : IsTup s.heap t #[v1, v2, v3])
    (hn : s.heap.Ns env.locals m) (hx1 : env.kindOf x1 = some .local) (hx2 : env.kindOf x2 = some .local) (hx3 : env.kindOf x3 = some .local)
    (hp : (env.scope.kind == .class || (env.scope.kind == .module && env.locals != env.globals)) = false)
    (h : ∀ h' tk, h'.Ns env.locals (upd (upd (upd m x1 v1) x2 v2) x3 v3) → (∀ b o, b ≠ env.locals → s.heap.get? b = some o → h'.get? b = some o) → Q () { s with heap := h', toks := tk }) :
    wpAny (model prog w) A (assign (.Tuple [.Name x1 p1, .Name x2 p2, .Name x3 p3] k tp) env (.ref t)) Q E s := by
  refine assign_Tuple_tuple hh ht (by rfl) (by rfl) fun h0 he => ?_
  have hlt := hn.lt
  have hn0 : h0.Ns env.locals m := hn.extBut he (Nat.ne_of_lt hlt)
  refine assignInOrder_cons (asg1 hn0 hx1 hp fun h1 tk1 hn1 k1 => ?_)
  refine assignInOrder_cons (asg1 hn1 hx2 hp fun h2 tk2 hn2 k2 => ?_)
  refine assignInOrder_cons (asg1 hn2 hx3 hp fun h3 tk3 hn3 k3 => ?_)
  refine assignInOrder_nil (h h3 tk3 hn3 fun b o hb e => k3 b o hb (k2 b o hb (k1 b o hb (he b o (Nat.ne_of_lt (Heap.lt_size e)) e))))
end

section
variable {h₀ h h' : Heap} {L I : Addr} {m : Str → Option Value} {news : List (Addr × Obj)}
theorem frK (F : Fr h₀ L h m) (hk : ∀ b o, b ≠ I → h.get? b = some o → h'.get? b = some o) (hL : L ≠ I) (hI : h₀.get? I = none) : Fr h₀ L h' m :=
  ⟨F.ns.at' fun o e => hk L o hL e, fun b o e => hk b o (fun hm => by rw [hm, hI] at e; cases e) (F.keep b o e), F.above⟩
theorem newsK (N : News h₀ L h news) (hk : ∀ b o, b ≠ I → h.get? b = some o → h'.get? b = some o) (off : ∀ p ∈ news, p.1 ≠ I) : News h₀ L h' news :=
  fun p hp => ⟨hk _ _ (off p hp) (N p hp).1, (N p hp).2⟩
theorem frL {m' : Str → Option Value} (F : Fr h₀ L h m) (hn : h'.Ns L m') (hk : ∀ b o, b ≠ L → h.get? b = some o → h'.get? b = some o) : Fr h₀ L h' m' :=
  ⟨hn, fun b o e => hk b o (Nat.ne_of_lt (Nat.lt_of_lt_of_le (Heap.lt_size e) F.above)) (F.keep b o e), F.above⟩
theorem newsL (N : News h₀ L h news) (hk : ∀ b o, b ≠ L → h.get? b = some o → h'.get? b = some o) : News h₀ L h' news :=
  fun p hp => ⟨hk _ _ (N p hp).2.1 (N p hp).1, (N p hp).2⟩
theorem newsSub {news' : List (Addr × Obj)} (N : News h₀ L h news) (hs : ∀ p ∈ news', p ∈ news) : News h₀ L h news' := fun p hp => N p (hs p hp)
theorem newsCons {a : Addr} {o : Obj} (N : News h₀ L h news) (ho : h.get? a = some o) (hL : a ≠ L) (h0 : h₀.get? a = none) : News h₀ L h ((a, o) :: news) := fun p hp => by
  rcases List.mem_cons.mp hp with rfl | hp
  · exact ⟨ho, hL, h0⟩
  · exact N p hp
end

/-- how a turn of a loop may end -/
noncomputable def TurnEnd (h₀ : Heap) (L I : Addr) (oI : Obj) (Jn : (Str → Option Value) → List (Addr × Obj) → Prop) (s : Shared) (R : Result → Shared → Prop) (f : Flow) (s₃ : Shared) : Prop :=
  match f with
  | .ret v => R (.ok (.ret v)) s₃
  | .brk => R (.ok .next) s₃
  | _ => ∃ h' tk m' news', s₃ = { s with heap := h', toks := tk } ∧ Fr h₀ L h' m' ∧ News h₀ L h' ((I, oI) :: news') ∧ (∀ p ∈ news', p.1 ≠ I) ∧ Jn m' news'

section
variable {prog : Program} {w : World} {A : Around} {E : Value → Shared → Prop} {s : Shared} {env : Env} {h₀ : Heap} {L I : Addr} {m₀ : Str → Option Value} {news : List (Addr × Obj)}
theorem loopW {target : Expr} {body : List Stmt} {R : Result → Shared → Prop} {src : List Addr} {n : Nat} {P : Nat → Value → Prop} {St : Nat → Heap → Prop}
    (W : Walks prog w A I (I :: src) [I] n P St) (hst : St 0 s.heap) (hI : h₀.get? I = none) (hIL : L ≠ I) (hIn : ∀ p ∈ news, p.1 ≠ I)
    (hIo : ∀ i h, St i h → ∃ o, h.get? I = some o)
    (hgo : ∀ i v (s' : Shared) (Q : Unit → Shared → Prop) (E' : Value → Shared → Prop), P i v → St (i + 1) s'.heap → Q () s' → wpAny (model prog w) A (letOwnedTupleGo target (.ref I) v) Q E' s')
    (F : Fr h₀ L s.heap m₀) (N : News h₀ L s.heap news) (J : Nat → (Str → Option Value) → List (Addr × Obj) → Prop)
    (hsrc : ∀ a ∈ src, ∃ o, ∀ i m news, J i m news → h₀.get? a = some o ∨ (a, o) ∈ news)
    (h0 : J 0 m₀ news)
    (turn : ∀ i v m₁ news₁ h tk oI (E' : Value → Shared → Prop), i < n → P i v → J i m₁ news₁ → (∀ p ∈ news₁, p.1 ≠ I) → Fr h₀ L h m₁ → News h₀ L h ((I, oI) :: news₁) →
      wpAny (model prog w) A (assign target env v) (fun _ s₂ => wpAny (model prog w) A (execs body env) (TurnEnd h₀ L I oI (J (i + 1)) s R) E' s₂) E' { s with heap := h, toks := tk })
    (done : ∀ h tk m₁ news₁, J n m₁ news₁ → Fr h₀ L h m₁ → News h₀ L h news₁ → R (.ok .next) { s with heap := h, toks := tk }) :
    codeAny (model prog w) A (.forLoop target (.ref I) body [] env) R s := by
  refine codeAny_forLoop_any
    (fun k s' => ∃ i h' tk m' news', s' = { s with heap := h', toks := tk } ∧ i ≤ n ∧ k = n + 1 - i ∧ St i h' ∧ Fr h₀ L h' m' ∧ News h₀ L h' news' ∧ (∀ p ∈ news', p.1 ≠ I) ∧ J i m' news') ?_ (n + 1)
    ⟨0, s.heap, s.toks, m₀, news, rfl, Nat.zero_le _, rfl, hst, F, N, hIn, h0⟩
  rintro k s' ⟨i, h', tk, m', news', rfl, hi, rfl, hst', F', N', off', hJ⟩
  by_cases hlt : i < n
  · refine W.item i _ _ _ hlt hst' fun v h₁ tk₁ hPv hst₁ hk₁ => ?_
    have k₁ : ∀ b o, b ≠ I → h'.get? b = some o → h₁.get? b = some o := fun b o hb e => hk₁ b o (by simpa using hb) e
    obtain ⟨oI, hoI⟩ := hIo _ _ hst₁
    have F₁ := frK F' k₁ hIL hI
    have N₁ := newsK N' k₁ off'
    refine hgo i v _ _ _ hPv hst₁ ?_
    refine wpAny_mono (turn i v m' news' h₁ tk₁ oI _ hlt hPv hJ off' F₁ (newsCons N₁ hoI (Ne.symm hIL) hI)) (fun _ s₂ h₂ => wpAny_mono h₂ (fun f s₃ h₃ => ?_) fun _ _ e => e) fun _ _ e => e
    have fin : (∃ h' tk m' news', s₃ = { s with heap := h', toks := tk } ∧ Fr h₀ L h' m' ∧ News h₀ L h' ((I, oI) :: news') ∧ (∀ p ∈ news', p.1 ≠ I) ∧ J (i + 1) m' news') →
        ∃ m, m < n + 1 - i ∧ ∃ i h' tk m' news', s₃ = { s with heap := h', toks := tk } ∧ i ≤ n ∧ m = n + 1 - i ∧ St i h' ∧ Fr h₀ L h' m' ∧ News h₀ L h' news' ∧ (∀ p ∈ news', p.1 ≠ I) ∧ J i m' news' := by
      rintro ⟨h₄, tk₄, m₄, news₄, rfl, F₄, N₄, off₄, hJ₄⟩
      refine ⟨n + 1 - (i + 1), by omega, i + 1, h₄, tk₄, m₄, news₄, rfl, hlt, rfl, ?_, F₄, newsSub N₄ fun p hp => List.mem_cons_of_mem _ hp, off₄, hJ₄⟩
      refine W.frame _ _ _ hst₁ fun b hb o e => ?_
      rcases List.mem_cons.mp hb with rfl | hb
      · have := (N₄ _ (List.mem_cons_self)).1
        rw [hoI] at e; cases e; exact this
      · obtain ⟨o', ho'⟩ := hsrc b hb
        have e' : h₁.get? b = some o' := by
          rcases ho' _ _ _ hJ with q | q
          · exact F₁.keep _ _ q
          · exact (N₁ _ q).1
        rw [e'] at e; cases e
        rcases ho' _ _ _ hJ₄ with q | q
        · exact F₄.keep _ _ q
        · exact (N₄ _ (List.mem_cons_of_mem _ q)).1
    cases f with
    | ret v => exact h₃
    | brk => exact h₃
    | next => exact fin h₃
    | cont => exact fin h₃
  · have hin : i = n := by omega
    subst hin
    refine W.done _ _ _ hst' fun h₁ tk₁ hk₁ => ?_
    have k₁ : ∀ b o, b ≠ I → h'.get? b = some o → h₁.get? b = some o := fun b o hb e => hk₁ b o (by simpa using hb) e
    show wpAny _ _ (execs [] env) _ _ _
    exact wpAny_pure (done h₁ tk₁ m' news' hJ (frK F' k₁ hIL hI) (newsK N' k₁ off'))

/-- a loop over a list that the ledger bears, or that stands below -/
theorem loopL {target : Expr} {body : List Stmt} {R : Result → Shared → Prop} {l : Addr} {ol : Obj} {items : Array Value} {nn : Nat}
    (hh : A.handled = none) (hc : ol.cls = .type "list") (hd : ol.data = .seq items nn)
    (hgo : ∀ (i : Nat) v, items[i]? = some v → (∃ t, v = .ref t) ∨ (∀ it, letOwnedTupleGo target it v = pure ()))
    (htg : (∃ elts k pos, target = .Tuple elts k pos) ∨ (∀ it v, letOwnedTupleGo target it v = pure ()))
    (F : Fr h₀ L s.heap m₀) (N : News h₀ L s.heap news) (J : Nat → (Str → Option Value) → List (Addr × Obj) → Prop)
    (hsrc : ∀ i m news, J i m news → h₀.get? l = some ol ∨ (l, ol) ∈ news)
    (h0 : J 0 m₀ news)
    (turn : ∀ (i : Nat) v m₁ news₁ I h tk oI (E' : Value → Shared → Prop), items[i]? = some v → J i m₁ news₁ → (∀ p ∈ news₁, p.1 ≠ I) → Fr h₀ L h m₁ → News h₀ L h ((I, oI) :: news₁) →
      wpAny (model prog w) A (assign target env v) (fun _ s₂ => wpAny (model prog w) A (execs body env) (TurnEnd h₀ L I oI (J (i + 1)) s R) E' s₂) E' { s with heap := h, toks := tk })
    (done : ∀ h tk m₁ news₁, J items.size m₁ news₁ → Fr h₀ L h m₁ → News h₀ L h news₁ → R (.ok .next) { s with heap := h, toks := tk }) :
    wpAny (model prog w) A (pyIter (.ref l)) (fun it s₂ => codeAny (model prog w) A (.forLoop target it body [] env) R s₂) E s := by
  have hol : s.heap.get? l = some ol := by
    rcases hsrc _ _ _ h0 with q | q
    · exact F.keep _ _ q
    · exact (N _ q).1
  have hls : s.heap.IsList l items := ⟨ol, hol, hc, nn, hd⟩
  refine wpAny_pyIter_list hls ?_
  have hlt : l < s.heap.objs.size := Heap.lt_size hol
  have W := Walks.list (prog := prog) (w := w) hh s.heap.objs.size l (Nat.ne_of_lt hlt) items
  have hI0 : h₀.get? s.heap.objs.size = none := by
    cases q : h₀.get? s.heap.objs.size with
    | none => rfl
    | some o => exact absurd (Heap.lt_size (F.keep _ _ q)) (Nat.lt_irrefl _)
  refine loopW (s := { s with heap := s.heap.push { cls := .type "list_iterator", data := .fields #[.ref l, .int 0 0] } }) W ⟨⟨_, Heap.get?_push_size _ rfl, rfl, rfl⟩, hls.at fun o e => Heap.get?_push_of_some _ e⟩ hI0 (Nat.ne_of_lt F.ns.lt) (fun p hp => Nat.ne_of_lt (Heap.lt_size (N p hp).1))
    (fun i h st => ⟨_, st.1.choose_spec.1⟩) (fun i v s' Q E' hPv hst hQ => ?_) (F.push _) (fun p hp => ⟨Heap.get?_push_of_some _ (N p hp).1, (N p hp).2⟩) J
    (fun a ha => ⟨ol, fun i m news hJ => by rw [List.mem_singleton.mp ha]; exact hsrc _ _ _ hJ⟩) h0 (fun i v m₁ news₁ h tk oI E' hi hPv hJ off F₁ N₁ => turn i v m₁ news₁ _ h tk oI E' hPv hJ off F₁ N₁) done
  rcases htg with ⟨elts, k, pos, rfl⟩ | htg
  · rcases hgo i v hPv with ⟨t, rfl⟩ | q
    · exact wpAny_letOwnedTupleGo_listiter hst.1 hQ
    · rw [q]; exact wpAny_pure hQ
  · rw [htg]; exact wpAny_pure hQ
end

-- part BK
set_option maxHeartbeats 8000000
section
variable {α : Type} {a b d e f g x y : α} {T R : List α}
theorem m1 : b ∈ a :: b :: T := .tail _ (.head _)
theorem m2 : d ∈ a :: b :: d :: T := .tail _ m1
theorem m3 : e ∈ a :: b :: d :: e :: T := .tail _ m2
theorem m4 : f ∈ a :: b :: d :: e :: f :: T := .tail _ m3
theorem m5 : g ∈ a :: b :: d :: e :: f :: g :: T := .tail _ m4
theorem m6 : x ∈ a :: b :: d :: e :: f :: g :: x :: T := .tail _ m5
theorem m7 : y ∈ a :: b :: d :: e :: f :: g :: x :: y :: T := .tail _ m6
theorem blk (P A B : List α) {C : List α} {p : α} (h : p ∈ P ++ (A ++ (B ++ C))) : p ∈ P ++ (B ++ (A ++ C)) := by
  rcases List.mem_append.mp h with h | h
  · exact List.mem_append_left _ h
  · rcases List.mem_append.mp h with h | h
    · exact List.mem_append_right _ (List.mem_append_right _ (List.mem_append_left _ h))
    · rcases List.mem_append.mp h with h | h
      · exact List.mem_append_right _ (List.mem_append_left _ h)
      · exact List.mem_append_right _ (List.mem_append_right _ (List.mem_append_right _ h))
end
section
variable {h₀ h : Heap} {L : Addr}
theorem nblk (P A B : List (Addr × Obj)) {C : List (Addr × Obj)} (N : News h₀ L h (P ++ (A ++ (B ++ C)))) : News h₀ L h (P ++ (B ++ (A ++ C))) := newsSub N fun _ hp => blk P B A hp
end
theorem all5 {α : Type} {P : α → Prop} {a b d e f : α} {R : List α} (h1 : P a) (h2 : P b) (h3 : P d) (h4 : P e) (h5 : P f) (hR : ∀ p ∈ R, P p) : ∀ p ∈ a :: b :: d :: e :: f :: R, P p :=
  List.forall_mem_cons.mpr ⟨h1, List.forall_mem_cons.mpr ⟨h2, List.forall_mem_cons.mpr ⟨h3, List.forall_mem_cons.mpr ⟨h4, List.forall_mem_cons.mpr ⟨h5, hR⟩⟩⟩⟩⟩
theorem all1 {α : Type} {P : α → Prop} {a : α} {R : List α} (h1 : P a) (hR : ∀ p ∈ R, P p) : ∀ p ∈ a :: R, P p := List.forall_mem_cons.mpr ⟨h1, hR⟩
theorem allA {α : Type} {P : α → Prop} {T R : List α} (h1 : ∀ p ∈ T, P p) (hR : ∀ p ∈ R, P p) : ∀ p ∈ T ++ R, P p := List.forall_mem_append.mpr ⟨h1, hR⟩

-- part L2
set_option maxHeartbeats 8000000
open LCg (NsObj lst)

/-- how an element of a comprehension may end -/
noncomputable def ElEnd (h₀ : Heap) (L : Addr) (m : Str → Option Value) (I : Addr) (oI : Obj) (C D : Addr) (ys : List Value) (Jn : List Value → List (Addr × Obj) → Prop) (s : Shared) (ys' : List Value) (s₄ : Shared) : Prop :=
  ∃ h' tk news' oC' m₂', s₄ = { s with heap := h', toks := tk } ∧ Fr h₀ L h' m ∧ News h₀ L h' ((I, oI) :: (C, oC') :: (D, lst ys) :: news') ∧ (∀ p ∈ news', p.1 ≠ I ∧ p.1 ≠ C ∧ p.1 ≠ D) ∧ NsObj oC' m₂' ∧ Jn ys' news'

section
variable {prog : Program} {w : World} {A : Around} {E : Value → Shared → Prop} {s : Shared} {env : Env} {h₀ : Heap} {L I : Addr} {m : Str → Option Value} {news : List (Addr × Obj)}

theorem compLoop_gen {elt target iter : Expr} {ifs : List Expr} {scope : Scope} {pos : Pos} {it acc : Value} {env : Env} {R : Result → Shared → Prop} (J : Nat → Shared → Prop)
    (turn : ∀ n s, J n s → wpAny (model prog w) A (pyNext it) (fun r s₁ => match r with
      | none => R (.ok .next) s₁
      | some v => wpAny (model prog w) A (letOwnedTupleGo target it v) (fun _ s₁' => wpAny (model prog w) A (assign target env v) (fun _ s₂ =>
          wpAny (model prog w) A (forIn ifs true fun c r => if r = true then do let ok ← isTrue c env (eval c env); pure (ForInStep.yield ok) else pure (ForInStep.yield r)) (fun ok s₃ =>
            if ok = true then wpAny (model prog w) A (eval elt env) (fun x s₄ =>
              wpAny (model prog w) A (call (.builtin "list.append") [acc, x]) (fun _ s₅ => ∃ m, m < n ∧ J m s₅) (notedBy (model prog w) A env fun e s' => R (.error e) s') s₄) (notedBy (model prog w) A env fun e s' => R (.error e) s') s₃
            else ∃ m, m < n ∧ J m s₃) (notedBy (model prog w) A env fun e s' => R (.error e) s') s₂) (notedBy (model prog w) A env fun e s' => R (.error e) s') s₁') (notedBy (model prog w) A env fun e s' => R (.error e) s') s₁) (notedBy (model prog w) A env fun e s' => R (.error e) s') s)
    (n : Nat) (h : J n s) : codeAny (model prog w) A (.compLoop (.ListComp elt [⟨target, iter, ifs, 0⟩] scope pos) 0 it acc env) R s := by
  refine codeAny_loop rfl J (fun n s hI => ?_) n h
  show wpAny _ A ((compTurn (.ListComp elt [⟨target, iter, ifs, 0⟩] scope pos) 0 it acc env).onRaise (fun x => do noteFrame x env; theTreesLotGoes x)) _ _ s
  refine wpAny_noted ?_
  rw [compTurn_list]
  refine wpAny_bind (wpAny_standAt (wpAny_bind (wpAny_mono (turn n s hI) (fun r s₁ h₁ => ?_) fun _ _ h' => h')))
  cases r with
  | none => exact wpAny_pure h₁
  | some v =>
    refine wpAny_bind (wpAny_mono h₁ (fun _ s₁' h₁' => ?_) fun _ _ h' => h')
    refine wpAny_bind (wpAny_mono h₁' (fun _ s₂ h₂ => wpAny_bind (wpAny_mono h₂ (fun ok s₃ h₃ => ?_) fun _ _ h' => h')) fun _ _ h' => h')
    cases ok with
    | false => exact wpAny_pure ⟨rfl, h₃⟩
    | true => exact wpAny_bind (wpAny_bind (wpAny_mono h₃ (fun x s₄ h₄ => wpAny_bind (wpAny_mono h₄ (fun _ s₅ h₅ => wpAny_pure (wpAny_pure ⟨rfl, h₅⟩)) fun _ _ h' => h')) fun _ _ h' => h'))

theorem compW {target elt iter : Expr} {ifs : List Expr} {scope : Scope} {cl : List (Str × Addr)} {pos : Pos} {RR : Value → Addr → Result → Shared → Prop} {src : List Addr} {n : Nat} {P : Nat → Value → Prop} {St : Nat → Heap → Prop}
    (W : Walks prog w A I (I :: src) [I] n P St) (hsz : n ≤ sizeLine) (hst : St 0 s.heap) (hI : h₀.get? I = none) (hIL : L ≠ I) (hIn : ∀ p ∈ news, p.1 ≠ I)
    (hIo : ∀ i h, St i h → ∃ o, h.get? I = some o) (hlt : ∀ a ∈ src, a < s.heap.objs.size)
    (hgo : ∀ i v (s' : Shared) (Q : Unit → Shared → Prop) (E' : Value → Shared → Prop), P i v → St (i + 1) s'.heap → Q () s' → wpAny (model prog w) A (letOwnedTupleGo target (.ref I) v) Q E' s')
    (hcell : ∀ y ∈ scope.names, y.2 ≠ .cell) (hkind : scope.kind = .function)
    (F : Fr h₀ L s.heap m) (N : News h₀ L s.heap news) (J : Nat → List Value → List (Addr × Obj) → Prop)
    (hsrc : ∀ a ∈ src, ∃ o, ∀ i ys news, J i ys news → h₀.get? a = some o ∨ (a, o) ∈ news)
    (h0 : J 0 [] news)
    (turn : ∀ i v ys news₁ h tk oI C oC D m₂ (E' : Value → Shared → Prop), i < n → P i v → ys.length ≤ i → J i ys news₁ → (∀ p ∈ news₁, p.1 ≠ I ∧ p.1 ≠ C ∧ p.1 ≠ D) → (I ≠ C ∧ I ≠ D ∧ C ≠ D) → C ≠ L → D ≠ L → h₀.get? C = none →
      Fr h₀ L h m → News h₀ L h ((I, oI) :: (C, oC) :: (D, lst ys) :: news₁) → NsObj oC m₂ →
      wpAny (model prog w) A (assign target (compEnvC scope cl C env) v) (fun _ s₂ =>
        wpAny (model prog w) A (forIn ifs true fun c r => if r = true then do let ok ← isTrue c (compEnvC scope cl C env) (eval c (compEnvC scope cl C env)); pure (ForInStep.yield ok) else pure (ForInStep.yield r)) (fun ok s₃ =>
          if ok = true then wpAny (model prog w) A (eval elt (compEnvC scope cl C env)) (fun y s₄ => ElEnd h₀ L m I oI C D ys (J (i + 1)) s (ys ++ [y]) s₄) E' s₃
          else ElEnd h₀ L m I oI C D ys (J (i + 1)) s ys s₃) E' s₂) E' { s with heap := h, toks := tk })
    (done : ∀ D C h tk m' ys news', J n ys news' → Fr h₀ L h m → News h₀ L h ((D, lst ys) :: news') → (∀ p ∈ news', p.1 ≠ D ∧ p.1 ≠ C) → h.Ns C m' → h₀.get? C = none → h₀.get? D = none → C ≠ L → D ≠ L → C ≠ D →
      RR (.ref D) C (.ok .next) { s with heap := h, toks := tk }) :
    wpAny (model prog w) A (newList []) (fun acc s₃ => wpAny (model prog w) A (newFunctionEnv scope env.globals cl [] env.qual none .none (some env)) (fun cenv s₄ =>
      codeAny (model prog w) A (.compStart (.ListComp elt [⟨target, iter, ifs, 0⟩] scope pos) 0 (.ref I) acc { cenv with scope := relabel scope env }) (RR acc cenv.locals) s₄) E s₃) E s := by
  refine wpAny_newObj_type (wpAny_newFunctionEnv hcell (by intro y hy; simp at hy) (fun h₁ hns₁ hsb₁ => ?_) hkind)
  dsimp only at hns₁ hsb₁ ⊢
  generalize hH2 : s.heap.push { cls := .type "list", dict := none, data := .seq ([] : List Value).toArray } = H2 at hns₁ hsb₁ ⊢
  have hC : H2.objs.size = s.heap.objs.size + 1 := by rw [← hH2, Heap.size_push]
  have hDC : s.heap.objs.size ≠ H2.objs.size := by rw [hC]; exact Nat.ne_of_lt (Nat.lt_succ_self _)
  have below : ∀ b, b < s.heap.objs.size → b ≠ H2.objs.size ∧ b ≠ s.heap.objs.size := fun b hb => ⟨by rw [hC]; exact Nat.ne_of_lt (Nat.lt_succ_of_lt hb), Nat.ne_of_lt hb⟩
  obtain ⟨oI0, hoI0⟩ := hIo _ _ hst
  have hIlt : I < s.heap.objs.size := Heap.lt_size hoI0
  have old : ∀ b o, s.heap.get? b = some o → h₁.get? b = some o := fun b o e => hsb₁.extBut b o (below b (Heap.lt_size e)).1 (Heap.get?_push_of_some _ (hH2 ▸ Heap.get?_push_of_some _ e))
  have hacc : h₁.get? s.heap.objs.size = some (lst []) := hsb₁.extBut _ _ hDC (Heap.get?_push_of_some _ (hH2 ▸ Heap.get?_push_size _ rfl))
  have hst₁ : St 0 h₁ := W.frame _ _ _ hst fun b _ o e => old b o e
  have fresh₀ : ∀ a, s.heap.objs.size ≤ a → h₀.get? a = none := fun a ha => by
    cases e : h₀.get? a with
    | none => rfl
    | some o' => exact absurd (Heap.lt_size (F.keep a o' e)) (Nat.not_lt.mpr ha)
  have hD₀ : h₀.get? s.heap.objs.size = none := fresh₀ _ (Nat.le_refl _)
  have hC₀ : h₀.get? H2.objs.size = none := fresh₀ _ (by rw [hC]; exact Nat.le_succ _)
  have hLlt : L < s.heap.objs.size := F.ns.lt
  have hDL : s.heap.objs.size ≠ L := Ne.symm (below L hLlt).2
  have hCL : H2.objs.size ≠ L := Ne.symm (below L hLlt).1
  have hCI : I ≠ H2.objs.size := (below I hIlt).1
  have hDI : I ≠ s.heap.objs.size := (below I hIlt).2
  have off₀ : ∀ p ∈ news, p.1 ≠ I ∧ p.1 ≠ H2.objs.size ∧ p.1 ≠ s.heap.objs.size := fun p hp => ⟨hIn p hp, (below _ (Heap.lt_size (N p hp).1)).1, (below _ (Heap.lt_size (N p hp).1)).2⟩
  obtain ⟨oC₁, hoC₁, hnC₁⟩ := LCg.ns_obj hns₁
  have N₁ : News h₀ L h₁ ((H2.objs.size, oC₁) :: (s.heap.objs.size, lst []) :: news) :=
    newsCons (newsCons (fun p hp => ⟨old _ _ (N p hp).1, (N p hp).2⟩) hacc hDL hD₀) hoC₁ hCL hC₀
  have loop : ∀ s₃ : Shared, s₃ = { s with heap := h₁, toks := s.toks + ([] : List (Str × Value)).length } →
      codeAny (model prog w) A (.compLoop (.ListComp elt [⟨target, iter, ifs, 0⟩] scope pos) 0 (.ref I) (.ref s.heap.objs.size) (compEnvC scope cl H2.objs.size env))
        (RR (.ref s.heap.objs.size) H2.objs.size) s₃ := by
    rintro s₃ rfl
    refine compLoop_gen
      (fun k s' => ∃ h' tk i ys m' news' oC, s' = { s with heap := h', toks := tk } ∧ i ≤ n ∧ k = n + 1 - i ∧ ys.length ≤ i ∧ St i h' ∧ Fr h₀ L h' m ∧ NsObj oC m' ∧ News h₀ L h' ((H2.objs.size, oC) :: (s.heap.objs.size, lst ys) :: news') ∧
        (∀ p ∈ news', p.1 ≠ I ∧ p.1 ≠ H2.objs.size ∧ p.1 ≠ s.heap.objs.size) ∧ J i ys news') ?_ (n + 1)
      ⟨h₁, _, 0, [], _, news, oC₁, rfl, Nat.zero_le _, rfl, Nat.le_refl _, hst₁, F.keeps old, hnC₁, N₁, off₀, h0⟩
    rintro k s' ⟨h', tk, i, ys, m', news', oC, rfl, hi, rfl, hyl, hst', F', hnC, N', off', hJ⟩
    have offA : ∀ p ∈ (H2.objs.size, oC) :: (s.heap.objs.size, lst ys) :: news', p.1 ≠ I := fun p hp => by
      rcases List.mem_cons.mp hp with rfl | hp
      · exact Ne.symm hCI
      · rcases List.mem_cons.mp hp with rfl | hp
        · exact Ne.symm hDI
        · exact (off' p hp).1
    by_cases hlt' : i < n
    · refine W.item i _ _ _ hlt' hst' fun v h₂ tk₂ hPv hst₂ hk₂ => ?_
      have k₂ : ∀ b o, b ≠ I → h'.get? b = some o → h₂.get? b = some o := fun b o hb e => hk₂ b o (by simpa using hb) e
      obtain ⟨oI, hoI⟩ := hIo _ _ hst₂
      have F₂ := frK F' k₂ hIL hI
      have N₂ := newsCons (newsK N' k₂ offA) hoI (Ne.symm hIL) hI
      refine hgo i v _ _ _ hPv hst₂ ?_
      -- behind a turn: the list grown or not
      have fin : ∀ ys' s₅, ys'.length ≤ i + 1 → (∃ h' tk news' oC' m₂', s₅ = { s with heap := h', toks := tk } ∧ Fr h₀ L h' m ∧ News h₀ L h' ((I, oI) :: (H2.objs.size, oC') :: (s.heap.objs.size, lst ys') :: news') ∧
          (∀ p ∈ news', p.1 ≠ I ∧ p.1 ≠ H2.objs.size ∧ p.1 ≠ s.heap.objs.size) ∧ NsObj oC' m₂' ∧ J (i + 1) ys' news') →
          ∃ m_1, m_1 < n + 1 - i ∧ ∃ h' tk i ys m' news' oC, s₅ = { s with heap := h', toks := tk } ∧ i ≤ n ∧ m_1 = n + 1 - i ∧ ys.length ≤ i ∧ St i h' ∧ Fr h₀ L h' m ∧ NsObj oC m' ∧ News h₀ L h' ((H2.objs.size, oC) :: (s.heap.objs.size, lst ys) :: news') ∧
            (∀ p ∈ news', p.1 ≠ I ∧ p.1 ≠ H2.objs.size ∧ p.1 ≠ s.heap.objs.size) ∧ J i ys news' := by
        rintro ys' s₅ hy' ⟨h₄, tk₄, news₄, oC₄, m₄, rfl, F₄, N₄, off₄, hnC₄, hJ₄⟩
        refine ⟨n + 1 - (i + 1), by omega, h₄, tk₄, i + 1, ys', m₄, news₄, oC₄, rfl, hlt', rfl, hy', ?_, F₄, hnC₄, newsSub N₄ fun p hp => List.mem_cons_of_mem _ hp, off₄, hJ₄⟩
        refine W.frame _ _ _ hst₂ fun b hb o e => ?_
        rcases List.mem_cons.mp hb with rfl | hb
        · have := (N₄ _ (List.mem_cons_self)).1
          rw [hoI] at e; cases e; exact this
        · obtain ⟨o', ho'⟩ := hsrc b hb
          have e' : h₂.get? b = some o' := by
            rcases ho' _ _ _ hJ with q | q
            · exact F₂.keep _ _ q
            · exact (N₂ _ (List.mem_cons_of_mem _ (List.mem_cons_of_mem _ (List.mem_cons_of_mem _ q)))).1
          rw [e'] at e; cases e
          rcases ho' _ _ _ hJ₄ with q | q
          · exact F₄.keep _ _ q
          · exact (N₄ _ (List.mem_cons_of_mem _ (List.mem_cons_of_mem _ (List.mem_cons_of_mem _ q)))).1
      refine wpAny_mono (turn i v ys news' h₂ tk₂ oI _ oC _ m' _ hlt' hPv hyl hJ off' ⟨hCI, hDI, Ne.symm hDC⟩ hCL hDL hC₀ F₂ N₂ hnC)
        (fun _ s₂ q₂ => wpAny_mono q₂ (fun ok s₃ q₃ => ?_) fun _ _ e => e) fun _ _ e => e
      cases ok with
      | false =>
        simp only [Bool.false_eq_true, if_false] at q₃ ⊢
        obtain ⟨h₄, tk₄, news₄, oC₄, m₄, e, F₄, N₄, off₄, hnC₄, hJ₄⟩ := q₃
        exact fin ys s₃ (Nat.le_succ_of_le hyl) ⟨h₄, tk₄, news₄, oC₄, m₄, e, F₄, N₄, off₄, hnC₄, hJ₄⟩
      | true =>
        simp only [if_true] at q₃ ⊢
        refine wpAny_mono q₃ (fun y s₄ q₄ => ?_) fun _ _ e => e
        obtain ⟨h₄, tk₄, news₄, oC₄, m₄, rfl, F₄, N₄, off₄, hnC₄, hJ₄⟩ := q₄
        have zD : h₄.get? s.heap.objs.size = some (lst ys) := (N₄ _ (List.mem_cons_of_mem _ (List.mem_cons_of_mem _ List.mem_cons_self))).1
        refine append_at (hsz := by show ys.toArray.size ≤ sizeLine; rw [List.size_toArray]; omega) zD fun h₅ hs₅ hD₅ => ?_
        have k₅ : ∀ b o, b ≠ s.heap.objs.size → h₄.get? b = some o → h₅.get? b = some o := fun b o hb e => hs₅.extBut b o hb e
        refine fin (ys ++ [y]) _ (by rw [List.length_append, List.length_singleton]; omega) ⟨h₅, tk₄, news₄, oC₄, m₄, rfl, frK F₄ k₅ (Ne.symm hDL) hD₀, ?_, off₄, hnC₄, hJ₄⟩
        intro p hp
        rcases List.mem_cons.mp hp with rfl | hp
        · exact ⟨k₅ _ _ hDI (N₄ _ List.mem_cons_self).1, (N₄ _ List.mem_cons_self).2⟩
        · rcases List.mem_cons.mp hp with rfl | hp
          · exact ⟨k₅ _ _ (Ne.symm hDC) (N₄ _ (List.mem_cons_of_mem _ List.mem_cons_self)).1, (N₄ _ (List.mem_cons_of_mem _ List.mem_cons_self)).2⟩
          · rcases List.mem_cons.mp hp with rfl | hp
            · exact ⟨by rw [hD₅, LCg.lst_snoc], hDL, hD₀⟩
            · have := N₄ p (List.mem_cons_of_mem _ (List.mem_cons_of_mem _ (List.mem_cons_of_mem _ hp)))
              exact ⟨k₅ _ _ (off₄ p hp).2.2 this.1, this.2⟩
    · have hin : i = n := by omega
      subst hin
      refine W.done _ _ _ hst' fun h₂ tk₂ hk₂ => ?_
      have k₂ : ∀ b o, b ≠ I → h'.get? b = some o → h₂.get? b = some o := fun b o hb e => hk₂ b o (by simpa using hb) e
      have N₂ := newsK N' k₂ offA
      exact done _ _ h₂ tk₂ m' ys news' hJ (frK F' k₂ hIL hI) (newsSub N₂ fun p hp => List.mem_cons_of_mem _ hp) (fun p hp => ⟨(off' p hp).2.2, (off' p hp).2.1⟩) (hnC.ns (N₂ _ List.mem_cons_self).1) hC₀ hD₀ hCL hDL (Ne.symm hDC)
  exact codeAny_compStart_list (loop _ rfl) (W.self 0 _ _ _ hst₁ (loop _ rfl))
end

-- part L3
set_option maxHeartbeats 8000000
open LCg (NsObj lst)

/-- what a comprehension does behind its iterator -/
noncomputable def Block (prog : Program) (w : World) (A : Around) (E : Value → Shared → Prop) (env : Env) (scope : Scope) (cl : List (Str × Addr)) (e : Expr) (RR : Value → Addr → Result → Shared → Prop) (it : Value) (s : Shared) : Prop :=
  wpAny (model prog w) A (newList []) (fun acc s₃ => wpAny (model prog w) A (newFunctionEnv scope env.globals cl [] env.qual none .none (some env)) (fun cenv s₄ =>
      codeAny (model prog w) A (.compStart e 0 it acc { cenv with scope := relabel scope env }) (RR acc cenv.locals) s₄) E s₃) E s

section
variable {prog : Program} {w : World} {A : Around} {E : Value → Shared → Prop} {s : Shared} {env : Env} {h₀ : Heap} {L : Addr} {m : Str → Option Value} {news : List (Addr × Obj)}

theorem fresh_of (F : Fr h₀ L s.heap m) : h₀.get? s.heap.objs.size = none := by
  cases q : h₀.get? s.heap.objs.size with
  | none => rfl
  | some o => exact absurd (Heap.lt_size (F.keep _ _ q)) (Nat.lt_irrefl _)

theorem newsPush {o : Obj} (N : News h₀ L s.heap news) : News h₀ L (s.heap.push o) news := fun p hp => ⟨Heap.get?_push_of_some _ (N p hp).1, (N p hp).2⟩

/-- a loop over an iterator just made -/
theorem loopPush {target : Expr} {body : List Stmt} {R : Result → Shared → Prop} {n : Nat} {P : Nat → Value → Prop} {St : Nat → Heap → Prop} {o : Obj}
    (W : Walks prog w A s.heap.objs.size [s.heap.objs.size] [s.heap.objs.size] n P St) (hst : St 0 (s.heap.push o)) (hIo : ∀ i h, St i h → ∃ o, h.get? s.heap.objs.size = some o)
    (htg : ∀ it v, letOwnedTupleGo target it v = pure ())
    (F : Fr h₀ L s.heap m) (N : News h₀ L s.heap news) (J : Nat → (Str → Option Value) → List (Addr × Obj) → Prop)
    (h0 : J 0 m news)
    (turn : ∀ i v m₁ news₁ I h tk oI (E' : Value → Shared → Prop), i < n → P i v → J i m₁ news₁ → (∀ p ∈ news₁, p.1 ≠ I) → Fr h₀ L h m₁ → News h₀ L h ((I, oI) :: news₁) →
      wpAny (model prog w) A (assign target env v) (fun _ s₂ => wpAny (model prog w) A (execs body env) (TurnEnd h₀ L I oI (J (i + 1)) s R) E' s₂) E' { s with heap := h, toks := tk })
    (done : ∀ h tk m₁ news₁, J n m₁ news₁ → Fr h₀ L h m₁ → News h₀ L h news₁ → R (.ok .next) { s with heap := h, toks := tk }) :
    codeAny (model prog w) A (.forLoop target (.ref s.heap.objs.size) body [] env) R { s with heap := s.heap.push o } :=
  loopW (s := { s with heap := s.heap.push o }) (src := []) W hst (fresh_of F) (Nat.ne_of_lt F.ns.lt) (fun p hp => Nat.ne_of_lt (Heap.lt_size (N p hp).1)) hIo
    (fun i v s' Q E' hPv hst hQ => by rw [htg]; exact wpAny_pure hQ) (F.push _) (newsPush N) J (fun a ha => nomatch ha) h0
    (fun i v m₁ news₁ h tk oI E' hi hPv hJ off F₁ N₁ => turn i v m₁ news₁ _ h tk oI E' hi hPv hJ off F₁ N₁) done

theorem small_range {a b : Int} (ha : -1000 ≤ a) (ha' : a ≤ 1000) (hb : b ≤ 1000) (hb' : -1000 ≤ b) : Builtin.Range.small a b 1 = true := by
  unfold Builtin.Range.small
  rw [rangeSize_nat]
  simp only [Builtin.Range.rangeFitsLong, Bool.and_eq_true, decide_eq_true_eq, Bool.or_eq_true, beq_iff_eq]
  refine ⟨⟨⟨⟨⟨by omega, by omega⟩, by omega, by omega⟩, by omega, by omega⟩, by omega, by omega⟩, .inr ?_⟩
  rw [if_pos (by decide)]
  simp only [Bool.and_eq_true, decide_eq_true_eq]
  omega

theorem loopR {target : Expr} {body : List Stmt} {R : Result → Shared → Prop} {r : Addr} {a b : Int} {t u v : Tok} (hh : A.handled = none) (hr : IsRange s.heap r a b 1 t u v) (ha : -1000 ≤ a) (ha' : a ≤ 1000) (hb : b ≤ 1000) (hb' : -1000 ≤ b)
    (htg : ∀ it v, letOwnedTupleGo target it v = pure ())
    (F : Fr h₀ L s.heap m) (N : News h₀ L s.heap news) (J : Nat → (Str → Option Value) → List (Addr × Obj) → Prop)
    (h0 : J 0 m news)
    (turn : ∀ i tv m₁ news₁ I h tk oI (E' : Value → Shared → Prop), i < (b - a).toNat → J i m₁ news₁ → (∀ p ∈ news₁, p.1 ≠ I) → Fr h₀ L h m₁ → News h₀ L h ((I, oI) :: news₁) →
      wpAny (model prog w) A (assign target env (.int (a + i) tv)) (fun _ s₂ => wpAny (model prog w) A (execs body env) (TurnEnd h₀ L I oI (J (i + 1)) s R) E' s₂) E' { s with heap := h, toks := tk })
    (done : ∀ h tk m₁ news₁, J (b - a).toNat m₁ news₁ → Fr h₀ L h m₁ → News h₀ L h news₁ → R (.ok .next) { s with heap := h, toks := tk }) :
    wpAny (model prog w) A (pyIter (.ref r)) (fun it s₂ => codeAny (model prog w) A (.forLoop target it body [] env) R s₂) E s := by
  refine wpAny_pyIter_range hr (small_range ha ha' hb hb') ?_
  refine loopPush (Walks.range hh _ a 1 (b - a).toNat) ?_ (fun i h st => ⟨_, st⟩) htg F N J h0 (fun i v m₁ news₁ I h tk oI E' hi hPv hJ off F₁ N₁ => ?_) done
  · show IsRangeIter _ _ (a + ((0 : Nat) : Int) * 1) (((b - a).toNat : Int) - ((0 : Nat) : Int)) 1
    rw [rangeSize_nat, show a + ((0 : Nat) : Int) * 1 = a from by omega, show (((b - a).toNat : Int) - ((0 : Nat) : Int)) = ((b - a).toNat : Int) from by omega]
    exact Heap.get?_push_size _ rfl
  · obtain ⟨tv, rfl⟩ := hPv
    rw [Int.mul_one]
    exact turn i tv m₁ news₁ I h tk oI E' hi hJ off F₁ N₁

theorem loopS {target : Expr} {body : List Stmt} {R : Result → Shared → Prop} {x : Str} {t : Tok} (hh : A.handled = none)
    (htg : ∀ it v, letOwnedTupleGo target it v = pure ())
    (F : Fr h₀ L s.heap m) (N : News h₀ L s.heap news) (J : Nat → (Str → Option Value) → List (Addr × Obj) → Prop)
    (h0 : J 0 m news)
    (turn : ∀ (i : Nat) c tv m₁ news₁ I h tk oI (E' : Value → Shared → Prop), x.cps[i]? = some c → J i m₁ news₁ → (∀ p ∈ news₁, p.1 ≠ I) → Fr h₀ L h m₁ → News h₀ L h ((I, oI) :: news₁) →
      wpAny (model prog w) A (assign target env (.str ⟨#[c]⟩ tv)) (fun _ s₂ => wpAny (model prog w) A (execs body env) (TurnEnd h₀ L I oI (J (i + 1)) s R) E' s₂) E' { s with heap := h, toks := tk })
    (done : ∀ h tk m₁ news₁, J x.cps.size m₁ news₁ → Fr h₀ L h m₁ → News h₀ L h news₁ → R (.ok .next) { s with heap := h, toks := tk }) :
    wpAny (model prog w) A (pyIter (.str x t)) (fun it s₂ => codeAny (model prog w) A (.forLoop target it body [] env) R s₂) E s := by
  have tt : ∀ i v m₁ news₁ I h tk oI (E' : Value → Shared → Prop), i < x.cps.size → SignAt x i v → J i m₁ news₁ → (∀ p ∈ news₁, p.1 ≠ I) → Fr h₀ L h m₁ → News h₀ L h ((I, oI) :: news₁) →
      wpAny (model prog w) A (assign target env v) (fun _ s₂ => wpAny (model prog w) A (execs body env) (TurnEnd h₀ L I oI (J (i + 1)) s R) E' s₂) E' { s with heap := h, toks := tk } := by
    rintro i v m₁ news₁ I h tk oI E' hi ⟨c, u, hc, rfl⟩ hJ off F₁ N₁
    exact turn i c u m₁ news₁ I h tk oI E' hc hJ off F₁ N₁
  cases ha : x.cps.all (· < 128)
  · exact wpAny_pyIter_wide ha (loopPush (Walks.strWide hh _ x t) ⟨_, Heap.get?_push_size _ rfl, rfl, rfl⟩ (fun i h st => ⟨_, st.choose_spec.1⟩) htg F N J h0 tt done)
  · exact wpAny_pyIter_ascii ha (loopPush (Walks.strAscii hh _ x t) ⟨_, Heap.get?_push_size _ rfl, rfl, rfl⟩ (fun i h st => ⟨_, st.choose_spec.1⟩) htg F N J h0 tt done)

/-- a comprehension over a list -/
theorem compL {elt target iter : Expr} {ifs : List Expr} {scope : Scope} {cl : List (Str × Addr)} {pos : Pos} {RR : Value → Addr → Result → Shared → Prop} {l : Addr} {ol : Obj} {items : Array Value} {nn : Nat}
    (hh : A.handled = none) (hc : ol.cls = .type "list") (hd : ol.data = .seq items nn) (hsz : items.size ≤ sizeLine)
    (htg : ((∃ elts k pos, target = .Tuple elts k pos) ∧ ∀ (i : Nat) v, items[i]? = some v → ∃ t, v = .ref t) ∨ (∀ it v, letOwnedTupleGo target it v = pure ()))
    (hcell : ∀ y ∈ scope.names, y.2 ≠ .cell) (hkind : scope.kind = .function)
    (F : Fr h₀ L s.heap m) (N : News h₀ L s.heap news) (J : Nat → List Value → List (Addr × Obj) → Prop)
    (hsrc : ∀ i ys news, J i ys news → h₀.get? l = some ol ∨ (l, ol) ∈ news)
    (h0 : J 0 [] news)
    (turn : ∀ (i : Nat) v ys news₁ h tk I oI C oC D m₂ (E' : Value → Shared → Prop), items[i]? = some v → ys.length ≤ i → J i ys news₁ → (∀ p ∈ news₁, p.1 ≠ I ∧ p.1 ≠ C ∧ p.1 ≠ D) → (I ≠ C ∧ I ≠ D ∧ C ≠ D) → C ≠ L → D ≠ L → h₀.get? C = none →
      Fr h₀ L h m → News h₀ L h ((I, oI) :: (C, oC) :: (D, lst ys) :: news₁) → NsObj oC m₂ →
      wpAny (model prog w) A (assign target (compEnvC scope cl C env) v) (fun _ s₂ =>
        wpAny (model prog w) A (forIn ifs true fun c r => if r = true then do let ok ← isTrue c (compEnvC scope cl C env) (eval c (compEnvC scope cl C env)); pure (ForInStep.yield ok) else pure (ForInStep.yield r)) (fun ok s₃ =>
          if ok = true then wpAny (model prog w) A (eval elt (compEnvC scope cl C env)) (fun y s₄ => ElEnd h₀ L m I oI C D ys (J (i + 1)) s (ys ++ [y]) s₄) E' s₃
          else ElEnd h₀ L m I oI C D ys (J (i + 1)) s ys s₃) E' s₂) E' { s with heap := h, toks := tk })
    (done : ∀ D C h tk m' ys news', J items.size ys news' → Fr h₀ L h m → News h₀ L h ((D, lst ys) :: news') → (∀ p ∈ news', p.1 ≠ D ∧ p.1 ≠ C) → h.Ns C m' → h₀.get? C = none → h₀.get? D = none → C ≠ L → D ≠ L → C ≠ D →
      RR (.ref D) C (.ok .next) { s with heap := h, toks := tk }) :
    wpAny (model prog w) A (pyIter (.ref l)) (Block prog w A E env scope cl (.ListComp elt [⟨target, iter, ifs, 0⟩] scope pos) RR) E s := by
  have hol : s.heap.get? l = some ol := by
    rcases hsrc _ _ _ h0 with q | q
    · exact F.keep _ _ q
    · exact (N _ q).1
  have hls : s.heap.IsList l items := ⟨ol, hol, hc, nn, hd⟩
  refine wpAny_pyIter_list hls ?_
  have hlt : l < s.heap.objs.size := Heap.lt_size hol
  refine compW (s := { s with heap := s.heap.push { cls := .type "list_iterator", data := .fields #[.ref l, .int 0 0] } }) (Walks.list (prog := prog) (w := w) hh s.heap.objs.size l (Nat.ne_of_lt hlt) items) hsz
    ⟨⟨_, Heap.get?_push_size _ rfl, rfl, rfl⟩, hls.at fun o e => Heap.get?_push_of_some _ e⟩ (fresh_of F) (Nat.ne_of_lt F.ns.lt) (fun p hp => Nat.ne_of_lt (Heap.lt_size (N p hp).1))
    (fun i h st => ⟨_, st.1.choose_spec.1⟩) (fun a ha => by rw [List.mem_singleton.mp ha]; show l < (s.heap.push _).objs.size; rw [Heap.size_push]; exact Nat.lt_succ_of_lt hlt) (fun i v s' Q E' hPv hst hQ => ?_) hcell hkind (F.push _) (newsPush N) J
    (fun a ha => ⟨ol, fun i m news hJ => by rw [List.mem_singleton.mp ha]; exact hsrc _ _ _ hJ⟩) h0
    (fun i v ys news₁ h tk oI C oC D m₂ E' hi hPv hy hJ off ne cL dL c0 F₁ N₁ hn => turn i v ys news₁ h tk _ oI C oC D m₂ E' hPv hy hJ off ne cL dL c0 F₁ N₁ hn) done
  rcases htg with ⟨⟨elts, k, pos, rfl⟩, hgo⟩ | htg
  · obtain ⟨t, rfl⟩ := hgo i v hPv
    exact wpAny_letOwnedTupleGo_listiter hst.1 hQ
  · rw [htg]; exact wpAny_pure hQ

/-- a comprehension over a range -/
theorem compR {elt target iter : Expr} {ifs : List Expr} {scope : Scope} {cl : List (Str × Addr)} {pos : Pos} {RR : Value → Addr → Result → Shared → Prop} {r : Addr} {a b : Int} {t u v : Tok}
    (hh : A.handled = none) (hr : IsRange s.heap r a b 1 t u v) (ha : -1000 ≤ a) (ha' : a ≤ 1000) (hb : b ≤ 1000) (hb' : -1000 ≤ b)
    (htg : ∀ it v, letOwnedTupleGo target it v = pure ())
    (hcell : ∀ y ∈ scope.names, y.2 ≠ .cell) (hkind : scope.kind = .function)
    (F : Fr h₀ L s.heap m) (N : News h₀ L s.heap news) (J : Nat → List Value → List (Addr × Obj) → Prop)
    (h0 : J 0 [] news)
    (turn : ∀ (i : Nat) tv ys news₁ h tk I oI C oC D m₂ (E' : Value → Shared → Prop), i < (b - a).toNat → ys.length ≤ i → J i ys news₁ → (∀ p ∈ news₁, p.1 ≠ I ∧ p.1 ≠ C ∧ p.1 ≠ D) → (I ≠ C ∧ I ≠ D ∧ C ≠ D) → C ≠ L → D ≠ L → h₀.get? C = none →
      Fr h₀ L h m → News h₀ L h ((I, oI) :: (C, oC) :: (D, lst ys) :: news₁) → NsObj oC m₂ →
      wpAny (model prog w) A (assign target (compEnvC scope cl C env) (.int (a + i) tv)) (fun _ s₂ =>
        wpAny (model prog w) A (forIn ifs true fun c r => if r = true then do let ok ← isTrue c (compEnvC scope cl C env) (eval c (compEnvC scope cl C env)); pure (ForInStep.yield ok) else pure (ForInStep.yield r)) (fun ok s₃ =>
          if ok = true then wpAny (model prog w) A (eval elt (compEnvC scope cl C env)) (fun y s₄ => ElEnd h₀ L m I oI C D ys (J (i + 1)) s (ys ++ [y]) s₄) E' s₃
          else ElEnd h₀ L m I oI C D ys (J (i + 1)) s ys s₃) E' s₂) E' { s with heap := h, toks := tk })
    (done : ∀ D C h tk m' ys news', J (b - a).toNat ys news' → Fr h₀ L h m → News h₀ L h ((D, lst ys) :: news') → (∀ p ∈ news', p.1 ≠ D ∧ p.1 ≠ C) → h.Ns C m' → h₀.get? C = none → h₀.get? D = none → C ≠ L → D ≠ L → C ≠ D →
      RR (.ref D) C (.ok .next) { s with heap := h, toks := tk }) :
    wpAny (model prog w) A (pyIter (.ref r)) (Block prog w A E env scope cl (.ListComp elt [⟨target, iter, ifs, 0⟩] scope pos) RR) E s := by
  refine wpAny_pyIter_range hr (small_range ha ha' hb hb') ?_
  refine compW (s := { s with heap := s.heap.push _ }) (src := []) (Walks.range (prog := prog) (w := w) hh s.heap.objs.size a 1 (b - a).toNat) (by rw [sizeLine_eq]; omega)
    ?_ (fresh_of F) (Nat.ne_of_lt F.ns.lt) (fun p hp => Nat.ne_of_lt (Heap.lt_size (N p hp).1))
    (fun i h st => ⟨_, st⟩) (fun a ha => nomatch ha) (fun i v s' Q E' hPv hst hQ => by rw [htg]; exact wpAny_pure hQ) hcell hkind (F.push _) (newsPush N) J
    (fun a ha => nomatch ha) h0
    (fun i v ys news₁ h tk oI C oC D m₂ E' hi hPv hy hJ off ne cL dL c0 F₁ N₁ hn => ?_) done
  · show IsRangeIter _ _ (a + ((0 : Nat) : Int) * 1) (((b - a).toNat : Int) - ((0 : Nat) : Int)) 1
    rw [rangeSize_nat, show a + ((0 : Nat) : Int) * 1 = a from by omega, show (((b - a).toNat : Int) - ((0 : Nat) : Int)) = ((b - a).toNat : Int) from by omega]
    exact Heap.get?_push_size _ rfl
  · obtain ⟨tv, rfl⟩ := hPv
    rw [Int.mul_one]
    exact turn i tv ys news₁ h tk _ oI C oC D m₂ E' hi hy hJ off ne cL dL c0 F₁ N₁ hn

/-- the front of a comprehension in an expression's place -/
theorem comp_front {elt target iter : Expr} {ifs : List Expr} {scope : Scope} {cl : List (Str × Addr)} {pos : Pos} {Q : Value → Shared → Prop}
    (hclos : closureFor scope env = pure cl) (hkind : scope.kind = .function) (hnames : ∀ y ∈ scope.names, y.2 = .local → scope.names.lookup y.1 = some .local)
    (h : wpAny (model prog w) A (eval iter env) (fun xv s₁ => wpAny (model prog w) A (pyIter xv)
      (Block prog w A E env scope cl (.ListComp elt [⟨target, iter, ifs, 0⟩] scope pos) (fun acc C => compPost (model prog w) A E none Q acc C)) E s₁) E s)
    (hs : ∀ x, foldedSetIterable iter env x = pure x := by intro _; rfl) :
    wpAny (model prog w) A (eval (.ListComp elt [⟨target, iter, ifs, 0⟩] scope pos) env) Q E s := by
  rw [eval_ListComp]
  exact wpAny_comprehension_free (use := none) rfl hs hclos hkind hnames h
/-- its end -/
theorem comp_post {Q : Value → Shared → Prop} {D C : Addr} {m' : Str → Option Value} {ys : List Value} {s : Shared} (F : Fr h₀ L s.heap m) (N : News h₀ L s.heap ((D, lst ys) :: news)) (off : ∀ p ∈ news, p.1 ≠ D ∧ p.1 ≠ C) (hn : s.heap.Ns C m') (hC : h₀.get? C = none) (hCL : C ≠ L) (hCD : C ≠ D)
    (h : ∀ h', Fr h₀ L h' m → News h₀ L h' ((D, lst ys) :: news) → Q (.ref D) { s with heap := h' }) : compPost (model prog w) A E none Q (.ref D) C (.ok .next) s :=
  ⟨m', hn, fun h' hs' => h h' (frK F (fun b o hb e => hs'.extBut b o hb e) (Ne.symm hCL) hC) (newsK N (fun b o hb e => hs'.extBut b o hb e) fun p hp => by
    rcases List.mem_cons.mp hp with rfl | hp
    · exact Ne.symm hCD
    · exact (off p hp).2)⟩
/-- the same where the statement stores it in a local name at once -/
theorem compA_front {elt target iter : Expr} {ifs : List Expr} {scope : Scope} {cl : List (Str × Addr)} {pos spos : Pos} {y : Str} {py : Pos} {Q : Flow → Shared → Prop}
    (hsw : swapsWith (.ListComp elt [⟨target, iter, ifs, 0⟩] scope pos) (some (.Name y py)) spos.line env = pure true)
    (hclos : closureFor scope env = pure cl) (hkind : scope.kind = .function) (hnames : ∀ y ∈ scope.names, y.2 = .local → scope.names.lookup y.1 = some .local)
    (h : wpAny (model prog w) A (eval iter env) (fun xv s₁ => wpAny (model prog w) A (pyIter xv)
      (Block prog w A E env scope cl (.ListComp elt [⟨target, iter, ifs, 0⟩] scope pos) (fun acc C => compPost (model prog w) A E (some (assign (.Name y py) env)) (fun _ s' => Q .next s') acc C)) E s₁) E s)
    (hs : ∀ x, foldedSetIterable iter env x = pure x := by intro _; rfl) :
    wpAny (model prog w) A (exec (.Assign [.Name y py] (.ListComp elt [⟨target, iter, ifs, 0⟩] scope pos) spos) env) Q E s := by
  rw [exec_Assign_Name_used _ _ _ _ hsw]
  refine wpAny_bind (wpAny_standAt (wpAny_bind ?_))
  show wpAny _ A (do let _ ← comprehension (.ListComp elt [⟨target, iter, ifs, 0⟩] scope pos) scope env _ (newList []) false (eval iter env) (some (assign (.Name y py) env))) _ _ s
  exact wpAny_bind (wpAny_mono (wpAny_comprehension_free (use := some (assign (.Name y py) env)) (Q := fun _ s' => Q .next s') rfl hs hclos hkind hnames h) (fun _ s' hq => wpAny_pure (wpAny_pure hq)) fun _ _ e => e)
theorem compA_post {Q : Flow → Shared → Prop} {D C : Addr} {m' : Str → Option Value} {ys : List Value} {s : Shared} {y : Str} {py : Pos} (hL : env.locals = L) (hy : env.kindOf y = some .local) (hp : (env.scope.kind == .class || (env.scope.kind == .module && env.locals != env.globals)) = false)
    (F : Fr h₀ L s.heap m) (N : News h₀ L s.heap ((D, lst ys) :: news)) (off : ∀ p ∈ news, p.1 ≠ D ∧ p.1 ≠ C) (hn : s.heap.Ns C m') (hC : h₀.get? C = none) (hCL : C ≠ L) (hCD : C ≠ D)
    (h : ∀ h' tk, Fr h₀ L h' (upd m y (.ref D)) → News h₀ L h' ((D, lst ys) :: news) → Q .next { s with heap := h', toks := tk }) :
    compPost (model prog w) A E (some (assign (.Name y py) env)) (fun _ s' => Q .next s') (.ref D) C (.ok .next) s := by
  show wpAny _ A (assign (.Name y py) env (.ref D)) _ _ _
  subst hL
  refine asg1 F.ns hy hp fun h₂ tk₂ hn₂ k₂ => ?_
  have hnC : h₂.Ns C m' := hn.at' fun o e => k₂ _ o hCL e
  refine ⟨m', hnC, fun h' hs' => ?_⟩
  have F₂ := frL F hn₂ k₂
  have N₂ := newsL N k₂
  exact h h' tk₂ (frK F₂ (fun b o hb e => hs'.extBut b o hb e) (Ne.symm hCL) hC) (newsK N₂ (fun b o hb e => hs'.extBut b o hb e) fun p hp => by
    rcases List.mem_cons.mp hp with rfl | hp
    · exact Ne.symm hCD
    · exact (off p hp).2)
end

-- part L4
set_option maxHeartbeats 8000000
open LCg (NsObj lst)

section
variable {prog : Program} {w : World} {A : Around} {E : Value → Shared → Prop} {s : Shared} {env : Env} {h₀ : Heap} {L I C D : Addr} {oI oC oD : Obj} {m m₂ : Str → Option Value} {news : List (Addr × Obj)} {scope : Scope} {cl : List (Str × Addr)}

theorem behindC {h h' : Heap} {m' : Str → Option Value} (F : Fr h₀ L h m) (N : News h₀ L h ((I, oI) :: (C, oC) :: (D, oD) :: news)) (ne : I ≠ C ∧ I ≠ D ∧ C ≠ D) (off : ∀ p ∈ news, p.1 ≠ I ∧ p.1 ≠ C ∧ p.1 ≠ D)
    (hn : h'.Ns C m') (k : ∀ b o, b ≠ C → h.get? b = some o → h'.get? b = some o) : ∃ oC', Fr h₀ L h' m ∧ News h₀ L h' ((I, oI) :: (C, oC') :: (D, oD) :: news) ∧ NsObj oC' m' := by
  obtain ⟨oC', hoC, hnC⟩ := LCg.ns_obj hn
  have hC := N (C, oC) (List.mem_cons_of_mem _ List.mem_cons_self)
  refine ⟨oC', frK F k (Ne.symm hC.2.1) hC.2.2, ?_, hnC⟩
  intro p hp
  rcases List.mem_cons.mp hp with rfl | hp
  · have := N _ List.mem_cons_self
    exact ⟨k _ _ ne.1 this.1, this.2⟩
  rcases List.mem_cons.mp hp with rfl | hp
  · exact ⟨hoC, hC.2⟩
  rcases List.mem_cons.mp hp with rfl | hp
  · have := N (D, oD) (List.mem_cons_of_mem _ (List.mem_cons_of_mem _ List.mem_cons_self))
    exact ⟨k _ _ (Ne.symm ne.2.2) this.1, this.2⟩
  · have := N p (List.mem_cons_of_mem _ (List.mem_cons_of_mem _ (List.mem_cons_of_mem _ hp)))
    exact ⟨k _ _ (off p hp).2.1 this.1, this.2⟩

theorem asgC1 {x : Str} {p : Pos} {v : Value} {Q : Unit → Shared → Prop} (F : Fr h₀ L s.heap m) (N : News h₀ L s.heap ((I, oI) :: (C, oC) :: (D, oD) :: news)) (hn : NsObj oC m₂) (ne : I ≠ C ∧ I ≠ D ∧ C ≠ D) (off : ∀ p ∈ news, p.1 ≠ I ∧ p.1 ≠ C ∧ p.1 ≠ D)
    (hx : (compEnvC scope cl C env).kindOf x = some .local) (hp : ((compEnvC scope cl C env).scope.kind == .class || ((compEnvC scope cl C env).scope.kind == .module && (compEnvC scope cl C env).locals != (compEnvC scope cl C env).globals)) = false)
    (h : ∀ h' tk oC', Fr h₀ L h' m → News h₀ L h' ((I, oI) :: (C, oC') :: (D, oD) :: news) → NsObj oC' (upd m₂ x v) → Q () { s with heap := h', toks := tk }) :
    wpAny (model prog w) A (assign (.Name x p) (compEnvC scope cl C env) v) Q E s := by
  have hnC : s.heap.Ns (compEnvC scope cl C env).locals m₂ := hn.ns (N (C, oC) (List.mem_cons_of_mem _ List.mem_cons_self)).1
  refine asg1 hnC hx hp fun h' tk hn' k => ?_
  obtain ⟨oC', F', N', hC'⟩ := behindC F N ne off hn' k
  exact h h' tk oC' F' N' hC'

theorem asgC3 {x1 x2 x3 : Str} {p1 p2 p3 tp : Pos} {k : Nat} {t : Addr} {v1 v2 v3 : Value} {nt : Nat} {Q : Unit → Shared → Prop} (hh : A.handled = none) (F : Fr h₀ L s.heap m) (N : News h₀ L s.heap ((I, oI) :: (C, oC) :: (D, oD) :: news)) (hn : NsObj oC m₂) (ne : I ≠ C ∧ I ≠ D ∧ C ≠ D) (off : ∀ p ∈ news, p.1 ≠ I ∧ p.1 ≠ C ∧ p.1 ≠ D)
    (ht : (t, ({ cls := .type "tuple", data := .seq #[v1, v2, v3] nt } : Obj)) ∈ news)
    (hx1 : (compEnvC scope cl C env).kindOf x1 = some .local) (hx2 : (compEnvC scope cl C env).kindOf x2 = some .local) (hx3 : (compEnvC scope cl C env).kindOf x3 = some .local)
    (hp : ((compEnvC scope cl C env).scope.kind == .class || ((compEnvC scope cl C env).scope.kind == .module && (compEnvC scope cl C env).locals != (compEnvC scope cl C env).globals)) = false)
    (h : ∀ h' tk oC', Fr h₀ L h' m → News h₀ L h' ((I, oI) :: (C, oC') :: (D, oD) :: news) → NsObj oC' (upd (upd (upd m₂ x1 v1) x2 v2) x3 v3) → Q () { s with heap := h', toks := tk }) :
    wpAny (model prog w) A (assign (.Tuple [.Name x1 p1, .Name x2 p2, .Name x3 p3] k tp) (compEnvC scope cl C env) (.ref t)) Q E s := by
  have hnC : s.heap.Ns (compEnvC scope cl C env).locals m₂ := hn.ns (N (C, oC) (List.mem_cons_of_mem _ List.mem_cons_self)).1
  refine asg3 hh ⟨_, (N _ (List.mem_cons_of_mem _ (List.mem_cons_of_mem _ (List.mem_cons_of_mem _ ht)))).1, rfl, nt, rfl⟩ hnC hx1 hx2 hx3 hp fun h' tk hn' k => ?_
  obtain ⟨oC', F', N', hC'⟩ := behindC F N ne off hn' k
  exact h h' tk oC' F' N' hC'
end

section
variable {prog : Program} {w : World} {A : Around} {E : Value → Shared → Prop} {s : Shared} {h₀ : Heap} {L l : Addr} {m : Str → Option Value} {news news' : List (Addr × Obj)}
theorem wp_listItems {a : Addr} {o : Obj} {items : Array Value} {n : Nat} {Q : Array Value → Shared → Prop} {M : Model} (ho : s.heap.get? a = some o) (hd : o.data = .seq items n) (h : Q items s) : wpAny M A (Builtin.List.listItems (.ref a)) Q E s := by
  unfold Builtin.List.listItems
  exact wpAny_bind (wpAny_seqItems ho hd (wpAny_pure h))
theorem wp_allItems {a : Addr} {o : Obj} {items : Array Value} {n : Nat} {msg : String} {Q : Array Value → Shared → Prop} {M : Model} (ho : s.heap.get? a = some o) (hc : o.cls = .type "list") (hd : o.data = .seq items n) (h : Q items s) : wpAny M A (Builtin.List.listAllItems (.ref a) msg) Q E s := by
  have hT : s.TypeIs (.ref a) "list" := ⟨o, ho, hc⟩
  unfold Builtin.List.listAllItems
  refine wpAny_bind (wpAny_typeOf hT ?_)
  rw [if_pos (by decide)]
  first
    | exact wpAny_bind (wp_listItems ho hd (wpAny_pure h))
    | exact wp_listItems ho hd h
theorem setItem_all {sl D : Addr} {items new : Array Value} {ol : Obj} {n : Nat} {Q : Unit → Shared → Prop} (ho : s.heap.get? l = some ol) (hc : ol.cls = .type "list") (hd : ol.data = .seq items n)
    (hs : s.heap.IsSliceOf sl .none .none .none) (hD : s.heap.IsList D new) (hne : l ≠ D) (hz : items.size + new.size ≤ sizeLine)
    (h : Q () { s with heap := s.heap.update l (Obj.mapSeq fun xs => xs.extract 0 0 ++ new ++ xs.extract items.size xs.size) }) :
    wpAny (model prog w) A (setItem (.ref l) (.ref sl) (.ref D)) Q E s := by
  have hT : s.TypeIs (.ref l) "list" := ⟨ol, ho, hc⟩
  obtain ⟨os, hos, hcs, hds⟩ := id hs
  have hTs : s.TypeIs (.ref sl) "slice" := ⟨os, hos, hcs⟩
  unfold setItem
  try with_reducible refine wpAny_holding ?_
  first | refine wpAny_bind (wpAny_pure ?_) | skip
  refine wpAny_bind (wpAny_sequenceKey hT (by decide) ?_)
  refine wpAny_bind (wpAny_callSpecial?_slot (name := Str.ofString "__setitem__") hT slot_list_setitem
    (wpAny_call_entry slot_list_setitem hT entry_list_setitem ?_ (args_list_setitem _ _ _)))
  show wpAny _ _ (Builtin.List.listSubscript? (.ref sl) >>= _) _ _ s
  refine wpAny_bind ?_
  unfold Builtin.List.listSubscript?
  refine wpAny_bind (wpAny_specialOf hTs slice_no_index ?_)
  simp only [Option.isNone_none, if_true]
  refine wpAny_pure ?_
  show wpAny _ _ (typeOf (.ref sl) >>= _) _ _ s
  refine wpAny_bind (wpAny_typeOf hTs ?_)
  rw [if_neg (by decide)]
  rw [listSliceParts_eq]
  refine wpAny_bind (wpAny_bind (wpAny_field hos hds (x := .none) rfl (wpAny_bind (wpAny_listPart .none ?_))))
  rw [if_neg (by exact Bool.false_ne_true)]
  refine wpAny_bind (wpAny_field hos hds (x := .none) rfl (wpAny_bind (wpAny_listPart .none ?_)))
  refine wpAny_bind (wpAny_field hos hds (x := .none) rfl (wpAny_bind (wpAny_listPart .none (wpAny_pure ?_))))
  have e1 : Builtin.List.listSameRef (.ref l) (.ref D) = false := by
    show (l == D) = false
    simpa using hne
  dsimp only
  rw [e1]
  simp only [Bool.false_eq_true, if_false]
  obtain ⟨oD, hoD, hcD, nD, hdD⟩ := id hD
  refine wpAny_bind (wp_allItems hoD hcD hdD ?_)
  refine wpAny_bind (wp_listItems ho hd ?_)
  refine wpAny_bind (wpAny_of_eq (sliceIndices_raw none none none items.size (by decide)) ?_)
  have e2 : sliceBounds none none none items.size = (0, (items.size : Int), 1) := by simp [sliceBounds]
  rw [e2]
  dsimp only
  rw [if_pos (by decide)]
  refine wpAny_bind (wpAny_rule ?_)
  have e3 : Builtin.List.listTooLong (items.size + new.size) = false := by
    unfold Builtin.List.listTooLong
    simp only [decide_eq_false_iff_not]
    omega
  rw [e3]
  simp only [Bool.false_eq_true, if_false]
  refine wpAny_bind ?_
  unfold Builtin.List.listUpdate
  have e4 : (max (0 : Int) (items.size : Int)).toNat = items.size := by omega
  rw [e4]
  refine wpAny_updateSeq ho hd ?_ (by omega) ?_
  · refine wpAny_bind (wpAny_letGo ?_)
    exact wpAny_bind (wpAny_pure (wpAny_pure ⟨.none, rfl, wpAny_pure h⟩))
  · simp only [Array.size_append, Array.size_extract]
    omega

theorem mapSeq_all (its new : Array Value) (n : Nat) :
    Obj.mapSeq (fun xs => xs.extract 0 0 ++ new ++ xs.extract its.size xs.size) { cls := .type "list", data := .seq its n } = { cls := .type "list", data := .seq new (if new.size == its.size then n else n + 1) } := by
  have e : its.extract 0 0 ++ new ++ its.extract its.size its.size = new := by simp
  simp only [Obj.mapSeq, e]

theorem setall_K {D : Addr} {ys : List Value} {nD n : Nat} {its : Array Value} {Q : Unit → Shared → Prop} (F : Fr h₀ L s.heap m) (N : News h₀ L s.heap news) (hD : (D, ({ cls := .type "list", data := .seq ys.toArray nD } : Obj)) ∈ news) (hne : @Ne Nat l D)
    (U : Upd l (PySem.W.listOf its n) (PySem.W.listOf ys.toArray (if ys.toArray.size == its.size then n else n + 1)) news news') (hz : its.size + ys.length ≤ sizeLine)
    (h : ∀ h', Fr h₀ L h' m → News h₀ L h' news' → Q () { s with heap := h' }) :
    wpAny (model prog w) A (setItem (.ref l) (.ref s.heap.objs.size) (.ref D)) Q E { s with heap := s.heap.push { cls := .type "slice", data := .fields #[.none, .none, .none] } } := by
  obtain ⟨pre, post, rfl, rfl, a, b⟩ := U.split
  have z := N (l, PySem.W.listOf its n) (List.mem_append.mpr (.inr (.head _)))
  have zl : (s.heap.push { cls := .type "slice", data := .fields #[.none, .none, .none] }).get? l = some (PySem.W.listOf its n) := Heap.get?_push_of_some _ z.1
  refine setItem_all zl rfl rfl (Heap.IsSliceOf.new ..) ⟨_, Heap.get?_push_of_some _ (N _ hD).1, rfl, _, rfl⟩ hne (by rw [List.size_toArray]; exact hz) ?_
  refine h _ ((F.push _).change (Heap.SameBut.update ..) z.2.1 z.2.2) (news_set (newsPush N) a b (Heap.SameBut.update ..) ?_)
  rw [Heap.get?_update_self _ zl (by rw [mapSeq_all]; rfl), mapSeq_all]
end

-- part L5
set_option maxHeartbeats 8000000
open LCg (NsObj lst)
section
variable {prog : Program} {w : World} {A : Around} {E : Value → Shared → Prop} {s : Shared} {env : Env} {h₀ : Heap} {L I : Addr} {m : Str → Option Value} {news : List (Addr × Obj)}
theorem compCore {target elt iter : Expr} {ifs : List Expr} {scope : Scope} {cl : List (Str × Addr)} {pos : Pos} {RR : Value → Addr → Result → Shared → Prop} {src : List Addr} {n : Nat} {P : Nat → Value → Prop} {St : Nat → Heap → Prop} {C D : Addr} {oC₁ : Obj} {m₁ : Str → Option Value}
    (W : Walks prog w A I (I :: src) [I] n P St) (hsz : n ≤ sizeLine) (hst₁ : St 0 s.heap) (hI : h₀.get? I = none) (hIL : L ≠ I)
    (hIo : ∀ i h, St i h → ∃ o, h.get? I = some o)
    (hgo : ∀ i v (s' : Shared) (Q : Unit → Shared → Prop) (E' : Value → Shared → Prop), P i v → St (i + 1) s'.heap → Q () s' → wpAny (model prog w) A (letOwnedTupleGo target (.ref I) v) Q E' s')
    (hDC : D ≠ C) (hCI : I ≠ C) (hDI : I ≠ D) (hCL : C ≠ L) (hDL : D ≠ L) (hC₀ : h₀.get? C = none) (hD₀ : h₀.get? D = none)
    (F : Fr h₀ L s.heap m) (N₁ : News h₀ L s.heap ((C, oC₁) :: (D, lst []) :: news)) (hnC₁ : NsObj oC₁ m₁) (off₀ : ∀ p ∈ news, p.1 ≠ I ∧ p.1 ≠ C ∧ p.1 ≠ D) (J : Nat → List Value → List (Addr × Obj) → Prop)
    (hsrc : ∀ a ∈ src, ∃ o, ∀ i ys news, J i ys news → h₀.get? a = some o ∨ (a, o) ∈ news)
    (h0 : J 0 [] news)
    (turn : ∀ i v ys news₁ h tk oI C oC D m₂ (E' : Value → Shared → Prop), i < n → P i v → ys.length ≤ i → J i ys news₁ → (∀ p ∈ news₁, p.1 ≠ I ∧ p.1 ≠ C ∧ p.1 ≠ D) → (I ≠ C ∧ I ≠ D ∧ C ≠ D) → C ≠ L → D ≠ L → h₀.get? C = none →
      Fr h₀ L h m → News h₀ L h ((I, oI) :: (C, oC) :: (D, lst ys) :: news₁) → NsObj oC m₂ →
      wpAny (model prog w) A (assign target (compEnvC scope cl C env) v) (fun _ s₂ =>
        wpAny (model prog w) A (forIn ifs true fun c r => if r = true then do let ok ← isTrue c (compEnvC scope cl C env) (eval c (compEnvC scope cl C env)); pure (ForInStep.yield ok) else pure (ForInStep.yield r)) (fun ok s₃ =>
          if ok = true then wpAny (model prog w) A (eval elt (compEnvC scope cl C env)) (fun y s₄ => ElEnd h₀ L m I oI C D ys (J (i + 1)) s (ys ++ [y]) s₄) E' s₃
          else ElEnd h₀ L m I oI C D ys (J (i + 1)) s ys s₃) E' s₂) E' { s with heap := h, toks := tk })
    (done : ∀ h tk m' ys news', J n ys news' → Fr h₀ L h m → News h₀ L h ((D, lst ys) :: news') → (∀ p ∈ news', p.1 ≠ D ∧ p.1 ≠ C) → h.Ns C m' →
      RR (.ref D) C (.ok .next) { s with heap := h, toks := tk }) :
    codeAny (model prog w) A (.compLoop (.ListComp elt [⟨target, iter, ifs, 0⟩] scope pos) 0 (.ref I) (.ref D) (compEnvC scope cl C env)) (RR (.ref D) C) s := by
  refine compLoop_gen
    (fun k s' => ∃ h' tk i ys m' news' oC, s' = { s with heap := h', toks := tk } ∧ i ≤ n ∧ k = n + 1 - i ∧ ys.length ≤ i ∧ St i h' ∧ Fr h₀ L h' m ∧ NsObj oC m' ∧ News h₀ L h' ((C, oC) :: (D, lst ys) :: news') ∧
      (∀ p ∈ news', p.1 ≠ I ∧ p.1 ≠ C ∧ p.1 ≠ D) ∧ J i ys news') ?_ (n + 1)
    ⟨s.heap, _, 0, [], _, news, oC₁, rfl, Nat.zero_le _, rfl, Nat.le_refl _, hst₁, F, hnC₁, N₁, off₀, h0⟩
  rintro k s' ⟨h', tk, i, ys, m', news', oC, rfl, hi, rfl, hyl, hst', F', hnC, N', off', hJ⟩
  have offA : ∀ p ∈ (C, oC) :: (D, lst ys) :: news', p.1 ≠ I := fun p hp => by
    rcases List.mem_cons.mp hp with rfl | hp
    · exact Ne.symm hCI
    · rcases List.mem_cons.mp hp with rfl | hp
      · exact Ne.symm hDI
      · exact (off' p hp).1
  by_cases hlt' : i < n
  · refine W.item i _ _ _ hlt' hst' fun v h₂ tk₂ hPv hst₂ hk₂ => ?_
    have k₂ : ∀ b o, b ≠ I → h'.get? b = some o → h₂.get? b = some o := fun b o hb e => hk₂ b o (by simpa using hb) e
    obtain ⟨oI, hoI⟩ := hIo _ _ hst₂
    have F₂ := frK F' k₂ hIL hI
    have N₂ := newsCons (newsK N' k₂ offA) hoI (Ne.symm hIL) hI
    refine hgo i v _ _ _ hPv hst₂ ?_
    -- behind a turn: the list grown or not
    have fin : ∀ ys' s₅, ys'.length ≤ i + 1 → (∃ h' tk news' oC' m₂', s₅ = { s with heap := h', toks := tk } ∧ Fr h₀ L h' m ∧ News h₀ L h' ((I, oI) :: (C, oC') :: (D, lst ys') :: news') ∧
        (∀ p ∈ news', p.1 ≠ I ∧ p.1 ≠ C ∧ p.1 ≠ D) ∧ NsObj oC' m₂' ∧ J (i + 1) ys' news') →
        ∃ m_1, m_1 < n + 1 - i ∧ ∃ h' tk i ys m' news' oC, s₅ = { s with heap := h', toks := tk } ∧ i ≤ n ∧ m_1 = n + 1 - i ∧ ys.length ≤ i ∧ St i h' ∧ Fr h₀ L h' m ∧ NsObj oC m' ∧ News h₀ L h' ((C, oC) :: (D, lst ys) :: news') ∧
          (∀ p ∈ news', p.1 ≠ I ∧ p.1 ≠ C ∧ p.1 ≠ D) ∧ J i ys news' := by
      rintro ys' s₅ hy' ⟨h₄, tk₄, news₄, oC₄, m₄, rfl, F₄, N₄, off₄, hnC₄, hJ₄⟩
      refine ⟨n + 1 - (i + 1), by omega, h₄, tk₄, i + 1, ys', m₄, news₄, oC₄, rfl, hlt', rfl, hy', ?_, F₄, hnC₄, newsSub N₄ fun p hp => List.mem_cons_of_mem _ hp, off₄, hJ₄⟩
      refine W.frame _ _ _ hst₂ fun b hb o e => ?_
      rcases List.mem_cons.mp hb with rfl | hb
      · have := (N₄ _ (List.mem_cons_self)).1
        rw [hoI] at e; cases e; exact this
      · obtain ⟨o', ho'⟩ := hsrc b hb
        have e' : h₂.get? b = some o' := by
          rcases ho' _ _ _ hJ with q | q
          · exact F₂.keep _ _ q
          · exact (N₂ _ (List.mem_cons_of_mem _ (List.mem_cons_of_mem _ (List.mem_cons_of_mem _ q)))).1
        rw [e'] at e; cases e
        rcases ho' _ _ _ hJ₄ with q | q
        · exact F₄.keep _ _ q
        · exact (N₄ _ (List.mem_cons_of_mem _ (List.mem_cons_of_mem _ (List.mem_cons_of_mem _ q)))).1
    refine wpAny_mono (turn i v ys news' h₂ tk₂ oI _ oC _ m' _ hlt' hPv hyl hJ off' ⟨hCI, hDI, Ne.symm hDC⟩ hCL hDL hC₀ F₂ N₂ hnC)
      (fun _ s₂ q₂ => wpAny_mono q₂ (fun ok s₃ q₃ => ?_) fun _ _ e => e) fun _ _ e => e
    cases ok with
    | false =>
      simp only [Bool.false_eq_true, if_false] at q₃ ⊢
      obtain ⟨h₄, tk₄, news₄, oC₄, m₄, e, F₄, N₄, off₄, hnC₄, hJ₄⟩ := q₃
      exact fin ys s₃ (Nat.le_succ_of_le hyl) ⟨h₄, tk₄, news₄, oC₄, m₄, e, F₄, N₄, off₄, hnC₄, hJ₄⟩
    | true =>
      simp only [if_true] at q₃ ⊢
      refine wpAny_mono q₃ (fun y s₄ q₄ => ?_) fun _ _ e => e
      obtain ⟨h₄, tk₄, news₄, oC₄, m₄, rfl, F₄, N₄, off₄, hnC₄, hJ₄⟩ := q₄
      have zD : h₄.get? D = some (lst ys) := (N₄ _ (List.mem_cons_of_mem _ (List.mem_cons_of_mem _ List.mem_cons_self))).1
      refine append_at (hsz := by show ys.toArray.size ≤ sizeLine; rw [List.size_toArray]; omega) zD fun h₅ hs₅ hD₅ => ?_
      have k₅ : ∀ b o, b ≠ D → h₄.get? b = some o → h₅.get? b = some o := fun b o hb e => hs₅.extBut b o hb e
      refine fin (ys ++ [y]) _ (by rw [List.length_append, List.length_singleton]; omega) ⟨h₅, tk₄, news₄, oC₄, m₄, rfl, frK F₄ k₅ (Ne.symm hDL) hD₀, ?_, off₄, hnC₄, hJ₄⟩
      intro p hp
      rcases List.mem_cons.mp hp with rfl | hp
      · exact ⟨k₅ _ _ hDI (N₄ _ List.mem_cons_self).1, (N₄ _ List.mem_cons_self).2⟩
      · rcases List.mem_cons.mp hp with rfl | hp
        · exact ⟨k₅ _ _ (Ne.symm hDC) (N₄ _ (List.mem_cons_of_mem _ List.mem_cons_self)).1, (N₄ _ (List.mem_cons_of_mem _ List.mem_cons_self)).2⟩
        · rcases List.mem_cons.mp hp with rfl | hp
          · exact ⟨by rw [hD₅, LCg.lst_snoc], hDL, hD₀⟩
          · have := N₄ p (List.mem_cons_of_mem _ (List.mem_cons_of_mem _ (List.mem_cons_of_mem _ hp)))
            exact ⟨k₅ _ _ (off₄ p hp).2.2 this.1, this.2⟩
  · have hin : i = n := by omega
    subst hin
    refine W.done _ _ _ hst' fun h₂ tk₂ hk₂ => ?_
    have k₂ : ∀ b o, b ≠ I → h'.get? b = some o → h₂.get? b = some o := fun b o hb e => hk₂ b o (by simpa using hb) e
    have N₂ := newsK N' k₂ offA
    exact done h₂ tk₂ m' ys news' hJ (frK F' k₂ hIL hI) (newsSub N₂ fun p hp => List.mem_cons_of_mem _ hp) (fun p hp => ⟨(off' p hp).2.2, (off' p hp).2.1⟩) (hnC.ns (N₂ _ List.mem_cons_self).1)

/-- an empty cell -/
noncomputable def cell0 : Obj := { cls := .type "cell", data := .cell none }
theorem newFE_cell {M : Model} {scope : Scope} {globals : Addr} {closure cl' : List (Str × Addr)} {qual : Str} {func : Option Addr} {code : Value} {outer : Env} {builtins : Addr} {Q : Env → Shared → Prop}
    (hc : cellsFrom (s.heap.objs.size + 1) scope.names closure = cl') (hp : pushCells (s.heap.push { cls := .type "dict", data := .dict #[] }) scope.names = (s.heap.push { cls := .type "dict", data := .dict #[] }).push cell0)
    (h : Q (newEnv scope s.heap.objs.size globals cl' qual func code (some outer) builtins) { s with heap := (s.heap.push { cls := .type "dict", data := .dict #[] }).push cell0 }) :
    wpAny M A (newFunctionEnv scope globals closure [] qual func code (some outer) builtins) Q E s := by
  simp only [newFunctionEnv, Option.isSome_some, if_true]
  refine wpAny_bind (wpAny_alloc ?_)
  refine wpAny_bind (wpAny_layCells _ (fun name kind cells => by cases hkc : kind == NameKind.cell <;> simp) _ _ _ _ ?_)
  rw [show ({ s with heap := s.heap.push { cls := .type "dict", data := .dict #[] } } : Shared).heap.objs.size = s.heap.objs.size + 1 from Heap.size_push ..]
  rw [hc, hp]
  rw [List.forIn_nil]
  exact wpAny_bind (wpAny_pure (wpAny_pure h))

/-- a comprehension over a list, its target a cell -/
theorem compLc {elt target iter : Expr} {ifs : List Expr} {scope : Scope} {cl : List (Str × Addr)} {pos : Pos} {x : Str} {RR : Value → Addr → Result → Shared → Prop} {l : Addr} {ol : Obj} {items : Array Value} {nn : Nat}
    (hh : A.handled = none) (hc : ol.cls = .type "list") (hd : ol.data = .seq items nn) (hsz : items.size ≤ sizeLine)
    (htg : ∀ it v, letOwnedTupleGo target it v = pure ())
    (hcell : ∀ k, cellsFrom k scope.names cl = (x, k) :: cl) (hpush : ∀ h : Heap, pushCells h scope.names = h.push cell0) 
    (F : Fr h₀ L s.heap m) (N : News h₀ L s.heap news) (J : Addr → Nat → List Value → List (Addr × Obj) → Prop)
    (hsrc : ∀ c i ys news, J c i ys news → h₀.get? l = some ol ∨ (l, ol) ∈ news)
    (h0 : ∀ c, (∀ p ∈ news, p.1 < c) → J c 0 [] ((c, cell0) :: news))
    (turn : ∀ (c : Addr) (i : Nat) v ys news₁ h tk I oI C oC D m₂ (E' : Value → Shared → Prop), items[i]? = some v → ys.length ≤ i → J c i ys news₁ → (∀ p ∈ news₁, p.1 ≠ I ∧ p.1 ≠ C ∧ p.1 ≠ D) → (I ≠ C ∧ I ≠ D ∧ C ≠ D) → C ≠ L → D ≠ L → h₀.get? C = none →
      Fr h₀ L h m → News h₀ L h ((I, oI) :: (C, oC) :: (D, lst ys) :: news₁) → NsObj oC m₂ →
      wpAny (model prog w) A (assign target (compEnvC scope ((x, c) :: cl) C env) v) (fun _ s₂ =>
        wpAny (model prog w) A (forIn ifs true fun c' r => if r = true then do let ok ← isTrue c' (compEnvC scope ((x, c) :: cl) C env) (eval c' (compEnvC scope ((x, c) :: cl) C env)); pure (ForInStep.yield ok) else pure (ForInStep.yield r)) (fun ok s₃ =>
          if ok = true then wpAny (model prog w) A (eval elt (compEnvC scope ((x, c) :: cl) C env)) (fun y s₄ => ElEnd h₀ L m I oI C D ys (J c (i + 1)) s (ys ++ [y]) s₄) E' s₃
          else ElEnd h₀ L m I oI C D ys (J c (i + 1)) s ys s₃) E' s₂) E' { s with heap := h, toks := tk })
    (done : ∀ c D C h tk m' ys news', J c items.size ys news' → Fr h₀ L h m → News h₀ L h ((D, lst ys) :: news') → (∀ p ∈ news', p.1 ≠ D ∧ p.1 ≠ C) → h.Ns C m' → h₀.get? C = none → h₀.get? D = none → C ≠ L → D ≠ L → C ≠ D →
      RR (.ref D) C (.ok .next) { s with heap := h, toks := tk }) :
    wpAny (model prog w) A (pyIter (.ref l)) (Block prog w A E env scope cl (.ListComp elt [⟨target, iter, ifs, 0⟩] scope pos) RR) E s := by
  have hol : s.heap.get? l = some ol := by
    rcases h0 s.heap.objs.size (fun p hp => Heap.lt_size (N p hp).1) |> hsrc _ _ _ _ with q | q
    · exact F.keep _ _ q
    · rcases List.mem_cons.mp q with q | q
      · exfalso
        cases q
        cases hd
      · exact (N _ q).1
  have hls : s.heap.IsList l items := ⟨ol, hol, hc, nn, hd⟩
  refine wpAny_pyIter_list hls ?_
  have hlt : l < s.heap.objs.size := Heap.lt_size hol
  unfold Block
  refine wpAny_newObj_type ?_
  refine newFE_cell (cl' := (x, s.heap.objs.size + 1 + 1 + 1) :: cl) ?_ (hpush _) ?_
  · simp only [Heap.size_push]
    exact hcell _
  show codeAny _ _ (.compStart _ 0 _ _ (compEnvC scope ((x, s.heap.objs.size + 1 + 1 + 1) :: cl) ((s.heap.push _).push _).objs.size env)) (RR (.ref (s.heap.push _).objs.size) ((s.heap.push _).push _).objs.size) _
  simp only [Heap.size_push]
  generalize hH : ((((s.heap.push { cls := .type "list_iterator", data := .fields #[.ref l, .int 0 0] }).push { cls := .type "list", dict := none, data := .seq ([] : List Value).toArray }).push { cls := .type "dict", data := .dict #[] }).push cell0) = H4
  have old : ∀ b o, s.heap.get? b = some o → H4.get? b = some o := fun b o e => hH ▸ Heap.get?_push_of_some _ (Heap.get?_push_of_some _ (Heap.get?_push_of_some _ (Heap.get?_push_of_some _ e)))
  have gI : H4.get? s.heap.objs.size = some { cls := .type "list_iterator", data := .fields #[.ref l, .int 0 0] } := hH ▸ Heap.get?_push_of_some _ (Heap.get?_push_of_some _ (Heap.get?_push_of_some _ (Heap.get?_push_size _ rfl)))
  have gD : H4.get? (s.heap.objs.size + 1) = some (lst []) := by
    have e := Heap.get?_push_size (o := lst []) (s.heap.push { cls := .type "list_iterator", data := .fields #[.ref l, .int 0 0] }) rfl
    rw [Heap.size_push] at e
    exact hH ▸ Heap.get?_push_of_some _ (Heap.get?_push_of_some _ e)
  have nC : H4.Ns (s.heap.objs.size + 1 + 1) (fun _ => none) := by
    have := (Heap.Ns.new ((s.heap.push { cls := .type "list_iterator", data := .fields #[.ref l, .int 0 0] }).push { cls := .type "list", dict := none, data := .seq ([] : List Value).toArray }) (.type "dict")).keeps (h' := H4) (fun b o e => hH ▸ Heap.get?_push_of_some _ e)
    rw [Heap.size_push, Heap.size_push] at this
    exact this
  have gc : H4.get? (s.heap.objs.size + 1 + 1 + 1) = some cell0 := by
    have e := Heap.get?_push_size (o := cell0) (((s.heap.push { cls := .type "list_iterator", data := .fields #[.ref l, .int 0 0] }).push { cls := .type "list", dict := none, data := .seq ([] : List Value).toArray }).push { cls := .type "dict", data := .dict #[] }) rfl
    rw [Heap.size_push, Heap.size_push, Heap.size_push] at e
    exact hH ▸ e
  have fresh₀ : ∀ a, s.heap.objs.size ≤ a → h₀.get? a = none := fun a ha => by
    cases e : h₀.get? a with
    | none => rfl
    | some o' => exact absurd (Heap.lt_size (F.keep a o' e)) (Nat.not_lt.mpr ha)
  have hLlt : L < s.heap.objs.size := F.ns.lt
  obtain ⟨oC₁, hoC₁, hnC₁⟩ := LCg.ns_obj nC
  generalize hz : s.heap.objs.size = z at *
  have ltN : ∀ p ∈ news, @LT.lt Nat _ p.1 z := fun p hp => hz ▸ Heap.lt_size (N p hp).1
  have hLlt' : @LT.lt Nat _ L z := hLlt
  have nL : ∀ k, z ≤ k → @Ne Nat k L := fun k hk => by omega
  have Nn : News h₀ L H4 ((z + 1 + 1, oC₁) :: (z + 1, lst []) :: (z + 1 + 1 + 1, cell0) :: news) :=
    newsCons (newsCons (newsCons (fun p hp => ⟨old _ _ (N p hp).1, (N p hp).2⟩) gc (nL _ (by omega)) (fresh₀ _ (by omega))) gD (nL _ (by omega)) (fresh₀ _ (by omega))) hoC₁ (nL _ (by omega)) (fresh₀ _ (by omega))
  have hstI : ∀ o, H4.get? z = some o → True := fun _ _ => trivial
  have loop : ∀ s₃ : Shared, s₃ = { s with heap := H4 } →
      codeAny (model prog w) A (.compLoop (.ListComp elt [⟨target, iter, ifs, 0⟩] scope pos) 0 (.ref z) (.ref (z + 1)) (compEnvC scope ((x, z + 1 + 1 + 1) :: cl) (z + 1 + 1) env))
        (RR (.ref (z + 1)) (z + 1 + 1)) s₃ := by
    rintro s₃ rfl
    refine compCore (s := { s with heap := H4 }) (src := [l]) (Walks.list (prog := prog) (w := w) hh z l (Nat.ne_of_lt hlt) items) hsz
      ⟨⟨_, gI, rfl, rfl⟩, hls.at fun o e => old _ _ e⟩ (fresh₀ _ (Nat.le_refl _)) (Ne.symm (nL z (Nat.le_refl _))) (fun i h st => ⟨_, st.1.choose_spec.1⟩) (fun i v s' Q E' hPv hst hQ => by rw [htg]; exact wpAny_pure hQ)
      (show @Ne Nat _ _ by omega) (show @Ne Nat _ _ by omega) (show @Ne Nat _ _ by omega) (nL _ (by omega)) (nL _ (by omega)) (fresh₀ _ (by omega)) (fresh₀ _ (by omega)) (F.keeps old) Nn hnC₁ ?_ (J (z + 1 + 1 + 1))
      (fun a ha => ⟨ol, fun i m news hJ => by rw [List.mem_singleton.mp ha]; exact hsrc _ _ _ _ hJ⟩) (h0 _ fun p hp => by have := ltN p hp; show @LT.lt Nat _ _ _; omega)
      (fun i v ys news₁ h tk oI C oC D m₂ E' hi hPv hy hJ off ne cL dL c0 F₁ N₁ hn => turn _ i v ys news₁ h tk _ oI C oC D m₂ E' hPv hy hJ off ne cL dL c0 F₁ N₁ hn)
      (fun h tk m' ys news' hJ F₁ N₁ off hn => done _ _ _ h tk m' ys news' hJ F₁ N₁ off hn (fresh₀ _ (by omega)) (fresh₀ _ (by omega)) (nL _ (by omega)) (nL _ (by omega)) (show @Ne Nat _ _ by omega))
    intro p hp
    rcases List.mem_cons.mp hp with rfl | hp
    · exact ⟨show @Ne Nat _ _ by omega, show @Ne Nat _ _ by omega, show @Ne Nat _ _ by omega⟩
    · have := ltN p hp
      exact ⟨show @Ne Nat _ _ by omega, show @Ne Nat _ _ by omega, show @Ne Nat _ _ by omega⟩
  have W := Walks.list (prog := prog) (w := w) hh z l (Nat.ne_of_lt hlt) items
  exact codeAny_compStart_list (loop _ rfl) (W.self 0 _ _ _ ⟨⟨_, gI, rfl, rfl⟩, hls.at fun o e => old _ _ e⟩ (loop _ rfl))
end

-- part Mac
set_option maxHeartbeats 8000000
structure Cx (w : World) (A₀ : Around) (base h₀ : Heap) (outer : List Env) (env : Env) (L : Addr) (m mg mb : Str → Option Value) (mean : ExcName → Option Value) (news : List (Addr × Obj)) (h : Heap) : Prop where
  B : Below A₀ base outer h₀
  F : Fr h₀ L h m
  X : (heapD w.params).In h₀
  N : News h₀ L h news
  T : Top viewD (looseW viewD [Str.ofString "_name_disallowed_re", Str.ofString "_value_disallowed_re", Str.ofString "Whitespace"]) mean mg mb h₀
  hf : env.frame = some L
  hk : env.scope.kind = .function

local macro_rules | `(tactic| k_room) => `(tactic| ((try simp only [depth_under_make, depth_under_kw, depth_in1, depth_deeper, depth_caller]); (have hLim9 : recursionLimit = 1000 := rfl); omega))
local macro_rules | `(tactic| k_units) => `(tactic| ((have hLim9 : cLine = 9900 := rfl); (try simp only [units_in1, units_deeper, Around.mark_units, units_caller]); (try dsimp only); omega))
noncomputable abbrev tupO (vs : List Value) (n : Nat) : Obj := { cls := .type "tuple", data := .seq vs.toArray n }
noncomputable abbrev lstO (vs : List Value) (n : Nat) : Obj := { cls := .type "list", data := .seq vs.toArray n }
theorem allLt_mem {d : Addr} {l : List (Addr × Obj)} (h : AllLt d l) : ∀ p ∈ l, @LT.lt Nat _ p.1 d := by
  induction l with
  | nil => exact fun p hp => nomatch hp
  | cons q r ih =>
    intro p hp
    rcases List.mem_cons.mp hp with e | hp
    · rw [e]; exact h.1
    · exact ih h.2 p hp
local macro_rules | `(tactic| k_all) => `(tactic| (intro p9 hp9; (repeat (rename (_ ∧ _) => c9; cases c9)); (repeat (rename AllLt _ _ => a9; first | (replace a9 := allLt_mem a9 _ hp9) | clear a9)); (refine neN ?_); (try dsimp only); omega))
local macro_rules | `(tactic| k_all) => `(tactic| assumption)
local macro_rules | `(tactic| walk_at "eval ListComp") => `(tactic| (k_here; (with_reducible show wpAny _ _ (eval (PySem.Expr.ListComp _ _ _ _) _) _ _ _); k_dflt (refine comp_front (by with_unfolding_all rfl) (by rfl) (by decide) ?_)))
local macro_rules | `(tactic| k_enter) => `(tactic| first |
  (refine' code_defC ?k1 ?k2 ?k3 ?k4 ?k5 ?kA ?kF ?kK ?k6 ?k7 ?k8 ?k9 ?kB ?kD ?_ ?c2 ?c3 ?c4; (case kA => exact rfl); (case kF | kK => first | exact rfl | assumption); (case k1 | k2 | k3 | k4 | k5 => k_asm); (case k6 | k7 => k_is); (case k8 => k_room); (case k9 => first | exact BindsTo.of_eq rfl | exact binds_K (by k_in) rfl (by k_is) rfl rfl rfl | fail "k_enter: no rule for these arguments"); (case kB => exact rfl); (case kD => decide +kernel); (case c2 | c3 | c4 => exact rfl); k_whole; intro g' L' h' tk' cells' FG' F' N' Y' B' X' T' l1; (try k_lt l1); k_cells Y'; (try simp only [List.cons_append, List.nil_append] at N'); (try dsimp only); (try k_lift B'); (try k_fold)) | fail "k_enter: no entry")
local macro_rules | `(tactic| k_enter) => `(tactic| first |
  (refine' code_def ?k1 ?k2 ?k3 ?k4 ?k5 ?kA ?kF ?kK ?k6 ?k7 ?k8 ?k9 ?kB ?_ ?c2 ?c3 ?c4 ?c5; (case kA => exact rfl); (case kF | kK => first | exact rfl | assumption); (case k1 | k2 | k3 | k4 | k5 => k_asm); (case k6 | k7 => k_is); (case k8 => k_room); (case k9 => first | exact BindsTo.of_eq rfl | exact binds_K (by k_in) rfl (by k_is) rfl rfl rfl | fail "k_enter: no rule for these arguments"); (case c5 => decide); (case kB => exact locs rfl); (case c2 | c3 | c4 => exact rfl); k_whole; intro g' L' h' FG' F' N' B' X' T'; (try dsimp only); (try k_lift B'); (try k_fold)) | fail "k_enter: no entry")
local macro_rules | `(tactic| k_mem) => `(tactic| assumption)

noncomputable def okN (x : Str) : Prop := (∀ c ∈ x.cps.toList, 31 < c ∧ c < 127) ∧ x.cps.size ≤ 1000
noncomputable def okV (x : Str) : Prop := (∀ c ∈ x.cps.toList, c = 9 ∨ (31 < c ∧ c < 127)) ∧ x.cps.size ≤ 1000

section
variable {prog : Program} {w : World} {A : Around} {E : Value → Shared → Prop} {s : Shared} {K : Frag} {h₀ : Heap} {L : Addr} {m : Str → Option Value}
theorem getMethod_pat {p : Addr} {dt : Data} {sl : Array (Option Value)} {pl : Sem Bool} {Q : Value × List Value → Shared → Prop} (F : Fr h₀ L s.heap m) (X : K.In h₀) (hl : K.lookup p = some ⟨.type "re.Pattern", none, dt, sl⟩)
    (h : Q (.builtin "re.Pattern.search", [.ref p]) s) : wpAny (model prog w) A (getMethod (.ref p) "search" pl) Q E s :=
  have hp := F.keep _ _ (X _ _ hl)
  getMethod_builtin (T := "re.Pattern") ⟨_, hp, rfl⟩ attrs_pattern slot_search type_search (fun a e => by cases e; exact ⟨_, hp, rfl⟩) h
theorem search_K {p c : Addr} {pt cc : Value} {tk1 : Tok} {cd pd : Option Addr} {items : Array Value} {n : Nat} {sl sl' : Array (Option Value)} {x : Str} {t : Tok} {Q : Value → Shared → Prop}
    (F : Fr h₀ L s.heap m) (X : K.In h₀) (hp : K.lookup p = some ⟨.type "re.Pattern", pd, .fields #[pt, .int 32 tk1, .int 0 0, .none, .none, .ref c, .int 0 0], sl⟩)
    (hc : K.lookup c = some ⟨cc, cd, .seq items n, sl'⟩) 
    (hf : (items.toList.map (fun v => (Builtin.Re.reRawOf v).toNat) = nameCode.toList ∧ okN x) ∨ (items.toList.map (fun v => (Builtin.Re.reRawOf v).toNat) = valCode.toList ∧ okV x)) (h : Q .none s) :
    wpAny (model prog w) A (call (.builtin "re.Pattern.search") [.ref p, .str x t]) Q E s := by
  have e : ∀ code : Array Nat, items.toList.map (fun v => (Builtin.Re.reRawOf v).toNat) = code.toList → (items.map Builtin.Re.reRawOf).map (·.toNat) = code := fun code h => by
    obtain ⟨l⟩ := items
    obtain ⟨c⟩ := code
    simp only [List.map_toArray, List.map_map] at h ⊢
    exact congrArg List.toArray h
  rcases hf with ⟨q, h1⟩ | ⟨q, h1⟩
  · exact call_search (F.keep _ _ (X _ _ hp)) rfl rfl (F.keep _ _ (X _ _ hc)) rfl (e _ q) (.inl rfl) (setFree_name h1.1) (by have := h1.2; omega) h
  · exact call_search (F.keep _ _ (X _ _ hp)) rfl rfl (F.keep _ _ (X _ _ hc)) rfl (e _ q) (.inr rfl) (setFree_val h1.1) (by have := h1.2; omega) h
end
local macro_rules | `(tactic| walk_at "getMethod ref") => `(tactic| (k_here; (with_reducible show wpAny _ _ (getMethod (Value.ref _) (Str.ofString "search") _) _ _ _); k_dflt (refine' getMethod_pat ?F ?X ?l ?_; (case F | X => k_asm); (case l => k_is); k_whole)))
local macro_rules | `(tactic| walk_at "call builtin:re.Pattern.search") => `(tactic| (k_here; k_dflt (refine' search_K ?F ?X ?l ?c ?f ?_; (case F | X => k_asm); (case l | c => k_is); (case f => first | exact .inl ⟨rfl, by assumption⟩ | exact .inr ⟨rfl, by assumption⟩ | (refine .inl ⟨rfl, ?_⟩; (rename (_ = true → okN _) => q9); exact q9 (by assumption)) | (refine .inr ⟨rfl, ?_⟩; (rename (_ = false → okV _) => q9); exact q9 (by assumption))))))

-- part C1
set_option maxHeartbeats 8000000
theorem conv {w : World} {A₀ : Around} {base h₀ : Heap} {outer : List Env} {env : Env} {L : Addr} {m mg mb : Str → Option Value} {mean : ExcName → Option Value} {news : List (Addr × Obj)} {s : Shared} {d u : Nat} {gs : Option (List Code)} {R : Result → Shared → Prop} {self : Value} {x : Str} {tk : Tok} {b : Bool}
    (C : Cx w A₀ base h₀ outer env L m mg mb mean news s.heap) (hd : d ≤ 900) (hu : u ≤ 5000)
    (hN : b = true → okN x) (hV : b = false → okV x)
    (hR : ∀ h' tk', Fr h₀ L h' m → News h₀ L h' news → R (.ok (.ret (.str x tk))) { s with heap := h', toks := tk' }) :
    codeAny (model PySem.Challenge.rw_pg0317_01.row.prog w) ⟨none, d, some (env :: outer), gs, u⟩ (.call (.ref 70) ⟨[self, .str x tk], [("name", .bool b)]⟩) R s := by
  obtain ⟨B, F, X, N, T, hf, hk⟩ := C
  revert X
  k_fill
  intro X
  k_enter
  k_steps
  all_goals exact hR _ _ (by assumption) (by assumption)

local macro_rules | `(tactic| walk_at "call ref") => `(tactic| (k_here; (with_reducible show wpAny _ _ (call (Value.ref 70) _ _) _ _ _); (refine wpAny_call ?_); k_dflt (refine' conv ⟨?B, ?F, ?X, ?N, ?T, ?f, ?k⟩ ?d ?u ?hN ?hV ?_; (case B | F | X | N | T => k_asm); (case f | k => first | exact rfl | assumption); (case d | u => (dsimp only; omega)); (case hN | hV => first | (intro q9; cases q9; done) | (intro _; assumption)); k_whole); intro h' tk' F' N'; (try k_sweep)))

-- part C9
set_option maxHeartbeats 8000000
open LCg (NsObj lst)
theorem forNoItems {prog : Program} {w : World} {A : Around} {E : Value → Shared → Prop} {s : Shared} {env : Env} {h₀ : Heap} {L t : Addr} {m : Str → Option Value} {news : List (Addr × Obj)} {o : Obj} {Q : Flow → Shared → Prop} {target : Expr} {pos apos cpos : Pos} {e : Expr} {body : List Stmt}
    (hh : A.handled = none) (F : Fr h₀ L s.heap m) (N : News h₀ L s.heap news) (ht : (t, o) ∈ news) (hd : o.IsDictOf (strKind prog w) []) (lo : (t == sysModules) = false)
    (hbase : attributeBase e "items" env (eval e env) = eval e env) (hline : (apos.endLine == cpos.line) = true)
    (ho : ∀ Q', Q' (.ref t) s → wpAny (model prog w) A (eval e env) Q' E s)
    (h : ∀ h' tk, Fr h₀ L h' m → News h₀ L h' news → Q .next { s with heap := h', toks := tk }) (hs : ∀ x, foldedSetIterable (.Call (.Attribute e "items" apos) [] [] cpos) env x = pure x := by intro _; rfl) :
    wpAny (model prog w) A (exec (.For target (.Call (.Attribute e "items" apos) [] [] cpos) body [] pos) env) Q E s := by
  obtain ⟨es, ep, x1, x2, x3, x4, x5⟩ := hd
  have hm : s.heap.DictAt (strKind prog w) t [] ep := ⟨o, es, (N _ ht).1, x1, x2, x3, x4, x5⟩
  refine wpAny_For (wpAny_Call_items lo hm.dictOf hbase hline ho ?_) hs
  refine wpAny_pyIter_items (knd := strKind prog w) (d := t) (kvs := []) (ep := ep) ⟨_, Heap.get?_push_size _ rfl, rfl, rfl⟩ (hm.push _) ?_
  generalize hH : s.heap.push { cls := .type "dict_items", data := .fields #[.ref t] } = H
  have FH : Fr h₀ L H m := hH ▸ F.push _
  have NH : News h₀ L H news := hH ▸ newsPush N
  have hmH : H.DictAt (strKind prog w) t [] ep := hH ▸ hm.push _
  have hI : h₀.get? H.objs.size = none := fresh_of (s := { s with heap := H }) FH
  refine codeAny_forLoop_any (fun _ s' => s' = { s with heap := H.push { cls := .type "dict_itemiterator", data := .fields #[.none, .bool false, .ref t, .int 0 0, .int ([] : List (Str × Value)).length 0, .int ep 0, .none, .none] } }) (fun n s' hs' => ?_) 0 rfl
  subst hs'
  refine wpAny_pyNext_items_end (knd := strKind prog w) (d := t) (kvs := []) (ep := ep) (i := 0) hh (Heap.get?_push_size _ rfl) (hmH.push _) rfl fun h' he' => ?_
  have k : ∀ b o, b ≠ H.objs.size → H.get? b = some o → h'.get? b = some o := fun b o hb e => he' b o hb (Heap.get?_push_of_some _ e)
  show wpAny _ _ (execs [] env) _ _ _
  exact wpAny_pure (h h' _ (frK FH k (Nat.ne_of_lt FH.ns.lt) hI) (newsK NH k fun p hp => Nat.ne_of_lt (Heap.lt_size (NH p hp).1)))
local macro_rules | `(tactic| walk_at "exec For") => `(tactic| (k_here; (with_reducible show wpAny _ _ (exec (Stmt.For _ (PySem.Expr.Call (PySem.Expr.Attribute _ _ _) _ _ _) _ _ _) _) _ _ _); k_dflt (refine' forNoItems ?h ?F ?N ?t ?d ?lo ?b ?l ?o ?_ ?s; (case h => rfl); (case b => with_unfolding_all rfl); (case l => rfl); (case s => (intro q9; rfl)); (case F | N => k_asm); (case o => (intro Q9 q9; exact ld (by assumption) rfl q9)); (case t => k_mem); (case d | lo => assumption); k_whole); intro h' tk' F' N'; (try k_sweep)))
theorem addcallers {w : World} {A₀ : Around} {base h₀ : Heap} {outer : List Env} {env : Env} {L : Addr} {m mg mb : Str → Option Value} {mean : ExcName → Option Value} {news : List (Addr × Obj)} {s : Shared} {d u : Nat} {gs : Option (List Code)} {R : Result → Shared → Prop}
    {t1 t2 : Addr} {o1 o2 : Obj}
    (C : Cx w A₀ base h₀ outer env L m mg mb mean news s.heap) (hd : d ≤ 890) (hu : u ≤ 4900)
    (h1 : (t1, o1) ∈ news) (h2 : (t2, o2) ∈ news) (hd1 : o1.IsDictOf (strKind PySem.Challenge.rw_pg0317_01.row.prog w) []) (hd2 : o2.IsDictOf (strKind PySem.Challenge.rw_pg0317_01.row.prog w) []) (lo1 : (t1 == sysModules) = false) (lo2 : (t2 == sysModules) = false)
    (hR : ∀ h' tk' t o, (∀ p ∈ news, p.1 < t) → o.IsDictOf (strKind PySem.Challenge.rw_pg0317_01.row.prog w) [] → (t == sysModules) = false → Fr h₀ L h' m → News h₀ L h' ((t, o) :: news) → R (.ok (.ret (.ref t))) { s with heap := h', toks := tk' }) :
    codeAny (model PySem.Challenge.rw_pg0317_01.row.prog w) ⟨none, d, some (env :: outer), gs, u⟩ (.call (.ref 217) ⟨[.ref t1, .ref t2], []⟩) R s := by
  obtain ⟨B, F, X, N, T, hf, hk⟩ := C
  revert X
  k_fill
  intro X
  k_enter
  k_steps
  exact hR _ _ _ _ (by assumption) (by assumption) (by assumption) (by assumption) (by assumption)

local macro_rules | `(tactic| walk_at "call ref") => `(tactic| (k_here; (with_reducible show wpAny _ _ (call (Value.ref 217) _ _) _ _ _); (refine wpAny_call ?_); k_dflt (refine' addcallers ⟨?B, ?F, ?X, ?N, ?T, ?f, ?k⟩ ?d ?u ?h1 ?h2 ?h3 ?h4 ?h5 ?h6 ?_; (case B | F | X | N | T => k_asm); (case f | k => first | exact rfl | assumption); (case d | u => (dsimp only; omega)); (case h1 | h2 => k_mem); (case h3 | h4 | h5 | h6 => assumption); k_whole); intro h' tk' t' o' l1 hd' lo' F' N'; (try k_lt l1); (try k_sweep)))

-- part C10
set_option maxHeartbeats 8000000
open LCg (NsObj lst)
theorem addfunc {w : World} {A₀ : Around} {base h₀ : Heap} {outer : List Env} {env : Env} {L : Addr} {m mg mb : Str → Option Value} {mean : ExcName → Option Value} {news : List (Addr × Obj)} {s : Shared} {d u : Nat} {gs : Option (List Code)} {R : Result → Shared → Prop}
    {t1 t2 d1 d2 : Addr} {o1 o2 : Obj} {a0 a1 a2 a3 b0 b1 b2 b3 : Int} {k0 k1 k2 k3 j0 j1 j2 j3 : Tok} {n1 n2 : Nat}
    (C : Cx w A₀ base h₀ outer env L m mg mb mean news s.heap) (hd : d ≤ 880) (hu : u ≤ 4800)
    (h1 : (t1, tupO [.int a0 k0, .int a1 k1, .int a2 k2, .int a3 k3, .ref d1] n1) ∈ news) (h2 : (t2, tupO [.int b0 j0, .int b1 j1, .int b2 j2, .int b3 j3, .ref d2] n2) ∈ news) (hm1 : (d1, o1) ∈ news) (hm2 : (d2, o2) ∈ news)
    (hd1 : o1.IsDictOf (strKind PySem.Challenge.rw_pg0317_01.row.prog w) []) (hd2 : o2.IsDictOf (strKind PySem.Challenge.rw_pg0317_01.row.prog w) []) (lo1 : (d1 == sysModules) = false) (lo2 : (d2 == sysModules) = false)
    (hR : ∀ h' tk' t d3 o3 i0 i1 i2 i3 n3, (∀ p ∈ news, p.1 < d3) → (∀ p ∈ news, p.1 < t) → o3.IsDictOf (strKind PySem.Challenge.rw_pg0317_01.row.prog w) [] → (d3 == sysModules) = false → Fr h₀ L h' m → News h₀ L h' ((t, tupO [.int (b0 + a0) i0, .int (b1 + a1) i1, .int (b2 + a2) i2, .int (b3 + a3) i3, .ref d3] n3) :: (d3, o3) :: news) → R (.ok (.ret (.ref t))) { s with heap := h', toks := tk' }) :
    codeAny (model PySem.Challenge.rw_pg0317_01.row.prog w) ⟨none, d, some (env :: outer), gs, u⟩ (.call (.ref 210) ⟨[.ref t1, .ref t2], []⟩) R s := by
  obtain ⟨B, F, X, N, T, hf, hk⟩ := C
  revert X
  k_fill
  intro X
  k_enter
  k_steps
  (rename (_ ∧ AllLt _ _) => l9)
  exact hR _ _ _ _ _ _ _ _ _ _ (by assumption) (allLt_mem l9.2) (by assumption) (by assumption) (by assumption) (by assumption)

-- part C2
set_option maxHeartbeats 8000000

noncomputable def FrM {h₀ h : Heap} {L : Addr} {m : Str → Option Value} (_F : Fr h₀ L h m) : Str → Option Value := m
noncomputable def updo (m : Str → Option Value) (x : Str) (v : Option Value) : Str → Option Value := fun y => if y = x then v else m y
theorem updo_self (m : Str → Option Value) (x : Str) : updo m x (m x) = m := by
  funext y
  unfold updo
  split
  · rename_i h; rw [h]
  · rfl
/-- the list's places bear pairs of texts -/
noncomputable def PairsAt (news : List (Addr × Obj)) (vs : List Value) (xs : List (Str × Str)) : Prop :=
  vs.length = xs.length ∧ ∀ (i : Nat) x, xs[i]? = some x → ∃ t k1 k2 nt, vs[i]? = some (.ref t) ∧ (t, tupO [.str x.1 k1, .str x.2 k2] nt) ∈ news

theorem okN_len {x : Str} (h : okN x) : x.length ≤ 1000 := h.2
theorem okN_fit {x : Str} (h : okN x) : x.length ≤ 5592405 := Nat.le_trans h.2 (by decide)
theorem okV_len {x : Str} (h : okV x) : x.length ≤ 1000 := h.2
local macro_rules | `(tactic| walk_at "call builtin:str.lower") => `(tactic| (k_here; (with_reducible show wpAny _ _ (call (Value.builtin "str.lower") [Value.str _ _]) _ _ _); (refine SCL.lower (okN_fit (by assumption)) ?_); intro _))

local macro_rules | `(tactic| walk_at "exec For") => `(tactic| (k_here; (with_reducible show wpAny _ _ (exec (Stmt.For _ _ _ _ _) _) _ _ _); refine wpAny_For ?_))

theorem PairsAt.at {news : List (Addr × Obj)} {vs : List Value} {xs : List (Str × Str)} (hp : PairsAt news vs xs) {i : Nat} {v : Value} (hv : vs.toArray[i]? = some v) :
    ∃ x t k1 k2 nt, xs[i]? = some x ∧ v = .ref t ∧ (t, tupO [.str x.1 k1, .str x.2 k2] nt) ∈ news := by
  have hv' : vs[i]? = some v := by simpa using hv
  have hlt : i < xs.length := by rw [← hp.1]; exact (List.getElem?_eq_some_iff.mp hv').1
  obtain ⟨t, k1, k2, nt, e, hm⟩ := hp.2 i xs[i] (by simp [hlt])
  rw [hv'] at e
  exact ⟨xs[i], t, k1, k2, nt, by simp [hlt], by cases e; rfl, hm⟩
theorem PairsAt.ref {news : List (Addr × Obj)} {vs : List Value} {xs : List (Str × Str)} (hp : PairsAt news vs xs) (i : Nat) (v : Value) (hv : vs.toArray[i]? = some v) : (∃ t, v = .ref t) ∨ ∀ it, letOwnedTupleGo (.Constant .none 0 default) it v = pure () :=
  let ⟨_, t, _, _, _, _, e, _⟩ := hp.at hv; .inl ⟨t, e⟩

/-- what get gives back -/
noncomputable def getH (xs : List (Str × Str)) (n : Str) : Option Str := (xs.find? fun p => Txt.lower p.1 == n).map (·.2)

theorem getH_some {xs : List (Str × Str)} {n : Str} {i : Nat} {p : Str × Str} (h : xs[i]? = some p) (e : (Txt.lower p.1 == n) = true) (hno : ∀ j, j < i → ∀ p, xs[j]? = some p → Txt.lower p.1 ≠ n) : getH xs n = some p.2 := by
  induction xs generalizing i with
  | nil => simp at h
  | cons q r ih =>
    unfold getH
    rw [List.find?_cons]
    cases i with
    | zero => simp at h; subst h; rw [e]; rfl
    | succ i =>
      have h0 := hno 0 (Nat.succ_pos _) q (by simp)
      rw [show (Txt.lower q.1 == n) = false from by simpa using h0]
      exact ih (i := i) (by simpa using h) fun j hj p' hp' => hno (j + 1) (Nat.succ_lt_succ hj) p' (by simpa using hp')
theorem upd2_updo2 {M : Str → Option Value} {x1 x2 : Str} {u1 u2 : Option Value} {v1 v2 : Value} : upd (upd (updo (updo M x1 u1) x2 u2) x1 v1) x2 v2 = updo (updo M x1 (some v1)) x2 (some v2) := by
  funext y
  simp only [upd, updo]
  (repeat' split) <;> simp_all

theorem pick_all (vs : List Value) : slicePick vs.toArray none none none = vs.toArray := by
  have e : sliceBounds none none none vs.toArray.size = (((0 : Nat) : Int), ((vs.toArray.size : Nat) : Int), 1) := by
    simp [sliceBounds]
  rw [kmk_pick_nat _ e]
  simp
theorem pick_upto (vs : List Value) {y : Int} (h : 0 ≤ y) : slicePick vs.toArray none (some y) none = (vs.take y.toNat).toArray := by
  have e : sliceBounds none (some y) none vs.toArray.size = (((0 : Nat) : Int), ((min y.toNat vs.toArray.size : Nat) : Int), 1) := by
    simp only [sliceBounds, Option.getD_none, show (1 : Int) > 0 by decide, if_true, if_neg (show ¬ (y < 0) by omega)]
    congr 1
    congr 1
    omega
  rw [kmk_pick_nat _ e]
  show ((vs.drop 0).take (min y.toNat vs.toArray.size - 0)).toArray = _
  rw [List.drop_zero, Nat.sub_zero, List.size_toArray, kmk_take_min]
theorem pick_from (vs : List Value) {x : Int} (h : 0 ≤ x) : slicePick vs.toArray (some x) none none = (vs.drop x.toNat).toArray := by
  have e : sliceBounds (some x) none none vs.toArray.size = (((min x.toNat vs.toArray.size : Nat) : Int), ((vs.toArray.size : Nat) : Int), 1) := by
    simp only [sliceBounds, Option.getD_none, show (1 : Int) > 0 by decide, if_true, if_neg (show ¬ (x < 0) by omega)]
    congr 1
    omega
  rw [kmk_pick_nat _ e]
  show ((vs.drop (min x.toNat vs.toArray.size)).take (vs.toArray.size - min x.toNat vs.toArray.size)).toArray = _
  rw [List.size_toArray, kmk_drop_min, List.take_of_length_le (by rw [List.length_drop]; omega)]
theorem slice_N {prog : Program} {w : World} {A : Around} {E : Value → Shared → Prop} {s : Shared} {h₀ : Heap} {L l : Addr} {m : Str → Option Value} {news : List (Addr × Obj)} {value slice : PySem.Expr} {vs ws : List Value} {nl : Nat} {vl vu : Value} {lo hi : Option Int} {Q : Value → Shared → Prop}
    (F : Fr h₀ L s.heap m) (N : News h₀ L s.heap news) (hl : (l, lstO vs nl) ∈ news) (pl : IsPart vl lo) (pu : IsPart vu hi) (e : slicePick vs.toArray lo hi none = ws.toArray) (hz : vs.length ≤ 1000)
    (h : ∀ D h', Fr h₀ L h' m → News h₀ L h' ((D, lstO ws 0) :: news) → (∀ p ∈ news, p.1 < D) → Q (.ref D) { s with heap := h' })
    (hs : subscripted slice false (.ref l) (.ref s.heap.objs.size) = operate [.ref s.heap.objs.size, .ref l] (getItem (.ref l) (.ref s.heap.objs.size))) (ht : ∀ r, letTemporaryGo value (.ref l) r = pure ()) :
    wpAny (model prog w) A (subscriptTail value slice (.ref l) (.ref s.heap.objs.size)) Q E { s with heap := s.heap.push { cls := .type "slice", data := .fields #[vl, vu, .none] } } := by
  refine kmk_slice F N ⟨_, (N _ hl).1, rfl, nl, rfl⟩ pl pu (fun D h' F' N' l1 => h D h' F' ?_ l1) hs ht (by rw [List.size_toArray, sizeLine_eq]; omega)
  rw [e] at N'
  exact N'
local macro_rules | `(tactic| walk_at "subscriptTail") => `(tactic| (k_here; (with_reducible show wpAny _ _ (subscriptTail _ (PySem.Expr.Slice _ _ none _) (Value.ref _) (Value.ref _)) _ _ _); k_dflt (refine' slice_N ?F ?N ?l ?p ?q ?e ?z ?_ ?s ?t; (case F | N => k_asm); (case l => k_mem); (case p | q => first | exact IsPart.none | exact IsPart.int _ _); (case e => first | exact pick_all _ | exact pick_upto _ (by omega) | exact pick_from _ (by omega)); (case s => with_unfolding_all rfl); (case t => (intro q9; with_unfolding_all rfl)); (case z => omega)); intro D' h' F' N' l1; (try k_lt l1); (try k_sweep)))

theorem get {w : World} {A₀ : Around} {base h₀ : Heap} {outer : List Env} {env : Env} {L : Addr} {m mg mb : Str → Option Value} {mean : ExcName → Option Value} {news : List (Addr × Obj)} {s : Shared} {d u : Nat} {gs : Option (List Code)} {R : Result → Shared → Prop} {x : Str} {tk : Tok}
    {r dx l : Addr} {hh : Int} {th : Tok} {nd nl : Nat} {vs : List Value} {xs : List (Str × Str)}
    (C : Cx w A₀ base h₀ outer env L m mg mb mean news s.heap) (hd : d ≤ 890) (hu : u ≤ 4900)
    (hr : (r, instObj 171 dx) ∈ news) (hdx : (dx, dictOf [⟨hh, .str "_headers" th, .ref l⟩] nd) ∈ news) (hl : (l, lstO vs nl) ∈ news) (hp : PairsAt news vs xs) (hx : okN x) (hxl : okN (Txt.lower x)) (hps : ∀ p ∈ xs, okN p.1)
    (hR : ∀ v h' tk', (match getH xs (Txt.lower x) with | some y => ∃ t, v = .str y t | none => v = .none) → Fr h₀ L h' m → News h₀ L h' news → R (.ok (.ret v)) { s with heap := h', toks := tk' }) :
    codeAny (model PySem.Challenge.rw_pg0317_01.row.prog w) ⟨none, d, some (env :: outer), gs, u⟩ (.call (.ref 118) ⟨[.ref r, .str x tk], []⟩) R s := by
  obtain ⟨B, F, X, N, T, hf, hk⟩ := C
  revert X
  k_fill
  intro X
  k_enter
  k_steps
  rename Fr _ _ _ _ => F1
  refine loopL (items := vs.toArray) (nn := nl) (ol := lstO vs nl) rfl rfl rfl (fun i v hv => .inl (let ⟨_, t, _, _, _, _, e, _⟩ := hp.at hv; ⟨t, e⟩)) (.inl ⟨_, _, _, rfl⟩) F1 (by assumption)
    (fun i m₁ news₁ => news₁ = news ∧ (∃ u1 u2, m₁ = updo (updo (FrM F1) "k" u1) "v" u2) ∧ ∀ j, j < i → ∀ p, xs[j]? = some p → Txt.lower p.1 ≠ Txt.lower x)
    (fun i m₁ news₁ hJ => .inr (hJ.1 ▸ hl)) ⟨rfl, ⟨_, _, by rw [updo_self, updo_self]; rfl⟩, fun j hj => absurd hj (Nat.not_lt_zero _)⟩ ?turn ?done
  case turn =>
    rintro i v m₁ news₁ I h₁ tk₁ oI E' hv ⟨rfl, ⟨u1, u2, rfl⟩, hno⟩ off F₁ N₁
    obtain ⟨p, t, k1, k2, nt, hxi, rfl, hm⟩ := hp.at hv
    have hpo : okN p.1 := hps p (List.mem_of_getElem? hxi)
    refine asg2 rfl ⟨_, (N₁ _ (List.mem_cons_of_mem _ hm)).1, rfl, nt, rfl⟩ F₁.ns rfl rfl rfl fun h₂ tk₂ hn₂ k₂ => ?_
    have F₂ := frL F₁ hn₂ k₂
    have N₂ := newsL N₁ k₂
    clear F₁ N₁ hn₂ k₂
    k_steps
    all_goals (dsimp only [TurnEnd])
    · k_steps
      refine hR _ _ _ ?_ (by assumption) (newsSub (by assumption) fun q hq => List.mem_cons_of_mem _ hq)
      rw [getH_some hxi (by assumption) hno]
      exact ⟨_, rfl⟩
    · refine ⟨_, _, _, _, rfl, by assumption, by assumption, off, rfl, ⟨_, _, upd2_updo2⟩, fun j hj q hq => ?_⟩
      rcases Nat.lt_succ_iff_lt_or_eq.mp hj with hj | rfl
      · exact hno j hj q hq
      · rw [hxi] at hq; cases hq
        (rename (_ == _) = false => q9)
        intro e; rw [e, beq_self_eq_true] at q9; cases q9
  case done =>
    rintro h₁ tk₁ m₁ news₁ ⟨rfl, ⟨u1, u2, rfl⟩, hno⟩ F₁ N₁
    k_steps
    refine hR _ _ _ ?_ (by assumption) (by assumption)
    have e : getH xs (Txt.lower x) = none := by
      unfold getH
      rw [List.find?_eq_none.mpr (fun p hp' => ?_)]
      · rfl
      · obtain ⟨j, hj, rfl⟩ := List.mem_iff_getElem.mp hp'
        have := hno j (by rw [List.size_toArray, hp.1]; exact hj) xs[j] (by simp [hj])
        simpa using this
    rw [e]

local macro_rules | `(tactic| walk_at "call ref") => `(tactic| (k_here; (with_reducible show wpAny _ _ (call (Value.ref 118) _ _) _ _ _); (refine wpAny_call ?_); k_dflt (refine' get ⟨?B, ?F, ?X, ?N, ?T, ?f, ?k⟩ ?d ?u ?h1 ?h2 ?h3 ?h4 ?h5 ?h6 ?h7 ?_; (case B | F | X | N | T => k_asm); (case f | k => first | exact rfl | assumption); (case d | u => (dsimp only; omega)); (case h1 | h2 | h3 => k_mem); (case h4 | h5 | h6 | h7 => assumption); k_whole); intro v' h' tk' e' F' N'; (try (rw [(by assumption : getH _ _ = _)] at e'; dsimp only at e'; first | subst e' | (obtain ⟨ty', ey'⟩ := e'; subst ey'))); (try k_sweep)))

-- part C3
set_option maxHeartbeats 8000000
open LCg (NsObj lst)
theorem items {w : World} {A₀ : Around} {base h₀ : Heap} {outer : List Env} {env : Env} {L : Addr} {m mg mb : Str → Option Value} {mean : ExcName → Option Value} {news : List (Addr × Obj)} {s : Shared} {d u : Nat} {gs : Option (List Code)} {R : Result → Shared → Prop}
    {r dx l : Addr} {hh : Int} {th : Tok} {nd nl : Nat} {vs : List Value} {xs : List (Str × Str)}
    (C : Cx w A₀ base h₀ outer env L m mg mb mean news s.heap) (hd : d ≤ 890) (hu : u ≤ 4900)
    (hr : (r, instObj 171 dx) ∈ news) (hdx : (dx, dictOf [⟨hh, .str "_headers" th, .ref l⟩] nd) ∈ news) (hl : (l, lstO vs nl) ∈ news) (hsz : vs.length ≤ 1000)
    (hR : ∀ h' tk' l', (∀ p ∈ news, p.1 < l') → Fr h₀ L h' m → News h₀ L h' ((l', lstO vs 0) :: news) → R (.ok (.ret (.ref l'))) { s with heap := h', toks := tk' }) :
    codeAny (model PySem.Challenge.rw_pg0317_01.row.prog w) ⟨none, d, some (env :: outer), gs, u⟩ (.call (.ref 135) ⟨[.ref r], []⟩) R s := by
  obtain ⟨B, F, X, N, T, hf, hk⟩ := C
  revert X
  k_fill
  intro X
  k_enter
  k_steps
  exact hR _ _ _ (by assumption) (by assumption) (by assumption)

local macro_rules | `(tactic| walk_at "call ref") => `(tactic| (k_here; (with_reducible show wpAny _ _ (call (Value.ref 135) _ _) _ _ _); (refine wpAny_call ?_); k_dflt (refine' items ⟨?B, ?F, ?X, ?N, ?T, ?f, ?k⟩ ?d ?u ?h1 ?h2 ?h3 ?h4 ?_; (case B | F | X | N | T => k_asm); (case f | k => first | exact rfl | assumption); (case d | u => (dsimp only; omega)); (case h1 | h2 | h3 => k_mem); (case h4 => omega); k_whole); intro h' tk' l' l1 F' N'; (try k_lt l1); (try k_sweep)))

-- part C4
set_option maxHeartbeats 8000000
open LCg (NsObj lst)
theorem setdefault {w : World} {A₀ : Around} {base h₀ : Heap} {outer : List Env} {env : Env} {L : Addr} {m mg mb : Str → Option Value} {mean : ExcName → Option Value} {news : List (Addr × Obj)} {s : Shared} {d u : Nat} {gs : Option (List Code)} {R : Result → Shared → Prop}
    {r dx l : Addr} {hh : Int} {th : Tok} {nd nl : Nat} {vs : List Value} {xs : List (Str × Str)} {x y : Str} {tx ty : Tok}
    (C : Cx w A₀ base h₀ outer env L m mg mb mean ((l, lstO vs nl) :: news) s.heap) (hd : d ≤ 880) (hu : u ≤ 4800)
    (hr : (r, instObj 171 dx) ∈ news) (hdx : (dx, dictOf [⟨hh, .str "_headers" th, .ref l⟩] nd) ∈ news) (hoff : ∀ p ∈ news, p.1 ≠ l) (hp : PairsAt news vs xs) (hsz : vs.length ≤ 1000)
    (hx : okN x) (hxl : okN (Txt.lower x)) (hy : okV y) (hps : ∀ p ∈ xs, okN p.1) (hno : getH xs (Txt.lower x) = none)
    (hR : ∀ h' tk' t k1 nt n', (∀ p ∈ news, p.1 < t) → t ≠ l → Fr h₀ L h' m → News h₀ L h' ((l, lstO (vs ++ [.ref t]) n') :: (t, tupO [.str x k1, .str y ty] nt) :: news) → R (.ok (.ret (.str y ty))) { s with heap := h', toks := tk' }) :
    codeAny (model PySem.Challenge.rw_pg0317_01.row.prog w) ⟨none, d, some (env :: outer), gs, u⟩ (.call (.ref 161) ⟨[.ref r, .str x tx, .str y ty], []⟩) R s := by
  obtain ⟨B, F, X, N, T, hf, hk⟩ := C
  revert X
  k_fill
  intro X
  k_enter
  have hp' : PairsAt ((l, lstO vs nl) :: news) vs xs := ⟨hp.1, fun i x hx => let ⟨t, k1, k2, nt, e, hm⟩ := hp.2 i x hx; ⟨t, k1, k2, nt, e, List.mem_cons_of_mem _ hm⟩⟩
  k_steps
  (rename News _ _ _ _ => N9)
  rw [List.push_toArray] at N9
  (rename (_ ∧ AllLt _ _) => l9)
  refine hR _ _ _ tx 0 (nl + 1) (allLt_mem l9.2) (Nat.ne_of_gt l9.1) (by assumption) (newsSub N9 fun p hp => ?_)
  rcases List.mem_cons.mp hp with rfl | hp
  · exact List.mem_cons_of_mem _ List.mem_cons_self
  · rcases List.mem_cons.mp hp with rfl | hp
    · exact List.mem_cons_self
    · exact List.mem_cons_of_mem _ (List.mem_cons_of_mem _ hp)

-- part C5
set_option maxHeartbeats 8000000
open LCg (NsObj lst)
theorem ldC_cell {M : Model} {A : Around} {E : Value → Shared → Prop} {s : Shared} {h₀ : Heap} {L C c : Addr} {news : List (Addr × Obj)} {scope : Scope} {cl : List (Str × Addr)} {env : Env} {x : Str} {pos : Pos} {v : Value} {o : Obj} {Q : Value → Shared → Prop}
    (N : News h₀ L s.heap news) (hc : cl.lookup x = some c) (hm : (c, o) ∈ news) (hd : o.data = .cell (some v)) (h : Q v s)
    (hk : (compEnvC scope cl C env).scope.kind = .function := by rfl) (hl : (compEnvC scope cl C env).kindOf x = some .cell := by rfl) (hb : (x == ("__debug__" : Str)) = false := by decide) :
    wpAny M A (eval (.Name x pos) (compEnvC scope cl C env)) Q E s := wpAny_Name (wpAny_loadName_cell hk hl hc ⟨o, N.get hm, hd⟩ h) hb

local macro_rules | `(tactic| walk_at "eval Name") => `(tactic| (k_here; (with_reducible show wpAny _ _ (eval (PySem.Expr.Name _ _) (compEnvC _ _ _ _)) _ _ _); k_dflt (first
  | (refine' LCgL.ld_own ?N ?m ?C ?x ?_ ?a ?b ?c; (case a | b => rfl); (case c => decide); (case N => k_asm); (case m => k_mem); (case C => assumption); (case x => rfl); k_whole)
  | (refine' ldC_cell ?N ?c ?m ?d ?_ ?a ?b ?e; (case a => rfl); (case b => rfl); (case e => decide); (case N => k_asm); (case c => rfl); (case m => k_mem); (case d => k_asm); k_whole)
  | (refine' LCgL.ld_global ?F ?X ?T ?e ?_ ?a ?b ?c ?d; (case a => rfl); (case b => rfl); (case c => rfl); (case d => decide); (case F => k_asm); (case X => k_asm); (case T => k_asm); (case e => k_is); k_whole)
  | (refine' LCgL.ld_built ?F ?X ?T ?e ?v ?n ?_ ?a ?b ?c ?d ?g; (case a => rfl); (case b => rfl); (case c => rfl); (case d => rfl); (case g => decide); (case F => k_asm); (case X => k_asm); (case T => k_asm); (case e => k_is); (case v => boot_fast); (case n => decide); k_whole))))
local macro_rules | `(tactic| walk_at "setItem ref ref") => `(tactic| (k_here; k_dflt (refine' setall_K ?F ?N ?D ?ne ?U ?z ?_; (case F | N => k_asm); (case D => k_mem); (case ne => first | assumption | omega); (case U => k_upd); (case z => (simp only [List.size_toArray]; rw [sizeLine_eq]; omega)); k_whole); intro h' F' N'; (try k_sweep)))

/-- the place left out by a name -/
noncomputable def delH (xs : List (Str × Str)) (n : Str) : List (Str × Str) := xs.filter fun p => Txt.lower p.1 != n

theorem delH_succ {xs : List (Str × Str)} {n : Str} {i : Nat} {p : Str × Str} (h : xs[i]? = some p) : delH (xs.take (i + 1)) n = delH (xs.take i) n ++ (if (Txt.lower p.1 != n) = true then [p] else []) := by
  unfold delH
  rw [List.take_add_one, h, List.filter_append]
  by_cases q : (Txt.lower p.1 != n) = true
  · rw [if_pos q]; simp [q]
  · rw [if_neg q]; simp [q]
theorem PairsAt.snoc {news : List (Addr × Obj)} {ys : List Value} {zs : List (Str × Str)} {t : Addr} {k1 k2 : Tok} {nt : Nat} {p : Str × Str} (h : PairsAt news ys zs) (hm : (t, tupO [.str p.1 k1, .str p.2 k2] nt) ∈ news) : PairsAt news (ys ++ [.ref t]) (zs ++ [p]) := by
  refine ⟨by rw [List.length_append, List.length_append, h.1]; rfl, fun i x hx => ?_⟩
  rcases Nat.lt_or_ge i zs.length with hi | hi
  · rw [List.getElem?_append_left hi] at hx
    obtain ⟨t', a, b, n', e, hm'⟩ := h.2 i x hx
    exact ⟨t', a, b, n', by rw [List.getElem?_append_left (by rw [h.1]; exact hi)]; exact e, hm'⟩
  · rw [List.getElem?_append_right hi] at hx
    have e0 : i - zs.length = 0 := by
      cases q : i - zs.length with
      | zero => rfl
      | succ j => rw [q] at hx; simp at hx
    rw [e0] at hx
    have ex : x = p := by simpa using hx.symm
    subst ex
    refine ⟨t, k1, k2, nt, ?_, hm⟩
    rw [List.getElem?_append_right (by rw [h.1]; exact hi), h.1, e0]
    rfl

theorem delitem {w : World} {A₀ : Around} {base h₀ : Heap} {outer : List Env} {env : Env} {L : Addr} {m mg mb : Str → Option Value} {mean : ExcName → Option Value} {news : List (Addr × Obj)} {s : Shared} {d u : Nat} {gs : Option (List Code)} {R : Result → Shared → Prop}
    {r dx l : Addr} {hh : Int} {th : Tok} {nd nl : Nat} {vs : List Value} {xs : List (Str × Str)} {x : Str} {tx : Tok} {TT : List (Addr × Obj)}
    (C : Cx w A₀ base h₀ outer env L m mg mb mean ((l, lstO vs nl) :: news) s.heap) (hd : d ≤ 870) (hu : u ≤ 4700)
    (hr : (r, instObj 171 dx) ∈ news) (hdx : (dx, dictOf [⟨hh, .str "_headers" th, .ref l⟩] nd) ∈ news) (hoff : ∀ p ∈ news, p.1 ≠ l) (hp : PairsAt TT vs xs) (hTT : ∀ p ∈ TT, p ∈ news) (hsz : vs.length ≤ 1000)
    (hx : okN x) (hxl : okN (Txt.lower x)) (hps : ∀ p ∈ xs, okN p.1)
    (hR : ∀ h' tk' vs' n', PairsAt TT vs' (delH xs (Txt.lower x)) → vs'.length ≤ 1000 → Fr h₀ L h' m → News h₀ L h' ((l, lstO vs' n') :: news) → R (.ok (.ret .none)) { s with heap := h', toks := tk' }) :
    codeAny (model PySem.Challenge.rw_pg0317_01.row.prog w) ⟨none, d, some (env :: outer), gs, u⟩ (.call (.ref 89) ⟨[.ref r, .str x tx], []⟩) R s := by
  obtain ⟨B, F, X, N, T, hf, hk⟩ := C
  revert X
  k_fill
  intro X
  k_enter
  k_steps
  rename Fr _ _ _ _ => F1
  rename News _ _ _ _ => N1
  rename (_ = Data.cell (some (Value.str (Txt.lower _) _))) => hcell
  rename (_ ∧ AllLt _ _) => l9
  refine compL (items := vs.toArray) (nn := nl) (ol := lstO vs nl) rfl rfl rfl (by rw [List.size_toArray, sizeLine_eq]; omega) (.inr fun _ _ => rfl) (by decide) rfl F1 N1
    (fun i ys news₁ => news₁ = (_, _) :: (l, lstO vs nl) :: news ∧ ys.length ≤ 1000 ∧ PairsAt TT ys (delH (xs.take i) (Txt.lower x)))
    (fun i ys news₁ hJ => .inr (hJ.1 ▸ List.mem_cons_of_mem _ List.mem_cons_self)) ⟨rfl, by decide, rfl, fun i x hx => by simp [delH] at hx⟩ ?turn ?done
  case turn =>
    rintro i v ys news₁ h₁ tk₁ I oI C oC D m₂ E' hv hyi ⟨rfl, hyl, hpy⟩ off ne hCL hDL hC0 F₁ N₁ hn
    obtain ⟨p, t, k1, k2, nt, hxi, rfl, hm0⟩ := hp.at hv
    have hm := hTT _ hm0
    have hpo : okN p.1 := hps p (List.mem_of_getElem? hxi)
    refine asgC1 F₁ N₁ hn ne off rfl rfl fun h₂ tk₂ oC₂ F₂ N₂ hn₂ => ?_
    clear F₁ N₁ hn
    refine wpAny_tests_one ?_
    have hil : i < vs.length := by simpa using (Array.getElem?_eq_some_iff.mp hv).1
    k_steps
    · refine ⟨_, _, _, _, _, rfl, by assumption, by assumption, off, by assumption, rfl, by rw [List.length_append, List.length_singleton]; omega, ?_⟩
      rw [delH_succ hxi, if_pos (by assumption)]
      exact hpy.snoc hm0
    · refine ⟨_, _, _, _, _, rfl, by assumption, by assumption, off, by assumption, rfl, hyl, ?_⟩
      rw [delH_succ hxi, if_neg (by (rename (_ = false) => q9); rw [q9]; exact Bool.false_ne_true), List.append_nil]
      exact hpy
  case done =>
    rintro D C h₁ tk₁ m' ys news₁ ⟨rfl, hyl, hpy⟩ F₁ N₁ off hn hC0 hD0 hCL hDL hCD
    have hDl : @Ne Nat D l := Ne.symm (off (l, _) (List.mem_cons_of_mem _ List.mem_cons_self)).1
    have hDl : @Ne Nat l D := Ne.symm hDl
    refine comp_post F₁ N₁ off hn hC0 hCL hCD fun h₂ F₂ N₂ => ?_
    clear F₁ N₁ hn
    rw [List.take_of_length_le (by rw [List.size_toArray, hp.1]; exact Nat.le_refl _)] at hpy
    k_steps
    exact hR _ _ ys _ hpy hyl (by assumption) (newsSub (by assumption) fun q hq => by
      rcases List.mem_cons.mp hq with rfl | hq
      · exact List.mem_cons_of_mem _ (List.mem_cons_of_mem _ List.mem_cons_self)
      · exact List.mem_cons_of_mem _ (List.mem_cons_of_mem _ (List.mem_cons_of_mem _ hq)))

-- part C6
set_option maxHeartbeats 8000000
open LCg (NsObj lst)
theorem upd_names {M : Str → Option Value} {x1 x2 x3 x4 : Str} {u1 u2 u3 u4 : Option Value} {v1 v2 v3 v4 : Value} : (fun y => if y = x4 then some v4 else (fun y => if y = x3 then some v3 else upd (upd (updo (updo (updo (updo M x1 u1) x2 u2) x3 u3) x4 u4) x1 v1) x2 v2 y) y) = updo (updo (updo (updo M x1 (some v1)) x2 (some v2)) x3 (some v3)) x4 (some v4) := by
  funext y
  simp only [upd, updo]
  (repeat' split) <;> simp_all
theorem compare {w : World} {A₀ : Around} {base h₀ : Heap} {outer : List Env} {env : Env} {L : Addr} {m mg mb : Str → Option Value} {mean : ExcName → Option Value} {news : List (Addr × Obj)} {s : Shared} {d u : Nat} {gs : Option (List Code)} {R : Result → Shared → Prop}
    {r dx l t1 t2 a b : Addr} {i1 i2 j1 j2 : Int} {k1 k2 k3 k4 k5 k6 k7 k8 : Tok} {hh : Int} {th : Tok} {nd n1 n2 na nb nl : Nat}
    (C : Cx w A₀ base h₀ outer env L m mg mb mean news s.heap) (hd : d ≤ 890) (hu : u ≤ 4900)
    (hr : (r, instObj 199 dx) ∈ news) (hdx : (dx, dictOf [⟨hh, .str "comp_select_list" th, .ref l⟩] nd) ∈ news) (hl : (l, lstO [.ref t1, .ref t2] nl) ∈ news) (ht1 : (t1, tupO [.int 0 k1, .int 1 k2] n1) ∈ news) (ht2 : (t2, tupO [.int 1 k3, .int (-1) k4] n2) ∈ news)
    (ha : (a, tupO [.int i1 k5, .int i2 k6] na) ∈ news) (hb : (b, tupO [.int j1 k7, .int j2 k8] nb) ∈ news)
    (hR : ∀ h' tk' t, Fr h₀ L h' m → News h₀ L h' news → R (.ok (.ret (.int (if i1 < j1 then -1 else if j1 < i1 then 1 else if i2 < j2 then 1 else if j2 < i2 then -1 else 0) t))) { s with heap := h', toks := tk' }) :
    codeAny (model PySem.Challenge.rw_pg0317_01.row.prog w) ⟨none, d, some (env :: outer), gs, u⟩ (.call (.ref 196) ⟨[.ref r, .ref a, .ref b], []⟩) R s := by
  obtain ⟨B, F, X, N, T, hf, hk⟩ := C
  revert X
  k_fill
  intro X
  k_enter
  k_steps
  rename Fr _ _ _ _ => F1
  refine loopL (items := [.ref t1, .ref t2].toArray) (nn := nl) (ol := lstO [.ref t1, .ref t2] nl) rfl rfl rfl (fun i v hv => .inl (by
      match i, hv with
      | 0, hv => exact ⟨t1, by simpa using hv.symm⟩
      | 1, hv => exact ⟨t2, by simpa using hv.symm⟩
      | i + 2, hv => simp at hv)) (.inl ⟨_, _, _, rfl⟩) F1 (by assumption)
    (fun i m₁ news₁ => news₁ = news ∧ (∃ u1 u2 u3 u4, m₁ = updo (updo (updo (updo (FrM F1) "index" u1) "direction" u2) "l" u3) "r" u4) ∧ (1 ≤ i → i1 = j1) ∧ (2 ≤ i → i2 = j2))
    (fun i m₁ news₁ hJ => .inr (hJ.1 ▸ hl)) ⟨rfl, ⟨_, _, _, _, by rw [updo_self, updo_self, updo_self, updo_self]; rfl⟩, fun hj => absurd hj (by decide), fun hj => absurd hj (by decide)⟩ ?turn ?done
  case turn =>
    rintro i v m₁ news₁ I h₁ tk₁ oI E' hv ⟨rfl, ⟨u1, u2, u3, u4, rfl⟩, hq1, hq2⟩ off F₁ N₁
    match i, hv, hq1, hq2 with
    | 0, hv, hq1, hq2 =>
      have ev : v = .ref t1 := by simpa using hv.symm
      subst ev
      refine asg2 rfl ⟨_, (N₁ _ (List.mem_cons_of_mem _ ht1)).1, rfl, n1, rfl⟩ F₁.ns rfl rfl rfl fun h₂ tk₂ hn₂ k₂ => ?_
      have F₂ := frL F₁ hn₂ k₂
      have N₂ := newsL N₁ k₂
      clear F₁ N₁ hn₂ k₂
      k_steps
      all_goals (dsimp only [TurnEnd])
      · k_steps
        have q := hR
        rw [if_pos (by assumption)] at q
        exact q _ _ _ (by assumption) (newsSub (by assumption) fun q hq => List.mem_cons_of_mem _ hq)
      · k_steps
        have q := hR
        rw [if_neg (by assumption), if_pos (by assumption)] at q
        exact q _ _ _ (by assumption) (newsSub (by assumption) fun q hq => List.mem_cons_of_mem _ hq)
      · refine ⟨_, _, _, _, rfl, by assumption, by assumption, off, rfl, ⟨_, _, _, _, upd_names⟩, fun _ => by omega, fun h9 => absurd h9 (by decide)⟩
    | 1, hv, hq1, hq2 =>
      have ev : v = .ref t2 := by simpa using hv.symm
      subst ev
      have e1 := hq1 (by decide)
      refine asg2 rfl ⟨_, (N₁ _ (List.mem_cons_of_mem _ ht2)).1, rfl, n2, rfl⟩ F₁.ns rfl rfl rfl fun h₂ tk₂ hn₂ k₂ => ?_
      have F₂ := frL F₁ hn₂ k₂
      have N₂ := newsL N₁ k₂
      clear F₁ N₁ hn₂ k₂
      k_steps
      all_goals (dsimp only [TurnEnd])
      · k_steps
        have q := hR
        rw [if_neg (by omega), if_neg (by omega), if_pos (by assumption)] at q
        exact q _ _ _ (by assumption) (newsSub (by assumption) fun q hq => List.mem_cons_of_mem _ hq)
      · k_steps
        have q := hR
        rw [if_neg (by omega), if_neg (by omega), if_neg (by assumption), if_pos (by assumption)] at q
        exact q _ _ _ (by assumption) (newsSub (by assumption) fun q hq => List.mem_cons_of_mem _ hq)
      · refine ⟨_, _, _, _, rfl, by assumption, by assumption, off, rfl, ⟨_, _, _, _, upd_names⟩, fun _ => e1, fun _ => by omega⟩
    | i + 2, hv, hq1, hq2 => simp at hv
  case done =>
    rintro h₁ tk₁ m₁ news₁ ⟨rfl, ⟨u1, u2, u3, u4, rfl⟩, hq1, hq2⟩ F₁ N₁
    have e1 := hq1 (Nat.le_succ _)
    have e2 := hq2 (Nat.le_refl _)
    k_steps
    have q := hR
    rw [if_neg (by omega), if_neg (by omega), if_neg (by omega), if_neg (by omega)] at q
    exact q _ _ _ (by assumption) (by assumption)

-- part C7
set_option maxHeartbeats 8000000
open LCg (NsObj lst)
theorem newsSwap {h₀ h : Heap} {L : Addr} {p q : Addr × Obj} {r : List (Addr × Obj)} (N : News h₀ L h (p :: q :: r)) : News h₀ L h (q :: p :: r) := newsSub N fun z hz => by
  simp only [List.mem_cons] at hz ⊢
  rcases hz with h | h | h
  · exact .inr (.inl h)
  · exact .inl h
  · exact .inr (.inr h)
theorem delItem_K {M : Model} {A : Around} {E : Value → Shared → Prop} {s : Shared} {K : Frag} {x C L f : Addr} {h₀ : Heap} {m : Str → Option Value} {ox : Obj} {od : Option Obj} {i : Value} {Q : Unit → Shared → Prop} (F : Fr h₀ L s.heap m) (X₀ : K.In h₀) (I : InstAt s.heap x ox C od) (hq : noSeq K C = true) (hs : findIn K (.ref C) "__delitem__" = some (some (.ref f))) (hf : isFn K (.ref f) = true)
    (h : wpAny M A (call (.ref f) [.ref x, i]) (fun _ s' => Q () s') E s) : wpAny M A (delItem (.ref x) i) Q E s := by
  have X := X₀.keeps F.keep
  unfold delItem sequenceKey
  refine wpAny_holding (wpAny_bind (wpAny_bind (I.type.here ?_)))
  refine wpAny_bind ((anyM_none X hq).here ?_)
  rw [if_pos (show (!false) = true from rfl)]
  exact wpAny_pure (wpAny_bind (special_fn X I hs (beq_iff_eq.mp hf) (wpAny_mono h (fun _ _ z => wpAny_pure z) fun _ _ z => z)))
local macro_rules | `(tactic| walk_at "delItem ref") => `(tactic| (k_here; (with_reducible show wpAny _ _ (delItem (Value.ref _) _) _ _ _); k_dflt (refine' delItem_K ?F ?X ?I ?hQ ?hS ?hF ?_; (case F | X => k_asm); (case I => k_inst); (case hS | hF | hQ => k_is); k_whole)))

local macro_rules | `(tactic| walk_at "call ref") => `(tactic| (k_here; (with_reducible show wpAny _ _ (call (Value.ref 89) _ _) _ _ _); (refine wpAny_call ?_); k_dflt (refine' delitem ⟨?B, ?F, ?X, ?N, ?T, ?f, ?k⟩ ?d ?u ?h1 ?h2 ?h3 ?h4 ?h5 ?h6 ?h7 ?h8 ?h9 ?_; (case B | F | X | N | T => k_asm); (case f | k => first | exact rfl | assumption); (case d | u => (dsimp only; omega)); (case h1 | h2 => k_mem); (case h3 | h4 | h5 => assumption); (case h6 => omega); (case h7 | h8 | h9 => assumption); k_whole); intro h' tk' vs' n' hp' hs' F' N'; (try k_sweep)))
theorem setitem {w : World} {A₀ : Around} {base h₀ : Heap} {outer : List Env} {env : Env} {L : Addr} {m mg mb : Str → Option Value} {mean : ExcName → Option Value} {news : List (Addr × Obj)} {s : Shared} {d u : Nat} {gs : Option (List Code)} {R : Result → Shared → Prop}
    {r dx l : Addr} {hh : Int} {th : Tok} {nd nl : Nat} {vs : List Value} {xs : List (Str × Str)} {x y : Str} {tx ty : Tok} {TT : List (Addr × Obj)}
    (C : Cx w A₀ base h₀ outer env L m mg mb mean ((l, lstO vs nl) :: news) s.heap) (hd : d ≤ 860) (hu : u ≤ 4600)
    (hr : (r, instObj 171 dx) ∈ news) (hdx : (dx, dictOf [⟨hh, .str "_headers" th, .ref l⟩] nd) ∈ news) (hoff : ∀ p ∈ news, p.1 ≠ l) (hp : PairsAt TT vs xs) (hTT : ∀ p ∈ TT, p ∈ news) (hsz : vs.length ≤ 1000)
    (hx : okN x) (hxl : okN (Txt.lower x)) (hy : okV y) (hps : ∀ p ∈ xs, okN p.1)
    (hR : ∀ h' tk' vs' t n', PairsAt TT vs' (delH xs (Txt.lower x)) → vs'.length ≤ 1000 → (∀ p ∈ news, p.1 < t) → t ≠ l → Fr h₀ L h' m → News h₀ L h' ((l, lstO (vs' ++ [.ref t]) n') :: (t, tupO [.str x tx, .str y ty] 0) :: news) → R (.ok (.ret .none)) { s with heap := h', toks := tk' }) :
    codeAny (model PySem.Challenge.rw_pg0317_01.row.prog w) ⟨none, d, some (env :: outer), gs, u⟩ (.call (.ref 84) ⟨[.ref r, .str x tx, .str y ty], []⟩) R s := by
  obtain ⟨B, F, X, N, T, hf, hk⟩ := C
  revert X
  k_fill
  intro X
  k_enter
  k_steps
  (rename News _ _ _ _ => N9)
  rw [List.push_toArray] at N9
  (rename (_ ∧ AllLt _ _) => l9)
  (rename PairsAt _ _ (delH _ _) => hp9)
  exact hR _ _ _ _ _ hp9 (by assumption) (allLt_mem l9.2) (Nat.ne_of_gt l9.1) (by assumption) (newsSwap N9)

-- part C8
set_option maxHeartbeats 8000000
open LCg (NsObj lst)
theorem hinit {w : World} {A₀ : Around} {base h₀ : Heap} {outer : List Env} {env : Env} {L : Addr} {m mg mb : Str → Option Value} {mean : ExcName → Option Value} {news : List (Addr × Obj)} {s : Shared} {d u : Nat} {gs : Option (List Code)} {R : Result → Shared → Prop}
    {r dx l : Addr} {nl : Nat} {vs : List Value} {xs : List (Str × Str)}
    (C : Cx w A₀ base h₀ outer env L m mg mb mean ((r, instObj 171 dx) :: (dx, dictOf [] 0) :: news) s.heap) (hd : d ≤ 880) (hu : u ≤ 4800)
    (hoff : ∀ p ∈ news, p.1 ≠ dx) (hrd : @Ne Nat r dx) (hl : (l, lstO vs nl) ∈ news) (hp : PairsAt news vs xs) (hsz : vs.length ≤ 1000) (hps : ∀ p ∈ xs, okN p.1) (hqs : ∀ p ∈ xs, okV p.2)
    (hR : ∀ h' tk' hh th nd, Fr h₀ L h' m → News h₀ L h' ((r, instObj 171 dx) :: (dx, dictOf [⟨hh, .str "_headers" th, .ref l⟩] nd) :: news) → R (.ok (.ret .none)) { s with heap := h', toks := tk' }) :
    codeAny (model PySem.Challenge.rw_pg0317_01.row.prog w) ⟨none, d, some (env :: outer), gs, u⟩ (.call (.ref 63) ⟨[.ref r, .ref l], []⟩) R s := by
  obtain ⟨B, F, X, N, T, hf, hk⟩ := C
  revert X
  k_fill
  intro X
  k_enter
  k_steps
  rename Fr _ _ _ _ => F1
  rename News _ _ _ _ => N1
  refine loopL (items := vs.toArray) (nn := nl) (ol := lstO vs nl) rfl rfl rfl (fun i v hv => .inl (let ⟨_, t, _, _, _, _, e, _⟩ := hp.at hv; ⟨t, e⟩)) (.inl ⟨_, _, _, rfl⟩) F1 N1
    (fun i m₁ news₁ => news₁ = (_, _) :: (_, _) :: news ∧ (∃ u1 u2, m₁ = updo (updo (FrM F1) "k" u1) "v" u2))
    (fun i m₁ news₁ hJ => .inr (hJ.1 ▸ List.mem_cons_of_mem _ (List.mem_cons_of_mem _ hl))) ⟨rfl, ⟨_, _, by rw [updo_self, updo_self]; rfl⟩⟩ ?turn ?done
  case turn =>
    rintro i v m₁ news₁ I h₁ tk₁ oI E' hv ⟨rfl, ⟨u1, u2, rfl⟩⟩ off F₁ N₁
    obtain ⟨p, t, k1, k2, nt, hxi, rfl, hm⟩ := hp.at hv
    have hpo : okN p.1 := hps p (List.mem_of_getElem? hxi)
    have hqo : okV p.2 := hqs p (List.mem_of_getElem? hxi)
    refine asg2 rfl ⟨_, (N₁ _ (List.mem_cons_of_mem _ (List.mem_cons_of_mem _ (List.mem_cons_of_mem _ hm)))).1, rfl, nt, rfl⟩ F₁.ns rfl rfl rfl fun h₂ tk₂ hn₂ k₂ => ?_
    have F₂ := frL F₁ hn₂ k₂
    have N₂ := newsL N₁ k₂
    clear F₁ N₁ hn₂ k₂
    k_steps
    all_goals (dsimp only [TurnEnd])
    refine ⟨_, _, _, _, rfl, by assumption, by assumption, off, rfl, ⟨_, _, upd2_updo2⟩⟩
  case done =>
    rintro h₁ tk₁ m₁ news₁ ⟨rfl, ⟨u1, u2, rfl⟩⟩ F₁ N₁
    k_steps
    exact hR _ _ _ _ _ (by assumption) (by assumption)

-- part R1
set_option maxHeartbeats 8000000
section
variable {prog : Program} {w : World} {A : Around} {E : Value → Shared → Prop} {s : Shared} {h₀ : Heap} {L l b : Addr} {m : Str → Option Value} {news news' : List (Addr × Obj)} {vs ws : List Value} {n k : Nat}
theorem len_N {Q : Value → Shared → Prop} (N : News h₀ L s.heap news) (hl : (l, lstO vs n) ∈ news) (hz : vs.length ≤ 100000) (h : Q (.int (vs.length : Int) (s.toks + 1)) { s with toks := s.toks + 1 + 1 }) :
    wpAny (model prog w) A (call (.builtin "len") [.ref l]) Q E s := by
  refine PyProof.Rows.len_list ⟨_, (N _ hl).1, rfl, n, rfl⟩ (by rw [List.size_toArray]; omega) ?_
  rw [List.size_toArray]; exact h
theorem add_N {Q : Value → Shared → Prop} (F : Fr h₀ L s.heap m) (N : News h₀ L s.heap news) (hl : (l, lstO vs n) ∈ news) (hb : (b, lstO ws k) ∈ news) (hz : vs.length + ws.length ≤ 100000)
    (h : ∀ D h', Fr h₀ L h' m → News h₀ L h' ((D, lstO (vs ++ ws) 0) :: news) → (∀ p ∈ news, p.1 < D) → Q (.ref D) { s with heap := h' }) :
    wpAny (model prog w) A (binaryOp .Add (.ref l) (.ref b)) Q E s :=
  add_arrays (its := vs.toArray) (its2 := ws.toArray) (hsz := by rw [List.size_toArray, List.size_toArray, sizeLine_eq]; omega) F N ⟨_, (N _ hl).1, rfl, n, rfl⟩ ⟨_, (N _ hb).1, rfl, k, rfl⟩
    fun h' F' N' => h _ h' F' N' fun p hp => Heap.lt_size (N p hp).1
theorem foldl_rep (v : Value) (c : Nat) : List.foldl (fun x1 x2 => x1 ++ x2) (#[] : Array Value) (List.replicate c #[v]) = (List.replicate c v).toArray := by
  have e : ∀ (c : Nat) (a : Array Value), List.foldl (fun x1 x2 => x1 ++ x2) a (List.replicate c #[v]) = a ++ (List.replicate c v).toArray := by
    intro c
    induction c with
    | zero => intro a; simp
    | succ c ih =>
      intro a
      rw [List.replicate_succ, List.foldl_cons, ih, List.replicate_succ]
      apply Array.ext'
      simp
  rw [e]; simp
theorem mul_N {v : Value} {x : Int} {u : Tok} {Q : Value → Shared → Prop} (F : Fr h₀ L s.heap m) (N : News h₀ L s.heap news) (hl : (l, lstO [v] n) ∈ news) (hx : x ≤ 100000) (hx0 : 0 ≤ x)
    (h : ∀ D h', Fr h₀ L h' m → News h₀ L h' ((D, lstO (List.replicate x.toNat v) 0) :: news) → (∀ p ∈ news, p.1 < D) → Q (.ref D) { s with heap := h' }) :
    wpAny (model prog w) A (binaryOp .Mult (.ref l) (.int x u)) Q E s := by
  refine mul_list F N (N _ hl).1 (by omega) (by omega) (by simp; omega) fun h' F' N' => h _ h' F' ?_ fun p hp => Heap.lt_size (N p hp).1
  have e : (if (#[v] : Array Value).isEmpty = true then 0 else x.toNat) = x.toNat := by rfl
  rw [show ([v] : List Value).toArray = #[v] from rfl, e, foldl_rep] at N'
  exact N'

noncomputable def AllInts (vs : List Value) : Prop := ∃ ns, IntsAre vs ns
theorem AllInts.nil : AllInts [] := ⟨[], .nil⟩
theorem AllInts.rep (c : Nat) (i : Int) (t : Tok) : AllInts (List.replicate c (.int i t)) := by
  induction c with
  | zero => exact ⟨[], .nil⟩
  | succ c ih => obtain ⟨ns, h⟩ := ih; exact ⟨i :: ns, by rw [List.replicate_succ]; exact .cons i t h⟩
theorem AllInts.app {vs ws : List Value} (h : AllInts vs) (g : AllInts ws) : AllInts (vs ++ ws) := by
  obtain ⟨ns, h⟩ := h
  obtain ⟨ms, g⟩ := g
  exact ⟨ns ++ ms, h.append g⟩
theorem AllInts.set {vs : List Value} (h : AllInts vs) (j : Nat) (x : Int) (u : Tok) : AllInts (vs.set j (.int x u)) := by
  obtain ⟨ns, h⟩ := h
  exact ⟨_, ints_set h j⟩
theorem item_N {value slice : Expr} {k : Int} {u : Tok} {Q : Value → Shared → Prop} (N : News h₀ L s.heap news) (hl : (l, lstO vs n) ∈ news) (hi : AllInts vs) (h0 : 0 ≤ k) (hk : k < vs.length) (hz : vs.length ≤ 100000) (h : ∀ i t, Q (.int i t) s)
    (hs : subscripted slice false (.ref l) (.int k u) = operate [.ref l, .int k u] (getItem (.ref l) (.int k u))) : wpAny (model prog w) A (subscriptTail value slice (.ref l) (.int k u)) Q E s := by
  obtain ⟨ns, hi⟩ := hi
  have e := hi.length
  exact ksa_sub N hl hi h0 (by omega) (by omega) (fun t => h _ t) hs
theorem set_N {k x : Int} {u t : Tok} {Q : Unit → Shared → Prop} (F : Fr h₀ L s.heap m) (N : News h₀ L s.heap news) (U : Upd l (PySem.W.listOf vs.toArray n) (PySem.W.listOf (vs.set k.toNat (.int x u)).toArray n) news news') (hi : AllInts vs) (h0 : 0 ≤ k) (hk : k < vs.length) (hz : vs.length ≤ 100000)
    (h : ∀ h', Fr h₀ L h' m → News h₀ L h' news' → Q () { s with heap := h' }) : wpAny (model prog w) A (setItem (.ref l) (.int k t) (.int x u)) Q E s := by
  obtain ⟨ns, hi⟩ := hi
  have e := hi.length
  exact ksa_set F N U hi h0 (by omega) (by omega) (by intros; apply h <;> assumption)
end
local macro_rules | `(tactic| walk_at "_len") => `(tactic| ((try simp only [List.length_append, List.length_replicate, List.length_cons, List.length_nil]); omega))
local macro_rules | `(tactic| walk_at "_ints") => `(tactic| first | assumption | exact AllInts.app (by assumption) (AllInts.rep _ _ _))
local macro_rules | `(tactic| walk_at "subscriptTail") => `(tactic| (k_here; (with_reducible show wpAny _ _ (subscriptTail _ _ (Value.ref _) (Value.int _ _)) _ _ _); k_dflt (refine' item_N ?N ?l ?i ?a ?b ?z ?_ ?s; (case N => k_asm); (case l => k_mem); (case i => walk_at "_ints"); (case a => omega); (case b | z => walk_at "_len"); (case s => with_unfolding_all rfl)); intro i' t'))
local macro_rules | `(tactic| walk_at "setItem ref int") => `(tactic| (k_here; k_dflt (refine' set_N ?F ?N ?U ?i ?a ?b ?z ?_; (case F | N => k_asm); (case U => k_upd); (case i => walk_at "_ints"); (case a => omega); (case b | z => walk_at "_len"); k_whole); intro h' F' N'; (try k_sweep)))
local macro_rules | `(tactic| walk_at "call type:tuple") => `(tactic| (k_here; (with_reducible show wpAny _ _ (call (Value.type _) [Value.ref _]) _ _ _); k_dflt (refine' kde_tupleOf ?k1 ?k2 ?k3 ?k4 ?k5 ?_; (case k1 | k2 => k_asm); (case k3 => exact News.isList (by k_asm) (by k_mem)); (case k4 => (simp only [List.size_toArray]; omega)); (case k5 => exact rfl); k_whole); intro D' h' F' N' l1; (try k_lt l1); (try k_sweep)))
local macro_rules | `(tactic| walk_at "call builtin:len") => `(tactic| (k_here; (with_reducible show wpAny _ _ (call (Value.builtin "len") [Value.ref _]) _ _ _); k_dflt (refine' len_N ?N ?l ?z ?_; (case N => k_asm); (case l => k_mem); (case z => walk_at "_len"); k_whole)))
local macro_rules | `(tactic| walk_at "binaryOp Add ref ref") => `(tactic| (k_here; k_dflt (refine' add_N ?F ?N ?l ?b ?z ?_; (case F | N => k_asm); (case l | b => k_mem); (case z => walk_at "_len"); k_whole); intro D' h' F' N' l1; (try k_lt l1); (try k_sweep)))
local macro_rules | `(tactic| walk_at "binaryOp Mult ref int") => `(tactic| (k_here; k_dflt (refine' mul_N ?F ?N ?l ?x ?y ?_; (case F | N => k_asm); (case l => k_mem); (case x | y => omega); k_whole); intro D' h' F' N' l1; (try k_lt l1); (try k_sweep)))

-- part C11
set_option maxHeartbeats 8000000
open LCg (NsObj lst)
local macro_rules | `(tactic| walk_at "exec For Name Attribute cons nil") => `(tactic| (k_here; (with_reducible show wpAny _ _ (exec (Stmt.For _ _ _ _ _) _) _ _ _); k_dflt (refine wpAny_For ?_)))
theorem updo5_of {M m' : Str → Option Value} {x1 x2 x3 x4 x5 : Str} (h : ∀ y, y ≠ x1 → y ≠ x2 → y ≠ x3 → y ≠ x4 → y ≠ x5 → m' y = M y) : m' = updo (updo (updo (updo (updo M x1 (m' x1)) x2 (m' x2)) x3 (m' x3)) x4 (m' x4)) x5 (m' x5) := by
  funext y
  simp only [updo]
  (repeat' split) <;> first | (rename_i h; rw [h]) | (apply h <;> assumption)
theorem cnt_succ {x : Str} {i c : Nat} (h : x.cps[i]? = some c) : (x.cps.toList.take (i + 1)).countP (· == 9) = (x.cps.toList.take i).countP (· == 9) + (if c == 9 then 1 else 0) := by
  have h' : x.cps.toList[i]? = some c := by simpa using h
  rw [List.take_add_one, h', List.countP_append]
  simp [List.countP_cons]
noncomputable def NewsM {h₀ h : Heap} {L : Addr} {news : List (Addr × Obj)} (_N : News h₀ L h news) : List (Addr × Obj) := news
theorem wEnd1 {h₀ h : Heap} {L : Addr} {p a b i l : Addr × Obj} {r : List (Addr × Obj)} (N : News h₀ L h (p :: a :: b :: i :: l :: r)) : News h₀ L h (i :: p :: r) := newsSub N fun z hz => by
  simp only [List.mem_cons] at hz ⊢
  rcases hz with h | h | h
  · exact .inr (.inr (.inr (.inl h)))
  · exact .inl h
  · exact .inr (.inr (.inr (.inr (.inr h))))
theorem newsDrop4 {h₀ h : Heap} {L : Addr} {a b c d : Addr × Obj} {r : List (Addr × Obj)} (N : News h₀ L h (a :: b :: c :: d :: r)) : News h₀ L h r := newsSub N fun _ hz =>
  List.mem_cons_of_mem _ (List.mem_cons_of_mem _ (List.mem_cons_of_mem _ (List.mem_cons_of_mem _ hz)))
theorem winit {w : World} {A₀ : Around} {base h₀ : Heap} {outer : List Env} {env : Env} {L : Addr} {m mg mb : Str → Option Value} {mean : ExcName → Option Value} {news : List (Addr × Obj)} {s : Shared} {d u : Nat} {gs : Option (List Code)} {R : Result → Shared → Prop}
    {r dx : Addr} {x : Str} {tx : Tok}
    (C : Cx w A₀ base h₀ outer env L m mg mb mean ((r, instObj 279 dx) :: (dx, dictOf [] 0) :: news) s.heap) (hd : d ≤ 880) (hu : u ≤ 4800)
    (hoff : ∀ p ∈ news, p.1 ≠ dx) (hrd : @Ne Nat r dx) (hx : ∀ c ∈ x.cps.toList, c = 32 ∨ c = 9) (hsz : x.cps.size ≤ 100)
    (hR : ∀ h' tk' g0 g1 g2 g3 g4 t0 t1 t2 t3 t4 u1 u2 v3 v4 nd, Fr h₀ L h' m → News h₀ L h' ((r, instObj 279 dx) :: (dx, dictOf [⟨g0, .str "raw" t0, .str x tx⟩, ⟨g1, .str "n" t1, .int (x.cps.size : Int) u1⟩, ⟨g2, .str "nt" t2, .int ((x.cps.toList.countP (· == 9) : Nat) : Int) u2⟩, ⟨g3, .str "norm" t3, v3⟩, ⟨g4, .str "is_simple" t4, v4⟩] nd) :: news) → R (.ok (.ret .none)) { s with heap := h', toks := tk' }) :
    codeAny (model PySem.Challenge.rw_pg0317_01.row.prog w) ⟨none, d, some (env :: outer), gs, u⟩ (.call (.ref 234) ⟨[.ref r, .str x tx], []⟩) R s := by
  obtain ⟨B, F, X, N, T, hf, hk⟩ := C
  revert X
  k_fill
  intro X
  k_enter
  k_steps
  rename Fr _ _ _ _ => F1
  rename News _ _ _ _ => N1
  (rename (_ ∧ _ ∧ _ ∧ AllLt _ _) => l9)
  refine loopS rfl (fun _ _ => rfl) F1 N1
    (fun i m₁ news₁ => ∃ lc cs nn b nt N vc vb vn vnt uch, news₁ = (lc, lstO cs nn) :: (NewsM N1).tail ∧ (∀ p ∈ (NewsM N1).tail, @Ne Nat p.1 lc) ∧ AllInts cs ∧ cs.length ≤ i + 1 ∧ 0 ≤ b ∧ b ≤ (i : Int) ∧ N = (i : Int) ∧ nt = (((x.cps.toList.take i).countP (· == 9) : Nat) : Int) ∧
      m₁ = updo (updo (updo (updo (updo (FrM F1) "count" vc) "b" vb) "n" vn) "nt" vnt) "ch" uch ∧ vc = some (.ref lc) ∧ (∃ t, vb = some (.int b t)) ∧ (∃ t, vn = some (.int N t)) ∧ (∃ t, vnt = some (.int nt t)))
    ⟨_, [], 0, 0, 0, 0, _, _, _, _, _, rfl, ?_, AllInts.nil, by simp, by decide, by simp, rfl, rfl, updo5_of (fun y _ _ _ _ _ => rfl), rfl, ⟨_, rfl⟩, ⟨_, rfl⟩, ⟨_, rfl⟩⟩ ?turn ?done
  · intro p hp
    dsimp only [NewsM, List.tail_cons] at hp
    simp only [List.mem_cons] at hp
    rcases hp with rfl | rfl | rfl | hp
    · exact Nat.ne_of_lt l9.1
    · exact Nat.ne_of_lt l9.2.1
    · exact Nat.ne_of_lt l9.2.2.1
    · exact Nat.ne_of_lt (allLt_mem l9.2.2.2 p hp)
  case turn =>
    rintro i c tv m₁ news₁ I h₁ tk₁ oI E' hc ⟨lc, cs, nn, b, nt, N, vc, vb, vn, vnt, uch, rfl, hlc, hns, hcs, hb0, hbi, hN, hnt, rfl, rfl, ⟨tb, rfl⟩, ⟨tn, rfl⟩, ⟨tnt, rfl⟩⟩ off F₁ N₁
    dsimp only [NewsM, List.tail_cons] at hlc off N₁ ⊢
    have hne1 := hlc _ (List.mem_cons_self)
    have hne2 := hlc _ (List.mem_cons_of_mem _ List.mem_cons_self)
    have hne3 := hlc _ (List.mem_cons_of_mem _ (List.mem_cons_of_mem _ List.mem_cons_self))
    have hlcn : ∀ p ∈ news, p.1 ≠ lc := fun p hp => hlc p (List.mem_cons_of_mem _ (List.mem_cons_of_mem _ (List.mem_cons_of_mem _ hp)))
    dsimp only at hne1 hne2 hne3
    have hil : i < x.cps.size := (Array.getElem?_eq_some_iff.mp hc).1
    refine asg1 F₁.ns rfl rfl fun h₂ tk₂ hn₂ k₂ => ?_
    have F₂ := frL F₁ hn₂ k₂
    have N₂ := newsL N₁ k₂
    clear F₁ N₁ hn₂ k₂
    have hc' : c = 32 ∨ c = 9 := hx c (by have := Array.mem_of_getElem? hc; simpa using this)
    rcases hc' with rfl | rfl
    · k_steps
      refine ⟨_, _, _, _, rfl, by assumption, by assumption, off, ?_⟩
      refine ⟨lc, cs, nn, b + 1, nt, N + 1, _, _, _, _, _, rfl, hlc, hns, by omega, by omega, by omega, by omega, by rw [cnt_succ hc]; simpa using hnt, updo5_of (fun y h1 h2 h3 h4 h5 => ?_), rfl, ⟨_, rfl⟩, ⟨_, rfl⟩, ⟨_, rfl⟩⟩
      simp only [upd, updo, if_neg h1, if_neg h2, if_neg h3, if_neg h4, if_neg h5]
    · have hnI := off _ List.mem_cons_self
      replace hnI : @Ne Nat lc I := hnI
      have hnew : nt + 1 = (((x.cps.toList.take (i + 1)).countP (· == 9) : Nat) : Int) := by rw [cnt_succ hc, hnt]; simp
      k_steps
      · refine ⟨_, _, _, _, rfl, by assumption, wEnd1 (by assumption), ?_, ?_⟩
        · intro p hp
          rcases List.mem_cons.mp hp with rfl | hp
          · show @Ne Nat _ _
            omega
          · exact off p (List.mem_cons_of_mem _ hp)
        · refine ⟨_, _, _, 0, nt + 1, N + 1, _, _, _, _, _, rfl, (by k_all), (AllInts.app hns (AllInts.rep _ _ _)).set _ _ _, ?_, by omega, by omega, by omega, hnew, updo5_of (fun y h1 h2 h3 h4 h5 => ?_), rfl, ⟨_, rfl⟩, ⟨_, rfl⟩, ⟨_, rfl⟩⟩
          · simp only [List.length_set, List.length_append, List.length_replicate]
            omega
          · simp only [upd, updo, if_neg h1, if_neg h2, if_neg h3, if_neg h4, if_neg h5]
      · refine ⟨_, _, _, _, rfl, by assumption, by assumption, ?_, ?_⟩
        · intro p hp
          rcases List.mem_cons.mp hp with rfl | hp
          · exact hnI
          · exact off p (List.mem_cons_of_mem _ hp)
        · refine ⟨_, _, _, 0, nt + 1, N + 1, _, _, _, _, _, rfl, hlc, hns.set _ _ _, ?_, by omega, by omega, by omega, hnew, updo5_of (fun y h1 h2 h3 h4 h5 => ?_), rfl, ⟨_, rfl⟩, ⟨_, rfl⟩, ⟨_, rfl⟩⟩
          · simp only [List.length_set]
            omega
          · simp only [upd, updo, if_neg h1, if_neg h2, if_neg h3, if_neg h4, if_neg h5]
  case done =>
    rintro h₁ tk₁ m₁ news₁ ⟨lc, cs, nn, b, nt, N, vc, vb, vn, vnt, uch, rfl, hlc, hns, hcs, hb0, hbi, hN, hnt, rfl, rfl, ⟨tb, rfl⟩, ⟨tn, rfl⟩, ⟨tnt, rfl⟩⟩ F₁ N₁
    dsimp only [NewsM, List.tail_cons] at hlc N₁ ⊢
    have hne1 := hlc _ (List.mem_cons_self)
    have hne2 := hlc _ (List.mem_cons_of_mem _ List.mem_cons_self)
    have hne3 := hlc _ (List.mem_cons_of_mem _ (List.mem_cons_of_mem _ List.mem_cons_self))
    have hlcn : ∀ p ∈ news, p.1 ≠ lc := fun p hp => hlc p (List.mem_cons_of_mem _ (List.mem_cons_of_mem _ (List.mem_cons_of_mem _ hp)))
    dsimp only at hne1 hne2 hne3
    rw [List.take_of_length_le (by simp)] at hnt
    subst hN hnt
    k_steps
    exact hR _ _ _ _ _ _ _ _ _ _ _ _ _ _ _ _ _ (by assumption) (newsDrop4 (by assumption))

-- part C13
set_option maxHeartbeats 8000000
open LCg (NsObj lst)

local macro_rules | `(tactic| walk_at "call ref") => `(tactic| (k_here; (with_reducible show wpAny _ _ (call (Value.ref 210) _ _) _ _ _); (refine wpAny_call ?_); k_dflt (refine' addfunc ⟨?B, ?F, ?X, ?N, ?T, ?f, ?k⟩ ?d ?u ?h1 ?h2 ?h3 ?h4 ?h5 ?h6 ?h7 ?h8 ?_; (case B | F | X | N | T => k_asm); (case f | k => first | exact rfl | assumption); (case d | u => (dsimp only; omega)); (case h1 | h2 | h3 | h4 => k_mem); (case h5 | h6 | h7 | h8 => assumption); k_whole); intro h' tk' t' d' o' i0' i1' i2' i3' n3' l1 l2 hd' lo' F' N'; (try k_lt l1); (try k_lt l2); (try k_sweep)))

local macro_rules | `(tactic| walk_at "call ref") => `(tactic| (k_here; (with_reducible show wpAny _ _ (call (Value.ref 135) _ _) _ _ _); (refine wpAny_call ?_); k_dflt (refine' items ⟨?B, ?F, ?X, ?N, ?T, ?f, ?k⟩ ?d ?u ?h1 ?h2 ?h3 ?h4 ?_; (case B | F | X | N | T => k_asm); (case f | k => first | exact rfl | assumption); (case d | u => (dsimp only; omega)); (case h1 | h2 | h3 => k_mem); (case h4 => omega); k_whole); intro h' tk' l' l1 F' N'; (try k_lt l1); (try k_sweep)))
theorem call_clsA {prog : Program} {w : World} {E : Value → Shared → Prop} {s : Shared} {K : Frag} {C L : Addr} {h₀ : Heap} {m : Str → Option Value} {news : List (Addr × Obj)} {Q : Value → Shared → Prop} {pos : List Value} {fI : Addr} {d u : Nat} {fs : Option (List Env)} {gs : Option (List Code)}
    (F : Fr h₀ L s.heap m) (X₀ : K.In h₀) (N : News h₀ L s.heap news) (hm : makesIn K C = true) (hi : findIn K (.ref C) "__init__" = some (some (.ref fI))) (hf : isFn K (.ref fI) = true)
    (h : ∀ x dx h', Fr h₀ L h' m → News h₀ L h' ((x, instObj C dx) :: (dx, dictOf [] 0) :: news) → (∀ p ∈ news, p.1 < dx) → dx < x →
      codeAny (model prog w) ⟨none, d + 1, fs, gs, u + 1⟩ (.call (.ref fI) ⟨.ref x :: pos, []⟩) (InitBack x fun r s' => match r with | .ok (.ret v) => Q v s' | .ok _ => False | .error e => E e s') { s with heap := h' }) :
    wpAny (model prog w) ⟨none, d, fs, gs, u⟩ (call (.ref C) pos []) Q E s := call_cls F X₀ N hm hi hf h
local macro_rules | `(tactic| walk_at "call ref") => `(tactic| (k_here; (with_reducible show wpAny _ _ (call (Value.ref 279) _ _) _ _ _); k_dflt (refine' call_clsA ?k1 ?k2 ?k3 ?k4 ?k5 ?k6 ?_; (case k1 | k2 | k3 => k_asm); (case k4 | k5 | k6 => k_is); k_whole; intro x' d' h' F' N' l1 l2; (have l3 := l1); (try k_lt l1); (try k_lt2 l2); (try k_sweep); refine' winit ⟨?B, ?F, ?X, ?N, ?T, ?f, ?k⟩ ?d ?u ?h1 ?h2 ?h3 ?h4 ?_; (case B | F | X | N | T => k_asm); (case f | k => first | exact rfl | assumption); (case d | u => (dsimp only; omega)); (case h1 => exact fun p hp => Nat.ne_of_lt (l3 p hp)); (case h2 => exact Nat.ne_of_gt l2); (case h3 | h4 => assumption); k_whole); intro h' tk' g0' g1' g2' g3' g4' t0' t1' t2' t3' t4' u1' u2' v3' v4' nd' F' N'; (clear l3); (try dsimp only [InitBack]); (try refine ⟨rfl, ?_⟩); (try k_sweep)))

theorem wEnd3 {h₀ h : Heap} {L : Addr} {a b c d e f i j l t0 d0 : Addr × Obj} {r : List (Addr × Obj)} (N : News h₀ L h (a :: b :: c :: d :: e :: f :: i :: j :: l :: t0 :: d0 :: r)) : News h₀ L h (i :: j :: l :: a :: b :: r) := newsSub N fun z hz => by
  simp only [List.mem_cons] at hz ⊢
  rcases hz with h | h | h | h | h | h
  all_goals simp [h]
theorem newsKeep2 {h₀ h : Heap} {L : Addr} {a b c d : Addr × Obj} {r : List (Addr × Obj)} (N : News h₀ L h (a :: b :: c :: d :: r)) : News h₀ L h (b :: r) := newsSub N fun z hz => by
  simp only [List.mem_cons] at hz ⊢
  rcases hz with h | h
  all_goals simp [h]
/-- a text of blanks and tabs alone -/
noncomputable def okW (y : Str) : Prop := (∀ c ∈ y.cps.toList, c = 32 ∨ c = 9) ∧ y.cps.size ≤ 100
noncomputable def tabsOf (y : Str) : Int := ((y.cps.toList.countP (· == 9) : Nat) : Int)
noncomputable def blanksOf (y : Str) : Int := (y.cps.size : Int) - tabsOf y
/-- the sums so far -/
noncomputable def hts (ds : List Int) : List Int := (List.range ds.length).map fun j => (ds.take (j + 1)).sum
noncomputable def netOf (p : Str × Str) : Int := blanksOf p.2 - tabsOf p.2

theorem heights {w : World} {A₀ : Around} {base h₀ : Heap} {outer : List Env} {env : Env} {L : Addr} {m mg mb : Str → Option Value} {mean : ExcName → Option Value} {news : List (Addr × Obj)} {s : Shared} {d u : Nat} {gs : Option (List Code)} {R : Result → Shared → Prop}
    {r dx l : Addr} {hh : Int} {th : Tok} {nd nl : Nat} {vs : List Value} {xs : List (Str × Str)}
    (C : Cx w A₀ base h₀ outer env L m mg mb mean news s.heap) (hd : d ≤ 860) (hu : u ≤ 4600)
    (hr : (r, instObj 171 dx) ∈ news) (hdx : (dx, dictOf [⟨hh, .str "_headers" th, .ref l⟩] nd) ∈ news) (hl : (l, lstO vs nl) ∈ news) (hp : PairsAt news vs xs) (hsz : vs.length ≤ 1000) (hws : ∀ p ∈ xs, okW p.2)
    (hR : ∀ h' tk' D hs n, (∀ p ∈ news, p.1 < D) → IntsAre hs (hts (xs.map netOf)) → Fr h₀ L h' m → News h₀ L h' ((D, lstO hs n) :: news) → R (.ok (.ret (.ref D))) { s with heap := h', toks := tk' }) :
    codeAny (model PySem.Challenge.rw_pg0317_01.row.prog w) ⟨none, d, some (env :: outer), gs, u⟩ (.call (.ref 290) ⟨[.ref r], []⟩) R s := by
  obtain ⟨B, F, X, N, T, hf, hk⟩ := C
  revert X
  k_fill
  intro X
  k_enter
  k_steps
  rename Fr _ _ _ _ => F1
  rename News _ _ _ _ => N1
  (rename (_ ∧ _ ∧ _ ∧ AllLt _ _) => l9)
  (rename (_ ∧ _ ∧ AllLt _ _) => l8)
  refine loopL (items := vs.toArray) (nn := 0) (ol := lstO vs 0) rfl rfl rfl (fun i v hv => .inl (let ⟨_, t, _, _, _, _, e, _⟩ := hp.at hv; ⟨t, e⟩)) (.inl ⟨_, _, _, rfl⟩) F1 N1
    (fun i m₁ news₁ => ∃ lh hs nh tt d0 o0 a1 a2 k0 k1 k2 k3 nt z2 z3 vt vh vl vn vv, news₁ = (NewsM N1).head! :: (lh, lstO hs nh) :: (tt, tupO [.int a1 k0, .int a2 k1, .int z2 k2, .int z3 k3, .ref d0] nt) :: (d0, o0) :: news ∧
      o0.IsDictOf (strKind PySem.Challenge.rw_pg0317_01.row.prog w) [] ∧ (d0 == sysModules) = false ∧ (∀ p ∈ news, @LT.lt Nat _ p.1 lh) ∧ @Ne Nat tt lh ∧ @Ne Nat d0 lh ∧ @Ne Nat (NewsM N1).head!.1 lh ∧ hs.length = i ∧ IntsAre hs ((List.range i).map fun j => (((xs.map netOf).take (j + 1)).sum)) ∧
      a1 - a2 = ((xs.map netOf).take i).sum ∧ vt = some (.ref tt) ∧ vh = some (.ref lh) ∧
      m₁ = updo (updo (updo (updo (updo (FrM F1) "total" vt) "heights" vh) "lead" vl) "name" vn) "value" vv)
    (fun i m₁ news₁ hJ => .inr (by obtain ⟨lh, hs, nh, tt, d0, o0, a1, a2, k0, k1, k2, k3, nt, z2, z3, vt, vh, vl, vn, vv, rfl, _⟩ := hJ; exact List.mem_cons_self)) ?init ?turn ?done
  case init =>
    refine ⟨_, [], 0, _, _, _, 0, 0, _, _, _, _, 0, 0, 0, _, _, _, _, _, rfl, by assumption, by assumption, allLt_mem l8.2.2, Nat.ne_of_lt l8.1, Nat.ne_of_lt l8.2.1, Nat.ne_of_gt l9.1, rfl, .nil, by simp, rfl, rfl, updo5_of (fun y _ _ _ _ _ => rfl)⟩
  case turn =>
    rintro i v m₁ news₁ I h₁ tk₁ oI E' hv ⟨lh, hs, nh, tt, d0, o0, a1, a2, k0, k1, k2, k3, nt, z2, z3, vt, vh, vl, vn, vv, rfl, hd0, lo0, hlt, hne1, hne2, hne3, hlen, hints, hsum, rfl, rfl, rfl⟩ off F₁ N₁
    dsimp only [NewsM, List.head!] at hne3 off F₁ N₁ ⊢
    obtain ⟨p, t, j1, j2, n2, hxi, rfl, hm⟩ := hp.at hv
    obtain ⟨hw, hz⟩ := hws p (List.mem_of_getElem? hxi)
    have hil : i < vs.length := by simpa using (Array.getElem?_eq_some_iff.mp hv).1
    have hlh : ∀ p ∈ news, p.1 ≠ lh := fun p hp => Nat.ne_of_lt (hlt p hp)
    have hnI : @Ne Nat lh I := off _ (List.mem_cons_of_mem _ List.mem_cons_self)
    refine asg2 rfl ⟨_, (N₁ _ (List.mem_cons_of_mem _ (List.mem_cons_of_mem _ (List.mem_cons_of_mem _ (List.mem_cons_of_mem _ (List.mem_cons_of_mem _ hm)))))).1, rfl, n2, rfl⟩ F₁.ns rfl rfl rfl fun h₂ tk₂ hn₂ k₂ => ?_
    have F₂ := frL F₁ hn₂ k₂
    have N₂ := newsL N₁ k₂
    clear F₁ N₁ hn₂ k₂
    k_steps
    (rename News _ _ _ _ => N9)
    rw [List.push_toArray] at N9
    have hnx : ((xs.map netOf).take (i + 1)).sum = ((xs.map netOf).take i).sum + netOf p := by
      rw [List.take_add_one, List.getElem?_map, hxi]; simp
    have hnet : netOf p = (p.snd.cps.size : Int) - ((List.countP (fun x => x == 9) p.snd.cps.toList : Nat) : Int) - ((List.countP (fun x => x == 9) p.snd.cps.toList : Nat) : Int) := rfl
    refine ⟨_, _, _, _, rfl, by assumption, wEnd3 N9, ?_, ?_⟩
    · intro q hq
      rcases List.mem_cons.mp hq with rfl | hq
      · exact off _ List.mem_cons_self
      rcases List.mem_cons.mp hq with rfl | hq
      · exact hnI
      rcases List.mem_cons.mp hq with rfl | hq
      · show @Ne Nat _ _
        omega
      rcases List.mem_cons.mp hq with rfl | hq
      · show @Ne Nat _ _
        omega
      · exact off q (List.mem_cons_of_mem _ (List.mem_cons_of_mem _ (List.mem_cons_of_mem _ (List.mem_cons_of_mem _ hq))))
    · refine ⟨lh, _, _, _, _, _, _, _, _, _, _, _, _, _, _, _, _, _, _, _, rfl, by assumption, by assumption, hlt, ?_, ?_, hne3, ?_, ?_, ?_, rfl, rfl, updo5_of (fun y h1 h2 h3 h4 h5 => ?_)⟩
      · show @Ne Nat _ _
        omega
      · show @Ne Nat _ _
        omega
      · rw [List.length_append, List.length_singleton, hlen]
      · rw [List.range_succ, List.map_append]
        refine hints.append ?_
        show IntsAre _ [((xs.map netOf).take (i + 1)).sum]
        rw [hnx]
        rw [show ((xs.map netOf).take i).sum + netOf p = (↑p.snd.cps.size - ↑(List.countP (fun x => x == 9) p.snd.cps.toList) + a1) - (↑(List.countP (fun x => x == 9) p.snd.cps.toList) + a2) from by rw [hnet]; omega]
        exact .cons _ _ .nil
      · rw [hnx, hnet]; omega
      · simp only [upd, updo, if_neg h1, if_neg h2, if_neg h3, if_neg h4, if_neg h5]
  case done =>
    rintro h₁ tk₁ m₁ news₁ ⟨lh, hs, nh, tt, d0, o0, a1, a2, k0, k1, k2, k3, nt, z2, z3, vt, vh, vl, vn, vv, rfl, hd0, lo0, hlt, hne1, hne2, hne3, hlen, hints, hsum, rfl, rfl, rfl⟩ F₁ N₁
    dsimp only [NewsM, List.head!] at hne3 F₁ N₁ ⊢
    k_steps
    refine hR _ _ _ _ _ hlt ?_ (by assumption) (newsKeep2 (by assumption))
    unfold hts
    rw [List.length_map, ← hp.1, ← List.size_toArray]
    exact hints

-- part C14
set_option maxHeartbeats 8000000
open LCg (NsObj lst)
theorem newsRot2 {h₀ h : Heap} {L : Addr} {a b c : Addr × Obj} {r : List (Addr × Obj)} (N : News h₀ L h (a :: b :: c :: r)) : News h₀ L h (b :: c :: a :: r) := newsSub N fun z hz => by
  simp only [List.mem_cons] at hz ⊢
  rcases hz with h | h | h | h
  all_goals simp [h]
theorem hinit0 {w : World} {A₀ : Around} {base h₀ : Heap} {outer : List Env} {env : Env} {L : Addr} {m mg mb : Str → Option Value} {mean : ExcName → Option Value} {news : List (Addr × Obj)} {s : Shared} {d u : Nat} {gs : Option (List Code)} {R : Result → Shared → Prop}
    {r dx : Addr}
    (C : Cx w A₀ base h₀ outer env L m mg mb mean ((r, instObj 171 dx) :: (dx, dictOf [] 0) :: news) s.heap) (hd : d ≤ 880) (hu : u ≤ 4800)
    (hoff : ∀ p ∈ news, p.1 ≠ dx) (hrd : @Ne Nat r dx)
    (hR : ∀ h' tk' hh th nd l, (∀ p ∈ news, @LT.lt Nat _ p.1 l) → @LT.lt Nat _ r l → @LT.lt Nat _ dx l → Fr h₀ L h' m → News h₀ L h' ((r, instObj 171 dx) :: (dx, dictOf [⟨hh, .str "_headers" th, .ref l⟩] nd) :: (l, lstO [] 0) :: news) → R (.ok (.ret .none)) { s with heap := h', toks := tk' }) :
    codeAny (model PySem.Challenge.rw_pg0317_01.row.prog w) ⟨none, d, some (env :: outer), gs, u⟩ (.call (.ref 63) ⟨[.ref r], []⟩) R s := by
  obtain ⟨B, F, X, N, T, hf, hk⟩ := C
  revert X
  k_fill
  intro X
  k_enter
  k_steps
  rename Fr _ _ _ _ => F1
  rename News _ _ _ _ => N1
  (rename (_ ∧ _ ∧ AllLt _ _) => l9)
  refine loopL (items := #[]) (nn := 0) (ol := lstO [] 0) rfl rfl rfl (fun i v hv => by simp at hv) (.inl ⟨_, _, _, rfl⟩) F1 N1
    (fun i m₁ news₁ => news₁ = NewsM N1 ∧ (∃ u1 u2, m₁ = updo (updo (FrM F1) "k" u1) "v" u2))
    (fun i m₁ news₁ hJ => .inr (by rw [hJ.1]; exact List.mem_cons_self)) ⟨rfl, ⟨_, _, by rw [updo_self, updo_self]; rfl⟩⟩ ?turn ?done
  case turn =>
    rintro i v m₁ news₁ I h₁ tk₁ oI E' hv _ off F₁ N₁
    simp at hv
  case done =>
    rintro h₁ tk₁ m₁ news₁ ⟨rfl, ⟨u1, u2, rfl⟩⟩ F₁ N₁
    dsimp only [NewsM] at N₁
    k_steps
    (rename News _ _ _ _ => N9)
    exact hR _ _ _ _ _ _ (allLt_mem l9.2.2) l9.1 l9.2.1 (by assumption) (newsRot2 N9)

local macro_rules | `(tactic| walk_at "call ref") => `(tactic| (k_here; (with_reducible show wpAny _ _ (call (Value.ref 171) _ _) _ _ _); k_dflt (refine' call_clsA ?k1 ?k2 ?k3 ?k4 ?k5 ?k6 ?_; (case k1 | k2 | k3 => k_asm); (case k4 | k5 | k6 => k_is); k_whole; intro x' d' h' F' N' l1 l2; (have l3 := l1); (try k_lt l1); (try k_lt2 l2); (try k_sweep); refine' hinit ⟨?B, ?F, ?X, ?N, ?T, ?f, ?k⟩ ?d ?u ?g1 ?g2 ?h3 ?h4 ?h5 ?h6 ?h7 ?_; (case B | F | X | N | T => k_asm); (case f | k => first | exact rfl | assumption); (case d | u => exact Nat.le_of_ble_eq_true rfl); (case g1 => exact fun p hp => Nat.ne_of_lt (l3 p hp)); (case g2 => exact Nat.ne_of_gt l2); (case h3 => k_mem); (case h4 => assumption); (case h5 => omega); (case h6 | h7 => assumption); k_whole); intro h' tk' hh' th' nd' F' N'; (clear l3); (try dsimp only [InitBack]); (try refine ⟨rfl, ?_⟩); (try k_sweep)))

local macro_rules | `(tactic| walk_at "call ref") => `(tactic| (k_here; (with_reducible show wpAny _ _ (call (Value.ref 171) _ _) _ _ _); k_dflt (refine' call_clsA ?k1 ?k2 ?k3 ?k4 ?k5 ?k6 ?_; (case k1 | k2 | k3 => k_asm); (case k4 | k5 | k6 => k_is); k_whole; intro x' d' h' F' N' l1 l2; (have l3 := l1); (try k_lt l1); (try k_lt2 l2); (try k_sweep); refine' hinit0 ⟨?B, ?F, ?X, ?N, ?T, ?f, ?k⟩ ?d ?u ?g1 ?g2  ?_; (case B | F | X | N | T => k_asm); (case f | k => first | exact rfl | assumption); (case d | u => exact Nat.le_of_ble_eq_true rfl); (case g1 => exact fun p hp => Nat.ne_of_lt (l3 p hp)); (case g2 => exact Nat.ne_of_gt l2);  k_whole); intro h' tk' hh' th' nd' l' l4 l5 l6 F' N'; (try k_lt l4); (clear l3); (try dsimp only [InitBack]); (try refine ⟨rfl, ?_⟩); (try k_sweep)))

-- part LB
set_option maxHeartbeats 8000000
noncomputable def lawBody : List Stmt := match PySem.Challenge.pw_pg0317_01.main.body.getLast? with
  | some (.FunctionDef _ _ b _ _ _ _ _ _ _) => b
  | _ => []
noncomputable def lawScope : Scope := match PySem.Challenge.pw_pg0317_01.main.body.getLast? with
  | some (.FunctionDef _ _ _ _ _ _ sc _ _ _) => sc
  | _ => { kind := .function, names := [], isGenerator := false, isCoroutine := false }
noncomputable def stAt (i : Nat) : Stmt := lawBody.getD i (.Pass default)
structure Lx (w : World) (h₀ : Heap) (L : Addr) (m mg mb : Str → Option Value) (mean : ExcName → Option Value) (news : List (Addr × Obj)) (h : Heap) : Prop where
  B : Below callerA h₀ [] h₀
  F : Fr h₀ L h m
  X : (heapD w.params).In h₀
  N : News h₀ L h news
  T : Top viewD (looseW viewD [Str.ofString "_name_disallowed_re", Str.ofString "_value_disallowed_re", Str.ofString "Whitespace"]) mean mg mb h₀
/-- the steps' tuples -/
noncomputable def StepsAt (news : List (Addr × Obj)) (vs : List Value) (ss : List (Int × Int × Int)) : Prop :=
  vs.length = ss.length ∧ ∀ (i : Nat) x, ss[i]? = some x → ∃ t k1 k2 k3 nt, vs[i]? = some (.ref t) ∧ (t, tupO [.int x.1 k1, .int x.2.1 k2, .int x.2.2 k3] nt) ∈ news
local macro_rules | `(tactic| walk_at "eval Name") => `(tactic| (k_here; k_dflt (first
  | (refine' nameX_L ?F ?v ?_ ?a ?b; (case F => k_asm); (case a | b => rfl); (case v => first | rfl | assumption); k_whole)
  | (refine' nameX_C ?N ?c ?m ?d ?_ ?a ?b; (case a => rfl); (case b => rfl); (case N => k_asm); (case c => rfl); (case m => k_mem); (case d => k_asm); k_whole))))

-- part T0
set_option maxHeartbeats 8000000
open LCg (NsObj lst)
theorem map_take_succ {α β : Type} (f : α → β) (l : List α) (i : Nat) (h : i < l.length) : (l.take (i + 1)).map f = (l.take i).map f ++ [f l[i]] := by
  rw [List.take_add_one, List.getElem?_eq_getElem h, List.map_append]; rfl
theorem newsRot3 {h₀ h : Heap} {L : Addr} {a i c d : Addr × Obj} {T r : List (Addr × Obj)} (N : News h₀ L h (a :: i :: c :: d :: (T ++ r))) : News h₀ L h (i :: c :: d :: ((a :: T) ++ r)) := newsSub N fun z hz => by
  simp only [List.mem_cons, List.cons_append] at hz ⊢
  rcases hz with h | h | h | h | h
  all_goals simp [h]
noncomputable def stepOf (v : Int) : Int × Int × Int := (Int.fmod v 4, Int.fmod (Int.fdiv v 4) 4, Int.fmod (Int.fdiv v 16) 2)
theorem StepsAt.mono {news news' : List (Addr × Obj)} {vs : List Value} {ss : List (Int × Int × Int)} (h : StepsAt news vs ss) (k : ∀ p ∈ news, p ∈ news') : StepsAt news' vs ss :=
  ⟨h.1, fun i x hx => let ⟨t, k1, k2, k3, nt, e, hm⟩ := h.2 i x hx; ⟨t, k1, k2, k3, nt, e, k _ hm⟩⟩
theorem StepsAt.snoc {news : List (Addr × Obj)} {ys : List Value} {zs : List (Int × Int × Int)} {t : Addr} {k1 k2 k3 : Tok} {nt : Nat} {p : Int × Int × Int} (h : StepsAt news ys zs) (hm : (t, tupO [.int p.1 k1, .int p.2.1 k2, .int p.2.2 k3] nt) ∈ news) : StepsAt news (ys ++ [.ref t]) (zs ++ [p]) := by
  refine ⟨by rw [List.length_append, List.length_append, h.1]; rfl, fun i x hx => ?_⟩
  rcases Nat.lt_or_ge i zs.length with hi | hi
  · rw [List.getElem?_append_left hi] at hx
    obtain ⟨t', a, b, c, n', e, hm'⟩ := h.2 i x hx
    exact ⟨t', a, b, c, n', by rw [List.getElem?_append_left (by rw [h.1]; exact hi)]; exact e, hm'⟩
  · rw [List.getElem?_append_right hi] at hx
    have e0 : i - zs.length = 0 := by
      cases q : i - zs.length with
      | zero => rfl
      | succ j => rw [q] at hx; simp at hx
    rw [e0] at hx
    have ex : x = p := by simpa using hx.symm
    subst ex
    refine ⟨t, k1, k2, k3, nt, ?_, hm⟩
    rw [List.getElem?_append_right (by rw [h.1]; exact hi), h.1, e0]
    rfl
theorem st0 {w : World} {h₀ : Heap} {L fa : Addr} {cd : Value} {m mg mb : Str → Option Value} {mean : ExcName → Option Value} {news : List (Addr × Obj)} {s : Shared} {Q : Flow → Shared → Prop} {E : Value → Shared → Prop}
    {l0 : Addr} {ws : List Value} {ns : List Int}
    (C : Lx w h₀ L m mg mb mean news s.heap) (hm : m "script" = some (.ref l0)) (hl : h₀.IsList l0 ws.toArray) (hi : IntsAre ws ns) (hsz : ns.length ≤ 63)
    (hQ : ∀ h' tk' D ys T, (∀ p ∈ T, ∀ q ∈ news, @LT.lt Nat _ q.1 p.1) → (∀ q ∈ news, @Ne Nat q.1 D) → (∀ p ∈ T, @Ne Nat p.1 D) → StepsAt T ys ((ns.take 4 ++ [6, 9, 20]).map stepOf) → Fr h₀ L h' (upd m "steps" (.ref D)) → News h₀ L h' ((D, lst ys) :: (T ++ news)) → Q .next { s with heap := h', toks := tk' }) :
    wpAny (model PySem.Challenge.rw_pg0317_01.row.prog w) (callerA.deeper (envOfC (Str.ofString "law") lawScope L fa cd)) (exec (stAt 0) (envOfC (Str.ofString "law") lawScope L fa cd)) Q E s := by
  obtain ⟨B, F, X, N, T⟩ := C
  revert X
  k_fill
  intro X
  dsimp only [stAt, lawBody, lawScope, PySem.Challenge.pw_pg0317_01, List.getLast?, List.getLast, List.getD, List.getElem?_cons_succ, List.getElem?_cons_zero, Option.getD_some]
  refine compA_front (by with_unfolding_all rfl) (by with_unfolding_all rfl) rfl (by decide) ?_
  k_steps
  rename Fr _ _ _ _ => F1
  rename News _ _ _ _ => N1
  rename List Value => us
  rename IntsAre us _ => hI9
  rename (_ ∧ _ ∧ AllLt _ _) => l9
  have hlen := hI9.length
  rw [List.length_append] at hlen
  have hlen4 : (List.take 4 ns).length ≤ 4 := by rw [List.length_take]; omega
  refine compL (items := us.toArray) (nn := 0) (ol := lstO us 0) rfl rfl rfl (by rw [List.size_toArray, sizeLine_eq, hlen]; simp; omega) (.inr fun _ _ => rfl) (by decide) rfl F1 N1
    (fun i ys G => ∃ T, G = T ++ NewsM N1 ∧ (∀ p ∈ T, ∀ q ∈ NewsM N1, @LT.lt Nat _ q.1 p.1) ∧ StepsAt T ys (((ns.take 4 ++ ([6, 9, 20] : List Int)).take i).map stepOf : List (Int × Int × Int)))
    (fun i ys G hJ => .inr (by obtain ⟨T, rfl, _⟩ := hJ; exact List.mem_append_right _ List.mem_cons_self)) ⟨[], rfl, (fun p hp => nomatch hp), rfl, fun i x hx => by simp at hx⟩ ?turn ?done
  case turn =>
    rintro i v ys G h₁ tk₁ I oI C oC D m₂ E' hv hyi ⟨T, rfl, hT, hS⟩ off ne hCL hDL hC0 F₁ N₁ hn
    have hv' : us[i]? = some v := by simpa using hv
    have hil : i < (ns.take 4 ++ [6, 9, 20]).length := by rw [← hI9.length]; exact (List.getElem?_eq_some_iff.mp hv').1
    obtain ⟨tv, hx⟩ := hI9.get i (ns.take 4 ++ [6, 9, 20])[i] (by simp [hil])
    rw [hv'] at hx
    cases hx
    refine asgC1 F₁ N₁ hn ne off rfl rfl fun h₂ tk₂ oC₂ F₂ N₂ hn₂ => ?_
    clear F₁ N₁ hn
    refine wpAny_tests_nil ?_
    rw [if_pos rfl]
    k_steps
    (rename News _ _ _ _ => N9)
    (rename (_ ∧ _ ∧ _ ∧ AllLt _ _) => l7)
    refine ⟨_, _, _, _, _, rfl, by assumption, newsRot3 N9, ?_, by assumption, ⟨_, rfl, ?_, ?_⟩⟩
    · intro p hp
      rcases List.mem_cons.mp hp with rfl | hp
      · exact ⟨Nat.ne_of_gt l7.1, Nat.ne_of_gt l7.2.1, Nat.ne_of_gt l7.2.2.1⟩
      · exact off p hp
    · intro p hp q hq
      rcases List.mem_cons.mp hp with rfl | hp
      · exact allLt_mem l7.2.2.2 q (List.mem_append_right _ hq)
      · exact hT p hp q hq
    · rw [map_take_succ stepOf _ i hil]
      exact StepsAt.snoc (p := stepOf _) (hS.mono fun p hp => List.mem_cons_of_mem _ hp) List.mem_cons_self
  case done =>
    rintro D C h₁ tk₁ m' ys G ⟨T, rfl, hT, hS⟩ F₁ N₁ off hn hC0 hD0 hCL hDL hCD
    refine compA_post rfl rfl rfl F₁ N₁ off hn hC0 hCL hCD fun h₂ tk₂ F₂ N₂ => ?_
    clear F₁ N₁ hn
    dsimp only [NewsM] at hT N₂ off
    rw [List.take_of_length_le (by rw [List.size_toArray, hI9.length]; exact Nat.le_refl _)] at hS
    refine hQ _ _ D ys T (fun p hp q hq => hT p hp q (List.mem_cons_of_mem _ (List.mem_cons_of_mem _ (List.mem_cons_of_mem _ hq)))) (fun q hq => (off q (List.mem_append_right _ (List.mem_cons_of_mem _ (List.mem_cons_of_mem _ (List.mem_cons_of_mem _ hq))))).1) (fun p hp => (off p (List.mem_append_left _ hp)).1) hS F₂ (newsSub N₂ fun p hp => ?_)
    rcases List.mem_cons.mp hp with rfl | hp
    · exact List.mem_cons_self
    rcases List.mem_append.mp hp with hp | hp
    · exact List.mem_cons_of_mem _ (List.mem_append_left _ hp)
    · exact List.mem_cons_of_mem _ (List.mem_append_right _ (List.mem_cons_of_mem _ (List.mem_cons_of_mem _ (List.mem_cons_of_mem _ hp))))

-- part T1
set_option maxHeartbeats 8000000
open LCg (NsObj lst)
theorem StepsAt.at {news : List (Addr × Obj)} {vs : List Value} {ss : List (Int × Int × Int)} (hp : StepsAt news vs ss) {i : Nat} {v : Value} (hv : vs.toArray[i]? = some v) :
    ∃ x t k1 k2 k3 nt, ss[i]? = some x ∧ v = .ref t ∧ (t, tupO [.int x.1 k1, .int x.2.1 k2, .int x.2.2 k3] nt) ∈ news := by
  have hv' : vs[i]? = some v := by simpa using hv
  have hlt : i < ss.length := by rw [← hp.1]; exact (List.getElem?_eq_some_iff.mp hv').1
  obtain ⟨t, k1, k2, k3, nt, e, hm⟩ := hp.2 i ss[i] (by simp [hlt])
  rw [hv'] at e
  exact ⟨ss[i], t, k1, k2, k3, nt, by simp [hlt], by cases e; rfl, hm⟩

/-- lacking = 1 - sum([blanks - tabs for ..]) -/
theorem st1 {w : World} {h₀ : Heap} {L fa ls : Addr} {cd : Value} {m mg mb : Str → Option Value} {mean : ExcName → Option Value} {news : List (Addr × Obj)} {s : Shared} {Q : Flow → Shared → Prop} {E : Value → Shared → Prop} {vs : List Value} {n : Nat} {ss : List (Int × Int × Int)}
    (C : Lx w h₀ L m mg mb mean news s.heap) (hm : m "steps" = some (.ref ls)) (hl : (ls, lstO vs n) ∈ news) (hs : StepsAt news vs ss) (hsz : vs.length ≤ 1000)
    (hQ : ∀ h' tk' u, Fr h₀ L h' (fun y => if y = "lacking" then some (.int (1 - (ss.map fun x => x.1 - x.2.1).sum) u) else m y) → News h₀ L h' news → Q .next { s with heap := h', toks := tk' }) :
    wpAny (model PySem.Challenge.rw_pg0317_01.row.prog w) (callerA.deeper (envOfC (Str.ofString "law") lawScope L fa cd)) (exec (stAt 1) (envOfC (Str.ofString "law") lawScope L fa cd)) Q E s := by
  obtain ⟨B, F, X, N, T⟩ := C
  revert X
  k_fill
  intro X
  dsimp only [stAt, lawBody, lawScope, PySem.Challenge.pw_pg0317_01, List.getLast?, List.getLast, List.getD, List.getElem?_cons_succ, List.getElem?_cons_zero, Option.getD_some]
  k_steps
  refine compL (items := vs.toArray) (nn := n) (ol := lstO vs n) rfl rfl rfl (by rw [List.size_toArray, sizeLine_eq]; omega) (.inl ⟨⟨_, _, _, rfl⟩, fun i v hv => let ⟨_, t, _, _, _, _, _, e, _⟩ := hs.at hv; ⟨t, e⟩⟩) (by decide) rfl F N
    (fun i ys news₁ => news₁ = news ∧ IntsAre ys ((ss.take i).map fun x => x.1 - x.2.1))
    (fun i ys news₁ hJ => .inr (hJ.1 ▸ hl)) ⟨rfl, by simpa using IntsAre.nil⟩ ?turn ?done
  case turn =>
    rintro i v ys news₁ h₁ tk₁ I oI C oC D m₂ E' hv hyi ⟨rfl, hys⟩ off ne hCL hDL hC0 F₁ N₁ hn
    obtain ⟨x, t, k1, k2, k3, nt, hxi, rfl, hm⟩ := hs.at hv
    refine asgC3 rfl F₁ N₁ hn ne off hm rfl rfl rfl rfl fun h₂ tk₂ oC₂ F₂ N₂ hn₂ => ?_
    clear F₁ N₁ hn
    refine wpAny_tests_nil ?_
    rw [if_pos rfl]
    k_steps
    refine ⟨_, _, _, _, _, rfl, by assumption, by assumption, off, by assumption, rfl, ?_⟩
    rw [List.take_add_one, hxi, List.map_append]
    exact hys.append (.cons _ _ .nil)
  case done =>
    rintro D C h₁ tk₁ m' ys news₁ ⟨rfl, hys⟩ F₁ N₁ off hn hC0 hD0 hCL hDL hCD
    refine comp_post F₁ N₁ off hn hC0 hCL hCD fun h₂ F₂ N₂ => ?_
    clear F₁ N₁ hn
    rw [List.take_of_length_le (by rw [List.size_toArray, hs.1]; exact Nat.le_refl _)] at hys
    k_steps
    exact hQ _ _ _ (by assumption) (newsSub (by assumption) fun q hq => List.mem_cons_of_mem _ hq)

-- part T2
set_option maxHeartbeats 8000000
open LCg (NsObj lst)
theorem st2 {w : World} {h₀ : Heap} {L fa : Addr} {cd : Value} {m mg mb : Str → Option Value} {mean : ExcName → Option Value} {news : List (Addr × Obj)} {s : Shared} {Q : Flow → Shared → Prop} {E : Value → Shared → Prop}
    {ls : Addr} {vs : List Value} {n : Nat} {x : Int} {u : Tok}
    (C : Lx w h₀ L m mg mb mean ((ls, lstO vs n) :: news) s.heap) (hm : m "steps" = some (.ref ls)) (hm2 : m "lacking" = some (.int x u)) (hsz : vs.length ≤ 1000) (hoff : ∀ p ∈ news, p.1 ≠ ls)
    (hQ : ∀ h' tk' t k1 k2 k3 n', (∀ p ∈ news, @LT.lt Nat _ p.1 t) → @LT.lt Nat _ ls t → Fr h₀ L h' m → News h₀ L h' ((t, tupO [.int (if 0 > x then 0 else x) k1, .int (if 0 > -x then 0 else -x) k2, .int 0 k3] 0) :: (ls, lstO (vs ++ [.ref t]) n') :: news) → Q .next { s with heap := h', toks := tk' }) :
    wpAny (model PySem.Challenge.rw_pg0317_01.row.prog w) (callerA.deeper (envOfC (Str.ofString "law") lawScope L fa cd)) (exec (stAt 2) (envOfC (Str.ofString "law") lawScope L fa cd)) Q E s := by
  obtain ⟨B, F, X, N, T⟩ := C
  revert X
  k_fill
  intro X
  dsimp only [stAt, lawBody, lawScope, PySem.Challenge.pw_pg0317_01, List.getLast?, List.getLast, List.getD, List.getElem?_cons_succ, List.getElem?_cons_zero, Option.getD_some]
  k_steps
  (rename News _ _ _ _ => N9)
  rw [List.push_toArray] at N9
  (rename (_ ∧ AllLt _ _) => l9)
  exact hQ _ _ _ _ _ _ _ (allLt_mem l9.2) l9.1 (by assumption) N9

-- part T3
set_option maxHeartbeats 8000000
open LCg (NsObj lst)
theorem st3 {w : World} {h₀ : Heap} {L fa : Addr} {cd : Value} {m mg mb : Str → Option Value} {mean : ExcName → Option Value} {news : List (Addr × Obj)} {s : Shared} {Q : Flow → Shared → Prop} {E : Value → Shared → Prop}
    {ls : Addr} {vs : List Value} {n : Nat}
    (C : Lx w h₀ L m mg mb mean news s.heap) (hm : m "steps" = some (.ref ls)) (hl : (ls, lstO vs n) ∈ news) (hsz : vs.length ≤ 1000)
    (hQ : ∀ h' tk' u, Fr h₀ L h' (fun y => if y = "many" then some (.int (vs.length : Int) u) else m y) → News h₀ L h' news → Q .next { s with heap := h', toks := tk' }) :
    wpAny (model PySem.Challenge.rw_pg0317_01.row.prog w) (callerA.deeper (envOfC (Str.ofString "law") lawScope L fa cd)) (exec (stAt 3) (envOfC (Str.ofString "law") lawScope L fa cd)) Q E s := by
  obtain ⟨B, F, X, N, T⟩ := C
  revert X
  k_fill
  intro X
  dsimp only [stAt, lawBody, lawScope, PySem.Challenge.pw_pg0317_01, List.getLast?, List.getLast, List.getD, List.getElem?_cons_succ, List.getElem?_cons_zero, Option.getD_some]
  k_steps
  exact hQ _ _ _ (by assumption) (by assumption)

-- part T4
set_option maxHeartbeats 8000000
open LCg (NsObj lst)
/-- the step's lead -/
noncomputable def leadOf (x : Int × Int × Int) : Str := if x.2.2 = 0 then Txt.mul (Str.ofString " ") x.1 ++ Txt.mul (Str.ofString "\t") x.2.1 else Txt.mul (Str.ofString "\t") x.2.1 ++ Txt.mul (Str.ofString " ") x.1
noncomputable def StrsL (ys : List Value) (xs : List Str) : Prop := ys.length = xs.length ∧ ∀ (i : Nat) x, xs[i]? = some x → ∃ t, ys[i]? = some (.str x t)
theorem StrsL.snoc {ys : List Value} {zs : List Str} {t : Tok} {p : Str} (h : StrsL ys zs) : StrsL (ys ++ [.str p t]) (zs ++ [p]) := by
  refine ⟨by rw [List.length_append, List.length_append, h.1]; rfl, fun i x hx => ?_⟩
  rcases Nat.lt_or_ge i zs.length with hi | hi
  · rw [List.getElem?_append_left hi] at hx
    obtain ⟨t', e⟩ := h.2 i x hx
    exact ⟨t', by rw [List.getElem?_append_left (by rw [h.1]; exact hi)]; exact e⟩
  · rw [List.getElem?_append_right hi] at hx
    have e0 : i - zs.length = 0 := by
      cases q : i - zs.length with
      | zero => rfl
      | succ j => rw [q] at hx; simp at hx
    rw [e0] at hx
    have ex : x = p := by simpa using hx.symm
    subst ex
    refine ⟨t, ?_⟩
    rw [List.getElem?_append_right (by rw [h.1]; exact hi), h.1, e0]
    rfl
theorem st4 {w : World} {h₀ : Heap} {L fa : Addr} {cd : Value} {m mg mb : Str → Option Value} {mean : ExcName → Option Value} {news : List (Addr × Obj)} {s : Shared} {Q : Flow → Shared → Prop} {E : Value → Shared → Prop}
    {ls c : Addr} {oc : Obj} {ov : Option Value} {vs : List Value} {n : Nat} {ss : List (Int × Int × Int)}
    (C : Lx w h₀ L m mg mb mean ((L + 1, oc) :: news) s.heap) (hoc : oc.data = .cell ov) (hm : m "steps" = some (.ref ls)) (hl : (ls, lstO vs n) ∈ news) (hs : StepsAt news vs ss) (hsz : vs.length ≤ 1000) (hb : ∀ x ∈ ss, 0 ≤ x.1 ∧ x.1 ≤ 20 ∧ 0 ≤ x.2.1 ∧ x.2.1 ≤ 20)
    (hoff : ∀ p ∈ news, p.1 ≠ L + 1)
    (hQ : ∀ h' tk' D ys oc', StrsL ys (ss.map leadOf) → (∀ p ∈ news, p.1 ≠ D) → @Ne Nat D (L + 1) → oc'.data = .cell (some (.ref D)) → Fr h₀ L h' m → News h₀ L h' ((L + 1, oc') :: (D, lst ys) :: news) → Q .next { s with heap := h', toks := tk' }) :
    wpAny (model PySem.Challenge.rw_pg0317_01.row.prog w) (callerA.deeper (envOfC (Str.ofString "law") lawScope L fa cd)) (exec (stAt 4) (envOfC (Str.ofString "law") lawScope L fa cd)) Q E s := by
  obtain ⟨B, F, X, N, T⟩ := C
  revert X
  k_fill
  intro X
  dsimp only [stAt, lawBody, lawScope, PySem.Challenge.pw_pg0317_01, List.getLast?, List.getLast, List.getD, List.getElem?_cons_succ, List.getElem?_cons_zero, Option.getD_some]
  refine wpAny_Assign_Name ?_ (by with_unfolding_all rfl)
  refine comp_front (by with_unfolding_all rfl) (by rfl) (by decide) ?_
  k_steps
  refine compL (items := vs.toArray) (nn := n) (ol := lstO vs n) rfl rfl rfl (by rw [List.size_toArray, sizeLine_eq]; omega) (.inl ⟨⟨_, _, _, rfl⟩, fun i v hv => let ⟨_, t, _, _, _, _, _, e, _⟩ := hs.at hv; ⟨t, e⟩⟩) (by decide) rfl F N
    (fun i ys news₁ => news₁ = (L + 1, oc) :: news ∧ StrsL ys ((ss.take i).map leadOf))
    (fun i ys news₁ hJ => .inr (hJ.1 ▸ List.mem_cons_of_mem _ hl)) ⟨rfl, rfl, fun i x hx => by simp at hx⟩ ?turn ?done
  case turn =>
    rintro i v ys news₁ h₁ tk₁ I oI C oC D m₂ E' hv hyi ⟨rfl, hS⟩ off ne hCL hDL hC0 F₁ N₁ hn
    obtain ⟨x, t, k1, k2, k3, nt, hxi, rfl, hm⟩ := hs.at hv
    obtain ⟨hb1, hb2, hb3, hb4⟩ := hb x (List.mem_of_getElem? hxi)
    refine asgC3 rfl F₁ N₁ hn ne off (List.mem_cons_of_mem _ hm) rfl rfl rfl rfl fun h₂ tk₂ oC₂ F₂ N₂ hn₂ => ?_
    clear F₁ N₁ hn
    refine wpAny_tests_nil ?_
    rw [if_pos rfl]
    k_steps
    · refine ⟨_, _, _, _, _, rfl, by assumption, by assumption, off, by assumption, rfl, ?_⟩
      rw [List.take_add_one, hxi, List.map_append]
      have e : leadOf x = Txt.mul (Str.ofString "\t") x.2.1 ++ Txt.mul (Str.ofString " ") x.1 := by unfold leadOf; rw [if_neg (by assumption)]
      rw [← e]; exact hS.snoc
    · refine ⟨_, _, _, _, _, rfl, by assumption, by assumption, off, by assumption, rfl, ?_⟩
      rw [List.take_add_one, hxi, List.map_append]
      have e : leadOf x = Txt.mul (Str.ofString " ") x.1 ++ Txt.mul (Str.ofString "\t") x.2.1 := by unfold leadOf; rw [if_pos (by assumption)]
      rw [← e]; exact hS.snoc
  case done =>
    rintro D C h₁ tk₁ m' ys news₁ ⟨rfl, hS⟩ F₁ N₁ off hn hC0 hD0 hCL hDL hCD
    refine comp_post F₁ N₁ off hn hC0 hCL hCD fun h₂ F₂ N₂ => ?_
    clear F₁ N₁ hn
    have hDn : @Ne Nat D (L + 1) := Ne.symm (off _ List.mem_cons_self).1
    rw [List.take_of_length_le (by rw [List.size_toArray, hs.1]; exact Nat.le_refl _)] at hS
    k_steps
    (rename News _ _ _ _ => N9)
    exact hQ _ _ D ys _ hS (fun p hp => (off p (List.mem_cons_of_mem _ hp)).1) hDn (by assumption) (by assumption) (newsSwap N9)

-- part T5
set_option maxHeartbeats 8000000
open LCg (NsObj lst)
noncomputable def nmL (i : Nat) : Str := Txt.item (Str.ofString "abcdefgh") (i : Int)
theorem okN_nmL : ∀ i, i < 8 → okN (nmL i) := by
  intro i hi
  have : ∀ i, i < 8 → (∀ c ∈ (nmL i).cps.toList, 31 < c ∧ c < 127) ∧ (nmL i).cps.size ≤ 1000 := by decide +kernel
  exact this i hi
theorem PairsAt.mono {news news' : List (Addr × Obj)} {vs : List Value} {xs : List (Str × Str)} (h : PairsAt news vs xs) (k : ∀ p ∈ news, p ∈ news') : PairsAt news' vs xs :=
  ⟨h.1, fun i x hx => let ⟨t, k1, k2, nt, e, hm⟩ := h.2 i x hx; ⟨t, k1, k2, nt, e, k _ hm⟩⟩
theorem itemS_N {prog : Program} {w : World} {A : Around} {E : Value → Shared → Prop} {s : Shared} {h₀ : Heap} {L l : Addr} {news : List (Addr × Obj)} {vs : List Value} {xs : List Str} {n : Nat} {value slice : Expr} {k : Int} {u : Tok} {Q : Value → Shared → Prop} (N : News h₀ L s.heap news) (hl : (l, lstO vs n) ∈ news) (hi : StrsL vs xs) (h0 : 0 ≤ k) (hk : k < xs.length) (hz : xs.length ≤ 100000) (h : ∀ t, Q (.str (xs.getD k.toNat default) t) s)
    (hs : subscripted slice false (.ref l) (.int k u) = operate [.ref l, .int k u] (getItem (.ref l) (.int k u))) (ht : ∀ r, letTemporaryGo value (.ref l) r = pure ()) : wpAny (model prog w) A (subscriptTail value slice (.ref l) (.int k u)) Q E s := by
  have hlt : k.toNat < xs.length := by omega
  obtain ⟨t, e⟩ := hi.2 k.toNat xs[k.toNat] (by simp [hlt])
  refine item_list ⟨_, (N _ hl).1, rfl, n, rfl⟩ h0 (by omega) (x := .str xs[k.toNat] t) (by simpa using e) ?_ hs ht
  have := h t
  rw [List.getD_eq_getElem?_getD, List.getElem?_eq_getElem hlt] at this
  exact this
local macro_rules | `(tactic| walk_at "subscriptTail") => `(tactic| (k_here; (with_reducible show wpAny _ _ (subscriptTail _ _ (Value.ref _) (Value.int _ _)) _ _ _); k_dflt (refine' itemS_N ?N ?l ?i ?a ?b ?z ?_ ?s ?t; (case t => (intro q9; with_unfolding_all rfl)); (case N => k_asm); (case l => k_mem); (case i => assumption); (case a | b | z => omega); (case s => with_unfolding_all rfl)); intro t'))
theorem st5 {w : World} {h₀ : Heap} {L fa : Addr} {cd : Value} {m mg mb : Str → Option Value} {mean : ExcName → Option Value} {news : List (Addr × Obj)} {s : Shared} {Q : Flow → Shared → Prop} {E : Value → Shared → Prop}
    {ld : Addr} {oc : Obj} {vs : List Value} {nl : Nat} {n : Int} {u : Tok} {xs : List Str}
    (C : Lx w h₀ L m mg mb mean ((L + 1, oc) :: news) s.heap) (hoc : oc.data = .cell (some (.ref ld))) (hm : m "many" = some (.int n u)) (hn0 : 0 ≤ n) (hn8 : n ≤ 8) (hl : (ld, lstO vs nl) ∈ news) (hS : StrsL vs xs) (hlen : (xs.length : Int) = n) (hxs : ∀ x ∈ xs, okV x)
    (hQ : ∀ h' tk' x dx l hh th nd ys T, PairsAt T ys ((List.range n.toNat).map fun j => (nmL j, xs.getD j default)) → (∀ p ∈ T, ∀ q ∈ (L + 1, oc) :: news, @LT.lt Nat _ q.1 p.1) → (∀ p ∈ T ++ (L + 1, oc) :: news, @Ne Nat p.1 l) → (∀ p ∈ T ++ (L + 1, oc) :: news, @LT.lt Nat _ p.1 dx) → @LT.lt Nat _ l dx → @LT.lt Nat _ dx x →
      Fr h₀ L h' (upd m "ring" (.ref x)) → News h₀ L h' ((x, instObj 171 dx) :: (dx, dictOf [⟨hh, .str "_headers" th, .ref l⟩] nd) :: (l, lst ys) :: (T ++ (L + 1, oc) :: news)) → Q .next { s with heap := h', toks := tk' }) :
    wpAny (model PySem.Challenge.rw_pg0317_01.row.prog w) (callerA.deeper (envOfC (Str.ofString "law") lawScope L fa cd)) (exec (stAt 5) (envOfC (Str.ofString "law") lawScope L fa cd)) Q E s := by
  obtain ⟨B, F, X, N, T⟩ := C
  revert X
  k_fill
  intro X
  dsimp only [stAt, lawBody, lawScope, PySem.Challenge.pw_pg0317_01, List.getLast?, List.getLast, List.getD, List.getElem?_cons_succ, List.getElem?_cons_zero, Option.getD_some]
  k_steps
  (rename IsRange _ _ _ _ _ _ _ _ => hr9)
  refine compR rfl hr9 (by decide) (by decide) (by omega) (by omega) (fun _ _ => rfl) (by decide) rfl (by assumption) (by assumption)
    (fun i ys G => ∃ T, G = T ++ (L + 1, oc) :: news ∧ (∀ p ∈ T, ∀ q ∈ (L + 1, oc) :: news, @LT.lt Nat _ q.1 p.1) ∧ PairsAt T ys ((List.range i).map fun j => (nmL j, xs.getD j default))) ⟨[], rfl, (fun p hp => nomatch hp), rfl, fun i x hx => by simp at hx⟩ ?turn ?done
  case turn =>
    rintro i tv ys G h₁ tk₁ I oI C oC D m₂ E' hi hyi ⟨T, rfl, hT, hP⟩ off ne hCL hDL hC0 F₁ N₁ hn
    refine asgC1 F₁ N₁ hn ne off rfl rfl fun h₂ tk₂ oC₂ F₂ N₂ hn₂ => ?_
    clear F₁ N₁ hn
    refine wpAny_tests_nil ?_
    rw [if_pos rfl]
    have hl' : (ld, lstO vs nl) ∈ T ++ (L + 1, oc) :: news := List.mem_append_right _ (List.mem_cons_of_mem _ hl)
    have hc' : (L + 1, oc) ∈ T ++ (L + 1, oc) :: news := List.mem_append_right _ List.mem_cons_self
    k_steps
    (rename News _ _ _ _ => N9)
    (rename (_ ∧ _ ∧ _ ∧ AllLt _ _) => l7)
    simp only [Int.zero_add, Int.toNat_natCast] at N9
    refine ⟨_, _, _, _, _, rfl, by assumption, newsRot3 N9, ?_, by assumption, ⟨_, rfl, ?_, ?_⟩⟩
    · intro p hp
      rcases List.mem_cons.mp hp with rfl | hp
      · exact ⟨Nat.ne_of_gt l7.1, Nat.ne_of_gt l7.2.1, Nat.ne_of_gt l7.2.2.1⟩
      · exact off p hp
    · intro p hp q hq
      rcases List.mem_cons.mp hp with rfl | hp
      · exact allLt_mem l7.2.2.2 q (List.mem_append_right _ hq)
      · exact hT p hp q hq
    · rw [List.range_succ, List.map_append]
      exact PairsAt.snoc (p := (nmL i, xs.getD i default)) (hP.mono fun p hp => List.mem_cons_of_mem _ hp) List.mem_cons_self
  case done =>
    rintro D C h₁ tk₁ m' ys G ⟨T, rfl, hT, hP⟩ F₁ N₁ off hn hC0 hD0 hCL hDL hCD
    refine comp_post F₁ N₁ off hn hC0 hCL hCD fun h₂ F₂ N₂ => ?_
    clear F₁ N₁ hn
    rw [show (n - 0).toNat = n.toNat from by omega] at hP
    have hP2 : PairsAt ((D, lst ys) :: (T ++ (L + 1, oc) :: news)) ys ((List.range n.toNat).map fun j => (nmL j, xs.getD j default)) := hP.mono fun p hp => List.mem_cons_of_mem _ (List.mem_append_left _ hp)
    have hyl := hP.1
    rw [List.length_map, List.length_range] at hyl
    have hk1 : ∀ p ∈ (List.range n.toNat).map (fun j => (nmL j, xs.getD j default)), okN p.1 := by
      intro p hp
      obtain ⟨j, hj, rfl⟩ := List.mem_map.mp hp
      exact okN_nmL j (by have := List.mem_range.mp hj; omega)
    have hk2 : ∀ p ∈ (List.range n.toNat).map (fun j => (nmL j, xs.getD j default)), okV p.2 := by
      intro p hp
      obtain ⟨j, hj, rfl⟩ := List.mem_map.mp hp
      have hj' : j < xs.length := by have := List.mem_range.mp hj; omega
      show okV (xs.getD j default)
      rw [List.getD_eq_getElem?_getD, List.getElem?_eq_getElem hj']
      exact hxs _ (List.getElem_mem hj')
    k_steps
    (rename News _ _ _ _ => N9)
    (rename (_ ∧ AllLt _ _) => lb)
    exact hQ _ _ _ _ _ _ _ _ ys T hP hT (fun p hp => (off p hp).1) (allLt_mem lb.2) lb.1 (by assumption) (by assumption) N9

-- part T7
set_option maxHeartbeats 8000000
open LCg (NsObj lst)
theorem st7 {w : World} {h₀ : Heap} {L fa : Addr} {cd : Value} {m mg mb : Str → Option Value} {mean : ExcName → Option Value} {news : List (Addr × Obj)} {s : Shared} {Q : Flow → Shared → Prop} {E : Value → Shared → Prop}
    {oc : Obj} {ov : Option Value}
    (C : Lx w h₀ L m mg mb mean ((L + 1 + 1 + 1, oc) :: news) s.heap) (hoc : oc.data = .cell ov) (hoff : ∀ p ∈ news, p.1 ≠ L + 1 + 1 + 1)
    (hQ : ∀ h' tk' oc' x dx l t1 t2 k1 k2 k3 k4 hh th nd, oc'.data = .cell (some (.ref x)) → (∀ p ∈ news, @LT.lt Nat _ p.1 t1) → @LT.lt Nat _ (L + 1 + 1 + 1) t1 → @LT.lt Nat _ t1 t2 → @LT.lt Nat _ t2 l → @LT.lt Nat _ l dx → @LT.lt Nat _ dx x → Fr h₀ L h' m →
      News h₀ L h' ((x, instObj 199 dx) :: (dx, dictOf [⟨hh, .str "comp_select_list" th, .ref l⟩] nd) :: (l, lstO [.ref t1, .ref t2] 0) :: (t2, tupO [.int 1 k3, .int (-1) k4] 0) :: (t1, tupO [.int 0 k1, .int 1 k2] 0) :: (L + 1 + 1 + 1, oc') :: news) → Q .next { s with heap := h', toks := tk' }) :
    wpAny (model PySem.Challenge.rw_pg0317_01.row.prog w) (callerA.deeper (envOfC (Str.ofString "law") lawScope L fa cd)) (exec (stAt 7) (envOfC (Str.ofString "law") lawScope L fa cd)) Q E s := by
  obtain ⟨B, F, X, N, T⟩ := C
  revert X
  k_fill
  intro X
  dsimp only [stAt, lawBody, lawScope, PySem.Challenge.pw_pg0317_01, List.getLast?, List.getLast, List.getD, List.getElem?_cons_succ, List.getElem?_cons_zero, Option.getD_some]
  k_steps
  (rename News _ _ _ _ => N9)
  (rename (_ ∧ _ ∧ _ ∧ _ ∧ AllLt _ _) => l9)
  (rename (_ ∧ _ ∧ _ ∧ AllLt _ _) => l8)
  (rename (_ ∧ _ ∧ AllLt _ _) => l7)
  (rename (_ ∧ AllLt _ _) => l6)
  exact hQ _ _ _ _ _ _ _ _ _ _ _ _ _ _ _ (by assumption) (allLt_mem l6.2) l6.1 l7.1 l8.1 l9.1 (by assumption) (by assumption) N9

-- part T8
set_option maxHeartbeats 8000000
open LCg (NsObj lst)
theorem st8 {w : World} {h₀ : Heap} {L fa : Addr} {cd : Value} {m mg mb : Str → Option Value} {mean : ExcName → Option Value} {news : List (Addr × Obj)} {s : Shared} {Q : Flow → Shared → Prop} {E : Value → Shared → Prop}
    {oc : Obj} {ov : Option Value}
    (C : Lx w h₀ L m mg mb mean ((L + 1 + 1 + 1 + 1, oc) :: news) s.heap) (hoc : oc.data = .cell ov) (hoff : ∀ p ∈ news, p.1 ≠ L + 1 + 1 + 1 + 1)
    (hQ : ∀ h' tk' oc' x dx l hh th nd, oc'.data = .cell (some (.ref x)) → (∀ p ∈ news, @LT.lt Nat _ p.1 dx) → @LT.lt Nat _ (L + 1 + 1 + 1 + 1) dx → @LT.lt Nat _ dx x → @LT.lt Nat _ x l → Fr h₀ L h' m →
      News h₀ L h' ((x, instObj 171 dx) :: (dx, dictOf [⟨hh, .str "_headers" th, .ref l⟩] nd) :: (l, lstO [] 0) :: (L + 1 + 1 + 1 + 1, oc') :: news) → Q .next { s with heap := h', toks := tk' }) :
    wpAny (model PySem.Challenge.rw_pg0317_01.row.prog w) (callerA.deeper (envOfC (Str.ofString "law") lawScope L fa cd)) (exec (stAt 8) (envOfC (Str.ofString "law") lawScope L fa cd)) Q E s := by
  obtain ⟨B, F, X, N, T⟩ := C
  revert X
  k_fill
  intro X
  dsimp only [stAt, lawBody, lawScope, PySem.Challenge.pw_pg0317_01, List.getLast?, List.getLast, List.getD, List.getElem?_cons_succ, List.getElem?_cons_zero, Option.getD_some]
  k_steps
  (rename News _ _ _ _ => N9)
  (rename (_ ∧ AllLt _ _) => la)
  have la1 := la.1
  clear la
  (rename (_ ∧ AllLt _ _) => lb)
  have lb2 := allLt_mem lb.2
  refine hQ _ _ _ _ _ _ _ _ _ (by assumption) ?_ ?_ ?_ ?_ (by assumption) N9
  · exact lb2
  · exact lb.1
  · omega
  · omega

-- part T9
set_option maxHeartbeats 8000000
open LCg (NsObj lst)
theorem st9 {w : World} {h₀ : Heap} {L fa : Addr} {cd : Value} {m mg mb : Str → Option Value} {mean : ExcName → Option Value} {news : List (Addr × Obj)} {s : Shared} {Q : Flow → Shared → Prop} {E : Value → Shared → Prop}
    
    (C : Lx w h₀ L m mg mb mean news s.heap) (hQ : ∀ h' tk' l, (∀ p ∈ news, p.1 < l) → Fr h₀ L h' (upd m "counts" (.ref l)) → News h₀ L h' ((l, lstO [] 0) :: news) → Q .next { s with heap := h', toks := tk' }) :
    wpAny (model PySem.Challenge.rw_pg0317_01.row.prog w) (callerA.deeper (envOfC (Str.ofString "law") lawScope L fa cd)) (exec (stAt 9) (envOfC (Str.ofString "law") lawScope L fa cd)) Q E s := by
  obtain ⟨B, F, X, N, T⟩ := C
  revert X
  k_fill
  intro X
  dsimp only [stAt, lawBody, lawScope, PySem.Challenge.pw_pg0317_01, List.getLast?, List.getLast, List.getD, List.getElem?_cons_succ, List.getElem?_cons_zero, Option.getD_some]
  k_steps
  exact hQ _ _ _ (by assumption) (by assumption) (by assumption)

-- part T12
set_option maxHeartbeats 8000000
open LCg (NsObj lst)
theorem st12 {w : World} {h₀ : Heap} {L fa : Addr} {cd : Value} {m mg mb : Str → Option Value} {mean : ExcName → Option Value} {news : List (Addr × Obj)} {s : Shared} {Q : Flow → Shared → Prop} {E : Value → Shared → Prop}
    {oc : Obj} {ov : Option Value}
    (C : Lx w h₀ L m mg mb mean ((L + 1 + 1 + 1 + 1 + 1, oc) :: news) s.heap) (hoc : oc.data = .cell ov) (hoff : ∀ p ∈ news, p.1 ≠ L + 1 + 1 + 1 + 1 + 1) (hQ : ∀ h' tk' l oc', (∀ p ∈ news, @LT.lt Nat _ p.1 l) → @LT.lt Nat _ (L + 1 + 1 + 1 + 1 + 1) l → oc'.data = .cell (some (.ref l)) → Fr h₀ L h' m → News h₀ L h' ((l, lstO [] 0) :: (L + 1 + 1 + 1 + 1 + 1, oc') :: news) → Q .next { s with heap := h', toks := tk' }) :
    wpAny (model PySem.Challenge.rw_pg0317_01.row.prog w) (callerA.deeper (envOfC (Str.ofString "law") lawScope L fa cd)) (exec (stAt 12) (envOfC (Str.ofString "law") lawScope L fa cd)) Q E s := by
  obtain ⟨B, F, X, N, T⟩ := C
  revert X
  k_fill
  intro X
  dsimp only [stAt, lawBody, lawScope, PySem.Challenge.pw_pg0317_01, List.getLast?, List.getLast, List.getD, List.getElem?_cons_succ, List.getElem?_cons_zero, Option.getD_some]
  k_steps
  (rename (_ ∧ AllLt _ _) => l6)
  exact hQ _ _ _ _ (allLt_mem l6.2) l6.1 (by assumption) (by assumption) (by assumption)

-- part Z1
set_option maxHeartbeats 8000000
section
variable {prog : Program} {w : World} {A : Around} {E : Value → Shared → Prop} {s : Shared}
theorem nextOf_range_item {it : Addr} {x left step : Int} {Q : Value → Shared → Prop} (hit : IsRangeIter s.heap it x left step) (hleft : 0 < left)
    (hQ : ∀ h', IsRangeIter h' it (x + step) (left - 1) step → Heap.SameBut it s.heap h' → Q (.int x s.toks) { s with heap := h', toks := s.toks + 1 }) :
    wpAny (model prog w) A (Builtin.SmallTypes.nextOf (.ref it)) Q E s := by
  have hT : s.TypeIs (.ref it) "range_iterator" := ⟨_, hit, rfl⟩
  unfold Builtin.SmallTypes.nextOf
  refine wpAny_bind (wpAny_callSpecial?_slot (name := Str.ofString "__next__") hT PySem.F.slot_range_iterator_next
    (call_meets PySem.F.slot_range_iterator_next hT PySem.F.entry_range_iterator_next (PySem.F.args_range_iterator_next_1 _) (AutoRange.range_iterator___next___range_iterator_1 it x left step (by omega)) ⟨hit, ?_⟩))
  exact wpAny_pure (hQ _ (Heap.get?_update_self _ (Heap.get?_update_self _ hit rfl) rfl) ((Heap.SameBut.update ..).trans (Heap.SameBut.update ..)))
theorem nextOf_range_end {it : Addr} {x left step : Int} {Q : Value → Shared → Prop} (hh : A.handled = none) (hit : IsRangeIter s.heap it x left step) (hleft : left ≤ 0)
    (hE : ∀ h' e, Heap.ExtBut it s.heap h' → (∃ o, h'.get? e = some o ∧ o.cls = .type "StopIteration") → E (.ref e) { s with heap := h' }) : wpAny (model prog w) A (Builtin.SmallTypes.nextOf (.ref it)) Q E s := by
  have hT : s.TypeIs (.ref it) "range_iterator" := ⟨_, hit, rfl⟩
  unfold Builtin.SmallTypes.nextOf
  refine wpAny_bind (wpAny_callSpecial?_slot (name := Str.ofString "__next__") hT PySem.F.slot_range_iterator_next
    (wpAny_call_entry PySem.F.slot_range_iterator_next hT PySem.F.entry_range_iterator_next ?_ (PySem.F.args_range_iterator_next_1 _)))
  show wpAny _ _ (field (.ref it) 0 >>= _) _ _ s
  refine wpAny_bind (wpAny_field hit rfl (x := rawInt x) rfl ?_)
  show wpAny _ _ (field (.ref it) 1 >>= _) _ _ s
  refine wpAny_bind (wpAny_field hit rfl (x := rawInt left) rfl ?_)
  show wpAny _ _ (field (.ref it) 2 >>= _) _ _ s
  refine wpAny_bind (wpAny_field hit rfl (x := rawInt step) rfl ?_)
  show wpAny _ _ (if left ≤ 0 then _ else _) _ _ s
  rw [if_pos hleft]
  refine wpAny_bind (wpAny_rule ?_)
  refine wpAny_bind ?_
  show wpAny _ _ (newExc (.type "StopIteration") [] >>= _) _ _ _
  refine wpAny_bind ?_
  simp only [newExc, newTuple]
  refine wpAny_bind (wpAny_newObj_type ?_ (by size_fits))
  refine wpAny_bind (m := firstArgMember _ _) (wpAny_of_eq (a := Value.none) (by first | rfl | (simp only [firstArgMember]; rfl)) ?_)
  refine wpAny_newObj_type ?_ (by size_fits)
  simp only [raiseNew]
  refine wpAny_bind (wpAny_handled ?_)
  first | rw [show A.in1.handled = none from hh] | rw [hh]
  refine wpAny_bind (wpAny_pure (wpAny_throw ?_))
  exact hE _ _ (((Heap.ExtBut.refl it s.heap).push _).push _) ⟨_, Heap.get?_push_size _ rfl, rfl⟩

noncomputable abbrev ZF (h : Heap) (z TI TO a : Addr) (f : Bool) : Prop :=
  h.get? z = some { cls := .type "zip", dict := none, data := .fields #[rawInt a, .bool f, .bool false, .ref TI, .ref TO], slots := #[] }

theorem zl_first {z TI TO i1 i2 l1 l2 : Addr} {k1 : Nat} {xs : Array Value} {x a b : Value} {y left : Int} {Q : Value → Shared → Prop} (D : ZipApart z TI TO i1 i2 l1 l2)
    (hz : IsZip s.heap z TI TO .none) (hTI : IsPair s.heap TI (.ref i1) (.ref i2)) (hTO : IsPair s.heap TO a b)
    (h1 : s.heap.IsListIter i1 l1 k1) (h2 : IsRangeIter s.heap i2 y left 1) (hl1 : s.heap.IsList l1 xs) (hx : xs[k1]? = some x) (hy : 0 < left)
    (hQ : ∀ h' t tk, ZF h' z TI TO s.heap.objs.size false → IsPair h' TO x (.int y t) → h'.IsListIter i1 l1 (k1 + 1) → IsRangeIter h' i2 (y + 1) (left - 1) 1 → IsPair h' s.heap.objs.size x (.int y t) → h'.objs.size = s.heap.objs.size + 1 →
      (∀ c o, c ≠ z → c ≠ TO → c ≠ i1 → c ≠ i2 → s.heap.get? c = some o → h'.get? c = some o) → Q (.ref s.heap.objs.size) { s with heap := h', toks := tk }) :
    wpAny (model prog w) A (Builtin.«zip.__next__» ⟨[.ref z], []⟩) (fun fin s' => ∃ v, fin = .done (.ret v) ∧ Q v s') E s := by
  show wpAny _ _ (field (.ref z) 2 >>= _) _ _ _
  refine wpAny_bind (wpAny_field hz rfl (x := .bool false) rfl ?_)
  show wpAny _ _ (field (.ref z) 3 >>= _) _ _ _
  refine wpAny_bind (wpAny_field hz rfl (x := .ref TI) rfl ?_)
  refine wpAny_bind (wpAny_seqItems hTI rfl ?_)
  show wpAny _ _ (Builtin.SmallTypes.ownedTupleIsFree (.ref z) >>= _) _ _ _
  refine wpAny_bind ?_
  unfold Builtin.SmallTypes.ownedTupleIsFree
  refine wpAny_bind (wpAny_field hz rfl (x := .none) rfl (wpAny_pure ?_))
  simp only [if_true]
  refine wpAny_bind (wpAny_rule ?_)
  refine wpAny_bind (wpAny_field hz rfl (x := .ref TO) rfl ?_)
  refine wpAny_bind (wpAny_setField_rec hz (by simp) fun h₁ hz₁ hs₁ => ?_)
  replace hz₁ : IsZip h₁ z TI TO .ellipsis := hz₁
  refine wpAny_bind ?_
  simp only [List.zipIdx_cons, List.zipIdx_nil, List.forIn_cons, List.forIn_nil]

  refine wpAny_bind (wpAny_bind (wpAny_onRaise ?_))
  show wpAny _ _ (Builtin.SmallTypes.nextOf (.ref i1) >>= _) _ _ _
  refine wpAny_bind (wpAny_nextOf_list_item (h1.extBut hs₁.extBut D.i1z) (hl1.extBut hs₁.extBut D.l1z) hx fun h₂ h1₂ hs₂ => wpAny_pure ?_)
  have hTO₂ : IsPair h₂ TO a b := hs₂.extBut _ _ D.TOi1 (hs₁.extBut _ _ D.TOz hTO)
  refine wpAny_bind (wpAny_seqItems hTO₂ rfl ?_)
  refine wpAny_bind (wpAny_updateSeq_pair hTO₂ fun h₃ hTO₃ hs₃ => ?_)
  replace hTO₃ : IsPair h₃ TO x b := hTO₃
  refine wpAny_bind (wpAny_letGo (wpAny_pure ?_))

  refine wpAny_bind (wpAny_bind (wpAny_onRaise ?_))
  show wpAny _ _ (Builtin.SmallTypes.nextOf (.ref i2) >>= _) _ _ _
  have h2₃ : IsRangeIter h₃ i2 y left 1 := hs₃.extBut _ _ D.TOi2.symm (hs₂.extBut _ _ D.i12.symm (hs₁.extBut _ _ D.i2z h2))
  refine wpAny_bind (nextOf_range_item h2₃ hy fun h₄ h2₄ hs₄ => wpAny_pure ?_)
  have hTO₄ : IsPair h₄ TO x b := hs₄.extBut _ _ D.TOi2 hTO₃
  refine wpAny_bind (wpAny_seqItems hTO₄ rfl ?_)
  refine wpAny_bind (wpAny_updateSeq_pair hTO₄ fun h₅ hTO₅ hs₅ => ?_)
  replace hTO₅ : IsPair h₅ TO x (.int y s.toks) := hTO₅
  refine wpAny_bind (wpAny_letGo (wpAny_pure (wpAny_pure ?_)))

  refine wpAny_bind (wpAny_seqItems hTO₅ rfl ?_)
  refine wpAny_bind (wpAny_newTuple ?_)
  have hsz : h₅.objs.size = s.heap.objs.size := by rw [hs₅.1, hs₄.1, hs₃.1, hs₂.1, hs₁.1]
  have hz₅ : IsZip h₅ z TI TO .ellipsis := hs₅.extBut _ _ D.TOz.symm (hs₄.extBut _ _ D.i2z.symm (hs₃.extBut _ _ D.TOz.symm (hs₂.extBut _ _ D.i1z.symm hz₁)))
  have hk₅ : ∀ c o, c ≠ z → c ≠ TO → c ≠ i1 → c ≠ i2 → s.heap.get? c = some o → h₅.get? c = some o := fun c o c1 c2 c3 c4 e =>
    hs₅.extBut _ _ c2 (hs₄.extBut _ _ c4 (hs₃.extBut _ _ c2 (hs₂.extBut _ _ c3 (hs₁.extBut _ _ c1 e))))
  have h1₅ : h₅.IsListIter i1 l1 (k1 + 1) := ((h1₂.extBut hs₃.extBut D.TOi1.symm).extBut hs₄.extBut D.i12).extBut hs₅.extBut D.TOi1.symm
  have h2₅ : IsRangeIter h₅ i2 (y + 1) (left - 1) 1 := hs₅.extBut _ _ D.TOi2.symm h2₄
  have hzlt : z < h₅.objs.size := Heap.lt_size hz₅
  have hTOlt : TO < h₅.objs.size := Heap.lt_size hTO₅
  have hi1lt : i1 < h₅.objs.size := by obtain ⟨_, e, _⟩ := h1₅; exact Heap.lt_size e
  have hi2lt : i2 < h₅.objs.size := Heap.lt_size h2₅
  show wpAny _ _ (Builtin.SmallTypes.ownedTupleHandOut (.ref z) (.ref h₅.objs.size) >>= _) _ _ _
  refine wpAny_bind ?_
  unfold Builtin.SmallTypes.ownedTupleHandOut
  have hz₆ : IsZip (h₅.push { cls := .type "tuple", data := .seq #[x, .int y s.toks] }) z TI TO .ellipsis := Heap.get?_push_of_some _ hz₅
  refine wpAny_bind (wpAny_setField_rec hz₆ (by simp) fun h₇ hz₇ hs₇ => ?_)
  replace hz₇ : IsZip h₇ z TI TO (rawInt h₅.objs.size) := hz₇
  refine wpAny_setField_rec hz₇ (by simp) fun h₈ hz₈ hs₈ => ?_
  replace hz₈ : IsZip h₈ z TI TO (rawInt h₅.objs.size) := hz₈
  have up : ∀ c o, c ≠ z → h₅.get? c = some o → h₈.get? c = some o := fun c o c1 e => hs₈.extBut _ _ c1 (hs₇.extBut _ _ c1 (Heap.get?_push_of_some _ e))
  have hT₈ : IsPair h₈ h₅.objs.size x (.int y s.toks) := hs₈.extBut _ _ (Nat.ne_of_gt hzlt) (hs₇.extBut _ _ (Nat.ne_of_gt hzlt) (Heap.get?_push_size _ rfl))
  have hz8 : h₈.objs.size = h₅.objs.size + 1 := by rw [hs₈.1, hs₇.1, Heap.size_push]
  rw [hsz] at hz₈ hT₈ hz8
  refine wpAny_pure ⟨_, rfl, ?_⟩
  show Q (.ref h₅.objs.size) _
  rw [hsz]
  exact hQ h₈ s.toks _ hz₈ (up _ _ D.TOz hTO₅) (h1₅.at fun o e => up _ o D.i1z e) (up _ _ D.i2z h2₅) hT₈ hz8 fun c o c1 c2 c3 c4 e => up c o c1 (hk₅ c o c1 c2 c3 c4 e)

theorem zl_later {z TI TO i1 i2 l1 l2 t0 : Addr} {f : Bool} {o0 : Obj} {k1 : Nat} {xs : Array Value} {x : Value} {y left : Int} {Q : Value → Shared → Prop} (D : ZipApart z TI TO i1 i2 l1 l2)
    (hz : ZF s.heap z TI TO t0 f) (ha : s.heap.get? t0 = some o0) (hTI : IsPair s.heap TI (.ref i1) (.ref i2))
    (h1 : s.heap.IsListIter i1 l1 k1) (h2 : IsRangeIter s.heap i2 y left 1) (hl1 : s.heap.IsList l1 xs) (hx : xs[k1]? = some x) (hy : 0 < left)
    (hQ : ∀ h' t tk, ZF h' z TI TO t0 true → h'.IsListIter i1 l1 (k1 + 1) → IsRangeIter h' i2 (y + 1) (left - 1) 1 → IsPair h' s.heap.objs.size x (.int y t) → h'.objs.size = s.heap.objs.size + 1 →
      (∀ c o, c ≠ z → c ≠ i1 → c ≠ i2 → s.heap.get? c = some o → h'.get? c = some o) → Q (.ref s.heap.objs.size) { s with heap := h', toks := tk }) :
    wpAny (model prog w) A (Builtin.«zip.__next__» ⟨[.ref z], []⟩) (fun fin s' => ∃ v, fin = .done (.ret v) ∧ Q v s') E s := by
  show wpAny _ _ (field (.ref z) 2 >>= _) _ _ _
  refine wpAny_bind (wpAny_field hz rfl (x := .bool false) rfl ?_)
  show wpAny _ _ (field (.ref z) 3 >>= _) _ _ _
  refine wpAny_bind (wpAny_field hz rfl (x := .ref TI) rfl ?_)
  refine wpAny_bind (wpAny_seqItems hTI rfl ?_)
  show wpAny _ _ (Builtin.SmallTypes.ownedTupleIsFree (.ref z) >>= _) _ _ _
  refine wpAny_bind ?_
  unfold Builtin.SmallTypes.ownedTupleIsFree
  refine wpAny_bind (wpAny_field hz rfl (x := rawInt t0) rfl ?_)
  show wpAny _ _ (loadIfAlive ((t0 : Int).toNat) >>= _) _ _ _
  rw [Int.toNat_natCast]
  refine wpAny_bind (kdx_alive ha ?_)
  simp only [Option.isNone_some, Bool.false_eq_true, if_false]
  refine wpAny_bind (wpAny_field hz rfl (x := .bool f) rfl ?_)
  have step : ∀ (Q' : Bool → Shared → Prop), (∀ h₁, ZF h₁ z TI TO t0 true → Heap.SameBut z s.heap h₁ → Q' false { s with heap := h₁ }) → wpAny (model prog w) A (if (Value.bool f != Value.bool true) = true then do
      setField (Value.ref z) 1 (Value.bool true)
      pure false
    else pure false) Q' E s := by
    intro Q' h
    cases f with
    | true =>
      rw [if_neg (show ¬ ((Value.bool true != Value.bool true) = true) from Bool.false_ne_true)]
      exact wpAny_pure (h _ hz (Heap.SameBut.refl _ _))
    | false =>
      rw [if_pos (show (Value.bool false != Value.bool true) = true from rfl)]
      exact wpAny_bind (wpAny_setField_rec hz (by simp) fun h₁ hz₁ hs₁ => wpAny_pure (h _ hz₁ hs₁))
  refine step _ fun h₁ hz₁ hs₁ => ?_
  clear step
  simp only [Bool.false_eq_true, if_false]
  refine wpAny_bind ?_
  rw [← Array.forIn_toList]
  simp only [List.forIn_cons, List.forIn_nil]
  refine wpAny_bind (wpAny_bind (wpAny_holding ?_))
  show wpAny _ _ (Builtin.SmallTypes.nextOf (.ref i1) >>= _) _ _ _
  refine wpAny_bind (wpAny_nextOf_list_item (h1.extBut hs₁.extBut D.i1z) (hl1.extBut hs₁.extBut D.l1z) hx fun h₂ h1₂ hs₂ => wpAny_pure ?_)
  refine wpAny_pure ?_
  refine wpAny_bind (wpAny_bind (wpAny_holding ?_))
  show wpAny _ _ (Builtin.SmallTypes.nextOf (.ref i2) >>= _) _ _ _
  have h2₂ : IsRangeIter h₂ i2 y left 1 := hs₂.extBut _ _ D.i12.symm (hs₁.extBut _ _ D.i2z h2)
  refine wpAny_bind (nextOf_range_item h2₂ hy fun h₄ h2₄ hs₄ => wpAny_pure ?_)
  refine wpAny_pure (wpAny_pure ?_)
  refine wpAny_bind (wpAny_newTuple (hsz := by show (2 : Nat) ≤ sizeLine; rw [sizeLine_eq]; decide) ?_)
  have hsz : h₄.objs.size = s.heap.objs.size := by rw [hs₄.1, hs₂.1, hs₁.1]
  have hz₄ : ZF h₄ z TI TO t0 true := hs₄.extBut _ _ D.i2z.symm (hs₂.extBut _ _ D.i1z.symm hz₁)
  have h1₄ : h₄.IsListIter i1 l1 (k1 + 1) := h1₂.extBut hs₄.extBut D.i12
  refine wpAny_pure ⟨_, rfl, ?_⟩
  show Q (.ref h₄.objs.size) _
  rw [hsz]
  refine hQ (h₄.push { cls := .type "tuple", data := .seq #[x, .int y s.toks] }) s.toks _ (Heap.get?_push_of_some _ hz₄) (h1₄.at fun o e => Heap.get?_push_of_some _ e) (Heap.get?_push_of_some _ h2₄) (hsz ▸ Heap.get?_push_size _ rfl) (by rw [Heap.size_push, hsz]) fun c o c1 c3 c4 e =>
    Heap.get?_push_of_some _ (hs₄.extBut _ _ c4 (hs₂.extBut _ _ c3 (hs₁.extBut _ _ c1 e)))
theorem zl_end {z TI TO i1 i2 l1 l2 t0 : Addr} {f : Bool} {o0 : Obj} {k1 : Nat} {xs : Array Value} {y left : Int} {Q : Fin → Shared → Prop} (hh : A.handled = none) (D : ZipApart z TI TO i1 i2 l1 l2)
    (hz : ZF s.heap z TI TO t0 f) (ha : s.heap.get? t0 = some o0) (hTI : IsPair s.heap TI (.ref i1) (.ref i2))
    (h1 : s.heap.IsListIter i1 l1 k1) (h2 : IsRangeIter s.heap i2 y left 1) (hl1 : s.heap.IsList l1 xs) (hy : left ≤ 0)
    (hE : ∀ h' e, (∀ c o, c ≠ z → c ≠ i1 → c ≠ i2 → s.heap.get? c = some o → h'.get? c = some o) → (∃ o, h'.get? e = some o ∧ o.cls = .type "StopIteration") → E (.ref e) { s with heap := h' }) :
    wpAny (model prog w) A (Builtin.«zip.__next__» ⟨[.ref z], []⟩) Q E s := by
  show wpAny _ _ (field (.ref z) 2 >>= _) _ _ _
  refine wpAny_bind (wpAny_field hz rfl (x := .bool false) rfl ?_)
  show wpAny _ _ (field (.ref z) 3 >>= _) _ _ _
  refine wpAny_bind (wpAny_field hz rfl (x := .ref TI) rfl ?_)
  refine wpAny_bind (wpAny_seqItems hTI rfl ?_)
  show wpAny _ _ (Builtin.SmallTypes.ownedTupleIsFree (.ref z) >>= _) _ _ _
  refine wpAny_bind ?_
  unfold Builtin.SmallTypes.ownedTupleIsFree
  refine wpAny_bind (wpAny_field hz rfl (x := rawInt t0) rfl ?_)
  show wpAny _ _ (loadIfAlive ((t0 : Int).toNat) >>= _) _ _ _
  rw [Int.toNat_natCast]
  refine wpAny_bind (kdx_alive ha ?_)
  simp only [Option.isNone_some, Bool.false_eq_true, if_false]
  refine wpAny_bind (wpAny_field hz rfl (x := .bool f) rfl ?_)
  have step : ∀ (Q' : Bool → Shared → Prop), (∀ h₁, ZF h₁ z TI TO t0 true → Heap.SameBut z s.heap h₁ → Q' false { s with heap := h₁ }) → wpAny (model prog w) A (if (Value.bool f != Value.bool true) = true then do
      setField (Value.ref z) 1 (Value.bool true)
      pure false
    else pure false) Q' E s := by
    intro Q' h
    cases f with
    | true =>
      rw [if_neg (show ¬ ((Value.bool true != Value.bool true) = true) from Bool.false_ne_true)]
      exact wpAny_pure (h _ hz (Heap.SameBut.refl _ _))
    | false =>
      rw [if_pos (show (Value.bool false != Value.bool true) = true from rfl)]
      exact wpAny_bind (wpAny_setField_rec hz (by simp) fun h₁ hz₁ hs₁ => wpAny_pure (h _ hz₁ hs₁))
  refine step _ fun h₁ hz₁ hs₁ => ?_
  clear step
  simp only [Bool.false_eq_true, if_false]
  refine wpAny_bind ?_
  rw [← Array.forIn_toList]
  simp only [List.forIn_cons, List.forIn_nil]
  refine wpAny_bind (wpAny_bind (wpAny_holding ?_))
  show wpAny _ _ (Builtin.SmallTypes.nextOf (.ref i1) >>= _) _ _ _
  cases hx : xs[k1]? with
  | none =>
    refine wpAny_bind (wpAny_nextOf_list_end hh (h1.extBut hs₁.extBut D.i1z) (hl1.extBut hs₁.extBut D.l1z) hx fun h₂ e hs₂ he => ?_)
    exact hE h₂ e (fun c o c1 c3 _ x => hs₂ _ _ c3 (hs₁.extBut _ _ c1 x)) he
  | some x =>
    refine wpAny_bind (wpAny_nextOf_list_item (h1.extBut hs₁.extBut D.i1z) (hl1.extBut hs₁.extBut D.l1z) hx fun h₂ h1₂ hs₂ => wpAny_pure ?_)
    refine wpAny_pure ?_
    refine wpAny_bind (wpAny_bind (wpAny_holding ?_))
    show wpAny _ _ (Builtin.SmallTypes.nextOf (.ref i2) >>= _) _ _ _
    have h2₂ : IsRangeIter h₂ i2 y left 1 := hs₂.extBut _ _ D.i12.symm (hs₁.extBut _ _ D.i2z h2)
    refine wpAny_bind (nextOf_range_end hh h2₂ hy fun h₃ e hs₃ he => ?_)
    exact hE h₃ e (fun c o c1 c3 c4 x => hs₃ _ _ c4 (hs₂.extBut _ _ c3 (hs₁.extBut _ _ c1 x))) he

/-- the zip's state ahead of turn i -/
noncomputable def ZSt (z TI TO i1 i2 l1 S : Addr) (xs : Array Value) (n : Nat) (i : Nat) (h : Heap) : Prop :=
  IsPair h TI (.ref i1) (.ref i2) ∧ h.IsListIter i1 l1 i ∧ IsRangeIter h i2 (i : Int) ((n : Int) - (i : Int)) 1 ∧ h.IsList l1 xs ∧
  ((i = 0 ∧ IsZip h z TI TO .none ∧ ∃ a b, IsPair h TO a b) ∨ ∃ t0 f o0, ZF h z TI TO t0 f ∧ h.get? t0 = some o0 ∧ t0 ≠ z ∧ t0 ≠ i1 ∧ t0 ≠ i2 ∧ t0 ≠ S)
structure ZFar (z TI TO i1 i2 l1 S : Addr) : Prop where
  z : z ≠ S
  TI : TI ≠ S
  TO : TO ≠ S
  i1 : i1 ≠ S
  i2 : i2 ≠ S
  l1 : l1 ≠ S
theorem ZSt.keep {z TI TO i1 i2 l1 S : Addr} {xs : Array Value} {n i : Nat} {h h' : Heap} (x : ZSt z TI TO i1 i2 l1 S xs n i h) (a : ZFar z TI TO i1 i2 l1 S) (hk : ∀ b o, b ≠ S → h.get? b = some o → h'.get? b = some o) : ZSt z TI TO i1 i2 l1 S xs n i h' := by
  obtain ⟨h1, h2, h3, h4, h5⟩ := x
  refine ⟨hk _ _ a.TI h1, h2.at fun o e => hk _ o a.i1 e, hk _ _ a.i2 h3, h4.at fun o e => hk _ o a.l1 e, ?_⟩
  rcases h5 with ⟨e, h5, u, v, h6⟩ | ⟨t0, f, o0, h5, h6, n1, n2, n3, n4⟩
  · exact .inl ⟨e, hk _ _ a.z h5, u, v, hk _ _ a.TO h6⟩
  · exact .inr ⟨t0, f, o0, hk _ _ a.z h5, hk _ _ n4 h6, n1, n2, n3, n4⟩

theorem zl_item {z TI TO i1 i2 l1 l2 S : Addr} {xs : Array Value} {n i : Nat} {x : Value} {Q : Option Value → Shared → Prop} (D : ZipApart z TI TO i1 i2 l1 l2)
    (hst : ZSt z TI TO i1 i2 l1 S xs n i s.heap) (hS : S < s.heap.objs.size) (hx : xs[i]? = some x) (hlt : i < n)
    (hQ : ∀ h' t tk, ZSt z TI TO i1 i2 l1 S xs n (i + 1) h' → IsPair h' s.heap.objs.size x (.int (i : Int) t) → h'.objs.size = s.heap.objs.size + 1 →
      (∀ c o, c ≠ z → c ≠ TO → c ≠ i1 → c ≠ i2 → s.heap.get? c = some o → h'.get? c = some o) → Q (some (.ref s.heap.objs.size)) { s with heap := h', toks := tk }) :
    wpAny (model prog w) A (pyNext (.ref z)) Q E s := by
  obtain ⟨h1, h2, h3, h4, h5⟩ := hst
  have e2 : ((i + 1 : Nat) : Int) = (i : Int) + 1 := by omega
  have e3 : (n : Int) - ((i : Int) + 1) = (n : Int) - (i : Int) - 1 := by omega
  have g2 : i2 < s.heap.objs.size := Heap.lt_size h3
  have g1 : i1 < s.heap.objs.size := let ⟨_, e, _⟩ := h2; Heap.lt_size e
  rcases h5 with ⟨rfl, h5, u, v, h6⟩ | ⟨t0, f, o0, h5, h6, n1, n2, n3, n4⟩
  · have hT : s.TypeIs (.ref z) "zip" := ⟨_, h5, rfl⟩
    have gz : z < s.heap.objs.size := Heap.lt_size h5
    unfold pyNext
    refine wpAny_bind (wpAny_attempt (wpAny_callSpecial?_slot (name := Str.ofString "__next__") hT PySem.F.slot_zip_next
      (wpAny_call_entry PySem.F.slot_zip_next hT PySem.F.entry_zip_next
        (zl_first D h5 h1 h6 h2 h3 h4 hx (by omega) fun h' t tk a1 a2 a3 a4 a5 a6 hk => wpAny_pure (hQ h' t tk ⟨hk _ _ D.TIz D.TITO D.TIi1 D.TIi2 h1, a3, ?_, h4.at fun o e => hk _ o D.l1z D.l1TO D.l1i1 D.l1i2 e, .inr ⟨_, false, _, a1, a5, Nat.ne_of_gt gz, Nat.ne_of_gt g1, Nat.ne_of_gt g2, Nat.ne_of_gt hS⟩⟩ a5 a6 hk)) (PySem.F.args_zip_next_1 _))))
    rw [e2, e3]; exact a4
  · have hT : s.TypeIs (.ref z) "zip" := ⟨_, h5, rfl⟩
    unfold pyNext
    refine wpAny_bind (wpAny_attempt (wpAny_callSpecial?_slot (name := Str.ofString "__next__") hT PySem.F.slot_zip_next
      (wpAny_call_entry PySem.F.slot_zip_next hT PySem.F.entry_zip_next
        (zl_later D h5 h6 h1 h2 h3 h4 hx (by omega) fun h' t tk a1 a3 a4 a5 a6 hk => wpAny_pure (hQ h' t tk ⟨hk _ _ D.TIz D.TIi1 D.TIi2 h1, a3, ?_, h4.at fun o e => hk _ o D.l1z D.l1i1 D.l1i2 e, .inr ⟨t0, true, _, a1, hk _ _ n1 n2 n3 h6, n1, n2, n3, n4⟩⟩ a5 a6 (fun c o c1 _ c3 c4 e => hk c o c1 c3 c4 e))) (PySem.F.args_zip_next_1 _))))
    rw [e2, e3]; exact a4

theorem zl_done {z TI TO i1 i2 l1 l2 S : Addr} {xs : Array Value} {n : Nat} {Q : Option Value → Shared → Prop} (hh : A.handled = none) (D : ZipApart z TI TO i1 i2 l1 l2) (h0 : n ≠ 0)
    (hst : ZSt z TI TO i1 i2 l1 S xs n n s.heap)
    (hQ : ∀ h', (∀ c o, c ≠ z → c ≠ i1 → c ≠ i2 → s.heap.get? c = some o → h'.get? c = some o) → Q none { s with heap := h' }) :
    wpAny (model prog w) A (pyNext (.ref z)) Q E s := by
  obtain ⟨h1, h2, h3, h4, h5⟩ := hst
  rcases h5 with ⟨e, _⟩ | ⟨t0, f, o0, h5, h6, n1, n2, n3, n4⟩
  · exact absurd e h0
  · have hT : s.TypeIs (.ref z) "zip" := ⟨_, h5, rfl⟩
    unfold pyNext
    refine wpAny_bind (wpAny_attempt (wpAny_callSpecial?_slot (name := Str.ofString "__next__") hT PySem.F.slot_zip_next
      (wpAny_call_entry PySem.F.slot_zip_next hT PySem.F.entry_zip_next (zl_end hh D h5 h6 h1 h2 h3 h4 (by omega) fun h' e hk he => ?_) (PySem.F.args_zip_next_1 _))))
    obtain ⟨o, ho, hc⟩ := he
    refine wpAny_bind (wpAny_isInstance (T := "StopIteration") (b := true) ⟨o, ho, hc⟩ isSubtype_stop ?_)
    exact wpAny_pure (hQ _ hk)

structure ZRows (xs : Array Value) (lo : Addr) (h : Heap) (as : List Addr) : Prop where
  rise : as.Pairwise (· < ·)
  above : ∀ a ∈ as, lo < a
  pairs : ∀ (j : Nat) (a : Addr), as[j]? = some a → ∃ x t, xs[j]? = some x ∧ IsPair h a x (.int (j : Int) t)
theorem ZRows.there {xs : Array Value} {lo : Addr} {h : Heap} {as : List Addr} (g : ZRows xs lo h as) {a : Addr} (ha : a ∈ as) : a < h.objs.size := by
  obtain ⟨j, hj⟩ := List.mem_iff_getElem?.mp ha
  obtain ⟨_, _, _, e⟩ := g.pairs j a hj
  exact Heap.lt_size e
theorem ZRows.low {xs : Array Value} {lo lo' : Addr} {h : Heap} {as : List Addr} (g : ZRows xs lo h as) (hl : lo' ≤ lo) : ZRows xs lo' h as := ⟨g.rise, fun a ha => Nat.lt_of_le_of_lt hl (g.above a ha), g.pairs⟩
end
section
variable {prog : Program} {w : World} {A : Around} {s : Shared} {R : Result → Shared → Prop} {xs : Array Value} {n : Nat} {z TI TO i1 i2 l1 l2 : Addr}

theorem zl_loop {S lo : Addr} (hh : A.handled = none) (D : ZipApart z TI TO i1 i2 l1 l2) (G : ZFar z TI TO i1 i2 l1 S) (h0 : n ≠ 0) (hlo : S ≤ lo) (hlz : z ≤ lo) (hlTO : TO ≤ lo) (hl1 : i1 ≤ lo) (hl2 : i2 ≤ lo) (hnx : n ≤ xs.size) (hn : n ≤ sizeLine) (res : Value) {h₁ : Heap}
    (hR : ∀ h' tk acc c as, (∀ b o, b ≠ S → b ≠ z → b ≠ TO → b ≠ i1 → b ≠ i2 → h₁.get? b = some o → h'.get? b = some o) → h'.get? S = some { cls := .type "list", dict := none, data := .seq acc c, slots := #[] } → as.length = n → ZRows xs lo h' as →
      acc.toList = as.map Value.ref → R (.ok (.ret res)) { s with heap := h', toks := tk }) :
    ∀ (k i : Nat) (h : Heap) (tk c : Nat) (acc : Array Value) (as : List Addr), n - i = k → i ≤ n → ZSt z TI TO i1 i2 l1 S xs n i h → (∀ b o, b ≠ S → b ≠ z → b ≠ TO → b ≠ i1 → b ≠ i2 → h₁.get? b = some o → h.get? b = some o) →
      h.get? S = some { cls := .type "list", dict := none, data := .seq acc c, slots := #[] } → acc.toList = as.map Value.ref → as.length = i → ZRows xs lo h as → lo < h.objs.size →
      codeAny (model prog w) A (.builtin "list.extend.loop" ⟨[.ref S, .ref z, res], []⟩) R { s with heap := h, toks := tk } := by
  intro k
  induction k with
  | zero =>
    intro i h tk c acc as hk hi hst hkeep hS hacc hal hG hIs
    have hin : i = n := by omega
    subst hin
    refine codeAny_builtin PySem.F.entry_extend_loop ?_
    rw [Around.under_plainId PySem.F.plain_extend_loop _]
    show wpAny _ A.in1 (pyNext (.ref z) >>= _) _ _ _
    refine wpAny_bind (zl_done (s := { s with heap := h, toks := tk }) (A := A.in1) hh D h0 hst fun h' he => ?_)
    refine wpAny_pure (hR h' tk acc c as (fun b o n1 n2 n3 n4 n5 e => he b o n2 n4 n5 (hkeep b o n1 n2 n3 n4 n5 e)) (he S _ (Ne.symm G.z) (Ne.symm G.i1) (Ne.symm G.i2) hS) hal ⟨hG.rise, hG.above, fun j a hj => ?_⟩ hacc)
    obtain ⟨x, t, e1, e3⟩ := hG.pairs j a hj
    have hb := hG.above a (List.mem_of_getElem? hj)
    exact ⟨x, t, e1, he a _ (Nat.ne_of_gt (Nat.lt_of_le_of_lt hlz hb)) (Nat.ne_of_gt (Nat.lt_of_le_of_lt hl1 hb)) (Nat.ne_of_gt (Nat.lt_of_le_of_lt hl2 hb)) e3⟩
  | succ k ih =>
    intro i h tk c acc as hk hi hst hkeep hS hacc hal hG hIs
    have hlt : i < n := by omega
    have hxl : i < xs.size := by omega
    have hx : xs[i]? = some xs[i] := Array.getElem?_eq_getElem hxl
    have hsz : acc.size = i := by rw [← Array.length_toList, hacc, List.length_map, hal]
    refine codeAny_builtin PySem.F.entry_extend_loop ?_
    rw [Around.under_plainId PySem.F.plain_extend_loop _]
    show wpAny _ A.in1 (pyNext (.ref z) >>= _) _ _ _
    refine wpAny_bind (zl_item (s := { s with heap := h, toks := tk }) (S := S) D hst (Heap.lt_size hS) hx hlt fun h' t' tk' hst' ht hz hkp => ?_)
    dsimp only at ht hz hkp ⊢
    have hS' := hkp S _ (Ne.symm G.z) (Ne.symm G.TO) (Ne.symm G.i1) (Ne.symm G.i2) hS
    have up : ∀ b o, b ≠ S → h'.get? b = some o → (h'.update S (Obj.mapSeq (·.push (Value.ref h.objs.size)))).get? b = some o := fun b o hb e => (Heap.get?_update_other _ _ (Ne.symm hb)).trans e
    have hSl : S < h.objs.size := Heap.lt_size hS
    show wpAny _ A.in1 (updateSeq S (·.push (Value.ref h.objs.size)) >>= _) _ _ _
    refine wpAny_bind ?_
    refine wpAny_updateSeq hS' rfl (wpAny_pure ⟨plainId_quiet PySem.F.plain_extend_loop _, ih (i + 1) _ tk' _ (acc.push (Value.ref h.objs.size)) (as ++ [h.objs.size]) (by omega) hlt (hst'.keep G up)
      (fun b o n1 n2 n3 n4 n5 e => up b o n1 (hkp b o n2 n3 n4 n5 (hkeep b o n1 n2 n3 n4 n5 e))) (Heap.get?_update_self _ hS' rfl) (by rw [Array.toList_push, hacc, List.map_append]; rfl) (by rw [List.length_append, hal]; rfl) ⟨?_, ?_, ?_⟩ ?_⟩) (by rw [hsz]; omega) (by show (acc.push (Value.ref h.objs.size)).size ≤ sizeLine + 1; rw [Array.size_push, hsz]; omega)
    · refine List.pairwise_append.mpr ⟨hG.rise, List.pairwise_singleton _ _, fun a ha b hb => ?_⟩
      rw [List.mem_singleton.mp hb]
      exact hG.there ha
    · intro a ha
      rcases List.mem_append.mp ha with ha | ha
      · exact hG.above a ha
      · rw [List.mem_singleton.mp ha]; exact hIs
    · intro j b hj
      rcases Nat.lt_trichotomy j as.length with h1 | h1 | h1
      · rw [List.getElem?_append_left h1] at hj
        obtain ⟨x', t1, e1, e3⟩ := hG.pairs j b hj
        have hb := hG.above b (List.mem_of_getElem? hj)
        exact ⟨x', t1, e1, up b _ (Nat.ne_of_gt (Nat.lt_of_le_of_lt hlo hb)) (hkp b _ (Nat.ne_of_gt (Nat.lt_of_le_of_lt hlz hb)) (Nat.ne_of_gt (Nat.lt_of_le_of_lt hlTO hb)) (Nat.ne_of_gt (Nat.lt_of_le_of_lt hl1 hb)) (Nat.ne_of_gt (Nat.lt_of_le_of_lt hl2 hb)) e3)⟩
      · subst h1
        have hb : h.objs.size = b := by simpa using hj
        subst hb
        subst hal
        exact ⟨_, t', hx, up _ _ (Nat.ne_of_gt hSl) ht⟩
      · have hnone : (as ++ [h.objs.size])[j]? = none := List.getElem?_eq_none (by rw [List.length_append, List.length_singleton]; omega)
        rw [hnone] at hj; cases hj
    · have e : (h'.update S (Obj.mapSeq (·.push (Value.ref h.objs.size)))).get? h.objs.size = _ := up _ _ (Nat.ne_of_gt hSl) ht
      exact Nat.lt_trans hIs (Heap.lt_size e)
end

-- part Z2
set_option maxHeartbeats 8000000
open LCg (NsObj lst)
theorem zip_no_len : typeLookup (.type "zip") "__len__" = pure none := by rw [typeLookup_type, builtinLookup_eq_fast]; kernel_rfl
theorem zip_no_hint : typeLookup (.type "zip") "__length_hint__" = pure none := by rw [typeLookup_type, builtinLookup_eq_fast]; kernel_rfl
section
variable {prog : Program} {w : World} {A : Around} {E : Value → Shared → Prop} {s : Shared} {xs : Array Value} {n : Nat} {z TI TO i1 i2 l1 l2 : Addr}
theorem ZSt.isZip {S : Addr} {i : Nat} {h : Heap} (x : ZSt z TI TO i1 i2 l1 S xs n i h) : ∃ o, h.get? z = some o ∧ o.cls = .type "zip" := by
  rcases x.2.2.2.2 with ⟨_, h5, _⟩ | ⟨t0, f, o0, h5, _⟩
  · exact ⟨_, h5, rfl⟩
  · exact ⟨_, h5, rfl⟩
theorem zl_self {S : Addr} {i : Nat} {Q : Value → Shared → Prop} (hst : ZSt z TI TO i1 i2 l1 S xs n i s.heap) (h : Q (.ref z) s) : wpAny (model prog w) A (pyIter (.ref z)) Q E s := by
  have hT : s.TypeIs (.ref z) "zip" := hst.isZip
  refine wpAny_pyIter_slot hT PySem.F.slot_zip_iter (wpAny_call_entry PySem.F.slot_zip_iter hT PySem.F.entry_zip_iter ?_ (PySem.F.args_zip_iter_1 _))
  show wpAny _ _ (ret (.ref z)) _ _ s
  exact wpAny_pure ⟨_, rfl, "zip", _, hT, PySem.F.slot_zip_next.lookup, h⟩
theorem zl_init {R : Result → Shared → Prop} {S lo : Addr} (hh : A.handled = none) (D : ZipApart z TI TO i1 i2 l1 l2) (G : ZFar z TI TO i1 i2 l1 S) (h0 : n ≠ 0) (hlo : S ≤ lo) (hlz : z ≤ lo) (hlTO : TO ≤ lo) (hl1 : i1 ≤ lo) (hl2 : i2 ≤ lo) (hnx : n ≤ xs.size) (hn : n ≤ sizeLine)
    (hst : ZSt z TI TO i1 i2 l1 S xs n 0 s.heap) (hS : s.heap.get? S = some { cls := .type "list", data := .seq #[] }) (hlt : lo < s.heap.objs.size)
    (hR : ∀ h' tk acc c as, (∀ b o, b ≠ S → b ≠ z → b ≠ TO → b ≠ i1 → b ≠ i2 → s.heap.get? b = some o → h'.get? b = some o) → h'.get? S = some { cls := .type "list", dict := none, data := .seq acc c, slots := #[] } → as.length = n → ZRows xs lo h' as →
      acc.toList = as.map Value.ref → R (.ok (.ret .none)) { s with heap := h', toks := tk }) :
    wpAny (model prog w) A.in1 (Builtin.«list.__init__» ⟨[.ref S, .ref z], []⟩)
      (fun fin s' => match fin with | .done f => R (.ok f) s' | .again c' => c'.quiet = true ∧ codeAny (model prog w) A c' R s') (fun e s' => R (.error e) s') s := by
  show wpAny _ A.in1 (do let old ← Builtin.List.listItems (.ref S); Builtin.List.listUpdate (.ref S) (fun _ => #[]); letGo old.toList.reverse; Builtin.List.listExtendWith (.ref S) (.ref z) .none) _ _ s
  refine wpAny_bind ?_
  unfold Builtin.List.listItems
  refine wpAny_bind (wpAny_seqItems hS rfl (wpAny_pure ?_))
  show wpAny _ A.in1 (updateSeq S (fun _ => #[]) >>= fun _ => letGo (#[] : Array Value).toList.reverse >>= fun _ => Builtin.List.listExtendWith (.ref S) (.ref z) .none) _ _ s
  refine wpAny_bind (wpAny_updateSeq hS rfl ?_)
  have hS₁ := Heap.get?_update_self (Obj.mapSeq (fun _ => (#[] : Array Value))) hS rfl
  have oth₁ : ∀ b o, b ≠ S → s.heap.get? b = some o → (s.heap.update S (Obj.mapSeq (fun _ => (#[] : Array Value)))).get? b = some o :=
    fun b o hb e => (Heap.get?_update_other _ _ (Ne.symm hb)).trans e
  have hst₁ := hst.keep G oth₁
  have hz₁ : (s.heap.update S (Obj.mapSeq (fun _ => (#[] : Array Value)))).objs.size = s.heap.objs.size := (Heap.SameBut.update ..).1
  generalize hh₁ : s.heap.update S (Obj.mapSeq (fun _ => (#[] : Array Value))) = h₁ at *
  clear hh₁
  refine wpAny_bind (wpAny_letGo ?_)
  have hzS : S ≠ z := Ne.symm G.z
  unfold Builtin.List.listExtendWith
  refine wpAny_bind (wpAny_typeOf (T := "zip") hst₁.isZip ?_)
  have e1 : Builtin.List.listSameRef (.ref S) (.ref z) = false := by simp [Builtin.List.listSameRef, hzS]
  have e2 : (Value.type "zip" == Value.type "list") = false := by decide
  have e3 : (Value.type "zip" == Value.type "tuple") = false := by decide
  simp only [e1, e2, e3, Bool.or_false, Bool.false_eq_true, if_false]
  refine wpAny_bind (zl_self hst₁ ?_)
  refine wpAny_bind (wpAny_holding ?_)
  unfold Builtin.List.listLengthHint
  refine wpAny_bind (wpAny_specialOf (T := "zip") hst₁.isZip zip_no_len ?_)
  show wpAny _ A.in1 (specialOf (Value.ref z) (Str.ofString "__length_hint__") >>= _) _ _ _
  refine wpAny_bind (wpAny_specialOf (T := "zip") hst₁.isZip zip_no_hint ?_)
  refine wpAny_pure ?_
  show wpAny _ A.in1 (rule "list.extend.makes-room" >>= fun _ => Builtin.List.listTouch (.ref S) >>= fun _ =>
    again (.builtin "list.extend.loop" ⟨[.ref S, .ref z, .none], []⟩)) _ _ _
  refine wpAny_bind (wpAny_rule ?_)
  refine wpAny_bind ?_
  show wpAny _ A.in1 (updateSeq S (·.push .none) >>= fun _ => updateSeq S (·.pop)) _ _ _
  refine wpAny_bind (wpAny_updateSeq hS₁ rfl ?_)
  have hS₂ := Heap.get?_update_self (Obj.mapSeq (·.push Value.none)) hS₁ rfl
  refine wpAny_updateSeq (hz := by seq_fits) hS₂ rfl ?_
  have hS₃ := Heap.get?_update_self (Obj.mapSeq (·.pop)) hS₂ rfl
  have oth : ∀ b o, b ≠ S → h₁.get? b = some o → ((h₁.update S (Obj.mapSeq (·.push Value.none))).update S (Obj.mapSeq (·.pop))).get? b = some o :=
    fun b o hb e => (Heap.get?_update_other _ _ (Ne.symm hb)).trans ((Heap.get?_update_other _ _ (Ne.symm hb)).trans e)
  have hz₂ : ((h₁.update S (Obj.mapSeq (·.push Value.none))).update S (Obj.mapSeq (·.pop))).objs.size = s.heap.objs.size := ((Heap.SameBut.update ..).trans (Heap.SameBut.update ..)).1.trans hz₁
  refine wpAny_pure ⟨plainId_quiet PySem.F.plain_extend_loop _, zl_loop (s := s) (h₁ := s.heap) hh D G h0 hlo hlz hlTO hl1 hl2 hnx hn .none hR n 0 _ _ _ #[] [] (Nat.sub_zero _) (Nat.zero_le _) (hst₁.keep G oth) (fun b o n1 _ _ _ _ e => oth b o n1 (oth₁ b o n1 e)) hS₃ rfl rfl ⟨List.Pairwise.nil, (fun _ ha => nomatch ha), (fun j a hj => by simp at hj)⟩ (by rw [hz₂]; exact hlt)⟩

theorem zl_call {Q : Value → Shared → Prop} (hh : A.handled = none) (D : ZipApart z TI TO i1 i2 l1 l2) (h0 : n ≠ 0) (hnx : n ≤ xs.size) (hn : n ≤ sizeLine)
    (hz : IsZip s.heap z TI TO .none) (hTI : IsPair s.heap TI (.ref i1) (.ref i2)) {a b : Value} (hTO : IsPair s.heap TO a b) (h1 : s.heap.IsListIter i1 l1 0) (h2 : IsRangeIter s.heap i2 0 n 1) (hl : s.heap.IsList l1 xs)
    (hQ : ∀ h' tk acc c as, (∀ b o, b ≠ z → b ≠ TO → b ≠ i1 → b ≠ i2 → s.heap.get? b = some o → h'.get? b = some o) → h'.get? s.heap.objs.size = some { cls := .type "list", dict := none, data := .seq acc c, slots := #[] } → as.length = n → ZRows xs s.heap.objs.size h' as →
      acc.toList = as.map Value.ref → Q (.ref s.heap.objs.size) { s with heap := h', toks := tk }) :
    wpAny (model prog w) A (call (.type "list") [.ref z]) Q E s := by
  refine callType_codes (Q₁ := fun obj s₁ => obj = .ref s.heap.objs.size ∧ s₁ = { s with heap := s.heap.push { cls := .type "list", data := .seq #[] } }) PySem.F.called_list (PySem.F.typeCall_list_1 _) PySem.F.entry_list_init
    (code_list_new _ ⟨rfl, rfl⟩) fun obj s₁ h₁ => ?_
  obtain ⟨rfl, rfl⟩ := h₁
  have hS : (s.heap.push { cls := .type "list", data := .seq #[] }).get? s.heap.objs.size = some { cls := .type "list", data := .seq #[] } := Heap.get?_push_size _ rfl
  have up : ∀ b o, s.heap.get? b = some o → (s.heap.push { cls := .type "list", data := .seq #[] }).get? b = some o := fun b o e => Heap.get?_push_of_some _ e
  have gz : z < s.heap.objs.size := Heap.lt_size hz
  have gTO : TO < s.heap.objs.size := Heap.lt_size hTO
  have gTI : TI < s.heap.objs.size := Heap.lt_size hTI
  have g2 : i2 < s.heap.objs.size := Heap.lt_size h2
  have g1 : i1 < s.heap.objs.size := let ⟨_, e, _⟩ := h1; Heap.lt_size e
  have gl : l1 < s.heap.objs.size := let ⟨_, e, _⟩ := hl; Heap.lt_size e
  refine ⟨⟨_, hS, rfl⟩, PySem.F.args_list_init_2 _ _, zl_init (A := A.in1) (s := { s with heap := s.heap.push { cls := .type "list", data := .seq #[] } }) (lo := s.heap.objs.size) hh D ⟨Nat.ne_of_lt gz, Nat.ne_of_lt gTI, Nat.ne_of_lt gTO, Nat.ne_of_lt g1, Nat.ne_of_lt g2, Nat.ne_of_lt gl⟩ h0 (Nat.le_refl _) (Nat.le_of_lt gz) (Nat.le_of_lt gTO) (Nat.le_of_lt g1) (Nat.le_of_lt g2) hnx hn
    ⟨up _ _ hTI, h1.at fun o e => up _ o e, ?_, hl.at fun o e => up _ o e, .inl ⟨rfl, up _ _ hz, a, b, up _ _ hTO⟩⟩ hS (by show _ < (s.heap.push _).objs.size; rw [Heap.size_push]; exact Nat.lt_succ_self _) fun h' tk acc c as hk hS' hal hG hacc => ?_⟩
  · have := up _ _ h2
    simpa using this
  · exact ⟨rfl, hQ h' tk acc c as (fun b o n2 n3 n4 n5 e => hk b o (Nat.ne_of_lt (Heap.lt_size e)) n2 n3 n4 n5 (up b o e)) hS' hal hG hacc⟩
end

-- part Z3
set_option maxHeartbeats 8000000
open LCg (NsObj lst)
noncomputable abbrev zrH1 (h : Heap) (l1 : Addr) : Heap := h.push { cls := .type "list_iterator", data := .fields #[.ref l1, .int 0 0] }
noncomputable abbrev zrH2 (h : Heap) (l1 : Addr) (b : Int) : Heap := (zrH1 h l1).push { cls := .type "range_iterator", data := .fields #[rawInt 0, rawInt (Builtin.Range.rangeSize 0 b 1), rawInt 1] }
noncomputable abbrev zrH3 (h : Heap) (l1 : Addr) (b : Int) : Heap := (zrH2 h l1 b).push { cls := .type "tuple", data := .seq #[.ref h.objs.size, .ref (zrH1 h l1).objs.size] }
noncomputable abbrev zrH4 (h : Heap) (l1 : Addr) (b : Int) : Heap := (zrH3 h l1 b).push { cls := .type "tuple", data := .seq #[.none, .none] }
noncomputable abbrev zrH5 (h : Heap) (l1 : Addr) (b : Int) : Heap := (zrH4 h l1 b).push { cls := .type "zip", data := .fields #[.none, .bool false, .bool false, .ref (zrH2 h l1 b).objs.size, .ref (zrH3 h l1 b).objs.size] }

theorem meets_zr (l1 r : Addr) (xs : Array Value) (b : Int) (t u v : Tok) (hb : Builtin.Range.small 0 b 1 = true) :
    Meets (Builtin.«zip.__new__» ⟨[.type "zip", .ref l1, .ref r], []⟩) (fun _ R s => s.heap.IsList l1 xs ∧ IsRange s.heap r 0 b 1 t u v ∧
      R (.ok (.ret (.ref (zrH4 s.heap l1 b).objs.size))) { s with heap := zrH5 s.heap l1 b }) :=
  .of_wp fun prog w A R s h => by
    obtain ⟨hp, g, d, tk, os⟩ := s; obtain ⟨hl1, hr, h⟩ := h
    have hsub := sub_zip
    have hL1 : Heap.IsList (Shared.heap ⟨hp, g, d, tk, os⟩) l1 xs := hl1
    have hL2 : IsRange (Shared.heap ⟨hp.push { cls := .type "list_iterator", data := .fields #[.ref l1, .int 0 0] }, g, d, tk, os⟩) r 0 b 1 t u v := Heap.get?_push_of_some _ hr
    wp_walk using wpAny_pyIter_list hL1, wpAny_pyIter_range hL2 hb
    exact ⟨_, rfl, h⟩
section
variable {prog : Program} {w : World} {A : Around} {E : Value → Shared → Prop} {s : Shared} {h₀ : Heap} {L : Addr} {m : Str → Option Value} {news : List (Addr × Obj)}
theorem zr_call {l1 r : Addr} {xs : Array Value} {n : Nat} {t u v : Tok} {Q : Value → Shared → Prop} (hb : Builtin.Range.small 0 (n : Int) 1 = true) (hl1 : s.heap.IsList l1 xs) (hr : IsRange s.heap r 0 (n : Int) 1 t u v)
    (h : ∀ h' z TI TO i1 i2, ZipApart z TI TO i1 i2 l1 r → IsZip h' z TI TO .none → IsPair h' TI (.ref i1) (.ref i2) →
      IsPair h' TO .none .none → h'.IsListIter i1 l1 0 → IsRangeIter h' i2 0 n 1 → h'.IsList l1 xs → s.heap.objs.size ≤ z → s.heap.objs.size ≤ TO → s.heap.objs.size ≤ i1 → s.heap.objs.size ≤ i2 → s.heap.objs.size ≤ TI →
      (∀ c o, s.heap.get? c = some o → h'.get? c = some o) → Q (.ref z) { s with heap := h' }) :
    wpAny (model prog w) A (call (.type "zip") [.ref l1, .ref r]) Q E s := by
  refine callType_new PySem.F.called_zip (by decide) (PySem.F.typeCall_zip_2 _ _) (PySem.F.newCall_zip_2 _ _) (fun obj => PySem.F.args_object_init_3 obj _ _) PySem.F.entry_zip_new
    (meets_zr l1 r xs n t u v hb) ⟨hl1, hr, ?_⟩
  have a1 : l1 < s.heap.objs.size := by obtain ⟨_, e, _⟩ := hl1; exact Heap.lt_size e
  have a2 : r < s.heap.objs.size := Heap.lt_size hr
  have z1 : (zrH1 s.heap l1).objs.size = s.heap.objs.size + 1 := Heap.size_push ..
  have z2 : (zrH2 s.heap l1 n).objs.size = s.heap.objs.size + 2 := by rw [Heap.size_push, z1]
  have z3 : (zrH3 s.heap l1 n).objs.size = s.heap.objs.size + 3 := by rw [Heap.size_push, z2]
  have z4 : (zrH4 s.heap l1 n).objs.size = s.heap.objs.size + 4 := by rw [Heap.size_push, z3]
  have g5 : (zrH5 s.heap l1 n).get? (zrH4 s.heap l1 n).objs.size = some _ := Heap.get?_push_size _ rfl
  have g4 : (zrH5 s.heap l1 n).get? (zrH3 s.heap l1 n).objs.size = some _ := Heap.get?_push_of_some _ (Heap.get?_push_size _ rfl)
  have g3 : (zrH5 s.heap l1 n).get? (zrH2 s.heap l1 n).objs.size = some _ := Heap.get?_push_of_some _ (Heap.get?_push_of_some _ (Heap.get?_push_size _ rfl))
  have g2 : (zrH5 s.heap l1 n).get? (zrH1 s.heap l1).objs.size = some _ := Heap.get?_push_of_some _ (Heap.get?_push_of_some _ (Heap.get?_push_of_some _ (Heap.get?_push_size _ rfl)))
  have g1 : (zrH5 s.heap l1 n).get? s.heap.objs.size = some _ := Heap.get?_push_of_some _ (Heap.get?_push_of_some _ (Heap.get?_push_of_some _ (Heap.get?_push_of_some _ (Heap.get?_push_size _ rfl))))
  have keep : ∀ c o, s.heap.get? c = some o → (zrH5 s.heap l1 n).get? c = some o := fun c o x =>
    Heap.get?_push_of_some _ (Heap.get?_push_of_some _ (Heap.get?_push_of_some _ (Heap.get?_push_of_some _ (Heap.get?_push_of_some _ x))))
  show _ ∧ _
  rw [z2, z3, z4] at g5
  rw [z1, z2] at g3
  rw [z3] at g4
  rw [z1] at g2
  rw [z4]
  have g2' : IsRangeIter (zrH5 s.heap l1 n) (s.heap.objs.size + 1) 0 n 1 := by
    have e : Builtin.Range.rangeSize 0 (n : Int) 1 = (n : Int) := by rw [rangeSize_nat]; omega
    rw [e] at g2
    exact g2
  exact ⟨⟨_, g5, rfl⟩, h _ _ _ _ _ _ (zipApart_new a1 a2) g5 g3 g4 ⟨_, g1, rfl, rfl⟩ g2' (hl1.at fun o e => keep _ o e) (Nat.le_add_right _ 4) (Nat.le_add_right _ 3) (Nat.le_refl _) (Nat.le_add_right _ 1) (Nat.le_add_right _ 2) keep⟩

/-- the rows of the list made of a zip -/
noncomputable def RowsAt (T : List (Addr × Obj)) (vs : List Value) (xs : List Value) (n : Nat) : Prop :=
  vs.length = n ∧ ∀ (i : Nat) x, xs[i]? = some x → i < vs.length → ∃ t ti, vs[i]? = some (.ref t) ∧ (t, tupO [x, .int (i : Int) ti] 0) ∈ T

theorem zr_list {l1 z TI TO i1 i2 l2 : Addr} {xs : Array Value} {n : Nat} {a b : Value} {Q : Value → Shared → Prop} (hh : A.handled = none) (D : ZipApart z TI TO i1 i2 l1 l2) (h0 : n ≠ 0) (hnx : n ≤ xs.size) (hn : n ≤ 1000)
    (F : Fr h₀ L s.heap m) (N : News h₀ L s.heap news) (hz : IsZip s.heap z TI TO .none) (hTI : IsPair s.heap TI (.ref i1) (.ref i2)) (hTO : IsPair s.heap TO a b) (h1 : s.heap.IsListIter i1 l1 0) (h2 : IsRangeIter s.heap i2 0 n 1) (hl : s.heap.IsList l1 xs)
    (o1 : ∀ p ∈ news, p.1 ≠ z ∧ p.1 ≠ TO ∧ p.1 ≠ i1 ∧ p.1 ≠ i2) (o2 : L ≠ z ∧ L ≠ TO ∧ L ≠ i1 ∧ L ≠ i2) (o3 : h₀.get? z = none ∧ h₀.get? TO = none ∧ h₀.get? i1 = none ∧ h₀.get? i2 = none)
    (hQ : ∀ h' tk S c vs T, Fr h₀ L h' m → News h₀ L h' ((S, lstO vs c) :: (T ++ news)) → RowsAt T vs xs.toList n → (∀ p ∈ T, @LT.lt Nat _ S p.1) → (∀ p ∈ news, @LT.lt Nat _ p.1 S) → Q (.ref S) { s with heap := h', toks := tk }) :
    wpAny (model prog w) A (call (.type "list") [.ref z]) Q E s := by
  refine zl_call hh D h0 hnx (by rw [sizeLine_eq]; omega) hz hTI hTO h1 h2 hl fun h' tk acc c as hk hS hal hG hacc => ?_
  have kb : ∀ b o, h₀.get? b = some o → h'.get? b = some o := fun b o e =>
    hk b o (fun q => by rw [q, o3.1] at e; cases e) (fun q => by rw [q, o3.2.1] at e; cases e) (fun q => by rw [q, o3.2.2.1] at e; cases e) (fun q => by rw [q, o3.2.2.2] at e; cases e) (F.keep b o e)
  have F' : Fr h₀ L h' m := by
    obtain ⟨oL, a1, a2, hoL, a3⟩ := F.ns
    exact ⟨⟨oL, a1, a2, hk L oL o2.1 o2.2.1 o2.2.2.1 o2.2.2.2 hoL, a3⟩, kb, F.above⟩
  have N' : News h₀ L h' news := fun p hp => ⟨hk _ _ (o1 p hp).1 (o1 p hp).2.1 (o1 p hp).2.2.1 (o1 p hp).2.2.2 (N p hp).1, (N p hp).2⟩
  have hSl : ∀ p ∈ news, @LT.lt Nat _ p.1 s.heap.objs.size := fun p hp => Heap.lt_size (N p hp).1
  refine hQ h' tk s.heap.objs.size c acc.toList (as.map fun a => (a, (h'.get? a).getD { cls := .type "tuple", data := .seq #[] })) F' ?_ ⟨?_, ?_⟩ ?_ hSl
  · intro p hp
    rcases List.mem_cons.mp hp with rfl | hp
    · exact ⟨hS, kdx_fresh F (Nat.le_refl _)⟩
    · rcases List.mem_append.mp hp with hp | hp
      · obtain ⟨a, ha, rfl⟩ := List.mem_map.mp hp
        obtain ⟨j, hj⟩ := List.mem_iff_getElem?.mp ha
        obtain ⟨x, t, _, e⟩ := hG.pairs j a hj
        refine ⟨?_, kdx_fresh F (Nat.le_of_lt (hG.above a ha))⟩
        show h'.get? a = some ((h'.get? a).getD _)
        rw [e]; rfl
      · exact N' p hp
  · rw [hacc, List.length_map, hal]
  · intro i x hx hi
    rw [hacc, List.length_map] at hi
    have hj : as[i]? = some as[i] := List.getElem?_eq_getElem hi
    obtain ⟨x', t, e1, e⟩ := hG.pairs i _ hj
    rw [Array.getElem?_toList, e1] at hx
    cases hx
    refine ⟨as[i], t, by rw [hacc, List.getElem?_map, hj]; rfl, List.mem_map.mpr ⟨as[i], List.getElem_mem hi, ?_⟩⟩
    rw [e]; rfl
  · intro p hp
    obtain ⟨a, ha, rfl⟩ := List.mem_map.mp hp
    exact hG.above a ha
end

-- part LM
set_option maxHeartbeats 8000000
open LCg (NsObj lst)
theorem htsLen {hs : List Value} {xs : List (Str × Str)} (h : IntsAre hs (hts (xs.map netOf))) : hs.length = xs.length := by
  rw [IntsAre.length h]
  simp [hts]
section
variable {prog : Program} {w : World} {A : Around} {E : Value → Shared → Prop} {s : Shared} {h₀ : Heap} {L a b : Addr} {m : Str → Option Value} {news : List (Addr × Obj)} {vs ws : List Value} {na nb : Nat} {Q : Value → Shared → Prop}
theorem catL (F : Fr h₀ L s.heap m) (N : News h₀ L s.heap news) (ha : (a, lstO vs na) ∈ news) (hb : (b, lstO ws nb) ∈ news) (hz : vs.length + ws.length ≤ 100000)
    (h : ∀ D h', Fr h₀ L h' m → News h₀ L h' ((D, lstO (vs ++ ws) 0) :: news) → (∀ p ∈ news, p.1 < D) → Q (.ref D) { s with heap := h' }) : wpAny (model prog w) A (binaryOp .Add (.ref a) (.ref b)) Q E s :=
  add_lists F N ⟨_, (N _ ha).1, rfl, na, rfl⟩ ⟨_, (N _ hb).1, rfl, nb, rfl⟩ (fun h' F' N' => h _ h' F' N' fun p hp => Heap.lt_size (N p hp).1) (by rw [sizeLine_eq]; omega)
end
local macro_rules | `(tactic| walk_at "binaryOp Add ref ref") => `(tactic| (k_here; (with_reducible show wpAny _ _ (binaryOp _ (Value.ref _) (Value.ref _)) _ _ _); k_dflt (refine' catL ?F ?N ?a ?b ?z ?_; (case F | N => k_asm); (case a | b => k_mem); (case z => (simp only [List.length_cons, List.length_nil]; omega))); intro D' h' F' N' l1; (try k_lt l1); (try k_sweep)))
local macro_rules | `(tactic| walk_at "call ref") => `(tactic| (k_here; (with_reducible show wpAny _ _ (call (Value.ref 290) _ _) _ _ _); (refine wpAny_call ?_); k_dflt (refine' heights ⟨?B, ?F, ?X, ?N, ?T, ?f, ?k⟩ ?d ?u ?h1 ?h2 ?h3 ?h4 ?h5 ?h6 ?_; (case B | F | X | N | T => k_asm); (case f | k => first | exact rfl | assumption); (case d | u => exact Nat.le_of_ble_eq_true rfl); (case h1 | h2 | h3 => k_mem); (case h4 => (first | assumption | (refine PairsAt.mono (by assumption) ?_; (intro p9 hp9; repeat (first | exact hp9 | refine List.mem_cons_of_mem _ ?_ | refine List.mem_append_right _ ?_))))); (case h5 => omega); (case h6 => assumption); k_whole); intro h' tk' D' hs' n' l1 I' F' N'; (have lnH := htsLen I'); (have l3 := l1); (try k_lt l1); (try k_sweep); (try dsimp only)))
local macro_rules | `(tactic| walk_at "call ref") => `(tactic| (k_here; (with_reducible show wpAny _ _ (call (Value.ref 135) _ _) _ _ _); (refine wpAny_call ?_); k_dflt (refine' items (xs := []) ⟨?B, ?F, ?X, ?N, ?T, ?f, ?k⟩ ?d ?u ?h1 ?h2 ?h3 ?h4 ?_; (case B | F | X | N | T => k_asm); (case f | k => first | exact rfl | assumption); (case d | u => exact Nat.le_of_ble_eq_true rfl); (case h1 | h2 | h3 => k_mem); (case h4 => omega); k_whole); intro h' tk' l' l1 F' N'; (try k_lt l1); (try k_sweep); (try dsimp only)))

-- part T6
set_option maxHeartbeats 8000000
open LCg (NsObj lst)
theorem st6 {w : World} {h₀ : Heap} {L fa : Addr} {cd : Value} {m mg mb : Str → Option Value} {mean : ExcName → Option Value} {news : List (Addr × Obj)} {s : Shared} {Q : Flow → Shared → Prop} {E : Value → Shared → Prop}
    {x dx l : Addr} {hh : Int} {th : Tok} {nd nl : Nat} {vs : List Value} {xs : List (Str × Str)} {n : Int} {u : Tok} {oc : Obj} {ov : Option Value}
    (C : Lx w h₀ L m mg mb mean ((L + 1 + 1, oc) :: news) s.heap) (hoc : oc.data = .cell ov) (hoff : ∀ p ∈ news, p.1 ≠ L + 1 + 1) (hm : m "ring" = some (.ref x)) (hm2 : m "many" = some (.int n u)) (hn0 : 0 < n) (hn8 : n ≤ 8) (hr : (x, instObj 171 dx) ∈ news) (hdx : (dx, dictOf [⟨hh, .str "_headers" th, .ref l⟩] nd) ∈ news) (hl : (l, lstO vs nl) ∈ news) (hp : PairsAt news vs xs) (hlen : (xs.length : Int) = n) (hws : ∀ p ∈ xs, okW p.2)
    (hQ : ∀ h' tk' oc' S c vs' hs t0 T, oc'.data = .cell (some (.ref S)) → IntsAre hs (hts (xs.map netOf)) → RowsAt T vs' (.int 0 t0 :: hs) n.toNat → @LT.lt Nat _ (L + 1 + 1) S → (∀ p ∈ T, @LT.lt Nat _ S p.1) → (∀ p ∈ news, @LT.lt Nat _ p.1 S) → Fr h₀ L h' m → News h₀ L h' ((L + 1 + 1, oc') :: (S, lstO vs' c) :: (T ++ news)) → Q .next { s with heap := h', toks := tk' }) :
    wpAny (model PySem.Challenge.rw_pg0317_01.row.prog w) (callerA.deeper (envOfC (Str.ofString "law") lawScope L fa cd)) (exec (stAt 6) (envOfC (Str.ofString "law") lawScope L fa cd)) Q E s := by
  obtain ⟨B, F, X, N, T⟩ := C
  revert X
  k_fill
  intro X
  dsimp only [stAt, lawBody, lawScope, PySem.Challenge.pw_pg0317_01, List.getLast?, List.getLast, List.getD, List.getElem?_cons_succ, List.getElem?_cons_zero, Option.getD_some]
  have hr' := List.mem_cons_of_mem (L + 1 + 1, oc) hr
  have hdx' := List.mem_cons_of_mem (L + 1 + 1, oc) hdx
  have hl' := List.mem_cons_of_mem (L + 1 + 1, oc) hl
  have hp' : PairsAt ((L + 1 + 1, oc) :: news) vs xs := hp.mono fun p hp => List.mem_cons_of_mem _ hp
  have hsz := hp.1
  k_steps
  (rename IsRange _ _ _ _ _ _ _ _ => hr9)
  (rename Fr _ _ _ _ => F9)
  (rename News _ _ _ _ => N9)
  have e9 : ((n.toNat : Nat) : Int) = n := Int.toNat_of_nonneg (Int.le_of_lt hn0)
  refine zr_call (n := n.toNat) (small_range (by decide) (by decide) (by omega) (by omega)) ⟨_, (N9 _ List.mem_cons_self).1, rfl, _, rfl⟩ (by rw [e9]; exact hr9) ?_
  intro h2 z TI TO i1 i2 ap iz ti to li ri il gz gTO g1 g2 gTI hk
  have F2 := F9.keptAll hk
  have ltN := fun p (hp : p ∈ _) => Heap.lt_size (N9 p hp).1
  have ltL := F9.ns.lt
  have N2 : News h₀ L h2 _ := fun p hp => ⟨hk _ _ (N9 p hp).1, (N9 p hp).2⟩
  have fz := kdx_fresh F9 gz
  have fTO := kdx_fresh F9 gTO
  have f1 := kdx_fresh F9 g1
  have f2 := kdx_fresh F9 g2
  clear N9 F9
  (rename (List.length _ = List.length xs) => lnH)
  k_steps
  refine zr_list rfl ap (n := n.toNat) (by omega) (by rw [List.size_toArray, List.length_append, lnH]; omega) (by omega) F2 N2 iz ti to li ri il
    (fun p hp => ⟨Nat.ne_of_lt (Nat.lt_of_lt_of_le (ltN p hp) gz), Nat.ne_of_lt (Nat.lt_of_lt_of_le (ltN p hp) gTO), Nat.ne_of_lt (Nat.lt_of_lt_of_le (ltN p hp) g1), Nat.ne_of_lt (Nat.lt_of_lt_of_le (ltN p hp) g2)⟩)
    ⟨Ne.symm fz.1, Ne.symm fTO.1, Ne.symm f1.1, Ne.symm f2.1⟩ ⟨fz.2, fTO.2, f1.2, f2.2⟩ ?_
  intro h3 tk3 S c vs3 T3 F3 N3 hR hT hlo
  clear N2 F2
  have N4 : News h₀ L h3 ((L + 1 + 1, oc) :: (S, lstO vs3 c) :: (T3 ++ news)) := fun p hp => N3 p (by
    rcases List.mem_cons.mp hp with rfl | hp
    · exact List.mem_cons_of_mem _ (List.mem_append_right _ (List.mem_cons_of_mem _ (List.mem_cons_of_mem _ (List.mem_cons_of_mem _ List.mem_cons_self))))
    · rcases List.mem_cons.mp hp with rfl | hp
      · exact List.mem_cons_self
      · rcases List.mem_append.mp hp with hp | hp
        · exact List.mem_cons_of_mem _ (List.mem_append_left _ hp)
        · exact List.mem_cons_of_mem _ (List.mem_append_right _ (List.mem_cons_of_mem _ (List.mem_cons_of_mem _ (List.mem_cons_of_mem _ (List.mem_cons_of_mem _ hp))))))
  have lS : @LT.lt Nat _ (L + 1 + 1) S := hlo _ (List.mem_cons_of_mem _ (List.mem_cons_of_mem _ (List.mem_cons_of_mem _ List.mem_cons_self)))
  have off3 : ∀ p ∈ (S, lstO vs3 c) :: (T3 ++ news), p.1 ≠ L + 1 + 1 := by
    intro p hp
    rcases List.mem_cons.mp hp with rfl | hp
    · exact Nat.ne_of_gt lS
    · rcases List.mem_append.mp hp with hp | hp
      · exact Nat.ne_of_gt (Nat.lt_trans lS (hT p hp))
      · exact hoff p hp
  have lS2 : ∀ p ∈ news, @LT.lt Nat _ p.1 S := fun p hp => hlo _ (List.mem_cons_of_mem _ (List.mem_cons_of_mem _ (List.mem_cons_of_mem _ (List.mem_cons_of_mem _ hp))))
  clear N3
  k_steps
  (rename News _ _ _ _ => N9)
  exact hQ _ _ _ _ _ _ _ _ _ (by assumption) (by assumption) hR lS hT lS2 (by assumption) N9

-- part PL
/-- how many of the sums so far are above zero -/
noncomputable def cntP (ds : List Int) : Nat := ((hts ds).filter (fun z => decide (0 < z))).length
noncomputable def rot {α : Type} (k : Nat) (l : List α) : List α := l.drop k ++ l.take k
noncomputable def preS (ds : List Int) (i : Nat) : Int := (ds.take i).sum
noncomputable def beats (ds : List Int) (i k : Nat) : Bool := decide (preS ds k < preS ds i ∨ (preS ds i = preS ds k ∧ i < k))
noncomputable def rankOf (ds : List Int) (k : Nat) : Nat := (List.range ds.length).countP fun i => beats ds i k

theorem sum_split (ds : List Int) (k j : Nat) : ((ds.drop k).take j).sum = preS ds (k + j) - preS ds k := by
  unfold preS
  rw [List.take_add, List.sum_append]
  omega
theorem take_rot (ds : List Int) (hs : ds.sum = 1) (k j : Nat) (hk : k < ds.length) (hj : j ≤ ds.length) :
    ((rot k ds).take j).sum = if k + j < ds.length then preS ds (k + j) - preS ds k else preS ds (k + j - ds.length) + 1 - preS ds k := by
  unfold rot
  rw [List.take_append, List.sum_append, sum_split, List.length_drop, List.take_take]
  have hall : preS ds ds.length = 1 := by unfold preS; rw [List.take_length, hs]
  split
  · have e : j - (ds.length - k) = 0 := by omega
    rw [e]; simp
  · have e1 : min (j - (ds.length - k)) k = k + j - ds.length := by omega
    rw [e1]
    have e2 : preS ds (k + j) = 1 := by
      unfold preS; rw [List.take_of_length_le (by omega), hs]
    rw [e2]
    show 1 - preS ds k + preS ds _ = _
    omega
theorem countP_range_add (p : Nat → Bool) (a b : Nat) : (List.range (a + b)).countP p = (List.range a).countP p + (List.range b).countP (fun i => p (a + i)) := by
  rw [List.range_add, List.countP_append, List.countP_map]; rfl
theorem cntP_eq (ds : List Int) : cntP ds = (List.range ds.length).countP fun j => decide (0 < (ds.take (j + 1)).sum) := by
  unfold cntP hts
  rw [← List.countP_eq_length_filter, List.countP_map]; rfl
theorem rot_length {α : Type} (k : Nat) (l : List α) : (rot k l).length = l.length := by
  unfold rot
  rw [List.length_append, List.length_drop, List.length_take]
  omega
theorem cnt_rot (ds : List Int) (hs : ds.sum = 1) (k : Nat) (hk : k < ds.length) : cntP (rot k ds) = 1 + rankOf ds k := by
  rw [cntP_eq, rot_length]
  have e : ds.length = (ds.length - k - 1) + (k + 1) := by omega
  have e' : ds.length = k + (1 + (ds.length - k - 1)) := by omega
  have h1 : (List.range ds.length).countP (fun j => decide (0 < ((rot k ds).take (j + 1)).sum)) =
      (List.range (ds.length - k - 1)).countP (fun j => decide (preS ds k < preS ds (k + 1 + j))) + ((List.range k).countP (fun t => decide (preS ds k ≤ preS ds t)) + 1) := by
    conv => lhs; rw [e]
    rw [countP_range_add, countP_range_add (a := k) (b := 1)]
    congr 1
    · refine List.countP_congr fun j hj => ?_
      have hj := List.mem_range.mp hj
      rw [take_rot ds hs k (j + 1) hk (by omega), if_pos (by omega), show k + (j + 1) = k + 1 + j from by omega]
      simp only [decide_eq_true_eq]
      omega
    · congr 1
      · refine List.countP_congr fun t ht => ?_
        have ht := List.mem_range.mp ht
        rw [take_rot ds hs k _ hk (by omega), if_neg (by omega), show k + (ds.length - k - 1 + t + 1) - ds.length = t from by omega]
        simp only [decide_eq_true_eq]
        omega
      · have : decide (0 < ((rot k ds).take (ds.length - k - 1 + (k + 0) + 1)).sum) = true := by
          rw [take_rot ds hs k _ hk (by omega), if_neg (by omega), show k + (ds.length - k - 1 + (k + 0) + 1) - ds.length = k from by omega]
          simp only [decide_eq_true_eq]
          omega
        show List.countP _ [0] = 1
        rw [List.countP_cons, this]
        rfl
  have h2 : rankOf ds k = (List.range k).countP (fun t => decide (preS ds k ≤ preS ds t)) + (List.range (ds.length - k - 1)).countP (fun j => decide (preS ds k < preS ds (k + 1 + j))) := by
    unfold rankOf
    conv => lhs; rw [e']
    rw [countP_range_add, countP_range_add (a := 1)]
    have e3 : List.countP (fun i => beats ds (k + i) k) (List.range 1) = 0 := by
      show List.countP _ [0] = 0
      rw [List.countP_cons]
      have : beats ds (k + 0) k = false := by
        unfold beats
        simp
      rw [this]
      rfl
    rw [e3, Nat.zero_add]
    congr 1
    · refine List.countP_congr fun t ht => ?_
      have ht := List.mem_range.mp ht
      unfold beats
      simp only [decide_eq_true_eq]
      omega
    · refine List.countP_congr fun j hj => ?_
      unfold beats
      simp only [decide_eq_true_eq]
      rw [show k + (1 + j) = k + 1 + j from by omega]
      omega
  rw [h1, h2]
  omega
theorem countP_lt {α : Type} (l : List α) (p q : α → Bool) (h : ∀ x ∈ l, p x = true → q x = true) (x : α) (hx : x ∈ l) (hp : p x = false) (hq : q x = true) : l.countP p + 1 ≤ l.countP q := by
  induction l with
  | nil => cases hx
  | cons y r ih =>
    rw [List.countP_cons, List.countP_cons]
    have hr : r.countP p ≤ r.countP q := List.countP_mono_left fun z hz => h z (List.mem_cons_of_mem _ hz)
    rcases List.mem_cons.mp hx with rfl | hx
    · rw [hp, hq]
      simp
      omega
    · have := ih (fun z hz => h z (List.mem_cons_of_mem _ hz)) hx
      have hy := h y List.mem_cons_self
      cases e : p y with
      | false => simp; omega
      | true => rw [hy e]; simp; omega
theorem beats_total (ds : List Int) (i k : Nat) (h : i ≠ k) : beats ds i k = true ∨ beats ds k i = true := by
  unfold beats
  simp only [decide_eq_true_eq]
  omega
theorem beats_irrefl (ds : List Int) (i : Nat) : beats ds i i = false := by
  unfold beats
  simp
theorem beats_trans (ds : List Int) (i j k : Nat) (h : beats ds i j = true) (h' : beats ds j k = true) : beats ds i k = true := by
  unfold beats at *
  simp only [decide_eq_true_eq] at *
  omega
theorem rank_lt (ds : List Int) (i k : Nat) (hi : i < ds.length) (h : beats ds i k = true) : rankOf ds i + 1 ≤ rankOf ds k :=
  countP_lt _ _ _ (fun x _ hx => beats_trans ds x i k hx h) i (List.mem_range.mpr hi) (beats_irrefl ds i) h
theorem rank_inj (ds : List Int) (i k : Nat) (hi : i < ds.length) (hk : k < ds.length) (h : rankOf ds i = rankOf ds k) : i = k := by
  rcases Nat.decEq i k with ne | e
  · rcases beats_total ds i k ne with b | b
    · have := rank_lt ds i k hi b; omega
    · have := rank_lt ds k i hk b; omega
  · exact e
theorem rank_bound (ds : List Int) (k : Nat) (hk : k < ds.length) : rankOf ds k < ds.length := by
  have := countP_lt (List.range ds.length) (fun i => beats ds i k) (fun _ => true) (fun _ _ _ => rfl) k (List.mem_range.mpr hk) (beats_irrefl ds k) rfl
  have e : (List.range ds.length).countP (fun _ => true) = ds.length := by simp
  rw [e] at this
  exact this
noncomputable def sqz (v x : Nat) : Nat := if v < x then x - 1 else x
theorem sqz_lt {v x n : Nat} (hv : v < n + 1) (hx : x < n + 1) (h : x ≠ v) : sqz v x < n := by
  unfold sqz
  split <;> omega
theorem sqz_inj {v x y : Nat} (hx : x ≠ v) (hy : y ≠ v) (h : sqz v x = sqz v y) : x = y := by
  unfold sqz at h
  split at h <;> split at h <;> omega
theorem noInj : ∀ (n : Nat) (f : Nat → Nat), (∀ i, i < n + 1 → f i < n) → ∃ i j, i < j ∧ j < n + 1 ∧ f i = f j
  | 0, f, h => absurd (h 0 (by omega)) (by omega)
  | n + 1, f, h => by
    by_cases q : ∃ i, i < n + 1 ∧ f i = f (n + 1)
    · obtain ⟨i, hi, e⟩ := q
      exact ⟨i, n + 1, by omega, by omega, e⟩
    · have q' : ∀ i, i < n + 1 → f i ≠ f (n + 1) := fun i hi e => q ⟨i, hi, e⟩
      obtain ⟨i, j, hij, hj, e⟩ := noInj n (fun i => sqz (f (n + 1)) (f i)) (fun i hi => by
        have h1 := h i (by omega)
        have h2 := h (n + 1) (by omega)
        have h3 := q' i hi
        exact sqz_lt h2 h1 h3)
      exact ⟨i, j, hij, by omega, sqz_inj (q' i (by omega)) (q' j (by omega)) e⟩
theorem surj_of_inj (n : Nat) (f : Nat → Nat) (hb : ∀ i, i < n → f i < n) (hi : ∀ i j, i < n → j < n → f i = f j → i = j) (v : Nat) (hv : v < n) : ∃ i, i < n ∧ f i = v := by
  refine Classical.byContradiction fun q => ?_
  have q' : ∀ i, i < n → f i ≠ v := fun i hi e => q ⟨i, hi, e⟩
  obtain ⟨n, rfl⟩ : ∃ m, n = m + 1 := ⟨n - 1, by omega⟩
  obtain ⟨i, j, hij, hj, e⟩ := noInj n (fun i => sqz v (f i)) (fun i hi => sqz_lt hv (hb i (by omega)) (q' i hi))
  have := hi i j (by omega) hj (sqz_inj (q' i (by omega)) (q' j (by omega)) e)
  omega
theorem cnt_inj (ds : List Int) (hs : ds.sum = 1) (i k : Nat) (hi : i < ds.length) (hk : k < ds.length) (h : cntP (rot i ds) = cntP (rot k ds)) : i = k := by
  rw [cnt_rot ds hs i hi, cnt_rot ds hs k hk] at h
  exact rank_inj ds i k hi hk (by omega)
theorem cnt_bound (ds : List Int) (hs : ds.sum = 1) (k : Nat) (hk : k < ds.length) : 1 ≤ cntP (rot k ds) ∧ cntP (rot k ds) ≤ ds.length := by
  rw [cnt_rot ds hs k hk]
  have := rank_bound ds k hk
  omega
theorem cnt_surj (ds : List Int) (hs : ds.sum = 1) (v : Nat) (h1 : 1 ≤ v) (h2 : v ≤ ds.length) : ∃ k, k < ds.length ∧ cntP (rot k ds) = v := by
  obtain ⟨k, hk, e⟩ := surj_of_inj ds.length (rankOf ds) (rank_bound ds) (fun i j hi hj => rank_inj ds i j hi hj) (v - 1) (by omega)
  exact ⟨k, hk, by rw [cnt_rot ds hs k hk, e]; omega⟩

-- part P1
set_option maxHeartbeats 8000000
/-- the upper name -/
noncomputable def nmU (i : Nat) : Str := Txt.item (Str.ofString "ABCDEFGH") (i : Int)
theorem swap_nmL : ∀ i, i < 8 → Txt.swapcase (nmL i) = nmU i := by decide +kernel
theorem lower_nmL : ∀ i, i < 8 → Txt.lower (nmL i) = nmL i := by decide +kernel
theorem lower_nmU : ∀ i, i < 8 → Txt.lower (nmU i) = nmL i := by decide +kernel
theorem inj_nmL : ∀ i, i < 8 → ∀ j, j < 8 → nmL i = nmL j → i = j := by decide +kernel
theorem okN_nmU : ∀ i, i < 8 → okN (nmU i) := by
  intro i hi
  have : ∀ i, i < 8 → (∀ c ∈ (nmU i).cps.toList, 31 < c ∧ c < 127) ∧ (nmU i).cps.size ≤ 1000 := by decide +kernel
  exact this i hi
noncomputable def tnL (c : Nat) : Str := Str.ofString "turn-" ++ Str.ofString (toString (c : Int))
noncomputable def tnU (c : Nat) : Str := Str.ofString "TURN-" ++ Str.ofString (toString (c : Int))
theorem lower_tnL : ∀ i, i < 9 → Txt.lower (tnL i) = tnL i := by decide +kernel
theorem lower_tnU : ∀ i, i < 9 → Txt.lower (tnU i) = tnL i := by decide +kernel
theorem inj_tnL : ∀ i, i < 9 → ∀ j, j < 9 → tnL i = tnL j → i = j := by decide +kernel
theorem okN_tnL : ∀ i, i < 9 → okN (tnL i) := by
  intro i hi
  have : ∀ i, i < 9 → (∀ c ∈ (tnL i).cps.toList, 31 < c ∧ c < 127) ∧ (tnL i).cps.size ≤ 1000 := by decide +kernel
  exact this i hi

-- part Ta0
set_option maxHeartbeats 8000000
open LCg (NsObj lst)
noncomputable def bodyAt (i j : Nat) : Stmt := match stAt i with
  | .For _ _ b _ _ => b.getD j (.Pass default)
  | _ => .Pass default
theorem b10_0 {w : World} {h₀ : Heap} {L fa : Addr} {cd : Value} {m mg mb : Str → Option Value} {mean : ExcName → Option Value} {news : List (Addr × Obj)} {s : Shared} {Q : Flow → Shared → Prop} {E : Value → Shared → Prop}
    {x dx l : Addr} {hh : Int} {th : Tok} {nd nl : Nat} {vs : List Value} {xs : List (Str × Str)} {p : Str × Str}
    (C : Lx w h₀ L m mg mb mean news s.heap) (hm : m "ring" = some (.ref x)) (hr : (x, instObj 171 dx) ∈ news) (hdx : (dx, dictOf [⟨hh, .str "_headers" th, .ref l⟩] nd) ∈ news) (hl : (l, lstO vs nl) ∈ news) (hp : PairsAt news vs (p :: xs)) (hsz : vs.length ≤ 1000)
    (hQ : ∀ h' tk' D k1 k2, (∀ q ∈ news, @LT.lt Nat _ q.1 D) → Fr h₀ L h' (fun y => if y = "lead" then some (.str p.2 k2) else if y = "name" then some (.str p.1 k1) else m y) → News h₀ L h' ((D, lstO vs 0) :: news) → Q .next { s with heap := h', toks := tk' }) :
    wpAny (model PySem.Challenge.rw_pg0317_01.row.prog w) (callerA.deeper (envOfC (Str.ofString "law") lawScope L fa cd)) (exec (bodyAt 10 0) (envOfC (Str.ofString "law") lawScope L fa cd)) Q E s := by
  obtain ⟨B, F, X, N, T⟩ := C
  revert X
  k_fill
  intro X
  dsimp only [bodyAt, stAt, lawBody, lawScope, PySem.Challenge.pw_pg0317_01, List.getLast?, List.getLast, List.getD, List.getElem?_cons_succ, List.getElem?_cons_zero, Option.getD_some]
  k_steps
  (rename News _ _ _ _ => N9)
  obtain ⟨t, k1, k2, nt, e0, hm0⟩ := hp.2 0 p rfl
  refine item_list ⟨_, (N9 _ List.mem_cons_self).1, rfl, _, rfl⟩ (by decide) (by decide) (x := .ref t) (by simpa using e0) ?_ (by with_unfolding_all rfl) (by intro q9; with_unfolding_all rfl)
  k_steps
  exact hQ _ _ _ _ _ (by assumption) (by assumption) (by assumption)

-- part PR
set_option maxHeartbeats 8000000
theorem in4' {a b c d : Addr × Obj} {T : List (Addr × Obj)} {p : Addr × Obj} (h : p ∈ T) : p ∈ a :: b :: c :: d :: T := List.mem_cons_of_mem _ (List.mem_cons_of_mem _ (List.mem_cons_of_mem _ (List.mem_cons_of_mem _ h)))
theorem in4 {a b c d : Addr × Obj} {T news : List (Addr × Obj)} {p : Addr × Obj} (h : p ∈ news) : p ∈ a :: b :: c :: d :: (T ++ news) := in4' (List.mem_append_right _ h)
theorem in3 {b c d : Addr × Obj} {T news : List (Addr × Obj)} {p : Addr × Obj} (h : p ∈ news) : p ∈ b :: c :: d :: (T ++ news) := List.mem_cons_of_mem _ (List.mem_cons_of_mem _ (List.mem_cons_of_mem _ (List.mem_append_right _ h)))
theorem in3' {b c d : Addr × Obj} {T : List (Addr × Obj)} {p : Addr × Obj} (h : p ∈ T) : p ∈ b :: c :: d :: T := List.mem_cons_of_mem _ (List.mem_cons_of_mem _ (List.mem_cons_of_mem _ h))
noncomputable def pL (ys : List Str) (j : Nat) : Str × Str := (nmL j, ys.getD j default)
noncomputable def pU (ys : List Str) (j : Nat) : Str × Str := (nmU j, ys.getD j default)
/-- the ring's pairs behind k turns -/
noncomputable def ringAt (ys : List Str) (k : Nat) : List (Str × Str) := ((List.range ys.length).drop k).map (pL ys) ++ (List.range k).map (pU ys)
noncomputable def dsOf (ys : List Str) : List Int := ys.map fun y => blanksOf y - tabsOf y
noncomputable def cK (ys : List Str) (k : Nat) : Nat := cntP (rot k (dsOf ys))
noncomputable def bookAt (ys : List Str) (k : Nat) : List (Str × Str) := (List.range k).map fun j => (tnL (cK ys j), nmL j)
noncomputable def countsL (ys : List Str) (k : Nat) : List Int := (List.range k).map fun j => (cK ys j : Int)
theorem dsOf_range (ys : List Str) : (List.range ys.length).map (fun j => netOf (pL ys j)) = dsOf ys := by
  apply List.ext_getElem
  · simp [dsOf]
  · intro i h1 h2
    simp [dsOf, netOf, pL] at h2 ⊢
    rw [List.getElem?_eq_getElem h2]
    rfl
theorem ring_net (ys : List Str) (k : Nat) (hk : k ≤ ys.length) : (ringAt ys k).map netOf = rot k (dsOf ys) := by
  unfold ringAt rot
  rw [← dsOf_range, List.map_append, List.map_map, List.map_map, ← List.map_drop, ← List.map_take, List.take_range, Nat.min_eq_left hk]
  rfl
theorem ring_head (ys : List Str) (k : Nat) (hk : k < ys.length) : ringAt ys k = pL ys k :: (((List.range ys.length).drop (k + 1)).map (pL ys) ++ (List.range k).map (pU ys)) := by
  unfold ringAt
  rw [List.drop_eq_getElem_cons (by rw [List.length_range]; exact hk), List.map_cons, List.getElem_range]
  rfl
theorem ring_len (ys : List Str) (k : Nat) (hk : k ≤ ys.length) : (ringAt ys k).length = ys.length := by
  unfold ringAt
  rw [List.length_append, List.length_map, List.length_map, List.length_drop, List.length_range, List.length_range]
  omega
theorem ring_del (ys : List Str) (k : Nat) (hk : k < ys.length) (h8 : ys.length ≤ 8) : delH (ringAt ys k) (Txt.lower (Txt.swapcase (nmL k))) ++ [pU ys k] = ringAt ys (k + 1) := by
  rw [ring_head ys k hk]
  unfold delH
  rw [swap_nmL k (by omega), lower_nmU k (by omega), List.filter_cons]
  have e1 : (Txt.lower (pL ys k).1 != nmL k) = false := by
    show (Txt.lower (nmL k) != nmL k) = false
    rw [lower_nmL k (by omega)]
    simp
  rw [e1]
  simp only [Bool.false_eq_true, if_false]
  rw [List.filter_append, List.filter_eq_self.mpr, List.filter_eq_self.mpr]
  · unfold ringAt
    rw [List.range_succ, List.map_append, List.append_assoc]
    rfl
  · intro p hp
    obtain ⟨j, hj, rfl⟩ := List.mem_map.mp hp
    have hj := List.mem_range.mp hj
    show (Txt.lower (nmU j) != nmL k) = true
    rw [lower_nmU j (by omega)]
    have : nmL j ≠ nmL k := fun e => by have := inj_nmL j (by omega) k (by omega) e; omega
    simpa using this
  · intro p hp
    obtain ⟨j, hj, rfl⟩ := List.mem_map.mp hp
    have hj2 := List.mem_range.mp (List.mem_of_mem_drop hj)
    obtain ⟨i, hi, e⟩ := List.mem_iff_getElem.mp hj
    rw [List.getElem_drop, List.getElem_range] at e
    show (Txt.lower (nmL j) != nmL k) = true
    rw [lower_nmL j (by omega)]
    have : nmL j ≠ nmL k := fun e => by have := inj_nmL j (by omega) k (by omega) e; omega
    simpa using this
theorem ring_mem (ys : List Str) (k : Nat) (hk : k ≤ ys.length) (p : Str × Str) (hp : p ∈ ringAt ys k) : ∃ j, j < ys.length ∧ (p = pL ys j ∨ p = pU ys j) := by
  unfold ringAt at hp
  rcases List.mem_append.mp hp with hp | hp
  · obtain ⟨j, hj, rfl⟩ := List.mem_map.mp hp
    exact ⟨j, List.mem_range.mp (List.mem_of_mem_drop hj), .inl rfl⟩
  · obtain ⟨j, hj, rfl⟩ := List.mem_map.mp hp
    exact ⟨j, Nat.lt_of_lt_of_le (List.mem_range.mp hj) hk, .inr rfl⟩
theorem ring_okN (ys : List Str) (k : Nat) (hk : k ≤ ys.length) (h8 : ys.length ≤ 8) : ∀ p ∈ ringAt ys k, okN p.1 := by
  intro p hp
  obtain ⟨j, hj, rfl | rfl⟩ := ring_mem ys k hk p hp
  · exact okN_nmL j (by omega)
  · exact okN_nmU j (by omega)
theorem getD_mem (ys : List Str) (j : Nat) (hj : j < ys.length) : ys.getD j default ∈ ys := by
  rw [List.getD_eq_getElem?_getD, List.getElem?_eq_getElem hj]
  exact List.getElem_mem hj
theorem ring_snd (ys : List Str) (k : Nat) (hk : k ≤ ys.length) (P : Str → Prop) (h : ∀ y ∈ ys, P y) : ∀ p ∈ ringAt ys k, P p.2 := by
  intro p hp
  obtain ⟨j, hj, rfl | rfl⟩ := ring_mem ys k hk p hp
  · exact h _ (getD_mem ys j hj)
  · exact h _ (getD_mem ys j hj)
theorem ds_len (ys : List Str) : (dsOf ys).length = ys.length := by simp [dsOf]
theorem cK_bound (ys : List Str) (hs : (dsOf ys).sum = 1) (k : Nat) (hk : k < ys.length) : 1 ≤ cK ys k ∧ cK ys k ≤ ys.length := by
  have := cnt_bound (dsOf ys) hs k (by rw [ds_len]; exact hk)
  rw [ds_len] at this
  exact this
theorem cK_inj (ys : List Str) (hs : (dsOf ys).sum = 1) (i k : Nat) (hi : i < ys.length) (hk : k < ys.length) (h : cK ys i = cK ys k) : i = k :=
  cnt_inj (dsOf ys) hs i k (by rw [ds_len]; exact hi) (by rw [ds_len]; exact hk) h
theorem book_no (ys : List Str) (hs : (dsOf ys).sum = 1) (h8 : ys.length ≤ 8) (k : Nat) (hk : k < ys.length) : getH (bookAt ys k) (Txt.lower (tnL (cK ys k))) = none := by
  have hb := cK_bound ys hs k hk
  rw [lower_tnL _ (by omega)]
  unfold getH
  rw [List.find?_eq_none.mpr]
  · rfl
  · intro p hp
    obtain ⟨j, hj, rfl⟩ := List.mem_map.mp hp
    have hj := List.mem_range.mp hj
    have hbj := cK_bound ys hs j (by omega)
    show ¬ (Txt.lower (tnL (cK ys j)) == tnL (cK ys k)) = true
    rw [lower_tnL _ (by omega)]
    have : tnL (cK ys j) ≠ tnL (cK ys k) := fun e => by
      have := inj_tnL _ (by omega) _ (by omega) e
      have := cK_inj ys hs j k (by omega) hk this
      omega
    simpa using this
theorem book_okN (ys : List Str) (hs : (dsOf ys).sum = 1) (h8 : ys.length ≤ 8) (k : Nat) (hk : k ≤ ys.length) : ∀ p ∈ bookAt ys k, okN p.1 := by
  intro p hp
  obtain ⟨j, hj, rfl⟩ := List.mem_map.mp hp
  have hj := List.mem_range.mp hj
  have hbj := cK_bound ys hs j (by omega)
  exact okN_tnL _ (by omega)
theorem book_succ (ys : List Str) (k : Nat) : bookAt ys (k + 1) = bookAt ys k ++ [(tnL (cK ys k), nmL k)] := by
  unfold bookAt
  rw [List.range_succ, List.map_append]; rfl
theorem counts_succ (ys : List Str) (k : Nat) : countsL ys (k + 1) = countsL ys k ++ [(cK ys k : Int)] := by
  unfold countsL
  rw [List.range_succ, List.map_append]; rfl
theorem ring_netOf (ys : List Str) (k : Nat) (hk : k ≤ ys.length) : cntP ((ringAt ys k).map netOf) = cK ys k := by
  rw [ring_net ys k hk]; rfl

-- part Ta1
set_option maxHeartbeats 8000000
open LCg (NsObj lst)
theorem b10_1 {w : World} {h₀ : Heap} {L fa : Addr} {cd : Value} {m mg mb : Str → Option Value} {mean : ExcName → Option Value} {news : List (Addr × Obj)} {s : Shared} {Q : Flow → Shared → Prop} {E : Value → Shared → Prop}
    {x dx l cnt : Addr} {hh : Int} {th : Tok} {nd nl : Nat} {vs cs : List Value} {nc : Nat} {xs : List (Str × Str)}
    (C : Lx w h₀ L m mg mb mean ((cnt, lstO cs nc) :: news) s.heap) (hm : m "ring" = some (.ref x)) (hmc : m "counts" = some (.ref cnt)) (hr : (x, instObj 171 dx) ∈ news) (hdx : (dx, dictOf [⟨hh, .str "_headers" th, .ref l⟩] nd) ∈ news) (hl : (l, lstO vs nl) ∈ news) (hp : PairsAt news vs xs) (hsz : vs.length ≤ 1000) (hcs : cs.length ≤ 1000) (hws : ∀ p ∈ xs, okW p.2) (hoff : ∀ p ∈ news, p.1 ≠ cnt)
    (hQ : ∀ h' tk' t n', Fr h₀ L h' m → News h₀ L h' ((cnt, lstO (cs ++ [.int (cntP (xs.map netOf) : Int) t]) n') :: news) → Q .next { s with heap := h', toks := tk' }) :
    wpAny (model PySem.Challenge.rw_pg0317_01.row.prog w) (callerA.deeper (envOfC (Str.ofString "law") lawScope L fa cd)) (exec (bodyAt 10 1) (envOfC (Str.ofString "law") lawScope L fa cd)) Q E s := by
  obtain ⟨B, F, X, N, T⟩ := C
  revert X
  k_fill
  intro X
  dsimp only [bodyAt, stAt, lawBody, lawScope, PySem.Challenge.pw_pg0317_01, List.getLast?, List.getLast, List.getD, List.getElem?_cons_succ, List.getElem?_cons_zero, Option.getD_some]
  have hr' := List.mem_cons_of_mem (cnt, lstO cs nc) hr
  have hdx' := List.mem_cons_of_mem (cnt, lstO cs nc) hdx
  have hl' := List.mem_cons_of_mem (cnt, lstO cs nc) hl
  k_steps
  (rename Fr _ _ _ _ => F1)
  (rename News _ _ _ _ => N1)
  (rename IntsAre _ _ => hI)
  (rename (List.length _ = List.length xs) => lnH)
  (rename List Value => hs)
  refine compL (items := hs.toArray) (ol := lstO hs _) rfl rfl rfl (by rw [List.size_toArray, sizeLine_eq, lnH, ← hp.1]; omega) (.inr fun _ _ => rfl) (by decide) rfl F1 N1
    (fun i ys news₁ => news₁ = (_, lstO hs _) :: (cnt, lstO cs nc) :: news ∧ ys.length ≤ i ∧ ys.length = (((hts (xs.map netOf)).take i).filter (fun z => decide (0 < z))).length)
    (fun i ys news₁ hJ => .inr (hJ.1 ▸ List.mem_cons_self)) ⟨rfl, Nat.le_refl _, rfl⟩ ?turn ?done
  case turn =>
    rintro i v ys news₁ h₁ tk₁ I oI C oC D m₂ E' hv hyi ⟨rfl, hyi2, hyl⟩ off ne hCL hDL hC0 F₁ N₁ hn
    have hv' : hs[i]? = some v := by simpa using hv
    have hil : i < hs.length := (List.getElem?_eq_some_iff.mp hv').1
    have hil2 : i < (hts (xs.map netOf)).length := by rw [← IntsAre.length hI]; exact hil
    obtain ⟨t9, e9⟩ := IntsAre.get hI i _ (List.getElem?_eq_getElem hil2)
    rw [hv'] at e9
    cases e9
    have hsx : (hts (xs.map netOf)).take (i + 1) = (hts (xs.map netOf)).take i ++ [(hts (xs.map netOf))[i]] := by rw [List.take_add_one, List.getElem?_eq_getElem hil2]; rfl
    rw [hsx]
    generalize hz9 : (hts (xs.map netOf))[i] = z9 at *
    refine asgC1 F₁ N₁ hn ne off rfl rfl fun h₂ tk₂ oC₂ F₂ N₂ hn₂ => ?_
    clear F₁ N₁ hn
    refine wpAny_tests_one ?_
    k_steps
    · refine ⟨_, _, _, _, _, rfl, by assumption, by assumption, off, by assumption, rfl, by rw [List.length_append, List.length_singleton]; omega, ?_⟩
      rw [List.filter_append, List.length_append, List.length_append, hyl]
      simp [(by assumption : 0 < z9)]
    · refine ⟨_, _, _, _, _, rfl, by assumption, by assumption, off, by assumption, rfl, Nat.le_succ_of_le hyi2, ?_⟩
      rw [List.filter_append, List.length_append, hyl]
      simp [(by assumption : ¬ 0 < z9)]
  case done =>
    rintro D C h₁ tk₁ m' ys news₁ ⟨rfl, hyi2, hyl⟩ F₁ N₁ off hn hC0 hD0 hCL hDL hCD
    refine comp_post F₁ N₁ off hn hC0 hCL hCD fun h₂ F₂ N₂ => ?_
    clear F₁ N₁ hn
    have hDc : @Ne Nat D cnt := Ne.symm (off _ (List.mem_cons_of_mem _ List.mem_cons_self)).1
    have hyl0 : ys.length ≤ 1000 := by rw [List.size_toArray, lnH, ← hp.1] at hyi2; omega
    rw [List.take_of_length_le (by rw [List.size_toArray, IntsAre.length hI]; exact Nat.le_refl _)] at hyl
    k_steps
    (rename News _ _ _ _ => N9)
    rw [List.push_toArray, hyl] at N9
    exact hQ _ _ _ _ (by assumption) (newsSub N9 fun q hq => List.mem_cons_of_mem _ (List.mem_cons_of_mem _ hq))

-- part Ta2
set_option maxHeartbeats 8000000
open LCg (NsObj lst)
local macro_rules | `(tactic| walk_at "call ref") => `(tactic| (k_here; (with_reducible show wpAny _ _ (call (Value.ref 161) _ _) _ _ _); (refine wpAny_call ?_); k_dflt (refine' setdefault ⟨?B, ?F, ?X, ?N, ?T, ?f, ?k⟩ ?d ?u ?h1 ?h2 ?h3 ?h4 ?h5 ?h6 ?h7 ?h8 ?h9 ?h10 ?_; (case B | F | X | N | T => k_asm); (case f | k => first | exact rfl | assumption); (case d | u => exact Nat.le_of_ble_eq_true rfl); (case h1 | h2 => k_mem); (case h3 | h4 => assumption); (case h5 => omega); (case h6 | h7 | h8 | h9 | h10 => assumption); k_whole); intro h' tk' t' k1' nt' n' l1 l2 F' N'; (have l3 := l1); (try k_lt l1); (try k_sweep); (try dsimp only)))
theorem b10_2 {w : World} {h₀ : Heap} {L fa : Addr} {cd : Value} {m mg mb : Str → Option Value} {mean : ExcName → Option Value} {news : List (Addr × Obj)} {s : Shared} {Q : Flow → Shared → Prop} {E : Value → Shared → Prop}
    {x dx l cnt : Addr} {hh : Int} {th : Tok} {nd nl : Nat} {vs cs : List Value} {nc : Nat} {xs : List (Str × Str)} {ns : List Int} {k : Int} {c : Nat} {uk un : Tok} {y : Str} {oc : Obj}
    (C : Lx w h₀ L m mg mb mean ((l, lstO vs nl) :: news) s.heap) (hmn : m "name" = some (.str y un)) (hmk : m "k" = some (.int k uk)) (hmc : m "counts" = some (.ref cnt)) (hcnt : (cnt, lstO cs nc) ∈ news) (hr : (x, instObj 171 dx) ∈ news) (hdx : (dx, dictOf [⟨hh, .str "_headers" th, .ref l⟩] nd) ∈ news) (hoc : (L + 1 + 1 + 1 + 1, oc) ∈ news) (hocd : oc.data = .cell (some (.ref x))) (hp : PairsAt news vs xs) (hsz : vs.length ≤ 1000) (hcs : cs.length ≤ 1000) (hI : IntsAre cs ns) (hk0 : 0 ≤ k) (hkl : k < ns.length) (hval : ns.getD k.toNat 0 = (c : Int)) (hnl : ns.length ≤ 1000) (hc8 : (c : Int) ≤ 8) (hx1 : okN (tnL c)) (hx2 : okN (Txt.lower (tnL c))) (hx3 : okV y) (hps : ∀ p ∈ xs, okN p.1) (hno : getH xs (Txt.lower (tnL c)) = none) (hoff : ∀ p ∈ news, p.1 ≠ l)
    (hQ : ∀ h' tk' t k1 nt n', (∀ p ∈ news, @LT.lt Nat _ p.1 t) → @Ne Nat t l → Fr h₀ L h' m → News h₀ L h' ((l, lstO (vs ++ [.ref t]) n') :: (t, tupO [.str (tnL c) k1, .str y un] nt) :: news) → Q .next { s with heap := h', toks := tk' }) :
    wpAny (model PySem.Challenge.rw_pg0317_01.row.prog w) (callerA.deeper (envOfC (Str.ofString "law") lawScope L fa cd)) (exec (bodyAt 10 2) (envOfC (Str.ofString "law") lawScope L fa cd)) Q E s := by
  obtain ⟨B, F, X, N, T⟩ := C
  revert X
  k_fill
  intro X
  dsimp only [bodyAt, stAt, lawBody, lawScope, PySem.Challenge.pw_pg0317_01, List.getLast?, List.getLast, List.getD, List.getElem?_cons_succ, List.getElem?_cons_zero, Option.getD_some]
  have e9 : tnL c = Str.ofString "turn-" ++ Str.ofString (toString (ns.getD k.toNat 0)) := by unfold tnL; rw [hval]
  rw [e9] at hx1 hx2 hno
  k_steps
  · (rename (_ != _) = true => q9)
    rw [bne_self_eq_false] at q9
    cases q9
  · rw [e9] at hQ
    exact hQ _ _ _ _ _ _ (by assumption) (by assumption) (by assumption) (by assumption)

-- part Ta3
set_option maxHeartbeats 8000000
open LCg (NsObj lst)
local macro_rules | `(tactic| walk_at "call ref") => `(tactic| (k_here; (with_reducible show wpAny _ _ (call (Value.ref 84) _ _) _ _ _); (refine wpAny_call ?_); k_dflt (refine' setitem ⟨?B, ?F, ?X, ?N, ?T, ?f, ?k⟩ ?d ?u ?h1 ?h2 ?h3 ?h4 ?h5 ?h6 ?h7 ?h8 ?h9 ?h10 ?_; (case B | F | X | N | T => k_asm); (case f | k => first | exact rfl | assumption); (case d | u => exact Nat.le_of_ble_eq_true rfl); (case h1 | h2 => k_mem); (case h3 | h4 | h5 => assumption); (case h6 => omega); (case h7 | h8 | h9 | h10 => assumption); k_whole); intro h' tk' vs' t' n' hp' hs' l1 l2 F' N'; (have l3 := l1); (try k_lt l1); (try k_sweep); (try dsimp only)))
local macro_rules | `(tactic| walk_at "call builtin:str.swapcase") => `(tactic| (k_here; (with_reducible show wpAny _ _ (call (Value.builtin "str.swapcase") [Value.str _ _]) _ _ _); (refine SCL.swapcase (okN_fit (by assumption)) ?_); intro _))
theorem b10_3 {w : World} {h₀ : Heap} {L fa : Addr} {cd : Value} {m mg mb : Str → Option Value} {mean : ExcName → Option Value} {news : List (Addr × Obj)} {s : Shared} {Q : Flow → Shared → Prop} {E : Value → Shared → Prop}
    {x dx l : Addr} {hh : Int} {th : Tok} {nd nl : Nat} {vs : List Value} {xs : List (Str × Str)} {uk un : Tok} {y z : Str} {TT : List (Addr × Obj)}
    (C : Lx w h₀ L m mg mb mean ((l, lstO vs nl) :: news) s.heap) (hmr : m "ring" = some (.ref x)) (hmn : m "name" = some (.str y un)) (hmk : m "lead" = some (.str z uk)) (hr : (x, instObj 171 dx) ∈ news) (hdx : (dx, dictOf [⟨hh, .str "_headers" th, .ref l⟩] nd) ∈ news) (hp : PairsAt TT vs xs) (hTT : ∀ p ∈ TT, p ∈ news) (hsz : vs.length ≤ 1000) (hoff : ∀ p ∈ news, p.1 ≠ l) (hy : okN y) (hx1 : okN (Txt.swapcase y)) (hx2 : okN (Txt.lower (Txt.swapcase y))) (hx3 : okV z) (hps : ∀ p ∈ xs, okN p.1)
    (hQ : ∀ h' tk' vs' t k1 k2 n' nt, PairsAt TT vs' (delH xs (Txt.lower (Txt.swapcase y))) → vs'.length ≤ 1000 → (∀ p ∈ news, @LT.lt Nat _ p.1 t) → @Ne Nat t l → Fr h₀ L h' m → News h₀ L h' ((l, lstO (vs' ++ [.ref t]) n') :: (t, tupO [.str (Txt.swapcase y) k1, .str z k2] nt) :: news) → Q .next { s with heap := h', toks := tk' }) :
    wpAny (model PySem.Challenge.rw_pg0317_01.row.prog w) (callerA.deeper (envOfC (Str.ofString "law") lawScope L fa cd)) (exec (bodyAt 10 3) (envOfC (Str.ofString "law") lawScope L fa cd)) Q E s := by
  obtain ⟨B, F, X, N, T⟩ := C
  revert X
  k_fill
  intro X
  dsimp only [bodyAt, stAt, lawBody, lawScope, PySem.Challenge.pw_pg0317_01, List.getLast?, List.getLast, List.getD, List.getElem?_cons_succ, List.getElem?_cons_zero, Option.getD_some]
  k_steps
  exact hQ _ _ _ _ _ _ _ _ (by assumption) (by assumption) (by assumption) (by assumption) (by assumption) (by assumption)

-- part T10
set_option maxHeartbeats 8000000
open LCg (NsObj lst)
theorem st10_eq : ∃ p1 p2 p3 p4 p5 p6, stAt 10 = .For (.Name "k" p1) (.Call (.Name "range" p2) [.Name "many" p3] [] p4) [bodyAt 10 0, bodyAt 10 1, bodyAt 10 2, bodyAt 10 3] [] p6 ∧ p5 = p6 := ⟨_, _, _, _, _, _, rfl, rfl⟩
theorem updo_idem (m : Str → Option Value) (x : Str) (u v : Option Value) : updo (updo m x u) x v = updo m x v := by
  funext y; simp only [updo]; split <;> rfl
theorem updo_comm (m : Str → Option Value) {x z : Str} (h : x ≠ z) (u v : Option Value) : updo (updo m x u) z v = updo (updo m z v) x u := by
  funext y; simp only [updo]; split <;> split <;> simp_all
theorem mk_kn (m : Str → Option Value) (u1 u2 u3 : Option Value) (v : Value) : upd (updo (updo (updo m "k" u1) "name" u2) "lead" u3) "k" v = updo (updo (updo m "k" (some v)) "name" u2) "lead" u3 := by
  have e1 : ¬ (("lead" : Str) = "k") := by decide
  have e2 : ¬ (("name" : Str) = "k") := by decide
  funext y
  simp only [upd, updo]
  (repeat' split) <;> simp_all
theorem mk_nl (m : Str → Option Value) (u1 u2 u3 : Option Value) (v w : Value) : (fun y => if y = ("lead" : Str) then some w else if y = ("name" : Str) then some v else updo (updo (updo m "k" u1) "name" u2) "lead" u3 y) = updo (updo (updo m "k" u1) "name" (some v)) "lead" (some w) := by
  have e1 : ¬ (("lead" : Str) = "k") := by decide
  have e2 : ¬ (("name" : Str) = "k") := by decide
  have e3 : ¬ (("lead" : Str) = "name") := by decide
  funext y
  simp only [updo]
  (repeat' split) <;> simp_all
theorem mk_get (m : Str → Option Value) (u1 u2 u3 : Option Value) {z : Str} (h1 : z ≠ ("k" : Str)) (h2 : z ≠ ("name" : Str)) (h3 : z ≠ ("lead" : Str)) : updo (updo (updo m "k" u1) "name" u2) "lead" u3 z = m z := by
  simp only [updo]
  rw [if_neg h3, if_neg h2, if_neg h1]
theorem okV_of {x : Str} (h : okN x) : okV x := ⟨fun c hc => .inr (h.1 c hc), h.2⟩
theorem st10 {w : World} {h₀ : Heap} {L fa : Addr} {cd : Value} {m mg mb : Str → Option Value} {mean : ExcName → Option Value} {news : List (Addr × Obj)} {s : Shared} {Q : Flow → Shared → Prop} {E : Value → Shared → Prop}
    {x dx l : Addr} {hh : Int} {th : Tok} {nd nl : Nat} {bx bdx bl : Addr} {bhh : Int} {bth : Tok} {bnd : Nat} {cnt : Addr} {n : Int} {u : Tok} {vs : List Value} {ys : List Str} {oc : Obj}
    (C : Lx w h₀ L m mg mb mean ((l, lstO vs nl) :: (bl, lstO [] 0) :: (cnt, lstO [] 0) :: news) s.heap) (hocm : (L + 1 + 1 + 1 + 1, oc) ∈ news) (hoc : oc.data = .cell (some (.ref bx))) (hr : (x, instObj 171 dx) ∈ news) (hdx : (dx, dictOf [⟨hh, .str "_headers" th, .ref l⟩] nd) ∈ news) (hbr : (bx, instObj 171 bdx) ∈ news) (hbdx : (bdx, dictOf [⟨bhh, .str "_headers" bth, .ref bl⟩] bnd) ∈ news)
    (hm : m "ring" = some (.ref x)) (hm2 : m "many" = some (.int n u)) (hm3 : m "counts" = some (.ref cnt)) (hn : n = (ys.length : Int)) (h8 : ys.length ≤ 8) (hs : (dsOf ys).sum = 1) (hyv : ∀ y ∈ ys, okV y) (hyw : ∀ y ∈ ys, okW y) (hp : PairsAt news vs (ringAt ys 0))
    (hoff : ∀ p ∈ news, @Ne Nat p.1 l ∧ @Ne Nat p.1 bl ∧ @Ne Nat p.1 cnt) (hne : @Ne Nat l bl ∧ @Ne Nat l cnt ∧ @Ne Nat bl cnt)
    (hQ : ∀ h' tk' vs' bs cs nl' nb nc T u1 u2 u3, PairsAt (T ++ news) vs' (ringAt ys ys.length) → PairsAt (T ++ news) bs (bookAt ys ys.length) → IntsAre cs (countsL ys ys.length) → (∀ p ∈ T, ∀ q ∈ news, @LT.lt Nat _ q.1 p.1) →
      Fr h₀ L h' (updo (updo (updo m "k" u1) "name" u2) "lead" u3) → News h₀ L h' ((l, lstO vs' nl') :: (bl, lstO bs nb) :: (cnt, lstO cs nc) :: (T ++ news)) → Q .next { s with heap := h', toks := tk' }) :
    wpAny (model PySem.Challenge.rw_pg0317_01.row.prog w) (callerA.deeper (envOfC (Str.ofString "law") lawScope L fa cd)) (exec (stAt 10) (envOfC (Str.ofString "law") lawScope L fa cd)) Q E s := by
  obtain ⟨p1, p2, p3, p4, p5, p6, e10, _⟩ := st10_eq
  rw [e10]
  obtain ⟨B, F, X, N, T⟩ := C
  revert X
  k_fill
  intro X
  k_steps
  (rename IsRange _ _ _ _ _ _ _ _ => hr9)
  refine loopR rfl hr9 (by decide) (by decide) (by omega) (by omega) (fun _ _ => rfl) (by assumption) (by assumption)
    (fun i m₁ news₁ => ∃ vs bs cs nl nb nc T u1 u2 u3, news₁ = (l, lstO vs nl) :: (bl, lstO bs nb) :: (cnt, lstO cs nc) :: (T ++ news) ∧ PairsAt (T ++ news) vs (ringAt ys i) ∧ PairsAt (T ++ news) bs (bookAt ys i) ∧ IntsAre cs (countsL ys i) ∧
      (∀ p ∈ T, @LT.lt Nat _ l p.1 ∧ @Ne Nat p.1 bl ∧ @LT.lt Nat _ cnt p.1 ∧ ∀ q ∈ news, @LT.lt Nat _ q.1 p.1) ∧ m₁ = updo (updo (updo m "k" u1) "name" u2) "lead" u3)
    ⟨vs, [], [], _, _, _, [], m "k", m "name", m "lead", rfl, hp, ⟨rfl, fun i x hx => by simp [bookAt] at hx⟩, .nil, (fun p hp => nomatch hp), by rw [show updo m "k" (m "k") = m from updo_self _ _, show updo m "name" (m "name") = m from updo_self _ _, updo_self]⟩ ?turn ?done
  case turn =>
    rintro i tv m₁ news₁ I h₁ tk₁ oI E' hi ⟨vs, bs, cs, nl, nb, nc, TT, u1, u2, u3, rfl, hpv, hpb, hpc, hTT, rfl⟩ off F₁ N₁
    have hi' : i < ys.length := by omega
    have hb9 := cK_bound ys hs i hi'
    rw [Int.zero_add]
    refine asg1 F₁.ns rfl rfl fun h₂ tk₂ hn₂ k₂ => ?_
    have F₂ := frL F₁ hn₂ k₂
    have N₂ := newsL N₁ k₂
    clear F₁ N₁ hn₂ k₂
    rw [mk_kn] at F₂
    have hlv : vs.length ≤ 1000 := by rw [hpv.1, ring_len ys i (Nat.le_of_lt hi')]; omega
    have hlb : bs.length ≤ 1000 := by rw [hpb.1]; simp [bookAt]; omega
    have hlc : cs.length ≤ 1000 := by rw [hpc.length]; simp [countsL]; omega
    have hIl : @Ne Nat I l := Ne.symm (off (l, _) List.mem_cons_self)
    have hIb : @Ne Nat I bl := Ne.symm (off (bl, _) (List.mem_cons_of_mem _ List.mem_cons_self))
    have hIc : @Ne Nat I cnt := Ne.symm (off (cnt, _) (List.mem_cons_of_mem _ (List.mem_cons_of_mem _ List.mem_cons_self)))
    refine wpAny_execs_cons ?_
    -- name, lead = ring.items()[0]
    have hpv0 := hpv
    rw [ring_head ys i hi'] at hpv0
    refine b10_0 ⟨B, F₂, X, N₂, T⟩ ((mk_get m _ _ _ (by decide) (by decide) (by decide)).trans hm) (in4 hr) (in4 hdx) (nl := nl) (List.mem_cons_of_mem _ List.mem_cons_self) (hpv0.mono fun p hp => in4' hp) hlv ?_
    intro h₃ tk₃ D k1 k2 hlt₃ F₃ N₃
    rw [mk_nl] at F₃
    clear F₂ N₂
    refine wpAny_execs_cons ?_
    -- counts.append(..)
    have N₄ : News h₀ L h₃ ((cnt, lstO cs nc) :: (I, oI) :: (l, lstO vs nl) :: (bl, lstO bs nb) :: (TT ++ news)) := newsSub N₃ fun p hp => List.mem_cons_of_mem _ (blk [] [_] [_, _, _] hp)
    clear N₃
    refine b10_1 ⟨B, F₃, X, N₄, T⟩ ((mk_get m _ _ _ (by decide) (by decide) (by decide)).trans hm) ((mk_get m _ _ _ (by decide) (by decide) (by decide)).trans hm3) (in3 hr) (in3 hdx) (List.mem_cons_of_mem _ List.mem_cons_self) (hpv.mono fun p hp => in3' hp) hlv hlc (ring_snd ys i (Nat.le_of_lt hi') okW hyw) ?_ ?_
    · exact all1 hIc (all1 hne.2.1 (all1 hne.2.2 (allA (fun p hp => Nat.ne_of_gt (hTT p hp).2.2.1) fun p hp => (hoff p hp).2.2)))
    intro h₅ tk₅ t₅ n₅ F₅ N₅
    rw [ring_netOf ys i (Nat.le_of_lt hi')] at N₅
    clear F₃ N₄
    have hpc' : IntsAre (cs ++ [.int (cK ys i : Int) t₅]) (countsL ys (i + 1)) := by
      rw [counts_succ]
      exact hpc.append (.cons _ _ .nil)
    have hlc' : (cs ++ [Value.int (cK ys i : Int) t₅]).length ≤ 1000 := by rw [hpc'.length]; simp [countsL]; omega
    generalize hcs' : cs ++ [Value.int (cK ys i : Int) t₅] = cs' at *
    refine wpAny_execs_cons ?_
    -- book.setdefault
    have N₆ : News h₀ L h₅ ((bl, lstO bs nb) :: (cnt, lstO cs' n₅) :: (I, oI) :: (l, lstO vs nl) :: (TT ++ news)) := nblk [] [_, _, _] [_] N₅
    clear N₅
    refine b10_2 (xs := bookAt ys i) (ns := countsL ys (i + 1)) (k := (i : Int)) (c := cK ys i) (y := nmL i) ⟨B, F₅, X, N₆, T⟩ rfl rfl ((mk_get m _ _ _ (by decide) (by decide) (by decide)).trans hm3) List.mem_cons_self (in3 hbr) (in3 hbdx) (in3 hocm) hoc (hpb.mono fun p hp => in3' hp) hlb hlc' hpc' (by omega) (by simp [countsL]; omega) ?_ (by simp [countsL]; omega) (by omega) (okN_tnL _ (by omega)) (by rw [lower_tnL _ (by omega)]; exact okN_tnL _ (by omega)) (okV_of (okN_nmL i (by omega))) (book_okN ys hs h8 i (Nat.le_of_lt hi')) (book_no ys hs h8 i hi') ?_ ?_
    · rw [Int.toNat_natCast, counts_succ, List.getD_eq_getElem?_getD, List.getElem?_append_right (by simp [countsL])]
      simp [countsL]
    · exact all1 (Ne.symm hne.2.2) (all1 hIb (all1 hne.1 (allA (fun p hp => (hTT p hp).2.1) fun p hp => (hoff p hp).2.1)))
    intro h₇ tk₇ t k3 nt n₇ hlt₇ hne₇ F₇ N₇
    clear F₅ N₆
    refine wpAny_execs_cons ?_
    -- ring[name.swapcase()] = lead
    have hcl : @LT.lt Nat _ cnt t := hlt₇ _ List.mem_cons_self
    have hIt : @LT.lt Nat _ I t := hlt₇ _ (List.mem_cons_of_mem _ List.mem_cons_self)
    have hlt : @LT.lt Nat _ l t := hlt₇ _ (List.mem_cons_of_mem _ (List.mem_cons_of_mem _ List.mem_cons_self))
    have hTt : ∀ p ∈ TT ++ news, @LT.lt Nat _ p.1 t := fun p hp => hlt₇ _ (List.mem_cons_of_mem _ (List.mem_cons_of_mem _ (List.mem_cons_of_mem _ hp)))
    have N₈ : News h₀ L h₇ ((l, lstO vs nl) :: (bl, lstO (bs ++ [.ref t]) n₇) :: (t, tupO [.str (tnL (cK ys i)) k3, .str (nmL i) k1] nt) :: (cnt, lstO cs' n₅) :: (I, oI) :: (TT ++ news)) := nblk [] [_, _, _, _] [_] N₇
    clear N₇
    refine b10_3 (TT := TT ++ news) (y := nmL i) (z := ys.getD i default) ⟨B, F₇, X, N₈, T⟩ ((mk_get m _ _ _ (by decide) (by decide) (by decide)).trans hm) rfl rfl (in4 hr) (in4 hdx) hpv (fun p hp => in4' hp) hlv ?_ (okN_nmL i (by omega)) (by rw [swap_nmL i (by omega)]; exact okN_nmU i (by omega)) (by rw [swap_nmL i (by omega), lower_nmU i (by omega)]; exact okN_nmL i (by omega)) (hyv _ (getD_mem ys i hi')) (ring_okN ys i (Nat.le_of_lt hi') h8) ?_
    · exact all1 (Ne.symm hne.1) (all1 (Nat.ne_of_gt hlt) (all1 (Ne.symm hne.2.1) (all1 hIl (allA (fun p hp => Nat.ne_of_gt (hTT p hp).1) fun p hp => (hoff p hp).1))))
    intro h₉ tk₉ vs' t2 k5 k6 n₉ nt2 hpv' hlv' hlt₉ hne₉ F₉ N₉
    clear F₇ N₈
    have ht2 : @LT.lt Nat _ t t2 := hlt₉ _ (List.mem_cons_of_mem _ List.mem_cons_self)
    have hb2 : @LT.lt Nat _ bl t2 := hlt₉ _ List.mem_cons_self
    show wpAny _ _ (execs [] _) _ _ _
    refine wpAny_pure ?_
    refine ⟨h₉, tk₉, _, (l, lstO (vs' ++ [.ref t2]) n₉) :: (bl, lstO (bs ++ [.ref t]) n₇) :: (cnt, lstO cs' n₅) :: (((t2, tupO [.str (Txt.swapcase (nmL i)) k5, .str (ys.getD i default) k6] nt2) :: (t, tupO [.str (tnL (cK ys i)) k3, .str (nmL i) k1] nt) :: TT) ++ news), rfl, F₉, newsSub N₉ ?_, ?_,
      vs' ++ [.ref t2], bs ++ [.ref t], cs', n₉, n₇, n₅, _, _, _, _, rfl, ?_, ?_, hpc', ?_, rfl⟩
    · exact fun p hp => blk [_, _, _] [_] [_] (blk [_] [_, _] [_] (blk [] [_] [_, _, _, _, _] hp))
    · exact all1 (Ne.symm hIl) (all1 (Ne.symm hIb) (all1 (Ne.symm hIc) (all1 (Nat.ne_of_gt (Nat.lt_trans hIt ht2)) (all1 (Nat.ne_of_gt hIt) fun p hp => off p (List.mem_cons_of_mem _ (List.mem_cons_of_mem _ (List.mem_cons_of_mem _ hp)))))))
    · rw [← ring_del ys i hi' h8]
      refine PairsAt.snoc (p := pU ys i) (hpv'.mono fun p hp => List.mem_cons_of_mem _ (List.mem_cons_of_mem _ hp)) (t := t2) (k1 := k5) (k2 := k6) (nt := nt2) ?_
      rw [swap_nmL i (by omega)]
      exact List.mem_cons_self
    · rw [book_succ]
      exact PairsAt.snoc (p := (tnL (cK ys i), nmL i)) (hpb.mono fun p hp => List.mem_cons_of_mem _ (List.mem_cons_of_mem _ hp)) (List.mem_cons_of_mem _ List.mem_cons_self)
    · intro p hp
      rcases List.mem_cons.mp hp with rfl | hp
      · exact ⟨Nat.lt_trans hlt ht2, Nat.ne_of_gt hb2, Nat.lt_trans hcl ht2, fun q hq => Nat.lt_trans (hTt q (List.mem_append_right _ hq)) ht2⟩
      rcases List.mem_cons.mp hp with rfl | hp
      · exact ⟨hlt, hne₇, hcl, fun q hq => hTt q (List.mem_append_right _ hq)⟩
      · exact hTT p hp
  case done =>
    rintro h₁ tk₁ m₁ news₁ ⟨vs, bs, cs, nl, nb, nc, TT, u1, u2, u3, rfl, hpv, hpb, hpc, hTT, rfl⟩ F₁ N₁
    rw [show (n - 0).toNat = ys.length from by omega] at hpv hpb hpc
    exact hQ _ _ _ _ _ _ _ _ _ _ _ _ hpv hpb hpc (fun p hp => (hTT p hp).2.2.2) F₁ N₁

-- part T11
set_option maxHeartbeats 8000000
open LCg (NsObj lst)
/-- the rows: a height and its place -/
noncomputable def RowsI (news : List (Addr × Obj)) (vs : List Value) (ps : List Int) : Prop :=
  vs.length = ps.length ∧ ∀ (i : Nat) x, ps[i]? = some x → ∃ t k1 k2 nt, vs[i]? = some (.ref t) ∧ (t, tupO [.int x k1, .int (i : Int) k2] nt) ∈ news
theorem RowsI.at {news : List (Addr × Obj)} {vs : List Value} {ps : List Int} (hp : RowsI news vs ps) {i : Nat} {v : Value} (hv : vs.toArray[i]? = some v) :
    ∃ x t k1 k2 nt, ps[i]? = some x ∧ v = .ref t ∧ (t, tupO [.int x k1, .int (i : Int) k2] nt) ∈ news := by
  have hv' : vs[i]? = some v := by simpa using hv
  have hlt : i < ps.length := by rw [← hp.1]; exact (List.getElem?_eq_some_iff.mp hv').1
  obtain ⟨t, k1, k2, nt, e, hm⟩ := hp.2 i ps[i] (by simp [hlt])
  rw [hv'] at e
  exact ⟨ps[i], t, k1, k2, nt, by simp [hlt], by cases e; rfl, hm⟩
noncomputable def cmpV (ps : List Int) (j o : Nat) : Int := if ps.getD j 0 < ps.getD o 0 then -1 else if ps.getD o 0 < ps.getD j 0 then 1 else if (j : Int) < (o : Int) then 1 else if (o : Int) < (j : Int) then -1 else 0
noncomputable def placeV (ps : List Int) (o : Nat) : Int := 1 + ((((List.range ps.length).map fun j => cmpV ps j o).count 1 : Nat) : Int)
theorem cmpV_eq {ps : List Int} {j o : Nat} {a b : Int} (ha : ps[j]? = some a) (hb : ps[o]? = some b) : cmpV ps j o = (if a < b then -1 else if b < a then 1 else if (j : Int) < (o : Int) then 1 else if (o : Int) < (j : Int) then -1 else 0) := by
  unfold cmpV
  rw [List.getD_eq_getElem?_getD, List.getD_eq_getElem?_getD, ha, hb]
  rfl
theorem asgCell {prog : Program} {w : World} {A : Around} {E : Value → Shared → Prop} {s : Shared} {env : Env} {h₀ : Heap} {L I C D c : Addr} {oI oC oD oc : Obj} {m : Str → Option Value} {news : List (Addr × Obj)} {scope : Scope} {cl : List (Str × Addr)} {x : Str} {p : Pos} {v : Value} {ov : Option Value} {Q : Unit → Shared → Prop}
    (F : Fr h₀ L s.heap m) (N : News h₀ L s.heap ((I, oI) :: (C, oC) :: (D, oD) :: (c, oc) :: news)) (hoc : oc.data = .cell ov) (ne : @Ne Nat I c ∧ @Ne Nat C c ∧ @Ne Nat D c) (off : ∀ p ∈ news, @Ne Nat p.1 c)
    (hk : (compEnvC scope cl C env).scope.kind = .function) (hx : (compEnvC scope cl C env).kindOf x = some .cell) (hc : cl.lookup x = some c)
    (h : ∀ h' oc', Fr h₀ L h' m → News h₀ L h' ((I, oI) :: (C, oC) :: (D, oD) :: (c, oc') :: news) → oc'.data = .cell (some v) → Q () { s with heap := h' }) :
    wpAny (model prog w) A (assign (.Name x p) (compEnvC scope cl C env) v) Q E s := by
  have hcN := N (c, oc) (List.mem_cons_of_mem _ (List.mem_cons_of_mem _ (List.mem_cons_of_mem _ List.mem_cons_self)))
  refine wpAny_assign_Name (wpAny_storeName_cell hk hx hc ⟨oc, hcN.1, hoc⟩ fun h' hc' hs' => ?_)
  obtain ⟨oc', hoc', hd'⟩ := hc'
  have k : ∀ b o, b ≠ c → s.heap.get? b = some o → h'.get? b = some o := fun b o hb e => hs'.extBut b o hb e
  refine h h' oc' (frK F k (Ne.symm hcN.2.1) hcN.2.2) ?_ hd'
  intro p hp
  rcases List.mem_cons.mp hp with rfl | hp
  · have := N _ List.mem_cons_self
    exact ⟨k _ _ ne.1 this.1, this.2⟩
  rcases List.mem_cons.mp hp with rfl | hp
  · have := N (C, oC) (List.mem_cons_of_mem _ List.mem_cons_self)
    exact ⟨k _ _ ne.2.1 this.1, this.2⟩
  rcases List.mem_cons.mp hp with rfl | hp
  · have := N (D, oD) (List.mem_cons_of_mem _ (List.mem_cons_of_mem _ List.mem_cons_self))
    exact ⟨k _ _ ne.2.2 this.1, this.2⟩
  rcases List.mem_cons.mp hp with rfl | hp
  · exact ⟨hoc', hcN.2⟩
  · have := N p (List.mem_cons_of_mem _ (List.mem_cons_of_mem _ (List.mem_cons_of_mem _ (List.mem_cons_of_mem _ hp))))
    exact ⟨k _ _ (off p hp) this.1, this.2⟩
local macro_rules | `(tactic| walk_at "call ref") => `(tactic| (k_here; (with_reducible show wpAny _ _ (call (Value.ref 196) _ _) _ _ _); (refine wpAny_call ?_); k_dflt (refine' compare ⟨?B, ?F, ?X, ?N, ?T, ?f, ?k⟩ ?d ?u ?h1 ?h2 ?h3 ?h4 ?h5 ?h6 ?h7 ?_; (case B | F | X | N | T => k_asm); (case f | k => first | exact rfl | assumption); (case d | u => exact Nat.le_of_ble_eq_true rfl); (case h1 | h2 | h3 | h4 | h5 | h6 | h7 => k_mem); k_whole); intro h' tk' t' F' N'; (try k_sweep); (try dsimp only)))
theorem st11 {w : World} {h₀ : Heap} {L fa : Addr} {cd : Value} {m mg mb : Str → Option Value} {mean : ExcName → Option Value} {news : List (Addr × Obj)} {s : Shared} {Q : Flow → Shared → Prop} {E : Value → Shared → Prop}
    {S r dx l t1 t2 cnt : Addr} {oc2 oc3 : Obj} {hh : Int} {th k1 k2 k3 k4 : Tok} {nd nl n1 n2 nc sc : Nat} {vs cs : List Value} {ps ns : List Int}
    (C : Lx w h₀ L m mg mb mean news s.heap) (hc2 : (L + 1 + 1, oc2) ∈ news) (ho2 : oc2.data = .cell (some (.ref S))) (hc3 : (L + 1 + 1 + 1, oc3) ∈ news) (ho3 : oc3.data = .cell (some (.ref r))) (hm3 : m "counts" = some (.ref cnt)) (hcnt : (cnt, lstO cs nc) ∈ news) (hS : (S, lstO vs sc) ∈ news)
    (hr : (r, instObj 199 dx) ∈ news) (hdx : (dx, dictOf [⟨hh, .str "comp_select_list" th, .ref l⟩] nd) ∈ news) (hl : (l, lstO [.ref t1, .ref t2] nl) ∈ news) (ht1 : (t1, tupO [.int 0 k1, .int 1 k2] n1) ∈ news) (ht2 : (t2, tupO [.int 1 k3, .int (-1) k4] n2) ∈ news)
    (hrows : RowsI news vs ps) (h8 : ps.length ≤ 8) (hI : IntsAre cs ns) (heq : ns = (List.range ps.length).map fun o => placeV ps o)
    (hQ : ∀ h' tk', Fr h₀ L h' m → News h₀ L h' news → Q .next { s with heap := h', toks := tk' }) :
    wpAny (model PySem.Challenge.rw_pg0317_01.row.prog w) (callerA.deeper (envOfC (Str.ofString "law") lawScope L fa cd)) (exec (stAt 11) (envOfC (Str.ofString "law") lawScope L fa cd)) Q E s := by
  obtain ⟨B, F, X, N, T⟩ := C
  revert X
  k_fill
  intro X
  dsimp only [stAt, lawBody, lawScope, PySem.Challenge.pw_pg0317_01, List.getLast?, List.getLast, List.getD, List.getElem?_cons_succ, List.getElem?_cons_zero, Option.getD_some]
  k_steps
  have hlv : vs.length ≤ 8 := by rw [hrows.1]; exact h8
  refine compLc (x := "other") (items := vs.toArray) (nn := sc) (ol := lstO vs sc) rfl rfl rfl (by rw [List.size_toArray, sizeLine_eq]; omega) (fun _ _ => rfl) (fun k => rfl) (fun h => rfl) F N
    (fun c i ys news₁ => ∃ oc ov, news₁ = (c, oc) :: news ∧ oc.data = .cell ov ∧ (∀ p ∈ news, @LT.lt Nat _ p.1 c) ∧ IntsAre ys ((List.range i).map fun o => placeV ps o))
    (fun c i ys news₁ hJ => .inr (by obtain ⟨oc, ov, rfl, _⟩ := hJ; exact List.mem_cons_of_mem _ hS)) (fun c hc => ⟨cell0, none, rfl, rfl, hc, .nil⟩) ?turn ?done
  case turn =>
    rintro c i v ys news₁ h₁ tk₁ I oI C oC D m₂ E' hv hyi ⟨oc, ov, rfl, hocd, hlt, hys⟩ off ne hCL hDL hC0 F₁ N₁ hn
    obtain ⟨x, t, j1, j2, nt, hxi, rfl, hmt⟩ := hrows.at hv
    have offc := off _ List.mem_cons_self
    refine asgCell F₁ N₁ hocd ⟨Ne.symm offc.1, Ne.symm offc.2.1, Ne.symm offc.2.2⟩ (fun p hp => Nat.ne_of_lt (hlt p hp)) rfl rfl rfl fun h₂ oc₂ F₂ N₂ hoc₂ => ?_
    clear F₁ N₁
    refine wpAny_tests_nil ?_
    rw [if_pos rfl]
    k_steps
    refine compL (items := vs.toArray) (nn := sc) (ol := lstO vs sc) rfl rfl rfl (by rw [List.size_toArray, sizeLine_eq]; omega) (.inr fun _ _ => rfl) (by decide) rfl F₂ N₂
      (fun i2 zs news₂ => news₂ = (I, oI) :: (C, oC) :: (D, lst ys) :: (c, oc₂) :: news ∧ IntsAre zs ((List.range i2).map fun j => cmpV ps j i))
      (fun i2 zs news₂ hJ => .inr (hJ.1 ▸ in4' hS)) ⟨rfl, .nil⟩ ?turn2 ?done2
    case turn2 =>
      rintro i2 v2 zs news₂ h₃ tk₃ I2 oI2 C2 oC2 D2 m₃ E2 hv2 hyi2 ⟨rfl, hzs⟩ off2 ne2 hCL2 hDL2 hC02 F₃ N₃ hn2
      obtain ⟨x2, t2', j3, j4, nt2, hxi2, rfl, hmt2⟩ := hrows.at hv2
      refine asgC1 F₃ N₃ hn2 ne2 off2 rfl rfl fun h₄ tk₄ oC₄ F₄ N₄ hn₄ => ?_
      clear F₃ N₃ hn2
      refine wpAny_tests_nil ?_
      rw [if_pos rfl]
      k_steps
      refine ⟨_, _, _, _, _, rfl, by assumption, by assumption, off2, by assumption, rfl, ?_⟩
      rw [List.range_succ, List.map_append]
      refine hzs.append ?_
      show IntsAre _ [cmpV ps i2 i]
      rw [cmpV_eq hxi2 hxi]
      exact .cons _ _ .nil
    case done2 =>
      rintro D2 C2 h₃ tk₃ m₃ zs news₂ ⟨rfl, hzs⟩ F₃ N₃ off2 hn2 hC02 hD02 hCL2 hDL2 hCD2
      refine comp_post F₃ N₃ off2 hn2 hC02 hCL2 hCD2 fun h₄ F₄ N₄ => ?_
      clear F₃ N₃ hn2
      rw [List.size_toArray, hrows.1] at hzs
      have hlz : zs.length ≤ 8 := by rw [hzs.length]; simp; omega
      k_steps
      refine ⟨_, _, _, _, _, rfl, by assumption, newsSub N₄ fun p hp => List.mem_cons_of_mem _ hp, (fun p hp => by rcases List.mem_cons.mp hp with rfl | hp; exact offc; exact off p (List.mem_cons_of_mem _ hp)), by assumption, oc₂, _, rfl, hoc₂, hlt, ?_⟩
      rw [List.range_succ, List.map_append]
      refine hys.append ?_
      exact .cons _ _ .nil
  case done =>
    rintro c D C h₁ tk₁ m' ys news₁ ⟨oc, ov, rfl, hocd, hlt, hys⟩ F₁ N₁ off hn hC0 hD0 hCL hDL hCD
    refine comp_post F₁ N₁ off hn hC0 hCL hCD fun h₂ F₂ N₂ => ?_
    clear F₁ N₁ hn
    rw [List.size_toArray, hrows.1, ← heq] at hys
    have hly : ys.length ≤ 8 := by rw [hys.length, heq]; simp; omega
    have hlc : cs.length ≤ 8 := by rw [hI.length, heq]; simp; omega
    refine ne_intsK ⟨_, (N₂ _ (List.mem_cons_of_mem _ (List.mem_cons_of_mem _ hcnt))).1, rfl, _, rfl⟩ hI ⟨_, (N₂ _ List.mem_cons_self).1, rfl, _, rfl⟩ hys (Nat.le_of_ble_eq_true rfl) ?_
    rw [decide_eq_true rfl]
    k_steps
    exact hQ _ _ F₂ (newsSub N₂ fun p hp => List.mem_cons_of_mem _ (List.mem_cons_of_mem _ hp))

-- part T13a
set_option maxHeartbeats 8000000
open LCg (NsObj lst)
theorem StepsAt.rot {news : List (Addr × Obj)} {vs : List Value} {ss : List (Int × Int × Int)} (h : StepsAt news vs ss) (k : Nat) : StepsAt news (vs.drop k ++ vs.take k) (rot k ss) := by
  have hl := h.1
  refine ⟨by unfold Mine.rot; simp only [List.length_append, List.length_drop, List.length_take, hl], fun i x hx => ?_⟩
  unfold Mine.rot at hx
  rw [List.getElem?_append] at hx ⊢
  rw [List.length_drop] at hx ⊢
  rw [hl]
  split at hx
  · rename_i q
    rw [if_pos q]
    rw [List.getElem?_drop] at hx ⊢
    exact h.2 _ x hx
  · rename_i q
    rw [if_neg q]
    rw [List.getElem?_take] at hx ⊢
    split at hx
    · rename_i q2
      rw [if_pos q2]
      exact h.2 _ x hx
    · cases hx
theorem rot_map {α β : Type} (f : α → β) (k : Nat) (l : List α) : (rot k l).map f = rot k (l.map f) := by
  unfold rot
  rw [List.map_append, List.map_drop, List.map_take]
theorem b13_0 {w : World} {h₀ : Heap} {L fa : Addr} {cd : Value} {m mg mb : Str → Option Value} {mean : ExcName → Option Value} {news : List (Addr × Obj)} {s : Shared} {Q : Flow → Shared → Prop} {E : Value → Shared → Prop}
    {ls : Addr} {oc : Obj} {ov : Option Value} {vs : List Value} {nl : Nat} {ss : List (Int × Int × Int)} {k : Int} {uk : Tok}
    (C : Lx w h₀ L m mg mb mean ((L + 1 + 1 + 1 + 1 + 1 + 1, oc) :: news) s.heap) (hoc : oc.data = .cell ov) (hoff : ∀ p ∈ news, p.1 ≠ L + 1 + 1 + 1 + 1 + 1 + 1) (hm : m "steps" = some (.ref ls)) (hmk : m "k" = some (.int k uk)) (hk0 : 0 ≤ k) (hkn : k < ss.length) (hl : (ls, lstO vs nl) ∈ news) (hs : StepsAt news vs ss) (hsz : vs.length ≤ 8)
    (hQ : ∀ h' tk' D zs oc', IntsAre zs (rot k.toNat (ss.map fun x => x.1 - x.2.1)) → (∀ p ∈ news, p.1 ≠ D) → @Ne Nat D (L + 1 + 1 + 1 + 1 + 1 + 1) → oc'.data = .cell (some (.ref D)) → Fr h₀ L h' m → News h₀ L h' ((L + 1 + 1 + 1 + 1 + 1 + 1, oc') :: (D, lst zs) :: news) → Q .next { s with heap := h', toks := tk' }) :
    wpAny (model PySem.Challenge.rw_pg0317_01.row.prog w) (callerA.deeper (envOfC (Str.ofString "law") lawScope L fa cd)) (exec (bodyAt 13 0) (envOfC (Str.ofString "law") lawScope L fa cd)) Q E s := by
  obtain ⟨B, F, X, N, T⟩ := C
  revert X
  k_fill
  intro X
  dsimp only [bodyAt, stAt, lawBody, lawScope, PySem.Challenge.pw_pg0317_01, List.getLast?, List.getLast, List.getD, List.getElem?_cons_succ, List.getElem?_cons_zero, Option.getD_some]
  refine wpAny_Assign_Name ?_ (by with_unfolding_all rfl)
  refine comp_front (by with_unfolding_all rfl) (by rfl) (by decide) ?_
  have hl' := List.mem_cons_of_mem (L + 1 + 1 + 1 + 1 + 1 + 1, oc) hl
  k_steps
  (rename Fr _ _ _ _ => F9)
  (rename News _ _ _ _ => N9)
  refine catL F9 N9 (List.mem_cons_of_mem _ List.mem_cons_self) List.mem_cons_self (by rw [List.length_drop, List.length_take]; omega) fun D' h' F' N' l1 => ?_
  clear F9 N9
  have hs' := hs.rot k.toNat
  have hlr : (vs.drop k.toNat ++ vs.take k.toNat).length = vs.length := rot_length k.toNat vs
  generalize vs.drop k.toNat ++ vs.take k.toNat = ws at *
  refine compL (items := ws.toArray) (nn := 0) (ol := lstO ws 0) rfl rfl rfl (by rw [List.size_toArray, sizeLine_eq]; omega) (.inl ⟨⟨_, _, _, rfl⟩, fun i v hv => let ⟨_, t, _, _, _, _, _, e, _⟩ := hs'.at hv; ⟨t, e⟩⟩) (by decide) rfl F' N'
    (fun i ys news₁ => news₁ = NewsM N' ∧ IntsAre ys (((rot k.toNat ss).take i).map fun x => x.1 - x.2.1))
    (fun i ys news₁ hJ => .inr (hJ.1 ▸ List.mem_cons_self)) ⟨rfl, by simpa using IntsAre.nil⟩ ?turn ?done
  case turn =>
    rintro i v ys news₁ h₁ tk₁ I oI C oC D m₂ E' hv hyi ⟨rfl, hys⟩ off ne hCL hDL hC0 F₁ N₁ hn
    obtain ⟨x, t, k1, k2, k3, nt, hxi, rfl, hm⟩ := hs'.at hv
    refine asgC3 rfl F₁ N₁ hn ne off (in4' hm) rfl rfl rfl rfl fun h₂ tk₂ oC₂ F₂ N₂ hn₂ => ?_
    clear F₁ N₁ hn
    refine wpAny_tests_nil ?_
    rw [if_pos rfl]
    k_steps
    refine ⟨_, _, _, _, _, rfl, by assumption, by assumption, off, by assumption, rfl, ?_⟩
    rw [List.take_add_one, hxi, List.map_append]
    exact hys.append (.cons _ _ .nil)
  case done =>
    rintro D C h₁ tk₁ m' ys news₁ ⟨rfl, hys⟩ F₁ N₁ off hn hC0 hD0 hCL hDL hCD
    dsimp only [NewsM] at N₁ off
    clear N' F'
    refine comp_post F₁ N₁ off hn hC0 hCL hCD fun h₂ F₂ N₂ => ?_
    clear F₁ N₁ hn
    have hDn : @Ne Nat D (L + 1 + 1 + 1 + 1 + 1 + 1) := Ne.symm (off _ (in3' List.mem_cons_self)).1
    rw [List.take_of_length_le (by rw [List.size_toArray, hs'.1]; exact Nat.le_refl _), rot_map] at hys
    have off' : ∀ p ∈ news, p.1 ≠ D := fun p hp => (off p (in4' hp)).1
    replace N₂ : News h₀ L h₂ ((D, lst ys) :: (L + 1 + 1 + 1 + 1 + 1 + 1, oc) :: news) := newsSub N₂ fun p hp => by
      simp only [List.mem_cons] at hp ⊢
      rcases hp with h | h | h <;> simp [h]
    k_steps
    (rename News _ _ _ _ => N9)
    exact hQ _ _ D ys _ hys off' hDn (by assumption) (by assumption) (newsSwap N9)

-- part T13b
set_option maxHeartbeats 8000000
open LCg (NsObj lst)
theorem hts_succ (ds : List Int) (i : Nat) (h : i < ds.length) : (hts ds).take (i + 1) = (hts ds).take i ++ [(ds.take (1 + (i : Int)).toNat).sum] := by
  have hl : i < (hts ds).length := by simpa [hts] using h
  rw [List.take_add_one, List.getElem?_eq_getElem hl, show (1 + (i : Int)).toNat = i + 1 from by omega]
  simp [hts]
theorem b13_1 {w : World} {h₀ : Heap} {L fa : Addr} {cd : Value} {m mg mb : Str → Option Value} {mean : ExcName → Option Value} {news : List (Addr × Obj)} {s : Shared} {Q : Flow → Shared → Prop} {E : Value → Shared → Prop}
    {pl D : Addr} {oc5 oc6 : Obj} {ps zs : List Value} {np nz : Nat} {ds : List Int} {n : Int} {un : Tok}
    (C : Lx w h₀ L m mg mb mean ((pl, lstO ps np) :: news) s.heap) (hc5 : (L + 1 + 1 + 1 + 1 + 1, oc5) ∈ news) (ho5 : oc5.data = .cell (some (.ref pl))) (hc6 : (L + 1 + 1 + 1 + 1 + 1 + 1, oc6) ∈ news) (ho6 : oc6.data = .cell (some (.ref D))) (hD : (D, lstO zs nz) ∈ news) (hI : IntsAre zs ds) (hmn : m "many" = some (.int n un)) (hn : n = (ds.length : Int)) (h8 : ds.length ≤ 8) (hps : ps.length ≤ 8) (hoff : ∀ p ∈ news, p.1 ≠ pl)
    (hQ : ∀ h' tk' t n', Fr h₀ L h' m → News h₀ L h' ((pl, lstO (ps ++ [.int (cntP ds : Int) t]) n') :: news) → Q .next { s with heap := h', toks := tk' }) :
    wpAny (model PySem.Challenge.rw_pg0317_01.row.prog w) (callerA.deeper (envOfC (Str.ofString "law") lawScope L fa cd)) (exec (bodyAt 13 1) (envOfC (Str.ofString "law") lawScope L fa cd)) Q E s := by
  obtain ⟨B, F, X, N, T⟩ := C
  revert X
  k_fill
  intro X
  dsimp only [bodyAt, stAt, lawBody, lawScope, PySem.Challenge.pw_pg0317_01, List.getLast?, List.getLast, List.getD, List.getElem?_cons_succ, List.getElem?_cons_zero, Option.getD_some]
  have hc5' := List.mem_cons_of_mem (pl, lstO ps np) hc5
  k_steps
  (rename IsRange _ _ _ _ _ _ _ _ => hr9)
  have hlen : (hts ds).length = ds.length := by simp [hts]
  refine compR rfl hr9 (by decide) (by decide) (by omega) (by omega) (fun _ _ => rfl) (by decide) rfl (by assumption) (by assumption)
    (fun i ys news₁ => news₁ = (pl, lstO ps np) :: news ∧ ys.length ≤ i ∧ ys.length = (((hts ds).take i).filter (fun z => decide (0 < z))).length)
    ⟨rfl, Nat.le_refl _, rfl⟩ ?turn ?done
  case turn =>
    rintro i tv ys news₁ h₁ tk₁ I oI C oC D2 m₂ E' hi hyi ⟨rfl, hyi2, hyl⟩ off ne hCL hDL hC0 F₁ N₁ hn
    refine asgC1 F₁ N₁ hn ne off rfl rfl fun h₂ tk₂ oC₂ F₂ N₂ hn₂ => ?_
    clear F₁ N₁ hn
    have hid : i < ds.length := by omega
    have hzl : zs.length ≤ 8 := by rw [hI.length]; exact h8
    have hI2 : IntsAre (zs.take (1 + (i : Int)).toNat) (ds.take (1 + (i : Int)).toNat) := IntsAre.take hI _
    have hD' : (D, lstO zs nz) ∈ (I, oI) :: (C, oC₂) :: (D2, lst ys) :: (pl, lstO ps np) :: news := in4' hD
    have hc6' : (L + 1 + 1 + 1 + 1 + 1 + 1, oc6) ∈ (I, oI) :: (C, oC₂) :: (D2, lst ys) :: (pl, lstO ps np) :: news := in4' hc6
    refine wpAny_tests_one ?_
    have hsx := hts_succ ds i hid
    k_steps
    · (rename News _ _ _ _ => N9)
      (rename (_ < List.sum _) => q9)
      refine ⟨_, _, _, _, _, rfl, by assumption, newsSub N9 fun p hp => List.mem_cons_of_mem _ hp, off, by assumption, rfl, by rw [List.length_append, List.length_singleton]; omega, ?_⟩
      rw [hsx, List.filter_append, List.length_append, List.length_append, hyl]
      simp [q9]
    · (rename News _ _ _ _ => N9)
      (rename (¬ _ < List.sum _) => q9)
      refine ⟨_, _, _, _, _, rfl, by assumption, newsSub N9 fun p hp => List.mem_cons_of_mem _ hp, off, by assumption, rfl, Nat.le_succ_of_le hyi2, ?_⟩
      rw [hsx, List.filter_append, List.length_append, hyl]
      simp [q9]
  case done =>
    rintro D2 C h₁ tk₁ m' ys news₁ ⟨rfl, hyi2, hyl⟩ F₁ N₁ off hn0 hC0 hD0 hCL hDL hCD
    refine comp_post F₁ N₁ off hn0 hC0 hCL hCD fun h₂ F₂ N₂ => ?_
    clear F₁ N₁ hn0
    have hDc : @Ne Nat D2 pl := Ne.symm (off _ List.mem_cons_self).1
    have hyl0 : ys.length ≤ 1000 := by omega
    rw [List.take_of_length_le (by omega)] at hyl
    k_steps
    (rename News _ _ _ _ => N9)
    rw [List.push_toArray, hyl] at N9
    exact hQ _ _ _ _ (by assumption) (newsSub N9 fun q hq => List.mem_cons_of_mem _ hq)

-- part T13
set_option maxHeartbeats 8000000
open LCg (NsObj lst)
theorem st13_eq : ∃ p1 p2 p3 p4 p5 p6, stAt 13 = .For (.Name "k" p1) (.Call (.Name "range" p2) [.Name "many" p3] [] p4) [bodyAt 13 0, bodyAt 13 1] [] p6 ∧ p5 = p6 := ⟨_, _, _, _, _, _, rfl, rfl⟩
theorem upd_updo (m : Str → Option Value) (x : Str) (u : Option Value) (v : Value) : upd (updo m x u) x v = updo m x (some v) := by
  funext y; simp only [upd, updo]; split <;> rfl
theorem updo_ne (m : Str → Option Value) {x z : Str} (u : Option Value) (h : z ≠ x) : updo m x u z = m z := by
  simp only [updo]; rw [if_neg h]
noncomputable def netS (ss : List (Int × Int × Int)) : List Int := ss.map fun x => x.1 - x.2.1
noncomputable def plainL (ds : List Int) (k : Nat) : List Int := (List.range k).map fun j => (cntP (rot j ds) : Int)
theorem plain_succ (ds : List Int) (k : Nat) : plainL ds (k + 1) = plainL ds k ++ [(cntP (rot k ds) : Int)] := by
  unfold plainL
  rw [List.range_succ, List.map_append]; rfl
theorem st13 {w : World} {h₀ : Heap} {L fa : Addr} {cd : Value} {m mg mb : Str → Option Value} {mean : ExcName → Option Value} {news : List (Addr × Obj)} {s : Shared} {Q : Flow → Shared → Prop} {E : Value → Shared → Prop}
    {ls pl : Addr} {oc5 oc6 : Obj} {ov : Option Value} {vs : List Value} {nl : Nat} {ss : List (Int × Int × Int)} {n : Int} {un : Tok}
    (C : Lx w h₀ L m mg mb mean ((L + 1 + 1 + 1 + 1 + 1 + 1, oc6) :: (pl, lstO [] 0) :: news) s.heap) (ho6 : oc6.data = .cell ov) (hc5 : (L + 1 + 1 + 1 + 1 + 1, oc5) ∈ news) (ho5 : oc5.data = .cell (some (.ref pl))) (hoff : ∀ p ∈ news, @Ne Nat p.1 (L + 1 + 1 + 1 + 1 + 1 + 1) ∧ @Ne Nat p.1 pl) (hpl : @Ne Nat pl (L + 1 + 1 + 1 + 1 + 1 + 1))
    (hm : m "steps" = some (.ref ls)) (hl : (ls, lstO vs nl) ∈ news) (hs : StepsAt news vs ss) (h8 : ss.length ≤ 8) (hmn : m "many" = some (.int n un)) (hn : n = (ss.length : Int))
    (hQ : ∀ h' tk' ps np oc6' ov' u1, IntsAre ps (plainL (netS ss) ss.length) → oc6'.data = .cell ov' → Fr h₀ L h' (updo m "k" u1) → News h₀ L h' ((L + 1 + 1 + 1 + 1 + 1 + 1, oc6') :: (pl, lstO ps np) :: news) → Q .next { s with heap := h', toks := tk' }) :
    wpAny (model PySem.Challenge.rw_pg0317_01.row.prog w) (callerA.deeper (envOfC (Str.ofString "law") lawScope L fa cd)) (exec (stAt 13) (envOfC (Str.ofString "law") lawScope L fa cd)) Q E s := by
  obtain ⟨p1, p2, p3, p4, p5, p6, e13, _⟩ := st13_eq
  rw [e13]
  obtain ⟨B, F, X, N, T⟩ := C
  revert X
  k_fill
  intro X
  have hvl : vs.length ≤ 8 := by rw [hs.1]; exact h8
  k_steps
  (rename IsRange _ _ _ _ _ _ _ _ => hr9)
  refine loopR rfl hr9 (by decide) (by decide) (by omega) (by omega) (fun _ _ => rfl) (by assumption) (by assumption)
    (fun i m₁ news₁ => ∃ ps np oc6 ov u1, news₁ = (L + 1 + 1 + 1 + 1 + 1 + 1, oc6) :: (pl, lstO ps np) :: news ∧ oc6.data = .cell ov ∧ IntsAre ps (plainL (netS ss) i) ∧ m₁ = updo m "k" u1)
    ⟨[], _, oc6, ov, m "k", rfl, ho6, .nil, by rw [show updo m "k" (m "k") = m from updo_self _ _]⟩ ?turn ?done
  case turn =>
    rintro i tv m₁ news₁ I h₁ tk₁ oI E' hi ⟨ps, np, oc6, ov, u1, rfl, ho6, hps, rfl⟩ off F₁ N₁
    have hi' : i < ss.length := by omega
    rw [Int.zero_add]
    refine asg1 F₁.ns rfl rfl fun h₂ tk₂ hn₂ k₂ => ?_
    have F₂ := frL F₁ hn₂ k₂
    have N₂ := newsL N₁ k₂
    clear F₁ N₁ hn₂ k₂
    rw [upd_updo] at F₂
    have hlp : ps.length ≤ 8 := by rw [hps.length]; simp [plainL]; omega
    have hI6 : @Ne Nat I (L + 1 + 1 + 1 + 1 + 1 + 1) := Ne.symm (off _ List.mem_cons_self)
    have hIp : @Ne Nat I pl := Ne.symm (off _ (List.mem_cons_of_mem _ List.mem_cons_self))
    refine wpAny_execs_cons ?_
    have N₃ : News h₀ L h₂ ((L + 1 + 1 + 1 + 1 + 1 + 1, oc6) :: (I, oI) :: (pl, lstO ps np) :: news) := newsSwap N₂
    clear N₂
    refine b13_0 (ss := ss) (k := (i : Int)) (uk := tv) ⟨B, F₂, X, N₃, T⟩ ho6 ?_ ((updo_ne m _ (by decide)).trans hm) rfl (by omega) (by omega) (List.mem_cons_of_mem _ (List.mem_cons_of_mem _ hl)) (hs.mono fun p hp => List.mem_cons_of_mem _ (List.mem_cons_of_mem _ hp)) hvl ?_
    · intro p hp
      rcases List.mem_cons.mp hp with rfl | hp
      · exact hI6
      rcases List.mem_cons.mp hp with rfl | hp
      · exact hpl
      · exact (hoff p hp).1
    intro h₄ tk₄ D zs oc6' hz hD hD6 ho6' F₄ N₄
    clear F₂ N₃
    have hDp : @Ne Nat D pl := Ne.symm (hD _ (List.mem_cons_of_mem _ List.mem_cons_self))
    rw [Int.toNat_natCast] at hz
    refine wpAny_execs_cons ?_
    have N₅ : News h₀ L h₄ ((pl, lstO ps np) :: (L + 1 + 1 + 1 + 1 + 1 + 1, oc6') :: (D, lst zs) :: (I, oI) :: news) := newsSub N₄ fun p hp => by
      simp only [List.mem_cons] at hp ⊢
      rcases hp with h | h | h | h | h <;> simp [h]
    clear N₄
    refine b13_1 (ds := rot i (netS ss)) ⟨B, F₄, X, N₅, T⟩ (in3' hc5) ho5 List.mem_cons_self ho6' (List.mem_cons_of_mem _ List.mem_cons_self) hz ((updo_ne m _ (by decide)).trans hmn) (by rw [rot_length, hn]; simp [netS]) (by rw [rot_length]; simpa [netS] using h8) hlp ?_ ?_
    · intro p hp
      rcases List.mem_cons.mp hp with rfl | hp
      · exact Ne.symm hpl
      rcases List.mem_cons.mp hp with rfl | hp
      · exact hDp
      rcases List.mem_cons.mp hp with rfl | hp
      · exact hIp
      · exact (hoff p hp).2
    intro h₆ tk₆ t n₆ F₆ N₆
    clear F₄ N₅
    show wpAny _ _ (execs [] _) _ _ _
    refine wpAny_pure ?_
    refine ⟨h₆, tk₆, _, (L + 1 + 1 + 1 + 1 + 1 + 1, oc6') :: (pl, lstO (ps ++ [.int (cntP (rot i (netS ss)) : Int) t]) n₆) :: news, rfl, F₆, newsSub N₆ ?_, ?_, _, n₆, oc6', _, _, rfl, ho6', ?_, rfl⟩
    · intro p hp
      simp only [List.mem_cons] at hp ⊢
      rcases hp with h | h | h | h <;> simp [h]
    · intro p hp
      rcases List.mem_cons.mp hp with rfl | hp
      · exact Ne.symm hI6
      rcases List.mem_cons.mp hp with rfl | hp
      · exact Ne.symm hIp
      · exact off p (List.mem_cons_of_mem _ (List.mem_cons_of_mem _ hp))
    · rw [plain_succ]
      exact hps.append (.cons _ _ .nil)
  case done =>
    rintro h₁ tk₁ m₁ news₁ ⟨ps, np, oc6, ov, u1, rfl, ho6, hps, rfl⟩ F₁ N₁
    rw [show (n - 0).toNat = ss.length from by omega] at hps
    exact hQ _ _ _ _ _ _ _ hps ho6 F₁ N₁

-- part E1
section PE1
open PyProof.V PySem.SeqAt
set_option maxHeartbeats 8000000
open LCg (NsObj lst)
noncomputable def pairD (p : Str × Str) : PyData := .tuple [.str p.1, .str p.2]
theorem PairsAt.tail {news : List (Addr × Obj)} {v : Value} {vs : List Value} {p : Str × Str} {xs : List (Str × Str)} (h : PairsAt news (v :: vs) (p :: xs)) : PairsAt news vs xs :=
  ⟨Nat.succ.inj h.1, fun i x hx => h.2 (i + 1) x (by simpa using hx)⟩
theorem readsAll_pairs {h : Heap} {news : List (Addr × Obj)} (N : ∀ p ∈ news, h.get? p.1 = some p.2) : ∀ {xs : List (Str × Str)} {vs : List Value}, PairsAt news vs xs → ReadsAll h vs (xs.map pairD) []
  | [], vs, hp => by
    have : vs = [] := List.eq_nil_of_length_eq_zero hp.1
    subst this
    exact .nil
  | p :: xs, [], hp => by have := hp.1; simp at this
  | p :: xs, v :: vs, hp => by
    obtain ⟨t, k1, k2, nt, e, hm⟩ := hp.2 0 p rfl
    have ev : v = .ref t := by simpa using e
    subst ev
    have hd : Reads h (.ref t) (pairD p) ([] ++ ([] ++ [])) := Reads.tuple (N _ hm) rfl rfl (.cons (.str _ _) (.cons (.str _ _) .nil))
    have := ReadsAll.cons hd (readsAll_pairs N hp.tail)
    simpa using this
theorem readsAll_strs {h : Heap} : ∀ {xs : List Str} {vs : List Value}, StrsL vs xs → ReadsAll h vs (xs.map PyData.str) []
  | [], vs, hp => by
    have : vs = [] := List.eq_nil_of_length_eq_zero hp.1
    subst this
    exact .nil
  | p :: xs, [], hp => by have := hp.1; simp at this
  | p :: xs, v :: vs, hp => by
    obtain ⟨t, e⟩ := hp.2 0 p rfl
    have ev : v = .str p t := by simpa using e
    subst ev
    have := ReadsAll.cons (Reads.str (h := h) p t) (readsAll_strs (h := h) (xs := xs) (vs := vs) ⟨Nat.succ.inj hp.1, fun i x hx => hp.2 (i + 1) x (by simpa using hx)⟩)
    simpa using this
theorem canLay_strs : ∀ (xs : List Str), (∀ x ∈ xs, PyData.strOk x = true) → PyData.canLayAll0 (xs.map PyData.str) = true
  | [], _ => by simp [PyData.canLayAll0]
  | x :: r, h => by
    simp only [List.map_cons, PyData.canLayAll0, PyData.canLay0, Bool.and_eq_true]
    exact ⟨h x List.mem_cons_self, canLay_strs r fun y hy => h y (List.mem_cons_of_mem _ hy)⟩
theorem depth_strs : ∀ xs : List Str, PyData.depthAll (xs.map PyData.str) = 0
  | [] => by simp [PyData.depthAll]
  | n :: r => by simp [PyData.depthAll, PyData.depth, depth_strs r]
theorem shaped_strs (xs : List Str) (h : ∀ x ∈ xs, PyData.strOk x = true) : shaped (.list (xs.map PyData.str)) = true := by
  show (PyData.canLay0 (.list (xs.map PyData.str)) && decide (PyData.depth (.list (xs.map PyData.str)) ≤ 64)) = true
  rw [Bool.and_eq_true]
  exact ⟨by simp only [PyData.canLay0]; exact canLay_strs xs h, decide_eq_true (by simp only [PyData.depth, depth_strs]; decide)⟩
theorem noMix_strs : ∀ xs : List Str, noMixAll (xs.map PyData.str) (xs.map PyData.str) = true
  | [] => by simp [noMixAll]
  | _ :: r => by simp [noMixAll, noMix, noMix_strs r]
theorem same_strs : ∀ xs : List Str, PySem.Spec.sameAll (xs.map PyData.str) (xs.map PyData.str) = true
  | [] => by simp [PySem.Spec.sameAll]
  | _ :: r => by simp [PySem.Spec.sameAll, PySem.Spec.same, same_strs r]
theorem canLay_pairs : ∀ (xs : List (Str × Str)), (∀ x ∈ xs, PyData.strOk x.1 = true ∧ PyData.strOk x.2 = true) → PyData.canLayAll0 (xs.map pairD) = true
  | [], _ => by simp [PyData.canLayAll0]
  | x :: r, h => by
    simp only [List.map_cons, pairD, PyData.canLayAll0, PyData.canLay0, Bool.and_eq_true]
    exact ⟨⟨(h x List.mem_cons_self).1, (h x List.mem_cons_self).2, trivial⟩, canLay_pairs r fun y hy => h y (List.mem_cons_of_mem _ hy)⟩
theorem depth_pairs : ∀ xs : List (Str × Str), PyData.depthAll (xs.map pairD) ≤ 1
  | [] => by simp [PyData.depthAll]
  | n :: r => by
    have := depth_pairs r
    simp only [List.map_cons, pairD, PyData.depthAll, PyData.depth] at this ⊢
    omega
theorem shaped_pairs (xs : List (Str × Str)) (h : ∀ x ∈ xs, PyData.strOk x.1 = true ∧ PyData.strOk x.2 = true) : shaped (.list (xs.map pairD)) = true := by
  show (PyData.canLay0 (.list (xs.map pairD)) && decide (PyData.depth (.list (xs.map pairD)) ≤ 64)) = true
  rw [Bool.and_eq_true]
  have := depth_pairs xs
  exact ⟨by simp only [PyData.canLay0]; exact canLay_pairs xs h, decide_eq_true (by simp only [PyData.depth]; omega)⟩
theorem noMix_pairs : ∀ xs : List (Str × Str), noMixAll (xs.map pairD) (xs.map pairD) = true
  | [] => by simp [noMixAll]
  | _ :: r => by
    have := noMix_pairs r
    simp only [List.map_cons, pairD, noMixAll, noMix, Bool.and_true] at this ⊢
    simpa using this
theorem same_pairs : ∀ xs : List (Str × Str), PySem.Spec.sameAll (xs.map pairD) (xs.map pairD) = true
  | [] => by simp [PySem.Spec.sameAll]
  | _ :: r => by
    have := same_pairs r
    simp only [List.map_cons, pairD, PySem.Spec.sameAll, PySem.Spec.same] at this ⊢
    simpa using this
section
variable {prog : Program} {w : World} {A : Around} {E : Value → Shared → Prop} {s : Shared} {a b : Addr} {vs us : List Value} {na nb : Nat} {Q : Value → Shared → Prop}
theorem ne_pairs {news : List (Addr × Obj)} {xs : List (Str × Str)} (N : ∀ p ∈ news, s.heap.get? p.1 = some p.2) (ha : (a, lstO vs na) ∈ news) (hb : (b, lstO us nb) ∈ news) (hp : PairsAt news vs xs) (hq : PairsAt news us xs) (hok : ∀ x ∈ xs, PyData.strOk x.1 = true ∧ PyData.strOk x.2 = true) (hu : A.units + 64 < cLine)
    (h : Q (.bool false) s) : wpAny (model prog w) A (compareOp .NotEq (.ref a) (.ref b)) Q E s :=
  ne_dataH_same (Reads.list (N _ ha) rfl rfl (by simpa using readsAll_pairs N hp)) (Reads.list (N _ hb) rfl rfl (by simpa using readsAll_pairs N hq)) (shaped_pairs xs hok) (shaped_pairs xs hok) hu
    (by simp only [noMix]; exact noMix_pairs xs) (by simp only [PySem.Spec.same, same_pairs]; exact h)
theorem eq_strs {news : List (Addr × Obj)} {xs : List Str} (N : ∀ p ∈ news, s.heap.get? p.1 = some p.2) (ha : (a, lstO vs na) ∈ news) (hb : (b, lstO us nb) ∈ news) (hp : StrsL vs xs) (hq : StrsL us xs) (hok : ∀ x ∈ xs, PyData.strOk x = true) (hu : A.units + 64 < cLine)
    (h : Q (.bool true) s) : wpAny (model prog w) A (compareOp .Eq (.ref a) (.ref b)) Q E s :=
  eq_dataH_same (Reads.list (N _ ha) rfl rfl (by simpa using readsAll_strs hp)) (Reads.list (N _ hb) rfl rfl (by simpa using readsAll_strs hq)) (shaped_strs xs hok) (shaped_strs xs hok) hu
    (by simp only [noMix]; exact noMix_strs xs) (by simp only [PySem.Spec.same, same_strs]; exact h)
theorem ne_ints {h₀ : Heap} {L : Addr} {news : List (Addr × Obj)} {ns : List Int} (N : News h₀ L s.heap news) (ha : (a, lstO vs na) ∈ news) (hb : (b, lstO us nb) ∈ news) (hi : IntsAre vs ns) (hj : IntsAre us ns) (hu : A.units + 64 < cLine)
    (h : Q (.bool false) s) : wpAny (model prog w) A (compareOp .NotEq (.ref a) (.ref b)) Q E s :=
  ne_intsK ⟨_, (N _ ha).1, rfl, _, rfl⟩ hi ⟨_, (N _ hb).1, rfl, _, rfl⟩ hj hu (by rw [decide_eq_true rfl]; exact h)
end
end PE1
/-- where the walk is to halt -/
noncomputable def Halt (p : Prop) : Prop := p
theorem toHalt {p : Prop} (h : Halt p) : p := h
local macro_rules | `(tactic| walk_at "compareOp NotEq ref ref") => `(tactic| (k_here; (with_reducible show wpAny _ _ (compareOp CmpOp.NotEq (Value.ref _) (Value.ref _)) _ _ _); refine toHalt ?_))
local macro_rules | `(tactic| walk_at "compareOp Eq ref ref") => `(tactic| (k_here; (with_reducible show wpAny _ _ (compareOp CmpOp.Eq (Value.ref _) (Value.ref _)) _ _ _); refine toHalt ?_))
local macro_rules | `(tactic| walk_at "compareOp NotEq ref ref") => `(tactic| (k_here; (with_reducible show wpAny _ _ (compareOp CmpOp.NotEq (Value.ref _) (Value.ref _)) _ _ _); k_dflt (refine' ne_ints ?N ?a ?b ?i ?j ?u ?_; (case N => k_asm); (case a | b => k_mem); (case i | j => assumption); (case u => exact Nat.le_of_ble_eq_true rfl))))

-- part T14
set_option maxHeartbeats 8000000
open LCg (NsObj lst)
theorem strOk_of {x : Str} (h : okV x) : PyData.strOk x = true := by
  unfold PyData.strOk
  rw [Array.all_eq_true_iff_forall_mem]
  intro c hc
  have := h.1 c (Array.mem_toList_iff.mpr hc)
  simp only [decide_eq_true_eq]
  omega
theorem st14 {w : World} {h₀ : Heap} {L fa : Addr} {cd : Value} {m mg mb : Str → Option Value} {mean : ExcName → Option Value} {news : List (Addr × Obj)} {s : Shared} {Q : Flow → Shared → Prop} {E : Value → Shared → Prop}
    {cnt pl x dx l ld : Addr} {oc1 oc5 : Obj} {cs ps vs lvs : List Value} {nc np nl nd ln : Nat} {ns : List Int} {ys : List Str} {hh : Int} {th : Tok} {n : Int} {un : Tok}
    (C : Lx w h₀ L m mg mb mean news s.heap) (hc5 : (L + 1 + 1 + 1 + 1 + 1, oc5) ∈ news) (ho5 : oc5.data = .cell (some (.ref pl))) (hc1 : (L + 1, oc1) ∈ news) (ho1 : oc1.data = .cell (some (.ref ld))) (hm3 : m "counts" = some (.ref cnt)) (hcnt : (cnt, lstO cs nc) ∈ news) (hI : IntsAre cs ns) (hpl : (pl, lstO ps np) ∈ news) (hJ : IntsAre ps ns)
    (hm : m "ring" = some (.ref x)) (hmn : m "many" = some (.int n un)) (hn : n = (ys.length : Int)) (h8 : ys.length ≤ 8) (hr : (x, instObj 171 dx) ∈ news) (hdx : (dx, dictOf [⟨hh, .str "_headers" th, .ref l⟩] nd) ∈ news) (hl : (l, lstO vs nl) ∈ news) (hp : PairsAt news vs (ringAt ys ys.length)) (hld : (ld, lstO lvs ln) ∈ news) (hS : StrsL lvs ys) (hok : ∀ y ∈ ys, okV y)
    (hQ : ∀ h' tk', Fr h₀ L h' m → News h₀ L h' news → Q .next { s with heap := h', toks := tk' }) :
    wpAny (model PySem.Challenge.rw_pg0317_01.row.prog w) (callerA.deeper (envOfC (Str.ofString "law") lawScope L fa cd)) (exec (stAt 14) (envOfC (Str.ofString "law") lawScope L fa cd)) Q E s := by
  obtain ⟨B, F, X, N, T⟩ := C
  revert X
  k_fill
  intro X
  dsimp only [stAt, lawBody, lawScope, PySem.Challenge.pw_pg0317_01, List.getLast?, List.getLast, List.getD, List.getElem?_cons_succ, List.getElem?_cons_zero, Option.getD_some]
  have hvl : vs.length ≤ 1000 := by rw [hp.1, ring_len ys _ (Nat.le_refl _)]; omega
  have hoY : ∀ i, i < ys.length → PyData.strOk (ys.getD i default) = true := fun i hi => strOk_of (hok _ (getD_mem ys i hi))
  k_steps
  (rename IsRange _ _ _ _ _ _ _ _ => hr9)
  (rename Fr _ _ _ _ => F9)
  (rename News _ _ _ _ => N9)
  refine compR rfl hr9 (by decide) (by decide) (by omega) (by omega) (fun _ _ => rfl) (by decide) rfl F9 N9
    (fun i zs G => ∃ T, G = T ++ NewsM N9 ∧ PairsAt T zs ((List.range i).map (pU ys))) ⟨[], rfl, rfl, fun i x hx => by simp at hx⟩ ?turn ?done
  case turn =>
    rintro i tv zs G h₁ tk₁ I oI C oC D m₂ E' hi hyi ⟨T, rfl, hP⟩ off ne hCL hDL hC0 F₁ N₁ hn
    dsimp only [NewsM] at off F₁ N₁ ⊢
    refine asgC1 F₁ N₁ hn ne off rfl rfl fun h₂ tk₂ oC₂ F₂ N₂ hn₂ => ?_
    clear F₁ N₁ hn
    refine wpAny_tests_nil ?_
    rw [if_pos rfl]
    have hl' : (ld, lstO lvs ln) ∈ T ++ NewsM N9 := List.mem_append_right _ (List.mem_cons_of_mem _ hld)
    have hc' : (L + 1, oc1) ∈ T ++ NewsM N9 := List.mem_append_right _ (List.mem_cons_of_mem _ hc1)
    dsimp only [NewsM] at hl' hc'
    k_steps
    (rename News _ _ _ _ => N8)
    (rename (_ ∧ _ ∧ _ ∧ AllLt _ _) => l7)
    simp only [Int.zero_add, Int.toNat_natCast] at N8
    refine ⟨_, _, _, _, _, rfl, by assumption, newsRot3 N8, ?_, by assumption, ⟨_, rfl, ?_⟩⟩
    · intro p hp
      rcases List.mem_cons.mp hp with rfl | hp
      · exact ⟨Nat.ne_of_gt l7.1, Nat.ne_of_gt l7.2.1, Nat.ne_of_gt l7.2.2.1⟩
      · exact off p hp
    · rw [List.range_succ, List.map_append]
      exact PairsAt.snoc (p := pU ys i) (hP.mono fun p hp => List.mem_cons_of_mem _ hp) List.mem_cons_self
  case done =>
    rintro D C h₁ tk₁ m' zs G ⟨T, rfl, hP⟩ F₁ N₁ off hn0 hC0 hD0 hCL hDL hCD
    refine comp_post F₁ N₁ off hn0 hC0 hCL hCD fun h₂ F₂ N₂ => ?_
    clear F₁ N₁ hn0
    dsimp only [NewsM] at N₂ off
    rw [show (n - 0).toNat = ys.length from by omega] at hP
    k_steps
    unfold Halt
    refine ne_pairs (xs := ringAt ys ys.length) (fun p hp => (N₂ p hp).1) (List.mem_cons_of_mem _ (List.mem_append_right _ List.mem_cons_self)) List.mem_cons_self (hp.mono fun p hp => List.mem_cons_of_mem _ (List.mem_append_right _ (List.mem_cons_of_mem _ hp))) ?_ ?_ (Nat.le_of_ble_eq_true rfl) ?_
    · have e : ringAt ys ys.length = (List.range ys.length).map (pU ys) := by
        unfold ringAt
        rw [List.drop_of_length_le (by rw [List.length_range]; exact Nat.le_refl _)]
        rfl
      rw [e]
      exact hP.mono fun p hp => List.mem_cons_of_mem _ (List.mem_append_left _ hp)
    · intro p hp
      obtain ⟨j, hj, q⟩ := ring_mem ys _ (Nat.le_refl _) p hp
      rcases q with rfl | rfl
      · exact ⟨strOk_of (okV_of (okN_nmL j (by omega))), hoY j hj⟩
      · exact ⟨strOk_of (okV_of (okN_nmU j (by omega))), hoY j hj⟩
    · k_steps
      exact hQ _ _ F₂ (newsSub N₂ fun p hp => List.mem_cons_of_mem _ (List.mem_append_right _ (List.mem_cons_of_mem _ hp)))

-- part PQ
set_option maxHeartbeats 8000000
theorem okN_tnU : ∀ i, i < 9 → okN (tnU i) := by
  intro i hi
  have : ∀ i, i < 9 → (∀ c ∈ (tnU i).cps.toList, 31 < c ∧ c < 127) ∧ (tnU i).cps.size ≤ 1000 := by decide +kernel
  exact this i hi
noncomputable def posC (ys : List Str) (c : Int) : Nat := (countsL ys ys.length).idxOf c
theorem counts_mem (ys : List Str) (hs : (dsOf ys).sum = 1) (i : Nat) (hi : i < ys.length) : (1 + (i : Int)) ∈ countsL ys ys.length := by
  obtain ⟨k, hk, e⟩ := cnt_surj (dsOf ys) hs (i + 1) (by omega) (by rw [ds_len]; omega)
  rw [ds_len] at hk
  refine List.mem_map.mpr ⟨k, List.mem_range.mpr hk, ?_⟩
  show ((cntP (rot k (dsOf ys)) : Nat) : Int) = _
  rw [e]; omega
theorem counts_len (ys : List Str) (k : Nat) : (countsL ys k).length = k := by simp [countsL]
theorem pos_spec (ys : List Str) (hs : (dsOf ys).sum = 1) (i : Nat) (hi : i < ys.length) : posC ys (1 + (i : Int)) < ys.length ∧ cK ys (posC ys (1 + (i : Int))) = i + 1 := by
  have hm := counts_mem ys hs i hi
  have hlt : posC ys (1 + (i : Int)) < (countsL ys ys.length).length := List.idxOf_lt_length_of_mem hm
  refine ⟨by rw [counts_len] at hlt; exact hlt, ?_⟩
  have e := List.getElem_idxOf (xs := countsL ys ys.length) (x := (1 + (i : Int))) hlt
  have e2 : (countsL ys ys.length)[posC ys (1 + (i : Int))] = (cK ys (posC ys (1 + (i : Int))) : Int) := by simp [countsL]
  have e3 : (countsL ys ys.length)[posC ys (1 + (i : Int))] = 1 + (i : Int) := e
  rw [e2] at e3
  omega
theorem book_get (ys : List Str) (hs : (dsOf ys).sum = 1) (h8 : ys.length ≤ 8) (i : Nat) (hi : i < ys.length) :
    getH (bookAt ys ys.length) (Txt.lower (tnU (i + 1))) = some (nmL (posC ys (1 + (i : Int)))) := by
  obtain ⟨hlt, hc⟩ := pos_spec ys hs i hi
  refine getH_some (xs := bookAt ys ys.length) (i := posC ys (1 + (i : Int))) (p := (tnL (cK ys (posC ys (1 + (i : Int)))), nmL (posC ys (1 + (i : Int))))) ?_ ?_ ?_
  · unfold bookAt
    rw [List.getElem?_map, List.getElem?_range hlt]
    rfl
  · show (Txt.lower (tnL (cK ys _)) == Txt.lower (tnU (i + 1))) = true
    rw [hc, lower_tnL _ (by omega), lower_tnU _ (by omega)]
    simp
  · intro j hj p hp
    unfold bookAt at hp
    rw [List.getElem?_map, List.getElem?_range (by omega)] at hp
    have ep : p = (tnL (cK ys j), nmL j) := by simpa using hp.symm
    subst ep
    have hb := cK_bound ys hs j (by omega)
    show Txt.lower (tnL (cK ys j)) ≠ _
    rw [lower_tnL _ (by omega), lower_tnU _ (by omega)]
    intro e
    have e1 := inj_tnL _ (by omega) _ (by omega) e
    have := cK_inj ys hs j _ (by omega) hlt (by rw [hc]; exact e1)
    omega
theorem weight_ints : ∀ ns : List Int, (∀ x ∈ ns, 0 ≤ x ∧ x ≤ 8) → PyData.weightAll (ns.map PyData.int) ≤ 10 * ns.length
  | [], _ => by simp [PyData.weightAll]
  | x :: r, h => by
    have h1 := weight_ints r fun y hy => h y (List.mem_cons_of_mem _ hy)
    have h2 := h x List.mem_cons_self
    have h3 : PyData.weight (.int x) ≤ 9 := by
      simp only [PyData.weight]
      have := Nat.log2_le_self x.natAbs
      split <;> omega
    simp only [List.map_cons, PyData.weightAll, List.length_cons]
    omega
theorem lay_ints (ns : List Int) (h : ∀ x ∈ ns, 0 ≤ x ∧ x ≤ 8) (hl : ns.length ≤ 8) : PyData.layable0 (.list (ns.map .int)) = true := by
  have h1 := weight_ints ns h
  have h2 := shaped_ints ns
  have h3 : PyData.weight (.list (ns.map .int)) ≤ 2 ^ 20 := by
    simp only [PyData.weight]
    omega
  unfold PyData.layable0
  rw [Bool.and_eq_true]
  exact ⟨h2, decide_eq_true h3⟩
theorem counts_small (ys : List Str) (hs : (dsOf ys).sum = 1) (h8 : ys.length ≤ 8) : ∀ x ∈ countsL ys ys.length, 0 ≤ x ∧ x ≤ 8 := by
  intro x hx
  obtain ⟨j, hj, rfl⟩ := List.mem_map.mp hx
  have := cK_bound ys hs j (List.mem_range.mp hj)
  omega

-- part T15
set_option maxHeartbeats 8000000
open LCg (NsObj lst)
noncomputable def ansAt (ys : List Str) (i : Nat) : Str := nmL (posC ys (1 + (i : Int)))
local macro_rules | `(tactic| walk_at "call ref") => `(tactic| (k_here; (with_reducible show wpAny _ _ (call (Value.ref 118) _ _) _ _ _); (refine wpAny_call ?_); k_dflt (refine' get ⟨?B, ?F, ?X, ?N, ?T, ?f, ?k⟩ ?d ?u ?h1 ?h2 ?h3 ?h4 ?h5 ?h6 ?h7 ?_; (case B | F | X | N | T => k_asm); (case f | k => first | exact rfl | assumption); (case d | u => exact Nat.le_of_ble_eq_true rfl); (case h1 | h2 | h3 => k_mem); (case h4 | h5 | h6 | h7 => assumption); k_whole); intro v' h' tk' e' F' N'; (rw [(by assumption : getH _ _ = _)] at e'); dsimp only at e'; (obtain ⟨ty', ey'⟩ := e'); subst ey'; (try k_sweep); (try dsimp only)))
theorem st15 {w : World} {h₀ : Heap} {L fa : Addr} {cd : Value} {m mg mb : Str → Option Value} {mean : ExcName → Option Value} {news : List (Addr × Obj)} {s : Shared} {Q : Flow → Shared → Prop} {E : Value → Shared → Prop}
    {pl bx bdx bl : Addr} {oc4 oc5 : Obj} {ps bs : List Value} {np nb bnd : Nat} {ys : List Str} {bhh : Int} {bth : Tok} {n : Int} {un : Tok}
    (C : Lx w h₀ L m mg mb mean news s.heap) (hc5 : (L + 1 + 1 + 1 + 1 + 1, oc5) ∈ news) (ho5 : oc5.data = .cell (some (.ref pl))) (hc4 : (L + 1 + 1 + 1 + 1, oc4) ∈ news) (ho4 : oc4.data = .cell (some (.ref bx))) (hpl : (pl, lstO ps np) ∈ news) (hJ : IntsAre ps (countsL ys ys.length))
    (hmn : m "many" = some (.int n un)) (hn : n = (ys.length : Int)) (h8 : ys.length ≤ 8) (hs : (dsOf ys).sum = 1) (hbr : (bx, instObj 171 bdx) ∈ news) (hbdx : (bdx, dictOf [⟨bhh, .str "_headers" bth, .ref bl⟩] bnd) ∈ news) (hbl : (bl, lstO bs nb) ∈ news) (hp : PairsAt news bs (bookAt ys ys.length))
    (hQ : ∀ h' tk', Fr h₀ L h' m → Q (.ret (.bool true)) { s with heap := h', toks := tk' }) :
    wpAny (model PySem.Challenge.rw_pg0317_01.row.prog w) (callerA.deeper (envOfC (Str.ofString "law") lawScope L fa cd)) (exec (stAt 15) (envOfC (Str.ofString "law") lawScope L fa cd)) Q E s := by
  obtain ⟨B, F, X, N, T⟩ := C
  revert X
  k_fill
  intro X
  dsimp only [stAt, lawBody, lawScope, PySem.Challenge.pw_pg0317_01, List.getLast?, List.getLast, List.getD, List.getElem?_cons_succ, List.getElem?_cons_zero, Option.getD_some]
  have hps9 := book_okN ys hs h8 ys.length (Nat.le_refl _)
  k_steps
  (rename IsRange _ _ _ _ _ _ _ _ => hr9)
  (rename Fr _ _ _ _ => F9)
  (rename News _ _ _ _ => N9)
  refine compR rfl hr9 (by decide) (by decide) (by omega) (by omega) (fun _ _ => rfl) (by decide) rfl F9 N9
    (fun i zs G => G = news ∧ StrsL zs ((List.range i).map (ansAt ys))) ⟨rfl, rfl, fun i x hx => by simp at hx⟩ ?turn ?done
  case turn =>
    rintro i tv zs G h₁ tk₁ I oI C oC D m₂ E' hi hyi ⟨rfl, hZ⟩ off ne hCL hDL hC0 F₁ N₁ hn
    refine asgC1 F₁ N₁ hn ne off rfl rfl fun h₂ tk₂ oC₂ F₂ N₂ hn₂ => ?_
    clear F₁ N₁ hn
    refine wpAny_tests_nil ?_
    rw [if_pos rfl]
    have hid : i < ys.length := by omega
    have e9 : tnU (i + 1) = Str.ofString "TURN-" ++ Str.ofString (toString (1 + (i : Int))) := by
      unfold tnU
      rw [show (((i + 1 : Nat)) : Int) = 1 + (i : Int) from by omega]
    have hx1 := okN_tnU (i + 1) (by omega)
    have hx2 : okN (Txt.lower (tnU (i + 1))) := by rw [lower_tnU _ (by omega)]; exact okN_tnL _ (by omega)
    have hg := book_get ys hs h8 i hid
    rw [e9] at hx1 hx2 hg
    have hp' : PairsAt ((I, oI) :: (C, oC₂) :: (D, lst zs) :: G) bs (bookAt ys ys.length) := hp.mono fun p hp => in3' hp
    k_steps
    refine ⟨_, _, _, _, _, rfl, by assumption, by assumption, off, by assumption, rfl, ?_⟩
    rw [List.range_succ, List.map_append]
    exact hZ.snoc (p := ansAt ys i)
  case done =>
    rintro D1 C h₁ tk₁ m' zs G ⟨rfl, hZ⟩ F₁ N₁ off hn0 hC0 hD0 hCL hDL hCD
    refine comp_post F₁ N₁ off hn0 hC0 hCL hCD fun h₂ F₂ N₂ => ?_
    clear F₁ N₁ hn0 F9 N9 hr9
    rw [show (n + 1 - 1).toNat = ys.length from by omega] at hZ
    k_steps
    (rename IsRange _ _ _ _ _ _ _ _ => hr9)
    (rename Fr _ _ _ _ => F9)
    (rename News _ _ _ _ => N9)
    refine compR rfl hr9 (by decide) (by decide) (by omega) (by omega) (fun _ _ => rfl) (by decide) rfl F9 N9
      (fun i us G2 => G2 = (D1, lst zs) :: G ∧ StrsL us ((List.range i).map (ansAt ys))) ⟨rfl, rfl, fun i x hx => by simp at hx⟩ ?turn2 ?done2
    case turn2 =>
      rintro i tv us G2 h₃ tk₃ I oI C2 oC D2 m₂ E' hi hyi ⟨rfl, hU⟩ off2 ne hCL2 hDL2 hC02 F₃ N₃ hn3
      refine asgC1 F₃ N₃ hn3 ne off2 rfl rfl fun h₄ tk₄ oC₄ F₄ N₄ hn₄ => ?_
      clear F₃ N₃ hn3
      refine wpAny_tests_nil ?_
      rw [if_pos rfl]
      have hid : i < ys.length := by omega
      k_steps
      refine index_list_ints ⟨_, (N₄ _ (in4' hpl)).1, rfl, _, rfl⟩ hJ (lay_ints _ (counts_small ys hs h8) (by rw [counts_len]; exact h8)) (counts_mem ys hs i hid) ?_
      have hpos : (countsL ys ys.length).idxOf (1 + (i : Int)) < ys.length := (pos_spec ys hs i hid).1
      k_steps
      refine ⟨_, _, _, _, _, rfl, by assumption, by assumption, off2, by assumption, rfl, ?_⟩
      rw [List.range_succ, List.map_append]
      exact hU.snoc (p := ansAt ys i)
    case done2 =>
      rintro D2 C2 h₃ tk₃ m3 us G2 ⟨rfl, hU⟩ F₃ N₃ off2 hn3 hC02 hD02 hCL2 hDL2 hCD2
      refine comp_post F₃ N₃ off2 hn3 hC02 hCL2 hCD2 fun h₄ F₄ N₄ => ?_
      clear F₃ N₃ hn3 F9 N9 hr9
      rw [show (n + 1 - 1).toNat = ys.length from by omega] at hU
      k_steps
      unfold Halt
      refine eq_strs (news := (D2, lst us) :: (D1, lst zs) :: G) (fun p hp => (N₄ p hp).1) (List.mem_cons_of_mem _ List.mem_cons_self) List.mem_cons_self hZ hU ?_ (Nat.le_of_ble_eq_true rfl) ?_
      · intro x hx
        obtain ⟨j, hj, rfl⟩ := List.mem_map.mp hx
        have := (pos_spec ys hs j (List.mem_range.mp hj)).1
        exact strOk_of (okV_of (okN_nmL _ (by omega)))
      · k_steps
        exact hQ _ _ F₄

-- part PS
set_option maxHeartbeats 8000000
theorem blank_eq : Str.ofString " " = ⟨#[32]⟩ := by decide +kernel
theorem tab_eq : Str.ofString "\t" = ⟨#[9]⟩ := by decide +kernel
theorem app_list (x y : Str) : (x ++ y).cps.toList = x.cps.toList ++ y.cps.toList := by
  show (x.cps ++ y.cps).toList = _
  simp
theorem blanks_list (n : Int) : (Txt.mul (Str.ofString " ") n).cps.toList = List.replicate n.toNat 32 := by rw [blank_eq, mul_one_list]
theorem tabs_list (n : Int) : (Txt.mul (Str.ofString "\t") n).cps.toList = List.replicate n.toNat 9 := by rw [tab_eq, mul_one_list]
noncomputable def okS (x : Int × Int × Int) : Prop := 0 ≤ x.1 ∧ x.1 ≤ 20 ∧ 0 ≤ x.2.1 ∧ x.2.1 ≤ 20
theorem lead_list (x : Int × Int × Int) : (leadOf x).cps.toList = List.replicate x.1.toNat 32 ++ List.replicate x.2.1.toNat 9 ∨ (leadOf x).cps.toList = List.replicate x.2.1.toNat 9 ++ List.replicate x.1.toNat 32 := by
  unfold leadOf
  split
  · left; rw [app_list, blanks_list, tabs_list]
  · right; rw [app_list, blanks_list, tabs_list]
theorem size_list (y : Str) : y.cps.size = y.cps.toList.length := by simp
theorem lead_size (x : Int × Int × Int) : (leadOf x).cps.size = x.1.toNat + x.2.1.toNat := by
  rw [size_list]
  rcases lead_list x with e | e <;> rw [e] <;> simp
  omega
theorem lead_okW (x : Int × Int × Int) (h : okS x) : okW (leadOf x) := by
  unfold okS at h
  refine ⟨fun c hc => ?_, by rw [lead_size]; omega⟩
  rcases lead_list x with e | e <;> rw [e] at hc <;> rcases List.mem_append.mp hc with hc | hc <;> have := (List.mem_replicate.mp hc).2 <;> simp [this]
theorem lead_okV (x : Int × Int × Int) (h : okS x) : okV (leadOf x) := by
  have hw := lead_okW x h
  refine ⟨fun c hc => ?_, by have := hw.2; omega⟩
  rcases hw.1 c hc with rfl | rfl <;> omega
theorem lead_tabs (x : Int × Int × Int) (h : okS x) : tabsOf (leadOf x) = x.2.1 := by
  unfold okS at h
  unfold tabsOf
  have e : (leadOf x).cps.toList.countP (· == 9) = x.2.1.toNat := by
    rcases lead_list x with e | e <;> rw [e, List.countP_append, List.countP_replicate, List.countP_replicate] <;> simp
  rw [e]; omega
theorem lead_net (x : Int × Int × Int) (h : okS x) : blanksOf (leadOf x) - tabsOf (leadOf x) = x.1 - x.2.1 := by
  unfold blanksOf
  rw [lead_tabs x h, lead_size]
  unfold okS at h
  omega
theorem ds_steps (ss : List (Int × Int × Int)) (h : ∀ x ∈ ss, okS x) : dsOf (ss.map leadOf) = netS ss := by
  unfold dsOf netS
  rw [List.map_map]
  exact List.map_congr_left fun x hx => lead_net x (h x hx)
/-- the steps of a script -/
noncomputable def ss0 (ns : List Int) : List (Int × Int × Int) := (ns.take 4 ++ [6, 9, 20]).map stepOf
noncomputable def lackOf (ns : List Int) : Int := 1 - ((ss0 ns).map fun x => x.1 - x.2.1).sum
noncomputable def ssAll (ns : List Int) : List (Int × Int × Int) := ss0 ns ++ [((if 0 > lackOf ns then 0 else lackOf ns), (if 0 > -lackOf ns then 0 else -lackOf ns), 0)]
theorem step_ok (v : Int) : 0 ≤ (stepOf v).1 ∧ (stepOf v).1 ≤ 3 ∧ 0 ≤ (stepOf v).2.1 ∧ (stepOf v).2.1 ≤ 3 := by
  unfold stepOf
  dsimp only
  rw [Int.fmod_eq_emod_of_nonneg _ (by decide), Int.fmod_eq_emod_of_nonneg _ (by decide)]
  omega
theorem sum_bound : ∀ l : List Int, (((l.map stepOf).map fun x => x.1 - x.2.1).sum ≤ 3 * (l.length : Int)) ∧ (-(3 * (l.length : Int)) ≤ ((l.map stepOf).map fun x => x.1 - x.2.1).sum)
  | [] => by simp
  | v :: r => by
    have h := sum_bound r
    have hv := step_ok v
    simp only [List.map_cons, List.sum_cons, List.length_cons]
    omega
theorem ss0_sum (ns : List Int) : ((ss0 ns).map fun x => x.1 - x.2.1).sum = (((ns.take 4).map stepOf).map fun x => x.1 - x.2.1).sum - 1 := by
  unfold ss0
  rw [List.map_append, List.map_append, List.sum_append]
  have e : ((([6, 9, 20] : List Int).map stepOf).map fun x => x.1 - x.2.1).sum = -1 := by decide
  rw [e]; omega
theorem ss0_len (ns : List Int) : 3 ≤ (ss0 ns).length ∧ (ss0 ns).length ≤ 7 := by
  unfold ss0
  rw [List.length_map, List.length_append, List.length_take]
  simp
  omega
theorem lack_bound (ns : List Int) : -20 ≤ lackOf ns ∧ lackOf ns ≤ 20 := by
  unfold lackOf
  rw [ss0_sum]
  have h := sum_bound (ns.take 4)
  have hl : (ns.take 4).length ≤ 4 := by rw [List.length_take]; omega
  omega
theorem ss_ok (ns : List Int) : ∀ x ∈ ssAll ns, okS x := by
  intro x hx
  rcases List.mem_append.mp hx with hx | hx
  · obtain ⟨v, _, rfl⟩ := List.mem_map.mp hx
    have := step_ok v
    unfold okS
    omega
  · have e := List.mem_singleton.mp hx
    subst e
    have := lack_bound ns
    unfold okS
    dsimp only
    split <;> split <;> omega
theorem ss_sum (ns : List Int) : (netS (ssAll ns)).sum = 1 := by
  unfold netS ssAll
  rw [List.map_append, List.sum_append]
  have e : ((ss0 ns).map fun x => x.1 - x.2.1).sum = 1 - lackOf ns := by unfold lackOf; omega
  rw [e]
  simp only [List.map_cons, List.map_nil, List.sum_cons, List.sum_nil]
  split <;> split <;> omega
theorem ss_len (ns : List Int) : 4 ≤ (ssAll ns).length ∧ (ssAll ns).length ≤ 8 := by
  have := ss0_len ns
  unfold ssAll
  rw [List.length_append, List.length_singleton]
  omega
/-- the rows' heights -/
noncomputable def psOf (ds : List Int) : List Int := (List.range ds.length).map (preS ds)
theorem rows_of {T : List (Addr × Obj)} {vs hs : List Value} {t0 : Tok} {ds : List Int} (hr : RowsAt T vs (.int 0 t0 :: hs) ds.length) (hI : IntsAre hs (hts ds)) : RowsI T vs (psOf ds) := by
  refine ⟨by rw [hr.1]; simp [psOf], fun i x hx => ?_⟩
  have hlt : i < ds.length := by
    have := (List.getElem?_eq_some_iff.mp hx).1
    simpa [psOf] using this
  have ex : x = preS ds i := by
    have := hx
    unfold psOf at this
    rw [List.getElem?_map, List.getElem?_range hlt] at this
    simpa using this.symm
  subst ex
  cases i with
  | zero =>
    obtain ⟨t, ti, e, hm⟩ := hr.2 0 (.int 0 t0) rfl (by rw [hr.1]; exact hlt)
    exact ⟨t, t0, ti, 0, e, by simpa [preS] using hm⟩
  | succ j =>
    have hlj : j < (hts ds).length := by simp [hts]; omega
    obtain ⟨tv, e2⟩ := hI.get j _ (List.getElem?_eq_getElem hlj)
    obtain ⟨t, ti, e, hm⟩ := hr.2 (j + 1) _ (by rw [List.getElem?_cons_succ]; exact e2) (by rw [hr.1]; exact hlt)
    refine ⟨t, tv, ti, 0, e, ?_⟩
    have e3 : (hts ds)[j] = preS ds (j + 1) := by simp [hts, preS]
    rw [e3] at hm
    exact hm
theorem place_eq (ds : List Int) (k : Nat) (hk : k < ds.length) : placeV (psOf ds) k = 1 + (rankOf ds k : Int) := by
  unfold placeV rankOf
  congr 1
  congr 1
  have hl : (psOf ds).length = ds.length := by simp [psOf]
  rw [hl, List.count, List.countP_map]
  refine List.countP_congr fun j hj => ?_
  have hj := List.mem_range.mp hj
  have ge : ∀ i, i < ds.length → (psOf ds)[i]? = some (preS ds i) := fun i hi => by
    unfold psOf
    rw [List.getElem?_map, List.getElem?_range hi]; rfl
  show (cmpV (psOf ds) j k == 1) = true ↔ _
  rw [cmpV_eq (ge j hj) (ge k hk)]
  unfold beats
  simp only [beq_iff_eq, decide_eq_true_eq]
  split
  · omega
  · split
    · omega
    · split
      · omega
      · split <;> omega
theorem counts_place (ys : List Str) (hs : (dsOf ys).sum = 1) : countsL ys ys.length = (List.range (psOf (dsOf ys)).length).map fun o => placeV (psOf (dsOf ys)) o := by
  have hl : (psOf (dsOf ys)).length = ys.length := by simp [psOf, ds_len]
  rw [hl]
  unfold countsL
  refine List.map_congr_left fun k hk => ?_
  have hk : k < (dsOf ys).length := by rw [ds_len]; exact List.mem_range.mp hk
  rw [place_eq _ k hk]
  show ((cntP (rot k (dsOf ys)) : Nat) : Int) = _
  rw [cnt_rot _ hs k hk]
  omega
theorem ring_zero (ys : List Str) : ringAt ys 0 = (List.range ys.length).map fun j => (nmL j, ys.getD j default) := by
  unfold ringAt
  rw [List.drop_zero, List.range_zero, List.map_nil, List.append_nil]
  rfl

-- part LW
set_option maxHeartbeats 8000000
open LCg (NsObj lst)
noncomputable def Off (L : Nat) (p : Addr × Obj) : Prop := @Ne Nat p.1 (L + 1) ∧ @Ne Nat p.1 (L + 1 + 1) ∧ @Ne Nat p.1 (L + 1 + 1 + 1) ∧ @Ne Nat p.1 (L + 1 + 1 + 1 + 1) ∧ @Ne Nat p.1 (L + 1 + 1 + 1 + 1 + 1) ∧ @Ne Nat p.1 (L + 1 + 1 + 1 + 1 + 1 + 1)
theorem in5 {a b c d e : Addr × Obj} {T : List (Addr × Obj)} {p : Addr × Obj} (h : p ∈ T) : p ∈ a :: b :: c :: d :: e :: T := List.mem_cons_of_mem _ (in4' h)
theorem in7 {a b c d e f g : Addr × Obj} {T : List (Addr × Obj)} {p : Addr × Obj} (h : p ∈ T) : p ∈ a :: b :: c :: d :: e :: f :: g :: T := List.mem_cons_of_mem _ (List.mem_cons_of_mem _ (in5 h))
theorem PairsAt.strip {c : Addr × Obj} {v : Option Value} {news : List (Addr × Obj)} {vs : List Value} {xs : List (Str × Str)} (h : PairsAt (c :: news) vs xs) (hc : c.2.data = .cell v) : PairsAt news vs xs := by
  refine ⟨h.1, fun i x hx => ?_⟩
  obtain ⟨t, k1, k2, nt, e, hm⟩ := h.2 i x hx
  refine ⟨t, k1, k2, nt, e, ?_⟩
  rcases List.mem_cons.mp hm with q | q
  · rw [← q] at hc
    cases hc
  · exact q
theorem RowsI.mono {news news' : List (Addr × Obj)} {vs : List Value} {ps : List Int} (h : RowsI news vs ps) (k : ∀ p ∈ news, p ∈ news') : RowsI news' vs ps :=
  ⟨h.1, fun i x hx => let ⟨t, k1, k2, nt, e, hm⟩ := h.2 i x hx; ⟨t, k1, k2, nt, e, k _ hm⟩⟩
theorem lawBody_eq : lawBody = [stAt 0, stAt 1, stAt 2, stAt 3, stAt 4, stAt 5, stAt 6, stAt 7, stAt 8, stAt 9, stAt 10, stAt 11, stAt 12, stAt 13, stAt 14, stAt 15] := rfl
theorem in6 {a b c d e f : Addr × Obj} {T : List (Addr × Obj)} {p : Addr × Obj} (h : p ∈ T) : p ∈ a :: b :: c :: d :: e :: f :: T := List.mem_cons_of_mem _ (List.mem_cons_of_mem _ (in4' h))

theorem mv0 {α : Type} {T : List α} {c1 c2 c3 c4 c5 c6 t d p : α} (h : p ∈ c1 :: c2 :: c3 :: c4 :: c5 :: c6 :: t :: d :: T) : p ∈ t :: d :: (T ++ [c6, c5, c4, c3, c2, c1]) := by
  simp only [List.mem_cons, List.mem_append, List.not_mem_nil, or_false] at h ⊢
  rcases h with h | h | h | h | h | h | h | h | h <;> simp [h]
section
variable {L : Nat} {D l bl cnt : Addr} {o o1 o2 o3 o4 o5 o6 ol ob oc : Obj} {R T : List (Addr × Obj)}
theorem Off.gt (h : @LT.lt Nat _ (L + 1 + 1 + 1 + 1 + 1 + 1) D) : Off L (D, o) := by unfold Off; dsimp only; omega
theorem Off.ne6 (h : ∀ q ∈ (L + 1, o1) :: (L + 1 + 1, o2) :: (L + 1 + 1 + 1, o3) :: (L + 1 + 1 + 1 + 1, o4) :: (L + 1 + 1 + 1 + 1 + 1, o5) :: (L + 1 + 1 + 1 + 1 + 1 + 1, o6) :: R, @Ne Nat q.1 D) : Off L (D, o) :=
  ⟨Ne.symm (h _ (.head _)), Ne.symm (h _ m1), Ne.symm (h _ m2), Ne.symm (h _ m3), Ne.symm (h _ m4), Ne.symm (h _ m5)⟩
theorem Off.ne6' (h : ∀ q ∈ (L + 1 + 1 + 1 + 1 + 1 + 1, o6) :: (L + 1 + 1 + 1 + 1 + 1, o5) :: (L + 1 + 1 + 1 + 1, o4) :: (L + 1 + 1 + 1, o3) :: (L + 1 + 1, o2) :: (L + 1, o1) :: R, @Ne Nat q.1 D) : Off L (D, o) :=
  ⟨Ne.symm (h _ m5), Ne.symm (h _ m4), Ne.symm (h _ m3), Ne.symm (h _ m2), Ne.symm (h _ m1), Ne.symm (h _ (.head _))⟩
theorem Off.ne5 (h1 : @Ne Nat D (L + 1)) (h : ∀ q ∈ (L + 1 + 1, o2) :: (L + 1 + 1 + 1, o3) :: (L + 1 + 1 + 1 + 1, o4) :: (L + 1 + 1 + 1 + 1 + 1, o5) :: (L + 1 + 1 + 1 + 1 + 1 + 1, o6) :: R, @Ne Nat q.1 D) : Off L (D, o) :=
  ⟨h1, Ne.symm (h _ (.head _)), Ne.symm (h _ m1), Ne.symm (h _ m2), Ne.symm (h _ m3), Ne.symm (h _ m4)⟩
theorem cne (a b : Nat) (h : a ≠ b) : @Ne Nat (L + a) (L + b) := fun e => h (Nat.add_left_cancel e)
theorem off1 (hR : ∀ p ∈ R, Off L p) : ∀ p ∈ (L + 1 + 1, o2) :: (L + 1 + 1 + 1, o3) :: (L + 1 + 1 + 1 + 1, o4) :: (L + 1 + 1 + 1 + 1 + 1, o5) :: (L + 1 + 1 + 1 + 1 + 1 + 1, o6) :: R, @Ne Nat p.1 (L + 1) :=
  all5 (cne 2 1 (by decide)) (cne 3 1 (by decide)) (cne 4 1 (by decide)) (cne 5 1 (by decide)) (cne 6 1 (by decide)) fun p hp => (hR p hp).1
theorem off2 (hR : ∀ p ∈ R, Off L p) : ∀ p ∈ (L + 1, o1) :: (L + 1 + 1 + 1, o3) :: (L + 1 + 1 + 1 + 1, o4) :: (L + 1 + 1 + 1 + 1 + 1, o5) :: (L + 1 + 1 + 1 + 1 + 1 + 1, o6) :: R, @Ne Nat p.1 (L + 1 + 1) :=
  all5 (cne 1 2 (by decide)) (cne 3 2 (by decide)) (cne 4 2 (by decide)) (cne 5 2 (by decide)) (cne 6 2 (by decide)) fun p hp => (hR p hp).2.1
theorem off3 (hR : ∀ p ∈ R, Off L p) : ∀ p ∈ (L + 1, o1) :: (L + 1 + 1, o2) :: (L + 1 + 1 + 1 + 1, o4) :: (L + 1 + 1 + 1 + 1 + 1, o5) :: (L + 1 + 1 + 1 + 1 + 1 + 1, o6) :: R, @Ne Nat p.1 (L + 1 + 1 + 1) :=
  all5 (cne 1 3 (by decide)) (cne 2 3 (by decide)) (cne 4 3 (by decide)) (cne 5 3 (by decide)) (cne 6 3 (by decide)) fun p hp => (hR p hp).2.2.1
theorem off4 (hR : ∀ p ∈ R, Off L p) : ∀ p ∈ (L + 1, o1) :: (L + 1 + 1, o2) :: (L + 1 + 1 + 1, o3) :: (L + 1 + 1 + 1 + 1 + 1, o5) :: (L + 1 + 1 + 1 + 1 + 1 + 1, o6) :: R, @Ne Nat p.1 (L + 1 + 1 + 1 + 1) :=
  all5 (cne 1 4 (by decide)) (cne 2 4 (by decide)) (cne 3 4 (by decide)) (cne 5 4 (by decide)) (cne 6 4 (by decide)) fun p hp => (hR p hp).2.2.2.1
theorem off5 (hR : ∀ p ∈ R, Off L p) : ∀ p ∈ (L + 1, o1) :: (L + 1 + 1, o2) :: (L + 1 + 1 + 1, o3) :: (L + 1 + 1 + 1 + 1, o4) :: (L + 1 + 1 + 1 + 1 + 1 + 1, o6) :: R, @Ne Nat p.1 (L + 1 + 1 + 1 + 1 + 1) :=
  all5 (cne 1 5 (by decide)) (cne 2 5 (by decide)) (cne 3 5 (by decide)) (cne 4 5 (by decide)) (cne 6 5 (by decide)) fun p hp => (hR p hp).2.2.2.2.1
theorem off6 {pl : Addr} (h : @LT.lt Nat _ (L + 1 + 1 + 1 + 1 + 1 + 1) pl) (hR : ∀ p ∈ R, Off L p) (hR' : ∀ p ∈ R, @LT.lt Nat _ p.1 pl) : ∀ p ∈ (L + 1, o1) :: (L + 1 + 1, o2) :: (L + 1 + 1 + 1, o3) :: (L + 1 + 1 + 1 + 1, o4) :: (L + 1 + 1 + 1 + 1 + 1, o5) :: R, @Ne Nat p.1 (L + 1 + 1 + 1 + 1 + 1 + 1) ∧ @Ne Nat p.1 pl :=
  all5 ⟨cne 1 6 (by decide), by show @Ne Nat _ _; omega⟩ ⟨cne 2 6 (by decide), by show @Ne Nat _ _; omega⟩ ⟨cne 3 6 (by decide), by show @Ne Nat _ _; omega⟩ ⟨cne 4 6 (by decide), by show @Ne Nat _ _; omega⟩ ⟨cne 5 6 (by decide), by show @Ne Nat _ _; omega⟩ fun p hp => ⟨(hR p hp).2.2.2.2.2, Nat.ne_of_lt (hR' p hp)⟩
theorem offT (h1 : Off L (l, ol)) (h2 : Off L (bl, ob)) (h3 : Off L (cnt, oc)) (hR : ∀ p ∈ R, @Ne Nat p.1 l ∧ @Ne Nat p.1 bl ∧ @Ne Nat p.1 cnt) :
    ∀ p ∈ (L + 1, o1) :: (L + 1 + 1, o2) :: (L + 1 + 1 + 1, o3) :: (L + 1 + 1 + 1 + 1, o4) :: (L + 1 + 1 + 1 + 1 + 1, o5) :: (L + 1 + 1 + 1 + 1 + 1 + 1, o6) :: R, @Ne Nat p.1 l ∧ @Ne Nat p.1 bl ∧ @Ne Nat p.1 cnt :=
  all5 ⟨h1.1.symm, h2.1.symm, h3.1.symm⟩ ⟨h1.2.1.symm, h2.2.1.symm, h3.2.1.symm⟩ ⟨h1.2.2.1.symm, h2.2.2.1.symm, h3.2.2.1.symm⟩ ⟨h1.2.2.2.1.symm, h2.2.2.2.1.symm, h3.2.2.2.1.symm⟩ ⟨h1.2.2.2.2.1.symm, h2.2.2.2.2.1.symm, h3.2.2.2.2.1.symm⟩
    (all1 ⟨h1.2.2.2.2.2.symm, h2.2.2.2.2.2.symm, h3.2.2.2.2.2.symm⟩ hR)
end
theorem i8 {n : Nat} (h : n ≤ 8) : (n : Int) ≤ 8 := by omega
theorem i0 {n : Nat} (h : 4 ≤ n) : 0 < (n : Int) := by omega
theorem lt3 {a b c d : Nat} (h : a < b) (g : b < c) (k : c < d) : a < d := Nat.lt_trans (Nat.lt_trans h g) k
theorem ps8 {ys : List Str} (h : ys.length ≤ 8) : (psOf (dsOf ys)).length ≤ 8 := by simp [psOf, ds_len]; exact h
theorem lawWalk {w : World} {h₀ : Heap} {L fa : Addr} {cd : Value} {m mg mb : Str → Option Value} {mean : ExcName → Option Value} {s : Shared} {Q : Flow → Shared → Prop} {E : Value → Shared → Prop} {o1 o2 o3 o4 o5 o6 : Obj} {l0 : Addr} {ws : List Value} {ns : List Int}
    (B : Below callerA h₀ [] h₀) (X : (heapD w.params).In h₀) (T : Top viewD (looseW viewD [Str.ofString "_name_disallowed_re", Str.ofString "_value_disallowed_re", Str.ofString "Whitespace"]) mean mg mb h₀)
    (F : Fr h₀ L s.heap m) (N : News h₀ L s.heap [(L + 1 + 1 + 1 + 1 + 1 + 1, o6), (L + 1 + 1 + 1 + 1 + 1, o5), (L + 1 + 1 + 1 + 1, o4), (L + 1 + 1 + 1, o3), (L + 1 + 1, o2), (L + 1, o1)])
    (e1 : o1.data = .cell none) (e2 : o2.data = .cell none) (e3 : o3.data = .cell none) (e4 : o4.data = .cell none) (e5 : o5.data = .cell none) (e6 : o6.data = .cell none)
    (hm : m "script" = some (.ref l0)) (hl : h₀.IsList l0 ws.toArray) (hi : IntsAre ws ns) (hsz : ns.length ≤ 63)
    (hQ : ∀ h' tk' m', Fr h₀ L h' m' → Q (.ret (.bool true)) { s with heap := h', toks := tk' }) :
    wpAny (model PySem.Challenge.rw_pg0317_01.row.prog w) (callerA.deeper (envOfC (Str.ofString "law") lawScope L fa cd)) (execs lawBody (envOfC (Str.ofString "law") lawScope L fa cd)) Q E s := by
  rw [lawBody_eq]
  -- 0 steps
  refine wpAny_execs_cons ?_
  refine st0 ⟨B, F, X, N, T⟩ hm hl hi hsz ?_
  clear F N
  intro h0 tk0 D0 us0 T0 hT0 hD0 hD0' hS0 F0 N0
  refine wpAny_execs_cons ?_
  -- 1 lacking
  have hl0 : us0.length ≤ 7 := hS0.1 ▸ (ss0_len ns).2
  refine st1 (ss := ss0 ns) (ls := D0) (n := us0.length) (vs := us0) ⟨B, F0, X, N0, T⟩ rfl List.mem_cons_self (hS0.mono fun p hp => List.mem_cons_of_mem _ (List.mem_append_left _ hp)) (Nat.le_trans hl0 (by decide)) ?_
  intro h1 tk1 u1 F1 N1
  clear F0 N0
  refine wpAny_execs_cons ?_
  -- 2 steps.append
  refine st2 (ls := D0) (vs := us0) (x := lackOf ns) (u := u1) ⟨B, F1, X, N1, T⟩ rfl rfl (Nat.le_trans hl0 (by decide)) (allA hD0' hD0) ?_
  intro h2 tk2 t k1 k2 k3 n2 hlt2 hDt F2 N2
  clear F1 N1
  have hS2 : StepsAt ((t, tupO [.int (if 0 > lackOf ns then 0 else lackOf ns) k1, .int (if 0 > -lackOf ns then 0 else -lackOf ns) k2, .int 0 k3] 0) :: T0) (us0 ++ [.ref t]) (ssAll ns) :=
    StepsAt.snoc (p := ((if 0 > lackOf ns then 0 else lackOf ns), (if 0 > -lackOf ns then 0 else -lackOf ns), 0)) (hS0.mono fun p hp => List.mem_cons_of_mem _ hp) List.mem_cons_self
  generalize us0 ++ [Value.ref t] = us at N2 hS2
  have hul : us.length = (ssAll ns).length := hS2.1
  have h8 : us.length ≤ 8 := hul ▸ (ss_len ns).2
  have h4' : 4 ≤ us.length := hul ▸ (ss_len ns).1
  have hR : ∀ p ∈ (t, tupO [.int (if 0 > lackOf ns then 0 else lackOf ns) k1, .int (if 0 > -lackOf ns then 0 else -lackOf ns) k2, .int 0 k3] 0) :: (D0, lstO us n2) :: T0, Off L p :=
    all1 (Off.gt (hlt2 _ (List.mem_append_right _ List.mem_cons_self))) (all1 (Off.ne6' hD0) fun p hp => Off.gt (hT0 p hp _ List.mem_cons_self))
  have hDR : (D0, lstO us n2) ∈ (t, tupO [.int (if 0 > lackOf ns then 0 else lackOf ns) k1, .int (if 0 > -lackOf ns then 0 else -lackOf ns) k2, .int 0 k3] 0) :: (D0, lstO us n2) :: T0 := m1
  have hSR : StepsAt ((t, tupO [.int (if 0 > lackOf ns then 0 else lackOf ns) k1, .int (if 0 > -lackOf ns then 0 else -lackOf ns) k2, .int 0 k3] 0) :: (D0, lstO us n2) :: T0) us (ssAll ns) := hS2.mono fun p hp => blk [_] [] [_] (List.mem_cons_of_mem _ hp |> blk [] [_] [_])
  replace N2 : News h₀ L h2 ((L + 1, o1) :: (L + 1 + 1, o2) :: (L + 1 + 1 + 1, o3) :: (L + 1 + 1 + 1 + 1, o4) :: (L + 1 + 1 + 1 + 1 + 1, o5) :: (L + 1 + 1 + 1 + 1 + 1 + 1, o6) :: (t, tupO [.int (if 0 > lackOf ns then 0 else lackOf ns) k1, .int (if 0 > -lackOf ns then 0 else -lackOf ns) k2, .int 0 k3] 0) :: (D0, lstO us n2) :: T0) := newsSub N2 fun p hp => mv0 hp
  clear hT0 hD0 hD0' hS0 hS2 hlt2
  generalize (t, tupO [.int (if 0 > lackOf ns then 0 else lackOf ns) k1, .int (if 0 > -lackOf ns then 0 else -lackOf ns) k2, .int 0 k3] 0) :: (D0, lstO us n2) :: T0 = R at N2 hR hDR hSR
  refine wpAny_execs_cons ?_
  -- 3 many
  refine st3 (ls := D0) (vs := us) (n := n2) ⟨B, F2, X, N2, T⟩ rfl (in6 hDR) (Nat.le_trans h8 (by decide)) ?_
  intro h3 tk3 u3 F3 N3
  clear F2 N2
  refine wpAny_execs_cons ?_
  -- 4 leads
  have hok := ss_ok ns
  refine st4 (c := L) (ls := D0) (vs := us) (n := n2) (ss := ssAll ns) ⟨B, F3, X, N3, T⟩ e1 rfl (in5 hDR) (hSR.mono fun p hp => in5 hp) (Nat.le_trans h8 (by decide)) hok (off1 hR) ?_
  intro h4 tk4 D1 lds p1 hS4 hD4 hD4' f1 F4 N4
  clear F3 N3
  obtain ⟨ys, hys⟩ : ∃ ys, ys = (ssAll ns).map leadOf := ⟨_, rfl⟩
  rw [← hys] at hS4
  have hyl : ys.length = us.length := by rw [hys, List.length_map, hul]
  have hyv : ∀ y ∈ ys, okV y := by
    intro y hy
    rw [hys] at hy
    obtain ⟨x, hx, rfl⟩ := List.mem_map.mp hy
    exact lead_okV x (hok x hx)
  have hyw : ∀ y ∈ ys, okW y := by
    intro y hy
    rw [hys] at hy
    obtain ⟨x, hx, rfl⟩ := List.mem_map.mp hy
    exact lead_okW x (hok x hx)
  have hds : dsOf ys = netS (ssAll ns) := by rw [hys]; exact ds_steps _ hok
  have hsum : (dsOf ys).sum = 1 := by rw [hds]; exact ss_sum ns
  clear hys
  have hyi : (ys.length : Int) = (us.length : Int) := congrArg Nat.cast hyl
  have hyi' : (us.length : Int) = (ys.length : Int) := hyi.symm
  have hy8 : ys.length ≤ 8 := hyl ▸ h8
  replace hR : ∀ p ∈ (D1, lstO lds lds.length) :: R, Off L p := all1 (Off.ne5 hD4' hD4) hR
  have hld : (D1, lstO lds lds.length) ∈ (D1, lstO lds lds.length) :: R := List.mem_cons_self
  replace hDR : (D0, lstO us n2) ∈ (D1, lstO lds lds.length) :: R := List.mem_cons_of_mem _ hDR
  replace hSR : StepsAt ((D1, lstO lds lds.length) :: R) us (ssAll ns) := hSR.mono fun p hp => List.mem_cons_of_mem _ hp
  replace N4 : News h₀ L h4 ((L + 1, p1) :: (L + 1 + 1, o2) :: (L + 1 + 1 + 1, o3) :: (L + 1 + 1 + 1 + 1, o4) :: (L + 1 + 1 + 1 + 1 + 1, o5) :: (L + 1 + 1 + 1 + 1 + 1 + 1, o6) :: (D1, lstO lds lds.length) :: R) := nblk [_] [_] [_, _, _, _, _] N4
  clear hD4 hD4'
  generalize (D1, lstO lds lds.length) :: R = R4 at N4 hR hld hDR hSR
  refine wpAny_execs_cons ?_
  -- 5 ring
  refine st5 (ld := D1) (vs := lds) (nl := lds.length) (n := (us.length : Int)) (u := u3) (xs := ys) ⟨B, F4, X, N4, T⟩ f1 rfl (Int.natCast_nonneg _) (i8 h8) (in5 hld) hS4 hyi hyv ?_
  intro h5 tk5 x dx l hh th nd rs T5 hP5 hT5 hl5 hdx5 hldx hdxx F5 N5
  clear F4 N4
  rw [show ((us.length : Int)).toNat = ys.length from hyl.symm, ← ring_zero] at hP5
  have h6 : @LT.lt Nat _ (L + 1 + 1 + 1 + 1 + 1 + 1) dx := hdx5 _ (List.mem_append_right _ m5)
  have hlO : Off L (l, lstO rs rs.length) := Off.ne6 fun q hq => hl5 q (List.mem_append_right _ hq)
  have hr : (x, instObj 171 dx) ∈ (x, instObj 171 dx) :: (dx, dictOf [⟨hh, .str "_headers" th, .ref l⟩] nd) :: (T5 ++ R4) := List.mem_cons_self
  have hdx : (dx, dictOf [⟨hh, .str "_headers" th, .ref l⟩] nd) ∈ (x, instObj 171 dx) :: (dx, dictOf [⟨hh, .str "_headers" th, .ref l⟩] nd) :: (T5 ++ R4) := m1
  have sub5 : ∀ p ∈ R4, p ∈ (x, instObj 171 dx) :: (dx, dictOf [⟨hh, .str "_headers" th, .ref l⟩] nd) :: (T5 ++ R4) := fun p hp => List.mem_cons_of_mem _ (List.mem_cons_of_mem _ (List.mem_append_right _ hp))
  replace hP5 : PairsAt ((x, instObj 171 dx) :: (dx, dictOf [⟨hh, .str "_headers" th, .ref l⟩] nd) :: (T5 ++ R4)) rs (ringAt ys 0) := hP5.mono fun p hp => List.mem_cons_of_mem _ (List.mem_cons_of_mem _ (List.mem_append_left _ hp))
  replace hR : ∀ p ∈ (x, instObj 171 dx) :: (dx, dictOf [⟨hh, .str "_headers" th, .ref l⟩] nd) :: (T5 ++ R4), Off L p := all1 (Off.gt (Nat.lt_trans h6 hdxx)) (all1 (Off.gt h6) (allA (fun p hp => Off.gt (hT5 p hp _ m5)) hR))
  have hRl : ∀ p ∈ (x, instObj 171 dx) :: (dx, dictOf [⟨hh, .str "_headers" th, .ref l⟩] nd) :: (T5 ++ R4), @Ne Nat p.1 l := all1 (Nat.ne_of_gt (Nat.lt_trans hldx hdxx)) (all1 (Nat.ne_of_gt hldx) (allA (fun p hp => hl5 p (List.mem_append_left _ hp)) fun p hp => hl5 p (List.mem_append_right _ (in6 hp))))
  replace N5 : News h₀ L h5 ((L + 1, p1) :: (L + 1 + 1, o2) :: (L + 1 + 1 + 1, o3) :: (L + 1 + 1 + 1 + 1, o4) :: (L + 1 + 1 + 1 + 1 + 1, o5) :: (L + 1 + 1 + 1 + 1 + 1 + 1, o6) :: (l, lstO rs rs.length) :: (x, instObj 171 dx) :: (dx, dictOf [⟨hh, .str "_headers" th, .ref l⟩] nd) :: (T5 ++ R4)) := nblk [] (_ :: _ :: _ :: T5) [_, _, _, _, _, _] (nblk [] [_, _] [_] N5)
  replace hld := sub5 _ hld
  replace hDR := sub5 _ hDR
  replace hSR := hSR.mono sub5
  clear sub5 hT5 hl5 hdx5 hldx hdxx h6
  generalize (x, instObj 171 dx) :: (dx, dictOf [⟨hh, .str "_headers" th, .ref l⟩] nd) :: (T5 ++ R4) = R5 at *
  refine wpAny_execs_cons ?_
  -- 6 rows
  replace N5 : News h₀ L h5 ((L + 1 + 1, o2) :: (L + 1, p1) :: (L + 1 + 1 + 1, o3) :: (L + 1 + 1 + 1 + 1, o4) :: (L + 1 + 1 + 1 + 1 + 1, o5) :: (L + 1 + 1 + 1 + 1 + 1 + 1, o6) :: (l, lstO rs rs.length) :: R5) := nblk [] [_] [_] N5
  refine st6 (x := x) (dx := dx) (l := l) (vs := rs) (nl := rs.length) (xs := ringAt ys 0) (n := (us.length : Int)) (u := u3) ⟨B, F5, X, N5, T⟩ e2 (off2 (all1 hlO hR)) rfl rfl (i0 h4') (i8 h8) (in6 hr) (in6 hdx) (in5 List.mem_cons_self) (hP5.mono fun p hp => in6 hp) ((congrArg Nat.cast (ring_len ys 0 (Nat.zero_le _))).trans hyi) (ring_snd ys 0 (Nat.zero_le _) okW hyw) ?_
  intro h6 tk6 p2 S sc rvs hs t0 T6 f2 hI6 hR6 hcS hT6 hS6 F6 N6
  clear F5 N5
  rw [show ((us.length : Int)).toNat = (dsOf ys).length from (hyl.symm.trans (ds_len ys).symm)] at hR6
  rw [ring_net ys 0 (Nat.zero_le _), show rot 0 (dsOf ys) = dsOf ys from by unfold rot; simp] at hI6
  have h6c : @LT.lt Nat _ (L + 1 + 1 + 1 + 1 + 1 + 1) S := hS6 _ m4
  have h6l : @LT.lt Nat _ l S := hS6 _ m5
  replace hR : ∀ p ∈ (S, lstO rvs sc) :: (T6 ++ R5), Off L p := all1 (Off.gt h6c) (allA (fun p hp => Off.gt (Nat.lt_trans h6c (hT6 p hp))) hR)
  replace hRl : ∀ p ∈ (S, lstO rvs sc) :: (T6 ++ R5), @Ne Nat p.1 l := all1 (Nat.ne_of_gt h6l) (allA (fun p hp => Nat.ne_of_gt (Nat.lt_trans h6l (hT6 p hp))) hRl)
  have sub6 : ∀ p ∈ R5, p ∈ (S, lstO rvs sc) :: (T6 ++ R5) := fun p hp => List.mem_cons_of_mem _ (List.mem_append_right _ hp)
  have hSrow : (S, lstO rvs sc) ∈ (S, lstO rvs sc) :: (T6 ++ R5) := List.mem_cons_self
  have hrows : RowsI ((S, lstO rvs sc) :: (T6 ++ R5)) rvs (psOf (dsOf ys)) := (rows_of hR6 hI6).mono fun p hp => List.mem_cons_of_mem _ (List.mem_append_left _ hp)
  replace N6 : News h₀ L h6 ((L + 1 + 1, p2) :: (L + 1, p1) :: (L + 1 + 1 + 1, o3) :: (L + 1 + 1 + 1 + 1, o4) :: (L + 1 + 1 + 1 + 1 + 1, o5) :: (L + 1 + 1 + 1 + 1 + 1 + 1, o6) :: (l, lstO rs rs.length) :: (S, lstO rvs sc) :: (T6 ++ R5)) := nblk [_] (_ :: T6) [_, _, _, _, _, _] N6
  replace hld := sub6 _ hld
  replace hDR := sub6 _ hDR
  replace hr := sub6 _ hr
  replace hdx := sub6 _ hdx
  replace hSR := hSR.mono sub6
  replace hP5 := hP5.mono sub6
  clear sub6 hT6 hS6 hcS h6c h6l hR6 hI6
  generalize (S, lstO rvs sc) :: (T6 ++ R5) = R6 at *
  refine wpAny_execs_cons ?_
  -- 7 judge
  replace N6 : News h₀ L h6 ((L + 1 + 1 + 1, o3) :: (L + 1, p1) :: (L + 1 + 1, p2) :: (L + 1 + 1 + 1 + 1, o4) :: (L + 1 + 1 + 1 + 1 + 1, o5) :: (L + 1 + 1 + 1 + 1 + 1 + 1, o6) :: (l, lstO rs rs.length) :: R6) := nblk [] [_, _] [_] (nblk [] [_] [_] N6)
  refine st7 ⟨B, F6, X, N6, T⟩ e3 (off3 (all1 hlO hR)) ?_
  intro h7 tk7 p3 jx jdx jl t1 t2 k4 k5 k6 k7 jhh jth jnd f3 g1 g2 g3 g4 g5 g6 F7 N7
  clear F6 N6
  have v1 : @LT.lt Nat _ (L + 1 + 1 + 1 + 1 + 1 + 1) t1 := g1 _ m4
  have w1 : @LT.lt Nat _ l t1 := g1 _ m5
  have v3 := lt3 v1 g3 g4
  have w3 := lt3 w1 g3 g4
  replace hR := all1 (P := Off L) (a := (jx, instObj 199 jdx)) (Off.gt (lt3 v3 g5 g6)) (all1 (a := (jdx, dictOf [⟨jhh, .str "comp_select_list" jth, .ref jl⟩] jnd)) (Off.gt (Nat.lt_trans v3 g5)) (all1 (a := (jl, lstO [.ref t1, .ref t2] 0)) (Off.gt v3) (all1 (a := (t2, tupO [.int 1 k6, .int (-1) k7] 0)) (Off.gt (Nat.lt_trans v1 g3)) (all1 (a := (t1, tupO [.int 0 k4, .int 1 k5] 0)) (Off.gt v1) hR))))
  replace hRl := all1 (P := fun p : Addr × Obj => @Ne Nat p.1 l) (a := (jx, instObj 199 jdx)) (Nat.ne_of_gt (lt3 w3 g5 g6)) (all1 (a := (jdx, dictOf [⟨jhh, .str "comp_select_list" jth, .ref jl⟩] jnd)) (Nat.ne_of_gt (Nat.lt_trans w3 g5)) (all1 (a := (jl, lstO [.ref t1, .ref t2] 0)) (Nat.ne_of_gt w3) (all1 (a := (t2, tupO [.int 1 k6, .int (-1) k7] 0)) (Nat.ne_of_gt (Nat.lt_trans w1 g3)) (all1 (a := (t1, tupO [.int 0 k4, .int 1 k5] 0)) (Nat.ne_of_gt w1) hRl))))
  have sub7 : ∀ p ∈ R6, p ∈ (jx, instObj 199 jdx) :: (jdx, dictOf [⟨jhh, .str "comp_select_list" jth, .ref jl⟩] jnd) :: (jl, lstO [.ref t1, .ref t2] 0) :: (t2, tupO [.int 1 k6, .int (-1) k7] 0) :: (t1, tupO [.int 0 k4, .int 1 k5] 0) :: R6 := fun p hp => in5 hp
  have j1 : (jx, instObj 199 jdx) ∈ (jx, instObj 199 jdx) :: (jdx, dictOf [⟨jhh, .str "comp_select_list" jth, .ref jl⟩] jnd) :: (jl, lstO [.ref t1, .ref t2] 0) :: (t2, tupO [.int 1 k6, .int (-1) k7] 0) :: (t1, tupO [.int 0 k4, .int 1 k5] 0) :: R6 := List.mem_cons_self
  have j2 : (jdx, dictOf [⟨jhh, .str "comp_select_list" jth, .ref jl⟩] jnd) ∈ (jx, instObj 199 jdx) :: (jdx, dictOf [⟨jhh, .str "comp_select_list" jth, .ref jl⟩] jnd) :: (jl, lstO [.ref t1, .ref t2] 0) :: (t2, tupO [.int 1 k6, .int (-1) k7] 0) :: (t1, tupO [.int 0 k4, .int 1 k5] 0) :: R6 := m1
  have j3 : (jl, lstO [.ref t1, .ref t2] 0) ∈ (jx, instObj 199 jdx) :: (jdx, dictOf [⟨jhh, .str "comp_select_list" jth, .ref jl⟩] jnd) :: (jl, lstO [.ref t1, .ref t2] 0) :: (t2, tupO [.int 1 k6, .int (-1) k7] 0) :: (t1, tupO [.int 0 k4, .int 1 k5] 0) :: R6 := m2
  have j4 : (t2, tupO [.int 1 k6, .int (-1) k7] 0) ∈ (jx, instObj 199 jdx) :: (jdx, dictOf [⟨jhh, .str "comp_select_list" jth, .ref jl⟩] jnd) :: (jl, lstO [.ref t1, .ref t2] 0) :: (t2, tupO [.int 1 k6, .int (-1) k7] 0) :: (t1, tupO [.int 0 k4, .int 1 k5] 0) :: R6 := m3
  have j5 : (t1, tupO [.int 0 k4, .int 1 k5] 0) ∈ (jx, instObj 199 jdx) :: (jdx, dictOf [⟨jhh, .str "comp_select_list" jth, .ref jl⟩] jnd) :: (jl, lstO [.ref t1, .ref t2] 0) :: (t2, tupO [.int 1 k6, .int (-1) k7] 0) :: (t1, tupO [.int 0 k4, .int 1 k5] 0) :: R6 := m4
  replace N7 : News h₀ L h7 ((L + 1 + 1 + 1, p3) :: (L + 1, p1) :: (L + 1 + 1, p2) :: (L + 1 + 1 + 1 + 1, o4) :: (L + 1 + 1 + 1 + 1 + 1, o5) :: (L + 1 + 1 + 1 + 1 + 1 + 1, o6) :: (l, lstO rs rs.length) :: (jx, instObj 199 jdx) :: (jdx, dictOf [⟨jhh, .str "comp_select_list" jth, .ref jl⟩] jnd) :: (jl, lstO [.ref t1, .ref t2] 0) :: (t2, tupO [.int 1 k6, .int (-1) k7] 0) :: (t1, tupO [.int 0 k4, .int 1 k5] 0) :: R6) := nblk [] [_, _, _, _, _] [_, _, _, _, _, _, _] N7
  replace hld := sub7 _ hld
  replace hDR := sub7 _ hDR
  replace hr := sub7 _ hr
  replace hdx := sub7 _ hdx
  replace hSrow := sub7 _ hSrow
  replace hrows := hrows.mono sub7
  replace hSR := hSR.mono sub7
  replace hP5 := hP5.mono sub7
  clear sub7 g1 g2 g3 g4 g5 g6 v1 w1 v3 w3
  generalize (jx, instObj 199 jdx) :: (jdx, dictOf [⟨jhh, .str "comp_select_list" jth, .ref jl⟩] jnd) :: (jl, lstO [.ref t1, .ref t2] 0) :: (t2, tupO [.int 1 k6, .int (-1) k7] 0) :: (t1, tupO [.int 0 k4, .int 1 k5] 0) :: R6 = R7 at *
  refine wpAny_execs_cons ?_
  -- 8 book
  replace N7 : News h₀ L h7 ((L + 1 + 1 + 1 + 1, o4) :: (L + 1, p1) :: (L + 1 + 1, p2) :: (L + 1 + 1 + 1, p3) :: (L + 1 + 1 + 1 + 1 + 1, o5) :: (L + 1 + 1 + 1 + 1 + 1 + 1, o6) :: (l, lstO rs rs.length) :: R7) := nblk [] [_, _, _] [_] (nblk [] [_] [_, _] N7)
  refine st8 ⟨B, F7, X, N7, T⟩ e4 (off4 (all1 hlO hR)) ?_
  intro h8' tk8 p4 bx bdx bl bhh bth bnd f4 g1 g2 g3 g4 F8 N8
  clear F7 N7
  have v1 : @LT.lt Nat _ (L + 1 + 1 + 1 + 1 + 1 + 1) bdx := g1 _ m4
  have w1 : @LT.lt Nat _ l bdx := g1 _ m5
  have hblO : Off L (bl, lstO [] 0) := Off.gt (lt3 v1 g3 g4)
  have hlb : @Ne Nat l bl := Nat.ne_of_lt (lt3 w1 g3 g4)
  have hRb : ∀ p ∈ (bx, instObj 171 bdx) :: (bdx, dictOf [⟨bhh, .str "_headers" bth, .ref bl⟩] bnd) :: R7, @Ne Nat p.1 bl := all1 (Nat.ne_of_lt g4) (all1 (Nat.ne_of_lt (Nat.lt_trans g3 g4)) fun p hp => Nat.ne_of_lt (lt3 (g1 p (in6 hp)) g3 g4))
  replace hR : ∀ p ∈ (bx, instObj 171 bdx) :: (bdx, dictOf [⟨bhh, .str "_headers" bth, .ref bl⟩] bnd) :: R7, Off L p := all1 (Off.gt (Nat.lt_trans v1 g3)) (all1 (Off.gt v1) hR)
  replace hRl : ∀ p ∈ (bx, instObj 171 bdx) :: (bdx, dictOf [⟨bhh, .str "_headers" bth, .ref bl⟩] bnd) :: R7, @Ne Nat p.1 l := all1 (Nat.ne_of_gt (Nat.lt_trans w1 g3)) (all1 (Nat.ne_of_gt w1) hRl)
  have sub8 : ∀ p ∈ R7, p ∈ (bx, instObj 171 bdx) :: (bdx, dictOf [⟨bhh, .str "_headers" bth, .ref bl⟩] bnd) :: R7 := fun p hp => List.mem_cons_of_mem _ (List.mem_cons_of_mem _ hp)
  have b1 : (bx, instObj 171 bdx) ∈ (bx, instObj 171 bdx) :: (bdx, dictOf [⟨bhh, .str "_headers" bth, .ref bl⟩] bnd) :: R7 := List.mem_cons_self
  have b2 : (bdx, dictOf [⟨bhh, .str "_headers" bth, .ref bl⟩] bnd) ∈ (bx, instObj 171 bdx) :: (bdx, dictOf [⟨bhh, .str "_headers" bth, .ref bl⟩] bnd) :: R7 := m1
  replace N8 : News h₀ L h8' ((L + 1, p1) :: (L + 1 + 1, p2) :: (L + 1 + 1 + 1, p3) :: (L + 1 + 1 + 1 + 1, p4) :: (L + 1 + 1 + 1 + 1 + 1, o5) :: (L + 1 + 1 + 1 + 1 + 1 + 1, o6) :: (l, lstO rs rs.length) :: (bl, lstO [] 0) :: (bx, instObj 171 bdx) :: (bdx, dictOf [⟨bhh, .str "_headers" bth, .ref bl⟩] bnd) :: R7) := nblk [] [_] [_, _, _] (nblk [] [_, _, _] [_, _, _, _, _, _, _] (nblk [] [_, _] [_] N8))
  replace hld := sub8 _ hld
  replace hDR := sub8 _ hDR
  replace hr := sub8 _ hr
  replace hdx := sub8 _ hdx
  replace hSrow := sub8 _ hSrow
  replace hrows := hrows.mono sub8
  replace hSR := hSR.mono sub8
  replace hP5 := hP5.mono sub8
  replace j1 := sub8 _ j1
  replace j2 := sub8 _ j2
  replace j3 := sub8 _ j3
  replace j4 := sub8 _ j4
  replace j5 := sub8 _ j5
  clear sub8 g1 g2 g3 g4 v1 w1
  generalize (bx, instObj 171 bdx) :: (bdx, dictOf [⟨bhh, .str "_headers" bth, .ref bl⟩] bnd) :: R7 = R8 at *
  refine wpAny_execs_cons ?_
  -- 9 counts
  refine st9 ⟨B, F8, X, N8, T⟩ ?_
  intro h9 tk9 cnt g1 F9 N9
  clear F8 N8
  refine wpAny_execs_cons ?_
  -- 10 the turns
  have hcO : Off L (cnt, lstO [] 0) := Off.gt (g1 _ m5)
  replace N9 : News h₀ L h9 ((l, lstO rs rs.length) :: (bl, lstO [] 0) :: (cnt, lstO [] 0) :: (L + 1, p1) :: (L + 1 + 1, p2) :: (L + 1 + 1 + 1, p3) :: (L + 1 + 1 + 1 + 1, p4) :: (L + 1 + 1 + 1 + 1 + 1, o5) :: (L + 1 + 1 + 1 + 1 + 1 + 1, o6) :: R8) := nblk [] [_, _, _, _, _, _, _] [_, _] N9
  refine st10 (x := x) (dx := dx) (l := l) (nl := rs.length) (bx := bx) (bdx := bdx) (bl := bl) (cnt := cnt) (n := (us.length : Int)) (vs := rs) (ys := ys) (oc := p4) ⟨B, F9, X, N9, T⟩ m3 f4 (in6 hr) (in6 hdx) (in6 b1) (in6 b2) rfl rfl rfl hyi' hy8 hsum hyv hyw (hP5.mono fun p hp => in6 hp)
    (offT hlO hblO hcO fun p hp => ⟨hRl p hp, hRb p hp, Nat.ne_of_lt (g1 p (in6 (List.mem_cons_of_mem _ (List.mem_cons_of_mem _ hp))))⟩) ⟨hlb, Nat.ne_of_lt (g1 _ m6), Nat.ne_of_lt (g1 _ m7)⟩ ?_
  clear g1 hRl hRb hP5 hlb
  intro h10 tk10 rs' bs cs nl' nb' nc T10 v1 v2 v3 hP10 hB10 hC10 hT10 F10 N10
  clear F9 N9
  have sub10' : ∀ p ∈ T10 ++ ((L + 1, p1) :: (L + 1 + 1, p2) :: (L + 1 + 1 + 1, p3) :: (L + 1 + 1 + 1 + 1, p4) :: (L + 1 + 1 + 1 + 1 + 1, o5) :: (L + 1 + 1 + 1 + 1 + 1 + 1, o6) :: R8), p ∈ (L + 1, p1) :: (L + 1 + 1, p2) :: (L + 1 + 1 + 1, p3) :: (L + 1 + 1 + 1 + 1, p4) :: (L + 1 + 1 + 1 + 1 + 1, o5) :: (L + 1 + 1 + 1 + 1 + 1 + 1, o6) :: (l, lstO rs' nl') :: (bl, lstO bs nb') :: (cnt, lstO cs nc) :: (T10 ++ R8) := fun p hp => blk [] (_ :: _ :: _ :: T10) [_, _, _, _, _, _] (in3' hp)
  replace hP10 := ((((((hP10.mono sub10').strip f1).strip f2).strip f3).strip f4).strip e5).strip e6
  replace hB10 := ((((((hB10.mono sub10').strip f1).strip f2).strip f3).strip f4).strip e5).strip e6
  replace hR : ∀ p ∈ (l, lstO rs' nl') :: (bl, lstO bs nb') :: (cnt, lstO cs nc) :: (T10 ++ R8), Off L p := all1 hlO (all1 hblO (all1 hcO (allA (fun p hp => Off.gt (hT10 p hp _ m5)) hR)))
  have sub10 : ∀ p ∈ R8, p ∈ (l, lstO rs' nl') :: (bl, lstO bs nb') :: (cnt, lstO cs nc) :: (T10 ++ R8) := fun p hp => in3 hp
  have k1' : (l, lstO rs' nl') ∈ (l, lstO rs' nl') :: (bl, lstO bs nb') :: (cnt, lstO cs nc) :: (T10 ++ R8) := List.mem_cons_self
  have k2' : (bl, lstO bs nb') ∈ (l, lstO rs' nl') :: (bl, lstO bs nb') :: (cnt, lstO cs nc) :: (T10 ++ R8) := m1
  have k3' : (cnt, lstO cs nc) ∈ (l, lstO rs' nl') :: (bl, lstO bs nb') :: (cnt, lstO cs nc) :: (T10 ++ R8) := m2
  replace N10 : News h₀ L h10 ((L + 1, p1) :: (L + 1 + 1, p2) :: (L + 1 + 1 + 1, p3) :: (L + 1 + 1 + 1 + 1, p4) :: (L + 1 + 1 + 1 + 1 + 1, o5) :: (L + 1 + 1 + 1 + 1 + 1 + 1, o6) :: (l, lstO rs' nl') :: (bl, lstO bs nb') :: (cnt, lstO cs nc) :: (T10 ++ R8)) := nblk [] (_ :: _ :: _ :: T10) [_, _, _, _, _, _] N10
  replace hld := sub10 _ hld
  replace hDR := sub10 _ hDR
  replace hr := sub10 _ hr
  replace hdx := sub10 _ hdx
  replace hSrow := sub10 _ hSrow
  replace hrows := hrows.mono sub10
  replace hSR := hSR.mono sub10
  replace j1 := sub10 _ j1
  replace j2 := sub10 _ j2
  replace j3 := sub10 _ j3
  replace j4 := sub10 _ j4
  replace j5 := sub10 _ j5
  replace b1 := sub10 _ b1
  replace b2 := sub10 _ b2
  clear sub10 sub10' hT10
  generalize (l, lstO rs' nl') :: (bl, lstO bs nb') :: (cnt, lstO cs nc) :: (T10 ++ R8) = R10 at *
  refine wpAny_execs_cons ?_
  -- 11 the counts by the judge
  refine st11 (S := S) (r := jx) (dx := jdx) (l := jl) (t1 := t1) (t2 := t2) (cnt := cnt) (oc2 := p2) (oc3 := p3) (vs := rvs) (cs := cs) (ps := psOf (dsOf ys)) (ns := countsL ys ys.length) ⟨B, F10, X, N10, T⟩ m1 f2 m2 f3 rfl (in6 k3') (in6 hSrow) (in6 j1) (in6 j2) (in6 j3) (in6 j5) (in6 j4) (hrows.mono fun p hp => in6 hp) (ps8 hy8) hC10 (counts_place ys hsum) ?_
  clear hSrow j1 j2 j3 j4 j5 hrows f2 f3
  intro h11 tk11 F11 N11
  clear F10 N10
  refine wpAny_execs_cons ?_
  -- 12 plain
  replace N11 : News h₀ L h11 ((L + 1 + 1 + 1 + 1 + 1, o5) :: (L + 1, p1) :: (L + 1 + 1, p2) :: (L + 1 + 1 + 1, p3) :: (L + 1 + 1 + 1 + 1, p4) :: (L + 1 + 1 + 1 + 1 + 1 + 1, o6) :: R10) := nblk [] [_, _, _, _] [_] N11
  refine st12 ⟨B, F11, X, N11, T⟩ e5 (off5 hR) ?_
  intro h12 tk12 pl p5 g1 g2 f5 F12 N12
  clear F11 N11
  refine wpAny_execs_cons ?_
  -- 13 plain's turns
  replace N12 : News h₀ L h12 ((L + 1 + 1 + 1 + 1 + 1 + 1, o6) :: (pl, lstO [] 0) :: (L + 1, p1) :: (L + 1 + 1, p2) :: (L + 1 + 1 + 1, p3) :: (L + 1 + 1 + 1 + 1, p4) :: (L + 1 + 1 + 1 + 1 + 1, p5) :: R10) := nblk [_, _] [_] [_, _, _, _] (nblk [] [_, _, _, _, _, _] [_] N12)
  have q6 : @LT.lt Nat _ (L + 1 + 1 + 1 + 1 + 1 + 1) pl := g1 _ m4
  refine st13 (ls := D0) (pl := pl) (oc5 := p5) (vs := us) (nl := n2) (ss := ssAll ns) (n := (us.length : Int)) ⟨B, F12, X, N12, T⟩ e6 m4 f5 (off6 q6 hR fun p hp => g1 p (in5 hp)) (Nat.ne_of_gt q6) rfl (in5 hDR) (hSR.mono fun p hp => in5 hp) (hul ▸ h8) rfl (congrArg Nat.cast hul) ?_
  clear g1 q6 hR hSR hDR
  intro h13 tk13 ps np p6 ov6 v4 hps f6 F13 N13
  clear F12 N12
  rw [← hds, ← hul, ← hyl] at hps
  replace hps : IntsAre ps (countsL ys ys.length) := hps
  refine wpAny_execs_cons ?_
  -- 14 the end's test
  refine st14 (cnt := cnt) (pl := pl) (x := x) (dx := dx) (l := l) (ld := D1) (oc1 := p1) (oc5 := p5) (cs := cs) (ps := ps) (vs := rs') (lvs := lds) (ns := countsL ys ys.length) (ys := ys) (n := (us.length : Int)) ⟨B, F13, X, N13, T⟩ m6 f5 m2 f1 rfl (in7 k3') hC10 m1 hps rfl rfl hyi' hy8 (in7 hr) (in7 hdx) (in7 k1') (hP10.mono fun p hp => in7 hp) (in7 hld) hS4 hyv ?_
  intro h14 tk14 F14 N14
  clear F13 N13
  refine wpAny_execs_cons ?_
  -- 15 the answer
  exact st15 (pl := pl) (bx := bx) (bdx := bdx) (bl := bl) (oc4 := p4) (oc5 := p5) (ps := ps) (bs := bs) (ys := ys) (n := (us.length : Int)) ⟨B, F14, X, N14, T⟩ m6 f5 m5 f4 m1 hps rfl hyi' hy8 hsum (in7 b1) (in7 b2) (in7 k2') (hB10.mono fun p hp => in7 hp) fun h' tk' F' => hQ h' tk' _ F'

-- part J1
set_option maxHeartbeats 8000000
theorem jtest : PySem.Challenge.rw_pg0317_01.Holds := by
  refine lawO fun said => ?_
  w_on
  refine holds_open (q := viewD) (loose := looseD) (Xt := fun s => xlAt viewD [] s && recOk (RowW.records rowR) s) (XP := XL viewD [])
    (Yf := Hook.obs (kHook heapD asD asD_eq)) (Ya := Hook.val (kHook heapD asD asD_eq)) (YP := Hook.says (kHook heapD asD asD_eq)) (N := 3756) leftD (Hook.of _) (Hook.keeps _) (fun s e => xl_of s (Bool.and_eq_true_iff.mp e).1) XL.keeps (by rfl) (by rfl) (by rfl) (fun s e => recFacts_of (Bool.and_eq_true_iff.mp e).2) (by rfl) (by first | assumption | decide +kernel) (by decide +kernel) ⟨rfl, rfl, rfl, rfl, rfl, by decide +kernel⟩ ?hw ?hc
  case hw => w_witness2
  case hc =>
    k_fill
    intro w s₀ s₁ mg mb G Y fa o pm cd doc dV kV ho hd hcd hD hmg hg args vals as hpre hlay hrd hwl hlo
    have KX := kIn_of Y
    refine Ground.open G ?_
    intro T B D TE TW
    clear D
    obtain ⟨_, _, M⟩ := bmod_of_top T
    have TA := at_of_top T
    try (obtain ⟨_, _, he, B0⟩ := based_of_top T rfl hmg ho hd; have he' : cd = _ := he; subst he'; clear he)
    clear hmg
    wrow_args hpre hlay hrd hwl hlo
    first | refine callC_kw (enter_call ?_) | refine enter_call ?_ | refine callC_kw (enter_callW ?_) | refine enter_callW ?_ | w_how
    w_top on
    try refine codeAny_mono ?_ (fun _ _ g => GoodW.toG g)
    have K0 := below_caller (Top.heap T)
    w_call any ho hd hcd hD T F
    clear hd TA
    k_drop
    (rename Below _ _ _ _ => B9)
    (rename Frag.In _ _ => X9)
    (rename Top _ _ _ _ _ _ => T9)
    (rename Fr _ _ _ _ => F9)
    (rename News _ _ _ _ => N9)
    (rename Heap.IsList _ _ _ => L9)
    (rename IntsAre _ _ => I9)
    refine lawWalk B9 X9 T9 F9 N9 (by assumption) (by assumption) (by assumption) (by assumption) (by assumption) (by assumption) rfl L9 I9 ?len ?fin
    case len => omega
    case fin =>
      intro h9 tk9 m9 G9
      clear F9 N9
      dsimp only
      k_steps
      all_goals (try k_data)
      all_goals w_report

end Mine
theorem PySem.Challenge.cw_pg0317_01_holds : PySem.Challenge.rw_pg0317_01.Holds := by
  exact Mine.jtest
