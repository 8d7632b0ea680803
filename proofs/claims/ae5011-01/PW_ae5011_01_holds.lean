import PyProof.Rows.All
import Wide.All
import OpenK.AllK
import Wide.FinOn
import PySem.Challenge.RW_ae5011_01
set_option Elab.async false
set_option maxRecDepth 100000
set_option maxHeartbeats 4000000
section
open PySem PySem.W PyProof.Rows
namespace Mine
/-! The proof's parts: KF (what the walks need of the heap behind the text's top), loops over views of the heap (S..), contracts of the defs and classes (C..), the plain law (L0, L0b), the walk of _law_game (L1) and of law (L2), and at the end the head with the last walk (hx). -/
def topIn : List PySem.Stmt → Nat → PySem.Stmt
  | [], _ => .Pass ⟨0, 0, 0, 0⟩
  | s :: _, 0 => s
  | _ :: r, n + 1 => topIn r n
noncomputable def topAt (k : Nat) : PySem.Stmt := topIn PySem.Challenge.pw_ae5011_01.main.body k
noncomputable def inCls (k j : Nat) : PySem.Stmt := match topAt k with | .ClassDef _ _ _ b .. => topIn b j | s => s
def fnP : PySem.Stmt → PySem.Arguments | .FunctionDef _ a .. => a | _ => ⟨[], [], none, [], [], none, []⟩
def fnB : PySem.Stmt → List PySem.Stmt | .FunctionDef _ _ b .. => b | _ => []
def fnS : PySem.Stmt → PySem.Scope | .FunctionDef _ _ _ _ _ _ s .. => s | _ => { kind := .module, names := [], isGenerator := false, isCoroutine := false, more := [] }
theorem cons_lit {x : Nat} {a a' : Obj} {l l' : List (Nat × Obj)} (h : a = a') (t : l = l') : (x, a) :: l = (x, a') :: l' := by rw [h, t]
theorem fn_lit {c : Value} {d : Option Addr} {sl : Array (Option Value)} {n q : PySem.Str} {p p' : PySem.Arguments} {b b' : List PySem.Stmt} {s s' : PySem.Scope} {g bt : Addr} {l : List (PySem.Str × Addr)} {k1 k2 k3 m cd ct : Value} {an : Option Addr} (hp : p = p') (hb : b = b') (hs : s = s') :
    Obj.mk c d (Data.func (FuncData.mk n q p (.stmts b) s g l k1 k2 k3 m an cd ct bt)) sl = Obj.mk c d (Data.func (FuncData.mk n q p' (.stmts b') s' g l k1 k2 k3 m an cd ct bt)) sl := by rw [hp, hb, hs]
noncomputable def KFat : Params → List (Nat × Obj) := fun P =>
(nat_lit 2, (PySem.Obj.mk PySem.Value.none Option.none (PySem.Data.dict (#[(PySem.DictEntry.mk (PySem.PyData.keyHash P (PySem.Str.ofString "\x69mport.loaded._sre")) (PySem.Value.str (PySem.Str.ofString "\x69mport.loaded._sre") 183) (PySem.Value.bool Bool.true)), (PySem.DictEntry.mk (PySem.PyData.keyHash P (PySem.Str.ofString "class._frozen_importlib.BuiltinImporter")) (PySem.Value.str (PySem.Str.ofString "class._frozen_importlib.BuiltinImporter") 185) (PySem.Value.ref 14)), (PySem.DictEntry.mk (PySem.PyData.keyHash P (PySem.Str.ofString "watched.\x69mport")) (PySem.Value.str (PySem.Str.ofString "watched.\x69mport") 206) (PySem.Value.ref 18)), (PySem.DictEntry.mk (PySem.PyData.keyHash P (PySem.Str.ofString "class._frozen_importlib.ModuleSpec")) (PySem.Value.str (PySem.Str.ofString "class._frozen_importlib.ModuleSpec") 216) (PySem.Value.ref 22)), (PySem.DictEntry.mk (PySem.PyData.keyHash P (PySem.Str.ofString "sys.modules.booked-epoch")) (PySem.Value.str (PySem.Str.ofString "sys.modules.booked-epoch") 245) (PySem.Value.int 3 0)), (PySem.DictEntry.mk (PySem.PyData.keyHash P (PySem.Str.ofString "\x69mport.later-laid._sre")) (PySem.Value.str (PySem.Str.ofString "\x69mport.later-laid._sre") 270) (PySem.Value.bool Bool.true)), (PySem.DictEntry.mk (PySem.PyData.keyHash P (PySem.Str.ofString "watched.library")) (PySem.Value.str (PySem.Str.ofString "watched.library") 272) (PySem.Value.ref 27)), (PySem.DictEntry.mk (PySem.PyData.keyHash P (PySem.Str.ofString "watched.library-objects")) (PySem.Value.str (PySem.Str.ofString "watched.library-objects") 0) (PySem.Value.str (PySem.Str.ofString "\x0c") 0)), (PySem.DictEntry.mk (PySem.PyData.keyHash P (PySem.Str.ofString "watched.library-deep._sre")) (PySem.Value.str (PySem.Str.ofString "watched.library-deep._sre") 273) (PySem.Value.str (PySem.Str.ofString "\x04\x00\x00\x0b\x04\x00\x00\x0b\x04\x00\x00\x03\x04\x00\x00\x0b\x08\x04dict\x02") 0))]) 9) (#[]))) ::
(nat_lit 3, (PySem.Obj.mk (PySem.Value.type "dict") Option.none (PySem.Data.dict (#[(PySem.DictEntry.mk (PySem.PyData.keyHash P (PySem.Str.ofString "__name__")) (PySem.Value.str (PySem.Str.ofString "__name__") 165) (PySem.Value.str (PySem.Str.ofString "law_ae5011_01") 1377)), (PySem.DictEntry.mk (PySem.PyData.keyHash P (PySem.Str.ofString "__doc__")) (PySem.Value.str (PySem.Str.ofString "__doc__") 166) PySem.Value.none), (PySem.DictEntry.mk (PySem.PyData.keyHash P (PySem.Str.ofString "__package__")) (PySem.Value.str (PySem.Str.ofString "__package__") 167) PySem.Value.none), (PySem.DictEntry.mk (PySem.PyData.keyHash P (PySem.Str.ofString "__loader__")) (PySem.Value.str (PySem.Str.ofString "__loader__") 168) (PySem.Value.builtin "__main__.__loader__#opaque")), (PySem.DictEntry.mk (PySem.PyData.keyHash P (PySem.Str.ofString "__spec__")) (PySem.Value.str (PySem.Str.ofString "__spec__") 169) PySem.Value.none), (PySem.DictEntry.mk (PySem.PyData.keyHash P (PySem.Str.ofString "__annotations__")) (PySem.Value.str (PySem.Str.ofString "__annotations__") 170) (PySem.Value.ref 6)), (PySem.DictEntry.mk (PySem.PyData.keyHash P (PySem.Str.ofString "__builtins__")) (PySem.Value.str (PySem.Str.ofString "__builtins__") 171) (PySem.Value.ref 4)), (PySem.DictEntry.mk (PySem.PyData.keyHash P (PySem.Str.ofString "__file__")) (PySem.Value.str (PySem.Str.ofString "__file__") 173) (PySem.Value.str (PySem.Str.ofString "/claim/cut.py") 172)), (PySem.DictEntry.mk (PySem.PyData.keyHash P (PySem.Str.ofString "__cached__")) (PySem.Value.str (PySem.Str.ofString "__cached__") 174) PySem.Value.none), (PySem.DictEntry.mk (PySem.PyData.keyHash P (PySem.Str.ofString "_sre")) (PySem.Value.str (PySem.Str.ofString "_sre") 275) (PySem.Value.ref 12)), (PySem.DictEntry.mk (PySem.PyData.keyHash P (PySem.Str.ofString "_wall")) (PySem.Value.str (PySem.Str.ofString "_wall") 288) (PySem.Value.ref 38)), (PySem.DictEntry.mk (PySem.PyData.keyHash P (PySem.Str.ofString "_twin_re_1")) (PySem.Value.str (PySem.Str.ofString "_twin_re_1") 342) (PySem.Value.ref 43)), (PySem.DictEntry.mk (PySem.PyData.keyHash P (PySem.Str.ofString "auto_id_field")) (PySem.Value.str (PySem.Str.ofString "auto_id_field") 343) PySem.Value.none), (PySem.DictEntry.mk (PySem.PyData.keyHash P (PySem.Str.ofString "_Mark")) (PySem.Value.str (PySem.Str.ofString "_Mark") 363) (PySem.Value.ref 53)), (PySem.DictEntry.mk (PySem.PyData.keyHash P (PySem.Str.ofString "NOT_SET")) (PySem.Value.str (PySem.Str.ofString "NOT_SET") 364) (PySem.Value.ref 59)), (PySem.DictEntry.mk (PySem.PyData.keyHash P (PySem.Str.ofString "LIST_KEY")) (PySem.Value.str (PySem.Str.ofString "LIST_KEY") 365) (PySem.Value.ref 61)), (PySem.DictEntry.mk (PySem.PyData.keyHash P (PySem.Str.ofString "JSONPath")) (PySem.Value.str (PySem.Str.ofString "JSONPath") 464) (PySem.Value.ref 134)), (PySem.DictEntry.mk (PySem.PyData.keyHash P (PySem.Str.ofString "DatumInContext")) (PySem.Value.str (PySem.Str.ofString "DatumInContext") 559) (PySem.Value.ref 203)), (PySem.DictEntry.mk (PySem.PyData.keyHash P (PySem.Str.ofString "Root")) (PySem.Value.str (PySem.Str.ofString "Root") 630) (PySem.Value.ref 266)), (PySem.DictEntry.mk (PySem.PyData.keyHash P (PySem.Str.ofString "This")) (PySem.Value.str (PySem.Str.ofString "This") 701) (PySem.Value.ref 327)), (PySem.DictEntry.mk (PySem.PyData.keyHash P (PySem.Str.ofString "Child")) (PySem.Value.str (PySem.Str.ofString "Child") 823) (PySem.Value.ref 421)), (PySem.DictEntry.mk (PySem.PyData.keyHash P (PySem.Str.ofString "Where")) (PySem.Value.str (PySem.Str.ofString "Where") 897) (PySem.Value.ref 480)), (PySem.DictEntry.mk (PySem.PyData.keyHash P (PySem.Str.ofString "WhereNot")) (PySem.Value.str (PySem.Str.ofString "WhereNot") 941) (PySem.Value.ref 518)), (PySem.DictEntry.mk (PySem.PyData.keyHash P (PySem.Str.ofString "Fields")) (PySem.Value.str (PySem.Str.ofString "Fields") 1120) (PySem.Value.ref 646)), (PySem.DictEntry.mk (PySem.PyData.keyHash P (PySem.Str.ofString "Wildcard")) (PySem.Value.str (PySem.Str.ofString "Wildcard") 1217) (PySem.Value.ref 722)), (PySem.DictEntry.mk (PySem.PyData.keyHash P (PySem.Str.ofString "Index")) (PySem.Value.str (PySem.Str.ofString "Index") 1344) (PySem.Value.ref 823)), (PySem.DictEntry.mk (PySem.PyData.keyHash P (PySem.Str.ofString "_find_array_elements")) (PySem.Value.str (PySem.Str.ofString "_find_array_elements") 1350) (PySem.Value.ref 830)), (PySem.DictEntry.mk (PySem.PyData.keyHash P (PySem.Str.ofString "_update_array_elements")) (PySem.Value.str (PySem.Str.ofString "_update_array_elements") 1358) (PySem.Value.ref 837)), (PySem.DictEntry.mk (PySem.PyData.keyHash P (PySem.Str.ofString "_create_list_key")) (PySem.Value.str (PySem.Str.ofString "_create_list_key") 1366) (PySem.Value.ref 844)), (PySem.DictEntry.mk (PySem.PyData.keyHash P (PySem.Str.ofString "_clean_list_keys")) (PySem.Value.str (PySem.Str.ofString "_clean_list_keys") 1376) (PySem.Value.ref 851)), (PySem.DictEntry.mk (PySem.PyData.keyHash P (PySem.Str.ofString "_law_rest")) (PySem.Value.str (PySem.Str.ofString "_law_rest") 1386) (PySem.Value.ref 852)), (PySem.DictEntry.mk (PySem.PyData.keyHash P (PySem.Str.ofString "_law_game")) (PySem.Value.str (PySem.Str.ofString "_law_game") 1392) (PySem.Value.ref 857)), (PySem.DictEntry.mk (PySem.PyData.keyHash P (PySem.Str.ofString "law")) (PySem.Value.str (PySem.Str.ofString "law") 1398) (PySem.Value.ref 862))]) 33) (#[]))) ::
(nat_lit 42, (PySem.Obj.mk (PySem.Value.type "tuple") Option.none (PySem.Data.seq (List.toArray ((PySem.Value.int 14 0) :: (PySem.Value.int 4 0) :: (PySem.Value.int 0 0) :: (PySem.Value.int 1 0) :: (PySem.Value.int 4294967295 0) :: (PySem.Value.int 6 0) :: (PySem.Value.int 0 0) :: (PySem.Value.int 24 0) :: (PySem.Value.int 6 0) :: (PySem.Value.int 0 0) :: (PySem.Value.int 1 0) :: (PySem.Value.int 16 0) :: (PySem.Value.int 64 0) :: (PySem.Value.int 1 0) :: (PySem.Value.int 13 0) :: (PySem.Value.int 11 0) :: (PySem.Value.int 9 0) :: (PySem.Value.int 0 0) :: (PySem.Value.int 0 0) :: (PySem.Value.int 2281701374 0) :: (PySem.Value.int 134217726 0) :: (PySem.Value.int 0 0) :: (PySem.Value.int 0 0) :: (PySem.Value.int 0 0) :: (PySem.Value.int 0 0) :: (PySem.Value.int 0 0) :: (PySem.Value.int 24 0) :: (PySem.Value.int 16 0) :: (PySem.Value.int 0 0) :: (PySem.Value.int 4294967295 0) :: (PySem.Value.int 13 0) :: (PySem.Value.int 11 0) :: (PySem.Value.int 9 0) :: (PySem.Value.int 0 0) :: (PySem.Value.int 67051520 0) :: (PySem.Value.int 2281701375 0) :: (PySem.Value.int 134217726 0) :: (PySem.Value.int 0 0) :: (PySem.Value.int 0 0) :: (PySem.Value.int 0 0) :: (PySem.Value.int 0 0) :: (PySem.Value.int 0 0) :: (PySem.Value.int 1 0) :: (PySem.Value.int 6 0) :: (PySem.Value.int 5 0) :: (PySem.Value.int 1 0) :: [])) 0) (#[]))) ::
(nat_lit 43, (PySem.Obj.mk (PySem.Value.type "re.Pattern") Option.none (PySem.Data.fields (#[(PySem.Value.str (PySem.Str.ofString "^@?[A-Za-z_][A-Za-z0-9_@-]*$") 292), (PySem.Value.int 32 341), (PySem.Value.int 0 0), PySem.Value.none, PySem.Value.none, (PySem.Value.ref 42), (PySem.Value.int 0 0)])) (#[]))) ::
(nat_lit 51, (PySem.Obj.mk (PySem.Value.type "tuple") Option.none (PySem.Data.seq (#[]) 0) (#[]))) ::
(nat_lit 52, (PySem.Obj.mk (PySem.Value.type "dict") Option.none (PySem.Data.dict (#[(PySem.DictEntry.mk (PySem.PyData.keyHash P (PySem.Str.ofString "__module__")) (PySem.Value.str (PySem.Str.ofString "__module__") 351) (PySem.Value.str (PySem.Str.ofString "jsonpath_ng.jsonpath") 289)), (PySem.DictEntry.mk (PySem.PyData.keyHash P (PySem.Str.ofString "__firstlineno__")) (PySem.Value.str (PySem.Str.ofString "__firstlineno__") 355) (PySem.Value.int 8 354)), (PySem.DictEntry.mk (PySem.PyData.keyHash P (PySem.Str.ofString "__static_attributes__")) (PySem.Value.str (PySem.Str.ofString "__static_attributes__") 356) (PySem.Value.ref 51)), (PySem.DictEntry.mk (PySem.PyData.keyHash P (PySem.Str.ofString "__dict__")) (PySem.Value.str (PySem.Str.ofString "__dict__") 358) (PySem.Value.ref 54)), (PySem.DictEntry.mk (PySem.PyData.keyHash P (PySem.Str.ofString "__weakref__")) (PySem.Value.str (PySem.Str.ofString "__weakref__") 360) (PySem.Value.ref 55)), (PySem.DictEntry.mk (PySem.PyData.keyHash P (PySem.Str.ofString "__doc__")) (PySem.Value.str (PySem.Str.ofString "__doc__") 361) PySem.Value.none)]) 4) (#[]))) ::
(nat_lit 53, (PySem.Obj.mk (PySem.Value.type "type") Option.none (PySem.Data.cls (PySem.ClassData.mk (PySem.Str.ofString "_Mark") [(PySem.Value.type "object")] [(PySem.Value.ref 53), (PySem.Value.type "object")] 52 (PySem.Str.ofString "_Mark") Bool.true [] [] Bool.false Option.none Bool.false)) (#[Option.none, Option.none, (Option.some (PySem.Value.str (PySem.Str.ofString "_Mark") 344)), (Option.some (PySem.Value.str (PySem.Str.ofString "_Mark") 352)), (Option.some (PySem.Value.builtin "object.__new__")), (Option.some (PySem.Value.bool Bool.true))]))) ::
(nat_lit 54, (PySem.Obj.mk (PySem.Value.type "getset_descriptor") Option.none (PySem.Data.fields (#[(PySem.Value.str (PySem.Str.ofString "__dict__") 357), (PySem.Value.ref 53), (PySem.Value.builtin "function.__dict__"), (PySem.Value.builtin "function.__dict__#set")])) (#[]))) ::
(nat_lit 55, (PySem.Obj.mk (PySem.Value.type "getset_descriptor") Option.none (PySem.Data.fields (#[(PySem.Value.str (PySem.Str.ofString "__weakref__") 359), (PySem.Value.ref 53), (PySem.Value.builtin "ExceptionGroup.__weakref__"), PySem.Value.none])) (#[]))) ::
(nat_lit 58, (PySem.Obj.mk (PySem.Value.type "dict") Option.none (PySem.Data.dict (#[]) 0) (#[]))) ::
(nat_lit 59, (PySem.Obj.mk (PySem.Value.ref 53) (Option.some 58) PySem.Data.plain (#[]))) ::
(nat_lit 60, (PySem.Obj.mk (PySem.Value.type "dict") Option.none (PySem.Data.dict (#[]) 0) (#[]))) ::
(nat_lit 61, (PySem.Obj.mk (PySem.Value.ref 53) (Option.some 60) PySem.Data.plain (#[]))) ::
(nat_lit 132, (PySem.Obj.mk (PySem.Value.type "tuple") Option.none (PySem.Data.seq (#[]) 0) (#[]))) ::
(nat_lit 133, (PySem.Obj.mk (PySem.Value.type "dict") Option.none (PySem.Data.dict (#[(PySem.DictEntry.mk (PySem.PyData.keyHash P (PySem.Str.ofString "__module__")) (PySem.Value.str (PySem.Str.ofString "__module__") 373) (PySem.Value.str (PySem.Str.ofString "jsonpath_ng.jsonpath") 289)), (PySem.DictEntry.mk (PySem.PyData.keyHash P (PySem.Str.ofString "__firstlineno__")) (PySem.Value.str (PySem.Str.ofString "__firstlineno__") 377) (PySem.Value.int 12 376)), (PySem.DictEntry.mk (PySem.PyData.keyHash P (PySem.Str.ofString "find")) (PySem.Value.str (PySem.Str.ofString "find") 385) (PySem.Value.ref 75)), (PySem.DictEntry.mk (PySem.PyData.keyHash P (PySem.Str.ofString "find_or_create")) (PySem.Value.str (PySem.Str.ofString "find_or_create") 393) (PySem.Value.ref 82)), (PySem.DictEntry.mk (PySem.PyData.keyHash P (PySem.Str.ofString "update")) (PySem.Value.str (PySem.Str.ofString "update") 402) (PySem.Value.ref 89)), (PySem.DictEntry.mk (PySem.PyData.keyHash P (PySem.Str.ofString "update_or_create")) (PySem.Value.str (PySem.Str.ofString "update_or_create") 411) (PySem.Value.ref 96)), (PySem.DictEntry.mk (PySem.PyData.keyHash P (PySem.Str.ofString "_update_with_root")) (PySem.Value.str (PySem.Str.ofString "_update_with_root") 421) (PySem.Value.ref 103)), (PySem.DictEntry.mk (PySem.PyData.keyHash P (PySem.Str.ofString "_filter_with_root")) (PySem.Value.str (PySem.Str.ofString "_filter_with_root") 431) (PySem.Value.ref 110)), (PySem.DictEntry.mk (PySem.PyData.keyHash P (PySem.Str.ofString "filter")) (PySem.Value.str (PySem.Str.ofString "filter") 440) (PySem.Value.ref 117)), (PySem.DictEntry.mk (PySem.PyData.keyHash P (PySem.Str.ofString "child")) (PySem.Value.str (PySem.Str.ofString "child") 448) (PySem.Value.ref 124)), (PySem.DictEntry.mk (PySem.PyData.keyHash P (PySem.Str.ofString "make_datum")) (PySem.Value.str (PySem.Str.ofString "make_datum") 456) (PySem.Value.ref 131)), (PySem.DictEntry.mk (PySem.PyData.keyHash P (PySem.Str.ofString "__static_attributes__")) (PySem.Value.str (PySem.Str.ofString "__static_attributes__") 457) (PySem.Value.ref 132)), (PySem.DictEntry.mk (PySem.PyData.keyHash P (PySem.Str.ofString "__dict__")) (PySem.Value.str (PySem.Str.ofString "__dict__") 459) (PySem.Value.ref 135)), (PySem.DictEntry.mk (PySem.PyData.keyHash P (PySem.Str.ofString "__weakref__")) (PySem.Value.str (PySem.Str.ofString "__weakref__") 461) (PySem.Value.ref 136)), (PySem.DictEntry.mk (PySem.PyData.keyHash P (PySem.Str.ofString "__doc__")) (PySem.Value.str (PySem.Str.ofString "__doc__") 462) PySem.Value.none)]) 4) (#[]))) ::
(nat_lit 134, (PySem.Obj.mk (PySem.Value.type "type") Option.none (PySem.Data.cls (PySem.ClassData.mk (PySem.Str.ofString "JSONPath") [(PySem.Value.type "object")] [(PySem.Value.ref 134), (PySem.Value.type "object")] 133 (PySem.Str.ofString "JSONPath") Bool.true [] [(PySem.Value.ref 266), (PySem.Value.ref 327), (PySem.Value.ref 421), (PySem.Value.ref 480), (PySem.Value.ref 646), (PySem.Value.ref 722), (PySem.Value.ref 823)] Bool.false Option.none Bool.false)) (#[Option.none, Option.none, (Option.some (PySem.Value.str (PySem.Str.ofString "JSONPath") 366)), (Option.some (PySem.Value.str (PySem.Str.ofString "JSONPath") 374)), (Option.some (PySem.Value.builtin "object.__new__")), (Option.some (PySem.Value.bool Bool.true))]))) ::
(nat_lit 135, (PySem.Obj.mk (PySem.Value.type "getset_descriptor") Option.none (PySem.Data.fields (#[(PySem.Value.str (PySem.Str.ofString "__dict__") 458), (PySem.Value.ref 134), (PySem.Value.builtin "function.__dict__"), (PySem.Value.builtin "function.__dict__#set")])) (#[]))) ::
(nat_lit 136, (PySem.Obj.mk (PySem.Value.type "getset_descriptor") Option.none (PySem.Data.fields (#[(PySem.Value.str (PySem.Str.ofString "__weakref__") 460), (PySem.Value.ref 134), (PySem.Value.builtin "ExceptionGroup.__weakref__"), PySem.Value.none])) (#[]))) ::
(nat_lit 146, (PySem.Obj.mk (PySem.Value.type "tuple") Option.none (PySem.Data.seq (#[]) 0) (#[]))) ::
(nat_lit 148, (PySem.Obj.mk (PySem.Value.type "tuple") Option.none (PySem.Data.seq (#[(PySem.Value.str (PySem.Str.ofString "cls") 480), (PySem.Value.str (PySem.Str.ofString "data") 481)]) 0) (#[]))) ::
(nat_lit 149, (PySem.Obj.mk (PySem.Value.type "tuple") Option.none (PySem.Data.seq (#[]) 0) (#[]))) ::
(nat_lit 151, (PySem.Obj.mk (PySem.Value.type "code") Option.none (PySem.Data.fields (#[(PySem.Value.str (PySem.Str.ofString "wrap") 477), (PySem.Value.str (PySem.Str.ofString "DatumInContext.wrap") 478), (PySem.Value.str (PySem.Str.ofString "/claim/cut.py") 479), (PySem.Value.int 49 0), (PySem.Value.int 2 0), (PySem.Value.int 0 0), (PySem.Value.int 0 0), (PySem.Value.int 3 0), (PySem.Value.ref 146), (PySem.Value.bool Bool.true), (PySem.Value.int 276 0), (PySem.Value.ref 147), PySem.Value.none, (PySem.Value.ref 148), (PySem.Value.ref 149), (PySem.Value.ref 150), (PySem.Value.int 482 0), (PySem.Value.int 49 0), (PySem.Value.str (PySem.Str.ofString "/claim/cut.py") 483)])) (#[]))) ::
(nat_lit 152, (PySem.Obj.mk (PySem.Value.type "function") Option.none (PySem.Data.func (PySem.FuncData.mk (PySem.Str.ofString "wrap") (PySem.Str.ofString "DatumInContext.wrap") (fnP (inCls 9 0)) (PySem.FuncBody.stmts (fnB (inCls 9 0))) (fnS (inCls 9 0)) 3 [] PySem.Value.none PySem.Value.none PySem.Value.none (PySem.Value.str (PySem.Str.ofString "jsonpath_ng.jsonpath") 289) (Option.some 155) (PySem.Value.ref 151) PySem.Value.none 0)) (#[]))) ::
(nat_lit 153, (PySem.Obj.mk (PySem.Value.type "dict") Option.none (PySem.Data.dict (#[(PySem.DictEntry.mk (PySem.PyData.keyHash P (PySem.Str.ofString "__module__")) (PySem.Value.str (PySem.Str.ofString "__module__") 485) (PySem.Value.str (PySem.Str.ofString "jsonpath_ng.jsonpath") 289)), (PySem.DictEntry.mk (PySem.PyData.keyHash P (PySem.Str.ofString "__name__")) (PySem.Value.str (PySem.Str.ofString "__name__") 488) (PySem.Value.str (PySem.Str.ofString "wrap") 487)), (PySem.DictEntry.mk (PySem.PyData.keyHash P (PySem.Str.ofString "__qualname__")) (PySem.Value.str (PySem.Str.ofString "__qualname__") 491) (PySem.Value.str (PySem.Str.ofString "DatumInContext.wrap") 490)), (PySem.DictEntry.mk (PySem.PyData.keyHash P (PySem.Str.ofString "__doc__")) (PySem.Value.str (PySem.Str.ofString "__doc__") 493) PySem.Value.none), (PySem.DictEntry.mk (PySem.PyData.keyHash P (PySem.Str.ofString "__annotations__")) (PySem.Value.str (PySem.Str.ofString "__annotations__") 495) (PySem.Value.ref 155))]) 5) (#[]))) ::
(nat_lit 154, (PySem.Obj.mk (PySem.Value.type "classmethod") (Option.some 153) (PySem.Data.fields (#[(PySem.Value.ref 152), (PySem.Value.bool Bool.false)])) (#[]))) ::
(nat_lit 155, (PySem.Obj.mk (PySem.Value.type "dict") Option.none (PySem.Data.dict (#[]) 0) (#[]))) ::
(nat_lit 156, (PySem.Obj.mk (PySem.Value.type "tuple") Option.none (PySem.Data.seq (#[PySem.Value.none, PySem.Value.none]) 0) (#[]))) ::
(nat_lit 157, (PySem.Obj.mk (PySem.Value.type "tuple") Option.none (PySem.Data.seq (#[]) 0) (#[]))) ::
(nat_lit 159, (PySem.Obj.mk (PySem.Value.type "tuple") Option.none (PySem.Data.seq (#[(PySem.Value.str (PySem.Str.ofString "self") 500), (PySem.Value.str (PySem.Str.ofString "value") 501), (PySem.Value.str (PySem.Str.ofString "path") 502), (PySem.Value.str (PySem.Str.ofString "context") 503)]) 0) (#[]))) ::
(nat_lit 160, (PySem.Obj.mk (PySem.Value.type "tuple") Option.none (PySem.Data.seq (#[]) 0) (#[]))) ::
(nat_lit 162, (PySem.Obj.mk (PySem.Value.type "code") Option.none (PySem.Data.fields (#[(PySem.Value.str (PySem.Str.ofString "__init__") 497), (PySem.Value.str (PySem.Str.ofString "DatumInContext.__init__") 498), (PySem.Value.str (PySem.Str.ofString "/claim/cut.py") 499), (PySem.Value.int 56 0), (PySem.Value.int 4 0), (PySem.Value.int 0 0), (PySem.Value.int 0 0), (PySem.Value.int 3 0), (PySem.Value.ref 157), (PySem.Value.bool Bool.true), (PySem.Value.int 276 0), (PySem.Value.ref 158), PySem.Value.none, (PySem.Value.ref 159), (PySem.Value.ref 160), (PySem.Value.ref 161), (PySem.Value.int 504 0), (PySem.Value.int 56 0), (PySem.Value.str (PySem.Str.ofString "/claim/cut.py") 505)])) (#[]))) ::
(nat_lit 163, (PySem.Obj.mk (PySem.Value.type "function") Option.none (PySem.Data.func (PySem.FuncData.mk (PySem.Str.ofString "__init__") (PySem.Str.ofString "DatumInContext.__init__") (fnP (inCls 9 1)) (PySem.FuncBody.stmts (fnB (inCls 9 1))) (fnS (inCls 9 1)) 3 [] (PySem.Value.ref 156) PySem.Value.none PySem.Value.none (PySem.Value.str (PySem.Str.ofString "jsonpath_ng.jsonpath") 289) Option.none (PySem.Value.ref 162) PySem.Value.none 0)) (#[]))) ::
(nat_lit 164, (PySem.Obj.mk (PySem.Value.type "tuple") Option.none (PySem.Data.seq (#[]) 0) (#[]))) ::
(nat_lit 166, (PySem.Obj.mk (PySem.Value.type "tuple") Option.none (PySem.Data.seq (#[(PySem.Value.str (PySem.Str.ofString "self") 510)]) 0) (#[]))) ::
(nat_lit 167, (PySem.Obj.mk (PySem.Value.type "tuple") Option.none (PySem.Data.seq (#[]) 0) (#[]))) ::
(nat_lit 169, (PySem.Obj.mk (PySem.Value.type "code") Option.none (PySem.Data.fields (#[(PySem.Value.str (PySem.Str.ofString "value") 507), (PySem.Value.str (PySem.Str.ofString "DatumInContext.value") 508), (PySem.Value.str (PySem.Str.ofString "/claim/cut.py") 509), (PySem.Value.int 63 0), (PySem.Value.int 1 0), (PySem.Value.int 0 0), (PySem.Value.int 0 0), (PySem.Value.int 3 0), (PySem.Value.ref 164), (PySem.Value.bool Bool.true), (PySem.Value.int 276 0), (PySem.Value.ref 165), PySem.Value.none, (PySem.Value.ref 166), (PySem.Value.ref 167), (PySem.Value.ref 168), (PySem.Value.int 511 0), (PySem.Value.int 63 0), (PySem.Value.str (PySem.Str.ofString "/claim/cut.py") 512)])) (#[]))) ::
(nat_lit 170, (PySem.Obj.mk (PySem.Value.type "function") Option.none (PySem.Data.func (PySem.FuncData.mk (PySem.Str.ofString "value") (PySem.Str.ofString "DatumInContext.value") (fnP (inCls 9 2)) (PySem.FuncBody.stmts (fnB (inCls 9 2))) (fnS (inCls 9 2)) 3 [] PySem.Value.none PySem.Value.none PySem.Value.none (PySem.Value.str (PySem.Str.ofString "jsonpath_ng.jsonpath") 289) Option.none (PySem.Value.ref 169) PySem.Value.none 0)) (#[]))) ::
(nat_lit 171, (PySem.Obj.mk (PySem.Value.type "property") Option.none (PySem.Data.fields (#[(PySem.Value.ref 170), PySem.Value.none, PySem.Value.none, PySem.Value.none, (PySem.Value.str (PySem.Str.ofString "value") 514), (PySem.Value.bool Bool.false)])) (#[]))) ::
(nat_lit 193, (PySem.Obj.mk (PySem.Value.type "property") Option.none (PySem.Data.fields (#[(PySem.Value.ref 192), PySem.Value.none, PySem.Value.none, PySem.Value.none, (PySem.Value.str (PySem.Str.ofString "full_path") 539), (PySem.Value.bool Bool.false)])) (#[]))) ::
(nat_lit 201, (PySem.Obj.mk (PySem.Value.type "tuple") Option.none (PySem.Data.seq (#[(PySem.Value.str (PySem.Str.ofString "_value") 548), (PySem.Value.str (PySem.Str.ofString "context") 549), (PySem.Value.str (PySem.Str.ofString "path") 550)]) 0) (#[]))) ::
(nat_lit 202, (PySem.Obj.mk (PySem.Value.type "dict") Option.none (PySem.Data.dict (#[(PySem.DictEntry.mk (PySem.PyData.keyHash P (PySem.Str.ofString "__module__")) (PySem.Value.str (PySem.Str.ofString "__module__") 472) (PySem.Value.str (PySem.Str.ofString "jsonpath_ng.jsonpath") 289)), (PySem.DictEntry.mk (PySem.PyData.keyHash P (PySem.Str.ofString "__firstlineno__")) (PySem.Value.str (PySem.Str.ofString "__firstlineno__") 476) (PySem.Value.int 47 475)), (PySem.DictEntry.mk (PySem.PyData.keyHash P (PySem.Str.ofString "wrap")) (PySem.Value.str (PySem.Str.ofString "wrap") 496) (PySem.Value.ref 154)), (PySem.DictEntry.mk (PySem.PyData.keyHash P (PySem.Str.ofString "__init__")) (PySem.Value.str (PySem.Str.ofString "__init__") 506) (PySem.Value.ref 163)), (PySem.DictEntry.mk (PySem.PyData.keyHash P (PySem.Str.ofString "value")) (PySem.Value.str (PySem.Str.ofString "value") 514) (PySem.Value.ref 171)), (PySem.DictEntry.mk (PySem.PyData.keyHash P (PySem.Str.ofString "set_value")) (PySem.Value.str (PySem.Str.ofString "set_value") 522) (PySem.Value.ref 178)), (PySem.DictEntry.mk (PySem.PyData.keyHash P (PySem.Str.ofString "in_context")) (PySem.Value.str (PySem.Str.ofString "in_context") 531) (PySem.Value.ref 185)), (PySem.DictEntry.mk (PySem.PyData.keyHash P (PySem.Str.ofString "full_path")) (PySem.Value.str (PySem.Str.ofString "full_path") 539) (PySem.Value.ref 193)), (PySem.DictEntry.mk (PySem.PyData.keyHash P (PySem.Str.ofString "__eq__")) (PySem.Value.str (PySem.Str.ofString "__eq__") 547) (PySem.Value.ref 200)), (PySem.DictEntry.mk (PySem.PyData.keyHash P (PySem.Str.ofString "__static_attributes__")) (PySem.Value.str (PySem.Str.ofString "__static_attributes__") 551) (PySem.Value.ref 201)), (PySem.DictEntry.mk (PySem.PyData.keyHash P (PySem.Str.ofString "__dict__")) (PySem.Value.str (PySem.Str.ofString "__dict__") 553) (PySem.Value.ref 204)), (PySem.DictEntry.mk (PySem.PyData.keyHash P (PySem.Str.ofString "__weakref__")) (PySem.Value.str (PySem.Str.ofString "__weakref__") 555) (PySem.Value.ref 205)), (PySem.DictEntry.mk (PySem.PyData.keyHash P (PySem.Str.ofString "__doc__")) (PySem.Value.str (PySem.Str.ofString "__doc__") 556) PySem.Value.none), (PySem.DictEntry.mk (PySem.PyData.keyHash P (PySem.Str.ofString "__hash__")) (PySem.Value.str (PySem.Str.ofString "__hash__") 557) PySem.Value.none)]) 5) (#[]))) ::
(nat_lit 203, (PySem.Obj.mk (PySem.Value.type "type") Option.none (PySem.Data.cls (PySem.ClassData.mk (PySem.Str.ofString "DatumInContext") [(PySem.Value.type "object")] [(PySem.Value.ref 203), (PySem.Value.type "object")] 202 (PySem.Str.ofString "DatumInContext") Bool.true [] [] Bool.false Option.none Bool.false)) (#[Option.none, Option.none, (Option.some (PySem.Value.str (PySem.Str.ofString "DatumInContext") 465)), (Option.some (PySem.Value.str (PySem.Str.ofString "DatumInContext") 473)), (Option.some (PySem.Value.builtin "object.__new__")), (Option.some (PySem.Value.bool Bool.true))]))) ::
(nat_lit 204, (PySem.Obj.mk (PySem.Value.type "getset_descriptor") Option.none (PySem.Data.fields (#[(PySem.Value.str (PySem.Str.ofString "__dict__") 552), (PySem.Value.ref 203), (PySem.Value.builtin "function.__dict__"), (PySem.Value.builtin "function.__dict__#set")])) (#[]))) ::
(nat_lit 205, (PySem.Obj.mk (PySem.Value.type "getset_descriptor") Option.none (PySem.Data.fields (#[(PySem.Value.str (PySem.Str.ofString "__weakref__") 554), (PySem.Value.ref 203), (PySem.Value.builtin "ExceptionGroup.__weakref__"), PySem.Value.none])) (#[]))) ::
(nat_lit 208, (PySem.Obj.mk (PySem.Value.type "tuple") Option.none (PySem.Data.seq (#[(PySem.Value.ref 134)]) 0) (#[]))) ::
(nat_lit 264, (PySem.Obj.mk (PySem.Value.type "tuple") Option.none (PySem.Data.seq (#[]) 0) (#[]))) ::
(nat_lit 265, (PySem.Obj.mk (PySem.Value.type "dict") Option.none (PySem.Data.dict (#[(PySem.DictEntry.mk (PySem.PyData.keyHash P (PySem.Str.ofString "__module__")) (PySem.Value.str (PySem.Str.ofString "__module__") 567) (PySem.Value.str (PySem.Str.ofString "jsonpath_ng.jsonpath") 289)), (PySem.DictEntry.mk (PySem.PyData.keyHash P (PySem.Str.ofString "__firstlineno__")) (PySem.Value.str (PySem.Str.ofString "__firstlineno__") 571) (PySem.Value.int 81 570)), (PySem.DictEntry.mk (PySem.PyData.keyHash P (PySem.Str.ofString "find")) (PySem.Value.str (PySem.Str.ofString "find") 579) (PySem.Value.ref 221)), (PySem.DictEntry.mk (PySem.PyData.keyHash P (PySem.Str.ofString "update")) (PySem.Value.str (PySem.Str.ofString "update") 588) (PySem.Value.ref 228)), (PySem.DictEntry.mk (PySem.PyData.keyHash P (PySem.Str.ofString "filter")) (PySem.Value.str (PySem.Str.ofString "filter") 597) (PySem.Value.ref 235)), (PySem.DictEntry.mk (PySem.PyData.keyHash P (PySem.Str.ofString "__str__")) (PySem.Value.str (PySem.Str.ofString "__str__") 604) (PySem.Value.ref 242)), (PySem.DictEntry.mk (PySem.PyData.keyHash P (PySem.Str.ofString "__repr__")) (PySem.Value.str (PySem.Str.ofString "__repr__") 611) (PySem.Value.ref 249)), (PySem.DictEntry.mk (PySem.PyData.keyHash P (PySem.Str.ofString "__eq__")) (PySem.Value.str (PySem.Str.ofString "__eq__") 619) (PySem.Value.ref 256)), (PySem.DictEntry.mk (PySem.PyData.keyHash P (PySem.Str.ofString "__hash__")) (PySem.Value.str (PySem.Str.ofString "__hash__") 626) (PySem.Value.ref 263)), (PySem.DictEntry.mk (PySem.PyData.keyHash P (PySem.Str.ofString "__static_attributes__")) (PySem.Value.str (PySem.Str.ofString "__static_attributes__") 627) (PySem.Value.ref 264)), (PySem.DictEntry.mk (PySem.PyData.keyHash P (PySem.Str.ofString "__doc__")) (PySem.Value.str (PySem.Str.ofString "__doc__") 628) PySem.Value.none)]) 2) (#[]))) ::
(nat_lit 266, (PySem.Obj.mk (PySem.Value.type "type") Option.none (PySem.Data.cls (PySem.ClassData.mk (PySem.Str.ofString "Root") [(PySem.Value.ref 134)] [(PySem.Value.ref 266), (PySem.Value.ref 134), (PySem.Value.type "object")] 265 (PySem.Str.ofString "Root") Bool.true [] [] Bool.false Option.none Bool.false)) (#[(Option.some (PySem.Value.ref 208)), Option.none, (Option.some (PySem.Value.str (PySem.Str.ofString "Root") 560)), (Option.some (PySem.Value.str (PySem.Str.ofString "Root") 568)), (Option.some (PySem.Value.builtin "object.__new__")), (Option.some (PySem.Value.bool Bool.true))]))) ::
(nat_lit 269, (PySem.Obj.mk (PySem.Value.type "tuple") Option.none (PySem.Data.seq (#[(PySem.Value.ref 134)]) 0) (#[]))) ::
(nat_lit 276, (PySem.Obj.mk (PySem.Value.type "tuple") Option.none (PySem.Data.seq (#[]) 0) (#[]))) ::
(nat_lit 278, (PySem.Obj.mk (PySem.Value.type "tuple") Option.none (PySem.Data.seq (#[(PySem.Value.str (PySem.Str.ofString "self") 646), (PySem.Value.str (PySem.Str.ofString "datum") 647)]) 0) (#[]))) ::
(nat_lit 279, (PySem.Obj.mk (PySem.Value.type "tuple") Option.none (PySem.Data.seq (#[]) 0) (#[]))) ::
(nat_lit 281, (PySem.Obj.mk (PySem.Value.type "code") Option.none (PySem.Data.fields (#[(PySem.Value.str (PySem.Str.ofString "find") 643), (PySem.Value.str (PySem.Str.ofString "This.find") 644), (PySem.Value.str (PySem.Str.ofString "/claim/cut.py") 645), (PySem.Value.int 110 0), (PySem.Value.int 2 0), (PySem.Value.int 0 0), (PySem.Value.int 0 0), (PySem.Value.int 3 0), (PySem.Value.ref 276), (PySem.Value.bool Bool.true), (PySem.Value.int 276 0), (PySem.Value.ref 277), PySem.Value.none, (PySem.Value.ref 278), (PySem.Value.ref 279), (PySem.Value.ref 280), (PySem.Value.int 648 0), (PySem.Value.int 110 0), (PySem.Value.str (PySem.Str.ofString "/claim/cut.py") 649)])) (#[]))) ::
(nat_lit 282, (PySem.Obj.mk (PySem.Value.type "function") Option.none (PySem.Data.func (PySem.FuncData.mk (PySem.Str.ofString "find") (PySem.Str.ofString "This.find") (fnP (inCls 11 0)) (PySem.FuncBody.stmts (fnB (inCls 11 0))) (fnS (inCls 11 0)) 3 [] PySem.Value.none PySem.Value.none PySem.Value.none (PySem.Value.str (PySem.Str.ofString "jsonpath_ng.jsonpath") 289) Option.none (PySem.Value.ref 281) PySem.Value.none 0)) (#[]))) ::
(nat_lit 325, (PySem.Obj.mk (PySem.Value.type "tuple") Option.none (PySem.Data.seq (#[]) 0) (#[]))) ::
(nat_lit 326, (PySem.Obj.mk (PySem.Value.type "dict") Option.none (PySem.Data.dict (#[(PySem.DictEntry.mk (PySem.PyData.keyHash P (PySem.Str.ofString "__module__")) (PySem.Value.str (PySem.Str.ofString "__module__") 638) (PySem.Value.str (PySem.Str.ofString "jsonpath_ng.jsonpath") 289)), (PySem.DictEntry.mk (PySem.PyData.keyHash P (PySem.Str.ofString "__firstlineno__")) (PySem.Value.str (PySem.Str.ofString "__firstlineno__") 642) (PySem.Value.int 108 641)), (PySem.DictEntry.mk (PySem.PyData.keyHash P (PySem.Str.ofString "find")) (PySem.Value.str (PySem.Str.ofString "find") 650) (PySem.Value.ref 282)), (PySem.DictEntry.mk (PySem.PyData.keyHash P (PySem.Str.ofString "update")) (PySem.Value.str (PySem.Str.ofString "update") 659) (PySem.Value.ref 289)), (PySem.DictEntry.mk (PySem.PyData.keyHash P (PySem.Str.ofString "filter")) (PySem.Value.str (PySem.Str.ofString "filter") 668) (PySem.Value.ref 296)), (PySem.DictEntry.mk (PySem.PyData.keyHash P (PySem.Str.ofString "__str__")) (PySem.Value.str (PySem.Str.ofString "__str__") 675) (PySem.Value.ref 303)), (PySem.DictEntry.mk (PySem.PyData.keyHash P (PySem.Str.ofString "__repr__")) (PySem.Value.str (PySem.Str.ofString "__repr__") 682) (PySem.Value.ref 310)), (PySem.DictEntry.mk (PySem.PyData.keyHash P (PySem.Str.ofString "__eq__")) (PySem.Value.str (PySem.Str.ofString "__eq__") 690) (PySem.Value.ref 317)), (PySem.DictEntry.mk (PySem.PyData.keyHash P (PySem.Str.ofString "__hash__")) (PySem.Value.str (PySem.Str.ofString "__hash__") 697) (PySem.Value.ref 324)), (PySem.DictEntry.mk (PySem.PyData.keyHash P (PySem.Str.ofString "__static_attributes__")) (PySem.Value.str (PySem.Str.ofString "__static_attributes__") 698) (PySem.Value.ref 325)), (PySem.DictEntry.mk (PySem.PyData.keyHash P (PySem.Str.ofString "__doc__")) (PySem.Value.str (PySem.Str.ofString "__doc__") 699) PySem.Value.none)]) 2) (#[]))) ::
(nat_lit 327, (PySem.Obj.mk (PySem.Value.type "type") Option.none (PySem.Data.cls (PySem.ClassData.mk (PySem.Str.ofString "This") [(PySem.Value.ref 134)] [(PySem.Value.ref 327), (PySem.Value.ref 134), (PySem.Value.type "object")] 326 (PySem.Str.ofString "This") Bool.true [] [] Bool.false Option.none Bool.false)) (#[(Option.some (PySem.Value.ref 269)), Option.none, (Option.some (PySem.Value.str (PySem.Str.ofString "This") 631)), (Option.some (PySem.Value.str (PySem.Str.ofString "This") 639)), (Option.some (PySem.Value.builtin "object.__new__")), (Option.some (PySem.Value.bool Bool.true))]))) ::
(nat_lit 330, (PySem.Obj.mk (PySem.Value.type "tuple") Option.none (PySem.Data.seq (#[(PySem.Value.ref 134)]) 0) (#[]))) ::
(nat_lit 337, (PySem.Obj.mk (PySem.Value.type "tuple") Option.none (PySem.Data.seq (#[]) 0) (#[]))) ::
(nat_lit 339, (PySem.Obj.mk (PySem.Value.type "tuple") Option.none (PySem.Data.seq (#[(PySem.Value.str (PySem.Str.ofString "self") 717), (PySem.Value.str (PySem.Str.ofString "left") 718), (PySem.Value.str (PySem.Str.ofString "right") 719)]) 0) (#[]))) ::
(nat_lit 340, (PySem.Obj.mk (PySem.Value.type "tuple") Option.none (PySem.Data.seq (#[]) 0) (#[]))) ::
(nat_lit 342, (PySem.Obj.mk (PySem.Value.type "code") Option.none (PySem.Data.fields (#[(PySem.Value.str (PySem.Str.ofString "__init__") 714), (PySem.Value.str (PySem.Str.ofString "Child.__init__") 715), (PySem.Value.str (PySem.Str.ofString "/claim/cut.py") 716), (PySem.Value.int 132 0), (PySem.Value.int 3 0), (PySem.Value.int 0 0), (PySem.Value.int 0 0), (PySem.Value.int 3 0), (PySem.Value.ref 337), (PySem.Value.bool Bool.true), (PySem.Value.int 276 0), (PySem.Value.ref 338), PySem.Value.none, (PySem.Value.ref 339), (PySem.Value.ref 340), (PySem.Value.ref 341), (PySem.Value.int 720 0), (PySem.Value.int 132 0), (PySem.Value.str (PySem.Str.ofString "/claim/cut.py") 721)])) (#[]))) ::
(nat_lit 343, (PySem.Obj.mk (PySem.Value.type "function") Option.none (PySem.Data.func (PySem.FuncData.mk (PySem.Str.ofString "__init__") (PySem.Str.ofString "Child.__init__") (fnP (inCls 12 0)) (PySem.FuncBody.stmts (fnB (inCls 12 0))) (fnS (inCls 12 0)) 3 [] PySem.Value.none PySem.Value.none PySem.Value.none (PySem.Value.str (PySem.Str.ofString "jsonpath_ng.jsonpath") 289) Option.none (PySem.Value.ref 342) PySem.Value.none 0)) (#[]))) ::
(nat_lit 344, (PySem.Obj.mk (PySem.Value.type "tuple") Option.none (PySem.Data.seq (#[]) 0) (#[]))) ::
(nat_lit 347, (PySem.Obj.mk (PySem.Value.type "code") Option.none (PySem.Data.fields (#[(PySem.Value.str (PySem.Str.ofString "find") 723), (PySem.Value.str (PySem.Str.ofString "Child.find") 724), (PySem.Value.str (PySem.Str.ofString "/claim/cut.py") 725), (PySem.Value.int 136 0), (PySem.Value.int 2 0), (PySem.Value.int 0 0), (PySem.Value.int 0 0), (PySem.Value.int 3 0), (PySem.Value.ref 344), (PySem.Value.bool Bool.true), (PySem.Value.int 276 0), (PySem.Value.ref 345), PySem.Value.none, PySem.Value.none, PySem.Value.none, (PySem.Value.ref 346), (PySem.Value.int 726 0), (PySem.Value.int 136 0), (PySem.Value.str (PySem.Str.ofString "/claim/cut.py") 727)])) (#[]))) ::
(nat_lit 348, (PySem.Obj.mk (PySem.Value.type "function") Option.none (PySem.Data.func (PySem.FuncData.mk (PySem.Str.ofString "find") (PySem.Str.ofString "Child.find") (fnP (inCls 12 1)) (PySem.FuncBody.stmts (fnB (inCls 12 1))) (fnS (inCls 12 1)) 3 [] PySem.Value.none PySem.Value.none PySem.Value.none (PySem.Value.str (PySem.Str.ofString "jsonpath_ng.jsonpath") 289) Option.none (PySem.Value.ref 347) PySem.Value.none 0)) (#[]))) ::
(nat_lit 419, (PySem.Obj.mk (PySem.Value.type "tuple") Option.none (PySem.Data.seq (#[(PySem.Value.str (PySem.Str.ofString "left") 818), (PySem.Value.str (PySem.Str.ofString "right") 819)]) 0) (#[]))) ::
(nat_lit 420, (PySem.Obj.mk (PySem.Value.type "dict") Option.none (PySem.Data.dict (#[(PySem.DictEntry.mk (PySem.PyData.keyHash P (PySem.Str.ofString "__module__")) (PySem.Value.str (PySem.Str.ofString "__module__") 709) (PySem.Value.str (PySem.Str.ofString "jsonpath_ng.jsonpath") 289)), (PySem.DictEntry.mk (PySem.PyData.keyHash P (PySem.Str.ofString "__firstlineno__")) (PySem.Value.str (PySem.Str.ofString "__firstlineno__") 713) (PySem.Value.int 130 712)), (PySem.DictEntry.mk (PySem.PyData.keyHash P (PySem.Str.ofString "__init__")) (PySem.Value.str (PySem.Str.ofString "__init__") 722) (PySem.Value.ref 343)), (PySem.DictEntry.mk (PySem.PyData.keyHash P (PySem.Str.ofString "find")) (PySem.Value.str (PySem.Str.ofString "find") 728) (PySem.Value.ref 348)), (PySem.DictEntry.mk (PySem.PyData.keyHash P (PySem.Str.ofString "update")) (PySem.Value.str (PySem.Str.ofString "update") 737) (PySem.Value.ref 355)), (PySem.DictEntry.mk (PySem.PyData.keyHash P (PySem.Str.ofString "_update_with_root")) (PySem.Value.str (PySem.Str.ofString "_update_with_root") 748) (PySem.Value.ref 362)), (PySem.DictEntry.mk (PySem.PyData.keyHash P (PySem.Str.ofString "find_or_create")) (PySem.Value.str (PySem.Str.ofString "find_or_create") 759) (PySem.Value.ref 369)), (PySem.DictEntry.mk (PySem.PyData.keyHash P (PySem.Str.ofString "update_or_create")) (PySem.Value.str (PySem.Str.ofString "update_or_create") 769) (PySem.Value.ref 376)), (PySem.DictEntry.mk (PySem.PyData.keyHash P (PySem.Str.ofString "filter")) (PySem.Value.str (PySem.Str.ofString "filter") 778) (PySem.Value.ref 383)), (PySem.DictEntry.mk (PySem.PyData.keyHash P (PySem.Str.ofString "_filter_with_root")) (PySem.Value.str (PySem.Str.ofString "_filter_with_root") 788) (PySem.Value.ref 390)), (PySem.DictEntry.mk (PySem.PyData.keyHash P (PySem.Str.ofString "__eq__")) (PySem.Value.str (PySem.Str.ofString "__eq__") 796) (PySem.Value.ref 397)), (PySem.DictEntry.mk (PySem.PyData.keyHash P (PySem.Str.ofString "__str__")) (PySem.Value.str (PySem.Str.ofString "__str__") 803) (PySem.Value.ref 404)), (PySem.DictEntry.mk (PySem.PyData.keyHash P (PySem.Str.ofString "__repr__")) (PySem.Value.str (PySem.Str.ofString "__repr__") 810) (PySem.Value.ref 411)), (PySem.DictEntry.mk (PySem.PyData.keyHash P (PySem.Str.ofString "__hash__")) (PySem.Value.str (PySem.Str.ofString "__hash__") 817) (PySem.Value.ref 418)), (PySem.DictEntry.mk (PySem.PyData.keyHash P (PySem.Str.ofString "__static_attributes__")) (PySem.Value.str (PySem.Str.ofString "__static_attributes__") 820) (PySem.Value.ref 419)), (PySem.DictEntry.mk (PySem.PyData.keyHash P (PySem.Str.ofString "__doc__")) (PySem.Value.str (PySem.Str.ofString "__doc__") 821) PySem.Value.none)]) 2) (#[]))) ::
(nat_lit 421, (PySem.Obj.mk (PySem.Value.type "type") Option.none (PySem.Data.cls (PySem.ClassData.mk (PySem.Str.ofString "Child") [(PySem.Value.ref 134)] [(PySem.Value.ref 421), (PySem.Value.ref 134), (PySem.Value.type "object")] 420 (PySem.Str.ofString "Child") Bool.true [] [] Bool.false Option.none Bool.false)) (#[(Option.some (PySem.Value.ref 330)), Option.none, (Option.some (PySem.Value.str (PySem.Str.ofString "Child") 702)), (Option.some (PySem.Value.str (PySem.Str.ofString "Child") 710)), (Option.some (PySem.Value.builtin "object.__new__")), (Option.some (PySem.Value.bool Bool.true))]))) ::
(nat_lit 424, (PySem.Obj.mk (PySem.Value.type "tuple") Option.none (PySem.Data.seq (#[(PySem.Value.ref 134)]) 0) (#[]))) ::
(nat_lit 431, (PySem.Obj.mk (PySem.Value.type "tuple") Option.none (PySem.Data.seq (#[]) 0) (#[]))) ::
(nat_lit 433, (PySem.Obj.mk (PySem.Value.type "tuple") Option.none (PySem.Data.seq (#[(PySem.Value.str (PySem.Str.ofString "self") 839), (PySem.Value.str (PySem.Str.ofString "left") 840), (PySem.Value.str (PySem.Str.ofString "right") 841)]) 0) (#[]))) ::
(nat_lit 434, (PySem.Obj.mk (PySem.Value.type "tuple") Option.none (PySem.Data.seq (#[]) 0) (#[]))) ::
(nat_lit 436, (PySem.Obj.mk (PySem.Value.type "code") Option.none (PySem.Data.fields (#[(PySem.Value.str (PySem.Str.ofString "__init__") 836), (PySem.Value.str (PySem.Str.ofString "Where.__init__") 837), (PySem.Value.str (PySem.Str.ofString "/claim/cut.py") 838), (PySem.Value.int 181 0), (PySem.Value.int 3 0), (PySem.Value.int 0 0), (PySem.Value.int 0 0), (PySem.Value.int 3 0), (PySem.Value.ref 431), (PySem.Value.bool Bool.true), (PySem.Value.int 276 0), (PySem.Value.ref 432), PySem.Value.none, (PySem.Value.ref 433), (PySem.Value.ref 434), (PySem.Value.ref 435), (PySem.Value.int 842 0), (PySem.Value.int 181 0), (PySem.Value.str (PySem.Str.ofString "/claim/cut.py") 843)])) (#[]))) ::
(nat_lit 437, (PySem.Obj.mk (PySem.Value.type "function") Option.none (PySem.Data.func (PySem.FuncData.mk (PySem.Str.ofString "__init__") (PySem.Str.ofString "Where.__init__") (fnP (inCls 13 0)) (PySem.FuncBody.stmts (fnB (inCls 13 0))) (fnS (inCls 13 0)) 3 [] PySem.Value.none PySem.Value.none PySem.Value.none (PySem.Value.str (PySem.Str.ofString "jsonpath_ng.jsonpath") 289) Option.none (PySem.Value.ref 436) PySem.Value.none 0)) (#[]))) ::
(nat_lit 478, (PySem.Obj.mk (PySem.Value.type "tuple") Option.none (PySem.Data.seq (#[(PySem.Value.str (PySem.Str.ofString "left") 892), (PySem.Value.str (PySem.Str.ofString "right") 893)]) 0) (#[]))) ::
(nat_lit 479, (PySem.Obj.mk (PySem.Value.type "dict") Option.none (PySem.Data.dict (#[(PySem.DictEntry.mk (PySem.PyData.keyHash P (PySem.Str.ofString "__module__")) (PySem.Value.str (PySem.Str.ofString "__module__") 831) (PySem.Value.str (PySem.Str.ofString "jsonpath_ng.jsonpath") 289)), (PySem.DictEntry.mk (PySem.PyData.keyHash P (PySem.Str.ofString "__firstlineno__")) (PySem.Value.str (PySem.Str.ofString "__firstlineno__") 835) (PySem.Value.int 179 834)), (PySem.DictEntry.mk (PySem.PyData.keyHash P (PySem.Str.ofString "__init__")) (PySem.Value.str (PySem.Str.ofString "__init__") 844) (PySem.Value.ref 437)), (PySem.DictEntry.mk (PySem.PyData.keyHash P (PySem.Str.ofString "find")) (PySem.Value.str (PySem.Str.ofString "find") 850) (PySem.Value.ref 442)), (PySem.DictEntry.mk (PySem.PyData.keyHash P (PySem.Str.ofString "update")) (PySem.Value.str (PySem.Str.ofString "update") 860) (PySem.Value.ref 449)), (PySem.DictEntry.mk (PySem.PyData.keyHash P (PySem.Str.ofString "filter")) (PySem.Value.str (PySem.Str.ofString "filter") 869) (PySem.Value.ref 456)), (PySem.DictEntry.mk (PySem.PyData.keyHash P (PySem.Str.ofString "__str__")) (PySem.Value.str (PySem.Str.ofString "__str__") 876) (PySem.Value.ref 463)), (PySem.DictEntry.mk (PySem.PyData.keyHash P (PySem.Str.ofString "__eq__")) (PySem.Value.str (PySem.Str.ofString "__eq__") 884) (PySem.Value.ref 470)), (PySem.DictEntry.mk (PySem.PyData.keyHash P (PySem.Str.ofString "__hash__")) (PySem.Value.str (PySem.Str.ofString "__hash__") 891) (PySem.Value.ref 477)), (PySem.DictEntry.mk (PySem.PyData.keyHash P (PySem.Str.ofString "__static_attributes__")) (PySem.Value.str (PySem.Str.ofString "__static_attributes__") 894) (PySem.Value.ref 478)), (PySem.DictEntry.mk (PySem.PyData.keyHash P (PySem.Str.ofString "__doc__")) (PySem.Value.str (PySem.Str.ofString "__doc__") 895) PySem.Value.none)]) 2) (#[]))) ::
(nat_lit 480, (PySem.Obj.mk (PySem.Value.type "type") Option.none (PySem.Data.cls (PySem.ClassData.mk (PySem.Str.ofString "Where") [(PySem.Value.ref 134)] [(PySem.Value.ref 480), (PySem.Value.ref 134), (PySem.Value.type "object")] 479 (PySem.Str.ofString "Where") Bool.true [] [(PySem.Value.ref 518)] Bool.false Option.none Bool.false)) (#[(Option.some (PySem.Value.ref 424)), Option.none, (Option.some (PySem.Value.str (PySem.Str.ofString "Where") 824)), (Option.some (PySem.Value.str (PySem.Str.ofString "Where") 832)), (Option.some (PySem.Value.builtin "object.__new__")), (Option.some (PySem.Value.bool Bool.true))]))) ::
(nat_lit 483, (PySem.Obj.mk (PySem.Value.type "tuple") Option.none (PySem.Data.seq (#[(PySem.Value.ref 480)]) 0) (#[]))) ::
(nat_lit 490, (PySem.Obj.mk (PySem.Value.type "tuple") Option.none (PySem.Data.seq (#[]) 0) (#[]))) ::
(nat_lit 493, (PySem.Obj.mk (PySem.Value.type "code") Option.none (PySem.Data.fields (#[(PySem.Value.str (PySem.Str.ofString "find") 910), (PySem.Value.str (PySem.Str.ofString "WhereNot.find") 911), (PySem.Value.str (PySem.Str.ofString "/claim/cut.py") 912), (PySem.Value.int 206 0), (PySem.Value.int 2 0), (PySem.Value.int 0 0), (PySem.Value.int 0 0), (PySem.Value.int 3 0), (PySem.Value.ref 490), (PySem.Value.bool Bool.true), (PySem.Value.int 276 0), (PySem.Value.ref 491), PySem.Value.none, PySem.Value.none, PySem.Value.none, (PySem.Value.ref 492), (PySem.Value.int 913 0), (PySem.Value.int 206 0), (PySem.Value.str (PySem.Str.ofString "/claim/cut.py") 914)])) (#[]))) ::
(nat_lit 494, (PySem.Obj.mk (PySem.Value.type "function") Option.none (PySem.Data.func (PySem.FuncData.mk (PySem.Str.ofString "find") (PySem.Str.ofString "WhereNot.find") (fnP (inCls 14 0)) (PySem.FuncBody.stmts (fnB (inCls 14 0))) (fnS (inCls 14 0)) 3 [] PySem.Value.none PySem.Value.none PySem.Value.none (PySem.Value.str (PySem.Str.ofString "jsonpath_ng.jsonpath") 289) Option.none (PySem.Value.ref 493) PySem.Value.none 0)) (#[]))) ::
(nat_lit 516, (PySem.Obj.mk (PySem.Value.type "tuple") Option.none (PySem.Data.seq (#[]) 0) (#[]))) ::
(nat_lit 517, (PySem.Obj.mk (PySem.Value.type "dict") Option.none (PySem.Data.dict (#[(PySem.DictEntry.mk (PySem.PyData.keyHash P (PySem.Str.ofString "__module__")) (PySem.Value.str (PySem.Str.ofString "__module__") 905) (PySem.Value.str (PySem.Str.ofString "jsonpath_ng.jsonpath") 289)), (PySem.DictEntry.mk (PySem.PyData.keyHash P (PySem.Str.ofString "__firstlineno__")) (PySem.Value.str (PySem.Str.ofString "__firstlineno__") 909) (PySem.Value.int 204 908)), (PySem.DictEntry.mk (PySem.PyData.keyHash P (PySem.Str.ofString "find")) (PySem.Value.str (PySem.Str.ofString "find") 915) (PySem.Value.ref 494)), (PySem.DictEntry.mk (PySem.PyData.keyHash P (PySem.Str.ofString "__str__")) (PySem.Value.str (PySem.Str.ofString "__str__") 922) (PySem.Value.ref 501)), (PySem.DictEntry.mk (PySem.PyData.keyHash P (PySem.Str.ofString "__eq__")) (PySem.Value.str (PySem.Str.ofString "__eq__") 930) (PySem.Value.ref 508)), (PySem.DictEntry.mk (PySem.PyData.keyHash P (PySem.Str.ofString "__hash__")) (PySem.Value.str (PySem.Str.ofString "__hash__") 937) (PySem.Value.ref 515)), (PySem.DictEntry.mk (PySem.PyData.keyHash P (PySem.Str.ofString "__static_attributes__")) (PySem.Value.str (PySem.Str.ofString "__static_attributes__") 938) (PySem.Value.ref 516)), (PySem.DictEntry.mk (PySem.PyData.keyHash P (PySem.Str.ofString "__doc__")) (PySem.Value.str (PySem.Str.ofString "__doc__") 939) PySem.Value.none)]) 2) (#[]))) ::
(nat_lit 518, (PySem.Obj.mk (PySem.Value.type "type") Option.none (PySem.Data.cls (PySem.ClassData.mk (PySem.Str.ofString "WhereNot") [(PySem.Value.ref 480)] [(PySem.Value.ref 518), (PySem.Value.ref 480), (PySem.Value.ref 134), (PySem.Value.type "object")] 517 (PySem.Str.ofString "WhereNot") Bool.true [] [] Bool.false Option.none Bool.false)) (#[(Option.some (PySem.Value.ref 483)), Option.none, (Option.some (PySem.Value.str (PySem.Str.ofString "WhereNot") 898)), (Option.some (PySem.Value.str (PySem.Str.ofString "WhereNot") 906)), (Option.some (PySem.Value.builtin "object.__new__")), (Option.some (PySem.Value.bool Bool.true))]))) ::
(nat_lit 521, (PySem.Obj.mk (PySem.Value.type "tuple") Option.none (PySem.Data.seq (#[(PySem.Value.ref 134)]) 0) (#[]))) ::
(nat_lit 528, (PySem.Obj.mk (PySem.Value.type "tuple") Option.none (PySem.Data.seq (#[]) 0) (#[]))) ::
(nat_lit 530, (PySem.Obj.mk (PySem.Value.type "tuple") Option.none (PySem.Data.seq (#[(PySem.Value.str (PySem.Str.ofString "self") 957), (PySem.Value.str (PySem.Str.ofString "fields") 958)]) 0) (#[]))) ::
(nat_lit 531, (PySem.Obj.mk (PySem.Value.type "tuple") Option.none (PySem.Data.seq (#[]) 0) (#[]))) ::
(nat_lit 533, (PySem.Obj.mk (PySem.Value.type "code") Option.none (PySem.Data.fields (#[(PySem.Value.str (PySem.Str.ofString "__init__") 954), (PySem.Value.str (PySem.Str.ofString "Fields.__init__") 955), (PySem.Value.str (PySem.Str.ofString "/claim/cut.py") 956), (PySem.Value.int 219 0), (PySem.Value.int 1 0), (PySem.Value.int 0 0), (PySem.Value.int 0 0), (PySem.Value.int 7 0), (PySem.Value.ref 528), (PySem.Value.bool Bool.true), (PySem.Value.int 276 0), (PySem.Value.ref 529), PySem.Value.none, (PySem.Value.ref 530), (PySem.Value.ref 531), (PySem.Value.ref 532), (PySem.Value.int 959 0), (PySem.Value.int 219 0), (PySem.Value.str (PySem.Str.ofString "/claim/cut.py") 960)])) (#[]))) ::
(nat_lit 534, (PySem.Obj.mk (PySem.Value.type "function") Option.none (PySem.Data.func (PySem.FuncData.mk (PySem.Str.ofString "__init__") (PySem.Str.ofString "Fields.__init__") (fnP (inCls 15 0)) (PySem.FuncBody.stmts (fnB (inCls 15 0))) (fnS (inCls 15 0)) 3 [] PySem.Value.none PySem.Value.none PySem.Value.none (PySem.Value.str (PySem.Str.ofString "jsonpath_ng.jsonpath") 289) Option.none (PySem.Value.ref 533) PySem.Value.none 0)) (#[]))) ::
(nat_lit 535, (PySem.Obj.mk (PySem.Value.type "tuple") Option.none (PySem.Data.seq (#[]) 0) (#[]))) ::
(nat_lit 537, (PySem.Obj.mk (PySem.Value.type "tuple") Option.none (PySem.Data.seq (#[(PySem.Value.str (PySem.Str.ofString "cls") 965), (PySem.Value.str (PySem.Str.ofString "fields") 966), (PySem.Value.str (PySem.Str.ofString "node") 967)]) 0) (#[]))) ::
(nat_lit 538, (PySem.Obj.mk (PySem.Value.type "tuple") Option.none (PySem.Data.seq (#[]) 0) (#[]))) ::
(nat_lit 540, (PySem.Obj.mk (PySem.Value.type "code") Option.none (PySem.Data.fields (#[(PySem.Value.str (PySem.Str.ofString "_compliant_constructor") 962), (PySem.Value.str (PySem.Str.ofString "Fields._compliant_constructor") 963), (PySem.Value.str (PySem.Str.ofString "/claim/cut.py") 964), (PySem.Value.int 223 0), (PySem.Value.int 1 0), (PySem.Value.int 0 0), (PySem.Value.int 0 0), (PySem.Value.int 7 0), (PySem.Value.ref 535), (PySem.Value.bool Bool.true), (PySem.Value.int 276 0), (PySem.Value.ref 536), PySem.Value.none, (PySem.Value.ref 537), (PySem.Value.ref 538), (PySem.Value.ref 539), (PySem.Value.int 968 0), (PySem.Value.int 223 0), (PySem.Value.str (PySem.Str.ofString "/claim/cut.py") 969)])) (#[]))) ::
(nat_lit 541, (PySem.Obj.mk (PySem.Value.type "function") Option.none (PySem.Data.func (PySem.FuncData.mk (PySem.Str.ofString "_compliant_constructor") (PySem.Str.ofString "Fields._compliant_constructor") (fnP (inCls 15 1)) (PySem.FuncBody.stmts (fnB (inCls 15 1))) (fnS (inCls 15 1)) 3 [] PySem.Value.none PySem.Value.none PySem.Value.none (PySem.Value.str (PySem.Str.ofString "jsonpath_ng.jsonpath") 289) (Option.some 544) (PySem.Value.ref 540) PySem.Value.none 0)) (#[]))) ::
(nat_lit 542, (PySem.Obj.mk (PySem.Value.type "dict") Option.none (PySem.Data.dict (#[(PySem.DictEntry.mk (PySem.PyData.keyHash P (PySem.Str.ofString "__module__")) (PySem.Value.str (PySem.Str.ofString "__module__") 971) (PySem.Value.str (PySem.Str.ofString "jsonpath_ng.jsonpath") 289)), (PySem.DictEntry.mk (PySem.PyData.keyHash P (PySem.Str.ofString "__name__")) (PySem.Value.str (PySem.Str.ofString "__name__") 974) (PySem.Value.str (PySem.Str.ofString "_compliant_constructor") 973)), (PySem.DictEntry.mk (PySem.PyData.keyHash P (PySem.Str.ofString "__qualname__")) (PySem.Value.str (PySem.Str.ofString "__qualname__") 977) (PySem.Value.str (PySem.Str.ofString "Fields._compliant_constructor") 976)), (PySem.DictEntry.mk (PySem.PyData.keyHash P (PySem.Str.ofString "__doc__")) (PySem.Value.str (PySem.Str.ofString "__doc__") 979) PySem.Value.none), (PySem.DictEntry.mk (PySem.PyData.keyHash P (PySem.Str.ofString "__annotations__")) (PySem.Value.str (PySem.Str.ofString "__annotations__") 981) (PySem.Value.ref 544))]) 5) (#[]))) ::
(nat_lit 543, (PySem.Obj.mk (PySem.Value.type "classmethod") (Option.some 542) (PySem.Data.fields (#[(PySem.Value.ref 541), (PySem.Value.bool Bool.false)])) (#[]))) ::
(nat_lit 544, (PySem.Obj.mk (PySem.Value.type "dict") Option.none (PySem.Data.dict (#[]) 0) (#[]))) ::
(nat_lit 545, (PySem.Obj.mk (PySem.Value.type "tuple") Option.none (PySem.Data.seq (#[]) 0) (#[]))) ::
(nat_lit 547, (PySem.Obj.mk (PySem.Value.type "tuple") Option.none (PySem.Data.seq (#[(PySem.Value.str (PySem.Str.ofString "self") 986), (PySem.Value.str (PySem.Str.ofString "value") 987)]) 0) (#[]))) ::
(nat_lit 548, (PySem.Obj.mk (PySem.Value.type "tuple") Option.none (PySem.Data.seq (#[]) 0) (#[]))) ::
(nat_lit 550, (PySem.Obj.mk (PySem.Value.type "code") Option.none (PySem.Data.fields (#[(PySem.Value.str (PySem.Str.ofString "_is_wildcard_on_array") 983), (PySem.Value.str (PySem.Str.ofString "Fields._is_wildcard_on_array") 984), (PySem.Value.str (PySem.Str.ofString "/claim/cut.py") 985), (PySem.Value.int 229 0), (PySem.Value.int 2 0), (PySem.Value.int 0 0), (PySem.Value.int 0 0), (PySem.Value.int 3 0), (PySem.Value.ref 545), (PySem.Value.bool Bool.true), (PySem.Value.int 276 0), (PySem.Value.ref 546), PySem.Value.none, (PySem.Value.ref 547), (PySem.Value.ref 548), (PySem.Value.ref 549), (PySem.Value.int 988 0), (PySem.Value.int 229 0), (PySem.Value.str (PySem.Str.ofString "/claim/cut.py") 989)])) (#[]))) ::
(nat_lit 551, (PySem.Obj.mk (PySem.Value.type "function") Option.none (PySem.Data.func (PySem.FuncData.mk (PySem.Str.ofString "_is_wildcard_on_array") (PySem.Str.ofString "Fields._is_wildcard_on_array") (fnP (inCls 15 2)) (PySem.FuncBody.stmts (fnB (inCls 15 2))) (fnS (inCls 15 2)) 3 [] PySem.Value.none PySem.Value.none PySem.Value.none (PySem.Value.str (PySem.Str.ofString "jsonpath_ng.jsonpath") 289) Option.none (PySem.Value.ref 550) PySem.Value.none 0)) (#[]))) ::
(nat_lit 552, (PySem.Obj.mk (PySem.Value.type "tuple") Option.none (PySem.Data.seq (#[]) 0) (#[]))) ::
(nat_lit 554, (PySem.Obj.mk (PySem.Value.type "tuple") Option.none (PySem.Data.seq (#[(PySem.Value.str (PySem.Str.ofString "datum") 994), (PySem.Value.str (PySem.Str.ofString "field") 995), (PySem.Value.str (PySem.Str.ofString "create") 996), (PySem.Value.str (PySem.Str.ofString "field_value") 997)]) 0) (#[]))) ::
(nat_lit 555, (PySem.Obj.mk (PySem.Value.type "tuple") Option.none (PySem.Data.seq (#[]) 0) (#[]))) ::
(nat_lit 557, (PySem.Obj.mk (PySem.Value.type "code") Option.none (PySem.Data.fields (#[(PySem.Value.str (PySem.Str.ofString "get_field_datum") 991), (PySem.Value.str (PySem.Str.ofString "Fields.get_field_datum") 992), (PySem.Value.str (PySem.Str.ofString "/claim/cut.py") 993), (PySem.Value.int 232 0), (PySem.Value.int 3 0), (PySem.Value.int 0 0), (PySem.Value.int 0 0), (PySem.Value.int 3 0), (PySem.Value.ref 552), (PySem.Value.bool Bool.true), (PySem.Value.int 276 0), (PySem.Value.ref 553), PySem.Value.none, (PySem.Value.ref 554), (PySem.Value.ref 555), (PySem.Value.ref 556), (PySem.Value.int 998 0), (PySem.Value.int 232 0), (PySem.Value.str (PySem.Str.ofString "/claim/cut.py") 999)])) (#[]))) ::
(nat_lit 558, (PySem.Obj.mk (PySem.Value.type "function") Option.none (PySem.Data.func (PySem.FuncData.mk (PySem.Str.ofString "get_field_datum") (PySem.Str.ofString "Fields.get_field_datum") (fnP (inCls 15 3)) (PySem.FuncBody.stmts (fnB (inCls 15 3))) (fnS (inCls 15 3)) 3 [] PySem.Value.none PySem.Value.none PySem.Value.none (PySem.Value.str (PySem.Str.ofString "jsonpath_ng.jsonpath") 289) (Option.some 561) (PySem.Value.ref 557) PySem.Value.none 0)) (#[]))) ::
(nat_lit 559, (PySem.Obj.mk (PySem.Value.type "dict") Option.none (PySem.Data.dict (#[(PySem.DictEntry.mk (PySem.PyData.keyHash P (PySem.Str.ofString "__module__")) (PySem.Value.str (PySem.Str.ofString "__module__") 1001) (PySem.Value.str (PySem.Str.ofString "jsonpath_ng.jsonpath") 289)), (PySem.DictEntry.mk (PySem.PyData.keyHash P (PySem.Str.ofString "__name__")) (PySem.Value.str (PySem.Str.ofString "__name__") 1004) (PySem.Value.str (PySem.Str.ofString "get_field_datum") 1003)), (PySem.DictEntry.mk (PySem.PyData.keyHash P (PySem.Str.ofString "__qualname__")) (PySem.Value.str (PySem.Str.ofString "__qualname__") 1007) (PySem.Value.str (PySem.Str.ofString "Fields.get_field_datum") 1006)), (PySem.DictEntry.mk (PySem.PyData.keyHash P (PySem.Str.ofString "__doc__")) (PySem.Value.str (PySem.Str.ofString "__doc__") 1009) PySem.Value.none), (PySem.DictEntry.mk (PySem.PyData.keyHash P (PySem.Str.ofString "__annotations__")) (PySem.Value.str (PySem.Str.ofString "__annotations__") 1011) (PySem.Value.ref 561))]) 5) (#[]))) ::
(nat_lit 560, (PySem.Obj.mk (PySem.Value.type "staticmethod") (Option.some 559) (PySem.Data.fields (#[(PySem.Value.ref 558), (PySem.Value.bool Bool.false)])) (#[]))) ::
(nat_lit 561, (PySem.Obj.mk (PySem.Value.type "dict") Option.none (PySem.Data.dict (#[]) 0) (#[]))) ::
(nat_lit 562, (PySem.Obj.mk (PySem.Value.type "tuple") Option.none (PySem.Data.seq (#[]) 0) (#[]))) ::
(nat_lit 564, (PySem.Obj.mk (PySem.Value.type "tuple") Option.none (PySem.Data.seq (#[(PySem.Value.str (PySem.Str.ofString "self") 1016), (PySem.Value.str (PySem.Str.ofString "datum") 1017), (PySem.Value.str (PySem.Str.ofString "fields") 1018)]) 0) (#[]))) ::
(nat_lit 565, (PySem.Obj.mk (PySem.Value.type "tuple") Option.none (PySem.Data.seq (#[]) 0) (#[]))) ::
(nat_lit 567, (PySem.Obj.mk (PySem.Value.type "code") Option.none (PySem.Data.fields (#[(PySem.Value.str (PySem.Str.ofString "reified_fields") 1013), (PySem.Value.str (PySem.Str.ofString "Fields.reified_fields") 1014), (PySem.Value.str (PySem.Str.ofString "/claim/cut.py") 1015), (PySem.Value.int 245 0), (PySem.Value.int 2 0), (PySem.Value.int 0 0), (PySem.Value.int 0 0), (PySem.Value.int 3 0), (PySem.Value.ref 562), (PySem.Value.bool Bool.true), (PySem.Value.int 276 0), (PySem.Value.ref 563), PySem.Value.none, (PySem.Value.ref 564), (PySem.Value.ref 565), (PySem.Value.ref 566), (PySem.Value.int 1019 0), (PySem.Value.int 245 0), (PySem.Value.str (PySem.Str.ofString "/claim/cut.py") 1020)])) (#[]))) ::
(nat_lit 568, (PySem.Obj.mk (PySem.Value.type "function") Option.none (PySem.Data.func (PySem.FuncData.mk (PySem.Str.ofString "reified_fields") (PySem.Str.ofString "Fields.reified_fields") (fnP (inCls 15 4)) (PySem.FuncBody.stmts (fnB (inCls 15 4))) (fnS (inCls 15 4)) 3 [] PySem.Value.none PySem.Value.none PySem.Value.none (PySem.Value.str (PySem.Str.ofString "jsonpath_ng.jsonpath") 289) Option.none (PySem.Value.ref 567) PySem.Value.none 0)) (#[]))) ::
(nat_lit 569, (PySem.Obj.mk (PySem.Value.type "tuple") Option.none (PySem.Data.seq (#[]) 0) (#[]))) ::
(nat_lit 571, (PySem.Obj.mk (PySem.Value.type "tuple") Option.none (PySem.Data.seq (#[(PySem.Value.str (PySem.Str.ofString "self") 1025), (PySem.Value.str (PySem.Str.ofString "datum") 1026)]) 0) (#[]))) ::
(nat_lit 572, (PySem.Obj.mk (PySem.Value.type "tuple") Option.none (PySem.Data.seq (#[]) 0) (#[]))) ::
(nat_lit 574, (PySem.Obj.mk (PySem.Value.type "code") Option.none (PySem.Data.fields (#[(PySem.Value.str (PySem.Str.ofString "find") 1022), (PySem.Value.str (PySem.Str.ofString "Fields.find") 1023), (PySem.Value.str (PySem.Str.ofString "/claim/cut.py") 1024), (PySem.Value.int 255 0), (PySem.Value.int 2 0), (PySem.Value.int 0 0), (PySem.Value.int 0 0), (PySem.Value.int 3 0), (PySem.Value.ref 569), (PySem.Value.bool Bool.true), (PySem.Value.int 276 0), (PySem.Value.ref 570), PySem.Value.none, (PySem.Value.ref 571), (PySem.Value.ref 572), (PySem.Value.ref 573), (PySem.Value.int 1027 0), (PySem.Value.int 255 0), (PySem.Value.str (PySem.Str.ofString "/claim/cut.py") 1028)])) (#[]))) ::
(nat_lit 575, (PySem.Obj.mk (PySem.Value.type "function") Option.none (PySem.Data.func (PySem.FuncData.mk (PySem.Str.ofString "find") (PySem.Str.ofString "Fields.find") (fnP (inCls 15 5)) (PySem.FuncBody.stmts (fnB (inCls 15 5))) (fnS (inCls 15 5)) 3 [] PySem.Value.none PySem.Value.none PySem.Value.none (PySem.Value.str (PySem.Str.ofString "jsonpath_ng.jsonpath") 289) Option.none (PySem.Value.ref 574) PySem.Value.none 0)) (#[]))) ::
(nat_lit 583, (PySem.Obj.mk (PySem.Value.type "tuple") Option.none (PySem.Data.seq (#[]) 0) (#[]))) ::
(nat_lit 586, (PySem.Obj.mk (PySem.Value.type "code") Option.none (PySem.Data.fields (#[(PySem.Value.str (PySem.Str.ofString "_find_base") 1038), (PySem.Value.str (PySem.Str.ofString "Fields._find_base") 1039), (PySem.Value.str (PySem.Str.ofString "/claim/cut.py") 1040), (PySem.Value.int 261 0), (PySem.Value.int 3 0), (PySem.Value.int 0 0), (PySem.Value.int 0 0), (PySem.Value.int 3 0), (PySem.Value.ref 583), (PySem.Value.bool Bool.true), (PySem.Value.int 276 0), (PySem.Value.ref 584), PySem.Value.none, PySem.Value.none, PySem.Value.none, (PySem.Value.ref 585), (PySem.Value.int 1041 0), (PySem.Value.int 261 0), (PySem.Value.str (PySem.Str.ofString "/claim/cut.py") 1042)])) (#[]))) ::
(nat_lit 587, (PySem.Obj.mk (PySem.Value.type "function") Option.none (PySem.Data.func (PySem.FuncData.mk (PySem.Str.ofString "_find_base") (PySem.Str.ofString "Fields._find_base") (fnP (inCls 15 7)) (PySem.FuncBody.stmts (fnB (inCls 15 7))) (fnS (inCls 15 7)) 3 [] PySem.Value.none PySem.Value.none PySem.Value.none (PySem.Value.str (PySem.Str.ofString "jsonpath_ng.jsonpath") 289) Option.none (PySem.Value.ref 586) PySem.Value.none 0)) (#[]))) ::
(nat_lit 644, (PySem.Obj.mk (PySem.Value.type "tuple") Option.none (PySem.Data.seq (#[(PySem.Value.str (PySem.Str.ofString "_deprecated_wildcard_use") 1115), (PySem.Value.str (PySem.Str.ofString "fields") 1116)]) 0) (#[]))) ::
(nat_lit 645, (PySem.Obj.mk (PySem.Value.type "dict") Option.none (PySem.Data.dict (#[(PySem.DictEntry.mk (PySem.PyData.keyHash P (PySem.Str.ofString "__module__")) (PySem.Value.str (PySem.Str.ofString "__module__") 949) (PySem.Value.str (PySem.Str.ofString "jsonpath_ng.jsonpath") 289)), (PySem.DictEntry.mk (PySem.PyData.keyHash P (PySem.Str.ofString "__firstlineno__")) (PySem.Value.str (PySem.Str.ofString "__firstlineno__") 953) (PySem.Value.int 217 952)), (PySem.DictEntry.mk (PySem.PyData.keyHash P (PySem.Str.ofString "__init__")) (PySem.Value.str (PySem.Str.ofString "__init__") 961) (PySem.Value.ref 534)), (PySem.DictEntry.mk (PySem.PyData.keyHash P (PySem.Str.ofString "_compliant_constructor")) (PySem.Value.str (PySem.Str.ofString "_compliant_constructor") 982) (PySem.Value.ref 543)), (PySem.DictEntry.mk (PySem.PyData.keyHash P (PySem.Str.ofString "_is_wildcard_on_array")) (PySem.Value.str (PySem.Str.ofString "_is_wildcard_on_array") 990) (PySem.Value.ref 551)), (PySem.DictEntry.mk (PySem.PyData.keyHash P (PySem.Str.ofString "get_field_datum")) (PySem.Value.str (PySem.Str.ofString "get_field_datum") 1012) (PySem.Value.ref 560)), (PySem.DictEntry.mk (PySem.PyData.keyHash P (PySem.Str.ofString "reified_fields")) (PySem.Value.str (PySem.Str.ofString "reified_fields") 1021) (PySem.Value.ref 568)), (PySem.DictEntry.mk (PySem.PyData.keyHash P (PySem.Str.ofString "find")) (PySem.Value.str (PySem.Str.ofString "find") 1029) (PySem.Value.ref 575)), (PySem.DictEntry.mk (PySem.PyData.keyHash P (PySem.Str.ofString "find_or_create")) (PySem.Value.str (PySem.Str.ofString "find_or_create") 1037) (PySem.Value.ref 582)), (PySem.DictEntry.mk (PySem.PyData.keyHash P (PySem.Str.ofString "_find_base")) (PySem.Value.str (PySem.Str.ofString "_find_base") 1043) (PySem.Value.ref 587)), (PySem.DictEntry.mk (PySem.PyData.keyHash P (PySem.Str.ofString "update")) (PySem.Value.str (PySem.Str.ofString "update") 1052) (PySem.Value.ref 594)), (PySem.DictEntry.mk (PySem.PyData.keyHash P (PySem.Str.ofString "update_or_create")) (PySem.Value.str (PySem.Str.ofString "update_or_create") 1061) (PySem.Value.ref 601)), (PySem.DictEntry.mk (PySem.PyData.keyHash P (PySem.Str.ofString "_update_base")) (PySem.Value.str (PySem.Str.ofString "_update_base") 1073) (PySem.Value.ref 608)), (PySem.DictEntry.mk (PySem.PyData.keyHash P (PySem.Str.ofString "filter")) (PySem.Value.str (PySem.Str.ofString "filter") 1082) (PySem.Value.ref 615)), (PySem.DictEntry.mk (PySem.PyData.keyHash P (PySem.Str.ofString "__str__")) (PySem.Value.str (PySem.Str.ofString "__str__") 1091) (PySem.Value.ref 622)), (PySem.DictEntry.mk (PySem.PyData.keyHash P (PySem.Str.ofString "__repr__")) (PySem.Value.str (PySem.Str.ofString "__repr__") 1099) (PySem.Value.ref 629)), (PySem.DictEntry.mk (PySem.PyData.keyHash P (PySem.Str.ofString "__eq__")) (PySem.Value.str (PySem.Str.ofString "__eq__") 1107) (PySem.Value.ref 636)), (PySem.DictEntry.mk (PySem.PyData.keyHash P (PySem.Str.ofString "__hash__")) (PySem.Value.str (PySem.Str.ofString "__hash__") 1114) (PySem.Value.ref 643)), (PySem.DictEntry.mk (PySem.PyData.keyHash P (PySem.Str.ofString "__static_attributes__")) (PySem.Value.str (PySem.Str.ofString "__static_attributes__") 1117) (PySem.Value.ref 644)), (PySem.DictEntry.mk (PySem.PyData.keyHash P (PySem.Str.ofString "__doc__")) (PySem.Value.str (PySem.Str.ofString "__doc__") 1118) PySem.Value.none)]) 2) (#[]))) ::
(nat_lit 646, (PySem.Obj.mk (PySem.Value.type "type") Option.none (PySem.Data.cls (PySem.ClassData.mk (PySem.Str.ofString "Fields") [(PySem.Value.ref 134)] [(PySem.Value.ref 646), (PySem.Value.ref 134), (PySem.Value.type "object")] 645 (PySem.Str.ofString "Fields") Bool.true [] [] Bool.false Option.none Bool.false)) (#[(Option.some (PySem.Value.ref 521)), Option.none, (Option.some (PySem.Value.str (PySem.Str.ofString "Fields") 942)), (Option.some (PySem.Value.str (PySem.Str.ofString "Fields") 950)), (Option.some (PySem.Value.builtin "object.__new__")), (Option.some (PySem.Value.bool Bool.true))]))) ::
(nat_lit 649, (PySem.Obj.mk (PySem.Value.type "tuple") Option.none (PySem.Data.seq (#[(PySem.Value.ref 134)]) 0) (#[]))) ::
(nat_lit 663, (PySem.Obj.mk (PySem.Value.type "dict") Option.none (PySem.Data.dict (#[(PySem.DictEntry.mk (PySem.PyData.keyHash P (PySem.Str.ofString "__module__")) (PySem.Value.str (PySem.Str.ofString "__module__") 1140) (PySem.Value.str (PySem.Str.ofString "jsonpath_ng.jsonpath") 289)), (PySem.DictEntry.mk (PySem.PyData.keyHash P (PySem.Str.ofString "__name__")) (PySem.Value.str (PySem.Str.ofString "__name__") 1143) (PySem.Value.str (PySem.Str.ofString "_keys") 1142)), (PySem.DictEntry.mk (PySem.PyData.keyHash P (PySem.Str.ofString "__qualname__")) (PySem.Value.str (PySem.Str.ofString "__qualname__") 1146) (PySem.Value.str (PySem.Str.ofString "Wildcard._keys") 1145)), (PySem.DictEntry.mk (PySem.PyData.keyHash P (PySem.Str.ofString "__doc__")) (PySem.Value.str (PySem.Str.ofString "__doc__") 1148) PySem.Value.none), (PySem.DictEntry.mk (PySem.PyData.keyHash P (PySem.Str.ofString "__annotations__")) (PySem.Value.str (PySem.Str.ofString "__annotations__") 1150) (PySem.Value.ref 665))]) 5) (#[]))) ::
(nat_lit 664, (PySem.Obj.mk (PySem.Value.type "staticmethod") (Option.some 663) (PySem.Data.fields (#[(PySem.Value.ref 662), (PySem.Value.bool Bool.false)])) (#[]))) ::
(nat_lit 665, (PySem.Obj.mk (PySem.Value.type "dict") Option.none (PySem.Data.dict (#[]) 0) (#[]))) ::
(nat_lit 666, (PySem.Obj.mk (PySem.Value.type "tuple") Option.none (PySem.Data.seq (#[]) 0) (#[]))) ::
(nat_lit 669, (PySem.Obj.mk (PySem.Value.type "code") Option.none (PySem.Data.fields (#[(PySem.Value.str (PySem.Str.ofString "find") 1152), (PySem.Value.str (PySem.Str.ofString "Wildcard.find") 1153), (PySem.Value.str (PySem.Str.ofString "/claim/cut.py") 1154), (PySem.Value.int 324 0), (PySem.Value.int 2 0), (PySem.Value.int 0 0), (PySem.Value.int 0 0), (PySem.Value.int 3 0), (PySem.Value.ref 666), (PySem.Value.bool Bool.true), (PySem.Value.int 276 0), (PySem.Value.ref 667), PySem.Value.none, PySem.Value.none, PySem.Value.none, (PySem.Value.ref 668), (PySem.Value.int 1155 0), (PySem.Value.int 324 0), (PySem.Value.str (PySem.Str.ofString "/claim/cut.py") 1156)])) (#[]))) ::
(nat_lit 670, (PySem.Obj.mk (PySem.Value.type "function") Option.none (PySem.Data.func (PySem.FuncData.mk (PySem.Str.ofString "find") (PySem.Str.ofString "Wildcard.find") (fnP (inCls 16 1)) (PySem.FuncBody.stmts (fnB (inCls 16 1))) (fnS (inCls 16 1)) 3 [] PySem.Value.none PySem.Value.none PySem.Value.none (PySem.Value.str (PySem.Str.ofString "jsonpath_ng.jsonpath") 289) Option.none (PySem.Value.ref 669) PySem.Value.none 0)) (#[]))) ::
(nat_lit 720, (PySem.Obj.mk (PySem.Value.type "tuple") Option.none (PySem.Data.seq (#[]) 0) (#[]))) ::
(nat_lit 721, (PySem.Obj.mk (PySem.Value.type "dict") Option.none (PySem.Data.dict (#[(PySem.DictEntry.mk (PySem.PyData.keyHash P (PySem.Str.ofString "__module__")) (PySem.Value.str (PySem.Str.ofString "__module__") 1128) (PySem.Value.str (PySem.Str.ofString "jsonpath_ng.jsonpath") 289)), (PySem.DictEntry.mk (PySem.PyData.keyHash P (PySem.Str.ofString "__firstlineno__")) (PySem.Value.str (PySem.Str.ofString "__firstlineno__") 1132) (PySem.Value.int 315 1131)), (PySem.DictEntry.mk (PySem.PyData.keyHash P (PySem.Str.ofString "_keys")) (PySem.Value.str (PySem.Str.ofString "_keys") 1151) (PySem.Value.ref 664)), (PySem.DictEntry.mk (PySem.PyData.keyHash P (PySem.Str.ofString "find")) (PySem.Value.str (PySem.Str.ofString "find") 1157) (PySem.Value.ref 670)), (PySem.DictEntry.mk (PySem.PyData.keyHash P (PySem.Str.ofString "update")) (PySem.Value.str (PySem.Str.ofString "update") 1166) (PySem.Value.ref 677)), (PySem.DictEntry.mk (PySem.PyData.keyHash P (PySem.Str.ofString "update_or_create")) (PySem.Value.str (PySem.Str.ofString "update_or_create") 1175) (PySem.Value.ref 684)), (PySem.DictEntry.mk (PySem.PyData.keyHash P (PySem.Str.ofString "filter")) (PySem.Value.str (PySem.Str.ofString "filter") 1184) (PySem.Value.ref 691)), (PySem.DictEntry.mk (PySem.PyData.keyHash P (PySem.Str.ofString "__str__")) (PySem.Value.str (PySem.Str.ofString "__str__") 1191) (PySem.Value.ref 698)), (PySem.DictEntry.mk (PySem.PyData.keyHash P (PySem.Str.ofString "__repr__")) (PySem.Value.str (PySem.Str.ofString "__repr__") 1198) (PySem.Value.ref 705)), (PySem.DictEntry.mk (PySem.PyData.keyHash P (PySem.Str.ofString "__eq__")) (PySem.Value.str (PySem.Str.ofString "__eq__") 1206) (PySem.Value.ref 712)), (PySem.DictEntry.mk (PySem.PyData.keyHash P (PySem.Str.ofString "__hash__")) (PySem.Value.str (PySem.Str.ofString "__hash__") 1213) (PySem.Value.ref 719)), (PySem.DictEntry.mk (PySem.PyData.keyHash P (PySem.Str.ofString "__static_attributes__")) (PySem.Value.str (PySem.Str.ofString "__static_attributes__") 1214) (PySem.Value.ref 720)), (PySem.DictEntry.mk (PySem.PyData.keyHash P (PySem.Str.ofString "__doc__")) (PySem.Value.str (PySem.Str.ofString "__doc__") 1215) PySem.Value.none)]) 2) (#[]))) ::
(nat_lit 722, (PySem.Obj.mk (PySem.Value.type "type") Option.none (PySem.Data.cls (PySem.ClassData.mk (PySem.Str.ofString "Wildcard") [(PySem.Value.ref 134)] [(PySem.Value.ref 722), (PySem.Value.ref 134), (PySem.Value.type "object")] 721 (PySem.Str.ofString "Wildcard") Bool.true [] [] Bool.false Option.none Bool.false)) (#[(Option.some (PySem.Value.ref 649)), Option.none, (Option.some (PySem.Value.str (PySem.Str.ofString "Wildcard") 1121)), (Option.some (PySem.Value.str (PySem.Str.ofString "Wildcard") 1129)), (Option.some (PySem.Value.builtin "object.__new__")), (Option.some (PySem.Value.bool Bool.true))]))) ::
(nat_lit 725, (PySem.Obj.mk (PySem.Value.type "tuple") Option.none (PySem.Data.seq (#[(PySem.Value.ref 134)]) 0) (#[]))) ::
(nat_lit 732, (PySem.Obj.mk (PySem.Value.type "tuple") Option.none (PySem.Data.seq (#[]) 0) (#[]))) ::
(nat_lit 734, (PySem.Obj.mk (PySem.Value.type "tuple") Option.none (PySem.Data.seq (#[(PySem.Value.str (PySem.Str.ofString "self") 1233), (PySem.Value.str (PySem.Str.ofString "indices") 1234)]) 0) (#[]))) ::
(nat_lit 735, (PySem.Obj.mk (PySem.Value.type "tuple") Option.none (PySem.Data.seq (#[]) 0) (#[]))) ::
(nat_lit 737, (PySem.Obj.mk (PySem.Value.type "code") Option.none (PySem.Data.fields (#[(PySem.Value.str (PySem.Str.ofString "__init__") 1230), (PySem.Value.str (PySem.Str.ofString "Index.__init__") 1231), (PySem.Value.str (PySem.Str.ofString "/claim/cut.py") 1232), (PySem.Value.int 358 0), (PySem.Value.int 1 0), (PySem.Value.int 0 0), (PySem.Value.int 0 0), (PySem.Value.int 7 0), (PySem.Value.ref 732), (PySem.Value.bool Bool.true), (PySem.Value.int 276 0), (PySem.Value.ref 733), PySem.Value.none, (PySem.Value.ref 734), (PySem.Value.ref 735), (PySem.Value.ref 736), (PySem.Value.int 1235 0), (PySem.Value.int 358 0), (PySem.Value.str (PySem.Str.ofString "/claim/cut.py") 1236)])) (#[]))) ::
(nat_lit 738, (PySem.Obj.mk (PySem.Value.type "function") Option.none (PySem.Data.func (PySem.FuncData.mk (PySem.Str.ofString "__init__") (PySem.Str.ofString "Index.__init__") (fnP (inCls 17 0)) (PySem.FuncBody.stmts (fnB (inCls 17 0))) (fnS (inCls 17 0)) 3 [] PySem.Value.none PySem.Value.none PySem.Value.none (PySem.Value.str (PySem.Str.ofString "jsonpath_ng.jsonpath") 289) Option.none (PySem.Value.ref 737) PySem.Value.none 0)) (#[]))) ::
(nat_lit 821, (PySem.Obj.mk (PySem.Value.type "tuple") Option.none (PySem.Data.seq (#[(PySem.Value.str (PySem.Str.ofString "indices") 1340)]) 0) (#[]))) ::
(nat_lit 822, (PySem.Obj.mk (PySem.Value.type "dict") Option.none (PySem.Data.dict (#[(PySem.DictEntry.mk (PySem.PyData.keyHash P (PySem.Str.ofString "__module__")) (PySem.Value.str (PySem.Str.ofString "__module__") 1225) (PySem.Value.str (PySem.Str.ofString "jsonpath_ng.jsonpath") 289)), (PySem.DictEntry.mk (PySem.PyData.keyHash P (PySem.Str.ofString "__firstlineno__")) (PySem.Value.str (PySem.Str.ofString "__firstlineno__") 1229) (PySem.Value.int 356 1228)), (PySem.DictEntry.mk (PySem.PyData.keyHash P (PySem.Str.ofString "__init__")) (PySem.Value.str (PySem.Str.ofString "__init__") 1237) (PySem.Value.ref 738)), (PySem.DictEntry.mk (PySem.PyData.keyHash P (PySem.Str.ofString "find")) (PySem.Value.str (PySem.Str.ofString "find") 1245) (PySem.Value.ref 745)), (PySem.DictEntry.mk (PySem.PyData.keyHash P (PySem.Str.ofString "find_or_create")) (PySem.Value.str (PySem.Str.ofString "find_or_create") 1253) (PySem.Value.ref 752)), (PySem.DictEntry.mk (PySem.PyData.keyHash P (PySem.Str.ofString "_find_base")) (PySem.Value.str (PySem.Str.ofString "_find_base") 1264) (PySem.Value.ref 759)), (PySem.DictEntry.mk (PySem.PyData.keyHash P (PySem.Str.ofString "update")) (PySem.Value.str (PySem.Str.ofString "update") 1273) (PySem.Value.ref 766)), (PySem.DictEntry.mk (PySem.PyData.keyHash P (PySem.Str.ofString "update_or_create")) (PySem.Value.str (PySem.Str.ofString "update_or_create") 1282) (PySem.Value.ref 773)), (PySem.DictEntry.mk (PySem.PyData.keyHash P (PySem.Str.ofString "_update_base")) (PySem.Value.str (PySem.Str.ofString "_update_base") 1295) (PySem.Value.ref 780)), (PySem.DictEntry.mk (PySem.PyData.keyHash P (PySem.Str.ofString "filter")) (PySem.Value.str (PySem.Str.ofString "filter") 1304) (PySem.Value.ref 787)), (PySem.DictEntry.mk (PySem.PyData.keyHash P (PySem.Str.ofString "__eq__")) (PySem.Value.str (PySem.Str.ofString "__eq__") 1312) (PySem.Value.ref 794)), (PySem.DictEntry.mk (PySem.PyData.keyHash P (PySem.Str.ofString "__str__")) (PySem.Value.str (PySem.Str.ofString "__str__") 1319) (PySem.Value.ref 801)), (PySem.DictEntry.mk (PySem.PyData.keyHash P (PySem.Str.ofString "__repr__")) (PySem.Value.str (PySem.Str.ofString "__repr__") 1326) (PySem.Value.ref 808)), (PySem.DictEntry.mk (PySem.PyData.keyHash P (PySem.Str.ofString "_pad_value")) (PySem.Value.str (PySem.Str.ofString "_pad_value") 1332) (PySem.Value.ref 813)), (PySem.DictEntry.mk (PySem.PyData.keyHash P (PySem.Str.ofString "__hash__")) (PySem.Value.str (PySem.Str.ofString "__hash__") 1339) (PySem.Value.ref 820)), (PySem.DictEntry.mk (PySem.PyData.keyHash P (PySem.Str.ofString "__static_attributes__")) (PySem.Value.str (PySem.Str.ofString "__static_attributes__") 1341) (PySem.Value.ref 821)), (PySem.DictEntry.mk (PySem.PyData.keyHash P (PySem.Str.ofString "__doc__")) (PySem.Value.str (PySem.Str.ofString "__doc__") 1342) PySem.Value.none)]) 2) (#[]))) ::
(nat_lit 823, (PySem.Obj.mk (PySem.Value.type "type") Option.none (PySem.Data.cls (PySem.ClassData.mk (PySem.Str.ofString "Index") [(PySem.Value.ref 134)] [(PySem.Value.ref 823), (PySem.Value.ref 134), (PySem.Value.type "object")] 822 (PySem.Str.ofString "Index") Bool.true [] [] Bool.false Option.none Bool.false)) (#[(Option.some (PySem.Value.ref 725)), Option.none, (Option.some (PySem.Value.str (PySem.Str.ofString "Index") 1218)), (Option.some (PySem.Value.str (PySem.Str.ofString "Index") 1226)), (Option.some (PySem.Value.builtin "object.__new__")), (Option.some (PySem.Value.bool Bool.true))]))) ::
(nat_lit 826, (PySem.Obj.mk (PySem.Value.type "tuple") Option.none (PySem.Data.seq (#[]) 0) (#[]))) ::
(nat_lit 829, (PySem.Obj.mk (PySem.Value.type "code") Option.none (PySem.Data.fields (#[(PySem.Value.str (PySem.Str.ofString "_find_array_elements") 1345), (PySem.Value.str (PySem.Str.ofString "_find_array_elements") 1346), (PySem.Value.str (PySem.Str.ofString "/claim/cut.py") 1347), (PySem.Value.int 433 0), (PySem.Value.int 1 0), (PySem.Value.int 0 0), (PySem.Value.int 0 0), (PySem.Value.int 3 0), (PySem.Value.ref 826), (PySem.Value.bool Bool.true), (PySem.Value.int 276 0), (PySem.Value.ref 827), PySem.Value.none, PySem.Value.none, PySem.Value.none, (PySem.Value.ref 828), (PySem.Value.int 1348 0), (PySem.Value.int 433 0), (PySem.Value.str (PySem.Str.ofString "/claim/cut.py") 1349)])) (#[]))) ::
(nat_lit 830, (PySem.Obj.mk (PySem.Value.type "function") Option.none (PySem.Data.func (PySem.FuncData.mk (PySem.Str.ofString "_find_array_elements") (PySem.Str.ofString "_find_array_elements") (fnP (topAt 18)) (PySem.FuncBody.stmts (fnB (topAt 18))) (fnS (topAt 18)) 3 [] PySem.Value.none PySem.Value.none PySem.Value.none (PySem.Value.str (PySem.Str.ofString "jsonpath_ng.jsonpath") 289) Option.none (PySem.Value.ref 829) PySem.Value.none 0)) (#[]))) ::
(nat_lit 852, (PySem.Obj.mk (PySem.Value.type "tuple") Option.none (PySem.Data.seq (#[(PySem.Value.int 0 1379), (PySem.Value.int 1 1380), (PySem.Value.int 0 1381), (PySem.Value.int 2 1382), (PySem.Value.int 0 1383), (PySem.Value.int 0 1384), (PySem.Value.int 1 1385)]) 0) (#[]))) ::
(nat_lit 853, (PySem.Obj.mk (PySem.Value.type "tuple") Option.none (PySem.Data.seq (#[]) 0) (#[]))) ::
(nat_lit 856, (PySem.Obj.mk (PySem.Value.type "code") Option.none (PySem.Data.fields (#[(PySem.Value.str (PySem.Str.ofString "_law_game") 1387), (PySem.Value.str (PySem.Str.ofString "_law_game") 1388), (PySem.Value.str (PySem.Str.ofString "/claim/cut.py") 1389), (PySem.Value.int 454 0), (PySem.Value.int 1 0), (PySem.Value.int 0 0), (PySem.Value.int 0 0), (PySem.Value.int 3 0), (PySem.Value.ref 853), (PySem.Value.bool Bool.true), (PySem.Value.int 276 0), (PySem.Value.ref 854), PySem.Value.none, PySem.Value.none, PySem.Value.none, (PySem.Value.ref 855), (PySem.Value.int 1390 0), (PySem.Value.int 454 0), (PySem.Value.str (PySem.Str.ofString "/claim/cut.py") 1391)])) (#[]))) ::
(nat_lit 857, (PySem.Obj.mk (PySem.Value.type "function") Option.none (PySem.Data.func (PySem.FuncData.mk (PySem.Str.ofString "_law_game") (PySem.Str.ofString "_law_game") (fnP (topAt 24)) (PySem.FuncBody.stmts (fnB (topAt 24))) (fnS (topAt 24)) 3 [] PySem.Value.none PySem.Value.none PySem.Value.none (PySem.Value.str (PySem.Str.ofString "law_ae5011_01") 1377) Option.none (PySem.Value.ref 856) PySem.Value.none 0)) (#[]))) ::
(nat_lit 858, (PySem.Obj.mk (PySem.Value.type "tuple") Option.none (PySem.Data.seq (#[]) 0) (#[]))) ::
(nat_lit 861, (PySem.Obj.mk (PySem.Value.type "code") Option.none (PySem.Data.fields (#[(PySem.Value.str (PySem.Str.ofString "law") 1393), (PySem.Value.str (PySem.Str.ofString "law") 1394), (PySem.Value.str (PySem.Str.ofString "/claim/cut.py") 1395), (PySem.Value.int 467 0), (PySem.Value.int 1 0), (PySem.Value.int 0 0), (PySem.Value.int 0 0), (PySem.Value.int 3 0), (PySem.Value.ref 858), (PySem.Value.bool Bool.true), (PySem.Value.int 276 0), (PySem.Value.ref 859), PySem.Value.none, PySem.Value.none, PySem.Value.none, (PySem.Value.ref 860), (PySem.Value.int 1396 0), (PySem.Value.int 467 0), (PySem.Value.str (PySem.Str.ofString "/claim/cut.py") 1397)])) (#[]))) ::
(nat_lit 862, (PySem.Obj.mk (PySem.Value.type "function") Option.none (PySem.Data.func (PySem.FuncData.mk (PySem.Str.ofString "law") (PySem.Str.ofString "law") (fnP (topAt 25)) (PySem.FuncBody.stmts (fnB (topAt 25))) (fnS (topAt 25)) 3 [] PySem.Value.none PySem.Value.none PySem.Value.none (PySem.Value.str (PySem.Str.ofString "law_ae5011_01") 1377) Option.none (PySem.Value.ref 861) PySem.Value.none 0)) (#[]))) :: []
/-- the heap's part, its defs' bodies read out of the program -/
noncomputable def KF : Params → Frag := fun P => (fun (K : Frag) (_ : K = KFat P) => K) _ (by
  unfold KFat
  apply cons_lit
  · exact rfl
  apply cons_lit
  · exact rfl
  apply cons_lit
  · exact rfl
  apply cons_lit
  · exact rfl
  apply cons_lit
  · exact rfl
  apply cons_lit
  · exact rfl
  apply cons_lit
  · exact rfl
  apply cons_lit
  · exact rfl
  apply cons_lit
  · exact rfl
  apply cons_lit
  · exact rfl
  apply cons_lit
  · exact rfl
  apply cons_lit
  · exact rfl
  apply cons_lit
  · exact rfl
  apply cons_lit
  · exact rfl
  apply cons_lit
  · exact rfl
  apply cons_lit
  · exact rfl
  apply cons_lit
  · exact rfl
  apply cons_lit
  · exact rfl
  apply cons_lit
  · exact rfl
  apply cons_lit
  · exact rfl
  apply cons_lit
  · exact rfl
  apply cons_lit
  · exact rfl
  apply cons_lit
  · apply fn_lit
    · conv => rhs; whnf
    · conv => rhs; whnf
    · conv => rhs; whnf
  apply cons_lit
  · exact rfl
  apply cons_lit
  · exact rfl
  apply cons_lit
  · exact rfl
  apply cons_lit
  · exact rfl
  apply cons_lit
  · exact rfl
  apply cons_lit
  · exact rfl
  apply cons_lit
  · exact rfl
  apply cons_lit
  · exact rfl
  apply cons_lit
  · apply fn_lit
    · conv => rhs; whnf
    · conv => rhs; whnf
    · conv => rhs; whnf
  apply cons_lit
  · exact rfl
  apply cons_lit
  · exact rfl
  apply cons_lit
  · exact rfl
  apply cons_lit
  · exact rfl
  apply cons_lit
  · apply fn_lit
    · conv => rhs; whnf
    · conv => rhs; whnf
    · conv => rhs; whnf
  apply cons_lit
  · exact rfl
  apply cons_lit
  · exact rfl
  apply cons_lit
  · exact rfl
  apply cons_lit
  · exact rfl
  apply cons_lit
  · exact rfl
  apply cons_lit
  · exact rfl
  apply cons_lit
  · exact rfl
  apply cons_lit
  · exact rfl
  apply cons_lit
  · exact rfl
  apply cons_lit
  · exact rfl
  apply cons_lit
  · exact rfl
  apply cons_lit
  · exact rfl
  apply cons_lit
  · exact rfl
  apply cons_lit
  · exact rfl
  apply cons_lit
  · exact rfl
  apply cons_lit
  · exact rfl
  apply cons_lit
  · apply fn_lit
    · conv => rhs; whnf
    · conv => rhs; whnf
    · conv => rhs; whnf
  apply cons_lit
  · exact rfl
  apply cons_lit
  · exact rfl
  apply cons_lit
  · exact rfl
  apply cons_lit
  · exact rfl
  apply cons_lit
  · exact rfl
  apply cons_lit
  · exact rfl
  apply cons_lit
  · exact rfl
  apply cons_lit
  · exact rfl
  apply cons_lit
  · apply fn_lit
    · conv => rhs; whnf
    · conv => rhs; whnf
    · conv => rhs; whnf
  apply cons_lit
  · exact rfl
  apply cons_lit
  · exact rfl
  apply cons_lit
  · apply fn_lit
    · conv => rhs; whnf
    · conv => rhs; whnf
    · conv => rhs; whnf
  apply cons_lit
  · exact rfl
  apply cons_lit
  · exact rfl
  apply cons_lit
  · exact rfl
  apply cons_lit
  · exact rfl
  apply cons_lit
  · exact rfl
  apply cons_lit
  · exact rfl
  apply cons_lit
  · exact rfl
  apply cons_lit
  · exact rfl
  apply cons_lit
  · apply fn_lit
    · conv => rhs; whnf
    · conv => rhs; whnf
    · conv => rhs; whnf
  apply cons_lit
  · exact rfl
  apply cons_lit
  · exact rfl
  apply cons_lit
  · exact rfl
  apply cons_lit
  · exact rfl
  apply cons_lit
  · exact rfl
  apply cons_lit
  · exact rfl
  apply cons_lit
  · apply fn_lit
    · conv => rhs; whnf
    · conv => rhs; whnf
    · conv => rhs; whnf
  apply cons_lit
  · exact rfl
  apply cons_lit
  · exact rfl
  apply cons_lit
  · exact rfl
  apply cons_lit
  · exact rfl
  apply cons_lit
  · exact rfl
  apply cons_lit
  · exact rfl
  apply cons_lit
  · exact rfl
  apply cons_lit
  · exact rfl
  apply cons_lit
  · apply fn_lit
    · conv => rhs; whnf
    · conv => rhs; whnf
    · conv => rhs; whnf
  apply cons_lit
  · exact rfl
  apply cons_lit
  · exact rfl
  apply cons_lit
  · exact rfl
  apply cons_lit
  · exact rfl
  apply cons_lit
  · apply fn_lit
    · conv => rhs; whnf
    · conv => rhs; whnf
    · conv => rhs; whnf
  apply cons_lit
  · exact rfl
  apply cons_lit
  · exact rfl
  apply cons_lit
  · exact rfl
  apply cons_lit
  · exact rfl
  apply cons_lit
  · exact rfl
  apply cons_lit
  · exact rfl
  apply cons_lit
  · exact rfl
  apply cons_lit
  · apply fn_lit
    · conv => rhs; whnf
    · conv => rhs; whnf
    · conv => rhs; whnf
  apply cons_lit
  · exact rfl
  apply cons_lit
  · exact rfl
  apply cons_lit
  · exact rfl
  apply cons_lit
  · exact rfl
  apply cons_lit
  · apply fn_lit
    · conv => rhs; whnf
    · conv => rhs; whnf
    · conv => rhs; whnf
  apply cons_lit
  · exact rfl
  apply cons_lit
  · exact rfl
  apply cons_lit
  · exact rfl
  apply cons_lit
  · exact rfl
  apply cons_lit
  · exact rfl
  apply cons_lit
  · exact rfl
  apply cons_lit
  · exact rfl
  apply cons_lit
  · apply fn_lit
    · conv => rhs; whnf
    · conv => rhs; whnf
    · conv => rhs; whnf
  apply cons_lit
  · exact rfl
  apply cons_lit
  · exact rfl
  apply cons_lit
  · exact rfl
  apply cons_lit
  · exact rfl
  apply cons_lit
  · apply fn_lit
    · conv => rhs; whnf
    · conv => rhs; whnf
    · conv => rhs; whnf
  apply cons_lit
  · exact rfl
  apply cons_lit
  · exact rfl
  apply cons_lit
  · apply fn_lit
    · conv => rhs; whnf
    · conv => rhs; whnf
    · conv => rhs; whnf
  apply cons_lit
  · exact rfl
  apply cons_lit
  · exact rfl
  apply cons_lit
  · exact rfl
  apply cons_lit
  · exact rfl
  apply cons_lit
  · exact rfl
  apply cons_lit
  · exact rfl
  apply cons_lit
  · exact rfl
  apply cons_lit
  · exact rfl
  apply cons_lit
  · exact rfl
  apply cons_lit
  · apply fn_lit
    · conv => rhs; whnf
    · conv => rhs; whnf
    · conv => rhs; whnf
  apply cons_lit
  · exact rfl
  apply cons_lit
  · exact rfl
  apply cons_lit
  · exact rfl
  apply cons_lit
  · exact rfl
  apply cons_lit
  · exact rfl
  apply cons_lit
  · exact rfl
  apply cons_lit
  · exact rfl
  apply cons_lit
  · exact rfl
  apply cons_lit
  · apply fn_lit
    · conv => rhs; whnf
    · conv => rhs; whnf
    · conv => rhs; whnf
  apply cons_lit
  · exact rfl
  apply cons_lit
  · exact rfl
  apply cons_lit
  · exact rfl
  apply cons_lit
  · exact rfl
  apply cons_lit
  · exact rfl
  apply cons_lit
  · apply fn_lit
    · conv => rhs; whnf
    · conv => rhs; whnf
    · conv => rhs; whnf
  apply cons_lit
  · exact rfl
  apply cons_lit
  · exact rfl
  apply cons_lit
  · exact rfl
  apply cons_lit
  · apply fn_lit
    · conv => rhs; whnf
    · conv => rhs; whnf
    · conv => rhs; whnf
  apply cons_lit
  · exact rfl
  apply cons_lit
  · exact rfl
  apply cons_lit
  · apply fn_lit
    · conv => rhs; whnf
    · conv => rhs; whnf
    · conv => rhs; whnf
  exact rfl)
end Mine
end
section
open PySem PySem.W PySem.Calls PyProof.Rows PySem.Spec
set_option Elab.async false
set_option maxRecDepth 100000
set_option maxHeartbeats 4000000
namespace Mine
/-- a view of a heap: what is known of it and will not be changed -/
abbrev Snap := Addr → Option Obj
abbrev Sle (g g' : Snap) : Prop := ∀ b o, g b = some o → g' b = some o
abbrev InH (g : Snap) (h : Heap) : Prop := ∀ b o, g b = some o → h.get? b = some o
abbrev Grow (h h' : Heap) : Prop := ∀ b o, h.get? b = some o → h'.get? b = some o
def New (h : Heap) (g g' : Snap) : Prop := ∀ b o, g' b = some o → g b = some o ∨ h.get? b = none
structure Ext (h : Heap) (g g' : Snap) (h' : Heap) : Prop where
  grow : Grow h h'
  up : Sle g g'
  inh : InH g' h'
  new : New h g g'
theorem Ext.refl {h : Heap} {g : Snap} (i : InH g h) : Ext h g g h := ⟨fun _ _ e => e, fun _ _ e => e, i, fun _ _ e => .inl e⟩
theorem Ext.of_grow {h h' : Heap} {g : Snap} (i : InH g h) (k : Grow h h') : Ext h g g h' := ⟨k, fun _ _ e => e, fun b o e => k b o (i b o e), fun _ _ e => .inl e⟩
theorem none_of_grow {h h' : Heap} (k : Grow h h') {b : Addr} (e : h'.get? b = none) : h.get? b = none := by
  cases q : h.get? b with
  | none => rfl
  | some o => rw [k b o q] at e; cases e
theorem Ext.trans {h h' h'' : Heap} {g g' g'' : Snap} (x : Ext h g g' h') (y : Ext h' g' g'' h'') : Ext h g g'' h'' :=
  ⟨fun b o e => y.grow b o (x.grow b o e), fun b o e => y.up b o (x.up b o e), y.inh, fun b o e => (y.new b o e).elim (x.new b o) fun q => .inr (none_of_grow x.grow q)⟩
/-- one more object in a view -/
def Snap.put (g : Snap) (a : Addr) (o : Obj) : Snap := fun b => if b = a then some o else g b
theorem Snap.put_self {g : Snap} {a : Addr} {o : Obj} : g.put a o a = some o := by simp [Snap.put]
theorem Snap.put_ne {g : Snap} {a b : Addr} {o : Obj} (h : b ≠ a) : g.put a o b = g b := by simp [Snap.put, h]
theorem Snap.le_put {g : Snap} {a : Addr} {o : Obj} (h : g a = none) : Sle g (g.put a o) := fun b o' e => by
  by_cases q : b = a
  · subst q; rw [h] at e; cases e
  · rw [Snap.put_ne q]; exact e
theorem Snap.inH_put {g : Snap} {a : Addr} {o : Obj} {h : Heap} (i : InH g h) (e : h.get? a = some o) : InH (g.put a o) h := fun b o' q => by
  by_cases z : b = a
  · subst z; rw [Snap.put_self] at q; cases q; exact e
  · rw [Snap.put_ne z] at q; exact i b o' q
theorem none_of_inH {g : Snap} {h : Heap} {a : Addr} (i : InH g h) (e : h.get? a = none) : g a = none := by
  cases q : g a with
  | none => rfl
  | some o => rw [i a o q] at e; cases e
theorem Ext.put {h h' : Heap} {g g' : Snap} {a : Addr} {o : Obj} (x : Ext h g g' h') (hn : g' a = none) (ho : h.get? a = none) (e : h'.get? a = some o) : Ext h g (g'.put a o) h' :=
  ⟨x.grow, fun b o' q => Snap.le_put hn b o' (x.up b o' q), Snap.inH_put x.inh e, fun b o' q => by
    by_cases z : b = a
    · subst z; exact .inr ho
    · rw [Snap.put_ne z] at q; exact x.new b o' q⟩
section
variable {prog : Program} {w : World} {A : Around} {R : Result → Shared → Prop} {E : Value → Shared → Prop} {s : Shared} {env : Env}
/-- the tests of a comprehension's clause -/
abbrev testsOf (ifs : List Expr) (cenv : Env) : Sem Bool := forIn ifs true fun c r => if r = true then do let ok ← isTrue c cenv (eval c cenv); pure (ForInStep.yield ok) else pure (ForInStep.yield r)
/-- what a turn of a comprehension must do -/
structure Turns (prog : Program) (w : World) (A : Around) (cenv : Env) (x : Str) (ifs : List Expr) (elt : Expr) (g : Snap) (h₂ : Heap) (s₂ : Shared) (wr : List Addr) (n : Nat) (P : Nat → Value → Prop)
    (J : Nat → List Value → Snap → Prop) (Jm : Nat → Value → List Value → Snap → Prop) : Prop where
  tests : ∀ i v ys g' H tk m E', i < n → ys.length ≤ i → P i v → J i ys g' → Sle g g' → InH g' H → (∀ b o, b ∉ wr → h₂.get? b = some o → H.get? b = some o) → H.Ns cenv.locals m → m x = some v →
    wpAny (model prog w) A (testsOf ifs cenv) (fun ok s₄ => ∃ g'' H' tk', s₄ = { s₂ with heap := H', toks := tk' } ∧ Ext H g' g'' H' ∧ if ok = true then Jm i v ys g'' else J (i + 1) ys g'') E' { s₂ with heap := H, toks := tk }
  elt : ∀ i v ys g' H tk m E', i < n → ys.length ≤ i → P i v → Jm i v ys g' → Sle g g' → InH g' H → (∀ b o, b ∉ wr → h₂.get? b = some o → H.get? b = some o) → H.Ns cenv.locals m → m x = some v →
    wpAny (model prog w) A (eval elt cenv) (fun y s₄ => ∃ g'' H' tk', s₄ = { s₂ with heap := H', toks := tk' } ∧ Ext H g' g'' H' ∧ J (i + 1) (ys ++ [y]) g'') E' { s₂ with heap := H, toks := tk }
theorem lc_loop {elt iter : Expr} {x : Str} {px : Pos} {ifs : List Expr} {scope : Scope} {pos : Pos} {I D : Addr} {fp wr : List Addr} {n : Nat} {P : Nat → Value → Prop} {St : Nat → Heap → Prop} {h₂ : Heap}
    {cenv : Env} {m : Str → Option Value} {g : Snap} {J : Nat → List Value → Snap → Prop} {Jm : Nat → Value → List Value → Snap → Prop} (W : Walks prog w A I fp wr n P St) (hlive : ∀ i h, St i h → ∀ b ∈ wr, ∃ o, h.get? b = some o)
    (hx : cenv.kindOf x = some .local) (hp : (cenv.scope.kind == .class || (cenv.scope.kind == .module && cenv.locals != cenv.globals)) = false)
    (hDC : D ≠ cenv.locals) (hDf : D ∉ fp) (hCf : cenv.locals ∉ fp) (hD2 : h₂.get? D = none) (hC2 : h₂.get? cenv.locals = none) (h2s : Grow h₂ s.heap)
    (hst : St 0 s.heap) (hacc : s.heap.PlainList D #[]) (hn : s.heap.Ns cenv.locals m) (hg : InH g h₂) (hgw : ∀ b ∈ wr, g b = none) (hJ : J 0 [] g)
    (T : Turns prog w A cenv x ifs elt g h₂ s wr n P J Jm)
    (hR : ∀ h' tk m' ys g', h'.Ns cenv.locals m' → h'.PlainList D ys.toArray → ys.length ≤ n → J n ys g' → Sle g g' → InH g' h' → New h₂ g g' → g' D = none → g' cenv.locals = none →
      (∀ b o, b ≠ cenv.locals → b ∉ wr → b ≠ D → s.heap.get? b = some o → h'.get? b = some o) → R (.ok .next) { s with heap := h', toks := tk })
    (hsz : n ≤ sizeLine) :
    codeAny (model prog w) A (.compLoop (.ListComp elt [⟨.Name x px, iter, ifs, 0⟩] scope pos) 0 (.ref I) (.ref D) cenv) R s := by
  have hCw : cenv.locals ∉ wr := fun h => hCf (W.sub _ h)
  have hDw : D ∉ wr := fun h => hDf (W.sub _ h)
  refine codeAny_compLoop_tests
    (fun k s' => ∃ H tk m' ys g' i, s' = { s with heap := H, toks := tk } ∧ St i H ∧ H.PlainList D ys.toArray ∧ H.Ns cenv.locals m' ∧ J i ys g' ∧ InH g' H ∧ Sle g g' ∧ New h₂ g g' ∧
      (g' cenv.locals = none ∧ g' D = none ∧ ∀ b ∈ wr, g' b = none) ∧ i ≤ n ∧ ys.length ≤ i ∧ k = n + 1 - i ∧
      (∀ b o, b ≠ cenv.locals → b ∉ wr → b ≠ D → s.heap.get? b = some o → H.get? b = some o)) ?_ (n + 1)
    ⟨s.heap, s.toks, m, [], g, 0, rfl, hst, hacc, hn, hJ, fun b o e => h2s b o (hg b o e), fun _ _ e => e, fun _ _ e => .inl e, ⟨none_of_inH hg hC2, none_of_inH hg hD2, hgw⟩, Nat.zero_le _, Nat.le_refl _, rfl, fun _ _ _ _ _ e => e⟩
  rintro k s' ⟨H, tk, m', ys, g', i, rfl, hst', hacc', hn', hJ', hi', hle, hnew, ⟨gC, gD, gw⟩, hin, hlen, rfl, hk⟩
  by_cases hlt : i < n
  · refine W.item i _ _ _ hlt hst' fun v h₁ tk₁ hPv hst₁ hk₁ => ?_
    refine wpAny_assign_Name (wpAny_storeName_local hx (hn'.at' fun o e => hk₁ _ o hCw e) (fun h₃ hn₃ hs₃ => ?_) hp)
    have up₃ : ∀ b o, b ≠ cenv.locals → b ∉ wr → H.get? b = some o → h₃.get? b = some o := fun b o hbC hbf e => hs₃.extBut b o hbC (hk₁ b o hbf e)
    have hst₃ : St (i + 1) h₃ := W.frame _ _ _ hst₁ fun b hb o e => hs₃.extBut b o (fun h => hCf (h ▸ hb)) e
    have gin₃ : InH g' h₃ := fun b o e => up₃ b o (fun q => by rw [q, gC] at e; cases e) (fun q => by rw [gw b q] at e; cases e) (hi' b o e)
    have base : ∀ b o, b ∉ wr → h₂.get? b = some o → h₃.get? b = some o := fun b o hb e => by
      have hC : b ≠ cenv.locals := fun q => by rw [q, hC2] at e; cases e
      have hD : b ≠ D := fun q => by rw [q, hD2] at e; cases e
      exact up₃ b o hC hb (hk b o hC hb hD (h2s b o e))
    -- what a step of the turn leaves
    have next : ∀ {g'' : Snap} {Ha Hb : Heap}, (∀ b o, b ≠ cenv.locals → b ∉ wr → H.get? b = some o → Ha.get? b = some o) → (∃ o, Ha.get? cenv.locals = some o) → (∃ o, Ha.get? D = some o) → (∀ b ∈ wr, ∃ o, Ha.get? b = some o) →
        ∀ {g1 : Snap}, New h₂ g g1 → (g1 cenv.locals = none ∧ g1 D = none ∧ ∀ b ∈ wr, g1 b = none) → Ext Ha g1 g'' Hb → New h₂ g g'' ∧ (g'' cenv.locals = none ∧ g'' D = none ∧ ∀ b ∈ wr, g'' b = none) := by
      intro g'' Ha Hb upH ⟨oC, eC⟩ ⟨oD, eD⟩ ew g1 n1 ⟨z1, z2, z3⟩ X
      have no : ∀ b o, Ha.get? b = some o → g1 b = none → g'' b = none := fun b o e z => by
        cases q : g'' b with
        | none => rfl
        | some o' =>
          rcases X.new b o' q with r | r
          · rw [z] at r; cases r
          · rw [e] at r; cases r
      refine ⟨fun b o e => ?_, no _ _ eC z1, no _ _ eD z2, fun b hb => let ⟨o, e⟩ := ew b hb; no b o e (z3 b hb)⟩
      rcases X.new b o e with r | r
      · exact n1 b o r
      · refine .inr ?_
        cases q : h₂.get? b with
        | none => rfl
        | some o' =>
          by_cases hb : b ∈ wr
          · obtain ⟨o2, e2⟩ := ew b hb; rw [e2] at r; cases r
          · have hC : b ≠ cenv.locals := fun z => by rw [z, hC2] at q; cases q
            have hD : b ≠ D := fun z => by rw [z, hD2] at q; cases q
            rw [upH b o' hC hb (hk b o' hC hb hD (h2s b o' q))] at r; cases r
    have liveC : ∃ o, h₃.get? cenv.locals = some o := by obtain ⟨o, _, _, e, _⟩ := hn₃; exact ⟨o, e⟩
    have liveD : ∃ o, h₃.get? D = some o := by obtain ⟨z, e⟩ := hacc'; exact ⟨_, up₃ D _ hDC hDw e⟩
    refine wpAny_mono (T.tests i v ys g' h₃ _ _ _ hlt hlen hPv hJ' hle gin₃ base hn₃ (by simp)) (fun ok s₄ h₄ => ?_) fun _ _ e => e
    obtain ⟨g4, H4, tk4, rfl, X4, hJ4⟩ := h₄
    obtain ⟨new4, z4⟩ := next up₃ liveC liveD (hlive _ _ hst₃) hnew ⟨gC, gD, gw⟩ X4
    have up₄ : ∀ b o, b ≠ cenv.locals → b ∉ wr → H.get? b = some o → H4.get? b = some o := fun b o a c e => X4.grow b o (up₃ b o a c e)
    have hst₄ : St (i + 1) H4 := W.frame _ _ _ hst₃ fun b _ o e => X4.grow b o e
    have hn₄ := hn₃.keeps X4.grow
    have hacc₄ : H4.PlainList D ys.toArray := hacc'.at fun o e => up₄ D o hDC hDw e
    cases ok with
    | false =>
      simp only [Bool.false_eq_true, if_false] at hJ4 ⊢
      exact ⟨n + 1 - (i + 1), by omega, H4, tk4, _, ys, g4, i + 1, rfl, hst₄, hacc₄, hn₄, hJ4, X4.inh, fun b o e => X4.up b o (hle b o e), new4, z4, hlt, Nat.le_succ_of_le hlen, rfl, fun b o a c d e => up₄ b o a c (hk b o a c d e)⟩
    | true =>
      simp only [if_true] at hJ4 ⊢
      have base4 : ∀ b o, b ∉ wr → h₂.get? b = some o → H4.get? b = some o := fun b o hb e => X4.grow b o (base b o hb e)
      refine wpAny_mono (T.elt i v ys g4 H4 tk4 _ _ hlt hlen hPv hJ4 (fun b o e => X4.up b o (hle b o e)) X4.inh base4 hn₄ (by simp)) (fun y s₅ h₅ => ?_) fun _ _ e => e
      obtain ⟨g5, H5, tk5, rfl, X5, hJ5⟩ := h₅
      obtain ⟨new5, z5⟩ := next up₄ (let ⟨o, e⟩ := liveC; ⟨o, X4.grow _ _ e⟩) (let ⟨o, e⟩ := liveD; ⟨o, X4.grow _ _ e⟩) (fun b hb => let ⟨o, e⟩ := hlive _ _ hst₃ b hb; ⟨o, X4.grow _ _ e⟩) new4 z4 X5
      have up₅ : ∀ b o, b ≠ cenv.locals → b ∉ wr → H.get? b = some o → H5.get? b = some o := fun b o a c e => X5.grow b o (up₄ b o a c e)
      refine wpAny_list_append_plain (hsz := by rw [List.size_toArray]; omega) (hacc₄.at fun o e => X5.grow _ o e) fun h₆ hl₆ hs₆ => ?_
      refine ⟨n + 1 - (i + 1), by omega, h₆, tk5, _, ys ++ [y], g5, i + 1, rfl, ?_, by simpa using hl₆, (hn₄.keeps X5.grow).sameBut hs₆ (Ne.symm hDC), hJ5, ?_, fun b o e => X5.up b o (X4.up b o (hle b o e)), new5, z5, hlt, by rw [List.length_append, List.length_singleton]; omega, rfl, fun b o a c d e => hs₆.extBut b o d (up₅ b o a c (hk b o a c d e))⟩
      · exact W.frame _ _ h₆ hst₄ fun b hb o e => hs₆.extBut b o (fun h => hDf (h ▸ hb)) (X5.grow b o e)
      · exact fun b o e => hs₆.extBut b o (fun q => by rw [q, z5.2.1] at e; cases e) (X5.inh b o e)
  · have e : i = n := by omega
    subst e
    refine W.done _ _ _ hst' fun h₁ tk₁ hk₁ => ?_
    exact hR h₁ tk₁ m' ys g' (hn'.at' fun o e => hk₁ _ o hCw e) (hacc'.at fun o e => hk₁ _ o hDw e) hlen hJ' hle (fun b o e => hk₁ b o (fun q => by rw [gw b q] at e; cases e) (hi' b o e)) hnew gD gC
      fun b o a c d e => hk₁ b o c (hk b o a c d e)
end
end Mine
end
section
open PySem PySem.W PySem.Calls PyProof.Rows PySem.Spec
set_option Elab.async false
set_option maxRecDepth 100000
set_option maxHeartbeats 4000000
namespace Mine
section
variable {prog : Program} {w : World} {A : Around} {R : Result → Shared → Prop} {E : Value → Shared → Prop} {s : Shared} {env : Env}
/-- what the source of a comprehension (its iterator I at s₂) and its turns must bring -/
structure Source (prog : Program) (w : World) (A : Around) (env : Env) (scope : Scope) (cl : List (Str × Addr)) (x : Str) (ifs : List Expr) (elt : Expr) (it : Value) (s₂ : Shared)
    (n : Nat) (P : Nat → Value → Prop) (J : Nat → List Value → Snap → Prop) (Jm : Nat → Value → List Value → Snap → Prop) (g : Snap) (I : Addr) (fp wr : List Addr) (St : Nat → Heap → Prop) : Prop where
  eq : it = .ref I
  W : Walks prog w A I fp wr n P St
  size : n ≤ sizeLine
  live : ∀ i h, St i h → ∀ b ∈ wr, ∃ o, h.get? b = some o
  st : St 0 s₂.heap
  low : ∀ b ∈ fp, b < s₂.heap.objs.size
  inh : InH g s₂.heap
  off : ∀ b ∈ wr, g b = none
  J0 : J 0 [] g
  turns : ∀ C (s₄ : Shared), s₂.heap.objs.size ≤ C → (∃ h tk, s₄ = { s₂ with heap := h, toks := tk }) → Turns prog w A (compEnvC scope cl C env) x ifs elt g s₂.heap s₄ wr n P J Jm
theorem lc_block {elt iter : Expr} {x : Str} {px : Pos} {ifs : List Expr} {scope : Scope} {cl : List (Str × Addr)} {pos : Pos} {s₂ : Shared} {it : Value} {I : Addr} {fp wr : List Addr} {n : Nat} {P : Nat → Value → Prop}
    {St : Nat → Heap → Prop} {g : Snap} {J : Nat → List Value → Snap → Prop} {Jm : Nat → Value → List Value → Snap → Prop} {RR : Value → Addr → Result → Shared → Prop}
    (S : Source prog w A env scope cl x ifs elt it s₂ n P J Jm g I fp wr St)
    (hcell : ∀ y ∈ scope.names, y.2 ≠ .cell) (hkind : scope.kind = .function) (hx : scope.names.lookup x = some .local)
    (hRR : ∀ D C h' tk m' ys g', s₂.heap.get? D = none → s₂.heap.get? C = none → D ≠ C → h'.Ns C m' → h'.PlainList D ys.toArray → ys.length ≤ n → J n ys g' → Sle g g' → InH g' h' → New s₂.heap g g' → g' D = none → g' C = none →
      (∀ b o, b ∉ wr → s₂.heap.get? b = some o → h'.get? b = some o) → RR (.ref D) C (.ok .next) { s₂ with heap := h', toks := tk }) :
    wpAny (model prog w) A (newList []) (fun acc s₃ => wpAny (model prog w) A (newFunctionEnv scope env.globals cl [] env.qual none .none (some env)) (fun cenv s₄ =>
      codeAny (model prog w) A (.compStart (.ListComp elt [⟨.Name x px, iter, ifs, 0⟩] scope pos) 0 it acc { cenv with scope := relabel scope env }) (RR acc cenv.locals) s₄) E s₃) E s₂ := by
  obtain ⟨rfl, W, hsz, hlive, hst, hfp, hg, hgw, hJ, T⟩ := S
  refine wpAny_newObj_type (wpAny_newFunctionEnv hcell (by intro y hy; simp at hy) (fun h₁ hns₁ hsb₁ => ?_) hkind)
  dsimp only at hns₁ hsb₁ ⊢
  generalize hH2 : s₂.heap.push { cls := .type "list", dict := none, data := .seq ([] : List Value).toArray } = H2 at hns₁ hsb₁ ⊢
  have hC : H2.objs.size = s₂.heap.objs.size + 1 := by rw [← hH2, Heap.size_push]
  have hDC : s₂.heap.objs.size ≠ H2.objs.size := by rw [hC]; exact Nat.ne_of_lt (Nat.lt_succ_self _)
  have hCle : s₂.heap.objs.size ≤ H2.objs.size := by rw [hC]; exact Nat.le_succ _
  have below : ∀ b, b < s₂.heap.objs.size → b ≠ H2.objs.size ∧ b ≠ s₂.heap.objs.size := fun b hb => ⟨by rw [hC]; exact Nat.ne_of_lt (Nat.lt_succ_of_lt hb), Nat.ne_of_lt hb⟩
  have hDf : s₂.heap.objs.size ∉ fp := fun hm => Nat.lt_irrefl _ (hfp _ hm)
  have hCf : H2.objs.size ∉ fp := fun hm => by have := hfp _ hm; rw [hC] at this; exact Nat.lt_irrefl _ (Nat.lt_of_succ_lt this)
  have old : ∀ b o, s₂.heap.get? b = some o → h₁.get? b = some o := fun b o e => hsb₁.extBut b o (below b (Heap.lt_size e)).1 (Heap.get?_push_of_some _ (hH2 ▸ Heap.get?_push_of_some _ e))
  have hacc : h₁.PlainList s₂.heap.objs.size #[] := ⟨_, hsb₁.extBut _ _ hDC (Heap.get?_push_of_some _ (hH2 ▸ Heap.get?_push_size _ rfl))⟩
  have hst₁ : St 0 h₁ := W.frame _ _ _ hst fun b _ o e => old b o e
  have fresh : ∀ a, s₂.heap.objs.size ≤ a → s₂.heap.get? a = none := fun a ha => by
    cases e : s₂.heap.get? a with
    | none => rfl
    | some o' => exact absurd (Heap.lt_size e) (Nat.not_lt.mpr ha)
  have loop : ∀ s₃ : Shared, s₃ = { s₂ with heap := h₁, toks := s₂.toks + ([] : List (Str × Value)).length } →
      codeAny (model prog w) A (.compLoop (.ListComp elt [⟨.Name x px, iter, ifs, 0⟩] scope pos) 0 (.ref I) (.ref s₂.heap.objs.size) (compEnvC scope cl H2.objs.size env))
        (RR (.ref s₂.heap.objs.size) H2.objs.size) s₃ := by
    rintro s₃ rfl
    refine lc_loop (h₂ := s₂.heap) (g := g) (cenv := compEnvC scope cl H2.objs.size env) W hlive (lookup_relabel_local hx) (by simp [compEnvC, relabel, hkind]) hDC hDf hCf (fresh _ (Nat.le_refl _)) (fresh _ hCle) old hst₁ hacc hns₁ hg hgw hJ
      (T H2.objs.size _ hCle ⟨_, _, rfl⟩) (fun h' tk m' ys g' a b c d e f i j k l => ?_) hsz
    exact hRR _ _ h' tk m' ys g' (fresh _ (Nat.le_refl _)) (fresh _ hCle) hDC a b c d e f i j k fun b o hb q => l b o (below b (Heap.lt_size q)).1 hb (below b (Heap.lt_size q)).2 (old b o q)
  exact codeAny_compStart_list (loop _ rfl) (W.self 0 _ _ _ hst₁ (loop _ rfl))
/-- a comprehension of one clause over one name, as a value -/
theorem lc_eval {elt iter : Expr} {x : Str} {px : Pos} {ifs : List Expr} {scope : Scope} {cl : List (Str × Addr)} {pos : Pos} {Q : Value → Shared → Prop}
    (hclos : closureFor scope env = pure cl) (hcell : ∀ y ∈ scope.names, y.2 ≠ .cell) (hkind : scope.kind = .function)
    (hnames : ∀ y ∈ scope.names, y.2 = .local → scope.names.lookup y.1 = some .local) (hx : scope.names.lookup x = some .local)
    (h : wpAny (model prog w) A (eval iter env) (fun xv s₁ => wpAny (model prog w) A (pyIter xv) (fun it s₂ => ∃ n P J Jm g I fp wr St, Source prog w A env scope cl x ifs elt it s₂ n P J Jm g I fp wr St ∧
      (∀ D h' tk ys g', s₂.heap.get? D = none → h'.PlainList D ys.toArray → ys.length ≤ n → J n ys g' → Sle g g' → InH g' h' → New s₂.heap g g' → g' D = none →
        (∀ b o, b ∉ wr → s₂.heap.get? b = some o → h'.get? b = some o) → Q (.ref D) { s₂ with heap := h', toks := tk })) E s₁) E s)
    (hs : ∀ x, foldedSetIterable iter env x = pure x := by intro _; rfl) :
    wpAny (model prog w) A (eval (.ListComp elt [⟨.Name x px, iter, ifs, 0⟩] scope pos) env) Q E s := by
  rw [eval_ListComp]
  refine wpAny_comprehension_free (use := none) rfl hs hclos hkind hnames (wpAny_mono h (fun xv s₁ h₁ => wpAny_mono h₁ (fun it s₂ h₂ => ?_) fun _ _ e => e) fun _ _ e => e)
  obtain ⟨n, P, J, Jm, g, I, fp, wr, St, S, hQ⟩ := h₂
  refine lc_block (RR := fun acc C => compPost (model prog w) A E none Q acc C) S hcell hkind hx ?_
  intro D C h' tk m' ys g' hD hC hDC hn hl hlen hJ hle hin hnew gD gC hk
  exact ⟨m', hn, fun h'' hs'' => hQ D h'' tk ys g' hD (hl.at fun o e => hs''.extBut D o hDC e) hlen hJ hle (fun b o e => hs''.extBut b o (fun q => by rw [q, gC] at e; cases e) (hin b o e)) hnew gD fun b o hb e =>
    hs''.extBut b o (by rintro rfl; rw [hC] at e; cases e) (hk b o hb e)⟩
/-- the same, stored under a name -/
theorem lc_assign {elt iter : Expr} {x y : Str} {px py : Pos} {ifs : List Expr} {scope : Scope} {cl : List (Str × Addr)} {pos spos : Pos} {Q : Flow → Shared → Prop}
    (hsw : swapsWith (.ListComp elt [⟨.Name x px, iter, ifs, 0⟩] scope pos) (some (.Name y py)) spos.line env = pure true)
    (hclos : closureFor scope env = pure cl) (hcell : ∀ z ∈ scope.names, z.2 ≠ .cell) (hkind : scope.kind = .function)
    (hnames : ∀ z ∈ scope.names, z.2 = .local → scope.names.lookup z.1 = some .local) (hx : scope.names.lookup x = some .local)
    (hy : env.kindOf y = some .local) (hp : (env.scope.kind == .class || (env.scope.kind == .module && env.locals != env.globals)) = false)
    (h : wpAny (model prog w) A (eval iter env) (fun xv s₁ => wpAny (model prog w) A (pyIter xv) (fun it s₂ => ∃ n P J Jm g I fp wr St m, Source prog w A env scope cl x ifs elt it s₂ n P J Jm g I fp wr St ∧
      env.locals ∉ wr ∧ s₂.heap.Ns env.locals m ∧ g env.locals = none ∧
      (∀ D h' tk ys g', s₂.heap.get? D = none → h'.PlainList D ys.toArray → ys.length ≤ n → J n ys g' → Sle g g' → InH g' h' → New s₂.heap g g' → g' D = none → g' env.locals = none →
        h'.Ns env.locals (fun z => if z = y then some (.ref D) else m z) → (∀ b o, b ≠ env.locals → b ∉ wr → s₂.heap.get? b = some o → h'.get? b = some o) → Q .next { s₂ with heap := h', toks := tk })) E s₁) E s)
    (hs : ∀ x, foldedSetIterable iter env x = pure x := by intro _; rfl) :
    wpAny (model prog w) A (exec (.Assign [.Name y py] (.ListComp elt [⟨.Name x px, iter, ifs, 0⟩] scope pos) spos) env) Q E s := by
  rw [exec_Assign_Name_used _ _ _ _ hsw]
  refine wpAny_bind (wpAny_standAt (wpAny_bind ?_))
  show wpAny _ A (do let _ ← comprehension (.ListComp elt [⟨.Name x px, iter, ifs, 0⟩] scope pos) scope env _ (newList []) false (eval iter env) (some (assign (.Name y py) env))) _ _ s
  refine wpAny_bind (wpAny_mono (wpAny_comprehension_free (use := some (assign (.Name y py) env)) (Q := fun _ s' => Q .next s') rfl hs hclos hkind hnames
    (wpAny_mono h (fun xv s₁ h₁ => wpAny_mono h₁ (fun it s₂ h₂ => ?_) fun _ _ e => e) fun _ _ e => e)) (fun _ s' hq => wpAny_pure (wpAny_pure hq)) fun _ _ e => e)
  obtain ⟨n, P, J, Jm, g, I, fp, wr, St, m, S, hLw, hN, hgL, hQ⟩ := h₂
  refine lc_block (RR := fun acc C => compPost (model prog w) A E (some (assign (.Name y py) env)) (fun _ s' => Q .next s') acc C) S hcell hkind hx ?_
  intro D C h' tk m' ys g' hD hC hDC hn hl hlen hJ hle hin hnew gD gC hk
  show wpAny _ A (assign (.Name y py) env (.ref D)) _ _ _
  have hLC : env.locals ≠ C := by rintro rfl; obtain ⟨o, _, _, ho, _⟩ := hN; rw [hC] at ho; cases ho
  have hLD : env.locals ≠ D := by rintro rfl; obtain ⟨o, _, _, ho, _⟩ := hN; rw [hD] at ho; cases ho
  have gL : g' env.locals = none := by
    cases q : g' env.locals with
    | none => rfl
    | some o =>
      rcases hnew _ o q with r | r
      · rw [hgL] at r; cases r
      · obtain ⟨o, _, _, ho, _⟩ := hN; rw [ho] at r; cases r
  refine wpAny_assign_Name (wpAny_storeName_local hy (hN.at' fun o e => hk _ o hLw e) (fun h₂ hn₂ hs₂ => ?_) hp)
  refine ⟨m', hn.sameBut hs₂ (Ne.symm hLC), fun h₃ hs₃ => ?_⟩
  exact hQ D h₃ _ ys g' hD ((hl.at fun o e => hs₂.extBut D o (Ne.symm hLD) e).at fun o e => hs₃.extBut D o hDC e) hlen hJ hle
    (fun b o e => hs₃.extBut b o (fun q => by rw [q, gC] at e; cases e) (hs₂.extBut b o (fun q => by rw [q, gL] at e; cases e) (hin b o e))) hnew gD gL (hn₂.sameBut hs₃ hLC)
    fun b o hbL hb e => hs₃.extBut b o (by rintro rfl; rw [hC] at e; cases e) (hs₂.extBut b o hbL (hk b o hb e))
end
end Mine
end
section
open PySem PySem.W PySem.Calls PyProof.Rows PySem.Spec
set_option Elab.async false
set_option maxRecDepth 100000
set_option maxHeartbeats 4000000
namespace Mine
section
variable {prog : Program} {w : World} {A : Around} {R : Result → Shared → Prop} {E : Value → Shared → Prop} {s : Shared} {env : Env}
theorem new_step {h₂ Ha Hb : Heap} {g g1 g'' : Snap} {ks wr : List Addr} (n1 : New h₂ g g1) (z1 : ∀ b ∈ ks, g1 b = none) (live : ∀ b ∈ ks, ∃ o, Ha.get? b = some o) (up : ∀ b o, b ∉ ks → h₂.get? b = some o → Ha.get? b = some o) (X : Ext Ha g1 g'' Hb) :
    New h₂ g g'' ∧ ∀ b ∈ ks, g'' b = none := by
  have no : ∀ b o, Ha.get? b = some o → g1 b = none → g'' b = none := fun b o e z => by
    cases q : g'' b with
    | none => rfl
    | some o' =>
      rcases X.new b o' q with r | r
      · rw [z] at r; cases r
      · rw [e] at r; cases r
  refine ⟨fun b o e => ?_, fun b hb => let ⟨o, e⟩ := live b hb; no b o e (z1 b hb)⟩
  rcases X.new b o e with r | r
  · exact n1 b o r
  · refine .inr ?_
    cases q : h₂.get? b with
    | none => rfl
    | some o' =>
      by_cases hb : b ∈ ks
      · obtain ⟨o2, e2⟩ := live b hb; rw [e2] at r; cases r
      · rw [up b o' hb q] at r; cases r
theorem lcp_loop {elt iter : Expr} {a b : Str} {pa pb tp : Pos} {kk : Nat} {scope : Scope} {pos : Pos} {I D : Addr} {fp wr : List Addr} {n : Nat} {Pt : Nat → Array Value → Prop} {St : Nat → Heap → Prop} {Mid : Nat → Addr → Heap → Prop} {h₂ : Heap}
    {cenv : Env} {m : Str → Option Value} {g : Snap} {J : Nat → List Value → Snap → Prop} (W : WalksT prog w A I fp wr n Pt St Mid) (hlive : ∀ i h, St i h → ∀ b ∈ wr, ∃ o, h.get? b = some o) (hh : A.handled = none)
    (ha : cenv.kindOf a = some .local) (hb : cenv.kindOf b = some .local) (hab : a ≠ b) (hp : (cenv.scope.kind == .class || (cenv.scope.kind == .module && cenv.locals != cenv.globals)) = false)
    (hDC : D ≠ cenv.locals) (hDf : D ∉ fp) (hCf : cenv.locals ∉ fp) (hD2 : h₂.get? D = none) (hC2 : h₂.get? cenv.locals = none) (h2s : Grow h₂ s.heap) (hw2 : ∀ b ∈ fp, ∃ o, h₂.get? b = some o)
    (hst : St 0 s.heap) (hacc : s.heap.PlainList D #[]) (hn : s.heap.Ns cenv.locals m) (hg : InH g h₂) (hgw : ∀ b ∈ wr, g b = none) (hJ : J 0 [] g)
    (T : ∀ i v1 v2 ys g' H tk m E', i < n → ys.length ≤ i → Pt i #[v1, v2] → J i ys g' → Sle g g' → InH g' H → (∀ b o, b ∉ wr → h₂.get? b = some o → H.get? b = some o) → H.Ns cenv.locals m → m a = some v1 → m b = some v2 →
      wpAny (model prog w) A (eval elt cenv) (fun y s₄ => ∃ g'' H' tk', s₄ = { s with heap := H', toks := tk' } ∧ Ext H g' g'' H' ∧ J (i + 1) (ys ++ [y]) g'') E' { s with heap := H, toks := tk })
    (h2P : ∀ i vals, Pt i vals → ∃ v1 v2, vals = #[v1, v2])
    (hR : ∀ h' tk m' ys g', h'.Ns cenv.locals m' → h'.PlainList D ys.toArray → ys.length ≤ n → J n ys g' → Sle g g' → InH g' h' → New h₂ g g' → g' D = none → g' cenv.locals = none →
      (∀ b o, b ≠ cenv.locals → b ∉ wr → b ≠ D → s.heap.get? b = some o → h'.get? b = some o) → R (.ok .next) { s with heap := h', toks := tk })
    (hsz : n ≤ sizeLine) :
    codeAny (model prog w) A (.compLoop (.ListComp elt [⟨.Tuple [.Name a pa, .Name b pb] kk tp, iter, [], 0⟩] scope pos) 0 (.ref I) (.ref D) cenv) R s := by
  have hCw : cenv.locals ∉ wr := fun h => hCf (W.sub _ h)
  have hDw : D ∉ wr := fun h => hDf (W.sub _ h)
  refine kcp_loop
    (fun k s' => ∃ H tk m' ys g' i, s' = { s with heap := H, toks := tk } ∧ St i H ∧ H.PlainList D ys.toArray ∧ H.Ns cenv.locals m' ∧ J i ys g' ∧ InH g' H ∧ Sle g g' ∧ New h₂ g g' ∧
      (∀ b ∈ cenv.locals :: D :: wr, g' b = none) ∧ i ≤ n ∧ ys.length ≤ i ∧ k = n + 1 - i ∧
      (∀ b o, b ≠ cenv.locals → b ∉ wr → b ≠ D → s.heap.get? b = some o → H.get? b = some o)) ?_ (n + 1)
    ⟨s.heap, s.toks, m, [], g, 0, rfl, hst, hacc, hn, hJ, fun b o e => h2s b o (hg b o e), fun _ _ e => e, fun _ _ e => .inl e, ?_, Nat.zero_le _, Nat.le_refl _, rfl, fun _ _ _ _ _ e => e⟩
  · rintro k s' ⟨H, tk, m', ys, g', i, rfl, hst', hacc', hn', hJ', hi', hle, hnew, gz, hin, hlen, rfl, hk⟩
    have gC := gz _ (.head _)
    have gD := gz _ (.tail _ (.head _))
    have gw : ∀ b ∈ wr, g' b = none := fun b hb => gz b (.tail _ (.tail _ hb))
    by_cases hlt : i < n
    · refine W.item i _ _ _ hlt hst' fun Tp vals h₁ tk₁ hPv hTp hIT hMid hk₁ => ?_
      refine W.go _ _ _ i Tp _ _ _ hMid fun h₃ hst₃ hk₃ => ?_
      obtain ⟨v1, v2, rfl⟩ := h2P _ _ hPv
      have hTw : Tp ∉ wr := W.apart _ _ _ hMid
      have hIT₃ : h₃.IsTuple Tp #[v1, v2] := by obtain ⟨o, e, r⟩ := hIT; exact ⟨o, hk₃ _ _ hTw e, r⟩
      have up₁ : ∀ b o, b ∉ wr → H.get? b = some o → h₃.get? b = some o := fun b o hb e => hk₃ b o hb (hk₁ b o hb e)
      refine kcp_assign hh hIT₃ ha hb hp (hn'.at' fun o e => up₁ _ o hCw e) fun h₄ tk₄ hn₄ hs₄ => ?_
      have up₄ : ∀ b o, b ≠ cenv.locals → b ∉ wr → H.get? b = some o → h₄.get? b = some o := fun b o hc hb e => hs₄ b o hc (up₁ b o hb e)
      have hst₄ : St (i + 1) h₄ := W.frame _ _ _ hst₃ fun b hb o e => hs₄ b o (fun h => hCf (h ▸ hb)) e
      have gin₄ : InH g' h₄ := fun b o e => up₄ b o (fun q => by rw [q, gC] at e; cases e) (fun q => by rw [gw b q] at e; cases e) (hi' b o e)
      have base : ∀ b o, b ∉ wr → h₂.get? b = some o → h₄.get? b = some o := fun b o hb e => by
        have hC : b ≠ cenv.locals := fun q => by rw [q, hC2] at e; cases e
        have hD : b ≠ D := fun q => by rw [q, hD2] at e; cases e
        exact up₄ b o hC hb (hk b o hC hb hD (h2s b o e))
      refine wpAny_mono (T i v1 v2 ys g' h₄ _ _ _ hlt hlen hPv hJ' hle gin₄ base hn₄ (by simp [hab]) (by simp)) (fun y s₅ h₅ => ?_) fun _ _ e => e
      obtain ⟨g5, H5, tk5, rfl, X5, hJ5⟩ := h₅
      have live : ∀ b ∈ cenv.locals :: D :: wr, ∃ o, h₄.get? b = some o := fun b hb => by
        rcases List.mem_cons.mp hb with rfl | hb
        · obtain ⟨o, _, _, e, _⟩ := hn₄; exact ⟨o, e⟩
        · rcases List.mem_cons.mp hb with rfl | hb
          · obtain ⟨z, e⟩ := hacc'; exact ⟨_, up₄ _ _ hDC hDw e⟩
          · exact hlive _ _ hst₄ b hb
      obtain ⟨new5, z5⟩ := new_step (ks := cenv.locals :: D :: wr) (wr := wr) hnew gz live (fun b o hb e => base b o (fun h => hb (.tail _ (.tail _ h))) e) X5
      have up₅ : ∀ b o, b ≠ cenv.locals → b ∉ wr → H.get? b = some o → H5.get? b = some o := fun b o p q e => X5.grow b o (up₄ b o p q e)
      refine wpAny_list_append_plain (hsz := by rw [List.size_toArray]; omega) (hacc'.at fun o e => up₅ D o hDC hDw e) fun h₆ hl₆ hs₆ => ?_
      refine ⟨n + 1 - (i + 1), by omega, h₆, tk5, _, ys ++ [y], g5, i + 1, rfl, ?_, by simpa using hl₆, (hn₄.keeps X5.grow).sameBut hs₆ (Ne.symm hDC), hJ5, ?_, fun b o e => X5.up b o (hle b o e), new5, z5, hlt, by rw [List.length_append, List.length_singleton]; omega, rfl, fun b o p q r e => hs₆.extBut b o r (up₅ b o p q (hk b o p q r e))⟩
      · exact W.frame _ _ h₆ hst₄ fun b hb o e => hs₆.extBut b o (fun h => hDf (h ▸ hb)) (X5.grow b o e)
      · exact fun b o e => hs₆.extBut b o (fun q => by rw [q, z5 D (.tail _ (.head _))] at e; cases e) (X5.inh b o e)
    · have e : i = n := by omega
      subst e
      refine W.done _ _ _ hst' fun h₁ tk₁ hk₁ => ?_
      exact hR h₁ tk₁ m' ys g' (hn'.at' fun o e => hk₁ _ o hCw e) (hacc'.at fun o e => hk₁ _ o hDw e) hlen hJ' hle (fun b o e => hk₁ b o (fun q => by rw [gw b q] at e; cases e) (hi' b o e)) hnew gD gC
        fun b o p q r e => hk₁ b o q (hk b o p q r e)
  · intro b hb
    rcases List.mem_cons.mp hb with rfl | hb
    · exact none_of_inH hg hC2
    · rcases List.mem_cons.mp hb with rfl | hb
      · exact none_of_inH hg hD2
      · exact hgw b hb
/-- a comprehension over pairs (enumerate) -/
theorem lcp_eval {elt iter : Expr} {a b : Str} {pa pb tp : Pos} {kk : Nat} {scope : Scope} {cl : List (Str × Addr)} {pos : Pos} {Q : Value → Shared → Prop} (hh : A.handled = none)
    (hclos : closureFor scope env = pure cl) (hcell : ∀ y ∈ scope.names, y.2 ≠ .cell) (hkind : scope.kind = .function)
    (hnames : ∀ y ∈ scope.names, y.2 = .local → scope.names.lookup y.1 = some .local) (ha : scope.names.lookup a = some .local) (hb : scope.names.lookup b = some .local) (hab : a ≠ b)
    (h : wpAny (model prog w) A (eval iter env) (fun xv s₁ => wpAny (model prog w) A (pyIter xv) (fun it s₂ => ∃ (n : Nat) (Pt : Nat → Array Value → Prop) (J : Nat → List Value → Snap → Prop) (g : Snap) (I : Addr) (fp wr : List Addr) (St : Nat → Heap → Prop) (Mid : Nat → Addr → Heap → Prop), it = .ref I ∧ WalksT prog w A I fp wr n Pt St Mid ∧ (∀ i h, St i h → ∀ b ∈ wr, ∃ o, h.get? b = some o) ∧ n ≤ sizeLine ∧
      St 0 s₂.heap ∧ (∀ b ∈ fp, ∃ o, s₂.heap.get? b = some o) ∧ InH g s₂.heap ∧ (∀ b ∈ wr, g b = none) ∧ J 0 [] g ∧ (∀ i vals, Pt i vals → ∃ v1 v2, vals = #[v1, v2]) ∧
      (∀ C (s₄ : Shared), s₂.heap.objs.size ≤ C → (∃ h tk, s₄ = { s₂ with heap := h, toks := tk }) → ∀ i v1 v2 ys g' H tk m E', i < n → ys.length ≤ i → Pt i #[v1, v2] → J i ys g' → Sle g g' → InH g' H → (∀ b o, b ∉ wr → s₂.heap.get? b = some o → H.get? b = some o) → H.Ns C m → m a = some v1 → m b = some v2 →
        wpAny (model prog w) A (eval elt (compEnvC scope cl C env)) (fun y s₅ => ∃ g'' H' tk', s₅ = { s₄ with heap := H', toks := tk' } ∧ Ext H g' g'' H' ∧ J (i + 1) (ys ++ [y]) g'') E' { s₄ with heap := H, toks := tk }) ∧
      (∀ D h' tk ys g', s₂.heap.get? D = none → h'.PlainList D ys.toArray → ys.length ≤ n → J n ys g' → Sle g g' → InH g' h' → New s₂.heap g g' → g' D = none →
        (∀ b o, b ∉ wr → s₂.heap.get? b = some o → h'.get? b = some o) → Q (.ref D) { s₂ with heap := h', toks := tk })) E s₁) E s)
    (hs : ∀ x, foldedSetIterable iter env x = pure x := by intro _; rfl) :
    wpAny (model prog w) A (eval (.ListComp elt [⟨.Tuple [.Name a pa, .Name b pb] kk tp, iter, [], 0⟩] scope pos) env) Q E s := by
  rw [eval_ListComp]
  refine wpAny_comprehension_free (use := none) rfl hs hclos hkind hnames (wpAny_mono h (fun xv s₁ h₁ => wpAny_mono h₁ (fun it s₂ h₂ => ?_) fun _ _ e => e) fun _ _ e => e)
  obtain ⟨n, Pt, J, g, I, fp, wr, St, Mid, rfl, W, hlive, hsz, hst, hfp, hg, hgw, hJ, h2P, T, hQ⟩ := h₂
  refine wpAny_newObj_type (wpAny_newFunctionEnv hcell (by intro y hy; simp at hy) (fun h₁ hns₁ hsb₁ => ?_) hkind)
  dsimp only at hns₁ hsb₁ ⊢
  generalize hH2 : s₂.heap.push { cls := .type "list", dict := none, data := .seq ([] : List Value).toArray } = H2 at hns₁ hsb₁ ⊢
  have hC : H2.objs.size = s₂.heap.objs.size + 1 := by rw [← hH2, Heap.size_push]
  have hDC : s₂.heap.objs.size ≠ H2.objs.size := by rw [hC]; exact Nat.ne_of_lt (Nat.lt_succ_self _)
  have hCle : s₂.heap.objs.size ≤ H2.objs.size := by rw [hC]; exact Nat.le_succ _
  have below : ∀ b, b < s₂.heap.objs.size → b ≠ H2.objs.size ∧ b ≠ s₂.heap.objs.size := fun b hb => ⟨by rw [hC]; exact Nat.ne_of_lt (Nat.lt_succ_of_lt hb), Nat.ne_of_lt hb⟩
  have hDf : s₂.heap.objs.size ∉ fp := fun hm => let ⟨_, e⟩ := hfp _ hm; Nat.lt_irrefl _ (Heap.lt_size e)
  have hCf : H2.objs.size ∉ fp := fun hm => by obtain ⟨_, e⟩ := hfp _ hm; have := Heap.lt_size e; rw [hC] at this; exact Nat.lt_irrefl _ (Nat.lt_of_succ_lt this)
  have old : ∀ b o, s₂.heap.get? b = some o → h₁.get? b = some o := fun b o e => hsb₁.extBut b o (below b (Heap.lt_size e)).1 (Heap.get?_push_of_some _ (hH2 ▸ Heap.get?_push_of_some _ e))
  have hacc : h₁.PlainList s₂.heap.objs.size #[] := ⟨_, hsb₁.extBut _ _ hDC (Heap.get?_push_of_some _ (hH2 ▸ Heap.get?_push_size _ rfl))⟩
  have hst₁ : St 0 h₁ := W.frame _ _ _ hst fun b _ o e => old b o e
  have fresh : ∀ a, s₂.heap.objs.size ≤ a → s₂.heap.get? a = none := fun a ha => by
    cases e : s₂.heap.get? a with
    | none => rfl
    | some o' => exact absurd (Heap.lt_size e) (Nat.not_lt.mpr ha)
  have loop : ∀ s₃ : Shared, s₃ = { s₂ with heap := h₁, toks := s₂.toks + ([] : List (Str × Value)).length } →
      codeAny (model prog w) A (.compLoop (.ListComp elt [⟨.Tuple [.Name a pa, .Name b pb] kk tp, iter, [], 0⟩] scope pos) 0 (.ref I) (.ref s₂.heap.objs.size) (compEnvC scope cl H2.objs.size env))
        (compPost (model prog w) A E none Q (.ref s₂.heap.objs.size) H2.objs.size) s₃ := by
    rintro s₃ rfl
    refine lcp_loop (h₂ := s₂.heap) (g := g) (cenv := compEnvC scope cl H2.objs.size env) W hlive hh (lookup_relabel_local ha) (lookup_relabel_local hb) hab (by simp [compEnvC, relabel, hkind]) hDC hDf hCf (fresh _ (Nat.le_refl _)) (fresh _ hCle) old hfp hst₁ hacc hns₁ hg hgw hJ
      (T H2.objs.size _ hCle ⟨_, _, rfl⟩) h2P (fun h' tk m' ys g' hn hl hlen hJ' hle hin hnew gD gC hk => ?_) hsz
    refine ⟨m', hn, fun h'' hs'' => hQ _ h'' tk ys g' (fresh _ (Nat.le_refl _)) (hl.at fun o e => hs''.extBut _ o hDC e) hlen hJ' hle (fun b o e => hs''.extBut b o (fun q => by rw [q] at e; have gC' : g' H2.objs.size = none := gC; rw [gC'] at e; cases e) (hin b o e)) hnew gD fun b o hb e => ?_⟩
    exact hs''.extBut b o (below b (Heap.lt_size e)).1 (hk b o (below b (Heap.lt_size e)).1 hb (below b (Heap.lt_size e)).2 (old b o e))
  exact codeAny_compStart_list (loop _ rfl) (W.self 0 _ _ _ hst₁ (loop _ rfl))
end
end Mine
end
section
open PySem PySem.W PySem.Calls PyProof.Rows PySem.Spec
set_option Elab.async false
set_option maxRecDepth 100000
set_option maxHeartbeats 4000000
namespace Mine
section
variable {prog : Program} {w : World} {A : Around} {R : Result → Shared → Prop} {E : Value → Shared → Prop} {s : Shared} {env : Env}
abbrev two (x y : Str) (px py : Pos) (iter iter2 : Expr) : List Comprehension := [⟨.Name x px, iter, [], 0⟩, ⟨.Name y py, iter2, [], 0⟩]
theorem turn_n0 (elt iter iter2 : Expr) (x y : Str) (px py : Pos) (scope : Scope) (pos : Pos) (it acc : Value) (env : Env) :
    compTurn (.ListComp elt (two x y px py iter iter2) scope pos) 0 it acc env = (standAt iter.pos >>= fun _ => pyNext it >>= fun r => match r with
      | none => pure (.done .next)
      | some v => letOwnedTupleGo (.Name x px) it v >>= fun _ => assign (.Name x px) env v >>= fun _ => eval iter2 env >>= fun z => standAt iter2.pos >>= fun _ => foldedSetIterable iter2 env z >>= fun z =>
        holding [z] (pyIter z) >>= fun it2 => runOwn (.compStart (.ListComp elt (two x y px py iter iter2) scope pos) 1 it2 acc env) env >>= fun _ =>
          again (.compLoop (.ListComp elt (two x y px py iter iter2) scope pos) 0 it acc env)) := by rfl
theorem turn_n1 (elt iter iter2 : Expr) (x y : Str) (px py : Pos) (scope : Scope) (pos : Pos) (it acc : Value) (env : Env) :
    compTurn (.ListComp elt (two x y px py iter iter2) scope pos) 1 it acc env = (standAt iter2.pos >>= fun _ => pyNext it >>= fun r => match r with
      | none => pure (.done .next)
      | some v => letOwnedTupleGo (.Name y py) it v >>= fun _ => assign (.Name y py) env v >>= fun _ =>
        (eval elt env >>= fun x => call (.builtin "list.append") [acc, x] >>= fun _ => pure ()) >>= fun _ =>
          again (.compLoop (.ListComp elt (two x y px py iter iter2) scope pos) 1 it acc env)) := by rfl
theorem start_n1 {elt iter iter2 : Expr} {x y : Str} {px py : Pos} {scope : Scope} {pos : Pos} {it acc : Value} {env : Env}
    (h0 : codeAny (model prog w) A (.compLoop (.ListComp elt (two x y px py iter iter2) scope pos) 1 it acc env) R s)
    (h : wpAny (model prog w) A (pyIter it) (fun it' s' => codeAny (model prog w) A (.compLoop (.ListComp elt (two x y px py iter iter2) scope pos) 1 it' acc env) R s')
      (notedBy (model prog w) A env fun x s' => R (.error x) s') s) :
    codeAny (model prog w) A (.compStart (.ListComp elt (two x y px py iter iter2) scope pos) 1 it acc env) R s := by
  refine codeAny_of_tree ?_
  show wpAny _ _ ((compStart (.ListComp elt (two x y px py iter iter2) scope pos) 1 it acc env).onRaise (fun x => do noteFrame x env; standAt theWindowsPlace)) _ _ s
  refine wpAny_notedAt ?_
  unfold compStart
  show wpAny _ _ (ask >>= _) _ _ s
  refine wpAny_bind (wpAny_askSetting (wpAny_ite ?_))
  split
  · first
      | exact wpAny_bind (wpAny_pure (wpAny_pure (And.intro rfl h0)))
      | exact wpAny_pure (And.intro rfl h0)
  · first
      | exact wpAny_bind (wpAny_rule (wpAny_bind (wpAny_standAt (wpAny_bind (wpAny_mono h (fun it' s' h' => wpAny_pure (And.intro rfl h')) fun _ _ x => x)))))
      | (refine wpAny_bind (wpAny_rule ?_); show wpAny _ _ (standAt iter2.pos >>= _) _ _ s; exact wpAny_bind (wpAny_standAt (wpAny_bind (wpAny_mono h (fun it' s' h' => wpAny_pure (And.intro rfl h')) fun _ _ x => x))))
/-- the inner clause: each item of a list, appended as it is -/
theorem inner_loop {iter iter2 : Expr} {x y : Str} {px py pe : Pos} {scope : Scope} {pos : Pos} {I l D : Addr} {cenv : Env} {its : List Value} {nl : Nat} {ys : List Value} {m : Str → Option Value} (hh : A.handled = none)
    (hy : cenv.kindOf y = some .local) (hk : cenv.scope.kind = .function) (hyd : (y == ("__debug__" : Str)) = false)
    (hDC : D ≠ cenv.locals) (hDI : D ≠ I) (hIC : I ≠ cenv.locals) (hlI : l ≠ I) (hlC : l ≠ cenv.locals) (hlD : l ≠ D)
    (hit : s.heap.IsListIter I l 0) (hl : s.heap.get? l = some (listOf its.toArray nl)) (hacc : s.heap.PlainList D ys.toArray) (hn : s.heap.Ns cenv.locals m) (hsz : ys.length + its.length ≤ sizeLine)
    (hR : ∀ h' tk m', h'.Ns cenv.locals m' → h'.PlainList D (ys ++ its).toArray → (∀ b o, b ≠ cenv.locals → b ≠ I → b ≠ D → s.heap.get? b = some o → h'.get? b = some o) → R (.ok .next) { s with heap := h', toks := tk }) :
    codeAny (model prog w) A (.compLoop (.ListComp (.Name y pe) (two x y px py iter iter2) scope pos) 1 (.ref I) (.ref D) cenv) R s := by
  have hp : (cenv.scope.kind == .class || (cenv.scope.kind == .module && cenv.locals != cenv.globals)) = false := by rw [hk]; rfl
  refine codeAny_loop rfl
    (fun k s' => ∃ H tk m' i, s' = { s with heap := H, toks := tk } ∧ H.IsListIter I l i ∧ H.get? l = some (listOf its.toArray nl) ∧ H.PlainList D (ys ++ its.take i).toArray ∧ H.Ns cenv.locals m' ∧ i ≤ its.length ∧ k = its.length + 1 - i ∧
      (∀ b o, b ≠ cenv.locals → b ≠ I → b ≠ D → s.heap.get? b = some o → H.get? b = some o)) ?_ (its.length + 1)
    ⟨s.heap, s.toks, m, 0, rfl, hit, hl, by simpa using hacc, hn, Nat.zero_le _, rfl, fun _ _ _ _ _ e => e⟩
  rintro k s' ⟨H, tk, m', i, rfl, hit', hl', hacc', hn', hi, rfl, hk'⟩
  show wpAny _ A ((compTurn (.ListComp (.Name y pe) (two x y px py iter iter2) scope pos) 1 (.ref I) (.ref D) cenv).onRaise (fun x => do noteFrame x cenv; theTreesLotGoes x)) _ _ _
  refine wpAny_noted ?_
  rw [turn_n1]
  have hL : H.IsList l its.toArray := ⟨_, hl', rfl, _, rfl⟩
  refine wpAny_bind (wpAny_standAt (wpAny_bind ?_))
  by_cases hlt : i < its.length
  · have hx : its.toArray[i]? = some its[i] := by simp [hlt]
    refine wpAny_pyNext_list_item hit' hL hx fun h₁ hit₁ hs₁ => ?_
    refine wpAny_bind (wpAny_of_eq (show letOwnedTupleGo (.Name y py) (.ref I) its[i] = pure () from rfl) ?_)
    refine wpAny_bind (wpAny_assign_Name (wpAny_storeName_local hy (hn'.sameBut hs₁ (Ne.symm hIC)) (fun h₂ hn₂ hs₂ => ?_) hp))
    refine wpAny_bind (wpAny_bind (wpAny_Name (wpAny_loadName_local (v := its[i]) hk hy hn₂ (by simp) ?_) hyd))
    have up : ∀ b o, b ≠ cenv.locals → b ≠ I → H.get? b = some o → h₂.get? b = some o := fun b o hb hc e => hs₂.extBut b o hb (hs₁.extBut b o hc e)
    refine wpAny_bind (wpAny_list_append_plain (hsz := by rw [List.size_toArray, List.length_append, List.length_take]; omega) (hacc'.at fun o e => up D o hDC hDI e) fun h₃ hl₃ hs₃ => ?_)
    refine wpAny_pure (wpAny_pure ⟨rfl, its.length + 1 - (i + 1), by omega, h₃, _, _, i + 1, rfl, (hit₁.extBut hs₂.extBut hIC).extBut hs₃.extBut (Ne.symm hDI), hs₃.extBut _ _ hlD (up _ _ hlC hlI hl'), ?_, hn₂.sameBut hs₃ (Ne.symm hDC), hlt, rfl, fun b o p q r e => hs₃.extBut b o r (up b o p q (hk' b o p q r e))⟩)
    have : ys ++ its.take (i + 1) = (ys ++ its.take i) ++ [its[i]] := by rw [List.take_succ_eq_append_getElem hlt, List.append_assoc]
    rw [this]
    simpa using hl₃
  · have e : i = its.length := by omega
    subst e
    refine wpAny_pyNext_list_end hh hit' hL (by simp) fun h₁ he₁ => ?_
    refine wpAny_pure (hR h₁ tk m' (hn'.extBut he₁ (Ne.symm hIC)) ?_ fun b o p q r e => he₁ b o q (hk' b o p q r e))
    rw [List.take_length] at hacc'
    exact hacc'.at fun o e => he₁ _ o hDI e
theorem lcn_loop {iter iter2 : Expr} {x y : Str} {px py pe : Pos} {scope : Scope} {pos : Pos} {I D : Addr} {fp wr : List Addr} {n : Nat} {P : Nat → Value → Prop} {St : Nat → Heap → Prop} {h₂ : Heap}
    {cenv : Env} {m : Str → Option Value} {g : Snap} {J : Nat → List Value → Snap → Prop} (W : Walks prog w A I fp wr n P St) (hlive : ∀ i h, St i h → ∀ b ∈ wr, ∃ o, h.get? b = some o) (hh : A.handled = none)
    (hx : cenv.kindOf x = some .local) (hy : cenv.kindOf y = some .local) (hyd : (y == ("__debug__" : Str)) = false) (hk : cenv.scope.kind = .function) (hf2 : ∀ z, foldedSetIterable iter2 cenv z = pure z)
    (hDC : D ≠ cenv.locals) (hDf : D ∉ fp) (hCf : cenv.locals ∉ fp) (hfp : ∀ b ∈ fp, ∃ o, h₂.get? b = some o) (hD2 : h₂.get? D = none) (hC2 : h₂.get? cenv.locals = none) (h2s : Grow h₂ s.heap)
    (hst : St 0 s.heap) (hacc : s.heap.PlainList D #[]) (hn : s.heap.Ns cenv.locals m) (hg : InH g h₂) (hgw : ∀ b ∈ wr, g b = none) (hJ : J 0 [] g) (hJz : ∀ i ys g', J i ys g' → ys.length ≤ sizeLine)
    (T : ∀ i v ys g' H tk m E', i < n → P i v → J i ys g' → Sle g g' → InH g' H → (∀ b o, b ∉ wr → h₂.get? b = some o → H.get? b = some o) → H.Ns cenv.locals m → m x = some v →
      wpAny (model prog w) A (eval iter2 cenv) (fun z s₄ => ∃ g'' H' tk' l its nl, s₄ = { s with heap := H', toks := tk' } ∧ Ext H g' g'' H' ∧ z = .ref l ∧ g'' l = some (listOf its.toArray nl) ∧ J (i + 1) (ys ++ its) g'') E' { s with heap := H, toks := tk })
    (hR : ∀ h' tk m' ys g', h'.Ns cenv.locals m' → h'.PlainList D ys.toArray → J n ys g' → Sle g g' → InH g' h' → New h₂ g g' → g' D = none → g' cenv.locals = none →
      (∀ b o, b ≠ cenv.locals → b ∉ wr → b ≠ D → s.heap.get? b = some o → h'.get? b = some o) → R (.ok .next) { s with heap := h', toks := tk }) :
    codeAny (model prog w) A (.compLoop (.ListComp (.Name y pe) (two x y px py iter iter2) scope pos) 0 (.ref I) (.ref D) cenv) R s := by
  have hp : (cenv.scope.kind == .class || (cenv.scope.kind == .module && cenv.locals != cenv.globals)) = false := by rw [hk]; rfl
  have hCw : cenv.locals ∉ wr := fun h => hCf (W.sub _ h)
  have hDw : D ∉ wr := fun h => hDf (W.sub _ h)
  refine codeAny_loop rfl
    (fun k s' => ∃ H tk m' ys g' i, s' = { s with heap := H, toks := tk } ∧ St i H ∧ H.PlainList D ys.toArray ∧ H.Ns cenv.locals m' ∧ J i ys g' ∧ InH g' H ∧ Sle g g' ∧ New h₂ g g' ∧
      (∀ b ∈ cenv.locals :: D :: wr, g' b = none) ∧ i ≤ n ∧ k = n + 1 - i ∧
      (∀ b o, b ≠ cenv.locals → b ∉ wr → b ≠ D → s.heap.get? b = some o → H.get? b = some o)) ?_ (n + 1)
    ⟨s.heap, s.toks, m, [], g, 0, rfl, hst, hacc, hn, hJ, fun b o e => h2s b o (hg b o e), fun _ _ e => e, fun _ _ e => .inl e, ?_, Nat.zero_le _, rfl, fun _ _ _ _ _ e => e⟩
  · rintro k s' ⟨H, tk, m', ys, g', i, rfl, hst', hacc', hn', hJ', hi', hle, hnew, gz, hin, rfl, hk'⟩
    have gC := gz _ (.head _)
    have gD := gz _ (.tail _ (.head _))
    have gw : ∀ b ∈ wr, g' b = none := fun b hb => gz b (.tail _ (.tail _ hb))
    show wpAny _ A ((compTurn (.ListComp (.Name y pe) (two x y px py iter iter2) scope pos) 0 (.ref I) (.ref D) cenv).onRaise (fun x => do noteFrame x cenv; theTreesLotGoes x)) _ _ _
    refine wpAny_noted ?_
    rw [turn_n0]
    refine wpAny_bind (wpAny_standAt (wpAny_bind ?_))
    by_cases hlt : i < n
    · refine W.item i _ _ _ hlt hst' fun v h₁ tk₁ hPv hst₁ hk₁ => ?_
      refine wpAny_bind (wpAny_of_eq (show letOwnedTupleGo (.Name x px) (.ref I) v = pure () from rfl) ?_)
      refine wpAny_bind (wpAny_assign_Name (wpAny_storeName_local hx (hn'.at' fun o e => hk₁ _ o hCw e) (fun h₃ hn₃ hs₃ => ?_) hp))
      have up₃ : ∀ b o, b ≠ cenv.locals → b ∉ wr → H.get? b = some o → h₃.get? b = some o := fun b o hbC hbf e => hs₃.extBut b o hbC (hk₁ b o hbf e)
      have hst₃ : St (i + 1) h₃ := W.frame _ _ _ hst₁ fun b hb o e => hs₃.extBut b o (fun h => hCf (h ▸ hb)) e
      have gin₃ : InH g' h₃ := fun b o e => up₃ b o (fun q => by rw [q, gC] at e; cases e) (fun q => by rw [gw b q] at e; cases e) (hi' b o e)
      have base : ∀ b o, b ∉ wr → h₂.get? b = some o → h₃.get? b = some o := fun b o hb e => by
        have hC : b ≠ cenv.locals := fun q => by rw [q, hC2] at e; cases e
        have hD : b ≠ D := fun q => by rw [q, hD2] at e; cases e
        exact up₃ b o hC hb (hk' b o hC hb hD (h2s b o e))
      refine wpAny_bind (wpAny_mono (T i v ys g' h₃ _ _ _ hlt hPv hJ' hle gin₃ base hn₃ (by simp)) (fun z s₄ h₄ => ?_) fun _ _ e => e)
      obtain ⟨g4, H4, tk4, l, its, nl, rfl, X4, rfl, hgl, hJ4⟩ := h₄
      have live : ∀ b ∈ cenv.locals :: D :: wr, ∃ o, h₃.get? b = some o := fun b hb => by
        rcases List.mem_cons.mp hb with rfl | hb
        · obtain ⟨o, _, _, e, _⟩ := hn₃; exact ⟨o, e⟩
        · rcases List.mem_cons.mp hb with rfl | hb
          · obtain ⟨z, e⟩ := hacc'; exact ⟨_, up₃ _ _ hDC hDw e⟩
          · exact hlive _ _ hst₃ b hb
      obtain ⟨new4, z4⟩ := new_step (ks := cenv.locals :: D :: wr) (wr := wr) hnew gz live (fun b o hb e => base b o (fun h => hb (.tail _ (.tail _ h))) e) X4
      have hlC : l ≠ cenv.locals := fun q => by rw [q, z4 _ (.head _)] at hgl; cases hgl
      have hlD : l ≠ D := fun q => by rw [q, z4 _ (.tail _ (.head _))] at hgl; cases hgl
      have hlw : l ∉ wr := fun q => by rw [z4 _ (.tail _ (.tail _ q))] at hgl; cases hgl
      have up₄ : ∀ b o, b ≠ cenv.locals → b ∉ wr → H.get? b = some o → H4.get? b = some o := fun b o p q e => X4.grow b o (up₃ b o p q e)
      have hn₄ := hn₃.keeps X4.grow
      have hL4 : H4.get? l = some (listOf its.toArray nl) := X4.inh _ _ hgl
      have hlz : its.length ≤ sizeLine ∧ ys.length + its.length ≤ sizeLine := by have := hJz _ _ _ hJ4; rw [List.length_append] at this; omega
      refine wpAny_bind (wpAny_standAt (wpAny_bind (wpAny_of_eq (hf2 _) (wpAny_bind (wpAny_holding ?_)))))
      refine wpAny_pyIter_list (l := l) (items := its.toArray) ⟨_, hL4, rfl, _, rfl⟩ ?_
      -- the inner iterator
      generalize hI2 : H4.objs.size = I2
      have liveIn : ∀ {b : Addr}, (∃ o, H4.get? b = some o) → b ≠ I2 := fun ⟨o, e⟩ q => by have := Heap.lt_size e; rw [q, ← hI2] at this; exact Nat.lt_irrefl _ this
      have lC4 : ∃ o, H4.get? cenv.locals = some o := by obtain ⟨o, _, _, e, _⟩ := hn₄; exact ⟨o, e⟩
      have lD4 : ∃ o, H4.get? D = some o := by obtain ⟨z, e⟩ := hacc'; exact ⟨_, up₄ _ _ hDC hDw e⟩
      have push : ∀ b o, H4.get? b = some o → (H4.push { cls := .type "list_iterator", data := .fields #[.ref l, .int 0 0] }).get? b = some o := fun b o e => Heap.get?_push_of_some _ e
      unfold runOwn
      refine wpAny_bind (wpAny_onRaise (wpAny_run ?_))
      have fin : ∀ {tk₆ : Tok}, codeAny (model prog w) A (.compLoop (.ListComp (.Name y pe) (two x y px py iter iter2) scope pos) 1 (.ref I2) (.ref D) cenv) (fun r s' => match r with
          | .ok f => (fun _ s₇ => wpAny (model prog w) A (again (.compLoop (.ListComp (.Name y pe) (two x y px py iter iter2) scope pos) 0 (.ref I) (.ref D) cenv)) (fun fin s' => match fin with | .done f => R (.ok f) s' | .again c' => c' = .compLoop (.ListComp (.Name y pe) (two x y px py iter iter2) scope pos) 0 (.ref I) (.ref D) cenv ∧ ∃ m_1, m_1 < n + 1 - i ∧ ∃ H tk m' ys g' i, s' = { s with heap := H, toks := tk } ∧ St i H ∧ H.PlainList D ys.toArray ∧ H.Ns cenv.locals m' ∧ J i ys g' ∧ InH g' H ∧ Sle g g' ∧ New h₂ g g' ∧
      (∀ b ∈ cenv.locals :: D :: wr, g' b = none) ∧ i ≤ n ∧ m_1 = n + 1 - i ∧
      (∀ b o, b ≠ cenv.locals → b ∉ wr → b ≠ D → s.heap.get? b = some o → H.get? b = some o)) (notedBy (model prog w) A cenv fun e s' => R (.error e) s') s₇) f s'
          | .error e => False) { s with heap := H4.push { cls := .type "list_iterator", data := .fields #[.ref l, .int 0 0] }, toks := tk₆ } := by
        intro tk₆
        refine inner_loop (l := l) (its := its) (nl := nl) (ys := ys) hh hy hk hyd hDC (liveIn lD4) (Ne.symm (liveIn lC4)) (liveIn ⟨_, hL4⟩) hlC hlD ⟨_, by rw [← hI2]; exact Heap.get?_push_size _ rfl, rfl, rfl⟩ (push _ _ hL4) (hacc'.at fun o e => push _ _ (up₄ D o hDC hDw e)) (hn₄.keeps push) hlz.2 fun h₇ tk₇ m₇ hn₇ hl₇ hk₇ => ?_
        have up₇ : ∀ b o, b ≠ cenv.locals → b ≠ D → H4.get? b = some o → h₇.get? b = some o := fun b o p q e => hk₇ b o p (liveIn ⟨o, e⟩) q (push b o e)
        refine wpAny_pure ⟨rfl, n + 1 - (i + 1), by omega, h₇, tk₇, m₇, ys ++ its, g4, i + 1, rfl, W.frame _ _ _ (W.frame _ _ _ hst₃ fun b _ o e => X4.grow b o e) fun b hb o e => up₇ b o (fun h => hCf (h ▸ hb)) (fun h => hDf (h ▸ hb)) e, hl₇, hn₇, hJ4, fun b o e => up₇ b o (fun q => by rw [q, z4 _ (.head _)] at e; cases e) (fun q => by rw [q, z4 _ (.tail _ (.head _))] at e; cases e) (X4.inh b o e),
          fun b o e => X4.up b o (hle b o e), new4, z4, hlt, rfl, fun b o p q r e => up₇ b o p r (up₄ b o p q (hk' b o p q r e))⟩
      have st := start_n1 (@fin tk4) (wpAny_pyIter_listiter (l := l) (i := 0) ⟨_, by rw [← hI2]; exact Heap.get?_push_size _ rfl, rfl, rfl⟩ (@fin tk4))
      refine codeAny_mono st fun r s' z => ?_
      cases r with
      | ok f => exact z
      | error e => exact z.elim
    · have e : i = n := by omega
      subst e
      refine W.done _ _ _ hst' fun h₁ tk₁ hk₁ => ?_
      refine wpAny_pure (hR h₁ tk₁ m' ys g' (hn'.at' fun o e => hk₁ _ o hCw e) (hacc'.at fun o e => hk₁ _ o hDw e) hJ' hle (fun b o e => hk₁ b o (fun q => by rw [gw b q] at e; cases e) (hi' b o e)) hnew gD gC
        fun b o p q r e => hk₁ b o q (hk' b o p q r e))
  · intro b hb
    rcases List.mem_cons.mp hb with rfl | hb
    · exact none_of_inH hg hC2
    · rcases List.mem_cons.mp hb with rfl | hb
      · exact none_of_inH hg hD2
      · exact hgw b hb
theorem lcn_eval {iter iter2 : Expr} {x y : Str} {px py pe : Pos} {scope : Scope} {cl : List (Str × Addr)} {pos : Pos} {Q : Value → Shared → Prop} (hh : A.handled = none)
    (hclos : closureFor scope env = pure cl) (hcell : ∀ z ∈ scope.names, z.2 ≠ .cell) (hkind : scope.kind = .function)
    (hnames : ∀ z ∈ scope.names, z.2 = .local → scope.names.lookup z.1 = some .local) (hx : scope.names.lookup x = some .local) (hy : scope.names.lookup y = some .local) (hyd : (y == ("__debug__" : Str)) = false)
    (h : wpAny (model prog w) A (eval iter env) (fun xv s₁ => wpAny (model prog w) A (pyIter xv) (fun it s₂ => ∃ (n : Nat) (P : Nat → Value → Prop) (J : Nat → List Value → Snap → Prop) (g : Snap) (I : Addr) (fp wr : List Addr) (St : Nat → Heap → Prop), it = .ref I ∧ Walks prog w A I fp wr n P St ∧ (∀ i h, St i h → ∀ b ∈ wr, ∃ o, h.get? b = some o) ∧
      St 0 s₂.heap ∧ (∀ b ∈ fp, ∃ o, s₂.heap.get? b = some o) ∧ InH g s₂.heap ∧ (∀ b ∈ wr, g b = none) ∧ J 0 [] g ∧ (∀ i ys g', J i ys g' → ys.length ≤ sizeLine) ∧
      (∀ C (s₄ : Shared), s₂.heap.objs.size ≤ C → (∃ h tk, s₄ = { s₂ with heap := h, toks := tk }) → ∀ i v ys g' H tk m E', i < n → P i v → J i ys g' → Sle g g' → InH g' H → (∀ b o, b ∉ wr → s₂.heap.get? b = some o → H.get? b = some o) → H.Ns C m → m x = some v →
        wpAny (model prog w) A (eval iter2 (compEnvC scope cl C env)) (fun z s₅ => ∃ g'' H' tk' l its nl, s₅ = { s₄ with heap := H', toks := tk' } ∧ Ext H g' g'' H' ∧ z = .ref l ∧ g'' l = some (listOf its.toArray nl) ∧ J (i + 1) (ys ++ its) g'') E' { s₄ with heap := H, toks := tk }) ∧
      (∀ D h' tk ys g', s₂.heap.get? D = none → h'.PlainList D ys.toArray → J n ys g' → Sle g g' → InH g' h' → New s₂.heap g g' → g' D = none →
        (∀ b o, b ∉ wr → s₂.heap.get? b = some o → h'.get? b = some o) → Q (.ref D) { s₂ with heap := h', toks := tk })) E s₁) E s)
    (hs : ∀ x, foldedSetIterable iter env x = pure x) (hs2 : ∀ cenv x, foldedSetIterable iter2 cenv x = pure x) :
    wpAny (model prog w) A (eval (.ListComp (.Name y pe) (two x y px py iter iter2) scope pos) env) Q E s := by
  rw [eval_ListComp]
  refine wpAny_comprehension_free (use := none) rfl hs hclos hkind hnames (wpAny_mono h (fun xv s₁ h₁ => wpAny_mono h₁ (fun it s₂ h₂ => ?_) fun _ _ e => e) fun _ _ e => e)
  obtain ⟨n, P, J, g, I, fp, wr, St, rfl, W, hlive, hst, hfp, hg, hgw, hJ, hJz, T, hQ⟩ := h₂
  refine wpAny_newObj_type (wpAny_newFunctionEnv hcell (by intro y hy; simp at hy) (fun h₁ hns₁ hsb₁ => ?_) hkind)
  dsimp only at hns₁ hsb₁ ⊢
  generalize hH2 : s₂.heap.push { cls := .type "list", dict := none, data := .seq ([] : List Value).toArray } = H2 at hns₁ hsb₁ ⊢
  have hC : H2.objs.size = s₂.heap.objs.size + 1 := by rw [← hH2, Heap.size_push]
  have hDC : s₂.heap.objs.size ≠ H2.objs.size := by rw [hC]; exact Nat.ne_of_lt (Nat.lt_succ_self _)
  have hCle : s₂.heap.objs.size ≤ H2.objs.size := by rw [hC]; exact Nat.le_succ _
  have below : ∀ b, b < s₂.heap.objs.size → b ≠ H2.objs.size ∧ b ≠ s₂.heap.objs.size := fun b hb => ⟨by rw [hC]; exact Nat.ne_of_lt (Nat.lt_succ_of_lt hb), Nat.ne_of_lt hb⟩
  have hDf : s₂.heap.objs.size ∉ fp := fun hm => let ⟨_, e⟩ := hfp _ hm; Nat.lt_irrefl _ (Heap.lt_size e)
  have hCf : H2.objs.size ∉ fp := fun hm => by obtain ⟨_, e⟩ := hfp _ hm; have := Heap.lt_size e; rw [hC] at this; exact Nat.lt_irrefl _ (Nat.lt_of_succ_lt this)
  have old : ∀ b o, s₂.heap.get? b = some o → h₁.get? b = some o := fun b o e => hsb₁.extBut b o (below b (Heap.lt_size e)).1 (Heap.get?_push_of_some _ (hH2 ▸ Heap.get?_push_of_some _ e))
  have hacc : h₁.PlainList s₂.heap.objs.size #[] := ⟨_, hsb₁.extBut _ _ hDC (Heap.get?_push_of_some _ (hH2 ▸ Heap.get?_push_size _ rfl))⟩
  have hst₁ : St 0 h₁ := W.frame _ _ _ hst fun b _ o e => old b o e
  have fresh : ∀ a, s₂.heap.objs.size ≤ a → s₂.heap.get? a = none := fun a ha => by
    cases e : s₂.heap.get? a with
    | none => rfl
    | some o' => exact absurd (Heap.lt_size e) (Nat.not_lt.mpr ha)
  have loop : ∀ s₃ : Shared, s₃ = { s₂ with heap := h₁, toks := s₂.toks + ([] : List (Str × Value)).length } →
      codeAny (model prog w) A (.compLoop (.ListComp (.Name y pe) (two x y px py iter iter2) scope pos) 0 (.ref I) (.ref s₂.heap.objs.size) (compEnvC scope cl H2.objs.size env))
        (compPost (model prog w) A E none Q (.ref s₂.heap.objs.size) H2.objs.size) s₃ := by
    rintro s₃ rfl
    refine lcn_loop (h₂ := s₂.heap) (g := g) (cenv := compEnvC scope cl H2.objs.size env) W hlive hh (lookup_relabel_local hx) (lookup_relabel_local hy) hyd hkind (hs2 _) hDC hDf hCf hfp (fresh _ (Nat.le_refl _)) (fresh _ hCle) old hst₁ hacc hns₁ hg hgw hJ hJz
      (T H2.objs.size _ hCle ⟨_, _, rfl⟩) (fun h' tk m' ys g' hn hl hJ' hle hin hnew gD gC hk => ?_)
    refine ⟨m', hn, fun h'' hs'' => hQ _ h'' tk ys g' (fresh _ (Nat.le_refl _)) (hl.at fun o e => hs''.extBut _ o hDC e) hJ' hle (fun b o e => hs''.extBut b o (fun q => by rw [q] at e; have gC' : g' H2.objs.size = none := gC; rw [gC'] at e; cases e) (hin b o e)) hnew gD fun b o hb e => ?_⟩
    exact hs''.extBut b o (below b (Heap.lt_size e)).1 (hk b o (below b (Heap.lt_size e)).1 hb (below b (Heap.lt_size e)).2 (old b o e))
  exact codeAny_compStart_list (loop _ rfl) (W.self 0 _ _ _ hst₁ (loop _ rfl))
end
end Mine
end
section
open PySem PySem.W PySem.Calls PyProof.Rows PySem.Spec
set_option Elab.async false
set_option maxRecDepth 100000
set_option maxHeartbeats 4000000
namespace Mine
noncomputable section
abbrev PR : Program := PySem.Challenge.pw_ae5011_01
abbrev ar (dp un : Nat) (gd : Option (List Code)) (outer : List Env) : Around := { handled := none, depth := dp, frames := some outer, guards := gd, units := un }
/-- what stands at every heap of the call -/
structure St (w : World) (A : Around) (h : Heap) : Prop where
  X : (KF w.params).In h
  T : ∃ p loose mean mg mb, Top p loose mean mg mb h
  B : ∃ base outer, Below A base outer h
theorem St.keeps {w : World} {A : Around} {h h' : Heap} (x : St w A h) (k : ∀ b o, h.get? b = some o → h'.get? b = some o) : St w A h' := by
  obtain ⟨X, ⟨p, l, me, mg, mb, T⟩, base, outer, B⟩ := x
  exact ⟨X.keeps k, ⟨p, l, me, mg, mb, T.keeps k⟩, base, outer, ⟨B.stack, fun b o e => k _ _ (B.stays b o e), B.frames.of_keeps fun b o e _ => ⟨o, k b o e, rfl⟩⟩⟩
def callR (Q E : Value → Shared → Prop) (r : Result) (s' : Shared) : Prop := match r with | .ok (.ret v) => Q v s' | .ok _ => False | .error e => E e s'
def Con (w : World) (f : Addr) (d u : Nat) (Pre : Snap → Args → Prop) (Post : Snap → Args → Snap → Value → Prop) : Prop :=
  ∀ (dp un : Nat) (gd : Option (List Code)) (outer : List Env) (s : Shared) (args : Args) (g : Snap) (Q E : Value → Shared → Prop),
    dp + d < recursionLimit → un + u < cLine → St w (ar dp un gd outer) s.heap → InH g s.heap → Pre g args →
    (∀ r h' tk g', Ext s.heap g g' h' → Post g args g' r → Q r { s with heap := h', toks := tk }) →
    codeAny (model PR w) (ar dp un gd outer) (.call (.ref f) args) (callR Q E) s
theorem con_enter {w : World} {s : Shared} {dp un : Nat} {gd : Option (List Code)} {outer : List Env} {R : Result → Shared → Prop} {name qual : Str} {params : Arguments} {body : List Stmt} {scope : Scope} {dV kV doc pm cdv ct oc : Value} {an od : Option Addr} {osl : Array (Option Value)} {f : Addr} {args : Args} (binds : List (Str × Value))
    (S : St w (ar dp un gd outer) s.heap) (hroom : dp < recursionLimit)
    (ho : (KF w.params).lookup f = some ⟨oc, od, .func (fnOf name qual params body scope dV kV doc pm an cdv ct), osl⟩) (hcd : codeIn (KF w.params) cdv qual = true)
    (hbind : BindsTo s (fnOf name qual params body scope dV kV doc pm an cdv ct) args binds) (hloc : ∀ y ∈ binds, scope.names.lookup y.1 = some .local)
    (h : ∀ L h₁, Fr s.heap L h₁ (fun y => binds.reverse.lookup y) → News s.heap L h₁ [] →
      wpAny (model PR w) ((ar dp un gd outer).deeper (envOf qual scope L f cdv)) (execs body (envOf qual scope L f cdv))
        (fun fl s' => R (.ok (.ret (match fl with | .ret v => v | _ => .none))) s') (fun _ _ => False)
        { s with heap := h₁, toks := s.toks + binds.length })
    (hco : scope.isCoroutine = false) (hgen : scope.isGenerator = false) (hk : scope.kind = .function)
    (hcell : ∀ x ∈ scope.names, x.2 ≠ .cell) : codeAny (model PR w) (ar dp un gd outer) (.call (.ref f) args) R s := by
  obtain ⟨X, ⟨p, l, me, mg, mb, T⟩, _⟩ := S
  refine codeAny_call_def (fd := fnX name qual params body scope [] dV kV doc pm an cdv ct) (body := body) (binds := binds) hroom (X _ _ ho) rfl T.nolimit (codeRec_of X hcd) rfl hbind hcell hloc (fun h₁ hns hk₁ => ?_) hco hgen hk
  exact wpAny_mono (h s.heap.objs.size h₁ ⟨hns, hk₁, Nat.le_refl _⟩ News.nil) (fun fl s' hl => hl) (fun _ _ x => x.elim)
theorem con_enterC {w : World} {s : Shared} {dp un : Nat} {gd : Option (List Code)} {outer : List Env} {R : Result → Shared → Prop} {name qual : Str} {params : Arguments} {body : List Stmt} {scope : Scope} {dV kV doc pm cdv ct oc : Value} {an od : Option Addr} {osl : Array (Option Value)} {f : Addr} {args : Args} (binds : List (Str × Value))
    (S : St w (ar dp un gd outer) s.heap) (hroom : dp < recursionLimit)
    (ho : (KF w.params).lookup f = some ⟨oc, od, .func (fnOf name qual params body scope dV kV doc pm an cdv ct), osl⟩) (hcd : codeIn (KF w.params) cdv qual = true)
    (hbind : BindsTo s (fnOf name qual params body scope dV kV doc pm an cdv ct) args binds) (hkind : (binds.all fun y => scope.names.lookup y.1 == some .local || scope.names.lookup y.1 == some .cell) = true)
    (hnd : ((cellsFrom 0 scope.names []).map (·.1)).Nodup)
    (h : ∀ L h₁ tk cells, Fr s.heap L h₁ (bindL (envOfC qual scope L f cdv).kindOf binds fun _ => none) → News s.heap L h₁ cells →
      CellsAre (bindC (envOfC qual scope L f cdv).kindOf binds fun _ => none) (cellsFrom (L + 1) scope.names []) cells →
      wpAny (model PR w) ((ar dp un gd outer).deeper (envOfC qual scope L f cdv)) (execs body (envOfC qual scope L f cdv))
        (fun fl s' => R (.ok (.ret (match fl with | .ret v => v | _ => .none))) s') (fun _ _ => False)
        { s with heap := h₁, toks := tk })
    (hco : scope.isCoroutine = false) (hgen : scope.isGenerator = false) (hk : scope.kind = .function) : codeAny (model PR w) (ar dp un gd outer) (.call (.ref f) args) R s := by
  obtain ⟨X, ⟨p, l, me, mg, mb, T⟩, _⟩ := S
  refine codeAny_call_function hroom (X _ _ ho) rfl hco hgen rfl (codeRec_of X hcd) (hbind _ _ _ _ ?_)
  refine wpAny_newFunctionEnv_cells hk (kindsX hkind _) fun env' he s' x => ?_
  subst he
  refine ⟨T.nolimit.keeps x.toInCall.keep, codeAny_func ?_⟩
  obtain ⟨h₁, tk, rfl, _⟩ := x.done
  have hk₁ := x.toInCall.keep
  obtain ⟨cells, NC, Y⟩ := Cl.news (h₀ := s.heap) (Nat.le_refl _) fun n c hm => ⟨x.cell n c (lookup_of_mem_nodup (cellsFrom_names scope.names 0 (s.heap.objs.size + 1) [] [] rfl ▸ hnd) hm), x.above n c hm⟩
  exact wpAny_mono (h s.heap.objs.size h₁ tk cells ⟨x.toInCall.ns, hk₁, Nat.le_refl _⟩ NC Y) (fun fl s' hl => hl) (fun _ _ x => x.elim)
/-- the ledger's objects laid into a view -/
def Snap.puts (g : Snap) (l : List (Addr × Obj)) : Snap := fun b => match l.lookup b with | some o => some o | none => g b
theorem lookup_mem {l : List (Addr × Obj)} {b : Addr} {o : Obj} (e : l.lookup b = some o) : (b, o) ∈ l := by
  induction l with
  | nil => cases e
  | cons p r ih =>
    obtain ⟨a, o'⟩ := p
    simp only [List.lookup] at e
    split at e
    · rename_i q; cases e; rw [beq_iff_eq.mp q]; exact .head _
    · exact .tail _ (ih e)
theorem lookup_of_mem {l : List (Addr × Obj)} {b : Addr} {o : Obj} (e : (b, o) ∈ l) : ∃ o', l.lookup b = some o' := by
  induction l with
  | nil => cases e
  | cons p r ih =>
    obtain ⟨a, o'⟩ := p
    simp only [List.lookup]
    split
    · exact ⟨_, rfl⟩
    · rename_i q
      rcases List.mem_cons.mp e with z | z
      · cases z; simp at q
      · exact ih z
theorem Ext.puts {h h' : Heap} {g : Snap} {l : List (Addr × Obj)} (hg : InH g h) (k : Grow h h') (hl : ∀ p ∈ l, h'.get? p.1 = some p.2 ∧ h.get? p.1 = none) : Ext h g (g.puts l) h' := by
  refine ⟨k, fun b o e => ?_, fun b o e => ?_, fun b o e => ?_⟩
  · unfold Snap.puts
    split
    · rename_i o' q
      have := (hl _ (lookup_mem q)).2
      rw [hg b o e] at this; cases this
    · exact e
  · unfold Snap.puts at e
    split at e
    · rename_i o' q; cases e; exact (hl _ (lookup_mem q)).1
    · exact k b o (hg b o e)
  · unfold Snap.puts at e
    split at e
    · rename_i o' q; exact .inr (hl _ (lookup_mem q)).2
    · exact .inl e
theorem Snap.puts_get {h' : Heap} {g : Snap} {l : List (Addr × Obj)} (hl : ∀ p ∈ l, h'.get? p.1 = some p.2) {a : Addr} {o : Obj} (m : (a, o) ∈ l) : g.puts l a = some o := by
  obtain ⟨o', e⟩ := lookup_of_mem m
  have q := hl _ (lookup_mem e)
  have r := hl _ m
  dsimp only at q r
  rw [r] at q; cases q
  unfold Snap.puts
  rw [e]
theorem Ext.news {base h : Heap} {L : Addr} {m : Str → Option Value} {g : Snap} {news : List (Addr × Obj)} (hg : InH g base) (F : Fr base L h m) (N : News base L h news) : Ext base g (g.puts news) h := .puts hg F.keep fun p hp => ⟨(N p hp).1, (N p hp).2.2⟩
theorem snap_of {base h : Heap} {L : Addr} {g : Snap} {news : List (Addr × Obj)} (N : News base L h news) {a : Addr} {o : Obj} (m : (a, o) ∈ news) : g.puts news a = some o := Snap.puts_get (fun p hp => (N p hp).1) m
abbrev both1 (_ : OpenLaw) (_ : Params → Frag) : Prop := True
theorem InstAt.up {h h' : Heap} {x C : Addr} {ox : Obj} {od : Option Obj} (I : InstAt h x ox C od) (k : Grow h h') : InstAt h' x ox C od := by
  refine ⟨k _ _ I.at_, I.cls, I.no, ?_⟩
  have := I.dict
  revert this
  cases ox.dict <;> cases od <;> first | exact id | exact k _ _
/-- an object of a class of the text, its dict written out -/
def IsObj (g : Snap) (x C : Addr) (es : List DictEntry) : Prop := ∃ dx n, g x = some (instObj C dx) ∧ g dx = some (dictOf es n)
theorem IsObj.up {g g' : Snap} {x C : Addr} {es : List DictEntry} (i : IsObj g x C es) (k : Sle g g') : IsObj g' x C es := let ⟨dx, n, a, b⟩ := i; ⟨dx, n, k _ _ a, k _ _ b⟩
theorem IsObj.inst {g : Snap} {h : Heap} {x C : Addr} {es : List DictEntry} (i : IsObj g x C es) (k : InH g h) : ∃ dx n, InstAt h x (instObj C dx) C (some (dictOf es n)) :=
  let ⟨dx, n, a, b⟩ := i; ⟨dx, n, k _ _ a, rfl, rfl, k _ _ b⟩
theorem St.deep {w : World} {A : Around} {h₀ h : Heap} {L : Addr} {m : Str → Option Value} {env : Env} (S : St w A h₀) (F : Fr h₀ L h m) (hf : env.frame = some L) (hk : env.scope.kind = .function) : St w (A.deeper env) h := by
  obtain ⟨X, ⟨p, l, me, mg, mb, T⟩, base, outer, B⟩ := S
  exact ⟨X.keeps F.keep, ⟨p, l, me, mg, mb, T.keeps F.keep⟩, base, _, pushX B F hf hk⟩
section
variable {w : World} {f : Addr} {d u : Nat} {Pre : Snap → Args → Prop} {Post : Snap → Args → Snap → Value → Prop} {dp un : Nat} {gd : Option (List Code)} {outer : List Env} {s : Shared} {g : Snap} {Q E : Value → Shared → Prop} {pos : List Value} {kw : List (Str × Value)}
theorem Con.ucode (C : Con w f d u Pre Post) (hd : dp + d < recursionLimit) (hu : un + u < cLine) (S : St w (ar dp un gd outer) s.heap) (hg : InH g s.heap) (pre : Pre g ⟨pos, kw⟩)
    (h : ∀ r h' tk g', Ext s.heap g g' h' → Post g ⟨pos, kw⟩ g' r → Q r { s with heap := h', toks := tk }) :
    codeAny (model PR w) (ar dp un gd outer) (.call (.ref f) ⟨pos, kw⟩) (fun r s' => match r with | .ok (.ret v) => Q v s' | .ok _ => False | .error e => E e s') s :=
  codeAny_mono (C dp un gd outer s ⟨pos, kw⟩ g Q E hd hu S hg pre h) fun r s' z => by
    rcases r with e | (_ | _ | _ | _) <;> exact z
theorem Con.ucall (C : Con w f d u Pre Post) (hd : dp + d < recursionLimit) (hu : un + u < cLine) (S : St w (ar dp un gd outer) s.heap) (hg : InH g s.heap) (pre : Pre g ⟨pos, kw⟩)
    (h : ∀ r h' tk g', Ext s.heap g g' h' → Post g ⟨pos, kw⟩ g' r → Q r { s with heap := h', toks := tk }) :
    wpAny (model PR w) (ar dp un gd outer) (call (.ref f) pos kw) Q E s := wpAny_call (C.ucode hd hu S hg pre h)
theorem Con.meth {q : Addr} {self : Value} (C : Con w f d u Pre Post) (hd : dp + d < recursionLimit) (hu : un + u < cLine) (S : St w (ar dp un gd outer) s.heap) (hg : InH g s.heap) (hq : s.heap.get? q = some (methodObj (.ref f) self)) (pre : Pre g ⟨self :: pos, kw⟩)
    (h : ∀ r h' tk g', Ext s.heap g g' h' → Post g ⟨self :: pos, kw⟩ g' r → Q r { s with heap := h', toks := tk }) :
    wpAny (model PR w) (ar dp un gd outer) (call (.ref q) pos kw) Q E s := wpAny_call (method_call hq (C.ucode hd hu S hg pre h))
variable {base : Heap} {L : Addr} {m : Str → Option Value} {env : Env}
/-- a call out of a def's own frame -/
theorem Con.fcall (C : Con w f d u Pre Post) (S : St w (ar dp un gd outer) base) (F : Fr base L s.heap m) (hf : env.frame = some L) (hk : env.scope.kind = .function) (hd : dp + 1 + d < recursionLimit) (hu : un + 3 + u < cLine) (hg : InH g s.heap) (pre : Pre g ⟨pos, kw⟩)
    (h : ∀ r h' tk g', Ext s.heap g g' h' → Fr base L h' m → (∀ {news}, News base L s.heap news → News base L h' news) → Post g ⟨pos, kw⟩ g' r → Q r { s with heap := h', toks := tk }) :
    wpAny (model PR w) ((ar dp un gd outer).deeper env) (call (.ref f) pos kw) Q E s :=
  C.ucall (dp := dp + 1) (un := un + 3) (gd := gd) (outer := env :: outer) hd hu (S.deep F hf hk) hg pre fun r h' tk g' x p => h r h' tk g' x (F.keeps x.grow) (fun N => N.grown x.grow) p
theorem Con.fmeth {q : Addr} {self : Value} (C : Con w f d u Pre Post) (S : St w (ar dp un gd outer) base) (F : Fr base L s.heap m) (hf : env.frame = some L) (hk : env.scope.kind = .function) (hd : dp + 1 + d < recursionLimit) (hu : un + 3 + u < cLine) (hg : InH g s.heap)
    (hq : s.heap.get? q = some (methodObj (.ref f) self)) (pre : Pre g ⟨self :: pos, kw⟩)
    (h : ∀ r h' tk g', Ext s.heap g g' h' → Fr base L h' m → (∀ {news}, News base L s.heap news → News base L h' news) → Post g ⟨self :: pos, kw⟩ g' r → Q r { s with heap := h', toks := tk }) :
    wpAny (model PR w) ((ar dp un gd outer).deeper env) (call (.ref q) pos kw) Q E s :=
  C.meth (dp := dp + 1) (un := un + 3) (gd := gd) (outer := env :: outer) hd hu (S.deep F hf hk) hg hq pre fun r h' tk g' x p => h r h' tk g' x (F.keeps x.grow) (fun N => N.grown x.grow) p
theorem under_make {dp un : Nat} {gd : Option (List Code)} {outer : List Env} {C : Addr} {rest : List Value} {kw : List (Str × Value)} :
    (ar dp un gd outer).under (.builtin "type.__call__" ⟨.ref C :: rest, kw⟩) = ar (dp + 1) (un + 1) gd outer := by kernel_rfl
theorem con_make {w : World} {s : Shared} {dp un : Nat} {gd : Option (List Code)} {outer : List Env} {R : Result → Shared → Prop} {name qual : Str} {params : Arguments} {body : List Stmt} {scope : Scope} {dV kV doc pm cdv ct oc : Value} {an od : Option Addr} {osl : Array (Option Value)} {C fI : Addr} {pos : List Value} {kw : List (Str × Value)} (binds : Addr → List (Str × Value))
    (S : St w (ar dp un gd outer) s.heap) (hroom : dp + 1 < recursionLimit)
    (hm : makesIn (KF w.params) C = true) (hi : findIn (KF w.params) (.ref C) "__init__" = some (some (.ref fI))) (hf : isFn (KF w.params) (.ref fI) = true)
    (ho : (KF w.params).lookup fI = some ⟨oc, od, .func (fnOf name qual params body scope dV kV doc pm an cdv ct), osl⟩) (hcd : codeIn (KF w.params) cdv qual = true)
    (hbind : ∀ x (s' : Shared), Grow s.heap s'.heap → BindsTo s' (fnOf name qual params body scope dV kV doc pm an cdv ct) ⟨.ref x :: pos, kw⟩ (binds x)) (hloc : ∀ x, ∀ y ∈ binds x, scope.names.lookup y.1 = some .local)
    (h : ∀ x dx L h₁ tk, Fr s.heap L h₁ (fun y => (binds x).reverse.lookup y) → News s.heap L h₁ [(x, instObj C dx), (dx, dictOf [] 0)] → @LT.lt Nat _ dx x →
      wpAny (model PR w) ((ar (dp + 1) (un + 1) gd outer).deeper (envOf qual scope L fI cdv)) (execs body (envOf qual scope L fI cdv))
        (fun fl s' => (match fl with | .ret v => v | _ => .none) = .none ∧ R (.ok (.ret (.ref x))) s') (fun _ _ => False)
        { s with heap := h₁, toks := tk })
    (hco : scope.isCoroutine = false) (hgen : scope.isGenerator = false) (hk : scope.kind = .function)
    (hcell : ∀ x ∈ scope.names, x.2 ≠ .cell) : codeAny (model PR w) (ar dp un gd outer) (.call (.ref C) ⟨pos, kw⟩) R s := by
  obtain ⟨X, ⟨p, l, me, mg, mb, T⟩, _⟩ := S
  obtain ⟨hh, gg, dd, tt, os⟩ := s
  dsimp only at X T hbind h
  have k : Grow hh ((hh.push emptyDict).push (instObj C hh.objs.size)) := fun b o e => Heap.get?_push_of_some _ (Heap.get?_push_of_some _ e)
  refine make_core (makes_of X hm) (looks_findIn X hi) (fun self => bind_fn X self (beq_iff_eq.mp hf)) (.inl rfl) ?_
  rw [under_make]
  refine codeAny_call_def (fd := fnX name qual params body scope [] dV kV doc pm an cdv ct) (body := body) (binds := binds (hh.objs.size + 1)) hroom (k _ _ (X _ _ ho)) rfl (T.nolimit.keeps k) (codeRec_of (X.keeps k) hcd) rfl (hbind _ _ k) hcell (hloc _) (fun h₁ hns hk₁ => ?_) hco hgen hk
  have s2 : ((hh.push emptyDict).push (instObj C hh.objs.size)).objs.size = hh.objs.size + 2 := by rw [Heap.size_push, Heap.size_push]
  refine wpAny_mono (h (hh.objs.size + 1) hh.objs.size _ h₁ _ ⟨hns, fun b o e => hk₁ b o (k b o e), by rw [s2]; omega⟩ (fun p hp => ?_) (Nat.lt_succ_self _)) (fun fl s' hl => hl) (fun _ _ x => x.elim)
  have fresh : ∀ a, hh.objs.size ≤ a → hh.get? a = none := fun a ha => by
    cases e : hh.get? a with
    | none => rfl
    | some o' => exact absurd (Heap.lt_size e) (Nat.not_lt.mpr ha)
  rcases List.mem_cons.mp hp with rfl | hp
  · refine ⟨hk₁ _ _ (by have := Heap.get?_push_size (h := hh.push emptyDict) (o := instObj C hh.objs.size) rfl; rwa [Heap.size_push] at this), ?_, fresh _ (Nat.le_succ _)⟩
    show hh.objs.size + 1 ≠ _
    rw [s2]; omega
  · rcases List.mem_cons.mp hp with rfl | hp
    · refine ⟨hk₁ _ _ (Heap.get?_push_of_some _ (Heap.get?_push_size _ rfl)), ?_, fresh _ (Nat.le_refl _)⟩
      show hh.objs.size ≠ _
      rw [s2]; omega
    · cases hp
/-- the same where __init__ takes *rest -/
theorem con_makeS {w : World} {s : Shared} {dp un : Nat} {gd : Option (List Code)} {outer : List Env} {R : Result → Shared → Prop} {name qual : Str} {params : Arguments} {body : List Stmt} {scope : Scope} {dV kV doc pm cdv ct oc : Value} {an od : Option Addr} {osl : Array (Option Value)} {C fI : Addr} {pos : List Value} {kw : List (Str × Value)} (vs : List Value) (binds : Addr → Value → List (Str × Value))
    (S : St w (ar dp un gd outer) s.heap) (hroom : dp + 1 < recursionLimit)
    (hm : makesIn (KF w.params) C = true) (hi : findIn (KF w.params) (.ref C) "__init__" = some (some (.ref fI))) (hf : isFn (KF w.params) (.ref fI) = true)
    (ho : (KF w.params).lookup fI = some ⟨oc, od, .func (fnOf name qual params body scope dV kV doc pm an cdv ct), osl⟩) (hcd : codeIn (KF w.params) cdv qual = true)
    (hbind : ∀ x, bindArgs (fnOf name qual params body scope dV kV doc pm an cdv ct) ⟨.ref x :: pos, kw⟩ = (newTuple vs >>= fun t => pure (binds x t))) (hsz : vs.length ≤ sizeLine) (hloc : ∀ x t, ∀ y ∈ binds x t, scope.names.lookup y.1 = some .local)
    (h : ∀ x dx D L h₁ tk, Fr s.heap L h₁ (fun y => (binds x (.ref D)).reverse.lookup y) → News s.heap L h₁ [(x, instObj C dx), (dx, dictOf [] 0), (D, { cls := .type "tuple", data := .seq vs.toArray })] → @LT.lt Nat _ dx x → @LT.lt Nat _ x D →
      wpAny (model PR w) ((ar (dp + 1) (un + 1) gd outer).deeper (envOf qual scope L fI cdv)) (execs body (envOf qual scope L fI cdv))
        (fun fl s' => (match fl with | .ret v => v | _ => .none) = .none ∧ R (.ok (.ret (.ref x))) s') (fun _ _ => False)
        { s with heap := h₁, toks := tk })
    (hco : scope.isCoroutine = false) (hgen : scope.isGenerator = false) (hk : scope.kind = .function)
    (hcell : ∀ x ∈ scope.names, x.2 ≠ .cell) : codeAny (model PR w) (ar dp un gd outer) (.call (.ref C) ⟨pos, kw⟩) R s := by
  obtain ⟨X, ⟨p, l, me, mg, mb, T⟩, _⟩ := S
  obtain ⟨hh, gg, dd, tt, os⟩ := s
  dsimp only at X T h
  have k : Grow hh ((hh.push emptyDict).push (instObj C hh.objs.size)) := fun b o e => Heap.get?_push_of_some _ (Heap.get?_push_of_some _ e)
  refine make_core (makes_of X hm) (looks_findIn X hi) (fun self => bind_fn X self (beq_iff_eq.mp hf)) (.inl rfl) ?_
  rw [under_make]
  refine codeAny_call_function (fd := fnOf name qual params body scope dV kV doc pm an cdv ct) (body := body) hroom (k _ _ (X _ _ ho)) rfl hco hgen rfl (codeRec_of (X.keeps k) hcd) ?_
  rw [hbind]
  refine wpAny_bind (wpAny_newObj_type (wpAny_pure ?_) (by show vs.toArray.size ≤ sizeLine; rw [List.size_toArray]; exact hsz))
  have s2 : ((hh.push emptyDict).push (instObj C hh.objs.size)).objs.size = hh.objs.size + 2 := by rw [Heap.size_push, Heap.size_push]
  refine wpAny_newFunctionEnv hcell (hloc _ _) (fun h₁ hns hsb => ⟨?_, codeAny_func ?_⟩) hk
  · refine (T.nolimit.keeps ?_).fresh _ hsb
    exact fun b o e => Heap.get?_push_of_some _ (k b o e)
  have hk₁ : ∀ b o, (((hh.push emptyDict).push (instObj C hh.objs.size)).push { cls := .type "tuple", data := .seq vs.toArray }).get? b = some o → h₁.get? b = some o := fun b o e => hsb.extBut b o (Nat.ne_of_lt (Heap.lt_size e)) (Heap.get?_push_of_some _ e)
  have s3 : (((hh.push emptyDict).push (instObj C hh.objs.size)).push { cls := .type "tuple", data := .seq vs.toArray }).objs.size = hh.objs.size + 3 := by rw [Heap.size_push, s2]
  refine wpAny_mono (h (hh.objs.size + 1) hh.objs.size _ _ h₁ _ ⟨hns, fun b o e => hk₁ b o (Heap.get?_push_of_some _ (k b o e)), by show hh.objs.size ≤ (((hh.push emptyDict).push (instObj C hh.objs.size)).push _).objs.size; rw [s3]; omega⟩ (fun p hp => ?_) (Nat.lt_succ_self _) (by show hh.objs.size + 1 < ((hh.push emptyDict).push (instObj C hh.objs.size)).objs.size; rw [s2]; omega)) (fun fl s' hl => hl) (fun _ _ x => x.elim)
  have fresh : ∀ a, hh.objs.size ≤ a → hh.get? a = none := fun a ha => by
    cases e : hh.get? a with
    | none => rfl
    | some o' => exact absurd (Heap.lt_size e) (Nat.not_lt.mpr ha)
  rcases List.mem_cons.mp hp with rfl | hp
  · refine ⟨hk₁ _ _ (Heap.get?_push_of_some _ (by have := Heap.get?_push_size (h := hh.push emptyDict) (o := instObj C hh.objs.size) rfl; rwa [Heap.size_push] at this)), ?_, fresh _ (Nat.le_succ _)⟩
    show hh.objs.size + 1 ≠ (((hh.push emptyDict).push (instObj C hh.objs.size)).push _).objs.size
    rw [s3]; omega
  · rcases List.mem_cons.mp hp with rfl | hp
    · refine ⟨hk₁ _ _ (Heap.get?_push_of_some _ (Heap.get?_push_of_some _ (Heap.get?_push_size _ rfl))), ?_, fresh _ (Nat.le_refl _)⟩
      show hh.objs.size ≠ (((hh.push emptyDict).push (instObj C hh.objs.size)).push _).objs.size
      rw [s3]; omega
    · rcases List.mem_cons.mp hp with rfl | hp
      · refine ⟨hk₁ _ _ (Heap.get?_push_size _ rfl), ?_, fresh _ (by show hh.objs.size ≤ ((hh.push emptyDict).push (instObj C hh.objs.size)).objs.size; rw [s2]; omega)⟩
        show ((hh.push emptyDict).push (instObj C hh.objs.size)).objs.size ≠ (((hh.push emptyDict).push (instObj C hh.objs.size)).push _).objs.size
        rw [s3, s2]; omega
      · cases hp
/-- a class without an __init__ of its own -/
theorem con_make0 {w : World} {s : Shared} {dp un : Nat} {gd : Option (List Code)} {outer : List Env} {C : Addr} {g : Snap} {Q E : Value → Shared → Prop}
    (S : St w (ar dp un gd outer) s.heap) (hg : InH g s.heap) (hm : makesIn (KF w.params) C = true) (hi : findIn (KF w.params) (.ref C) "__init__" = some (some (.builtin "object.__init__")))
    (h : ∀ x h' g', Ext s.heap g g' h' → IsObj g' x C [] → Q (.ref x) { s with heap := h' }) :
    wpAny (model PR w) (ar dp un gd outer) (call (.ref C) [] []) Q E s := by
  obtain ⟨X, ⟨p, l, me, mg, mb, T⟩, _⟩ := S
  have fresh : ∀ a, s.heap.objs.size ≤ a → s.heap.get? a = none := fun a ha => by
    cases e : s.heap.get? a with
    | none => rfl
    | some o' => exact absurd (Heap.lt_size e) (Nat.not_lt.mpr ha)
  -- the globals' own table serves as the frame
  obtain ⟨hh, gg, dd, tt, os⟩ := s
  have Y := makes_of (M := model PR w) X hm
  have e1 : ((hh.push emptyDict).push (instObj C hh.objs.size)).get? (hh.objs.size + 1) = some (instObj C hh.objs.size) := by
    have := Heap.get?_push_size (h := hh.push emptyDict) (o := instObj C hh.objs.size) rfl
    rwa [Heap.size_push] at this
  have e2 : ((hh.push emptyDict).push (instObj C hh.objs.size)).get? hh.objs.size = some emptyDict := Heap.get?_push_of_some _ (Heap.get?_push_size _ rfl)
  have k : Grow hh ((hh.push emptyDict).push (instObj C hh.objs.size)) := fun b o e => Heap.get?_push_of_some _ (Heap.get?_push_of_some _ e)
  refine wpAny_call (make_core Y (looks_findIn X hi) (fun self => Looks.of_pure (oi_bind self)) (.inr ⟨rfl, rfl⟩) ?_)
  have t1 : Looks (model PR w) ((hh.push emptyDict).push (instObj C hh.objs.size)) (typeOf (.ref (hh.objs.size + 1))) (.ref C) := (Looks.ld e1).andThen .now
  have t2 : Looks (model PR w) ((hh.push emptyDict).push (instObj C hh.objs.size)) (isInstance (.ref (hh.objs.size + 1)) (.type "object")) true := t1.andThen (Y.top.keeps k)
  have g1 : g hh.objs.size = none := none_of_inH hg (fresh _ (Nat.le_refl _))
  have x1 : Ext hh g (g.put hh.objs.size emptyDict) ((hh.push emptyDict).push (instObj C hh.objs.size)) := (Ext.of_grow hg k).put g1 (fresh _ (Nat.le_refl _)) e2
  have g2 : (g.put hh.objs.size emptyDict) (hh.objs.size + 1) = none := by rw [Snap.put_ne (Nat.succ_ne_self _)]; exact none_of_inH hg (fresh _ (Nat.le_succ _))
  have x2 := x1.put g2 (fresh _ (Nat.le_succ _)) e1
  have z := h (hh.objs.size + 1) _ _ x2 ⟨hh.objs.size, 0, Snap.put_self, by rw [Snap.put_ne (Ne.symm (Nat.succ_ne_self _))]; exact Snap.put_self⟩
  refine codeAny_call_builtin oi_plain entry_oi (@check_slot (model PR w) _ _ _ "object.__init__" "object" "__init__" (.ref (hh.objs.size + 1)) [] [] _ oi_kind oi_split t2 (oi_args (.ref (hh.objs.size + 1))) ?_)
  rw [oi_run]
  exact wpAny_pure (And.intro rfl z)
end
end
end Mine
end
section
open PySem PySem.W PySem.Calls PyProof.Rows PySem.Spec
set_option Elab.async false
set_option maxRecDepth 100000
set_option maxHeartbeats 4000000
namespace Mine
noncomputable section
theorem fill0 : both1 PySem.Challenge.rw_ae5011_01 KF := by
  k_fill
  trivial
inductive Tree where
  | node (cs : List Tree)
abbrev Tree.cs : Tree → List Tree | .node cs => cs
abbrev Item := Option Int × Tree
inductive IsTree (g : Snap) : Value → Tree → Prop
  | node {a : Addr} {n : Nat} {vs : List Value} {ts : List Tree} : g a = some (listOf vs.toArray n) → vs.length = ts.length → vs.length ≤ sizeLine → (∀ (i : Nat) v t, vs[i]? = some v → ts[i]? = some t → IsTree g v t) → IsTree g (.ref a) (.node ts)
theorem IsTree.up {g g' : Snap} (k : Sle g g') {v : Value} {t : Tree} (h : IsTree g v t) : IsTree g' v t := by
  induction h with
  | node e l z _ ih => exact .node (k _ _ e) l z ih
abbrev ent (w : World) (k : Str) (t : Tok) (v : Value) : DictEntry := ⟨PyData.keyHash w.params k, .str k t, v⟩
/-- an Index of one place -/
def IsIdx (w : World) (g : Snap) (p : Value) (i : Int) : Prop := ∃ x t tup n tk, p = .ref x ∧ IsObj g x 823 [ent w "indices" t (.ref tup)] ∧ g tup = some { cls := .type "tuple", data := .seq #[.int i tk] n }
theorem IsIdx.up {w : World} {g g' : Snap} (k : Sle g g') {p : Value} {i : Int} (h : IsIdx w g p i) : IsIdx w g' p i :=
  let ⟨x, t, tup, n, tk, a, b, c⟩ := h; ⟨x, t, tup, n, tk, a, b.up k, k _ _ c⟩
/-- a datum over a tree -/
def IsDat (w : World) (g : Snap) (v : Value) (it : Item) : Prop :=
  ∃ x val p c t1 t2 t3, v = .ref x ∧ IsObj g x 203 [ent w "_value" t1 val, ent w "path" t2 p, ent w "context" t3 c] ∧ IsTree g val it.2 ∧ ∀ i, it.1 = some i → IsIdx w g p i
theorem IsDat.up {w : World} {g g' : Snap} (k : Sle g g') {v : Value} {it : Item} (h : IsDat w g v it) : IsDat w g' v it :=
  let ⟨x, val, p, c, t1, t2, t3, a, b, d, e⟩ := h; ⟨x, val, p, c, t1, t2, t3, a, b.up k, d.up k, fun i q => (e i q).up k⟩
local macro_rules | `(tactic| k_inst) => `(tactic| first | with_reducible assumption | exact InstAt.up (by with_reducible assumption) (Fr.keep (by with_reducible assumption)))
local macro_rules | `(tactic| tb_start) => `(tactic| ((case k1 => first | omega | (simp only [recursionLimit] at *; omega)); (case k2 => k_is); (case k3 => k_is); (case k4 => exact BindsTo.of_eq rfl); (case k5 => exact locs rfl); (case a => exact rfl); (case b => exact rfl); (case c => exact rfl); (case e => decide)))
/-- a datum's object -/
abbrev DatObj (w : World) (g : Snap) (x : Addr) (val p c : Value) : Prop := ∃ t1 t2 t3, IsObj g x 203 [ent w "_value" t1 val, ent w "path" t2 p, ent w "context" t3 c]
theorem value_con (w : World) : Con w 170 1 0 (fun g a => ∃ x val p c, a = ⟨[.ref x], []⟩ ∧ DatObj w g x (.ref val) p c)
    (fun g a _ r => ∀ x val p c, a = ⟨[.ref x], []⟩ → DatObj w g x val p c → r = val) := by
  intro dp un gd outer s args g Q E hdp hu S hg ⟨x, val, p, c, e, t1, t2, t3, I⟩ hret
  subst e
  have I0 := I
  obtain ⟨dx, n, I⟩ := I.inst hg
  have S' := S
  obtain ⟨X, ⟨p, l, me, mg, mb, T⟩, base, outer', B⟩ := S'
  k_dflt (refine' con_enter [(Str.ofString "self", .ref x)] S ?k1 ?k2 ?k3 ?k4 ?k5 ?h ?a ?b ?c ?e)
  tb_start
  case h =>
    intro L h₁ F N
    k_steps
    refine hret _ _ _ g (.of_grow hg F.keep) ?_
    rintro x' val' p' c' e ⟨t1', t2', t3', I'⟩
    cases e
    obtain ⟨dx0, n0, a0, b0⟩ := I0
    obtain ⟨dx1, n1, a1, b1⟩ := I'
    rw [a0] at a1; cases a1
    rw [b0] at b1; cases b1
    rfl
/-- x.value of a datum -/
theorem val_attr {w : World} {dp un : Nat} {gd : Option (List Code)} {outer : List Env} {s : Shared} {g : Snap} {Q E : Value → Shared → Prop} {x val : Addr} {p c : Value} {expr : Bool}
    (S : St w (ar dp un gd outer) s.heap) (hdp : dp + 1 < recursionLimit) (hu : un + 1 < cLine) (hg : InH g s.heap) (I : DatObj w g x (.ref val) p c)
    (h : ∀ h' tk, Grow s.heap h' → Q (.ref val) { s with heap := h', toks := tk }) : wpAny (model PR w) (ar dp un gd outer) (getAttr (.ref x) (Str.ofString "value") expr) Q E s := by
  have I0 := I
  obtain ⟨t1, t2, t3, I⟩ := I
  obtain ⟨dx, n, I⟩ := I.inst hg
  have X := S.X
  have hp : plainGet (KF w.params) 203 (Str.ofString "value") = true := by k_dflt k_is
  have h1 : findIn (KF w.params) (.ref 203) (Str.ofString "value") = some (some (.ref 171)) := by k_dflt k_is
  have h2 : specialIn (KF w.params) (.ref 171) "__get__" = some (some (.builtin "property.__get__")) := by k_dflt k_is
  have h3 : takesIn (KF w.params) (.ref 171) = some true := by k_dflt k_is
  have h4 : hasDictIn (KF w.params) 203 = true := by k_dflt k_is
  have h5 : ∃ rest, recIn (KF w.params) 171 "property" = some (.ref 170 :: rest) := ⟨_, by k_dflt k_is⟩
  obtain ⟨rest, h5⟩ := h5
  refine get_bind X I (plainGet_of hp).1 (findObj_data (by obtain ⟨cd, hc, _⟩ := any_some h4; rw [hc]; rfl) h1 h2 h3) (plainGet_of hp).2 (wpAny_call (prop_get (s := { s with toks := s.toks + 1 }) X h5 ?_))
  refine (value_con w).ucode (dp := dp) (un := un + 1) (gd := gd) (outer := outer) (s := { s with toks := s.toks + 1 }) (Q := fun v s' => wpAny (model PR w) (ar dp un gd outer) (handedOut v) Q E s') (by omega) (by omega) ?_ hg ⟨x, val, p, c, rfl, I0⟩ ?_
  · obtain ⟨X, T, base, outer, B⟩ := S
    exact ⟨X, T, base, outer, ⟨B.stack, B.stays, B.frames⟩⟩
  · intro r h' tk g' x' p'
    have e := p' x _ p c rfl I0
    subst e
    exact handed_on rfl (h h' tk x'.grow)
theorem wrap_con (w : World) : Con w 152 1 10 (fun g a => ∃ d val p c, a = ⟨[.ref 203, .ref d], []⟩ ∧ DatObj w g d val p c) (fun g a g' r => a = ⟨[.ref 203, r], []⟩ ∧ g' = g) := by
  intro dp un gd outer s args g Q E hdp hu S hg ⟨d, val, p, c, e, t1, t2, t3, I⟩ hret
  subst e
  obtain ⟨dx, n, I⟩ := I.inst hg
  have S' := S
  obtain ⟨X, ⟨p, l, me, mg, mb, T⟩, base, outer', B⟩ := S'
  k_dflt (refine' con_enter [(Str.ofString "cls", .ref 203), (Str.ofString "data", .ref d)] S ?k1 ?k2 ?k3 ?k4 ?k5 ?h ?a ?b ?c ?e)
  tb_start
  case h =>
    intro L h₁ F N
    k_steps
    exact hret _ _ _ g (.of_grow hg F.keep) ⟨rfl, rfl⟩
/-- the list at a place -/
abbrev LstAt (g : Snap) (v : Value) (ys : List Value) : Prop := ∃ a n, v = .ref a ∧ g a = some (listOf ys.toArray n)
theorem thisfind_con (w : World) : Con w 282 2 20 (fun g a => ∃ t d val p c, a = ⟨[t, .ref d], []⟩ ∧ DatObj w g d val p c) (fun g a g' r => ∀ t d, a = ⟨[t, d], []⟩ → LstAt g' r [d]) := by
  intro dp un gd outer s args g Q E hdp hu S hg ⟨t, d, val, p, c, e, I0⟩ hret
  subst e
  have S' := S
  obtain ⟨X, ⟨p, l, me, mg, mb, T⟩, base, outer', B⟩ := S'
  k_dflt (refine' con_enter [(Str.ofString "self", t), (Str.ofString "datum", .ref d)] S ?k1 ?k2 ?k3 ?k4 ?k5 ?h ?a ?b ?c ?e)
  tb_start
  case h =>
    intro L h₁ F N
    k_steps
    rename News _ _ _ _ => N1
    rename Fr _ _ _ _ => F1
    refine (wrap_con w).fmeth S F1 rfl rfl (by omega) (by omega) (fun b o e => F1.keep b o (hg b o e)) (N1 _ (.head _)).1 ⟨d, val, _, c, rfl, I0⟩ ?_
    intro r h' tk g' x F2 N2 e
    obtain ⟨e, rfl⟩ := e
    cases e
    replace N2 := N2 N1
    clear N1 F1
    k_steps
    rename News _ _ _ _ => N3
    rename Fr _ _ _ _ => F3
    refine hret _ _ _ _ ((Ext.of_grow hg F3.keep).put (none_of_inH hg (N3 _ (.head _)).2.2) (N3 _ (.head _)).2.2 (N3 _ (.head _)).1) ?_
    intro t' d' e
    cases e
    exact ⟨_, _, rfl, Snap.put_self⟩
local macro_rules | `(tactic| tb_start) => `(tactic| ((case k1 => first | omega | (simp only [recursionLimit] at *; omega)); (case k2 => k_is); (case k3 => k_is); (case k4 => k_is); (case k5 => k_is); (case k6 => k_is); (case k7 => intro x; exact rfl); (case k8 => exact Nat.le_of_ble_eq_true rfl); (case k9 => intro x t; exact locs rfl); (case a => exact rfl); (case b => exact rfl); (case c => exact rfl); (case e => decide)))
theorem index_con (w : World) : Con w 823 2 20 (fun g a => ∃ i tk, a = ⟨[.int i tk], []⟩) (fun g a g' r => ∀ i tk, a = ⟨[.int i tk], []⟩ → IsIdx w g' r i) := by
  intro dp un gd outer s args g Q E hdp hu S hg ⟨i, tk, e⟩ hret
  subst e
  have S' := S
  obtain ⟨X, ⟨p, l, me, mg, mb, T⟩, base, outer', B⟩ := S'
  k_dflt (refine' con_makeS [.int i tk] (fun x t => [(Str.ofString "self", .ref x), (Str.ofString "indices", t)]) S ?k1 ?k2 ?k3 ?k4 ?k5 ?k6 ?k7 ?k8 ?k9 ?h ?a ?b ?c ?e)
  tb_start
  case h =>
    intro x dx D L h₁ tk' F N l1 l2
    k_steps
    rename News _ _ _ _ => N3
    rename Fr _ _ _ _ => F3
    refine hret _ _ _ _ (.news hg F3 N3) ?_
    intro i' tk' e
    cases e
    exact ⟨_, _, _, _, _, rfl, ⟨_, _, snap_of N3 (by k_mem), snap_of N3 (by k_mem)⟩, snap_of N3 (by k_mem)⟩
local macro_rules | `(tactic| tb_start) => `(tactic| ((case k1 => first | omega | (simp only [recursionLimit] at *; omega)); (case k2 => k_is); (case k3 => k_is); (case k4 => k_is); (case k5 => k_is); (case k6 => k_is); (case k7 => intro x s' k; first | exact BindsTo.of_eq rfl | exact binds_K (K := KF _) (St.X (by assumption) |>.keeps k) rfl (by k_is) rfl rfl rfl); (case k9 => intro x; exact locs rfl); (case a => exact rfl); (case b => exact rfl); (case c => exact rfl); (case e => decide)))
/-- what may stand as a datum's path here: an Index or Fields -/
abbrev PathObj (g : Snap) (p : Value) : Prop := ∃ y C es, p = .ref y ∧ (C = 823 ∨ C = 646) ∧ IsObj g y C es
theorem datum_con (w : World) : Con w 203 3 30 (fun g a => ∃ val p c d cv cp cc, a = ⟨[val], [(Str.ofString "path", p), (Str.ofString "context", c)]⟩ ∧ PathObj g p ∧ c = .ref d ∧ DatObj w g d cv cp cc)
    (fun g a g' r => ∀ val p c, a = ⟨[val], [(Str.ofString "path", p), (Str.ofString "context", c)]⟩ → ∃ x, r = .ref x ∧ DatObj w g' x val p c) := by
  intro dp un gd outer s args g Q E hdp hu S hg ⟨val, p, c, d, cv, cp, cc, e, ⟨y, C, es, ep, hC, IP⟩, ec, t1, t2, t3, ID⟩ hret
  subst e ep ec
  obtain ⟨dx, n, ID⟩ := ID.inst hg
  obtain ⟨px, pn, IP⟩ := IP.inst hg
  have S' := S
  obtain ⟨X, ⟨p, l, me, mg, mb, T⟩, base, outer', B⟩ := S'
  k_dflt (refine' con_make (fun x => [(Str.ofString "self", .ref x), (Str.ofString "value", val), (Str.ofString "path", .ref y), (Str.ofString "context", .ref d)]) S ?k1 ?k2 ?k3 ?k4 ?k5 ?k6 ?k7 ?k9 ?h ?a ?b ?c ?e)
  tb_start
  case h =>
    intro x dx' L h₁ tk' F N l1
    rcases hC with rfl | rfl
    all_goals
      k_steps
      rename News _ _ _ _ => N3
      rename Fr _ _ _ _ => F3
      refine hret _ _ _ _ (.news hg F3 N3) ?_
      intro val' p' c' e
      cases e
      exact ⟨_, rfl, _, _, _, _, _, snap_of N3 (by k_mem), snap_of N3 (by k_mem)⟩
/-- over the document itself: path and context by default -/
theorem datum0_con (w : World) : Con w 203 4 40 (fun g a => ∃ val, a = ⟨[val], []⟩) (fun g a g' r => ∀ val, a = ⟨[val], []⟩ → ∃ x dx n p t1 t2 t3, r = .ref x ∧ g' x = some (instObj 203 dx) ∧ g' dx = some (dictOf [ent w "_value" t1 val, ent w "path" t2 p, ent w "context" t3 .none] n) ∧ g x = none ∧ g dx = none) := by
  intro dp un gd outer s args g Q E hdp hu S hg ⟨val, e⟩ hret
  subst e
  have S' := S
  obtain ⟨X, ⟨p, l, me, mg, mb, T⟩, base, outer', B⟩ := S'
  k_dflt (refine' con_make (fun x => [(Str.ofString "self", .ref x), (Str.ofString "value", val), (Str.ofString "path", .none), (Str.ofString "context", .none)]) S ?k1 ?k2 ?k3 ?k4 ?k5 ?k6 ?k7 ?k9 ?h ?a ?b ?c ?e)
  tb_start
  case h =>
    intro x dx' L h₁ tk' F N l1
    k_steps
    rename News _ _ _ _ => N3
    rename Fr _ _ _ _ => F3
    refine hret _ _ _ _ (.news hg F3 N3) ?_
    intro val' e
    cases e
    exact ⟨x, dx', _, _, _, _, _, rfl, snap_of N3 (by k_mem), snap_of N3 (by k_mem), none_of_inH hg (N3 (x, _) (by k_mem)).2.2, none_of_inH hg (N3 (dx', _) (by k_mem)).2.2⟩
end
end Mine
end
section
open PySem PySem.W PySem.Calls PyProof.Rows PySem.Spec
set_option Elab.async false
set_option maxRecDepth 100000
set_option maxHeartbeats 4000000
namespace Mine
noncomputable section
/-- the frame of a comprehension's turn, seen from where the def stood -/
theorem fr_comp {h₀ h h₂ H : Heap} {L C : Addr} {m mC : Str → Option Value} {wr : List Addr} (F : Fr h₀ L h m) (k : Grow h h₂) (hC : h₂.objs.size ≤ C) (hw : ∀ b ∈ wr, h.get? b = none) (hH : ∀ b o, b ∉ wr → h₂.get? b = some o → H.get? b = some o) (n : H.Ns C mC) :
    Fr h₀ C H mC ∧ Grow h H := by
  have g : Grow h H := fun b o e => hH b o (fun q => by rw [hw b q] at e; cases e) (k b o e)
  refine ⟨⟨n, fun b o e => g b o (F.keep b o e), ?_⟩, g⟩
  obtain ⟨o, _, _, e, _⟩ := F.ns
  have := Heap.lt_size (k _ _ e)
  have := F.above
  have a : @LE.le Nat _ h₀.objs.size L := F.above
  have b : @LT.lt Nat _ L h₂.objs.size := Heap.lt_size (k _ _ e)
  have c : @LE.le Nat _ h₂.objs.size C := hC
  show @LE.le Nat _ _ _
  omega
theorem news_comp {h₀ h h₂ H : Heap} {L C : Addr} {news : List (Addr × Obj)} (N : News h₀ L h news) (k : Grow h h₂) (g : Grow h H) (hC : h₂.objs.size ≤ C) : News h₀ C H news := fun p hp => by
  refine ⟨g _ _ (N p hp).1, ?_, (N p hp).2.2⟩
  have b : @LT.lt Nat _ p.1 h₂.objs.size := Heap.lt_size (k _ _ (N p hp).1)
  have c : @LE.le Nat _ h₂.objs.size C := hC
  exact Nat.ne_of_lt (Nat.lt_of_lt_of_le b c)
section
variable {M : Model} {A : Around} {E : Value → Shared → Prop} {s : Shared} {h₀ : Heap} {C : Addr} {m : Str → Option Value} {scope : Scope} {cl : List (Str × Addr)} {env : Env} {x : Str} {pos : Pos} {v : Value} {Q : Value → Shared → Prop}
theorem nm_local (F : Fr h₀ C s.heap m) (hx : m x = some v) (h : Q v s)
    (hk : (compEnvC scope cl C env).scope.kind = .function) (hl : (compEnvC scope cl C env).kindOf x = some .local) (hd : (x == ("__debug__" : Str)) = false := by decide) :
    wpAny M A (eval (.Name x pos) (compEnvC scope cl C env)) Q E s := ldVarK F.ns hx h hk hl hd
end
theorem kitAt_F {h₀ h : Heap} {L a : Addr} {m : Str → Option Value} {o : Obj} {T : String} (F : Fr h₀ L h m) (e : h₀.get? a = some o) (hc : o.cls = .type T) : KitAt a T h := ⟨o, F.keep _ _ e, hc⟩
/-- what stands when a comprehension has made its list -/
theorem ext_fin {h₀ h₂ h' : Heap} {g g' : Snap} {D : Addr} {ys : List Value} (k : Grow h₀ h₂) (k' : Grow h₀ h') (hle : Sle g g') (hin : InH g' h') (hnew : New h₂ g g') (gD : g' D = none) (hD : h₂.get? D = none) (hl : h'.PlainList D ys.toArray) :
    ∃ g'', Ext h₀ g g'' h' ∧ Sle g' g'' ∧ LstAt g'' (.ref D) ys := by
  obtain ⟨n, e⟩ := hl
  have x : Ext h₀ g g' h' := ⟨k', hle, hin, fun b o q => (hnew b o q).imp id (none_of_grow k)⟩
  exact ⟨g'.put D (listOf ys.toArray n), x.put gD (none_of_grow k hD) e, Snap.le_put gD, _, _, rfl, Snap.put_self⟩
theorem grow_off {h₁ h₂ h' : Heap} {wr : List Addr} (k : Grow h₁ h₂) (off : ∀ b ∈ wr, h₁.get? b = none) (hk : ∀ b o, b ∉ wr → h₂.get? b = some o → h'.get? b = some o) : Grow h₁ h' := fun b o e => hk b o (fun q => by rw [off b q] at e; cases e) (k b o e)
/-- two lists, member by member -/
def Both {α : Type} (R : Value → α → Prop) : List Value → List α → Prop
  | [], [] => True
  | y :: ys, x :: xs => R y x ∧ Both R ys xs
  | _, _ => False
theorem Both.len {α : Type} {R : Value → α → Prop} : ∀ {ys : List Value} {xs : List α}, Both R ys xs → ys.length = xs.length
  | [], [], _ => rfl
  | _ :: _, _ :: _, h => congrArg (· + 1) (Both.len h.2)
theorem Both.mono {α : Type} {R R' : Value → α → Prop} (k : ∀ y x, R y x → R' y x) : ∀ {ys : List Value} {xs : List α}, Both R ys xs → Both R' ys xs
  | [], [], _ => trivial
  | _ :: _, _ :: _, h => ⟨k _ _ h.1, Both.mono k h.2⟩
theorem Both.append {α : Type} {R : Value → α → Prop} : ∀ {ys : List Value} {xs : List α} {zs : List Value} {us : List α}, Both R ys xs → Both R zs us → Both R (ys ++ zs) (xs ++ us)
  | [], [], _, _, _, h => h
  | _ :: _, _ :: _, _, _, h, h' => ⟨h.1, Both.append h.2 h'⟩
theorem Both.one {α : Type} {R : Value → α → Prop} {y : Value} {x : α} (h : R y x) : Both R [y] [x] := ⟨h, trivial⟩
theorem Both.at {α : Type} {R : Value → α → Prop} : ∀ {ys : List Value} {xs : List α} {i : Nat} {y : Value}, Both R ys xs → ys[i]? = some y → ∃ x, xs[i]? = some x ∧ R y x
  | [], [], _, _, _, e => by simp at e
  | _ :: _, x :: _, 0, _, h, e => by simp at e; subst e; exact ⟨x, rfl, h.1⟩
  | _ :: ys, _ :: xs, i + 1, _, h, e => by
    have := Both.at (ys := ys) (xs := xs) (i := i) h.2 (by simpa using e)
    simpa using this
theorem take_next {α : Type} {l : List α} {i : Nat} {x : α} (h : l[i]? = some x) : l.take (i + 1) = l.take i ++ [x] := by rw [List.take_add_one, h]; rfl
theorem Both.next {α : Type} {R : Value → α → Prop} {ys : List Value} {l : List α} {i : Nat} {y : Value} {x : α} (h : Both R ys (l.take i)) (e : l[i]? = some x) (r : R y x) : Both R (ys ++ [y]) (l.take (i + 1)) := by
  rw [take_next e]; exact h.append (.one r)
theorem with_deep {w : World} {A : Around} {h₀ h : Heap} {L : Addr} {m : Str → Option Value} {env : Env} {α : Type} {t : Sem α} {Q : α → Shared → Prop} {E : Value → Shared → Prop} {s : Shared} (S : St w A h₀) (F : Fr h₀ L h m) (hf : env.frame = some L) (hk : env.scope.kind = .function)
    (h : St w (A.deeper env) h → wpAny (model PR w) (A.deeper env) t Q E s) : wpAny (model PR w) (A.deeper env) t Q E s := h (S.deep F hf hk)
theorem val_at {w : World} {dp un : Nat} {gd : Option (List Code)} {outer : List Env} {s : Shared} {g : Snap} {Q E : Value → Shared → Prop} {x val : Addr} {p c : Value} {expr : Bool} {env : Env} {hb : Heap}
    (S : St w ((ar dp un gd outer).deeper env) hb) (k : Grow hb s.heap) (hdp : dp + 2 < recursionLimit) (hu : un + 5 < cLine) (hg : InH g s.heap) (I : DatObj w g x (.ref val) p c)
    (h : ∀ h' tk, Grow s.heap h' → Q (.ref val) { s with heap := h', toks := tk }) : wpAny (model PR w) ((ar dp un gd outer).deeper env) (getAttr (.ref x) (Str.ofString "value") expr) Q E s :=
  val_attr (dp := dp + 1) (un := un + 3) (gd := gd) (outer := env :: outer) (S.keeps k) (by omega) (by omega) hg I h
theorem SD_mk {w : World} {A : Around} {h₀ h : Heap} {L : Addr} {m : Str → Option Value} {env : Env} (S : St w A h₀) (F : Fr h₀ L h m) (hf : env.frame = some L) (hk : env.scope.kind = .function) : St w (A.deeper env) h := S.deep F hf hk
section
variable {w : World} {f : Addr} {d u : Nat} {Pre : Snap → Args → Prop} {Post : Snap → Args → Snap → Value → Prop} {dp un : Nat} {gd : Option (List Code)} {outer : List Env} {s : Shared} {g : Snap} {Q E : Value → Shared → Prop} {pos : List Value} {kw : List (Str × Value)}
variable {base : Heap} {L : Addr} {m : Str → Option Value} {env : Env} {hb : Heap}
/-- a call out of a turn of a comprehension -/
theorem Con.tcall (C : Con w f d u Pre Post) (S : St w ((ar dp un gd outer).deeper env) hb) (F : Fr base L s.heap m) (k : Grow hb s.heap) (hd : dp + 1 + d < recursionLimit) (hu : un + 3 + u < cLine) (hg : InH g s.heap) (pre : Pre g ⟨pos, kw⟩)
    (h : ∀ r h' tk g', Ext s.heap g g' h' → Fr base L h' m → (∀ {news}, News base L s.heap news → News base L h' news) → Grow hb h' → Post g ⟨pos, kw⟩ g' r → Q r { s with heap := h', toks := tk }) :
    wpAny (model PR w) ((ar dp un gd outer).deeper env) (call (.ref f) pos kw) Q E s :=
  C.ucall (dp := dp + 1) (un := un + 3) (gd := gd) (outer := env :: outer) hd hu (S.keeps k) hg pre fun r h' tk g' x p => h r h' tk g' x (F.keeps x.grow) (fun N => N.grown x.grow) (fun b o e => x.grow b o (k b o e)) p
theorem Con.tmeth {q : Addr} {self : Value} (C : Con w f d u Pre Post) (S : St w ((ar dp un gd outer).deeper env) hb) (F : Fr base L s.heap m) (k : Grow hb s.heap) (hd : dp + 1 + d < recursionLimit) (hu : un + 3 + u < cLine) (hg : InH g s.heap)
    (hq : s.heap.get? q = some (methodObj (.ref f) self)) (pre : Pre g ⟨self :: pos, kw⟩)
    (h : ∀ r h' tk g', Ext s.heap g g' h' → Fr base L h' m → (∀ {news}, News base L s.heap news → News base L h' news) → Grow hb h' → Post g ⟨self :: pos, kw⟩ g' r → Q r { s with heap := h', toks := tk }) :
    wpAny (model PR w) ((ar dp un gd outer).deeper env) (call (.ref q) pos kw) Q E s :=
  C.meth (dp := dp + 1) (un := un + 3) (gd := gd) (outer := env :: outer) hd hu (S.keeps k) hg hq pre fun r h' tk g' x p => h r h' tk g' x (F.keeps x.grow) (fun N => N.grown x.grow) (fun b o e => x.grow b o (k b o e)) p
end
end
end Mine
end
section
open PySem PySem.W PySem.Calls PyProof.Rows PySem.Spec
set_option Elab.async false
set_option maxRecDepth 100000
set_option maxHeartbeats 4000000
namespace Mine
section
variable {prog : Program} {w : World} {A : Around} {R : Result → Shared → Prop} {E : Value → Shared → Prop} {s : Shared} {env : Env}
/-- what the turns must do: the heap only grows -/
structure GTurns (prog : Program) (w : World) (A : Around) (env : Env) (scope : Scope) (cl : List (Str × Addr)) (x : Str) (ifs : List Expr) (elt : Expr) (g : Snap) (s₁ : Shared) (n : Nat) (P : Nat → Value → Prop) (J : Nat → List Value → Snap → Prop) (Jm : Nat → Value → List Value → Snap → Prop) : Prop where
  tests : ∀ C i v ys g' H tk m E', s₁.heap.objs.size ≤ C → i < n → ys.length ≤ i → P i v → J i ys g' → Sle g g' → InH g' H → Grow s₁.heap H → H.Ns C m → m x = some v →
    wpAny (model prog w) A (testsOf ifs (compEnvC scope cl C env)) (fun ok s₄ => ∃ g'' H' tk', s₄ = { s₁ with heap := H', toks := tk' } ∧ Ext H g' g'' H' ∧ if ok = true then Jm i v ys g'' else J (i + 1) ys g'') E' { s₁ with heap := H, toks := tk }
  elt : ∀ C i v ys g' H tk m E', s₁.heap.objs.size ≤ C → i < n → ys.length ≤ i → P i v → Jm i v ys g' → Sle g g' → InH g' H → Grow s₁.heap H → H.Ns C m → m x = some v →
    wpAny (model prog w) A (eval elt (compEnvC scope cl C env)) (fun y s₄ => ∃ g'' H' tk', s₄ = { s₁ with heap := H', toks := tk' } ∧ Ext H g' g'' H' ∧ J (i + 1) (ys ++ [y]) g'') E' { s₁ with heap := H, toks := tk }
abbrev LTurns (prog : Program) (w : World) (A : Around) (env : Env) (scope : Scope) (cl : List (Str × Addr)) (x : Str) (ifs : List Expr) (elt : Expr) (g : Snap) (s₁ : Shared) (items : List Value) (J : Nat → List Value → Snap → Prop) (Jm : Nat → Value → List Value → Snap → Prop) : Prop :=
  GTurns prog w A env scope cl x ifs elt g s₁ items.length (fun i v => items[i]? = some v) J Jm
/-- iter(xv) makes one new object, which walks -/
def IterOf (prog : Program) (w : World) (A : Around) (xv : Value) (s₁ : Shared) (n : Nat) (P : Nat → Value → Prop) : Prop :=
  ∃ ob fp St, (∀ Q E, Q (.ref s₁.heap.objs.size) { s₁ with heap := s₁.heap.push ob } → wpAny (model prog w) A (pyIter xv) Q E s₁) ∧ Walks prog w A s₁.heap.objs.size fp [s₁.heap.objs.size] n P St ∧ St 0 (s₁.heap.push ob) ∧
    (∀ b ∈ fp, b < (s₁.heap.push ob).objs.size) ∧ ∀ i h, St i h → ∃ o, h.get? s₁.heap.objs.size = some o
theorem fresh_none {h : Heap} {a : Addr} (ha : h.objs.size ≤ a) : h.get? a = none := by
  cases e : h.get? a with
  | none => rfl
  | some o' => exact absurd (Heap.lt_size e) (Nat.not_lt.mpr ha)
theorem push_grow {h : Heap} {o : Obj} : Grow h (h.push o) := fun _ _ e => Heap.get?_push_of_some _ e
theorem lt_of_get {h : Heap} {a : Addr} {o : Obj} (e : h.get? a = some o) : a < h.objs.size := Heap.lt_size e
theorem IterOf.list {s₁ : Shared} {a : Addr} {items : List Value} (hh : A.handled = none) (h : ∃ n, s₁.heap.get? a = some (listOf items.toArray n)) : IterOf prog w A (.ref a) s₁ items.length (fun i v => items[i]? = some v) := by
  obtain ⟨n, ha⟩ := h
  have hlt := lt_of_get ha
  refine ⟨_, [s₁.heap.objs.size, a], fun i h => h.IsListIter s₁.heap.objs.size a i ∧ h.IsList a items.toArray, fun Q E hq => wpAny_pyIter_list (items := items.toArray) ⟨_, ha, rfl, _, rfl⟩ hq, ?_, ?_, ?_, ?_⟩
  · have := Walks.list (prog := prog) (w := w) hh s₁.heap.objs.size a (Nat.ne_of_lt hlt) items.toArray
    simpa using this
  · exact ⟨⟨_, Heap.get?_push_size _ rfl, rfl, rfl⟩, ⟨_, push_grow _ _ ha, rfl, _, rfl⟩⟩
  · intro b hb
    rw [Heap.size_push]
    simp only [List.mem_cons, List.not_mem_nil, or_false] at hb
    rcases hb with rfl | rfl
    · exact Nat.lt_succ_self _
    · exact Nat.lt_succ_of_lt hlt
  · rintro i h ⟨⟨o, e, _⟩, _⟩
    exact ⟨_, e⟩
theorem IterOf.tuple {s₁ : Shared} {a : Addr} {items : List Value} (hh : A.handled = none) (h : ∃ n, s₁.heap.get? a = some { cls := .type "tuple", data := .seq items.toArray n }) : IterOf prog w A (.ref a) s₁ items.length (fun i v => items[i]? = some v) := by
  obtain ⟨n, ha⟩ := h
  have hlt := lt_of_get ha
  refine ⟨_, [s₁.heap.objs.size, a], fun i h => h.IsTupleIter s₁.heap.objs.size a i ∧ h.IsTuple a items.toArray, fun Q E hq => wpAny_pyIter_tuple (items := items.toArray) ⟨_, ha, rfl, _, rfl⟩ hq, ?_, ?_, ?_, ?_⟩
  · have := Walks.tuple (prog := prog) (w := w) hh s₁.heap.objs.size a (Nat.ne_of_lt hlt) items.toArray
    simpa using this
  · exact ⟨⟨_, Heap.get?_push_size _ rfl, rfl, rfl⟩, ⟨_, push_grow _ _ ha, rfl, _, rfl⟩⟩
  · intro b hb
    rw [Heap.size_push]
    simp only [List.mem_cons, List.not_mem_nil, or_false] at hb
    rcases hb with rfl | rfl
    · exact Nat.lt_succ_self _
    · exact Nat.lt_succ_of_lt hlt
  · rintro i h ⟨⟨o, e, _⟩, _⟩
    exact ⟨_, e⟩
theorem any_source {scope : Scope} {cl : List (Str × Addr)} {x : Str} {ifs : List Expr} {elt : Expr} {g : Snap} {s₁ : Shared} {ob : Obj} {fp : List Addr} {St : Nat → Heap → Prop} {n : Nat} {P : Nat → Value → Prop} {J : Nat → List Value → Snap → Prop} {Jm : Nat → Value → List Value → Snap → Prop}
    (W : Walks prog w A s₁.heap.objs.size fp [s₁.heap.objs.size] n P St) (hst : St 0 (s₁.heap.push ob)) (hfp : ∀ b ∈ fp, b < (s₁.heap.push ob).objs.size) (hl : ∀ i h, St i h → ∃ o, h.get? s₁.heap.objs.size = some o)
    (hg : InH g s₁.heap) (hz : n ≤ sizeLine) (hJ : J 0 [] g) (T : GTurns prog w A env scope cl x ifs elt g s₁ n P J Jm) :
    Source prog w A env scope cl x ifs elt (.ref s₁.heap.objs.size) { s₁ with heap := s₁.heap.push ob } n P J Jm g s₁.heap.objs.size fp [s₁.heap.objs.size] St := by
  have hsz : (s₁.heap.push ob).objs.size = s₁.heap.objs.size + 1 := Heap.size_push ..
  have off : ∀ b ∈ [s₁.heap.objs.size], s₁.heap.get? b = none := fun b hb => by
    rw [List.mem_singleton.mp hb]; exact fresh_none (Nat.le_refl _)
  refine ⟨rfl, W, hz, ?_, hst, hfp, fun b o e => push_grow b o (hg b o e), fun b hb => none_of_inH hg (off b hb), hJ, ?_⟩
  · rintro i h q b hb
    rw [List.mem_singleton.mp hb]; exact hl i h q
  · rintro C s₄ hC ⟨h, tk, rfl⟩
    have hC' : s₁.heap.objs.size ≤ C := by have z : (s₁.heap.push ob).objs.size ≤ C := hC; rw [hsz] at z; exact Nat.le_of_succ_le z
    exact ⟨fun i v ys g' H tk' m E' hi hys hv hJ' hle hin hH hn hm => T.tests C i v ys g' H tk' m E' hC' hi hys hv hJ' hle hin (grow_off push_grow off hH) hn hm,
      fun i v ys g' H tk' m E' hi hys hv hJ' hle hin hH hn hm => T.elt C i v ys g' H tk' m E' hC' hi hys hv hJ' hle hin (grow_off push_grow off hH) hn hm⟩
/-- [elt for x in .. if ..] -/
theorem lc_any {elt iter : Expr} {x : Str} {px : Pos} {ifs : List Expr} {scope : Scope} {cl : List (Str × Addr)} {pos : Pos} {Q : Value → Shared → Prop}
    (hclos : closureFor scope env = pure cl) (hcell : ∀ y ∈ scope.names, y.2 ≠ .cell) (hkind : scope.kind = .function)
    (hnames : ∀ y ∈ scope.names, y.2 = .local → scope.names.lookup y.1 = some .local) (hx : scope.names.lookup x = some .local)
    (h : wpAny (model prog w) A (eval iter env) (fun xv s₁ => ∃ (g : Snap) (n : Nat) (P : Nat → Value → Prop) (J : Nat → List Value → Snap → Prop) (Jm : Nat → Value → List Value → Snap → Prop), IterOf prog w A xv s₁ n P ∧ InH g s₁.heap ∧ n ≤ sizeLine ∧ J 0 [] g ∧ GTurns prog w A env scope cl x ifs elt g s₁ n P J Jm ∧
      (∀ r h' tk zs g' g'', J n zs g' → Sle g' g'' → Ext s₁.heap g g'' h' → LstAt g'' r zs → zs.length ≤ n → Q r { s₁ with heap := h', toks := tk })) E s)
    (hs : ∀ x, foldedSetIterable iter env x = pure x := by intro _; rfl) :
    wpAny (model prog w) A (eval (.ListComp elt [⟨.Name x px, iter, ifs, 0⟩] scope pos) env) Q E s := by
  refine lc_eval hclos hcell hkind hnames hx (wpAny_mono h ?_ fun _ _ e => e) hs
  rintro xv s₁ ⟨g, n, P, J, Jm, ⟨ob, fp, St, hit, W, hst, hfp, hl⟩, hg, hz, hJ, T, hQ⟩
  refine hit _ _ ?_
  refine ⟨_, _, J, Jm, g, _, _, _, _, any_source W hst hfp hl hg hz hJ T, ?_⟩
  intro D h' tk ys g' hD hl hlen hJ' hle hin hnew gD hk
  have off : ∀ b ∈ [s₁.heap.objs.size], s₁.heap.get? b = none := fun b hb => by
    rw [List.mem_singleton.mp hb]; exact fresh_none (Nat.le_refl _)
  obtain ⟨g'', X', up', hL⟩ := ext_fin push_grow (grow_off push_grow off hk) hle hin hnew gD hD hl
  exact hQ _ h' tk ys g' g'' hJ' up' X' hL hlen
/-- y = [elt for x in .. if ..] -/
theorem lc_any_assign {elt iter : Expr} {x y : Str} {px py : Pos} {ifs : List Expr} {scope : Scope} {cl : List (Str × Addr)} {pos spos : Pos} {Q : Flow → Shared → Prop}
    (hsw : swapsWith (.ListComp elt [⟨.Name x px, iter, ifs, 0⟩] scope pos) (some (.Name y py)) spos.line env = pure true)
    (hclos : closureFor scope env = pure cl) (hcell : ∀ z ∈ scope.names, z.2 ≠ .cell) (hkind : scope.kind = .function)
    (hnames : ∀ z ∈ scope.names, z.2 = .local → scope.names.lookup z.1 = some .local) (hx : scope.names.lookup x = some .local)
    (hy : env.kindOf y = some .local) (hp : (env.scope.kind == .class || (env.scope.kind == .module && env.locals != env.globals)) = false)
    (h : wpAny (model prog w) A (eval iter env) (fun xv s₁ => ∃ (g : Snap) (n : Nat) (P : Nat → Value → Prop) (J : Nat → List Value → Snap → Prop) (Jm : Nat → Value → List Value → Snap → Prop) (m : Str → Option Value), IterOf prog w A xv s₁ n P ∧ InH g s₁.heap ∧ n ≤ sizeLine ∧ J 0 [] g ∧ GTurns prog w A env scope cl x ifs elt g s₁ n P J Jm ∧
      s₁.heap.Ns env.locals m ∧ g env.locals = none ∧
      (∀ r h' tk zs g' g'', J n zs g' → Sle g g' → Sle g' g'' → InH g'' h' → New s₁.heap g g'' → LstAt g'' r zs → zs.length ≤ n →
        h'.Ns env.locals (fun z => if z = y then some r else m z) → g'' env.locals = none → (∀ b o, b ≠ env.locals → s₁.heap.get? b = some o → h'.get? b = some o) → Q .next { s₁ with heap := h', toks := tk })) E s)
    (hs : ∀ x, foldedSetIterable iter env x = pure x := by intro _; rfl) :
    wpAny (model prog w) A (exec (.Assign [.Name y py] (.ListComp elt [⟨.Name x px, iter, ifs, 0⟩] scope pos) spos) env) Q E s := by
  refine lc_assign hsw hclos hcell hkind hnames hx hy hp (wpAny_mono h ?_ fun _ _ e => e) hs
  rintro xv s₁ ⟨g, n, P, J, Jm, m, ⟨ob, fp, St, hit, W, hst, hfp, hl⟩, hg, hz, hJ, T, hN, hgL, hQ⟩
  refine hit _ _ ?_
  have off : ∀ b ∈ [s₁.heap.objs.size], s₁.heap.get? b = none := fun b hb => by
    rw [List.mem_singleton.mp hb]; exact fresh_none (Nat.le_refl _)
  have hLlt : env.locals < s₁.heap.objs.size := by obtain ⟨o, _, _, e, _⟩ := hN; exact lt_of_get e
  refine ⟨_, _, J, Jm, g, _, _, _, _, m, any_source W hst hfp hl hg hz hJ T, fun q => Nat.lt_irrefl _ (List.mem_singleton.mp q ▸ hLlt), hN.at' fun o e => push_grow _ _ e, hgL, ?_⟩
  intro D h' tk ys g' hD hl hlen hJ' hle hin hnew gD gL hns hk
  obtain ⟨n', e⟩ := hl
  have hDL : D ≠ env.locals := by rintro rfl; obtain ⟨o, _, _, q, _⟩ := hN; rw [push_grow _ _ q] at hD; cases hD
  refine hQ (.ref D) h' tk ys g' (g'.put D (listOf ys.toArray n')) hJ' hle (Snap.le_put gD) (Snap.inH_put hin e) ?_ ⟨_, _, rfl, Snap.put_self⟩ hlen hns ?_ ?_
  · intro b o q
    by_cases z : b = D
    · subst z; exact .inr (none_of_grow push_grow hD)
    · rw [Snap.put_ne z] at q; exact (hnew b o q).imp id (none_of_grow push_grow)
  · rw [Snap.put_ne (Ne.symm hDL)]; exact gL
  · intro b o hb q
    exact hk b o hb (fun z => by rw [off b z] at q; cases q) (push_grow _ _ q)
/-- [elt for x in a list if ..] -/
theorem lc_list {elt iter : Expr} {x : Str} {px : Pos} {ifs : List Expr} {scope : Scope} {cl : List (Str × Addr)} {pos : Pos} {Q : Value → Shared → Prop} (hh : A.handled = none)
    (hclos : closureFor scope env = pure cl) (hcell : ∀ y ∈ scope.names, y.2 ≠ .cell) (hkind : scope.kind = .function)
    (hnames : ∀ y ∈ scope.names, y.2 = .local → scope.names.lookup y.1 = some .local) (hx : scope.names.lookup x = some .local)
    (h : wpAny (model prog w) A (eval iter env) (fun xv s₁ => ∃ (g : Snap) (items : List Value) (J : Nat → List Value → Snap → Prop) (Jm : Nat → Value → List Value → Snap → Prop), LstAt g xv items ∧ InH g s₁.heap ∧ items.length ≤ sizeLine ∧ J 0 [] g ∧ LTurns prog w A env scope cl x ifs elt g s₁ items J Jm ∧
      (∀ r h' tk zs g' g'', J items.length zs g' → Sle g' g'' → Ext s₁.heap g g'' h' → LstAt g'' r zs → zs.length ≤ items.length → Q r { s₁ with heap := h', toks := tk })) E s)
    (hs : ∀ x, foldedSetIterable iter env x = pure x := by intro _; rfl) :
    wpAny (model prog w) A (eval (.ListComp elt [⟨.Name x px, iter, ifs, 0⟩] scope pos) env) Q E s := by
  refine lc_any hclos hcell hkind hnames hx (wpAny_mono h ?_ fun _ _ e => e) hs
  rintro xv s₁ ⟨g, items, J, Jm, ⟨a, n, rfl, ha⟩, hg, hz, hJ, T, hQ⟩
  exact ⟨g, _, _, J, Jm, .list hh ⟨n, hg _ _ ha⟩, hg, hz, hJ, T, hQ⟩
/-- [y for x in a list for y in ..] -/
theorem lcn_list {iter iter2 : Expr} {x y : Str} {px py pe : Pos} {scope : Scope} {cl : List (Str × Addr)} {pos : Pos} {Q : Value → Shared → Prop} (hh : A.handled = none)
    (hclos : closureFor scope env = pure cl) (hcell : ∀ z ∈ scope.names, z.2 ≠ .cell) (hkind : scope.kind = .function)
    (hnames : ∀ z ∈ scope.names, z.2 = .local → scope.names.lookup z.1 = some .local) (hx : scope.names.lookup x = some .local) (hy : scope.names.lookup y = some .local) (hyd : (y == ("__debug__" : Str)) = false)
    (h : wpAny (model prog w) A (eval iter env) (fun xv s₁ => ∃ (g : Snap) (items : List Value) (J : Nat → List Value → Snap → Prop), LstAt g xv items ∧ InH g s₁.heap ∧ J 0 [] g ∧ (∀ i ys g', J i ys g' → ys.length ≤ sizeLine) ∧
      (∀ C i v ys g' H tk m E', s₁.heap.objs.size ≤ C → i < items.length → items[i]? = some v → J i ys g' → Sle g g' → InH g' H → Grow s₁.heap H → H.Ns C m → m x = some v →
        wpAny (model prog w) A (eval iter2 (compEnvC scope cl C env)) (fun z s₅ => ∃ g'' H' tk' its, s₅ = { s₁ with heap := H', toks := tk' } ∧ Ext H g' g'' H' ∧ LstAt g'' z its ∧ J (i + 1) (ys ++ its) g'') E' { s₁ with heap := H, toks := tk }) ∧
      (∀ r h' tk zs g' g'', J items.length zs g' → Sle g' g'' → Ext s₁.heap g g'' h' → LstAt g'' r zs → Q r { s₁ with heap := h', toks := tk })) E s)
    (hs : ∀ x, foldedSetIterable iter env x = pure x) (hs2 : ∀ cenv x, foldedSetIterable iter2 cenv x = pure x) :
    wpAny (model prog w) A (eval (.ListComp (.Name y pe) (two x y px py iter iter2) scope pos) env) Q E s := by
  refine lcn_eval hh hclos hcell hkind hnames hx hy hyd (wpAny_mono h ?_ fun _ _ e => e) hs hs2
  rintro xv s₁ ⟨g, items, J, ⟨a, n, rfl, ha⟩, hg, hJ, hJz, T, hQ⟩
  refine wpAny_pyIter_list (items := items.toArray) ⟨_, hg _ _ ha, rfl, _, rfl⟩ ?_
  have hlt := lt_of_get (hg _ _ ha)
  have hsz : (s₁.heap.push { cls := .type "list_iterator", data := .fields #[.ref a, .int 0 0] }).objs.size = s₁.heap.objs.size + 1 := Heap.size_push ..
  have off : ∀ b ∈ [s₁.heap.objs.size], s₁.heap.get? b = none := fun b hb => by
    rw [List.mem_singleton.mp hb]; exact fresh_none (Nat.le_refl _)
  refine ⟨_, _, J, g, _, _, _, _, rfl, Walks.list hh _ a (Nat.ne_of_lt hlt) items.toArray, ?_, ?_, ?_, fun b o e => push_grow b o (hg b o e), fun b hb => none_of_inH hg (off b hb), hJ, hJz, ?_, ?_⟩
  · rintro i h ⟨⟨o, e, _⟩, _⟩ b hb
    rw [List.mem_singleton.mp hb]; exact ⟨_, e⟩
  · exact ⟨⟨_, Heap.get?_push_size _ rfl, rfl, rfl⟩, ⟨_, push_grow _ _ (hg _ _ ha), rfl, _, rfl⟩⟩
  · intro b hb
    simp only [List.mem_cons, List.not_mem_nil, or_false] at hb
    rcases hb with rfl | rfl
    · exact ⟨_, Heap.get?_push_size _ rfl⟩
    · exact ⟨_, push_grow _ _ (hg _ _ ha)⟩
  · rintro C s₄ hC ⟨h, tk, rfl⟩ i v ys g' H tk' m E' hi hv hJ' hle hin hH hn hm
    have hC' : s₁.heap.objs.size ≤ C := by have z : (s₁.heap.push { cls := .type "list_iterator", data := .fields #[.ref a, .int 0 0] }).objs.size ≤ C := hC; rw [hsz] at z; exact Nat.le_of_succ_le z
    refine wpAny_mono (T C i v ys g' H tk' m E' hC' (by simpa using hi) (by simpa using hv) hJ' hle hin (grow_off push_grow off hH) hn hm) ?_ fun _ _ e => e
    rintro z s₅ ⟨g'', H', tk'', its, rfl, X, ⟨l, nl, rfl, hl⟩, hJ''⟩
    exact ⟨g'', H', tk'', l, its, nl, rfl, X, rfl, hl, hJ''⟩
  · intro D h' tk ys g' hD hl hJ' hle hin hnew gD hk
    obtain ⟨g'', X', up', hL⟩ := ext_fin push_grow (grow_off push_grow off hk) hle hin hnew gD hD hl
    exact hQ _ h' tk ys g' g'' (by simpa using hJ') up' X' hL
end
end Mine
end
section
open PySem PySem.W PySem.Calls PyProof.Rows PySem.Spec
set_option Elab.async false
set_option maxRecDepth 100000
set_option maxHeartbeats 4000000
namespace Mine
noncomputable section
theorem fill1 : both1 PySem.Challenge.rw_ae5011_01 KF := by
  k_fill
  trivial
local macro_rules | `(tactic| k_inst) => `(tactic| first | with_reducible assumption | exact InstAt.up (by with_reducible assumption) (Fr.keep (by with_reducible assumption)))
local macro_rules | `(tactic| tb_start) => `(tactic| ((case k1 => first | omega | (simp only [recursionLimit] at *; omega)); (case k2 => k_is); (case k3 => k_is); (case k4 => exact BindsTo.of_eq rfl); (case k5 => exact rfl); (case k6 => decide +kernel); (case a => exact rfl); (case b => exact rfl); (case c => exact rfl)))
local macro_rules | `(tactic| walk_at "eval Name") => `(tactic| (k_dflt (refine' nm_local ?F ?x ?h ?a ?b; (case F => assumption); (case a => rfl); (case b => rfl); (case x => assumption); (case h => skip))))
local macro_rules | `(tactic| tb_rel) => `(tactic| first | (k_unfold; (try dsimp only)) | walk1 | (dsimp only; walk1))
abbrev Res (w : World) (g : Snap) (ys : List Value) (ls : List Item) : Prop := Both (IsDat w g) ys ls
theorem Res.up {w : World} {g g' : Snap} (k : Sle g g') {ys : List Value} {ls : List Item} (h : Res w g ys ls) : Res w g' ys ls := h.mono fun _ _ r => r.up k
/-- the members of a tree, each with its place -/
def kids (t : Tree) : List Item := t.cs.zipIdx.map fun p => (some (p.2 : Int), p.1)
theorem arr_con (w : World) (d val : Addr) (p c : Value) (t : Tree) : Con w 830 8 60 (fun g a => a = ⟨[.ref d], []⟩ ∧ DatObj w g d (.ref val) p c ∧ IsTree g (.ref val) t) (fun _ _ g' r => ∃ ys, LstAt g' r ys ∧ Res w g' ys (kids t)) := by
  intro dp un gd outer s args g Q E hdp hu S hg ⟨e, I0, hT⟩ hret
  subst e
  have S' := S
  obtain ⟨X, ⟨p', l, me, mg, mb, T⟩, base, outer', B⟩ := S'
  k_dflt (refine' con_enterC [(Str.ofString "datum", .ref d)] S ?k1 ?k2 ?k3 ?k4 ?k5 ?k6 ?h ?a ?b ?c)
  tb_start
  case h =>
    intro L h₁ tk cells F N Y
    k_cells Y
    iterate 2 tb_rel
    rename_i o1 d1
    have hc : o1.data = .cell (some (.ref d)) := d1
    clear d1
    have hcell : h₁.IsCell (L + 1) (some (.ref d)) := ⟨o1, (N _ (.head _)).1, hc⟩
    k_dflt (refine' lcp_eval ?hh ?hclos ?hcell ?hkind ?hnames ?ha ?hb ?hab ?h ?hs)
    case hh => exact rfl
    case hclos => with_unfolding_all rfl
    case hcell => decide
    case hkind => exact rfl
    case hnames => decide
    case ha => exact rfl
    case hb => exact rfl
    case hab => decide
    case hs => intro _; exact rfl
    iterate 6 tb_rel
    refine with_deep S F rfl rfl ?_
    intro SD
    have hg1 : InH g h₁ := fun b o e => F.keep b o (hg b o e)
    refine val_at SD (fun _ _ e => e) (by omega) (by omega) hg1 I0 ?_
    intro h2 tk2 k2
    iterate 1 tb_rel
    cases hT
    rename_i nv vs ts hlen hvz helem hvs
    refine call_enumerate_1 (k2 _ _ (hg1 _ _ hvs)) ?_
    intro h3 hE hI hsz k3
    refine wpAny_pyIter_enum hE ?_
    have k13 : Grow h₁ h3 := fun b o e => k3 b o (k2 b o e)
    have up : ∀ {b o}, h₁.get? b = some o → b < h2.objs.size := fun e => Heap.lt_size (k2 _ _ e)
    have off : ∀ b ∈ [h2.objs.size + 1, h2.objs.size], h₁.get? b = none := by
      intro b hb
      cases e : h₁.get? b with
      | none => rfl
      | some o =>
        have z : @LT.lt Nat _ b h2.objs.size := up e
        simp only [List.mem_cons, List.not_mem_nil, or_false] at hb
        rcases hb with rfl | rfl <;> omega
    have hval : @LT.lt Nat _ val h2.objs.size := up (hg1 _ _ hvs)
    refine ⟨_, _, fun i ys g' => Both (IsDat w g') ys ((kids (.node ts)).take i), g, _, _, _, _, _, rfl, WalksT.enumerate rfl (h2.objs.size + 1) h2.objs.size val (Nat.succ_ne_self _) (Nat.ne_of_lt (Nat.lt_succ_of_lt hval)) (Nat.ne_of_lt hval) vs.toArray, ?live, ?size, ?st, ?fp, ?inh, ?off, trivial, ?two, ?turn, ?fin⟩
    case live =>
      rintro i h ⟨⟨old, e⟩, ⟨o, e2, _⟩, _⟩ b hb
      simp only [List.mem_cons, List.not_mem_nil, or_false] at hb
      rcases hb with rfl | rfl
      · exact ⟨_, e⟩
      · exact ⟨_, e2⟩
    case size => simpa using hvz
    case st => exact ⟨⟨_, hE⟩, hI, ⟨_, k13 _ _ (hg1 _ _ hvs), rfl, _, rfl⟩⟩
    case fp =>
      intro b hb
      simp only [List.mem_cons, List.not_mem_nil, or_false] at hb
      obtain ⟨o, e2, _⟩ := hI
      rcases hb with rfl | rfl | rfl
      · exact ⟨_, hE⟩
      · exact ⟨_, e2⟩
      · exact ⟨_, k13 _ _ (hg1 _ _ hvs)⟩
    case inh => exact fun b o e => k13 b o (hg1 b o e)
    case off => exact fun b hb => none_of_inH hg1 (off b hb)
    case two => rintro i vals ⟨t, x, _, e⟩; exact ⟨_, _, e⟩
    case turn =>
      rintro C s₄ hC ⟨hs4, tk4, rfl⟩ i v1 v2 ys g' H tkH m E' hi hys ⟨ti, x, hx, e⟩ hJ hle hin hH hn m1 m2
      cases e
      obtain ⟨FC, kH⟩ := fr_comp F k13 hC off hH hn
      have NC := news_comp N k13 kH hC
      have SC := SD.keeps kH
      clear F N SD
      k_steps
      refine (index_con w).tcall SC FC (fun _ _ e => e) (by omega) (by omega) (g := g') hin ⟨_, _, rfl⟩ ?_
      intro r1 h4 tk5 g4 x4 F4 N4 K4 P4
      replace N4 := N4 NC
      clear NC FC
      have ix := P4 _ _ rfl
      k_steps
      have I4 : DatObj w g4 d (.ref val) p c := let ⟨t1, t2, t3, I⟩ := I0; ⟨t1, t2, t3, (I.up hle).up x4.up⟩
      have pth : PathObj g4 r1 := let ⟨x, t, tup, n, tk, a, b, _⟩ := ix; ⟨x, _, _, a, .inl rfl, b⟩
      refine (datum_con w).tcall SC F4 K4 (by omega) (by omega) (g := g4) x4.inh ⟨_, _, _, _, _, _, _, rfl, pth, rfl, I4⟩ ?_
      intro r2 h5 tk6 g5 x5 F5 N5 K5 P5
      obtain ⟨dx, rfl, t1, t2, t3, ID⟩ := P5 _ _ _ rfl
      refine ⟨g5, h5, tk6, rfl, x4.trans x5, (hJ.mono fun _ _ r => (r.up x4.up).up x5.up).next (x := (some (i : Int), ts[i]'(hlen ▸ by simpa using hi))) ?_ ⟨dx, v2, r1, .ref d, t1, t2, t3, rfl, ID, ?_, ?_⟩⟩
      · simp [kids, Tree.cs]
      · exact ((helem i _ _ (by simpa using hx) (by simp)).up hle).up (fun b o e => x5.up b o (x4.up b o e))
      · rintro j ej
        cases ej
        exact ix.up x5.up
    case fin =>
      intro D h' tk' ys g' hD hl hlen' hJ hle hin hnew gD hk
      have k0 : Grow s.heap h3 := fun b o e => k13 b o (F.keep b o e)
      obtain ⟨g'', X', up', hL⟩ := ext_fin k0 (fun b o e => grow_off k13 off hk b o (F.keep b o e)) hle hin hnew gD hD hl
      refine hret _ _ _ g'' X' ?_
      refine ⟨ys, hL, ?_⟩
      have : Both (IsDat w g') ys ((kids (.node ts)).take vs.toArray.size) := hJ
      rw [List.take_of_length_le (by simp [kids, Tree.cs, hlen])] at this
      exact this.mono fun _ _ r => r.up up'
end
end Mine
end
section
open PySem PySem.W PySem.Calls PyProof.Rows PySem.Spec
set_option Elab.async false
set_option maxRecDepth 100000
set_option maxHeartbeats 4000000
namespace Mine
noncomputable section
theorem fill2 : both1 PySem.Challenge.rw_ae5011_01 KF := by
  k_fill
  trivial
local macro_rules | `(tactic| k_inst) => `(tactic| first | with_reducible assumption | exact InstAt.up (by with_reducible assumption) (Fr.keep (by with_reducible assumption)))
local macro_rules | `(tactic| tb_start) => `(tactic| ((case k1 => first | omega | (simp only [recursionLimit] at *; omega)); (case k2 => k_is); (case k3 => k_is); (case k4 => exact BindsTo.of_eq rfl); (case k5 => exact rfl); (case k6 => decide +kernel); (case a => exact rfl); (case b => exact rfl); (case c => exact rfl)))
local macro_rules | `(tactic| walk_at "eval Name") => `(tactic| (k_dflt (refine' nm_local ?F ?x ?h ?a ?b; (case F => assumption); (case a => rfl); (case b => rfl); (case x => assumption); (case h => skip))))
local macro_rules | `(tactic| kit_at) => `(tactic| exact kitAt_F (by k_asm) (by with_reducible assumption) rfl)
local macro_rules | `(tactic| tb_rel) => `(tactic| first | (k_unfold; (try dsimp only)) | walk1 | (dsimp only; walk1))
/-- the classes whose find is asked for, each with its def -/
inductive FindAt : Addr → Addr → Prop
  | this : FindAt 327 282
  | wild : FindAt 722 670
  | whn : FindAt 518 494
  | child : FindAt 421 348
  | flds : FindAt 646 575
theorem find_method {prog : Program} {w' : World} {A : Around} {s : Shared} {E : Value → Shared → Prop} {w : World} {C fa q : Addr} {ox : Obj} {es : List DictEntry} {n : Nat} {pl : Sem Bool} {Q : Value × List Value → Shared → Prop} (hf : FindAt C fa) (X : (KF w.params).In s.heap) (I : InstAt s.heap q ox C (some (dictOf es n))) (hl : getL (Str.ofString "find") es = some none)
    (h : Q (.ref fa, [.ref q]) s) : wpAny (model prog w') A (getMethod (.ref q) (Str.ofString "find") pl) Q E s := by
  have : plainGet (KF w.params) C (Str.ofString "find") = true ∧ findIn (KF w.params) (.ref C) (Str.ofString "find") = some (some (.ref fa)) ∧ isFn (KF w.params) (.ref fa) = true := by
    cases hf <;> exact ⟨by k_dflt k_is, by k_dflt k_is, by k_dflt k_is⟩
  obtain ⟨h1, h2, h3⟩ := this
  exact method_fn X I (plainGet_of h1).1 (plainGet_of h1).2 h2 (beq_iff_eq.mp h3) (by show (lookIn (Str.ofString "find") (dictOf es n)).map _ = _; rw [lookIn_dict, hl]; rfl) h
theorem find_keep {w : World} {C fa : Addr} (hf : FindAt C fa) : keepIn (KF w.params) (.ref fa) = true := by
  cases hf <;> k_dflt k_is
/-- p.find(x) gives data over the items told -/
def Finds (w : World) (g : Snap) (p x : Value) (d u : Nat) (ls : List Item) : Prop :=
  ls.length ≤ sizeLine ∧ ∃ q C fa es, p = .ref q ∧ IsObj g q C es ∧ FindAt C fa ∧ getL (Str.ofString "find") es = some none ∧
    Con w fa d u (fun g' a => a = ⟨[p, x], []⟩ ∧ Sle g g') (fun _ _ g' r => ∃ ys, LstAt g' r ys ∧ Res w g' ys ls)
theorem Finds.up {w : World} {g g' : Snap} {p x : Value} {d u d' u' : Nat} {ls : List Item} (k : Sle g g') (hd : d ≤ d') (hu : u ≤ u') (h : Finds w g p x d u ls) : Finds w g' p x d' u' ls := by
  obtain ⟨z, q, C, fa, es, a, b, c, e, f⟩ := h
  refine ⟨z, q, C, fa, es, a, b.up k, c, e, ?_⟩
  intro dp un gd outer s args g1 Q E hdp hun S hg ⟨p1, p2⟩ hret
  exact f dp un gd outer s args g1 Q E (by omega) (by omega) S hg ⟨p1, fun b o e => p2 b o (k b o e)⟩ hret
theorem IsDat.obj {w : World} {g : Snap} {v : Value} {it : Item} (h : IsDat w g v it) : ∃ x val p c, v = .ref x ∧ DatObj w g x (.ref val) p c ∧ IsTree g (.ref val) it.2 := by
  obtain ⟨x, val, p, c, t1, t2, t3, a, b, d, e⟩ := h
  have : ∃ va, val = .ref va := by revert d; intro d; generalize it.2 = t at d; cases d; exact ⟨_, rfl⟩
  obtain ⟨va, rfl⟩ := this
  exact ⟨x, va, p, c, a, ⟨t1, t2, t3, b⟩, d⟩
theorem IsTree.lst {g : Snap} {a : Addr} {t : Tree} (h : IsTree g (.ref a) t) : ∃ nv vs, g a = some (listOf vs nv) := by cases h; exact ⟨_, _, by assumption⟩
theorem wild_finds (w : World) (g : Snap) (q : Addr) (x : Value) (it : Item) (Iq : IsObj g q 722 []) (Dx : IsDat w g x it) (hz : (kids it.2).length ≤ sizeLine) : Finds w g (.ref q) x 12 100 (kids it.2) := by
  refine ⟨hz, q, 722, 670, [], rfl, Iq, .wild, rfl, ?_⟩
  obtain ⟨d, val, p, c, rfl, I0, hT⟩ := Dx.obj
  intro dp un gd outer s args g1 Q E hdp hu S hg ⟨e, hle⟩ hret
  subst e
  have S' := S
  obtain ⟨X, ⟨p', l, me, mg, mb, T⟩, base, outer', B⟩ := S'
  k_dflt (refine' con_enterC [(Str.ofString "self", .ref q), (Str.ofString "datum", .ref d)] S ?k1 ?k2 ?k3 ?k4 ?k5 ?k6 ?h ?a ?b ?c)
  tb_start
  case h =>
    intro L h₁ tk cells F N Y
    k_cells Y
    k_steps
    rename News _ _ _ _ => N1
    rename Fr _ _ _ _ => F1
    have I1 : DatObj w g1 d (.ref val) p c := let ⟨t1, t2, t3, I⟩ := I0; ⟨t1, t2, t3, I.up hle⟩
    refine (wrap_con w).fmeth S F1 rfl rfl (by omega) (by omega) (fun b o e => F1.keep b o (hg b o e)) (N1 _ (.head _)).1 ⟨d, _, _, c, rfl, I1⟩ ?_
    intro r h' tk g' x F2 N2 e
    obtain ⟨e, rfl⟩ := e
    cases e
    replace N2 := N2 N1
    clear N1 F1 F N
    k_steps
    rename News _ _ _ _ => N3
    rename Fr _ _ _ _ => F3
    obtain ⟨nv, vs, hvs⟩ : ∃ nv vs, g' val = some (listOf vs nv) := IsTree.lst (hT.up hle)
    have hv0 : s.heap.get? val = some (listOf vs nv) := hg _ _ hvs
    refine val_at (S.deep F3 rfl rfl) (fun _ _ e => e) (by omega) (by omega) (fun b o e => F3.keep b o (hg b o e)) I1 ?_
    intro h4 tk4 k4
    replace F4 := F3.keeps k4
    replace N4 := N3.grown k4
    clear F3 N3
    k_steps
    rename News _ _ _ _ => N5
    rename Fr _ _ _ _ => F5
    refine (arr_con w d val p c it.2).fcall S F5 rfl rfl (by omega) (by omega) (fun b o e => F5.keep b o (hg b o e)) ⟨rfl, I1, hT.up hle⟩ ?_
    intro r h6 tk6 g6 x6 F6 N6 P6
    k_steps
    refine hret _ _ _ g6 ⟨fun b o e => x6.grow b o (F5.keep b o e), x6.up, x6.inh, fun b o e => (x6.new b o e).imp id (none_of_grow F5.keep)⟩ P6
end
end Mine
end
section
open PySem PySem.W PySem.Calls PyProof.Rows PySem.Spec
set_option Elab.async false
set_option maxRecDepth 100000
set_option maxHeartbeats 4000000
namespace Mine
noncomputable section
theorem fill3 : both1 PySem.Challenge.rw_ae5011_01 KF := by
  k_fill
  trivial
local macro_rules | `(tactic| k_inst) => `(tactic| first | with_reducible assumption | exact InstAt.up (by with_reducible assumption) (Fr.keep (by with_reducible assumption)))
local macro_rules | `(tactic| tb_start) => `(tactic| ((case k1 => first | omega | (simp only [recursionLimit] at *; omega)); (case k2 => k_is); (case k3 => k_is); (case k4 => exact BindsTo.of_eq rfl); (case k5 => exact rfl); (case k6 => decide +kernel); (case a => exact rfl); (case b => exact rfl); (case c => exact rfl)))
local macro_rules | `(tactic| walk_at "eval Name") => `(tactic| (k_dflt (refine' nm_local ?F ?x ?h ?a ?b; (case F => assumption); (case a => rfl); (case b => rfl); (case x => assumption); (case h => skip))))
local macro_rules | `(tactic| kit_at) => `(tactic| exact kitAt_F (by k_asm) (by with_reducible assumption) rfl)
local macro_rules | `(tactic| tb_rel) => `(tactic| first | (k_unfold; (try dsimp only)) | walk1 | (dsimp only; walk1))
theorem testsOf_one {M : Model} {A : Around} {Q : Bool → Shared → Prop} {E : Value → Shared → Prop} {s : Shared} {c : Expr} {cenv : Env} (h : wpAny M A (isTrue c cenv (eval c cenv)) Q E s) : wpAny M A (testsOf [c] cenv) Q E s := by
  show wpAny M A ((isTrue c cenv (eval c cenv) >>= fun ok => pure (ForInStep.yield ok)) >>= fun x => _) Q E s
  exact wpAny_bind (wpAny_bind (wpAny_mono h (fun ok s' hq => wpAny_pure (wpAny_pure hq)) fun _ _ e => e))
theorem find_tail {w : World} {dp un : Nat} {gd : Option (List Code)} {outer : List Env} {env cenv : Env} {hb : Heap} {s : Shared} {g : Snap} {p x : Value} {d u : Nat} {ls : List Item} {Q E : Value → Shared → Prop} {pl : Sem Bool} {pos npos : Pos} {nm : Str}
    (S : St w ((ar dp un gd outer).deeper env) hb) (k : Grow hb s.heap) (hd : dp + 1 + d < recursionLimit) (hu : un + 3 + u < cLine) (hg : InH g s.heap) (H : Finds w g p x d u ls)
    (hn : ∀ Q' : Value → Shared → Prop, Q' x s → wpAny (model PR w) ((ar dp un gd outer).deeper env) (eval (.Name nm npos) cenv) Q' E s)
    (h : ∀ r h' tk g' ys, Ext s.heap g g' h' → LstAt g' r ys → Res w g' ys ls → ys.length ≤ sizeLine → Q r { s with heap := h', toks := tk }) :
    wpAny (model PR w) ((ar dp un gd outer).deeper env) (getMethod p (Str.ofString "find") pl) (fun r s₁ => wpAny (model PR w) ((ar dp un gd outer).deeper env) (callWith pos r.1 r.2 (backTo pos (starEach [.Name nm npos] cenv)) []) Q E s₁) E s := by
  obtain ⟨hz, q, C, fa, es, rfl, Ip, hfa, hes, hcon⟩ := H
  obtain ⟨dq, nq, IQ⟩ := Ip.inst hg
  have S' := S.keeps k
  refine find_method hfa S'.X IQ hes ?_
  refine callWith_K S'.X (find_keep hfa) ?_
  tb_rel
  refine hn _ ?_
  tb_rel
  refine ⟨S'.X, ?_⟩
  refine hcon.ucall (dp := dp + 1) (un := un + 3) (gd := gd) (outer := env :: outer) hd hu S' hg ⟨rfl, fun _ _ e => e⟩ ?_
  rintro r h' tk g' x' ⟨ys, hL, hR⟩
  exact h r h' tk g' ys x' hL hR (hR.len ▸ hz)
theorem isEmpty_len {α β : Type} {a : List α} {b : List β} (h : a.length = b.length) : a.isEmpty = b.isEmpty := by
  cases a <;> cases b <;> simp_all
theorem fit_size {n : Nat} (h : n ≤ sizeLine) : ((n : Nat) : Int) < 2 ^ 63 := by
  have : sizeLine = 16777216 := by decide
  omega
theorem whn_finds {w : World} {g : Snap} {q : Addr} {x pl pr : Value} {d u : Nat} {t1 t2 : Tok} {ls : List Item} {f : Item → List Item} (Iq : IsObj g q 518 [ent w "left" t1 pl, ent w "right" t2 pr]) (hl : Finds w g pl x d u ls)
    (hr : ∀ g' y it, Sle g g' → it ∈ ls → IsDat w g' y it → Finds w g' pr y d u (f it)) : Finds w g (.ref q) x (d + 3) (u + 10) (ls.filter fun it => (f it).isEmpty) := by
  have hz := hl.1
  refine ⟨Nat.le_trans (List.length_filter_le _ _) hz, q, 518, 494, _, rfl, Iq, .whn, rfl, ?_⟩
  intro dp un gd outer s args g1 Q E hdp hu S hg ⟨e, hle⟩ hret
  subst e
  obtain ⟨dq, nq, IQ⟩ := (Iq.up hle).inst hg
  have S' := S
  obtain ⟨X, ⟨p', l, me, mg, mb, T⟩, base, outer', B⟩ := S'
  k_dflt (refine' con_enterC [(Str.ofString "self", .ref q), (Str.ofString "data", x)] S ?k1 ?k2 ?k3 ?k4 ?k5 ?k6 ?h ?a ?b ?c)
  tb_start
  case h =>
    intro L h₁ tk cells F N Y
    k_cells Y
    iterate 2 tb_rel
    rename_i o1 d1
    have hc : o1.data = .cell (some (.ref q)) := d1
    clear d1
    k_dflt (refine' lc_list ?hh ?hclos ?hcell ?hkind ?hnames ?ha ?h ?hs)
    case hh => exact rfl
    case hclos => with_unfolding_all rfl
    case hcell => decide
    case hkind => exact rfl
    case hnames => decide
    case ha => exact rfl
    case hs => intro _; exact rfl
    refine with_deep S F rfl rfl ?_
    intro SD
    obtain ⟨p, rfl⟩ : ∃ p, pl = .ref p := let ⟨_, p, _, _, _, e, _⟩ := hl; ⟨p, e⟩
    iterate 4 tb_rel
    have hg1 : InH g1 h₁ := fun b o e => F.keep b o (hg b o e)
    refine find_tail SD (fun _ _ e => e) (by omega) (by omega) hg1 (hl.up hle (Nat.le_refl _) (Nat.le_refl _)) ?_ ?_
    · intro Q' hQ
      tb_rel
      exact hQ
    · intro r h2 tk2 g2 ys x2 hL hR hyz
      dsimp only at x2 ⊢
      refine ⟨g2, ys, fun i zs g' => Both (IsDat w g') zs ((ls.take i).filter fun it => (f it).isEmpty), fun i v zs g' => ∃ it, ls[i]? = some it ∧ IsDat w g' v it ∧ (f it).isEmpty = true ∧ Both (IsDat w g') zs ((ls.take i).filter fun it => (f it).isEmpty), hL, x2.inh, hyz, trivial, ⟨?tests, ?elt⟩, ?fin⟩
      case tests =>
        intro C i v zs g' H tk' m E' hC hi hzs hv hJ hle' hin hH hn hm
        dsimp only at hC hH ⊢
        obtain ⟨it, hit, hD⟩ := hR.at hv
        obtain ⟨FC, kH⟩ := fr_comp F x2.grow hC (wr := []) (by simp) (fun b o _ e => hH b o e) hn
        have NC := news_comp N x2.grow kH hC
        have SC := SD.keeps kH
        clear F N SD
        refine testsOf_one ?_
        have Hr := hr g' v it (fun b o e => hle' b o (x2.up b o (hle b o e))) (List.mem_of_getElem? hit) (hD.up hle')
        obtain ⟨p, rfl⟩ : ∃ p, pr = .ref p := let ⟨_, p, _, _, _, e, _⟩ := Hr; ⟨p, e⟩
        iterate 7 tb_rel
        refine find_tail SC (fun _ _ e => e) (by omega) (by omega) hin Hr ?_ ?_
        · intro Q' hQ
          tb_rel
          exact hQ
        · intro r3 h3 tk3 g3 ys3 x3 hL3 hR3 hyz3
          dsimp only at x3 ⊢
          obtain ⟨a3, n3, rfl, e3⟩ := hL3
          refine wpAny_truthy_list (items := ys3.toArray) ⟨_, x3.inh _ _ e3, rfl, _, rfl⟩ (fit_size (by simpa using hyz3)) ?_
          have hem : (!ys3.toArray.isEmpty) = !(f it).isEmpty := by rw [List.isEmpty_toArray, isEmpty_len hR3.len]
          rw [hem]
          clear hem
          cases hfi : (f it).isEmpty
          · refine ⟨g3, h3, _, rfl, x3, ?_⟩
            show Both (IsDat w g3) zs ((ls.take (i + 1)).filter fun it => (f it).isEmpty)
            rw [take_next hit, List.filter_append, show ([it].filter fun it => (f it).isEmpty) = [] by simp [hfi], List.append_nil]
            exact hJ.mono fun _ _ r => r.up x3.up
          · refine ⟨g3, h3, _, rfl, x3, ?_⟩
            exact ⟨it, hit, (hD.up hle').up x3.up, hfi, hJ.mono fun _ _ r => r.up x3.up⟩
      case elt =>
        intro C i v zs g' H tk' m E' hC hi hzs hv hJ hle' hin hH hn hm
        dsimp only at hC hH ⊢
        obtain ⟨it, hit, hD, he, hB⟩ := hJ
        obtain ⟨FC, kH⟩ := fr_comp F x2.grow hC (wr := []) (by simp) (fun b o _ e => hH b o e) hn
        tb_rel
        refine ⟨g', H, _, rfl, .refl hin, ?_⟩
        rw [take_next hit, List.filter_append]
        refine hB.append ?_
        rw [show ([it].filter fun it => (f it).isEmpty) = [it] by simp [he]]
        exact .one hD
      case fin =>
        intro r h3 tk3 zs g3 g4 hJ up4 x4 hL4 hlen4
        refine hret _ _ _ g4 ⟨fun b o e => x4.grow b o (x2.grow b o (F.keep b o e)), fun b o e => x4.up b o (x2.up b o e), x4.inh, fun b o e => ?_⟩ ⟨zs, hL4, ?_⟩
        · rcases x4.new b o e with z | z
          · exact (x2.new b o z).imp id (none_of_grow F.keep)
          · exact .inr (none_of_grow (fun b o e => x2.grow b o (F.keep b o e)) z)
        · have : Both (IsDat w g3) zs ((ls.take ys.length).filter fun it => (f it).isEmpty) := hJ
          rw [hR.len, List.take_length] at this
          exact this.mono fun _ _ r => r.up up4
end
end Mine
end
section
open PySem PySem.W PySem.Calls PyProof.Rows PySem.Spec
set_option Elab.async false
set_option maxRecDepth 100000
set_option maxHeartbeats 4000000
namespace Mine
noncomputable section
theorem fill4 : both1 PySem.Challenge.rw_ae5011_01 KF := by
  k_fill
  trivial
local macro_rules | `(tactic| k_inst) => `(tactic| first | with_reducible assumption | exact InstAt.up (by with_reducible assumption) (Fr.keep (by with_reducible assumption)))
local macro_rules | `(tactic| tb_start) => `(tactic| ((case k1 => first | omega | (simp only [recursionLimit] at *; omega)); (case k2 => k_is); (case k3 => k_is); (case k4 => exact BindsTo.of_eq rfl); (case k5 => exact rfl); (case k6 => decide +kernel); (case a => exact rfl); (case b => exact rfl); (case c => exact rfl)))
local macro_rules | `(tactic| walk_at "eval Name") => `(tactic| (k_dflt (refine' nm_local ?F ?x ?h ?a ?b; (case F => assumption); (case a => rfl); (case b => rfl); (case x => assumption); (case h => skip))))
local macro_rules | `(tactic| kit_at) => `(tactic| exact kitAt_F (by k_asm) (by with_reducible assumption) rfl)
local macro_rules | `(tactic| tb_rel) => `(tactic| first | (k_unfold; (try dsimp only)) | walk1 | (dsimp only; walk1))
theorem this_finds {w : World} {g : Snap} {q : Addr} {x : Value} {it : Item} (Iq : IsObj g q 327 []) (Dx : IsDat w g x it) : Finds w g (.ref q) x 2 20 [it] := by
  refine ⟨(by show 1 ≤ sizeLine; decide), q, 327, 282, [], rfl, Iq, .this, rfl, ?_⟩
  obtain ⟨d, val, p, c, rfl, I0, hT⟩ := Dx.obj
  intro dp un gd outer s args g1 Q E hdp hu S hg ⟨e, hle⟩ hret
  subst e
  refine thisfind_con w dp un gd outer s _ g1 Q E hdp hu S hg ⟨.ref q, d, _, p, c, rfl, (let ⟨t1, t2, t3, I⟩ := I0; ⟨t1, t2, t3, I.up hle⟩)⟩ ?_
  intro r h' tk g' X P
  exact hret r h' tk g' X ⟨_, P _ _ rfl, .one ((Dx.up hle).up X.up)⟩
theorem child_finds {w : World} {g : Snap} {q : Addr} {x pl pr : Value} {d u : Nat} {t1 t2 : Tok} {ls : List Item} {f : Item → List Item} (Iq : IsObj g q 421 [ent w "left" t1 pl, ent w "right" t2 pr]) (hl : Finds w g pl x d u ls)
    (hr : ∀ g' y it, Sle g g' → it ∈ ls → IsDat w g' y it → Finds w g' pr y d u (f it)) (hz : (ls.flatMap f).length ≤ sizeLine) : Finds w g (.ref q) x (d + 3) (u + 10) (ls.flatMap f) := by
  refine ⟨hz, q, 421, 348, _, rfl, Iq, .child, rfl, ?_⟩
  intro dp un gd outer s args g1 Q E hdp hu S hg ⟨e, hle⟩ hret
  subst e
  obtain ⟨dq, nq, IQ⟩ := (Iq.up hle).inst hg
  have S' := S
  obtain ⟨X, ⟨p', l, me, mg, mb, T⟩, base, outer', B⟩ := S'
  k_dflt (refine' con_enterC [(Str.ofString "self", .ref q), (Str.ofString "datum", x)] S ?k1 ?k2 ?k3 ?k4 ?k5 ?k6 ?h ?a ?b ?c)
  tb_start
  case h =>
    intro L h₁ tk cells F N Y
    k_cells Y
    iterate 2 tb_rel
    rename_i o1 d1
    have hc : o1.data = .cell (some (.ref q)) := d1
    clear d1
    k_dflt (refine' lcn_list ?hh ?hclos ?hcell ?hkind ?hnames ?ha ?hb ?hc ?h ?hs ?hs2)
    case hh => exact rfl
    case hclos => with_unfolding_all rfl
    case hcell => decide
    case hkind => exact rfl
    case hnames => decide
    case ha => exact rfl
    case hb => exact rfl
    case hc => decide
    case hs => intro _; exact rfl
    case hs2 => intro _ _; exact rfl
    refine with_deep S F rfl rfl ?_
    intro SD
    obtain ⟨p, rfl⟩ : ∃ p, pl = .ref p := let ⟨_, p, _, _, _, e, _⟩ := hl; ⟨p, e⟩
    iterate 4 tb_rel
    have hg1 : InH g1 h₁ := fun b o e => F.keep b o (hg b o e)
    refine find_tail SD (fun _ _ e => e) (by omega) (by omega) hg1 (hl.up hle (Nat.le_refl _) (Nat.le_refl _)) ?_ ?_
    · intro Q' hQ
      tb_rel
      exact hQ
    · intro r h2 tk2 g2 ys x2 hL hR hyz
      dsimp only at x2 ⊢
      refine ⟨g2, ys, fun i zs g' => Both (IsDat w g') zs ((ls.take i).flatMap f), hL, x2.inh, trivial, ?size, ?turn, ?fin⟩
      case size =>
        intro i zs g' hB
        rw [hB.len]
        refine Nat.le_trans ?_ hz
        conv => rhs; rw [← List.take_append_drop i ls, List.flatMap_append, List.length_append]
        exact Nat.le_add_right _ _
      case turn =>
        intro C i v zs g' H tk' m E' hC hi hv hJ hle' hin hH hn hm
        dsimp only at hC hH ⊢
        obtain ⟨it, hit, hD⟩ := hR.at hv
        obtain ⟨FC, kH⟩ := fr_comp F x2.grow hC (wr := []) (by simp) (fun b o _ e => hH b o e) hn
        have NC := news_comp N x2.grow kH hC
        have SC := SD.keeps kH
        clear F N SD
        have Hr := hr g' v it (fun b o e => hle' b o (x2.up b o (hle b o e))) (List.mem_of_getElem? hit) (hD.up hle')
        obtain ⟨p, rfl⟩ : ∃ p, pr = .ref p := let ⟨_, p, _, _, _, e, _⟩ := Hr; ⟨p, e⟩
        iterate 5 tb_rel
        refine find_tail SC (fun _ _ e => e) (by omega) (by omega) hin Hr ?_ ?_
        · intro Q' hQ
          tb_rel
          exact hQ
        · intro r3 h3 tk3 g3 ys3 x3 hL3 hR3 hyz3
          dsimp only at x3 ⊢
          refine ⟨g3, h3, _, ys3, rfl, x3, hL3, ?_⟩
          show Both (IsDat w g3) (zs ++ ys3) ((ls.take (i + 1)).flatMap f)
          rw [take_next hit, List.flatMap_append, show [it].flatMap f = f it by simp]
          exact (hJ.mono fun _ _ r => r.up x3.up).append hR3
      case fin =>
        intro r h3 tk3 zs g3 g4 hJ up4 x4 hL4
        refine hret _ _ _ g4 ⟨fun b o e => x4.grow b o (x2.grow b o (F.keep b o e)), fun b o e => x4.up b o (x2.up b o e), x4.inh, fun b o e => ?_⟩ ⟨zs, hL4, ?_⟩
        · rcases x4.new b o e with z | z
          · exact (x2.new b o z).imp id (none_of_grow F.keep)
          · exact .inr (none_of_grow (fun b o e => x2.grow b o (F.keep b o e)) z)
        · have : Both (IsDat w g3) zs ((ls.take ys.length).flatMap f) := hJ
          rw [hR.len, List.take_length] at this
          exact this.mono fun _ _ r => r.up up4
end
end Mine
end
section
open PySem PySem.W PySem.Calls PyProof.Rows PySem.Spec
set_option Elab.async false
set_option maxRecDepth 100000
set_option maxHeartbeats 4000000
namespace Mine
noncomputable section
theorem fill5 : both1 PySem.Challenge.rw_ae5011_01 KF := by
  k_fill
  trivial
local macro_rules | `(tactic| k_inst) => `(tactic| first | with_reducible assumption | exact InstAt.up (by with_reducible assumption) (Fr.keep (by with_reducible assumption)))
local macro_rules | `(tactic| tb_start) => `(tactic| ((case k1 => first | omega | (simp only [recursionLimit] at *; omega)); (case k2 => k_is); (case k3 => k_is); (case k4 => k_is); (case k5 => k_is); (case k6 => k_is); (case k7 => intro x; exact rfl); (case k8 => exact Nat.le_of_ble_eq_true rfl); (case k9 => intro x t; exact locs rfl); (case a => exact rfl); (case b => exact rfl); (case c => exact rfl); (case e => decide)))
local macro_rules | `(tactic| walk_at "eval Name") => `(tactic| (k_dflt (refine' nm_local ?F ?x ?h ?a ?b; (case F => assumption); (case a => rfl); (case b => rfl); (case x => assumption); (case h => skip))))
local macro_rules | `(tactic| kit_at) => `(tactic| exact kitAt_F (by k_asm) (by with_reducible assumption) rfl)
local macro_rules | `(tactic| tb_rel) => `(tactic| first | (k_unfold; (try dsimp only)) | walk1 | (dsimp only; walk1))
/-- a def with *rest -/
theorem con_enterS {w : World} {s : Shared} {dp un : Nat} {gd : Option (List Code)} {outer : List Env} {R : Result → Shared → Prop} {name qual : Str} {params : Arguments} {body : List Stmt} {scope : Scope} {dV kV doc pm cdv ct oc : Value} {an od : Option Addr} {osl : Array (Option Value)} {f : Addr} {args : Args} (vs : List Value) (binds : Value → List (Str × Value))
    (S : St w (ar dp un gd outer) s.heap) (hroom : dp < recursionLimit)
    (ho : (KF w.params).lookup f = some ⟨oc, od, .func (fnOf name qual params body scope dV kV doc pm an cdv ct), osl⟩) (hcd : codeIn (KF w.params) cdv qual = true)
    (hbind : bindArgs (fnOf name qual params body scope dV kV doc pm an cdv ct) args = (newTuple vs >>= fun t => pure (binds t))) (hsz : vs.length ≤ sizeLine) (hloc : ∀ t, ∀ y ∈ binds t, scope.names.lookup y.1 = some .local)
    (h : ∀ D L h₁ tk, Fr s.heap L h₁ (fun y => (binds (.ref D)).reverse.lookup y) → News s.heap L h₁ [(D, { cls := .type "tuple", data := .seq vs.toArray })] →
      wpAny (model PR w) ((ar dp un gd outer).deeper (envOf qual scope L f cdv)) (execs body (envOf qual scope L f cdv))
        (fun fl s' => R (.ok (.ret (match fl with | .ret v => v | _ => .none))) s') (fun _ _ => False)
        { s with heap := h₁, toks := tk })
    (hco : scope.isCoroutine = false) (hgen : scope.isGenerator = false) (hk : scope.kind = .function)
    (hcell : ∀ x ∈ scope.names, x.2 ≠ .cell) : codeAny (model PR w) (ar dp un gd outer) (.call (.ref f) args) R s := by
  obtain ⟨X, ⟨p, l, me, mg, mb, T⟩, _⟩ := S
  obtain ⟨hh, gg, dd, tt, os⟩ := s
  dsimp only at X T h
  refine codeAny_call_function (fd := fnOf name qual params body scope dV kV doc pm an cdv ct) (body := body) hroom (X _ _ ho) rfl hco hgen rfl (codeRec_of X hcd) ?_
  rw [hbind]
  refine wpAny_bind (wpAny_newObj_type (wpAny_pure ?_) (by show vs.toArray.size ≤ sizeLine; rw [List.size_toArray]; exact hsz))
  have k : Grow hh (hh.push { cls := .type "tuple", data := .seq vs.toArray }) := fun b o e => Heap.get?_push_of_some _ e
  have s1 : (hh.push { cls := .type "tuple", data := .seq vs.toArray }).objs.size = hh.objs.size + 1 := Heap.size_push ..
  refine wpAny_newFunctionEnv hcell (hloc _) (fun h₁ hns hsb => ⟨?_, codeAny_func ?_⟩) hk
  · exact (T.nolimit.keeps k).fresh _ hsb
  have hk₁ : ∀ b o, (hh.push { cls := .type "tuple", data := .seq vs.toArray }).get? b = some o → h₁.get? b = some o := fun b o e => hsb.extBut b o (Nat.ne_of_lt (Heap.lt_size e)) (Heap.get?_push_of_some _ e)
  refine wpAny_mono (h hh.objs.size _ h₁ _ ⟨hns, fun b o e => hk₁ b o (k b o e), by show hh.objs.size ≤ (hh.push _).objs.size; rw [s1]; exact Nat.le_succ _⟩ (fun p hp => ?_)) (fun fl s' hl => hl) (fun _ _ x => x.elim)
  rcases List.mem_cons.mp hp with rfl | hp
  · refine ⟨hk₁ _ _ (Heap.get?_push_size _ rfl), ?_, ?_⟩
    · show hh.objs.size ≠ (hh.push _).objs.size
      rw [s1]; exact Nat.ne_of_lt (Nat.lt_succ_self _)
    · exact fresh_none (Nat.le_refl _)
  · cases hp
/-- more objects under a ledger, out of what a call has made -/
theorem news_more {base hc h : Heap} {L : Addr} {g g' : Snap} {news : List (Addr × Obj)} {a : Addr} {o : Obj} (N : News base L h news) (kb : Grow base hc) (hL : ∃ o, hc.get? L = some o) (ga : g a = none) (x : Ext hc g g' h) (e : g' a = some o) : News base L h ((a, o) :: news) := fun p hp => by
  rcases List.mem_cons.mp hp with rfl | hp
  · have z : hc.get? a = none := (x.new a o e).elim (fun q => by rw [ga] at q; cases q) id
    refine ⟨x.inh _ _ e, ?_, none_of_grow kb z⟩
    rintro rfl
    obtain ⟨o', q⟩ := hL
    rw [z] at q; cases q
  · exact N p hp
theorem ext_base {base hc h : Heap} {g g' : Snap} (k : Grow base hc) (x : Ext hc g g' h) : Ext base g g' h := ⟨fun b o e => x.grow b o (k b o e), x.up, x.inh, fun b o e => (x.new b o e).imp id (none_of_grow k)⟩
theorem ne_fresh {hc h : Heap} {g g' : Snap} {a b : Addr} {o o' : Obj} (e : hc.get? b = some o') (ga : g a = none) (x : Ext hc g g' h) (ea : g' a = some o) : b ≠ a := by
  rintro rfl
  rcases x.new b o ea with q | q
  · rw [ga] at q; cases q
  · rw [e] at q; cases q
theorem fr_live {h₀ h : Heap} {L : Addr} {m : Str → Option Value} (F : Fr h₀ L h m) : ∃ o, h.get? L = some o := by obtain ⟨o, _, _, e, _⟩ := F.ns; exact ⟨o, e⟩
/-- the names asked for -/
inductive Asked : Str → Prop
  | first : Asked (Str.ofString "first")
  | second : Asked (Str.ofString "second")
  | both : Asked (Str.ofString "both")
theorem fields_con (w : World) (nm : Str) (tk : Tok) (hn : Asked nm) : Con w 646 2 20 (fun g a => a = ⟨[.str nm tk], []⟩) (fun g a g' r => ∃ x dx tup m t1 t2, r = .ref x ∧ g' x = some (instObj 646 dx) ∧ g' dx = some (dictOf [ent w (Str.ofString "_deprecated_wildcard_use") t1 (.bool false), ent w (Str.ofString "fields") t2 (.ref tup)] 2) ∧
    g' tup = some { cls := .type "tuple", data := .seq #[.str nm tk] m } ∧ g x = none ∧ g dx = none) := by
  intro dp un gd outer s args g Q E hdp hu S hg e hret
  subst e
  have S' := S
  obtain ⟨X, ⟨p, l, me, mg, mb, T⟩, base, outer', B⟩ := S'
  k_dflt (refine' con_makeS [.str nm tk] (fun x t => [(Str.ofString "self", .ref x), (Str.ofString "fields", t)]) S ?k1 ?k2 ?k3 ?k4 ?k5 ?k6 ?k7 ?k8 ?k9 ?h ?a ?b ?c ?e)
  tb_start
  case h =>
    intro x dx D L h₁ tk' F N l1 l2
    cases hn
    all_goals
      k_steps
      rename News _ _ _ _ => N3
      rename Fr _ _ _ _ => F3
      refine hret _ _ _ _ (.news hg F3 N3) ?_
      exact ⟨_, _, _, _, _, _, rfl, snap_of N3 (by k_mem), snap_of N3 (by k_mem), snap_of N3 (by k_mem), none_of_inH hg (N3 (x, _) (by k_mem)).2.2, none_of_inH hg (N3 (dx, _) (by k_mem)).2.2⟩
local macro_rules | `(tactic| tb_start) => `(tactic| ((case k1 => first | omega | (simp only [recursionLimit] at *; omega)); (case k2 => k_is); (case k3 => k_is); (case k4 => exact rfl); (case k5 => exact Nat.le_of_ble_eq_true rfl); (case k6 => intro t; exact locs rfl); (case a => exact rfl); (case b => exact rfl); (case c => exact rfl); (case e => decide)))
theorem comp_con (w : World) (nm : Str) (tk : Tok) (hn : Asked nm) : Con w 541 4 40 (fun g a => a = ⟨[.ref 646, .str nm tk], []⟩) (fun g a g' r => ∃ x es, r = .ref x ∧ IsObj g' x 646 es) := by
  intro dp un gd outer s args g Q E hdp hu S hg e hret
  subst e
  have S' := S
  obtain ⟨X, ⟨p, l, me, mg, mb, T⟩, base, outer', B⟩ := S'
  k_dflt (refine' con_enterS [.str nm tk] (fun t => [(Str.ofString "cls", .ref 646), (Str.ofString "fields", t)]) S ?k1 ?k2 ?k3 ?k4 ?k5 ?k6 ?h ?a ?b ?c ?e)
  tb_start
  case h =>
    intro D L h₁ tk' F N
    k_steps
    rename News _ _ _ _ => N1
    rename Fr _ _ _ _ => F1
    have L1 := fr_live F1
    have K1 := F1.keep
    refine (fields_con w nm tk hn).fcall S F1 rfl rfl (by omega) (by omega) (fun b o e => F1.keep b o (hg b o e)) rfl ?_
    rintro r h2 tk2 g2 x2 F2 N2 ⟨x, dx, tup, m, t1, t2, rfl, e1, e2, e3, z1, z2⟩
    have q1 : @Ne Nat D x := ne_fresh (N1 _ (.head _)).1 z1 x2 e1
    have q2 : @Ne Nat D dx := ne_fresh (N1 _ (.head _)).1 z2 x2 e2
    have q3 : @Ne Nat x dx := fun q => by have q' : x = dx := q; rw [q', e2] at e1; cases e1
    have N3 := news_more (news_more (N2 N1) K1 L1 z2 x2 e2) K1 L1 z1 x2 e1
    clear N2 N1 F1
    k_steps
    rename News _ _ _ _ => N4
    rename Fr _ _ _ _ => F4
    refine hret _ _ _ _ (.news hg F4 N4) ?_
    exact ⟨_, _, rfl, _, _, snap_of N4 (by k_mem), snap_of N4 (by k_mem)⟩
end
end Mine
end
section
open PySem PySem.W PySem.Calls PyProof.Rows PySem.Spec
set_option Elab.async false
set_option maxRecDepth 100000
set_option maxHeartbeats 4000000
namespace Mine
noncomputable section
theorem fill6 : both1 PySem.Challenge.rw_ae5011_01 KF := by
  k_fill
  trivial
local macro_rules | `(tactic| k_inst) => `(tactic| first | with_reducible assumption | exact InstAt.up (by with_reducible assumption) (Fr.keep (by with_reducible assumption)))
local macro_rules | `(tactic| tb_start) => `(tactic| ((case k1 => first | omega | (simp only [recursionLimit] at *; omega)); (case k2 => k_is); (case k3 => k_is); (case k4 => exact BindsTo.of_eq rfl); (case k5 => exact locs rfl); (case a => exact rfl); (case b => exact rfl); (case c => exact rfl); (case e => decide)))
local macro_rules | `(tactic| walk_at "eval Name") => `(tactic| (k_dflt (refine' nm_local ?F ?x ?h ?a ?b; (case F => assumption); (case a => rfl); (case b => rfl); (case x => assumption); (case h => skip))))
local macro_rules | `(tactic| kit_at) => `(tactic| exact kitAt_F (by k_asm) (by with_reducible assumption) rfl)
local macro_rules | `(tactic| tb_rel) => `(tactic| first | (k_unfold; (try dsimp only)) | walk1 | (dsimp only; walk1))
/-- Fields of one name -/
def IsFlds (w : World) (g : Snap) (q : Addr) (nm : Str) (tk : Tok) : Prop := ∃ tup m t1 t2, IsObj g q 646 [ent w (Str.ofString "_deprecated_wildcard_use") t1 (.bool false), ent w (Str.ofString "fields") t2 (.ref tup)] ∧ g tup = some { cls := .type "tuple", data := .seq #[.str nm tk] m }
theorem IsFlds.up {w : World} {g g' : Snap} {q : Addr} {nm : Str} {tk : Tok} (k : Sle g g') (h : IsFlds w g q nm tk) : IsFlds w g' q nm tk := let ⟨a, b, c, d, e, f⟩ := h; ⟨a, b, c, d, e.up k, k _ _ f⟩
theorem wildarr_con (w : World) (q : Addr) (nm : Str) (tk : Tok) (val : Value) : Con w 551 2 20 (fun g a => a = ⟨[.ref q, val], []⟩ ∧ IsFlds w g q nm tk) (fun _ _ _ r => r = .bool false) := by
  intro dp un gd outer s args g Q E hdp hu S hg ⟨e, tup, m, t1, t2, I, ht⟩ hret
  subst e
  obtain ⟨dq, nq, IQ⟩ := I.inst hg
  have S' := S
  obtain ⟨X, ⟨p, l, me, mg, mb, T⟩, base, outer', B⟩ := S'
  k_dflt (refine' con_enter [(Str.ofString "self", .ref q), (Str.ofString "value", val)] S ?k1 ?k2 ?k3 ?k4 ?k5 ?h ?a ?b ?c ?e)
  tb_start
  case h =>
    intro L h₁ F N
    k_steps
    rename Fr _ _ _ _ => F1
    exact hret _ _ _ g (.of_grow hg F1.keep) rfl
theorem reified_con (w : World) (q : Addr) (nm : Str) (tk : Tok) (d : Value) : Con w 568 2 20 (fun g a => a = ⟨[.ref q, d], []⟩ ∧ IsFlds w g q nm tk) (fun _ _ g' r => ∃ tup m, r = .ref tup ∧ g' tup = some { cls := .type "tuple", data := .seq #[.str nm tk] m }) := by
  intro dp un gd outer s args g Q E hdp hu S hg ⟨e, tup, m, t1, t2, I, ht⟩ hret
  subst e
  obtain ⟨dq, nq, IQ⟩ := I.inst hg
  have S' := S
  obtain ⟨X, ⟨p, l, me, mg, mb, T⟩, base, outer', B⟩ := S'
  k_dflt (refine' con_enter [(Str.ofString "self", .ref q), (Str.ofString "datum", d)] S ?k1 ?k2 ?k3 ?k4 ?k5 ?h ?a ?b ?c ?e)
  tb_start
  case h =>
    intro L h₁ F N
    k_steps
    rename Fr _ _ _ _ => F1
    exact hret _ _ _ g (.of_grow hg F1.keep) ⟨tup, m, rfl, ht⟩
/-- the document: a dict of str keys -/
def IsDoc (w : World) (g : Snap) (d : Addr) (kvs : List (Str × Value)) : Prop := (d == sysModules) = false ∧ ∃ o, g d = some o ∧ o.IsDictOf (strKind PR w) kvs
theorem IsDoc.up {w : World} {g g' : Snap} {d : Addr} {kvs : List (Str × Value)} (k : Sle g g') (h : IsDoc w g d kvs) : IsDoc w g' d kvs := let ⟨a, b, c, e⟩ := h; ⟨a, b, k _ _ c, e⟩
theorem IsDoc.at {w : World} {g : Snap} {h : Heap} {d : Addr} {kvs : List (Str × Value)} (x : IsDoc w g d kvs) (k : InH g h) : h.DictOf (strKind PR w) d kvs := let ⟨_, b, c, e⟩ := x; Heap.dictOf_iff.mpr ⟨b, k _ _ c, e⟩
theorem getfield_con (w : World) (d doc va : Addr) (p c : Value) (nm : Str) (tk : Tok) (kvs : List (Str × Value)) (t : Tree) (hn : Asked nm) (hk : valueAt kvs nm = some (.ref va)) :
    Con w 558 6 60 (fun g a => a = ⟨[.ref d, .str nm tk, .bool false], []⟩ ∧ DatObj w g d (.ref doc) p c ∧ IsDoc w g doc kvs ∧ IsTree g (.ref va) t) (fun _ _ g' r => IsDat w g' r (none, t)) := by
  intro dp un gd outer s args g Q E hdp hu S hg ⟨e, I0, D0, T0⟩ hret
  subst e
  have S' := S
  obtain ⟨X, ⟨p', l, me, mg, mb, T⟩, base, outer', B⟩ := S'
  k_dflt (refine' con_enter [(Str.ofString "datum", .ref d), (Str.ofString "field", .str nm tk), (Str.ofString "create", .bool false)] S ?k1 ?k2 ?k3 ?k4 ?k5 ?h ?a ?b ?c ?e)
  tb_start
  case h =>
    intro L h₁ F N
    k_steps
    rename Fr _ _ _ _ => F1
    rename News _ _ _ _ => N1
    refine with_deep S F1 rfl rfl ?_
    intro SD
    refine val_at SD (fun _ _ e => e) (by omega) (by omega) (fun b o e => F1.keep b o (hg b o e)) I0 ?_
    intro h2 tk2 k2
    replace F2 := F1.keeps k2
    replace N2 := N1.grown k2
    clear F1 N1
    k_steps
    have hd2 : h2.DictOf (strKind PR w) doc kvs := D0.at fun b o e => F2.keep b o (hg b o e)
    refine getMethod_builtin hd2.typeIs PySem.F.plainAttrs_dict PySem.F.slot_dict_get PySem.F.type_dict_get hd2.mapOf.noDict ?_
    k_steps
    rename Fr _ _ _ _ => F3
    rename News _ _ _ _ => N3
    refine call_meetsIn PySem.F.slot_dict_get hd2.typeIs PySem.F.entry_dict_get (PySem.F.args_dict_get_3 _ _ _) (meets_dict_get_default (strKind PR w) doc (strKind_is PR w nm _) D0.1 _) ⟨_, hd2.mapOf, ?_⟩
    have hv : (valueAt kvs nm).getD (.ref 59) = .ref va := by rw [hk]; rfl
    rw [hv]
    k_steps
    obtain ⟨nv, vs, hvs⟩ := T0.lst
    have hv0 := hg _ _ hvs
    have e59 : ∃ o, (KF w.params).lookup 59 = some o ∧ o.cls = .ref 53 := ⟨_, by k_dflt k_is, rfl⟩
    obtain ⟨o59, l59, c59⟩ := e59
    have hne : va ≠ 59 := by
      rintro rfl
      rw [X _ _ l59] at hv0
      cases hv0
      cases c59
    rename Fr _ _ _ _ => F5
    rename News _ _ _ _ => N5
    refine kto_is (F5.keep _ _ hv0) (F5.keep _ _ (X _ _ l59)) hne (by intro z; exact absurd (Value.type.inj z) (by decide)) ?_
    k_steps
    clear F5 N5
    rename Fr _ _ _ _ => F6
    rename News _ _ _ _ => N6
    refine (comp_con w nm _ hn).fmeth S F6 rfl rfl (by omega) (by omega) (fun b o e => F6.keep b o (hg b o e)) (N6 _ (.head _)).1 rfl ?_
    rintro r h7 tk7 g7 x7 F7 N7 ⟨xf, es, rfl, If⟩
    have K6 := F6.keep
    replace N7 := N7 N6
    clear F6 N6
    k_steps
    refine (datum_con w).fcall S F7 rfl rfl (by omega) (by omega) x7.inh ⟨_, _, _, _, _, _, _, rfl, ⟨_, _, _, rfl, .inr rfl, If⟩, rfl, (let ⟨t1, t2, t3, I⟩ := I0; ⟨t1, t2, t3, I.up x7.up⟩)⟩ ?_
    rintro r h8 tk8 g8 x8 F8 N8 P8
    obtain ⟨x, rfl, t1, t2, t3, IX⟩ := P8 _ _ _ rfl
    k_steps
    exact hret _ _ _ g8 ((ext_base K6 x7).trans x8) ⟨x, _, _, _, t1, t2, t3, rfl, IX, (T0.up x7.up).up x8.up, fun i e => by cases e⟩
end
end Mine
end
section
open PySem PySem.W PySem.Calls PyProof.Rows PySem.Spec
set_option Elab.async false
set_option maxRecDepth 100000
set_option maxHeartbeats 4000000
namespace Mine
noncomputable section
theorem fill7 : both1 PySem.Challenge.rw_ae5011_01 KF := by
  k_fill
  trivial
local macro_rules | `(tactic| k_inst) => `(tactic| first | with_reducible assumption | exact InstAt.up (by with_reducible assumption) (Fr.keep (by with_reducible assumption)))
local macro_rules | `(tactic| tb_start) => `(tactic| ((case k1 => first | omega | (simp only [recursionLimit] at *; omega)); (case k2 => k_is); (case k3 => k_is); (case k4 => exact BindsTo.of_eq rfl); (case k5 => exact locs rfl); (case a => exact rfl); (case b => exact rfl); (case c => exact rfl); (case e => decide)))
local macro_rules | `(tactic| walk_at "eval Name") => `(tactic| (k_dflt (refine' nm_local ?F ?x ?h ?a ?b; (case F => assumption); (case a => rfl); (case b => rfl); (case x => assumption); (case h => skip))))
local macro_rules | `(tactic| kit_at) => `(tactic| exact kitAt_F (by k_asm) (by with_reducible assumption) rfl)
local macro_rules | `(tactic| tb_rel) => `(tactic| first | (k_unfold; (try dsimp only)) | walk1 | (dsimp only; walk1))
theorem none_ext {h h' : Heap} {g g' : Snap} {L : Addr} (x : Ext h g g' h') (live : ∃ o, h.get? L = some o) (z : g L = none) : g' L = none := by
  cases e : g' L with
  | none => rfl
  | some o =>
    obtain ⟨o', q⟩ := live
    rcases x.new L o e with r | r
    · rw [z] at r; cases r
    · rw [q] at r; cases r
theorem puts_none {base h : Heap} {L : Addr} {g : Snap} {l : List (Addr × Obj)} (N : News base L h l) (z : g L = none) : g.puts l L = none := by
  unfold Snap.puts
  split
  · rename_i o q
    exact absurd rfl (N _ (lookup_mem q)).2.1
  · exact z
theorem none_base {base h : Heap} {L : Addr} {m : Str → Option Value} {g : Snap} (hg : InH g base) (F : Fr base L h m) : g L = none := none_of_inH hg (fresh_none F.above)
/-- a frame after a name is stored -/
theorem fr_set {h₀ h h' : Heap} {L : Addr} {m m' : Str → Option Value} (F : Fr h₀ L h m) (n : h'.Ns L m') (k : ∀ b o, b ≠ L → h.get? b = some o → h'.get? b = some o) : Fr h₀ L h' m' :=
  ⟨n, fun b o e => k b o (fun q => by rw [q, fresh_none F.above] at e; cases e) (F.keep b o e), F.above⟩
theorem testsOf_nil {M : Model} {A : Around} {Q : Bool → Shared → Prop} {E : Value → Shared → Prop} {s : Shared} {cenv : Env} (h : Q true s) : wpAny M A (testsOf [] cenv) Q E s := wpAny_pure h
theorem kitAt_up {h₀ h : Heap} {L a : Addr} {m : Str → Option Value} {T : String} (F : Fr h₀ L h m) (e : KitAt a T h₀) : KitAt a T h := let ⟨o, q, r⟩ := e; ⟨o, F.keep _ _ q, r⟩
theorem IsDoc.kit {w : World} {g : Snap} {s : Shared} {d : Addr} {kvs : List (Str × Value)} (x : IsDoc w g d kvs) (k : InH g s.heap) : KitAt d "dict" s.heap := (x.at k).typeIs
local macro_rules | `(tactic| kit_at) => `(tactic| exact kitAt_up (by k_asm) (by with_reducible assumption))
theorem wrapdoc_con (w : World) (doc : Addr) (kvs : List (Str × Value)) : Con w 152 6 60 (fun g a => a = ⟨[.ref 203, .ref doc], []⟩ ∧ IsDoc w g doc kvs) (fun g a g' r => ∃ x dx n p t1 t2 t3, r = .ref x ∧ g' x = some (instObj 203 dx) ∧ g' dx = some (dictOf [ent w "_value" t1 (.ref doc), ent w "path" t2 p, ent w "context" t3 .none] n) ∧ g x = none ∧ g dx = none) := by
  intro dp un gd outer s args g Q E hdp hu S hg ⟨e, D0⟩ hret
  subst e
  have KD := D0.kit hg
  have S' := S
  obtain ⟨X, ⟨p, l, me, mg, mb, T⟩, base, outer', B⟩ := S'
  k_dflt (refine' con_enter [(Str.ofString "cls", .ref 203), (Str.ofString "data", .ref doc)] S ?k1 ?k2 ?k3 ?k4 ?k5 ?h ?a ?b ?c ?e)
  tb_start
  case h =>
    intro L h₁ F N
    k_steps
    rename Fr _ _ _ _ => F1
    refine (datum0_con w).fcall S F1 rfl rfl (by omega) (by omega) (fun b o e => F1.keep b o (hg b o e)) ⟨_, rfl⟩ ?_
    rintro r h8 tk8 g8 x8 F8 N8 P8
    obtain ⟨x, dx, n, p, t1, t2, t3, rfl, e1, e2, z1, z2⟩ := P8 _ rfl
    k_steps
    exact hret _ _ _ g8 (ext_base F1.keep x8) ⟨x, dx, n, p, t1, t2, t3, rfl, e1, e2, z1, z2⟩
local macro_rules | `(tactic| tb_start) => `(tactic| ((case k1 => first | omega | (simp only [recursionLimit] at *; omega)); (case k2 => k_is); (case k3 => k_is); (case k4 => exact BindsTo.of_eq rfl); (case k5 => exact rfl); (case k6 => decide +kernel); (case a => exact rfl); (case b => exact rfl); (case c => exact rfl)))
theorem findbase_con (w : World) (q doc va : Addr) (nm : Str) (tkn : Tok) (kvs : List (Str × Value)) (t : Tree) (hn' : Asked nm) (hk : valueAt kvs nm = some (.ref va)) :
    Con w 587 14 120 (fun g a => a = ⟨[.ref q, .ref doc], [(Str.ofString "create", .bool false)]⟩ ∧ IsFlds w g q nm tkn ∧ IsDoc w g doc kvs ∧ IsTree g (.ref va) t) (fun _ _ g' r => ∃ ys, LstAt g' r ys ∧ Res w g' ys [(none, t)]) := by
  intro dp un gd outer s args g Q E hdp hu S hg ⟨e, I0, D0, T0⟩ hret
  subst e
  have KD := D0.kit hg
  have I0' := I0
  obtain ⟨tup, tm, tt1, tt2, IQ0, htup⟩ := I0'
  obtain ⟨dq, nq, IQ⟩ := IQ0.inst hg
  have S' := S
  obtain ⟨X, ⟨p', l, me, mg, mb, T⟩, base, outer', B⟩ := S'
  k_dflt (refine' con_enterC [(Str.ofString "self", .ref q), (Str.ofString "datum", .ref doc), (Str.ofString "create", .bool false)] S ?k1 ?k2 ?k3 ?k4 ?k5 ?k6 ?h ?a ?b ?c)
  tb_start
  case h =>
    intro L h₁ tk1 cells F N Y
    k_cells Y
    rename_i o3 o2 o1 d3 d2 d1
    have c1 : o1.data = .cell (some (.ref q)) := d1
    have c2 : o2.data = .cell (some (.ref doc)) := d2
    have c3 : o3.data = .cell (some (.bool false)) := d3
    clear d1 d2 d3
    k_steps
    rename Fr _ _ _ _ => F1
    rename News _ _ _ _ => N1
    have K1 := F1.keep
    refine (wrapdoc_con w doc kvs).fmeth S F1 rfl rfl (by omega) (by omega) (fun b o e => F1.keep b o (hg b o e)) (N1 _ (.head _)).1 ⟨rfl, D0⟩ ?_
    rintro r h2 tk2 g2 x2 F2 N2 ⟨d, dx, n, p, t1, t2, t3, rfl, e1, e2, z1, z2⟩
    have L1 := fr_live F1
    have q1 : @Ne Nat (L + 1 + 1 + 1) d := ne_fresh (N1 (L + 1 + 1 + 1, o3) (by k_mem)).1 z1 x2 e1
    have q2 : @Ne Nat (L + 1 + 1) d := ne_fresh (N1 (L + 1 + 1, o2) (by k_mem)).1 z1 x2 e1
    have q3 : @Ne Nat (L + 1) d := ne_fresh (N1 (L + 1, o1) (by k_mem)).1 z1 x2 e1
    have q4 : @Ne Nat (L + 1 + 1 + 1) dx := ne_fresh (N1 (L + 1 + 1 + 1, o3) (by k_mem)).1 z2 x2 e2
    have q5 : @Ne Nat (L + 1 + 1) dx := ne_fresh (N1 (L + 1 + 1, o2) (by k_mem)).1 z2 x2 e2
    have q6 : @Ne Nat (L + 1) dx := ne_fresh (N1 (L + 1, o1) (by k_mem)).1 z2 x2 e2
    have q7 : @Ne Nat d dx := fun q => by have q' : d = dx := q; rw [q', e2] at e1; cases e1
    have N3 := news_more (news_more (N2 N1) K1 L1 z2 x2 e2) K1 L1 z1 x2 e1
    clear N2 N1 F1
    k_steps
    rename Fr _ _ _ _ => F4
    rename News _ _ _ _ => N4
    rename_i h4 o2' c2'
    have c2 : o2'.data = .cell (some (.ref d)) := c2'
    clear c2'
    obtain ⟨g4, X4, gL4, I4⟩ : ∃ g4, Ext s.heap g g4 _ ∧ g4 L = none ∧ DatObj w g4 d (.ref doc) p .none := ⟨_, .news hg F4 (fun p hp => N4 p (List.mem_append_left _ hp) : News _ _ _ [_, _]), puts_none (fun p hp => N4 p (List.mem_append_left _ hp) : News _ _ _ [_, _]) (none_base hg F4), t1, t2, t3, _, _, snap_of (fun p hp => N4 p (List.mem_append_left _ hp) : News _ _ _ [_, _]) (by k_mem), snap_of (fun p hp => N4 p (List.mem_append_left _ hp) : News _ _ _ [_, _]) (by k_mem)⟩
    refine with_deep S F4 rfl rfl ?_
    intro SD4
    refine val_at SD4 (fun _ _ e => e) (by omega) (by omega) X4.inh I4 ?_
    intro h5 tk5 k5
    have L4 := fr_live F4
    have F5 := F4.keeps k5
    have L5 := fr_live F5
    have N5 := News.grown N4 k5
    clear F4 N4
    k_steps
    refine (wildarr_con w q nm _ _).fcall S F5 rfl rfl (by omega) (by omega) (fun b o e => k5 b o (X4.inh b o e)) ⟨rfl, I0.up X4.up⟩ ?_
    rintro r h6 tk6 g6 x6 F6 N6 rfl
    replace N6 := N6 N5
    clear F5 N5
    iterate 4 tb_rel
    k_dflt (refine' lc_any_assign ?hsw ?hclos ?hcell ?hkind ?hnames ?hx ?hy ?hp ?h ?hs)
    case hsw => exact rfl
    case hclos => with_unfolding_all rfl
    case hcell => decide
    case hkind => exact rfl
    case hnames => decide
    case hx => exact rfl
    case hy => exact rfl
    case hp => exact rfl
    case hs => intro _; exact rfl
    k_steps
    refine with_deep S F6 rfl rfl ?_
    intro SD6
    refine (reified_con w q nm _ _).fcall S F6 rfl rfl (by omega) (by omega) x6.inh ⟨rfl, (I0.up X4.up).up x6.up⟩ ?_
    rintro r h7 tk7 g7 x7 F7 N7 ⟨tup7, m7, rfl, e7⟩
    replace N7 := N7 N6
    have L6 := fr_live F6
    clear F6 N6
    have gL7 : g7 L = none := none_ext x7 L6 (none_ext x6 L5 gL4)
    have X7 : Ext s.heap g g7 h7 := (X4.trans (.of_grow X4.inh k5)).trans (x6.trans x7)
    refine ⟨g7, [Value.str nm tkn].length, fun i v => [Value.str nm tkn][i]? = some v, fun i ys g' => Both (IsDat w g') ys ([(none, t)].take i), fun i v ys g' => i = 0 ∧ v = .str nm tkn ∧ ys = [], _, .tuple rfl ⟨_, x7.inh _ _ e7⟩, x7.inh, by simp [sizeLine], trivial, ⟨?tests, ?elt⟩, F7.ns, gL7, ?fin⟩
    case tests =>
      intro C i v ys g' H tk' m E' hC hi hys hv hJ hle hin hH hn hm
      refine testsOf_nil ⟨g', H, _, rfl, .refl hin, ?_⟩
      obtain rfl : i = 0 := by simpa using hi
      obtain rfl : ys = [] := by cases ys; rfl; simp at hys
      exact ⟨rfl, by simpa using hv.symm, rfl⟩
    case elt =>
      intro C i v ys g' H tk' m E' hC hi hys hv hJ hle hin hH hn hm
      obtain ⟨rfl, rfl, rfl⟩ := hJ
      dsimp only at hC hH ⊢
      obtain ⟨FC, kH⟩ := fr_comp F7 (fun _ _ e => e) hC (wr := []) (by simp) (fun b o _ e => hH b o e) hn
      have NC := news_comp N7 (fun _ _ e => e) kH hC
      have SC := (SD6.keeps x7.grow).keeps kH
      clear F7 N7 SD6 SD4
      k_steps
      rename Fr _ _ _ _ => F8
      have I8 : DatObj w g' d (.ref doc) p .none := let ⟨a, b, c, I⟩ := I4; ⟨a, b, c, ((I.up x6.up).up x7.up).up hle⟩
      refine (getfield_con w d doc va p .none nm _ kvs t hn' hk).tcall SC F8 (fun _ _ e => e) (by omega) (by omega) hin ⟨rfl, I8, (D0.up X7.up).up hle, (T0.up X7.up).up hle⟩ ?_
      intro r h9 tk9 g9 x9 F9 N9 K9 P9
      exact ⟨g9, h9, _, rfl, x9, .one P9⟩
    case fin =>
      intro r h8 tk8 zs g8 g9 hJ hle8 up9 hin9 hnew9 hL9 hz9 hn9 gL9 hk9
      have F8 := fr_set F7 hn9 hk9
      clear F7 N7
      have hJ' : Both (IsDat w g8) zs [(none, t)] := hJ
      obtain ⟨y, rfl⟩ : ∃ y, zs = [y] := List.length_eq_one_iff.mp hJ'.len
      have Dy : IsDat w g9 y (none, t) := hJ'.1.up up9
      dsimp only
      iterate 2 tb_rel
      k_dflt (refine' lc_list ?hh ?hclos ?hcell ?hkind ?hnames ?ha ?h ?hs)
      case hh => exact rfl
      case hclos => with_unfolding_all rfl
      case hcell => decide
      case hkind => exact rfl
      case hnames => decide
      case ha => exact rfl
      case hs => intro _; exact rfl
      tb_rel
      refine ⟨g9, [y], fun i ys g' => Both (IsDat w g') ys ([(none, t)].take i), fun i v ys g' => i = 0 ∧ v = y ∧ ys = [] ∧ IsDat w g' y (none, t), hL9, hin9, by simp [sizeLine], trivial, ⟨?tests, ?elt⟩, ?fin⟩
      case tests =>
        intro C i v ys g' H tk' m E' hC hi hys hv hJ hle hin hH hn hm
        obtain rfl : i = 0 := by simpa using hi
        obtain rfl : ys = [] := by cases ys; rfl; simp at hys
        obtain rfl : y = v := by simpa using hv
        dsimp only at hC hH ⊢
        obtain ⟨FC, kH⟩ := fr_comp F8 (fun _ _ e => e) hC (wr := []) (by simp) (fun b o _ e => hH b o e) hn
        clear F8
        refine testsOf_one ?_
        obtain ⟨x, val, pp, c, rfl, Ix, Tx⟩ := Dy.obj
        iterate 5 tb_rel
        exact ⟨g', H, _, rfl, .refl hin, rfl, rfl, rfl, Dy.up hle⟩
      case elt =>
        intro C i v ys g' H tk' m E' hC hi hys hv hJ hle hin hH hn hm
        obtain ⟨rfl, rfl, rfl, Dz⟩ := hJ
        dsimp only at hC hH ⊢
        obtain ⟨FC, kH⟩ := fr_comp F8 (fun _ _ e => e) hC (wr := []) (by simp) (fun b o _ e => hH b o e) hn
        clear F8
        tb_rel
        exact ⟨g', H, _, rfl, .refl hin, .one Dz⟩
      case fin =>
        intro r h10 tk10 zs g10 g11 hJ10 up11 x11 hL11 hlen11
        have z : Both (IsDat w g10) zs [(none, t)] := hJ10
        refine hret _ _ _ g11 ?_ ⟨zs, hL11, z.mono fun _ _ r => r.up up11⟩
        have X9 : Ext s.heap g g9 h8 := ⟨F8.keep, fun b o e => up9 b o (hle8 b o (X7.up b o e)), hin9, fun b o e => by
          rcases hnew9 b o e with z | z
          · exact X7.new b o z
          · exact .inr (none_of_grow X7.grow z)⟩
        exact X9.trans x11
end
end Mine
end
section
open PySem PySem.W PySem.Calls PyProof.Rows PySem.Spec
set_option Elab.async false
set_option maxRecDepth 100000
set_option maxHeartbeats 4000000
namespace Mine
noncomputable section
theorem fill8 : both1 PySem.Challenge.rw_ae5011_01 KF := by
  k_fill
  trivial
local macro_rules | `(tactic| k_inst) => `(tactic| first | with_reducible assumption | exact InstAt.up (by with_reducible assumption) (Fr.keep (by with_reducible assumption)))
local macro_rules | `(tactic| tb_start) => `(tactic| ((case k1 => first | omega | (simp only [recursionLimit] at *; omega)); (case k2 => k_is); (case k3 => k_is); (case k4 => exact BindsTo.of_eq rfl); (case k5 => exact locs rfl); (case a => exact rfl); (case b => exact rfl); (case c => exact rfl); (case e => decide)))
local macro_rules | `(tactic| walk_at "eval Name") => `(tactic| (k_dflt (refine' nm_local ?F ?x ?h ?a ?b; (case F => assumption); (case a => rfl); (case b => rfl); (case x => assumption); (case h => skip))))
local macro_rules | `(tactic| kit_at) => `(tactic| exact kitAt_F (by k_asm) (by with_reducible assumption) rfl)
local macro_rules | `(tactic| tb_rel) => `(tactic| first | (k_unfold; (try dsimp only)) | walk1 | (dsimp only; walk1))
theorem fields_finds {w : World} {g : Snap} {q doc va : Addr} {nm : Str} {tkn : Tok} {kvs : List (Str × Value)} {t : Tree} (hn : Asked nm) (hk : valueAt kvs nm = some (.ref va)) (I0 : IsFlds w g q nm tkn) (D0 : IsDoc w g doc kvs) (T0 : IsTree g (.ref va) t) :
    Finds w g (.ref q) (.ref doc) 16 130 [(none, t)] := by
  have I0' := I0
  obtain ⟨tup, tm, tt1, tt2, IQ0, htup⟩ := I0'
  refine ⟨(by show 1 ≤ sizeLine; decide), q, 646, 575, _, rfl, IQ0, .flds, rfl, ?_⟩
  intro dp un gd outer s args g1 Q E hdp hu S hg ⟨e, hle⟩ hret
  subst e
  obtain ⟨dq, nq, IQ⟩ := (IQ0.up hle).inst hg
  have S' := S
  obtain ⟨X, ⟨p', l, me, mg, mb, T⟩, base, outer', B⟩ := S'
  k_dflt (refine' con_enter [(Str.ofString "self", .ref q), (Str.ofString "datum", .ref doc)] S ?k1 ?k2 ?k3 ?k4 ?k5 ?h ?a ?b ?c ?e)
  tb_start
  case h =>
    intro L h₁ F N
    k_steps
    rename Fr _ _ _ _ => F1
    refine (findbase_con w q doc va nm tkn kvs t hn hk).fcall S F1 rfl rfl (by omega) (by omega) (fun b o e => F1.keep b o (hg b o e)) ⟨rfl, I0.up hle, D0.up hle, T0.up hle⟩ ?_
    intro r h8 tk8 g8 x8 F8 N8 P8
    k_steps
    exact hret _ _ _ g8 (ext_base F1.keep x8) P8
end
end Mine
end
section
open PySem PySem.W PySem.Calls PyProof.Rows PySem.Spec
set_option Elab.async false
set_option maxRecDepth 100000
set_option maxHeartbeats 4000000
namespace Mine
noncomputable section
theorem fill9 : both1 PySem.Challenge.rw_ae5011_01 KF := by
  k_fill
  trivial
local macro_rules | `(tactic| k_inst) => `(tactic| first | with_reducible assumption | exact InstAt.up (by with_reducible assumption) (Fr.keep (by with_reducible assumption)))
local macro_rules | `(tactic| tb_start) => `(tactic| ((case k1 => first | omega | (simp only [recursionLimit] at *; omega)); (case k2 => k_is); (case k3 => k_is); (case k4 => k_is); (case k5 => k_is); (case k6 => k_is); (case k7 => intro x s' k; first | exact BindsTo.of_eq rfl | exact binds_K (K := KF _) (St.X (by assumption) |>.keeps k) rfl (by k_is) rfl rfl rfl); (case k9 => intro x; exact locs rfl); (case a => exact rfl); (case b => exact rfl); (case c => exact rfl); (case e => decide)))
local macro_rules | `(tactic| walk_at "eval Name") => `(tactic| (k_dflt (refine' nm_local ?F ?x ?h ?a ?b; (case F => assumption); (case a => rfl); (case b => rfl); (case x => assumption); (case h => skip))))
local macro_rules | `(tactic| kit_at) => `(tactic| exact kitAt_F (by k_asm) (by with_reducible assumption) rfl)
local macro_rules | `(tactic| tb_rel) => `(tactic| first | (k_unfold; (try dsimp only)) | walk1 | (dsimp only; walk1))
theorem child_mk (w : World) (l r : Value) : Con w 421 3 30 (fun g a => a = ⟨[l, r], []⟩) (fun g a g' v => ∃ x t1 t2, v = .ref x ∧ IsObj g' x 421 [ent w (Str.ofString "left") t1 l, ent w (Str.ofString "right") t2 r]) := by
  intro dp un gd outer s args g Q E hdp hu S hg e hret
  subst e
  have S' := S
  obtain ⟨X, ⟨p', l', me, mg, mb, T⟩, base, outer', B⟩ := S'
  k_dflt (refine' con_make (fun x => [(Str.ofString "self", .ref x), (Str.ofString "left", l), (Str.ofString "right", r)]) S ?k1 ?k2 ?k3 ?k4 ?k5 ?k6 ?k7 ?k9 ?h ?a ?b ?c ?e)
  tb_start
  case h =>
    intro x dx' L h₁ tk' F N l1
    k_steps
    rename News _ _ _ _ => N3
    rename Fr _ _ _ _ => F3
    refine hret _ _ _ _ (.news hg F3 N3) ?_
    exact ⟨_, _, _, rfl, _, _, snap_of N3 (by k_mem), snap_of N3 (by k_mem)⟩
theorem whn_mk (w : World) (l r : Value) : Con w 518 3 30 (fun g a => a = ⟨[l, r], []⟩) (fun g a g' v => ∃ x t1 t2, v = .ref x ∧ IsObj g' x 518 [ent w (Str.ofString "left") t1 l, ent w (Str.ofString "right") t2 r]) := by
  intro dp un gd outer s args g Q E hdp hu S hg e hret
  subst e
  have S' := S
  obtain ⟨X, ⟨p', l', me, mg, mb, T⟩, base, outer', B⟩ := S'
  k_dflt (refine' con_make (fun x => [(Str.ofString "self", .ref x), (Str.ofString "left", l), (Str.ofString "right", r)]) S ?k1 ?k2 ?k3 ?k4 ?k5 ?k6 ?k7 ?k9 ?h ?a ?b ?c ?e)
  tb_start
  case h =>
    intro x dx' L h₁ tk' F N l1
    k_steps
    rename News _ _ _ _ => N3
    rename Fr _ _ _ _ => F3
    refine hret _ _ _ _ (.news hg F3 N3) ?_
    exact ⟨_, _, _, rfl, _, _, snap_of N3 (by k_mem), snap_of N3 (by k_mem)⟩
/-- the question nested in itself -/
def WinObj (w : World) (g : Snap) : Nat → Addr → Prop
  | 0, q => IsObj g q 722 []
  | k + 1, q => ∃ a b c d t1 t2 t3 t4, IsObj g q 421 [ent w (Str.ofString "left") t1 (.ref a), ent w (Str.ofString "right") t2 (.ref b)] ∧ IsObj g a 722 [] ∧ IsObj g b 518 [ent w (Str.ofString "left") t3 (.ref c), ent w (Str.ofString "right") t4 (.ref d)] ∧ IsObj g c 327 [] ∧ WinObj w g k d
theorem WinObj.up {w : World} {g g' : Snap} (h : Sle g g') : ∀ {k : Nat} {q : Addr}, WinObj w g k q → WinObj w g' k q
  | 0, _, x => IsObj.up x h
  | _ + 1, _, ⟨a, b, c, d, t1, t2, t3, t4, x1, x2, x3, x4, x5⟩ => ⟨a, b, c, d, t1, t2, t3, t4, x1.up h, x2.up h, x3.up h, x4.up h, x5.up h⟩
/-- what it finds -/
def winF : Nat → Tree → List Item
  | 0, t => kids t
  | k + 1, t => (kids t).flatMap fun it => [it].filter fun it => (winF k it.2).isEmpty
theorem IsTree.fit {g : Snap} {v : Value} {t : Tree} (h : IsTree g v t) : (kids t).length ≤ sizeLine := by
  cases h
  rename_i a b c d e
  simp only [kids, Tree.cs, List.length_map, List.length_zipIdx]
  omega
theorem IsDat.fit {w : World} {g : Snap} {v : Value} {it : Item} (h : IsDat w g v it) : (kids it.2).length ≤ sizeLine := by
  obtain ⟨x, val, p, c, t1, t2, t3, a, b, d, e⟩ := h
  exact d.fit
theorem flatMap_le {α : Type} (p : α → Bool) (l : List α) : (l.flatMap fun x => [x].filter p).length ≤ l.length := by
  induction l with
  | nil => simp
  | cons x xs ih =>
    rw [List.flatMap_cons, List.length_append, List.length_cons]
    have : ([x].filter p).length ≤ 1 := by simpa using List.length_filter_le p [x]
    omega
theorem win_finds {w : World} : ∀ (k : Nat) {g : Snap} {q : Addr} {x : Value} {it : Item}, WinObj w g k q → IsDat w g x it → Finds w g (.ref q) x (12 + 6 * k) (100 + 20 * k) (winF k it.2)
  | 0, g, q, x, it, W, D => wild_finds w g q x it W D D.fit
  | k + 1, g, q, x, it, ⟨a, b, c, d, t1, t2, t3, t4, x1, x2, x3, x4, x5⟩, D => by
    have hw := wild_finds w g a x it x2 D D.fit
    refine Finds.up (fun _ _ e => e) ?_ ?_ (child_finds (d := 12 + 6 * k + 3) (u := 100 + 20 * k + 10) (f := fun it => [it].filter fun it => (winF k it.2).isEmpty) x1 (hw.up (fun _ _ e => e) (by omega) (by omega)) ?_ ?_)
    · omega
    · omega
    · intro g' y it' hle _ Dy
      refine whn_finds (ls := [it']) (f := fun it => winF k it.2) (x3.up hle) ((this_finds (x4.up hle) Dy).up (fun _ _ e => e) (by omega) (by omega)) ?_
      intro g2 y2 it2 hle2 _ Dy2
      exact win_finds k ((x5.up hle).up hle2) Dy2
    · exact Nat.le_trans (flatMap_le _ _) D.fit
end
end Mine
end
section
open PySem PySem.W PySem.Calls PyProof.Rows PySem.Spec
set_option Elab.async false
set_option maxRecDepth 100000
set_option maxHeartbeats 4000000
namespace Mine
theorem lookup_skip {kn : List (Str × Value)} {x y : Str} {u v : Value} (hx : kn.lookup x = none) (e : kn.lookup y = some v) : ((x, u) :: kn).lookup y = some v := by
  rw [List.lookup]
  split
  · rename_i q
    rw [beq_iff_eq.mp q, hx] at e; cases e
  · exact e
theorem put_some {μ : Snap} {a b : Addr} {x : Obj} (h : ∃ o, μ b = some o) : ∃ o, (μ.put a x) b = some o := by
  by_cases z : b = a
  · subst z; exact ⟨_, Snap.put_self⟩
  · rw [Snap.put_ne z]; exact h
/-- what stands in a def's own run: names known, a view μ (its own objects among it), and some others' objects left alone -/
structure Own (base : Heap) (g : Snap) (L : Addr) (kn : List (Str × Value)) (pins : List (Addr × Obj)) (μ : Snap) (h : Heap) : Prop where
  fr : ∃ m, Fr base L h m ∧ ∀ y v, kn.lookup y = some v → m y = some v
  ext : Ext base g μ h
  off : μ L = none
  pin : ∀ p ∈ pins, h.get? p.1 = some p.2 ∧ μ p.1 = none ∧ p.1 ≠ L ∧ base.get? p.1 = none
section
variable {base : Heap} {g μ μ' : Snap} {L : Addr} {kn : List (Str × Value)} {pins : List (Addr × Obj)} {h h' : Heap}
theorem Own.inh (O : Own base g L kn pins μ h) : InH μ h := O.ext.inh
theorem Own.live (O : Own base g L kn pins μ h) : ∃ o, h.get? L = some o := by obtain ⟨m, F, _⟩ := O.fr; exact (by obtain ⟨o, _, _, e, _⟩ := F.ns; exact ⟨o, e⟩)
theorem none_ext' {h h' : Heap} {g g' : Snap} {L : Addr} (x : Ext h g g' h') (live : ∃ o, h.get? L = some o) (z : g L = none) : g' L = none := by
  cases e : g' L with
  | none => rfl
  | some o =>
    obtain ⟨o', q⟩ := live
    rcases x.new L o e with r | r
    · rw [z] at r; cases r
    · rw [q] at r; cases r
theorem Own.call (O : Own base g L kn pins μ h) (X : Ext h μ μ' h') : Own base g L kn pins μ' h' := by
  obtain ⟨m, F, hm⟩ := O.fr
  exact ⟨⟨m, F.keeps X.grow, hm⟩, O.ext.trans X, none_ext' X O.live O.off, fun p hp => let ⟨a, b, c, d⟩ := O.pin p hp; ⟨X.grow _ _ a, none_ext' X ⟨_, a⟩ b, c, d⟩⟩
theorem Own.grow (O : Own base g L kn pins μ h) (k : Grow h h') : Own base g L kn pins μ h' := O.call (.of_grow O.inh k)
theorem Own.push (O : Own base g L kn pins μ h) {o : Obj} (ho : o.isFreed = false := by rfl) : Own base g L kn pins (μ.put h.objs.size o) (h.push o) :=
  O.call ((Ext.of_grow O.inh push_grow).put (none_of_inH O.inh (fresh_none (Nat.le_refl _))) (fresh_none (Nat.le_refl _)) (Heap.get?_push_size _ ho))
theorem Own.ne (O : Own base g L kn pins μ h) {a : Addr} {o : Obj} (e : μ a = some o) : a ≠ L := by rintro rfl; rw [O.off] at e; cases e
theorem Own.fresh (O : Own base g L kn pins μ h) {a : Addr} {o : Obj} (e : μ a = some o) (ga : g a = none) : base.get? a = none := (O.ext.new a o e).elim (fun q => by rw [ga] at q; cases q) id
theorem Own.set (O : Own base g L kn pins μ h) {a : Addr} {o o' : Obj} (e : μ a = some o) (ga : g a = none) (hs : Heap.SameBut a h h') (ho : h'.get? a = some o') : Own base g L kn pins (μ.put a o') h' := by
  have hb := O.fresh e ga
  obtain ⟨m, F, hm⟩ := O.fr
  refine ⟨⟨m, ⟨F.ns.sameBut hs (Ne.symm (O.ne e)), fun b o q => (hs.2 b (fun z => by rw [z, hb] at q; cases q)).trans (F.keep b o q), F.above⟩, hm⟩, ⟨?_, ?_, ?_, ?_⟩, ?_, ?_⟩
  · exact fun b o q => (hs.2 b (fun z => by rw [z, hb] at q; cases q)).trans (F.keep b o q)
  · exact fun b o q => by rw [Snap.put_ne (fun z => by rw [z, ga] at q; cases q)]; exact O.ext.up b o q
  · intro b o q
    by_cases z : b = a
    · subst z; rw [Snap.put_self] at q; cases q; exact ho
    · rw [Snap.put_ne z] at q; exact (hs.2 b z).trans (O.inh b o q)
  · intro b o q
    by_cases z : b = a
    · subst z; exact .inr hb
    · rw [Snap.put_ne z] at q; exact O.ext.new b o q
  · rw [Snap.put_ne (Ne.symm (O.ne e))]; exact O.off
  · intro p hp
    obtain ⟨a1, b1, c1, d1⟩ := O.pin p hp
    have z : p.1 ≠ a := by intro q; rw [q, e] at b1; cases b1
    exact ⟨(hs.2 _ z).trans a1, by rw [Snap.put_ne z]; exact b1, c1, d1⟩
theorem Own.name (O : Own base g L kn pins μ h) {x : Str} {v : Value} {m : Str → Option Value} (hm : ∀ y v, kn.lookup y = some v → m y = some v) (hn : h'.Ns L (fun y => if y = x then some v else m y)) (hs : Heap.SameBut L h h') : Own base g L ((x, v) :: kn) pins μ h' := by
  obtain ⟨m0, F, _⟩ := O.fr
  refine ⟨⟨_, F.set hn hs, fun y u q => ?_⟩, ⟨(F.set hn hs).keep, O.ext.up, fun b o q => (hs.2 b (fun z => by rw [z, O.off] at q; cases q)).trans (O.inh b o q), O.ext.new⟩, O.off, fun p hp => let ⟨a, b, c, d⟩ := O.pin p hp; ⟨(hs.2 _ c).trans a, b, c, d⟩⟩
  simp only [List.lookup] at q
  split at q
  · rename_i z; rw [if_pos (beq_iff_eq.mp z)]; exact q
  · rename_i z
    rw [if_neg (by intro w; subst w; simp at z)]; exact hm y u q
theorem Own.weak {kn' : List (Str × Value)} (O : Own base g L kn pins μ h) (k : ∀ y v, kn'.lookup y = some v → kn.lookup y = some v) : Own base g L kn' pins μ h := by
  obtain ⟨m, F, hm⟩ := O.fr
  exact ⟨⟨m, F, fun y v e => hm y v (k y v e)⟩, O.ext, O.off, O.pin⟩
theorem Own.news (O : Own base g L kn pins μ h) {l : List (Addr × Obj)} (hl : ∀ p ∈ l, μ p.1 = some p.2 ∧ g p.1 = none) : News base L h l := fun p hp => ⟨O.inh _ _ (hl p hp).1, O.ne (hl p hp).1, O.fresh (hl p hp).1 (hl p hp).2⟩
theorem Own.start {m : Str → Option Value} {nw : List (Addr × Obj)} (F : Fr base L h m) (hg : InH g base) (hk : ∀ y v, kn.lookup y = some v → m y = some v) (N : News base L h nw) : Own base g L kn [] (g.puts nw) h :=
  ⟨⟨_, F, hk⟩, .news hg F N, by
    have z : g L = none := none_of_inH hg (fresh_none F.above)
    unfold Snap.puts
    split
    · rename_i o q
      exact absurd rfl (N _ (lookup_mem q)).2.1
    · exact z, fun p hp => nomatch hp⟩
theorem Own.kept {a b : Addr} {o x : Obj} (_ : Own base g L kn pins (μ.put a o) h) (e : μ b = some x) (n : b ≠ a) : (μ.put a o) b = some x := (Snap.put_ne n).trans e
theorem Own.got {a : Addr} {o : Obj} (_ : Own base g L kn pins (μ.put a o) h) : (μ.put a o) a = some o := Snap.put_self
noncomputable def Own.m (O : Own base g L kn pins μ h) : Str → Option Value := O.fr.choose
theorem Own.F (O : Own base g L kn pins μ h) : Fr base L h O.m := O.fr.choose_spec.1
theorem Own.N (_ : Own base g L kn pins μ h) : News base L h [] := News.nil
/-- objects left alone are told or forgotten -/
theorem Own.unpin (O : Own base g L kn pins μ h) {pins' : List (Addr × Obj)} (k : ∀ p ∈ pins', p ∈ pins) : Own base g L kn pins' μ h := ⟨O.fr, O.ext, O.off, fun p hp => O.pin p (k p hp)⟩
end
section
variable {prog : Program} {w : World} {M : Model} {A : Around} {E : Value → Shared → Prop} {s : Shared} {env : Env} {base : Heap} {g μ μ' : Snap} {L : Addr} {kn : List (Str × Value)} {pins : List (Addr × Obj)}
theorem own_local {x : Str} {pos : Pos} {v : Value} {Q : Value → Shared → Prop} (O : Own base g env.locals kn pins μ s.heap) (hv : kn.lookup x = some v) (h : Q v s) (hk : env.scope.kind = .function) (hl : env.kindOf x = some .local) (hd : (x == ("__debug__" : Str)) = false := by decide) :
    wpAny M A (eval (.Name x pos) env) Q E s := by
  obtain ⟨m, F, hm⟩ := O.fr
  exact wpAny_Name (wpAny_loadName_local hk hl F.ns (hm x v hv) h) hd
theorem own_cell {x : Str} {pos : Pos} {c : Addr} {o : Obj} {v : Value} {Q : Value → Shared → Prop} (O : Own base g L kn pins μ s.heap) (hc : env.cells.lookup x = some c) (e : μ c = some o) (hd : o.data = .cell (some v)) (h : Q v s) (hk : env.scope.kind = .function) (hx : env.kindOf x = some .cell) (hb : (x == ("__debug__" : Str)) = false := by decide) :
    wpAny M A (eval (.Name x pos) env) Q E s := wpAny_Name (wpAny_loadName_cell hk hx hc ⟨o, O.inh _ _ e, hd⟩ h) hb
theorem own_storeL {x : Str} {v : Value} {Q : Unit → Shared → Prop} (O : Own base g env.locals kn pins μ s.heap) (hl : env.kindOf x = some .local) (hp : (env.scope.kind == .class || (env.scope.kind == .module && env.locals != env.globals)) = false)
    (h : ∀ h', Own base g env.locals ((x, v) :: kn) pins μ h' → Q () { s with heap := h', toks := s.toks + 1 }) : wpAny M A (storeName env x v) Q E s := by
  obtain ⟨m, F, hm⟩ := O.fr
  exact wpAny_storeName_local hl F.ns (fun h' hn hs => h h' (O.name hm hn hs)) hp
theorem own_storeC {x : Str} {v : Value} {c : Addr} {o : Obj} {v₀ : Option Value} {Q : Unit → Shared → Prop} (O : Own base g L kn pins μ s.heap) (hc : env.cells.lookup x = some c) (e : μ c = some o) (gc : g c = none) (hd : o.data = .cell v₀)
    (h : ∀ h' o', o'.data = .cell (some v) → Own base g L kn pins (μ.put c o') h' → Q () { s with heap := h' }) (hk : env.scope.kind = .function) (hx : env.kindOf x = some .cell) : wpAny M A (storeName env x v) Q E s := by
  refine wpAny_storeName_cell hk hx hc ⟨o, O.inh _ _ e, hd⟩ fun h' hv hs => ?_
  obtain ⟨o', ho', hd'⟩ := hv
  exact h h' o' hd' (O.set e gc hs ho')
theorem own_newList {vs : List Value} {Q : Value → Shared → Prop} (O : Own base g L kn pins μ s.heap) (h : ∀ a h', μ a = none → g a = none → (∀ b o, s.heap.get? b = some o → b ≠ a) → Own base g L kn pins (μ.put a (listOf vs.toArray 0)) h' → Q (.ref a) { s with heap := h' }) (hsz : vs.length ≤ sizeLine) : wpAny M A (newList vs) Q E s := by
  refine wpAny_newObj_type (h _ _ (none_of_inH O.inh (fresh_none (Nat.le_refl _))) (none_of_inH (fun b o e => O.inh b o (O.ext.up b o e)) (fresh_none (Nat.le_refl _))) (fun b o e q => Nat.lt_irrefl _ (q ▸ Heap.lt_size e)) O.push) (by show vs.toArray.size ≤ sizeLine; rw [List.size_toArray]; exact hsz)
theorem own_newTuple {vs : List Value} {Q : Value → Shared → Prop} (O : Own base g L kn pins μ s.heap) (h : ∀ a h', μ a = none → g a = none → (∀ b o, s.heap.get? b = some o → b ≠ a) → Own base g L kn pins (μ.put a { cls := .type "tuple", data := .seq vs.toArray }) h' → Q (.ref a) { s with heap := h' }) (hsz : vs.length ≤ sizeLine) : wpAny M A (newTuple vs) Q E s := by
  refine wpAny_newObj_type (h _ _ (none_of_inH O.inh (fresh_none (Nat.le_refl _))) (none_of_inH (fun b o e => O.inh b o (O.ext.up b o e)) (fresh_none (Nat.le_refl _))) (fun b o e q => Nat.lt_irrefl _ (q ▸ Heap.lt_size e)) O.push) (by show vs.toArray.size ≤ sizeLine; rw [List.size_toArray]; exact hsz)
theorem own_append {a : Addr} {vs : List Value} {n : Nat} {x : Value} {Q : Value → Shared → Prop} (O : Own base g L kn pins μ s.heap) (e : μ a = some (listOf vs.toArray n)) (ga : g a = none) (hz : vs.length ≤ sizeLine)
    (h : ∀ h', Own base g L kn pins (μ.put a (listOf (vs ++ [x]).toArray (n + 1))) h' → Q .none { s with heap := h' }) : wpAny (model prog w) A (call (.builtin "list.append") [.ref a, x]) Q E s := by
  refine append_at (O.inh _ _ e) (fun h' hs ho => h h' (O.set e ga hs ?_)) (by show vs.toArray.size ≤ sizeLine; rw [List.size_toArray]; exact hz)
  rw [ho]; simp
theorem own_setItem {a : Addr} {vs : List Value} {n : Nat} {k : Nat} {t : Tok} {v : Value} {Q : Unit → Shared → Prop} (O : Own base g L kn pins μ s.heap) (e : μ a = some (listOf vs.toArray n)) (ga : g a = none) (hk : k < vs.length) (hf : (k : Int) < 2 ^ 63)
    (h : ∀ h' o', h'.IsList a (vs.set k v).toArray → Own base g L kn pins (μ.put a o') h' → h'.get? a = some o' → Q () { s with heap := h' }) : wpAny (model prog w) A (setItem (.ref a) (.int k t) v) Q E s := by
  refine wpAny_setItem_list ⟨_, O.inh _ _ e, rfl, _, rfl⟩ (Int.natCast_nonneg _) hf (by simpa using hk) fun h' hl hs => ?_
  have hl' : h'.IsList a (vs.set k v).toArray := by
    have : (vs.toArray.setIfInBounds (k : Int).toNat v) = (vs.set k v).toArray := by simp
    rw [← this]; exact hl
  obtain ⟨o', ho', _⟩ := id hl
  exact h h' o' hl' (O.set e ga hs ho') ho'
theorem own_setItem' {a : Addr} {o : Obj} {vs : List Value} {k : Nat} {t : Tok} {v : Value} {Q : Unit → Shared → Prop} (O : Own base g L kn pins μ s.heap) (e : μ a = some o) (hc : o.cls = .type "list") (hd : ∃ n, o.data = .seq vs.toArray n) (ga : g a = none) (hk : k < vs.length) (hf : (k : Int) < 2 ^ 63)
    (h : ∀ h' o', o'.cls = .type "list" → (∃ n, o'.data = .seq (vs.set k v).toArray n) → Own base g L kn pins (μ.put a o') h' → Q () { s with heap := h' }) : wpAny (model prog w) A (setItem (.ref a) (.int k t) v) Q E s := by
  obtain ⟨n, hd⟩ := hd
  refine wpAny_setItem_list ⟨_, O.inh _ _ e, hc, n, hd⟩ (Int.natCast_nonneg _) hf (by simpa using hk) fun h' hl hs => ?_
  have hl' : h'.IsList a (vs.set k v).toArray := by
    have : (vs.toArray.setIfInBounds (k : Int).toNat v) = (vs.set k v).toArray := by simp
    rw [← this]; exact hl
  obtain ⟨o', ho', hc', hd'⟩ := id hl'
  exact h h' o' hc' hd' (O.set e ga hs ho')
end
end Mine
end
section
open PySem PySem.W PySem.Calls PyProof.Rows PySem.Spec
set_option Elab.async false
set_option maxRecDepth 100000
set_option maxHeartbeats 4000000
namespace Mine
section
variable {prog : Program} {w : World} {A : Around} {E : Value → Shared → Prop} {s : Shared} {env : Env} {base : Heap} {g : Snap}
theorem item_last {value slice : Expr} {l : Addr} {vs : List Value} {u : Tok} {x : Value} {Q : Value → Shared → Prop} (hl : s.heap.IsList l (vs ++ [x]).toArray) (h : Q x s)
    (hs : subscripted slice false (.ref l) (.int (-1) u) = operate [.ref l, .int (-1) u] (getItem (.ref l) (.int (-1) u)) := by with_unfolding_all rfl) :
    wpAny (model prog w) A (subscriptTail value slice (.ref l) (.int (-1) u)) Q E s :=
  subscriptTail_builtinR (x := x) hl.typeIs slot_list_getitem.lookup (wpAny_getItem_list_neg (Q := fun r s' => r = x ∧ Q r s') hl (by decide) (by simp; omega) (by decide) (by
    have : ((-1 : Int) + ((vs ++ [x]).toArray.size : Nat)).toNat = vs.length := by simp; omega
    rw [this]; simp) ⟨rfl, h⟩) hs
theorem repeat_push {l : Addr} {items : Array Value} {k : Nat} {x : Int} {u : Tok} {Q : Value → Shared → Prop}
    (hl : s.heap.get? l = some { cls := .type "list", dict := none, data := .seq items k, slots := #[] })
    (hlo : -(2 ^ 63 : Int) ≤ x) (hhi : x < 2 ^ 63) (hsz : items.size * x.toNat ≤ 2 ^ 24)
    (h : Q (.ref s.heap.objs.size) { s with heap := s.heap.push { cls := .type "list", data := .seq (List.foldl (fun x1 x2 => x1 ++ x2) #[] (List.replicate (if items.isEmpty = true then 0 else x.toNat) items)) } }) :
    wpAny (model prog w) A (binaryOp .Mult (.ref l) (.int x u)) Q E s :=
  wpAny_binaryOp_repeat_ref (T := "list") (U := "int") (by decide) ⟨_, hl, rfl⟩ (fun s' => typeIs_int s' x u) noFill_list_mul F.fills_int_mul F.slot_int_rmul repeat_list F.slot_int_index.lookup
    (call_meets F.slot_int_rmul (typeIs_int s x u) F.entry_int_rmul (F.args_int_rmul_2 _ _) (int___rmul___int_list x u l items k)
      ⟨hl, rfl, ⟨_, hl, rfl⟩, call_meets F.slot_list_mul ⟨_, hl, rfl⟩ F.entry_list_mul (F.args_list_mul_2 _ _)
        (AutoListH.list___mul___list_int_3 l items k x u (by simp [Builtin.List.listFitsIndex]; omega) (by omega) (by simp [Builtin.List.listTooLong, sizeLine]; omega))
        ⟨hl, h⟩⟩)
theorem own_repeat {L a : Addr} {kn : List (Str × Value)} {pins : List (Addr × Obj)} {μ : Snap} {v : Value} {n0 k : Nat} {u : Tok} {Q : Value → Shared → Prop} (O : Own base g L kn pins μ s.heap) (e : μ a = some (listOf [v].toArray n0)) (hk : k ≤ 1000)
    (h : ∀ b h', μ b = none → g b = none → (∀ c o, s.heap.get? c = some o → c ≠ b) → Own base g L kn pins (μ.put b (listOf (List.replicate k v).toArray 0)) h' → Q (.ref b) { s with heap := h' }) :
    wpAny (model prog w) A (binaryOp .Mult (.ref a) (.int (k : Nat) u)) Q E s := by
  have hl := O.inh _ _ e
  generalize hit : ([v].toArray : Array Value) = items at hl
  have ex : (List.foldl (fun x1 x2 => x1 ++ x2) #[] (List.replicate (if items.isEmpty = true then 0 else ((k : Nat) : Int).toNat) items)) = (List.replicate k v).toArray := by
    subst hit
    rw [if_neg (by simp), listMul_foldl]
    simp [List.flatten_replicate_singleton]
  have hs : items.size = 1 := by subst hit; rfl
  refine repeat_push hl (by omega) (by omega) (by rw [hs, Int.toNat_natCast]; omega) ?_
  rw [ex]
  exact h _ _ (none_of_inH O.inh (fresh_none (Nat.le_refl _))) (none_of_inH (fun b o e => O.inh b o (O.ext.up b o e)) (fresh_none (Nat.le_refl _))) (fun b o e q => Nat.lt_irrefl _ (q ▸ Heap.lt_size e)) O.push
theorem own_slice {L l : Addr} {kn : List (Str × Value)} {pins : List (Addr × Obj)} {value : Expr} {lower upper : Option Expr} {p pos : Pos} {Q : Value → Shared → Prop}
    (h : wpAny (model prog w) A (eval value env) (fun o s₁ => wpAny (model prog w) A (evalPart lower env) (fun vl s₂ => wpAny (model prog w) A (evalPart upper env) (fun vu s₃ =>
      ∃ (μ : Snap) (vs : List Value) (n : Nat) (lo hi : Option Int), o = .ref l ∧ Own base g L kn pins μ s₃.heap ∧ μ l = some (listOf vs.toArray n) ∧ vs.length ≤ sizeLine ∧ IsPart vl lo ∧ IsPart vu hi ∧
        (∀ D h', μ D = none → g D = none → Own base g L kn pins (μ.put D { cls := .type "list", data := .seq (slicePick vs.toArray lo hi none) }) h' → Q (.ref D) { s₃ with heap := h' })) E s₂) E s₁) E s)
    (ht : ∀ o r, letTemporaryGo value o r = pure () := by intro _ _; rfl) :
    wpAny (model prog w) A (eval (.Subscript value (.Slice lower upper none p) pos) env) Q E s := by
  refine wpAny_Subscript_list_slice (wpAny_mono h (fun o s₁ h₁ => wpAny_mono h₁ (fun vl s₂ h₂ => wpAny_mono h₂ (fun vu s₃ h₃ => ?_) fun _ _ e => e) fun _ _ e => e) fun _ _ e => e) ht
  obtain ⟨μ, vs, n, lo, hi, rfl, O, e, hz, pl, pu, hQ⟩ := h₃
  refine ⟨l, vs.toArray, lo, hi, rfl, ⟨_, O.inh _ _ e, rfl, _, rfl⟩, by simpa using hz, pl, pu, ?_⟩
  have O1 := O.grow (push_grow (o := { cls := .type "slice", data := .fields #[vl, vu, .none] }))
  have O2 := O1.push (o := { cls := .type "list", data := .seq (slicePick vs.toArray lo hi none) }) rfl
  rw [Heap.size_push] at O2
  have z : μ (s₃.heap.objs.size + 1) = none := none_of_inH O.inh (fresh_none (Nat.le_succ _))
  exact hQ _ _ z (none_of_inH (fun b o e => O.inh b o (O.ext.up b o e)) (fresh_none (Nat.le_succ _))) O2
theorem own_unpack3 {L t : Addr} {kn : List (Str × Value)} {pins : List (Addr × Obj)} {μ : Snap} {x y z : Str} {px py pz tp : Pos} {kk n : Nat} {v1 v2 v3 : Value} {Q : Unit → Shared → Prop} (hh : A.handled = none) (O : Own base g L kn pins μ s.heap) (e : μ t = some { cls := .type "tuple", data := .seq #[v1, v2, v3] n })
    (h : ∀ h', Own base g L kn pins μ h' → wpAny (model prog w) A (storeName env x v1) (fun _ s₁ => wpAny (model prog w) A (storeName env y v2) (fun _ s₂ => wpAny (model prog w) A (storeName env z v3) Q E s₂) E s₁) E { s with heap := h' }) :
    wpAny (model prog w) A (assign (.Tuple [.Name x px, .Name y py, .Name z pz] kk tp) env (.ref t)) Q E s := by
  refine wpAny_assign_Tuple hh ⟨_, O.inh _ _ e, rfl, n, rfl⟩ rfl rfl fun h₁ he₁ => ?_
  show wpAny _ _ (assignInOrder [assign (.Name x px) env, assign (.Name y py) env, assign (.Name z pz) env] [v1, v2, v3]) _ _ _
  refine assignInOrder_cons (wpAny_assign_Name (wpAny_mono (h h₁ (O.grow fun b o q => he₁ b o (Nat.ne_of_lt (Heap.lt_size q)) q)) (fun _ s₁ h₁ => ?_) fun _ _ e => e))
  refine assignInOrder_cons (wpAny_assign_Name (wpAny_mono h₁ (fun _ s₂ h₂ => ?_) fun _ _ e => e))
  exact assignInOrder_cons (wpAny_assign_Name (wpAny_mono h₂ (fun _ s₃ h₃ => assignInOrder_nil h₃) fun _ _ e => e))
theorem size_down (n : Nat) : Builtin.Range.rangeSize ((n : Int) - 1) (-1) (-1) = n := by
  unfold Builtin.Range.rangeSize
  rw [if_neg (by decide)]
  split
  · rw [show (-(-1 : Int)) = 1 by decide, Int.ediv_one]; omega
  · omega
theorem small_down (n : Nat) (h : n ≤ 1000) : Builtin.Range.small ((n : Int) - 1) (-1) (-1) = true := by
  unfold Builtin.Range.small
  rw [size_down]
  simp only [Builtin.Range.rangeFitsLong, Bool.and_eq_true, Bool.or_eq_true, decide_eq_true_eq, beq_iff_eq]
  exact ⟨⟨⟨⟨⟨by omega, by omega⟩, by decide, by decide⟩, by decide, by decide⟩, by omega, by omega⟩, .inr (by decide)⟩
def Snap.del (μ : Snap) (c : Addr) : Snap := fun b => if b = c then none else μ b
theorem Snap.del_self {μ : Snap} {c : Addr} : μ.del c c = none := if_pos rfl
theorem Snap.del_ne {μ : Snap} {b c : Addr} (h : b ≠ c) : μ.del c b = μ b := if_neg h
theorem Snap.del_le {μ : Snap} {c : Addr} : Sle (μ.del c) μ := fun b o e => by
  by_cases z : b = c
  · subst z; rw [Snap.del_self] at e; cases e
  · rw [Snap.del_ne z] at e; exact e
/-- [elt for x in .. if ..] in a def's own run -/
theorem own_lc {elt iter : Expr} {x : Str} {px : Pos} {ifs : List Expr} {scope : Scope} {cl : List (Str × Addr)} {pos : Pos} {Q : Value → Shared → Prop}
    (hclos : closureFor scope env = pure cl) (hcell : ∀ y ∈ scope.names, y.2 ≠ .cell) (hkind : scope.kind = .function)
    (hnames : ∀ y ∈ scope.names, y.2 = .local → scope.names.lookup y.1 = some .local) (hx : scope.names.lookup x = some .local)
    (h : wpAny (model prog w) A (eval iter env) (fun xv s₁ => ∃ (L : Addr) (kn : List (Str × Value)) (pins : List (Addr × Obj)) (μ : Snap) (n : Nat) (P : Nat → Value → Prop) (J : Nat → List Value → Snap → Prop) (Jm : Nat → Value → List Value → Snap → Prop), IterOf prog w A xv s₁ n P ∧ Own base g L kn pins μ s₁.heap ∧ n ≤ sizeLine ∧ J 0 [] μ ∧ GTurns prog w A env scope cl x ifs elt μ s₁ n P J Jm ∧
      (∀ r h' tk zs g' μ', J n zs g' → Sle g' μ' → Sle μ μ' → LstAt μ' r zs → zs.length ≤ n → Own base g L kn pins μ' h' → Q r { s₁ with heap := h', toks := tk })) E s)
    (hs : ∀ x, foldedSetIterable iter env x = pure x := by intro _; rfl) :
    wpAny (model prog w) A (eval (.ListComp elt [⟨.Name x px, iter, ifs, 0⟩] scope pos) env) Q E s := by
  refine lc_any hclos hcell hkind hnames hx (wpAny_mono h ?_ fun _ _ e => e) hs
  rintro xv s₁ ⟨L, kn, pins, μ, n, P, J, Jm, it, O, hz, hJ, T, hQ⟩
  exact ⟨μ, n, P, J, Jm, it, O.inh, hz, hJ, T, fun r h' tk zs g' g'' hJ' up X hL hlen => hQ r h' tk zs g' g'' hJ' up X.up hL hlen (O.call X)⟩
/-- y = [elt for x in .. if ..] in a def's own run -/
theorem own_lc_assign {elt iter : Expr} {x y : Str} {px py : Pos} {ifs : List Expr} {scope : Scope} {cl : List (Str × Addr)} {pos spos : Pos} {Q : Flow → Shared → Prop}
    (hsw : swapsWith (.ListComp elt [⟨.Name x px, iter, ifs, 0⟩] scope pos) (some (.Name y py)) spos.line env = pure true)
    (hclos : closureFor scope env = pure cl) (hcell : ∀ z ∈ scope.names, z.2 ≠ .cell) (hkind : scope.kind = .function)
    (hnames : ∀ z ∈ scope.names, z.2 = .local → scope.names.lookup z.1 = some .local) (hx : scope.names.lookup x = some .local)
    (hy : env.kindOf y = some .local) (hp : (env.scope.kind == .class || (env.scope.kind == .module && env.locals != env.globals)) = false)
    (h : wpAny (model prog w) A (eval iter env) (fun xv s₁ => ∃ (kn : List (Str × Value)) (pins : List (Addr × Obj)) (μ : Snap) (n : Nat) (P : Nat → Value → Prop) (J : Nat → List Value → Snap → Prop) (Jm : Nat → Value → List Value → Snap → Prop), IterOf prog w A xv s₁ n P ∧ Own base g env.locals kn pins μ s₁.heap ∧ n ≤ sizeLine ∧ J 0 [] μ ∧ GTurns prog w A env scope cl x ifs elt μ s₁ n P J Jm ∧
      (∀ r h' tk zs g' μ', J n zs g' → Sle g' μ' → Sle μ μ' → LstAt μ' r zs → zs.length ≤ n → Own base g env.locals ((y, r) :: kn) pins μ' h' → Q .next { s₁ with heap := h', toks := tk })) E s)
    (hs : ∀ x, foldedSetIterable iter env x = pure x := by intro _; rfl) :
    wpAny (model prog w) A (exec (.Assign [.Name y py] (.ListComp elt [⟨.Name x px, iter, ifs, 0⟩] scope pos) spos) env) Q E s := by
  refine lc_any_assign hsw hclos hcell hkind hnames hx hy hp (wpAny_mono h ?_ fun _ _ e => e) hs
  rintro xv s₁ ⟨kn, pins, μ, n, P, J, Jm, it, O, hz, hJ, T, hQ⟩
  obtain ⟨m, F, hm⟩ := O.fr
  refine ⟨μ, n, P, J, Jm, m, it, O.inh, hz, hJ, T, F.ns, O.off, fun r h' tk zs g' g'' hJ' hle hle' hin hnew hL hlen hns gL hk => ?_⟩
  have kb : ∀ b o, base.get? b = some o → h'.get? b = some o := fun b o e => hk b o (fun q => by rw [q, fresh_none F.above] at e; cases e) (F.keep b o e)
  refine hQ r h' tk zs g' g'' hJ' hle' (fun b o e => hle' b o (hle b o e)) hL hlen ⟨⟨_, ⟨hns, kb, F.above⟩, fun z u q => ?_⟩, ⟨kb, fun b o e => hle' b o (hle b o (O.ext.up b o e)), hin, fun b o e => ?_⟩, gL, fun p hp => ?_⟩
  · simp only [List.lookup] at q
    split at q
    · rename_i w'; rw [if_pos (beq_iff_eq.mp w')]; exact q
    · rename_i w'
      rw [if_neg (by intro v; subst v; simp at w')]; exact hm z u q
  · rcases hnew b o e with z | z
    · exact O.ext.new b o z
    · exact .inr (none_of_grow O.ext.grow z)
  · obtain ⟨a, b, c, d⟩ := O.pin p hp
    refine ⟨hk _ _ c a, ?_, c, d⟩
    cases q : g'' p.1 with
    | none => rfl
    | some o =>
      rcases hnew _ _ q with z | z
      · rw [b] at z; cases z
      · rw [a] at z; cases z
/-- what a for over xv (one new iterator) must bring -/
def ForAt (prog : Program) (w : World) (A : Around) (E : Value → Shared → Prop) (env : Env) (base : Heap) (g : Snap) (x : Str) (body : List Stmt) (Q : Flow → Shared → Prop) (xv : Value) (s₁ : Shared) : Prop :=
  ∃ (n : Nat) (P : Nat → Value → Prop) (kn : List (Str × Value)) (pins : List (Addr × Obj)) (μ : Snap) (Inv : Nat → Snap → Prop) (Fin : Snap → Prop) (ob : Obj) (fp : List Addr) (St : Nat → Heap → Prop),
    (∀ Q' E', Q' (.ref s₁.heap.objs.size) { s₁ with heap := s₁.heap.push ob } → wpAny (model prog w) A (pyIter xv) Q' E' s₁) ∧ Walks prog w A s₁.heap.objs.size fp [s₁.heap.objs.size] n P St ∧ St 0 (s₁.heap.push ob) ∧
    (∀ i h, St i h → ∃ o, h.get? s₁.heap.objs.size = some o) ∧ (∀ b ∈ fp, b ≠ s₁.heap.objs.size → ∃ o, ∀ i μ, Inv i μ → Sle g μ → μ b = some o) ∧
    Own base g env.locals kn pins μ s₁.heap ∧ Inv 0 μ ∧
    (∀ i v μ h tk I oI, i < n → P i v → Inv i μ → Own base g env.locals ((x, v) :: kn) ((I, oI) :: pins) μ h →
      wpAny (model prog w) A (execs body env) (fun fl s' => match fl with
        | .next | .cont => ∃ μ' h' tk', s' = { s₁ with heap := h', toks := tk' } ∧ Own base g env.locals kn ((I, oI) :: pins) μ' h' ∧ Inv (i + 1) μ'
        | .brk => ∃ μ' h' tk', s' = { s₁ with heap := h', toks := tk' } ∧ Own base g env.locals kn ((I, oI) :: pins) μ' h' ∧ Fin μ'
        | .ret v => Q (.ret v) s') E { s₁ with heap := h, toks := tk }) ∧
    ∀ μ h tk, (Inv n μ ∨ Fin μ) → Own base g env.locals kn pins μ h → Q .next { s₁ with heap := h, toks := tk }
theorem own_for {x : Str} {px : Pos} {iter : Expr} {body : List Stmt} {pos : Pos} {Q : Flow → Shared → Prop} (hx : env.kindOf x = some .local) (hp : (env.scope.kind == .class || (env.scope.kind == .module && env.locals != env.globals)) = false)
    (h : wpAny (model prog w) A (eval iter env) (ForAt prog w A E env base g x body Q) E s)
    (hs : ∀ x, foldedSetIterable iter env x = pure x := by intro _; rfl) (hE : PassesOwn (model prog w) A env E := by passes_own) :
    wpAny (model prog w) A (exec (.For (.Name x px) iter body [] pos) env) Q E s := by
  refine wpAny_For (wpAny_mono h (fun xv s₁ h₁ => ?_) fun _ _ e => e) hs
  obtain ⟨n, P, kn, pins, μ, Inv, Fin, ob, fp, St, hit, W, hst, hl, hfp, O, hI, step, fin⟩ := h₁
  refine hit _ _ ?_
  have hbI : base.get? s₁.heap.objs.size = none := none_of_grow O.ext.grow (fresh_none (Nat.le_refl _))
  have hμI : μ s₁.heap.objs.size = none := none_of_inH O.inh (fresh_none (Nat.le_refl _))
  have hLI : s₁.heap.objs.size ≠ env.locals := by
    intro q; obtain ⟨o, e⟩ := O.live; rw [fresh_none (h := s₁.heap) (a := env.locals) (by rw [← q]; exact Nat.le_refl _)] at e; cases e
  have hpI : ∀ p ∈ pins, p.1 ≠ s₁.heap.objs.size := fun p hp q => by have := (O.pin p hp).1; rw [q, fresh_none (Nat.le_refl _)] at this; cases this
  generalize hI0 : s₁.heap.objs.size = I at *
  have O0 : Own base g env.locals kn pins μ (s₁.heap.push ob) := O.grow push_grow
  -- one object's change, of those left alone
  have change : ∀ {kn' : List (Str × Value)} {μ : Snap} {h h' : Heap} {o' : Obj}, Own base g env.locals kn' pins μ h → μ I = none → (∀ b o, b ∉ [I] → h.get? b = some o → h'.get? b = some o) → h'.get? I = some o' → Own base g env.locals kn' ((I, o') :: pins) μ h' := by
    intro kn' μ h h' o' O hμ hk ho
    have hk' : ∀ b o, b ≠ I → h.get? b = some o → h'.get? b = some o := fun b o q => hk b o (fun z => q (List.mem_singleton.mp z))
    obtain ⟨m, F, hm⟩ := O.fr
    have kb : ∀ b o, base.get? b = some o → h'.get? b = some o := fun b o e => hk' b o (fun z => by rw [z, hbI] at e; cases e) (F.keep b o e)
    refine ⟨⟨m, ⟨F.ns.at' fun o e => hk' _ o (Ne.symm hLI) e, kb, F.above⟩, hm⟩, ⟨kb, O.ext.up, fun b o e => hk' b o (fun z => by rw [z, hμ] at e; cases e) (O.inh b o e), O.ext.new⟩, O.off, fun p hp => ?_⟩
    rcases List.mem_cons.mp hp with rfl | hp
    · exact ⟨ho, hμ, hLI, hbI⟩
    · obtain ⟨a, b, c, d⟩ := O.pin p hp
      exact ⟨hk' _ _ (hpI p hp) a, b, c, d⟩
  refine codeAny_forLoop_any (R := fun r s' => match r with | .ok f => Q f s' | .error e => cameBackBy (model prog w) A env E e s')
    (fun k s' => ∃ H tk μ i, s' = { s₁ with heap := H, toks := tk } ∧ Own base g env.locals kn pins μ H ∧ μ I = none ∧ Inv i μ ∧ St i H ∧ i ≤ n ∧ k = n + 1 - i) ?_ (n + 1)
    ⟨_, s₁.toks, μ, 0, rfl, O0, hμI, hI, hst, Nat.zero_le _, rfl⟩
  rintro k s' ⟨H, tk, μ, i, rfl, O, hμ, hI, hst, hin, rfl⟩
  by_cases hlt : i < n
  · refine W.item i _ _ _ hlt hst fun v h₁ tk₁ hP hst₁ hk₁ => ?_
    obtain ⟨oI, hoI⟩ := hl _ _ hst₁
    have O1 := change O hμ hk₁ hoI
    refine wpAny_pure (wpAny_mono (wpAny_assign_Name (own_storeL O1 hx hp fun h₂ O2 => wpAny_passesOwn hE (step i v μ h₂ _ I oI hlt hP hI O2))) (fun _ s₂ h₂ => wpAny_mono h₂ (fun f s₃ h₃ => ?_) fun _ _ e => e) fun _ _ e => e)
    have back : ∀ μ' h' tk', Own base g env.locals kn ((I, oI) :: pins) μ' h' → (Sle g μ' → Inv (i + 1) μ') → ∃ m, m < n + 1 - i ∧ ∃ H tk μ i, { s₁ with heap := h', toks := tk' } = { s₁ with heap := H, toks := tk } ∧ Own base g env.locals kn pins μ H ∧ μ I = none ∧ Inv i μ ∧ St i H ∧ i ≤ n ∧ m = n + 1 - i := by
      intro μ' h' tk' O3 hI3
      have hI3 := hI3 O3.ext.up
      refine ⟨n + 1 - (i + 1), by omega, h', tk', μ', i + 1, rfl, O3.unpin fun p hp => .tail _ hp, (O3.pin _ (.head _)).2.1, hI3, W.frame _ _ _ hst₁ fun b hb o e => ?_, hlt, rfl⟩
      by_cases z : b = I
      · subst z
        rw [hoI] at e; cases e
        exact (O3.pin _ (.head _)).1
      · obtain ⟨ob, q⟩ := hfp b hb z
        have q1 := O1.inh _ _ (q i μ hI O1.ext.up)
        rw [e] at q1; cases q1
        exact O3.inh _ _ (q (i + 1) μ' hI3 O3.ext.up)
    cases f with
    | ret v => exact h₃
    | brk =>
      obtain ⟨μ', h', tk', rfl, O3, hF⟩ := h₃
      exact fin μ' h' tk' (.inr hF) (O3.unpin fun p hp => .tail _ hp)
    | cont =>
      obtain ⟨μ', h', tk', rfl, O3, hI3⟩ := h₃
      exact back μ' h' tk' O3 fun _ => hI3
    | next =>
      obtain ⟨μ', h', tk', rfl, O3, hI3⟩ := h₃
      exact back μ' h' tk' O3 fun _ => hI3
  · have hin' : i = n := by omega
    subst hin'
    refine W.done _ _ _ hst fun h₁ tk₁ hk₁ => wpAny_execs_nil ?_
    obtain ⟨o0, ho0⟩ := hl _ _ hst
    refine fin μ h₁ tk₁ (.inl hI) ?_
    have hk' : ∀ b o, b ≠ I → H.get? b = some o → h₁.get? b = some o := fun b o q => hk₁ b o (fun z => q (List.mem_singleton.mp z))
    obtain ⟨m, F, hm⟩ := O.fr
    have kb : ∀ b o, base.get? b = some o → h₁.get? b = some o := fun b o e => hk' b o (fun z => by rw [z, hbI] at e; cases e) (F.keep b o e)
    exact ⟨⟨m, ⟨F.ns.at' fun o e => hk' _ o (Ne.symm hLI) e, kb, F.above⟩, hm⟩, ⟨kb, O.ext.up, fun b o e => hk' b o (fun z => by rw [z, hμ] at e; cases e) (O.inh b o e), O.ext.new⟩, O.off, fun p hp => let ⟨a, b, c, d⟩ := O.pin p hp; ⟨hk' _ _ (hpI p hp) a, b, c, d⟩⟩
theorem ForAt.list {x : Str} {body : List Stmt} {Q : Flow → Shared → Prop} {s₁ : Shared} {a : Addr} {items : List Value} {na : Nat} {kn : List (Str × Value)} {pins : List (Addr × Obj)} {μ : Snap} (Inv : Nat → Snap → Prop) (Fin : Snap → Prop) (hh : A.handled = none)
    (ha : ∀ i μ, Inv i μ → Sle g μ → μ a = some (listOf items.toArray na)) (O : Own base g env.locals kn pins μ s₁.heap) (h0 : Inv 0 μ)
    (step : ∀ i v μ h tk I oI, i < items.length → items[i]? = some v → Inv i μ → Own base g env.locals ((x, v) :: kn) ((I, oI) :: pins) μ h →
      wpAny (model prog w) A (execs body env) (fun fl s' => match fl with
        | .next | .cont => ∃ μ' h' tk', s' = { s₁ with heap := h', toks := tk' } ∧ Own base g env.locals kn ((I, oI) :: pins) μ' h' ∧ Inv (i + 1) μ'
        | .brk => ∃ μ' h' tk', s' = { s₁ with heap := h', toks := tk' } ∧ Own base g env.locals kn ((I, oI) :: pins) μ' h' ∧ Fin μ'
        | .ret v => Q (.ret v) s') E { s₁ with heap := h, toks := tk })
    (fin : ∀ μ h tk, (Inv items.length μ ∨ Fin μ) → Own base g env.locals kn pins μ h → Q .next { s₁ with heap := h, toks := tk }) : ForAt prog w A E env base g x body Q (.ref a) s₁ := by
  have ha0 := O.inh _ _ (ha 0 μ h0 O.ext.up)
  have hlt := lt_of_get ha0
  refine ⟨items.length, fun i v => items[i]? = some v, kn, pins, μ, Inv, Fin, _, [s₁.heap.objs.size, a], fun i h => h.IsListIter s₁.heap.objs.size a i ∧ h.IsList a items.toArray, fun Q E hq => wpAny_pyIter_list (items := items.toArray) ⟨_, ha0, rfl, _, rfl⟩ hq, ?_, ?_, ?_, ?_, O, h0, step, fin⟩
  · have := Walks.list (prog := prog) (w := w) hh s₁.heap.objs.size a (Nat.ne_of_lt hlt) items.toArray
    simpa using this
  · exact ⟨⟨_, Heap.get?_push_size _ rfl, rfl, rfl⟩, ⟨_, push_grow _ _ ha0, rfl, _, rfl⟩⟩
  · rintro i h ⟨⟨o, e, _⟩, _⟩
    exact ⟨_, e⟩
  · intro b hb hn
    simp only [List.mem_cons, List.not_mem_nil, or_false] at hb
    rcases hb with rfl | rfl
    · exact absurd rfl hn
    · exact ⟨_, ha⟩
theorem ForAt.range {x : Str} {body : List Stmt} {Q : Flow → Shared → Prop} {s₁ : Shared} {r : Addr} {a b c : Int} {t u v : Tok} {n : Nat} {kn : List (Str × Value)} {pins : List (Addr × Obj)} {μ : Snap} (Inv : Nat → Snap → Prop) (Fin : Snap → Prop) (hh : A.handled = none)
    (hr : IsRange s₁.heap r a b c t u v) (hsmall : Builtin.Range.small a b c = true) (hn : Builtin.Range.rangeSize a b c = n) (O : Own base g env.locals kn pins μ s₁.heap) (h0 : Inv 0 μ)
    (step : ∀ i v μ h tk I oI, i < n → (∃ t, v = .int (a + i * c) t) → Inv i μ → Own base g env.locals ((x, v) :: kn) ((I, oI) :: pins) μ h →
      wpAny (model prog w) A (execs body env) (fun fl s' => match fl with
        | .next | .cont => ∃ μ' h' tk', s' = { s₁ with heap := h', toks := tk' } ∧ Own base g env.locals kn ((I, oI) :: pins) μ' h' ∧ Inv (i + 1) μ'
        | .brk => ∃ μ' h' tk', s' = { s₁ with heap := h', toks := tk' } ∧ Own base g env.locals kn ((I, oI) :: pins) μ' h' ∧ Fin μ'
        | .ret v => Q (.ret v) s') E { s₁ with heap := h, toks := tk })
    (fin : ∀ μ h tk, (Inv n μ ∨ Fin μ) → Own base g env.locals kn pins μ h → Q .next { s₁ with heap := h, toks := tk }) : ForAt prog w A E env base g x body Q (.ref r) s₁ := by
  refine ⟨n, fun i v => ∃ t, v = .int (a + i * c) t, kn, pins, μ, Inv, Fin, _, [s₁.heap.objs.size], fun i h => IsRangeIter h s₁.heap.objs.size (a + (i : Nat) * c) ((n : Int) - (i : Nat)) c, fun Q E hq => wpAny_pyIter_range hr hsmall hq, Walks.range hh _ a c n, ?_, ?_, ?_, O, h0, step, fin⟩
  · show IsRangeIter _ _ _ _ _
    rw [hn]
    simp only [Int.zero_mul, Int.add_zero, Int.sub_zero, Int.natCast_zero]
    exact Heap.get?_push_size _ rfl
  · intro i h e
    exact ⟨_, e⟩
  · intro b hb hn
    exact absurd (List.mem_singleton.mp hb) hn
theorem IterOf.range {s₁ : Shared} {r : Addr} {a b c : Int} {t u v : Tok} {n : Nat} (hh : A.handled = none) (hr : IsRange s₁.heap r a b c t u v) (hsmall : Builtin.Range.small a b c = true) (hn : Builtin.Range.rangeSize a b c = n) : IterOf prog w A (.ref r) s₁ n (fun i v => ∃ t, v = .int (a + i * c) t) := by
  refine ⟨_, [s₁.heap.objs.size], fun i h => IsRangeIter h s₁.heap.objs.size (a + (i : Nat) * c) ((n : Int) - (i : Nat)) c, fun Q E hq => wpAny_pyIter_range hr hsmall hq, Walks.range hh _ a c n, ?_, ?_, ?_⟩
  · show IsRangeIter _ _ _ _ _
    rw [hn]
    simp only [Int.zero_mul, Int.add_zero, Int.sub_zero, Int.natCast_zero]
    exact Heap.get?_push_size _ rfl
  · intro b hb
    rw [List.mem_singleton.mp hb, Heap.size_push]
    exact Nat.lt_succ_self _
  · intro i h e
    exact ⟨_, e⟩
end
end Mine
end
section
open PySem PySem.W PySem.Calls PyProof.Rows PySem.Spec
set_option Elab.async false
set_option maxRecDepth 100000
set_option maxHeartbeats 4000000
namespace Mine
/-- all but cells stands as it stood -/
def KeepP (μ μ' : Snap) : Prop := ∀ b o, μ b = some o → (∀ u, o.data ≠ .cell u) → μ' b = some o
theorem KeepP.lst {μ μ' : Snap} {b : Addr} {us : Array Value} {n : Nat} (k : KeepP μ μ') (e : μ b = some (listOf us n)) : μ' b = some (listOf us n) := k _ _ e fun u q => by cases q
theorem KeepP.tup {μ μ' : Snap} {b : Addr} {us : Array Value} {n : Nat} (k : KeepP μ μ') (e : μ b = some { cls := .type "tuple", data := .seq us n }) : μ' b = some { cls := .type "tuple", data := .seq us n } := k _ _ e fun u q => by cases q
theorem KeepP.of_le {μ μ' : Snap} (k : Sle μ μ') : KeepP μ μ' := fun b o e _ => k b o e
theorem KeepP.trans {μ μ' μ'' : Snap} (k : KeepP μ μ') (k' : KeepP μ' μ'') : KeepP μ μ'' := fun b o e n => k' b o (k b o e n) n
theorem Own.le {base : Heap} {g μ : Snap} {L a : Addr} {o : Obj} {kn : List (Str × Value)} {pins : List (Addr × Obj)} {h : Heap} (_ : Own base g L kn pins (μ.put a o) h) (ha : μ a = none) : Sle μ (μ.put a o) := Snap.le_put ha
theorem ne_none {μ : Snap} {a b : Addr} {o : Obj} (ea : μ a = some o) (hb : μ b = none) : a ≠ b := by rintro rfl; rw [ea] at hb; cases hb
/-- a cell of the def's own -/
def CellAt (g μ : Snap) (c : Addr) (v : Option Value) : Prop := ∃ o, μ c = some o ∧ o.data = .cell v ∧ g c = none
/-- the def's cells, by name; vs: what stands in those that are set -/
structure Cs (g μ : Snap) (cells : List (Str × Addr)) (vs : List (Str × Value)) : Prop where
  at_ : ∀ x c, cells.lookup x = some c → CellAt g μ c (vs.lookup x)
  apart : ∀ x y c c', cells.lookup x = some c → cells.lookup y = some c' → x ≠ y → c ≠ c'
theorem Cs.up {g μ μ' : Snap} {cells : List (Str × Addr)} {vs : List (Str × Value)} (k : Sle μ μ') (C : Cs g μ cells vs) : Cs g μ' cells vs := ⟨fun x c e => let ⟨o, a, b, d⟩ := C.at_ x c e; ⟨o, k _ _ a, b, d⟩, C.apart⟩
theorem Cs.new {g μ : Snap} {a : Addr} {o : Obj} {cells : List (Str × Addr)} {vs : List (Str × Value)} (ha : μ a = none) (C : Cs g μ cells vs) : Cs g (μ.put a o) cells vs := C.up (Snap.le_put ha)
theorem Cs.mut {g μ : Snap} {a : Addr} {o o' : Obj} {cells : List (Str × Addr)} {vs : List (Str × Value)} (ha : μ a = some o) (hs : ∀ v, o.data ≠ .cell v) (C : Cs g μ cells vs) : Cs g (μ.put a o') cells vs :=
  ⟨fun x c e => let ⟨p, q, b, d⟩ := C.at_ x c e; ⟨p, by rw [Snap.put_ne (by rintro rfl; rw [ha] at q; cases q; exact hs _ b)]; exact q, b, d⟩, C.apart⟩
theorem Cs.set {g μ : Snap} {c : Addr} {o' : Obj} {x : Str} {v : Value} {cells : List (Str × Addr)} {vs : List (Str × Value)} (hc : cells.lookup x = some c) (hd : o'.data = .cell (some v)) (C : Cs g μ cells vs) : Cs g (μ.put c o') cells ((x, v) :: vs) := by
  refine ⟨fun y c' e => ?_, C.apart⟩
  obtain ⟨p, q, b, d⟩ := C.at_ y c' e
  by_cases z : y = x
  · subst z
    rw [hc] at e; cases e
    refine ⟨o', Snap.put_self, ?_, d⟩
    rw [hd, List.lookup]
    split
    · rfl
    · rename_i w; simp at w
  · refine ⟨p, by rw [Snap.put_ne (C.apart y x c' c e hc z)]; exact q, ?_, d⟩
    rw [b, List.lookup]
    split
    · rename_i w; exact absurd (beq_iff_eq.mp w) z
    · rfl
section
variable {prog : Program} {w : World} {M : Model} {A : Around} {E : Value → Shared → Prop} {s : Shared} {env : Env} {base : Heap} {g μ : Snap} {L : Addr} {kn : List (Str × Value)} {pins : List (Addr × Obj)} {vs : List (Str × Value)}
theorem own_cellC {x : Str} {pos : Pos} {c : Addr} {v : Value} {Q : Value → Shared → Prop} (O : Own base g L kn pins μ s.heap) (C : Cs g μ env.cells vs) (hc : env.cells.lookup x = some c) (hv : vs.lookup x = some v) (h : Q v s) (hk : env.scope.kind = .function) (hx : env.kindOf x = some .cell) (hb : (x == ("__debug__" : Str)) = false := by decide) :
    wpAny M A (eval (.Name x pos) env) Q E s := by
  obtain ⟨o, e, d, _⟩ := C.at_ x c hc
  rw [hv] at d
  exact wpAny_Name (wpAny_loadName_cell hk hx hc ⟨o, O.inh _ _ e, d⟩ h) hb
theorem own_storeC' {x : Str} {v : Value} {c : Addr} {Q : Unit → Shared → Prop} (O : Own base g L kn pins μ s.heap) (C : Cs g μ env.cells vs) (hc : env.cells.lookup x = some c)
    (h : ∀ h' μ', Own base g L kn pins μ' h' → Cs g μ' env.cells ((x, v) :: vs) → KeepP μ μ' → Q () { s with heap := h' }) (hk : env.scope.kind = .function) (hx : env.kindOf x = some .cell) : wpAny M A (storeName env x v) Q E s := by
  obtain ⟨o, e, d, gc⟩ := C.at_ x c hc
  refine own_storeC O hc e gc d (fun h' o' hd' O' => h h' _ O' (C.set hc hd') (fun b p q nc => ?_)) hk hx
  rw [Snap.put_ne (by rintro rfl; rw [e] at q; cases q; exact nc _ d)]; exact q
/-- a name of the def's, out of a turn: what the block's own line asks for -/
theorem Cs.news {x : Str} {c : Addr} {cells : List (Str × Addr)} {v : Value} {h : Heap} (O : Own base g L kn pins μ h) (C : Cs g μ cells vs) (hc : cells.lookup x = some c) (hv : vs.lookup x = some v) : ∃ o, News base L h [(c, o)] ∧ o.data = .cell (some v) ∧ μ c = some o := by
  obtain ⟨o, e, d, gc⟩ := C.at_ x c hc
  exact ⟨o, O.news (by intro p hp; rw [List.mem_singleton.mp hp]; exact ⟨e, gc⟩), by rw [d, hv], e⟩
end
end Mine
end
section
open PySem PySem.W
set_option Elab.async false
namespace Mine
/-- a new member under the one told -/
def addTo (st : List (List Nat)) (r : Nat) : List (List Nat) := st.set r (st.getD r [] ++ [st.length]) ++ [[]]
def movesI (ns : List Int) : List (List Nat) := ns.foldl (fun st x => addTo st (x.fmod st.length).toNat) [[]]
def tr (ch : List (List Nat)) : Nat → Nat → Tree
  | 0, _ => .node []
  | f + 1, j => .node ((ch.getD j []).map (tr ch f))
def mex (l : List Nat) : Nat := ((List.range (l.length + 1)).filter fun n => !(l.any (· == n))).headD 0
def worthStep (mv : List (List Nat)) (W : List Nat) (k : Nat) : List Nat := W.set k (mex ((mv.getD k []).map fun m => W.getD m 0))
def worthTo (mv : List (List Nat)) : Nat → List Nat
  | 0 => List.replicate mv.length 0
  | i + 1 => worthStep mv (worthTo mv i) (mv.length - 1 - i)
def worthOf (mv : List (List Nat)) : List Nat := worthTo mv mv.length
theorem addTo_len (st : List (List Nat)) (r : Nat) : (addTo st r).length = st.length + 1 := by simp [addTo]
theorem movesI_len (ns : List Int) : (movesI ns).length = ns.length + 1 := by
  have : ∀ (ns : List Int) (st : List (List Nat)), (ns.foldl (fun st x => addTo st (x.fmod st.length).toNat) st).length = st.length + ns.length := by
    intro ns
    induction ns with
    | nil => intro st; simp
    | cons x xs ih => intro st; rw [List.foldl_cons, ih, addTo_len, List.length_cons]; omega
  rw [movesI, this]; simp; omega
theorem movesI_next (ns : List Int) (x : Int) : movesI (ns ++ [x]) = addTo (movesI ns) (x.fmod (movesI ns).length).toNat := by
  simp [movesI, List.foldl_append]
theorem worthTo_len (mv : List (List Nat)) : ∀ i, (worthTo mv i).length = mv.length
  | 0 => by simp [worthTo]
  | i + 1 => by simp [worthTo, worthStep, worthTo_len mv i]
theorem addTo_small {st : List (List Nat)} {r : Nat} (h : ∀ c ∈ st, c.length < st.length) (h0 : 0 < st.length) : ∀ c ∈ addTo st r, c.length < (addTo st r).length := by
  intro c hc
  rw [addTo_len]
  unfold addTo at hc
  rcases List.mem_append.mp hc with hc | hc
  · rcases List.mem_or_eq_of_mem_set hc with hc | rfl
    · exact Nat.lt_succ_of_lt (h c hc)
    · rw [List.length_append, List.length_singleton]
      have : (st.getD r []).length < st.length := by
        rw [List.getD_eq_getElem?_getD]
        cases e : st[r]? with
        | none => exact h0
        | some x => exact h x (List.mem_of_getElem? e)
      omega
  · rw [List.mem_singleton.mp hc]
    simp
theorem movesI_small (ns : List Int) : ∀ c ∈ movesI ns, c.length < (movesI ns).length := by
  have : ∀ (ns : List Int) (st : List (List Nat)), 0 < st.length → (∀ c ∈ st, c.length < st.length) → ∀ c ∈ ns.foldl (fun st x => addTo st (x.fmod st.length).toNat) st, c.length < (ns.foldl (fun st x => addTo st (x.fmod st.length).toNat) st).length := by
    intro ns
    induction ns with
    | nil => intro st _ h; exact h
    | cons x xs ih => intro st h0 h; exact ih _ (by rw [addTo_len]; omega) (addTo_small h h0)
  exact this ns [[]] (by decide) (by decide)
/-- a move leads to a later game -/
def Up (st : List (List Nat)) : Prop := ∀ (j : Nat) c, st[j]? = some c → ∀ k ∈ c, j < k ∧ k < st.length
theorem addTo_up {st : List (List Nat)} {r : Nat} (h : Up st) : Up (addTo st r) := by
  intro j c hc k hk
  rw [addTo_len]
  have hj := (List.getElem?_eq_some_iff.mp hc).1
  rw [addTo_len] at hj
  unfold addTo at hc
  by_cases hjl : j < st.length
  · rw [List.getElem?_append_left (by simpa using hjl)] at hc
    by_cases z : r = j
    · subst z
      rw [List.getElem?_set_self hjl] at hc
      cases hc
      rcases List.mem_append.mp hk with hk | hk
      · have e : st[r]? = some (st.getD r []) := by rw [List.getD_eq_getElem?_getD, List.getElem?_eq_getElem hjl]; rfl
        have := h r _ e k hk
        omega
      · rw [List.mem_singleton.mp hk]; omega
    · rw [List.getElem?_set_ne z] at hc
      have := h j c hc k hk
      omega
  · rw [List.getElem?_append_right (by simpa using Nat.le_of_not_lt hjl)] at hc
    have : j - (st.set r (st.getD r [] ++ [st.length])).length = 0 := by simp; omega
    rw [this] at hc
    simp at hc
    subst hc; cases hk
theorem movesI_up (ns : List Int) : Up (movesI ns) := by
  have : ∀ (ns : List Int) (st : List (List Nat)), Up st → Up (ns.foldl (fun st x => addTo st (x.fmod st.length).toNat) st) := by
    intro ns
    induction ns with
    | nil => intro st h; exact h
    | cons x xs ih => intro st h; exact ih _ (addTo_up h)
  refine this ns [[]] ?_
  intro j c hc k hk
  cases j with
  | zero => simp at hc; subst hc; cases hk
  | succ n => simp at hc
theorem pigeon : ∀ (k : Nat) (l : List Nat), (∀ n, n < k → n ∈ l) → k ≤ l.length
  | 0, _, _ => Nat.zero_le _
  | k + 1, l, h => by
    have hk := h k (Nat.lt_succ_self _)
    have := pigeon k (l.erase k) fun n hn => (List.mem_erase_of_ne (Nat.ne_of_lt hn)).mpr (h n (Nat.lt_succ_of_lt hn))
    rw [List.length_erase_of_mem hk] at this
    have := List.length_pos_of_mem hk
    omega
/-- the numbers that the list lacks -/
def lacks (l : List Nat) (n : Nat) : List Nat := (List.range n).filter fun n => !(l.any (· == n))
theorem lacks_next (l : List Nat) (n : Nat) : lacks l (n + 1) = if l.any (· == n) then lacks l n else lacks l n ++ [n] := by
  unfold lacks
  rw [List.range_succ, List.filter_append]
  have : [n].filter (fun n => !(l.any (· == n))) = if l.any (· == n) then [] else [n] := by
    rw [List.filter_cons, List.filter_nil]
    cases l.any (· == n) <;> rfl
  rw [this]
  split <;> simp
theorem lacks_some (l : List Nat) : ∃ rest, lacks l (l.length + 1) = mex l :: rest := by
  have e : mex l = (lacks l (l.length + 1)).headD 0 := rfl
  cases q : lacks l (l.length + 1) with
  | nil =>
    have := pigeon (l.length + 1) l fun n hn => by
      have z : n ∉ lacks l (l.length + 1) := by rw [q]; simp
      unfold lacks at z
      rw [List.mem_filter] at z
      have : ¬ (!(l.any (· == n))) = true := fun w => z ⟨List.mem_range.mpr hn, w⟩
      simpa using this
    omega
  | cons x r => exact ⟨r, by rw [e, q]; rfl⟩
theorem any_cast (l : List Nat) (n : Nat) : (l.map Int.ofNat).any (· == (n : Int)) = l.any (· == n) := by
  induction l with
  | nil => rfl
  | cons x r ih =>
    rw [List.map_cons, List.any_cons, List.any_cons, ih]
    congr 1
    by_cases h : x = n
    · subst h; simp
    · have : (Int.ofNat x == (n : Int)) = false := by simp; omega
      rw [this]; simp [h]
/-- the seven numbers drawn -/
def restI : List Int := [0, 1, 0, 2, 0, 0, 1]
def drawI (ns : List Int) : List Int := (List.range 7).map fun k => if k < ns.length then ns.getD k 0 else restI.getD k 0
end Mine
end
section
open PySem PySem.W
set_option Elab.async false
set_option maxRecDepth 100000
namespace Mine
abbrev BSt := List (Nat × Nat) × List (List Nat)
/-- one more place in the two games' common lay-out -/
def addQ (s : BSt) (k : Nat) (e : Nat × Nat) : BSt := (s.1 ++ [e], addTo s.2 k)
def bfsHalf (s : BSt) (k : Nat) (es : List (Nat × Nat)) : BSt := es.foldl (fun s e => addQ s k e) s
def bfsStep (mv1 mv2 : List (List Nat)) (s : BSt) (k : Nat) : BSt :=
  bfsHalf (bfsHalf s k ((mv1.getD (s.1.getD k (0, 0)).1 []).map fun m => (m, (s.1.getD k (0, 0)).2))) k ((mv2.getD (s.1.getD k (0, 0)).2 []).map fun m => ((s.1.getD k (0, 0)).1, m))
def bfsTo (mv1 mv2 : List (List Nat)) : Nat → BSt
  | 0 => ([(0, 0)], [[]])
  | k + 1 => bfsStep mv1 mv2 (bfsTo mv1 mv2 k) k
def bfsRun (mv1 mv2 : List (List Nat)) : Nat → Nat → BSt → Option BSt
  | 0, _, _ => none
  | f + 1, k, s => if k = s.1.length then some s else bfsRun mv1 mv2 f (k + 1) (bfsStep mv1 mv2 s k)
theorem bfsRun_some {mv1 mv2 : List (List Nat)} {k' : Nat} (h : k' = (bfsTo mv1 mv2 k').1.length) (hn : ∀ j, j < k' → j ≠ (bfsTo mv1 mv2 j).1.length) : ∀ f k, k ≤ k' → k' < k + f → bfsRun mv1 mv2 f k (bfsTo mv1 mv2 k) = some (bfsTo mv1 mv2 k')
  | 0, k, a, b => by omega
  | f + 1, k, a, b => by
    unfold bfsRun
    by_cases e : k = k'
    · subst e; rw [if_pos h]
    · rw [if_neg (hn k (by omega))]
      exact bfsRun_some h hn f (k + 1) (by omega) (by omega)
theorem bfsRun_none {mv1 mv2 : List (List Nat)} : ∀ f k, (∀ j, j < k + f → j ≠ (bfsTo mv1 mv2 j).1.length) → bfsRun mv1 mv2 f k (bfsTo mv1 mv2 k) = none
  | 0, _, _ => rfl
  | f + 1, k, h => by
    unfold bfsRun
    rw [if_neg (h k (by omega))]
    exact bfsRun_none f (k + 1) (fun j hj => h j (by omega))

def toldOf (t : Tree) : List (Option Int) := (winF 7 t).map (·.1)
def dueOne (mv : List (List Nat)) (wo : List Nat) : List Nat := (List.range (mv.getD 0 []).length).filter fun k => wo.getD ((mv.getD 0 []).getD k 0) 0 == 0
def alikeOf (mv1 mv2 : List (List Nat)) (one other : List Nat) : List Bool := ((mv1.getD 0 []).map fun m => one.getD m 0 == other.getD 0 0) ++ (mv2.getD 0 []).map fun m => one.getD 0 0 == other.getD m 0
def dueBoth (al : List Bool) : List Nat := (List.range al.length).filter fun k => al.getD k false
def asTold (l : List Nat) : List (Option Int) := l.map fun (k : Nat) => some (Int.ofNat k)
def lawCheck (mv1 mv2 : List (List Nat)) : Bool :=
  match bfsRun mv1 mv2 200 0 ([(0, 0)], [[]]) with
  | none => false
  | some s => toldOf (tr mv1 mv1.length 0) == asTold (dueOne mv1 (worthOf mv1)) && toldOf (tr mv2 mv2.length 0) == asTold (dueOne mv2 (worthOf mv2)) && toldOf (tr s.2 s.2.length 0) == asTold (dueBoth (alikeOf mv1 mv2 (worthOf mv1) (worthOf mv2)))
def movesR (rs : List Nat) : List (List Nat) := rs.foldl addTo [[]]
theorem check_000 : ((List.range 2).all fun q1 => (List.range 3).all fun q2 => lawCheck (movesR [0, 0, 0, 0]) (movesR [0, q1, q2])) = true := by decide +kernel
theorem check_001 : ((List.range 2).all fun q1 => (List.range 3).all fun q2 => lawCheck (movesR [0, 0, 0, 1]) (movesR [0, q1, q2])) = true := by decide +kernel
theorem check_002 : ((List.range 2).all fun q1 => (List.range 3).all fun q2 => lawCheck (movesR [0, 0, 0, 2]) (movesR [0, q1, q2])) = true := by decide +kernel
theorem check_003 : ((List.range 2).all fun q1 => (List.range 3).all fun q2 => lawCheck (movesR [0, 0, 0, 3]) (movesR [0, q1, q2])) = true := by decide +kernel
theorem check_010 : ((List.range 2).all fun q1 => (List.range 3).all fun q2 => lawCheck (movesR [0, 0, 1, 0]) (movesR [0, q1, q2])) = true := by decide +kernel
theorem check_011 : ((List.range 2).all fun q1 => (List.range 3).all fun q2 => lawCheck (movesR [0, 0, 1, 1]) (movesR [0, q1, q2])) = true := by decide +kernel
theorem check_012 : ((List.range 2).all fun q1 => (List.range 3).all fun q2 => lawCheck (movesR [0, 0, 1, 2]) (movesR [0, q1, q2])) = true := by decide +kernel
theorem check_013 : ((List.range 2).all fun q1 => (List.range 3).all fun q2 => lawCheck (movesR [0, 0, 1, 3]) (movesR [0, q1, q2])) = true := by decide +kernel
theorem check_020 : ((List.range 2).all fun q1 => (List.range 3).all fun q2 => lawCheck (movesR [0, 0, 2, 0]) (movesR [0, q1, q2])) = true := by decide +kernel
theorem check_021 : ((List.range 2).all fun q1 => (List.range 3).all fun q2 => lawCheck (movesR [0, 0, 2, 1]) (movesR [0, q1, q2])) = true := by decide +kernel
theorem check_022 : ((List.range 2).all fun q1 => (List.range 3).all fun q2 => lawCheck (movesR [0, 0, 2, 2]) (movesR [0, q1, q2])) = true := by decide +kernel
theorem check_023 : ((List.range 2).all fun q1 => (List.range 3).all fun q2 => lawCheck (movesR [0, 0, 2, 3]) (movesR [0, q1, q2])) = true := by decide +kernel
theorem check_100 : ((List.range 2).all fun q1 => (List.range 3).all fun q2 => lawCheck (movesR [0, 1, 0, 0]) (movesR [0, q1, q2])) = true := by decide +kernel
theorem check_101 : ((List.range 2).all fun q1 => (List.range 3).all fun q2 => lawCheck (movesR [0, 1, 0, 1]) (movesR [0, q1, q2])) = true := by decide +kernel
theorem check_102 : ((List.range 2).all fun q1 => (List.range 3).all fun q2 => lawCheck (movesR [0, 1, 0, 2]) (movesR [0, q1, q2])) = true := by decide +kernel
theorem check_103 : ((List.range 2).all fun q1 => (List.range 3).all fun q2 => lawCheck (movesR [0, 1, 0, 3]) (movesR [0, q1, q2])) = true := by decide +kernel
theorem check_110 : ((List.range 2).all fun q1 => (List.range 3).all fun q2 => lawCheck (movesR [0, 1, 1, 0]) (movesR [0, q1, q2])) = true := by decide +kernel
theorem check_111 : ((List.range 2).all fun q1 => (List.range 3).all fun q2 => lawCheck (movesR [0, 1, 1, 1]) (movesR [0, q1, q2])) = true := by decide +kernel
theorem check_112 : ((List.range 2).all fun q1 => (List.range 3).all fun q2 => lawCheck (movesR [0, 1, 1, 2]) (movesR [0, q1, q2])) = true := by decide +kernel
theorem check_113 : ((List.range 2).all fun q1 => (List.range 3).all fun q2 => lawCheck (movesR [0, 1, 1, 3]) (movesR [0, q1, q2])) = true := by decide +kernel
theorem check_120 : ((List.range 2).all fun q1 => (List.range 3).all fun q2 => lawCheck (movesR [0, 1, 2, 0]) (movesR [0, q1, q2])) = true := by decide +kernel
theorem check_121 : ((List.range 2).all fun q1 => (List.range 3).all fun q2 => lawCheck (movesR [0, 1, 2, 1]) (movesR [0, q1, q2])) = true := by decide +kernel
theorem check_122 : ((List.range 2).all fun q1 => (List.range 3).all fun q2 => lawCheck (movesR [0, 1, 2, 2]) (movesR [0, q1, q2])) = true := by decide +kernel
theorem check_123 : ((List.range 2).all fun q1 => (List.range 3).all fun q2 => lawCheck (movesR [0, 1, 2, 3]) (movesR [0, q1, q2])) = true := by decide +kernel
theorem check_all (r1 r2 r3 q1 q2 : Nat) (h1 : r1 < 2) (h2 : r2 < 3) (h3 : r3 < 4) (g1 : q1 < 2) (g2 : q2 < 3) : lawCheck (movesR [0, r1, r2, r3]) (movesR [0, q1, q2]) = true := by
  have key : ∀ rs, ((List.range 2).all fun q1 => (List.range 3).all fun q2 => lawCheck (movesR rs) (movesR [0, q1, q2])) = true → lawCheck (movesR rs) (movesR [0, q1, q2]) = true := fun rs h =>
    List.all_eq_true.mp (List.all_eq_true.mp h q1 (List.mem_range.mpr g1)) q2 (List.mem_range.mpr g2)
  have e1 : r1 = 0 ∨ r1 = 1 := by omega
  have e2 : r2 = 0 ∨ r2 = 1 ∨ r2 = 2 := by omega
  have e3 : r3 = 0 ∨ r3 = 1 ∨ r3 = 2 ∨ r3 = 3 := by omega
  rcases e1 with rfl | rfl <;> rcases e2 with rfl | rfl | rfl <;> rcases e3 with rfl | rfl | rfl | rfl
  · exact key _ check_000
  · exact key _ check_001
  · exact key _ check_002
  · exact key _ check_003
  · exact key _ check_010
  · exact key _ check_011
  · exact key _ check_012
  · exact key _ check_013
  · exact key _ check_020
  · exact key _ check_021
  · exact key _ check_022
  · exact key _ check_023
  · exact key _ check_100
  · exact key _ check_101
  · exact key _ check_102
  · exact key _ check_103
  · exact key _ check_110
  · exact key _ check_111
  · exact key _ check_112
  · exact key _ check_113
  · exact key _ check_120
  · exact key _ check_121
  · exact key _ check_122
  · exact key _ check_123
end Mine
end
section
open PySem PySem.W PySem.Calls PyProof.Rows PySem.Spec
set_option Elab.async false
set_option maxRecDepth 100000
set_option maxHeartbeats 4000000
namespace Mine
theorem kn_of {m : Str → Option Value} {kn : List (Str × Value)} (h : ∀ p ∈ kn, m p.1 = some p.2) : ∀ y v, kn.lookup y = some v → m y = some v := by
  intro y v e
  induction kn with
  | nil => cases e
  | cons p r ih =>
    simp only [List.lookup] at e
    split at e
    · rename_i q
      have := h p (.head _)
      cases e
      rw [beq_iff_eq.mp q]; exact this
    · exact ih (fun q hq => h q (.tail _ hq)) e
/-- the members' lists: refs to the members told -/
def RefsTo (es : List (Addr × Addr)) (us : List Value) (c : List Nat) : Prop := us.length = c.length ∧ ∀ (i k : Nat), c[i]? = some k → ∃ e', es[k]? = some e' ∧ us[i]? = some (.ref e'.1)
/-- the lists of a game under way -/
structure GInv (g : Snap) (L G M : Addr) (o1 o2 : Obj) (st : List (List Nat)) (μ : Snap) (es : List (Addr × Addr)) (ty : Addr → Nat) : Prop where
  len : es.length = st.length
  tG : ty G = 0
  tM : ty M = 1
  t1 : ty (L + 1) = 2
  t2 : ty (L + 1 + 1) = 3
  ta : ∀ (j : Nat) e, es[j]? = some e → ty e.1 = 4 + 2 * j ∧ ty e.2 = 5 + 2 * j
  cG : ∃ n, μ G = some (listOf (es.map fun e => Value.ref e.1).toArray n)
  cM : ∃ n, μ M = some (listOf (es.map fun e => Value.ref e.2).toArray n)
  c1 : μ (L + 1) = some o1
  c2 : μ (L + 1 + 1) = some o2
  gG : g G = none
  gM : g M = none
  g1 : g (L + 1) = none
  g2 : g (L + 1 + 1) = none
  ge : ∀ (j : Nat) e, es[j]? = some e → g e.1 = none ∧ g e.2 = none
  ca : ∀ (j : Nat) e c, es[j]? = some e → st[j]? = some c → ∃ (n : Nat) (us : List Value), μ e.1 = some (listOf us.toArray n) ∧ RefsTo es us c
  cm : ∀ (j : Nat) e c, es[j]? = some e → st[j]? = some c → ∃ (n : Nat) (us : List Value), μ e.2 = some (listOf us.toArray n) ∧ IntsAre us (c.map Int.ofNat)
theorem RefsTo.more {es : List (Addr × Addr)} {us : List Value} {c : List Nat} {e : Addr × Addr} (h : RefsTo es us c) : RefsTo (es ++ [e]) us c :=
  ⟨h.1, fun i k q => let ⟨e', a, b⟩ := h.2 i k q; ⟨e', by rw [List.getElem?_append_left (List.getElem?_eq_some_iff.mp a).1]; exact a, b⟩⟩
theorem RefsTo.add {es : List (Addr × Addr)} {us : List Value} {c : List Nat} {a m : Addr} (h : RefsTo es us c) : RefsTo (es ++ [(a, m)]) (us ++ [.ref a]) (c ++ [es.length]) := by
  refine ⟨by simp [h.1], fun i k q => ?_⟩
  by_cases hi : i < c.length
  · rw [List.getElem?_append_left hi] at q
    obtain ⟨e', x, y⟩ := h.more (e := (a, m)) |>.2 i k q
    exact ⟨e', x, by rw [List.getElem?_append_left (h.1 ▸ hi)]; exact y⟩
  · rw [List.getElem?_append_right (Nat.le_of_not_lt hi)] at q
    have : i - c.length = 0 ∧ k = es.length := by
      cases z : i - c.length with
      | zero => rw [z] at q; simp at q; exact ⟨rfl, q.symm⟩
      | succ n => rw [z] at q; simp at q
    obtain ⟨z, rfl⟩ := this
    refine ⟨(a, m), by simp, ?_⟩
    rw [List.getElem?_append_right (by rw [h.1]; exact Nat.le_of_not_lt hi), h.1, z]; rfl
theorem ints_snoc {us : List Value} {ns : List Int} {x : Int} {t : Tok} (h : IntsAre us ns) : IntsAre (us ++ [.int x t]) (ns ++ [x]) := by
  induction h with
  | nil => exact .cons _ _ .nil
  | cons _ _ _ ih => exact .cons _ _ ih
abbrev lst (vs : List Value) (n : Nat) : Obj := listOf vs.toArray n
abbrev gview (μ : Snap) (len : Nat) (es : List (Addr × Addr)) (m m' M a' a G : Addr) (um ua : List Value) (t : Tok) (nm nM na nG : Nat) : Snap :=
  (((((μ.put m (lst (um ++ [Value.int (len : Nat) t]) nm)).put m' (lst [] 0)).put M (lst ((es.map fun (e : Addr × Addr) => Value.ref e.2) ++ [Value.ref m']) nM)).put a' (lst [] 0)).put a (lst (ua ++ [Value.ref a']) na)).put G (lst ((es.map fun (e : Addr × Addr) => Value.ref e.1) ++ [Value.ref a']) nG)
theorem GInv.step {g : Snap} {L G M : Addr} {o1 o2 : Obj} {st : List (List Nat)} {μ : Snap} {es : List (Addr × Addr)} {ty : Addr → Nat} (I : GInv g L G M o1 o2 st μ es ty) {r : Nat} {a m a' m' : Addr} {nm nM na nG : Nat} {um ua : List Value} {c : List Nat} {t : Tok}
    (he : es[r]? = some (a, m)) (hc : st[r]? = some c) (hm : ∀ b o, μ b = some o → b ≠ m') (ha : ∀ b o, μ b = some o → b ≠ a') (hne : a' ≠ m') (ga : g a' = none) (gm : g m' = none)
    (im : IntsAre um (c.map Int.ofNat)) (ia : RefsTo es ua c) :
    ∃ es' ty', GInv g L G M o1 o2 (addTo st r) (gview μ st.length es m m' M a' a G um ua t nm nM na nG) es' ty' := by
  have hrl := (List.getElem?_eq_some_iff.mp he).1
  obtain ⟨xG, eG⟩ := I.cG
  obtain ⟨xM, eM⟩ := I.cM
  have la := fun (j : Nat) e (q : es[j]? = some e) => (by
    have hj := (List.getElem?_eq_some_iff.mp q).1
    obtain ⟨cc, hcc⟩ : ∃ cc, st[j]? = some cc := ⟨_, List.getElem?_eq_getElem (I.len ▸ hj)⟩
    obtain ⟨n1, us1, e1, _⟩ := I.ca j e cc q hcc
    obtain ⟨n2, us2, e2, _⟩ := I.cm j e cc q hcc
    exact ⟨⟨_, e1⟩, ⟨_, e2⟩⟩ : (∃ o, μ e.1 = some o) ∧ (∃ o, μ e.2 = some o))
  have tr := I.ta r _ he
  have neT : ∀ {x y : Addr}, ty x ≠ ty y → x ≠ y := fun h q => h (q ▸ rfl)
  -- the new ones
  have nGa := ha _ _ eG; have nMa := ha _ _ eM; have n1a := ha _ _ I.c1; have n2a := ha _ _ I.c2
  have nGm := hm _ _ eG; have nMm := hm _ _ eM; have n1m := hm _ _ I.c1; have n2m := hm _ _ I.c2
  refine ⟨es ++ [(a', m')], fun b => if b = a' then 4 + 2 * es.length else if b = m' then 5 + 2 * es.length else ty b, ?_⟩
  have ty_old : ∀ b o, μ b = some o → (if b = a' then 4 + 2 * es.length else if b = m' then 5 + 2 * es.length else ty b) = ty b := fun b o q => by rw [if_neg (ha b o q), if_neg (hm b o q)]
  have split : ∀ (j : Nat) e, (es ++ [(a', m')])[j]? = some e → (es[j]? = some e) ∨ (j = es.length ∧ e = (a', m')) := by
    intro j e q
    by_cases hj : j < es.length
    · rw [List.getElem?_append_left hj] at q; exact .inl q
    · rw [List.getElem?_append_right (Nat.le_of_not_lt hj)] at q
      cases z : j - es.length with
      | zero => rw [z] at q; simp at q; exact .inr ⟨by omega, q.symm⟩
      | succ n => rw [z] at q; simp at q
  have stj : ∀ (j : Nat) cc, j < es.length → (addTo st r)[j]? = some cc → (j = r ∧ cc = c ++ [st.length]) ∨ (j ≠ r ∧ st[j]? = some cc) := by
    intro j cc hj q
    have hj' : j < st.length := I.len ▸ hj
    unfold addTo at q
    rw [List.getElem?_append_left (by simpa using hj')] at q
    by_cases z : j = r
    · subst z
      rw [List.getElem?_set_self hj'] at q
      cases q
      refine .inl ⟨rfl, ?_⟩
      rw [List.getD_eq_getElem?_getD, hc]; rfl
    · rw [List.getElem?_set_ne (Ne.symm z)] at q
      exact .inr ⟨z, q⟩
  have stn : ∀ cc, (addTo st r)[es.length]? = some cc → cc = [] := by
    intro cc q
    unfold addTo at q
    rw [I.len, List.getElem?_append_right (by simp)] at q
    simp at q; exact q
  -- what the view holds
  have tGM : G ≠ M := neT (by rw [I.tG, I.tM]; decide)
  have mG : m ≠ G := neT (by rw [I.tG, tr.2]; omega)
  have mM : m ≠ M := neT (by rw [I.tM, tr.2]; omega)
  have ma : m ≠ a := neT (by rw [tr.1, tr.2]; omega)
  have aG : a ≠ G := neT (by rw [I.tG, tr.1]; omega)
  have aM : a ≠ M := neT (by rw [I.tM, tr.1]; omega)
  obtain ⟨⟨oa, ea⟩, ⟨om, em⟩⟩ := la r _ he
  have aa' := ha _ _ ea; have am' := hm _ _ ea; have ma' := ha _ _ em; have mm' := hm _ _ em
  have view_old : ∀ b o, μ b = some o → b ≠ m → b ≠ M → b ≠ a → b ≠ G → (gview μ st.length es m m' M a' a G um ua t nm nM na nG) b = some o := by
    intro b o q h1 h2 h3 h4
    unfold gview
    rw [Snap.put_ne h4, Snap.put_ne h3, Snap.put_ne (ha b o q), Snap.put_ne h2, Snap.put_ne (hm b o q), Snap.put_ne h1]; exact q
  constructor
  · rw [List.length_append, addTo_len, I.len]; rfl
  · rw [ty_old _ _ eG]; exact I.tG
  · rw [ty_old _ _ eM]; exact I.tM
  · rw [ty_old _ _ I.c1]; exact I.t1
  · rw [ty_old _ _ I.c2]; exact I.t2
  · intro j e q
    rcases split j e q with q | ⟨rfl, rfl⟩
    · obtain ⟨⟨x1, y1⟩, ⟨x2, y2⟩⟩ := la j e q
      rw [ty_old _ _ y1, ty_old _ _ y2]; exact I.ta j e q
    · refine ⟨if_pos rfl, ?_⟩
      show (if m' = a' then _ else if m' = m' then _ else _) = _
      rw [if_neg (Ne.symm hne), if_pos rfl]
  · exact ⟨nG, by unfold gview; rw [Snap.put_self]; simp⟩
  · exact ⟨nM, by unfold gview; rw [Snap.put_ne (Ne.symm tGM), Snap.put_ne (Ne.symm aM), Snap.put_ne nMa, Snap.put_self]; simp⟩
  · exact view_old _ _ I.c1 (neT (by rw [I.t1, tr.2]; omega)) (neT (by rw [I.t1, I.tM]; decide)) (neT (by rw [I.t1, tr.1]; omega)) (neT (by rw [I.t1, I.tG]; decide))
  · exact view_old _ _ I.c2 (neT (by rw [I.t2, tr.2]; omega)) (neT (by rw [I.t2, I.tM]; decide)) (neT (by rw [I.t2, tr.1]; omega)) (neT (by rw [I.t2, I.tG]; decide))
  · exact I.gG
  · exact I.gM
  · exact I.g1
  · exact I.g2
  · intro j e q
    rcases split j e q with q | ⟨rfl, rfl⟩
    · exact I.ge j e q
    · exact ⟨ga, gm⟩
  · intro j e cc q qc
    rcases split j e q with q | ⟨rfl, rfl⟩
    · rcases stj j cc (List.getElem?_eq_some_iff.mp q).1 qc with ⟨rfl, rfl⟩ | ⟨hj, qc⟩
      · rw [he] at q; cases q
        refine ⟨na, _, by unfold gview; rw [Snap.put_ne aG, Snap.put_self], ?_⟩
        rw [← I.len]; exact ia.add
      · obtain ⟨n1, us1, e1, r1⟩ := I.ca j e cc q qc
        have tj := I.ta j e q
        exact ⟨n1, us1, view_old _ _ e1 (neT (by rw [tj.1, tr.2]; omega)) (neT (by rw [tj.1, I.tM]; omega)) (neT (by rw [tj.1, tr.1]; omega)) (neT (by rw [tj.1, I.tG]; omega)), r1.more⟩
    · obtain rfl := stn cc qc
      refine ⟨0, [], ?_, rfl, fun i k z => by simp at z⟩
      unfold gview
      rw [Snap.put_ne (Ne.symm nGa), Snap.put_ne (Ne.symm aa'), Snap.put_self]
  · intro j e cc q qc
    rcases split j e q with q | ⟨rfl, rfl⟩
    · rcases stj j cc (List.getElem?_eq_some_iff.mp q).1 qc with ⟨rfl, rfl⟩ | ⟨hj, qc⟩
      · rw [he] at q; cases q
        refine ⟨nm, um ++ [.int (st.length : Nat) t], ?_, ?_⟩
        · unfold gview
          rw [Snap.put_ne mG, Snap.put_ne ma, Snap.put_ne ma', Snap.put_ne mM, Snap.put_ne mm', Snap.put_self]
        · rw [List.map_append]; exact ints_snoc im
      · obtain ⟨n1, us1, e1, r1⟩ := I.cm j e cc q qc
        have tj := I.ta j e q
        exact ⟨n1, us1, view_old _ _ e1 (neT (by rw [tj.2, tr.2]; omega)) (neT (by rw [tj.2, I.tM]; omega)) (neT (by rw [tj.2, tr.1]; omega)) (neT (by rw [tj.2, I.tG]; omega)), r1⟩
    · obtain rfl := stn cc qc
      refine ⟨0, [], ?_, .nil⟩
      unfold gview
      rw [Snap.put_ne (Ne.symm nGm), Snap.put_ne (Ne.symm am'), Snap.put_ne (Ne.symm hne), Snap.put_ne (Ne.symm nMm), Snap.put_self]
/-- the lists of a game that is built -/
structure GEnd (ν : Snap) (G M a0 : Addr) (mv : List (List Nat)) : Prop where
  cG : ∃ (n : Nat) (rest : List Value), ν G = some (listOf (Value.ref a0 :: rest).toArray n) ∧ rest.length + 1 = mv.length
  cM : ∃ (n : Nat) (ms : List Addr), ν M = some (listOf (ms.map Value.ref).toArray n) ∧ ms.length = mv.length ∧ ∀ (j : Nat) m c, ms[j]? = some m → mv[j]? = some c → ∃ (n : Nat) (us : List Value), ν m = some (listOf us.toArray n) ∧ IntsAre us (c.map Int.ofNat)
  tree : IsTree ν (.ref a0) (tr mv mv.length 0)
theorem GInv.tree {g : Snap} {L G M : Addr} {o1 o2 : Obj} {mv : List (List Nat)} {μ ν : Snap} {es : List (Addr × Addr)} {ty : Addr → Nat} (I : GInv g L G M o1 o2 mv μ es ty) (hup : Up mv) (hz : ∀ c ∈ mv, c.length ≤ sizeLine)
    (hν : ∀ (j : Nat) e, es[j]? = some e → ν e.1 = μ e.1) : ∀ (f j : Nat) e, es[j]? = some e → mv.length ≤ j + f → IsTree ν (.ref e.1) (tr mv f j)
  | 0, j, e, he, hf => by have := (List.getElem?_eq_some_iff.mp he).1; have := I.len; omega
  | f + 1, j, e, he, hf => by
    obtain ⟨c, hc⟩ : ∃ c, mv[j]? = some c := ⟨_, List.getElem?_eq_getElem (I.len ▸ (List.getElem?_eq_some_iff.mp he).1)⟩
    obtain ⟨n, us, e1, hl, hr⟩ := I.ca j e c he hc
    have : mv.getD j [] = c := by rw [List.getD_eq_getElem?_getD, hc]; rfl
    unfold tr
    rw [this]
    refine .node ((hν j e he).trans e1) (by simp [hl]) (by rw [hl]; exact hz c (List.mem_of_getElem? hc)) ?_
    intro i v t hv ht
    rw [List.getElem?_map] at ht
    obtain ⟨k, hk, rfl⟩ : ∃ k, c[i]? = some k ∧ tr mv f k = t := by
      cases q : c[i]? with
      | none => rw [q] at ht; cases ht
      | some k => rw [q] at ht; exact ⟨k, rfl, Option.some.inj ht⟩
    obtain ⟨e', he', hv'⟩ := hr i k hk
    rw [hv] at hv'; cases hv'
    have := hup j c hc k (List.mem_of_getElem? hk)
    exact GInv.tree I hup hz hν f k e' he' (by omega)
theorem GInv.fin {g : Snap} {L G M : Addr} {o1 o2 : Obj} {mv : List (List Nat)} {μ : Snap} {es : List (Addr × Addr)} {ty : Addr → Nat} (I : GInv g L G M o1 o2 mv μ es ty) (hup : Up mv) (hz : ∀ c ∈ mv, c.length ≤ sizeLine) (h0 : 0 < mv.length) :
    ∃ ν a0, Sle ν μ ∧ ν (L + 1) = none ∧ ν (L + 1 + 1) = none ∧ GEnd ν G M a0 mv := by
  have neT : ∀ {x y : Addr}, ty x ≠ ty y → x ≠ y := fun h q => h (q ▸ rfl)
  have put : ∀ {b : Addr}, b ≠ L + 1 → b ≠ L + 1 + 1 → ((μ.del (L + 1)).del (L + 1 + 1)) b = μ b := fun h1 h2 => by rw [Snap.del_ne h2, Snap.del_ne h1]
  obtain ⟨⟨a0, m0⟩, he0⟩ : ∃ e, es[0]? = some e := ⟨_, List.getElem?_eq_getElem (I.len ▸ h0)⟩
  refine ⟨(μ.del (L + 1)).del (L + 1 + 1), a0, fun b o e => Snap.del_le b o (Snap.del_le b o e), ?_, Snap.del_self, ?_, ?_, ?_⟩
  · rw [Snap.del_ne (Nat.ne_of_lt (Nat.lt_succ_self _))]; exact Snap.del_self
  · obtain ⟨n, e⟩ := I.cG
    cases es with
    | nil => simp at he0
    | cons x r =>
      simp at he0
      subst he0
      refine ⟨n, r.map fun e => Value.ref e.1, ?_, by have := I.len; simpa using this⟩
      rw [put (neT (by rw [I.tG, I.t1]; decide)) (neT (by rw [I.tG, I.t2]; decide))]
      exact e
  · obtain ⟨n, e⟩ := I.cM
    refine ⟨n, es.map (·.2), ?_, by simp [I.len], ?_⟩
    · rw [put (neT (by rw [I.tM, I.t1]; decide)) (neT (by rw [I.tM, I.t2]; decide)), e, List.map_map]; rfl
    · intro j m c hm hc
      rw [List.getElem?_map] at hm
      cases q : es[j]? with
      | none => rw [q] at hm; cases hm
      | some e' =>
        rw [q] at hm
        cases hm
        obtain ⟨n, us, e1, e2⟩ := I.cm j e' c q hc
        have tj := I.ta j e' q
        exact ⟨n, us, by rw [put (neT (by rw [tj.2, I.t1]; omega)) (neT (by rw [tj.2, I.t2]; omega))]; exact e1, e2⟩
  · refine I.tree hup hz (fun j e q => ?_) mv.length 0 (a0, m0) he0 (by omega)
    have tj := I.ta j e q
    exact put (neT (by rw [tj.1, I.t1]; omega)) (neT (by rw [tj.1, I.t2]; omega))
theorem ints_set {us : List Value} {ns : List Int} {x : Int} {t : Tok} (h : IntsAre us ns) : ∀ (k : Nat), IntsAre (us.set k (.int x t)) (ns.set k x) := by
  induction h with
  | nil => intro k; cases k <;> exact .nil
  | cons n t' h ih =>
    intro k
    cases k with
    | zero => exact .cons _ _ h
    | succ k => exact .cons _ _ (ih k)
theorem ints_zero (t : Tok) : ∀ (n : Nat), IntsAre (List.replicate n (.int 0 t)) ((List.replicate n 0).map Int.ofNat)
  | 0 => .nil
  | n + 1 => .cons _ _ (ints_zero t n)
theorem GEnd.up {ν ν' : Snap} {G M a0 : Addr} {mv : List (List Nat)} (k : Sle ν ν') (h : GEnd ν G M a0 mv) : GEnd ν' G M a0 mv := by
  obtain ⟨⟨n, rest, e1, e2⟩, ⟨n2, ms, e3, e4, e5⟩, t⟩ := h
  exact ⟨⟨n, rest, k _ _ e1, e2⟩, ⟨n2, ms, k _ _ e3, e4, fun j m c a b => let ⟨n, us, x, y⟩ := e5 j m c a b; ⟨n, us, k _ _ x, y⟩⟩, t.up k⟩
/-- a game as _law_game hands it out -/
structure GameAt (μ : Snap) (M a0 W : Addr) (mv : List (List Nat)) : Prop where
  fin : ∃ G, GEnd μ G M a0 mv
  worth : ∃ (o : Obj) (us : List Value), μ W = some o ∧ o.cls = .type "list" ∧ (∃ n, o.data = .seq us.toArray n) ∧ IntsAre us ((worthOf mv).map Int.ofNat)
theorem GameAt.up {μ μ' : Snap} {M a0 W : Addr} {mv : List (List Nat)} (k : Sle μ μ') (h : GameAt μ M a0 W mv) : GameAt μ' M a0 W mv :=
  ⟨let ⟨G, x⟩ := h.fin; ⟨G, x.up k⟩, let ⟨o, us, a, b⟩ := h.worth; ⟨o, us, k _ _ a, b⟩⟩
end Mine
end
section
open PySem PySem.W PySem.Calls PyProof.Rows PySem.Spec
set_option Elab.async false
set_option maxRecDepth 100000
set_option maxHeartbeats 4000000
namespace Mine
noncomputable section
theorem fill10 : both1 PySem.Challenge.rw_ae5011_01 KF := by
  k_fill
  trivial
local macro_rules | `(tactic| k_inst) => `(tactic| first | with_reducible assumption | exact InstAt.up (by with_reducible assumption) (Fr.keep (by with_reducible assumption)))
local macro_rules | `(tactic| tb_start) => `(tactic| ((case k1 => first | omega | (simp only [recursionLimit] at *; omega)); (case k2 => k_is); (case k3 => k_is); (case k4 => exact BindsTo.of_eq rfl); (case k5 => exact rfl); (case k6 => decide +kernel); (case a => exact rfl); (case b => exact rfl); (case c => exact rfl)))
local macro_rules | `(tactic| walk_at "eval Name") => `(tactic| (k_dflt (refine' nm_local ?F ?x ?_ ?a ?b; (case F => assumption); (case a => rfl); (case b => rfl); (case x => assumption); k_whole)))
local macro_rules | `(tactic| kit_at) => `(tactic| exact kitAt_F (by k_asm) (by with_reducible assumption) rfl)
local macro_rules | `(tactic| tb_rel) => `(tactic| first | (k_unfold; (try dsimp only)) | walk1 | (dsimp only; walk1))
local macro_rules | `(tactic| walk_at "eval Name") => `(tactic| (k_dflt (refine' own_local ?O ?v ?_ ?a ?b; (case O => k_dflt assumption); (case a => exact rfl); (case b => exact rfl); (case v => exact rfl); k_whole)))
local macro_rules | `(tactic| walk_at "storeName") => `(tactic| (k_dflt (refine' own_storeL ?O ?a ?b ?_; (case O => k_dflt assumption); (case a => exact rfl); (case b => exact rfl); k_whole); intro h' O'; have F' := Own.F O'; have N' := Own.N O'))
theorem game_con (w : World) (nl : Addr) (vs : List Value) (ns : List Int) (hi : IntsAre vs ns) (hz : ns.length ≤ 100) : Con w 857 20 200 (fun g a => a = ⟨[.ref nl], []⟩ ∧ ∃ n, g nl = some (listOf vs.toArray n)) (fun g a g' r => ∃ tup G M g0 W n o us, r = .ref tup ∧ g' tup = some { cls := .type "tuple", data := .seq #[.ref g0, .ref M, .ref W] n } ∧ GEnd g' G M g0 (movesI ns) ∧ g' W = some o ∧ o.cls = .type "list" ∧ (∃ n, o.data = .seq (us : List Value).toArray n) ∧ IntsAre us ((worthOf (movesI ns)).map Int.ofNat)) := by
  intro dp un gd outer s args g Q E hdp hu S hg ⟨e, nn, hnl⟩ hret
  subst e
  have S' := S
  obtain ⟨X, ⟨p, l, me, mg, mb, T⟩, base, outer', B⟩ := S'
  k_dflt (refine' con_enterC [(Str.ofString "numbers", .ref nl)] S ?k1 ?k2 ?k3 ?k4 ?k5 ?k6 ?h ?a ?b ?c)
  tb_start
  case h =>
    intro L h₁ tk1 cells F N Y
    k_cells Y
    rename_i o2 o1 d2 d1
    have c1 : o1.data = .cell none := d1
    have c2 : o2.data = .cell none := d2
    clear d1 d2
    iterate 31 tb_rel
    rename News _ _ _ _ => N2
    rename Fr _ _ _ _ => F2
    rename_i a0 _ b1 G _ b2 m0 _ b3 M _ b4 D0 _ b5 _ _ h2
    have gz : ∀ {a o}, (a, o) ∈ _ → g a = none := fun {a o} m => none_of_inH hg (N2 (a, o) m).2.2
    have q1 : @Ne Nat M G := by omega
    have q2 : @Ne Nat (L + 1) G := by omega
    have q3 : @Ne Nat (L + 1) M := by omega
    have q4 : @Ne Nat (L + 1 + 1) G := by omega
    have q5 : @Ne Nat (L + 1 + 1) M := by omega
    have q6 : @Ne Nat (L + 1 + 1) (L + 1) := by omega
    have q7 : @Ne Nat a0 G := by omega
    have q8 : @Ne Nat a0 M := by omega
    have q9 : @Ne Nat a0 (L + 1) := by omega
    have q10 : @Ne Nat a0 (L + 1 + 1) := by omega
    have q11 : @Ne Nat m0 G := by omega
    have q12 : @Ne Nat m0 M := by omega
    have q13 : @Ne Nat m0 (L + 1) := by omega
    have q14 : @Ne Nat m0 (L + 1 + 1) := by omega
    have q15 : @Ne Nat m0 a0 := by omega
    obtain ⟨μ2, O2, I2⟩ : ∃ μ2, Own s.heap g L [(Str.ofString "games", .ref G), (Str.ofString "moves", .ref M), (Str.ofString "numbers", .ref nl)] [] μ2 h2 ∧ ∃ es ty, GInv g L G M o1 o2 (movesI []) μ2 es ty := by
      refine ⟨_, Own.start F2 hg (kn_of (by intro p hp; simp only [List.mem_cons, List.not_mem_nil, or_false] at hp; rcases hp with rfl | rfl | rfl <;> rfl)) N2, [(a0, m0)], fun b => if b = G then 0 else if b = M then 1 else if b = L + 1 then 2 else if b = L + 1 + 1 then 3 else if b = a0 then 4 else 5, ?_⟩
      have one : ∀ (j : Nat) (e : Addr × Addr), [(a0, m0)][j]? = some e → j = 0 ∧ e = (a0, m0) := by
        intro j e q
        cases j with
        | zero => simp at q; exact ⟨rfl, q.symm⟩
        | succ n => simp at q
      constructor
      · rfl
      · exact if_pos rfl
      · show (if M = G then 0 else if M = M then 1 else _) = 1
        rw [if_neg q1, if_pos rfl]
      · show (if L + 1 = G then 0 else if L + 1 = M then 1 else if L + 1 = L + 1 then 2 else _) = 2
        rw [if_neg q2, if_neg q3, if_pos rfl]
      · show (if L + 1 + 1 = G then 0 else if L + 1 + 1 = M then 1 else if L + 1 + 1 = L + 1 then 2 else if L + 1 + 1 = L + 1 + 1 then 3 else _) = 3
        rw [if_neg q4, if_neg q5, if_neg q6, if_pos rfl]
      · intro j e q
        obtain ⟨rfl, rfl⟩ := one j e q
        refine ⟨?_, ?_⟩
        · show (if a0 = G then 0 else if a0 = M then 1 else if a0 = L + 1 then 2 else if a0 = L + 1 + 1 then 3 else if a0 = a0 then 4 else 5) = 4
          rw [if_neg q7, if_neg q8, if_neg q9, if_neg q10, if_pos rfl]
        · show (if m0 = G then 0 else if m0 = M then 1 else if m0 = L + 1 then 2 else if m0 = L + 1 + 1 then 3 else if m0 = a0 then 4 else 5) = 5
          rw [if_neg q11, if_neg q12, if_neg q13, if_neg q14, if_neg q15]
      · exact ⟨0, snap_of N2 (by k_mem)⟩
      · exact ⟨0, snap_of N2 (by k_mem)⟩
      · exact snap_of N2 (by k_mem)
      · exact snap_of N2 (by k_mem)
      · exact gz (o := listOf #[.ref a0] 0) (by k_mem)
      · exact gz (o := listOf #[.ref m0] 0) (by k_mem)
      · exact gz (o := o1) (by k_mem)
      · exact gz (o := o2) (by k_mem)
      · intro j e q
        obtain ⟨rfl, rfl⟩ := one j e q
        exact ⟨gz (o := listOf #[] 0) (by k_mem), gz (o := listOf #[] 0) (by k_mem)⟩
      · intro j e c q qc
        obtain ⟨rfl, rfl⟩ := one j e q
        have : c = [] := by simpa [movesI] using qc.symm
        subst this
        exact ⟨0, [], snap_of N2 (by k_mem), rfl, fun i k z => by simp at z⟩
      · intro j e c q qc
        obtain ⟨rfl, rfl⟩ := one j e q
        have : c = [] := by simpa [movesI] using qc.symm
        subst this
        exact ⟨0, [], snap_of N2 (by k_mem), .nil⟩
    clear N2 F2
    refine own_for (base := s.heap) (g := g) rfl rfl ?_ (by intro _; rfl)
    tb_rel
    refine ForAt.list (items := vs) (na := nn) (fun i μ => ∃ es ty, GInv g L G M o1 o2 (movesI (ns.take i)) μ es ty) (fun _ => False) rfl (fun i μ _ hle => hle _ _ hnl) O2 I2 ?step ?fin
    case step =>
      intro i v μ h tk I oI hi' hv ⟨es, ty, GI⟩ O
      obtain ⟨x, t, rfl, hx⟩ := hi.at i v hv
      dsimp only
      have F := O.F
      have N := O.N
      have hvl := hi.length
      iterate 10 tb_rel
      obtain ⟨nG, eG⟩ := GI.cG
      obtain ⟨nM, eM⟩ := GI.cM
      have hlen : es.length = i + 1 := by rw [GI.len, movesI_len, List.length_take]; omega
      refine call_len_list (items := (es.map fun e => Value.ref e.1).toArray) ⟨_, O.inh _ _ eG, rfl, _, rfl⟩ (by simp; omega) ?_
      rw [show (((es.map fun e => Value.ref e.1).toArray.size : Nat) : Int) = ((i + 1 : Nat) : Int) by simp [hlen]]
      refine mod_int' (by omega) ?_
      have r0 : 0 ≤ x.fmod ((i + 1 : Nat) : Int) := Int.fmod_nonneg_of_pos x (by omega)
      have r1 : x.fmod ((i + 1 : Nat) : Int) < ((i + 1 : Nat) : Int) := Int.fmod_lt_of_pos x (by omega)
      obtain ⟨r, hr⟩ := Int.eq_ofNat_of_zero_le r0
      rw [hr] at r1 ⊢
      iterate 7 tb_rel
      rename Own _ _ _ _ _ _ _ => O3
      have hrl : r < es.length := by omega
      obtain ⟨⟨a, m⟩, he⟩ : ∃ e, es[r]? = some e := ⟨_, List.getElem?_eq_getElem hrl⟩
      obtain ⟨c, hc⟩ : ∃ c, (movesI (ns.take i))[r]? = some c := ⟨_, List.getElem?_eq_getElem (GI.len ▸ hrl)⟩
      obtain ⟨na, ua, ea, ra⟩ := GI.ca r _ c he hc
      obtain ⟨nm, um, em, rm⟩ := GI.cm r _ c he hc
      have tyr := GI.ta r _ he
      have ger := GI.ge r _ he
      have neT : ∀ {x y : Addr}, ty x ≠ ty y → x ≠ y := fun h q => h (q ▸ rfl)
      have fit1 : ((r : Nat) : Int) < 2 ^ 63 := by omega
      refine item_listL (l := es.map fun e => Value.ref e.2) ⟨_, O3.inh _ _ eM, rfl, _, rfl⟩ (Int.natCast_nonneg _) fit1 (x := .ref m) (by simp [he]) ?_
      refine getMethod_list_append (O3.inh _ _ em) rfl rfl ?_
      iterate 8 tb_rel
      refine call_len_list (items := (es.map fun e => Value.ref e.1).toArray) ⟨_, O3.inh _ _ eG, rfl, _, rfl⟩ (by simp; omega) ?_
      rw [show (((es.map fun e => Value.ref e.1).toArray.size : Nat) : Int) = ((i + 1 : Nat) : Int) by simp [hlen]]
      iterate 1 tb_rel
      have hst : (movesI (ns.take i)).length = i + 1 := by rw [← GI.len, hlen]
      have hcl := movesI_small (ns.take i) c (List.mem_of_getElem? hc)
      have hsl : sizeLine = 16777216 := by decide
      have zum : um.length ≤ sizeLine := by have := rm.length; rw [List.length_map] at this; omega
      have zua : ua.length ≤ sizeLine := by have := ra.1; omega
      have zes : es.length ≤ sizeLine := by omega
      refine own_append O3 em ger.2 zum ?_
      intro h4 O4
      have F4 := O4.F
      have N4 := O4.N
      have hmM : m ≠ M := neT (by rw [tyr.2, GI.tM]; omega)
      have hmG : m ≠ G := neT (by rw [tyr.2, GI.tG]; omega)
      have hma : m ≠ a := neT (by rw [tyr.1, tyr.2]; omega)
      have haM : a ≠ M := neT (by rw [tyr.1, GI.tM]; omega)
      have haG : a ≠ G := neT (by rw [tyr.1, GI.tG]; omega)
      have hGM : G ≠ M := neT (by rw [GI.tG, GI.tM]; decide)
      have eM4 := O4.kept eM (Ne.symm hmM)
      have eG4 := O4.kept eG (Ne.symm hmG)
      have ea4 := O4.kept ea (Ne.symm hma)
      iterate 4 tb_rel
      refine getMethod_list_append (O4.inh _ _ eM4) rfl rfl ?_
      iterate 4 tb_rel
      refine own_newList O4 ?_ (by decide)
      intro m' h5 um5 gm5 fm5 O5
      have F5 := O5.F
      have N5 := O5.N
      have eM5 := O5.kept eM4 (fm5 _ _ (O4.inh _ _ eM4))
      have eG5 := O5.kept eG4 (fm5 _ _ (O4.inh _ _ eG4))
      have ea5 := O5.kept ea4 (fm5 _ _ (O4.inh _ _ ea4))
      iterate 1 tb_rel
      refine own_append O5 eM5 GI.gM (by simpa using zes) ?_
      intro h6 O6
      have F6 := O6.F
      have N6 := O6.N
      have eG6 := O6.kept eG5 hGM
      have ea6 := O6.kept ea5 haM
      iterate 6 tb_rel
      refine item_listL (l := es.map fun e => Value.ref e.1) ⟨_, O6.inh _ _ eG6, rfl, _, rfl⟩ (Int.natCast_nonneg _) fit1 (x := .ref a) (by simp [he]) ?_
      refine getMethod_list_append (O6.inh _ _ ea6) rfl rfl ?_
      iterate 4 tb_rel
      refine own_newList O6 ?_ (by decide)
      intro a' h7 ua7 ga7 fa7 O7
      have F7 := O7.F
      have N7 := O7.N
      have eG7 := O7.kept eG6 (fa7 _ _ (O6.inh _ _ eG6))
      have ea7 := O7.kept ea6 (fa7 _ _ (O6.inh _ _ ea6))
      iterate 1 tb_rel
      refine own_append O7 ea7 ger.1 zua ?_
      intro h8 O8
      have F8 := O8.F
      have N8 := O8.N
      have eG8 := O8.kept eG7 (Ne.symm haG)
      have ea8 := O8.got
      iterate 4 tb_rel
      refine getMethod_list_append (O8.inh _ _ eG8) rfl rfl ?_
      iterate 6 tb_rel
      refine item_listL (l := es.map fun e => Value.ref e.1) ⟨_, O8.inh _ _ eG8, rfl, _, rfl⟩ (Int.natCast_nonneg _) fit1 (x := .ref a) (by simp [he]) ?_
      iterate 3 tb_rel
      refine item_last (vs := ua) ⟨_, O8.inh _ _ ea8, rfl, _, rfl⟩ ?_
      iterate 1 tb_rel
      refine own_append O8 eG8 GI.gG (by simpa using zes) ?_
      intro h9 O9
      have F9 := O9.F
      have N9 := O9.N
      refine wpAny_execs_nil ?_
      have hm'M := Ne.symm (fm5 _ _ (O4.inh _ _ eM4))
      have step := fun t => GI.step (nm := nm + 1) (nM := nM + 1) (na := na + 1) (nG := nG + 1) (t := t) he hc (m' := m') (a' := a')
        (fun b o e => by obtain ⟨o', e'⟩ := put_some ⟨o, e⟩; exact fm5 b _ (O4.inh _ _ e'))
        (fun b o e => by obtain ⟨o', e'⟩ := put_some (put_some (put_some ⟨o, e⟩)); exact fa7 b _ (O6.inh _ _ e'))
        (Ne.symm (fa7 _ _ (O6.inh _ _ (O6.kept O5.got hm'M)))) ga7 gm5 rm ra
      simp only [hst] at step
      refine ⟨_, h9, _, rfl, O9.weak (fun y v e => lookup_skip rfl (lookup_skip rfl e)), ?_⟩
      show ∃ es ty, GInv g L G M o1 o2 (movesI (ns.take (i + 1))) _ es ty
      rw [take_next hx, movesI_next, hst]
      have hrr : (x.fmod ((i + 1 : Nat) : Int)).toNat = r := by rw [hr]; rfl
      rw [hrr]
      exact step _
    case fin =>
      intro μ h tk hI O
      have hvl := hi.length
      obtain ⟨es, ty, GI⟩ := hI.resolve_right id
      rw [show ns.take vs.length = ns from List.take_of_length_le (by omega)] at GI
      have hml := movesI_len ns
      have hms := movesI_small ns
      have hmu := movesI_up ns
      generalize hmv : movesI ns = mv at GI hml hms hmu
      have hsl : sizeLine = 16777216 := by decide
      obtain ⟨ν, g0, up, nu1, nu2, GE⟩ := GI.fin hmu (fun c hc => by have := hms c hc; omega) (by omega)
      have k1 := GI.c1
      have k2 := GI.c2
      have gc1 := GI.g1
      have gc2 := GI.g2
      clear GI hI
      obtain ⟨nG, rest, eG, hrest⟩ := GE.cG
      have F := O.F
      have N := O.N
      iterate 7 tb_rel
      refine own_newList O ?_ (by show 1 ≤ sizeLine; decide)
      intro z h1 uz gz' fz O1
      have F1 := O1.F
      have N1 := O1.N
      iterate 6 tb_rel
      have eG1 := O1.kept (up _ _ eG) (fz _ _ (O.inh _ _ (up _ _ eG)))
      refine call_len_list (items := (Value.ref g0 :: rest).toArray) ⟨_, O1.inh _ _ eG1, rfl, _, rfl⟩ (by simp; omega) ?_
      rw [show (((Value.ref g0 :: rest).toArray.size : Nat) : Int) = ((mv.length : Nat) : Int) by rw [← hrest]; simp]
      refine own_repeat O1 O1.got (by omega) ?_
      intro W h2 uW gW fW O2'
      have F2 := O2'.F
      have N2 := O2'.N
      have kk1 := O2'.kept (O1.kept k1 (fz _ _ (O.inh _ _ k1))) (fW _ _ (O1.inh _ _ (O1.kept k1 (fz _ _ (O.inh _ _ k1)))))
      have kk2 := O2'.kept (O1.kept k2 (fz _ _ (O.inh _ _ k2))) (fW _ _ (O1.inh _ _ (O1.kept k2 (fz _ _ (O.inh _ _ k2)))))
      have up2 : Sle ν ((μ.put z (listOf [Value.int 0 _].toArray 0)).put W (listOf (List.replicate mv.length (Value.int 0 _)).toArray 0)) := fun b o e => O2'.kept (O1.kept (up b o e) (fz _ _ (O.inh _ _ (up b o e)))) (fW _ _ (O1.inh _ _ (O1.kept (up b o e) (fz _ _ (O.inh _ _ (up b o e))))))
      have eW := O2'.got
      have nuW : ν W = none := by
        cases q : ν W with
        | none => rfl
        | some o => exact absurd rfl (fW W o (O1.inh _ _ (O1.kept (up _ _ q) (fz _ _ (O.inh _ _ (up _ _ q))))))
      generalize (μ.put z _).put W _ = μ2 at O2' kk1 kk2 up2 eW
      skip
      refine own_storeC O2' (c := L + 1) rfl kk1 gc1 c1 ?_ rfl rfl
      intro h3 oc1 hoc1 O3
      have F3 := O3.F
      have N3 := O3.N
      have k1' := O3.got
      have k2' := O3.kept kk2 (Nat.succ_ne_self _)
      have hWL : W ≠ L + 1 := fun q => by rw [q, kk1] at eW; cases eW; cases c1
      have eW' := O3.kept eW hWL
      have up3 : Sle ν (μ2.put (L + 1) oc1) := fun b o e => O3.kept (up2 b o e) (fun q => by rw [q, nu1] at e; cases e)
      generalize μ2.put (L + 1) oc1 = μ3 at O3 k1' k2' eW' up3
      iterate 1 tb_rel
      have eG3 := up3 _ _ eG
      refine own_for (base := s.heap) (g := g) rfl rfl ?_ (by intro _; rfl)
      iterate 11 tb_rel
      refine call_len_list (items := (Value.ref g0 :: rest).toArray) ⟨_, O3.inh _ _ eG3, rfl, _, rfl⟩ (by simp; omega) ?_
      rw [show (((Value.ref g0 :: rest).toArray.size : Nat) : Int) = ((mv.length : Nat) : Int) by rw [← hrest]; simp]
      iterate 11 tb_rel
      refine call_range_3 (by decide) ?_ (.inl (PyProof.noPylong_small (by omega)))
      refine ForAt.range (n := mv.length) (fun i μ => Sle ν μ ∧ μ (L + 1) = some oc1 ∧ (∃ o v, μ (L + 1 + 1) = some o ∧ o.data = .cell v) ∧ ∃ (o : Obj) (us : List Value), μ W = some o ∧ o.cls = .type "list" ∧ (∃ n, o.data = .seq us.toArray n) ∧ IntsAre us ((worthTo mv i).map Int.ofNat)) (fun _ => False) rfl
        (Heap.get?_push_size _ rfl) (small_down _ (by omega)) (size_down _) (O3.grow push_grow) ⟨up3, k1', ⟨_, _, k2', c2⟩, _, _, eW', rfl, ⟨_, rfl⟩, ints_zero _ _⟩ ?step ?fin
      case step =>
        intro i v μ h tk I oI hi' ⟨tv, hv⟩ ⟨up, k1, ⟨oc2, v2, k2, hd2⟩, oW, us, eW, cW, ⟨nW, dW⟩, iW⟩ O
        subst hv
        dsimp only
        iterate 1 tb_rel
        have hkl : mv.length - 1 - i < mv.length := by omega
        obtain ⟨c, hc⟩ : ∃ c, mv[mv.length - 1 - i]? = some c := ⟨_, List.getElem?_eq_getElem hkl⟩
        obtain ⟨nM, ms, eM, hml', hmem⟩ := GE.cM
        obtain ⟨mk, hmk⟩ : ∃ m, ms[mv.length - 1 - i]? = some m := ⟨_, List.getElem?_eq_getElem (by omega)⟩
        obtain ⟨nmk, usk, ek, ik⟩ := hmem _ _ _ hmk hc
        have hkv : (mv.length : Int) - 1 + (i : Nat) * (-1) = ((mv.length - 1 - i : Nat) : Int) := by omega
        rw [hkv] at O
        have F := O.F
        have N := O.N
        have hWc : W ≠ L + 1 + 1 := fun q => by rw [q, k2] at eW; cases eW; rw [hd2] at dW; cases dW
        tb_rel
        k_dflt (refine' own_lc (base := s.heap) (g := g) ?hclos ?hcell ?hkind ?hnames ?hx ?h ?hs)
        case hclos => with_unfolding_all rfl
        case hcell => decide
        case hkind => exact rfl
        case hnames => decide
        case hx => exact rfl
        case hs => intro _; exact rfl
        iterate 3 tb_rel
        refine item_listL (l := ms.map Value.ref) ⟨_, O.inh _ _ (up _ _ eM), rfl, _, rfl⟩ (Int.natCast_nonneg _) (by omega) (x := .ref mk) (by simp [hmk]) ?_
        refine ⟨L, _, _, μ, usk.length, fun i v => usk[i]? = some v, fun j ys g' => IntsAre ys ((c.take j).map fun m => Int.ofNat ((worthTo mv i).getD m 0)), fun j v ys g' => usk[j]? = some v ∧ IntsAre ys ((c.take j).map fun m => Int.ofNat ((worthTo mv i).getD m 0)), .list rfl ⟨_, O.inh _ _ (up _ _ ek)⟩, O, ?size, .nil, ⟨?tests, ?elt⟩, ?fin2⟩
        case size =>
          have h1 := ik.length
          have h2 := hms c (List.mem_of_getElem? hc)
          rw [List.length_map] at h1
          omega
        case tests =>
          intro C j v ys g' H tk' m E' hC hj hys hv hJ hle hin hH hn hm
          exact testsOf_nil ⟨g', H, _, rfl, .refl hin, hv, hJ⟩
        case elt =>
          intro C j v ys g' H tk' m E' hC hj hys hv hJ hle hin hH hn hm
          obtain ⟨x, t, rfl, hx⟩ := ik.at j v hv
          dsimp only at hC hH ⊢
          obtain ⟨FC, kH⟩ := fr_comp F (fun _ _ e => e) hC (wr := []) (by simp) (fun b o _ e => hH b o e) hn
          have NC : News s.heap C H [(L + 1, oc1)] := news_comp (O.news (l := [(L + 1, oc1)]) (by intro p hp; rw [List.mem_singleton.mp hp]; exact ⟨k1, gc1⟩)) (fun _ _ e => e) kH hC
          clear F N
          iterate 3 tb_rel
          rw [List.getElem?_map] at hx
          obtain ⟨mm, hmm, rfl⟩ : ∃ mm, c[j]? = some mm ∧ Int.ofNat mm = x := by
            cases q : c[j]? with
            | none => rw [q] at hx; cases hx
            | some mm => rw [q] at hx; exact ⟨mm, rfl, Option.some.inj hx⟩
          have hmlt := hmu _ c hc mm (List.mem_of_getElem? hmm)
          have hwl := worthTo_len mv i
          have hw : ((worthTo mv i).map Int.ofNat)[mm]? = some (Int.ofNat ((worthTo mv i).getD mm 0)) := by
            rw [List.getElem?_map, List.getD_eq_getElem?_getD, List.getElem?_eq_getElem (by omega)]; rfl
          obtain ⟨tw, htw⟩ := iW.get mm _ hw
          refine item_listL (l := us) ⟨oW, hin _ _ (hle _ _ eW), cW, nW, dW⟩ (Int.natCast_nonneg mm) (by show ((mm : Nat) : Int) < 2 ^ 63; omega) (x := .int (Int.ofNat ((worthTo mv i).getD mm 0)) tw) htw ?_
          refine ⟨g', H, _, rfl, .refl hin, ?_⟩
          show IntsAre (ys ++ [_]) ((c.take (j + 1)).map _)
          rw [take_next hmm, List.map_append]
          exact ints_snoc hJ.2
        case fin2 =>
          intro r h' tk' zs g' μ' hJ hle1 hle hL hlen O'
          have hJ' : IntsAre zs ((c.take usk.length).map fun m => Int.ofNat ((worthTo mv i).getD m 0)) := hJ
          have hul : usk.length = c.length := by have := ik.length; rw [List.length_map] at this; exact this
          rw [hul, List.take_length] at hJ'
          have hJ2 : IntsAre zs ((c.map fun m => (worthTo mv i).getD m 0).map Int.ofNat) := by rw [List.map_map]; exact hJ'
          clear hJ hJ'
          obtain ⟨Bw, nB, rfl, eB⟩ := hL
          have k2' := hle _ _ k2
          have hB2 : Bw ≠ L + 1 + 1 := fun q => by rw [q, k2'] at eB; cases eB; cases hd2
          clear F N
          have F := O'.F
          have N := O'.N
          refine own_storeC O' (c := L + 1 + 1) rfl k2' gc2 hd2 ?_ rfl rfl
          intro h4 oc4 hoc4 O4
          have k1_4 := O4.kept (hle _ _ k1) (Nat.ne_of_lt (Nat.lt_succ_self _))
          have k2_4 := O4.got
          have eW4 := O4.kept (hle _ _ eW) hWc
          have eB4 := O4.kept eB hB2
          have up4 : Sle ν (μ'.put (L + 1 + 1) oc4) := fun b o e => O4.kept (hle _ _ (up b o e)) (fun q => by rw [q, nu2] at e; cases e)
          clear F N
          have F := O4.F
          have N : News s.heap L h4 [(L + 1, oc1), (L + 1 + 1, oc4)] := O4.news (by
            intro p hp
            simp only [List.mem_cons, List.not_mem_nil, or_false] at hp
            rcases hp with rfl | rfl
            · exact ⟨k1_4, gc1⟩
            · exact ⟨k2_4, gc2⟩)
          dsimp only
          iterate 3 tb_rel
          generalize hbs : (c.map fun m => (worthTo mv i).getD m 0) = bs at hJ2
          have hzl : zs.length = bs.length := by have := hJ2.length; rw [List.length_map] at this; exact this
          have hbl : bs.length ≤ 200 := by have := hms c (List.mem_of_getElem? hc); rw [← hbs, List.length_map]; omega
          k_dflt (refine' own_lc (base := s.heap) (g := g) ?hclos ?hcell ?hkind ?hnames ?hx ?h ?hs)
          case hclos => with_unfolding_all rfl
          case hcell => decide
          case hkind => exact rfl
          case hnames => decide
          case hx => exact rfl
          case hs => intro _; exact rfl
          iterate 11 tb_rel
          refine call_len_list (items := zs.toArray) ⟨_, O4.inh _ _ eB4, rfl, _, rfl⟩ (by simp; omega) ?_
          iterate 3 tb_rel
          rw [show ((zs.toArray.size : Nat) : Int) + 1 = ((bs.length + 1 : Nat) : Int) by simp [hzl]]
          refine call_range_1 ?_
          refine ⟨L, _, _, _, bs.length + 1, _, fun j ys g' => IntsAre ys ((lacks bs j).map Int.ofNat), fun j v ys g' => (∃ t, v = .int ((j : Nat) : Int) t) ∧ bs.any (· == j) = false ∧ IntsAre ys ((lacks bs j).map Int.ofNat), .range rfl (Heap.get?_push_size _ rfl) (small_one (by decide) (by decide) (by omega) (by omega)) (by rw [rangeSize_one]; split <;> omega), O4.grow push_grow, by omega, .nil, ⟨?tests, ?elt⟩, ?fin3⟩
          case tests =>
            intro C j v ys g' H tk' m E' hC hj hys hv hJ hle' hin hH hn hm
            obtain ⟨tj, rfl⟩ := hv
            have hjj : (0 : Int) + ((j : Nat) : Int) * 1 = ((j : Nat) : Int) := by omega
            rw [hjj] at hm ⊢
            dsimp only at hC hH ⊢
            obtain ⟨FC, kH⟩ := fr_comp F push_grow hC (wr := []) (by simp) (fun b o _ e => hH b o e) hn
            have NC := news_comp N push_grow kH hC
            clear F N
            refine testsOf_one ?_
            iterate 3 tb_rel
            refine notin_list_ints (vs := zs) (ns := bs.map Int.ofNat) ⟨_, hin _ _ (hle' _ _ eB4), rfl, _, rfl⟩ hJ2 ?_
            rw [any_cast]
            cases hb : bs.any (· == j)
            all_goals
              tb_rel
              refine ⟨g', H, _, rfl, .refl hin, ?_⟩
            · exact ⟨⟨tj, rfl⟩, rfl, hJ⟩
            · show IntsAre ys ((lacks bs (j + 1)).map Int.ofNat)
              rw [lacks_next, hb, if_pos rfl]; exact hJ
          case elt =>
            intro C j v ys g' H tk' m E' hC hj hys hv hJ hle' hin hH hn hm
            obtain ⟨⟨tj, rfl⟩, hb, hJ⟩ := hJ
            dsimp only at hC hH ⊢
            obtain ⟨FC, kH⟩ := fr_comp F push_grow hC (wr := []) (by simp) (fun b o _ e => hH b o e) hn
            clear F N
            tb_rel
            refine ⟨g', H, _, rfl, .refl hin, ?_⟩
            show IntsAre (ys ++ [_]) ((lacks bs (j + 1)).map Int.ofNat)
            rw [lacks_next, hb, if_neg (by decide), List.map_append]
            exact ints_snoc hJ
          case fin3 =>
            intro r h5 tk5 zs2 g5 μ5 hJ5 hle5 hle5' hL5 hlen5 O5
            have hJ5' : IntsAre zs2 ((lacks bs (bs.length + 1)).map Int.ofNat) := hJ5
            obtain ⟨rest5, hrest5⟩ := lacks_some bs
            rw [hrest5] at hJ5'
            obtain ⟨tm, htm⟩ := hJ5'.get 0 (Int.ofNat (mex bs)) rfl
            obtain ⟨R5, n5, rfl, e5⟩ := hL5
            have k1_5 := hle5' _ _ k1_4
            have k2_5 := hle5' _ _ k2_4
            have eW5 := hle5' _ _ eW4
            clear F N
            have F := O5.F
            have N : News s.heap L h5 [(L + 1, oc1), (L + 1 + 1, oc4)] := O5.news (by
              intro p hp
              simp only [List.mem_cons, List.not_mem_nil, or_false] at hp
              rcases hp with rfl | rfl
              · exact ⟨k1_5, gc1⟩
              · exact ⟨k2_5, gc2⟩)
            dsimp only
            iterate 1 tb_rel
            refine item_listR (items := zs2.toArray) ⟨_, O5.inh _ _ e5, rfl, _, rfl⟩ (by decide) (by decide) (x := .int (Int.ofNat (mex bs)) tm) (by simpa using htm) ?_
            iterate 2 tb_rel
            have hwl := worthTo_len mv i
            have hul5 : us.length = mv.length := by have := iW.length; rw [List.length_map] at this; omega
            refine own_setItem' (vs := us) O5 eW5 cW ⟨nW, dW⟩ gW (by omega) (by omega) ?_
            intro h6 o6 c6 d6 O6
            skip
            refine wpAny_execs_nil ?_
            refine ⟨_, h6, _, rfl, O6.weak (fun y v e => lookup_skip rfl e), ?_⟩
            refine ⟨fun b o e => O6.kept (hle5' _ _ (up4 _ _ e)) (fun q => by rw [q, nuW] at e; cases e), O6.kept k1_5 (Ne.symm hWL), ⟨_, _, O6.kept k2_5 (Ne.symm hWc), hoc4⟩, o6, _, O6.got, c6, d6, ?_⟩
            have hg : mv.getD (mv.length - 1 - i) [] = c := by rw [List.getD_eq_getElem?_getD, hc]; rfl
            show IntsAre _ ((worthStep mv (worthTo mv i) (mv.length - 1 - i)).map Int.ofNat)
            unfold worthStep
            rw [hg, hbs, List.map_set]
            exact ints_set iW _
      case fin =>
        intro μ h tk hI O
        obtain ⟨up, k1, _, oW, us, eW, cW, dW, iW⟩ := hI.resolve_right id
        have F := O.F
        have N : News s.heap L h [(L + 1, oc1)] := O.news (by intro p hp; rw [List.mem_singleton.mp hp]; exact ⟨k1, gc1⟩)
        dsimp only
        iterate 7 tb_rel
        refine item_listL (l := Value.ref g0 :: rest) ⟨_, O.inh _ _ (up _ _ eG), rfl, _, rfl⟩ (by decide) (by decide) (x := .ref g0) rfl ?_
        iterate 5 tb_rel
        refine own_newTuple O ?_ (by show 3 ≤ sizeLine; decide)
        intro tu h7 utu gtu ftu O7
        have kp : Sle μ (μ.put tu { cls := .type "tuple", data := .seq [Value.ref g0, Value.ref M, Value.ref W].toArray }) := fun b o e => O7.kept e (ftu _ _ (O.inh _ _ e))
        refine hret _ _ _ _ O7.ext ⟨tu, G, M, g0, W, 0, oW, us, rfl, O7.got, ?_, kp _ _ eW, cW, dW, ?_⟩
        · rw [hmv]; exact (GE.up up).up kp
        · rw [hmv]; exact iW
end
end Mine
end
section
open PySem PySem.W PySem.Calls PyProof.Rows PySem.Spec
set_option Elab.async false
namespace Mine
theorem IsTree.keepP {μ μ' : Snap} (k : KeepP μ μ') {x : Value} {t : Tree} (h : IsTree μ x t) : IsTree μ' x t := by
  induction h with
  | node e l z _ ih => exact .node (k.lst e) l z ih
theorem GEnd.keepP {μ μ' : Snap} (k : KeepP μ μ') {G M a0 : Addr} {mv : List (List Nat)} (h : GEnd μ G M a0 mv) : GEnd μ' G M a0 mv := by
  obtain ⟨⟨n, rest, e1, e2⟩, ⟨n2, ms, e3, e4, e5⟩, t⟩ := h
  exact ⟨⟨n, rest, k.lst e1, e2⟩, ⟨n2, ms, k.lst e3, e4, fun j m c' a b => let ⟨n, us, x, y⟩ := e5 j m c' a b; ⟨n, us, k.lst x, y⟩⟩, t.keepP k⟩
theorem GameAt.keepP {μ μ' : Snap} (k : KeepP μ μ') {M a0 W : Addr} {mv : List (List Nat)} (h : GameAt μ M a0 W mv) : GameAt μ' M a0 W mv :=
  ⟨let ⟨G, x⟩ := h.fin; ⟨G, x.keepP k⟩, let ⟨o', us, a, b, ⟨n, c'⟩, d⟩ := h.worth; ⟨o', us, k _ _ a (fun u q => by rw [c'] at q; cases q), b, ⟨n, c'⟩, d⟩⟩
theorem GameAt.new {μ : Snap} {a : Addr} {o : Obj} (ha : μ a = none) {M a0 W : Addr} {mv : List (List Nat)} (h : GameAt μ M a0 W mv) : GameAt (μ.put a o) M a0 W mv := h.up (Snap.le_put ha)
end Mine
end
section
open PySem PySem.W PySem.Calls PyProof.Rows PySem.Spec
set_option Elab.async false
set_option maxRecDepth 100000
set_option maxHeartbeats 4000000
namespace Mine
abbrev tupOf (x y : Nat) (t1 t2 : Tok) (p : Addr) (n : Nat) : Obj := { cls := .type "tuple", data := .seq #[Value.int (x : Nat) t1, Value.int (y : Nat) t2, Value.ref p] n }
/-- the lay-out of the two games at once, under way -/
structure BInv (g : Snap) (T : Addr) (s : BSt) (μ : Snap) (es : List (Addr × Addr)) (ty : Addr → Nat) : Prop where
  len : es.length = s.1.length
  lch : s.2.length = s.1.length
  tT : ty T = 0
  ta : ∀ (j : Nat) e, es[j]? = some e → ty e.1 = 1 + 2 * j ∧ ty e.2 = 2 + 2 * j
  cT : ∃ n, μ T = some (lst (es.map fun e => Value.ref e.2) n)
  gT : g T = none
  ge : ∀ (j : Nat) e, es[j]? = some e → g e.1 = none
  ct : ∀ (j : Nat) e (ab : Nat × Nat), es[j]? = some e → s.1[j]? = some ab → ∃ n t1 t2, μ e.2 = some (tupOf ab.1 ab.2 t1 t2 e.1 n)
  cp : ∀ (j : Nat) e c, es[j]? = some e → s.2[j]? = some c → ∃ (n : Nat) (us : List Value), μ e.1 = some (lst us n) ∧ RefsTo es us c
abbrev bview (μ : Snap) (es : List (Addr × Addr)) (a' p t' T : Addr) (us : List Value) (x y : Nat) (t1 t2 : Tok) (np nT : Nat) : Snap :=
  (((μ.put a' (lst [] 0)).put p (lst (us ++ [Value.ref a']) np)).put t' (tupOf x y t1 t2 a' 0)).put T (lst ((es.map fun (e : Addr × Addr) => Value.ref e.2) ++ [Value.ref t']) nT)
theorem BInv.step {g : Snap} {T : Addr} {s : BSt} {μ : Snap} {es : List (Addr × Addr)} {ty : Addr → Nat} (I : BInv g T s μ es ty) {k x y : Nat} {p t0 a' t' : Addr} {np nT : Nat} {us : List Value} {c : List Nat} {t1 t2 : Tok}
    (he : es[k]? = some (p, t0)) (hc : s.2[k]? = some c) (ha : ∀ b o, μ b = some o → b ≠ a') (ht : ∀ b o, μ b = some o → b ≠ t') (hne : a' ≠ t') (ga : g a' = none) (hr : RefsTo es us c) :
    ∃ es' ty', BInv g T (addQ s k (x, y)) (bview μ es a' p t' T us x y t1 t2 np nT) es' ty' ∧ ∀ (j : Nat) e, es[j]? = some e → es'[j]? = some e := by
  have hkl := (List.getElem?_eq_some_iff.mp he).1
  obtain ⟨nT0, eT⟩ := I.cT
  have tr := I.ta k _ he
  have neT : ∀ {x y : Addr}, ty x ≠ ty y → x ≠ y := fun h q => h (q ▸ rfl)
  have la := fun (j : Nat) e (q : es[j]? = some e) => (by
    have hj := (List.getElem?_eq_some_iff.mp q).1
    obtain ⟨ab, hab⟩ : ∃ ab, s.1[j]? = some ab := ⟨_, List.getElem?_eq_getElem (I.len ▸ hj)⟩
    obtain ⟨cc, hcc⟩ : ∃ cc, s.2[j]? = some cc := ⟨_, List.getElem?_eq_getElem (by rw [I.lch, ← I.len]; exact hj)⟩
    obtain ⟨n1, us1, e1, _⟩ := I.cp j e cc q hcc
    obtain ⟨n2, u1, u2, e2⟩ := I.ct j e ab q hab
    exact ⟨⟨_, e1⟩, ⟨_, e2⟩⟩ : (∃ o, μ e.1 = some o) ∧ (∃ o, μ e.2 = some o))
  have pT : p ≠ T := neT (by rw [I.tT, tr.1]; omega)
  obtain ⟨⟨op, ep⟩, ⟨ot, et⟩⟩ := la k _ he
  have pa' := ha _ _ ep
  have pt' := ht _ _ ep
  have Ta' := ha _ _ eT
  have Tt' := ht _ _ eT
  have view_old : ∀ b o, μ b = some o → b ≠ p → b ≠ T → bview μ es a' p t' T us x y t1 t2 np nT b = some o := by
    intro b o q h1 h2
    unfold bview
    rw [Snap.put_ne h2, Snap.put_ne (ht b o q), Snap.put_ne h1, Snap.put_ne (ha b o q)]; exact q
  have split : ∀ (j : Nat) e, (es ++ [(a', t')])[j]? = some e → (es[j]? = some e) ∨ (j = es.length ∧ e = (a', t')) := by
    intro j e q
    by_cases hj : j < es.length
    · rw [List.getElem?_append_left hj] at q; exact .inl q
    · rw [List.getElem?_append_right (Nat.le_of_not_lt hj)] at q
      cases z : j - es.length with
      | zero => rw [z] at q; simp at q; exact .inr ⟨by omega, q.symm⟩
      | succ n => rw [z] at q; simp at q
  have hch : s.2.length = es.length := I.lch.trans I.len.symm
  have stj : ∀ (j : Nat) cc, j < es.length → (addTo s.2 k)[j]? = some cc → (j = k ∧ cc = c ++ [s.2.length]) ∨ (j ≠ k ∧ s.2[j]? = some cc) := by
    intro j cc hj q
    have hj' : j < s.2.length := by omega
    unfold addTo at q
    rw [List.getElem?_append_left (by simpa using hj')] at q
    by_cases z : j = k
    · subst z
      rw [List.getElem?_set_self hj'] at q
      cases q
      refine .inl ⟨rfl, ?_⟩
      rw [List.getD_eq_getElem?_getD, hc]; rfl
    · rw [List.getElem?_set_ne (Ne.symm z)] at q
      exact .inr ⟨z, q⟩
  have stn : ∀ cc, (addTo s.2 k)[es.length]? = some cc → cc = [] := by
    intro cc q
    unfold addTo at q
    rw [← hch, List.getElem?_append_right (by simp)] at q
    simp at q; exact q
  refine ⟨es ++ [(a', t')], fun b => if b = a' then 1 + 2 * es.length else if b = t' then 2 + 2 * es.length else ty b, ?_, fun j e q => by rw [List.getElem?_append_left (List.getElem?_eq_some_iff.mp q).1]; exact q⟩
  have ty_old : ∀ b o, μ b = some o → (if b = a' then 1 + 2 * es.length else if b = t' then 2 + 2 * es.length else ty b) = ty b := fun b o q => by rw [if_neg (ha b o q), if_neg (ht b o q)]
  constructor
  · simp [addQ, I.len]
  · simp [addQ, addTo_len, I.lch]
  · rw [ty_old _ _ eT]; exact I.tT
  · intro j e q
    rcases split j e q with q | ⟨rfl, rfl⟩
    · obtain ⟨⟨x1, y1⟩, ⟨x2, y2⟩⟩ := la j e q
      rw [ty_old _ _ y1, ty_old _ _ y2]; exact I.ta j e q
    · refine ⟨if_pos rfl, ?_⟩
      show (if t' = a' then _ else if t' = t' then _ else _) = _
      rw [if_neg (Ne.symm hne), if_pos rfl]
  · exact ⟨nT, by unfold bview; rw [Snap.put_self]; simp⟩
  · exact I.gT
  · intro j e q
    rcases split j e q with q | ⟨rfl, rfl⟩
    · exact I.ge j e q
    · exact ga
  · intro j e ab q qab
    rcases split j e q with q | ⟨rfl, rfl⟩
    · have hj := (List.getElem?_eq_some_iff.mp q).1
      have qab' : s.1[j]? = some ab := by
        have : (s.1 ++ [(x, y)])[j]? = some ab := qab
        rwa [List.getElem?_append_left (I.len ▸ hj)] at this
      obtain ⟨n, u1, u2, e2⟩ := I.ct j e ab q qab'
      have tj := I.ta j e q
      exact ⟨n, u1, u2, view_old _ _ e2 (neT (by rw [tj.2, tr.1]; omega)) (neT (by rw [tj.2, I.tT]; omega))⟩
    · have : ab = (x, y) := by
        have z : (s.1 ++ [(x, y)])[es.length]? = some ab := qab
        rw [I.len] at z
        simp at z; exact z.symm
      subst this
      exact ⟨0, t1, t2, by unfold bview; rw [Snap.put_ne (Ne.symm Tt'), Snap.put_self]⟩
  · intro j e cc q qc
    rcases split j e q with q | ⟨rfl, rfl⟩
    · rcases stj j cc (List.getElem?_eq_some_iff.mp q).1 qc with ⟨rfl, rfl⟩ | ⟨hj, qc⟩
      · rw [he] at q; cases q
        refine ⟨np, _, by unfold bview; rw [Snap.put_ne pT, Snap.put_ne pt', Snap.put_self], ?_⟩
        rw [hch]; exact hr.add
      · obtain ⟨n1, us1, e1, r1⟩ := I.cp j e cc q qc
        have tj := I.ta j e q
        exact ⟨n1, us1, view_old _ _ e1 (neT (by rw [tj.1, tr.1]; omega)) (neT (by rw [tj.1, I.tT]; omega)), r1.more⟩
    · obtain rfl := stn cc qc
      refine ⟨0, [], ?_, rfl, fun i k z => by simp at z⟩
      unfold bview
      rw [Snap.put_ne (Ne.symm Ta'), Snap.put_ne hne, Snap.put_ne (Ne.symm pa'), Snap.put_self]
theorem bfsHalf_len (es : List (Nat × Nat)) (k : Nat) : ∀ s : BSt, (bfsHalf s k es).1.length = s.1.length + es.length := by
  induction es with
  | nil => intro s; rfl
  | cons e r ih => intro s; show (bfsHalf (addQ s k e) k r).1.length = _; rw [ih]; simp [addQ]; omega
theorem getD_len {mv : List (List Nat)} {n : Nat} (h : ∀ c ∈ mv, c.length ≤ n) (j : Nat) : (mv.getD j []).length ≤ n := by
  rw [List.getD_eq_getElem?_getD]
  cases e : mv[j]? with
  | none => exact Nat.zero_le _
  | some c => exact h c (List.mem_of_getElem? e)
theorem bfsTo_len {mv1 mv2 : List (List Nat)} (h1 : ∀ c ∈ mv1, c.length ≤ 10) (h2 : ∀ c ∈ mv2, c.length ≤ 10) : ∀ k, (bfsTo mv1 mv2 k).1.length ≤ 1 + 20 * k
  | 0 => by simp [bfsTo]
  | k + 1 => by
    have := bfsTo_len h1 h2 k
    unfold bfsTo bfsStep
    rw [bfsHalf_len, bfsHalf_len, List.length_map, List.length_map]
    have a := getD_len h1 ((bfsTo mv1 mv2 k).1.getD k (0, 0)).1
    have b := getD_len h2 ((bfsTo mv1 mv2 k).1.getD k (0, 0)).2
    omega
theorem bfsHalf_next (s : BSt) (k : Nat) (es : List (Nat × Nat)) (e : Nat × Nat) : bfsHalf s k (es ++ [e]) = addQ (bfsHalf s k es) k e := by simp [bfsHalf]
/-- what holds of the lay-out at every turn -/
structure BOk (mv1 mv2 : List (List Nat)) (s : BSt) : Prop where
  l : s.2.length = s.1.length
  pos : 0 < s.2.length
  small : ∀ c ∈ s.2, c.length < s.2.length
  up : Up s.2
  ok : ∀ ab ∈ s.1, ab.1 < mv1.length ∧ ab.2 < mv2.length
theorem BOk.add {mv1 mv2 : List (List Nat)} {s : BSt} {k : Nat} {e : Nat × Nat} (h : BOk mv1 mv2 s) (he : e.1 < mv1.length ∧ e.2 < mv2.length) : BOk mv1 mv2 (addQ s k e) := by
  refine ⟨?_, ?_, addTo_small h.small h.pos, addTo_up h.up, ?_⟩
  · simp [addQ, addTo_len, h.l]
  · simp [addQ, addTo_len]
  · intro ab hab
    have : ab ∈ s.1 ++ [e] := hab
    rcases List.mem_append.mp this with q | q
    · exact h.ok ab q
    · rw [List.mem_singleton.mp q]; exact he
theorem BOk.half {mv1 mv2 : List (List Nat)} {k : Nat} : ∀ (es : List (Nat × Nat)) {s : BSt}, BOk mv1 mv2 s → (∀ e ∈ es, e.1 < mv1.length ∧ e.2 < mv2.length) → BOk mv1 mv2 (bfsHalf s k es)
  | [], _, h, _ => h
  | e :: r, _, h, he => BOk.half r (h.add (he e (.head _))) fun x hx => he x (.tail _ hx)
theorem up_lt {mv : List (List Nat)} (u : Up mv) {j m : Nat} {c : List Nat} (hc : mv[j]? = some c) (hm : m ∈ c) : m < mv.length := (u j c hc m hm).2
theorem up_getD {mv : List (List Nat)} (u : Up mv) {j m : Nat} (hm : m ∈ mv.getD j []) : m < mv.length := by
  rw [List.getD_eq_getElem?_getD] at hm
  cases e : mv[j]? with
  | none => rw [e] at hm; cases hm
  | some c => rw [e] at hm; exact up_lt u e hm
theorem BOk.to {mv1 mv2 : List (List Nat)} (u1 : Up mv1) (u2 : Up mv2) (p1 : 0 < mv1.length) (p2 : 0 < mv2.length) : ∀ k, BOk mv1 mv2 (bfsTo mv1 mv2 k)
  | 0 => by
    have one : ∀ c ∈ (bfsTo mv1 mv2 0).2, c = [] := by intro c hc; simpa [bfsTo] using hc
    refine ⟨rfl, Nat.zero_lt_one, fun c hc => by rw [one c hc]; exact Nat.zero_lt_one, ?_, ?_⟩
    · intro j c hc k hk
      cases j with
      | zero => simp [bfsTo] at hc; subst hc; cases hk
      | succ n => simp [bfsTo] at hc
    · intro ab hab
      have : ab = (0, 0) := by simpa [bfsTo] using hab
      subst this; exact ⟨p1, p2⟩
  | k + 1 => by
    have h := BOk.to u1 u2 p1 p2 k
    have hp : ((bfsTo mv1 mv2 k).1.getD k (0, 0)).1 < mv1.length ∧ ((bfsTo mv1 mv2 k).1.getD k (0, 0)).2 < mv2.length := by
      rw [List.getD_eq_getElem?_getD]
      cases e : (bfsTo mv1 mv2 k).1[k]? with
      | none => exact ⟨p1, p2⟩
      | some ab => exact h.ok ab (List.mem_of_getElem? e)
    unfold bfsTo bfsStep
    refine BOk.half _ (BOk.half _ h ?_) ?_
    · intro e he
      obtain ⟨m, hm, rfl⟩ := List.mem_map.mp he
      exact ⟨up_getD u1 hm, hp.2⟩
    · intro e he
      obtain ⟨m, hm, rfl⟩ := List.mem_map.mp he
      exact ⟨hp.1, up_getD u2 hm⟩
theorem BInv.le {ν : Snap} {T : Addr} {s : BSt} {μ : Snap} {es : List (Addr × Addr)} {ty : Addr → Nat} (I : BInv ν T s μ es ty) (k : Sle ν μ) {i x y : Nat} {p t0 a' t' : Addr} {np nT : Nat} {us : List Value} {t1 t2 : Tok}
    (he : es[i]? = some (p, t0)) (ha : ∀ b o, μ b = some o → b ≠ a') (ht : ∀ b o, μ b = some o → b ≠ t') : Sle ν (bview μ es a' p t' T us x y t1 t2 np nT) := by
  intro b o e
  have q := k b o e
  unfold bview
  rw [Snap.put_ne (ne_none e I.gT), Snap.put_ne (ht b o q), Snap.put_ne (ne_none e (I.ge i _ he)), Snap.put_ne (ha b o q)]; exact q
theorem none_le {g μ : Snap} (k : Sle g μ) {b : Addr} (e : μ b = none) : g b = none := by
  cases q : g b with
  | none => rfl
  | some o => rw [k _ _ q] at e; cases e
end Mine
end
section
open PySem PySem.W PySem.Calls PyProof.Rows PySem.Spec
set_option Elab.async false
set_option maxRecDepth 100000
set_option maxHeartbeats 4000000
namespace Mine
theorem BInv.tree {ν : Snap} {T : Addr} {s : BSt} {μ : Snap} {es : List (Addr × Addr)} {ty : Addr → Nat} (I : BInv ν T s μ es ty) (hup : Up s.2) (hz : ∀ c ∈ s.2, c.length ≤ sizeLine) : ∀ (f j : Nat) e, es[j]? = some e → s.2.length ≤ j + f → IsTree μ (.ref e.1) (tr s.2 f j)
  | 0, j, e, he, hf => by have := (List.getElem?_eq_some_iff.mp he).1; have := I.len; have := I.lch; omega
  | f + 1, j, e, he, hf => by
    obtain ⟨c, hc⟩ : ∃ c, s.2[j]? = some c := ⟨_, List.getElem?_eq_getElem (by rw [I.lch, ← I.len]; exact (List.getElem?_eq_some_iff.mp he).1)⟩
    obtain ⟨n, us, e1, hl, hr⟩ := I.cp j e c he hc
    have : s.2.getD j [] = c := by rw [List.getD_eq_getElem?_getD, hc]; rfl
    unfold tr
    rw [this]
    refine .node e1 (by simp [hl]) (by rw [hl]; exact hz c (List.mem_of_getElem? hc)) ?_
    intro i v t hv ht
    rw [List.getElem?_map] at ht
    obtain ⟨k, hk, rfl⟩ : ∃ k, c[i]? = some k ∧ tr s.2 f k = t := by
      cases q : c[i]? with
      | none => rw [q] at ht; cases ht
      | some k => rw [q] at ht; exact ⟨k, rfl, Option.some.inj ht⟩
    obtain ⟨e', he', hv'⟩ := hr i k hk
    rw [hv] at hv'; cases hv'
    have := hup j c hc k (List.mem_of_getElem? hk)
    exact BInv.tree I hup hz f k e' he' (by omega)
theorem fm_lt (x : Int) {n : Nat} (h : 0 < n) : (x.fmod ((n : Nat) : Int)).toNat < n := by
  have a := Int.fmod_nonneg_of_pos x (b := ((n : Nat) : Int)) (by omega)
  have b := Int.fmod_lt_of_pos x (b := ((n : Nat) : Int)) (by omega)
  omega
theorem fm_one (x : Int) : (x.fmod ((1 : Nat) : Int)).toNat = 0 := by have := fm_lt x (n := 1) (by decide); omega
theorem law_check (ns : List Int) : lawCheck (movesI ((drawI ns).take 4)) (movesI ((drawI ns).drop 4)) = true := by
  have h : (drawI ns).length = 7 := by simp [drawI]
  generalize drawI ns = d at h
  match d, h with
  | [x0, x1, x2, x3, y0, y1, y2], _ =>
    have e1 : movesI [x0, x1, x2, x3] = movesR [0, (x1.fmod ((2 : Nat) : Int)).toNat, (x2.fmod ((3 : Nat) : Int)).toNat, (x3.fmod ((4 : Nat) : Int)).toNat] := by
      simp only [movesI, movesR, List.foldl_cons, List.foldl_nil, addTo_len, List.length_singleton, fm_one]
    have e2 : movesI [y0, y1, y2] = movesR [0, (y1.fmod ((2 : Nat) : Int)).toNat, (y2.fmod ((3 : Nat) : Int)).toNat] := by
      simp only [movesI, movesR, List.foldl_cons, List.foldl_nil, addTo_len, List.length_singleton, fm_one]
    show lawCheck (movesI [x0, x1, x2, x3]) (movesI [y0, y1, y2]) = true
    rw [e1, e2]
    exact check_all _ _ _ _ _ (fm_lt _ (by decide)) (fm_lt _ (by decide)) (fm_lt _ (by decide)) (fm_lt _ (by decide)) (fm_lt _ (by decide))
theorem opt_beq {a b : List (Option Int)} (h : (a == b) = true) : a = b := by simpa using h
theorem law_ends {mv1 mv2 : List (List Nat)} (h : lawCheck mv1 mv2 = true) : ∃ s, bfsRun mv1 mv2 200 0 (bfsTo mv1 mv2 0) = some s ∧ toldOf (tr mv1 mv1.length 0) = asTold (dueOne mv1 (worthOf mv1)) ∧ toldOf (tr mv2 mv2.length 0) = asTold (dueOne mv2 (worthOf mv2)) ∧
    toldOf (tr s.2 s.2.length 0) = asTold (dueBoth (alikeOf mv1 mv2 (worthOf mv1) (worthOf mv2))) := by
  unfold lawCheck at h
  show ∃ s, bfsRun mv1 mv2 200 0 ([(0, 0)], [[]]) = some s ∧ _
  split at h
  · cases h
  · rename_i s e
    simp only [Bool.and_eq_true] at h
    exact ⟨s, e, opt_beq h.1.1, opt_beq h.1.2, opt_beq h.2⟩
/-- lists of ints, by their refs -/
inductive ListsAre (g : Snap) : List Value → List (List Int) → Prop
  | nil : ListsAre g [] []
  | cons {a n us ns vs nss} : g a = some (listOf us.toArray n) → IntsAre us ns → ListsAre g vs nss → ListsAre g (.ref a :: vs) (ns :: nss)
theorem ListsAre.up {g g' : Snap} (k : Sle g g') {vs : List Value} {nss : List (List Int)} (h : ListsAre g vs nss) : ListsAre g' vs nss := by
  induction h with
  | nil => exact .nil
  | cons e i _ ih => exact .cons (k _ _ e) i ih
theorem ListsAre.snoc {g : Snap} {vs : List Value} {nss : List (List Int)} {a : Addr} {n : Nat} {us : List Value} {ns : List Int} (h : ListsAre g vs nss) (e : g a = some (listOf us.toArray n)) (i : IntsAre us ns) : ListsAre g (vs ++ [.ref a]) (nss ++ [ns]) := by
  induction h with
  | nil => exact .cons e i .nil
  | cons e' i' _ ih => exact .cons e' i' ih
theorem ints_reads {h : Heap} {us : List Value} {ns : List Int} (i : IntsAre us ns) : ∃ as, ReadsAll h us (ns.map PyData.int) as := by
  induction i with
  | nil => exact ⟨_, .nil⟩
  | cons n t _ ih => obtain ⟨as, r⟩ := ih; exact ⟨_, .cons (.int n t) r⟩
abbrev listsData (nss : List (List Int)) : List PyData := nss.map fun ns => PyData.list (ns.map PyData.int)
theorem lists_reads {g : Snap} {h : Heap} (k : InH g h) {vs : List Value} {nss : List (List Int)} (i : ListsAre g vs nss) : ∃ as, ReadsAll h vs (listsData nss) as := by
  induction i with
  | nil => exact ⟨_, .nil⟩
  | cons e i _ ih =>
    obtain ⟨as, r⟩ := ih
    obtain ⟨bs, q⟩ := ints_reads (h := h) i
    exact ⟨_, .cons (.list (k _ _ e) rfl rfl (by simpa using q)) r⟩
theorem can_ints (ns : List Int) : PyData.canLayAll0 (ns.map PyData.int) = true := by
  induction ns with
  | nil => rfl
  | cons n r ih => rw [List.map_cons, PyData.canLayAll0, ih]; rfl
theorem can_lists (nss : List (List Int)) : PyData.canLayAll0 (listsData nss) = true := by
  induction nss with
  | nil => rfl
  | cons ns r ih =>
    show PyData.canLayAll0 (PyData.list (ns.map PyData.int) :: listsData r) = true
    rw [PyData.canLayAll0, ih, PyData.canLay0, can_ints]; rfl
theorem depth_ints (ns : List Int) : PyData.depthAll (ns.map PyData.int) = 0 := by
  induction ns with
  | nil => rfl
  | cons n r ih => rw [List.map_cons, PyData.depthAll, ih]; rfl
theorem depth_lists (nss : List (List Int)) : PyData.depthAll (listsData nss) ≤ 1 := by
  induction nss with
  | nil => exact Nat.zero_le _
  | cons ns r ih =>
    show PyData.depthAll (PyData.list (ns.map PyData.int) :: listsData r) ≤ 1
    rw [PyData.depthAll, PyData.depth, depth_ints]
    omega
section
variable {prog : Program} {w : World} {A : Around} {E : Value → Shared → Prop} {s : Shared} {env : Env} {base : Heap} {g μ : Snap} {L : Addr} {kn : List (Str × Value)} {pins : List (Addr × Obj)}
theorem own_eqLists {a b : Addr} {na nb : Nat} {vs us : List Value} {nss : List (List Int)} {Q : Value → Shared → Prop} (hin : InH μ s.heap) (ea : μ a = some (listOf vs.toArray na)) (eb : μ b = some (listOf us.toArray nb)) (la : ListsAre μ vs nss) (lb : ListsAre μ us nss) (hu : A.units + 10 < cLine) (h : Q (.bool true) s) :
    wpAny (model prog w) A (compareOp .Eq (.ref a) (.ref b)) Q E s := by
  obtain ⟨as, ra⟩ := lists_reads hin la
  obtain ⟨bs, rb⟩ := lists_reads hin lb
  have c : (PyData.list (listsData nss)).canLay0 = true := by rw [PyData.canLay0]; exact can_lists nss
  refine SeqAt.compareEq_reads (Reads.list (hin _ _ ea) rfl rfl (by simpa using ra)) (Reads.list (hin _ _ eb) rfl rfl (by simpa using rb)) c c ?_ (by rw [SeqAt.eqv_refl _ c]; exact h)
  rw [Nat.min_self, PyData.depth]
  have := depth_lists nss
  omega
theorem own_dict3 {k1 k2 k3 v1 v2 v3 : Expr} {pos : Pos} {Q : Value → Shared → Prop} (O : Own base g L kn pins μ s.heap) (hm : sysModules < base.objs.size)
    (h : Own base g L kn pins μ (s.heap.push { cls := .type "dict", data := .dict #[] }) → wpAny (model prog w) A (evalPairs (pairTrees [some k1, some k2, some k3] [v1, v2, v3] env pos)) (fun vs s₁ => s₁.heap = s.heap.push { cls := .type "dict", data := .dict #[] } ∧ allStrKeys vs = true ∧ ((strPairs vs).map (·.1)).Nodup ∧
      ∀ d h' o', μ d = none → g d = none → (d == sysModules) = false → o'.IsDictOf (strKind prog w) (strPairs vs) → Own base g L kn pins (μ.put d o') h' → Q (.ref d) { s₁ with heap := h', toks := s₁.toks + vs.length }) E
        { s with heap := s.heap.push { cls := .type "dict", data := .dict #[] } }) :
    wpAny (model prog w) A (eval (.Dict [some k1, some k2, some k3] [v1, v2, v3] pos) env) Q E s := by
  refine wpAny_Dict_walk (knd := strKind prog w) rfl rfl (by simp) (by show 3 ≤ 15; decide) (wpAny_mono (h (O.grow push_grow)) (fun vs s₁ h₁ => ?_) fun _ _ e => e)
  obtain ⟨e1, hk, hn, hQ⟩ := h₁
  have hd0 : (s.heap.push { cls := .type "dict", data := .dict #[] }).DictOf (strKind prog w) s.heap.objs.size [] := Heap.DictOf.new _
  refine display_done_str hk hn (by rw [e1]; exact hd0) fun h' hd hs => ?_
  have zd : μ s.heap.objs.size = none := none_of_inH O.inh (fresh_none (Nat.le_refl _))
  have gd : g s.heap.objs.size = none := none_le O.ext.up zd
  obtain ⟨o', ho', hdo⟩ := (Heap.dictOf_iff.mp hd)
  obtain ⟨m, F, _⟩ := O.fr
  refine hQ _ h' o' zd gd (F.notModules hm) hdo ?_
  have O1 := O.push (o := { cls := .type "dict", data := .dict #[] }) rfl
  have O2 := O1.set (Snap.put_self) gd (by rw [e1] at hs; exact hs) ho'
  rw [show (μ.put s.heap.objs.size { cls := .type "dict", data := .dict #[] }).put s.heap.objs.size o' = μ.put s.heap.objs.size o' from by
    funext b
    by_cases z : b = s.heap.objs.size
    · subst z; rw [Snap.put_self, Snap.put_self]
    · rw [Snap.put_ne z, Snap.put_ne z, Snap.put_ne z]] at O2
  exact O2
end
end Mine
end
section
open PySem PySem.W PySem.Calls PyProof.Rows PySem.Spec
set_option Elab.async false
set_option maxRecDepth 100000
set_option maxHeartbeats 4000000
namespace Mine
theorem IsObj.keepP {μ μ' : Snap} (k : KeepP μ μ') {x C : Addr} {es : List DictEntry} : IsObj μ x C es → IsObj μ' x C es := fun ⟨dx, n, a, b⟩ => ⟨dx, n, k _ _ a (fun u q => by cases q), k _ _ b (fun u q => by cases q)⟩
theorem WinObj.keepP {w : World} {μ μ' : Snap} (h : KeepP μ μ') : ∀ {k : Nat} {q : Addr}, WinObj w μ k q → WinObj w μ' k q
  | 0, _, x => IsObj.keepP h x
  | _ + 1, _, ⟨a, b, c, d, t1, t2, t3, t4, x1, x2, x3, x4, x5⟩ => ⟨a, b, c, d, t1, t2, t3, t4, x1.keepP h, x2.keepP h, x3.keepP h, x4.keepP h, x5.keepP h⟩
theorem IsDoc.keepP {w : World} {μ μ' : Snap} (k : KeepP μ μ') {d : Addr} {kvs : List (Str × Value)} : IsDoc w μ d kvs → IsDoc w μ' d kvs := fun ⟨a, o, e, i⟩ => ⟨a, o, k _ _ e (fun u q => by obtain ⟨es, ep, _, x, _⟩ := i; rw [x] at q; cases q), i⟩
theorem ListsAre.keepP {μ μ' : Snap} (k : KeepP μ μ') {vs : List Value} {nss : List (List Int)} (h : ListsAre μ vs nss) : ListsAre μ' vs nss := by
  induction h with
  | nil => exact .nil
  | cons e i _ ih => exact .cons (k.lst e) i ih
theorem Cs.same {g μ : Snap} {cells : List (Str × Addr)} {vs vs' : List (Str × Value)} (h : ∀ x, vs'.lookup x = vs.lookup x) (C : Cs g μ cells vs) : Cs g μ cells vs' := ⟨fun x c e => by rw [h]; exact C.at_ x c e, C.apart⟩
theorem lookup_twice {x : Str} {v u : Value} {vs : List (Str × Value)} (y : Str) : ((x, v) :: vs).lookup y = ((x, v) :: (x, u) :: vs).lookup y := by
  simp only [List.lookup]
  split <;> rfl
theorem val_first (x y z : Value) : valueAt [(Str.ofString "first", x), (Str.ofString "second", y), (Str.ofString "both", z)] (Str.ofString "first") = some x := by
  unfold valueAt
  rw [List.find?_cons_of_pos (by simp)]; rfl
theorem ne_fs : Str.ofString "first" ≠ Str.ofString "second" := by decide +kernel
theorem ne_fb : Str.ofString "first" ≠ Str.ofString "both" := by decide +kernel
theorem ne_sb : Str.ofString "second" ≠ Str.ofString "both" := by decide +kernel
theorem val_second (x y z : Value) : valueAt [(Str.ofString "first", x), (Str.ofString "second", y), (Str.ofString "both", z)] (Str.ofString "second") = some y := by
  unfold valueAt
  rw [List.find?_cons_of_neg (by simpa using ne_fs), List.find?_cons_of_pos (by simp)]; rfl
theorem val_both (x y z : Value) : valueAt [(Str.ofString "first", x), (Str.ofString "second", y), (Str.ofString "both", z)] (Str.ofString "both") = some z := by
  unfold valueAt
  rw [List.find?_cons_of_neg (by simpa using ne_fb), List.find?_cons_of_neg (by simpa using ne_sb), List.find?_cons_of_pos (by simp)]; rfl
theorem St.moved {w : World} {A : Around} {h₀ h h1 : Heap} {L : Addr} {m : Str → Option Value} {env : Env} (_ : St w (A.deeper env) h) (S : St w A h₀) (F : Fr h₀ L h1 m) (hf : env.frame = some L) (hk : env.scope.kind = .function) : St w (A.deeper env) h1 := S.deep F hf hk
theorem winF_fit {g : Snap} {v : Value} {t : Tree} (h : IsTree g v t) : ∀ k, (winF k t).length ≤ sizeLine
  | 0 => h.fit
  | _ + 1 => Nat.le_trans (flatMap_le _ _) h.fit
theorem told_at {t : Tree} {l : List Nat} (h : toldOf t = asTold l) {i : Nat} {it : Item} (e : (winF 7 t)[i]? = some it) : ∃ k, l[i]? = some k ∧ it.1 = some (Int.ofNat k) := by
  have e1 : (toldOf t)[i]? = some it.1 := by unfold toldOf; rw [List.getElem?_map, e]; rfl
  rw [h] at e1
  unfold asTold at e1
  rw [List.getElem?_map] at e1
  cases q : l[i]? with
  | none => rw [q] at e1; cases e1
  | some k => rw [q] at e1; exact ⟨k, rfl, (Option.some.inj e1).symm⟩
theorem told_len {t : Tree} {l : List Nat} (h : toldOf t = asTold l) : (winF 7 t).length = l.length := by
  have := congrArg List.length h
  simpa [toldOf, asTold] using this
theorem worth_at {ws : List Value} {W : List Nat} (h : IntsAre ws (W.map Int.ofNat)) {m : Nat} (hm : m < W.length) : ∃ t, ws[m]? = some (.int (Int.ofNat (W.getD m 0)) t) :=
  h.get m _ (by rw [List.getElem?_map, List.getD_eq_getElem?_getD, List.getElem?_eq_getElem hm]; rfl)
theorem ofNat_beq (a b : Nat) : (Int.ofNat a == Int.ofNat b) = (a == b) := by
  by_cases h : a = b
  · subst h; simp
  · have : (Int.ofNat a == Int.ofNat b) = false := by simp; omega
    rw [this]; simp [h]
theorem worthOf_len (mv : List (List Nat)) : (worthOf mv).length = mv.length := worthTo_len mv _
section
variable {prog : Program} {w : World} {A : Around} {E : Value → Shared → Prop} {s : Shared} {base : Heap} {g μ : Snap} {L : Addr} {kn : List (Str × Value)} {pins : List (Addr × Obj)}
theorem own_addLists {a b : Addr} {na nb : Nat} {vs ws : List Value} {Q : Value → Shared → Prop} (O : Own base g L kn pins μ s.heap) (ea : μ a = some (listOf vs.toArray na)) (eb : μ b = some (listOf ws.toArray nb)) (hsz : vs.length + ws.length ≤ sizeLine)
    (h : ∀ c h', μ c = none → g c = none → Own base g L kn pins (μ.put c (listOf (vs ++ ws).toArray 0)) h' → Q (.ref c) { s with heap := h' }) : wpAny (model prog w) A (binaryOp .Add (.ref a) (.ref b)) Q E s := by
  have e : vs.toArray ++ ws.toArray = (vs ++ ws).toArray := by simp
  refine concat_meets ⟨_, O.inh _ _ ea, rfl⟩ ⟨_, O.inh _ _ eb, rfl⟩ noFill_list_add seq_list_add PySem.F.slot_list_add PySem.F.entry_list_add (PySem.F.args_list_add_2 _ _) (list_addW a b vs.toArray ws.toArray na nb _ _ _ _ (by simpa using hsz)) ⟨O.inh _ _ ea, O.inh _ _ eb, ?_⟩
  rw [e]
  exact h _ _ (none_of_inH O.inh (fresh_none (Nat.le_refl _))) (none_of_inH (fun b o e => O.inh b o (O.ext.up b o e)) (fresh_none (Nat.le_refl _))) O.push
end
theorem filter_next (p : Nat → Bool) (n : Nat) : (List.range (n + 1)).filter p = if p n then (List.range n).filter p ++ [n] else (List.range n).filter p := by
  rw [List.range_succ, List.filter_append]
  cases h : p n <;> simp [h]
end Mine
end
section
open PySem PySem.W PySem.Calls PyProof.Rows PySem.Spec
set_option Elab.async false
set_option maxRecDepth 100000
set_option maxHeartbeats 4000000
namespace Mine
noncomputable section
theorem fill11 : both1 PySem.Challenge.rw_ae5011_01 KF := by
  k_fill
  trivial
local macro_rules | `(tactic| k_inst) => `(tactic| first | with_reducible assumption | exact InstAt.up (by with_reducible assumption) (Fr.keep (by with_reducible assumption)))
local macro_rules | `(tactic| tb_start) => `(tactic| ((case k1 => first | omega | (simp only [recursionLimit] at *; omega)); (case k2 => k_is); (case k3 => k_is); (case k4 => exact BindsTo.of_eq rfl); (case k5 => exact rfl); (case k6 => decide +kernel); (case a => exact rfl); (case b => exact rfl); (case c => exact rfl)))
local macro_rules | `(tactic| walk_at "eval Name") => `(tactic| (k_dflt (refine' nm_local ?F ?x ?_ ?a ?b; (case F => assumption); (case a => rfl); (case b => rfl); (case x => assumption); k_whole)))
local macro_rules | `(tactic| kit_at) => `(tactic| exact kitAt_F (by k_asm) (by with_reducible assumption) rfl)
local macro_rules | `(tactic| tb_rel) => `(tactic| first | (k_unfold; (try dsimp only)) | walk1 | (dsimp only; walk1))
local macro_rules | `(tactic| walk_at "eval Name") => `(tactic| (k_dflt (refine' own_local ?O ?v ?_ ?a ?b; (case O => k_dflt assumption); (case a => exact rfl); (case b => exact rfl); (case v => exact rfl); k_whole)))
local macro_rules | `(tactic| walk_at "eval Name") => `(tactic| (k_dflt (refine' own_cellC ?O ?C ?c ?v ?_ ?a ?b; (case O => k_dflt assumption); (case C => k_dflt assumption); (case a => exact rfl); (case b => exact rfl); (case c => exact rfl); (case v => exact rfl); k_whole)))
local macro_rules | `(tactic| walk_at "storeName") => `(tactic| (k_dflt (refine' own_storeL ?O ?a ?b ?_; (case O => k_dflt assumption); (case a => exact rfl); (case b => exact rfl); k_whole); intro h' O'; obtain ⟨_, F', _⟩ := Own.fr O'; have N' := Own.N O'))
theorem cells_eight {cm : Str → Option Value} {n1 n2 n3 n4 n5 n6 n7 n8 : Str} {c1 c2 c3 c4 c5 c6 c7 c8 : Addr} {cells : List (Addr × Obj)} (x : CellsAre cm [(n1, c1), (n2, c2), (n3, c3), (n4, c4), (n5, c5), (n6, c6), (n7, c7), (n8, c8)] cells) :
    ∃ o1 o2 o3 o4 o5 o6 o7 o8, cells = [(c1, o1), (c2, o2), (c3, o3), (c4, o4), (c5, o5), (c6, o6), (c7, o7), (c8, o8)] ∧ o1.data = .cell (cm n1) ∧ o2.data = .cell (cm n2) ∧ o3.data = .cell (cm n3) ∧ o4.data = .cell (cm n4) ∧ o5.data = .cell (cm n5) ∧ o6.data = .cell (cm n6) ∧ o7.data = .cell (cm n7) ∧ o8.data = .cell (cm n8) := by
  cases x with
  | cons h1 r => cases r with
    | cons h2 r => cases r with
      | cons h3 r => cases r with
        | cons h4 r =>
          obtain ⟨o5, o6, o7, o8, rfl, h5, h6, h7, h8⟩ := r.four
          exact ⟨_, _, _, _, o5, o6, o7, o8, rfl, h1, h2, h3, h4, h5, h6, h7, h8⟩
theorem lookup_mem' {α : Type} {l : List (Str × α)} {b : Str} {o : α} (e : l.lookup b = some o) : (b, o) ∈ l := by
  induction l with
  | nil => cases e
  | cons p r ih =>
    obtain ⟨a, o'⟩ := p
    simp only [List.lookup] at e
    split at e
    · rename_i q; cases e; rw [beq_iff_eq.mp q]; exact .head _
    · exact .tail _ (ih e)
theorem cells_apart (L : Addr) : ∀ x y c c', ([(Str.ofString "alike", L + 1 + 1 + 1 + 1 + 1 + 1 + 1 + 1), (Str.ofString "winning", L + 1 + 1 + 1 + 1 + 1 + 1 + 1), (Str.ofString "document", L + 1 + 1 + 1 + 1 + 1 + 1), (Str.ofString "other", L + 1 + 1 + 1 + 1 + 1), (Str.ofString "others", L + 1 + 1 + 1 + 1), (Str.ofString "one", L + 1 + 1 + 1), (Str.ofString "ones", L + 1 + 1), (Str.ofString "script", L + 1)] : List (Str × Addr)).lookup x = some c → ([(Str.ofString "alike", L + 1 + 1 + 1 + 1 + 1 + 1 + 1 + 1), (Str.ofString "winning", L + 1 + 1 + 1 + 1 + 1 + 1 + 1), (Str.ofString "document", L + 1 + 1 + 1 + 1 + 1 + 1), (Str.ofString "other", L + 1 + 1 + 1 + 1 + 1), (Str.ofString "others", L + 1 + 1 + 1 + 1), (Str.ofString "one", L + 1 + 1 + 1), (Str.ofString "ones", L + 1 + 1), (Str.ofString "script", L + 1)] : List (Str × Addr)).lookup y = some c' → x ≠ y → c ≠ c' := by
  intro x y c c' e e' hxy
  have m := lookup_mem' e
  have m' := lookup_mem' e'
  simp only [List.mem_cons, List.not_mem_nil, or_false, Prod.mk.injEq] at m m'
  rcases m with ⟨rfl, rfl⟩ | ⟨rfl, rfl⟩ | ⟨rfl, rfl⟩ | ⟨rfl, rfl⟩ | ⟨rfl, rfl⟩ | ⟨rfl, rfl⟩ | ⟨rfl, rfl⟩ | ⟨rfl, rfl⟩ <;>
  rcases m' with ⟨rfl, rfl⟩ | ⟨rfl, rfl⟩ | ⟨rfl, rfl⟩ | ⟨rfl, rfl⟩ | ⟨rfl, rfl⟩ | ⟨rfl, rfl⟩ | ⟨rfl, rfl⟩ | ⟨rfl, rfl⟩ <;>
  first | exact absurd rfl hxy | (show @Ne Nat _ _; omega)
theorem law_con (w : World) (sl : Addr) (vs : List Value) (ns : List Int) (hi : IntsAre vs ns) (hz : ns.length ≤ 100) : Con w 862 100 1000 (fun g a => a = ⟨[.ref sl], []⟩ ∧ ∃ o : Obj, g sl = some o ∧ o.cls = .type "list" ∧ ∃ n, o.data = .seq vs.toArray n) (fun _ _ _ r => r = .bool true) := by
  intro dp un gd outer s args g Q E hdp hu S hg ⟨e, ol, hnl, hcl, nn, hdl⟩ hret
  subst e
  have S' := S
  obtain ⟨X, ⟨p, l, me, mg, mb, T⟩, base, outer', B⟩ := S'
  k_dflt (refine' con_enterC [(Str.ofString "script", .ref sl)] S ?k1 ?k2 ?k3 ?k4 ?k5 ?k6 ?h ?a ?b ?c)
  tb_start
  case h =>
    intro L h₁ tk1 cells F N Y
    obtain ⟨o8, o7, o6, o5, o4, o3, o2, o1, rfl, d8, d7, d6, d5, d4, d3, d2, d1⟩ := cells_eight Y
    have e1 : o1.data = .cell (some (.ref sl)) := d1
    have e2 : o2.data = .cell none := d2
    have e3 : o3.data = .cell none := d3
    have e4 : o4.data = .cell none := d4
    have e5 : o5.data = .cell none := d5
    have e6 : o6.data = .cell none := d6
    have e7 : o7.data = .cell none := d7
    have e8 : o8.data = .cell none := d8
    clear d1 d2 d3 d4 d5 d6 d7 d8 Y
    obtain ⟨μ, O, C, ks⟩ : ∃ μ, Own s.heap g L [] [] μ h₁ ∧ Cs g μ [(Str.ofString "alike", L + 1 + 1 + 1 + 1 + 1 + 1 + 1 + 1), (Str.ofString "winning", L + 1 + 1 + 1 + 1 + 1 + 1 + 1), (Str.ofString "document", L + 1 + 1 + 1 + 1 + 1 + 1), (Str.ofString "other", L + 1 + 1 + 1 + 1 + 1), (Str.ofString "others", L + 1 + 1 + 1 + 1), (Str.ofString "one", L + 1 + 1 + 1), (Str.ofString "ones", L + 1 + 1), (Str.ofString "script", L + 1)] [(Str.ofString "script", .ref sl)] ∧ μ sl = some ol := by
      refine ⟨_, Own.start F hg (kn_of (by intro p hp; cases hp)) N, ⟨?_, ?_⟩, (Ext.news hg F N).up _ _ hnl⟩
      · intro x c e
        have m := lookup_mem' e
        simp only [List.mem_cons, List.not_mem_nil, or_false, Prod.mk.injEq] at m
        rcases m with ⟨rfl, rfl⟩ | ⟨rfl, rfl⟩ | ⟨rfl, rfl⟩ | ⟨rfl, rfl⟩ | ⟨rfl, rfl⟩ | ⟨rfl, rfl⟩ | ⟨rfl, rfl⟩ | ⟨rfl, rfl⟩
        · exact ⟨o8, snap_of N (by k_mem), e8, none_of_inH hg (N (_, o8) (by k_mem)).2.2⟩
        · exact ⟨o7, snap_of N (by k_mem), e7, none_of_inH hg (N (_, o7) (by k_mem)).2.2⟩
        · exact ⟨o6, snap_of N (by k_mem), e6, none_of_inH hg (N (_, o6) (by k_mem)).2.2⟩
        · exact ⟨o5, snap_of N (by k_mem), e5, none_of_inH hg (N (_, o5) (by k_mem)).2.2⟩
        · exact ⟨o4, snap_of N (by k_mem), e4, none_of_inH hg (N (_, o4) (by k_mem)).2.2⟩
        · exact ⟨o3, snap_of N (by k_mem), e3, none_of_inH hg (N (_, o3) (by k_mem)).2.2⟩
        · exact ⟨o2, snap_of N (by k_mem), e2, none_of_inH hg (N (_, o2) (by k_mem)).2.2⟩
        · exact ⟨o1, snap_of N (by k_mem), e1, none_of_inH hg (N (_, o1) (by k_mem)).2.2⟩
      · exact cells_apart L
    clear N F e1 e2 e3 e4 e5 e6 e7 e8
    have hsl : sizeLine = 16777216 := by decide
    obtain ⟨_, F, _⟩ := O.fr
    obtain ⟨oc1, N, hoc1, _⟩ := C.news O (x := Str.ofString "script") rfl rfl
    iterate 1 tb_rel
    k_dflt (refine' own_lc_assign (base := s.heap) (g := g) ?hsw ?hclos ?hcell ?hkind ?hnames ?hx ?hy ?hp ?h ?hs)
    case hsw => exact rfl
    case hclos => with_unfolding_all rfl
    case hcell => decide
    case hkind => exact rfl
    case hnames => decide
    case hx => exact rfl
    case hy => exact rfl
    case hp => exact rfl
    case hs => intro _; exact rfl
    iterate 6 tb_rel
    refine call_range_1 ?_
    refine ⟨_, _, _, 7, _, fun j ys g' => IntsAre ys ((drawI ns).take j), fun j v ys g' => (∃ t, v = .int ((j : Nat) : Int) t) ∧ IntsAre ys ((drawI ns).take j), .range (n := 7) rfl (Heap.get?_push_size _ rfl) (by decide) (by decide), O.grow push_grow, by decide, .nil, ⟨?tests, ?elt⟩, ?fin⟩
    case tests =>
      intro C j v ys g' H tk' m E' hC hj hys hv hJ hle' hin hH hn hm
      obtain ⟨tj, rfl⟩ := hv
      have hjj : (0 : Int) + ((j : Nat) : Int) * 1 = ((j : Nat) : Int) := by omega
      exact testsOf_nil ⟨g', H, _, rfl, .refl hin, ⟨tj, by rw [hjj]⟩, hJ⟩
    case elt =>
      intro C j v ys g' H tk' m E' hC hj hys hv hJ hle' hin hH hn hm
      obtain ⟨⟨tj, rfl⟩, hJ⟩ := hJ
      dsimp only at hC hH ⊢
      obtain ⟨FC, kH⟩ := fr_comp F push_grow hC (wr := []) (by simp) (fun b o _ e => hH b o e) hn
      have NC := news_comp N push_grow kH hC
      clear F N
      have hvl := hi.length
      iterate 9 tb_rel
      refine call_len_list (items := vs.toArray) ⟨_, hin _ _ (hle' _ _ ks), hcl, _, hdl⟩ (by simp; omega) ?_
      iterate 1 tb_rel
      rw [show ((vs.toArray.size : Nat) : Int) = ((ns.length : Nat) : Int) by simp [hvl]]
      have hd : (drawI ns)[j]? = some (if j < ns.length then ns.getD j 0 else restI.getD j 0) := by
        unfold drawI
        rw [List.getElem?_map, List.getElem?_range hj]; rfl
      have done : ∀ (x : Int) (tx : Tok), (if j < ns.length then ns.getD j 0 else restI.getD j 0) = x → IntsAre (ys ++ [Value.int x tx]) ((drawI ns).take (j + 1)) := by
        intro x tx e
        rw [take_next hd, e]
        exact ints_snoc hJ
      by_cases hlt : j < ns.length
      · rw [decide_eq_true (by omega : ((j : Nat) : Int) < ((ns.length : Nat) : Int))]
        obtain ⟨tx, hx⟩ := hi.get j _ (by rw [List.getElem?_eq_getElem hlt])
        iterate 5 tb_rel
        refine item_listL (l := vs) ⟨_, hin _ _ (hle' _ _ ks), hcl, _, hdl⟩ (Int.natCast_nonneg _) (by omega) (x := _) hx ?_
        refine ⟨g', H, _, rfl, .refl hin, done _ _ ?_⟩
        rw [if_pos hlt, List.getD_eq_getElem?_getD, List.getElem?_eq_getElem hlt]; rfl
      · rw [decide_eq_false (by omega : ¬ ((j : Nat) : Int) < ((ns.length : Nat) : Int))]
        rw [if_neg hlt] at done
        have hj7 : j = 0 ∨ j = 1 ∨ j = 2 ∨ j = 3 ∨ j = 4 ∨ j = 5 ∨ j = 6 := by omega
        rcases hj7 with rfl | rfl | rfl | rfl | rfl | rfl | rfl
        all_goals
          iterate 5 tb_rel
          tb_rel
          exact ⟨g', H, _, rfl, .refl hin, done _ _ rfl⟩
    case fin =>
      intro r h2 tk2 zs g2 μ2 hJ2 hle2 hle2' hL2 hlen2 O2
      have hJ2' : IntsAre zs (drawI ns) := by
        have : IntsAre zs ((drawI ns).take 7) := hJ2
        rwa [List.take_of_length_le (by simp [drawI])] at this
      obtain ⟨dl, nd, rfl, ed⟩ := hL2
      have C := C.up hle2'
      clear ks F N O hJ2 hle2 hle2' hoc1
      obtain ⟨_, F, _⟩ := O2.fr
      have N := O2.N
      dsimp only
      iterate 1 tb_rel
      iterate 5 tb_rel
      refine own_slice (base := s.heap) (g := g) (L := L) (l := dl) (kn := [(Str.ofString "draw", .ref dl)]) (pins := []) ?_
      iterate 1 tb_rel
      refine wpAny_evalPart_none (wpAny_evalPart_some ?_)
      tb_rel
      refine ⟨μ2, zs, nd, _, _, rfl, O2, ed, by omega, .none, .int _ _, ?_⟩
      intro D1 h3 uD1 gD1 O3
      have hz4 : (slicePick zs.toArray none (some (4 : Int)) none) = ((zs.take 4).toArray) := by rw [show (4 : Int) = ((4 : Nat) : Int) from rfl, slicePick_upto']
      rw [hz4] at O3
      have i4 : IntsAre (zs.take 4) ((drawI ns).take 4) := hJ2'.take 4
      obtain ⟨_, F, _⟩ := O3.fr
      have N := O3.N
      dsimp only
      iterate 2 tb_rel
      refine with_deep S F rfl rfl ?_
      intro SD
      refine (game_con w D1 (zs.take 4) ((drawI ns).take 4) i4 (by simp; omega)).tcall SD F (fun _ _ e => e) (by omega) (by omega) (g := _) O3.inh ⟨rfl, _, O3.got⟩ ?_
      rintro r4 h4 tk4 μ4 x4 F4 N4 K4 ⟨tup1, G1, M1, a1, W1, nt1, oW1, us1, rfl, et1, GE1, eW1, cW1, dW1, iW1⟩
      have O4 := O3.call x4
      have C := (C.new (o := { cls := .type "list", data := .seq ((zs.take 4).toArray) }) uD1).up x4.up
      have ed := x4.up _ _ (O3.kept ed (fun q => by rw [q, uD1] at ed; cases ed))
      have GA1 : GameAt μ4 M1 a1 W1 (movesI ((drawI ns).take 4)) := ⟨⟨_, GE1⟩, _, _, eW1, cW1, dW1, iW1⟩
      clear F N F4 N4 K4 SD x4 O3 O2 uD1 gD1 GE1 eW1 cW1 dW1 iW1
      have ml1 : (movesI ((drawI ns).take 4)).length = 5 := by rw [movesI_len]; simp [drawI]
      have ms1 := movesI_small ((drawI ns).take 4)
      have mu1 := movesI_up ((drawI ns).take 4)
      generalize hmv1 : movesI ((drawI ns).take 4) = mv1 at GA1 ml1 ms1 mu1
      obtain ⟨_, F, _⟩ := O4.fr
      have N := O4.N
      dsimp only
      skip
      refine own_unpack3 rfl O4 et1 ?_
      intro h5 O5
      clear O4
      tb_rel
      rename Own _ _ _ _ _ _ _ => O6
      clear O5
      refine own_storeC' O6 C rfl ?_ rfl rfl
      intro h7 μ7 O7 C7 kp7
      have GA1 := GA1.keepP kp7
      have ed := kp7.lst ed
      clear O6 C kp7
      skip
      refine own_storeC' O7 C7 rfl ?_ rfl rfl
      intro h8 μ8 O8 C8 kp8
      have GA1 := GA1.keepP kp8
      have ed := kp8.lst ed
      clear O7 C7 kp8
      obtain ⟨_, F, _⟩ := O8.fr
      have N := O8.N
      iterate 1 tb_rel
      iterate 5 tb_rel
      refine own_slice (base := s.heap) (g := g) (L := L) (l := dl) (kn := [(Str.ofString "first", .ref a1), (Str.ofString "draw", .ref dl)]) (pins := []) ?_
      iterate 1 tb_rel
      refine wpAny_evalPart_some ?_
      tb_rel
      refine wpAny_evalPart_none ?_
      refine ⟨μ8, zs, nd, _, _, rfl, O8, ed, by omega, .int _ _, .none, ?_⟩
      intro D2 h9 uD2 gD2 O9
      have hz5 : (slicePick zs.toArray (some (4 : Int)) none none) = ((zs.drop 4).toArray) := by rw [show (4 : Int) = ((4 : Nat) : Int) from rfl, slicePick_from']
      rw [hz5] at O9
      have i5 : IntsAre (zs.drop 4) ((drawI ns).drop 4) := hJ2'.drop 4
      clear F N
      obtain ⟨_, F, _⟩ := O9.fr
      have N := O9.N
      dsimp only
      iterate 2 tb_rel
      refine with_deep S F rfl rfl ?_
      intro SD
      refine (game_con w D2 (zs.drop 4) ((drawI ns).drop 4) i5 (by simp [drawI])).tcall SD F (fun _ _ e => e) (by omega) (by omega) (g := _) O9.inh ⟨rfl, _, O9.got⟩ ?_
      rintro r10 h10 tk10 μ10 x10 F10 N10 K10 ⟨tup2, G2, M2, a2, W2, nt2, oW2, us2, rfl, et2, GE2, eW2, cW2, dW2, iW2⟩
      have O10 := O9.call x10
      have C10 := (C8.new (o := { cls := .type "list", data := .seq ((zs.drop 4).toArray) }) uD2).up x10.up
      have GA1 := (GA1.new (o := { cls := .type "list", data := .seq ((zs.drop 4).toArray) }) uD2).up x10.up
      have GA2 : GameAt μ10 M2 a2 W2 (movesI ((drawI ns).drop 4)) := ⟨⟨_, GE2⟩, _, _, eW2, cW2, dW2, iW2⟩
      clear F N F10 N10 K10 SD x10 O9 O8 C8 uD2 gD2 GE2 eW2 cW2 dW2 iW2 ed
      have ml2 : (movesI ((drawI ns).drop 4)).length = 4 := by rw [movesI_len]; simp [drawI]
      have ms2 := movesI_small ((drawI ns).drop 4)
      have mu2 := movesI_up ((drawI ns).drop 4)
      generalize hmv2 : movesI ((drawI ns).drop 4) = mv2 at GA2 ml2 ms2 mu2
      obtain ⟨_, F, _⟩ := O10.fr
      have N := O10.N
      dsimp only
      skip
      refine own_unpack3 rfl O10 et2 ?_
      intro h11 O11
      clear O10 F N
      tb_rel
      rename Own _ _ _ _ _ _ _ => O12
      clear O11
      refine own_storeC' O12 C10 rfl ?_ rfl rfl
      intro h13 μ13 O13 C13 kp13
      have GA1 := GA1.keepP kp13
      have GA2 := GA2.keepP kp13
      clear O12 C10 kp13
      skip
      refine own_storeC' O13 C13 rfl ?_ rfl rfl
      intro h14 μ14 O14 C14 kp14
      have GA1 := GA1.keepP kp14
      have GA2 := GA2.keepP kp14
      clear O13 C13 kp14
      obtain ⟨_, F, _⟩ := O14.fr
      have N := O14.N
      iterate 4 tb_rel
      refine own_newList O14 ?_ (by decide)
      intro P0 h15 uP0 gP0 fP0 O15
      have le15 := O15.le uP0
      have eP0 := O15.got
      have gle := O14.ext.up
      clear O14 F N
      obtain ⟨_, F, _⟩ := O15.fr
      have N := O15.N
      iterate 13 tb_rel
      clear O15
      rename Own _ _ _ _ _ _ _ => O16
      refine own_newTuple O16 ?_ (by show 3 ≤ sizeLine; decide)
      intro t0 h17 ut0 gt0 ft0 O17
      have le17 := O17.le ut0
      have hPt : P0 ≠ t0 := ne_none eP0 ut0
      have eP0 := O17.kept eP0 hPt
      have et0 := O17.got
      iterate 1 tb_rel
      refine own_newList O17 ?_ (by show 1 ≤ sizeLine; decide)
      intro T0 h18 uT0 gT0 fT0 O18
      have le18 := O18.le uT0
      have hPT : P0 ≠ T0 := ne_none eP0 uT0
      have htT : t0 ≠ T0 := ne_none et0 uT0
      have eP0 := O18.kept eP0 hPT
      have et0 := O18.kept et0 htT
      have eT0 := O18.got
      have up : Sle μ14 _ := fun b o e => le18 b o (le17 b o (le15 b o e))
      have uT0 : μ14 T0 = none := by
        cases q : μ14 T0 with
        | none => rfl
        | some o => rw [le17 _ _ (le15 _ _ q)] at uT0; cases uT0
      clear O16 O17 F N fT0 ft0 fP0 le15 le17 le18
      generalize Snap.put _ T0 _ = μ18 at O18 eP0 et0 eT0 up
      clear ut0
      obtain ⟨_, F, _⟩ := O18.fr
      have N := O18.N
      iterate 2 tb_rel
      clear O18
      rename Own _ _ _ _ _ _ _ => O19
      have B0 : ∃ es ty, BInv μ14 T0 (bfsTo mv1 mv2 0) μ18 es ty ∧ es[0]? = some (P0, t0) := by
        refine ⟨[(P0, t0)], fun b => if b = T0 then 0 else if b = P0 then 1 else 2, ?_, rfl⟩
        have one : ∀ (j : Nat) (e : Addr × Addr), [(P0, t0)][j]? = some e → j = 0 ∧ e = (P0, t0) := by
          intro j e q
          cases j with
          | zero => simp at q; exact ⟨rfl, q.symm⟩
          | succ n => simp at q
        constructor
        · rfl
        · rfl
        · exact if_pos rfl
        · intro j e q
          obtain ⟨rfl, rfl⟩ := one j e q
          refine ⟨?_, ?_⟩
          · show (if P0 = T0 then 0 else if P0 = P0 then 1 else 2) = 1
            rw [if_neg hPT, if_pos rfl]
          · show (if t0 = T0 then 0 else if t0 = P0 then 1 else 2) = 2
            rw [if_neg htT, if_neg (Ne.symm hPt)]
        · exact ⟨0, eT0⟩
        · exact uT0
        · intro j e q
          obtain ⟨rfl, rfl⟩ := one j e q
          exact uP0
        · intro j e ab q qab
          obtain ⟨rfl, rfl⟩ := one j e q
          have : ab = (0, 0) := by simpa [bfsTo] using qab.symm
          subst this
          exact ⟨0, _, _, et0⟩
        · intro j e c q qc
          obtain ⟨rfl, rfl⟩ := one j e q
          have : c = [] := by simpa [bfsTo] using qc.symm
          subst this
          exact ⟨0, [], eP0, rfl, fun i k z => by simp at z⟩
      clear eP0 et0 eT0 F N
      obtain ⟨_, F, _⟩ := O19.fr
      have N := O19.N
      refine own_for (base := s.heap) (g := g) rfl rfl ?_ (by intro _; rfl)
      iterate 6 tb_rel
      refine call_range_1 ?_
      refine ForAt.range (n := 200) (fun i μ => Sle μ14 μ ∧ i ≤ (bfsTo mv1 mv2 i).1.length ∧ (∀ j, j < i → j ≠ (bfsTo mv1 mv2 j).1.length) ∧ ∃ es ty, BInv μ14 T0 (bfsTo mv1 mv2 i) μ es ty ∧ es[0]? = some (P0, t0))
        (fun μ => ∃ i, i < 200 ∧ i = (bfsTo mv1 mv2 i).1.length ∧ Sle μ14 μ ∧ (∀ j, j < i → j ≠ (bfsTo mv1 mv2 j).1.length) ∧ ∃ es ty, BInv μ14 T0 (bfsTo mv1 mv2 i) μ es ty ∧ es[0]? = some (P0, t0)) rfl
        (Heap.get?_push_size _ rfl) (by decide) (by decide) (O19.grow push_grow) ⟨up, Nat.zero_le _, fun j hj => by omega, B0⟩ ?step ?finB
      case step =>
        intro i v μ h tk I oI hi' ⟨tv, hv⟩ ⟨up, hile, hne, es, ty, B, hes⟩ O
        subst hv
        dsimp only
        have hii : (0 : Int) + ((i : Nat) : Int) * 1 = ((i : Nat) : Int) := by omega
        rw [hii] at O
        obtain ⟨nT, eT⟩ := B.cT
        obtain ⟨_, F, _⟩ := O.fr
        have N := O.N
        iterate 10 tb_rel
        have hbl := bfsTo_len (fun c hc => by have := ms1 c hc; rw [ml1] at this; omega : ∀ c ∈ mv1, c.length ≤ 10) (fun c hc => by have := ms2 c hc; rw [ml2] at this; omega : ∀ c ∈ mv2, c.length ≤ 10) i
        have hes' : es.length ≤ 16000000 := by rw [B.len]; omega
        refine call_len_list (items := (es.map fun (e : Addr × Addr) => Value.ref e.2).toArray) ⟨_, O.inh _ _ eT, rfl, _, rfl⟩ (by simp; omega) ?_
        rw [show (((es.map fun (e : Addr × Addr) => Value.ref e.2).toArray.size : Nat) : Int) = ((es.length : Nat) : Int) by simp]
        iterate 1 tb_rel
        by_cases hend : i = es.length
        · rw [show ((((i : Nat) : Int)) == ((es.length : Nat) : Int)) = true by rw [← hend]; exact beq_self_eq_true _]
          iterate 2 tb_rel
          iterate 3 tb_rel
          exact ⟨μ, h, _, rfl, O.weak (fun y v e => lookup_skip rfl e) , i, hi', by rw [← B.len]; exact hend, up, hne, es, ty, B, hes⟩
        · rw [show ((((i : Nat) : Int)) == ((es.length : Nat) : Int)) = false by rw [beq_eq_false_iff_ne]; omega]
          iterate 5 tb_rel
          iterate 4 tb_rel
          have hil : i < es.length := by have := B.len; omega
          obtain ⟨⟨pl, tu⟩, he⟩ : ∃ e, es[i]? = some e := ⟨_, List.getElem?_eq_getElem hil⟩
          obtain ⟨⟨qa, qb⟩, hq⟩ : ∃ ab, (bfsTo mv1 mv2 i).1[i]? = some ab := ⟨_, List.getElem?_eq_getElem (B.len ▸ hil)⟩
          obtain ⟨ntu, u1, u2, etu⟩ := B.ct i _ _ he hq
          refine item_listL (l := es.map fun (e : Addr × Addr) => Value.ref e.2) ⟨_, O.inh _ _ eT, rfl, _, rfl⟩ (Int.natCast_nonneg _) (by omega) (x := .ref tu) (by simp [he]) ?_
          skip
          refine own_unpack3 rfl O etu ?_
          intro h1 O1
          clear O
          iterate 3 tb_rel
          rename Own _ _ _ _ _ _ _ => O2
          clear O1
          have C2 := C14.up up
          have bok := BOk.to mu1 mu2 (by omega) (by omega) i
          have hab := bok.ok _ (List.mem_of_getElem? hq)
          obtain ⟨G1', GE1⟩ := GA1.fin
          obtain ⟨nM1, mm1, eM1, hml1, hmem1⟩ := GE1.cM
          obtain ⟨m1, hm1⟩ : ∃ m, mm1[qa]? = some m := ⟨_, List.getElem?_eq_getElem (by omega)⟩
          obtain ⟨c1, hc1⟩ : ∃ c, mv1[qa]? = some c := ⟨_, List.getElem?_eq_getElem hab.1⟩
          obtain ⟨nm1, us1, em1, im1⟩ := hmem1 _ _ _ hm1 hc1
          have lm1 : us1.length = c1.length := by simpa using im1.length
          have sc1 := ms1 c1 (List.mem_of_getElem? hc1)
          clear F N
          obtain ⟨_, F, _⟩ := O2.fr
          have N := O2.N
          have okp1 : ∀ m, m ∈ c1 → (m, qb).1 < mv1.length ∧ (m, qb).2 < mv2.length := fun m hm => ⟨up_lt mu1 hc1 hm, hab.2⟩
          iterate 1 tb_rel
          refine own_for (base := s.heap) (g := g) rfl rfl ?_ (by intro _; rfl)
          iterate 3 tb_rel
          refine item_listL (l := mm1.map Value.ref) ⟨_, O2.inh _ _ (up _ _ eM1), rfl, _, rfl⟩ (Int.natCast_nonneg _) (by omega) (x := .ref m1) (by simp [hm1]) ?_
          refine ForAt.list (items := us1) (na := nm1) (fun j μ => Sle μ14 μ ∧ ∃ es ty, BInv μ14 T0 (bfsHalf (bfsTo mv1 mv2 i) i ((c1.map fun m => (m, qb)).take j)) μ es ty ∧ es[i]? = some (pl, tu) ∧ es[0]? = some (P0, t0)) (fun _ => False) rfl (fun i μ hI _ => hI.1 _ _ em1) O2 ⟨up, es, ty, B, he, hes⟩ ?step1 ?fin1
          case step1 =>
            intro j v μ' h' tk' I' oI' hj hv ⟨up', es', ty', B', he', hes'⟩ O
            obtain ⟨x, tx, rfl, hx⟩ := im1.at j v hv
            obtain ⟨mj, hmj, rfl⟩ : ∃ mj, c1[j]? = some mj ∧ Int.ofNat mj = x := by
              rw [List.getElem?_map] at hx
              cases e : c1[j]? with
              | none => rw [e] at hx; cases hx
              | some mj => rw [e] at hx; cases hx; exact ⟨mj, rfl, rfl⟩
            have bok' : BOk mv1 mv2 (bfsHalf (bfsTo mv1 mv2 i) i ((c1.map fun m => (m, qb)).take j)) := BOk.half _ bok (by
              intro e he
              obtain ⟨m, hm, rfl⟩ := List.mem_map.mp (List.mem_of_mem_take he)
              exact okp1 m hm)
            have hlen' : (bfsHalf (bfsTo mv1 mv2 i) i ((c1.map fun m => (m, qb)).take j)).1.length ≤ 5000 := by
              rw [bfsHalf_len, List.length_take, List.length_map]; omega
            obtain ⟨c, hc⟩ : ∃ c, (bfsHalf (bfsTo mv1 mv2 i) i ((c1.map fun m => (m, qb)).take j)).2[i]? = some c := ⟨_, List.getElem?_eq_getElem (by rw [B'.lch, ← B'.len]; exact (List.getElem?_eq_some_iff.mp he').1)⟩
            have hsm := bok'.small c (List.mem_of_getElem? hc)
            obtain ⟨npl, upl, epl, rpl⟩ := B'.cp i _ c he' hc
            obtain ⟨nT', eT'⟩ := B'.cT
            have hl1 := rpl.1
            have hl2 := B'.len
            have hl3 := bok'.l
            have zpl : upl.length ≤ sizeLine := by omega
            have zes : es'.length ≤ sizeLine := by omega
            have gpl := none_le gle (B'.ge i _ he')
            have gT0 := none_le gle B'.gT
            have plT : pl ≠ T0 := fun q => by
              have h1 := (B'.ta i _ he').1
              rw [q, B'.tT] at h1; omega
            clear F N
            obtain ⟨_, F, _⟩ := O.fr
            have N := O.N
            iterate 4 tb_rel
            refine getMethod_list_append (O.inh _ _ epl) rfl rfl ?_
            iterate 4 tb_rel
            refine own_newList O ?_ (by decide)
            intro a' h3 ua' ga' fa' O3
            have epl3 := O3.kept epl (fa' _ _ (O.inh _ _ epl))
            have eT3 := O3.kept eT' (fa' _ _ (O.inh _ _ eT'))
            clear F N
            obtain ⟨_, F, _⟩ := O3.fr
            have N := O3.N
            iterate 1 tb_rel
            refine own_append O3 epl3 gpl zpl ?_
            intro h4 O4
            have epl4 := O4.got
            have eT4 := O4.kept eT3 (Ne.symm plT)
            clear F N
            obtain ⟨_, F, _⟩ := O4.fr
            have N := O4.N
            iterate 4 tb_rel
            refine getMethod_list_append (O4.inh _ _ eT4) rfl rfl ?_
            iterate 13 tb_rel
            refine item_last (vs := upl) ⟨_, O4.inh _ _ epl4, rfl, _, rfl⟩ ?_
            iterate 1 tb_rel
            refine own_newTuple O4 ?_ (by show 3 ≤ sizeLine; decide)
            intro t' h5 ut' gt' ft' O5
            have eT5 := O5.kept eT4 (ft' _ _ (O4.inh _ _ eT4))
            clear F N
            obtain ⟨_, F, _⟩ := O5.fr
            have N := O5.N
            iterate 1 tb_rel
            refine own_append O5 eT5 gT0 (by simpa using zes) ?_
            intro h6 O6
            skip
            refine wpAny_execs_nil ?_
            have hfa : ∀ b o, μ' b = some o → b ≠ a' := fun b o e => fa' b o (O.inh b o e)
            have hft : ∀ b o, μ' b = some o → b ≠ t' := fun b o e => by
              obtain ⟨o', e'⟩ := put_some (put_some ⟨o, e⟩)
              exact ft' b _ (O4.inh _ _ e')
            have hne' : a' ≠ t' := ft' _ _ (O4.inh _ _ (O4.kept O3.got (Ne.symm (hfa _ _ epl))))
            obtain ⟨es2, ty2, B2, k2⟩ := B'.step (x := mj) (y := qb) (np := npl + 1) (nT := nT' + 1) (t1 := tx) (t2 := u2) he' hc hfa hft hne' (none_le up' ua') rpl
            refine ⟨_, h6, _, rfl, O6.weak (fun y v e => lookup_skip rfl e), ?_⟩
            rw [take_next (x := (mj, qb)) (by simp [hmj]), bfsHalf_next]
            exact ⟨B'.le up' he' hfa hft, es2, ty2, B2, k2 _ _ he', k2 _ _ hes'⟩
          case fin1 =>
            intro μ1 h1 tk1 hI O
            obtain ⟨up1, es1, ty1, B1, he1, hes1⟩ := hI.resolve_right id
            rw [List.take_of_length_le (by rw [List.length_map]; omega)] at B1
            have hlt1 : (bfsHalf (bfsTo mv1 mv2 i) i (c1.map fun m => (m, qb))).1.length = (bfsTo mv1 mv2 i).1.length + c1.length := by rw [bfsHalf_len, List.length_map]
            have bok1 : BOk mv1 mv2 (bfsHalf (bfsTo mv1 mv2 i) i (c1.map fun m => (m, qb))) := BOk.half _ bok (by
              intro e he
              obtain ⟨m, hm, rfl⟩ := List.mem_map.mp he
              exact okp1 m hm)
            have C2 := C14.up up1
            obtain ⟨G2', GE2⟩ := GA2.fin
            obtain ⟨nM2, mm2, eM2, hml2, hmem2⟩ := GE2.cM
            obtain ⟨m2, hm2⟩ : ∃ m, mm2[qb]? = some m := ⟨_, List.getElem?_eq_getElem (by omega)⟩
            obtain ⟨c2, hc2⟩ : ∃ c, mv2[qb]? = some c := ⟨_, List.getElem?_eq_getElem hab.2⟩
            obtain ⟨nm2, us2, em2, im2⟩ := hmem2 _ _ _ hm2 hc2
            have lm2 : us2.length = c2.length := by simpa using im2.length
            have sc2 := ms2 c2 (List.mem_of_getElem? hc2)
            have okp2 : ∀ m, m ∈ c2 → (qa, m).1 < mv1.length ∧ (qa, m).2 < mv2.length := fun m hm => ⟨hab.1, up_lt mu2 hc2 hm⟩
            clear F N
            obtain ⟨_, F, _⟩ := O.fr
            have N := O.N
            dsimp only
            iterate 1 tb_rel
            refine own_for (base := s.heap) (g := g) rfl rfl ?_ (by intro _; rfl)
            iterate 3 tb_rel
            refine item_listL (l := mm2.map Value.ref) ⟨_, O.inh _ _ (up1 _ _ eM2), rfl, _, rfl⟩ (Int.natCast_nonneg _) (by omega) (x := .ref m2) (by simp [hm2]) ?_
            refine ForAt.list (items := us2) (na := nm2) (fun j μ => Sle μ14 μ ∧ ∃ es ty, BInv μ14 T0 (bfsHalf (bfsHalf (bfsTo mv1 mv2 i) i (c1.map fun m => (m, qb))) i ((c2.map fun m => (qa, m)).take j)) μ es ty ∧ es[i]? = some (pl, tu) ∧ es[0]? = some (P0, t0)) (fun _ => False) rfl (fun i μ hI _ => hI.1 _ _ em2) O ⟨up1, es1, ty1, B1, he1, hes1⟩ ?step2 ?fin2
            case step2 =>
              intro j v μ' h' tk' I' oI' hj hv ⟨up', es', ty', B', he', hes'⟩ O
              obtain ⟨x, tx, rfl, hx⟩ := im2.at j v hv
              obtain ⟨mj, hmj, rfl⟩ : ∃ mj, c2[j]? = some mj ∧ Int.ofNat mj = x := by
                rw [List.getElem?_map] at hx
                cases e : c2[j]? with
                | none => rw [e] at hx; cases hx
                | some mj => rw [e] at hx; cases hx; exact ⟨mj, rfl, rfl⟩
              have bok' : BOk mv1 mv2 (bfsHalf (bfsHalf (bfsTo mv1 mv2 i) i (c1.map fun m => (m, qb))) i ((c2.map fun m => (qa, m)).take j)) := BOk.half _ bok1 (by
                intro e he
                obtain ⟨m, hm, rfl⟩ := List.mem_map.mp (List.mem_of_mem_take he)
                exact okp2 m hm)
              have hlen' : (bfsHalf (bfsHalf (bfsTo mv1 mv2 i) i (c1.map fun m => (m, qb))) i ((c2.map fun m => (qa, m)).take j)).1.length ≤ 5000 := by
                rw [bfsHalf_len, List.length_take, List.length_map]; omega
              obtain ⟨c, hc⟩ : ∃ c, (bfsHalf (bfsHalf (bfsTo mv1 mv2 i) i (c1.map fun m => (m, qb))) i ((c2.map fun m => (qa, m)).take j)).2[i]? = some c := ⟨_, List.getElem?_eq_getElem (by rw [B'.lch, ← B'.len]; exact (List.getElem?_eq_some_iff.mp he').1)⟩
              have hsm := bok'.small c (List.mem_of_getElem? hc)
              obtain ⟨npl, upl, epl, rpl⟩ := B'.cp i _ c he' hc
              obtain ⟨nT', eT'⟩ := B'.cT
              have hl1 := rpl.1
              have hl2 := B'.len
              have hl3 := bok'.l
              have zpl : upl.length ≤ sizeLine := by omega
              have zes : es'.length ≤ sizeLine := by omega
              have gpl := none_le gle (B'.ge i _ he')
              have gT0 := none_le gle B'.gT
              have plT : pl ≠ T0 := fun q => by
                have h1 := (B'.ta i _ he').1
                rw [q, B'.tT] at h1; omega
              clear F N
              obtain ⟨_, F, _⟩ := O.fr
              have N := O.N
              iterate 4 tb_rel
              refine getMethod_list_append (O.inh _ _ epl) rfl rfl ?_
              iterate 4 tb_rel
              refine own_newList O ?_ (by decide)
              intro a' h3 ua' ga' fa' O3
              have epl3 := O3.kept epl (fa' _ _ (O.inh _ _ epl))
              have eT3 := O3.kept eT' (fa' _ _ (O.inh _ _ eT'))
              clear F N
              obtain ⟨_, F, _⟩ := O3.fr
              have N := O3.N
              iterate 1 tb_rel
              refine own_append O3 epl3 gpl zpl ?_
              intro h4 O4
              have epl4 := O4.got
              have eT4 := O4.kept eT3 (Ne.symm plT)
              clear F N
              obtain ⟨_, F, _⟩ := O4.fr
              have N := O4.N
              iterate 4 tb_rel
              refine getMethod_list_append (O4.inh _ _ eT4) rfl rfl ?_
              iterate 13 tb_rel
              refine item_last (vs := upl) ⟨_, O4.inh _ _ epl4, rfl, _, rfl⟩ ?_
              iterate 1 tb_rel
              refine own_newTuple O4 ?_ (by show 3 ≤ sizeLine; decide)
              intro t' h5 ut' gt' ft' O5
              have eT5 := O5.kept eT4 (ft' _ _ (O4.inh _ _ eT4))
              clear F N
              obtain ⟨_, F, _⟩ := O5.fr
              have N := O5.N
              iterate 1 tb_rel
              refine own_append O5 eT5 gT0 (by simpa using zes) ?_
              intro h6 O6
              skip
              refine wpAny_execs_nil ?_
              have hfa : ∀ b o, μ' b = some o → b ≠ a' := fun b o e => fa' b o (O.inh b o e)
              have hft : ∀ b o, μ' b = some o → b ≠ t' := fun b o e => by
                obtain ⟨o', e'⟩ := put_some (put_some ⟨o, e⟩)
                exact ft' b _ (O4.inh _ _ e')
              have hne' : a' ≠ t' := ft' _ _ (O4.inh _ _ (O4.kept O3.got (Ne.symm (hfa _ _ epl))))
              obtain ⟨es2, ty2, B2, k2⟩ := B'.step (x := qa) (y := mj) (np := npl + 1) (nT := nT' + 1) (t1 := u1) (t2 := tx) he' hc hfa hft hne' (none_le up' ua') rpl
              refine ⟨_, h6, _, rfl, O6.weak (fun y v e => lookup_skip rfl e), ?_⟩
              rw [take_next (x := (qa, mj)) (by simp [hmj]), bfsHalf_next]
              exact ⟨B'.le up' he' hfa hft, es2, ty2, B2, k2 _ _ he', k2 _ _ hes'⟩
            case fin2 =>
              intro μ2 h2 tk2 hI O
              obtain ⟨up2, es2, ty2, B2, he2, hes2⟩ := hI.resolve_right id
              rw [List.take_of_length_le (by rw [List.length_map]; omega)] at B2
              have hlt2 : (bfsHalf (bfsHalf (bfsTo mv1 mv2 i) i (c1.map fun m => (m, qb))) i (c2.map fun m => (qa, m))).1.length = (bfsHalf (bfsTo mv1 mv2 i) i (c1.map fun m => (m, qb))).1.length + c2.length := by rw [bfsHalf_len, List.length_map]
              have bok2 : BOk mv1 mv2 (bfsHalf (bfsHalf (bfsTo mv1 mv2 i) i (c1.map fun m => (m, qb))) i (c2.map fun m => (qa, m))) := BOk.half _ bok1 (by
                intro e he
                obtain ⟨m, hm, rfl⟩ := List.mem_map.mp he
                exact okp2 m hm)
              dsimp only
              skip
              refine wpAny_execs_nil ?_
              refine ⟨_, _, _, rfl, O.weak (fun y v e => lookup_skip rfl (lookup_skip rfl (lookup_skip rfl (lookup_skip rfl e)))), ?_⟩
              have hstep : bfsTo mv1 mv2 (i + 1) = bfsHalf (bfsHalf (bfsTo mv1 mv2 i) i (c1.map fun m => (m, qb))) i (c2.map fun m => (qa, m)) := by
                show bfsStep mv1 mv2 (bfsTo mv1 mv2 i) i = _
                unfold bfsStep
                have e0 : (bfsTo mv1 mv2 i).1.getD i (0, 0) = (qa, qb) := by rw [List.getD_eq_getElem?_getD, hq]; rfl
                have e1 : mv1.getD qa [] = c1 := by rw [List.getD_eq_getElem?_getD, hc1]; rfl
                have e2 : mv2.getD qb [] = c2 := by rw [List.getD_eq_getElem?_getD, hc2]; rfl
                rw [e0, e1, e2]
              have hBl := B.len
              rw [hstep]
              refine ⟨up2, by rw [hlt2, hlt1]; omega, fun j hj => ?_, es2, ty2, B2, hes2⟩
              by_cases hji : j = i
              · subst hji; omega
              · exact hne j (by omega)
      case finB =>
        intro μ h tk hI O
        have hlc : lawCheck mv1 mv2 = true := by rw [← hmv1, ← hmv2]; exact law_check ns
        obtain ⟨sF, hrun, ht1, ht2, ht3⟩ := law_ends hlc
        obtain ⟨iF, hi2, hiF, up, hne, es, ty, B, hes⟩ : ∃ i, i < 200 ∧ i = (bfsTo mv1 mv2 i).1.length ∧ Sle μ14 μ ∧ (∀ j, j < i → j ≠ (bfsTo mv1 mv2 j).1.length) ∧ ∃ es ty, BInv μ14 T0 (bfsTo mv1 mv2 i) μ es ty ∧ es[0]? = some (P0, t0) := by
          rcases hI with ⟨up, _, hne, es, ty, B, hes⟩ | z
          · rw [bfsRun_none 200 0 (fun j hj => hne j (by omega))] at hrun; cases hrun
          · exact z
        have hsF : bfsTo mv1 mv2 iF = sF := by
          have := bfsRun_some hiF hne 200 0 (Nat.zero_le _) (by omega)
          rw [hrun] at this; exact (Option.some.inj this).symm
        have bok := BOk.to mu1 mu2 (by omega) (by omega) iF
        have hbl := bfsTo_len (fun c hc => by have := ms1 c hc; rw [ml1] at this; omega : ∀ c ∈ mv1, c.length ≤ 10) (fun c hc => by have := ms2 c hc; rw [ml2] at this; omega : ∀ c ∈ mv2, c.length ≤ 10) iF
        rw [hsF] at B bok hbl
        have hbo := bok.l
        have TB : IsTree μ (.ref P0) (tr sF.2 sF.2.length 0) := B.tree bok.up (fun c hc => by have := bok.small c hc; omega) _ 0 _ hes (by omega)
        have TA1 : IsTree μ (.ref a1) (tr mv1 mv1.length 0) := by obtain ⟨G, GE⟩ := GA1.fin; exact GE.tree.up up
        have TA2 : IsTree μ (.ref a2) (tr mv2 mv2.length 0) := by obtain ⟨G, GE⟩ := GA2.fin; exact GE.tree.up up
        have C := C14.up up
        have GA1 := GA1.up up
        have GA2 := GA2.up up
        clear B bok hbl hbo hes hne hI hrun hiF hsF hlc F N
        have hmod := modules_low T.nolimit
        obtain ⟨_, F, _⟩ := O.fr
        have N := O.N
        dsimp only
        iterate 2 tb_rel
        refine own_dict3 O hmod ?_
        intro Od
        clear F N
        obtain ⟨_, F, _⟩ := Od.fr
        have N := Od.N
        refine pairTrees_cons_walk ?_
        iterate 2 tb_rel
        refine pairTrees_cons_walk ?_
        iterate 2 tb_rel
        refine pairTrees_cons_walk ?_
        iterate 2 tb_rel
        refine pairTrees_nil_walk ?_
        refine ⟨rfl, rfl, by show List.Nodup [Str.ofString "first", Str.ofString "second", Str.ofString "both"]; decide +kernel, ?_⟩
        intro d h1 od ud gd' dm hod O1
        have C1 := C.new (o := od) ud
        have D1 : IsDoc w (μ.put d od) d [(Str.ofString "first", .ref a1), (Str.ofString "second", .ref a2), (Str.ofString "both", .ref P0)] := ⟨dm, od, O1.got, hod⟩
        have TA1 := TA1.up (O1.le ud)
        have TA2 := TA2.up (O1.le ud)
        have TB := TB.up (O1.le ud)
        have GA1 := GA1.up (O1.le ud)
        have GA2 := GA2.up (O1.le ud)
        generalize μ.put d od = μ1 at O1 C1 D1 TA1 TA2 TB GA1 GA2
        clear O Od C F N
        skip
        refine own_storeC' O1 C1 rfl ?_ rfl rfl
        intro h2 μ2 O2 C2 kp2
        have TA1 := TA1.keepP kp2
        have TA2 := TA2.keepP kp2
        have TB := TB.keepP kp2
        have GA1 := GA1.keepP kp2
        have GA2 := GA2.keepP kp2
        have D2 := D1.keepP kp2
        clear O1 C1 D1 kp2
        obtain ⟨_, F, _⟩ := O2.fr
        have N := O2.N
        iterate 5 tb_rel
        refine with_deep S F rfl rfl ?_
        intro SD
        refine con_make0 (dp := dp + 1) (un := un + 3) (gd := gd) (outer := _ :: outer) SD O2.inh (by k_is) (by k_is) ?_
        intro q0 h3 μ3 x3 W3
        have O3 := O2.call x3
        have C3 := C2.up x3.up
        have TA1 := TA1.up x3.up
        have TA2 := TA2.up x3.up
        have TB := TB.up x3.up
        have GA1 := GA1.up x3.up
        have GA2 := GA2.up x3.up
        have D3 := D2.up x3.up
        clear O2 C2 D2 x3 F N SD
        skip
        refine own_storeC' O3 C3 rfl ?_ rfl rfl
        intro h4 μ4 O4 C4 kp4
        have TA1 := TA1.keepP kp4
        have TA2 := TA2.keepP kp4
        have TB := TB.keepP kp4
        have GA1 := GA1.keepP kp4
        have GA2 := GA2.keepP kp4
        have D4 := D3.keepP kp4
        have W4 : WinObj w μ4 0 q0 := IsObj.keepP kp4 W3
        clear O3 C3 D3 kp4 W3
        obtain ⟨_, F, _⟩ := O4.fr
        have N := O4.N
        iterate 1 tb_rel
        refine own_for (base := s.heap) (g := g) rfl rfl ?_ (by intro _; rfl)
        iterate 6 tb_rel
        refine call_range_1 ?_
        refine ForAt.range (n := 7) (fun i μ => KeepP μ4 μ ∧ ∃ q, Cs g μ _ [(Str.ofString "winning", .ref q), (Str.ofString "document", .ref d), (Str.ofString "other", .ref W2), (Str.ofString "others", .ref M2), (Str.ofString "one", .ref W1), (Str.ofString "ones", .ref M1), (Str.ofString "script", .ref sl)] ∧ WinObj w μ i q) (fun _ => False) rfl
          (Heap.get?_push_size _ rfl) (by decide) (by decide) (O4.grow push_grow) ⟨.of_le fun _ _ e => e, q0, C4, W4⟩ ?stepW ?finW
        case stepW =>
          intro i v μ h tk I oI hi' hv ⟨kp, q, C, W⟩ O
          clear F N
          obtain ⟨_, F, _⟩ := O.fr
          have N := O.N
          dsimp only
          iterate 9 tb_rel
          refine with_deep S F rfl rfl ?_
          intro SD
          refine con_make0 (dp := dp + 1) (un := un + 3) (gd := gd) (outer := _ :: outer) SD O.inh (by k_is) (by k_is) ?_
          intro qa h3 μa xa Ia
          have Oa := O.call xa
          have Ca := C.up xa.up
          have Wa := W.up xa.up
          clear F N SD
          obtain ⟨_, F, _⟩ := Oa.fr
          have N := Oa.N
          iterate 8 tb_rel
          refine with_deep S F rfl rfl ?_
          intro SD
          refine con_make0 (dp := dp + 1) (un := un + 3) (gd := gd) (outer := _ :: outer) SD Oa.inh (by k_is) (by k_is) ?_
          intro qc h5 μc xc Ic
          have Oc := Oa.call xc
          have Cc := Ca.up xc.up
          have Wc := Wa.up xc.up
          have Ia := Ia.up xc.up
          clear F N SD Oa Ca Wa
          obtain ⟨_, F, _⟩ := Oc.fr
          have N := Oc.N
          iterate 4 tb_rel
          refine with_deep S F rfl rfl ?_
          intro SD
          refine (whn_mk w (.ref qc) (.ref q)).tcall SD F (fun _ _ e => e) (by omega) (by omega) (g := _) Oc.inh rfl ?_
          rintro r h6 tk6 μb xb F6 N6 K6 ⟨qb, t1, t2, rfl, Ib⟩
          have Ob := Oc.call xb
          have Cb := Cc.up xb.up
          have Wb := Wc.up xb.up
          have Ia := Ia.up xb.up
          have Ic := Ic.up xb.up
          clear F N SD Oc Cc Wc F6 N6 K6
          obtain ⟨_, F, _⟩ := Ob.fr
          have N := Ob.N
          iterate 2 tb_rel
          refine with_deep S F rfl rfl ?_
          intro SD
          refine (child_mk w (.ref qa) (.ref qb)).tcall SD F (fun _ _ e => e) (by omega) (by omega) (g := _) Ob.inh rfl ?_
          rintro r h7 tk7 μn xn F7 N7 K7 ⟨qn, t3, t4, rfl, In⟩
          have On := Ob.call xn
          have Cn := Cb.up xn.up
          have Wn := Wb.up xn.up
          have Ia := Ia.up xn.up
          have Ic := Ic.up xn.up
          have Ib := Ib.up xn.up
          clear F N SD Ob Cb Wb F7 N7 K7
          skip
          refine own_storeC' On Cn rfl ?_ rfl rfl
          intro h8 μ8 O8 C8 kp8
          skip
          refine wpAny_execs_nil ?_
          have up8 : Sle μ μn := fun b o e => xn.up _ _ (xb.up _ _ (xc.up _ _ (xa.up _ _ e)))
          exact ⟨_, _, _, rfl, O8.weak (fun y v e => lookup_skip rfl e), (kp.trans (.of_le up8)).trans kp8, qn, C8.same (fun y => lookup_twice y), qa, qb, qc, q, _, _, _, _, In.keepP kp8, Ia.keepP kp8, Ib.keepP kp8, Ic.keepP kp8, Wn.keepP kp8⟩
        case finW =>
          intro μ h tk hI O
          obtain ⟨kp, q, C, W⟩ := hI.resolve_right id
          have TA1 := TA1.keepP kp
          have TA2 := TA2.keepP kp
          have TB := TB.keepP kp
          have GA1 := GA1.keepP kp
          have GA2 := GA2.keepP kp
          have D := D4.keepP kp
          clear O4 C4 W4 D4 kp F N hI
          obtain ⟨_, F, _⟩ := O.fr
          have N := O.N
          dsimp only
          iterate 1 tb_rel
          k_dflt (refine' own_lc_assign (base := s.heap) (g := g) ?hsw ?hclos ?hcell ?hkind ?hnames ?hx ?hy ?hp ?h ?hs)
          case hsw => exact rfl
          case hclos => with_unfolding_all rfl
          case hcell => decide
          case hkind => exact rfl
          case hnames => decide
          case hx => exact rfl
          case hy => exact rfl
          case hp => exact rfl
          case hs => intro _; exact rfl
          refine with_deep S F rfl rfl ?_
          intro SD
          iterate 8 tb_rel
          refine own_newTuple O ?_ (by show 3 ≤ sizeLine; decide)
          intro tp h1 utp gtp ftp O1
          have C1 := C.new (o := { cls := .type "tuple", data := .seq [Value.str (Str.ofString "first") tk, Value.str (Str.ofString "second") (tk + 1), Value.str (Str.ofString "both") (tk + 1 + 1)].toArray }) utp
          have W1' := W.up (O1.le utp)
          have D1 := D.up (O1.le utp)
          have TA1 := TA1.up (O1.le utp)
          have TA2 := TA2.up (O1.le utp)
          have TB := TB.up (O1.le utp)
          have GA1 := GA1.up (O1.le utp)
          have GA2 := GA2.up (O1.le utp)
          have etp := O1.got
          generalize hnms : ([Value.str (Str.ofString "first") tk, Value.str (Str.ofString "second") (tk + 1), Value.str (Str.ofString "both") (tk + 1 + 1)] : List Value) = nms at O1 C1 W1' D1 TA1 TA2 TB GA1 GA2 etp
          generalize μ.put tp _ = μ1 at O1 C1 W1' D1 TA1 TA2 TB GA1 GA2 etp
          clear F N O C W D
          obtain ⟨exps, hexps⟩ : ∃ exps : List (List Int), exps = [(dueOne mv1 (worthOf mv1)).map Int.ofNat, (dueOne mv2 (worthOf mv2)).map Int.ofNat, (dueBoth (alikeOf mv1 mv2 (worthOf mv1) (worthOf mv2))).map Int.ofNat] := ⟨_, rfl⟩
          obtain ⟨ow, ew, dw, gw⟩ := C1.at_ (Str.ofString "winning") _ rfl
          obtain ⟨od', ed', dd', gd''⟩ := C1.at_ (Str.ofString "document") _ rfl
          have hw' : ow.data = .cell (some (.ref q)) := dw
          have hd' : od'.data = .cell (some (.ref d)) := dd'
          clear dw dd'
          have N1 : News s.heap L h1 [(L + 1 + 1 + 1 + 1 + 1 + 1 + 1, ow), (L + 1 + 1 + 1 + 1 + 1 + 1, od')] := O1.news (by
            intro p hp
            simp only [List.mem_cons, List.not_mem_nil, or_false] at hp
            rcases hp with rfl | rfl
            · exact ⟨ew, gw⟩
            · exact ⟨ed', gd''⟩)
          obtain ⟨_, F1, _⟩ := O1.fr
          have SD1 := SD.moved S F1 rfl rfl
          clear SD
          have hn3 : nms.length = 3 := by subst hnms; rfl
          refine ⟨_, _, μ1, nms.length, fun j v => nms[j]? = some v, fun j ys g' => ListsAre g' ys (exps.take j), fun j v ys g' => nms[j]? = some v ∧ ListsAre g' ys (exps.take j), .tuple rfl ⟨_, O1.inh _ _ etp⟩, O1, by rw [hn3]; decide, .nil, ⟨?testsT, ?eltT⟩, ?finT⟩
          case testsT =>
            intro Cf j v ys g' H tk' m E' hC hj hys hv hJ hle' hin hH hn hm
            exact testsOf_nil ⟨g', H, _, rfl, .refl hin, hv, hJ⟩
          case eltT =>
            intro Cf j v ys g' H tk' m E' hC hj hys hv hJ hle' hin hH hn hm
            obtain ⟨hjv, hJ⟩ := hJ
            obtain ⟨nm, tkn, va, t, l, rfl, hask, hval, hT, htold, hex⟩ : ∃ nm tkn va t, ∃ l : List Nat, v = .str nm tkn ∧ Asked nm ∧ valueAt [(Str.ofString "first", Value.ref a1), (Str.ofString "second", .ref a2), (Str.ofString "both", .ref P0)] nm = some (.ref va) ∧ IsTree μ1 (.ref va) t ∧ toldOf t = asTold l ∧ exps[j]? = some (l.map Int.ofNat) := by
              subst hnms hexps
              have : j = 0 ∨ j = 1 ∨ j = 2 := by omega
              rcases this with rfl | rfl | rfl
              · cases hjv; exact ⟨_, _, a1, _, _, rfl, .first, val_first _ _ _, TA1, ht1, rfl⟩
              · cases hjv; exact ⟨_, _, a2, _, _, rfl, .second, val_second _ _ _, TA2, ht2, rfl⟩
              · cases hjv; exact ⟨_, _, P0, _, _, rfl, .both, val_both _ _ _, TB, ht3, rfl⟩
            dsimp only at hC hH ⊢
            obtain ⟨FC, kH⟩ := fr_comp F1 (fun _ _ e => e) hC (wr := []) (by simp) (fun b o _ e => hH b o e) hn
            have NC := news_comp N1 (fun _ _ e => e) kH hC
            have SC := SD1.keeps kH
            clear F1 N1 SD1
            k_dflt (refine' lc_any ?hclos ?hcell ?hkind ?hnames ?hx ?h ?hs)
            case hclos => with_unfolding_all rfl
            case hcell => decide
            case hkind => exact rfl
            case hnames => decide
            case hx => exact rfl
            case hs => intro _; exact rfl
            iterate 13 tb_rel
            refine (fields_con w nm tkn hask).tcall SC FC (fun _ _ e => e) (by omega) (by omega) hin rfl ?_
            rintro r h2 tk2 g2 x2 F2 N2 K2 ⟨x, dx, tup, tm, t1, t2, rfl, e1, e2, e3, z1, z2⟩
            have NC2 := N2 NC
            have IF : IsFlds w g2 x nm tkn := ⟨tup, tm, t1, t2, ⟨dx, 2, e1, e2⟩, e3⟩
            clear FC NC N2 e1 e2 e3 z1 z2
            iterate 4 tb_rel
            refine (child_mk w (.ref x) (.ref q)).tcall SC F2 K2 (by omega) (by omega) x2.inh rfl ?_
            rintro r h3 tk3 g3 x3 F3 N3 K3 ⟨c, t3, t4, rfl, IC⟩
            have NC3 := N3 NC2
            have le3 : Sle μ1 g3 := fun b o e => x3.up _ _ (x2.up _ _ (hle' _ _ e))
            clear F2 NC2 N3
            skip
            refine find_tail SC K3 (by omega) (by omega) x3.inh (child_finds (ls := [(none, t)]) (f := fun it => winF 7 it.2) (d := 60) (u := 300) IC ((fields_finds hask hval (IF.up x3.up) (D1.up le3) (hT.up le3)).up (fun _ _ e => e) (by decide) (by decide)) (fun g' y it k _ hD => (win_finds 7 (W1'.up (fun b o e => k _ _ (le3 _ _ e))) hD).up (fun _ _ e => e) (by decide) (by decide)) (by simpa using winF_fit hT 7)) ?_ ?_
            · intro Q' hQ
              tb_rel
              exact hQ
            intro r h4 tk4 g4 ys4 x4 hL4 hR4 hz4
            obtain ⟨la, nla, rfl, ela⟩ := hL4
            have hR : Both (IsDat w g4) ys4 (winF 7 t) := by
              have z : Both (IsDat w g4) ys4 ([(none, t)].flatMap fun it => winF 7 it.2) := hR4
              simpa using z
            have hlen : ys4.length = l.length := hR.len.trans (told_len htold)
            have F4 := F3.keeps x4.grow
            clear F3 hR4
            dsimp only at x4 F4 ⊢
            refine ⟨g4, ys4.length, fun i v => ys4[i]? = some v, fun i zs g' => IntsAre zs ((l.take i).map Int.ofNat), fun i v zs g' => ys4[i]? = some v ∧ IntsAre zs ((l.take i).map Int.ofNat), .list rfl ⟨_, x4.inh _ _ ela⟩, x4.inh, hz4, .nil, ⟨?testsU, ?eltU⟩, ?finU⟩
            case testsU =>
              intro C5 i v zs g5 H5 tk5 m5 E5 hC5 hi5 hz5 hv5 hJ5 hle5 hin5 hH5 hn5 hm5
              exact testsOf_nil ⟨g5, H5, _, rfl, .refl hin5, hv5, hJ5⟩
            case eltU =>
              intro C5 i v zs g5 H5 tk5 m5 E5 hC5 hi5 hz5 hv5 hJ5 hle5 hin5 hH5 hn5 hm5
              obtain ⟨hv5, hJ5⟩ := hJ5
              obtain ⟨it, hit, hD⟩ := hR.at hv5
              obtain ⟨k, hk, hit1⟩ := told_at htold hit
              obtain ⟨xd, val, pth, cx, u1, u2, u3, rfl, Id, hTd, hidx⟩ := hD
              obtain ⟨xi, ti, tupi, ni, tki, rfl, Ii, eti⟩ := hidx _ hit1
              obtain ⟨dxd, nd5, Inst1⟩ := (Id.up hle5).inst hin5
              obtain ⟨dxi, ni5, Inst2⟩ := (Ii.up hle5).inst hin5
              have eti := hin5 _ _ (hle5 _ _ eti)
              dsimp only at hC5 hH5 ⊢
              obtain ⟨F5, kH5⟩ := fr_comp F4 (fun _ _ e => e) hC5 (wr := []) (by simp) (fun b o _ e => hH5 b o e) hn5
              have N5 : News s.heap C5 H5 [] := News.nil
              have XC := (SC.keeps (fun b o e => kH5 b o (x4.grow b o (K3 b o e)))).X
              clear F4 NC3
              iterate 7 tb_rel
              refine item_tupleT (l := [.int (Int.ofNat k) tki]) ⟨_, eti, rfl, _, rfl⟩ (by decide) (by decide) (j := 0) rfl (x := .int (Int.ofNat k) tki) rfl ?_
              refine ⟨g5, H5, _, rfl, .refl hin5, ?_⟩
              show IntsAre (zs ++ [_]) ((l.take (i + 1)).map Int.ofNat)
              rw [take_next hk, List.map_append]
              exact ints_snoc hJ5
            case finU =>
              intro r h6 tk6 zs g6 g7 hJ6 up6 x6 hL6 hlen6
              obtain ⟨lr, nlr, rfl, elr⟩ := hL6
              have hJ6' : IntsAre zs (l.map Int.ofNat) := by
                have z : IntsAre zs ((l.take ys4.length).map Int.ofNat) := hJ6
                rwa [hlen, List.take_length] at z
              refine ⟨g7, h6, _, rfl, x2.trans (x3.trans (x4.trans x6)), ?_⟩
              show ListsAre g7 (ys ++ [.ref lr]) (exps.take (j + 1))
              rw [take_next hex]
              exact (hJ.up fun b o e => x6.up _ _ (x4.up _ _ (x3.up _ _ (x2.up _ _ e)))).snoc elr hJ6'
          case finT =>
            intro r h2 tk2 zs g2 μ2 hJ2 up2 le2 hL2 hlen2 O2
            obtain ⟨tr', ntr, rfl, etr⟩ := hL2
            have hT2 : ListsAre μ2 zs exps := by
              have z : ListsAre g2 zs (exps.take nms.length) := hJ2
              rw [List.take_of_length_le (by rw [hn3, hexps]; exact Nat.le_refl 3)] at z
              exact z.up up2
            have C2 := C1.up le2
            have GA1 := GA1.up le2
            have GA2 := GA2.up le2
            clear O1 C1 W1' D1 TA1 TA2 TB etp hJ2 up2 F1 N1 SD1 ew ed' hw' hd'
            obtain ⟨_, F, _⟩ := O2.fr
            have N := O2.N
            dsimp only
            obtain ⟨GX1, GE1⟩ := GA1.fin
            obtain ⟨nM1, mm1, eM1, hml1, hmem1⟩ := GE1.cM
            obtain ⟨m1, hm1⟩ : ∃ m, mm1[0]? = some m := ⟨_, List.getElem?_eq_getElem (by omega)⟩
            obtain ⟨c1, hc1⟩ : ∃ c, mv1[0]? = some c := ⟨_, List.getElem?_eq_getElem (by omega)⟩
            obtain ⟨nm1, us1, em1, im1⟩ := hmem1 _ _ _ hm1 hc1
            obtain ⟨oW1', ws1, eW1, cW1, ⟨nW1, dW1⟩, iW1⟩ := GA1.worth
            have lm1 : us1.length = c1.length := by simpa using im1.length
            have sc1 := ms1 c1 (List.mem_of_getElem? hc1)
            have wl1 := worthOf_len mv1
            have lt1 : ∀ (j m : Nat), c1[j]? = some m → m < mv1.length := fun j m e => (mu1 0 c1 hc1 m (List.mem_of_getElem? e)).2
            clear GE1 hmem1
            obtain ⟨GX2, GE2⟩ := GA2.fin
            obtain ⟨nM2, mm2, eM2, hml2, hmem2⟩ := GE2.cM
            obtain ⟨m2, hm2⟩ : ∃ m, mm2[0]? = some m := ⟨_, List.getElem?_eq_getElem (by omega)⟩
            obtain ⟨c2, hc2⟩ : ∃ c, mv2[0]? = some c := ⟨_, List.getElem?_eq_getElem (by omega)⟩
            obtain ⟨nm2, us2, em2, im2⟩ := hmem2 _ _ _ hm2 hc2
            obtain ⟨oW2', ws2, eW2, cW2, ⟨nW2, dW2⟩, iW2⟩ := GA2.worth
            have lm2 : us2.length = c2.length := by simpa using im2.length
            have sc2 := ms2 c2 (List.mem_of_getElem? hc2)
            have wl2 := worthOf_len mv2
            have lt2 : ∀ (j m : Nat), c2[j]? = some m → m < mv2.length := fun j m e => (mu2 0 c2 hc2 m (List.mem_of_getElem? e)).2
            clear GE2 hmem2
            clear N
            obtain ⟨o_one, e_one, d_one, g_one⟩ := C2.at_ (Str.ofString "one") _ rfl
            have v_one : o_one.data = .cell (some (.ref W1)) := d_one
            clear d_one
            obtain ⟨o_other, e_other, d_other, g_other⟩ := C2.at_ (Str.ofString "other") _ rfl
            have v_other : o_other.data = .cell (some (.ref W2)) := d_other
            clear d_other
            have N : News s.heap L _ [(L + 1 + 1 + 1, o_one), (L + 1 + 1 + 1 + 1 + 1, o_other)] := O2.news (by
              intro p hp
              simp only [List.mem_cons, List.not_mem_nil, or_false] at hp
              rcases hp with rfl | rfl
              · exact ⟨e_one, g_one⟩
              · exact ⟨e_other, g_other⟩)
            iterate 3 tb_rel
            k_dflt (refine' own_lc (base := s.heap) (g := g) ?hclos ?hcell ?hkind ?hnames ?hx ?h ?hs)
            case hclos => with_unfolding_all rfl
            case hcell => decide
            case hkind => exact rfl
            case hnames => decide
            case hx => exact rfl
            case hs => intro _; exact rfl
            iterate 3 tb_rel
            refine item_listL (l := mm1.map Value.ref) ⟨_, O2.inh _ _ eM1, rfl, _, rfl⟩ (by decide) (by decide) (x := .ref m1) (by simp [hm1]) ?_
            refine ⟨L, _, _, _, us1.length, fun i v => us1[i]? = some v, fun j ys g' => ys = (c1.take j).map fun m => Value.bool ((worthOf mv1).getD m 0 == (worthOf mv2).getD 0 0), fun j v ys g' => us1[j]? = some v ∧ ys = (c1.take j).map fun m => Value.bool ((worthOf mv1).getD m 0 == (worthOf mv2).getD 0 0), .list rfl ⟨_, O2.inh _ _ em1⟩, O2, by omega, rfl, ⟨?testsA, ?eltA⟩, ?finA⟩
            case testsA =>
              intro Cf j v ys g' H tk' m E' hC hj hys hv hJ hle' hin hH hn hm
              exact testsOf_nil ⟨g', H, _, rfl, .refl hin, hv, hJ⟩
            case eltA =>
              intro Cf j v ys g' H tk' m E' hC hj hys hv hJ hle' hin hH hn hm
              obtain ⟨hv, rfl⟩ := hJ
              obtain ⟨x, tx, rfl, hx⟩ := im1.at j v hv
              obtain ⟨mj, hmj, rfl⟩ : ∃ mj, c1[j]? = some mj ∧ Int.ofNat mj = x := by
                rw [List.getElem?_map] at hx
                cases e : c1[j]? with
                | none => rw [e] at hx; cases hx
                | some mj => rw [e] at hx; cases hx; exact ⟨mj, rfl, rfl⟩
              have hmlt := lt1 j mj hmj
              obtain ⟨ta, hta⟩ := worth_at iW1 (m := mj) (by omega)
              obtain ⟨tb, htb⟩ := worth_at iW2 (m := 0) (by omega)
              dsimp only at hC hH ⊢
              obtain ⟨FC, kH⟩ := fr_comp F (fun _ _ e => e) hC (wr := []) (by simp) (fun b o _ e => hH b o e) hn
              have NC := news_comp N (fun _ _ e => e) kH hC
              clear F N
              iterate 4 tb_rel
              refine item_listL (l := ws1) ⟨_, hin _ _ (hle' _ _ eW1), cW1, nW1, dW1⟩ (Int.natCast_nonneg _) (by show ((mj : Nat) : Int) < 2 ^ 63; omega) (x := _) hta ?_
              iterate 3 tb_rel
              refine item_listL (l := ws2) ⟨_, hin _ _ (hle' _ _ eW2), cW2, nW2, dW2⟩ (by decide) (by decide) (x := _) htb ?_
              tb_rel
              refine ⟨g', H, _, rfl, .refl hin, ?_⟩
              rw [take_next hmj, List.map_append, ofNat_beq]; rfl
            case finA =>
              intro r hA tkA zsA gA μA hJA upA leA hLA hlenA OA
              obtain ⟨bA, nbA, rfl, ebA⟩ := hLA
              have hzA : zsA = c1.map fun m => Value.bool ((worthOf mv1).getD m 0 == (worthOf mv2).getD 0 0) := by
                have z : zsA = (c1.take us1.length).map fun m => Value.bool ((worthOf mv1).getD m 0 == (worthOf mv2).getD 0 0) := hJA
                rwa [lm1, List.take_length] at z
              have CA := C2.up leA
              have eM1 := leA _ _ eM1
              have eM2 := leA _ _ eM2
              have em1 := leA _ _ em1
              have em2 := leA _ _ em2
              have eW1 := leA _ _ eW1
              have eW2 := leA _ _ eW2
              have hTA := hT2.up leA
              have etr := leA _ _ etr
              clear C2 O2 N F hT2 hJA upA e_one e_other g_one g_other v_one v_other
              obtain ⟨_, F, _⟩ := OA.fr
              obtain ⟨o_one, e_one, d_one, g_one⟩ := CA.at_ (Str.ofString "one") _ rfl
              have v_one : o_one.data = .cell (some (.ref W1)) := d_one
              clear d_one
              obtain ⟨o_other, e_other, d_other, g_other⟩ := CA.at_ (Str.ofString "other") _ rfl
              have v_other : o_other.data = .cell (some (.ref W2)) := d_other
              clear d_other
              have N : News s.heap L _ [(L + 1 + 1 + 1, o_one), (L + 1 + 1 + 1 + 1 + 1, o_other)] := OA.news (by
                intro p hp
                simp only [List.mem_cons, List.not_mem_nil, or_false] at hp
                rcases hp with rfl | rfl
                · exact ⟨e_one, g_one⟩
                · exact ⟨e_other, g_other⟩)
              dsimp only
              skip
              k_dflt (refine' own_lc (base := s.heap) (g := g) ?hclos ?hcell ?hkind ?hnames ?hx ?h ?hs)
              case hclos => with_unfolding_all rfl
              case hcell => decide
              case hkind => exact rfl
              case hnames => decide
              case hx => exact rfl
              case hs => intro _; exact rfl
              iterate 3 tb_rel
              refine item_listL (l := mm2.map Value.ref) ⟨_, OA.inh _ _ eM2, rfl, _, rfl⟩ (by decide) (by decide) (x := .ref m2) (by simp [hm2]) ?_
              refine ⟨L, _, _, _, us2.length, fun i v => us2[i]? = some v, fun j ys g' => ys = (c2.take j).map fun m => Value.bool ((worthOf mv1).getD 0 0 == (worthOf mv2).getD m 0), fun j v ys g' => us2[j]? = some v ∧ ys = (c2.take j).map fun m => Value.bool ((worthOf mv1).getD 0 0 == (worthOf mv2).getD m 0), .list rfl ⟨_, OA.inh _ _ em2⟩, OA, by omega, rfl, ⟨?testsB, ?eltB⟩, ?finB⟩
              case testsB =>
                intro Cf j v ys g' H tk' m E' hC hj hys hv hJ hle' hin hH hn hm
                exact testsOf_nil ⟨g', H, _, rfl, .refl hin, hv, hJ⟩
              case eltB =>
                intro Cf j v ys g' H tk' m E' hC hj hys hv hJ hle' hin hH hn hm
                obtain ⟨hv, rfl⟩ := hJ
                obtain ⟨x, tx, rfl, hx⟩ := im2.at j v hv
                obtain ⟨mj, hmj, rfl⟩ : ∃ mj, c2[j]? = some mj ∧ Int.ofNat mj = x := by
                  rw [List.getElem?_map] at hx
                  cases e : c2[j]? with
                  | none => rw [e] at hx; cases hx
                  | some mj => rw [e] at hx; cases hx; exact ⟨mj, rfl, rfl⟩
                have hmlt := lt2 j mj hmj
                obtain ⟨ta, hta⟩ := worth_at iW1 (m := 0) (by omega)
                obtain ⟨tb, htb⟩ := worth_at iW2 (m := mj) (by omega)
                dsimp only at hC hH ⊢
                obtain ⟨FC, kH⟩ := fr_comp F (fun _ _ e => e) hC (wr := []) (by simp) (fun b o _ e => hH b o e) hn
                have NC := news_comp N (fun _ _ e => e) kH hC
                clear F N
                iterate 4 tb_rel
                refine item_listL (l := ws1) ⟨_, hin _ _ (hle' _ _ eW1), cW1, nW1, dW1⟩ (by decide) (by decide) (x := _) hta ?_
                iterate 3 tb_rel
                refine item_listL (l := ws2) ⟨_, hin _ _ (hle' _ _ eW2), cW2, nW2, dW2⟩ (Int.natCast_nonneg _) (by show ((mj : Nat) : Int) < 2 ^ 63; omega) (x := _) htb ?_
                tb_rel
                refine ⟨g', H, _, rfl, .refl hin, ?_⟩
                rw [take_next hmj, List.map_append, ofNat_beq]; rfl
              case finB =>
                intro r hB tkB zsB gB μB hJB upB leB hLB hlenB OB
                obtain ⟨bB, nbB, rfl, ebB⟩ := hLB
                have hzB : zsB = c2.map fun m => Value.bool ((worthOf mv1).getD 0 0 == (worthOf mv2).getD m 0) := by
                  have z : zsB = (c2.take us2.length).map fun m => Value.bool ((worthOf mv1).getD 0 0 == (worthOf mv2).getD m 0) := hJB
                  rwa [lm2, List.take_length] at z
                have CB := CA.up leB
                have eM1 := leB _ _ eM1
                have eM2 := leB _ _ eM2
                have em1 := leB _ _ em1
                have em2 := leB _ _ em2
                have eW1 := leB _ _ eW1
                have eW2 := leB _ _ eW2
                have hTB := hTA.up leB
                have etr := leB _ _ etr
                have ebA := leB _ _ ebA
                clear CA OA N F hTA hJB upB e_one e_other g_one g_other v_one v_other
                obtain ⟨_, F, _⟩ := OB.fr
                have N := OB.N
                dsimp only
                have hal : zsA ++ zsB = (alikeOf mv1 mv2 (worthOf mv1) (worthOf mv2)).map Value.bool := by
                  have q1 : mv1.getD 0 [] = c1 := by rw [List.getD_eq_getElem?_getD, hc1]; rfl
                  have q2 : mv2.getD 0 [] = c2 := by rw [List.getD_eq_getElem?_getD, hc2]; rfl
                  rw [hzA, hzB]
                  unfold alikeOf
                  rw [q1, q2, List.map_append, List.map_map, List.map_map]; rfl
                have hzl : zsA.length + zsB.length ≤ 20 := by rw [hzA, hzB, List.length_map, List.length_map]; omega
                refine own_addLists OB ebA ebB (by omega) ?_
                intro bC hC' uC gC OC
                have leC := OC.le uC
                have CC := CB.up leC
                have eM1 := leC _ _ eM1
                have eM2 := leC _ _ eM2
                have em1 := leC _ _ em1
                have em2 := leC _ _ em2
                have eW1 := leC _ _ eW1
                have eW2 := leC _ _ eW2
                have hTC := hTB.up leC
                have etr := leC _ _ etr
                have eC := OC.got
                have hlal : (alikeOf mv1 mv2 (worthOf mv1) (worthOf mv2)).length ≤ 20 := by
                  have := congrArg List.length hal
                  rw [List.length_append, List.length_map] at this; omega
                generalize Snap.put _ bC _ = μC at OC CC eM1 eM2 em1 em2 eW1 eW2 hTC etr eC
                rw [hal] at eC
                generalize hAL : alikeOf mv1 mv2 (worthOf mv1) (worthOf mv2) = al at eC hlal hexps
                clear OB CB hTB ebA ebB F N leC
                skip
                refine own_storeC' OC CC rfl ?_ rfl rfl
                intro hD μD OD CD kpD
                have eM1 := kpD.lst eM1
                have eM2 := kpD.lst eM2
                have em1 := kpD.lst em1
                have em2 := kpD.lst em2
                have eW1 := kpD _ _ eW1 (fun u q => by rw [dW1] at q; cases q)
                have eW2 := kpD _ _ eW2 (fun u q => by rw [dW2] at q; cases q)
                have hTD := hTC.keepP kpD
                have etr := kpD.lst etr
                have eC := kpD.lst eC
                clear OC CC hTC kpD
                obtain ⟨_, F, _⟩ := OD.fr
                have N := OD.N
                dsimp only
                clear N
                obtain ⟨o_one, e_one, d_one, g_one⟩ := CD.at_ (Str.ofString "one") _ rfl
                have v_one : o_one.data = .cell (some (.ref W1)) := d_one
                clear d_one
                obtain ⟨o_ones, e_ones, d_ones, g_ones⟩ := CD.at_ (Str.ofString "ones") _ rfl
                have v_ones : o_ones.data = .cell (some (.ref M1)) := d_ones
                clear d_ones
                have N : News s.heap L _ [(L + 1 + 1 + 1, o_one), (L + 1 + 1, o_ones)] := OD.news (by
                  intro p hp
                  simp only [List.mem_cons, List.not_mem_nil, or_false] at hp
                  rcases hp with rfl | rfl
                  · exact ⟨e_one, g_one⟩
                  · exact ⟨e_ones, g_ones⟩)
                iterate 4 tb_rel
                k_dflt (refine' own_lc (base := s.heap) (g := g) ?hclos ?hcell ?hkind ?hnames ?hx ?h ?hs)
                case hclos => with_unfolding_all rfl
                case hcell => decide
                case hkind => exact rfl
                case hnames => decide
                case hx => exact rfl
                case hs => intro _; exact rfl
                iterate 11 tb_rel
                refine item_listL (l := mm1.map Value.ref) ⟨_, OD.inh _ _ eM1, rfl, _, rfl⟩ (by decide) (by decide) (x := .ref m1) (by simp [hm1]) ?_
                iterate 1 tb_rel
                refine call_len_list (items := us1.toArray) ⟨_, OD.inh _ _ em1, rfl, _, rfl⟩ (by simp; omega) ?_
                iterate 1 tb_rel
                rw [show ((us1.toArray.size : Nat) : Int) = ((c1.length : Nat) : Int) by simp [lm1]]
                refine call_range_1 ?_
                refine ⟨L, _, _, _, c1.length, _, fun j ys g' => IntsAre ys (((List.range j).filter (fun k => (worthOf mv1).getD (c1.getD k 0) 0 == 0)).map Int.ofNat), fun j v ys g' => (∃ t, v = .int ((j : Nat) : Int) t) ∧ ((worthOf mv1).getD (c1.getD j 0) 0 == 0) = true ∧ IntsAre ys (((List.range j).filter (fun k => (worthOf mv1).getD (c1.getD k 0) 0 == 0)).map Int.ofNat), .range rfl (Heap.get?_push_size _ rfl) (small_one (by decide) (by decide) (by omega) (by omega)) (by rw [rangeSize_one]; split <;> omega), OD.grow push_grow, by omega, .nil, ⟨?testsE, ?eltE⟩, ?finE⟩
                case testsE =>
                  intro Cf j v ys g' H tk' m E' hC hj hys hv hJ hle' hin hH hn hm
                  obtain ⟨tj, rfl⟩ := hv
                  have hjj : (0 : Int) + ((j : Nat) : Int) * 1 = ((j : Nat) : Int) := by omega
                  rw [hjj] at hm ⊢
                  dsimp only at hC hH ⊢
                  obtain ⟨FC, kH⟩ := fr_comp F push_grow hC (wr := []) (by simp) (fun b o _ e => hH b o e) hn
                  have NC := news_comp N push_grow kH hC
                  clear F N
                  obtain ⟨mj, hmj⟩ : ∃ mj, c1[j]? = some mj := ⟨_, List.getElem?_eq_getElem hj⟩
                  have hgj : c1.getD j 0 = mj := by rw [List.getD_eq_getElem?_getD, hmj]; rfl
                  have hmlt := lt1 j mj hmj
                  obtain ⟨tm, htm⟩ := im1.get j (Int.ofNat mj) (by rw [List.getElem?_map, hmj]; rfl)
                  obtain ⟨ta, hta⟩ := worth_at iW1 (m := mj) (by omega)
                  refine testsOf_one ?_
                  iterate 7 tb_rel
                  refine item_listL (l := mm1.map Value.ref) ⟨_, hin _ _ (hle' _ _ eM1), rfl, _, rfl⟩ (by decide) (by decide) (x := .ref m1) (by simp [hm1]) ?_
                  iterate 1 tb_rel
                  refine item_listR (items := us1.toArray) ⟨_, hin _ _ (hle' _ _ em1), rfl, _, rfl⟩ (Int.natCast_nonneg _) (by show ((j : Nat) : Int) < 2 ^ 63; omega) (x := .int (Int.ofNat mj) tm) (by simpa using htm) ?_
                  skip
                  refine item_listL (l := ws1) ⟨_, hin _ _ (hle' _ _ eW1), cW1, nW1, dW1⟩ (Int.natCast_nonneg _) (by show ((mj : Nat) : Int) < 2 ^ 63; omega) (x := _) hta ?_
                  iterate 1 tb_rel
                  tb_rel
                  tb_rel
                  refine ⟨g', H, _, rfl, .refl hin, ?_⟩
                  rw [show (Int.ofNat ((worthOf mv1).getD mj 0) == (0 : Int)) = ((worthOf mv1).getD (c1.getD j 0) 0 == 0) from by rw [hgj]; exact ofNat_beq _ 0]
                  by_cases hp : ((worthOf mv1).getD (c1.getD j 0) 0 == 0) = true
                  · rw [if_pos hp]
                    exact ⟨⟨_, rfl⟩, hp, hJ⟩
                  · rw [if_neg hp]
                    show IntsAre ys (((List.range (j + 1)).filter _).map Int.ofNat)
                    rw [filter_next, if_neg hp]
                    exact hJ
                case eltE =>
                  intro Cf j v ys g' H tk' m E' hC hj hys hv hJ hle' hin hH hn hm
                  obtain ⟨⟨tj, rfl⟩, hp, hJ⟩ := hJ
                  dsimp only at hC hH ⊢
                  obtain ⟨FC, kH⟩ := fr_comp F push_grow hC (wr := []) (by simp) (fun b o _ e => hH b o e) hn
                  clear F N
                  tb_rel
                  refine ⟨g', H, _, rfl, .refl hin, ?_⟩
                  show IntsAre (ys ++ [_]) (((List.range (j + 1)).filter _).map Int.ofNat)
                  rw [filter_next, if_pos hp, List.map_append]
                  exact ints_snoc hJ
                case finE =>
                  intro r hE tkE zsE gE μE hJE upE leE hLE hlenE OE
                  obtain ⟨bE, nbE, rfl, ebE⟩ := hLE
                  have hzE : IntsAre zsE ((dueOne mv1 (worthOf mv1)).map Int.ofNat) := by
                    have q : mv1.getD 0 [] = c1 := by rw [List.getD_eq_getElem?_getD, hc1]; rfl
                    unfold dueOne
                    rw [q]
                    exact hJE
                  have CE := CD.up leE
                  have eM1 := leE _ _ eM1
                  have eM2 := leE _ _ eM2
                  have em1 := leE _ _ em1
                  have em2 := leE _ _ em2
                  have eW1 := leE _ _ eW1
                  have eW2 := leE _ _ eW2
                  have etr := leE _ _ etr
                  have eC := leE _ _ eC
                  have hTE := hTD.up leE
                  clear CD OD hTD N F hJE upE e_one e_ones g_one g_ones v_one v_ones
                  obtain ⟨_, F, _⟩ := OE.fr
                  obtain ⟨o_other, e_other, d_other, g_other⟩ := CE.at_ (Str.ofString "other") _ rfl
                  have v_other : o_other.data = .cell (some (.ref W2)) := d_other
                  clear d_other
                  obtain ⟨o_others, e_others, d_others, g_others⟩ := CE.at_ (Str.ofString "others") _ rfl
                  have v_others : o_others.data = .cell (some (.ref M2)) := d_others
                  clear d_others
                  have N : News s.heap L _ [(L + 1 + 1 + 1 + 1 + 1, o_other), (L + 1 + 1 + 1 + 1, o_others)] := OE.news (by
                    intro p hp
                    simp only [List.mem_cons, List.not_mem_nil, or_false] at hp
                    rcases hp with rfl | rfl
                    · exact ⟨e_other, g_other⟩
                    · exact ⟨e_others, g_others⟩)
                  dsimp only
                  iterate 1 tb_rel
                  k_dflt (refine' own_lc (base := s.heap) (g := g) ?hclos ?hcell ?hkind ?hnames ?hx ?h ?hs)
                  case hclos => with_unfolding_all rfl
                  case hcell => decide
                  case hkind => exact rfl
                  case hnames => decide
                  case hx => exact rfl
                  case hs => intro _; exact rfl
                  iterate 11 tb_rel
                  refine item_listL (l := mm2.map Value.ref) ⟨_, OE.inh _ _ eM2, rfl, _, rfl⟩ (by decide) (by decide) (x := .ref m2) (by simp [hm2]) ?_
                  iterate 1 tb_rel
                  refine call_len_list (items := us2.toArray) ⟨_, OE.inh _ _ em2, rfl, _, rfl⟩ (by simp; omega) ?_
                  iterate 1 tb_rel
                  rw [show ((us2.toArray.size : Nat) : Int) = ((c2.length : Nat) : Int) by simp [lm2]]
                  refine call_range_1 ?_
                  refine ⟨L, _, _, _, c2.length, _, fun j ys g' => IntsAre ys (((List.range j).filter (fun k => (worthOf mv2).getD (c2.getD k 0) 0 == 0)).map Int.ofNat), fun j v ys g' => (∃ t, v = .int ((j : Nat) : Int) t) ∧ ((worthOf mv2).getD (c2.getD j 0) 0 == 0) = true ∧ IntsAre ys (((List.range j).filter (fun k => (worthOf mv2).getD (c2.getD k 0) 0 == 0)).map Int.ofNat), .range rfl (Heap.get?_push_size _ rfl) (small_one (by decide) (by decide) (by omega) (by omega)) (by rw [rangeSize_one]; split <;> omega), OE.grow push_grow, by omega, .nil, ⟨?testsF, ?eltF⟩, ?finF⟩
                  case testsF =>
                    intro Cf j v ys g' H tk' m E' hC hj hys hv hJ hle' hin hH hn hm
                    obtain ⟨tj, rfl⟩ := hv
                    have hjj : (0 : Int) + ((j : Nat) : Int) * 1 = ((j : Nat) : Int) := by omega
                    rw [hjj] at hm ⊢
                    dsimp only at hC hH ⊢
                    obtain ⟨FC, kH⟩ := fr_comp F push_grow hC (wr := []) (by simp) (fun b o _ e => hH b o e) hn
                    have NC := news_comp N push_grow kH hC
                    clear F N
                    obtain ⟨mj, hmj⟩ : ∃ mj, c2[j]? = some mj := ⟨_, List.getElem?_eq_getElem hj⟩
                    have hgj : c2.getD j 0 = mj := by rw [List.getD_eq_getElem?_getD, hmj]; rfl
                    have hmlt := lt2 j mj hmj
                    obtain ⟨tm, htm⟩ := im2.get j (Int.ofNat mj) (by rw [List.getElem?_map, hmj]; rfl)
                    obtain ⟨ta, hta⟩ := worth_at iW2 (m := mj) (by omega)
                    refine testsOf_one ?_
                    iterate 7 tb_rel
                    refine item_listL (l := mm2.map Value.ref) ⟨_, hin _ _ (hle' _ _ eM2), rfl, _, rfl⟩ (by decide) (by decide) (x := .ref m2) (by simp [hm2]) ?_
                    iterate 1 tb_rel
                    refine item_listR (items := us2.toArray) ⟨_, hin _ _ (hle' _ _ em2), rfl, _, rfl⟩ (Int.natCast_nonneg _) (by show ((j : Nat) : Int) < 2 ^ 63; omega) (x := .int (Int.ofNat mj) tm) (by simpa using htm) ?_
                    skip
                    refine item_listL (l := ws2) ⟨_, hin _ _ (hle' _ _ eW2), cW2, nW2, dW2⟩ (Int.natCast_nonneg _) (by show ((mj : Nat) : Int) < 2 ^ 63; omega) (x := _) hta ?_
                    iterate 1 tb_rel
                    tb_rel
                    tb_rel
                    refine ⟨g', H, _, rfl, .refl hin, ?_⟩
                    rw [show (Int.ofNat ((worthOf mv2).getD mj 0) == (0 : Int)) = ((worthOf mv2).getD (c2.getD j 0) 0 == 0) from by rw [hgj]; exact ofNat_beq _ 0]
                    by_cases hp : ((worthOf mv2).getD (c2.getD j 0) 0 == 0) = true
                    · rw [if_pos hp]
                      exact ⟨⟨_, rfl⟩, hp, hJ⟩
                    · rw [if_neg hp]
                      show IntsAre ys (((List.range (j + 1)).filter _).map Int.ofNat)
                      rw [filter_next, if_neg hp]
                      exact hJ
                  case eltF =>
                    intro Cf j v ys g' H tk' m E' hC hj hys hv hJ hle' hin hH hn hm
                    obtain ⟨⟨tj, rfl⟩, hp, hJ⟩ := hJ
                    dsimp only at hC hH ⊢
                    obtain ⟨FC, kH⟩ := fr_comp F push_grow hC (wr := []) (by simp) (fun b o _ e => hH b o e) hn
                    clear F N
                    tb_rel
                    refine ⟨g', H, _, rfl, .refl hin, ?_⟩
                    show IntsAre (ys ++ [_]) (((List.range (j + 1)).filter _).map Int.ofNat)
                    rw [filter_next, if_pos hp, List.map_append]
                    exact ints_snoc hJ
                  case finF =>
                    intro r hF tkF zsF gF μF hJF upF leF hLF hlenF OF
                    obtain ⟨bF, nbF, rfl, ebF⟩ := hLF
                    have hzF : IntsAre zsF ((dueOne mv2 (worthOf mv2)).map Int.ofNat) := by
                      have q : mv2.getD 0 [] = c2 := by rw [List.getD_eq_getElem?_getD, hc2]; rfl
                      unfold dueOne
                      rw [q]
                      exact hJF
                    have CF := CE.up leF
                    have eM1 := leF _ _ eM1
                    have eM2 := leF _ _ eM2
                    have em1 := leF _ _ em1
                    have em2 := leF _ _ em2
                    have eW1 := leF _ _ eW1
                    have eW2 := leF _ _ eW2
                    have etr := leF _ _ etr
                    have eC := leF _ _ eC
                    have ebE := leF _ _ ebE
                    have hTF := hTE.up leF
                    clear CE OE hTE N F hJF upF e_other e_others g_other g_others v_other v_others
                    obtain ⟨_, F, _⟩ := OF.fr
                    obtain ⟨o_alike, e_alike, d_alike, g_alike⟩ := CF.at_ (Str.ofString "alike") _ rfl
                    have v_alike : o_alike.data = .cell (some (.ref bC)) := d_alike
                    clear d_alike
                    have N : News s.heap L _ [(L + 1 + 1 + 1 + 1 + 1 + 1 + 1 + 1, o_alike)] := OF.news (by
                      intro p hp
                      simp only [List.mem_cons, List.not_mem_nil, or_false] at hp
                      rcases hp with rfl
                      exact ⟨e_alike, g_alike⟩)
                    dsimp only
                    iterate 1 tb_rel
                    k_dflt (refine' own_lc (base := s.heap) (g := g) ?hclos ?hcell ?hkind ?hnames ?hx ?h ?hs)
                    case hclos => with_unfolding_all rfl
                    case hcell => decide
                    case hkind => exact rfl
                    case hnames => decide
                    case hx => exact rfl
                    case hs => intro _; exact rfl
                    iterate 10 tb_rel
                    refine call_len_list (items := (al.map Value.bool).toArray) ⟨_, OF.inh _ _ eC, rfl, _, rfl⟩ (by simp; omega) ?_
                    iterate 1 tb_rel
                    rw [show (((al.map Value.bool).toArray.size : Nat) : Int) = ((al.length : Nat) : Int) by simp]
                    refine call_range_1 ?_
                    refine ⟨L, _, _, _, al.length, _, fun j ys g' => IntsAre ys (((List.range j).filter fun k => al.getD k false).map Int.ofNat), fun j v ys g' => (∃ t, v = .int ((j : Nat) : Int) t) ∧ al.getD j false = true ∧ IntsAre ys (((List.range j).filter fun k => al.getD k false).map Int.ofNat), .range rfl (Heap.get?_push_size _ rfl) (small_one (by decide) (by decide) (by omega) (by omega)) (by rw [rangeSize_one]; split <;> omega), OF.grow push_grow, by omega, .nil, ⟨?testsG, ?eltG⟩, ?finG⟩
                    case testsG =>
                      intro Cf j v ys g' H tk' m E' hC hj hys hv hJ hle' hin hH hn hm
                      obtain ⟨tj, rfl⟩ := hv
                      have hjj : (0 : Int) + ((j : Nat) : Int) * 1 = ((j : Nat) : Int) := by omega
                      rw [hjj] at hm ⊢
                      dsimp only at hC hH ⊢
                      obtain ⟨FC, kH⟩ := fr_comp F push_grow hC (wr := []) (by simp) (fun b o _ e => hH b o e) hn
                      have NC := news_comp N push_grow kH hC
                      clear F N
                      have hgj : (al.map Value.bool)[j]? = some (.bool (al.getD j false)) := by
                        rw [List.getElem?_map, List.getD_eq_getElem?_getD, List.getElem?_eq_getElem hj]; rfl
                      refine testsOf_one ?_
                      iterate 4 tb_rel
                      refine item_listL (l := al.map Value.bool) ⟨_, hin _ _ (hle' _ _ eC), rfl, _, rfl⟩ (Int.natCast_nonneg _) (by show ((j : Nat) : Int) < 2 ^ 63; omega) (x := _) hgj ?_
                      tb_rel
                      refine ⟨g', H, _, rfl, .refl hin, ?_⟩
                      by_cases hp : al.getD j false = true
                      · rw [if_pos hp]
                        exact ⟨⟨_, rfl⟩, hp, hJ⟩
                      · rw [if_neg hp]
                        show IntsAre ys (((List.range (j + 1)).filter _).map Int.ofNat)
                        rw [filter_next, if_neg hp]
                        exact hJ
                    case eltG =>
                      intro Cf j v ys g' H tk' m E' hC hj hys hv hJ hle' hin hH hn hm
                      obtain ⟨⟨tj, rfl⟩, hp, hJ⟩ := hJ
                      dsimp only at hC hH ⊢
                      obtain ⟨FC, kH⟩ := fr_comp F push_grow hC (wr := []) (by simp) (fun b o _ e => hH b o e) hn
                      clear F N
                      tb_rel
                      refine ⟨g', H, _, rfl, .refl hin, ?_⟩
                      show IntsAre (ys ++ [_]) (((List.range (j + 1)).filter _).map Int.ofNat)
                      rw [filter_next, if_pos hp, List.map_append]
                      exact ints_snoc hJ
                    case finG =>
                      intro r hG tkG zsG gG μG hJG upG leG hLG hlenG OG
                      obtain ⟨bG, nbG, rfl, ebG⟩ := hLG
                      have hzG : IntsAre zsG ((dueBoth al).map Int.ofNat) := hJG
                      have hTG := hTF.up leG
                      have etr := leG _ _ etr
                      have ebE := leG _ _ ebE
                      have ebF := leG _ _ ebF
                      clear OF CF hTF F N hJG upG
                      obtain ⟨_, F, _⟩ := OG.fr
                      have N := OG.N
                      dsimp only
                      iterate 1 tb_rel
                      refine own_newList OG ?_ (by show 3 ≤ sizeLine; decide)
                      intro du hH uH gH fH OH
                      have leH := OH.le uH
                      have eH := OH.got
                      have hTH := hTG.up leH
                      have etr := leH _ _ etr
                      have ebE := leH _ _ ebE
                      have ebF := leH _ _ ebF
                      have ebG := leH _ _ ebG
                      generalize Snap.put _ du _ = μH at OH eH hTH etr ebE ebF ebG
                      clear OG hTG leH F N
                      obtain ⟨_, F, _⟩ := OH.fr
                      have N := OH.N
                      iterate 6 tb_rel
                      rename Own _ _ _ _ _ _ _ => OI
                      refine own_eqLists OI.inh etr eH hTH ?_ (by show un + 3 + 10 < cLine; omega) ?_
                      · rw [hexps]
                        exact .cons ebE hzE (.cons ebF hzF (.cons ebG hzG .nil))
                      exact hret _ _ _ _ OI.ext rfl
end
end Mine
end
section
open PySem PySem.W PySem.Calls PyProof.Rows PySem.Spec
set_option maxHeartbeats 8000000
namespace Mine
-- These names stand here so that the head, which is elaborated under the name hx, lays no twin for the objects that they are
-- reckoned from: without them the compiled file is over the lid (269 MB), with them it is 57 MB. They say nothing of the program.
theorem hx.tw7117039502732272165 : True := trivial
theorem hx.tw2722494911219165771 : True := trivial
theorem hx.tw13121428878594284678 : True := trivial
theorem hx.tw8689431418697317241 : True := trivial
theorem hx.tw13994185481600150508 : True := trivial
theorem hx.tw7686487335969427304 : True := trivial
theorem hx.tw12244323609287083244 : True := trivial
theorem hx.tw13733672604495292696 : True := trivial
theorem hx.tw3802569660202298772 : True := trivial
theorem hx.tw5021383815941250214 : True := trivial
theorem hx.tw13574767429253134702 : True := trivial
theorem hx.tw2848357750357388338 : True := trivial
theorem hx.tw663058311725963850 : True := trivial
theorem hx.tw4149262921692028645 : True := trivial
theorem hx.tw14319195189009250854 : True := trivial
theorem hx.tw6472239261815649849 : True := trivial
theorem hx.tw12369505070293475891 : True := trivial
theorem hx.tw16403607636861804150 : True := trivial
theorem hx.tw11651215647737651630 : True := trivial
theorem hx.tw16937982806788184370 : True := trivial
theorem hx.tw6930950759929274386 : True := trivial
theorem hx.tw4311935586957980807 : True := trivial
theorem hx.tw15446179714025208549 : True := trivial
theorem hx.tw2287549446805351391 : True := trivial
theorem hx.tw4293664988331523337 : True := trivial
theorem hx.tw3399465718499267812 : True := trivial
theorem hx.tw1680849517792564725 : True := trivial
theorem hx.tw3601925729670787442 : True := trivial
theorem hx.tw1011593914326734453 : True := trivial
theorem hx.tw15466940415637129421 : True := trivial
theorem hx.tw10442284284707275710 : True := trivial
theorem hx.tw13835724759982542066 : True := trivial
theorem hx.tw4269251904459062986 : True := trivial
theorem hx.tw2087738239193673434 : True := trivial
theorem hx.tw12592994705595984505 : True := trivial
theorem hx.tw1415654423932628287 : True := trivial
theorem hx.tw3762958163772505196 : True := trivial
theorem hx.tw9166759312617231822 : True := trivial
theorem hx.tw15744881008354321025 : True := trivial
theorem hx.tw6836243782229160083 : True := trivial
theorem hx.tw15142553430523701620 : True := trivial
theorem hx.tw9098983783718519904 : True := trivial
theorem hx.tw12938584960106786947 : True := trivial
theorem hx.tw13327334872544604925 : True := trivial
theorem hx.tw11902936363958999829 : True := trivial
theorem hx.tw4232555702244796835 : True := trivial
theorem hx.tw8526741685566437804 : True := trivial
theorem hx.tw5987738072841988675 : True := trivial
theorem hx.tw2580623763806008135 : True := trivial
theorem hx.tw18163383231904437410 : True := trivial
theorem hx.tw18436989916982367924 : True := trivial
theorem hx.tw9818837363699442920 : True := trivial
theorem hx.tw9756176730170026455 : True := trivial
theorem hx.tw8892246978027081157 : True := trivial
theorem hx.tw2431121757064783676 : True := trivial
theorem hx.tw13003758396033250783 : True := trivial
theorem hx.tw6700631356736508036 : True := trivial
theorem hx.tw11652467807154655573 : True := trivial
theorem hx.tw12719230770575069387 : True := trivial
theorem hx.tw4439321647937447777 : True := trivial
theorem hx.tw16909937564651206706 : True := trivial
theorem hx.tw15024933671316692954 : True := trivial
theorem hx.tw7462397087798485187 : True := trivial
theorem hx.tw15223712253771690232 : True := trivial
theorem hx.tw2924628002121016683 : True := trivial
theorem hx.tw13972809315311186568 : True := trivial
theorem hx.tw17271321868219357104 : True := trivial
theorem hx.tw7590231348009606088 : True := trivial
theorem hx.tw13273623471580055978 : True := trivial
theorem hx.tw286993547205191938 : True := trivial
theorem hx.tw15215796203213042296 : True := trivial
theorem hx.tw14626987222883238387 : True := trivial
theorem hx.tw14564351093087913541 : True := trivial
theorem hx.tw11605663943579434254 : True := trivial
theorem hx.tw8360991337320666301 : True := trivial
theorem hx.tw9580753470902210594 : True := trivial
theorem hx.tw10807983823035302247 : True := trivial
theorem hx.tw7856333880906944196 : True := trivial
theorem hx.tw4283430462085702152 : True := trivial
theorem hx.tw13861093565919502260 : True := trivial
theorem hx.tw1089165632158530400 : True := trivial
theorem hx.tw15863934828499288174 : True := trivial
theorem hx.tw18272945143815115441 : True := trivial
theorem hx.tw7575134019868595920 : True := trivial
theorem hx.tw11306379504899602045 : True := trivial
theorem hx.tw7291546937901893924 : True := trivial
theorem hx.tw10916607958114097716 : True := trivial
theorem hx.tw1277046806435012942 : True := trivial
theorem hx.tw17329162247811163424 : True := trivial
theorem hx.tw17882310838744935415 : True := trivial
theorem hx.tw18376012014735405661 : True := trivial
theorem hx.tw1217080896915090328 : True := trivial
theorem hx.tw5835382612795334523 : True := trivial
theorem hx.tw15929811917968181784 : True := trivial
theorem hx.tw10413734220558041264 : True := trivial
theorem hx.tw18141915107381044649 : True := trivial
theorem hx.tw11150338070433746062 : True := trivial
theorem hx.tw5841609243541674958 : True := trivial
theorem hx.tw6094537120995972945 : True := trivial
theorem hx.tw16562810249119712046 : True := trivial
theorem hx.tw4331322168288796995 : True := trivial
theorem hx.tw3245460484126576377 : True := trivial
theorem hx.tw8177863064353930860 : True := trivial
theorem hx.tw1100523350065315309 : True := trivial
theorem hx.tw14897263000708364615 : True := trivial
theorem hx.tw11068639925614717322 : True := trivial
theorem hx.tw8812941233019382706 : True := trivial
theorem hx.tw8013753438709209555 : True := trivial
theorem hx.tw15387523616183901717 : True := trivial
theorem hx.tw1106535952462682261 : True := trivial
theorem hx.tw6030892366491303188 : True := trivial
theorem hx.tw7118774718363930462 : True := trivial
theorem hx.tw2191687581829716119 : True := trivial
theorem hx.tw16220354117797179089 : True := trivial
theorem hx.tw3151352308241419672 : True := trivial
theorem hx.tw4601627501900363749 : True := trivial
theorem hx.tw663216957817655072 : True := trivial
theorem hx.tw4621005963601903657 : True := trivial
theorem hx.tw16653890388018469145 : True := trivial
theorem hx.tw9278274356349359930 : True := trivial
theorem hx.tw12991532671812350252 : True := trivial
theorem hx.tw4835485041952420608 : True := trivial
theorem hx.tw292709383975957704 : True := trivial
theorem hx.tw12260432941604002497 : True := trivial
theorem hx.tw607712491831585991 : True := trivial
theorem hx.tw3767164605852734177 : True := trivial
theorem hx.tw14511709716187995092 : True := trivial
theorem hx.tw4459410774582096363 : True := trivial
theorem hx.tw16044307587897543647 : True := trivial
theorem hx.tw15536713197984420945 : True := trivial
theorem hx.tw9229111910879503682 : True := trivial
theorem hx.tw6234722803267601620 : True := trivial
theorem hx.tw16842200711778894795 : True := trivial
theorem hx.tw11069186370953701041 : True := trivial
theorem hx.tw9376648975381460483 : True := trivial
theorem hx.tw12294144641388205969 : True := trivial
theorem hx.tw1362163949497883158 : True := trivial
theorem hx.tw7738528606467845978 : True := trivial
theorem hx.tw12103094082663812918 : True := trivial
theorem hx.tw13173629366862862663 : True := trivial
theorem hx.tw5044738186272462081 : True := trivial
theorem hx.tw15396066670179936615 : True := trivial
theorem hx.tw15882349035831147880 : True := trivial
theorem hx.tw14621872504664255023 : True := trivial
theorem hx.tw5258523180806066235 : True := trivial
theorem hx.tw13935590442657942151 : True := trivial
theorem hx.tw14044817671008982184 : True := trivial
theorem hx.tw6912957689366828898 : True := trivial
theorem hx.tw1375955018112806077 : True := trivial
theorem hx.tw12389214559413477026 : True := trivial
theorem hx.tw7294451765800989532 : True := trivial
theorem hx.tw17683900609896704795 : True := trivial
theorem hx.tw9838419238923530799 : True := trivial
theorem hx.tw15622713162970399124 : True := trivial
theorem hx.tw13307316372228832604 : True := trivial
theorem hx.tw12392353606877693820 : True := trivial
theorem hx.tw6150637109426312374 : True := trivial
theorem hx.tw13987342028335386337 : True := trivial
theorem hx.tw17809212181156274236 : True := trivial
theorem hx.tw4036626835755369765 : True := trivial
theorem hx.tw11092232630674199974 : True := trivial
theorem hx.tw1633863039109725667 : True := trivial
theorem hx.tw3146596328094197638 : True := trivial
theorem hx.tw12796349732060051669 : True := trivial
theorem hx.tw5973647403945334939 : True := trivial
theorem hx.tw9859013073388247969 : True := trivial
theorem hx.tw18436102530548493083 : True := trivial
theorem hx.tw8009842355212673226 : True := trivial
theorem hx.tw13835442340154775703 : True := trivial
theorem hx.tw1749809594243765621 : True := trivial
theorem hx.tw1550649239420292291 : True := trivial
theorem hx.tw8346943369959206681 : True := trivial
theorem hx.tw14580385827833458236 : True := trivial
theorem hx.tw919350103801827390 : True := trivial
theorem hx.tw4496917712743702866 : True := trivial
theorem hx.tw13343930504226383752 : True := trivial
theorem hx.tw2923197144701775926 : True := trivial
theorem hx.tw5229663503899665235 : True := trivial
theorem hx.tw3497297687653118206 : True := trivial
theorem hx.tw15719070241404046249 : True := trivial
theorem hx.tw206405052526537190 : True := trivial
theorem hx.tw13516186739440186774 : True := trivial
theorem hx.tw11235557421540341822 : True := trivial
theorem hx.tw16589706772153868580 : True := trivial
theorem hx.tw17935817764870156833 : True := trivial
theorem hx.tw10665394928749936821 : True := trivial
theorem hx.tw8724208511557814752 : True := trivial
theorem hx.tw15495526600766341446 : True := trivial
theorem hx.tw10032705692053745590 : True := trivial
theorem hx.tw8456879437349519581 : True := trivial
theorem hx.tw15225155743707457426 : True := trivial
theorem hx.tw77911534412266632 : True := trivial
theorem hx.tw16227237620285907853 : True := trivial
theorem hx.tw5458019789550090450 : True := trivial
theorem hx.tw12053443967700797207 : True := trivial
theorem hx.tw10939141181510983603 : True := trivial
theorem hx.tw13959426194186691099 : True := trivial
theorem hx.tw14958249954385249000 : True := trivial
theorem hx.tw15452625738276066833 : True := trivial
theorem hx.tw16876156297239570298 : True := trivial
theorem hx.tw13817252110603802430 : True := trivial
theorem hx.tw9533102366209435770 : True := trivial
theorem hx.tw15723387810056000692 : True := trivial
theorem hx.tw4790614838382506437 : True := trivial
theorem hx.tw6386498509896015619 : True := trivial
theorem hx.tw4149058065308597245 : True := trivial
theorem hx.tw8146969407493219791 : True := trivial
theorem hx.tw1995053994498031341 : True := trivial
theorem hx.tw2530950033039335674 : True := trivial
theorem hx.tw12064557612275603510 : True := trivial
theorem hx.tw8089808293607095345 : True := trivial
theorem hx.tw14789575009835510191 : True := trivial
theorem hx.tw15573648297817959892 : True := trivial
theorem hx.tw8434101033654308250 : True := trivial
theorem hx.tw3276714930261760037 : True := trivial
theorem hx.tw16751661018229691023 : True := trivial
theorem hx.tw3064612590093021604 : True := trivial
theorem hx.tw11828892080821551344 : True := trivial
theorem hx.tw17654875645198222230 : True := trivial
theorem hx.tw9253537096709452137 : True := trivial
theorem hx.tw4778239293986166988 : True := trivial
theorem hx.tw5079612726228634382 : True := trivial
theorem hx.tw2513472254534321444 : True := trivial
theorem hx.tw386089926610526211 : True := trivial
theorem hx.tw12736376338062017885 : True := trivial
theorem hx.tw4535242917892251827 : True := trivial
theorem hx.tw6645837424847773088 : True := trivial
theorem hx.tw13632848519707291393 : True := trivial
theorem hx.tw4638685165426952821 : True := trivial
theorem hx.tw11191459938088770506 : True := trivial
theorem hx.tw1927792282007945085 : True := trivial
theorem hx.tw17626744831489513375 : True := trivial
theorem hx.tw4205994103841450751 : True := trivial
theorem hx.tw8916866690797206258 : True := trivial
theorem hx.tw14031144883048642870 : True := trivial
theorem hx.tw13887421244684101553 : True := trivial
theorem hx.tw380438602855622199 : True := trivial
theorem hx.tw4374200977429756228 : True := trivial
theorem hx.tw7778657530300345364 : True := trivial
theorem hx.tw3772895889506965678 : True := trivial
theorem hx.tw12214142614001633608 : True := trivial
theorem hx.tw9728688711462037987 : True := trivial
theorem hx.tw13100434611214814302 : True := trivial
theorem hx.tw14643307926423651170 : True := trivial
theorem hx.tw17769805437143071325 : True := trivial
theorem hx.tw6638917229641446417 : True := trivial
theorem hx.tw14728151803300476778 : True := trivial
theorem hx.tw16049945830730340309 : True := trivial
theorem hx.tw11529457255951468018 : True := trivial
theorem hx.tw4328668841899091544 : True := trivial
theorem hx.tw9327343547758340640 : True := trivial
theorem hx.tw540753489051694059 : True := trivial
theorem hx.tw8313530265402521625 : True := trivial
theorem hx.tw8720997637451098481 : True := trivial
theorem hx.tw4925180145992722077 : True := trivial
theorem hx.tw13418063953174990607 : True := trivial
theorem hx.tw3005603348570663604 : True := trivial
theorem hx.tw16670953707802882552 : True := trivial
theorem hx.tw512089013297016134 : True := trivial
theorem hx.tw13540067391981041044 : True := trivial
theorem hx.tw11583711831427307319 : True := trivial
theorem hx.tw2462484140620534453 : True := trivial
theorem hx.tw13541313388752826813 : True := trivial
theorem hx.tw11906715856835866592 : True := trivial
theorem hx.tw13726367727983386747 : True := trivial
theorem hx.tw634369046800973281 : True := trivial
theorem hx.tw2933574226750363228 : True := trivial
theorem hx.tw8866640492970853812 : True := trivial
theorem hx.tw18214102734720347575 : True := trivial
theorem hx.tw4736886695178322556 : True := trivial
theorem hx.tw3803119400003127940 : True := trivial
theorem hx.tw2614121834998817442 : True := trivial
theorem hx.tw5279657954283368098 : True := trivial
theorem hx.tw15761037773510429378 : True := trivial
theorem hx.tw7924969997821631868 : True := trivial
theorem hx.tw14768332232214368463 : True := trivial
theorem hx.tw11606427810006902776 : True := trivial
theorem hx.tw16439351170449580089 : True := trivial
theorem hx.tw12866121850660868255 : True := trivial
theorem hx.tw4081245987573513101 : True := trivial
theorem hx.tw4027200573524075328 : True := trivial
theorem hx.tw11803736057804005719 : True := trivial
theorem hx.tw14737546165473383909 : True := trivial
theorem hx.tw17034685950025090854 : True := trivial
theorem hx.tw3126803895974666599 : True := trivial
theorem hx.tw8652588082031224057 : True := trivial
theorem hx.tw7641737541655678421 : True := trivial
theorem hx.tw811370354263480444 : True := trivial
theorem hx.tw4994087634880098733 : True := trivial
theorem hx.tw3854214851370498889 : True := trivial
theorem hx.tw11855829562293527186 : True := trivial
theorem hx.tw1206601256437087541 : True := trivial
theorem hx.tw14344502140286423506 : True := trivial
theorem hx.tw12943594393411517771 : True := trivial
theorem hx.tw4032430191049862950 : True := trivial
theorem hx.tw16297621413855188116 : True := trivial
theorem hx.tw11571822667871770767 : True := trivial
theorem hx.tw16940700322699712139 : True := trivial
theorem hx.tw11876984885562000650 : True := trivial
theorem hx.tw3874887093996765642 : True := trivial
theorem hx.tw2448402593769926005 : True := trivial
theorem hx.tw15283793992842430438 : True := trivial
theorem hx.tw2428139205326471388 : True := trivial
theorem hx.tw10783724793558456354 : True := trivial
theorem hx.tw1623351667710231897 : True := trivial
theorem hx.tw9279888435216144913 : True := trivial
theorem hx.tw12998825465883093567 : True := trivial
theorem hx.tw1980247363165879429 : True := trivial
theorem hx.tw14302440575911937650 : True := trivial
theorem hx.tw5230821695279976462 : True := trivial
theorem hx.tw2884559834261289398 : True := trivial
theorem hx.tw3423346011291521542 : True := trivial
theorem hx.tw2998769833626035175 : True := trivial
theorem hx.tw10596243801935397713 : True := trivial
theorem hx.tw16053221933270867258 : True := trivial
theorem hx.tw11876859455004161157 : True := trivial
theorem hx.tw4178432983367478423 : True := trivial
theorem hx.tw6576187036372545591 : True := trivial
theorem hx.tw17026870021466092750 : True := trivial
theorem hx.tw9115037031211061566 : True := trivial
theorem hx.tw13929035582702624642 : True := trivial
theorem hx.tw4567406995535283511 : True := trivial
theorem hx.tw2397685975255699233 : True := trivial
theorem hx.tw3127049559752940807 : True := trivial
theorem hx.tw10877914472530759936 : True := trivial
theorem hx.tw13055073067585543872 : True := trivial
theorem hx.tw11068126759796092325 : True := trivial
theorem hx.tw8644560031705490810 : True := trivial
theorem hx.tw3055073173289775447 : True := trivial
theorem hx.tw6225824510542169761 : True := trivial
theorem hx.tw11795387172512413407 : True := trivial
theorem hx.tw5707194690098638471 : True := trivial
theorem hx.tw10403954177801633367 : True := trivial
theorem hx.tw12047900415351236395 : True := trivial
theorem hx.tw7168309623211571701 : True := trivial
theorem hx.tw9324718108961995217 : True := trivial
theorem hx.tw2618490190428073017 : True := trivial
theorem hx.tw4277992108151645805 : True := trivial
theorem hx.tw1463196147053303394 : True := trivial
theorem hx.tw13339376231836091768 : True := trivial
theorem hx.tw14640549305066258129 : True := trivial
theorem hx.tw17440233237446270221 : True := trivial
theorem hx.tw3228090532262280768 : True := trivial
theorem hx.tw10147221347258369205 : True := trivial
theorem hx.tw6590801892334686599 : True := trivial
theorem hx.tw17573937718456619690 : True := trivial
theorem hx.tw122895109851674273 : True := trivial
theorem hx.tw4396568497912434250 : True := trivial
theorem hx.tw7448076970475776704 : True := trivial
theorem hx.tw14674748507097392900 : True := trivial
theorem hx.tw899982699746041680 : True := trivial
theorem hx.tw3950329949160742250 : True := trivial
theorem hx.tw13500318469228345713 : True := trivial
theorem hx.tw16328980522917596230 : True := trivial
theorem hx.tw6272355060770995885 : True := trivial
theorem hx.tw18318817810866021139 : True := trivial
theorem hx.tw990764820897086996 : True := trivial
theorem hx.tw12087079219971932454 : True := trivial
theorem hx.tw8078265402885471976 : True := trivial
theorem hx.tw5220988169690193284 : True := trivial
theorem hx.tw4216420034110358939 : True := trivial
theorem hx.tw3696901218909831053 : True := trivial
theorem hx.tw8257418829022891257 : True := trivial
theorem hx.tw17080153362635259050 : True := trivial
theorem hx.tw9876159777357936899 : True := trivial
theorem hx.tw11912952599753793277 : True := trivial
theorem hx.tw2745991006798580251 : True := trivial
theorem hx.tw3809554658679441229 : True := trivial
theorem hx.tw5343992946745809898 : True := trivial
theorem hx.tw6948474134290792126 : True := trivial
theorem hx.tw8725880175513150802 : True := trivial
theorem hx.tw14919038862432082165 : True := trivial
theorem hx.tw5751903802948610276 : True := trivial
theorem hx.tw17790623993939992718 : True := trivial
theorem hx.tw13588689596132362657 : True := trivial
theorem hx.tw12585681302598367607 : True := trivial
theorem hx.tw18112682675998309622 : True := trivial
theorem hx.tw9592554324860578136 : True := trivial
theorem hx.tw7160101362082823129 : True := trivial
theorem hx.tw4197240415250220850 : True := trivial
theorem hx.tw14817645703785147396 : True := trivial
theorem hx.tw6207179915725765719 : True := trivial
theorem hx.tw17453721029707611201 : True := trivial
theorem hx.tw7991351659645307184 : True := trivial
theorem hx.tw6897596897191844616 : True := trivial
theorem hx.tw17122103796602941201 : True := trivial
theorem hx.tw5345257021437362142 : True := trivial
theorem hx.tw3597224387928761530 : True := trivial
theorem hx.tw2189392243237522080 : True := trivial
theorem hx.tw15725253850911379854 : True := trivial
theorem hx.tw6821187626703829088 : True := trivial
theorem hx.tw829882407734958542 : True := trivial
theorem hx.tw3042782897042553625 : True := trivial
theorem hx.tw14742731811885069116 : True := trivial
theorem hx.tw11685723148743647009 : True := trivial
theorem hx.tw10411296912743870623 : True := trivial
theorem hx.tw2927320300579833983 : True := trivial
theorem hx.tw7822962280082496512 : True := trivial
theorem hx.tw11680442082056081124 : True := trivial
theorem hx.tw13756625210381900920 : True := trivial
theorem hx.tw1926156070640763614 : True := trivial
theorem hx.tw12531592957024129060 : True := trivial
theorem hx.tw7611442656274437139 : True := trivial
theorem hx.tw15599365825853255661 : True := trivial
theorem hx.tw10636867075115427920 : True := trivial
theorem hx.tw4588911655245665398 : True := trivial
theorem hx.tw11388261020817367519 : True := trivial
theorem hx.tw14195857516506188752 : True := trivial
theorem hx.tw8383832312975943185 : True := trivial
theorem hx.tw12112647759870957014 : True := trivial
theorem hx.tw15892027648726031944 : True := trivial
theorem hx.tw15020162214462287587 : True := trivial
theorem hx.tw6814150269638858196 : True := trivial
theorem hx.tw2219097095629712201 : True := trivial
theorem hx.tw15288804291069992006 : True := trivial
theorem hx.tw13984125778581839424 : True := trivial
theorem hx.tw8294567603793468075 : True := trivial
theorem hx.tw17871362266857658384 : True := trivial
theorem hx.tw9440667166201527827 : True := trivial
theorem hx.tw209585131044431783 : True := trivial
theorem hx.tw4826159377350640170 : True := trivial
theorem hx.tw15426637738626486864 : True := trivial
theorem hx.tw14311561367197305191 : True := trivial
theorem hx.tw11519250642611243791 : True := trivial
theorem hx.tw10704556739469484813 : True := trivial
theorem hx.tw12245344352721615914 : True := trivial
theorem hx.tw18025658111944671314 : True := trivial
theorem hx.tw8848062868709305014 : True := trivial
theorem hx.tw11268002685874432423 : True := trivial
theorem hx.tw16278983773938623816 : True := trivial
theorem hx.tw4868055017178529757 : True := trivial
theorem hx.tw7271874215164270623 : True := trivial
theorem hx.tw17890773333300578521 : True := trivial
theorem hx.tw2660992353704633501 : True := trivial
theorem hx.tw10283964699342064434 : True := trivial
theorem hx.tw11074221192868344092 : True := trivial
theorem hx.tw1122348294875185760 : True := trivial
theorem hx.tw17281397238847051628 : True := trivial
theorem hx.tw388132459636744785 : True := trivial
theorem hx.tw11233552311124936086 : True := trivial
theorem hx.tw15416837940088587490 : True := trivial
theorem hx.tw9313591890549905059 : True := trivial
theorem hx.tw17016924944305248243 : True := trivial
theorem hx.tw1649579085508831400 : True := trivial
theorem hx.tw15397586958153290271 : True := trivial
theorem hx.tw7436007844522968869 : True := trivial
theorem hx.tw18439033083047412173 : True := trivial
theorem hx.tw3275178236903027326 : True := trivial
theorem hx.tw1074516868807377101 : True := trivial
theorem hx.tw3781718424149988127 : True := trivial
theorem hx.tw2400788085593661931 : True := trivial
theorem hx.tw2246114198807911332 : True := trivial
theorem hx.tw14264558840923773697 : True := trivial
theorem hx.tw10159389032180300928 : True := trivial
theorem hx.tw6996696247724890340 : True := trivial
theorem hx.tw2822907071458423533 : True := trivial
theorem hx.tw10742297795112918153 : True := trivial
theorem hx.tw6649000586521064083 : True := trivial
theorem hx.tw11873219079051621416 : True := trivial
theorem hx.tw8153351105357841641 : True := trivial
theorem hx.tw2404936290449931907 : True := trivial
theorem hx.tw4629720720223295621 : True := trivial
theorem hx.tw11511833604947660874 : True := trivial
theorem hx.tw1222905585969095851 : True := trivial
theorem hx.tw4035567117447141005 : True := trivial
theorem hx.tw9950984906565380895 : True := trivial
theorem hx.tw15596916359039440783 : True := trivial
theorem hx.tw5254291218172806239 : True := trivial
theorem hx.tw13242218034438203823 : True := trivial
theorem hx.tw18094674753870784945 : True := trivial
theorem hx.tw5675339146475604060 : True := trivial
theorem hx.tw5644764048023550207 : True := trivial
theorem hx.tw13904747866207299807 : True := trivial
theorem hx.tw4091792125141806092 : True := trivial
theorem hx.tw4447307148886075343 : True := trivial
theorem hx.tw13328876942023701386 : True := trivial
theorem hx.tw1034031299089687968 : True := trivial
theorem hx.tw7820420391224187335 : True := trivial
theorem hx.tw13353880398495200290 : True := trivial
theorem hx.tw15287070642824720929 : True := trivial
theorem hx.tw6526513203315070531 : True := trivial
theorem hx.tw17620514863039934880 : True := trivial
theorem hx.tw2753894884028247 : True := trivial
theorem hx.tw5244801350481787030 : True := trivial
theorem hx.tw134521874587698215 : True := trivial
theorem hx.tw9975269523818592724 : True := trivial
theorem hx.tw15003182733627720372 : True := trivial
theorem hx.tw17589684436434577441 : True := trivial
theorem hx.tw538932451362224505 : True := trivial
theorem hx.tw1658197193684275316 : True := trivial
theorem hx.tw7758063928635784740 : True := trivial
theorem hx.tw1980375524402002302 : True := trivial
theorem hx.tw13008373176390373076 : True := trivial
theorem hx.tw14992983214800064602 : True := trivial
theorem hx.tw16038111126348386163 : True := trivial
theorem hx.tw6768751125542400157 : True := trivial
theorem hx.tw7342751792056122787 : True := trivial
theorem hx.tw5725629724030738776 : True := trivial
theorem hx.tw13360980773314081272 : True := trivial
theorem hx.tw9410930895886830851 : True := trivial
theorem hx.tw17385304542106548055 : True := trivial
theorem hx.tw10385972291305524515 : True := trivial
theorem hx.tw4356472642329609974 : True := trivial
theorem hx.tw17651295008732575174 : True := trivial
theorem hx.tw4774948093478016081 : True := trivial
theorem hx.tw11003829938115519260 : True := trivial
theorem hx.tw11465607834340801042 : True := trivial
theorem hx.tw9504622745713830366 : True := trivial
theorem hx.tw7336779333470613504 : True := trivial
theorem hx.tw14185994507778423819 : True := trivial
theorem hx.tw10089113472772384774 : True := trivial
theorem hx.tw288411641489606368 : True := trivial
theorem hx.tw14525749084875191736 : True := trivial
theorem hx.tw764732042479237497 : True := trivial
theorem hx.tw16268382344902531218 : True := trivial
theorem hx.tw1972047601138287618 : True := trivial
theorem hx.tw6661065052353065320 : True := trivial
theorem hx.tw5157400123132015144 : True := trivial
theorem hx.tw8835200870164998712 : True := trivial
theorem hx.tw7160642757287845954 : True := trivial
theorem hx.tw14324643134823393709 : True := trivial
theorem hx.tw13412383326353432330 : True := trivial
theorem hx.tw6471395523428408251 : True := trivial
theorem hx.tw10863431328213883938 : True := trivial
theorem hx.tw8492490618434649289 : True := trivial
theorem hx.tw8004840352746629528 : True := trivial
theorem hx.tw7992169660659198757 : True := trivial
theorem hx.tw12876500496384970917 : True := trivial
theorem hx.tw4181972808089653594 : True := trivial
theorem hx.tw12030256587067620103 : True := trivial
theorem hx.tw15857467098338783936 : True := trivial
theorem hx.tw7359549337865388183 : True := trivial
theorem hx.tw15260478145775685171 : True := trivial
theorem hx.tw2102110745716259700 : True := trivial
theorem hx.tw13396310773797896340 : True := trivial
theorem hx.tw16043647936977262334 : True := trivial
theorem hx.tw14653772343310069545 : True := trivial
theorem hx.tw8109301516790526240 : True := trivial
theorem hx.tw13697778423791767345 : True := trivial
theorem hx.tw568883250039891352 : True := trivial
theorem hx.tw2868841428091204648 : True := trivial
theorem hx.tw2063962012853046974 : True := trivial
theorem hx.tw7492030116529166354 : True := trivial
theorem hx.tw16051292036045715728 : True := trivial
theorem hx.tw2024369426084107867 : True := trivial
theorem hx.tw6905475023927656221 : True := trivial
theorem hx.tw4003515419551643288 : True := trivial
theorem hx.tw15902653346226055279 : True := trivial
theorem hx.tw9425653185733914764 : True := trivial
theorem hx.tw5286479519828484009 : True := trivial
theorem hx.tw1513396286026484958 : True := trivial
theorem hx.tw12687398731603832505 : True := trivial
theorem hx.tw9538226051533269152 : True := trivial
theorem hx.tw2911593502983421243 : True := trivial
theorem hx.tw17001873279354605088 : True := trivial
theorem hx.tw17393156024033759196 : True := trivial
theorem hx.tw11501113234145657499 : True := trivial
theorem hx.tw13611598617634704298 : True := trivial
theorem hx.tw1283418492878313000 : True := trivial
theorem hx.tw10610913765530660747 : True := trivial
theorem hx.tw12821517133369311258 : True := trivial
theorem hx.tw13418900697369464106 : True := trivial
theorem hx.tw16584103675982884176 : True := trivial
theorem hx.tw17573638741194809299 : True := trivial
theorem hx.tw13216196189082939631 : True := trivial
theorem hx.tw1930959741480660892 : True := trivial
theorem hx.tw716927816470872148 : True := trivial
theorem hx.tw15913432327912072705 : True := trivial
theorem hx.tw6810229405824084477 : True := trivial
theorem hx.tw7784192983723826403 : True := trivial
theorem hx.tw30516888858077971 : True := trivial
theorem hx.tw12476055800596261357 : True := trivial
theorem hx.tw11225323065111277595 : True := trivial
theorem hx.tw7283001153640328056 : True := trivial
theorem hx.tw7522427195449491447 : True := trivial
theorem hx.tw8549717891604393450 : True := trivial
theorem hx.tw12963041817334964015 : True := trivial
theorem hx.tw12544056204730560957 : True := trivial
theorem hx.tw3287984282217807052 : True := trivial
theorem hx.tw14138387163557110853 : True := trivial
theorem hx.tw12720616893711688022 : True := trivial
theorem hx.tw4546395012647954685 : True := trivial
theorem hx.tw10918413460159112602 : True := trivial
theorem hx.tw2492048929613541025 : True := trivial
theorem hx.tw1598436242538282211 : True := trivial
theorem hx.tw9916199118948513461 : True := trivial
theorem hx.tw15695149568941424871 : True := trivial
theorem hx.tw8800404311707590821 : True := trivial
theorem hx.tw12119435566623225568 : True := trivial
theorem hx.tw14013666240027854082 : True := trivial
theorem hx.tw15196459059211658234 : True := trivial
theorem hx.tw11133863230559657982 : True := trivial
theorem hx.tw12950124535000289064 : True := trivial
theorem hx.tw9845681107099458034 : True := trivial
theorem hx.tw8363641326162966770 : True := trivial
theorem hx.tw551878033868750631 : True := trivial
theorem hx.tw4073450862890528463 : True := trivial
theorem hx.tw6881307674522045928 : True := trivial
theorem hx.tw6745301757348478735 : True := trivial
theorem hx.tw10973832126581270915 : True := trivial
theorem hx.tw3822018425818770122 : True := trivial
theorem hx.tw14288243738381440493 : True := trivial
theorem hx.tw8576703452051888039 : True := trivial
theorem hx.tw11071092168611881012 : True := trivial
theorem hx.tw18288557733248936724 : True := trivial
theorem hx.tw1937750371327377422 : True := trivial
theorem hx.tw9408370375254774644 : True := trivial
theorem hx.tw1210530748395591148 : True := trivial
theorem hx.tw2404633205489611897 : True := trivial
theorem hx.tw13806454070660350921 : True := trivial
theorem hx.tw857691276175789518 : True := trivial
theorem hx.tw7626472609034353091 : True := trivial
theorem hx.tw17529849222839375082 : True := trivial
theorem hx.tw18246513400157920875 : True := trivial
theorem hx.tw1428015736135853223 : True := trivial
theorem hx.tw3105936464211144054 : True := trivial
theorem hx.tw16509932877354490577 : True := trivial
theorem hx.tw11654316357038136316 : True := trivial
theorem hx.tw8069092538493481521 : True := trivial
theorem hx.tw2822385975729611342 : True := trivial
theorem hx.tw14547076071350101635 : True := trivial
theorem hx.tw8454175693458000778 : True := trivial
theorem hx.tw2171623322903362057 : True := trivial
theorem hx.tw8427485113769799218 : True := trivial
theorem hx.tw16617463825281310940 : True := trivial
theorem hx.tw13118943305402699759 : True := trivial
theorem hx.tw5991329863979130625 : True := trivial
theorem hx.tw8185107309596000374 : True := trivial
theorem hx.tw2699983602767374523 : True := trivial
theorem hx.tw16561558360742137065 : True := trivial
theorem hx.tw162848155603439990 : True := trivial
theorem hx.tw8059141126832881916 : True := trivial
theorem hx.tw8150083410846183547 : True := trivial
theorem hx.tw17158850808337323685 : True := trivial
theorem hx.tw7554959009405650026 : True := trivial
theorem hx.tw149470206711900560 : True := trivial
theorem hx.tw10449879093168152174 : True := trivial
theorem hx.tw11442105100669052236 : True := trivial
theorem hx.tw15532180198325277413 : True := trivial
theorem hx.tw9071423850677124175 : True := trivial
theorem hx.tw4820356001183778062 : True := trivial
theorem hx.tw12287459468837230778 : True := trivial
theorem hx.tw6124490972874172257 : True := trivial
theorem hx.tw5145643837290298106 : True := trivial
theorem hx.tw9203262823472262808 : True := trivial
theorem hx.tw806059679219994385 : True := trivial
theorem hx.tw10783175264176337430 : True := trivial
theorem hx.tw4711357149551803662 : True := trivial
theorem hx.tw13973744071428265228 : True := trivial
theorem hx.tw17812654206654028429 : True := trivial
theorem hx.tw16174250225865239651 : True := trivial
theorem hx.tw13458227961471406816 : True := trivial
theorem hx.tw6716190173229412497 : True := trivial
theorem hx.tw10395789954385654390 : True := trivial
theorem hx.tw15765068283106822696 : True := trivial
theorem hx.tw16697562355604267518 : True := trivial
theorem hx.tw3502533989761060701 : True := trivial
theorem hx.tw17494975543084776526 : True := trivial
theorem hx.tw15559813876857712655 : True := trivial
theorem hx.tw10239007394552878174 : True := trivial
theorem hx.tw17842149565482381095 : True := trivial
theorem hx.tw4296267017532797128 : True := trivial
theorem hx.tw3376783596681068269 : True := trivial
theorem hx.tw13047111702688295373 : True := trivial
theorem hx.tw4870609095116367995 : True := trivial
theorem hx.tw8316978927428267617 : True := trivial
theorem hx.tw3792877889932907872 : True := trivial
theorem hx.tw16600827452279821873 : True := trivial
theorem hx.tw2056866998167769742 : True := trivial
theorem hx.tw10099382267163970797 : True := trivial
theorem hx.tw2345487744653432563 : True := trivial
theorem hx.tw14364079368883715770 : True := trivial
theorem hx.tw6048745964160318464 : True := trivial
theorem hx.tw12136790455629638108 : True := trivial
theorem hx.tw11186278346458651885 : True := trivial
theorem hx.tw3696960078455213082 : True := trivial
theorem hx.tw8135493339603401687 : True := trivial
theorem hx.tw14349752981382075830 : True := trivial
theorem hx.tw12536998783352910709 : True := trivial
theorem hx.tw7876969669924440321 : True := trivial
theorem hx.tw5475936251782762557 : True := trivial
theorem hx.tw5834209850536974553 : True := trivial
theorem hx.tw16344473531126340893 : True := trivial
theorem hx.tw5044532516427930034 : True := trivial
theorem hx.tw13001090167431948686 : True := trivial
theorem hx.tw11895436526391868385 : True := trivial
theorem hx.tw1445886391551537731 : True := trivial
theorem hx.tw6951225809539125009 : True := trivial
theorem hx.tw12545834286116690562 : True := trivial
theorem hx.tw3373189247971503177 : True := trivial
theorem hx.tw7411675879612560423 : True := trivial
theorem hx.tw15826755849600578775 : True := trivial
theorem hx.tw8629640164197408899 : True := trivial
theorem hx.tw12989204983627833920 : True := trivial
theorem hx.tw7364302247463330332 : True := trivial
theorem hx.tw6382291294955211999 : True := trivial
theorem hx.tw13742351995774673705 : True := trivial
theorem hx.tw11506879179923238179 : True := trivial
theorem hx.tw17224703828522220382 : True := trivial
theorem hx.tw13285676348558272288 : True := trivial
theorem hx.tw3142173257544734753 : True := trivial
theorem hx.tw13167229442138870257 : True := trivial
theorem hx.tw14095971397211782968 : True := trivial
theorem hx.tw15038418565850436986 : True := trivial
theorem hx.tw2146883442004570292 : True := trivial
theorem hx.tw15964317271155168136 : True := trivial
theorem hx.tw4943545995465237767 : True := trivial
theorem hx.tw17433518216253938662 : True := trivial
theorem hx.tw16831101020866358490 : True := trivial
theorem hx.tw14702946807805543658 : True := trivial
theorem hx.tw4204637286096544306 : True := trivial
theorem hx.tw9960968122618143832 : True := trivial
theorem hx.tw9356179824560524543 : True := trivial
theorem hx.tw15513907674853377026 : True := trivial
theorem hx.tw7381783550449437068 : True := trivial
theorem hx.tw14402270793460099290 : True := trivial
theorem hx.tw9898152369145959108 : True := trivial
theorem hx.tw11926272105270764117 : True := trivial
theorem hx.tw3523277934440134947 : True := trivial
theorem hx.tw15369465458315143963 : True := trivial
theorem hx.tw11874976274172590891 : True := trivial
theorem hx.tw8368798856109363619 : True := trivial
theorem hx.tw64630411898889128 : True := trivial
theorem hx.tw5012581791309765258 : True := trivial
theorem hx.tw5291343962402555478 : True := trivial
theorem hx.tw8313235512025127698 : True := trivial
theorem hx.tw1424128092797642980 : True := trivial
theorem hx.tw1247705991542527101 : True := trivial
theorem hx.tw9876543146211162787 : True := trivial
theorem hx.tw3986090183591653432 : True := trivial
theorem hx.tw16329963321018892172 : True := trivial
theorem hx.tw9800911950683423043 : True := trivial
theorem hx.tw6047097596973096534 : True := trivial
theorem hx.tw5745465540762440112 : True := trivial
theorem hx.tw4288143970758385065 : True := trivial
theorem hx.tw3343473771444255265 : True := trivial
theorem hx.tw3936574193395988776 : True := trivial
theorem hx.tw1906023392622491010 : True := trivial
theorem hx.tw933441318110467940 : True := trivial
theorem hx.tw15525298443865201073 : True := trivial
theorem hx.tw17478428059220288493 : True := trivial
theorem hx.tw16889384090722931010 : True := trivial
theorem hx.tw929041136397781899 : True := trivial
theorem hx.tw16168019790947101984 : True := trivial
theorem hx.tw6691027074710735343 : True := trivial
theorem hx.tw1396631885417364829 : True := trivial
theorem hx.tw18021650032858729757 : True := trivial
theorem hx.tw3296267005824016447 : True := trivial
theorem hx.tw13750583455376624881 : True := trivial
theorem hx.tw9819894657917094784 : True := trivial
theorem hx.tw8626315453904953860 : True := trivial
theorem hx.tw7822411766292120234 : True := trivial
theorem hx.tw15687806069674188760 : True := trivial
theorem hx.tw16514233136784977297 : True := trivial
theorem hx.tw6061844814560656316 : True := trivial
theorem hx.tw6696019823409772510 : True := trivial
theorem hx.tw7258646118196019072 : True := trivial
theorem hx.tw5859954059831970930 : True := trivial
theorem hx.tw6381170856756570040 : True := trivial
theorem hx.tw1709533345360563255 : True := trivial
theorem hx.tw3770322921552031231 : True := trivial
theorem hx.tw9580440979016352591 : True := trivial
theorem hx.tw11831106913802473199 : True := trivial
theorem hx.tw17915831745407981176 : True := trivial
theorem hx.tw12934927632614500181 : True := trivial
theorem hx.tw12870832547070010083 : True := trivial
theorem hx.tw12971980108649762115 : True := trivial
theorem hx.tw12677999345953698985 : True := trivial
theorem hx.tw7421786164480996228 : True := trivial
theorem hx.tw9733707994341241046 : True := trivial
theorem hx.tw3238041122174531716 : True := trivial
theorem hx.tw14581080383437586561 : True := trivial
theorem hx.tw13071191126500404010 : True := trivial
theorem hx.tw2809980089338295446 : True := trivial
theorem hx.tw17093792507239897499 : True := trivial
theorem hx.tw10321924814751884951 : True := trivial
theorem hx.tw5565705770439821194 : True := trivial
theorem hx.tw8475944641615879958 : True := trivial
theorem hx.tw11203511338275664327 : True := trivial
theorem hx.tw18364815469964950118 : True := trivial
theorem hx.tw2497926436135343631 : True := trivial
theorem hx.tw8201023514652866248 : True := trivial
theorem hx.tw3313114576310721804 : True := trivial
theorem hx.tw17832744011254776289 : True := trivial
theorem hx.tw13733715944362664559 : True := trivial
theorem hx.tw12140050572465161888 : True := trivial
theorem hx.tw1358250369764232750 : True := trivial
theorem hx.tw15637220148305887217 : True := trivial
theorem hx.tw432897219053493142 : True := trivial
theorem hx.tw6232408848150379240 : True := trivial
theorem hx.tw2896438728730547279 : True := trivial
theorem hx.tw17731984463975473917 : True := trivial
theorem hx.tw3264777137382535416 : True := trivial
theorem hx.tw5546299256372968745 : True := trivial
theorem hx.tw13461288425266067717 : True := trivial
theorem hx.tw10824229777759904600 : True := trivial
theorem hx.tw190323194274516343 : True := trivial
theorem hx.tw15088266657895807461 : True := trivial
theorem hx.tw12632244236935671880 : True := trivial
theorem hx.tw13055703173919293919 : True := trivial
theorem hx.tw8339939058450410749 : True := trivial
theorem hx.tw12281674026195278568 : True := trivial
theorem hx.tw8765746493276748076 : True := trivial
theorem hx.tw6938760501003799309 : True := trivial
theorem hx.tw15642498914273402183 : True := trivial
theorem hx.tw399526882006366711 : True := trivial
theorem hx.tw6815985589519525316 : True := trivial
theorem hx.tw7494296812056875437 : True := trivial
theorem hx.tw53671048762403245 : True := trivial
theorem hx.tw11060124829600404249 : True := trivial
theorem hx.tw3169779510389522523 : True := trivial
theorem hx.tw17236013290512009086 : True := trivial
theorem hx.tw16166368621782959301 : True := trivial
theorem hx.tw11089877848252077935 : True := trivial
theorem hx.tw17454577913403430252 : True := trivial
theorem hx.tw6571291060729986440 : True := trivial
theorem hx.tw329072985140239050 : True := trivial
theorem hx.tw9926087939513100535 : True := trivial
theorem hx.tw16294087361379835962 : True := trivial
theorem hx.tw12036669265036031014 : True := trivial
theorem hx.tw7815520995879020269 : True := trivial
theorem hx.tw9469051840768371287 : True := trivial
theorem hx.tw9583031203963763055 : True := trivial
theorem hx.tw3624554803102013921 : True := trivial
theorem hx.tw1628044414854275119 : True := trivial
theorem hx.tw10516643663288343842 : True := trivial
theorem hx.tw7445733027249461639 : True := trivial
theorem hx.tw7257752904359908486 : True := trivial
theorem hx.tw5841892539215548279 : True := trivial
theorem hx.tw10483263613327836230 : True := trivial
theorem hx.tw14150925457611720700 : True := trivial
theorem hx.tw16503685224865804450 : True := trivial
theorem hx.tw16041046370011181779 : True := trivial
theorem hx.tw5486498298220157551 : True := trivial
theorem hx.tw14377449150090406625 : True := trivial
theorem hx.tw10927994296842964546 : True := trivial
theorem hx.tw12792585633891114797 : True := trivial
theorem hx.tw4852414063411868548 : True := trivial
theorem hx.tw104094576447766374 : True := trivial
theorem hx.tw10143001506211119355 : True := trivial
theorem hx.tw1472627028676479429 : True := trivial
theorem hx.tw17601551063327761115 : True := trivial
theorem hx.tw12316986716782704333 : True := trivial
theorem hx.tw15890461587552314789 : True := trivial
theorem hx.tw17874153101932871819 : True := trivial
theorem hx.tw3710802891750653368 : True := trivial
theorem hx.tw14364110991727458282 : True := trivial
theorem hx.tw2586096127677666143 : True := trivial
theorem hx.tw12958973201736663512 : True := trivial
theorem hx.tw11777438573796971364 : True := trivial
theorem hx.tw16401775577440721349 : True := trivial
theorem hx.tw17365841796568000854 : True := trivial
theorem hx.tw2684102819342949193 : True := trivial
theorem hx.tw6444759291126645529 : True := trivial
theorem hx.tw11413205744277866631 : True := trivial
theorem hx.tw2434324634612665561 : True := trivial
theorem hx.tw10782636077873877296 : True := trivial
theorem hx.tw2438556121179383376 : True := trivial
theorem hx.tw17436559092727719069 : True := trivial
theorem hx.tw16422446190411312259 : True := trivial
theorem hx.tw7385541598251207468 : True := trivial
theorem hx.tw7086268270985402415 : True := trivial
theorem hx.tw3448436965285196660 : True := trivial
theorem hx.tw6346493079076818392 : True := trivial
theorem hx.tw11044573971291310966 : True := trivial
theorem hx.tw10864032600957282309 : True := trivial
theorem hx.tw14693721518964817596 : True := trivial
theorem hx.tw9427077688836159671 : True := trivial
theorem hx.tw245388453786887242 : True := trivial
theorem hx.tw14629616601678125156 : True := trivial
theorem hx.tw1605211398983953635 : True := trivial
theorem hx.tw13724630365935171946 : True := trivial
theorem hx.tw9833553656769391465 : True := trivial
theorem hx.tw9691422183254027723 : True := trivial
theorem hx.tw5073386559561990923 : True := trivial
theorem hx.tw2194386836789649628 : True := trivial
theorem hx.tw15932340531052202542 : True := trivial
theorem hx.tw12203261482158421150 : True := trivial
theorem hx.tw5254150876798236439 : True := trivial
theorem hx.tw13522551469373217439 : True := trivial
theorem hx.tw8063799498105216150 : True := trivial
theorem hx.tw14866903424737192701 : True := trivial
theorem hx.tw11255313108558152148 : True := trivial
theorem hx.tw3171571090798886337 : True := trivial
theorem hx.tw3778313439561597904 : True := trivial
theorem hx.tw5033423968699698886 : True := trivial
theorem hx.tw5602258624995510178 : True := trivial
theorem hx.tw1765193833724418456 : True := trivial
theorem hx.tw7939700986846642070 : True := trivial
theorem hx.tw17967490135107311282 : True := trivial
theorem hx.tw15607260501993015751 : True := trivial
theorem hx.tw14829580396654412330 : True := trivial
theorem hx.tw10606685759059100015 : True := trivial
theorem hx.tw11561366718681118979 : True := trivial
theorem hx.tw15462683395770930534 : True := trivial
theorem hx.tw3289709261027852024 : True := trivial
theorem hx.tw13028522948772262508 : True := trivial
theorem hx.tw14780050976537163602 : True := trivial
theorem hx.tw45817232647829279 : True := trivial
theorem hx.tw1879972785478743596 : True := trivial
theorem hx.tw10378792918218926003 : True := trivial
theorem hx.tw4419246182884519999 : True := trivial
theorem hx.tw2258324389533410429 : True := trivial
theorem hx.tw2702912257362749870 : True := trivial
theorem hx.tw15420093970062846795 : True := trivial
theorem hx.tw2653273610416408720 : True := trivial
theorem hx.tw3596415110745729370 : True := trivial
theorem hx.tw6500686390916074201 : True := trivial
theorem hx.tw15880504448479711350 : True := trivial
theorem hx.tw15377445910829238176 : True := trivial
theorem hx.tw2786521351924353169 : True := trivial
theorem hx.tw6873645178399093424 : True := trivial
theorem hx.tw7034298128997996108 : True := trivial
theorem hx.tw14412582317878784360 : True := trivial
theorem hx.tw1359767371040273477 : True := trivial
theorem hx.tw7105652820812284432 : True := trivial
theorem hx.tw17197377076905342390 : True := trivial
theorem hx.tw5797834762334671391 : True := trivial
theorem hx.tw7590023021421854271 : True := trivial
theorem hx.tw5557744672519427172 : True := trivial
theorem hx.tw15102594672415386349 : True := trivial
theorem hx.tw6987332734749810786 : True := trivial
theorem hx.tw9661119599188179355 : True := trivial
theorem hx.tw1347916733764399252 : True := trivial
theorem hx.tw8801481476271892115 : True := trivial
theorem hx.tw932451246233767929 : True := trivial
theorem hx.tw16194197300274779544 : True := trivial
theorem hx.tw3864814513713628098 : True := trivial
theorem hx.tw12166059554313202536 : True := trivial
theorem hx.tw12392237581957222550 : True := trivial
theorem hx.tw2174435470470850508 : True := trivial
theorem hx.tw10027257451656575460 : True := trivial
theorem hx.tw16131195338128503568 : True := trivial
theorem hx.tw13051606616835114215 : True := trivial
theorem hx.tw2666575348641732755 : True := trivial
theorem hx.tw11435019643562579228 : True := trivial
theorem hx.tw11617668915913538150 : True := trivial
theorem hx.tw18397530887139883770 : True := trivial
theorem hx.tw220141771098404739 : True := trivial
set_option Elab.async true in
theorem hx : PySem.Challenge.rw_ae5011_01.Holds := by
  w_on
  o_law
  o_head (kHook KF (nat_lit 2 :: nat_lit 3 :: nat_lit 42 :: nat_lit 43 :: nat_lit 51 :: nat_lit 52 :: nat_lit 53 :: nat_lit 54 :: nat_lit 55 :: nat_lit 58 :: nat_lit 59 :: nat_lit 60 :: nat_lit 61 :: nat_lit 132 :: nat_lit 133 :: nat_lit 134 :: nat_lit 135 :: nat_lit 136 :: nat_lit 146 :: nat_lit 148 :: nat_lit 149 :: nat_lit 151 :: nat_lit 152 :: nat_lit 153 :: nat_lit 154 :: nat_lit 155 :: nat_lit 156 :: nat_lit 157 :: nat_lit 159 :: nat_lit 160 :: nat_lit 162 :: nat_lit 163 :: nat_lit 164 :: nat_lit 166 :: nat_lit 167 :: nat_lit 169 :: nat_lit 170 :: nat_lit 171 :: nat_lit 193 :: nat_lit 201 :: nat_lit 202 :: nat_lit 203 :: nat_lit 204 :: nat_lit 205 :: nat_lit 208 :: nat_lit 264 :: nat_lit 265 :: nat_lit 266 :: nat_lit 269 :: nat_lit 276 :: nat_lit 278 :: nat_lit 279 :: nat_lit 281 :: nat_lit 282 :: nat_lit 325 :: nat_lit 326 :: nat_lit 327 :: nat_lit 330 :: nat_lit 337 :: nat_lit 339 :: nat_lit 340 :: nat_lit 342 :: nat_lit 343 :: nat_lit 344 :: nat_lit 347 :: nat_lit 348 :: nat_lit 419 :: nat_lit 420 :: nat_lit 421 :: nat_lit 424 :: nat_lit 431 :: nat_lit 433 :: nat_lit 434 :: nat_lit 436 :: nat_lit 437 :: nat_lit 478 :: nat_lit 479 :: nat_lit 480 :: nat_lit 483 :: nat_lit 490 :: nat_lit 493 :: nat_lit 494 :: nat_lit 516 :: nat_lit 517 :: nat_lit 518 :: nat_lit 521 :: nat_lit 528 :: nat_lit 530 :: nat_lit 531 :: nat_lit 533 :: nat_lit 534 :: nat_lit 535 :: nat_lit 537 :: nat_lit 538 :: nat_lit 540 :: nat_lit 541 :: nat_lit 542 :: nat_lit 543 :: nat_lit 544 :: nat_lit 545 :: nat_lit 547 :: nat_lit 548 :: nat_lit 550 :: nat_lit 551 :: nat_lit 552 :: nat_lit 554 :: nat_lit 555 :: nat_lit 557 :: nat_lit 558 :: nat_lit 559 :: nat_lit 560 :: nat_lit 561 :: nat_lit 562 :: nat_lit 564 :: nat_lit 565 :: nat_lit 567 :: nat_lit 568 :: nat_lit 569 :: nat_lit 571 :: nat_lit 572 :: nat_lit 574 :: nat_lit 575 :: nat_lit 583 :: nat_lit 586 :: nat_lit 587 :: nat_lit 644 :: nat_lit 645 :: nat_lit 646 :: nat_lit 649 :: nat_lit 663 :: nat_lit 664 :: nat_lit 665 :: nat_lit 666 :: nat_lit 669 :: nat_lit 670 :: nat_lit 720 :: nat_lit 721 :: nat_lit 722 :: nat_lit 725 :: nat_lit 732 :: nat_lit 734 :: nat_lit 735 :: nat_lit 737 :: nat_lit 738 :: nat_lit 821 :: nat_lit 822 :: nat_lit 823 :: nat_lit 826 :: nat_lit 829 :: nat_lit 830 :: nat_lit 852 :: nat_lit 853 :: nat_lit 856 :: nat_lit 857 :: nat_lit 858 :: nat_lit 861 :: nat_lit 862 :: []) (fun _ => by kernel_rfl))
  case hw => w_witness2
  intro w s₀ s₁ mg mb G Y fa o pm cd doc dV kV ho hd hcd hD hmg hg args vals as hpre hlay hrd hwl hlo
  have KX := kIn_of Y
  have X := (Ground.X G).1
  have V := (Ground.X G).2
  try w_nolog (first | (have GL := glob_more (Ground.glob G (by first | k_qdec | decide +kernel) (by first | k_qdec | decide +kernel)) V) | (have GL := glob_more (Ground.glob G (by decide +kernel)) V))
  refine Ground.open G ?_
  intro T B D TE TW
  try (refine guard_noD D (by decide +kernel) ?_; clear D)
  obtain ⟨_, _, M⟩ := bmod_of_top T
  have TA := at_of_top T
  try (obtain ⟨_, _, he, B0⟩ := based_of_top T rfl hmg ho hd; have he' : cd = _ := he; subst he'; clear he)
  have hmg' := hmg
  wrow_args hpre hlay hrd hwl hlo
  all_goals (
    first | refine callC_kw (enter_call ?_) | refine enter_call ?_ | refine callC_kw (enter_callW ?_) | refine enter_callW ?_ | w_how
    w_top on
    try refine codeAny_mono ?_ (fun _ _ g => GoodW.toG g)
    have K0 := below_caller (Top.heap T))
  rename_i ns _ _ _ _ _ _ _ sl vs _ hL _ _ _ hI _ hlen _
  have KX' : (KF w.params).In s₁.heap := KX
  have S : St w callerA s₁.heap := ⟨KX', ⟨_, _, _, _, _, T⟩, _, _, K0⟩
  have hfa : fa = 862 := by
    have z := mg_of (n := Str.ofString "law") KX' T.g (by k_is)
    rw [show mg (Str.ofString "law") = some (.ref fa) from hmg'] at z
    injection z with z; injection z
  subst hfa
  obtain ⟨o, eo, co, n, d⟩ := hL
  refine codeAny_mono (law_con w sl vs ns hI (by omega) (1 + claimMargin) 4 (some []) [] s₁ ⟨[.ref sl], []⟩ (fun b => s₁.heap.get? b) (fun v s' => v = .bool true ∧ (∀ b o, s₁.heap.get? b = some o → s'.heap.get? b = some o) ∧ s'.os = s₁.os ∧ s'.gens = s₁.gens) (fun _ _ => False) (by decide) (by decide) S (fun _ _ e => e) ⟨rfl, o, eo, co, n, d⟩ ?_) ?_
  · intro r h' tk g' X' hr
    exact ⟨hr, X'.grow, rfl, rfl⟩
  · rintro r s' z
    rcases r with e | (_ | _ | _ | _)
    · exact z.elim
    all_goals first | exact z.elim | skip
    obtain ⟨rfl, zk, zo, zg⟩ := z
    refine ⟨.inl ⟨.bool true, ofPy (.bool true), [], rfl, ?_, ?_, ?_, ?_⟩, zk, zo, zg.trans hg⟩
    · intro cls; rfl
    · exact .bool true
    · first | (with_unfolding_all rfl) | (kernel_rfl) | (simp [OpenLaw.row]; done) | fail "the post"
    · intro _; exact ⟨.nil, fun a ha => nomatch ha⟩
end Mine
end
theorem PySem.Challenge.cw_ae5011_01_holds : PySem.Challenge.rw_ae5011_01.Holds :=
  Mine.hx
