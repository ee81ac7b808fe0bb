import PyProof.Rows.All
import Wide.All
import OpenK.AllK
import Wide.FinOn
import Open.Tops
import PyProof.AutoFloatOps
import Lean
import PySem.Challenge.RW_ny0445_01
set_option Elab.async false
set_option maxRecDepth 100000
set_option maxHeartbeats 0
set_option linter.all false
namespace Mine
open Bool renaming false_ne_true → bfn, eq_iff_iff → bei
open List renaming mem_singleton → lms, mem_cons → lmc, getElem?_eq_getElem → lge, length_set → lls, size_toArray → lst, length_map → llm, length_append → lla, sublist_cons_self → lsc, mem_of_getElem? → lmo, nodup_cons → lnc, append_nil → lan, mem_map → lmm, getElem?_map → lgm, append_assoc → laa, length_take → llt, map_append → lma, mem_cons_of_mem → lom, take_length → ltl, filter_cons_of_neg → lfc, mem_append → lmp, map_cons → lmn, mem_cons_self → lcs, getElem?_drop → lgd, mem_map_of_mem → lme, mem_filter → lmf, getElem?_eq_none → lgn, mem_append_left → lml, mem_nil_iff → lmi, mem_iff_getElem → lmg, findIdx?_eq_some_iff_getElem → lfe, getD_eq_getElem?_getD → lgg
open Nat renaming le_of_ble_eq_true → nlo, le_trans → nlt, lt_of_lt_of_le → nll, le_refl → nlr, zero_le → nzl, le_add_right → nla, le_add_left → nal, lt_succ_self → nls, lt_of_le_of_lt → nol, lt_or_ge → nlg, le_of_lt → nl0
open PyProof.Rows renaming assignInOrder_cons → aac
open PySem renaming wpAny_execs_cons → wec, wpAny_bind → wb, wpAny_pure → wpp, wpAny_execs_nil → wen, wpAny_assign_Name → wan, wpAny_Assign_Name → waa, sizeLine_eq → see, wpAny_mono → wm, wpAny_truthy_bool → wtb, wpAny_isTrue_Compare1 → wic, wpAny_holding → whh, wpAny_Return_some → wrs, builtinLookup_eq_fast → bef, wpAny_allTrue_And_cons → wac, wpAny_Constant_str → wcs, wpAny_call_entry → wce, wpAny_isTrue_BoolOp → wib, isSubtype_type → itt, wpAny_newObj_type → wnt, wpAny_allTrue_Or_cons → wao, typeLookup_type → ttt, wpAny_BinOp → wbb, wpAny_dictEpoch → wd, wpAny_items_cons → wio, wpAny_Assign_two → wat, wpAny_Expr → we, plainObj_wpAny_Assign_Attribute → pwa
open PySem.Calls renaming spliced_cons → csc, spliced_nil → csn, evalArgs_plain → cep, callWith_builtin → ccb
open PySem.Heap renaming get?_push_of_some → hgp, get?_push_size → hgs, lt_size → hli
open PySem.Str renaming ofString → sO
section
open PySem PySem.W PyProof.Rows
noncomputable section
noncomputable def st (i : Nat) : Stmt := (PySem.Challenge.pw_ny0445_01.main.body[i]?).getD (.Pass default)
noncomputable def fnA : Stmt → Arguments
 | .FunctionDef _ a _ _ _ _ _ _ _ _ => a
 | _ => ⟨[], [], none, [], [], none, []⟩
noncomputable def fnB : Stmt → List Stmt
 | .FunctionDef _ _ b _ _ _ _ _ _ _ => b
 | .ClassDef _ _ _ b _ _ _ _ _ _ _ => b
 | _ => []
noncomputable def fnS : Stmt → Scope
 | .FunctionDef _ _ _ _ _ _ s _ _ _ => s
 | _ => default
noncomputable def kid (s : Stmt) (i : Nat) : Stmt := ((fnB s)[i]?).getD (.Pass default)
noncomputable def docS (s : Stmt) : Str := (docOf (fnB s)).getD Str.empty
noncomputable def fnT (n q : Str) (s : Stmt) : FuncData :=
 { name := n, qualname := q, params := fnA s, body := .stmts (fnB s), scope := fnS s, globals := 0, closure := [], defaults := .none, kwdefaults := .none }
noncomputable def fnD (n q : Str) (s : Stmt) (cl : List (Str × Addr)) (dV kV doc pm : Value) (an : Option Addr) (cd ct : Value) : FuncData :=
 { name := n, qualname := q, params := fnA s, body := .stmts (fnB s), scope := fnS s, globals := mainGlobals, closure := cl, defaults := dV, kwdefaults := kV, doc := doc, pyModule := pm, annotations := an, code := cd, closureTuple := ct, builtins := builtinsNs }
noncomputable def ent (P : Params) (x : Str) (t : Tok) (v : Value) : DictEntry := ⟨PyData.keyHash P x, .str x t, v⟩
noncomputable abbrev sv (s : String) (n : Nat) : Value := .str (sO s) n
noncomputable abbrev eA {α : Type} : Array α := List.toArray []
noncomputable abbrev tQ (l : List Value) : Obj := ⟨.type "tuple", none, .seq (List.toArray l) 0, eA⟩
noncomputable abbrev cQ (l : List Value) : Obj := ⟨.type "code", none, .fields (List.toArray l), eA⟩
noncomputable abbrev tF (n q : String) (s : Stmt) : Obj := ⟨.none, none, .func (fnT (sO n) (sO q) s), eA⟩
noncomputable abbrev fF (n q : String) (s : Stmt) (cl : List (Str × Addr)) (dV kV doc pm : Value) (an : Option Addr) (cd ct : Value) : Obj := ⟨.type "function", none, .func (fnD (sO n) (sO q) s cl dV kV doc pm an cd ct), eA⟩
noncomputable abbrev eP (P : Params) (x : String) (t : Tok) (v : Value) : DictEntry := ent P (sO x) t v
noncomputable def oT (_ : Params) : Obj := tQ []
noncomputable def oN (_ : Params) : Obj := ⟨.none, none, .fields eA, eA⟩
theorem ofStr (l : List Char) : sO (String.ofList l) = ⟨⟨l.map Char.toNat⟩⟩ := PySem.W.Fast.ofString_ofList l
noncomputable def docC : { l : List Char // docS (st 5) = ⟨⟨l.map Char.toNat⟩⟩ } := ⟨_, by
 show sO _ = _
 exact ofStr _⟩
noncomputable def d5 : Str := ⟨⟨docC.1.map Char.toNat⟩⟩
noncomputable def setDoc (s : Stmt) (d : Str) : Stmt := match s with
 | .ClassDef a b c (.Expr (.Constant (.str _) i p) q :: r) e f g h j k l => .ClassDef a b c (.Expr (.Constant (.str d) i p) q :: r) e f g h j k l
 | x => x
noncomputable def prog2 (d : Str) : Program := { PySem.Challenge.pw_ny0445_01 with main := { PySem.Challenge.pw_ny0445_01.main with body := PySem.Challenge.pw_ny0445_01.main.body.set 5 (setDoc (st 5) d) } }
theorem prog2_self : prog2 (docS (st 5)) = PySem.Challenge.pw_ny0445_01 := by kernel_rfl
theorem prog2_d5 : prog2 d5 = PySem.Challenge.pw_ny0445_01 := (congrArg prog2 docC.2).symm.trans prog2_self
noncomputable abbrev o0 := PySem.W.boot_o_0
noncomputable abbrev o1 := PySem.W.boot_o_1
noncomputable abbrev o2 := PySem.W.boot_o_2
noncomputable def o3 (P : Params) : Obj := ⟨(.type "dict"), none, .dict (List.toArray [eP P "__name__" 165 (sv "law_ny0445_01" 625), eP P "__doc__" 166 .none, eP P "__package__" 167 .none, eP P "__loader__" 168 (.builtin "__main__.__loader__#opaque"), eP P "__spec__" 169 .none, eP P "__annotations__" 170 (.ref 6), eP P "__builtins__" 171 (.ref 4), eP P "__file__" 173 (sv "/claim/cut.py" 172), eP P "__cached__" 174 .none, eP P "_wall" 193 (.ref 21), eP P "_tuplegetter" 252 (.ref 60), eP P "Match" 380 (.ref 135), eP P "_calculate_ratio" 388 (.ref 145), eP P "SequenceMatcher" 592 (.ref 242), eP P "_deduplicate" 603 (.ref 254), eP P "_deduplicate_unhashable" 612 (.ref 261), eP P "_compare_args_orderless" 624 (.ref 268), eP P "_law_thing" 633 (.ref 275), eP P "_law_kind" 640 (.ref 282), eP P "_law_rows" 651 (.ref 289), eP P "_law_firsts" 661 (.ref 296), eP P "_law_same" 667 (.ref 301), eP P "_law_kept" 673 (.ref 306), eP P "_law_codes" 688 (.ref 313), eP P "_law_right" 694 (.ref 318), eP P "law" 704 (.ref 325)]) 26, eA⟩
noncomputable abbrev o4 := PySem.W.boot_o_4
noncomputable abbrev o5 := PySem.W.boot_o_5
noncomputable abbrev o6 := PySem.W.boot_o_6
noncomputable abbrev o7 := PySem.W.boot_o_7
noncomputable abbrev o8 := PySem.W.boot_o_8
noncomputable abbrev o9 := PySem.W.boot_o_9
noncomputable abbrev o10 := PySem.W.boot_o_10
noncomputable def o12 (P : Params) : Obj := ⟨.none, none, .fields (List.toArray [(.int 1 0), (.int 0 0), (.ref 20), (.int 5 0), (.int 0 0), (.ref 27), (.int 23 0), (.int 0 0), (.ref 71), (.int 66 0), (.int 0 0), (.ref 144), (.int 70 0), (.int 0 0), (.ref 151), (.int 489 0), (.int 0 0), (.ref 253), (.int 496 0), (.int 0 0), (.ref 260), (.int 502 0), (.int 0 0), (.ref 267), (.int 513 0), (.int 0 0), (.ref 274), (.int 515 0), (.int 0 0), (.ref 281), (.int 517 0), (.int 0 0), (.ref 288), (.int 528 0), (.int 0 0), (.ref 295), (.int 535 0), (.int 0 0), (.ref 300), (.int 543 0), (.int 0 0), (.ref 305), (.int 558 0), (.int 0 0), (.ref 312), (.int 568 0), (.int 0 0), (.ref 317), (.int 599 0), (.int 0 0), (.ref 324)]), eA⟩
noncomputable def o13 (P : Params) : Obj := cQ [(sv "<module>" 182), (sv "<module>" 183), (sv "/claim/cut.py" 184), (.int 1 0), (.int 0 0), (.int 0 0), (.int 0 0), (.int 0 0), (.ref 11), (.bool false), (.int 181 0), (.ref 12), .none, .none, .none, .none, (.int 185 0), (.int 1 0), (sv "/claim/cut.py" 186)]
noncomputable def o14 (P : Params) : Obj := ⟨(.type "frame"), none, .plain, (List.toArray [some (.ref 13), some (.ref 3), some (.ref 3), none, some (sv "__main__" 164), none, some (.ref 0)])⟩
noncomputable def o17 (P : Params) : Obj := tQ [(sv "k" 190)]
noncomputable def o19 (P : Params) : Obj := tF "_wall" "_wall" (st 0)
noncomputable def o20 (P : Params) : Obj := cQ [(sv "_wall" 187), (sv "_wall" 188), (sv "/claim/cut.py" 189), (.int 1 0), (.int 1 0), (.int 0 0), (.int 0 0), (.int 3 0), (.ref 15), (.bool true), (.int 181 0), (.ref 16), .none, (.ref 17), (.ref 18), (.ref 19), (.int 191 0), (.int 1 0), (sv "/claim/cut.py" 192)]
noncomputable def o21 (P : Params) : Obj := fF "_wall" "_wall" (st 0) [] .none .none .none (sv "__main__" 164) none (.ref 20) .none
noncomputable def o23 (P : Params) : Obj := ⟨(.type "builtin_function_or_method"), none, .fields (List.toArray [(.builtin "type.__prepare__"), (.type "type")]), eA⟩
noncomputable def o24 (P : Params) : Obj := ⟨(.type "dict"), none, .dict (List.toArray [eP P "__module__" 203 (sv "cpy313.difflib" 194), eP P "__qualname__" 205 (sv "_tuplegetter" 204), eP P "__firstlineno__" 207 (.int 5 206), eP P "__init__" 216 (.ref 35), eP P "__get__" 225 (.ref 43), eP P "__set__" 234 (.ref 50), eP P "__delete__" 242 (.ref 57), eP P "__static_attributes__" 245 (.ref 58)]) 8, eA⟩
noncomputable def o26 (P : Params) : Obj := ⟨.none, none, .fields (List.toArray [(.int 7 0), (.int 4 0), (.ref 34), (.int 11 0), (.int 4 0), (.ref 42), (.int 18 0), (.int 4 0), (.ref 49), (.int 21 0), (.int 4 0), (.ref 56)]), eA⟩
noncomputable def o27 (P : Params) : Obj := cQ [(sv "_tuplegetter" 198), (sv "_tuplegetter" 199), (sv "/claim/cut.py" 200), (.int 5 0), (.int 0 0), (.int 0 0), (.int 0 0), (.int 0 0), (.ref 25), (.bool false), (.int 181 0), (.ref 26), .none, .none, .none, .none, (.int 201 0), (.int 5 0), (sv "/claim/cut.py" 202)]
noncomputable def o28 (P : Params) : Obj := ⟨(.type "frame"), none, .plain, (List.toArray [some (.ref 27), some (.ref 3), some (.ref 24), none, some (sv "cpy313.difflib" 194), none, some (.ref 0)])⟩
noncomputable def o31 (P : Params) : Obj := tQ [(sv "self" 211), (sv "index" 212), (sv "doc" 213)]
noncomputable def o33 (P : Params) : Obj := tF "__init__" "_tuplegetter.__init__" (kid (st 2) 0)
noncomputable def o34 (P : Params) : Obj := cQ [(sv "__init__" 208), (sv "_tuplegetter.__init__" 209), (sv "/claim/cut.py" 210), (.int 7 0), (.int 3 0), (.int 0 0), (.int 0 0), (.int 3 0), (.ref 29), (.bool true), (.int 181 0), (.ref 30), .none, (.ref 31), (.ref 32), (.ref 33), (.int 214 0), (.int 7 0), (sv "/claim/cut.py" 215)]
noncomputable def o35 (P : Params) : Obj := fF "__init__" "_tuplegetter.__init__" (kid (st 2) 0) [] .none .none .none (sv "cpy313.difflib" 194) none (.ref 34) .none
noncomputable def o36 (P : Params) : Obj := tQ [.none]
noncomputable def o39 (P : Params) : Obj := tQ [(sv "self" 220), (sv "obj" 221), (sv "objtype" 222)]
noncomputable def o41 (P : Params) : Obj := tF "__get__" "_tuplegetter.__get__" (kid (st 2) 1)
noncomputable def o42 (P : Params) : Obj := cQ [(sv "__get__" 217), (sv "_tuplegetter.__get__" 218), (sv "/claim/cut.py" 219), (.int 11 0), (.int 3 0), (.int 0 0), (.int 0 0), (.int 3 0), (.ref 37), (.bool true), (.int 181 0), (.ref 38), .none, (.ref 39), (.ref 40), (.ref 41), (.int 223 0), (.int 11 0), (sv "/claim/cut.py" 224)]
noncomputable def o43 (P : Params) : Obj := fF "__get__" "_tuplegetter.__get__" (kid (st 2) 1) [] (.ref 36) .none .none (sv "cpy313.difflib" 194) none (.ref 42) .none
noncomputable def o46 (P : Params) : Obj := tQ [(sv "self" 229), (sv "obj" 230), (sv "value" 231)]
noncomputable def o48 (P : Params) : Obj := tF "__set__" "_tuplegetter.__set__" (kid (st 2) 2)
noncomputable def o49 (P : Params) : Obj := cQ [(sv "__set__" 226), (sv "_tuplegetter.__set__" 227), (sv "/claim/cut.py" 228), (.int 18 0), (.int 3 0), (.int 0 0), (.int 0 0), (.int 3 0), (.ref 44), (.bool true), (.int 181 0), (.ref 45), .none, (.ref 46), (.ref 47), (.ref 48), (.int 232 0), (.int 18 0), (sv "/claim/cut.py" 233)]
noncomputable def o50 (P : Params) : Obj := fF "__set__" "_tuplegetter.__set__" (kid (st 2) 2) [] .none .none .none (sv "cpy313.difflib" 194) none (.ref 49) .none
noncomputable def o53 (P : Params) : Obj := tQ [(sv "self" 238), (sv "obj" 239)]
noncomputable def o55 (P : Params) : Obj := tF "__delete__" "_tuplegetter.__delete__" (kid (st 2) 3)
noncomputable def o56 (P : Params) : Obj := cQ [(sv "__delete__" 235), (sv "_tuplegetter.__delete__" 236), (sv "/claim/cut.py" 237), (.int 21 0), (.int 2 0), (.int 0 0), (.int 0 0), (.int 3 0), (.ref 51), (.bool true), (.int 181 0), (.ref 52), .none, (.ref 53), (.ref 54), (.ref 55), (.int 240 0), (.int 21 0), (sv "/claim/cut.py" 241)]
noncomputable def o57 (P : Params) : Obj := fF "__delete__" "_tuplegetter.__delete__" (kid (st 2) 3) [] .none .none .none (sv "cpy313.difflib" 194) none (.ref 56) .none
noncomputable def o58 (P : Params) : Obj := tQ [(sv "__doc__" 243), (sv "index" 244)]
noncomputable def o59 (P : Params) : Obj := ⟨(.type "dict"), none, .dict (List.toArray [eP P "__module__" 203 (sv "cpy313.difflib" 194), eP P "__firstlineno__" 207 (.int 5 206), eP P "__init__" 216 (.ref 35), eP P "__get__" 225 (.ref 43), eP P "__set__" 234 (.ref 50), eP P "__delete__" 242 (.ref 57), eP P "__static_attributes__" 245 (.ref 58), eP P "__dict__" 247 (.ref 61), eP P "__weakref__" 249 (.ref 62), eP P "__doc__" 250 .none]) 4, eA⟩
noncomputable def o60 (P : Params) : Obj := ⟨(.type "type"), none, .cls { name := (sO "_tuplegetter"), bases := [(.type "object")], mro := [(.ref 60), (.type "object")], ns := 59, qualname := (sO "_tuplegetter"), hasDict := true, slotNames := [], subclasses := [], abstract := false, collection := none, hasDel := false }, (List.toArray [none, none, some (sv "_tuplegetter" 196), some (sv "_tuplegetter" 204), some (.builtin "object.__new__"), some (.bool true)])⟩
noncomputable def o61 (P : Params) : Obj := ⟨(.type "getset_descriptor"), none, .fields (List.toArray [(sv "__dict__" 246), (.ref 60), (.builtin "function.__dict__"), (.builtin "function.__dict__#set")]), eA⟩
noncomputable def o62 (P : Params) : Obj := ⟨(.type "getset_descriptor"), none, .fields (List.toArray [(sv "__weakref__" 248), (.ref 60), (.builtin "ExceptionGroup.__weakref__"), .none]), eA⟩
noncomputable def o63 (P : Params) : Obj := ⟨(.type "super"), none, .fields (List.toArray [(.ref 60), (.ref 60), (.ref 60)]), eA⟩
noncomputable def o64 (P : Params) : Obj := ⟨(.type "builtin_function_or_method"), none, .fields (List.toArray [(.builtin "object.__init_subclass__"), (.ref 60)]), eA⟩
noncomputable def o65 (P : Params) : Obj := tQ [(.type "tuple")]
noncomputable def o66 (P : Params) : Obj := ⟨(.type "builtin_function_or_method"), none, .fields (List.toArray [(.builtin "type.__prepare__"), (.type "type")]), eA⟩
noncomputable def o67 (P : Params) : Obj := ⟨(.type "dict"), none, .dict (List.toArray [eP P "__module__" 260 (sv "cpy313.difflib" 194), eP P "__qualname__" 262 (sv "Match" 261), eP P "__firstlineno__" 264 (.int 23 263), eP P "__doc__" 266 (sv "Match(a, b, size)" 265), eP P "__slots__" 268 (.ref 73), eP P "_fields" 272 (.ref 74), eP P "_field_defaults" 273 (.ref 75), eP P "__new__" 284 (.ref 82), eP P "_make" 306 (.ref 91), eP P "_replace" 317 (.ref 100), eP P "__replace__" 318 (.ref 100), eP P "__repr__" 326 (.ref 107), eP P "_asdict" 333 (.ref 114), eP P "__getnewargs__" 341 (.ref 121), eP P "__match_args__" 345 (.ref 122), eP P "a" 355 (.ref 124), eP P "b" 365 (.ref 127), eP P "size" 375 (.ref 130), eP P "__static_attributes__" 376 (.ref 132), eP P "__classcell__" 377 (.ref 68)]) 20, eA⟩
noncomputable def o68 (P : Params) : Obj := ⟨(.type "cell"), none, .cell (some (.ref 135)), eA⟩
noncomputable def o70 (P : Params) : Obj := ⟨.none, none, .fields (List.toArray [(.int 29 0), (.int 4 0), (.ref 81), (.int 34 0), (.int 4 0), (.ref 88), (.int 41 0), (.int 4 0), (.ref 99), (.int 52 0), (.int 4 0), (.ref 106), (.int 56 0), (.int 4 0), (.ref 113), (.int 59 0), (.int 4 0), (.ref 120)]), eA⟩
noncomputable def o71 (P : Params) : Obj := cQ [(sv "Match" 255), (sv "Match" 256), (sv "/claim/cut.py" 257), (.int 23 0), (.int 0 0), (.int 0 0), (.int 0 0), (.int 0 0), (.ref 69), (.bool false), (.int 181 0), (.ref 70), .none, .none, .none, .none, (.int 258 0), (.int 23 0), (sv "/claim/cut.py" 259)]
noncomputable def o72 (P : Params) : Obj := ⟨(.type "frame"), none, .plain, (List.toArray [some (.ref 71), some (.ref 3), some (.ref 67), none, some (sv "cpy313.difflib" 194), none, some (.ref 0)])⟩
noncomputable def o74 (P : Params) : Obj := tQ [(sv "a" 269), (sv "b" 270), (sv "size" 271)]
noncomputable def o75 (P : Params) : Obj := ⟨(.type "dict"), none, .dict eA 0, eA⟩
noncomputable def o78 (P : Params) : Obj := tQ [(sv "_cls" 277), (sv "a" 278), (sv "b" 279), (sv "size" 280)]
noncomputable def o80 (P : Params) : Obj := tF "__new__" "Match.__new__" (kid (st 3) 4)
noncomputable def o81 (P : Params) : Obj := cQ [(sv "__new__" 274), (sv "Match.__new__" 275), (sv "/claim/cut.py" 276), (.int 29 0), (.int 4 0), (.int 0 0), (.int 0 0), (.int 3 0), (.ref 76), (.bool true), (.int 181 0), (.ref 77), .none, (.ref 78), (.ref 79), (.ref 80), (.int 281 0), (.int 29 0), (sv "/claim/cut.py" 282)]
noncomputable def o82 (P : Params) : Obj := fF "__new__" "Match.__new__" (kid (st 3) 4) [] .none .none (sv "Create new instance of Match(a, b, size)" 283) (sv "cpy313.difflib" 194) none (.ref 81) .none
noncomputable def o85 (P : Params) : Obj := tQ [(sv "cls" 288), (sv "iterable" 289), (sv "result" 290)]
noncomputable def o87 (P : Params) : Obj := tF "_make" "Match._make" (kid (st 3) 5)
noncomputable def o88 (P : Params) : Obj := cQ [(sv "_make" 285), (sv "Match._make" 286), (sv "/claim/cut.py" 287), (.int 33 0), (.int 2 0), (.int 0 0), (.int 0 0), (.int 3 0), (.ref 83), (.bool true), (.int 181 0), (.ref 84), .none, (.ref 85), (.ref 86), (.ref 87), (.int 291 0), (.int 33 0), (sv "/claim/cut.py" 292)]
noncomputable def o89 (P : Params) : Obj := fF "_make" "Match._make" (kid (st 3) 5) [] .none .none (sv "Make a new Match object from a sequence or iterable" 293) (sv "cpy313.difflib" 194) (some 92) (.ref 88) .none
noncomputable def o90 (P : Params) : Obj := ⟨(.type "dict"), none, .dict (List.toArray [eP P "__module__" 295 (sv "cpy313.difflib" 194), eP P "__name__" 298 (sv "_make" 297), eP P "__qualname__" 301 (sv "Match._make" 300), eP P "__doc__" 303 (sv "Make a new Match object from a sequence or iterable" 293), eP P "__annotations__" 305 (.ref 92)]) 5, eA⟩
noncomputable def o91 (P : Params) : Obj := ⟨(.type "classmethod"), some 90, .fields (List.toArray [(.ref 89), (.bool false)]), eA⟩
noncomputable def o92 (P : Params) : Obj := ⟨(.type "dict"), none, .dict eA 0, eA⟩
noncomputable def o93 (P : Params) : Obj := tQ [(.ref 68)]
noncomputable def o94 (P : Params) : Obj := tQ [(sv "__class__" 310)]
noncomputable def o96 (P : Params) : Obj := tQ [(sv "self" 311), (sv "kwds" 312), (sv "result" 313)]
noncomputable def o98 (P : Params) : Obj := tF "_replace" "Match._replace" (kid (st 3) 6)
noncomputable def o99 (P : Params) : Obj := cQ [(sv "_replace" 307), (sv "Match._replace" 308), (sv "/claim/cut.py" 309), (.int 41 0), (.int 1 0), (.int 1 0), (.int 0 0), (.int 11 0), (.ref 94), (.bool true), (.int 181 0), (.ref 95), .none, (.ref 96), (.ref 97), (.ref 98), (.int 314 0), (.int 41 0), (sv "/claim/cut.py" 315)]
noncomputable def o100 (P : Params) : Obj := fF "_replace" "Match._replace" (kid (st 3) 6) [((sO "__class__"), 68)] .none .none (.str (docS (kid (st 3) 6)) 316) (sv "cpy313.difflib" 194) none (.ref 99) (.ref 93)
noncomputable def o103 (P : Params) : Obj := tQ [(sv "self" 322)]
noncomputable def o105 (P : Params) : Obj := tF "__repr__" "Match.__repr__" (kid (st 3) 8)
noncomputable def o106 (P : Params) : Obj := cQ [(sv "__repr__" 319), (sv "Match.__repr__" 320), (sv "/claim/cut.py" 321), (.int 52 0), (.int 1 0), (.int 0 0), (.int 0 0), (.int 3 0), (.ref 101), (.bool true), (.int 181 0), (.ref 102), .none, (.ref 103), (.ref 104), (.ref 105), (.int 323 0), (.int 52 0), (sv "/claim/cut.py" 324)]
noncomputable def o107 (P : Params) : Obj := fF "__repr__" "Match.__repr__" (kid (st 3) 8) [] .none .none (sv "Return a nicely formatted representation string" 325) (sv "cpy313.difflib" 194) none (.ref 106) .none
noncomputable def o110 (P : Params) : Obj := tQ [(sv "self" 330)]
noncomputable def o112 (P : Params) : Obj := tF "_asdict" "Match._asdict" (kid (st 3) 9)
noncomputable def o113 (P : Params) : Obj := cQ [(sv "_asdict" 327), (sv "Match._asdict" 328), (sv "/claim/cut.py" 329), (.int 56 0), (.int 1 0), (.int 0 0), (.int 0 0), (.int 3 0), (.ref 108), (.bool true), (.int 181 0), (.ref 109), .none, (.ref 110), (.ref 111), (.ref 112), (.int 331 0), (.int 56 0), (sv "/claim/cut.py" 332)]
noncomputable def o114 (P : Params) : Obj := fF "_asdict" "Match._asdict" (kid (st 3) 9) [] .none .none .none (sv "cpy313.difflib" 194) none (.ref 113) .none
noncomputable def o117 (P : Params) : Obj := tQ [(sv "self" 337)]
noncomputable def o119 (P : Params) : Obj := tF "__getnewargs__" "Match.__getnewargs__" (kid (st 3) 10)
noncomputable def o120 (P : Params) : Obj := cQ [(sv "__getnewargs__" 334), (sv "Match.__getnewargs__" 335), (sv "/claim/cut.py" 336), (.int 59 0), (.int 1 0), (.int 0 0), (.int 0 0), (.int 3 0), (.ref 115), (.bool true), (.int 181 0), (.ref 116), .none, (.ref 117), (.ref 118), (.ref 119), (.int 338 0), (.int 59 0), (sv "/claim/cut.py" 339)]
noncomputable def o121 (P : Params) : Obj := fF "__getnewargs__" "Match.__getnewargs__" (kid (st 3) 10) [] .none .none (sv "Return self as a plain tuple.  Used by copy and pickle." 340) (sv "cpy313.difflib" 194) none (.ref 120) .none
noncomputable def o122 (P : Params) : Obj := tQ [(sv "a" 342), (sv "b" 343), (sv "size" 344)]
noncomputable def o123 (P : Params) : Obj := ⟨(.type "dict"), none, .dict (List.toArray [eP P "index" 352 (.int 0 346), eP P "__doc__" 354 (sv "Alias for field number 0" 347)]) 2, eA⟩
noncomputable def o124 (P : Params) : Obj := ⟨(.ref 60), some 123, .plain, eA⟩
noncomputable def o125 (P : Params) : Obj := ⟨(.type "frame"), none, .dict (List.toArray [eP P "self" 348 (.ref 124), eP P "index" 349 (.int 0 346), eP P "doc" 350 (sv "Alias for field number 0" 347)]) 3, eA⟩
noncomputable def o126 (P : Params) : Obj := ⟨(.type "dict"), none, .dict (List.toArray [eP P "index" 362 (.int 1 356), eP P "__doc__" 364 (sv "Alias for field number 1" 357)]) 2, eA⟩
noncomputable def o127 (P : Params) : Obj := ⟨(.ref 60), some 126, .plain, eA⟩
noncomputable def o128 (P : Params) : Obj := ⟨(.type "frame"), none, .dict (List.toArray [eP P "self" 358 (.ref 127), eP P "index" 359 (.int 1 356), eP P "doc" 360 (sv "Alias for field number 1" 357)]) 3, eA⟩
noncomputable def o129 (P : Params) : Obj := ⟨(.type "dict"), none, .dict (List.toArray [eP P "index" 372 (.int 2 366), eP P "__doc__" 374 (sv "Alias for field number 2" 367)]) 2, eA⟩
noncomputable def o130 (P : Params) : Obj := ⟨(.ref 60), some 129, .plain, eA⟩
noncomputable def o131 (P : Params) : Obj := ⟨(.type "frame"), none, .dict (List.toArray [eP P "self" 368 (.ref 130), eP P "index" 369 (.int 2 366), eP P "doc" 370 (sv "Alias for field number 2" 367)]) 3, eA⟩
noncomputable def o133 (P : Params) : Obj := ⟨(.type "list"), none, .seq eA 0, eA⟩
noncomputable def o134 (P : Params) : Obj := ⟨(.type "dict"), none, .dict (List.toArray [eP P "__module__" 260 (sv "cpy313.difflib" 194), eP P "__firstlineno__" 264 (.int 23 263), eP P "__doc__" 266 (sv "Match(a, b, size)" 265), eP P "__slots__" 268 (.ref 73), eP P "_fields" 272 (.ref 74), eP P "_field_defaults" 273 (.ref 75), eP P "__new__" 284 (.ref 136), eP P "_make" 306 (.ref 91), eP P "_replace" 317 (.ref 100), eP P "__replace__" 318 (.ref 100), eP P "__repr__" 326 (.ref 107), eP P "_asdict" 333 (.ref 114), eP P "__getnewargs__" 341 (.ref 121), eP P "__match_args__" 345 (.ref 122), eP P "a" 355 (.ref 124), eP P "b" 365 (.ref 127), eP P "size" 375 (.ref 130), eP P "__static_attributes__" 376 (.ref 132)]) 2, eA⟩
noncomputable def o135 (P : Params) : Obj := ⟨(.type "type"), none, .cls { name := (sO "Match"), bases := [(.type "tuple")], mro := [(.ref 135), (.type "tuple"), (.type "object")], ns := 134, qualname := (sO "Match"), hasDict := false, slotNames := [], subclasses := [], abstract := false, collection := none, hasDel := false }, (List.toArray [some (.ref 65), none, some (sv "Match" 253), some (sv "Match" 261), some .none, some (.bool false)])⟩
noncomputable def o136 (P : Params) : Obj := ⟨(.type "staticmethod"), none, .fields (List.toArray [(.ref 82)]), eA⟩
noncomputable def o137 (P : Params) : Obj := ⟨(.type "super"), none, .fields (List.toArray [(.ref 135), (.ref 135), (.ref 135)]), eA⟩
noncomputable def o138 (P : Params) : Obj := ⟨(.type "builtin_function_or_method"), none, .fields (List.toArray [(.builtin "object.__init_subclass__"), (.ref 135)]), eA⟩
noncomputable def o141 (P : Params) : Obj := tQ [(sv "matches" 384), (sv "length" 385)]
noncomputable def o143 (P : Params) : Obj := tF "_calculate_ratio" "_calculate_ratio" (st 4)
noncomputable def o144 (P : Params) : Obj := cQ [(sv "_calculate_ratio" 381), (sv "_calculate_ratio" 382), (sv "/claim/cut.py" 383), (.int 66 0), (.int 2 0), (.int 0 0), (.int 0 0), (.int 3 0), (.ref 139), (.bool true), (.int 181 0), (.ref 140), .none, (.ref 141), (.ref 142), (.ref 143), (.int 386 0), (.int 66 0), (sv "/claim/cut.py" 387)]
noncomputable def o145 (P : Params) : Obj := fF "_calculate_ratio" "_calculate_ratio" (st 4) [] .none .none .none (sv "cpy313.difflib" 194) none (.ref 144) .none
noncomputable def o147 (P : Params) : Obj := ⟨(.type "builtin_function_or_method"), none, .fields (List.toArray [(.builtin "type.__prepare__"), (.type "type")]), eA⟩
noncomputable def o148 (P : Params) : Obj := ⟨(.type "dict"), none, .dict (List.toArray [eP P "__module__" 396 (sv "cpy313.difflib" 194), eP P "__qualname__" 398 (sv "SequenceMatcher" 397), eP P "__firstlineno__" 400 (.int 70 399), eP P "__doc__" 402 (.str d5 401), eP P "__init__" 417 (.ref 160), eP P "set_seqs" 427 (.ref 167), eP P "set_seq1" 436 (.ref 174), eP P "set_seq2" 445 (.ref 181), eP P "_SequenceMatcher__chain_b" 463 (.ref 188), eP P "find_longest_match" 491 (.ref 196), eP P "get_matching_blocks" 518 (.ref 203), eP P "get_opcodes" 533 (.ref 210), eP P "get_grouped_opcodes" 542 (.ref 218), eP P "ratio" 551 (.ref 225), eP P "quick_ratio" 565 (.ref 232), eP P "real_quick_ratio" 575 (.ref 239), eP P "__static_attributes__" 586 (.ref 240)]) 17, eA⟩
noncomputable def o150 (P : Params) : Obj := ⟨.none, none, .fields (List.toArray [(.int 145 0), (.int 4 0), (.ref 159), (.int 173 0), (.int 4 0), (.ref 166), (.int 184 0), (.int 4 0), (.ref 173), (.int 209 0), (.int 4 0), (.ref 180), (.int 236 0), (.int 4 0), (.ref 187), (.int 260 0), (.int 4 0), (.ref 195), (.int 335 0), (.int 4 0), (.ref 202), (.int 383 0), (.int 4 0), (.ref 209), (.int 430 0), (.int 4 0), (.ref 217), (.int 433 0), (.int 4 0), (.ref 224), (.int 457 0), (.int 4 0), (.ref 231), (.int 480 0), (.int 4 0), (.ref 238)]), eA⟩
noncomputable def o151 (P : Params) : Obj := cQ [(sv "SequenceMatcher" 391), (sv "SequenceMatcher" 392), (sv "/claim/cut.py" 393), (.int 70 0), (.int 0 0), (.int 0 0), (.int 0 0), (.int 0 0), (.ref 149), (.bool false), (.int 181 0), (.ref 150), .none, .none, .none, .none, (.int 394 0), (.int 70 0), (sv "/claim/cut.py" 395)]
noncomputable def o152 (P : Params) : Obj := ⟨(.type "frame"), none, .plain, (List.toArray [some (.ref 151), some (.ref 3), some (.ref 148), none, some (sv "cpy313.difflib" 194), none, some (.ref 0)])⟩
noncomputable def o153 (P : Params) : Obj := tQ [.none, (sv "" 404), (sv "" 405), (.bool true)]
noncomputable def o156 (P : Params) : Obj := tQ [(sv "self" 409), (sv "isjunk" 410), (sv "a" 411), (sv "b" 412), (sv "autojunk" 413)]
noncomputable def o158 (P : Params) : Obj := tF "__init__" "SequenceMatcher.__init__" (kid (st 5) 1)
noncomputable def o159 (P : Params) : Obj := cQ [(sv "__init__" 406), (sv "SequenceMatcher.__init__" 407), (sv "/claim/cut.py" 408), (.int 145 0), (.int 5 0), (.int 0 0), (.int 0 0), (.int 3 0), (.ref 154), (.bool true), (.int 181 0), (.ref 155), .none, (.ref 156), (.ref 157), (.ref 158), (.int 414 0), (.int 145 0), (sv "/claim/cut.py" 415)]
noncomputable def o160 (P : Params) : Obj := fF "__init__" "SequenceMatcher.__init__" (kid (st 5) 1) [] (.ref 153) .none (.str (docS (kid (st 5) 1)) 416) (sv "cpy313.difflib" 194) none (.ref 159) .none
noncomputable def o163 (P : Params) : Obj := tQ [(sv "self" 421), (sv "a" 422), (sv "b" 423)]
noncomputable def o165 (P : Params) : Obj := tF "set_seqs" "SequenceMatcher.set_seqs" (kid (st 5) 2)
noncomputable def o166 (P : Params) : Obj := cQ [(sv "set_seqs" 418), (sv "SequenceMatcher.set_seqs" 419), (sv "/claim/cut.py" 420), (.int 173 0), (.int 3 0), (.int 0 0), (.int 0 0), (.int 3 0), (.ref 161), (.bool true), (.int 181 0), (.ref 162), .none, (.ref 163), (.ref 164), (.ref 165), (.int 424 0), (.int 173 0), (sv "/claim/cut.py" 425)]
noncomputable def o167 (P : Params) : Obj := fF "set_seqs" "SequenceMatcher.set_seqs" (kid (st 5) 2) [] .none .none (.str (docS (kid (st 5) 2)) 426) (sv "cpy313.difflib" 194) none (.ref 166) .none
noncomputable def o170 (P : Params) : Obj := tQ [(sv "self" 431), (sv "a" 432)]
noncomputable def o172 (P : Params) : Obj := tF "set_seq1" "SequenceMatcher.set_seq1" (kid (st 5) 3)
noncomputable def o173 (P : Params) : Obj := cQ [(sv "set_seq1" 428), (sv "SequenceMatcher.set_seq1" 429), (sv "/claim/cut.py" 430), (.int 184 0), (.int 2 0), (.int 0 0), (.int 0 0), (.int 3 0), (.ref 168), (.bool true), (.int 181 0), (.ref 169), .none, (.ref 170), (.ref 171), (.ref 172), (.int 433 0), (.int 184 0), (sv "/claim/cut.py" 434)]
noncomputable def o174 (P : Params) : Obj := fF "set_seq1" "SequenceMatcher.set_seq1" (kid (st 5) 3) [] .none .none (.str (docS (kid (st 5) 3)) 435) (sv "cpy313.difflib" 194) none (.ref 173) .none
noncomputable def o177 (P : Params) : Obj := tQ [(sv "self" 440), (sv "b" 441)]
noncomputable def o179 (P : Params) : Obj := tF "set_seq2" "SequenceMatcher.set_seq2" (kid (st 5) 4)
noncomputable def o180 (P : Params) : Obj := cQ [(sv "set_seq2" 437), (sv "SequenceMatcher.set_seq2" 438), (sv "/claim/cut.py" 439), (.int 209 0), (.int 2 0), (.int 0 0), (.int 0 0), (.int 3 0), (.ref 175), (.bool true), (.int 181 0), (.ref 176), .none, (.ref 177), (.ref 178), (.ref 179), (.int 442 0), (.int 209 0), (sv "/claim/cut.py" 443)]
noncomputable def o181 (P : Params) : Obj := fF "set_seq2" "SequenceMatcher.set_seq2" (kid (st 5) 4) [] .none .none (.str (docS (kid (st 5) 4)) 444) (sv "cpy313.difflib" 194) none (.ref 180) .none
noncomputable def o184 (P : Params) : Obj := tQ [(sv "self" 449), (sv "b" 450), (sv "b2j" 451), (sv "i" 452), (sv "elt" 453), (sv "indices" 454), (sv "junk" 455), (sv "isjunk" 456), (sv "popular" 457), (sv "n" 458), (sv "ntest" 459), (sv "idxs" 460)]
noncomputable def o186 (P : Params) : Obj := tF "__chain_b" "SequenceMatcher.__chain_b" (kid (st 5) 5)
noncomputable def o187 (P : Params) : Obj := cQ [(sv "__chain_b" 446), (sv "SequenceMatcher.__chain_b" 447), (sv "/claim/cut.py" 448), (.int 236 0), (.int 1 0), (.int 0 0), (.int 0 0), (.int 3 0), (.ref 182), (.bool true), (.int 181 0), (.ref 183), .none, (.ref 184), (.ref 185), (.ref 186), (.int 461 0), (.int 236 0), (sv "/claim/cut.py" 462)]
noncomputable def o188 (P : Params) : Obj := fF "__chain_b" "SequenceMatcher.__chain_b" (kid (st 5) 5) [] .none .none .none (sv "cpy313.difflib" 194) none (.ref 187) .none
noncomputable def o189 (P : Params) : Obj := tQ [(.int 0 464), .none, (.int 0 465), .none]
noncomputable def o192 (P : Params) : Obj := tQ [(sv "self" 469), (sv "alo" 470), (sv "ahi" 471), (sv "blo" 472), (sv "bhi" 473), (sv "a" 474), (sv "b" 475), (sv "b2j" 476), (sv "isbjunk" 477), (sv "besti" 478), (sv "bestj" 479), (sv "bestsize" 480), (sv "j2len" 481), (sv "nothing" 482), (sv "i" 483), (sv "j2lenget" 484), (sv "newj2len" 485), (sv "j" 486), (sv "k" 487)]
noncomputable def o194 (P : Params) : Obj := tF "find_longest_match" "SequenceMatcher.find_longest_match" (kid (st 5) 6)
noncomputable def o195 (P : Params) : Obj := cQ [(sv "find_longest_match" 466), (sv "SequenceMatcher.find_longest_match" 467), (sv "/claim/cut.py" 468), (.int 260 0), (.int 5 0), (.int 0 0), (.int 0 0), (.int 3 0), (.ref 190), (.bool true), (.int 181 0), (.ref 191), .none, (.ref 192), (.ref 193), (.ref 194), (.int 488 0), (.int 260 0), (sv "/claim/cut.py" 489)]
noncomputable def o196 (P : Params) : Obj := fF "find_longest_match" "SequenceMatcher.find_longest_match" (kid (st 5) 6) [] (.ref 189) .none (.str (docS (kid (st 5) 6)) 490) (sv "cpy313.difflib" 194) none (.ref 195) .none
noncomputable def o199 (P : Params) : Obj := tQ [(sv "self" 495), (sv "la" 496), (sv "lb" 497), (sv "queue" 498), (sv "matching_blocks" 499), (sv "alo" 500), (sv "ahi" 501), (sv "blo" 502), (sv "bhi" 503), (sv "i" 504), (sv "j" 505), (sv "k" 506), (sv "x" 507), (sv "i1" 508), (sv "j1" 509), (sv "k1" 510), (sv "non_adjacent" 511), (sv "i2" 512), (sv "j2" 513), (sv "k2" 514)]
noncomputable def o201 (P : Params) : Obj := tF "get_matching_blocks" "SequenceMatcher.get_matching_blocks" (kid (st 5) 7)
noncomputable def o202 (P : Params) : Obj := cQ [(sv "get_matching_blocks" 492), (sv "SequenceMatcher.get_matching_blocks" 493), (sv "/claim/cut.py" 494), (.int 335 0), (.int 1 0), (.int 0 0), (.int 0 0), (.int 3 0), (.ref 197), (.bool true), (.int 181 0), (.ref 198), .none, (.ref 199), (.ref 200), (.ref 201), (.int 515 0), (.int 335 0), (sv "/claim/cut.py" 516)]
noncomputable def o203 (P : Params) : Obj := fF "get_matching_blocks" "SequenceMatcher.get_matching_blocks" (kid (st 5) 7) [] .none .none (.str (docS (kid (st 5) 7)) 517) (sv "cpy313.difflib" 194) none (.ref 202) .none
noncomputable def o206 (P : Params) : Obj := tQ [(sv "self" 522), (sv "i" 523), (sv "j" 524), (sv "answer" 525), (sv "ai" 526), (sv "bj" 527), (sv "size" 528), (sv "tag" 529)]
noncomputable def o208 (P : Params) : Obj := tF "get_opcodes" "SequenceMatcher.get_opcodes" (kid (st 5) 8)
noncomputable def o209 (P : Params) : Obj := cQ [(sv "get_opcodes" 519), (sv "SequenceMatcher.get_opcodes" 520), (sv "/claim/cut.py" 521), (.int 383 0), (.int 1 0), (.int 0 0), (.int 0 0), (.int 3 0), (.ref 204), (.bool true), (.int 181 0), (.ref 205), .none, (.ref 206), (.ref 207), (.ref 208), (.int 530 0), (.int 383 0), (sv "/claim/cut.py" 531)]
noncomputable def o210 (P : Params) : Obj := fF "get_opcodes" "SequenceMatcher.get_opcodes" (kid (st 5) 8) [] .none .none (.str (docS (kid (st 5) 8)) 532) (sv "cpy313.difflib" 194) none (.ref 209) .none
noncomputable def o211 (P : Params) : Obj := tQ [(.int 3 534)]
noncomputable def o214 (P : Params) : Obj := tQ [(sv "self" 538), (sv "n" 539)]
noncomputable def o216 (P : Params) : Obj := tF "get_grouped_opcodes" "SequenceMatcher.get_grouped_opcodes" (kid (st 5) 9)
noncomputable def o217 (P : Params) : Obj := cQ [(sv "get_grouped_opcodes" 535), (sv "SequenceMatcher.get_grouped_opcodes" 536), (sv "/claim/cut.py" 537), (.int 430 0), (.int 2 0), (.int 0 0), (.int 0 0), (.int 3 0), (.ref 212), (.bool true), (.int 181 0), (.ref 213), .none, (.ref 214), (.ref 215), (.ref 216), (.int 540 0), (.int 430 0), (sv "/claim/cut.py" 541)]
noncomputable def o218 (P : Params) : Obj := fF "get_grouped_opcodes" "SequenceMatcher.get_grouped_opcodes" (kid (st 5) 9) [] (.ref 211) .none .none (sv "cpy313.difflib" 194) none (.ref 217) .none
noncomputable def o221 (P : Params) : Obj := tQ [(sv "self" 546), (sv "matches" 547)]
noncomputable def o223 (P : Params) : Obj := tF "ratio" "SequenceMatcher.ratio" (kid (st 5) 10)
noncomputable def o224 (P : Params) : Obj := cQ [(sv "ratio" 543), (sv "SequenceMatcher.ratio" 544), (sv "/claim/cut.py" 545), (.int 433 0), (.int 1 0), (.int 0 0), (.int 0 0), (.int 3 0), (.ref 219), (.bool true), (.int 181 0), (.ref 220), .none, (.ref 221), (.ref 222), (.ref 223), (.int 548 0), (.int 433 0), (sv "/claim/cut.py" 549)]
noncomputable def o225 (P : Params) : Obj := fF "ratio" "SequenceMatcher.ratio" (kid (st 5) 10) [] .none .none (.str (docS (kid (st 5) 10)) 550) (sv "cpy313.difflib" 194) none (.ref 224) .none
noncomputable def o228 (P : Params) : Obj := tQ [(sv "self" 555), (sv "fullbcount" 556), (sv "elt" 557), (sv "avail" 558), (sv "availhas" 559), (sv "matches" 560), (sv "numb" 561)]
noncomputable def o230 (P : Params) : Obj := tF "quick_ratio" "SequenceMatcher.quick_ratio" (kid (st 5) 11)
noncomputable def o231 (P : Params) : Obj := cQ [(sv "quick_ratio" 552), (sv "SequenceMatcher.quick_ratio" 553), (sv "/claim/cut.py" 554), (.int 457 0), (.int 1 0), (.int 0 0), (.int 0 0), (.int 3 0), (.ref 226), (.bool true), (.int 181 0), (.ref 227), .none, (.ref 228), (.ref 229), (.ref 230), (.int 562 0), (.int 457 0), (sv "/claim/cut.py" 563)]
noncomputable def o232 (P : Params) : Obj := fF "quick_ratio" "SequenceMatcher.quick_ratio" (kid (st 5) 11) [] .none .none (.str (docS (kid (st 5) 11)) 564) (sv "cpy313.difflib" 194) none (.ref 231) .none
noncomputable def o235 (P : Params) : Obj := tQ [(sv "self" 569), (sv "la" 570), (sv "lb" 571)]
noncomputable def o237 (P : Params) : Obj := tF "real_quick_ratio" "SequenceMatcher.real_quick_ratio" (kid (st 5) 12)
noncomputable def o238 (P : Params) : Obj := cQ [(sv "real_quick_ratio" 566), (sv "SequenceMatcher.real_quick_ratio" 567), (sv "/claim/cut.py" 568), (.int 480 0), (.int 1 0), (.int 0 0), (.int 0 0), (.int 3 0), (.ref 233), (.bool true), (.int 181 0), (.ref 234), .none, (.ref 235), (.ref 236), (.ref 237), (.int 572 0), (.int 480 0), (sv "/claim/cut.py" 573)]
noncomputable def o239 (P : Params) : Obj := fF "real_quick_ratio" "SequenceMatcher.real_quick_ratio" (kid (st 5) 12) [] .none .none (.str (docS (kid (st 5) 12)) 574) (sv "cpy313.difflib" 194) none (.ref 238) .none
noncomputable def o240 (P : Params) : Obj := tQ [(sv "a" 576), (sv "autojunk" 577), (sv "b" 578), (sv "b2j" 579), (sv "bjunk" 580), (sv "bpopular" 581), (sv "fullbcount" 582), (sv "isjunk" 583), (sv "matching_blocks" 584), (sv "opcodes" 585)]
noncomputable def o241 (P : Params) : Obj := ⟨(.type "dict"), none, .dict (List.toArray [eP P "__module__" 396 (sv "cpy313.difflib" 194), eP P "__firstlineno__" 400 (.int 70 399), eP P "__doc__" 402 (.str d5 401), eP P "__init__" 417 (.ref 160), eP P "set_seqs" 427 (.ref 167), eP P "set_seq1" 436 (.ref 174), eP P "set_seq2" 445 (.ref 181), eP P "_SequenceMatcher__chain_b" 463 (.ref 188), eP P "find_longest_match" 491 (.ref 196), eP P "get_matching_blocks" 518 (.ref 203), eP P "get_opcodes" 533 (.ref 210), eP P "get_grouped_opcodes" 542 (.ref 218), eP P "ratio" 551 (.ref 225), eP P "quick_ratio" 565 (.ref 232), eP P "real_quick_ratio" 575 (.ref 239), eP P "__static_attributes__" 586 (.ref 240), eP P "__dict__" 588 (.ref 243), eP P "__weakref__" 590 (.ref 244)]) 3, eA⟩
noncomputable def o242 (P : Params) : Obj := ⟨(.type "type"), none, .cls { name := (sO "SequenceMatcher"), bases := [(.type "object")], mro := [(.ref 242), (.type "object")], ns := 241, qualname := (sO "SequenceMatcher"), hasDict := true, slotNames := [], subclasses := [], abstract := false, collection := none, hasDel := false }, (List.toArray [none, none, some (sv "SequenceMatcher" 389), some (sv "SequenceMatcher" 397), some (.builtin "object.__new__"), some (.bool true)])⟩
noncomputable def o243 (P : Params) : Obj := ⟨(.type "getset_descriptor"), none, .fields (List.toArray [(sv "__dict__" 587), (.ref 242), (.builtin "function.__dict__"), (.builtin "function.__dict__#set")]), eA⟩
noncomputable def o244 (P : Params) : Obj := ⟨(.type "getset_descriptor"), none, .fields (List.toArray [(sv "__weakref__" 589), (.ref 242), (.builtin "ExceptionGroup.__weakref__"), .none]), eA⟩
noncomputable def o245 (P : Params) : Obj := ⟨(.type "super"), none, .fields (List.toArray [(.ref 242), (.ref 242), (.ref 242)]), eA⟩
noncomputable def o246 (P : Params) : Obj := ⟨(.type "builtin_function_or_method"), none, .fields (List.toArray [(.builtin "object.__init_subclass__"), (.ref 242)]), eA⟩
noncomputable def o247 (P : Params) : Obj := ⟨(.type "dict"), none, .dict (List.toArray [eP P "unhashable_fallback" 595 (.bool false)]) 1, eA⟩
noncomputable def o250 (P : Params) : Obj := tQ [(sv "params" 599), (sv "unhashable_fallback" 600)]
noncomputable def o252 (P : Params) : Obj := tF "_deduplicate" "_deduplicate" (st 7)
noncomputable def o253 (P : Params) : Obj := cQ [(sv "_deduplicate" 596), (sv "_deduplicate" 597), (sv "/claim/cut.py" 598), (.int 489 0), (.int 1 0), (.int 0 0), (.int 1 0), (.int 3 0), (.ref 248), (.bool true), (.int 181 0), (.ref 249), .none, (.ref 250), (.ref 251), (.ref 252), (.int 601 0), (.int 489 0), (sv "/claim/cut.py" 602)]
noncomputable def o254 (P : Params) : Obj := fF "_deduplicate" "_deduplicate" (st 7) [] .none (.ref 247) .none (sv "cpy313.typing" 593) none (.ref 253) .none
noncomputable def o257 (P : Params) : Obj := tQ [(sv "unhashable_params" 607), (sv "new_unhashable" 608), (sv "t" 609)]
noncomputable def o259 (P : Params) : Obj := tF "_deduplicate_unhashable" "_deduplicate_unhashable" (st 8)
noncomputable def o260 (P : Params) : Obj := cQ [(sv "_deduplicate_unhashable" 604), (sv "_deduplicate_unhashable" 605), (sv "/claim/cut.py" 606), (.int 496 0), (.int 1 0), (.int 0 0), (.int 0 0), (.int 3 0), (.ref 255), (.bool true), (.int 181 0), (.ref 256), .none, (.ref 257), (.ref 258), (.ref 259), (.int 610 0), (.int 496 0), (sv "/claim/cut.py" 611)]
noncomputable def o261 (P : Params) : Obj := fF "_deduplicate_unhashable" "_deduplicate_unhashable" (st 8) [] .none .none .none (sv "cpy313.typing" 593) none (.ref 260) .none
noncomputable def o264 (P : Params) : Obj := tQ [(sv "first_args" 616), (sv "second_args" 617), (sv "first_unhashable" 618), (sv "second_unhashable" 619), (sv "t" 620), (sv "elem" 621)]
noncomputable def o266 (P : Params) : Obj := tF "_compare_args_orderless" "_compare_args_orderless" (st 9)
noncomputable def o267 (P : Params) : Obj := cQ [(sv "_compare_args_orderless" 613), (sv "_compare_args_orderless" 614), (sv "/claim/cut.py" 615), (.int 502 0), (.int 2 0), (.int 0 0), (.int 0 0), (.int 3 0), (.ref 262), (.bool true), (.int 181 0), (.ref 263), .none, (.ref 264), (.ref 265), (.ref 266), (.int 622 0), (.int 502 0), (sv "/claim/cut.py" 623)]
noncomputable def o268 (P : Params) : Obj := fF "_compare_args_orderless" "_compare_args_orderless" (st 9) [] .none .none .none (sv "cpy313.typing" 593) none (.ref 267) .none
noncomputable def o271 (P : Params) : Obj := tQ [(sv "k" 630)]
noncomputable def o273 (P : Params) : Obj := tF "_law_thing" "_law_thing" (st 11)
noncomputable def o274 (P : Params) : Obj := cQ [(sv "_law_thing" 627), (sv "_law_thing" 628), (sv "/claim/cut.py" 629), (.int 513 0), (.int 1 0), (.int 0 0), (.int 0 0), (.int 3 0), (.ref 269), (.bool true), (.int 181 0), (.ref 270), .none, (.ref 271), (.ref 272), (.ref 273), (.int 631 0), (.int 513 0), (sv "/claim/cut.py" 632)]
noncomputable def o275 (P : Params) : Obj := fF "_law_thing" "_law_thing" (st 11) [] .none .none .none (sv "law_ny0445_01" 625) none (.ref 274) .none
noncomputable def o278 (P : Params) : Obj := tQ [(sv "k" 637)]
noncomputable def o280 (P : Params) : Obj := tF "_law_kind" "_law_kind" (st 12)
noncomputable def o281 (P : Params) : Obj := cQ [(sv "_law_kind" 634), (sv "_law_kind" 635), (sv "/claim/cut.py" 636), (.int 515 0), (.int 1 0), (.int 0 0), (.int 0 0), (.int 3 0), (.ref 276), (.bool true), (.int 181 0), (.ref 277), .none, (.ref 278), (.ref 279), (.ref 280), (.int 638 0), (.int 515 0), (sv "/claim/cut.py" 639)]
noncomputable def o282 (P : Params) : Obj := fF "_law_kind" "_law_kind" (st 12) [] .none .none .none (sv "law_ny0445_01" 625) none (.ref 281) .none
noncomputable def o285 (P : Params) : Obj := tQ [(sv "numbers" 644), (sv "first" 645), (sv "second" 646), (sv "number" 647), (sv "k" 648)]
noncomputable def o287 (P : Params) : Obj := tF "_law_rows" "_law_rows" (st 13)
noncomputable def o288 (P : Params) : Obj := cQ [(sv "_law_rows" 641), (sv "_law_rows" 642), (sv "/claim/cut.py" 643), (.int 517 0), (.int 1 0), (.int 0 0), (.int 0 0), (.int 3 0), (.ref 283), (.bool true), (.int 181 0), (.ref 284), .none, (.ref 285), (.ref 286), (.ref 287), (.int 649 0), (.int 517 0), (sv "/claim/cut.py" 650)]
noncomputable def o289 (P : Params) : Obj := fF "_law_rows" "_law_rows" (st 13) [] .none .none .none (sv "law_ny0445_01" 625) none (.ref 288) .none
noncomputable def o292 (P : Params) : Obj := tQ [(sv "row" 655), (sv "kinds" 656), (sv "firsts" 657), (sv "k" 658)]
noncomputable def o294 (P : Params) : Obj := tF "_law_firsts" "_law_firsts" (st 14)
noncomputable def o295 (P : Params) : Obj := cQ [(sv "_law_firsts" 652), (sv "_law_firsts" 653), (sv "/claim/cut.py" 654), (.int 528 0), (.int 1 0), (.int 0 0), (.int 0 0), (.int 3 0), (.ref 290), (.bool true), (.int 181 0), (.ref 291), .none, (.ref 292), (.ref 293), (.ref 294), (.int 659 0), (.int 528 0), (sv "/claim/cut.py" 660)]
noncomputable def o296 (P : Params) : Obj := fF "_law_firsts" "_law_firsts" (st 14) [] .none .none .none (sv "law_ny0445_01" 625) none (.ref 295) .none
noncomputable def o299 (P : Params) : Obj := tF "_law_same" "_law_same" (st 15)
noncomputable def o300 (P : Params) : Obj := cQ [(sv "_law_same" 662), (sv "_law_same" 663), (sv "/claim/cut.py" 664), (.int 535 0), (.int 2 0), (.int 0 0), (.int 0 0), (.int 3 0), (.ref 297), (.bool true), (.int 181 0), (.ref 298), .none, .none, .none, (.ref 299), (.int 665 0), (.int 535 0), (sv "/claim/cut.py" 666)]
noncomputable def o301 (P : Params) : Obj := fF "_law_same" "_law_same" (st 15) [] .none .none .none (sv "law_ny0445_01" 625) none (.ref 300) .none
noncomputable def o304 (P : Params) : Obj := tF "_law_kept" "_law_kept" (st 16)
noncomputable def o305 (P : Params) : Obj := cQ [(sv "_law_kept" 668), (sv "_law_kept" 669), (sv "/claim/cut.py" 670), (.int 543 0), (.int 2 0), (.int 0 0), (.int 0 0), (.int 3 0), (.ref 302), (.bool true), (.int 181 0), (.ref 303), .none, .none, .none, (.ref 304), (.int 671 0), (.int 543 0), (sv "/claim/cut.py" 672)]
noncomputable def o306 (P : Params) : Obj := fF "_law_kept" "_law_kept" (st 16) [] .none .none .none (sv "law_ny0445_01" 625) none (.ref 305) .none
noncomputable def o309 (P : Params) : Obj := tQ [(sv "one" 677), (sv "other" 678), (sv "codes" 679), (sv "i" 680), (sv "j" 681), (sv "p" 682), (sv "q" 683), (sv "size" 684), (sv "tag" 685)]
noncomputable def o311 (P : Params) : Obj := tF "_law_codes" "_law_codes" (st 17)
noncomputable def o312 (P : Params) : Obj := cQ [(sv "_law_codes" 674), (sv "_law_codes" 675), (sv "/claim/cut.py" 676), (.int 558 0), (.int 2 0), (.int 0 0), (.int 0 0), (.int 3 0), (.ref 307), (.bool true), (.int 181 0), (.ref 308), .none, (.ref 309), (.ref 310), (.ref 311), (.int 686 0), (.int 558 0), (sv "/claim/cut.py" 687)]
noncomputable def o313 (P : Params) : Obj := fF "_law_codes" "_law_codes" (st 17) [] .none .none .none (sv "law_ny0445_01" 625) none (.ref 312) .none
noncomputable def o316 (P : Params) : Obj := tF "_law_right" "_law_right" (st 18)
noncomputable def o317 (P : Params) : Obj := cQ [(sv "_law_right" 689), (sv "_law_right" 690), (sv "/claim/cut.py" 691), (.int 568 0), (.int 3 0), (.int 0 0), (.int 0 0), (.int 3 0), (.ref 314), (.bool true), (.int 181 0), (.ref 315), .none, .none, .none, (.ref 316), (.int 692 0), (.int 568 0), (sv "/claim/cut.py" 693)]
noncomputable def o318 (P : Params) : Obj := fF "_law_right" "_law_right" (st 18) [] .none .none .none (sv "law_ny0445_01" 625) none (.ref 317) .none
noncomputable def o321 (P : Params) : Obj := tQ [(sv "script" 698), (sv "first" 699), (sv "second" 700), (sv "matcher" 701)]
noncomputable def o323 (P : Params) : Obj := tF "law" "law" (st 19)
noncomputable def o324 (P : Params) : Obj := cQ [(sv "law" 695), (sv "law" 696), (sv "/claim/cut.py" 697), (.int 599 0), (.int 1 0), (.int 0 0), (.int 0 0), (.int 3 0), (.ref 319), (.bool true), (.int 181 0), (.ref 320), .none, (.ref 321), (.ref 322), (.ref 323), (.int 702 0), (.int 599 0), (sv "/claim/cut.py" 703)]
noncomputable def o325 (P : Params) : Obj := fF "law" "law" (st 19) [] .none .none .none (sv "law_ny0445_01" 625) none (.ref 324) .none
noncomputable def treeF (P : Params) : BT := (.node (o0 P) (.node (o1 P) (.node (o3 P) (.node (o7 P) (.node (oT P) (.node (o31 P) (.node (o63 P) (.node (o127 P) (.node (oT P) .nil .nil) .nil) (.node (oN P) (.node (oT P) .nil .nil) .nil)) (.node (oN P) (.node (o159 P) (.node (o287 P) .nil .nil) .nil) (.node (o223 P) .nil .nil))) (.node (oT P) (.node (oT P) (.node (o143 P) (.node (o271 P) .nil .nil) .nil) (.node (oT P) .nil .nil)) (.node (oT P) (.node (oT P) (.node (oN P) .nil .nil) .nil) (.node (o239 P) .nil .nil)))) (.node (o23 P) (.node (o39 P) (.node (o71 P) (.node (o135 P) (.node (oN P) .nil .nil) .nil) (.node (o199 P) .nil .nil)) (.node (o103 P) (.node (o167 P) (.node (o295 P) .nil .nil) .nil) (.node (o231 P) .nil .nil))) (.node (o55 P) (.node (o87 P) (.node (o151 P) (.node (oT P) .nil .nil) .nil) (.node (oT P) .nil .nil)) (.node (o119 P) (.node (oN P) (.node (o311 P) .nil .nil) .nil) (.node (o247 P) .nil .nil))))) (.node (oT P) (.node (o19 P) (.node (o35 P) (.node (o67 P) (.node (o131 P) (.node (o259 P) .nil .nil) .nil) (.node (o195 P) (.node (o323 P) .nil .nil) .nil)) (.node (o99 P) (.node (o163 P) (.node (oN P) .nil .nil) .nil) (.node (oN P) .nil .nil))) (.node (oT P) (.node (oT P) (.node (o147 P) (.node (o275 P) .nil .nil) .nil) (.node (o211 P) .nil .nil)) (.node (oT P) (.node (o179 P) (.node (oT P) .nil .nil) .nil) (.node (o243 P) .nil .nil)))) (.node (o27 P) (.node (o43 P) (.node (o75 P) (.node (oT P) (.node (o267 P) .nil .nil) .nil) (.node (o203 P) .nil .nil)) (.node (o107 P) (.node (oT P) (.node (o299 P) .nil .nil) .nil) (.node (o235 P) .nil .nil))) (.node (o59 P) (.node (o91 P) (.node (oN P) (.node (oT P) .nil .nil) .nil) (.node (oT P) .nil .nil)) (.node (o123 P) (.node (o187 P) (.node (oN P) .nil .nil) .nil) (.node (oT P) .nil .nil)))))) (.node (o5 P) (.node (o9 P) (.node (o17 P) (.node (o33 P) (.node (o65 P) (.node (o129 P) (.node (o257 P) .nil .nil) .nil) (.node (oT P) (.node (o321 P) .nil .nil) .nil)) (.node (oT P) (.node (oT P) (.node (o289 P) .nil .nil) .nil) (.node (o225 P) .nil .nil))) (.node (o49 P) (.node (o81 P) (.node (o145 P) (.node (o273 P) .nil .nil) .nil) (.node (o209 P) .nil .nil)) (.node (o113 P) (.node (o177 P) (.node (o305 P) .nil .nil) .nil) (.node (o241 P) .nil .nil)))) (.node (oT P) (.node (o41 P) (.node (oT P) (.node (o137 P) (.node (oT P) .nil .nil) .nil) (.node (o201 P) .nil .nil)) (.node (o105 P) (.node (oN P) (.node (oT P) .nil .nil) .nil) (.node (oT P) .nil .nil))) (.node (o57 P) (.node (o89 P) (.node (o153 P) (.node (o281 P) .nil .nil) .nil) (.node (o217 P) .nil .nil)) (.node (o121 P) (.node (oT P) (.node (o313 P) .nil .nil) .nil) (.node (oN P) .nil .nil))))) (.node (o13 P) (.node (o21 P) (.node (oT P) (.node (oT P) (.node (o133 P) (.node (o261 P) .nil .nil) .nil) (.node (oT P) (.node (o325 P) .nil .nil) .nil)) (.node (oT P) (.node (o165 P) (.node (oT P) .nil .nil) .nil) (.node (oT P) .nil .nil))) (.node (o53 P) (.node (o85 P) (.node (oT P) (.node (oN P) .nil .nil) .nil) (.node (oN P) .nil .nil)) (.node (o117 P) (.node (o181 P) (.node (o309 P) .nil .nil) .nil) (.node (o245 P) .nil .nil)))) (.node (oT P) (.node (oN P) (.node (oN P) (.node (o141 P) (.node (oT P) .nil .nil) .nil) (.node (oN P) .nil .nil)) (.node (oN P) (.node (o173 P) (.node (o301 P) .nil .nil) .nil) (.node (o237 P) .nil .nil))) (.node (o61 P) (.node (o93 P) (.node (oT P) (.node (o285 P) .nil .nil) .nil) (.node (o221 P) .nil .nil)) (.node (o125 P) (.node (o189 P) (.node (o317 P) .nil .nil) .nil) (.node (o253 P) .nil .nil))))))) (.node (o2 P) (.node (o4 P) (.node (o8 P) (.node (oN P) (.node (oT P) (.node (o64 P) (.node (o128 P) (.node (oN P) .nil .nil) .nil) (.node (o192 P) (.node (oN P) .nil .nil) .nil)) (.node (o96 P) (.node (o160 P) (.node (o288 P) .nil .nil) .nil) (.node (o224 P) .nil .nil))) (.node (o48 P) (.node (o80 P) (.node (o144 P) (.node (oT P) .nil .nil) .nil) (.node (o208 P) .nil .nil)) (.node (o112 P) (.node (oN P) (.node (o304 P) .nil .nil) .nil) (.node (o240 P) .nil .nil)))) (.node (o24 P) (.node (oT P) (.node (o72 P) (.node (o136 P) (.node (o264 P) .nil .nil) .nil) (.node (oT P) .nil .nil)) (.node (oT P) (.node (oT P) (.node (o296 P) .nil .nil) .nil) (.node (o232 P) .nil .nil))) (.node (o56 P) (.node (o88 P) (.node (o152 P) (.node (o280 P) .nil .nil) .nil) (.node (o216 P) .nil .nil)) (.node (o120 P) (.node (o184 P) (.node (o312 P) .nil .nil) .nil) (.node (oT P) .nil .nil))))) (.node (o12 P) (.node (o20 P) (.node (o36 P) (.node (o68 P) (.node (oT P) (.node (o260 P) .nil .nil) .nil) (.node (o196 P) (.node (o324 P) .nil .nil) .nil)) (.node (o100 P) (.node (oT P) (.node (o292 P) .nil .nil) .nil) (.node (o228 P) .nil .nil))) (.node (oN P) (.node (oN P) (.node (o148 P) (.node (oT P) .nil .nil) .nil) (.node (oT P) .nil .nil)) (.node (oN P) (.node (o180 P) (.node (oN P) .nil .nil) .nil) (.node (o244 P) .nil .nil)))) (.node (o28 P) (.node (oT P) (.node (oT P) (.node (oN P) (.node (o268 P) .nil .nil) .nil) (.node (oT P) .nil .nil)) (.node (oT P) (.node (o172 P) (.node (o300 P) .nil .nil) .nil) (.node (oT P) .nil .nil))) (.node (o60 P) (.node (o92 P) (.node (o156 P) (.node (oN P) .nil .nil) .nil) (.node (oN P) .nil .nil)) (.node (o124 P) (.node (o188 P) (.node (o316 P) .nil .nil) .nil) (.node (o252 P) .nil .nil)))))) (.node (o6 P) (.node (o10 P) (.node (oT P) (.node (o34 P) (.node (o66 P) (.node (o130 P) (.node (oT P) .nil .nil) .nil) (.node (o194 P) (.node (oT P) .nil .nil) .nil)) (.node (o98 P) (.node (oN P) (.node (oT P) .nil .nil) .nil) (.node (oT P) .nil .nil))) (.node (o50 P) (.node (o82 P) (.node (oT P) (.node (o274 P) .nil .nil) .nil) (.node (o210 P) .nil .nil)) (.node (o114 P) (.node (oT P) (.node (o306 P) .nil .nil) .nil) (.node (o242 P) .nil .nil)))) (.node (o26 P) (.node (o42 P) (.node (o74 P) (.node (o138 P) (.node (o266 P) .nil .nil) .nil) (.node (o202 P) .nil .nil)) (.node (o106 P) (.node (o170 P) (.node (oN P) .nil .nil) .nil) (.node (oN P) .nil .nil))) (.node (o58 P) (.node (o90 P) (.node (oT P) (.node (o282 P) .nil .nil) .nil) (.node (o218 P) .nil .nil)) (.node (o122 P) (.node (o186 P) (.node (oT P) .nil .nil) .nil) (.node (o250 P) .nil .nil))))) (.node (o14 P) (.node (oT P) (.node (oN P) (.node (o70 P) (.node (o134 P) (.node (oT P) .nil .nil) .nil) (.node (oN P) .nil .nil)) (.node (oN P) (.node (o166 P) (.node (o294 P) .nil .nil) .nil) (.node (o230 P) .nil .nil))) (.node (oT P) (.node (oT P) (.node (o150 P) (.node (o278 P) .nil .nil) .nil) (.node (o214 P) .nil .nil)) (.node (oT P) (.node (oT P) (.node (oT P) .nil .nil) .nil) (.node (o246 P) .nil .nil)))) (.node (oN P) (.node (o46 P) (.node (o78 P) (.node (oT P) (.node (oN P) .nil .nil) .nil) (.node (o206 P) .nil .nil)) (.node (o110 P) (.node (o174 P) (.node (oT P) .nil .nil) .nil) (.node (o238 P) .nil .nil))) (.node (o62 P) (.node (o94 P) (.node (o158 P) (.node (oT P) .nil .nil) .nil) (.node (oT P) .nil .nil)) (.node (o126 P) (.node (oT P) (.node (o318 P) .nil .nil) .nil) (.node (o254 P) .nil .nil))))))))
noncomputable def tree0 (P : Params) : BT := (.node (o0 P) (.node (o1 P) (.node (PySem.W.boot_o_3 P) (.node (o7 P) .nil .nil) .nil) (.node (o5 P) (.node (o9 P) .nil .nil) .nil)) (.node (o2 P) (.node (o4 P) (.node (o8 P) .nil .nil) .nil) (.node (o6 P) (.node (o10 P) .nil .nil) .nil)))
noncomputable def life0 (P : Params) : Life := (boot_heap P).life
noncomputable abbrev AnyT := Array Nat → (Nat → Bool) → Nat → Nat → Bool
noncomputable def anyQ (as : Array Nat) (p : Nat → Bool) (start stop : Nat) : Bool :=
 match Nat.beq start 0 && Nat.beq stop as.toList.length with
 | true => PySem.W.R.anyR as.toList p
 | false => Array.any as p start stop
theorem anyQ_eq : (@Array.any.{0} Nat : AnyT) = anyQ := by
 funext as p start stop
 unfold anyQ
 split
 ·rename_i h
  obtain ⟨h1, h2⟩ := Bool.and_eq_true_iff.mp h
  have h1 := Nat.eq_of_beq_eq_true h1
  have h2 := Nat.eq_of_beq_eq_true h2
  subst h1 h2
  rw [← PySem.W.R.anyR_eq]
  exact (Array.any_toList).symm
 ·rfl
noncomputable def tnewF : AnyT → Builtin := by
 refine (?k : PySem.W.Fast.tw4202317264376624991 = (?F : AnyT → Builtin) (@Array.any.{0} Nat) → (AnyT → Builtin)) ?h
 case h =>
  delta PySem.W.Fast.tw4202317264376624991
  generalize @Array.any.{0} Nat = g
  exact rfl
 case k => exact fun _ => ?F
theorem tnew_eq : PySem.W.Fast.tw4202317264376624991 = tnewF (@Array.any.{0} Nat) := by kernel_rfl
theorem tnewQ : Builtin.«type.__new__» = tnewF anyQ := PySem.W.Fast.te4202317264376624991.trans (tnew_eq.trans (congrArg tnewF anyQ_eq))
noncomputable def isTN (id : String) : Bool := PySem.W.S.eqLit 29827186395103491166823348853 id
theorem isTN_eq (id : String) : isTN id = (id == "type.__new__") := (congrFun (PySem.W.S.eqLit_eq "type.__new__" 29827186395103491166823348853 (by kernel_rfl)) id).symm
noncomputable def tabQ (id : String) : Option Builtin := @Bool.rec (fun _ => Option Builtin) (PySem.W.Fast.tw14364793385576792824 id) (some (tnewF anyQ)) (isTN id)
theorem tab_new : treeTable "type.__new__" = some Builtin.«type.__new__» := by kernel_rfl
theorem tabQ_eq : treeTable = tabQ := by
 funext id
 unfold tabQ
 cases h : isTN id with
 | false => show treeTable id = PySem.W.Fast.tw14364793385576792824 id; rw [← PySem.W.Fast.te14364793385576792824]
 | true =>
  rw [isTN_eq, beq_iff_eq] at h
  subst h
  show treeTable "type.__new__" = some (tnewF anyQ)
  rw [tab_new]
  exact congrArg some tnewQ
end
noncomputable section
noncomputable abbrev twStepOk := PySem.W.Fast.tw6613529449190102663
noncomputable abbrev twStepT := PySem.W.Fast.tw10156331382660048174
noncomputable abbrev twDenote := PySem.W.Fast.tw11892475500146522536
noncomputable def topRunQ (p : Program) (w : World) (n₀ : Nat) (ann : Option Value) : Nat → SharedT → Thread → Option SharedT
 | 0, _, _ => none
 | n + 1, s, t => match through t with
  | true => some s
  | false => match twStepOk n₀ ann t with
   | false => none
   | true => match twStepT (twDenote tabQ) p w s t with
    | some (s', t') => topRunQ p w n₀ ann n s' t'
    | none => none
theorem topRunQ_of {p : Program} {w : World} {n₀ : Nat} {ann : Option Value} : ∀ {n : Nat} {s s' : SharedT} {t : Thread}, topRunQ p w n₀ ann n s t = some s' → topRun treeTable p w n₀ ann n s.abs t = some s'.abs
 | 0, _, _, _, h => by cases h
 | n + 1, s, s', t, h => by
  unfold topRunQ at h
  unfold topRun
  cases ht : through t with
  | true => rw [ht] at h; cases h; rfl
  | false =>
   rw [ht] at h
   have e1 : twStepOk n₀ ann t = stepOk n₀ ann t := congrFun (congrFun (congrFun PySem.W.Fast.te6613529449190102663.symm n₀) ann) t
   have e2 : twStepT (twDenote tabQ) p w s t = stepT (denote treeTable) p w s t := by
    show PySem.W.Fast.tw10156331382660048174 (PySem.W.Fast.tw11892475500146522536 tabQ) p w s t = _
    rw [← PySem.W.Fast.te10156331382660048174, ← PySem.W.Fast.te11892475500146522536, ← tabQ_eq]
   rw [e1, e2] at h
   cases hk : stepOk n₀ ann t with
   | false => rw [hk] at h; cases h
   | true =>
    rw [hk] at h
    cases hs : stepT (denote treeTable) p w s t with
    | none => rw [hs] at h; cases h
    | some r => obtain ⟨s₂, t₂⟩ := r; rw [hs] at h; rw [stepT_spec hs]; exact topRunQ_of h
noncomputable def S0T (w : World) (os : OsState) : SharedT := ⟨tree0 w.params, 11, life0 w.params, ⟨[]⟩, boot_drawn, boot_toks, os⟩
noncomputable def SfT (w : World) (os : OsState) : SharedT := ⟨treeF w.params, 326, life0 w.params, ⟨[]⟩, boot_drawn, 705, os⟩
theorem s0_abs (w : World) (os : OsState) : (S0T w os).abs = ⟨boot_heap w.params, ⟨[]⟩, boot_drawn, boot_toks, os⟩ := by kernel_rfl
end
noncomputable section
theorem runQ (w : World) (os : OsState) : topRunQ (prog2 d5) w 11 (some (.ref 6)) 2600 (S0T w os) (topStub (prog2 d5)) = some (SfT w os) := by kernel_rfl
end
noncomputable section
noncomputable abbrev pw := PySem.Challenge.pw_ny0445_01
noncomputable def heapF (P : Params) : Heap := ⟨⟨[o0 P, o1 P, o2 P, o3 P, o4 P, o5 P, o6 P, o7 P, o8 P, o9 P, o10 P, oT P, o12 P, o13 P, o14 P, oT P, oN P, o17 P, oT P, o19 P, o20 P, o21 P, oT P, o23 P, o24 P, oT P, o26 P, o27 P, o28 P, oT P, oN P, o31 P, oT P, o33 P, o34 P, o35 P, o36 P, oT P, oN P, o39 P, oT P, o41 P, o42 P, o43 P, oT P, oN P, o46 P, oT P, o48 P, o49 P, o50 P, oT P, oN P, o53 P, oT P, o55 P, o56 P, o57 P, o58 P, o59 P, o60 P, o61 P, o62 P, o63 P, o64 P, o65 P, o66 P, o67 P, o68 P, oT P, o70 P, o71 P, o72 P, oT P, o74 P, o75 P, oT P, oN P, o78 P, oT P, o80 P, o81 P, o82 P, oT P, oN P, o85 P, oT P, o87 P, o88 P, o89 P, o90 P, o91 P, o92 P, o93 P, o94 P, oN P, o96 P, oT P, o98 P, o99 P, o100 P, oT P, oN P, o103 P, oT P, o105 P, o106 P, o107 P, oT P, oN P, o110 P, oT P, o112 P, o113 P, o114 P, oT P, oN P, o117 P, oT P, o119 P, o120 P, o121 P, o122 P, o123 P, o124 P, o125 P, o126 P, o127 P, o128 P, o129 P, o130 P, o131 P, oT P, o133 P, o134 P, o135 P, o136 P, o137 P, o138 P, oT P, oN P, o141 P, oT P, o143 P, o144 P, o145 P, oT P, o147 P, o148 P, oT P, o150 P, o151 P, o152 P, o153 P, oT P, oN P, o156 P, oT P, o158 P, o159 P, o160 P, oT P, oN P, o163 P, oT P, o165 P, o166 P, o167 P, oT P, oN P, o170 P, oT P, o172 P, o173 P, o174 P, oT P, oN P, o177 P, oT P, o179 P, o180 P, o181 P, oT P, oN P, o184 P, oT P, o186 P, o187 P, o188 P, o189 P, oT P, oN P, o192 P, oT P, o194 P, o195 P, o196 P, oT P, oN P, o199 P, oT P, o201 P, o202 P, o203 P, oT P, oN P, o206 P, oT P, o208 P, o209 P, o210 P, o211 P, oT P, oN P, o214 P, oT P, o216 P, o217 P, o218 P, oT P, oN P, o221 P, oT P, o223 P, o224 P, o225 P, oT P, oN P, o228 P, oT P, o230 P, o231 P, o232 P, oT P, oN P, o235 P, oT P, o237 P, o238 P, o239 P, o240 P, o241 P, o242 P, o243 P, o244 P, o245 P, o246 P, o247 P, oT P, oN P, o250 P, oT P, o252 P, o253 P, o254 P, oT P, oN P, o257 P, oT P, o259 P, o260 P, o261 P, oT P, oN P, o264 P, oT P, o266 P, o267 P, o268 P, oT P, oN P, o271 P, oT P, o273 P, o274 P, o275 P, oT P, oN P, o278 P, oT P, o280 P, o281 P, o282 P, oT P, oN P, o285 P, oT P, o287 P, o288 P, o289 P, oT P, oN P, o292 P, oT P, o294 P, o295 P, o296 P, oT P, oN P, o299 P, o300 P, o301 P, oT P, oN P, o304 P, o305 P, o306 P, oT P, oN P, o309 P, oT P, o311 P, o312 P, o313 P, oT P, oN P, o316 P, o317 P, o318 P, oT P, oN P, o321 P, oT P, o323 P, o324 P, o325 P]⟩, life0 P⟩
theorem heapF_eq (P : Params) : absHeap (treeF P) 326 (life0 P) = heapF P := by kernel_rfl
theorem run (w : World) (os : OsState) : topRun treeTable pw w 11 (some (.ref 6)) 2600 ⟨boot_heap w.params, ⟨[]⟩, boot_drawn, boot_toks, os⟩ (topStub pw) = some ⟨heapF w.params, ⟨[]⟩, boot_drawn, 705, os⟩ := by
 have h := topRunQ_of (runQ w os)
 rw [s0_abs] at h
 rw [prog2_d5] at h
 exact h.trans (congrArg (fun x => some (⟨x, ⟨[]⟩, boot_drawn, 705, os⟩ : Shared)) (heapF_eq w.params))
theorem open_ : ∀ w : World, (fencedOpening treeTable pw w 5108).map (fun s => (s.heap, s.gens, s.drawn, s.toks)) = some (boot_heap w.params, ⟨[]⟩, boot_drawn, boot_toks) :=
 boot_open (by kernel_rfl) (by kernel_rfl) (fun s => by kernel_rfl)
theorem size_ (w : World) : ((boot_heap w.params).isNs mainGlobals && (⟨[]⟩ : Array GenState).size == 0, (boot_heap w.params).objs.size, (boot_heap w.params).nsMap mainGlobals "__annotations__") = (true, 11, some (.ref 6)) := by kernel_rfl
noncomputable def qv : Program := view pw [0, 1, 4, 6, 8, 9, 10, 11, 12, 13, 14, 15, 16, 17, 18, 19]
noncomputable def loose : List Str := [sO "_tuplegetter", sO "Match", sO "SequenceMatcher", sO "_deduplicate"]
noncomputable def KF (P : Params) : Frag := [(2, PySem.W.boot_o_2 P), (3, o3 P), (4, o4 P), (11, oT P), (13, o13 P), (14, o14 P), (15, oT P), (17, o17 P), (18, oT P), (20, o20 P), (21, o21 P), (22, oT P), (23, o23 P), (24, o24 P), (25, oT P), (27, o27 P), (28, o28 P), (29, oT P), (31, o31 P), (32, oT P), (34, o34 P), (35, o35 P), (36, o36 P), (37, oT P), (39, o39 P), (40, oT P), (42, o42 P), (43, o43 P), (44, oT P), (46, o46 P), (47, oT P), (49, o49 P), (50, o50 P), (51, oT P), (53, o53 P), (54, oT P), (56, o56 P), (57, o57 P), (58, o58 P), (59, o59 P), (60, o60 P), (61, o61 P), (62, o62 P), (63, o63 P), (64, o64 P), (65, o65 P), (66, o66 P), (67, o67 P), (68, o68 P), (69, oT P), (71, o71 P), (72, o72 P), (73, oT P), (74, o74 P), (75, o75 P), (76, oT P), (78, o78 P), (79, oT P), (81, o81 P), (82, o82 P), (83, oT P), (85, o85 P), (86, oT P), (88, o88 P), (89, o89 P), (90, o90 P), (91, o91 P), (92, o92 P), (93, o93 P), (94, o94 P), (96, o96 P), (97, oT P), (99, o99 P), (100, o100 P), (101, oT P), (103, o103 P), (104, oT P), (106, o106 P), (107, o107 P), (108, oT P), (110, o110 P), (111, oT P), (113, o113 P), (114, o114 P), (115, oT P), (117, o117 P), (118, oT P), (120, o120 P), (121, o121 P), (122, o122 P), (123, o123 P), (124, o124 P), (125, o125 P), (126, o126 P), (127, o127 P), (128, o128 P), (129, o129 P), (130, o130 P), (131, o131 P), (132, oT P), (133, o133 P), (134, o134 P), (135, o135 P), (136, o136 P), (137, o137 P), (138, o138 P), (139, oT P), (141, o141 P), (142, oT P), (144, o144 P), (145, o145 P), (146, oT P), (147, o147 P), (148, o148 P), (149, oT P), (151, o151 P), (152, o152 P), (153, o153 P), (154, oT P), (156, o156 P), (157, oT P), (159, o159 P), (160, o160 P), (161, oT P), (163, o163 P), (164, oT P), (166, o166 P), (167, o167 P), (168, oT P), (170, o170 P), (171, oT P), (173, o173 P), (174, o174 P), (175, oT P), (177, o177 P), (178, oT P), (180, o180 P), (181, o181 P), (182, oT P), (184, o184 P), (185, oT P), (187, o187 P), (188, o188 P), (189, o189 P), (190, oT P), (192, o192 P), (193, oT P), (195, o195 P), (196, o196 P), (197, oT P), (199, o199 P), (200, oT P), (202, o202 P), (203, o203 P), (204, oT P), (206, o206 P), (207, oT P), (209, o209 P), (210, o210 P), (211, o211 P), (212, oT P), (214, o214 P), (215, oT P), (217, o217 P), (218, o218 P), (219, oT P), (221, o221 P), (222, oT P), (224, o224 P), (225, o225 P), (226, oT P), (228, o228 P), (229, oT P), (231, o231 P), (232, o232 P), (233, oT P), (235, o235 P), (236, oT P), (238, o238 P), (239, o239 P), (240, o240 P), (241, o241 P), (242, o242 P), (243, o243 P), (244, o244 P), (245, o245 P), (246, o246 P), (247, o247 P), (248, oT P), (250, o250 P), (251, oT P), (253, o253 P), (254, o254 P), (255, oT P), (257, o257 P), (258, oT P), (260, o260 P), (261, o261 P), (262, oT P), (264, o264 P), (265, oT P), (267, o267 P), (268, o268 P), (269, oT P), (271, o271 P), (272, oT P), (274, o274 P), (275, o275 P), (276, oT P), (278, o278 P), (279, oT P), (281, o281 P), (282, o282 P), (283, oT P), (285, o285 P), (286, oT P), (288, o288 P), (289, o289 P), (290, oT P), (292, o292 P), (293, oT P), (295, o295 P), (296, o296 P), (297, oT P), (300, o300 P), (301, o301 P), (302, oT P), (305, o305 P), (306, o306 P), (307, oT P), (309, o309 P), (310, oT P), (312, o312 P), (313, o313 P), (314, oT P), (317, o317 P), (318, o318 P), (319, oT P), (321, o321 P), (322, oT P), (324, o324 P), (325, o325 P)]
noncomputable def asF : List Addr := [2, 3, 4, 11, 13, 14, 15, 17, 18, 20, 21, 22, 23, 24, 25, 27, 28, 29, 31, 32, 34, 35, 36, 37, 39, 40, 42, 43, 44, 46, 47, 49, 50, 51, 53, 54, 56, 57, 58, 59, 60, 61, 62, 63, 64, 65, 66, 67, 68, 69, 71, 72, 73, 74, 75, 76, 78, 79, 81, 82, 83, 85, 86, 88, 89, 90, 91, 92, 93, 94, 96, 97, 99, 100, 101, 103, 104, 106, 107, 108, 110, 111, 113, 114, 115, 117, 118, 120, 121, 122, 123, 124, 125, 126, 127, 128, 129, 130, 131, 132, 133, 134, 135, 136, 137, 138, 139, 141, 142, 144, 145, 146, 147, 148, 149, 151, 152, 153, 154, 156, 157, 159, 160, 161, 163, 164, 166, 167, 168, 170, 171, 173, 174, 175, 177, 178, 180, 181, 182, 184, 185, 187, 188, 189, 190, 192, 193, 195, 196, 197, 199, 200, 202, 203, 204, 206, 207, 209, 210, 211, 212, 214, 215, 217, 218, 219, 221, 222, 224, 225, 226, 228, 229, 231, 232, 233, 235, 236, 238, 239, 240, 241, 242, 243, 244, 245, 246, 247, 248, 250, 251, 253, 254, 255, 257, 258, 260, 261, 262, 264, 265, 267, 268, 269, 271, 272, 274, 275, 276, 278, 279, 281, 282, 283, 285, 286, 288, 289, 290, 292, 293, 295, 296, 297, 300, 301, 302, 305, 306, 307, 309, 310, 312, 313, 314, 317, 318, 319, 321, 322, 324, 325]
theorem asF_eq (P : Params) : asF = (KF P).map (·.1) := by kernel_rfl
noncomputable def KG (P : Params) : Frag := (220, oN P) :: KF P
noncomputable def HK : Hook := kHook KG (220 :: asF) (fun P => congrArg (List.cons 220) (asF_eq P))
noncomputable def XtF (s : Shared) : Bool := xlAt qv [] s && recOk [] s
noncomputable def sF (w : World) (os : OsState) : Shared := ⟨heapF w.params, ⟨[]⟩, boot_drawn, 705, os⟩
theorem l1 (w : World) (os : OsState) : (staticsOk (importedModules pw.main.body) (boot_heap w.params) (heapF w.params) && namesBound pw (heapF w.params) && gensDone (sF w os) && laidKept (boot_heap w.params) (heapF w.params)) = true := by kernel_rfl
theorem l2 (w : World) (os : OsState) : HK.obs (sF w os) = HK.val w := by kernel_rfl
end
noncomputable section
theorem l3 (w : World) (os : OsState) : PySem.W.Fast.tw4187177175401517315 qv loose (importedModules pw.main.body) XtF true (sF w os) = openGood qv loose := by kernel_rfl
end
noncomputable section
theorem left : LeftO pw qv loose XtF HK.obs HK.val 5108 :=
 LeftO.of_pieces (H₀ := boot_heap) (H₁ := heapF) (gs₀ := ⟨[]⟩) (gs₁ := ⟨[]⟩) (d₀ := boot_drawn) (d₁ := boot_drawn) (k₀ := boot_toks) (k₁ := 705) (m₀ := 11) (ann := some (.ref 6)) (M := 2600)
  open_ size_ run (by kernel_rfl) fun w => funext fun os => by
   refine looks_pair (l1 w os) (looks_pair ?_ (l2 w os))
   rw [PySem.W.Fast.te4187177175401517315]
   exact l3 w os
noncomputable def fnP : Stmt → Pos
 | .FunctionDef _ _ _ _ _ _ _ _ _ p => p
 | _ => default
noncomputable def dLaw : DefRec := ⟨sO "law", fnA (st 19), fnB (st 19), fnS (st 19), fnP (st 19)⟩
abbrev rowL : OpenRow := OpenLaw.row PySem.Challenge.rw_ny0445_01
abbrev WalkL : Prop := WalkO qv loose (XL qv []) HK.says rowL.toRowW dLaw [] fun f vs => PySem.call f vs
theorem prog_eq : rowL.toRowW.prog = pw := by
 delta rowL OpenLaw.row PySem.Challenge.rw_ny0445_01
 dsimp only
theorem ro1 : readsOut pw pw.main.body ("vars" : Str) = false := by kernel_rfl
theorem ro2 : readsOut pw pw.main.body ("dir" : Str) = false := by kernel_rfl
theorem ro3 : readsOut pw pw.main.body ("locals" : Str) = false := by kernel_rfl
theorem lk1 : sreFenced pw.main = true := by kernel_rfl
theorem lk2 : ((moduleNames pw.main.body).isEmpty || lookedIntoSs (moduleNames pw.main.body) pw.main.body) = true := by kernel_rfl
theorem lk3 : namesResolve pw = true := by kernel_rfl
theorem lk4 : pw.boundNames.all (fun n => !worldNames.contains n) = true := by kernel_rfl
theorem lk5 : noRoadLSs { strict := !(importedModules pw.main.body).all cThrough.contains, foot := none, bare := [] } pw.main.body = true := by kernel_rfl
theorem lk6 : (namesMeet pw pw.main.body fun _ n => attrL n) = true := by kernel_rfl
theorem looks : looksOpen pw = true := by
 unfold looksOpen
 rw [show List.filter (readsOut pw pw.main.body) [("vars" : Str), ("dir" : Str), ("locals" : Str)] = [] by rw [lfc (by rw [ro1]; nofun), lfc (by rw [ro2]; nofun), lfc (by rw [ro3]; nofun), List.filter_nil]]
 exact look_both (look_both (look_both (look_both (look_both lk1 lk2) lk3) lk4) lk5) lk6
abbrev lw : OpenLaw := PySem.Challenge.rw_ny0445_01
theorem sd1 : lw.row.wellSaid = true := by
 unfold OpenRow.wellSaid OpenRow.partSaid
 rw [show looksOpen lw.row.toRowW.prog = true from (congrArg looksOpen prog_eq).trans looks]
 kernel_rfl
theorem sd2 : lw.footing.all footLine = true := by kernel_rfl
theorem sd3 : noClassBlock lw.prog lw.footing = true := by kernel_rfl
theorem sd4 : noRoadLSs { strict := true, foot := some lw.bound', writes := lw.writes, may := lw.may } lw.footing = true := by kernel_rfl
theorem sd5 : lw.namesIt = true := by kernel_rfl
theorem sd6 : lw.bound'.all (fun n => !builtinNamed n || lw.about == [n] || !lw.reads n) = true := by kernel_rfl
theorem sd7 : namesMeet lw.prog lw.footing (fun sc n => (!(["type", "isinstance", "issubclass", "getattr", "hasattr"] : List Str).contains n || sc.names.lookup n == some .globalImplicit) &&
  (lw.may != some n || sc.kind == .module || sc.names.lookup n == some .globalImplicit)) = true := by kernel_rfl
theorem sd8 : lw.own.all (fun n => !builtinNamed n) = true := by kernel_rfl
theorem sd9 : namesMeet lw.prog lw.above (fun _ n => !lw.own.contains n) = true := by kernel_rfl
theorem sd10 : (namesMeet lw.prog lw.footing fun sc n => sc.kind == .module || sc.names.lookup n != some .globalExplicit) = true := by kernel_rfl
theorem said : lw.wellSaid = true := by
 unfold OpenLaw.wellSaid
 refine look_both (look_both (look_both (look_both (look_both (look_both ?_ sd7) ?_) ?_) sd8) sd9) sd10
 ·refine look_both (look_both (look_both ?_ sd6) ?_) ?_
  ·refine look_both (look_both (look_both (look_both (look_both (look_both (look_both (look_both (look_both sd1 ?_) sd2) sd3) ?_) ?_) sd4) ?_) sd5) ?_
   all_goals kernel_rfl
  all_goals kernel_rfl
 all_goals kernel_rfl
theorem head (walk : WalkL) : PySem.Challenge.rw_ny0445_01.Holds := by
 w_on
 refine holds_law said fun said => ?_
 refine holds_open (r := rowL) (q := qv) (loose := loose) (Xt := XtF) (XP := XL qv []) (Yf := HK.obs) (Ya := HK.val) (YP := HK.says) (d := dLaw) (kwd := []) (N := 5108) left HK.of HK.keeps (fun s e => xl_of s (Bool.and_eq_true_iff.mp e).1) XL.keeps (by kernel_rfl) (by kernel_rfl) (by kernel_rfl) (fun s e => recFacts_of (Bool.and_eq_true_iff.mp e).2) (by rfl) (by assumption) ?hok ⟨rfl, rfl, rfl, rfl, rfl, by decide +kernel⟩ ?hw ?hc
 case hok => kernel_rfl
 case hw => w_witness2
 case hc => exact walk
end
end
section
open PySem PySem.W PyProof.Rows
variable {w : World} {A : Around} {E : Value → Shared → Prop} {s₀ s s₁ : Shared} {env : Env} {h₀ : Heap} {L : Addr} {ns gs : List Str} {vs : List (Option Value)} {own : List (Addr × Obj)}
theorem ex1 {α : Sort _} {p : α → Prop} {Q : Prop} (k : ∀ a, p a → Q) : (∃ a, p a) → Q := fun ⟨a, h⟩ => k a h
theorem Ex1 {α : Sort _} {p : α → Prop} {Q : Prop} (h : ∃ a, p a) (k : ∀ a, p a → Q) : Q := ex1 k h
theorem ex2 {α β : Sort _} {p : α → β → Prop} {Q : Prop} (k : ∀ a b, p a b → Q) : (∃ a b, p a b) → Q := fun ⟨a, b, h⟩ => k a b h
theorem Ex2 {α β : Sort _} {p : α → β → Prop} {Q : Prop} (h : ∃ a b, p a b) (k : ∀ a b, p a b → Q) : Q := ex2 k h
theorem ex3 {α β γ : Sort _} {p : α → β → γ → Prop} {Q : Prop} (k : ∀ a b c, p a b c → Q) : (∃ a b c, p a b c) → Q := fun ⟨a, b, c, h⟩ => k a b c h
theorem Ex3 {α β γ : Sort _} {p : α → β → γ → Prop} {Q : Prop} (h : ∃ a b c, p a b c) (k : ∀ a b c, p a b c → Q) : Q := ex3 k h
theorem ex4 {α β γ δ : Sort _} {p : α → β → γ → δ → Prop} {Q : Prop} (k : ∀ a b c d, p a b c d → Q) : (∃ a b c d, p a b c d) → Q := fun ⟨a, b, c, d, h⟩ => k a b c d h
theorem Ex4 {α β γ δ : Sort _} {p : α → β → γ → δ → Prop} {Q : Prop} (h : ∃ a b c d, p a b c d) (k : ∀ a b c d, p a b c d → Q) : Q := ex4 k h
theorem ex5 {α β γ δ ε : Sort _} {p : α → β → γ → δ → ε → Prop} {Q : Prop} (k : ∀ a b c d e, p a b c d e → Q) : (∃ a b c d e, p a b c d e) → Q := fun ⟨a, b, c, d, e, h⟩ => k a b c d e h
theorem Ex5 {α β γ δ ε : Sort _} {p : α → β → γ → δ → ε → Prop} {Q : Prop} (h : ∃ a b c d e, p a b c d e) (k : ∀ a b c d e, p a b c d e → Q) : Q := ex5 k h
theorem an2 {a b Q : Prop} (k : a → b → Q) : a ∧ b → Q := fun ⟨h0, h1⟩ => k h0 h1
theorem An2 {a b Q : Prop} (h : a ∧ b) (k : a → b → Q) : Q := an2 k h
theorem an3 {a b c Q : Prop} (k : a → b → c → Q) : a ∧ b ∧ c → Q := fun ⟨h0, h1, h2⟩ => k h0 h1 h2
theorem An3 {a b c Q : Prop} (h : a ∧ b ∧ c) (k : a → b → c → Q) : Q := an3 k h
theorem an4 {a b c d Q : Prop} (k : a → b → c → d → Q) : a ∧ b ∧ c ∧ d → Q := fun ⟨h0, h1, h2, h3⟩ => k h0 h1 h2 h3
theorem An4 {a b c d Q : Prop} (h : a ∧ b ∧ c ∧ d) (k : a → b → c → d → Q) : Q := an4 k h
theorem an5 {a b c d e Q : Prop} (k : a → b → c → d → e → Q) : a ∧ b ∧ c ∧ d ∧ e → Q := fun ⟨h0, h1, h2, h3, h4⟩ => k h0 h1 h2 h3 h4
theorem An5 {a b c d e Q : Prop} (h : a ∧ b ∧ c ∧ d ∧ e) (k : a → b → c → d → e → Q) : Q := an5 k h
theorem an6 {a b c d e f Q : Prop} (k : a → b → c → d → e → f → Q) : a ∧ b ∧ c ∧ d ∧ e ∧ f → Q := fun ⟨h0, h1, h2, h3, h4, h5⟩ => k h0 h1 h2 h3 h4 h5
theorem An6 {a b c d e f Q : Prop} (h : a ∧ b ∧ c ∧ d ∧ e ∧ f) (k : a → b → c → d → e → f → Q) : Q := an6 k h
theorem an7 {a b c d e f g Q : Prop} (k : a → b → c → d → e → f → g → Q) : a ∧ b ∧ c ∧ d ∧ e ∧ f ∧ g → Q := fun ⟨h0, h1, h2, h3, h4, h5, h6⟩ => k h0 h1 h2 h3 h4 h5 h6
theorem an8 {a b c d e f g i Q : Prop} (k : a → b → c → d → e → f → g → i → Q) : a ∧ b ∧ c ∧ d ∧ e ∧ f ∧ g ∧ i → Q := fun ⟨h0, h1, h2, h3, h4, h5, h6, h7⟩ => k h0 h1 h2 h3 h4 h5 h6 h7
noncomputable def Loc : List Str → List (Option Value) → Str → Option Value
 | n :: ns, v :: vs, y => if y = n then v else Loc ns vs y
 | _, _, _ => none
theorem Loc.get : ∀ {ns : List Str} {vs : List (Option Value)} {i : Nat} {x : Str} {v : Option Value}, ns.Nodup → ns[i]? = some x → vs[i]? = some v → Loc ns vs x = v
 | n :: ns, u :: vs, 0, x, v, _, h1, h2 => by
  simp only [List.getElem?_cons_zero, Option.some.injEq] at h1 h2
  subst h1 h2; simp [Loc]
 | n :: ns, u :: vs, i + 1, x, v, hd, h1, h2 => by
  simp only [List.getElem?_cons_succ] at h1 h2
  have hm : x ∈ ns := lmo h1
  have hne : x ≠ n := fun e => (lnc.mp hd).1 (e ▸ hm)
  simp only [Loc, if_neg hne]
  exact Loc.get (lnc.mp hd).2 h1 h2
 | [], _, i, x, v, _, h1, _ => by simp at h1
 | _ :: _, [], i, x, v, _, _, h2 => by simp at h2
theorem Loc.set : ∀ {ns : List Str} {vs : List (Option Value)} {i : Nat} {x : Str} {v : Value}, ns.Nodup → ns[i]? = some x → i < vs.length →
  (fun y => if y = x then some v else Loc ns vs y) = Loc ns (vs.set i (some v))
 | n :: ns, u :: vs, 0, x, v, _, h1, _ => by
  simp only [List.getElem?_cons_zero, Option.some.injEq] at h1
  subst h1
  funext y
  simp only [Loc, List.set]
  split <;> rfl
 | n :: ns, u :: vs, i + 1, x, v, hd, h1, h2 => by
  simp only [List.getElem?_cons_succ] at h1
  have hm : x ∈ ns := lmo h1
  have hne : x ≠ n := fun e => (lnc.mp hd).1 (e ▸ hm)
  have ih := Loc.set (v := v) (lnc.mp hd).2 h1 (by simpa using h2)
  funext y
  simp only [Loc, List.set]
  have := congrFun ih y
  by_cases e : y = n
  ·subst e
   simp [Ne.symm hne]
  ·rw [if_neg e, if_neg e, ← this]
 | [], _, i, x, v, _, h1, _ => by simp at h1
 | _ :: _, [], i, x, v, _, _, h2 => by simp at h2
theorem Loc.empty : ∀ {ns : List Str} {y : Str}, Loc ns (List.replicate ns.length none) y = none
 | [], _ => rfl
 | n :: ns, y => by
  simp only [List.length_cons, List.replicate_succ, Loc]
  split
  ·rfl
  ·exact Loc.empty
theorem Loc.binds : ∀ {ns ps : List Str} {as : List Value}, (ps ++ ns).Nodup → ps.length = as.length →
  (fun y => (ps.zip as).reverse.lookup y) = Loc (ps ++ ns) (as.map some ++ List.replicate ns.length none)
 | ns, [], [], _, _ => by funext y; simp only [List.zip_nil_left, List.reverse_nil, List.lookup_nil, List.nil_append, List.map_nil]; exact Loc.empty.symm
 | ns, p :: ps, a :: as, hd, hl => by
  have hd' := (lnc.mp hd)
  have ih := Loc.binds (ns := ns) (ps := ps) (as := as) hd'.2 (by simpa using hl)
  funext y
  have e := congrFun ih y
  simp only [List.zip_cons_cons, List.reverse_cons, List.cons_append, lmn, Loc]
  rw [List.lookup_append, e]
  by_cases hy : y = p
  ·subst hy
   have hnone : Loc (ps ++ ns) (as.map some ++ List.replicate ns.length Option.none) y = Option.none := by
    rw [← e]
    refine List.lookup_eq_none_iff.mpr fun q hq => ?_
    have hm : q.1 ∈ ps := by
     have := List.mem_reverse.mp hq
     exact (List.of_mem_zip this).1
    exact bne_iff_ne.mpr fun e' => hd'.1 (e' ▸ lml _ hm)
   rw [hnone]
   simp
  ·simp [hy, List.lookup]
   have : (y == p) = false := beq_eq_false_iff_ne.mpr hy
   simp [this]
 | _, [], _ :: _, _, hl => by simp at hl
 | _, _ :: _, [], _, hl => by simp at hl
structure Ev (env : Env) (L : Addr) (ns gs : List Str) : Prop where
 kind : env.scope.kind = .function
 loc : env.locals = L
 glob : env.globals = mainGlobals
 blt : env.builtins = builtinsNs
 local_ : ∀ x ∈ ns, env.kindOf x = some .local
 global_ : ∀ x ∈ gs, env.kindOf x = some .globalImplicit
 dbg : ∀ x ∈ ns ++ gs, (x == ("__debug__" : Str)) = false
 nd : ns.Nodup
noncomputable def Keeps (h h' : Heap) : Prop := ∀ b o, h.get? b = some o → h'.get? b = some o
theorem Keeps.refl (h : Heap) : Keeps h h := fun _ _ e => e
theorem Keeps.trans {a b c : Heap} (x : Keeps a b) (y : Keeps b c) : Keeps a c := fun _ _ e => y _ _ (x _ _ e)
theorem Keeps.push (h : Heap) (o : Obj) : Keeps h (h.push o) := fun _ _ e => hgp o e
theorem Keeps.isList {h h' : Heap} (k : Keeps h h') {a : Addr} {items : Array Value} (x : h.IsList a items) : h'.IsList a items :=
 let ⟨o, ho, r⟩ := x; ⟨o, k _ _ ho, r⟩
theorem Keeps.nsp {h h' : Heap} (k : Keeps h h') {a : Addr} {m : Str → Option Value} (x : h.Ns a m) : h'.Ns a m :=
 let ⟨o, es, ep, ho, r⟩ := x; ⟨o, es, ep, k _ _ ho, r⟩
structure St (s₀ : Shared) (h₀ : Heap) (L : Addr) (ns : List Str) (vs : List (Option Value)) (own : List (Addr × Obj)) (s : Shared) : Prop where
 nsp : s.heap.Ns L (Loc ns vs)
 keep : Keeps h₀ s.heap
 off : h₀.get? L = none
 nw : ∀ p ∈ own, s.heap.get? p.1 = some p.2 ∧ p.1 ≠ L ∧ h₀.get? p.1 = none
 nd : (own.map (·.1)).Nodup
 os : s.os = s₀.os
 gens : s.gens = s₀.gens
section
variable {s' : Shared}
theorem St.same (S : St s₀ h₀ L ns vs own s) (h : s'.heap = s.heap) (g : s'.gens = s.gens) (o : s'.os = s.os) : St s₀ h₀ L ns vs own s' :=
 ⟨h ▸ S.nsp, h ▸ S.keep, S.off, h ▸ S.nw, S.nd, o.trans S.os, g.trans S.gens⟩
theorem St.keeps (S : St s₀ h₀ L ns vs own s) (k : Keeps s.heap s'.heap) (g : s'.gens = s.gens) (o : s'.os = s.os) : St s₀ h₀ L ns vs own s' :=
 ⟨k.nsp S.nsp, S.keep.trans k, S.off, fun p hp => ⟨k _ _ (S.nw p hp).1, (S.nw p hp).2⟩, S.nd, o.trans S.os, g.trans S.gens⟩
theorem St.lt (S : St s₀ h₀ L ns vs own s) {p : Addr × Obj} (hp : p ∈ own) : p.1 < s.heap.objs.size := hli (S.nw p hp).1
theorem Keeps.none {h h' : Heap} (k : Keeps h h') {a : Addr} (e : h'.get? a = none) : h.get? a = none := by
 cases q : h.get? a with
 | none => rfl
 | some o => rw [k _ _ q] at e; cases e
theorem get_size (h : Heap) : h.get? h.objs.size = none := by
 cases q : h.get? h.objs.size with
 | none => rfl
 | some o => exact absurd (hli q) (Nat.lt_irrefl _)
theorem St.push (S : St s₀ h₀ L ns vs own s) (o : Obj) (hf : o.isFreed = false) (h : s'.heap = s.heap.push o) (g : s'.gens = s.gens) (os : s'.os = s.os) :
  St s₀ h₀ L ns vs ((s.heap.objs.size, o) :: own) s' := by
 have k : Keeps s.heap s'.heap := h ▸ Keeps.push s.heap o
 refine Ex3 S.nsp fun oL _ _ => an2 fun hL _ => ?_
 refine ⟨k.nsp S.nsp, S.keep.trans k, S.off, fun p hp => ?_, ?_, os.trans S.os, g.trans S.gens⟩
 ·rcases lmc.mp hp with rfl | hp
  ·exact ⟨h ▸ hgs _ hf, Nat.ne_of_gt (hli hL), S.keep.none (get_size _)⟩
  ·exact ⟨k _ _ (S.nw p hp).1, (S.nw p hp).2⟩
 ·rw [lmn, lnc]
  refine ⟨fun hm => ?_, S.nd⟩
  refine Ex1 (lmm.mp hm) fun p => an2 fun hp e => ?_
  have := S.lt hp
  rw [e] at this
  exact absurd this (Nat.lt_irrefl _)
theorem St.get (S : St s₀ h₀ L ns vs own s) {j : Nat} {a : Addr} {o : Obj} (h : own[j]? = some (a, o)) : s.heap.get? a = some o := (S.nw _ (lmo h)).1
theorem nodup_at {l : List (Addr × Obj)} (nd : (l.map (·.1)).Nodup) {i j : Nat} {a : Addr} {o o' : Obj} (hi : l[i]? = some (a, o)) (hj : l[j]? = some (a, o')) : i = j := by
 have h1 : (l.map (·.1))[i]? = some a := by rw [lgm, hi]; rfl
 have h2 : (l.map (·.1))[j]? = some a := by rw [lgm, hj]; rfl
 have hl : i < (l.map (·.1)).length := by
  rcases nlg i (l.map (·.1)).length with h | h
  ·exact h
  ·rw [lgn h] at h1; cases h1
 exact (List.getElem?_inj hl nd).mp (h1.trans h2.symm)
theorem St.update (S : St s₀ h₀ L ns vs own s) {j : Nat} {a : Addr} {o o' : Obj} (h : own[j]? = some (a, o)) (hs : Heap.ExtBut a s.heap s'.heap) (ho : s'.heap.get? a = some o')
  (g : s'.gens = s.gens) (os : s'.os = s.os) : St s₀ h₀ L ns vs (own.set j (a, o')) s' := by
 have hm := S.nw _ (lmo h)
 refine Ex3 S.nsp fun oL es ep => an2 fun hL r => ?_
 have hjl : j < own.length := by
  rcases nlg j own.length with q | q
  ·exact q
  ·rw [lgn q] at h; cases h
 refine ⟨⟨oL, es, ep, hs L _ (Ne.symm hm.2.1) hL, r⟩, fun b x q => hs b _ (fun z => ?_) (S.keep b x q), S.off, fun p hp => ?_, ?_, os.trans S.os, g.trans S.gens⟩
 ·have := hm.2.2; rw [← z, q] at this; cases this
 ·obtain ⟨i, hi, rfl⟩ := lmg.mp hp
  rw [lls] at hi
  rw [List.getElem_set]
  by_cases e : j = i
  ·subst e
   rw [if_pos rfl]
   exact ⟨ho, hm.2⟩
  ·rw [if_neg e]
   have P := S.nw _ (List.getElem_mem hi)
   refine ⟨hs _ _ (fun z => e ?_) P.1, P.2⟩
   refine (nodup_at S.nd (o' := own[i].2) h ?_)
   rw [lge hi, ← z]
 ·have e : (own.set j (a, o')).map (·.1) = own.map (·.1) := by
   rw [List.map_set]
   refine List.ext_getElem? fun i => ?_
   rw [List.getElem?_set]
   split
   ·rename_i q
    subst q
    rw [lgm, h]
    simp [hjl]
   ·rfl
  rw [e]; exact S.nd
theorem St.drop (S : St s₀ h₀ L ns vs own s) {own' : List (Addr × Obj)} (h : own'.Sublist own) : St s₀ h₀ L ns vs own' s :=
 ⟨S.nsp, S.keep, S.off, fun p hp => S.nw p (h.subset hp), S.nd.sublist (h.map _), S.os, S.gens⟩
noncomputable def hideL (h : Heap) (l : List Addr) : Heap := hideAll h l
theorem hideL_get {h : Heap} {l : List Addr} {b : Addr} {o : Obj} (e : h.get? b = some o) (n : b ∉ l) : (hideL h l).get? b = some o := hideAll_get l e n
theorem hideL_sub (h : Heap) (l : List Addr) : Keeps (hideL h l) h := fun _ _ e => of_hideAll l e
theorem hideL_none {h : Heap} {l : List Addr} {b : Addr} (m : b ∈ l) : (hideL h l).get? b = none := hideAll_none l m
theorem St.rebase (S : St s₀ h₀ L ns vs own s) : St s₀ (hideL s.heap (L :: own.map (·.1))) L ns vs own s ∧ Keeps h₀ (hideL s.heap (L :: own.map (·.1))) := by
 refine ⟨⟨S.nsp, hideL_sub _ _, hideL_none (.head _), fun p hp => ⟨(S.nw p hp).1, (S.nw p hp).2.1, hideL_none (.tail _ (lme hp))⟩, S.nd, S.os, S.gens⟩, fun b o e => hideL_get (S.keep _ _ e) fun m => ?_⟩
 rcases lmc.mp m with rfl | m
 ·rw [S.off] at e; cases e
 ·refine Ex1 (lmm.mp m) fun p => an2 fun hp zz1 => ?_
  subst zz1
  rw [(S.nw p hp).2.2] at e; cases e
theorem St.unbase {g : Heap} (S : St s₀ g L ns vs own s) (k : Keeps h₀ g) : St s₀ h₀ L ns vs own s :=
 ⟨S.nsp, k.trans S.keep, k.none S.off, fun p hp => ⟨(S.nw p hp).1, (S.nw p hp).2.1, k.none (S.nw p hp).2.2⟩, S.nd, S.os, S.gens⟩
end
section
variable {M : Model}
theorem ld (e : Ev env L ns gs) (S : St s₀ h₀ L ns vs own s) {x : Str} {pos : Pos} {i : Nat} {v : Value} {Q : Value → Shared → Prop} (hi : ns[i]? = some x) (hv : vs[i]? = some (some v)) (h : Q v s) :
  wpAny M A (eval (.Name x pos) env) Q E s :=
 wpAny_Name (wpAny_loadName_local e.kind (e.local_ x (lmo hi)) (e.loc ▸ S.nsp) (Loc.get e.nd hi hv) h) (e.dbg x (lml _ (lmo hi)))
theorem ldn (e : Ev env L ns gs) (S : St s₀ h₀ L ns vs own s) {x : Str} {i : Nat} {v : Value} {Q : Value → Shared → Prop} (hi : ns[i]? = some x) (hv : vs[i]? = some (some v)) (h : Q v s) :
  wpAny M A (loadName env x) Q E s :=
 wpAny_loadName_local e.kind (e.local_ x (lmo hi)) (e.loc ▸ S.nsp) (Loc.get e.nd hi hv) h
noncomputable def Gl (h : Heap) (x : Str) (v : Value) : Prop := ∃ mg mb, h.Ns mainGlobals mg ∧ h.Ns builtinsNs mb ∧ (mg x = some v ∨ (mg x = none ∧ mb x = some v))
theorem Gl.keeps {h h' : Heap} {x : Str} {v : Value} (g : Gl h x v) (k : Keeps h h') : Gl h' x v := let ⟨mg, mb, a, b, c⟩ := g; ⟨mg, mb, k.nsp a, k.nsp b, c⟩
theorem ldg (e : Ev env L ns gs) (S : St s₀ h₀ L ns vs own s) {x : Str} {pos : Pos} {i : Nat} {v : Value} {Q : Value → Shared → Prop} (hi : gs[i]? = some x) (g : Gl h₀ x v) (h : Q v s) :
  wpAny M A (eval (.Name x pos) env) Q E s := by
 refine Ex2 (g.keeps S.keep) fun mg mb => an3 fun a b c => ?_
 refine Calls.Name_function_global e.kind (e.global_ x (lmo hi)) ?_ (e.dbg x (List.mem_append_right _ (lmo hi)))
 rcases c with c | ⟨c, d⟩
 ·exact Calls.loadGlobal_global (e.glob ▸ a) c h
 ·exact Calls.loadGlobal_builtin (e.glob ▸ a) c (e.blt ▸ b) d h
theorem st_ (e : Ev env L ns gs) (S : St s₀ h₀ L ns vs own s) {x : Str} {i : Nat} {v : Value} {Q : Unit → Shared → Prop} (hi : ns[i]? = some x) (hl : i < vs.length)
  (h : ∀ s', St s₀ h₀ L ns (vs.set i (some v)) own s' → Q () s') : wpAny M A (storeName env x v) Q E s := by
 have hL := e.loc
 refine wpAny_storeName_local (e.local_ x (lmo hi)) (hL ▸ S.nsp) (fun h' hn hs => h _ ?_) (by rw [e.kind]; rfl)
 rw [hL] at hn hs
 rw [Loc.set e.nd hi hl] at hn
 exact ⟨hn, fun b o q => (hs.2 b fun z => by rw [z, S.off] at q; cases q).trans (S.keep b o q), S.off, fun p hp => ⟨(hs.2 p.1 (S.nw p hp).2.1).trans (S.nw p hp).1, (S.nw p hp).2⟩, S.nd, S.os, S.gens⟩
theorem cint (S : St s₀ h₀ L ns vs own s) {n : Int} {k : Nat} {pos : Pos} {Q : Value → Shared → Prop} (h : ∀ t s', St s₀ h₀ L ns vs own s' → Q (.int n t) s') :
  wpAny M A (eval (.Constant (.int n) k pos) env) Q E s := wpAny_Constant_int (h _ _ (S.same rfl rfl rfl))
theorem cstr (S : St s₀ h₀ L ns vs own s) {x : Str} {k : Nat} {pos : Pos} {Q : Value → Shared → Prop} (h : ∀ t s', St s₀ h₀ L ns vs own s' → Q (.str x t) s') :
  wpAny M A (eval (.Constant (.str x) k pos) env) Q E s := wcs (h _ _ (S.same rfl rfl rfl))
theorem cnone {k : Nat} {pos : Pos} {Q : Value → Shared → Prop} (h : Q .none s) : wpAny M A (eval (.Constant .none k pos) env) Q E s := wpAny_Constant_none h
theorem cbool {b : Bool} {k : Nat} {pos : Pos} {Q : Value → Shared → Prop} (h : Q (.bool b) s) : wpAny M A (eval (.Constant (.bool b) k pos) env) Q E s := wpAny_Constant_bool h
end
structure Base (w : World) (h : Heap) : Prop where
 K : (KF w.params).In h
 lim : h.NoLimit
 g : ∃ mg mb, h.Ns mainGlobals mg ∧ h.Ns builtinsNs mb ∧ ∀ x : Str, x ≠ "__name__" → mb x = bootBuiltins x
theorem Base.keeps {w : World} {h h' : Heap} (b : Base w h) (k : Keeps h h') : Base w h' :=
 ⟨b.K.keeps k, b.lim.keeps k, let ⟨mg, mb, x, y, z⟩ := b.g; ⟨mg, mb, k.nsp x, k.nsp y, z⟩⟩
theorem Base.at {w : World} {h : Heap} (b : Base w h) {a : Addr} {o : Obj} (e : (KF w.params).lookup a = some o) : h.get? a = some o := b.K a o e
noncomputable def ents (o : Obj) : Array DictEntry := match o.data with
 | .dict es _ => es
 | _ => #[]
theorem Base.glob {w : World} {h : Heap} (b : Base w h) {x : Str} {v : Value} (e : nsFind (ents (o3 w.params)) x = some v) : Gl h x v := by
 refine Ex2 b.g fun mg mb => an3 fun x1 x2 _ => ?_
 refine Ex3 (id x1) fun o es ep => an4 fun ho hd hk hf => ?_
 have h3 := b.at (a := 3) (o := o3 w.params) (by kernel_rfl)
 rw [show mainGlobals = 3 from rfl, h3] at ho
 cases ho
 have : ents (o3 w.params) = es := by unfold ents; rw [hd]
 rw [this, hf x] at e
 exact ⟨mg, mb, x1, x2, .inl e⟩
theorem Base.blt {w : World} {h : Heap} (b : Base w h) {x : Str} {v : Value} (e : nsFind (ents (o3 w.params)) x = none) (hn : x ≠ "__name__") (ev : bootBuiltins x = some v) : Gl h x v := by
 refine Ex2 b.g fun mg mb => an3 fun x1 x2 z => ?_
 refine Ex3 (id x1) fun o es ep => an4 fun ho hd hk hf => ?_
 have h3 := b.at (a := 3) (o := o3 w.params) (by kernel_rfl)
 rw [show mainGlobals = 3 from rfl, h3] at ho
 cases ho
 have : ents (o3 w.params) = es := by unfold ents; rw [hd]
 rw [this, hf x] at e
 exact ⟨mg, mb, x1, x2, .inr ⟨e, (z x hn).trans ev⟩⟩
structure FnOk (fd : FuncData) (body : List Stmt) (ps ls gs : List Str) : Prop where
 body : fd.body = .stmts body
 kind : fd.scope.kind = .function
 co : fd.scope.isCoroutine = false
 gen : fd.scope.isGenerator = false
 nocell : ∀ x ∈ fd.scope.names, x.2 ≠ .cell
 globals : fd.globals = mainGlobals
 builtins : fd.builtins = builtinsNs
 loc : ∀ x ∈ ps ++ ls, fd.scope.names.lookup x = some .local
 glob : ∀ x ∈ gs, fd.scope.names.lookup x = some .globalImplicit
 dbg : ∀ x ∈ (ps ++ ls) ++ gs, (x == ("__debug__" : Str)) = false
 nd : (ps ++ ls).Nodup
noncomputable def fnOk (fd : FuncData) (ps ls gs : List Str) : Bool :=
 (fd.scope.kind == .function && !fd.scope.isCoroutine && !fd.scope.isGenerator && fd.scope.names.all (fun x => x.2 != .cell)) &&
 (fd.globals == mainGlobals && fd.builtins == builtinsNs) &&
 ((ps ++ ls).all (fun x => fd.scope.names.lookup x == some .local) && gs.all (fun x => fd.scope.names.lookup x == some .globalImplicit) && ((ps ++ ls) ++ gs).all (fun x => !(x == ("__debug__" : Str)))) && decide (ps ++ ls).Nodup
theorem FnOk.of {fd : FuncData} {body : List Stmt} {ps ls gs : List Str} (hb : fd.body = .stmts body) (e : fnOk fd ps ls gs = true) : FnOk fd body ps ls gs := by
 simp only [fnOk, Bool.and_eq_true, beq_iff_eq, Bool.not_eq_true', List.all_eq_true, bne_iff_ne, ne_eq, decide_eq_true_eq] at e
 refine An2 e fun zz1 a10 => ?_
 refine An3 zz1 fun zz2 zz3 a9 => ?_
 refine An3 zz2 fun zz4 a5 a6 => ?_
 refine An2 zz4 fun zz5 a4 => ?_
 refine An2 zz5 fun zz6 a3 => ?_
 refine An2 zz6 fun a1 a2 => ?_
 refine An2 zz3 fun a7 a8 => ?_
 exact ⟨hb, a1, a2, a3, a4, a5, a6, a7, a8, a9, a10⟩
noncomputable abbrev ff : Value → Shared → Prop := fun _ _ => False
theorem call_fn {w : World} {A : Around} {s : Shared} {R : Result → Shared → Prop} {f : Addr} {o : Obj} {fd : FuncData} {body : List Stmt} {ps ls gs : List Str} {args : Args} {vals : List Value}
  (ok : FnOk fd body ps ls gs) (hroom : A.depth < recursionLimit) (B : Base w s.heap) (ho : s.heap.get? f = some o) (hd : o.data = .func fd) (hcd : s.heap.CodeRec fd.code fd.qualname)
  (hbind : BindsTo s fd args (ps.zip vals)) (hlen : ps.length = vals.length)
  (h : ∀ env L s', Ev env L (ps ++ ls) gs → St s s.heap L (ps ++ ls) (vals.map some ++ List.replicate ls.length none) [] s' →
   wpAny (model pw w) (A.deeper env) (execs body env) (fun fl s'' => R (.ok (.ret (match fl with | .ret v => v | _ => .none))) s'') ff s') :
  codeAny (model pw w) A (.call (.ref f) args) R s := by
 refine codeAny_call_def (fd := fd) (body := body) (binds := ps.zip vals) hroom ho hd B.lim hcd ok.body hbind ok.nocell (fun x hx => ok.loc x.1 (lml _ (List.of_mem_zip hx).1)) (fun h₁ hns hk₁ => ?_) ok.co ok.gen ok.kind
 rw [Loc.binds (ns := ls) (ps := ps) (as := vals) ok.nd hlen] at hns
 refine wm (h (callEnv fd s.heap.objs.size f) s.heap.objs.size _ ⟨ok.kind, rfl, ok.globals, ok.builtins, fun x hx => ok.loc x hx, fun x hx => ok.glob x hx, ok.dbg, ok.nd⟩
  ⟨hns, hk₁, get_size _, fun _ hp => (nomatch hp), List.nodup_nil, rfl, rfl⟩) (fun _ _ x => x) fun _ _ x => x.elim
def Ret (s : Shared) (P : Value → Shared → Prop) : Result → Shared → Prop := fun r s' => ∃ v, r = .ok (.ret v) ∧ Keeps s.heap s'.heap ∧ s'.gens = s.gens ∧ s'.os = s.os ∧ P v s'
structure Room (A : Around) (k : Nat) : Prop where
 depth : A.depth + k < recursionLimit
 units : A.units + 20 * k + 100 < cLine
 handled : A.handled = none
theorem Room.deeper {A : Around} {k : Nat} (r : Room A (k + 1)) (env : Env) : Room (A.deeper env) k :=
 ⟨by have := r.depth; show A.depth + 1 + k < _; lia, by have := r.units; show A.units + 3 + 20 * k + 100 < _; lia, r.handled⟩
theorem Room.le {A : Around} {k j : Nat} (r : Room A k) (h : j ≤ k) : Room A j := ⟨by have := r.depth; lia, by have := r.units; lia, r.handled⟩
theorem Room.u {A : Around} {k n : Nat} (r : Room A k) (h : n ≤ 100) : A.units + n < cLine := by have := r.units; omega
theorem Room.lt {A : Around} {k : Nat} (r : Room A k) : A.depth < recursionLimit := by have := r.depth; lia
section
variable {a b : Int} {t u : Tok}
theorem add_ (S : St s₀ h₀ L ns vs own s) {Q : Value → Shared → Prop} (h : ∀ t s', St s₀ h₀ L ns vs own s' → Q (.int (a + b) t) s') : wpAny (model pw w) A (binaryOp .Add (.int a t) (.int b u)) Q E s := P.add_int (h _ _ (S.same rfl rfl rfl))
theorem iadd_ (S : St s₀ h₀ L ns vs own s) {Q : Value → Shared → Prop} (h : ∀ t s', St s₀ h₀ L ns vs own s' → Q (.int (a + b) t) s') : wpAny (model pw w) A (inplaceOp .Add (.int a t) (.int b u)) Q E s := P.iadd_int (h _ _ (S.same rfl rfl rfl))
theorem sub_ (S : St s₀ h₀ L ns vs own s) {Q : Value → Shared → Prop} (h : ∀ t s', St s₀ h₀ L ns vs own s' → Q (.int (a - b) t) s') : wpAny (model pw w) A (binaryOp .Sub (.int a t) (.int b u)) Q E s := P.sub_int (h _ _ (S.same rfl rfl rfl))
theorem mod_ (S : St s₀ h₀ L ns vs own s) {Q : Value → Shared → Prop} (hb : b ≠ 0) (h : ∀ t s', St s₀ h₀ L ns vs own s' → Q (.int (a.fmod b) t) s') : wpAny (model pw w) A (binaryOp .Mod (.int a t) (.int b u)) Q E s := mod_int' hb (h _ _ (S.same rfl rfl rfl))
theorem newList_ (S : St s₀ h₀ L ns vs own s) {xs : List Value} {Q : Value → Shared → Prop} (h : ∀ l s', St s₀ h₀ L ns vs ((l, listOf xs.toArray 0) :: own) s' → Q (.ref l) s') (hz : xs.length ≤ sizeLine) :
  wpAny (model pw w) A (newList xs) Q E s :=
 wnt (h _ _ (S.push (listOf xs.toArray 0) rfl rfl rfl rfl)) (by show xs.toArray.size ≤ sizeLine; rw [lst]; exact hz)
theorem newTuple_ (S : St s₀ h₀ L ns vs own s) {xs : List Value} {Q : Value → Shared → Prop} (h : ∀ l s', St s₀ h₀ L ns vs ((l, ⟨.type "tuple", none, .seq xs.toArray 0, #[]⟩) :: own) s' → Q (.ref l) s') (hz : xs.length ≤ sizeLine) :
  wpAny (model pw w) A (newTuple xs) Q E s :=
 wnt (h _ _ (S.push ⟨.type "tuple", none, .seq xs.toArray 0, #[]⟩ rfl rfl rfl rfl)) (by show xs.toArray.size ≤ sizeLine; rw [lst]; exact hz)
inductive AreInts : List Expr → List Int → Prop
 | nil : AreInts [] []
 | cons {n : Int} {k : Nat} {p : Pos} {r : List Expr} {zs : List Int} : AreInts r zs → AreInts (.Constant (.int n) k p :: r) (n :: zs)
theorem consts_ {pos : Pos} {es : List Expr} {zs : List Int} (e : AreInts es zs) : ∀ {s : Shared} {Q : List Value → Shared → Prop}, St s₀ h₀ L ns vs own s →
  (∀ xs s', St s₀ h₀ L ns vs own s' → IntsAre xs zs → Q xs s') → wpAny (model pw w) A (spliced (backTo pos (starEach es env))) Q E s := by
 induction e with
 | nil => intro s Q S h; exact wpAny_items_nil (h _ _ S .nil)
 | cons _ ih =>
  intro s Q S h
  refine wio (cint S fun t s' S' => ?_)
  exact ih S' fun xs s'' S'' I => h _ _ S'' (.cons _ t I)
theorem ints_get {xs : List Value} {zs : List Int} (I : IntsAre xs zs) {i : Nat} {z : Int} (h : zs[i]? = some z) : ∃ t, xs[i]? = some (.int z t) := by
 induction I generalizing i with
 | nil => simp at h
 | cons n t _ ih =>
  cases i with
  | zero => simp only [List.getElem?_cons_zero, Option.some.injEq] at h; subst h; exact ⟨t, rfl⟩
  | succ i => simpa using ih (by simpa using h)
theorem ints_len {xs : List Value} {zs : List Int} (I : IntsAre xs zs) : xs.length = zs.length := by
 induction I with
 | nil => rfl
 | cons n t _ ih => simp [ih]
theorem item_ {value slice : PySem.Expr} {l : Addr} {xs : List Value} {k : Int} {u : Tok} {v : Value} {Q : Value → Shared → Prop} (hl : s.heap.IsList l xs.toArray) (h0 : 0 ≤ k) (hx : xs[k.toNat]? = some v) (hsz : xs.length ≤ sizeLine) (h : Q v s)
  (hs : subscripted slice false (.ref l) (.int k u) = operate [.ref l, .int k u] (getItem (.ref l) (.int k u)) := by with_unfolding_all rfl) :
  wpAny (model pw w) A (subscriptTail value slice (.ref l) (.int k u)) Q E s := by
 have hk : k.toNat < xs.length := by
  rcases nlg k.toNat xs.length with q | q
  ·exact q
  ·rw [lgn q] at hx; cases hx
 rw [see] at hsz
 exact item_litK hl h0 (by lia) hx h hs
theorem St.isList (S : St s₀ h₀ L ns vs own s) {j : Nat} {l : Addr} {its : Array Value} {n : Nat} (h : own[j]? = some (l, listOf its n)) : s.heap.IsList l its := ⟨_, S.get h, rfl, n, rfl⟩
theorem use {c : Code} {P : Value → Shared → Prop} {Q : Value → Shared → Prop} (S : St s₀ h₀ L ns vs own s) (hs : codeAny (model pw w) A c (Ret s P) s)
  (h : ∀ v s', St s₀ h₀ L ns vs own s' → Keeps s.heap s'.heap → P v s' → Q v s') : codeAny (model pw w) A c (fun r s' => match r with | .ok (.ret v) => Q v s' | .ok _ => False | .error e => E e s') s := by
 refine codeAny_mono hs fun r s' hr => ?_
 refine Ex1 hr fun v => an5 fun zz1 k g o p => ?_
 subst zz1
 exact h v s' (S.keeps k g o) k p
theorem callName {f : Str} {p pos : Pos} {x : Expr} {rest : List Expr} {i : Nat} {fa : Addr} {o : Obj} {fd : FuncData} {Q : Value → Shared → Prop} (e : Ev env L ns gs) (S : St s₀ h₀ L ns vs own s) (hi : gs[i]? = some f) (g : Gl h₀ f (.ref fa))
  (ho : h₀.get? fa = some o) (hd : o.data = .func fd)
  (h : wpAny (model pw w) A (spliced (backTo pos (starEach (x :: rest) env))) (fun vals s₁ => Keeps h₀ s₁.heap ∧ codeAny (model pw w) A (.call (.ref fa) ⟨vals, []⟩) (fun r s' => match r with | .ok (.ret v) => Q v s' | .ok _ => False | .error e => E e s') s₁) E s)
  (hne : ∃ b t r, backTo pos (starEach (x :: rest) env) = (b, t) :: r ∧ b = false := by exact ⟨_, _, _, rfl, rfl⟩) :
  wpAny (model pw w) A (eval (.Call (.Name f p) (x :: rest) [] pos) env) Q E s := by
 refine wpAny_Call_Name_kw (ldg e S hi g ?_)
 show wpAny _ _ (callWith pos (.ref fa) [] (backTo pos (starEach (x :: rest) env)) []) _ _ _
 refine Ex3 hne fun b t r => an2 fun eq zz1 => ?_
 subst zz1
 rw [eq] at h ⊢
 refine Calls.callWith_function (o := o) (fd := fd) (cep ?_)
 refine wm h (fun vals s₁ h₁ => ⟨⟨h₁.1 _ _ ho, hd⟩, ?_⟩) fun _ _ x => x
 exact wpAny_call h₁.2
end
structure IsFn (h : Heap) (f : Addr) (fd : FuncData) : Prop where
 at_ : ∃ o, h.get? f = some o ∧ o.data = .func fd
 code : h.CodeRec fd.code fd.qualname
theorem call_f {w : World} {A : Around} {s : Shared} {R : Result → Shared → Prop} {f : Addr} {fd : FuncData} {body : List Stmt} {ps ls gs : List Str} {args : Args} {vals : List Value}
  (B : Base w s.heap) (F : IsFn s.heap f fd) (ok : FnOk fd body ps ls gs) (hroom : A.depth < recursionLimit)
  (hbind : BindsTo s fd args (ps.zip vals)) (hlen : ps.length = vals.length)
  (h : ∀ env L s', Ev env L (ps ++ ls) gs → St s s.heap L (ps ++ ls) (vals.map some ++ List.replicate ls.length none) [] s' →
   wpAny (model pw w) (A.deeper env) (execs body env) (fun fl s'' => R (.ok (.ret (match fl with | .ret v => v | _ => .none))) s'') ff s') :
  codeAny (model pw w) A (.call (.ref f) args) R s := by
 obtain ⟨⟨o, ho, hd⟩, hc⟩ := F
 exact call_fn ok hroom B ho hd hc hbind hlen h
theorem call_fR {w : World} {A : Around} {s : Shared} {R : Result → Shared → Prop} {f : Addr} {fd : FuncData} {body : List Stmt} {ps ls gs : List Str} {args : Args} {vals : List Value}
  (B : Base w s.heap) (F : IsFn s.heap f fd) (ok : FnOk fd body ps ls gs) (hroom : A.depth < recursionLimit)
  (hbind : BindsTo s fd args (ps.zip vals)) (hlen : ps.length = vals.length)
  (h : ∀ env L s' (Q : Flow → Shared → Prop), (∀ v s'', R (.ok (.ret v)) s'' → Q (.ret v) s'') → (∀ s'', R (.ok (.ret .none)) s'' → Q .next s'') → Ev env L (ps ++ ls) gs → St s s.heap L (ps ++ ls) (vals.map some ++ List.replicate ls.length none) [] s' →
   wpAny (model pw w) (A.deeper env) (execs body env) Q ff s') :
  codeAny (model pw w) A (.call (.ref f) args) R s :=
 call_f B F ok hroom hbind hlen fun env L s' e S => h env L s' _ (fun _ _ x => x) (fun _ x => x) e S
noncomputable def fd275 : FuncData := fnD (sO "_law_thing") (sO "_law_thing") (st 11) [] .none .none .none (.str (sO "law_ny0445_01") 625) none (.ref 274) .none
theorem ok275 : FnOk fd275 (fnB (st 11)) [sO "k"] [] [] := FnOk.of (by kernel_rfl) (by kernel_rfl)
theorem is275 {w : World} {h : Heap} (B : Base w h) : IsFn h 275 fd275 := ⟨⟨o275 w.params, B.at (by kernel_rfl), by kernel_rfl⟩, ⟨274, o274 w.params, _, _, by kernel_rfl, B.at (by kernel_rfl), rfl, rfl⟩⟩
noncomputable def fd282 : FuncData := fnD (sO "_law_kind") (sO "_law_kind") (st 12) [] .none .none .none (.str (sO "law_ny0445_01") 625) none (.ref 281) .none
theorem ok282 : FnOk fd282 (fnB (st 12)) [sO "k"] [] [] := FnOk.of (by kernel_rfl) (by kernel_rfl)
theorem is282 {w : World} {h : Heap} (B : Base w h) : IsFn h 282 fd282 := ⟨⟨o282 w.params, B.at (by kernel_rfl), by kernel_rfl⟩, ⟨281, o281 w.params, _, _, by kernel_rfl, B.at (by kernel_rfl), rfl, rfl⟩⟩
noncomputable def fd289 : FuncData := fnD (sO "_law_rows") (sO "_law_rows") (st 13) [] .none .none .none (.str (sO "law_ny0445_01") 625) none (.ref 288) .none
noncomputable abbrev N289 : List Str := [sO "numbers", sO "first", sO "second", sO "number", sO "k"]
theorem ok289 : FnOk fd289 (fnB (st 13)) [sO "numbers"] [sO "first", sO "second", sO "number", sO "k"] [] := FnOk.of (by kernel_rfl) (by kernel_rfl)
theorem is289 {w : World} {h : Heap} (B : Base w h) : IsFn h 289 fd289 := ⟨⟨o289 w.params, B.at (by kernel_rfl), by kernel_rfl⟩, ⟨288, o288 w.params, _, _, by kernel_rfl, B.at (by kernel_rfl), rfl, rfl⟩⟩
noncomputable def fd296 : FuncData := fnD (sO "_law_firsts") (sO "_law_firsts") (st 14) [] .none .none .none (.str (sO "law_ny0445_01") 625) none (.ref 295) .none
noncomputable abbrev N296 : List Str := [sO "row", sO "kinds", sO "firsts", sO "k"]
theorem ok296 : FnOk fd296 (fnB (st 14)) [sO "row"] [sO "kinds", sO "firsts", sO "k"] [sO "_law_kind"] := FnOk.of (by kernel_rfl) (by kernel_rfl)
theorem is296 {w : World} {h : Heap} (B : Base w h) : IsFn h 296 fd296 := ⟨⟨o296 w.params, B.at (by kernel_rfl), by kernel_rfl⟩, ⟨295, o295 w.params, _, _, by kernel_rfl, B.at (by kernel_rfl), rfl, rfl⟩⟩
noncomputable def fd301 : FuncData := fnD (sO "_law_same") (sO "_law_same") (st 15) [] .none .none .none (.str (sO "law_ny0445_01") 625) none (.ref 300) .none
theorem ok301 : FnOk fd301 (fnB (st 15)) [sO "told", sO "row"] [sO "due", sO "one", sO "other"] [sO "len", sO "zip", sO "type"] := FnOk.of (by kernel_rfl) (by kernel_rfl)
theorem is301 {w : World} {h : Heap} (B : Base w h) : IsFn h 301 fd301 := ⟨⟨o301 w.params, B.at (by kernel_rfl), by kernel_rfl⟩, ⟨300, o300 w.params, _, _, by kernel_rfl, B.at (by kernel_rfl), rfl, rfl⟩⟩
noncomputable def fd313 : FuncData := fnD (sO "_law_codes") (sO "_law_codes") (st 17) [] .none .none .none (.str (sO "law_ny0445_01") 625) none (.ref 312) .none
noncomputable abbrev N313 : List Str := [sO "one", sO "other", sO "codes", sO "i", sO "j", sO "p", sO "q", sO "size", sO "tag"]
theorem ok313 : FnOk fd313 (fnB (st 17)) [sO "one", sO "other"] [sO "codes", sO "i", sO "j", sO "p", sO "q", sO "size", sO "tag"] [sO "_law_kept", sO "len"] := FnOk.of (by kernel_rfl) (by kernel_rfl)
theorem is313 {w : World} {h : Heap} (B : Base w h) : IsFn h 313 fd313 := ⟨⟨o313 w.params, B.at (by kernel_rfl), by kernel_rfl⟩, ⟨312, o312 w.params, _, _, by kernel_rfl, B.at (by kernel_rfl), rfl, rfl⟩⟩
noncomputable def fd325 : FuncData := fnD (sO "law") (sO "law") (st 19) [] .none .none .none (.str (sO "law_ny0445_01") 625) none (.ref 324) .none
noncomputable abbrev N325 : List Str := [sO "script", sO "first", sO "second", sO "matcher"]
theorem ok325 : FnOk fd325 (fnB (st 19)) [sO "script"] [sO "first", sO "second", sO "matcher"] [sO "_law_rows", sO "SequenceMatcher", sO "_law_right"] := FnOk.of (by kernel_rfl) (by kernel_rfl)
theorem is325 {w : World} {h : Heap} (B : Base w h) : IsFn h 325 fd325 := ⟨⟨o325 w.params, B.at (by kernel_rfl), by kernel_rfl⟩, ⟨324, o324 w.params, _, _, by kernel_rfl, B.at (by kernel_rfl), rfl, rfl⟩⟩
noncomputable def fd145 : FuncData := fnD (sO "_calculate_ratio") (sO "_calculate_ratio") (st 4) [] .none .none .none (.str (sO "cpy313.difflib") 194) none (.ref 144) .none
theorem ok145 : FnOk fd145 (fnB (st 4)) [sO "matches", sO "length"] [] [] := FnOk.of (by kernel_rfl) (by kernel_rfl)
theorem is145 {w : World} {h : Heap} (B : Base w h) : IsFn h 145 fd145 := ⟨⟨o145 w.params, B.at (by kernel_rfl), by kernel_rfl⟩, ⟨144, o144 w.params, _, _, by kernel_rfl, B.at (by kernel_rfl), rfl, rfl⟩⟩
noncomputable def fd254 : FuncData := fnD (sO "_deduplicate") (sO "_deduplicate") (st 7) [] .none (.ref 247) .none (.str (sO "cpy313.typing") 593) none (.ref 253) .none
theorem ok254 : FnOk fd254 (fnB (st 7)) [sO "params", sO "unhashable_fallback"] [] [sO "dict", sO "TypeError", sO "_deduplicate_unhashable"] := FnOk.of (by kernel_rfl) (by kernel_rfl)
theorem is254 {w : World} {h : Heap} (B : Base w h) : IsFn h 254 fd254 := ⟨⟨o254 w.params, B.at (by kernel_rfl), by kernel_rfl⟩, ⟨253, o253 w.params, _, _, by kernel_rfl, B.at (by kernel_rfl), rfl, rfl⟩⟩
noncomputable def fd261 : FuncData := fnD (sO "_deduplicate_unhashable") (sO "_deduplicate_unhashable") (st 8) [] .none .none .none (.str (sO "cpy313.typing") 593) none (.ref 260) .none
theorem ok261 : FnOk fd261 (fnB (st 8)) [sO "unhashable_params"] [sO "new_unhashable", sO "t"] [] := FnOk.of (by kernel_rfl) (by kernel_rfl)
theorem is261 {w : World} {h : Heap} (B : Base w h) : IsFn h 261 fd261 := ⟨⟨o261 w.params, B.at (by kernel_rfl), by kernel_rfl⟩, ⟨260, o260 w.params, _, _, by kernel_rfl, B.at (by kernel_rfl), rfl, rfl⟩⟩
noncomputable def fd268 : FuncData := fnD (sO "_compare_args_orderless") (sO "_compare_args_orderless") (st 9) [] .none .none .none (.str (sO "cpy313.typing") 593) none (.ref 267) .none
noncomputable abbrev N268 : List Str := [sO "first_args", sO "second_args", sO "first_unhashable", sO "second_unhashable", sO "t", sO "elem"]
theorem ok268 : FnOk fd268 (fnB (st 9)) [sO "first_args", sO "second_args"] [sO "first_unhashable", sO "second_unhashable", sO "t", sO "elem"] [sO "_deduplicate_unhashable", sO "list", sO "ValueError"] := FnOk.of (by kernel_rfl) (by kernel_rfl)
theorem is268 {w : World} {h : Heap} (B : Base w h) : IsFn h 268 fd268 := ⟨⟨o268 w.params, B.at (by kernel_rfl), by kernel_rfl⟩, ⟨267, o267 w.params, _, _, by kernel_rfl, B.at (by kernel_rfl), rfl, rfl⟩⟩
noncomputable def fd160 : FuncData := fnD (sO "__init__") (sO "SequenceMatcher.__init__") (kid (st 5) 1) [] (.ref 153) .none (.str (docS (kid (st 5) 1)) 416) (.str (sO "cpy313.difflib") 194) none (.ref 159) .none
theorem ok160 : FnOk fd160 (fnB (kid (st 5) 1)) [sO "self", sO "isjunk", sO "a", sO "b", sO "autojunk"] [] [] := FnOk.of (by kernel_rfl) (by kernel_rfl)
theorem is160 {w : World} {h : Heap} (B : Base w h) : IsFn h 160 fd160 := ⟨⟨o160 w.params, B.at (by kernel_rfl), by kernel_rfl⟩, ⟨159, o159 w.params, _, _, by kernel_rfl, B.at (by kernel_rfl), rfl, rfl⟩⟩
noncomputable def fd167 : FuncData := fnD (sO "set_seqs") (sO "SequenceMatcher.set_seqs") (kid (st 5) 2) [] .none .none (.str (docS (kid (st 5) 2)) 426) (.str (sO "cpy313.difflib") 194) none (.ref 166) .none
theorem ok167 : FnOk fd167 (fnB (kid (st 5) 2)) [sO "self", sO "a", sO "b"] [] [] := FnOk.of (by kernel_rfl) (by kernel_rfl)
theorem is167 {w : World} {h : Heap} (B : Base w h) : IsFn h 167 fd167 := ⟨⟨o167 w.params, B.at (by kernel_rfl), by kernel_rfl⟩, ⟨166, o166 w.params, _, _, by kernel_rfl, B.at (by kernel_rfl), rfl, rfl⟩⟩
noncomputable def fd174 : FuncData := fnD (sO "set_seq1") (sO "SequenceMatcher.set_seq1") (kid (st 5) 3) [] .none .none (.str (docS (kid (st 5) 3)) 435) (.str (sO "cpy313.difflib") 194) none (.ref 173) .none
theorem ok174 : FnOk fd174 (fnB (kid (st 5) 3)) [sO "self", sO "a"] [] [] := FnOk.of (by kernel_rfl) (by kernel_rfl)
theorem is174 {w : World} {h : Heap} (B : Base w h) : IsFn h 174 fd174 := ⟨⟨o174 w.params, B.at (by kernel_rfl), by kernel_rfl⟩, ⟨173, o173 w.params, _, _, by kernel_rfl, B.at (by kernel_rfl), rfl, rfl⟩⟩
noncomputable def fd181 : FuncData := fnD (sO "set_seq2") (sO "SequenceMatcher.set_seq2") (kid (st 5) 4) [] .none .none (.str (docS (kid (st 5) 4)) 444) (.str (sO "cpy313.difflib") 194) none (.ref 180) .none
theorem ok181 : FnOk fd181 (fnB (kid (st 5) 4)) [sO "self", sO "b"] [] [] := FnOk.of (by kernel_rfl) (by kernel_rfl)
theorem is181 {w : World} {h : Heap} (B : Base w h) : IsFn h 181 fd181 := ⟨⟨o181 w.params, B.at (by kernel_rfl), by kernel_rfl⟩, ⟨180, o180 w.params, _, _, by kernel_rfl, B.at (by kernel_rfl), rfl, rfl⟩⟩
noncomputable def fd188 : FuncData := fnD (sO "__chain_b") (sO "SequenceMatcher.__chain_b") (kid (st 5) 5) [] .none .none .none (.str (sO "cpy313.difflib") 194) none (.ref 187) .none
noncomputable abbrev N188 : List Str := [sO "self", sO "b", sO "b2j", sO "i", sO "elt", sO "indices", sO "junk", sO "isjunk", sO "popular", sO "n", sO "ntest", sO "idxs"]
theorem ok188 : FnOk fd188 (fnB (kid (st 5) 5)) [sO "self"] [sO "b", sO "b2j", sO "i", sO "elt", sO "indices", sO "junk", sO "isjunk", sO "popular", sO "n", sO "ntest", sO "idxs"] [sO "enumerate", sO "set", sO "len"] := FnOk.of (by kernel_rfl) (by kernel_rfl)
theorem is188 {w : World} {h : Heap} (B : Base w h) : IsFn h 188 fd188 := ⟨⟨o188 w.params, B.at (by kernel_rfl), by kernel_rfl⟩, ⟨187, o187 w.params, _, _, by kernel_rfl, B.at (by kernel_rfl), rfl, rfl⟩⟩
noncomputable def fd196 : FuncData := fnD (sO "find_longest_match") (sO "SequenceMatcher.find_longest_match") (kid (st 5) 6) [] (.ref 189) .none (.str (docS (kid (st 5) 6)) 490) (.str (sO "cpy313.difflib") 194) none (.ref 195) .none
noncomputable abbrev N196 : List Str := [sO "self", sO "alo", sO "ahi", sO "blo", sO "bhi", sO "a", sO "b", sO "b2j", sO "isbjunk", sO "besti", sO "bestj", sO "bestsize", sO "j2len", sO "nothing", sO "i", sO "j2lenget", sO "newj2len", sO "j", sO "k"]
theorem ok196 : FnOk fd196 (fnB (kid (st 5) 6)) [sO "self", sO "alo", sO "ahi", sO "blo", sO "bhi"] [sO "a", sO "b", sO "b2j", sO "isbjunk", sO "besti", sO "bestj", sO "bestsize", sO "j2len", sO "nothing", sO "i", sO "j2lenget", sO "newj2len", sO "j", sO "k"] [sO "len", sO "range", sO "Match"] := FnOk.of (by kernel_rfl) (by kernel_rfl)
theorem is196 {w : World} {h : Heap} (B : Base w h) : IsFn h 196 fd196 := ⟨⟨o196 w.params, B.at (by kernel_rfl), by kernel_rfl⟩, ⟨195, o195 w.params, _, _, by kernel_rfl, B.at (by kernel_rfl), rfl, rfl⟩⟩
noncomputable def fd203 : FuncData := fnD (sO "get_matching_blocks") (sO "SequenceMatcher.get_matching_blocks") (kid (st 5) 7) [] .none .none (.str (docS (kid (st 5) 7)) 517) (.str (sO "cpy313.difflib") 194) none (.ref 202) .none
noncomputable abbrev N203 : List Str := [sO "self", sO "la", sO "lb", sO "queue", sO "matching_blocks", sO "alo", sO "ahi", sO "blo", sO "bhi", sO "i", sO "j", sO "k", sO "x", sO "i1", sO "j1", sO "k1", sO "non_adjacent", sO "i2", sO "j2", sO "k2"]
theorem ok203 : FnOk fd203 (fnB (kid (st 5) 7)) [sO "self"] [sO "la", sO "lb", sO "queue", sO "matching_blocks", sO "alo", sO "ahi", sO "blo", sO "bhi", sO "i", sO "j", sO "k", sO "x", sO "i1", sO "j1", sO "k1", sO "non_adjacent", sO "i2", sO "j2", sO "k2"] [sO "len", sO "list", sO "map", sO "Match"] := FnOk.of (by kernel_rfl) (by kernel_rfl)
theorem is203 {w : World} {h : Heap} (B : Base w h) : IsFn h 203 fd203 := ⟨⟨o203 w.params, B.at (by kernel_rfl), by kernel_rfl⟩, ⟨202, o202 w.params, _, _, by kernel_rfl, B.at (by kernel_rfl), rfl, rfl⟩⟩
noncomputable def fd210 : FuncData := fnD (sO "get_opcodes") (sO "SequenceMatcher.get_opcodes") (kid (st 5) 8) [] .none .none (.str (docS (kid (st 5) 8)) 532) (.str (sO "cpy313.difflib") 194) none (.ref 209) .none
noncomputable abbrev N210 : List Str := [sO "self", sO "i", sO "j", sO "answer", sO "ai", sO "bj", sO "size", sO "tag"]
theorem ok210 : FnOk fd210 (fnB (kid (st 5) 8)) [sO "self"] [sO "i", sO "j", sO "answer", sO "ai", sO "bj", sO "size", sO "tag"] [] := FnOk.of (by kernel_rfl) (by kernel_rfl)
theorem is210 {w : World} {h : Heap} (B : Base w h) : IsFn h 210 fd210 := ⟨⟨o210 w.params, B.at (by kernel_rfl), by kernel_rfl⟩, ⟨209, o209 w.params, _, _, by kernel_rfl, B.at (by kernel_rfl), rfl, rfl⟩⟩
noncomputable def fd225 : FuncData := fnD (sO "ratio") (sO "SequenceMatcher.ratio") (kid (st 5) 10) [] .none .none (.str (docS (kid (st 5) 10)) 550) (.str (sO "cpy313.difflib") 194) none (.ref 224) .none
theorem ok225 : FnOk fd225 (fnB (kid (st 5) 10)) [sO "self"] [sO "matches"] [sO "sum", sO "_calculate_ratio", sO "len"] := FnOk.of (by kernel_rfl) (by kernel_rfl)
theorem is225 {w : World} {h : Heap} (B : Base w h) : IsFn h 225 fd225 := ⟨⟨o225 w.params, B.at (by kernel_rfl), by kernel_rfl⟩, ⟨224, o224 w.params, _, _, by kernel_rfl, B.at (by kernel_rfl), rfl, rfl⟩⟩
noncomputable def fd232 : FuncData := fnD (sO "quick_ratio") (sO "SequenceMatcher.quick_ratio") (kid (st 5) 11) [] .none .none (.str (docS (kid (st 5) 11)) 564) (.str (sO "cpy313.difflib") 194) none (.ref 231) .none
noncomputable abbrev N232 : List Str := [sO "self", sO "fullbcount", sO "elt", sO "avail", sO "availhas", sO "matches", sO "numb"]
theorem ok232 : FnOk fd232 (fnB (kid (st 5) 11)) [sO "self"] [sO "fullbcount", sO "elt", sO "avail", sO "availhas", sO "matches", sO "numb"] [sO "_calculate_ratio", sO "len"] := FnOk.of (by kernel_rfl) (by kernel_rfl)
theorem is232 {w : World} {h : Heap} (B : Base w h) : IsFn h 232 fd232 := ⟨⟨o232 w.params, B.at (by kernel_rfl), by kernel_rfl⟩, ⟨231, o231 w.params, _, _, by kernel_rfl, B.at (by kernel_rfl), rfl, rfl⟩⟩
noncomputable def fd239 : FuncData := fnD (sO "real_quick_ratio") (sO "SequenceMatcher.real_quick_ratio") (kid (st 5) 12) [] .none .none (.str (docS (kid (st 5) 12)) 574) (.str (sO "cpy313.difflib") 194) none (.ref 238) .none
theorem ok239 : FnOk fd239 (fnB (kid (st 5) 12)) [sO "self"] [sO "la", sO "lb"] [sO "len", sO "_calculate_ratio", sO "min"] := FnOk.of (by kernel_rfl) (by kernel_rfl)
theorem is239 {w : World} {h : Heap} (B : Base w h) : IsFn h 239 fd239 := ⟨⟨o239 w.params, B.at (by kernel_rfl), by kernel_rfl⟩, ⟨238, o238 w.params, _, _, by kernel_rfl, B.at (by kernel_rfl), rfl, rfl⟩⟩
noncomputable def fd82 : FuncData := fnD (sO "__new__") (sO "Match.__new__") (kid (st 3) 4) [] .none .none (.str (sO "Create new instance of Match(a, b, size)") 283) (.str (sO "cpy313.difflib") 194) none (.ref 81) .none
theorem ok82 : FnOk fd82 (fnB (kid (st 3) 4)) [sO "_cls", sO "a", sO "b", sO "size"] [] [sO "tuple"] := FnOk.of (by kernel_rfl) (by kernel_rfl)
theorem is82 {w : World} {h : Heap} (B : Base w h) : IsFn h 82 fd82 := ⟨⟨o82 w.params, B.at (by kernel_rfl), by kernel_rfl⟩, ⟨81, o81 w.params, _, _, by kernel_rfl, B.at (by kernel_rfl), rfl, rfl⟩⟩
noncomputable def fd89 : FuncData := fnD (sO "_make") (sO "Match._make") (kid (st 3) 5) [] .none .none (.str (sO "Make a new Match object from a sequence or iterable") 293) (.str (sO "cpy313.difflib") 194) (some 92) (.ref 88) .none
theorem ok89 : FnOk fd89 (fnB (kid (st 3) 5)) [sO "cls", sO "iterable"] [sO "result"] [sO "tuple", sO "len", sO "TypeError"] := FnOk.of (by kernel_rfl) (by kernel_rfl)
theorem is89 {w : World} {h : Heap} (B : Base w h) : IsFn h 89 fd89 := ⟨⟨o89 w.params, B.at (by kernel_rfl), by kernel_rfl⟩, ⟨88, o88 w.params, _, _, by kernel_rfl, B.at (by kernel_rfl), rfl, rfl⟩⟩
noncomputable def kindL : List Int := [0, 0, 2, 2, 4, 4, 6, 7, 8, 9, 10, 11]
theorem law_kind {w : World} {A : Around} {s : Shared} {k : Int} {t : Tok} (B : Base w s.heap) (r : Room A 1) (h0 : 0 ≤ k) (h1 : k < 12) :
  codeAny (model pw w) A (.call (.ref 282) ⟨[.int k t], []⟩) (Ret s fun v _ => ∃ t', v = .int (kindL.getD k.toNat 0) t') s := by
 refine call_fR B (is282 B) ok282 r.lt (vals := [.int k t]) (.of_eq (by kernel_rfl)) rfl fun env L s' Q q1 _ e S => ?_
 conv in (fnB _) => whnf
 with_reducible refine wec (wrs (Subscript_ (List_ ?_)))
 with_reducible refine consts_ (zs := kindL) ?ai S ?_
 case ai => repeat' constructor
 refine fun xs s' S I => newList_ S (fun l s' S => ld e S (i := 0) rfl rfl ?_) (by rw [ints_len I, see]; decide)
 have hl : k.toNat < kindL.length := by show k.toNat < 12; exact (Int.toNat_lt h0).mpr h1
 refine Ex1 (ints_get I (i := k.toNat) (z := kindL.getD k.toNat 0) (by rw [lgg, lge hl]; rfl)) fun t' hx => ?_
 exact item_ (S.isList (j := 0) rfl) h0 hx (by rw [ints_len I, see]; decide) (q1 _ _ ⟨_, rfl, S.keep, S.gens, S.os, t', rfl⟩)
def Solid (o : Obj) : Prop := o.cls ≠ .type "list_iterator" ∧ o.cls ≠ .type "range_iterator" ∧ o.cls ≠ .type "enumerate" ∧ o.cls ≠ .type "zip"
def Kp (h h' : Heap) : Prop := ∀ b o, h.get? b = some o → Solid o → h'.get? b = some o
theorem Keeps.kp {h h' : Heap} (k : Keeps h h') : Kp h h' := fun b o e _ => k b o e
noncomputable abbrev rest (h : Heap) (L : Addr) (own : List (Addr × Obj)) : Heap := hideL h (L :: own.map (·.1))
theorem rest_get {h : Heap} {a : Addr} {o : Obj} (e : h.get? a = some o) (h1 : a ≠ L) (h2 : a ∉ own.map (·.1)) : (rest h L own).get? a = some o :=
 hideL_get e fun m => (lmc.mp m).elim h1 h2
theorem St.dropped {a : Addr} {o : Obj} (S : St s₀ h₀ L ns vs ((a, o) :: own) s) : (rest s.heap L own).get? a = some o :=
 rest_get (S.nw _ (.head _)).1 (S.nw _ (.head _)).2.1 (lnc.mp S.nd).1
theorem St.old (S : St s₀ h₀ L ns vs own s) : Keeps h₀ (rest s.heap L own) := S.rebase.2
theorem Ev.inter (e : Ev env L ns gs) : interactive env = false := by unfold interactive; rw [e.kind]; rfl
theorem listDict {h : Heap} {l : Addr} {its : Array Value} {n : Nat} (ho : h.get? l = some (listOf its n)) : ∀ a, Value.ref l = .ref a → ∃ ob, h.get? a = some ob ∧ ob.dict = none := fun a q => by cases q; exact ⟨_, ho, rfl⟩
theorem append_ {x : Str} {i : Nat} {l : Addr} {its : Array Value} {n j : Nat} {p1 p2 p3 p4 : Pos} {arg : Expr} {Q : Flow → Shared → Prop} (e : Ev env L ns gs) (S : St s₀ h₀ L ns vs own s)
  (hi : ns[i]? = some x) (hv : vs[i]? = some (some (.ref l))) (hj : own[j]? = some (l, listOf its n)) (hline : (p2.endLine == p3.line) = true)
  (h : wpAny (model pw w) A (eval arg env) (fun v s₁ => ∃ h₁ vs₁ own₁ j₁ its₁ n₁, St s₀ h₁ L ns vs₁ own₁ s₁ ∧ own₁[j₁]? = some (l, listOf its₁ n₁) ∧ its₁.size ≤ sizeLine ∧
   ∀ s₂, St s₀ h₁ L ns vs₁ (own₁.set j₁ (l, listOf (its₁.push v) (n₁ + 1))) s₂ → Q .next s₂) E s)
  (hst : starEach [arg] env = [(false, eval arg env)] := by rfl) :
  wpAny (model pw w) A (exec (.Expr (.Call (.Attribute (.Name x p1) (sO "append") p2) [arg] [] p3) p4) env) Q E s := by
 refine we ?_ e.inter
 refine wpAny_Call_method rfl (by rw [hst]; rfl) hline PySem.F.plainAttrs_list slot_list_append type_list_append (ld e S hi hv ?_)
 refine ⟨⟨_, S.get hj, rfl⟩, listDict (S.get hj), ?_⟩
 rw [hst]
 refine ccb rfl (cep (csc (wm h (fun v s₁ h₁ => ?_) fun _ _ y => y)))
 refine Ex5 h₁ fun h₁ vs₁ own₁ j₁ its₁ => ex1 fun n₁ => an4 fun S₁ hj₁ hz k => ?_
 refine csn ?_
 exact append_at (hsz := hz) (S₁.get hj₁) fun h' hs ho' => k _ (S₁.update hj₁ hs.extBut ho' rfl rfl)
theorem ifc {l r : Expr} {op : CmpOp} {body orelse : List Stmt} {p pos : Pos} {Q : Flow → Shared → Prop}
  (h : wpAny (model pw w) A (eval l env) (fun a s₁ => wpAny (model pw w) A (eval r env) (fun b s₂ => wpAny (model pw w) A (compareOp op a b)
   (fun c s₃ => ∃ b : Bool, c = .bool b ∧ (b = true → wpAny (model pw w) A (execs body env) Q E s₃) ∧ (b = false → wpAny (model pw w) A (execs orelse env) Q E s₃)) E s₂) E s₁) E s)
  (hm : behindInMarks op r = false := by with_unfolding_all rfl) : wpAny (model pw w) A (exec (.If (.Compare l [op] [r] p) body orelse pos) env) Q E s := by
 refine wpAny_If (wic ?_ hm)
 refine wm h (fun a s₁ h₁ => wm h₁ (fun b s₂ h₂ => wm h₂ (fun c s₃ h₃ => ?_) fun _ _ y => y) fun _ _ y => y) fun _ _ y => y
 refine Ex1 h₃ fun b => an3 fun zz1 ht hf => ?_
 subst zz1
 refine wtb ?_
 cases b with
 | true => exact ht rfl
 | false => exact hf rfl
theorem fdiv_ {a b : Int} {t u : Tok} (S : St s₀ h₀ L ns vs own s) {Q : Value → Shared → Prop} (hb : b ≠ 0) (hs : b.natAbs < 1073741824) (h : ∀ t s', St s₀ h₀ L ns vs own s' → Q (.int (a.fdiv b) t) s') :
  wpAny (model pw w) A (binaryOp .FloorDiv (.int a t) (.int b u)) Q E s := floordiv_int hb (h _ _ (S.same rfl rfl rfl)) (.inl (PyProof.noPylong_small hs))
theorem Ev.block (e : Ev env L ns gs) : env.blockKind = .function := by unfold Env.blockKind; rw [e.kind]; rfl
theorem ns_ne (e : Ev env L ns gs) {i j : Nat} {x y : Str} (hi : ns[i]? = some x) (hj : ns[j]? = some y) (h : i ≠ j) : x ≠ y := fun q => by
 subst q
 have hl : i < ns.length := by
  rcases nlg i ns.length with q | q
  ·exact q
  ·rw [lgn q] at hi; cases hi
 exact h ((List.getElem?_inj hl e.nd).mp (hi.trans hj.symm))
theorem ed2 {α : Type} [BEq α] [LawfulBEq α] {x y : α} (h : x ≠ y) : [x, y].eraseDups = [x, y] := by simp [List.eraseDups, List.eraseDupsBy, List.eraseDupsBy.loop, beq_eq_false_iff_ne.mpr h, beq_eq_false_iff_ne.mpr h.symm]
theorem ed3 {α : Type} [BEq α] [LawfulBEq α] {x y z : α} (h : x ≠ y) (h2 : x ≠ z) (h3 : y ≠ z) : [x, y, z].eraseDups = [x, y, z] := by
 simp [List.eraseDups, List.eraseDupsBy, List.eraseDupsBy.loop, beq_eq_false_iff_ne.mpr h, beq_eq_false_iff_ne.mpr h.symm, beq_eq_false_iff_ne.mpr h2, beq_eq_false_iff_ne.mpr h2.symm, beq_eq_false_iff_ne.mpr h3, beq_eq_false_iff_ne.mpr h3.symm]
theorem fm2 {α β : Type} {f : α → Option β} {a c : α} {b d : β} (h : f a = some b) (h2 : f c = some d) : [a, c].filterMap f = [b, d] := by rw [List.filterMap_cons_some h, List.filterMap_cons_some h2]; rfl
theorem fm3 {α β : Type} {f : α → Option β} {a c e : α} {b d g : β} (h : f a = some b) (h2 : f c = some d) (h3 : f e = some g) : [a, c, e].filterMap f = [b, d, g] := by rw [List.filterMap_cons_some h, fm2 h2 h3]
theorem Ev.here (e : Ev env L ns gs) {i : Nat} {x : Str} (hi : ns[i]? = some x) {m n : Nat} (h : (m == n) = true) : (env.kindOf x == some .local && m == n) = true := by rw [e.local_ x (lmo hi), h]; rfl
theorem swapped2 (e : Ev env L ns gs) {x y : Str} {p1 p2 tp vp : Pos} {k k' i j : Nat} {e1 e2 : Expr} (hi : ns[i]? = some x) (hj : ns[j]? = some y) (hij : i ≠ j) (hl : (p2.line == p1.line) = true)
  (h1 : ([e1, e2].any fun x => PySem.swappedStores.match_5 (fun _ => Bool) x (fun _ _ => true) fun _ => false) = false) (h4 : [e1, e2].all (foldedForSure 8) = false) (h5 : [e1, e2].all (constantsAlone 8) = false) :
  swappedStores [.Tuple [.Name x p1, .Name y p2] k tp] (.Tuple [e1, e2] k' vp) env = pure (some [x, y]) := by
 unfold swappedStores
 dsimp only
 rw [if_neg (by rw [e.block]; exact bfn), if_neg (by rw [h1]; decide), fm2 (b := x) (d := y), ed2 (ns_ne e hi hj hij), if_neg (fun q => Bool.noConfusion q), if_neg (by rw [h4]; decide), if_neg (by rw [h5]; decide)]
 ·exact if_pos (e.here hi (beq_self_eq_true p1.line))
 ·exact if_pos (e.here hj hl)
theorem swapped3 (e : Ev env L ns gs) {x y z : Str} {p1 p2 p3 tp vp : Pos} {k k' i j m : Nat} {e1 e2 e3 : Expr} (hi : ns[i]? = some x) (hj : ns[j]? = some y) (hm : ns[m]? = some z) (hij : i ≠ j) (him : i ≠ m) (hjm : j ≠ m) (hl : (p2.line == p1.line) = true) (hl3 : (p3.line == p1.line) = true)
  (h1 : ([e1, e2, e3].any fun x => PySem.swappedStores.match_5 (fun _ => Bool) x (fun _ _ => true) fun _ => false) = false) (h4 : [e1, e2, e3].all (foldedForSure 8) = false) (h5 : [e1, e2, e3].all (constantsAlone 8) = false) :
  swappedStores [.Tuple [.Name x p1, .Name y p2, .Name z p3] k tp] (.Tuple [e1, e2, e3] k' vp) env = pure (some [x, y, z]) := by
 unfold swappedStores
 dsimp only
 rw [if_neg (by rw [e.block]; exact bfn), if_neg (by rw [h1]; decide), fm3 (b := x) (d := y) (g := z), ed3 (ns_ne e hi hj hij) (ns_ne e hi hm him) (ns_ne e hj hm hjm), if_neg (fun q => Bool.noConfusion q), if_neg (by rw [h4]; decide), if_neg (by rw [h5]; decide)]
 ·exact if_pos (e.here hi (beq_self_eq_true p1.line))
 ·exact if_pos (e.here hj hl)
 ·exact if_pos (e.here hm hl3)
noncomputable abbrev tupO (xs : Array Value) : Obj := ⟨.type "tuple", none, .seq xs 0, #[]⟩
theorem extBut_size {h h' : Heap} (x : Heap.ExtBut h.objs.size h h') : Keeps h h' := fun b o e => x b o (Nat.ne_of_lt (hli e)) e
theorem asg2 {x y : Str} {p1 p2 tp vp pos : Pos} {k k' i j : Nat} {e1 e2 : Expr} {Q : Flow → Shared → Prop} (e : Ev env L ns gs) (hh : A.handled = none) (hi : ns[i]? = some x) (hj : ns[j]? = some y) (hij : i ≠ j) (hl : (p2.line == p1.line) = true)
  (h1 : ([e1, e2].any fun x => PySem.swappedStores.match_5 (fun _ => Bool) x (fun _ _ => true) fun _ => false) = false) (h4 : [e1, e2].all (foldedForSure 8) = false) (h5 : [e1, e2].all (constantsAlone 8) = false)
  (h : wpAny (model pw w) A (eval e1 env) (fun v1 s₁ => wpAny (model pw w) A (eval e2 env) (fun v2 s₂ => ∃ h₂ vs₂ own₂, St s₀ h₂ L ns vs₂ own₂ s₂ ∧ i < vs₂.length ∧ j < vs₂.length ∧
   ∀ s₃, St s₀ h₂ L ns ((vs₂.set j (some v2)).set i (some v1)) own₂ s₃ → Q .next s₃) E s₁) E s)
  (hst : starEach [e1, e2] env = [(false, eval e1 env), (false, eval e2 env)] := by rfl)
  (hsw : swapsWithSole [.Tuple [.Name x p1, .Name y p2] k tp] (.Tuple [e1, e2] k' vp) pos.line env = pure false := by rfl) :
  wpAny (model pw w) A (exec (.Assign [.Tuple [.Name x p1, .Name y p2] k tp] (.Tuple [e1, e2] k' vp) pos) env) Q E s := by
 refine Assign_Tuple_swapped ?_ hsw (swapped2 e hi hj hij hl h1 h4 h5)
 refine Tuple_ ?_
 rw [hst]
 refine csc (wm h (fun v1 s₁ hv1 => csc (wm hv1 (fun v2 s₂ hv2 => csn ?_) fun _ _ y => y)) fun _ _ y => y)
 refine Ex3 hv2 fun h₂ vs₂ own₂ => an4 fun S l1 l2 k => ?_
 refine newTuple_ S ?_ (by rw [see]; simp)
 intro a s₃ S₃
 refine unpackItems_tuple (items := #[v1, v2]) hh ⟨_, S₃.get (j := 0) rfl, rfl, 0, rfl⟩ fun h' hb => ?_
 have S₄ := (S₃.drop (lsc _ _)).keeps (s' := { s₃ with heap := h' }) (extBut_size hb) rfl rfl
 refine aac (wpAny_bindName (st_ e S₄ hj l2 fun s₅ S₅ => aac (wpAny_bindName (st_ e S₅ hi (by simpa using l1) fun s₆ S₆ => assignInOrder_nil (k _ S₆)))))
theorem asg3 {x y z : Str} {p1 p2 p3 tp vp pos : Pos} {k k' i j m : Nat} {e1 e2 e3 : Expr} {Q : Flow → Shared → Prop} (e : Ev env L ns gs) (hh : A.handled = none) (hi : ns[i]? = some x) (hj : ns[j]? = some y) (hm : ns[m]? = some z) (hij : i ≠ j) (him : i ≠ m) (hjm : j ≠ m) (hl : (p2.line == p1.line) = true) (hl3 : (p3.line == p1.line) = true)
  (h1 : ([e1, e2, e3].any fun x => PySem.swappedStores.match_5 (fun _ => Bool) x (fun _ _ => true) fun _ => false) = false) (h4 : [e1, e2, e3].all (foldedForSure 8) = false) (h5 : [e1, e2, e3].all (constantsAlone 8) = false)
  (h : wpAny (model pw w) A (eval e1 env) (fun v1 s₁ => wpAny (model pw w) A (eval e2 env) (fun v2 s₂ => wpAny (model pw w) A (eval e3 env) (fun v3 s₃ => ∃ h₂ vs₂ own₂, St s₀ h₂ L ns vs₂ own₂ s₃ ∧ i < vs₂.length ∧ j < vs₂.length ∧ m < vs₂.length ∧
   ∀ s₄, St s₀ h₂ L ns (((vs₂.set m (some v3)).set j (some v2)).set i (some v1)) own₂ s₄ → Q .next s₄) E s₂) E s₁) E s)
  (hst : starEach [e1, e2, e3] env = [(false, eval e1 env), (false, eval e2 env), (false, eval e3 env)] := by rfl)
  (hsw : swapsWithSole [.Tuple [.Name x p1, .Name y p2, .Name z p3] k tp] (.Tuple [e1, e2, e3] k' vp) pos.line env = pure false := by rfl) :
  wpAny (model pw w) A (exec (.Assign [.Tuple [.Name x p1, .Name y p2, .Name z p3] k tp] (.Tuple [e1, e2, e3] k' vp) pos) env) Q E s := by
 refine Assign_Tuple_swapped ?_ hsw (swapped3 e hi hj hm hij him hjm hl hl3 h1 h4 h5)
 refine Tuple_ ?_
 rw [hst]
 refine csc (wm h (fun v1 s₁ hv1 => csc (wm hv1 (fun v2 s₂ hv2 => csc (wm hv2 (fun v3 s₃ hv3 => csn ?_) fun _ _ y => y)) fun _ _ y => y)) fun _ _ y => y)
 refine Ex3 hv3 fun h₂ vs₂ own₂ => an5 fun S l1 l2 l3 k => ?_
 refine newTuple_ S ?_ (by rw [see]; simp)
 intro a s₃ S₃
 refine unpackItems_tuple (items := #[v1, v2, v3]) hh ⟨_, S₃.get (j := 0) rfl, rfl, 0, rfl⟩ fun h' hb => ?_
 have S₄ := (S₃.drop (lsc _ _)).keeps (s' := { s₃ with heap := h' }) (extBut_size hb) rfl rfl
 exact aac (wpAny_bindName (st_ e S₄ hm l3 fun s₅ S₅ => aac (wpAny_bindName (st_ e S₅ hj (by simpa using l2) fun s₆ S₆ => aac (wpAny_bindName (st_ e S₆ hi (by simpa using l1) fun s₇ S₇ => assignInOrder_nil (k _ S₇)))))))
noncomputable def Ls (h : Heap) (l : Addr) (xs : List Value) : Prop := ∃ n, h.get? l = some (listOf xs.toArray n)
theorem Ls.isList {h : Heap} {l : Addr} {xs : List Value} (x : Ls h l xs) : h.IsList l xs.toArray := let ⟨n, e⟩ := x; ⟨_, e, rfl, n, rfl⟩
theorem Ls.keeps {h h' : Heap} {l : Addr} {xs : List Value} (x : Ls h l xs) (k : Keeps h h') : Ls h' l xs := let ⟨n, e⟩ := x; ⟨n, k _ _ e⟩
theorem solid_tup {its : Array Value} : Solid (tupO its) := by refine ⟨?_, ?_, ?_, ?_⟩ <;> (show Value.type "tuple" ≠ _; decide)
theorem St.ls (S : St s₀ h₀ L ns vs own s) {j : Nat} {l : Addr} {xs : List Value} {n : Nat} (h : own[j]? = some (l, listOf xs.toArray n)) : Ls s.heap l xs := ⟨n, S.get h⟩
theorem addL_ {l b : Addr} {xs ys : List Value} {Q : Value → Shared → Prop} (S : St s₀ h₀ L ns vs own s) (hl : Ls s.heap l xs) (hb : Ls s.heap b ys) (hz : xs.length + ys.length ≤ sizeLine)
  (h : ∀ c s', St s₀ h₀ L ns vs ((c, listOf (xs ++ ys).toArray 0) :: own) s' → Q (.ref c) s') : wpAny (model pw w) A (binaryOp .Add (.ref l) (.ref b)) Q E s := by
 refine Ex1 hl fun n1 h1 => ?_
 refine Ex1 hb fun n2 h2 => ?_
 refine P.add_list h1 h2 (h _ _ ?_) (by simpa using hz)
 have e : (xs.toArray ++ ys.toArray) = (xs ++ ys).toArray := by simp
 rw [e]
 exact S.push (listOf (xs ++ ys).toArray 0) rfl rfl rfl rfl
theorem St.perm (S : St s₀ h₀ L ns vs own s) {own' : List (Addr × Obj)} (p : own'.Perm own) : St s₀ h₀ L ns vs own' s :=
 ⟨S.nsp, S.keep, S.off, fun q hq => S.nw q (p.subset hq), (p.map _).nodup_iff.mpr S.nd, S.os, S.gens⟩
def Ks (zs : List Int) : Prop := ∀ z ∈ zs, 0 ≤ z ∧ z < 12
theorem Ks.snoc {zs : List Int} {z : Int} (h : Ks zs) (h0 : 0 ≤ z) (h1 : z < 12) : Ks (zs ++ [z]) := fun y hy => by
 rcases lmp.mp hy with q | q
 ·exact h y q
 ·rw [lms.mp q]; exact ⟨h0, h1⟩
theorem Ks.cons {zs : List Int} {z : Int} (h : Ks zs) (h0 : 0 ≤ z) (h1 : z < 12) : Ks (z :: zs) := fun y hy => by
 rcases lmc.mp hy with q | q
 ·rw [q]; exact ⟨h0, h1⟩
 ·exact h y q
theorem ints_snoc {xs : List Value} {zs : List Int} (I : IntsAre xs zs) (z : Int) (t : Tok) : IntsAre (xs ++ [.int z t]) (zs ++ [z]) := IntsAre.append I (.cons z t .nil)
theorem seqP {w : World} {A : Around} {E : Value → Shared → Prop} {s : Shared} {env : Env} {st : Stmt} {rest : List Stmt} {Q : Flow → Shared → Prop} (P : Shared → Prop)
  (h1 : wpAny (model pw w) A (exec st env) (fun f s' => f = .next ∧ P s') E s) (h2 : ∀ s', P s' → wpAny (model pw w) A (execs rest env) Q E s') : wpAny (model pw w) A (execs (st :: rest) env) Q E s :=
 wec (wm h1 (fun f s' hf => by (refine An2 hf fun zz1 p => ?_; subst zz1); exact h2 s' p) fun _ _ y => y)
section
variable {pos : Pos} {rest : List Expr} {Q : List Value → Shared → Prop}
theorem it_Constant {c : Const} {n : Nat} {p : Pos} (h : wpAny (model pw w) A (eval (.Constant c n p) env) (fun v s₁ => wpAny (model pw w) A (spliced (backTo pos (starEach rest env))) (fun vs s₂ => Q (v :: vs) s₂) E s₁) E s) :
  wpAny (model pw w) A (spliced (backTo pos (starEach (.Constant c n p :: rest) env))) Q E s := wio h rfl
theorem it_Name {x : Str} {p : Pos} (h : wpAny (model pw w) A (eval (.Name x p) env) (fun v s₁ => wpAny (model pw w) A (spliced (backTo pos (starEach rest env))) (fun vs s₂ => Q (v :: vs) s₂) E s₁) E s) :
  wpAny (model pw w) A (spliced (backTo pos (starEach (.Name x p :: rest) env))) Q E s := wio h rfl
theorem it_Tuple {es : List Expr} {n : Nat} {p : Pos} (h : wpAny (model pw w) A (eval (.Tuple es n p) env) (fun v s₁ => wpAny (model pw w) A (spliced (backTo pos (starEach rest env))) (fun vs s₂ => Q (v :: vs) s₂) E s₁) E s) :
  wpAny (model pw w) A (spliced (backTo pos (starEach (.Tuple es n p :: rest) env))) Q E s := wio h rfl
theorem it_Call {f : Expr} {as : List Expr} {ks : List Keyword} {p : Pos} (h : wpAny (model pw w) A (eval (.Call f as ks p) env) (fun v s₁ => wpAny (model pw w) A (spliced (backTo pos (starEach rest env))) (fun vs s₂ => Q (v :: vs) s₂) E s₁) E s) :
  wpAny (model pw w) A (spliced (backTo pos (starEach (.Call f as ks p :: rest) env))) Q E s := wio h rfl
theorem it_BinOp {l : Expr} {o : Operator} {r : Expr} {p : Pos} (h : wpAny (model pw w) A (eval (.BinOp l o r p) env) (fun v s₁ => wpAny (model pw w) A (spliced (backTo pos (starEach rest env))) (fun vs s₂ => Q (v :: vs) s₂) E s₁) E s) :
  wpAny (model pw w) A (spliced (backTo pos (starEach (.BinOp l o r p :: rest) env))) Q E s := wio h rfl
theorem it_Attribute {v : Expr} {a : Str} {p : Pos} (h : wpAny (model pw w) A (eval (.Attribute v a p) env) (fun v s₁ => wpAny (model pw w) A (spliced (backTo pos (starEach rest env))) (fun vs s₂ => Q (v :: vs) s₂) E s₁) E s) :
  wpAny (model pw w) A (spliced (backTo pos (starEach (.Attribute v a p :: rest) env))) Q E s := wio h rfl
theorem it_Compare {l : Expr} {os : List CmpOp} {rs : List Expr} {p : Pos} (h : wpAny (model pw w) A (eval (.Compare l os rs p) env) (fun v s₁ => wpAny (model pw w) A (spliced (backTo pos (starEach rest env))) (fun vs s₂ => Q (v :: vs) s₂) E s₁) E s) :
  wpAny (model pw w) A (spliced (backTo pos (starEach (.Compare l os rs p :: rest) env))) Q E s := wio h rfl
theorem it_GeneratorExp {v : Expr} {g : List Comprehension} {sc : Scope} {p : Pos} (h : wpAny (model pw w) A (eval (.GeneratorExp v g sc p) env) (fun v s₁ => wpAny (model pw w) A (spliced (backTo pos (starEach rest env))) (fun vs s₂ => Q (v :: vs) s₂) E s₁) E s) :
  wpAny (model pw w) A (spliced (backTo pos (starEach (.GeneratorExp v g sc p :: rest) env))) Q E s := wio h rfl
theorem it_nil (h : Q [] s) : wpAny (model pw w) A (spliced (backTo pos (starEach [] env))) Q E s := wpAny_items_nil h
end
inductive Thing (h : Heap) : Value → Nat → Prop
 | i0 (t : Tok) : Thing h (.int 0 t) 0
 | bf : Thing h (.bool false) 1
 | i1 (t : Tok) : Thing h (.int 1 t) 2
 | bt : Thing h (.bool true) 3
 | t1 {a : Addr} {t : Tok} : h.get? a = some (tupO #[.int 1 t]) → Thing h (.ref a) 4
 | tt {a : Addr} : h.get? a = some (tupO #[.bool true]) → Thing h (.ref a) 5
 | se (t : Tok) : Thing h (.str (sO "") t) 6
 | sa (t : Tok) : Thing h (.str (sO "a") t) 7
 | sb (t : Tok) : Thing h (.str (sO "b") t) 8
 | no : Thing h .none 9
 | i2 (t : Tok) : Thing h (.int 2 t) 10
 | t0 {a : Addr} : h.get? a = some (tupO #[]) → Thing h (.ref a) 11
noncomputable def thingD : Nat → PyData
 | 0 => .int 0 | 1 => .bool false | 2 => .int 1 | 3 => .bool true | 4 => .tuple [.int 1] | 5 => .tuple [.bool true]
 | 6 => .str (sO "") | 7 => .str (sO "a") | 8 => .str (sO "b") | 9 => .none | 10 => .int 2 | _ => .tuple []
theorem Thing.reads {h : Heap} {v : Value} {k : Nat} (x : Thing h v k) : Reads h v (thingD k) [] := by
 cases x with
 | i0 t => exact .int _ _
 | bf => exact .bool _
 | i1 t => exact .int _ _
 | bt => exact .bool _
 | t1 e => exact .tuple (vs := #[_]) (xs := [.int 1]) e rfl rfl (.cons (as := []) (bs := []) (.int _ _) .nil)
 | tt e => exact .tuple (vs := #[_]) (xs := [.bool true]) e rfl rfl (.cons (as := []) (bs := []) (.bool _) .nil)
 | se t => exact .str _ _
 | sa t => exact .str _ _
 | sb t => exact .str _ _
 | no => exact .none
 | i2 t => exact .int _ _
 | t0 e => exact .tuple (vs := #[]) (xs := []) e rfl rfl .nil
theorem Thing.kp {h h' : Heap} {v : Value} {k : Nat} (x : Thing h v k) (p : Kp h h') : Thing h' v k := by
 cases x with
 | i0 t => exact .i0 t
 | bf => exact .bf
 | i1 t => exact .i1 t
 | bt => exact .bt
 | t1 e => exact .t1 (p _ _ e solid_tup)
 | tt e => exact .tt (p _ _ e solid_tup)
 | se t => exact .se t
 | sa t => exact .sa t
 | sb t => exact .sb t
 | no => exact .no
 | i2 t => exact .i2 t
 | t0 e => exact .t0 (p _ _ e solid_tup)
theorem Thing.keeps {h h' : Heap} {v : Value} {k : Nat} (x : Thing h v k) (p : Keeps h h') : Thing h' v k := x.kp p.kp
theorem Thing.lt {h : Heap} {v : Value} {k : Nat} (x : Thing h v k) : k < 12 := by cases x <;> decide
inductive All2 {α β : Type} (R : α → β → Prop) : List α → List β → Prop
 | nil : All2 R [] []
 | cons {a : α} {b : β} {as : List α} {bs : List β} : R a b → All2 R as bs → All2 R (a :: as) (b :: bs)
theorem All2.at {α β : Type} {R : α → β → Prop} {as : List α} {bs : List β} (h : All2 R as bs) : ∀ {i : Nat} {b : β}, bs[i]? = some b → ∃ a, as[i]? = some a ∧ R a b := by
 induction h with
 | nil => intro i b q; cases q
 | cons r _ ih =>
  intro i b q
  cases i with
  | zero => cases q; exact ⟨_, rfl, r⟩
  | succ i => exact ih q
theorem law_thing {w : World} {A : Around} {s : Shared} {k : Int} {t : Tok} (B : Base w s.heap) (r : Room A 1) (h0 : 0 ≤ k) (h1 : k < 12) :
  codeAny (model pw w) A (.call (.ref 275) ⟨[.int k t], []⟩) (Ret s fun v s' => Thing s'.heap v k.toNat) s := by
 refine call_fR B (is275 B) ok275 r.lt (vals := [.int k t]) (.of_eq (by kernel_rfl)) rfl fun env L s' Q q1 _ e S => ?_
 conv in (fnB _) => whnf
 with_reducible refine wec (wrs (Subscript_ (List_ ?_)))
 with_reducible refine it_Constant (cint S fun t0 s' S => it_Constant (cbool (it_Constant (cint S fun t2 s' S => it_Constant (cbool (it_Tuple (Tuple_ (it_Constant (cint S fun t4 s' S => it_nil (newTuple_ S (fun a4 s' S => ?_) ?_)))))))))); rotate_left
 ·rw [see]; exact nlo rfl
 with_reducible refine it_Tuple (Tuple_ (it_Constant (cbool (it_nil (newTuple_ S (fun a5 s' S => it_Constant (cstr S fun t6 s' S => it_Constant (cstr S fun t7 s' S => it_Constant (cstr S fun t8 s' S => it_Constant (cnone (it_Constant (cint S fun t10 s' S => ?_))))))) ?_))))); rotate_left
 ·rw [see]; exact nlo rfl
 with_reducible refine it_Tuple (Tuple_ (it_nil (newTuple_ S (fun a11 s' S => it_nil (newList_ S (fun l s' S => ?_) ?_)) (nzl _)))); rotate_left
 ·rw [see]; exact nlo rfl
 refine ld e S (i := 0) rfl rfl ?_
 have T : All2 (fun v k => Thing s'.heap v k) _ [0, 1, 2, 3, 4, 5, 6, 7, 8, 9, 10, 11] := .cons (.i0 t0) (.cons .bf (.cons (.i1 t2) (.cons .bt (.cons (.t1 (S.get (j := 3) rfl)) (.cons (.tt (S.get (j := 2) rfl)) (.cons (.se t6) (.cons (.sa t7) (.cons (.sb t8) (.cons .no (.cons (.i2 t10) (.cons (.t0 (S.get (j := 1) rfl)) .nil)))))))))))
 obtain ⟨v, hx, T⟩ := T.at (i := k.toNat) (b := k.toNat) (by
  have := (Int.toNat_lt h0).mpr h1
  generalize k.toNat = n at this
  exact (by decide : ∀ n, n < 12 → [0, 1, 2, 3, 4, 5, 6, 7, 8, 9, 10, 11][n]? = some n) n this)
 exact item_ (S.isList (j := 0) rfl) h0 hx (by rw [see]; exact nlo rfl) (q1 _ _ ⟨_, rfl, S.keep, S.gens, S.os, T⟩)
noncomputable def kd (k : Int) : Int := kindL.getD k.toNat 0
noncomputable def addF (acc : List Int) (k : Int) : List Int := if (acc.map kd).any (· == kd k) then acc else acc ++ [k]
noncomputable def firstsL (zs : List Int) : List Int := zs.foldl addF []
theorem firstsL_snoc (zs : List Int) (z : Int) : firstsL (zs ++ [z]) = addF (firstsL zs) z := by simp [firstsL, List.foldl_append]
theorem addF_len (acc : List Int) (k : Int) : (addF acc k).length ≤ acc.length + 1 := by unfold addF; split <;> simp
theorem firstsL_len (zs : List Int) : (firstsL zs).length ≤ zs.length := by
 have : ∀ (zs acc : List Int), (zs.foldl addF acc).length ≤ acc.length + zs.length := by
  intro zs
  induction zs with
  | nil => intro acc; simp
  | cons z r ih => intro acc; simp only [List.foldl_cons, List.length_cons]; have h1 := ih (addF acc z); have h2 := addF_len acc z; lia
 simpa [firstsL] using this zs []
theorem take_snoc {α : Type} {l : List α} {j : Nat} {x : α} (h : l[j]? = some x) : l.take (j + 1) = l.take j ++ [x] := by
 rw [List.take_succ, h]; rfl
theorem lt_of_get {α : Type} {l : List α} {j : Nat} {x : α} (h : l[j]? = some x) : j < l.length := by
 rcases nlg j l.length with q | q
 ·exact q
 ·rw [lgn q] at h; cases h
theorem mem_of_get {α : Type} {l : List α} {j : Nat} {x : α} (h : l[j]? = some x) : x ∈ l := lmo h
theorem gl_kind {w : World} {h : Heap} (B : Base w h) : Gl h (sO "_law_kind") (.ref 282) := B.glob (by kernel_rfl)
theorem ls_off {s₀ s : Shared} {h₀ : Heap} {L : Addr} {ns : List Str} {vs : List (Option Value)} {own : List (Addr × Obj)} (S : St s₀ h₀ L ns vs own s) {l : Addr} {xs : List Value} (hl : Ls h₀ l xs) : l ≠ L ∧ l ∉ own.map (·.1) := by
 refine Ex1 hl fun n hn => ?_
 refine ⟨fun q => ?_, fun q => ?_⟩
 ·rw [q, S.off] at hn; cases hn
 ·refine Ex1 (lmm.mp q) fun p => an2 fun hp zz1 => ?_
  subst zz1
  rw [(S.nw p hp).2.2] at hn; cases hn
noncomputable abbrev At (vs : List (Option Value)) (i : Nat) (v : Value) : Prop := vs[i]? = some (some v)
theorem At.ne {vs : List (Option Value)} {i j : Nat} {v : Value} {u : Option Value} (h : At vs i v) (n : (j == i) = false := by rfl) : At (vs.set j u) i v := (List.getElem?_set_ne (beq_eq_false_iff_ne.mp n)).trans h
theorem At.eq {vs : List (Option Value)} {i : Nat} {v : Value} (h : i < vs.length) : At (vs.set i (some v)) i v := List.getElem?_set_self h
theorem ltS {vs : List (Option Value)} {i j : Nat} {u : Option Value} (h : i < vs.length) : i < (vs.set j u).length := by rw [lls]; exact h
theorem At.lt {vs : List (Option Value)} {i : Nat} {v : Value} (h : At vs i v) : i < vs.length := lt_of_get h
end
section
open PySem PySem.W PyProof.Rows PySem.SeqAt
variable {w : World} {A : Around} {E : Value → Shared → Prop} {s₀ s s₁ : Shared} {env : Env} {h₀ : Heap} {L : Addr} {ns gs : List Str} {vs : List (Option Value)} {own : List (Addr × Obj)}
def HashIs (w : World) (v : Value) (z : Int) : Prop := ∀ (A : Around) (E : Value → Shared → Prop) (s : Shared) (Q : Int → Shared → Prop), (∀ n, Q z { s with toks := s.toks + n }) → wpAny (model pw w) A (pyHash v) Q E s
theorem hash_int (w : World) (k : Int) (t : Tok) : HashIs w (.int k t) (hashInt k) := fun A E s Q h => wpAny_pyHash_int (h 1)
theorem hash_str (w : World) (x : Str) (t : Tok) : HashIs w (.str x t) (hashStr w x) := fun A E s Q h => wpAny_pyHash_str (h 1)
theorem hash_bool (w : World) (b : Bool) : HashIs w (.bool b) (hashInt (if b then 1 else 0)) := fun A E s Q h => by
 have hr := rawHash_range (if b then 1 else 0)
 have hT : s.TypeIs (.bool b) "bool" := rfl
 unfold pyHash
 show wpAny _ _ (pyHashByItsType (.bool b)) Q E s
 unfold pyHashByItsType
 refine wb (wpAny_cRoomFor_byValue rfl ?_)
 refine wb (wpAny_specialOf hT F.slot_bool_hash.lookup ?_)
 show wpAny _ _ (if (some (Value.builtin "int.__hash__") == some Value.none) = true then _ else _) Q E s
 rw [if_neg (by rw [beq_builtin_none]; exact bfn)]
 refine wb (wpAny_specialOf hT F.slot_bool_hash.lookup ?_)
 show wpAny _ _ (callSpecialIfBoundUnlessNone? (.bool b) "__hash__" _ >>= _) Q E s
 refine wb (wpAny_callSpecialIfBoundUnlessNone?_slot hT F.slot_bool_hash
  (wce F.slot_bool_hash hT entry_int_hash
   (show wpAny _ _ (do ret (← mkInt (rawHash (if b then 1 else 0)))) _ _ s from wpAny_ret_mkInt ?_) (args_int_hash _)))
 show wpAny _ _ (if (decide (-(2 : Int) ^ 63 ≤ rawHash (if b then 1 else 0)) && decide (rawHash (if b then 1 else 0) < 2 ^ 63)) = true then _ else _) Q E _
 rw [if_pos (by rw [decide_eq_true hr.1, decide_eq_true hr.2]; rfl)]
 exact wpp (h 1)
theorem hash_none (w : World) : HashIs w .none 0xFCA86420 := fun A E s Q h => by
 have hT : s.TypeIs .none "NoneType" := rfl
 unfold pyHash
 show wpAny _ _ (pyHashByItsType .none) Q E s
 unfold pyHashByItsType
 refine wb (wpAny_cRoomFor_byValue rfl ?_)
 refine wb (wpAny_specialOf hT F.slot_NoneType_hash.lookup ?_)
 show wpAny _ _ (if (some (Value.builtin "NoneType.__hash__") == some Value.none) = true then _ else _) Q E s
 rw [if_neg (by rw [beq_builtin_none]; exact bfn)]
 refine wb (wpAny_specialOf hT F.slot_NoneType_hash.lookup ?_)
 show wpAny _ _ (callSpecialIfBoundUnlessNone? .none "__hash__" _ >>= _) Q E s
 refine wb (wpAny_callSpecialIfBoundUnlessNone?_slot hT F.slot_NoneType_hash
  (wce F.slot_NoneType_hash hT F.entry_NoneType_hash
   (show wpAny _ _ (do ret (← mkInt 0xFCA86420)) _ _ s from wpAny_ret_mkInt ?_) (F.args_NoneType_hash_1 _)))
 exact wpp (h 1)
theorem hash_tuple {w : World} {A : Around} {E : Value → Shared → Prop} {s : Shared} {Q : Int → Shared → Prop} {a : Addr} {xs : List Value} {zs : List Int} (hu : A.units < cLine) (ho : s.heap.get? a = some (tupO xs.toArray)) (hi : All2 (HashIs w) xs zs)
  (h : ∀ n, Q (reduceHash (Builtin.Tuple.tupleHashOf zs)) { s with toks := s.toks + n }) : wpAny (model pw w) A (pyHash (.ref a)) Q E s := by
 have hT : s.TypeIs (.ref a) "tuple" := ⟨_, ho, rfl⟩
 unfold pyHash
 show wpAny _ _ (pyHashByItsType (.ref a)) Q E s
 unfold pyHashByItsType
 refine wb (wpAny_cRoomFor_or (.inr hu) ?_)
 refine wb (wpAny_specialOf hT F.slot_tuple_hash.lookup ?_)
 show wpAny _ _ (if (some (Value.builtin "tuple.__hash__") == some Value.none) = true then _ else _) Q E s
 rw [if_neg (by rw [beq_builtin_none]; exact bfn)]
 refine wb (wpAny_specialOf hT F.slot_tuple_hash.lookup ?_)
 show wpAny _ _ (callSpecialIfBoundUnlessNone? (.ref a) "__hash__" _ >>= _) Q E s
 refine wb (wpAny_callSpecialIfBoundUnlessNone?_slot hT F.slot_tuple_hash (wce F.slot_tuple_hash hT F.entry_tuple_hash ?_ (F.args_tuple_hash_1 _)))
 show wpAny _ _ (Builtin.Tuple.tupleItemsOf (.ref a) >>= _) _ _ s
 refine wb (wpAny_tupleItemsOf ho rfl ?_)
 refine wb ?_
 rw [← Array.forIn_toList]
 refine wpAny_forIn_list _
  (fun rest (b : Array Int) s' => ∃ left, All2 (HashIs w) rest left ∧ b.toList ++ left = zs ∧ ∃ n, s' = { s with toks := s.toks + n })
  _ ?_ ?_ _ _ ⟨zs, by simpa using hi, by simp, 0, rfl⟩
 ·refine fun x rest b s' => ex1 fun left => an3 fun hl hb => ex1 fun n zz1 => ?_
  subst zz1
  cases hl with
  | @cons _ z _ zr h1 hl' =>
   refine wb (h1 _ _ _ _ fun m => ?_)
   first
    | exact wpp ⟨zr, hl', by simp [← hb], n + m, by simp [Nat.add_assoc]⟩
    | exact wb (wpp (wpp ⟨zr, hl', by simp [← hb], n + m, by simp [Nat.add_assoc]⟩))
 ·refine fun b s' => ex1 fun left => an3 fun hl hb => ex1 fun n zz1 => ?_
  subst zz1
  cases hl
  rw [lan] at hb
  show wpAny _ _ (retInt (Builtin.Tuple.tupleHashOf b.toList)) _ _ _
  rw [hb]
  refine wpAny_ret_mkInt ?_
  show wpAny _ _ (if (decide (-(2 : Int) ^ 63 ≤ Builtin.Tuple.tupleHashOf zs) && decide (Builtin.Tuple.tupleHashOf zs < 2 ^ 63)) = true then _ else _) Q E _
  unfold reduceHash at h
  by_cases hr : (decide (-(2 : Int) ^ 63 ≤ Builtin.Tuple.tupleHashOf zs) && decide (Builtin.Tuple.tupleHashOf zs < 2 ^ 63)) = true
  ·rw [if_pos hr]
   rw [if_pos hr] at h
   exact wpp (by simpa [Nat.add_assoc] using h (n + 1))
  ·rw [if_neg hr]
   rw [if_neg hr] at h
   exact wb (wpAny_rule (wpp (by simpa [Nat.add_assoc] using h (n + 1))))
noncomputable def hashT (w : World) : Nat → Int
 | 0 => hashInt 0 | 1 => hashInt 0 | 2 => hashInt 1 | 3 => hashInt 1
 | 4 => reduceHash (Builtin.Tuple.tupleHashOf [hashInt 1]) | 5 => reduceHash (Builtin.Tuple.tupleHashOf [hashInt 1])
 | 6 => hashStr w (sO "") | 7 => hashStr w (sO "a") | 8 => hashStr w (sO "b") | 9 => 0xFCA86420 | 10 => hashInt 2
 | _ => reduceHash (Builtin.Tuple.tupleHashOf [])
theorem Thing.hash {w : World} {A : Around} {E : Value → Shared → Prop} {s : Shared} {Q : Int → Shared → Prop} {v : Value} {k : Nat} (T : Thing s.heap v k) (hu : A.units < cLine)
  (h : ∀ n, Q (hashT w k) { s with toks := s.toks + n }) : wpAny (model pw w) A (pyHash v) Q E s := by
 cases T with
 | i0 t => exact hash_int w _ _ _ _ _ _ h
 | bf => exact hash_bool w _ _ _ _ _ h
 | i1 t => exact hash_int w _ _ _ _ _ _ h
 | bt => exact hash_bool w _ _ _ _ _ h
 | t1 e => exact hash_tuple (xs := [_]) (zs := [_]) hu e (.cons (hash_int w _ _) .nil) h
 | tt e => exact hash_tuple (xs := [_]) (zs := [_]) hu e (.cons (hash_bool w _) .nil) h
 | se t => exact hash_str w _ _ _ _ _ _ h
 | sa t => exact hash_str w _ _ _ _ _ _ h
 | sb t => exact hash_str w _ _ _ _ _ _ h
 | no => exact hash_none w _ _ _ _ h
 | i2 t => exact hash_int w _ _ _ _ _ _ h
 | t0 e => exact hash_tuple (xs := []) (zs := []) hu e .nil h
theorem hashT_rep (w : World) : ∀ a, a < 12 → hashT w a = hashT w (kd a).toNat
 | 0, _ => rfl | 1, _ => rfl | 2, _ => rfl | 3, _ => rfl | 4, _ => rfl | 5, _ => rfl | 6, _ => rfl | 7, _ => rfl | 8, _ => rfl | 9, _ => rfl | 10, _ => rfl | 11, _ => rfl
theorem hashT_kind (w : World) {a b : Nat} (ha : a < 12) (hb : b < 12) (h : kd a = kd b) : hashT w a = hashT w b := by
 rw [hashT_rep w a ha, hashT_rep w b hb, h]
theorem thing_eqv : ∀ a < 12, ∀ b < 12, PyData.eqv (thingD a) (thingD b) = decide (kd a = kd b) := by decide +kernel
theorem thing_lay : ∀ a < 12, (thingD a).canLay0 = true := by decide +kernel
theorem thing_deep : ∀ a < 12, (thingD a).depth ≤ 1 := by decide +kernel
theorem Thing.eqAt {A : Around} {s : Shared} {u v : Value} {a b : Nat} (x : Thing s.heap u a) (y : Thing s.heap v b) (hu : A.units + 1 < cLine) : EqAt A s u v (decide (kd a = kd b)) := by
 have := eqAt_reads _ _ A s u v _ _ x.reads y.reads (thing_lay _ x.lt) (thing_lay _ y.lt) (by have := thing_deep _ x.lt; lia)
 rwa [thing_eqv _ x.lt _ y.lt] at this
noncomputable abbrev Ent := Nat × Value × Value
noncomputable abbrev entT (w : World) (x : Ent) : DictEntry := ⟨hashT w x.1, x.2.1, x.2.2⟩
noncomputable abbrev dictT (w : World) (D : List Ent) (n : Nat) : Obj := dictOf (D.map (entT w)) n
structure TD (h : Heap) (D : List Ent) : Prop where
 th : ∀ x ∈ D, Thing h x.2.1 x.1
 nd : (D.map fun x => kd x.1).Nodup
noncomputable def fnd (D : List Ent) (k : Nat) : Option Nat := D.findIdx? fun x => kd x.1 == kd k
theorem fnd_none {D : List Ent} {k : Nat} : fnd D k = none ↔ ∀ (j : Nat) (x : Ent), D[j]? = some x → kd x.1 ≠ kd k := by
 unfold fnd
 rw [List.findIdx?_eq_none_iff]
 constructor
 ·intro h j x hx
  have := h x (lmo hx)
  simpa using this
 ·intro h x hx
  obtain ⟨j, hj, rfl⟩ := lmg.mp hx
  simpa using h j _ (lge hj)
theorem TD.uniq {h : Heap} {D : List Ent} (T : TD h D) {i j : Nat} {x y : Ent} (hi : D[i]? = some x) (hj : D[j]? = some y) (e : kd x.1 = kd y.1) : i = j := by
 have h1 : (D.map fun x => kd x.1)[i]? = some (kd x.1) := by rw [lgm, hi]; rfl
 have h2 : (D.map fun x => kd x.1)[j]? = some (kd x.1) := by rw [lgm, hj, e]; rfl
 exact (List.getElem?_inj (lt_of_get h1) T.nd).mp (h1.trans h2.symm)
theorem fnd_some {h : Heap} {D : List Ent} (T : TD h D) {k j : Nat} {x : Ent} (hj : D[j]? = some x) (e : kd x.1 = kd k) : fnd D k = some j := by
 cases hf : fnd D k with
 | none => exact absurd e (fnd_none.mp hf j x hj)
 | some i =>
  unfold fnd at hf
  refine Ex1 (lfe.mp hf) fun hi => an2 fun h1 _ => ?_
  have : kd (D[i]).1 = kd k := by simpa using h1
  rw [T.uniq (lge hi) hj (this.trans e.symm)]
theorem quiet_thing {M : Model} {A : Around} {E : Value → Shared → Prop} {s : Shared} {v : Value} {k : Nat} {Q : Bool → Shared → Prop} (T : Thing s.heap v k) (h : Q true s) : wpAny M A (eqIsQuiet 8 v) Q E s := by
 have tup : ∀ {a : Addr} {xs : List Value}, s.heap.get? a = some (tupO xs.toArray) → (∀ v ∈ xs, carriedByValue v = true) → wpAny M A (eqIsQuiet 8 (.ref a)) Q E s := by
  intro a xs ho hi
  have hT : s.TypeIs (.ref a) "tuple" := ⟨_, ho, rfl⟩
  unfold eqIsQuiet
  refine wb (wpAny_specialOf hT F.slot_tuple_eq.lookup ?_)
  show wpAny _ _ (isInstance (.ref a) (.type "tuple") >>= _) _ _ s
  refine wb (wpAny_isInstance hT isSubtype_tuple_tuple ?_)
  simp only [Bool.not_true, Bool.false_eq_true, if_false]
  refine wb (wpAny_seqItems ho rfl ?_)
  refine wb ?_
  show wpAny _ _ (forIn xs.toArray _ _) _ _ s
  rw [← Array.forIn_toList]
  refine wpAny_forIn_list _ (fun rest r s' => r.1 = none ∧ s' = s ∧ ∀ v ∈ rest, carriedByValue v = true) _ ?_ ?_ _ _ ⟨rfl, rfl, by simpa using hi⟩
  ·refine fun v rest r s' => an3 fun hr zz1 hall => ?_
   subst zz1
   rw [eqIsQuiet_byValue _ (hall v lcs)]
   refine wb (wpp ?_)
   simp only [Bool.not_true, Bool.false_eq_true, if_false]
   exact wpp ⟨rfl, rfl, fun u hu' => hall u (lom _ hu')⟩
  ·rintro ⟨r1, r2⟩ s' ⟨hr, rfl, _⟩
   simp only at hr
   subst hr
   exact wpp h
 cases T with
 | t1 e => exact tup (xs := [_]) e (by simp [carriedByValue])
 | tt e => exact tup (xs := [_]) e (by simp [carriedByValue])
 | t0 e => exact tup (xs := []) e (by simp)
 | _ => rw [eqIsQuiet_byValue _ rfl]; exact wpp h
theorem mayTell {M : Model} {A : Around} {E : Value → Shared → Prop} {s : Shared} {v : Value} {k : Nat} {stored : List Value} {Q : Bool → Shared → Prop} (T : Thing s.heap v k)
  (hst : ∀ v ∈ stored, ∃ k', Thing s.heap v k') (h : Q false s) : wpAny M A (tableMayTell v stored) Q E s := by
 unfold tableMayTell
 split
 ·exact wpp h
 ·refine wb (quiet_thing T ?_)
  simp only [Bool.not_true, Bool.false_eq_true, if_false]
  refine wb ?_
  refine wpAny_forIn_list _ (fun rest r s' => s = s' ∧ r = (none, ()) ∧ ∀ v ∈ rest, ∃ k', Thing s.heap v k') _ ?_ ?_ _ _ ⟨rfl, rfl, hst⟩
  ·refine fun x rest r s' => an3 fun zz1 zz2 hr => ?_
   subst zz1
   subst zz2
   refine Ex1 (hr x lcs) fun k' hb => ?_
   refine wb (quiet_thing hb ?_)
   simp only [Bool.not_true, Bool.false_eq_true, if_false]
   exact wpp ⟨rfl, rfl, fun v hv => hr v (lom _ hv)⟩
  ·refine fun r s' => an3 fun zz1 zz2 _ => ?_
   subst zz1
   subst zz2
   exact wpp h
noncomputable def tcode : PyData → Nat
 | .int n => if n = 0 then 0 else if n = 1 then 2 else 10
 | .bool b => if b then 3 else 1
 | .tuple [] => 11
 | .tuple (.int _ :: _) => 4
 | .tuple _ => 5
 | .str x => if x = sO "" then 6 else if x = sO "a" then 7 else 8
 | _ => 9
theorem tcode_thing : ∀ k, k < 12 → tcode (thingD k) = k := by decide +kernel
theorem Thing.inj {h : Heap} {v : Value} {a b : Nat} (x : Thing h v a) (y : Thing h v b) : a = b := by
 have e := (Reads.unique x.reads _ _ y.reads).1
 rw [← tcode_thing a x.lt, e, tcode_thing b y.lt]
theorem Thing.isStr {h : Heap} {u : Value} {x : Str} {t : Tok} {a b : Nat} (p : Thing h u a) (q : Thing h (.str x t) b) : u.isStr x = decide (kd a = kd b) := by
 cases q <;> cases p <;> first | rfl | decide +kernel
theorem rng_lt {y i n : Nat} (h : y < i + (n - i)) (hi : i ≤ n) : y < n := by rwa [Nat.add_sub_cancel' hi] at h
theorem rng_left {y i n : Nat} (hi : i ≤ n) : i + (n - i) - (y + 1) = n - (y + 1) := by rw [Nat.add_sub_cancel' hi]
def WInv (w : World) (D : List Ent) (k : Nat) (rest : List Nat) (hit : Option Nat) : Prop :=
 ∃ i, rest = (List.range' i (D.length - i)).filter (fun i => ((D[i]?.map (entT w)).map (·.hash)) == some (hashT w k)) ∧ i ≤ D.length ∧ ((hit = none ∧ ∀ (j : Nat) (x : Ent), j < i → D[j]? = some x → kd x.1 ≠ kd k) ∨ (∃ j x, hit = some j ∧ j < i ∧ D[j]? = some x ∧ kd x.1 = kd k))
structure WCons (w : World) (D : List Ent) (k y : Nat) (rest : List Nat) (hit : Option Nat) (z : Ent) : Prop where
 at_ : D[y]? = some z
 hash : ((entT w z).hash == hashT w k) = true
 same : kd z.1 = kd k → hit = none ∧ fnd D k = some y ∧ WInv w D k rest (some y)
 other : kd z.1 ≠ kd k → WInv w D k rest hit
section
variable {h : Heap} {D : List Ent} {k : Nat} {rest : List Nat} {hit : Option Nat}
theorem pr_of (T : TD h D) {v : Value} (K : Thing h v k) {j : Nat} {x : Ent} (hj : D[j]? = some x) (e : kd x.1 = kd k) : ((((D[j]?.map (entT w)).map (·.hash)) == some (hashT w k)) = true) := by
 have : hashT w x.1 = hashT w k := hashT_kind w (T.th x (lmo hj)).lt K.lt e
 rw [hj]
 exact beq_iff_eq.mpr (congrArg some this)
theorem WInv.start : WInv w D k (placesWithHash D.length (fun i => (D[i]?.map (entT w)).map (·.hash)) (hashT w k)) none :=
 ⟨0, by rw [placesWithHash, List.range_eq_range', Nat.sub_zero], nzl _, .inl ⟨rfl, fun _ _ h => absurd h (Nat.not_lt_zero _)⟩⟩
theorem WInv.cons {y : Nat} (I : WInv w D k (y :: rest) hit) (T : TD h D) {v : Value} (K : Thing h v k) : ∃ z, WCons w D k y rest hit z := by
 refine Ex1 I fun i => an3 fun hr hi hH => ?_
 refine An5 (filter_range'_cons _ _ _ _ _ hr.symm) fun hix hxn hpx hskip hrest => ?_
 have hlt := rng_lt hxn hi
 have hrest' : rest = (List.range' (y + 1) (D.length - (y + 1))).filter (fun i => ((D[i]?.map (entT w)).map (·.hash)) == some (hashT w k)) := by rw [hrest, rng_left hi]
 have hz : D[y]? = some D[y] := lge hlt
 have hHx : (hit = none ∧ ∀ (j : Nat) (x : Ent), j < y → D[j]? = some x → kd x.1 ≠ kd k) ∨ (∃ j x, hit = some j ∧ j < y ∧ D[j]? = some x ∧ kd x.1 = kd k) := by
  rcases hH with ⟨h0, hno⟩ | ⟨j, p, h1, hji, hj⟩
  ·refine .inl ⟨h0, fun j p hjx hj e => ?_⟩
   rcases nlg j i with q | q
   ·exact hno j p q hj e
   ·have := hskip j q hjx
    rw [pr_of T K hj e] at this
    cases this
  ·exact .inr ⟨j, p, h1, by exact nll hji hix, hj⟩
 refine ⟨D[y], hz, ?_, fun hkk => ?_, fun hne => ⟨y + 1, hrest', hlt, ?_⟩⟩
 ·rw [hz] at hpx
  exact beq_iff_eq.mpr (Option.some.inj (beq_iff_eq.mp hpx))
 ·rcases hHx with ⟨h0, _⟩ | ⟨j, p, _, hjx, hj, e⟩
  ·exact ⟨h0, fnd_some T hz hkk, y + 1, hrest', hlt, .inr ⟨y, D[y], rfl, nls y, hz, hkk⟩⟩
  ·exact absurd (T.uniq hj hz (e.trans hkk.symm)) (by exact Nat.ne_of_lt hjx)
 ·rcases hHx with ⟨h0, hno⟩ | ⟨j, p, h1, hjx, hj⟩
  ·refine .inl ⟨h0, fun j p hjx hj => ?_⟩
   rcases nlg j y with q | q
   ·exact hno j p q hj
   ·have : j = y := by lia
    rw [this, hz] at hj
    cases hj
    exact hne
  ·exact .inr ⟨j, p, h1, by exact nll hjx (nla y 1), hj⟩
theorem WInv.nil (I : WInv w D k [] hit) (T : TD h D) {v : Value} (K : Thing h v k) : fnd D k = hit := by
 refine Ex1 I fun i => an3 fun hr hi hH => ?_
 rcases hH with ⟨h0, hno⟩ | ⟨j, x, h0, hji, hj, e⟩
 ·rw [h0]
  refine fnd_none.mpr fun j x hx e => ?_
  rcases nlg j i with q | q
  ·exact hno j x q hx e
  ·have hj := lt_of_get hx
   have := List.filter_eq_nil_iff.mp hr.symm j (List.mem_range'_1.mpr ⟨q, by lia⟩)
   exact this (pr_of T K hx e)
 ·rw [h0]; exact fnd_some T hj e
end
section
variable {d : Addr} {D : List Ent} {n : Nat} {v : Value} {k : Nat} {Q : Option Nat → Shared → Prop}
theorem es_get (D : List Ent) (j : Nat) : ((D.map (entT w)).toArray)[j]? = D[j]?.map (entT w) := by rw [List.getElem?_toArray, lgm]
theorem es_places (D : List Ent) (k : Nat) : placesWithHash ((D.map (entT w)).toArray).size (fun i => ((D.map (entT w)).toArray)[i]?.map (·.hash)) (hashT w k) = placesWithHash D.length (fun i => (D[i]?.map (entT w)).map (·.hash)) (hashT w k) := by
 rw [lst, llm]
 exact congrArg (fun f => placesWithHash D.length f (hashT w k)) (funext fun i => by rw [es_get])
theorem walkPlainT (hu : A.units + 1 < cLine) (ho : s.heap.get? d = some (dictT w D n)) (T : TD s.heap D) (K : Thing s.heap v k) (h : Q (fnd D k) s) {rest : List Nat} (I : WInv w D k rest none) : wpAny (model pw w) A (dictWalkPlain d v (hashT w k) (D.map (entT w)).toArray rest) Q E s := by
 refine wb (wpAny_forIn_list _ (fun rest b s' => s = s' ∧ b = (none, ()) ∧ WInv w D k rest none) _ ?_ ?_ _ _ ⟨rfl, rfl, I⟩)
 ·refine fun y rest b s' => an3 fun e1 e2 I => ?_
  subst e1 e2
  refine Ex1 (I.cons T K) fun z c => ?_
  have hx : ((D.map (entT w)).toArray)[y]? = some (entT w z) := by rw [es_get, c.at_]; rfl
  simp only [hx]
  rw [if_pos c.hash]
  refine wb (wd ho rfl (wb ((T.th z (lmo c.at_)).eqAt K hu _ _ _ _ (wb (wd ho rfl ?_)))))
  show wpAny _ _ (if (n != n) = true then _ else _) _ E _
  rw [if_neg (by simp)]
  by_cases hkk : kd z.1 = kd k
  ·rw [decide_eq_true hkk]
   rw [(c.same hkk).2.1] at h
   exact wb (wpAny_rule (wpp (wpp h)))
  ·rw [decide_eq_false hkk]
   exact wb (wpAny_rule (wpp ⟨rfl, rfl, c.other hkk⟩))
 ·refine fun b s' => an3 fun e1 e2 I => ?_
  subst e1 e2
  rw [I.nil T K] at h
  exact wpp h
theorem walkT {body : Nat → Option (Option Nat) × Option Nat → Sem (ForInStep (Option (Option Nat) × Option Nat))} {Q : Option (Option Nat) × Option Nat → Shared → Prop} (T : TD s.heap D) (K : Thing s.heap v k)
  (turn : ∀ y rest hit z, WCons w D k y rest hit z → wpAny (model pw w) A (body y (none, hit)) (fun r s' => match r with | .yield b => s = s' ∧ b.1 = none ∧ WInv w D k rest b.2 | .done b => Q b s') E s)
  (fin : Q (none, fnd D k) s) {rest : List Nat} (I : WInv w D k rest none) : wpAny (model pw w) A (forIn rest (none, none) body) Q E s := by
 refine wpAny_forIn_list _ (fun rest b s' => s = s' ∧ b.1 = none ∧ WInv w D k rest b.2) _ ?_ ?_ _ _ ⟨rfl, rfl, I⟩
 ·rintro y rest ⟨b1, hit⟩ s' ⟨e1, e2, I⟩
  subst e1
  cases e2
  refine Ex1 (I.cons T K) fun z c => ?_
  exact wm (turn y rest hit z c) (fun r s' h => by cases r <;> exact h) fun _ _ x => x
 ·rintro ⟨b1, hit⟩ s' ⟨e1, e2, I⟩
  subst e1
  cases e2
  rw [I.nil T K] at fin
  exact fin
theorem tells_ {α : Type} {c : Prop} [Decidable c] {f : Bool → Sem α} {m : Sem Bool} {Q : α → Shared → Prop} (hm : ∀ Q' : Bool → Shared → Prop, Q' false s → wpAny (model pw w) A m Q' E s) (h : wpAny (model pw w) A (f false) Q E s) : wpAny (model pw w) A (if c then (pure false >>= f) else (m >>= f)) Q E s :=
 wpAny_ite_split (fun _ => wb (wpp h)) fun _ => wb (hm _ h)
theorem dictFindT (hu : A.units + 1 < cLine)
  (ho : s.heap.get? d = some (dictT w D n)) (T : TD s.heap D) (K : Thing s.heap v k) (h : Q (fnd D k) s) : wpAny (model pw w) A (dictFind d v (hashT w k)) Q E s := by
 have start := WInv.start (w := w) (D := D) (k := k)
 rw [← es_places] at start
 have plain := walkPlainT (E := E) hu ho T K h start
 have hst : ∀ v ∈ (placesWithHash ((D.map (entT w)).toArray).size (fun i => ((D.map (entT w)).toArray)[i]?.map (·.hash)) (hashT w k)).filterMap (fun i => ((D.map (entT w)).toArray)[i]?.map (·.key)), ∃ k', Thing s.heap v k' := by
  intro v hv
  refine Ex1 (List.mem_filterMap.mp hv) fun i => an2 fun _ hi => ?_
  rw [es_get] at hi
  refine Ex1 (Option.map_eq_some_iff.mp hi) fun e => an2 fun he hi => ?_
  refine Ex1 (Option.map_eq_some_iff.mp he) fun x => an2 fun hx e2 => ?_
  have := T.th x (lmo hx)
  rw [← hi, ← e2]
  exact ⟨_, this⟩
 have hany : ∀ a, v = .ref a → ¬ ((D.map (entT w)).toArray.any fun e => e.key == v && e.hash != hashT w k) = true := by
  intro a ea q
  rw [← Array.any_toList, List.any_eq_true] at q
  refine Ex1 q fun e => an2 fun hin hc => ?_
  refine Ex1 (lmm.mp (show e ∈ D.map (entT w) from hin)) fun x => an2 fun hx e2 => ?_
  simp only [Bool.and_eq_true, beq_iff_eq, bne_iff_ne, ne_eq] at hc
  rw [← e2] at hc
  have q : Thing s.heap (entT w x).key x.1 := T.th x hx
  rw [hc.1] at q
  exact hc.2 (congrArg (hashT w) (q.inj K))
 unfold dictFind
 try with_reducible refine whh ?_
 refine wb (wpAny_dictEntries ho rfl ?_)
 generalize hes : (D.map (entT w)).toArray = es at plain hst hany start ⊢
 have hex : ∀ {y : Nat} {z : Ent}, D[y]? = some z → es[y]? = some (entT w z) := fun {y z} q => by rw [← hes, es_get, q]; rfl
 dsimp only
 split
 ·rename_i x t
  by_cases hs : (es.all fun e => isExactStrKey e.key) = true
  ·rw [if_pos hs]
   unfold foundByValue
   cases hf : es.findIdx? (·.key.isStr x) with
   | none =>
    have hn : fnd D k = none := fnd_none.mpr fun j y hy e => by
     have := Array.findIdx?_eq_none_iff.mp hf (entT w y) (Array.mem_of_getElem? (hex hy))
     rw [(T.th y (lmo hy)).isStr K, decide_eq_true e] at this
     cases this
    rw [hn] at h
    exact wpp h
   | some i =>
    refine Ex1 (Array.findIdx?_eq_some_iff_getElem.mp hf) fun hi => an2 fun h1 _ => ?_
    have hi' : i < D.length := by rw [← hes] at hi; simpa using hi
    have hx := hex (lge hi')
    have hx' : es[i] = entT w D[i] := by rw [Array.getElem?_eq_getElem hi] at hx; exact Option.some.inj hx
    rw [hx', (T.th _ (List.getElem_mem hi')).isStr K, decide_eq_true_eq] at h1
    simp only [hx]
    refine wb (wd ho rfl (wb ((T.th _ (List.getElem_mem hi')).eqAt K hu _ _ _ _ (wb (wd ho rfl ?_)))))
    show wpAny _ _ (if (n != n) = true then _ else _) _ E _
    rw [if_neg (by simp), decide_eq_true h1]
    rw [fnd_some T (lge hi') h1] at h
    exact wb (wpAny_rule (wpp h))
  ·rw [if_neg hs]
   refine wpAny_ite_split (fun _ => plain) fun _ => ?_
   refine tells_ (fun _ q => mayTell K hst q) ?_
   rw [if_neg (by simp)]
   refine wb (walkT T K (fun y rest hit z c => ?_) (wpp h) start)
   have K' := (T.th z (lmo c.at_)).eqAt K hu
   have c1 := c.same
   have c2 := c.other
   rw [hex c.at_]
   dsimp only
   rw [if_pos c.hash]
   refine wb (wd ho rfl (wb (K' _ _ _ _ (wb (wd ho rfl ?_)))))
   rw [if_neg (by simp)]
   by_cases hkk : kd z.1 = kd k
   ·rw [decide_eq_true hkk, if_pos rfl]
    refine An3 (c1 hkk) fun h0 h1 h2 => ?_
    rw [h0, if_neg (by simp)]
    rw [h1] at h
    exact wb (wpAny_rule (wpAny_ite_split (fun _ => wpp (wpp h)) fun _ => wpp ⟨rfl, rfl, h2⟩))
   ·rw [decide_eq_false hkk, if_neg (by simp)]
    exact wb (wpAny_rule (by rw [if_neg (by simp)]; exact wpp ⟨rfl, rfl, c2 hkk⟩))
 ·refine wpAny_ite_split (fun _ => plain) fun _ => ?_
  split
  ·rw [if_neg (hany _ rfl)]
   refine tells_ (fun _ q => mayTell K hst q) ?_
   rw [if_neg (by simp)]
   refine wb (walkT T K (fun y rest hit z c => ?_) (wpp h) start)
   have K' := (T.th z (lmo c.at_)).eqAt K hu
   have c1 := c.same
   have c2 := c.other
   rw [hex c.at_]
   dsimp only
   rw [if_pos c.hash]
   refine wb (wd ho rfl (wb (K' _ _ _ _ (wb (wd ho rfl ?_)))))
   rw [if_neg (by simp)]
   by_cases hkk : kd z.1 = kd k
   ·rw [decide_eq_true hkk, if_pos rfl]
    refine An3 (c1 hkk) fun h0 h1 h2 => ?_
    rw [h0, if_neg (by simp)]
    rw [h1] at h
    exact wb (wpAny_rule (wpAny_ite_split (fun _ => wpp (wpp h)) fun _ => wpp ⟨rfl, rfl, h2⟩))
   ·rw [decide_eq_false hkk, if_neg (by simp)]
    exact wb (wpAny_rule (by rw [if_neg (by simp)]; exact wpp ⟨rfl, rfl, c2 hkk⟩))
  ·refine tells_ (fun _ q => mayTell K hst q) ?_
   rw [if_neg (by simp)]
   refine wb (walkT T K (fun y rest hit z c => ?_) (wpp h) start)
   have K' := (T.th z (lmo c.at_)).eqAt K hu
   have c1 := c.same
   have c2 := c.other
   rw [hex c.at_]
   dsimp only
   rw [if_pos c.hash]
   refine wb (wd ho rfl (wb (K' _ _ _ _ (wb (wd ho rfl ?_)))))
   rw [if_neg (by simp)]
   by_cases hkk : kd z.1 = kd k
   ·rw [decide_eq_true hkk, if_pos rfl]
    refine An3 (c1 hkk) fun h0 h1 h2 => ?_
    rw [h0, if_neg (by simp)]
    rw [h1] at h
    exact wb (wpAny_rule (wpAny_ite_split (fun _ => wpp (wpp h)) fun _ => wpp ⟨rfl, rfl, h2⟩))
   ·rw [decide_eq_false hkk, if_neg (by simp)]
    exact wb (wpAny_rule (by rw [if_neg (by simp)]; exact wpp ⟨rfl, rfl, c2 hkk⟩))
end
noncomputable def valAt (D : List Ent) (k : Nat) : Option Value := (fnd D k).bind fun i => (D[i]?).map (·.2.2)
noncomputable def setE (D : List Ent) (k : Nat) (v u : Value) : List Ent :=
 match fnd D k with
 | some i => D.modify i fun x => (x.1, x.2.1, u)
 | none => D ++ [(k, v, u)]
theorem fnd_lt {D : List Ent} {k i : Nat} (h : fnd D k = some i) : ∃ x, D[i]? = some x ∧ kd x.1 = kd k := by
 unfold fnd at h
 refine Ex1 (lfe.mp h) fun hi => an2 fun h1 _ => ?_
 exact ⟨_, lge hi, by simpa using h1⟩
theorem valAt_none {D : List Ent} {k : Nat} : valAt D k = none ↔ fnd D k = none := by
 unfold valAt
 cases h : fnd D k with
 | none => simp
 | some i => (refine Ex1 (fnd_lt h) fun x => an2 fun hx _ => ?_); simp [hx]
theorem TD.keeps {h h' : Heap} {D : List Ent} (T : TD h D) (k : Keeps h h') : TD h' D := ⟨fun x hx => (T.th x hx).keeps k, T.nd⟩
theorem TD.push {h : Heap} {D : List Ent} (T : TD h D) {k : Nat} {v u : Value} (K : Thing h v k) (hf : fnd D k = none) : TD h (D ++ [(k, v, u)]) := by
 refine ⟨fun x hx => ?_, ?_⟩
 ·rcases lmp.mp hx with q | q
  ·exact T.th x q
  ·rw [lms.mp q]; exact K
 ·rw [lma, List.nodup_append]
  refine ⟨T.nd, by simp, fun a ha b hb => ?_⟩
  refine Ex1 (lmm.mp ha) fun x => an2 fun hx zz1 => ?_
  subst zz1
  obtain ⟨j, hj, rfl⟩ := lmg.mp hx
  simp only [lmn, List.map_nil, lms] at hb
  rw [hb]
  exact fnd_none.mp hf j _ (lge hj)
theorem mem_modify {α : Type} {f : α → α} : ∀ {l : List α} {i : Nat} {x : α}, x ∈ l.modify i f → x ∈ l ∨ ∃ y ∈ l, x = f y
 | [], i, x, h => by simp at h
 | a :: l, 0, x, h => by
  simp only [List.modify_zero_cons, lmc] at h
  rcases h with rfl | h
  ·exact .inr ⟨a, by simp, rfl⟩
  ·exact .inl (by simp [h])
 | a :: l, i + 1, x, h => by
  simp only [List.modify_succ_cons, lmc] at h
  rcases h with rfl | h
  ·exact .inl (by simp)
  ·rcases mem_modify h with q | ⟨y, hy, q⟩
   ·exact .inl (by simp [q])
   ·exact .inr ⟨y, by simp [hy], q⟩
theorem map_modify {α β : Type} {f : α → α} {g : α → β} (e : ∀ x, g (f x) = g x) : ∀ (l : List α) (i : Nat), (l.modify i f).map g = l.map g
 | [], i => by simp
 | a :: l, 0 => by simp [List.modify_zero_cons, e]
 | a :: l, i + 1 => by simp [List.modify_succ_cons, map_modify e l i]
theorem map_modify' {α β : Type} {f : α → α} {f' : β → β} {g : α → β} (e : ∀ x, g (f x) = f' (g x)) : ∀ (l : List α) (i : Nat), (l.modify i f).map g = (l.map g).modify i f'
 | [], i => by simp
 | a :: l, 0 => by simp [List.modify_zero_cons, e]
 | a :: l, i + 1 => by simp [List.modify_succ_cons, map_modify' e l i]
theorem TD.set {h : Heap} {D : List Ent} (T : TD h D) {k : Nat} {v u : Value} (K : Thing h v k) : TD h (setE D k v u) := by
 unfold setE
 split
 ·refine ⟨fun x hx => ?_, ?_⟩
  ·rcases mem_modify hx with q | ⟨y, hy, rfl⟩
   ·exact T.th x q
   ·exact T.th y hy
  ·rename_i i _
   rw [map_modify (f := fun x : Ent => (x.1, x.2.1, u)) (g := fun x : Ent => kd x.1) (fun x => rfl) D i]; exact T.nd
 ·exact T.push K ‹_›
section
variable {d : Addr} {D : List Ent} {n : Nat} {v : Value} {k : Nat}
theorem dictGetT {Q : Option Value → Shared → Prop} (hu : A.units + 1 < cLine)
  (ho : s.heap.get? d = some (dictT w D n)) (T : TD s.heap D) (K : Thing s.heap v k) (h : ∀ m, Q (valAt D k) { s with toks := s.toks + m }) : wpAny (model pw w) A (dictGet d v) Q E s := by
 unfold dictGet
 try with_reducible refine whh ?_
 refine wb (K.hash (by exact nl0 hu) fun m => wb (dictFindT hu ho T K ?_))
 have h := h m
 unfold valAt at h
 cases hf : fnd D k with
 | none => rw [hf] at h; exact wpp h
 | some i =>
  rw [hf] at h
  refine wb (wpAny_dictEntries ho rfl (wpp ?_))
  rw [List.getElem?_toArray, lgm, Option.map_map]
  exact h
theorem dictSetT {u : Value} {Q : Unit → Shared → Prop} (hu : A.units + 1 < cLine) (hz : D.length ≤ sizeLine)
  (ho : s.heap.get? d = some (dictT w D n)) (T : TD s.heap D) (K : Thing s.heap v k)
  (h : ∀ h' m n', Heap.SameBut d s.heap h' → h'.get? d = some (dictT w (setE D k v u) n') → Q () { s with heap := h', toks := s.toks + m }) : wpAny (model pw w) A (dictSet d v u) Q E s := by
 unfold dictSet
 try with_reducible refine whh ?_
 refine wb (K.hash (by exact nl0 hu) fun m => ?_)
 unfold dictSetHashed
 try with_reducible refine whh ?_
 refine wb (dictFindT hu ho T K ?_)
 cases hf : fnd D k with
 | none =>
  refine wb (wpAny_rule (wpAny_updateDictKeys (hz := by simpa using hz) (s := { s with toks := s.toks + m }) ho rfl ?_))
  refine h _ m (n + 1) (Heap.SameBut.update ..) ((Heap.get?_update_self _ ho rfl).trans ?_)
  simp [setE, hf, Obj.mapDictKeys]
 | some i =>
  refine wb (wpAny_rule (wb (wpAny_updateDict (s := { s with toks := s.toks + m }) ho rfl (wpAny_point ?_))))
  refine h _ m n (Heap.SameBut.update ..) ((Heap.get?_update_self _ ho rfl).trans ?_)
  show some (({ cls := .type "dict", data := .dict ((D.map (entT w)).toArray.modify i fun e => { e with val := u }) n } : Obj)) = _
  simp only [setE, hf]
  show _ = some (dictOf ((D.modify i fun x : Ent => (x.1, x.2.1, u)).map (entT w)) n)
  rw [map_modify' (f := fun x : Ent => (x.1, x.2.1, u)) (g := entT w) (f' := fun e : DictEntry => { e with val := u }) (fun x => rfl) D i]
  simp
theorem setDefT {u : Value} {Q : Value → Shared → Prop} (hu : A.units + 1 < cLine) (hz : D.length ≤ sizeLine)
  (ho : s.heap.get? d = some (dictT w D n)) (T : TD s.heap D) (K : Thing s.heap v k)
  (h1 : ∀ x m, valAt D k = some x → Q x { s with toks := s.toks + m })
  (h2 : ∀ h' m n', valAt D k = none → Heap.SameBut d s.heap h' → h'.get? d = some (dictT w (D ++ [(k, v, u)]) n') → Q u { s with heap := h', toks := s.toks + m }) : wpAny (model pw w) A (dictSetDefault d v u) Q E s := by
 unfold dictSetDefault
 try with_reducible refine whh ?_
 refine wb (K.hash (by exact nl0 hu) fun m => ?_)
 refine wb (dictFindT hu ho T K ?_)
 cases hf : fnd D k with
 | none =>
  refine wb (wpAny_rule (wb (wpAny_updateDictKeys (hz := by simpa using hz) (s := { s with toks := s.toks + m }) ho rfl (wpp ?_))))
  refine h2 _ m (n + 1) (valAt_none.mpr hf) (Heap.SameBut.update ..) ((Heap.get?_update_self _ ho rfl).trans ?_)
  simp [Obj.mapDictKeys]
 | some i =>
  refine Ex1 (fnd_lt hf) fun x => an2 fun hx _ => ?_
  refine wb (wpAny_dictEntries (s := { s with toks := s.toks + m }) ho rfl ?_)
  rw [List.getElem?_toArray, lgm, hx]
  exact wb (wpAny_rule (wpp (h1 _ m (by simp [valAt, hf, hx]))))
theorem setItemT {u : Value} {Q : Unit → Shared → Prop} (hu : A.units + 2 < cLine) (hz : D.length ≤ sizeLine)
  (ho : s.heap.get? d = some (dictT w D n)) (T : TD s.heap D) (K : Thing s.heap v k)
  (h : ∀ h' m n', Heap.SameBut d s.heap h' → h'.get? d = some (dictT w (setE D k v u) n') → Q () { s with heap := h', toks := s.toks + m }) : wpAny (model pw w) A (setItem (.ref d) v u) Q E s := by
 have hT : s.TypeIs (.ref d) "dict" := ⟨_, ho, rfl⟩
 unfold setItem
 try with_reducible refine whh ?_
 refine wb (wpAny_sequenceKey hT (by decide) ?_)
 refine wb (wpAny_callSpecial?_slot (name := sO "__setitem__") hT slot_dict_setitem
  (wce slot_dict_setitem hT entry_dict_setitem ?_ (args_dict_setitem _ _ _)))
 show wpAny _ _ (Builtin.Dict.notOrdered "__setitem__" ⟨[.ref d, v, u], []⟩ >>= _) _ _ s
 refine wb (wpAny_notOrdered_dict hT ?_)
 show wpAny _ _ (dictSet d v u >>= _) _ _ s
 exact wb (dictSetT hu hz ho T K fun h' m n' hs ho' => wpp ⟨.none, rfl, wpp (h h' m n' hs ho')⟩)
end
theorem nn {a b : Nat} (h : a < b ∨ b < a) : a ≠ b := by lia
noncomputable abbrev testsOf (ifs : List Expr) (env : Env) : Sem Bool := forIn ifs true fun c r => if r = true then do let ok ← isTrue c env (eval c env); pure (ForInStep.yield ok) else pure (ForInStep.yield r)
theorem St.dropAt {g : Heap} {D C : Addr} {oD oC : Obj} {h' : Heap} (S : St s₀ g L ns vs ((D, oD) :: (C, oC) :: own) s) (hs : Heap.SameBut C s.heap h') : St s₀ g L ns vs ((D, oD) :: own) { s with heap := h' } := by
 have hC := S.nw (C, oC) (.tail _ (.head _))
 refine Ex3 S.nsp fun oL es ep => an2 fun hL hLr => ?_
 have nd := S.nd
 rw [lmn, lmn, lnc, lnc] at nd
 refine ⟨⟨oL, es, ep, hs.extBut _ _ (Ne.symm hC.2.1) hL, hLr⟩, fun b o q => hs.extBut b o (fun z => by have := hC.2.2; rw [← z, q] at this; cases this) (S.keep _ _ q), S.off, fun p hp => ?_, ?_, S.os, S.gens⟩
 ·rcases lmc.mp hp with rfl | hp
  ·have := S.nw _ (.head _)
   exact ⟨hs.extBut _ _ (fun z => nd.1 (by show D ∈ _; rw [show D = C from z]; exact .head _)) this.1, this.2⟩
  ·have := S.nw p (.tail _ (.tail _ hp))
   exact ⟨hs.extBut _ _ (fun z => nd.2.1 (by show C ∈ _; rw [← z]; exact lme hp)) this.1, this.2⟩
 ·rw [lmn, lnc]
  exact ⟨fun m => nd.1 (.tail _ m), nd.2.2⟩
theorem compLoop_tests {elt target iter : Expr} {ifs : List Expr} {scope : Scope} {pos : Pos} {it acc : Value} {R : Result → Shared → Prop} (I : Nat → Shared → Prop)
  (turn : ∀ n s, I n s → wpAny (model pw w) A (pyNext it) (fun r s₁ => match r with
   | none => R (.ok .next) s₁
   | some v => wpAny (model pw w) A (letOwnedTupleGo target it v) (fun _ s₁ => wpAny (model pw w) A (assign target env v) (fun _ s₂ => wpAny (model pw w) A (testsOf ifs env) (fun ok s₃ =>
      if ok = true then wpAny (model pw w) A (eval elt env) (fun x s₄ =>
       wpAny (model pw w) A (call (.builtin "list.append") [acc, x]) (fun _ s₅ => ∃ m, m < n ∧ I m s₅) (notedBy (model pw w) A env fun e s' => R (.error e) s') s₄) (notedBy (model pw w) A env fun e s' => R (.error e) s') s₃
      else ∃ m, m < n ∧ I m s₃) (notedBy (model pw w) A env fun e s' => R (.error e) s') s₂) (notedBy (model pw w) A env fun e s' => R (.error e) s') s₁) (notedBy (model pw w) A env fun e s' => R (.error e) s') s₁) (notedBy (model pw w) A env fun e s' => R (.error e) s') s)
  (n : Nat) (h : I n s) : codeAny (model pw w) A (.compLoop (.ListComp elt [⟨target, iter, ifs, 0⟩] scope pos) 0 it acc env) R s := by
 refine codeAny_loop rfl I (fun n s hI => ?_) n h
 show wpAny _ A ((compTurn (.ListComp elt [⟨target, iter, ifs, 0⟩] scope pos) 0 it acc env).onRaise (fun x => do noteFrame x env; theTreesLotGoes x)) _ _ s
 refine wpAny_noted ?_
 rw [compTurn_list]
 refine wb (wpAny_standAt (wb (wm (turn n s hI) (fun r s₁ h₁ => ?_) fun _ _ h' => h')))
 cases r with
 | none => exact wpp h₁
 | some v =>
  refine wb (wm h₁ (fun _ s₁ h₁ => ?_) fun _ _ h' => h')
  refine wb (wm h₁ (fun _ s₂ h₂ => wb (wm h₂ (fun ok s₃ h₃ => ?_) fun _ _ h' => h')) fun _ _ h' => h')
  cases ok with
  | false => exact wpp ⟨rfl, h₃⟩
  | true =>
   exact wb (wb (wm h₃ (fun x s₄ h₄ => wb (wm h₄ (fun _ s₅ h₅ => wpp (wpp ⟨rfl, h₅⟩)) fun _ _ h' => h')) fun _ _ h' => h'))
noncomputable abbrev LetGo (w : World) (A : Around) (T : Expr) : Prop := ∀ (it l : Addr) (i : Nat) (v : Value) (E : Value → Shared → Prop) (s : Shared) (Q : Unit → Shared → Prop), s.heap.IsListIter it l i → Q () s → wpAny (model pw w) A (letOwnedTupleGo T (.ref it) v) Q E s
theorem comp_core {elt T iter : Expr} {ifs : List Expr} {scope : Scope} {cl : List (Str × Addr)} {pos pos' : Pos} {use : Option (Value → Sem Unit)} {Q : Value → Shared → Prop} {l : Addr} {xs : List Value} {cns : List Str}
  (hh : A.handled = none) (S : St s₀ h₀ L ns vs own s) (hiter : ∀ Q' : Value → Shared → Prop, Q' (.ref l) s → wpAny (model pw w) A (eval iter env) Q' E s)
  (hl : s.heap.IsList l xs.toArray) (hne : l ≠ L) (hz : xs.length ≤ 1000)
  (hclos : closureFor scope env = pure cl) (hcell : ∀ y ∈ scope.names, y.2 ≠ .cell) (hkind : scope.kind = .function)
  (hnames : ∀ y ∈ scope.names, y.2 = .local → scope.names.lookup y.1 = some .local)
  (J : Nat → List (Option Value) → List Value → Heap → Prop) (mono : ∀ j us ys h h', J j us ys h → Kp h h' → J j us ys h')
  (h0 : ∀ h, J 0 (List.replicate cns.length none) [] h)
  (turn : ∀ g C D oL j us ys n s₁ v, s.heap.get? L = some oL → Keeps (rest s.heap L own) g → xs[j]? = some v → J j us ys g → St s g C cns us ((D, listOf ys.toArray n) :: (L, oL) :: own) s₁ →
   wpAny (model pw w) A (assign T (compEnvC scope cl C env) v) (fun _ s₂ => wpAny (model pw w) A (testsOf ifs (compEnvC scope cl C env)) (fun ok s₃ =>
    if ok = true then wpAny (model pw w) A (eval elt (compEnvC scope cl C env)) (fun y s₄ => ∃ us', St s g C cns us' ((D, listOf ys.toArray n) :: (L, oL) :: own) s₄ ∧
      J (j + 1) us' (ys ++ [y]) (rest s₄.heap C ((D, listOf ys.toArray n) :: (L, oL) :: own))) ff s₃
    else ∃ us', St s g C cns us' ((D, listOf ys.toArray n) :: (L, oL) :: own) s₃ ∧ J (j + 1) us' ys (rest s₃.heap C ((D, listOf ys.toArray n) :: (L, oL) :: own))) ff s₂) ff s₁)
  (len : ∀ j us ys h, J j us ys h → ys.length ≤ j)
  (done : ∀ g D C oC ys n us s', Keeps h₀ g → Keeps (rest s.heap L own) g → J xs.length us ys g → St s₀ g L ns vs ((D, listOf ys.toArray n) :: (C, oC) :: own) s' →
   match use with
   | none => ∀ s'', St s₀ g L ns vs ((D, listOf ys.toArray n) :: own) s'' → Q (.ref D) s''
   | some u => wpAny (model pw w) A (u (.ref D)) (fun _ s'' => ∃ vs', St s₀ g L ns vs' ((D, listOf ys.toArray n) :: (C, oC) :: own) s'' ∧ ∀ s₃, St s₀ g L ns vs' ((D, listOf ys.toArray n) :: own) s₃ → Q .none s₃) E s')
  (ht : LetGo w A T := by intro _ _ _ _ _ _ _ _ q; exact wpAny_of_eq rfl q)
  (hs : ∀ x, foldedSetIterable iter env x = pure x := by intro _; rfl) :
  wpAny (model pw w) A (comprehension (.ListComp elt [⟨T, iter, ifs, 0⟩] scope pos) scope env pos' (newList []) false (eval iter env) use) Q E s := by
 have hsz : sizeLine = 16777216 := see
 refine wpAny_comprehension_free (use := use) rfl hs hclos hkind hnames (hiter _ ?_)
 refine wpAny_pyIter_list hl ?_
 have fresh : (rest s.heap L own).get? s.heap.objs.size = none := (hideL_sub _ _).none (get_size _)
 refine Ex3 (id S.nsp) fun oL es ep => an2 fun hL hLr => ?_
 have hLo : ∀ p ∈ own, p.1 ≠ L := fun p hp => (S.nw p hp).2.1
 have hLlt : @LT.lt Nat _ L s.heap.objs.size := hli hL
 have holt : ∀ p ∈ own, @LT.lt Nat _ p.1 s.heap.objs.size := fun p hp => S.lt hp
 have hllt : @LT.lt Nat _ l s.heap.objs.size := let ⟨o, ho, _⟩ := hl; hli ho
 generalize hIt : s.heap.objs.size = it at *
 refine wnt (wpAny_newFunctionEnv hcell (by intro y hy; simp at hy) (fun h₁ hns₁ hsb₁ => ?_) hkind)
 dsimp only at hns₁ hsb₁ ⊢
 generalize hH1 : s.heap.push { cls := .type "list_iterator", data := .fields #[.ref l, .int 0 0] } = H1 at hns₁ hsb₁ ⊢
 generalize hH2 : H1.push { cls := .type "list", dict := none, data := .seq ([] : List Value).toArray } = H2 at hns₁ hsb₁ ⊢
 have hD : H1.objs.size = it + 1 := by rw [← hH1, Heap.size_push, hIt]
 have hC : H2.objs.size = it + 2 := by rw [← hH2, Heap.size_push, hD]
 generalize hDg : H1.objs.size = D at *
 generalize hCg : H2.objs.size = C at *
 have k1 : Keeps s.heap h₁ := fun b o q => by
  have hb : @LT.lt Nat _ b it := hIt ▸ hli q
  exact hsb₁.extBut b o (nn (by lia)) (hgp _ (hH2 ▸ hgp _ (hH1 ▸ hgp _ q)))
 have hDo : h₁.get? D = some (listOf ([] : List Value).toArray 0) := hsb₁.extBut _ _ (nn (by lia)) (hgp _ (hH2 ▸ hDg ▸ hgs _ rfl))
 have hito : h₁.get? it = some { cls := .type "list_iterator", data := .fields #[.ref l, .int 0 0] } :=
  hsb₁.extBut _ _ (nn (by lia)) (hgp _ (hH2 ▸ hgp _ (hH1 ▸ hIt ▸ hgs _ rfl)))
 let O : List Value → Nat → List (Addr × Obj) := fun ys n => (D, listOf ys.toArray n) :: (L, oL) :: own
 have hO : ∀ ys n, (O ys n).map (·.1) = D :: L :: own.map (·.1) := fun _ _ => rfl
 have hbig : ∀ b : Nat, b < it → b ∉ own.map (·.1) → b ≠ L → b ∉ C :: D :: L :: own.map (·.1) := fun b h1 h2 h3 m => by
  simp only [lmc] at m
  rcases m with m | m | m | m
  ·exact absurd m (nn (by lia))
  ·exact absurd m (nn (by lia))
  ·exact h3 m
  ·exact h2 m
 have hitn : it ∉ C :: D :: L :: own.map (·.1) := fun m => by
  simp only [lmc, lmm] at m
  rcases m with m | m | m | ⟨p, hp, m⟩
  ·exact absurd m (nn (by lia))
  ·exact absurd m (nn (by lia))
  ·exact absurd m (nn (by lia))
  ·have := holt p hp; exact absurd m (nn (by exact Or.inl (holt p hp)))
 have S0 : ∀ s₁ : Shared, s₁.heap = h₁ → s₁.os = s.os → s₁.gens = s.gens → St s (rest h₁ C (O [] 0)) C cns (List.replicate cns.length none) (O [] 0) s₁ := fun s₁ q1 q2 q3 => by
  refine ⟨?_, q1 ▸ hideL_sub _ _, hideL_none (.head _), ?_, ?_, q2, q3⟩
  ·rw [q1]
   have : (fun x => ([] : List (Str × Value)).reverse.lookup x) = Loc cns (List.replicate cns.length none) := by funext y; simp [Loc.empty]
   rw [← this]; exact hns₁
  ·intro p hp
   refine ⟨?_, ?_, hideL_none (.tail _ (lme hp))⟩
   ·rw [q1]
    rcases lmc.mp hp with rfl | hp
    ·exact hDo
    ·rcases lmc.mp hp with rfl | hp
     ·exact k1 _ _ hL
     ·exact k1 _ _ (S.nw p hp).1
   ·rcases lmc.mp hp with rfl | hp
    ·exact nn (by lia)
    ·rcases lmc.mp hp with rfl | hp
     ·exact nn (by lia)
     ·have := holt p hp; exact nn (by lia)
  ·rw [hO, lnc, lnc]
   refine ⟨fun m => ?_, fun m => ?_, S.nd⟩
   ·simp only [lmc, lmm] at m
    rcases m with m | ⟨p, hp, m⟩
    ·exact absurd m (nn (by lia))
    ·have := holt p hp; exact absurd m (nn (by lia))
   ·refine Ex1 (lmm.mp m) fun p => an2 fun hp q => ?_
    exact hLo p hp q
 have kb : Keeps (rest s.heap L own) (rest h₁ C (O [] 0)) := fun b o q => by
  have hm : b ∉ L :: own.map (·.1) := fun m => by rw [hideL_none m] at q; cases q
  simp only [lmc, not_or] at hm
  have q' := hideL_sub _ _ _ _ q
  exact hideL_get (k1 _ _ q') (hbig b (hIt ▸ hli q') hm.2 hm.1)
 refine Ex1 (id hl) fun ol => an3 fun hol hlc hlr => ?_
 have solidL : Solid ol := by refine ⟨?_, ?_, ?_, ?_⟩ <;> (rw [hlc]; decide)
 have listOk : ∀ {us ys n} {s₁ : Shared} {g : Heap}, St s g C cns us (O ys n) s₁ → Keeps (rest s.heap L own) g → s₁.heap.IsList l xs.toArray := fun {us ys n s₁ g} S₁ k => by
  refine ⟨ol, ?_, hlc, hlr⟩
  by_cases hm : l ∈ own.map (·.1)
  ·refine Ex1 (lmm.mp hm) fun p => an2 fun hp q => ?_
   have e1 := (S.nw p hp).1
   rw [q, hol] at e1
   cases e1
   have := (S₁.nw p (.tail _ (.tail _ hp))).1
   rwa [q] at this
  ·exact S₁.keep _ _ (k _ _ (rest_get hol hne hm))
 let I : Nat → Shared → Prop := fun n s₁ => ∃ j us ys m, n + j = xs.length ∧ St s (rest s₁.heap C (O ys m)) C cns us (O ys m) s₁ ∧ Keeps (rest s.heap L own) (rest s₁.heap C (O ys m)) ∧
  (rest s₁.heap C (O ys m)).IsListIter it l j ∧ J j us ys (rest s₁.heap C (O ys m))
 have loop : ∀ s₁ : Shared, s₁.heap = h₁ → s₁.os = s.os → s₁.gens = s.gens → codeAny (model pw w) A (.compLoop (.ListComp elt [⟨T, iter, ifs, 0⟩] scope pos) 0 (.ref it) (.ref D) (compEnvC scope cl C env))
   (compPost (model pw w) A E use Q (.ref D) C) s₁ := by
  intro s₁ q1 q2 q3
  refine compLoop_tests I (fun n s₂ hI => ?_) xs.length ⟨0, _, [], 0, rfl, q1 ▸ S0 s₁ q1 q2 q3, q1 ▸ kb, ⟨_, q1 ▸ hideL_get hito hitn, rfl, rfl⟩, h0 _⟩
  refine Ex4 hI fun j us ys m => an5 fun hn S₂ k hit hJ => ?_
  have sub : Keeps (rest s₂.heap C (O ys m)) s₂.heap := hideL_sub _ _
  have hit' : s₂.heap.IsListIter it l j := let ⟨o, ho, r⟩ := hit; ⟨o, sub _ _ ho, r⟩
  have hl' := listOk S₂ k
  refine Ex1 (id hit) fun oi => an3 fun hoi hci _ => ?_
  have kp : ∀ {h'}, Heap.ExtBut it s₂.heap h' → Kp (rest s₂.heap C (O ys m)) (rest h' C (O ys m)) := fun hb b o hb' hs => by
   have hm : b ∉ C :: (O ys m).map (·.1) := fun m => by rw [hideL_none m] at hb'; cases hb'
   refine hideL_get (hb b o (fun q => ?_) (sub _ _ hb')) hm
   rw [q, hoi] at hb'
   cases hb'
   exact hs.1 hci
  have S3 : ∀ {h'}, Heap.ExtBut it s₂.heap h' → St s (rest h' C (O ys m)) C cns us (O ys m) { s₂ with heap := h' } := fun hb => by
   refine Ex3 S₂.nsp fun oC es ep => an2 fun hC' rr => ?_
   refine ⟨⟨oC, es, ep, hb C _ (nn (by lia)) hC', rr⟩, hideL_sub _ _, hideL_none (.head _), fun p hp => ⟨hb _ _ (fun q => hitn (q ▸ .tail _ (hO ys m ▸ lme hp))) (S₂.nw p hp).1, (S₂.nw p hp).2.1, hideL_none (.tail _ (lme hp))⟩, S₂.nd, S₂.os, S₂.gens⟩
  have k2 : ∀ {h'}, Heap.ExtBut it s₂.heap h' → Keeps (rest s.heap L own) (rest h' C (O ys m)) := fun hb b o q => by
   have hne : b ≠ it := fun z => by rw [z, fresh] at q; cases q
   have h1 := k b o q
   have hm : b ∉ C :: (O ys m).map (·.1) := fun m => by rw [hideL_none m] at h1; cases h1
   exact hideL_get (hb b o hne (sub _ _ h1)) hm
  cases hx : xs[j]? with
  | none =>
   have hj : j = xs.length := by have := List.getElem?_eq_none_iff.mp hx; lia
   refine wpAny_pyNext_list_end hh hit' hl' (by simpa using hx) fun h' hb => ?_
   have S4 := S3 hb
   subst hj
   refine Ex3 (id S4.nsp) fun oC esC epC => an2 fun hCo hCr => ?_
   have gL := (S4.nw (L, oL) (.tail _ (.head _)))
   have S5 : St s₀ (rest h' C (O ys m)) L ns vs ((D, listOf ys.toArray m) :: (C, oC) :: own) { s₂ with heap := h' } := by
    refine ⟨⟨oL, es, ep, gL.1, hLr⟩, hideL_sub _ _, hideL_none (.tail _ (.tail _ (.head _))), fun p hp => ?_, ?_, S₂.os.trans S.os, S₂.gens.trans S.gens⟩
    ·rcases lmc.mp hp with rfl | hp
     ·have := S4.nw _ (.head _)
      exact ⟨this.1, nn (by lia), this.2.2⟩
     ·rcases lmc.mp hp with rfl | hp
      ·exact ⟨hCo, nn (by lia), hideL_none (.head _)⟩
      ·have := S4.nw p (.tail _ (.tail _ hp))
       exact ⟨this.1, hLo p hp, this.2.2⟩
    ·have := S4.nd
     rw [hO, lnc, lnc] at this
     rw [lmn, lmn, lnc, lnc]
     refine ⟨fun m => ?_, fun m => ?_, this.2.2⟩
     ·rcases lmc.mp m with m | m
      ·exact absurd m (nn (by lia))
      ·exact this.1 (.tail _ m)
     ·refine Ex1 (lmm.mp m) fun p => an2 fun hp q => ?_
      have := holt p hp
      exact absurd q (nn (by lia))
   have dn := done (rest h' C (O ys m)) D C oC ys m us _ (S.old.trans (k2 hb)) (k2 hb) (mono _ _ _ _ _ hJ (kp hb)) S5
   cases use with
   | none => exact ⟨_, S4.nsp, fun h'' hs'' => dn _ (S5.dropAt hs'')⟩
   | some u =>
    refine wm dn (fun _ s'' h'' => ?_) fun _ _ y => y
    refine Ex1 h'' fun vs' => an2 fun S6 hq => ?_
    exact ⟨_, ⟨oC, esC, epC, S6.get (j := 1) rfl, hCr⟩, fun h₃ hs₃ => hq _ (S6.dropAt hs₃)⟩
  | some v =>
   have hj : j < xs.length := lt_of_get hx
   refine wpAny_pyNext_list_item hit' hl' (by simpa using hx) fun h' hi' hb => ?_
   have hb := hb.extBut
   have hir : (rest h' C (O ys m)).IsListIter it l (j + 1) := let ⟨o, ho, r⟩ := hi'; ⟨o, hideL_get ho hitn, r⟩
   have fin : ∀ {us' ys' m'} {s₃ : Shared}, St s (rest h' C (O ys m)) C cns us' (O ys' m') s₃ → J (j + 1) us' ys' (rest s₃.heap C (O ys' m')) → ∃ p, p < n ∧ I p s₃ := fun {us' ys' m' s₃} S5 J5 => by
    have o3 := S5.old
    exact ⟨n - 1, by lia, j + 1, us', ys', m', by lia, S5.rebase.1, (k2 hb).trans o3, let ⟨o, ho, r⟩ := hir; ⟨o, o3 _ _ ho, r⟩, J5⟩
   refine ht _ _ _ _ _ _ _ hi' ?_
   refine wm (turn _ C D oL j us ys m _ v hL (k2 hb) hx (mono _ _ _ _ _ hJ (kp hb)) (S3 hb)) (fun _ s₃ h₃ => ?_) fun _ _ y => y.elim
   refine wm h₃ (fun ok s₄ h₄ => ?_) fun _ _ y => y.elim
   cases ok with
   | false =>
    simp only [Bool.false_eq_true, if_false] at h₄ ⊢
    refine Ex1 h₄ fun us' => an2 fun S5 J5 => ?_
    exact fin S5 J5
   | true =>
    simp only [if_true] at h₄ ⊢
    refine wm h₄ (fun y s₅ h₅ => ?_) fun _ _ y => y.elim
    refine Ex1 h₅ fun us' => an2 fun S5 J5 => ?_
    have hlen := len _ _ _ _ hJ
    refine append_at (hsz := by rw [hsz, lst]; lia) (S5.get (j := 0) rfl) fun h'' hs'' ho'' => ?_
    have S6 := S5.update (s' := { s₅ with heap := h'' }) (j := 0) rfl hs''.extBut ho'' rfl rfl
    rw [List.push_toArray] at S6
    refine fin S6 (mono _ _ _ _ _ J5 fun b o q _ => ?_)
    have hm : b ∉ C :: (O ys m).map (·.1) := fun m => by rw [hideL_none m] at q; cases q
    have q' := hideL_sub _ _ _ _ q
    exact hideL_get (hs''.extBut b o (fun z => hm (z ▸ .tail _ (.head _))) q') hm
 refine codeAny_compStart_list (loop _ rfl rfl rfl) ?_
 refine wpAny_pyIter_listiter (l := l) (i := 0) ⟨_, hito, rfl, rfl⟩ (loop _ rfl rfl rfl)
theorem comp_list {elt T iter : Expr} {ifs : List Expr} {scope : Scope} {cl : List (Str × Addr)} {pos : Pos} {Q : Value → Shared → Prop} {l : Addr} {xs : List Value} {cns : List Str}
  (hh : A.handled = none) (S : St s₀ h₀ L ns vs own s) (hiter : ∀ Q' : Value → Shared → Prop, Q' (.ref l) s → wpAny (model pw w) A (eval iter env) Q' E s)
  (hl : s.heap.IsList l xs.toArray) (hne : l ≠ L) (hz : xs.length ≤ 1000)
  (hclos : closureFor scope env = pure cl) (hcell : ∀ y ∈ scope.names, y.2 ≠ .cell) (hkind : scope.kind = .function)
  (hnames : ∀ y ∈ scope.names, y.2 = .local → scope.names.lookup y.1 = some .local)
  (J : Nat → List (Option Value) → List Value → Heap → Prop) (mono : ∀ j us ys h h', J j us ys h → Kp h h' → J j us ys h')
  (h0 : ∀ h, J 0 (List.replicate cns.length none) [] h)
  (turn : ∀ g C D oL j us ys n s₁ v, s.heap.get? L = some oL → Keeps (rest s.heap L own) g → xs[j]? = some v → J j us ys g → St s g C cns us ((D, listOf ys.toArray n) :: (L, oL) :: own) s₁ →
   wpAny (model pw w) A (assign T (compEnvC scope cl C env) v) (fun _ s₂ => wpAny (model pw w) A (testsOf ifs (compEnvC scope cl C env)) (fun ok s₃ =>
    if ok = true then wpAny (model pw w) A (eval elt (compEnvC scope cl C env)) (fun y s₄ => ∃ us', St s g C cns us' ((D, listOf ys.toArray n) :: (L, oL) :: own) s₄ ∧
      J (j + 1) us' (ys ++ [y]) (rest s₄.heap C ((D, listOf ys.toArray n) :: (L, oL) :: own))) ff s₃
    else ∃ us', St s g C cns us' ((D, listOf ys.toArray n) :: (L, oL) :: own) s₃ ∧ J (j + 1) us' ys (rest s₃.heap C ((D, listOf ys.toArray n) :: (L, oL) :: own))) ff s₂) ff s₁)
  (len : ∀ j us ys h, J j us ys h → ys.length ≤ j)
  (done : ∀ g D ys n us s', Keeps h₀ g → Keeps (rest s.heap L own) g → J xs.length us ys g → St s₀ g L ns vs ((D, listOf ys.toArray n) :: own) s' → Q (.ref D) s')
  (ht : LetGo w A T := by intro _ _ _ _ _ _ _ _ q; exact wpAny_of_eq rfl q)
  (hs : ∀ x, foldedSetIterable iter env x = pure x := by intro _; rfl) :
  wpAny (model pw w) A (eval (.ListComp elt [⟨T, iter, ifs, 0⟩] scope pos) env) Q E s := by
 rw [eval_ListComp]
 exact comp_core (use := none) hh S hiter hl hne hz hclos hcell hkind hnames J mono h0 turn len (fun g D C oC ys n us s' a b c d s'' S'' => done g D ys n us s'' a b c S'') ht hs
theorem asg_comp {elt T iter : Expr} {ifs : List Expr} {scope : Scope} {cl : List (Str × Addr)} {pos py spos : Pos} {y : Str} {i : Nat} {Q : Flow → Shared → Prop} {l : Addr} {xs : List Value} {cns : List Str}
  (e : Ev env L ns gs) (hh : A.handled = none) (S : St s₀ h₀ L ns vs own s) (hi : ns[i]? = some y) (hlen : i < vs.length)
  (hsw : swapsWith (.ListComp elt [⟨T, iter, ifs, 0⟩] scope pos) (some (.Name y py)) spos.line env = pure true)
  (hiter : ∀ Q' : Value → Shared → Prop, Q' (.ref l) s → wpAny (model pw w) A (eval iter env) Q' E s)
  (hl : s.heap.IsList l xs.toArray) (hne : l ≠ L) (hz : xs.length ≤ 1000)
  (hclos : closureFor scope env = pure cl) (hcell : ∀ y ∈ scope.names, y.2 ≠ .cell) (hkind : scope.kind = .function)
  (hnames : ∀ y ∈ scope.names, y.2 = .local → scope.names.lookup y.1 = some .local)
  (J : Nat → List (Option Value) → List Value → Heap → Prop) (mono : ∀ j us ys h h', J j us ys h → Kp h h' → J j us ys h')
  (h0 : ∀ h, J 0 (List.replicate cns.length none) [] h)
  (turn : ∀ g C D oL j us ys n s₁ v, s.heap.get? L = some oL → Keeps (rest s.heap L own) g → xs[j]? = some v → J j us ys g → St s g C cns us ((D, listOf ys.toArray n) :: (L, oL) :: own) s₁ →
   wpAny (model pw w) A (assign T (compEnvC scope cl C env) v) (fun _ s₂ => wpAny (model pw w) A (testsOf ifs (compEnvC scope cl C env)) (fun ok s₃ =>
    if ok = true then wpAny (model pw w) A (eval elt (compEnvC scope cl C env)) (fun y s₄ => ∃ us', St s g C cns us' ((D, listOf ys.toArray n) :: (L, oL) :: own) s₄ ∧
      J (j + 1) us' (ys ++ [y]) (rest s₄.heap C ((D, listOf ys.toArray n) :: (L, oL) :: own))) ff s₃
    else ∃ us', St s g C cns us' ((D, listOf ys.toArray n) :: (L, oL) :: own) s₃ ∧ J (j + 1) us' ys (rest s₃.heap C ((D, listOf ys.toArray n) :: (L, oL) :: own))) ff s₂) ff s₁)
  (len : ∀ j us ys h, J j us ys h → ys.length ≤ j)
  (done : ∀ g D ys n us s', Keeps h₀ g → Keeps (rest s.heap L own) g → J xs.length us ys g → St s₀ g L ns (vs.set i (some (.ref D))) ((D, listOf ys.toArray n) :: own) s' → Q .next s')
  (ht : LetGo w A T := by intro _ _ _ _ _ _ _ _ q; exact wpAny_of_eq rfl q)
  (hs : ∀ x, foldedSetIterable iter env x = pure x := by intro _; rfl) :
  wpAny (model pw w) A (exec (.Assign [.Name y py] (.ListComp elt [⟨T, iter, ifs, 0⟩] scope pos) spos) env) Q E s := by
 rw [exec_Assign_Name_used _ _ _ _ hsw]
 refine wb (wpAny_standAt (wb ?_))
 show wpAny _ A (do let _ ← comprehension (.ListComp elt [⟨T, iter, ifs, 0⟩] scope pos) scope env _ (newList []) false (eval iter env) (some (assign (.Name y py) env))) _ _ s
 refine wb (wm (comp_core (use := some (assign (.Name y py) env)) (Q := fun _ s' => Q .next s') hh S hiter hl hne hz hclos hcell hkind hnames J mono h0 turn len
  (fun g D C oC ys n us s' a b c d => ?_) ht hs) (fun _ s' hq => wpp (wpp hq)) fun _ _ x => x)
 exact wan (st_ e d hi hlen fun s'' S'' => ⟨_, S'', fun s₃ S₃ => done g D ys n us s₃ a b c S₃⟩)
noncomputable abbrev Ths (h : Heap) (vs : List Value) (zs : List Int) : Prop := All2 (fun v z => Thing h v z.toNat) vs zs
theorem All2.snoc {α β : Type} {R : α → β → Prop} {as : List α} {bs : List β} {a : α} {b : β} (h : All2 R as bs) (q : R a b) : All2 R (as ++ [a]) (bs ++ [b]) := by
 induction h with
 | nil => exact .cons q .nil
 | cons x _ ih => exact .cons x ih
theorem All2.app {α β : Type} {R : α → β → Prop} {as as' : List α} {bs bs' : List β} (h : All2 R as bs) (q : All2 R as' bs') : All2 R (as ++ as') (bs ++ bs') := by
 induction h with
 | nil => exact q
 | cons x _ ih => exact .cons x ih
theorem All2.imp {α β : Type} {R R' : α → β → Prop} (f : ∀ a b, R a b → R' a b) {as : List α} {bs : List β} (h : All2 R as bs) : All2 R' as bs := by
 induction h with
 | nil => exact .nil
 | cons x _ ih => exact .cons (f _ _ x) ih
theorem All2.len {α β : Type} {R : α → β → Prop} {as : List α} {bs : List β} (h : All2 R as bs) : as.length = bs.length := by
 induction h with
 | nil => rfl
 | cons x _ ih => simp [ih]
theorem All2.get {α β : Type} {R : α → β → Prop} {as : List α} {bs : List β} (h : All2 R as bs) {i : Nat} {a : α} (q : as[i]? = some a) : ∃ b, bs[i]? = some b ∧ R a b := by
 induction h generalizing i with
 | nil => simp at q
 | cons x _ ih =>
  cases i with
  | zero => simp only [List.getElem?_cons_zero, Option.some.injEq] at q; subst q; exact ⟨_, rfl, x⟩
  | succ i => exact ih (by simpa using q)
theorem All2.get' {α β : Type} {R : α → β → Prop} {as : List α} {bs : List β} (h : All2 R as bs) {i : Nat} {b : β} (q : bs[i]? = some b) : ∃ a, as[i]? = some a ∧ R a b := by
 induction h generalizing i with
 | nil => simp at q
 | cons x _ ih =>
  cases i with
  | zero => simp only [List.getElem?_cons_zero, Option.some.injEq] at q; subst q; exact ⟨_, rfl, x⟩
  | succ i => exact ih (by simpa using q)
theorem All2.take {α β : Type} {R : α → β → Prop} {as : List α} {bs : List β} (h : All2 R as bs) (n : Nat) : All2 R (as.take n) (bs.take n) := by
 induction h generalizing n with
 | nil => simp; exact .nil
 | cons x _ ih => cases n with
  | zero => exact .nil
  | succ n => exact .cons x (ih n)
theorem All2.drop {α β : Type} {R : α → β → Prop} {as : List α} {bs : List β} (h : All2 R as bs) (n : Nat) : All2 R (as.drop n) (bs.drop n) := by
 induction h generalizing n with
 | nil => simp; exact .nil
 | cons x y ih => cases n with
  | zero => exact .cons x y
  | succ n => exact ih n
theorem Ths.kp {h h' : Heap} {vs : List Value} {zs : List Int} (x : Ths h vs zs) (k : Kp h h') : Ths h' vs zs := x.imp fun _ _ q => q.kp k
theorem Ths.keeps {h h' : Heap} {vs : List Value} {zs : List Int} (x : Ths h vs zs) (k : Keeps h h') : Ths h' vs zs := x.imp fun _ _ q => q.keeps k
def NT (o : Obj) : Prop := ∀ xs, o ≠ tupO xs
theorem NT.cls {o : Obj} (h : o.cls ≠ .type "tuple") : NT o := fun xs q => h (by rw [q])
theorem NT.list (its : Array Value) (n : Nat) : NT (listOf its n) := .cls (by show Value.type "list" ≠ _; decide)
theorem NT.frame {h : Heap} {L : Addr} {m : Str → Option Value} (N : h.Ns L m) {o : Obj} (q : h.get? L = some o) : NT o := fun xs z => by
 refine Ex3 N fun o' es ep => an3 fun ho hd _ => ?_
 rw [q] at ho; cases ho; rw [z] at hd; cases hd
theorem Thing.rest {h : Heap} {v : Value} {k : Nat} {L : Addr} {own : List (Addr × Obj)} (x : Thing h v k) (hL : ∀ o, h.get? L = some o → NT o) (ho : ∀ p ∈ own, h.get? p.1 = some p.2 ∧ NT p.2) : Thing (rest h L own) v k := by
 have tup : ∀ {a : Addr} {xs : Array Value}, h.get? a = some (tupO xs) → (Mine.rest h L own).get? a = some (tupO xs) := fun {a o} e => by
  refine rest_get e (fun q => ?_) fun m => ?_
  ·subst q; exact hL _ e _ rfl
  ·refine Ex1 (lmm.mp m) fun p => an2 fun hp q => ?_
   have := ho p hp
   rw [q, e] at this
   exact this.2 _ (Option.some.inj this.1).symm
 cases x with
 | t1 e => exact .t1 (tup e)
 | tt e => exact .tt (tup e)
 | t0 e => exact .t0 (tup e)
 | _ => constructor
theorem Thing.ownd {s₀ s : Shared} {h₀ : Heap} {L : Addr} {ns : List Str} {vs : List (Option Value)} {own : List (Addr × Obj)} {v : Value} {k : Nat} (S : St s₀ h₀ L ns vs own s) (x : Thing s.heap v k) (h : ∀ p ∈ own, NT p.2) : Thing (Mine.rest s.heap L own) v k :=
 x.rest (fun _ q => NT.frame S.nsp q) fun p hp => ⟨(S.nw p hp).1, h p hp⟩
noncomputable abbrev kScope : Scope := { kind := .function, names := [(sO ".0", .local), (sO "k", .local), (sO "_law_thing", .globalImplicit)], isGenerator := false, isCoroutine := false }
theorem ev_k (e : Ev env L ns gs) (C : Addr) : Ev (compEnvC kScope [] C env) C [sO "k"] [sO "_law_thing"] :=
 ⟨rfl, rfl, e.glob, e.blt, fun x hx => by rw [lms.mp hx]; rfl, fun x hx => by rw [lms.mp hx]; rfl, by decide, by decide⟩
theorem swaps_comp {elt : Expr} {cs : List Comprehension} {scope : Scope} {pos py : Pos} {y : Str} {ln : Nat} {i : Nat} (e : Ev env L ns gs) (hi : ns[i]? = some y) (hl : (py.line == pos.line) = true)
  (hn : (scope.names.any fun p => p.1 == y && (p.2 == .local || p.2 == .cell)) = false) : swapsWith (.ListComp elt cs scope pos) (some (.Name y py)) ln env = pure true := by
 have hb : env.blockKind = .function := by unfold Env.blockKind; rw [e.kind]; rfl
 show (pure (env.blockKind == .function && env.kindOf y == some .local && py.line == pos.line && !(scope.names.any fun p => p.1 == y && (p.2 == .local || p.2 == .cell))) : Sem Bool) = pure true
 rw [hb, e.local_ y (lmo hi), hl, hn]
 rfl
theorem gl_thing {h : Heap} (B : Base w h) : Gl h (sO "_law_thing") (.ref 275) := B.glob (by kernel_rfl)
theorem asg_things {x y : Str} {p1 p2 p3 p4 p5 p6 py spos : Pos} {i j : Nat} {l : Addr} {xs : List Value} {zs : List Int} {Q : Flow → Shared → Prop} (e : Ev env L ns gs) (r : Room A 1) (B : Base w h₀) (S : St s₀ h₀ L ns vs own s)
  (hi : ns[i]? = some y) (hlen : i < vs.length) (hj : ns[j]? = some x) (hv : vs[j]? = some (some (.ref l))) (hl : Ls h₀ l xs) (I : IntsAre xs zs) (hk : Ks zs) (hz : zs.length ≤ 1000)
  (hline : (py.line == p6.line) = true) (hn : (kScope.names.any fun p => p.1 == y && (p.2 == .local || p.2 == .cell)) = false)
  (hown : ∀ p ∈ own, NT p.2)
  (done : ∀ g D us n s', Keeps h₀ g → Ths g us zs → St s₀ g L ns (vs.set i (some (.ref D))) ((D, listOf us.toArray n) :: own) s' → Q .next s') :
  wpAny (model pw w) A (exec (.Assign [.Name y py] (.ListComp (.Call (.Name (sO "_law_thing") p1) [.Name (sO "k") p2] [] p3) [⟨.Name (sO "k") p4, .Name x p5, [], 0⟩] kScope p6) spos) env) Q E s := by
 have hlen' := ints_len I
 refine asg_comp (cns := [sO "k"]) e r.handled S hi hlen (swaps_comp e hi hline hn) (fun Q' h => ld e S hj hv h) (hl.keeps S.keep).isList (ls_off S hl).1 (by lia) (closureFor_none (by decide)) (by decide) rfl (by decide)
  (fun j us ys h => us.length = 1 ∧ Ths h ys (zs.take j)) (fun j us ys h h' q k => ⟨q.1, q.2.kp k⟩) (fun h => ⟨rfl, .nil⟩) ?_ (fun j us ys h q => by rw [q.2.len, llt]; lia) ?_
 ·refine fun g C D oL j us ys n s₁ v hoL kg hx => an2 fun hu T => fun S₁ => ?_
  refine Ex2 (IntsAre.at I j v hx) fun z t => an2 fun zz1 hz' => ?_
  subst zz1
  refine An2 (hk z (mem_of_get hz')) fun z0 z1 => ?_
  have Bg : Base w g := B.keeps (S.old.trans kg)
  obtain ⟨⟨o, ho, hd⟩, _⟩ := is275 Bg
  have eC := ev_k e C
  refine wan (st_ eC S₁ (i := 0) rfl (by lia) fun s₂ S₂ => ?_)
  refine wpAny_tests_nil ?_
  rw [if_pos rfl]
  refine callName eC S₂ (i := 0) rfl (gl_thing Bg) ho hd ?_
  with_reducible refine it_Name ?_
  refine Ex1 (List.length_eq_one_iff.mp hu : ∃ u, us = [u]) fun u zz1 => ?_
  subst zz1
  refine ld eC S₂ (i := 0) rfl rfl ?_
  with_reducible refine it_nil ?_
  refine ⟨S₂.keep, use S₂ (law_thing (Bg.keeps S₂.keep) r z0 z1) ?_⟩
  rintro y s₃ S₃ k1 T1
  refine ⟨_, S₃, rfl, ?_⟩
  rw [take_snoc hz']
  refine (T.keeps S₃.old).snoc (Thing.ownd S₃ T1 fun p hp => ?_)
  rcases lmc.mp hp with rfl | hp
  ·exact .list _ _
  ·rcases lmc.mp hp with rfl | hp
   ·exact NT.frame S.nsp hoL
   ·exact hown p hp
 ·refine fun g D ys n us s' kg _ => an2 fun _ T => fun S' => ?_
  rw [hlen', ltl] at T
  exact done g D ys n s' kg T S'
structure Steps (w : World) (A : Around) (T : Expr) (I : Addr) (fp wr : List Addr) (n : Nat) (P : Nat → Value → Heap → Prop) (Stp : Nat → Heap → Prop) : Prop where
 sub : ∀ b ∈ wr, b ∈ fp
 live : ∀ i h, Stp i h → ∀ b ∈ fp, ∃ o, h.get? b = some o
 frame : ∀ i h h', Stp i h → (∀ b ∈ fp, ∀ o, h.get? b = some o → h'.get? b = some o) → Stp i h'
 item : ∀ j (s : Shared) (K : Value → Shared → Prop), j < n → Stp j s.heap →
  (∀ v h' tk, P j v h' → Stp (j + 1) h' → (∀ b o, b ∉ wr → s.heap.get? b = some o → h'.get? b = some o) → K v { s with heap := h', toks := tk }) →
  wpAny (model pw w) A (pyNext (.ref I)) (fun r s₁ => match r with | none => False | some v => wpAny (model pw w) A (letOwnedTupleGo T (.ref I) v) (fun _ s₂ => K v s₂) ff s₁) ff s
 fin : ∀ (s : Shared) (K : Shared → Prop), Stp n s.heap → (∀ h' tk, (∀ b o, b ∉ wr → s.heap.get? b = some o → h'.get? b = some o) → K { s with heap := h', toks := tk }) →
  wpAny (model pw w) A (pyNext (.ref I)) (fun r s₁ => r = none ∧ K s₁) ff s
noncomputable abbrev XX (w : World) (A : Around) (env : Env) (E : Value → Shared → Prop) : Value → Shared → Prop := notedBy (model pw w) A env fun e s' => cameBackBy (model pw w) A env E e s'
theorem loop_anyE {T : Expr} {body : List Stmt} {Q : Flow → Shared → Prop} {I : Addr} {fp wr : List Addr} {n : Nat} {P : Nat → Value → Heap → Prop} {Stp : Nat → Heap → Prop} (Z : Steps w A T I fp wr n P Stp)
  (S : St s₀ h₀ L ns vs own s) (h0 : Stp 0 s.heap) (hfp : ∀ b ∈ fp, b ≠ L ∧ b ∉ own.map (·.1)) (hwr : ∀ b ∈ wr, h₀.get? b = none)
  (J : Nat → List (Option Value) → List (Addr × Obj) → Heap → Prop) (mono : ∀ j vs own h h', J j vs own h → Keeps h h' → J j vs own h')
  (hJ : J 0 vs own (hideL (rest s.heap L own) wr))
  (turn : ∀ g j vs own s v, Keeps h₀ g → (∀ b ∈ wr, ∃ o, g.get? b = some o) → j < n → J j vs own (hideL g wr) → P j v s.heap → St s₀ g L ns vs own s →
   wpAny (model pw w) A (assign T env v) (fun _ s₂ => wpAny (model pw w) A (execs body env) (fun f s' => match f with
    | .next | .cont => ∃ vs' own', St s₀ g L ns vs' own' s' ∧ J (j + 1) vs' own' (hideL (rest s'.heap L own') wr)
    | .brk => Q .next s'
    | .ret v => Q (.ret v) s') (XX w A env E) s₂) (XX w A env E) s)
  (done : ∀ g vs own s, Keeps h₀ g → J n vs own g → St s₀ g L ns vs own s → Q .next s) :
  codeAny (model pw w) A (.forLoop T (.ref I) body [] env) (fun r s' => match r with | .ok f => Q f s' | .error e => cameBackBy (model pw w) A env E e s') s := by
 let II : Nat → Shared → Prop := fun k s₁ => ∃ j vs own, k + j = n ∧ St s₀ (rest s₁.heap L own) L ns vs own s₁ ∧ Keeps h₀ (hideL (rest s₁.heap L own) wr) ∧ Stp j s₁.heap ∧ (∀ b ∈ fp, b ≠ L ∧ b ∉ own.map (·.1)) ∧
  J j vs own (hideL (rest s₁.heap L own) wr)
 refine codeAny_forLoop_any II (fun k s₁ hI => ?_) n ?_
 ·refine Ex3 hI fun j vs own => an6 fun hn S kk hst hfp hJ => ?_
  have sub : Keeps (rest s₁.heap L own) s₁.heap := hideL_sub _ _
  have kr : ∀ {h'}, (∀ b o, b ∉ wr → s₁.heap.get? b = some o → h'.get? b = some o) → Keeps (hideL (rest s₁.heap L own) wr) (hideL (rest h' L own) wr) := fun hb b o q => by
   have hw : b ∉ wr := fun m => by rw [hideL_none m] at q; cases q
   have q1 := hideL_sub _ _ _ _ q
   have hm : b ∉ L :: own.map (·.1) := fun m => by rw [hideL_none m] at q1; cases q1
   exact hideL_get (hideL_get (hb b o hw (sub _ _ q1)) hm) hw
  have S2 : ∀ {h' tk}, (∀ b o, b ∉ wr → s₁.heap.get? b = some o → h'.get? b = some o) → St s₀ (rest h' L own) L ns vs own { s₁ with heap := h', toks := tk } := fun hb => by
   refine Ex3 S.nsp fun oL es ep => an2 fun hL rr => ?_
   exact ⟨⟨oL, es, ep, hb L _ (fun m => (hfp _ (Z.sub _ m)).1 rfl) hL, rr⟩, hideL_sub _ _, hideL_none (.head _), fun p hp => ⟨hb _ _ (fun m => (hfp _ (Z.sub _ m)).2 (lme hp)) (S.nw p hp).1, (S.nw p hp).2.1, hideL_none (.tail _ (lme hp))⟩, S.nd, S.os, S.gens⟩
  by_cases hj : j < n
  ·refine wm (Z.item j s₁ (fun v s₂ => wpAny (model pw w) A (assign T env v) (fun _ s₂ => wpAny (model pw w) A (execs body env) (fun f s₃ => match f with
      | .next | .cont => ∃ m, m < k ∧ II m s₃
      | .brk => Q .next s₃
      | .ret v => Q (.ret v) s₃) (XX w A env E) s₂) (XX w A env E) s₂) hj hst fun v h' tk hP hst' hb => ?_) (fun r s₂ hr => ?_) fun _ _ y => y.elim
   ·have kx : Keeps h₀ (rest h' L own) := (kk.trans (kr hb)).trans (hideL_sub _ _)
    refine wm (turn (rest h' L own) j vs own _ v kx (fun b hb => let ⟨o, ho⟩ := Z.live _ _ hst' b (Z.sub b hb); ⟨o, rest_get ho (hfp b (Z.sub b hb)).1 (hfp b (Z.sub b hb)).2⟩) hj (mono _ _ _ _ _ hJ (kr hb)) hP (S2 hb)) (fun _ s₂ h₂ => ?_) fun _ _ y => y
    refine wm h₂ (fun f s₃ hf => ?_) fun _ _ y => y
    have fin : (∃ vs' own', St s₀ (rest h' L own) L ns vs' own' s₃ ∧ J (j + 1) vs' own' (hideL (rest s₃.heap L own') wr)) → ∃ m, m < k ∧ II m s₃ := by
     refine ex2 fun vs' own' => an2 fun S3 J3 => ?_
     have o3 := S3.old
     have fpg : ∀ b ∈ fp, ∀ o, h'.get? b = some o → (rest h' L own).get? b = some o := fun b hb o q => rest_get q (hfp b hb).1 (hfp b hb).2
     refine ⟨k - 1, by omega, j + 1, vs', own', by omega, S3.rebase.1, ?_, Z.frame _ _ _ hst' fun b hb o q => S3.keep _ _ (fpg b hb o q), fun b hb => ?_, J3⟩
     ·intro b o q
      have hw : b ∉ wr := fun m => by rw [hwr b m] at q; cases q
      exact hideL_get (o3 _ _ (kx _ _ q)) hw
     ·refine Ex1 (Z.live _ _ hst' b hb) fun o ho => ?_
      have q := fpg b hb o ho
      refine ⟨fun z => (by rw [z, S3.off] at q; cases q), fun m => ?_⟩
      refine Ex1 (lmm.mp m) fun p => an2 fun hp z => ?_
      have := (S3.nw p hp).2.2
      rw [z, q] at this; cases this
    cases f with
    | next => exact fin hf
    | cont => exact fin hf
    | brk => exact hf
    | ret v => exact hf
   ·cases r with
    | none => exact hr.elim
    | some v =>
     refine wm hr (fun _ s₃ h₃ => ?_) fun _ _ y => y.elim
     refine wm h₃ (fun _ s₄ h₄ => ?_) fun _ _ y => y
     exact wm h₄ (fun f s₅ h₅ => h₅) fun _ _ y => y
  ·have hj : j = n := by omega
   subst hj
   refine wm (Z.fin s₁ (fun s₂ => Q .next s₂) hst fun h' tk hb => ?_) (fun r s₂ hr => ?_) fun _ _ y => y.elim
   ·exact done (rest h' L own) vs own _ ((kk.trans (kr hb)).trans (hideL_sub _ _)) (mono _ _ _ _ _ (mono _ _ _ _ _ hJ (kr hb)) (hideL_sub _ _)) (S2 hb)
   ·refine An2 hr fun zz1 hq => ?_
    subst zz1
    exact wen hq
 ·refine ⟨0, vs, own, rfl, S.rebase.1, fun b o q => ?_, h0, hfp, hJ⟩
  have hw : b ∉ wr := fun m => by rw [hwr b m] at q; cases q
  exact hideL_get (S.old _ _ q) hw
theorem loop_any {T : Expr} {body : List Stmt} {Q : Flow → Shared → Prop} {I : Addr} {fp wr : List Addr} {n : Nat} {P : Nat → Value → Heap → Prop} {Stp : Nat → Heap → Prop} (Z : Steps w A T I fp wr n P Stp)
  (S : St s₀ h₀ L ns vs own s) (h0 : Stp 0 s.heap) (hfp : ∀ b ∈ fp, b ≠ L ∧ b ∉ own.map (·.1)) (hwr : ∀ b ∈ wr, h₀.get? b = none)
  (J : Nat → List (Option Value) → List (Addr × Obj) → Heap → Prop) (mono : ∀ j vs own h h', J j vs own h → Keeps h h' → J j vs own h')
  (hJ : J 0 vs own (hideL (rest s.heap L own) wr))
  (turn : ∀ g j vs own s v, Keeps h₀ g → (∀ b ∈ wr, ∃ o, g.get? b = some o) → j < n → J j vs own (hideL g wr) → P j v s.heap → St s₀ g L ns vs own s →
   wpAny (model pw w) A (assign T env v) (fun _ s₂ => wpAny (model pw w) A (execs body env) (fun f s' => match f with
    | .next | .cont => ∃ vs' own', St s₀ g L ns vs' own' s' ∧ J (j + 1) vs' own' (hideL (rest s'.heap L own') wr)
    | .brk => Q .next s'
    | .ret v => Q (.ret v) s') ff s₂) ff s)
  (done : ∀ g vs own s, Keeps h₀ g → J n vs own g → St s₀ g L ns vs own s → Q .next s) :
  codeAny (model pw w) A (.forLoop T (.ref I) body [] env) (fun r s' => match r with | .ok f => Q f s' | .error e => cameBackBy (model pw w) A env E e s') s :=
 loop_anyE Z S h0 hfp hwr J mono hJ (fun g j vs own s v a hw b c d e => wm (turn g j vs own s v a hw b c d e) (fun _ s₂ h => wm h (fun _ _ x => x) fun _ _ x => x.elim) fun _ _ x => x.elim) done
theorem St.past {g : Heap} {wr : List Addr} (S : St s₀ g L ns vs own s) : Keeps (hideL g wr) (hideL (rest s.heap L own) wr) := fun b o q => by
 have hw : b ∉ wr := fun m => by rw [hideL_none m] at q; cases q
 exact hideL_get (S.old _ _ (hideL_sub _ _ _ _ q)) hw
theorem Steps.ofT {elts : List Expr} {k : Nat} {pos : Pos} {I : Addr} {fp wr : List Addr} {n : Nat} {Pt : Nat → Array Value → Prop} {Stp : Nat → Heap → Prop} {Mid : Nat → Addr → Heap → Prop}
  (W : WalksT pw w A I fp wr n Pt Stp Mid) (live : ∀ i h, Stp i h → ∀ b ∈ fp, ∃ o, h.get? b = some o) :
  Steps w A (.Tuple elts k pos) I fp wr n (fun j v h => ∃ T vals, v = .ref T ∧ Pt j vals ∧ h.IsTuple T vals) Stp where
 sub := W.sub
 live := live
 frame := W.frame
 item := fun j s K hj hst hK => by
  refine W.item j s _ _ hj hst fun T vals h' tk hP hT hI hM hk => ?_
  refine W.go elts k pos j T _ _ _ hM fun h'' hst'' hk'' => ?_
  exact hK _ h'' tk ⟨T, vals, rfl, hP, hI.at fun o e => hk'' _ o (W.apart _ _ _ hM) e⟩ hst'' fun b o hb e => hk'' b o hb (hk b o hb e)
 fin := fun s K hst hK => W.done s _ _ hst fun h' tk hk => ⟨rfl, hK h' tk hk⟩
theorem Steps.ofName {x : Str} {pos : Pos} {I : Addr} {fp wr : List Addr} {n : Nat} {P : Nat → Value → Prop} {Stp : Nat → Heap → Prop}
  (W : Walks pw w A I fp wr n P Stp) (live : ∀ i h, Stp i h → ∀ b ∈ fp, ∃ o, h.get? b = some o) : Steps w A (.Name x pos) I fp wr n (fun j v _ => P j v) Stp where
 sub := W.sub
 live := live
 frame := W.frame
 item := fun j s K hj hst hK => W.item j s _ _ hj hst fun v h' tk hP hst' hk => wpp (hK v h' tk hP hst' hk)
 fin := fun s K hst hK => W.done s _ _ hst fun h' tk hk => ⟨rfl, hK h' tk hk⟩
theorem letGo_list {elts : List Expr} {k : Nat} {pos : Pos} {it l : Addr} {i : Nat} {v : Value} {Q : Unit → Shared → Prop} (hit : s.heap.IsListIter it l i) (h : Q () s) :
  wpAny (model pw w) A (letOwnedTupleGo (.Tuple elts k pos) (.ref it) v) Q E s := by
 refine Ex1 hit fun o => an3 fun ho hc hd => ?_
 unfold letOwnedTupleGo
 cases v with
 | ref a =>
  refine wb (wpAny_load ho ?_)
  rw [hc, hd]
  show wpAny _ _ (if _ then _ else _) _ _ _
  rw [if_neg]
  ·exact wpp h
  ·rw [show (["enumerate", "zip", "dict_itemiterator", "dict_reverseitemiterator", "odict_iterator", "itertools.zip_longest", "itertools.pairwise"].contains "list_iterator") = false from by decide]
   exact bfn
 | _ => exact wpp h
theorem Steps.listT (hh : A.handled = none) {elts : List Expr} {k : Nat} {pos : Pos} {it l : Addr} (hne : l ≠ it) (xs : List Value) :
  Steps w A (.Tuple elts k pos) it [it, l] [it] xs.length (fun j v _ => xs[j]? = some v) (fun i h => h.IsListIter it l i ∧ h.IsList l xs.toArray) where
 sub := fun b hb => by simp at hb; simp [hb]
 live := fun i h hst b hb => by
  simp only [lmc, lmi, or_false] at hb
  rcases hb with rfl | rfl
  ·refine Ex1 hst.1 fun o => an2 fun ho _ => ?_; exact ⟨o, ho⟩
  ·refine Ex1 hst.2 fun o => an2 fun ho _ => ?_; exact ⟨o, ho⟩
 frame := (Walks.list (prog := pw) (w := w) hh it l hne xs.toArray).frame
 item := fun j s K hj hst hK => by
  refine (Walks.list (prog := pw) (w := w) hh it l hne xs.toArray).item j s _ _ (by simpa using hj) hst fun v h' tk hP hst' hk => ?_
  exact letGo_list hst'.1 (hK v h' tk (by simpa using hP) hst' hk)
 fin := fun s K hst hK => (Walks.list (prog := pw) (w := w) hh it l hne xs.toArray).done s _ _ (by simpa using hst) fun h' tk hk => ⟨rfl, hK h' tk hk⟩
theorem callBlt {f : Str} {p pos : Pos} {x : Expr} {args : List Expr} {i : Nat} {id : String} {Q : Value → Shared → Prop} (e : Ev env L ns gs) (S : St s₀ h₀ L ns vs own s) (hi : gs[i]? = some f) (g : Gl h₀ f (.builtin id))
  (h : wpAny (model pw w) A (spliced (backTo pos (starEach (x :: args) env))) (fun vals s₁ => wpAny (model pw w) A (call (.builtin id) vals) Q E s₁) E s)
  (he : starEach (x :: args) env = (false, eval x env) :: starEach args env := by rfl) (hp : (backTo pos (starEach args env)).any (·.1) = false := by rfl) :
  wpAny (model pw w) A (eval (.Call (.Name f p) (x :: args) [] pos) env) Q E s := by
 refine wpAny_Call_Name_kw (ldg e S hi g ?_)
 show wpAny _ _ (callWith pos (.builtin id) [] (backTo pos (starEach (x :: args) env)) []) _ _ _
 rw [he] at h ⊢
 exact ccb (by show (false || (backTo pos (starEach args env)).any (·.1)) = false; rw [hp]; rfl) (cep h)
theorem callTyp {f : Str} {p pos : Pos} {x : Expr} {args : List Expr} {i : Nat} {id : String} {Q : Value → Shared → Prop} (e : Ev env L ns gs) (S : St s₀ h₀ L ns vs own s) (hi : gs[i]? = some f) (g : Gl h₀ f (.type id))
  (h : wpAny (model pw w) A (spliced (backTo pos (starEach (x :: args) env))) (fun vals s₁ => wpAny (model pw w) A (call (.type id) vals) Q E s₁) E s)
  (he : starEach (x :: args) env = (false, eval x env) :: starEach args env := by rfl) (hp : (backTo pos (starEach args env)).any (·.1) = false := by rfl) :
  wpAny (model pw w) A (eval (.Call (.Name f p) (x :: args) [] pos) env) Q E s := by
 refine wpAny_Call_Name_kw (ldg e S hi g ?_)
 exact Pv.callWith_type1 h he hp
theorem gl_len {h : Heap} (B : Base w h) : Gl h (sO "len") (.builtin "len") := B.blt (by kernel_rfl) (by decide) boot_len
theorem gl_type {h : Heap} (B : Base w h) : Gl h (sO "type") (.type "type") := B.blt (by kernel_rfl) (by decide) Pv.boot_type
theorem gl_zip {h : Heap} (B : Base w h) : Gl h (sO "zip") (.type "zip") := B.blt (by kernel_rfl) (by decide) (by decide +kernel)
theorem len_ {p p1 pos : Pos} {x : Str} {i j : Nat} {l : Addr} {xs : List Value} {Q : Value → Shared → Prop} (e : Ev env L ns gs) (B : Base w h₀) (S : St s₀ h₀ L ns vs own s) (hi : gs[i]? = some (sO "len")) (hj : ns[j]? = some x)
  (hv : vs[j]? = some (some (.ref l))) (hl : Ls s.heap l xs) (hz : xs.length ≤ sizeLine) (h : ∀ t s', St s₀ h₀ L ns vs own s' → s'.heap = s.heap → Q (.int xs.length t) s') :
  wpAny (model pw w) A (eval (.Call (.Name (sO "len") p) [.Name x p1] [] pos) env) Q E s := by
 refine callBlt e S hi (gl_len B) ?_
 with_reducible refine it_Name ?_
 refine ld e S hj hv ?_
 with_reducible refine it_nil ?_
 refine Calls.call_len_list hl.isList (by have := see; rw [lst]; lia) ?_
 rw [lst]
 exact h _ _ (S.same rfl rfl rfl) rfl
theorem unp2 {x y : Str} {p1 p2 pos : Pos} {k i j : Nat} {T : Addr} {a b : Value} {Q : Unit → Shared → Prop} (e : Ev env L ns gs) (hh : A.handled = none) (S : St s₀ h₀ L ns vs own s) (hT : s.heap.IsTuple T #[a, b]) (hi : ns[i]? = some x) (hj : ns[j]? = some y)
  (li : i < vs.length) (lj : j < vs.length) (h : ∀ s', St s₀ h₀ L ns ((vs.set i (some a)).set j (some b)) own s' → Q () s') :
  wpAny (model pw w) A (assign (.Tuple [.Name x p1, .Name y p2] k pos) env (.ref T)) Q E s := by
 refine wpAny_assign_Tuple hh hT rfl rfl fun h' hb => ?_
 have S := S.keeps (s' := { s with heap := h' }) (extBut_size hb) rfl rfl
 exact aac (wan (st_ e S hi li fun s₁ S => aac (wan (st_ e S hj (by simpa using lj) fun s₂ S => assignInOrder_nil (h _ S)))))
theorem unp3 {x y z : Str} {p1 p2 p3 pos : Pos} {k i j m : Nat} {T : Addr} {a b c : Value} {Q : Unit → Shared → Prop} (e : Ev env L ns gs) (hh : A.handled = none) (S : St s₀ h₀ L ns vs own s) (hT : s.heap.IsTuple T #[a, b, c]) (hi : ns[i]? = some x) (hj : ns[j]? = some y) (hm : ns[m]? = some z)
  (li : i < vs.length) (lj : j < vs.length) (lm : m < vs.length) (h : ∀ s', St s₀ h₀ L ns (((vs.set i (some a)).set j (some b)).set m (some c)) own s' → Q () s') :
  wpAny (model pw w) A (assign (.Tuple [.Name x p1, .Name y p2, .Name z p3] k pos) env (.ref T)) Q E s := by
 refine wpAny_assign_Tuple hh hT rfl rfl fun h' hb => ?_
 have S := S.keeps (s' := { s with heap := h' }) (extBut_size hb) rfl rfl
 exact aac (wan (st_ e S hi li fun s₁ S => aac (wan (st_ e S hj (by simpa using lj) fun s₂ S => aac (wan (st_ e S hm (by simpa using lm) fun s₃ S => assignInOrder_nil (h _ S)))))))
theorem type_ {x : Str} {p p1 pos : Pos} {i j : Nat} {v : Value} {T : String} {Q : Value → Shared → Prop} (e : Ev env L ns gs) (B : Base w h₀) (S : St s₀ h₀ L ns vs own s) (hi : gs[i]? = some (sO "type")) (hj : ns[j]? = some x) (hv : vs[j]? = some (some v))
  (hT : s.TypeIs v T) (hb : (Value.type T == Value.type "builtin_function_or_method") = false) (h : Q (.type T) s) : wpAny (model pw w) A (eval (.Call (.Name (sO "type") p) [.Name x p1] [] pos) env) Q E s := by
 refine callTyp e S hi (gl_type B) ?_
 with_reducible refine it_Name ?_
 refine ld e S hj hv ?_
 with_reducible refine it_nil ?_
 exact call_type_of hT hb h
theorem loop_zip {elts : List Expr} {k : Nat} {pos : Pos} {body : List Stmt} {Q : Flow → Shared → Prop} {l1 l2 : Addr} {xs ys : List Value} (hh : A.handled = none) (S : St s₀ h₀ L ns vs own s) (hl1 : Ls h₀ l1 xs) (hl2 : Ls h₀ l2 ys)
  (J : Nat → List (Option Value) → List (Addr × Obj) → Heap → Prop) (mono : ∀ j vs own h h', J j vs own h → Keeps h h' → J j vs own h')
  (hJ : J 0 vs own (rest s.heap L own))
  (turn : ∀ wr g j vs own s T x y, Keeps h₀ g → xs[j]? = some x → ys[j]? = some y → J j vs own (hideL g wr) → s.heap.IsTuple T #[x, y] → St s₀ g L ns vs own s →
   wpAny (model pw w) A (assign (.Tuple elts k pos) env (.ref T)) (fun _ s₂ => wpAny (model pw w) A (execs body env) (fun f s' => match f with
    | .next | .cont => ∃ vs' own', St s₀ g L ns vs' own' s' ∧ J (j + 1) vs' own' (hideL (rest s'.heap L own') wr)
    | .brk => Q .next s'
    | .ret v => Q (.ret v) s') ff s₂) ff s)
  (done : ∀ g vs own s, Keeps h₀ g → J (min xs.length ys.length) vs own g → St s₀ g L ns vs own s → Q .next s) :
  wpAny (model pw w) A (call (.type "zip") [.ref l1, .ref l2]) (fun z s₁ => wpAny (model pw w) A (pyIter z) (fun it s₂ => codeAny (model pw w) A (.forLoop (.Tuple elts k pos) it body [] env)
   (fun r s' => match r with | .ok f => Q f s' | .error e => cameBackBy (model pw w) A env E e s') s₂) E s₁) E s := by
 have ho1 := ls_off S hl1
 have ho2 := ls_off S hl2
 have a1 := (hl1.keeps S.keep).isList
 have a2 := (hl2.keeps S.keep).isList
 have lt1 : @LT.lt Nat _ l1 s.heap.objs.size := let ⟨o, ho, _⟩ := a1; hli ho
 have lt2 : @LT.lt Nat _ l2 s.heap.objs.size := let ⟨o, ho, _⟩ := a2; hli ho
 have ltL : @LT.lt Nat _ L s.heap.objs.size := let ⟨_, _, _, ho, _⟩ := S.nsp; hli ho
 have lto : ∀ p ∈ own, @LT.lt Nat _ p.1 s.heap.objs.size := fun p hp => S.lt hp
 refine call_zip_2 a1 a2 fun h' z1 z2 z3 z4 z5 z6 z7 => ?_
 have Sz := S.keeps (s' := { s with heap := h' }) z7 rfl rfl
 refine wpAny_pyIter_zip z1 ?_
 have ap : ZipApart (s.heap.objs.size + 4) (s.heap.objs.size + 2) (s.heap.objs.size + 3) s.heap.objs.size (s.heap.objs.size + 1) l1 l2 := by
  constructor <;> exact nn (by lia)
 have W := WalksT.zip2 (prog := pw) (w := w) hh _ _ _ _ _ l1 l2 ap xs.toArray ys.toArray
 rw [lst, lst] at W
 have big : ∀ b : Nat, s.heap.objs.size ≤ b → b ≠ L ∧ b ∉ own.map (·.1) := fun b hb => ⟨nn (by lia), fun m => by
  refine Ex1 (lmm.mp m) fun p => an2 fun hp q => ?_
  have := lto p hp
  exact absurd q (nn (by lia))⟩
 have nf : ∀ b : Nat, s.heap.objs.size ≤ b → h₀.get? b = none := fun b hb => by
  cases q : h₀.get? b with
  | none => rfl
  | some o => have := hli (S.keep _ _ q); exact absurd hb (Nat.not_le.mpr this)
 refine loop_any (Steps.ofT W ?_) Sz ⟨z1, z2, ⟨_, _, z3⟩, z4, z5, a1.at fun o q => z7 _ _ q, a2.at fun o q => z7 _ _ q⟩ ?_ ?_ J mono ?_ ?_ done
 ·refine fun i h => an7 fun y1 y2 zz1 zz2 zz3 zz4 zz5 => fun b hb => ?_
  refine Ex2 zz1 fun _ _ y3 => ?_
  refine Ex1 zz2 fun o4 => an2 fun y4 _ => ?_
  refine Ex1 zz3 fun o5 => an2 fun y5 _ => ?_
  refine Ex1 zz4 fun o6 => an2 fun y6 _ => ?_
  refine Ex1 zz5 fun o7 => an2 fun y7 _ => ?_
  simp only [lmc, lmi, or_false] at hb
  rcases hb with rfl | rfl | rfl | rfl | rfl | rfl | rfl
  ·exact ⟨_, y1⟩
  ·exact ⟨_, y2⟩
  ·exact ⟨_, y3⟩
  ·exact ⟨_, y4⟩
  ·exact ⟨_, y5⟩
  ·exact ⟨_, y6⟩
  ·exact ⟨_, y7⟩
 ·intro b hb
  simp only [lmc, lmi, or_false] at hb
  rcases hb with rfl | rfl | rfl | rfl | rfl | rfl | rfl
  ·exact big _ (nla _ _)
  ·exact big _ (nla _ _)
  ·exact big _ (nla _ _)
  ·exact big _ (nlr _)
  ·exact big _ (nla _ _)
  ·exact ho1
  ·exact ho2
 ·intro b hb
  simp only [lmc, lmi, or_false] at hb
  rcases hb with rfl | rfl | rfl | rfl
  ·exact nf _ (nla _ _)
  ·exact nf _ (nla _ _)
  ·exact nf _ (nlr _)
  ·exact nf _ (nla _ _)
 ·refine mono _ _ _ _ _ hJ fun b o q => ?_
  have hm : b ∉ L :: own.map (·.1) := fun m => by rw [hideL_none m] at q; cases q
  have q' := hideL_sub _ _ _ _ q
  have lt : @LT.lt Nat _ b s.heap.objs.size := hli q'
  refine hideL_get (hideL_get (z7 _ _ q') hm) fun m => ?_
  simp only [lmc, lmi, or_false] at m
  rcases m with m | m | m | m
  ·exact absurd m (Nat.ne_of_lt (Nat.lt_add_right _ lt))
  ·exact absurd m (Nat.ne_of_lt (Nat.lt_add_right _ lt))
  ·exact absurd m (Nat.ne_of_lt lt)
  ·exact absurd m (Nat.ne_of_lt (Nat.lt_add_right _ lt))
 ·refine fun g j vs own s v kg hw hj hJ => ex2 fun T vals => an3 fun zz1 zz2 hT => fun S => ?_
  subst zz1
  refine Ex2 zz2 fun x y => an3 fun hx hy zz3 => ?_
  subst zz3
  exact turn _ g j vs own s T x y kg (by simpa using hx) (by simpa using hy) hJ hT S
noncomputable def tyT : Nat → String
 | 0 => "int" | 1 => "bool" | 2 => "int" | 3 => "bool" | 4 => "tuple" | 5 => "tuple" | 6 => "str" | 7 => "str" | 8 => "str" | 9 => "NoneType" | 10 => "int" | _ => "tuple"
theorem Thing.type {s : Shared} {v : Value} {k : Nat} (x : Thing s.heap v k) : s.TypeIs v (tyT k) := by
 cases x with
 | t1 e => exact ⟨_, e, rfl⟩
 | tt e => exact ⟨_, e, rfl⟩
 | t0 e => exact ⟨_, e, rfl⟩
 | _ => rfl
theorem tyT_nb {k : Nat} (h : k < 12) : (Value.type (tyT k) == Value.type "builtin_function_or_method") = false := (by decide : ∀ k, k < 12 → (Value.type (tyT k) == Value.type "builtin_function_or_method") = false) k h
theorem law_same {w : World} {A : Around} {s : Shared} {a l : Addr} {us xs : List Value} {zs : List Int} (B : Base w s.heap) (r : Room A 3) (ha : Ls s.heap a us) (hu : Ths s.heap us zs) (hl : Ls s.heap l xs) (I : IntsAre xs zs) (hk : Ks zs) (hz : zs.length ≤ 1000) :
  codeAny (model pw w) A (.call (.ref 301) ⟨[.ref a, .ref l], []⟩) (Ret s fun v s' => v = .bool true) s := by
 refine call_f B (is301 B) ok301 r.lt (vals := [.ref a, .ref l]) (.of_eq (by kernel_rfl)) rfl ?_
 intro env L s' e S
 have r1 := r.deeper env
 have hh : (A.deeper env).handled = none := r.handled
 have hsz : sizeLine = 16777216 := see
 have hlen : xs.length = zs.length := ints_len I
 conv in (fnB _) => whnf
 with_reducible refine wec ?_
 refine asg_things e (r1.le (by exact nlt (nlr 1) (Nat.succ_pos 1))) B S (i := 2) (j := 1) rfl (nlo rfl) rfl rfl hl I hk hz rfl (by decide) (fun p hp => (nomatch hp)) ?_
 rintro g D ds n s' kg TD S
 have Bg := B.keeps kg
 with_reducible refine wec ?_
 refine ifc ?_
 refine len_ e Bg S (i := 0) (j := 0) rfl rfl rfl ((ha.keeps kg).keeps S.keep) (by rw [hsz, hu.len]; exact nlt hz (nal 1000 16776216)) ?_
 intro t s' S _
 refine len_ e Bg S (i := 0) (j := 2) rfl rfl rfl (S.ls (j := 0) rfl) (by rw [hsz, TD.len]; exact nlt hz (nal 1000 16776216)) ?_
 intro t s' S _
 refine P.ne_int ⟨_, rfl, fun hb => ?_, fun _ => ?_⟩
 ·rw [hu.len, TD.len] at hb; simp at hb
 refine wen ?_
 with_reducible refine wec ?_
 refine wpAny_For ?_
 have hDls := S.ls (j := 0) rfl
 have hDL : D ≠ L := (S.nw _ (.head _)).2.1
 refine An2 ((S.drop (own' := []) (List.nil_sublist _)).rebase) fun S kg2 => ?_
 refine callTyp e S (i := 1) rfl (gl_zip (Bg.keeps kg2)) ?_
 with_reducible refine it_Name ?_
 refine ld e S (i := 0) rfl rfl ?_
 with_reducible refine it_Name ?_
 refine ld e S (i := 2) rfl rfl ?_
 with_reducible refine it_nil ?_
 have B2 := Bg.keeps kg2
 have kg3 := kg.trans kg2
 refine loop_zip hh S (ha.keeps kg3) (ys := ds) (let ⟨m, hm⟩ := hDls; ⟨m, rest_get hm hDL (fun m => (nomatch m))⟩) (fun j vs own _ => own = [] ∧ ∃ u1 u2, vs = [some (.ref a), some (.ref l), some (.ref D), u1, u2]) (fun _ _ _ _ _ h _ => h) ⟨rfl, _, _, rfl⟩ ?_ ?_
 ·refine fun wr g' j vs own s' T x y kg' hx hy => an2 fun zz1 => ex2 fun u1 u2 zz2 => fun hT S => ?_
  subst zz1
  subst zz2
  have B3 := B2.keeps kg'
  refine Ex1 (hu.get hx) fun z => an2 fun hz1 X => ?_
  refine Ex1 (TD.get hy) fun z' => an2 fun hz2 Y => ?_
  rw [hz1] at hz2
  cases hz2
  have X := X.keeps (kg3.trans kg')
  have Y := Y.keeps (kg2.trans kg')
  refine unp2 e hh S hT (i := 3) (j := 4) rfl rfl (nlo rfl) (nlo rfl) ?_
  intro s2 S
  have X := X.keeps S.keep
  have Y := Y.keeps S.keep
  with_reducible refine wec ?_
  refine wpAny_If (wib (wao (wic ?_ (by with_unfolding_all rfl))))
  refine type_ e B3 S (i := 2) (j := 3) rfl rfl rfl X.type (tyT_nb X.lt) ?_
  refine type_ e B3 S (i := 2) (j := 4) rfl rfl rfl Y.type (tyT_nb Y.lt) ?_
  refine isnot_type_same (wtb ?_)
  rw [if_neg bfn]
  refine wao (wic ?_ (by with_unfolding_all rfl))
  refine ld e S (i := 3) rfl rfl ?_
  refine ld e S (i := 4) rfl rfl ?_
  refine compareNe_reads X.reads Y.reads (thing_lay _ X.lt) (thing_lay _ Y.lt) ?_ (wtb ?_)
  ·have h1 := r1.units; have h2 := thing_deep _ X.lt; lia
  rw [thing_eqv _ X.lt _ X.lt, decide_eq_true rfl]
  refine wpAny_allTrue_Or_nil ?_
  refine wen (wen ⟨_, _, S, rfl, _, _, rfl⟩)
 ·refine fun g' vs own s' kg' => an2 fun zz1 => ex2 fun u1 u2 zz2 => fun S => ?_
  subst zz1
  subst zz2
  with_reducible refine wec ?_
  with_reducible refine wrs ?_
  refine cbool ?_
  exact ⟨_, rfl, (kg3.trans kg').trans S.keep, S.gens, S.os, rfl⟩
theorem kd_nat (z : Int) : kd (z.toNat : Int) = kd z := by unfold kd; rw [Int.toNat_natCast]
open Classical in
theorem notIn_ths {w : World} {A : Around} {E : Value → Shared → Prop} {s : Shared} {l : Addr} {us : List Value} {zs : List Int} {v : Value} {z : Int} {Q : Value → Shared → Prop} (hl : s.heap.IsList l us.toArray) (T : Ths s.heap us zs)
  (K : Thing s.heap v z.toNat) (hu : A.units + 2 < cLine) (h : Q (.bool (!(zs.map kd).any (· == kd z))) s) : wpAny (model pw w) A (compareOp .NotIn v (.ref l)) Q E s := by
 let e : Value → Bool := fun y => decide (∃ k : Nat, Thing s.heap y k ∧ kd k = kd z)
 have he : ∀ {y : Value} {k : Nat}, Thing s.heap y k → e y = decide (kd k = kd z) := fun {y k} t => by
  by_cases q : kd k = kd z
  ·rw [decide_eq_true q]; exact decide_eq_true ⟨k, t, q⟩
  ·rw [decide_eq_false q]
   exact decide_eq_false fun ⟨k', t', q'⟩ => q (by rw [t.inj t']; exact q')
 refine notIn_listAt e hl (fun y hy => ?_) ?_
 ·obtain ⟨i, hi, rfl⟩ := lmg.mp (List.mem_toArray.mp hy)
  refine Ex1 (T.get (lge hi)) fun z' => an2 fun _ Y => ?_
  have := Y.eqAt (A := A.in1) K hu
  rwa [he Y, ← kd_nat z]
 ·have : us.toArray.any e = (zs.map kd).any (· == kd z) := by
   rw [List.any_toArray]
   clear hl h
   induction T with
   | nil => rfl
   | cons x _ ih =>
    rw [List.any_cons, lmn, List.any_cons, ih, he x, kd_nat]
    rfl
  rw [this]; exact h
section
open AutoSeq1 (wpAny_loadPart')
open MeetsSeq MeetsSeq2 MeetsSeq3 SeqRoads2
noncomputable def hitFrom (e : Value → Bool) : List Value → Nat → Option Nat
 | [], _ => none
 | y :: ys, i => if e y then some i else hitFrom e ys (i + 1)
def Removes (l : Addr) (xs : List Value) (n : Nat) (x : Value) (e : Value → Bool) (hit : Option Nat) : PySem.Spec := fun A R s =>
 s.heap.get? l = some (listOf xs.toArray n) ∧ (∀ y, y ∈ xs → EqAt A.in1 s y x (e y)) ∧
 match hit with
 | some j => R (.ok (.ret .none)) { s with heap := s.heap.update l (Obj.mapSeq fun its => its.eraseIdxIfInBounds j) }
 | none => raisesNew "ValueError" A R s
theorem remove_turns (l : Addr) (xs : List Value) (n : Nat) (x : Value) (e : Value → Bool) (hz : xs.toArray.size ≤ sizeLine) :
  ∀ (ys : List Value) (i : Nat), xs.drop i = ys → Meets (Builtin.«list.remove.loop» ⟨[.ref l, x, rawInt i], []⟩) (Removes l xs n x e (hitFrom e ys i)) := by
 intro ys
 induction ys with
 | nil =>
  rintro i hd prog w A R ⟨hp, g, d, tk, os⟩ ⟨hl, he, h⟩
  have no : xs.toArray[((i : Nat) : Int).toNat]? = none := by simpa using hd
  wp_walk using wpAny_loadPart' hl
  rw [no]
  wp_walk
  exact_raiseError plainExc_ValueError h.1 h.2
 | cons y ys ih =>
  rintro i hd prog w A R ⟨hp, g, d, tk, os⟩ ⟨hl, he, h⟩
  have hy : xs[i]? = some y := by have := congrArg List.head? hd; simpa [List.head?_drop] using this
  have at_ : xs.toArray[((i : Nat) : Int).toNat]? = some y := by simpa using hy
  have step : ((i : Int) + 1) = ((i + 1 : Nat) : Int) := by push_cast; rfl
  wp_walk using wpAny_loadPart' hl
  rw [at_]
  refine wb (he y (lmo hy) prog w _ _ ?_)
  unfold hitFrom at h
  cases q : e y with
  | true =>
   rw [q, if_pos rfl] at h
   have hz' : (xs.toArray.eraseIdxIfInBounds i).size ≤ sizeLine + 1 := nlt (size_erased xs.toArray _) (Nat.le_succ_of_le hz)
   wp_walk using (wpAny_updateSeq hl rfl (hz := hz) (_hz' := hz')), wpAny_loadPart' hl
   simpa using h
  | false =>
   rw [q, if_neg bfn] at h
   wp_walk
   rw [step]
   refine ⟨plainId_quiet plain_remove_loop _, codeAny_builtin entry_remove_loop ?_⟩
   rw [Around.under_plainId plain_remove_loop _]
   refine ih (i + 1) ?_ prog w A R _ ⟨hl, he, h⟩
   rw [← List.drop_drop, hd]; rfl
theorem remove_meets (l : Addr) (xs : List Value) (n : Nat) (x : Value) (e : Value → Bool) (hz : xs.toArray.size ≤ sizeLine) : Meets (Builtin.«list.remove» ⟨[.ref l, x], []⟩) (Removes l xs n x e (hitFrom e xs 0)) := by
 rintro prog w A R ⟨hp, g, d, tk, os⟩ H
 have hl := H.1
 wp_walk using wpAny_loadPart' hl
 refine ⟨plainId_quiet plain_remove_loop _, codeAny_builtin entry_remove_loop ?_⟩
 rw [Around.under_plainId plain_remove_loop _]
 exact remove_turns l xs n x e hz xs 0 rfl prog w A R _ H
end
section
variable {outer : List Env} {base : Heap} {e : Addr} {X : String}
theorem noted_first {Q : Unit → Shared → Prop} {ob : Obj} {t : Value} (hfr : A.frames = some (env :: outer)) (hl : s.heap.FunFrames base (env :: outer)) (hf : env.frame = some L) (hkb : base.StaysIn s.heap) (hen : base.get? e = none)
  (he : s.heap.get? e = some ob) (hd : ob.data = .fields #[t, .none, .none, .none, .bool false, .none])
  (h : ∀ h', Heap.NotedW base (env :: outer) e ob.cls t (rawInt L) s.heap h' → Q () { s with heap := h' }) : wpAny (model pw w) A (noteFrame (.ref e) env) Q E s := by
 unfold noteFrame
 simp only [hf]
 refine wb (wpAny_field he hd (x := .none) rfl ?_)
 rw [if_neg (by decide)]
 exact wpAny_entryW hfr hl hf he hkb hen hd (nlo rfl) rfl h
theorem back_held {Q : Unit → Shared → Prop} {cls a0 : Value} (hf : env.frame = some L) (hkb : base.StaysIn s.heap) (hl : s.heap.FunFrames base (env :: outer)) (ht : s.heap.TracedAtW base e cls a0 (rawInt L))
  (h : ∀ h', base.StaysIn h' → h'.FunFrames base (env :: outer) → h'.TracedAtW base e cls a0 (rawInt L) → s.heap.UpToSlots h' → Q () { s with heap := h' }) :
  wpAny (model pw w) A (do
   if (← field (.ref e) 1) == .none then unsupported "frame.own-activation:exception-without-traceback"
   setFlight (.ref e) env.frame) Q E s := by
 refine Ex5 ht fun oe vs T oT ts => an8 fun he hcls hd h1 hnT hTe hT => an2 fun hdT h3 => ?_
 refine wb (wpAny_field he hd h1 ?_)
 rw [if_neg (show ¬ ((Value.ref T == Value.none) = true) from by simp)]
 unfold setFlight
 rw [hf]
 refine wb (wpAny_field he hd h1 ?_)
 rw [if_pos (show (Value.ref T != Value.none) = true from by simp)]
 have hsz3 : 3 < ts.size := (Array.getElem?_eq_some_iff.mp h3).1
 have other : ∀ b, b ≠ T → (s.heap.update T (Obj.mapFields (·.setIfInBounds 3 (rawInt L)))).get? b = s.heap.get? b := fun b hb => Heap.get?_update_other _ _ (Ne.symm hb)
 have noRecord : ∀ b o, s.heap.get? b = some o → (∀ vs, o.data ≠ .fields vs) → b ≠ T := fun b o hb hnf q => by
  rw [q, hT] at hb; cases hb; exact hnf ts hdT
 refine wpAny_setField hT hdT hsz3 (h _ (fun b o hbo => (other b fun q => by rw [q, hnT] at hbo; cases hbo).trans (hkb b o hbo))
  (hl.of_keeps fun b o hb hnf => ⟨o, (other b (noRecord b o hb hnf)).trans hb, rfl⟩) ?_ fun b o hb hnf => ⟨o.slots, (other b (noRecord b o hb hnf)).trans hb⟩)
 exact ⟨oe, vs, T, _, _, (other e (Ne.symm hTe)).trans he, hcls, hd, h1, hnT, hTe, Heap.get?_update_self _ hT (Obj.isFreed_of_fields (Obj.data_mapFields hdT _)), Obj.data_mapFields hdT _, by simp [hsz3]⟩
theorem caught {T : String} {t : Expr} {b₀ : Stmt} {suite : List Stmt} {pos : Pos} {Q : Flow → Shared → Prop} {h : Heap} (hfr : A.frames = some (env :: outer)) (hf : env.frame = some L) (hl : h.FunFrames base (env :: outer)) (hkb : base.StaysIn h)
  (hx : Heap.NewExc h s.heap e X)
  (hexc : isSubtype (.type T) (.type "BaseException") = pure true) (hnt : isSubtype (.type ((Manifest.find? T).elim "type" fun x => x.metatype)) (.type "tuple") = pure false)
  (hsub : isSubtype (.type X) (.type T) = pure true)
  (hname : ∀ (h' : Heap) (Q' : Value → Shared → Prop), base.StaysIn h' → h.UpToSlots h' → Q' (.type T) { s with heap := h' } →
   wpAny (model pw w) (A.mark (some (.ref e))) (eval t env) Q' (notedBy (model pw w) (A.mark (some (.ref e))) env (cameBackBy (model pw w) A env E)) { s with heap := h' })
  (k : ∀ h', base.StaysIn h' → h.UpToSlots h' → wpAny (model pw w) (A.mark (some (.ref e))) (execs (b₀ :: suite) env) Q (notedBy (model pw w) (A.mark (some (.ref e))) env (cameBackBy (model pw w) A env E)) { s with heap := h' }) :
  XX w A env (fun e s₁ => wpAny (model pw w) A (noteFrame e env) (fun _ s₂ => wpAny (model pw w) A (setFlight e none) (fun _ s₃ => wpAny (model pw w) A (handleBy e env [.ExceptHandler (some t) none (b₀ :: suite) pos]) Q E s₃) E s₂) E s₁) (.ref e) s := by
 have kx : h.UpToSlots s.heap := .of_keeps hx.keeps
 have fl := hl.of_keeps (h' := s.heap) fun b o hb _ => ⟨o, hx.keeps b o hb, rfl⟩
 have hen : base.get? e = none := by
  cases q : base.get? e with
  | none => rfl
  | some o => have := hkb _ _ q; rw [hx.new] at this; cases this
 refine Ex2 hx.there fun ob tt => an3 fun he hcls hd => ?_
 refine noted_first hfr fl hf (fun b o q => hx.keeps _ _ (hkb b o q)) hen he hd fun h₁ ⟨a1, a2, a3, a4⟩ => ?_
 refine back_held (s := { s with heap := h₁ }) hf a1 a2 a3 fun h₂ b1 b2 b3 b4 => ?_
 refine wpAny_noteFrame_againW (s := { s with heap := h₂ }) hf b3 ?_
 refine wpAny_setFlight_noneW (s := { s with heap := h₂ }) b1 b2 b3 fun h₃ c1 c2 c3 c4 => ?_
 have k3 : h.UpToSlots h₃ := ((kx.trans a4).trans b4).trans fun b o q hn => ⟨o.slots, c4 b o q hn⟩
 refine wpAny_handleBy_builtin (X := X) (T := T) (b := true) hexc hnt hsub (hname h₃ _ c1 k3 ⟨rfl, ?_, ?_⟩)
 ·refine Ex1 c3.at.there fun ob' => an2 fun he' hc' => ?_
  exact ⟨ob', he', hc'.trans hcls⟩
 ·rw [if_pos rfl]
  refine wpAny_setFlight_noneW (s := { s with heap := h₃ }) c1 c2 c3.at fun h₄ d1 d2 d3 d4 => ?_
  exact k h₄ d1 (k3.trans fun b o q hn => ⟨o.slots, d4 b o q hn⟩)
end
theorem call_fF {w : World} {A : Around} {s : Shared} {R : Result → Shared → Prop} {f : Addr} {fd : FuncData} {body : List Stmt} {ps ls gs : List Str} {args : Args} {vals : List Value}
  (B : Base w s.heap) (F : IsFn s.heap f fd) (ok : FnOk fd body ps ls gs) (hroom : A.depth < recursionLimit)
  (hbind : BindsTo s fd args (ps.zip vals)) (hlen : ps.length = vals.length)
  (h : ∀ env L s', Ev env L (ps ++ ls) gs → env.frame = some L → St s s.heap L (ps ++ ls) (vals.map some ++ List.replicate ls.length none) [] s' →
   wpAny (model pw w) (A.deeper env) (execs body env) (fun fl s'' => R (.ok (.ret (match fl with | .ret v => v | _ => .none))) s'') ff s') :
  codeAny (model pw w) A (.call (.ref f) args) R s := by
 obtain ⟨⟨o, ho, hd⟩, hc⟩ := F
 refine codeAny_call_def (fd := fd) (body := body) (binds := ps.zip vals) hroom ho hd B.lim hc ok.body hbind ok.nocell (fun x hx => ok.loc x.1 (lml _ (List.of_mem_zip hx).1)) (fun h₁ hns hk₁ => ?_) ok.co ok.gen ok.kind
 rw [Loc.binds (ns := ls) (ps := ps) (as := vals) ok.nd hlen] at hns
 refine wm (h (callEnv fd s.heap.objs.size f) s.heap.objs.size _ ⟨ok.kind, rfl, ok.globals, ok.builtins, fun x hx => ok.loc x hx, fun x hx => ok.glob x hx, ok.dbg, ok.nd⟩ rfl
  ⟨hns, hk₁, get_size _, fun _ hp => (nomatch hp), List.nodup_nil, rfl, rfl⟩) (fun _ _ x => x) fun _ _ x => x.elim
theorem call_fFR {w : World} {A : Around} {s : Shared} {R : Result → Shared → Prop} {f : Addr} {fd : FuncData} {body : List Stmt} {ps ls gs : List Str} {args : Args} {vals : List Value}
  (B : Base w s.heap) (F : IsFn s.heap f fd) (ok : FnOk fd body ps ls gs) (hroom : A.depth < recursionLimit)
  (hbind : BindsTo s fd args (ps.zip vals)) (hlen : ps.length = vals.length)
  (h : ∀ env L s' (Q : Flow → Shared → Prop), (∀ v s'', R (.ok (.ret v)) s'' → Q (.ret v) s'') → Ev env L (ps ++ ls) gs → env.frame = some L → St s s.heap L (ps ++ ls) (vals.map some ++ List.replicate ls.length none) [] s' →
   wpAny (model pw w) (A.deeper env) (execs body env) Q ff s') :
  codeAny (model pw w) A (.call (.ref f) args) R s :=
 call_fF B F ok hroom hbind hlen fun env L s' e fr S => h env L s' _ (fun _ _ x => x) e fr S
def RetF (h₀ : Heap) (s : Shared) (P : Value → Shared → Prop) : Result → Shared → Prop := fun r s' => ∃ v, r = .ok (.ret v) ∧ Keeps h₀ s'.heap ∧ s.heap.UpToSlots s'.heap ∧ s'.gens = s.gens ∧ s'.os = s.os ∧ P v s'
noncomputable def posK (zs : List Int) (z : Int) : Option Nat := zs.findIdx? fun y => kd y == kd z
noncomputable def remAll : List Int → List Int → Option (List Int)
 | [], t => some t
 | f :: fs, t => match posK t f with
  | none => none
  | some j => remAll fs (t.eraseIdx j)
noncomputable def cmpL (xs ys : List Int) : Bool := match remAll (firstsL xs) (firstsL ys) with
 | none => false
 | some t => t.isEmpty
theorem All2.erase {α β : Type} {R : α → β → Prop} {as : List α} {bs : List β} (h : All2 R as bs) (n : Nat) : All2 R (as.eraseIdx n) (bs.eraseIdx n) := by
 induction h generalizing n with
 | nil => exact .nil
 | cons x y ih => cases n with
  | zero => exact y
  | succ n => exact .cons x (ih n)
section
open Classical in
theorem remove_ {x y : Str} {i i' j n : Nat} {l : Addr} {us : List Value} {zs : List Int} {v : Value} {z : Int} {p1 p2 p3 p4 p5 : Pos} {Q : Flow → Shared → Prop} (e : Ev env L ns gs) (hh : A.handled = none) (hu : A.units + 3 < cLine) (S : St s₀ h₀ L ns vs own s)
  (hi : ns[i]? = some x) (hv : vs[i]? = some (some (.ref l))) (hi' : ns[i']? = some y) (hv' : vs[i']? = some (some v)) (hj : own[j]? = some (l, listOf us.toArray n)) (hline : (p2.endLine == p3.line) = true) (hz : us.length ≤ 1000)
  (T : Ths s.heap us zs) (K : Thing s.heap v z.toNat)
  (h1 : ∀ k m s', posK zs z = some k → St s₀ h₀ L ns vs (own.set j (l, listOf (us.eraseIdx k).toArray m)) s' → Q .next s')
  (h2 : ∀ h' tk e', posK zs z = none → Heap.NewExc s.heap h' e' "ValueError" → E (.ref e') { s with heap := h', toks := tk }) :
  wpAny (model pw w) A (exec (.Expr (.Call (.Attribute (.Name x p1) (sO "remove") p2) [.Name y p5] [] p3) p4) env) Q E s := by
 let eq : Value → Bool := fun y => decide (∃ k : Nat, Thing s.heap y k ∧ kd k = kd z)
 have he : ∀ {y : Value} {k : Nat}, Thing s.heap y k → eq y = decide (kd k = kd z) := fun {y k} t => by
  by_cases q : kd k = kd z
  ·rw [decide_eq_true q]; exact decide_eq_true ⟨k, t, q⟩
  ·rw [decide_eq_false q]
   exact decide_eq_false fun ⟨k', t', q'⟩ => q (by rw [t.inj t']; exact q')
 have hit : ∀ {us : List Value} {zs : List Int} (i : Nat), Ths s.heap us zs → hitFrom eq us i = (posK zs z).map (· + i) := fun {us zs} i T => by
  induction T generalizing i with
  | nil => rfl
  | @cons a b _ _ t _ ih =>
   have q : eq a = (kd b == kd z) := by rw [he t, kd_nat]; rfl
   rw [hitFrom, q, ih]
   unfold posK
   rw [List.findIdx?_cons]
   cases hb : (kd b == kd z) with
   | true => simp
   | false =>
    simp only [Bool.false_eq_true, if_false, Option.map_map]
    congr 1
    funext m
    simp only [Function.comp]
    lia
 refine we ?_ e.inter
 refine wpAny_Call_method rfl rfl hline PySem.F.plainAttrs_list PySem.F.slot_list_remove PySem.F.type_list_remove (ld e S hi hv ?_)
 refine ⟨⟨_, S.get hj, rfl⟩, listDict (S.get hj), ?_⟩
 refine method1_meetsIn PySem.F.slot_list_remove PySem.F.entry_list_remove (ld e S hi' hv' ⟨⟨_, S.get hj, rfl⟩, PySem.F.args_list_remove_2 _ _, _, (remove_meets l us n v eq (by rw [see, lst]; lia)).inModel pw w, ?_⟩)
 refine ⟨S.get hj, fun y hy => ?_, ?_⟩
 ·obtain ⟨k, hk, rfl⟩ := lmg.mp hy
  refine Ex1 (T.get (lge hk)) fun z' => an2 fun _ Y => ?_
  have := Y.eqAt (A := A.in1) K (by show A.units + 1 + 1 < cLine; lia)
  rwa [he Y, ← kd_nat z]
 ·rw [hit 0 T]
  cases q : posK zs z with
  | none => exact ⟨hh, fun h' tk e' hx => h2 h' tk e' q hx⟩
  | some k =>
   refine h1 k (if (us.toArray.eraseIdxIfInBounds k).size == us.toArray.size then n else n + 1) _ q (S.update hj (Heap.SameBut.update ..).extBut ((Heap.get?_update_self _ (S.get hj) rfl).trans ?_) rfl rfl)
   have : us.toArray.eraseIdxIfInBounds k = (us.eraseIdx k).toArray := by
    apply Array.toList_inj.mp; simp [Array.toList_eraseIdxIfInBounds]
   show some (listOf (us.toArray.eraseIdxIfInBounds k) (if (us.toArray.eraseIdxIfInBounds k).size == us.toArray.size then n else n + 1)) = _
   rw [this]
end
theorem remAll_append : ∀ (xs ys t : List Int), remAll (xs ++ ys) t = (remAll xs t).bind (remAll ys)
 | [], ys, t => rfl
 | x :: xs, ys, t => by
  simp only [List.cons_append, remAll]
  cases posK t x with
  | none => rfl
  | some j => exact remAll_append xs ys _
theorem remAll_len : ∀ (xs t r : List Int), remAll xs t = some r → r.length ≤ t.length
 | [], t, r, h => by cases h; exact nlr _
 | x :: xs, t, r, h => by
  simp only [remAll] at h
  cases q : posK t x with
  | none => rw [q] at h; cases h
  | some j =>
   rw [q] at h
   have h1 := remAll_len xs _ r h
   have h2 : (t.eraseIdx j).length ≤ t.length := by rw [List.length_eraseIdx]; split <;> omega
   exact nlt h1 h2
section
variable {s' : Shared} {vs' : List (Option Value)}
theorem St.fresh (S : St s₀ h₀ L ns vs own s) {a : Addr} {o : Obj} (h : s.heap.get? a = none) (h' : s'.heap.get? a = some o) : (rest s'.heap L own).get? a = some o := by
 refine rest_get h' (fun q => ?_) fun m => ?_
 ·refine Ex3 S.nsp fun oL _ _ => an2 fun hL _ => ?_
  rw [q, hL] at h; cases h
 ·refine Ex1 (lmm.mp m) fun p => an2 fun hp q => ?_
  have := (S.nw p hp).1
  rw [q, h] at this; cases this
theorem St.made (S : St s₀ h₀ L ns vs own s) {a : Addr} {o : Obj} (hf : s.heap.get? a = none) (kp : Keeps s.heap s'.heap) (hn : s'.heap.get? a = some o) (g : s'.gens = s.gens) (os : s'.os = s.os) : St s₀ h₀ L ns vs ((a, o) :: own) s' := by
 have S5 := S.keeps kp g os
 refine ⟨S5.nsp, S5.keep, S5.off, fun p hp => ?_, ?_, S5.os, S5.gens⟩
 ·rcases lmc.mp hp with rfl | hp
  ·refine ⟨hn, fun q => ?_, S.keep.none hf⟩
   refine Ex3 S.nsp fun oL _ _ => an2 fun hL _ => ?_
   rw [show a = L from q, hL] at hf; cases hf
  ·exact S5.nw p hp
 ·rw [lmn, lnc]
  refine ⟨fun m => ?_, S.nd⟩
  refine Ex1 (lmm.mp m) fun p => an2 fun hp q => ?_
  have := (S.nw p hp).1
  rw [show p.1 = a from q, hf] at this; cases this
theorem ths_own {vs' : List Value} {zs : List Int} (S : St s₀ h₀ L ns vs own s) (x : Ths s.heap vs' zs) (h : ∀ p ∈ own, NT p.2) : Ths (rest s.heap L own) vs' zs := x.imp fun _ _ t => t.ownd S h
theorem loop_listE {T : Expr} {body : List Stmt} {Q : Flow → Shared → Prop} {l : Addr} {xs : List Value} (hh : A.handled = none) (S : St s₀ h₀ L ns vs own s) (hl : Ls h₀ l xs)
  (hT : (∃ x p, T = .Name x p) ∨ ∃ es k p, T = .Tuple es k p)
  (J : Nat → List (Option Value) → List (Addr × Obj) → Heap → Prop) (mono : ∀ j vs own h h', J j vs own h → Keeps h h' → J j vs own h')
  (hJ : J 0 vs own (rest s.heap L own))
  (turn : ∀ wr g j vs own s v, Keeps h₀ g → (∀ b ∈ wr, ∃ o, g.get? b = some o) → xs[j]? = some v → J j vs own (hideL g wr) → St s₀ g L ns vs own s →
   wpAny (model pw w) A (assign T env v) (fun _ s₂ => wpAny (model pw w) A (execs body env) (fun f s' => match f with
    | .next | .cont => ∃ vs' own', St s₀ g L ns vs' own' s' ∧ J (j + 1) vs' own' (hideL (rest s'.heap L own') wr)
    | .brk => Q .next s'
    | .ret v => Q (.ret v) s') (XX w A env E) s₂) (XX w A env E) s)
  (done : ∀ g vs own s, Keeps h₀ g → J xs.length vs own g → St s₀ g L ns vs own s → Q .next s) :
  wpAny (model pw w) A (pyIter (.ref l)) (fun it s₂ => codeAny (model pw w) A (.forLoop T it body [] env) (fun r s' => match r with | .ok f => Q f s' | .error e => cameBackBy (model pw w) A env E e s') s₂) E s := by
 have ho := ls_off S hl
 have a1 := (hl.keeps S.keep).isList
 have lt1 : @LT.lt Nat _ l s.heap.objs.size := let ⟨o, ho, _⟩ := a1; hli ho
 have ltL : @LT.lt Nat _ L s.heap.objs.size := let ⟨_, _, _, ho, _⟩ := S.nsp; hli ho
 have lto : ∀ p ∈ own, @LT.lt Nat _ p.1 s.heap.objs.size := fun p hp => S.lt hp
 refine wpAny_pyIter_list a1 ?_
 have kp : Keeps s.heap (s.heap.push { cls := .type "list_iterator", data := .fields #[.ref l, .int 0 0] }) := Keeps.push _ _
 have Sz := S.keeps (s' := { s with heap := s.heap.push { cls := .type "list_iterator", data := .fields #[.ref l, .int 0 0] } }) kp rfl rfl
 have hit : (s.heap.push { cls := .type "list_iterator", data := .fields #[.ref l, .int 0 0] }).IsListIter s.heap.objs.size l 0 := ⟨_, hgs _ rfl, rfl, rfl⟩
 have hne : l ≠ s.heap.objs.size := nn (by exact Or.inl lt1)
 have Z : Steps w A T s.heap.objs.size [s.heap.objs.size, l] [s.heap.objs.size] xs.length (fun j v _ => xs[j]? = some v) (fun i h => h.IsListIter s.heap.objs.size l i ∧ h.IsList l xs.toArray) := by
  rcases hT with ⟨x, p, rfl⟩ | ⟨es, k, p, rfl⟩
  ·have W := Walks.list (prog := pw) (w := w) hh s.heap.objs.size l hne xs.toArray
   rw [lst] at W
   have Z := Steps.ofName (x := x) (pos := p) W fun i h hst b hb => by
    simp only [lmc, lmi, or_false] at hb
    rcases hb with rfl | rfl
    ·refine Ex1 hst.1 fun o => an2 fun ho _ => ?_; exact ⟨o, ho⟩
    ·refine Ex1 hst.2 fun o => an2 fun ho _ => ?_; exact ⟨o, ho⟩
   simpa using Z
  ·exact Steps.listT hh hne xs
 refine loop_anyE Z Sz ⟨hit, a1.at fun o q => kp _ _ q⟩ ?_ ?_ J mono ?_ (fun g j vs own s v a hw b c d e => turn _ g j vs own s v a hw d c e) done
 ·intro b hb
  simp only [lmc, lmi, or_false] at hb
  rcases hb with rfl | rfl
  ·refine ⟨nn (by exact Or.inr ltL), fun m => ?_⟩
   refine Ex1 (lmm.mp m) fun p => an2 fun hp q => ?_
   have := lto p hp
   exact absurd q (nn (by exact Or.inl (lto p hp)))
  ·exact ho
 ·intro b hb
  rw [lms.mp hb]
  exact S.keep.none (get_size _)
 ·refine mono _ _ _ _ _ hJ fun b o q => ?_
  have hm : b ∉ L :: own.map (·.1) := fun m => by rw [hideL_none m] at q; cases q
  have q' := hideL_sub _ _ _ _ q
  have lt : @LT.lt Nat _ b s.heap.objs.size := hli q'
  exact hideL_get (hideL_get (kp _ _ q') hm) fun m => absurd (lms.mp m) (nn (by exact Or.inl lt))
theorem loop_listQ {T : Expr} {body : List Stmt} {Q : Flow → Shared → Prop} {l : Addr} {xs : List Value} (hh : A.handled = none) (S : St s₀ h₀ L ns vs own s) (hl : Ls h₀ l xs)
  (hT : (∃ x p, T = .Name x p) ∨ ∃ es k p, T = .Tuple es k p)
  (J : Nat → List (Option Value) → List (Addr × Obj) → Heap → Prop) (mono : ∀ j vs own h h', J j vs own h → Keeps h h' → J j vs own h')
  (hJ : J 0 vs own (rest s.heap L own))
  (turn : ∀ (R : Flow → Shared → Prop) wr g j vs own s v, Keeps h₀ g → (∀ b ∈ wr, ∃ o, g.get? b = some o) → xs[j]? = some v → J j vs own (hideL g wr) → St s₀ g L ns vs own s →
   (∀ vs' own' s', St s₀ g L ns vs' own' s' → J (j + 1) vs' own' (hideL (rest s'.heap L own') wr) → R .next s') →
   wpAny (model pw w) A (assign T env v) (fun _ s₂ => wpAny (model pw w) A (execs body env) R (XX w A env E) s₂) (XX w A env E) s)
  (done : ∀ g vs own s, Keeps h₀ g → J xs.length vs own g → St s₀ g L ns vs own s → Q .next s) :
  wpAny (model pw w) A (pyIter (.ref l)) (fun it s₂ => codeAny (model pw w) A (.forLoop T it body [] env) (fun r s' => match r with | .ok f => Q f s' | .error e => cameBackBy (model pw w) A env E e s') s₂) E s :=
 loop_listE hh S hl hT J mono hJ (fun wr g j vs own s v a b c d e => turn _ wr g j vs own s v a b c d e fun vs' own' s' x y => ⟨vs', own', x, y⟩) done
theorem loop_listB {T : Expr} {body : List Stmt} {Q : Flow → Shared → Prop} {l : Addr} {xs : List Value} (hh : A.handled = none) (S : St s₀ h₀ L ns vs own s) (hl : Ls h₀ l xs)
  (hT : (∃ x p, T = .Name x p) ∨ ∃ es k p, T = .Tuple es k p)
  (J : Nat → List (Option Value) → List (Addr × Obj) → Heap → Prop) (mono : ∀ j vs own h h', J j vs own h → Keeps h h' → J j vs own h')
  (hJ : J 0 vs own (rest s.heap L own))
  (turn : ∀ (R : Flow → Shared → Prop) wr g j vs own s v, Keeps h₀ g → (∀ b ∈ wr, ∃ o, g.get? b = some o) → xs[j]? = some v → J j vs own (hideL g wr) → St s₀ g L ns vs own s →
   (∀ vs' own' s', St s₀ g L ns vs' own' s' → J (j + 1) vs' own' (hideL (rest s'.heap L own') wr) → R .next s' ∧ R .cont s') → (∀ s', Q .next s' → R .brk s') →
   wpAny (model pw w) A (assign T env v) (fun _ s₂ => wpAny (model pw w) A (execs body env) R (XX w A env E) s₂) (XX w A env E) s)
  (done : ∀ g vs own s, Keeps h₀ g → J xs.length vs own g → St s₀ g L ns vs own s → Q .next s) :
  wpAny (model pw w) A (pyIter (.ref l)) (fun it s₂ => codeAny (model pw w) A (.forLoop T it body [] env) (fun r s' => match r with | .ok f => Q f s' | .error e => cameBackBy (model pw w) A env E e s') s₂) E s :=
 loop_listE hh S hl hT J mono hJ (fun wr g j vs own s v a b c d e => turn _ wr g j vs own s v a b c d e (fun vs' own' s' x y => ⟨⟨vs', own', x, y⟩, ⟨vs', own', x, y⟩⟩) fun _ x => x) done
end
theorem St.re (S : St s₀ h₀ L ns vs own s) {P : Heap → Prop} (x : P (rest s.heap L own)) : ∃ g, Keeps h₀ g ∧ St s₀ g L ns vs own s ∧ P g := ⟨_, S.rebase.2, S.rebase.1, x⟩
theorem appN_ {x y : Str} {i i' j n : Nat} {l : Addr} {us : List Value} {v : Value} {p1 p2 p3 p4 p5 : Pos} {Q : Flow → Shared → Prop} (e : Ev env L ns gs) (S : St s₀ h₀ L ns vs own s)
  (hi : ns[i]? = some x) (hv : At vs i (.ref l)) (hi' : ns[i']? = some y) (hv' : At vs i' v) (hj : own[j]? = some (l, listOf us.toArray n)) (hline : (p2.endLine == p3.line) = true) (hu : us.length ≤ 1000)
  (h : ∀ c s', St s₀ h₀ L ns vs (own.set j (l, listOf (us ++ [v]).toArray c)) s' → Q .next s') :
  wpAny (model pw w) A (exec (.Expr (.Call (.Attribute (.Name x p1) (sO "append") p2) [.Name y p5] [] p3) p4) env) Q E s := by
 refine append_ e S hi hv hj hline (ld e S hi' hv' ⟨_, _, _, j, us.toArray, n, S, hj, by rw [lst, see]; exact nlt hu (nal 1000 16776216), fun s₂ S₂ => h (n + 1) s₂ ?_⟩)
 rw [show (us ++ [v]).toArray = us.toArray.push v by simp]
 exact S₂
theorem addF_t {acc : List Int} {z : Int} (h : (acc.map kd).any (· == kd z) = true) : addF acc z = acc := by unfold addF; rw [if_pos h]
theorem addF_f {acc : List Int} {z : Int} (h : (acc.map kd).any (· == kd z) = false) : addF acc z = acc ++ [z] := by unfold addF; rw [if_neg (by rw [h]; exact bfn)]
theorem firsts_take {zs : List Int} {j : Nat} {z : Int} (h : zs[j]? = some z) : firstsL (zs.take (j + 1)) = addF (firstsL (zs.take j)) z := by rw [take_snoc h, firstsL_snoc]
theorem firsts_bnd (zs : List Int) (j : Nat) : (firstsL (zs.take j)).length ≤ zs.length := nlt (firstsL_len _) (by rw [llt]; exact Nat.min_le_right _ _)
inductive FirstsT (l : Addr) (us : List Value) (zs : List Int) (j : Nat) (vs : List (Option Value)) (h : Heap) : List (Addr × Obj) → Prop
 | mk {lk : Addr} {K : List Value} {n : Nat} : At vs 0 (.ref l) → At vs 1 (.ref lk) → vs.length = 3 → Ths h us zs → Ths h K (firstsL (zs.take j)) → FirstsT l us zs j vs h [(lk, listOf K.toArray n)]
theorem dedup_u {w : World} {A : Around} {s : Shared} {l : Addr} {us : List Value} {zs : List Int} (B : Base w s.heap) (r : Room A 2) (hl : Ls s.heap l us) (T : Ths s.heap us zs) (hz : zs.length ≤ 1000) :
  codeAny (model pw w) A (.call (.ref 261) ⟨[.ref l], []⟩) (Ret s fun v s' => ∃ a K, v = .ref a ∧ s.heap.get? a = none ∧ Ls s'.heap a K ∧ Ths s'.heap K (firstsL zs)) s := by
 refine call_fR B (is261 B) ok261 r.lt (vals := [.ref l]) (.of_eq (by kernel_rfl)) rfl fun env L s' Q q1 _ e S => ?_
 have hu : (A.deeper env).units + 2 < cLine := by have := (r.deeper env).units; lia
 conv in (fnB _) => whnf
 refine wec (waa (List_ (it_nil (newList_ S (fun lk s' S => st_ e S (i := 1) rfl (nlo rfl) fun s' S => ?_) (nzl _)))))
 refine wec (wpAny_For (ld e S (i := 0) rfl rfl ?_))
 refine loop_listQ r.handled S hl (.inl ⟨_, _, rfl⟩) (fun j vs own h => FirstsT l us zs j vs h own) (fun j vs own h h' J k => by cases J with | mk a0 a1 a T0 T => exact .mk a0 a1 a (T0.keeps k) (T.keeps k))
  (.mk rfl rfl rfl (T.keeps S.old) .nil) (fun R wr g j vs own s' x kg hw hx J S k => ?_) fun g vs own s' kg J S => ?_
 ·cases J with | @mk lk K n a0 a1 ln T0 T =>
  refine Ex1 (T0.get hx) fun z => an2 fun hz' X => ?_
  have kk := fun {s'' : Shared} (k : Keeps g s''.heap) => (hideL_sub g wr).trans k
  refine wan (st_ e S (i := 2) rfl (ln ▸ nlo rfl) fun s' S => ?_)
  have a0 : At (vs.set 2 (some x)) 0 (.ref l) := a0.ne
  have a1 : At (vs.set 2 (some x)) 1 _ := a1.ne
  have a2 : At (vs.set 2 (some x)) 2 x := At.eq (ln ▸ nlo rfl)
  have ln := (lls (as := vs) (i := 2) (a := some x)).trans ln
  generalize vs.set 2 (some x) = vs at S a0 a1 a2 ln
  refine wec (wpAny_If (wic (ld e S (i := 2) rfl a2 (ld e S (i := 1) rfl a1 (notIn_ths (S.ls (j := 0) rfl).isList (T.keeps (kk S.keep)) (X.keeps (kk S.keep)) hu (wtb ?_)))) rfl))
  have ta := firsts_take hz'
  cases hb : ((firstsL (zs.take j)).map kd).any (· == kd z) with
  | true =>
   rw [addF_t hb] at ta
   exact wen (wen (k vs _ s' S (.mk a0 a1 ln (T0.keeps S.past) (ta ▸ T.keeps S.past))))
  | false =>
   rw [addF_f hb] at ta
   exact wec (appN_ e S (i := 1) (i' := 2) (j := 0) rfl a1 rfl a2 rfl rfl (T.len ▸ nlt (firsts_bnd zs j) hz) fun c s' S => wen (wen (k vs _ s' S (.mk a0 a1 ln (T0.keeps S.past) (ta ▸ (T.keeps S.past).snoc (X.keeps S.past))))))
 ·cases J with | @mk lk K n a0 a1 ln T0 T =>
  rw [T0.len, ltl] at T
  exact wec (wrs (ld e S (i := 1) rfl a1 (q1 _ _ ⟨_, rfl, kg.trans S.keep, S.gens, S.os, _, K, rfl, kg.none (S.nw _ (.head _)).2.2, S.ls (j := 0) rfl, T.keeps S.keep⟩)))
theorem gl_dedup_u {w : World} {h : Heap} (B : Base w h) : Gl h (sO "_deduplicate_unhashable") (.ref 261) := B.glob (by kernel_rfl)
theorem gl_list {w : World} {h : Heap} (B : Base w h) : Gl h (sO "list") (.type "list") := B.blt (by kernel_rfl) (by decide) Pv.boot_list
theorem gl_ValueError {w : World} {h : Heap} (B : Base w h) : Gl h (sO "ValueError") (.type "ValueError") := B.blt (by kernel_rfl) (by decide) (by decide +kernel)
theorem ldg0 {M : Model} {A : Around} {E : Value → Shared → Prop} {s : Shared} {env : Env} {L : Addr} {ns gs : List Str} (e : Ev env L ns gs) {x : Str} {pos : Pos} {i : Nat} {v : Value} {Q : Value → Shared → Prop} (hi : gs[i]? = some x) (g : Gl s.heap x v) (h : Q v s) :
  wpAny M A (eval (.Name x pos) env) Q E s := by
 refine Ex2 g fun mg mb => an3 fun a b c => ?_
 refine Calls.Name_function_global e.kind (e.global_ x (lmo hi)) ?_ (e.dbg x (List.mem_append_right _ (lmo hi)))
 rcases c with c | ⟨c, d⟩
 ·exact Calls.loadGlobal_global (e.glob ▸ a) c h
 ·exact Calls.loadGlobal_builtin (e.glob ▸ a) c (e.blt ▸ b) d h
theorem not_ {M : Model} {A : Around} {E : Value → Shared → Prop} {s : Shared} {v : Value} {Q : Value → Shared → Prop} (h : wpAny M A (truthy v) (fun b s₁ => Q (.bool (!b)) s₁) E s) : wpAny M A (unaryOp .Not v) Q E s := by
 unfold unaryOp
 refine whh ?_
 show wpAny M A (do return Value.bool (!(← truthy v))) Q E s
 exact wb (wm h (fun b s₁ q => wpp q) fun _ _ x => x)
inductive CmpJ (tl : Addr) (F G : List Int) (j : Nat) (vs : List (Option Value)) (h : Heap) : List (Addr × Obj) → Prop
 | mk {K : List Value} {n : Nat} {r : List Int} : At vs 4 (.ref tl) → vs.length = 6 → remAll (F.take j) G = some r → Ths h K r → CmpJ tl F G j vs h [(tl, listOf K.toArray n)]
theorem rem_step {F G r : List Int} {j : Nat} {z : Int} {k : Nat} (hz : F[j]? = some z) (hr : remAll (F.take j) G = some r) (hp : posK r z = some k) : remAll (F.take (j + 1)) G = some (r.eraseIdx k) := by
 rw [take_snoc hz, remAll_append, hr]
 show remAll [z] r = _
 simp only [remAll, hp]
theorem rem_fail {F G r : List Int} {j : Nat} {z : Int} (hz : F[j]? = some z) (hr : remAll (F.take j) G = some r) (hp : posK r z = none) : remAll F G = none := by
 rw [← List.take_append_drop (j + 1) F, take_snoc hz, laa, remAll_append, hr]
 show remAll ([z] ++ _) r = none
 simp only [List.cons_append, List.nil_append, remAll, hp]
section
variable {Q : Flow → Shared → Prop} {a1 tl : Addr} {K1 K2 : List Value} {F G : List Int} {c : Nat}
theorem cmp_loop {p p1 p2 p3 p4 p5 : Pos} (hline : (p2.endLine == p3.line) = true) (hh : A.handled = none) (hu : A.units + 3 < cLine) (e : Ev env L (sO "first_args" :: N268.tail) gs) (S : St s₀ h₀ L N268 vs [(tl, listOf K2.toArray c)] s) (hl : Ls h₀ a1 K1) (X1 : Ths h₀ K1 F) (X2 : Ths h₀ K2 G) (hG : G.length ≤ 1000) (a4 : At vs 4 (.ref tl)) (ln : vs.length = 6)
  (hE : ∀ g s₁ vs own h' tk e', Keeps h₀ g → St s₀ g L N268 vs own s₁ → remAll F G = none → Heap.NewExc s₁.heap h' e' "ValueError" → XX w A env E (.ref e') { s₁ with heap := h', toks := tk })
  (hQ : ∀ g s₁ vs K n r, Keeps h₀ g → St s₀ g L N268 vs [(tl, listOf K.toArray n)] s₁ → At vs 4 (.ref tl) → remAll F G = some r → Ths g K r → Q .next s₁) :
  wpAny (model pw w) A (pyIter (.ref a1)) (fun it s₂ => codeAny (model pw w) A (.forLoop (.Name (sO "elem") p) it [.Expr (.Call (.Attribute (.Name (sO "t") p1) (sO "remove") p2) [.Name (sO "elem") p5] [] p3) p4] [] env) (fun r s' => match r with | .ok f => Q f s' | .error e => cameBackBy (model pw w) A env E e s') s₂) E s := by
 refine loop_listQ hh S hl (.inl ⟨_, _, rfl⟩) (fun j vs own h => CmpJ tl F G j vs h own) (fun j vs own h h' J k => by cases J with | mk a4 ln hr T => exact .mk a4 ln hr (T.keeps k)) (.mk a4 ln rfl (X2.keeps S.old)) (fun R wr g j vs own s' v kg _ hv J S k => ?_) fun g vs own s' kg J S => ?_
 ·cases J with | @mk K n r a4 ln hr T =>
  refine Ex1 (X1.get hv) fun z => an2 fun hz Z => ?_
  have Z := Z.keeps kg
  have T' := T.keeps (hideL_sub _ _)
  refine wan (st_ e S (i := 5) rfl (ln ▸ nlo rfl) fun s₆ S => ?_)
  have a4 : At (vs.set 5 (some v)) 4 (.ref tl) := a4.ne
  have a5 : At (vs.set 5 (some v)) 5 v := At.eq (ln ▸ nlo rfl)
  have ln := (lls (as := vs) (i := 5) (a := some v)).trans ln
  generalize vs.set 5 (some v) = vs at S a4 a5 ln
  exact wec (remove_ e hh hu S (i := 4) (i' := 5) (j := 0) rfl a4 rfl a5 rfl hline (T.len ▸ nlt (remAll_len _ _ _ hr) hG) (T'.keeps S.keep) (Z.keeps S.keep)
   (fun m c s₇ hp S => wen (k vs _ s₇ S (.mk a4 ln (rem_step hz hr hp) (Ths.keeps (T.erase m) S.past)))) fun h' tk e' hp hx => hE g s₆ vs _ h' tk e' kg S (rem_fail hz hr hp) hx)
 ·cases J with | mk a4 ln hr T =>
  rw [X1.len, ltl] at hr
  exact hQ g s' vs _ _ _ kg S a4 hr T
end
theorem cmp_nil {K : List Value} {h : Heap} {F G r : List Int} (T : Ths h K r) (hr : remAll (firstsL F) (firstsL G) = some r) : (!!K.toArray.isEmpty) = cmpL F G := by
 rw [cmpL, hr]
 have hl := T.len
 cases K with
 | nil => cases r with
  | nil => rfl
  | cons _ _ => cases hl
 | cons _ _ => cases r with
  | nil => cases hl
  | cons _ _ => rfl
theorem cmp_args {w : World} {A : Around} {s : Shared} {h₀ : Heap} {outer : List Env} {l1 l2 : Addr} {us1 us2 : List Value} {zs1 zs2 : List Int} (B : Base w s.heap) (hk : Keeps h₀ s.heap) (B0 : Base w h₀) (hfr : A.frames = some outer) (FF : s.heap.FunFrames h₀ outer) (r : Room A 3)
  (hl1 : Ls s.heap l1 us1) (T1 : Ths s.heap us1 zs1) (hl2 : Ls s.heap l2 us2) (T2 : Ths s.heap us2 zs2) (hz1 : zs1.length ≤ 1000) (hz2 : zs2.length ≤ 1000) :
  codeAny (model pw w) A (.call (.ref 268) ⟨[.ref l1, .ref l2], []⟩) (RetF h₀ s fun v s' => v = .bool (cmpL zs1 zs2)) s := by
 refine call_fFR B (is268 B) ok268 r.lt (vals := [.ref l1, .ref l2]) (.of_eq (by kernel_rfl)) rfl fun env L s' Q q1 e fr S => ?_
 have r1 := r.deeper env
 have hfr' := Around.frames_deeper (env := env) hfr
 have hoff := hk.none S.off
 obtain ⟨⟨o, ho, hd⟩, _⟩ := is261 B
 conv in (fnB _) => whnf
 refine wec (waa (callName e S (i := 0) rfl (gl_dedup_u B) ho hd (it_Name (ld e S (i := 0) rfl rfl (it_nil ⟨S.keep, use S (dedup_u (B.keeps S.keep) r1 (hl1.keeps S.keep) (T1.keeps S.keep) hz1) ?_⟩)))))
 refine fun v s₁ S1 k1 => ex2 fun a1 K1 => an4 fun zz1 f1 zz2 X1 => ?_
 subst zz1
 refine Ex1 zz2 fun n1 e1 => ?_
 refine Ex1 (S1.re (P := fun g => g.get? a1 = _ ∧ Ths g K1 _) ⟨S.fresh f1 e1, ths_own S1 X1 (fun p hp => (nomatch hp))⟩) fun g => an4 fun kg S q1' X1 => ?_
 refine st_ e S (i := 2) rfl (nlo rfl) fun s₂ S => ?_
 refine wec (waa (callName e S (i := 0) rfl (gl_dedup_u (B.keeps kg)) (kg _ _ ho) hd (it_Name (ld e S (i := 1) rfl rfl (it_nil ⟨S.keep, use S (dedup_u ((B.keeps kg).keeps S.keep) r1 ((hl2.keeps kg).keeps S.keep) ((T2.keeps kg).keeps S.keep) hz2) ?_⟩)))))
 refine fun v s₃ S3 k3 => ex2 fun a2 K2 => an4 fun zz1 f2 zz2 X2 => ?_
 subst zz1
 refine Ex1 zz2 fun n2 e2 => ?_
 refine Ex1 (S3.re (P := fun g => g.get? a2 = _ ∧ Ths g K2 _) ⟨S.fresh f2 e2, ths_own S3 X2 (fun p hp => (nomatch hp))⟩) fun g2 => an4 fun kg2 S q2 X2 => ?_
 have q1' := kg2 _ _ q1'
 have X1 := X1.keeps kg2
 have kg := kg.trans kg2
 clear kg2
 refine st_ e S (i := 3) rfl (nlo rfl) fun s₄ S => ?_
 have hG : (firstsL zs2).length ≤ 1000 := nlt (firstsL_len zs2) hz2
 refine wec (waa (callTyp e S (i := 1) rfl (gl_list (B.keeps kg)) (it_Name (ld e S (i := 3) rfl rfl (it_nil (call_list_seq a2 (.inl rfl) (S.keep _ _ q2) rfl rfl (fun h' c' kp hnew => ?_) (by rw [see, lst, X2.len]; exact nlt hG (by decide))))))))
 have S := S.made (s' := { s₄ with heap := h' }) (get_size _) kp hnew rfl rfl
 clear kp hnew
 generalize s₄.heap.objs.size = tl at S
 generalize { s₄ with heap := h' } = s₄ at S
 refine st_ e S (i := 4) rfl (nlo rfl) fun s₅ S => ?_
 refine wec (wpAny_Try_except (wec (wpAny_For (ld e S (i := 2) rfl rfl ?_))))
 refine cmp_loop rfl r.handled (r1.u (by decide)) e S ⟨n1, q1'⟩ X1 X2 hG rfl rfl (fun g3 s₆ vs own h' tk e' kg' S hres hx => ?_) fun g3 s₆ vs K n rr kg' S a4 hr T => ?_
 ·have kS := (kg.trans kg').trans S.keep
  have FFl : s₆.heap.FunFrames h₀ (env :: outer) := Heap.FunFrames.cons (by rw [e.kind]; decide) fr S.nsp hoff (FF.of_keeps fun b o q _ => ⟨o, kS _ _ q, rfl⟩)
  exact caught (T := "ValueError") (X := "ValueError") (s := { s₆ with heap := h', toks := tk }) (h := s₆.heap) (base := h₀) hfr' fr FFl (hk.trans kS) hx (by rw [itt]; kernel_rfl) (by kernel_rfl) (by rw [itt]; kernel_rfl) (fun h'' Q' st _ hq => ldg0 e (i := 2) rfl (gl_ValueError (B0.keeps st)) hq)
   fun h'' st up => wec (wrs (cbool (q1 _ _ ⟨_, rfl, st, (Heap.UpToSlots.of_keeps kS).trans up, S.gens, S.os, by rw [cmpL, hres]⟩)))
 ·have kS := (kg.trans kg').trans S.keep
  exact wen (wen (wec (wrs (wpAny_UnaryOp (ld e S (i := 4) rfl a4 (not_ (wpAny_truthy_list (S.ls (j := 0) rfl).isList (by rw [lst, T.len]; exact Int.ofNat_lt.mpr (nol (nlt (remAll_len _ _ _ hr) hG) (by decide))) (q1 _ _ ⟨_, rfl, hk.trans kS, Heap.UpToSlots.of_keeps kS, S.gens, S.os, congrArg _ (cmp_nil T hr)⟩))))))))
noncomputable abbrev bmO (id : String) (self : Value) : Obj := ⟨.type "builtin_function_or_method", none, .fields #[.builtin id, self], #[]⟩
theorem call_bound {b : Addr} {id : String} {self : Value} {vals : List Value} {Bf : Builtin} {S : PySem.Spec} {Q : Value → Shared → Prop} (hb : s.heap.get? b = some (bmO id self)) (hc : ∀ (A' : Around) (E' : Value → Shared → Prop) (Q' : Unit → Shared → Prop), Q' () s → wpAny (model pw w) A' (checkBoundCall id ⟨self :: vals, []⟩) Q' E' s) (hp : plainId id = true)
  (he : entryFor table id = some Bf) (g : MeetsIn pw w (Bf ⟨self :: vals, []⟩) S) (h : S A (wants Q E) s) : wpAny (model pw w) A (call (.ref b) vals) Q E s := by
 refine wpAny_call (codeAny_of_tree ?_)
 show wpAny _ _ (callAny (.ref b) _) _ _ _
 unfold callAny
 refine wb (wpAny_load hb ?_)
 dsimp only
 rw [if_pos (by decide)]
 show wpAny _ _ (if ((Value.type "builtin_function_or_method" != Value.type "method") = true) then _ else _) _ _ _
 rw [if_pos (by decide)]
 refine wb (hc _ _ _ ?_)
 refine wpp ⟨plainId_quiet hp _, codeAny_builtin he ?_⟩
 rw [Around.under_plainId hp _]
 exact g A _ s h
theorem callWith_bound {pos : Pos} {b : Addr} {args : List (Bool × Sem Value)} {Q : Value → Shared → Prop} (hp : args.any (·.1) = false)
  (h : wpAny (model pw w) A (evalArgs (.ref b) true args []) (fun a s₁ => (∃ id self, s₁.heap.get? b = some (bmO id self)) ∧ wpAny (model pw w) A (call (.ref b) a.pos a.kw) Q E s₁) E s) :
  wpAny (model pw w) A (callWith pos (.ref b) [] args []) Q E s := by
 unfold callWith
 refine wb (whh (wm h (fun a s₁ h₁ => wb (wpAny_standAt ?_)) fun _ _ x => x))
 refine An2 h₁ fun zz1 h₁ => ?_
 refine Ex2 zz1 fun id self hb => ?_
 rw [hp]
 unfold keeperOf
 refine wb (wb (wpAny_load hb ?_))
 show wpAny _ _ (if ((Value.type "builtin_function_or_method" != Value.type "method") = true) then _ else _) _ _ _
 rw [if_pos (by decide)]
 show wpAny _ _ (pure (if (Value.type "builtin_function_or_method" == Value.type "builtin_function_or_method" || Value.type "builtin_function_or_method" == Value.type "method-wrapper") = true then _ else _)) _ _ _
 rw [if_pos (by decide)]
 refine wpp ?_
 exact wb (wm h₁ (fun r s₂ h₂ => wb (whh (wpAny_point (wpp h₂)))) fun _ _ x => x)
theorem slot_cmd_get : Slot "classmethod_descriptor" "__get__" "classmethod_descriptor.__get__" :=
 .of (owner := "classmethod_descriptor") (n := "__get__") (by rw [ttt, bef]; kernel_rfl) (by decide +kernel) (by decide +kernel) (by decide +kernel)
  (by first | exact .inl (by decide +kernel) | exact .inr (by decide +kernel)) (by rw [itt]; kernel_rfl)
theorem entry_cmd_get : entryFor table "classmethod_descriptor.__get__" = some Builtin.«classmethod_descriptor.__get__» := entryFor_of_tree (by kernel_rfl)
theorem args_cmd_get (a b c : Value) : argsOk "classmethod_descriptor.__get__" ⟨[a, b, c], []⟩ := by unfold argsOk; kernel_rfl
theorem type_fromkeys : typeOf (.builtin "dict.fromkeys") = pure (.type "classmethod_descriptor") := by show builtinType _ = _; rw [builtinType_eq_fast]; kernel_rfl
theorem fromkeys_attr {pl : Sem Bool} {Q : Value × List Value → Shared → Prop} (h : ∀ s', s'.heap = s.heap.push (bmO "dict.fromkeys" (.type "dict")) → s'.gens = s.gens → s'.os = s.os → Q (.ref s.heap.objs.size, []) s') :
  wpAny (model pw w) A (getMethod (.type "dict") (sO "fromkeys") pl) Q E s := by
 have X : Frag.In [] s.heap := fun a o e => by cases e
 have hstub : opaqueClassAbove (.type "dict") = pure none := by unfold opaqueClassAbove; dsimp only; rw [show Manifest.isStub "dict" = false from by kernel_rfl]; rfl
 have ht : typeOf (.type "dict") = pure (.type "type") := by kernel_rfl
 have L0 : Looks (model pw w) s.heap (typeOf (.type "dict")) (.type "type") := Looks.of_pure ht
 have hg : findIn [] (.type "type") "__getattribute__" = some (some (.builtin "type.__getattribute__")) := type_tga
 unfold getMethod specialOf
 refine wb (wb (L0.here ((looks_findIn X hg).here ?_)))
 dsimp only
 rw [if_pos canon_tga]
 refine wb (wm (Q := fun v => Q (v, [])) (E := E) ?_ (fun _ _ z => wpp z) fun _ _ z => z)
 have LO : Looks (model pw w) s.heap (opaqueClassAbove (.type "dict")) none := Looks.of_pure hstub
 have e : findCls [] (.type "dict") (.type "type") (sO "fromkeys") = some (.get (.builtin "classmethod_descriptor.__get__") (.builtin "dict.fromkeys") .none (.type "dict")) := by kernel_rfl
 refine cls_open X LO L0 hg (looks_hook X (r := none) (by rfl)) (by show subIn [] _ _ = _; rfl) e ?_
 show wpAny _ _ (holding [Value.builtin "dict.fromkeys"] (call (.builtin "classmethod_descriptor.__get__") [.builtin "dict.fromkeys", .none, .type "dict"]) >>= _) _ _ _
 refine wb (whh (wce slot_cmd_get ?_ entry_cmd_get ?_ (args_cmd_get _ _ _)))
 ·exact type_fromkeys
 ·have hsub : isSubtype (.type "dict") (.type "dict") = pure true := by rw [itt]; kernel_rfl
  have ow : (".".intercalate ("dict.fromkeys".cutAt '.').dropLast) = "dict" := by decide +kernel
  wp_walk
  rw [ow]
  refine wpAny_of_eq hsub ?_
  dsimp only
  rw [if_neg (by decide)]
  unfold newFields
  refine wb (wnt ?_ ?_)
  ·refine wpp ⟨_, rfl, wpp ?_⟩
   show wpAny _ _ (handedOut (.ref s.heap.objs.size)) _ _ _
   exact wpp (h _ rfl rfl rfl)
  ·first | trivial | (unfold sizeOk; rw [see]; decide) | size_fits | (unfold sizeOk; simp [see])
theorem mro_dict' : mroOf (.type "dict") = pure [.type "dict", .type "object"] := by rw [mroOf_type]; kernel_rfl
theorem lookup_dict_new : typeLookup (.type "dict") "__new__" = pure (some (.builtin "dict.__new__")) := by rw [ttt, bef]; kernel_rfl
theorem called_dict : TypeCalled "dict" "dict.__new__" "dict.__init__" :=
 ⟨by decide +kernel, by decide +kernel, ⟨_, _, mro_dict'⟩, madeBy_type mro_dict' lookup_dict_new (by decide +kernel), by decide +kernel, by rw [itt]; kernel_rfl, PySem.F.slot_dict_init⟩
theorem typeCall_dict_0 : checkTypeCall "dict" ⟨[], []⟩ = pure () := by kernel_rfl
theorem newCall_dict_0 : checkBuiltinCall "dict.__new__" ⟨[.type "dict"], []⟩ = pure () := by kernel_rfl
theorem entry_dict_new : entryFor table "dict.__new__" = some Builtin.«dict.__new__» := entryFor_of_tree (by kernel_rfl)
theorem plain_dict_new : plainId "dict.__new__" = true := by decide +kernel
theorem code_dict_new {Q₁ : Value → Shared → Prop} (h : Q₁ (.ref s.heap.objs.size) { s with heap := s.heap.push (dictOf [] 0) }) :
  codeAny (model pw w) A (.call (.builtin "dict.__new__") ⟨[.type "dict"], []⟩) (wants Q₁ E) s := by
 refine codeAny_of_tree ?_
 show wpAny _ A.in1 (do checkBuiltinCall "dict.__new__" ⟨[.type "dict"], []⟩; again (.builtin "dict.__new__" ⟨[.type "dict"], []⟩)) _ _ s
 refine wb (wpAny_of_eq newCall_dict_0 (wpp ⟨plainId_quiet plain_dict_new _, codeAny_builtin entry_dict_new ?_⟩))
 rw [Around.under_plainId plain_dict_new _]
 have hsub : isSubtype (.type "dict") (.type "dict") = pure true := by rw [itt]; kernel_rfl
 have hmro := mro_dict'
 obtain ⟨hp, g, d, tk, os⟩ := s
 wp_walk
 exact h
theorem call_dict_0 {Q : Value → Shared → Prop} (h : Q (.ref s.heap.objs.size) { s with heap := s.heap.push (dictOf [] 0) }) : wpAny (model pw w) A (call (.type "dict") []) Q E s := by
 refine callType_codes (Q₁ := fun obj s₁ => obj = .ref s.heap.objs.size ∧ s₁ = { s with heap := s.heap.push (dictOf [] 0) }) called_dict typeCall_dict_0 PySem.F.entry_dict_init (code_dict_new ⟨rfl, rfl⟩) fun obj s₁ h₁ => ?_
 refine An2 h₁ fun zz1 zz2 => ?_
 subst zz1
 subst zz2
 have hS : (s.heap.push (dictOf [] 0)).get? s.heap.objs.size = some (dictOf [] 0) := hgs _ rfl
 have hT : Shared.TypeIs { s with heap := s.heap.push (dictOf [] 0) } (.ref s.heap.objs.size) "dict" := ⟨_, hS, rfl⟩
 refine ⟨hT, PySem.F.args_dict_init_1 _, ?_⟩
 unfold Builtin.«dict.__init__» Builtin.Dict.selfAndRest
 refine wb (wb (wpAny_notOrdered_dict hT ?_))
 exact wpp (wpp ⟨rfl, h⟩)
theorem Thing.tup {h h' : Heap} {v : Value} {k : Nat} (x : Thing h v k) (p : ∀ b xs, h.get? b = some (tupO xs) → h'.get? b = some (tupO xs)) : Thing h' v k := by
 cases x with
 | t1 e => exact .t1 (p _ _ e)
 | tt e => exact .tt (p _ _ e)
 | t0 e => exact .t0 (p _ _ e)
 | _ => constructor
noncomputable def fkD : List Ent → List Value → List Int → List Ent
 | D, v :: vs, z :: zs => fkD (setE D z.toNat v .none) vs zs
 | D, _, _ => D
theorem setE_len (D : List Ent) (k : Nat) (v u : Value) : (setE D k v u).length ≤ D.length + 1 := by
 unfold setE; split
 ·rw [List.length_modify]; exact Nat.le.step Nat.le.refl
 ·simp
theorem plain_fk_loop : plainId "dict.fromkeys.loop" = true := by decide +kernel
theorem entry_fk_loop : entryFor table "dict.fromkeys.loop" = some Builtin.«dict.fromkeys.loop» := entryFor_of_tree (by kernel_rfl)
theorem fk_turns {w : World} {d it l : Addr} {us : List Value} {zs : List Int} (h1 : it ≠ d) (h2 : l ≠ d) (h3 : l ≠ it) (hz : us.length ≤ 1000) :
  ∀ (k i : Nat) (D : List Ent) (n : Nat) (A : Around) (R : Result → Shared → Prop) (s : Shared), us.length - i = k → A.units + 10 < cLine → A.handled = none → s.heap.IsListIter it l i → s.heap.IsList l us.toArray → s.heap.get? d = some (dictT w D n) → TD s.heap D → Ths s.heap us zs → D.length ≤ i →
   (∀ s' n', (∀ b o, b ≠ it → b ≠ d → s.heap.get? b = some o → s'.heap.get? b = some o) → s'.heap.get? d = some (dictT w (fkD D (us.drop i) (zs.drop i)) n') → TD s'.heap (fkD D (us.drop i) (zs.drop i)) → s'.gens = s.gens → s'.os = s.os → R (.ok (.ret (.ref d))) s') →
   wpAny (model pw w) A.in1 (Builtin.«dict.fromkeys.loop» ⟨[.ref d, .ref it, .none], []⟩) (fun fin s' => match fin with | .done f => R (.ok f) s' | .again c' => c'.quiet = true ∧ codeAny (model pw w) A c' R s') (fun e s' => R (.error e) s') s := by
 intro k
 induction k with
 | zero =>
  intro i D n A R s hk hu hh hit hl hd T Th hD h
  have no : us[i]? = none := lgn (by lia)
  unfold Builtin.«dict.fromkeys.loop»
  refine wb (wpAny_pyNext_list_end hh hit hl (by simpa using no) fun h' hb => ?_)
  have tupk : ∀ b xs, s.heap.get? b = some (tupO xs) → h'.get? b = some (tupO xs) := fun b xs q => hb b _ (fun z => by
   refine Ex1 hit fun o => an3 fun ho hc _ => ?_
   rw [z, ho] at q; cases q; exact absurd hc (by show Value.type "tuple" ≠ _; decide)) q
  have e1 : us.drop i = [] := List.drop_eq_nil_of_le (by lia)
  rw [e1] at h
  have e2 : fkD D [] (zs.drop i) = D := by cases zs.drop i <;> rfl
  rw [e2] at h
  exact wpp (h _ n (fun b o q1 q2 q => hb b o q1 q) (hb _ _ (Ne.symm h1) hd) ⟨fun x hx => (T.th x hx).tup tupk, T.nd⟩ rfl rfl)
 | succ k ih =>
  intro i D n A R s hk hu hh hit hl hd T Th hD h
  have hi : i < us.length := by lia
  have hx : us[i]? = some us[i] := lge hi
  refine Ex1 (Th.get hx) fun z => an2 fun hz' K => ?_
  unfold Builtin.«dict.fromkeys.loop»
  refine wb (wpAny_pyNext_list_item (x := us[i]) hit hl (by rw [List.getElem?_toArray]; exact hx) fun h' hit' hb => ?_)
  have hb := hb.extBut
  have tupk : ∀ b xs, s.heap.get? b = some (tupO xs) → h'.get? b = some (tupO xs) := fun b xs q => hb b _ (fun z => by
   refine Ex1 hit fun o => an3 fun ho hc _ => ?_
   rw [z, ho] at q; cases q; exact absurd hc (by show Value.type "tuple" ≠ _; decide)) q
  have hd' := hb _ _ (Ne.symm h1) hd
  refine wb (wpAny_typeOf (T := "dict") ⟨_, hd', rfl⟩ ?_)
  rw [if_pos (by decide)]
  refine wb (wpp ?_)
  have K' := K.tup tupk
  have T' : TD h' D := ⟨fun x hx => (T.th x hx).tup tupk, T.nd⟩
  refine wb (whh (dictSetT (s := { s with heap := h' }) (by show A.units + 1 + 1 < cLine; lia) (by rw [see]; lia) hd' T' K' fun h'' m n' hs ho => ?_))
  have tupk2 : ∀ b xs, h'.get? b = some (tupO xs) → h''.get? b = some (tupO xs) := fun b xs q => hs.extBut b _ (fun z => by
   rw [z, hd'] at q; have := congrArg Obj.cls (Option.some.inj q); exact absurd this (by show Value.type "dict" ≠ Value.type "tuple"; decide)) q
  have ed : us.drop i = us[i] :: us.drop (i + 1) := List.drop_eq_getElem_cons hi
  have hzl := lt_of_get hz'
  have ez : zs.drop i = z :: zs.drop (i + 1) := by rw [List.drop_eq_getElem_cons hzl]; rw [lge hzl] at hz'; cases hz'; rfl
  have ef : fkD D (us.drop i) (zs.drop i) = fkD (setE D z.toNat us[i] .none) (us.drop (i + 1)) (zs.drop (i + 1)) := by rw [ed, ez]; rfl
  rw [ef] at h
  refine wpp ⟨plainId_quiet plain_fk_loop _, codeAny_builtin entry_fk_loop ?_⟩
  rw [Around.under_plainId plain_fk_loop _]
  refine ih (i + 1) _ n' A R _ (by lia) hu hh ?_ ?_ ho ?_ ?_ ?_ fun s' n'' hk hd' T' g o => h s' n'' (fun b o q1 q2 q => hk b o q1 q2 (hs.extBut b o q2 (hb b o q1 q))) hd' T' g o
  ·exact hit'.extBut hs.extBut h1
  ·exact (hl.extBut hb h3).extBut hs.extBut h2
  ·have := T'.set (u := .none) K'
   exact ⟨fun x hx => (this.th x hx).tup tupk2, this.nd⟩
  ·exact Th.imp fun _ _ q => (q.tup tupk).tup tupk2
  ·have := setE_len D z.toNat us[i] .none; lia
theorem plain_fk : plainId "dict.fromkeys" = true := by decide +kernel
theorem entry_fk : entryFor table "dict.fromkeys" = some Builtin.«dict.fromkeys» := entryFor_of_tree (by kernel_rfl)
theorem fromkeys_meets {w : World} {A : Around} {R : Result → Shared → Prop} {s : Shared} {l : Addr} {us : List Value} {zs : List Int} (hu : A.units + 10 < cLine) (hh : A.handled = none) (hl : Ls s.heap l us) (T : Ths s.heap us zs) (hz : us.length ≤ 1000)
  (h : ∀ s' d n, @LE.le Nat _ s.heap.objs.size d → s.heap.get? d = none → Keeps s.heap s'.heap → s'.heap.get? d = some (dictT w (fkD [] us zs) n) → TD s'.heap (fkD [] us zs) → s'.gens = s.gens → s'.os = s.os → R (.ok (.ret (.ref d))) s') :
  wpAny (model pw w) A.in1 (Builtin.«dict.fromkeys» ⟨[.type "dict", .ref l], []⟩) (fun fin s' => match fin with | .done f => R (.ok f) s' | .again c' => c'.quiet = true ∧ codeAny (model pw w) A c' R s') (fun e s' => R (.error e) s') s := by
 have hsub : isSubtype (.type "dict") (.type "dict") = pure true := by rw [itt]; kernel_rfl
 unfold Builtin.«dict.fromkeys»
 have ls := hl.isList
 obtain ⟨nl, hlo⟩ := id hl
 have hty : s.TypeIs (.ref l) "list" := ⟨_, hlo, rfl⟩
 have hl2 : Heap.IsList (s.heap.push (dictOf [] 0)) l us.toArray := ls.at fun o q => Keeps.push _ _ _ _ q
 have hl3 : Heap.IsList (Shared.heap { s with heap := s.heap.push (dictOf [] 0) }) l us.toArray := hl2
 have kp : Keeps s.heap ((s.heap.push (dictOf [] 0)).push { cls := .type "list_iterator", data := .fields #[.ref l, .int 0 0] }) := (Keeps.push _ _).trans (Keeps.push _ _)
 have hs1 : (s.heap.push (dictOf [] 0)).objs.size = s.heap.objs.size + 1 := Heap.size_push ..
 have lt1 : @LT.lt Nat _ l s.heap.objs.size := hli hlo
 wp_walk using call_dict_0, wpAny_pyIter_list hl3
 refine ⟨plainId_quiet plain_fk_loop _, codeAny_builtin entry_fk_loop ?_⟩
 rw [Around.under_plainId plain_fk_loop _]
 refine fk_turns (d := s.heap.objs.size) (it := (s.heap.push (dictOf [] 0)).objs.size) (l := l) (us := us) (zs := zs) (by rw [hs1]; exact nn (by omega)) (nn (by omega)) (by rw [hs1]; exact nn (by omega)) hz _ 0 [] 0 A R _ rfl hu hh ⟨_, hgs _ rfl, rfl, rfl⟩ (ls.at fun o q => kp _ _ q) ?_ ⟨fun x hx => (nomatch hx), by simp⟩ (T.keeps kp) (nlr _) ?_
 ·exact hgp _ (hgs _ rfl)
 ·intro s' n' hk hd TD' g o
  refine h s' _ n' (nlr _) (get_size _) (fun b o q => hk b o ?_ ?_ (kp _ _ q)) hd TD' g o
  ·have := hli q; rw [hs1]; exact nn (.inl (Nat.lt_succ_of_lt this))
  ·exact Nat.ne_of_lt (hli q)
theorem ns_247 {w : World} {h : Heap} (B : Base w h) : ∃ m, h.Ns 247 m ∧ m (sO "unhashable_fallback") = some (.bool false) := by
 have ho := B.at (a := 247) (o := o247 w.params) (by kernel_rfl)
 refine ⟨_, ⟨_, _, _, ho, rfl, fun e he => ?_, fun _ => rfl⟩, by kernel_rfl⟩
 rw [List.mem_toArray, lms] at he
 subst he
 exact ⟨_, _, rfl⟩
theorem binds_254 {w : World} {s : Shared} {l : Addr} (B : Base w s.heap) : BindsTo s fd254 ⟨[.ref l], []⟩ ([sO "params", sO "unhashable_fallback"].zip [.ref l, .bool false]) := by
 refine Ex1 (ns_247 B) fun m => an2 fun hm hv => ?_
 intro M A E Q hq
 unfold bindArgs
 have hp : fd254.params = fd254.params := rfl
 conv at hp => rhs; whnf
 have hd : fd254.defaults = .none := rfl
 have hk : fd254.kwdefaults = .ref 247 := rfl
 rw [hp, hd, hk]
 dsimp only
 obtain ⟨hp', g, d, tk, os⟩ := s
 wp_walk using wpAny_nsGet hm
 dsimp only
 rw [hv]
 wp_walk
 exact hq
theorem gl_dict {w : World} {h : Heap} (B : Base w h) : Gl h (sO "dict") (.type "dict") := B.blt (by kernel_rfl) (by decide) Pv.boot_dict
theorem bound_fk (v : Value) : checkBoundCall "dict.fromkeys" ⟨[.type "dict", v], []⟩ = pure () := by kernel_rfl
theorem dedup {w : World} {A : Around} {s : Shared} {l : Addr} {us : List Value} {zs : List Int} (B : Base w s.heap) (r : Room A 2) (hl : Ls s.heap l us) (T : Ths s.heap us zs) (hz : zs.length ≤ 1000) :
  codeAny (model pw w) A (.call (.ref 254) ⟨[.ref l], []⟩) (Ret s fun v s' => ∃ d n, v = .ref d ∧ @LT.lt Nat _ 3 d ∧ s.heap.get? d = none ∧ s'.heap.get? d = some (dictT w (fkD [] us zs) n) ∧ TD s'.heap (fkD [] us zs)) s := by
 refine call_f B (is254 B) ok254 r.lt (vals := [.ref l, .bool false]) (binds_254 B) rfl ?_
 intro env L s' e S
 have r1 := r.deeper env
 have hh : (A.deeper env).handled = none := r.handled
 have hlen := T.len
 conv in (fnB _) => whnf
 with_reducible refine wec ?_
 refine wpAny_Try_except ?_
 with_reducible refine wec ?_
 with_reducible refine wrs ?_
 refine methodCall_KW (ldg e S (i := 0) rfl (gl_dict B) ?_) (by rfl)
 refine fromkeys_attr fun s₂ e1 e2 e3 => ?_
 have S2 := S.made (s' := s₂) (a := s'.heap.objs.size) (o := bmO "dict.fromkeys" (.type "dict")) (get_size _) (by rw [e1]; exact Keeps.push _ _) (by rw [e1]; exact hgs _ rfl) e2 e3
 refine callWith_bound rfl (cep ?_)
 refine csc (ld e S2 (i := 0) rfl rfl (csn ?_))
 refine ⟨⟨_, _, S2.get (j := 0) rfl⟩, ?_⟩
 refine call_bound (S := fun A R s => s = s₂ ∧ A.units + 10 < cLine ∧ A.handled = none ∧ ∀ s' d n, @LE.le Nat _ s₂.heap.objs.size d → s₂.heap.get? d = none → Keeps s₂.heap s'.heap → s'.heap.get? d = some (dictT w (fkD [] us zs) n) → TD s'.heap (fkD [] us zs) → s'.gens = s₂.gens → s'.os = s₂.os → R (.ok (.ret (.ref d))) s')
  (S2.get (j := 0) rfl) (fun A' E' Q' q => wpAny_of_eq (bound_fk _) q) plain_fk entry_fk ?_ ⟨rfl, ?_, hh, ?_⟩
 ·refine fun A R _ => an4 fun zz1 hu hh h => ?_
  subst zz1
  exact fromkeys_meets hu hh (hl.keeps S2.keep) (T.keeps S2.keep) (by lia) h
 ·have := r1.units; lia
 ·intro s₃ d n q0 q1 k1 q2 q3 q4 q5
  have S3 := S2.keeps k1 q4 q5
  exact ⟨_, rfl, S3.keep, S3.gens, S3.os, d, n, rfl, nll (hli ((B.keeps S2.keep).at (a := 3) (o := o3 w.params) (by kernel_rfl))) q0, S2.keep.none q1, q2, q3⟩
noncomputable abbrev MN : List Str := [sO "isjunk", sO "a", sO "b", sO "autojunk", sO "matching_blocks", sO "opcodes", sO "fullbcount", sO "b2j", sO "bjunk", sO "bpopular"]
theorem MN_nd : MN.Nodup := by decide +kernel
noncomputable def FldO (o : Obj) (m : Str → Option Value) : Prop := ∃ es ep, o.data = .dict es ep ∧ StrKeys es ∧ UniqKeys es ∧ ∀ name, nsFind es name = m name
theorem FldO.ns1 {h : Heap} {D : Addr} {o : Obj} {m : Str → Option Value} (f : FldO o m) (e : h.get? D = some o) : h.Ns1 D m := let ⟨es, ep, r⟩ := f; ⟨o, es, ep, e, r⟩
theorem FldO.of {h : Heap} {D : Addr} {m : Str → Option Value} (n : h.Ns1 D m) : ∃ o, h.get? D = some o ∧ FldO o m := let ⟨o, es, ep, e, r⟩ := n; ⟨o, e, es, ep, r⟩
theorem FldO.look {o : Obj} {m : Str → Option Value} {name : Str} (f : FldO o m) : lookIn name o = some (m name) := by
 refine Ex2 f fun es ep => an4 fun hd hk hu hf => ?_
 unfold lookIn
 rw [hd]
 dsimp only
 have e := hf name
 unfold nsFind findBy at e
 rw [← Array.find?_toList] at e
 split
 ·rename_i en he
  rw [he] at e
  simp only [Option.map_some] at e
  rw [e]
 ·rename_i he
  rw [he] at e
  rw [if_neg, ← e]
  ·rfl
  ·intro q
   refine Ex1 (List.any_eq_true.mp q) fun x => an2 fun hx hr => ?_
   refine Ex2 (hk x (Array.mem_toList_iff.mp hx)) fun n t hq => ?_
   unfold DictEntry.refKey at hr
   rw [hq] at hr
   cases hr
theorem Loc.out : ∀ {ns : List Str} {vs : List (Option Value)} {x : Str}, x ∉ ns → Loc ns vs x = none
 | [], _, _, _ => by unfold Loc; rfl
 | _ :: _, [], _, _ => by unfold Loc; rfl
 | n :: ns, v :: vs, x, h => by
  have hne : x ≠ n := fun q => h (by rw [q]; exact .head _)
  rw [Loc, if_neg hne]
  exact Loc.out fun q => h (.tail _ q)
theorem mn_cls (P : Params) : (MN.all fun n => findIn (KF P) (.ref 242) n == some none) = true := by kernel_rfl
theorem mn_none {P : Params} {x : Str} {k : Nat} (h : MN[k]? = some x) : findIn (KF P) (.ref 242) x = some none := beq_iff_eq.mp (List.all_eq_true.mp (mn_cls P) x (lmo h))
theorem ga_242 (P : Params) : findIn (KF P) (.ref 242) "__getattribute__" = some (some (.builtin "object.__getattribute__")) := by kernel_rfl
theorem ge_242 (P : Params) : findIn (KF P) (.ref 242) "__getattr__" = some none := by kernel_rfl
theorem sa_242 (P : Params) : findIn (KF P) (.ref 242) "__setattr__" = some (some (.builtin "object.__setattr__")) := by kernel_rfl
theorem po_242 (P : Params) : plainOver (KF P) 242 = true := by kernel_rfl
theorem hd_242 (P : Params) : (clsIn (KF P) 242).any (·.hasDict) = true := by kernel_rfl
theorem inst_at {h : Heap} {x D : Addr} {o : Obj} (hx : h.get? x = some (instObj 242 D)) (hd : h.get? D = some o) : InstAt h x (instObj 242 D) 242 (some o) := ⟨hx, rfl, rfl, hd⟩
section
variable {attr : Str} {k j : Nat} {x D : Addr} {oD : Obj} {mv : List (Option Value)} {v : Value}
theorem getA {expr : Bool} {Q : Value → Shared → Prop} (B : Base w h₀) (S : St s₀ h₀ L ns vs own s) (hx : h₀.get? x = some (instObj 242 D)) (hj : own[j]? = some (D, oD)) (f : FldO oD (Loc MN mv)) (hk : MN[k]? = some attr) (hv : mv[k]? = some (some v)) (hh : handedIn v = true)
  (h : ∀ s', St s₀ h₀ L ns vs own s' → s'.heap = s.heap → Q v s') : wpAny (model pw w) A (getAttr (.ref x) attr expr) Q E s := by
 have X := (B.keeps S.keep).K
 refine get_value X (inst_at (S.keep _ _ hx) (S.get hj)) (ga_242 _) ?_ hh (h _ (S.same rfl rfl rfl) rfl)
 refine Ex1 (any_some (hd_242 w.params)) fun cd => an2 fun hc hd => ?_
 have ho : PySem.W.ownOf cd (some oD) attr = some (some v) := by unfold PySem.W.ownOf; rw [if_pos hd]; show lookIn attr oD = _; rw [f.look, Loc.get MN_nd hk hv]
 unfold findObj
 rw [hc, Option.bind_some, mn_none hk, Option.bind_some]
 simp only [Option.bind_some, ho]
theorem setA {Q : Unit → Shared → Prop} (B : Base w h₀) (S : St s₀ h₀ L ns vs own s) (hx : h₀.get? x = some (instObj 242 D)) (hj : own[j]? = some (D, oD)) (f : FldO oD (Loc MN mv)) (hk : MN[k]? = some attr) (hl : k < mv.length)
  (h : ∀ s' oD', St s₀ h₀ L ns vs (own.set j (D, oD')) s' → FldO oD' (Loc MN (mv.set k (some v))) → Q () s') : wpAny (model pw w) A (setAttr (.ref x) attr v) Q E s := by
 have X := (B.keeps S.keep).K
 have I := inst_at (S.keep _ _ hx) (S.get hj)
 refine set_plain X I (sa_242 _) (osa_open (s := { s with toks := s.toks + 1 }) (r := none) X I (po_242 _) ?_ fun b => ?_)
 ·unfold takerIn; rw [mn_none hk]; rfl
 refine Ex1 (any_some (hd_242 w.params)) fun cd => an2 fun hc hd => ?_
 refine wb (wpp (wb (wb (wpAny_loadPart (S.keep _ _ hx) (wb (Looks.here (s := { s with toks := s.toks + 1 }) (looks_clsIn X hc) ?_))))))
 rw [hd]
 refine wpp (a := some D) (wb (wpp (wb ?_)))
 refine wpAny_nsSet1 (s := { s with toks := s.toks + 1 }) (f.ns1 (S.get hj)) fun h' hn hs => ?_
 rw [Loc.set MN_nd hk hl] at hn
 refine Ex1 (FldO.of hn) fun oD' => an2 fun ho' f' => ?_
 obtain ⟨o2, es, ep, e2, d2, hz⟩ := hn.count (ns := MN) fun y hy => by
  by_cases q : y ∈ MN
  ·exact q
  ·exact absurd (Loc.out q) hy
 refine wb (wpAny_lookBehind e2 (by rw [d2]; exact pastItsLine_dict (by have h10 : MN.length = 10 := rfl; rw [see]; lia)) ?_)
 exact wpp (h _ oD' (S.update (s' := { s with heap := h', toks := _ }) hj hs.extBut ho' rfl rfl) f')
end
def RetM (D : Addr) (s : Shared) (P : Value → Obj → Shared → Prop) : Result → Shared → Prop := fun r s' => ∃ v oD', r = .ok (.ret v) ∧ Heap.ExtBut D s.heap s'.heap ∧ s'.heap.get? D = some oD' ∧ s'.gens = s.gens ∧ s'.os = s.os ∧ P v oD' s'
structure Mt (P : Params) (meth : Str) (f : Addr) : Prop where
 out : meth ∉ MN
 find : findIn (KF P) (.ref 242) meth = some (some (.ref f))
 fn : typeIn (KF P) (.ref f) = some (.type "function")
 keep : keepIn (KF P) (.ref f) = true
theorem enter {g₀ h : Heap} {D : Addr} (k : Keeps g₀ h) (nD : g₀.get? D = none) : Keeps g₀ (hideL h [D]) := fun b o q => hideL_get (k _ _ q) fun m => by
 rw [lms.mp m, nD] at q; cases q
section
variable {j : Nat} {x D : Addr} {oD : Obj} {mv : List (Option Value)}
theorem St.take (S : St s₀ h₀ L ns vs own s) (hD : h₀.get? D = some oD) : St s₀ (hideL h₀ [D]) L ns vs ((D, oD) :: own) s := by
 refine ⟨S.nsp, (hideL_sub _ _).trans S.keep, (hideL_sub _ _).none S.off, fun p hp => ?_, ?_, S.os, S.gens⟩
 ·rcases lmc.mp hp with rfl | hp
  ·exact ⟨S.keep _ _ hD, fun q => (by rw [show D = L from q, S.off] at hD; cases hD), hideL_none (.head _)⟩
  ·exact ⟨(S.nw p hp).1, (S.nw p hp).2.1, (hideL_sub _ _).none (S.nw p hp).2.2⟩
 ·rw [lmn, lnc]
  refine ⟨fun m => ?_, S.nd⟩
  refine Ex1 (lmm.mp m) fun p => an2 fun hp q => ?_
  have := (S.nw p hp).2.2
  rw [show p.1 = D from q, hD] at this; cases this
theorem St.leave {g : Heap} {j : Nat} {oD' : Obj} {v : Value} {P : Value → Obj → Shared → Prop} {s' : Shared} (S : St s g L ns vs own s') (kg : Keeps (hideL s.heap [D]) g) (hj : own[j]? = some (D, oD')) (p : P v oD' s') : RetM D s P (.ok (.ret v)) s' :=
 ⟨v, oD', rfl, fun b o hb q => S.keep _ _ (kg _ _ (hideL_get q fun m => hb (lms.mp m))), S.get hj, S.gens, S.os, p⟩
theorem useM {c : Code} {P : Value → Obj → Shared → Prop} {Q : Value → Shared → Prop} (S : St s₀ h₀ L ns vs own s) (hj : own[j]? = some (D, oD)) (hs : codeAny (model pw w) A c (RetM D s P) s)
  (h : ∀ v oD' s', St s₀ h₀ L ns vs (own.set j (D, oD')) s' → Heap.ExtBut D s.heap s'.heap → P v oD' s' → Q v s') : codeAny (model pw w) A c (fun r s' => match r with | .ok (.ret v) => Q v s' | .ok _ => False | .error e => E e s') s := by
 refine codeAny_mono hs fun r s' hr => ?_
 refine Ex2 hr fun v oD' => an6 fun zz1 k hD g o p => ?_
 subst zz1
 exact h v oD' s' (S.update hj k hD g o) k p
theorem callM {self meth : Str} {p1 apos pos : Pos} {a : Expr} {rest : List Expr} {i : Nat} {f : Addr} {Q : Value → Shared → Prop} (e : Ev env L ns gs) (B : Base w h₀) (S : St s₀ h₀ L ns vs own s) (hi : ns[i]? = some self) (hv : vs[i]? = some (some (.ref x)))
  (hx : h₀.get? x = some (instObj 242 D)) (hj : own[j]? = some (D, oD)) (fl : FldO oD (Loc MN mv)) (mt : Mt w.params meth f)
  (h : wpAny (model pw w) A (spliced (backTo pos (starEach (a :: rest) env))) (fun vals s₁ => Keeps h₀ s₁.heap ∧ codeAny (model pw w) A (.call (.ref f) ⟨.ref x :: vals, []⟩) (fun r s' => match r with | .ok (.ret v) => Q v s' | .ok _ => False | .error e => E e s') s₁) E s)
  (hplain : ((backTo pos (starEach (a :: rest) env)).any (·.1) || (backToKw pos (keywordEach [] env)).any (·.1.isNone)) = false := by rfl) (he : starEach (a :: rest) env = (false, eval a env) :: starEach rest env := by rfl)
  (hc : ∃ pl, eval (.Call (.Attribute (.Name self p1) meth apos) (a :: rest) [] pos) env = (do
   let ov ← eval (.Name self p1) env
   standAt apos.atName
   let (f, first) ← holding [ov] (getMethod ov meth pl)
   callWith pos f first (backTo pos (starEach (a :: rest) env)) (backToKw pos (keywordEach [] env))) := by exact ⟨_, rfl⟩) :
  wpAny (model pw w) A (eval (.Call (.Attribute (.Name self p1) meth apos) (a :: rest) [] pos) env) Q E s := by
 have X := (B.keeps S.keep).K
 refine Ex1 hc fun pl hc => ?_
 refine methodCall_KW (ld e S hi hv (method_fn X (inst_at (S.keep _ _ hx) (S.get hj)) (ga_242 _) (ge_242 _) mt.find mt.fn (by show (lookIn meth oD).map _ = _; rw [fl.look, Loc.out mt.out]; rfl) ?_)) hc
 refine callWith_KW B.K mt.keep rfl (wm h (fun vals s₁ h₁ => wpp ⟨B.K.keeps h₁.1, wpAny_call h₁.2⟩) fun _ _ y => y) hplain he
theorem callM0 {self meth : Str} {p1 apos pos : Pos} {i : Nat} {f : Addr} {Q : Value → Shared → Prop} (e : Ev env L ns gs) (B : Base w h₀) (S : St s₀ h₀ L ns vs own s) (hi : ns[i]? = some self) (hv : vs[i]? = some (some (.ref x)))
  (hx : h₀.get? x = some (instObj 242 D)) (hj : own[j]? = some (D, oD)) (fl : FldO oD (Loc MN mv)) (mt : Mt w.params meth f)
  (h : codeAny (model pw w) A (.call (.ref f) ⟨[.ref x], []⟩) (fun r s' => match r with | .ok (.ret v) => Q v s' | .ok _ => False | .error e => E e s') s)
  (hc : ∃ pl, eval (.Call (.Attribute (.Name self p1) meth apos) [] [] pos) env = (do
   let ov ← eval (.Name self p1) env
   standAt apos.atName
   let (f, first) ← holding [ov] (getMethod ov meth pl)
   callWith pos f first (backTo pos (starEach [] env)) (backToKw pos (keywordEach [] env))) := by exact ⟨_, rfl⟩) :
  wpAny (model pw w) A (eval (.Call (.Attribute (.Name self p1) meth apos) [] [] pos) env) Q E s := by
 have X := (B.keeps S.keep).K
 refine Ex1 hc fun pl hc => ?_
 refine methodCall_KW (ld e S hi hv (method_fn X (inst_at (S.keep _ _ hx) (S.get hj)) (ga_242 _) (ge_242 _) mt.find mt.fn (by show (lookIn meth oD).map _ = _; rw [fl.look, Loc.out mt.out]; rfl) ?_)) hc
 exact callWith_KW0 B.K mt.keep rfl (wpp ⟨X, wpAny_call h⟩) rfl
theorem getS {self attr : Str} {p1 p2 : Pos} {i k : Nat} {v : Value} {Q : Value → Shared → Prop} (e : Ev env L ns gs) (B : Base w h₀) (S : St s₀ h₀ L ns vs own s) (hi : ns[i]? = some self) (hv : vs[i]? = some (some (.ref x)))
  (hx : h₀.get? x = some (instObj 242 D)) (hj : own[j]? = some (D, oD)) (f : FldO oD (Loc MN mv)) (hk : MN[k]? = some attr) (hm : mv[k]? = some (some v)) (hh : handedIn v = true)
  (h : ∀ s', St s₀ h₀ L ns vs own s' → s'.heap = s.heap → Q v s') : wpAny (model pw w) A (eval (.Attribute (.Name self p1) attr p2) env) Q E s :=
 Attribute_name (ld e S hi hv (getA B S hx hj f hk hm hh h))
theorem setS {self attr : Str} {p1 p2 : Pos} {i k : Nat} {v : Value} {Q : Unit → Shared → Prop} (e : Ev env L ns gs) (B : Base w h₀) (S : St s₀ h₀ L ns vs own s) (hi : ns[i]? = some self) (hv : vs[i]? = some (some (.ref x)))
  (hx : h₀.get? x = some (instObj 242 D)) (hj : own[j]? = some (D, oD)) (f : FldO oD (Loc MN mv)) (hk : MN[k]? = some attr) (hl : k < mv.length)
  (h : ∀ s' oD', St s₀ h₀ L ns vs (own.set j (D, oD')) s' → FldO oD' (Loc MN (mv.set k (some v))) → Q () s') : wpAny (model pw w) A (assign (.Attribute (.Name self p1) attr p2) env v) Q E s :=
 kas_attr (ld e S hi hv (setA B S hx hj f hk hl h))
end
theorem mt167 (P : Params) : Mt P (sO "set_seqs") 167 := ⟨by decide +kernel, by kernel_rfl, by kernel_rfl, by kernel_rfl⟩
theorem mt174 (P : Params) : Mt P (sO "set_seq1") 174 := ⟨by decide +kernel, by kernel_rfl, by kernel_rfl, by kernel_rfl⟩
theorem mt181 (P : Params) : Mt P (sO "set_seq2") 181 := ⟨by decide +kernel, by kernel_rfl, by kernel_rfl, by kernel_rfl⟩
theorem mt188 (P : Params) : Mt P (sO "_SequenceMatcher__chain_b") 188 := ⟨by decide +kernel, by kernel_rfl, by kernel_rfl, by kernel_rfl⟩
theorem mt196 (P : Params) : Mt P (sO "find_longest_match") 196 := ⟨by decide +kernel, by kernel_rfl, by kernel_rfl, by kernel_rfl⟩
theorem mt203 (P : Params) : Mt P (sO "get_matching_blocks") 203 := ⟨by decide +kernel, by kernel_rfl, by kernel_rfl, by kernel_rfl⟩
theorem mt210 (P : Params) : Mt P (sO "get_opcodes") 210 := ⟨by decide +kernel, by kernel_rfl, by kernel_rfl, by kernel_rfl⟩
theorem mt225 (P : Params) : Mt P (sO "ratio") 225 := ⟨by decide +kernel, by kernel_rfl, by kernel_rfl, by kernel_rfl⟩
theorem mt232 (P : Params) : Mt P (sO "quick_ratio") 232 := ⟨by decide +kernel, by kernel_rfl, by kernel_rfl, by kernel_rfl⟩
theorem Base.lt3 {w : World} {h : Heap} (B : Base w h) : @LT.lt Nat _ 3 h.objs.size := by
 refine Ex2 B.g fun mg mb => an2 fun x1 _ => ?_
 exact x1.lt
theorem Keeps.size {h h' : Heap} (k : Keeps h h') {w : World} (B : Base w h) : @LT.lt Nat _ 3 h'.objs.size := (B.keeps k).lt3
theorem loop_new {T : Expr} {body : List Stmt} {Q : Flow → Shared → Prop} {I : Addr} {fp wr : List Addr} {n : Nat} {P : Nat → Value → Heap → Prop} {Stp : Nat → Heap → Prop} (Z : Steps w A T I fp wr n P Stp)
  (S : St s₀ h₀ L ns vs own s) (kp : Keeps s.heap s₁.heap) (g : s₁.gens = s.gens) (os : s₁.os = s.os) (h0 : Stp 0 s₁.heap)
  (hfp : ∀ b ∈ fp, @LE.le Nat _ s.heap.objs.size b ∨ ∃ o, h₀.get? b = some o) (hwr : ∀ b ∈ wr, @LE.le Nat _ s.heap.objs.size b)
  (J : Nat → List (Option Value) → List (Addr × Obj) → Heap → Prop) (mono : ∀ j vs own h h', J j vs own h → Keeps h h' → J j vs own h')
  (hJ : J 0 vs own (rest s.heap L own))
  (turn : ∀ g j vs own s v, Keeps h₀ g → (∀ b ∈ wr, ∃ o, g.get? b = some o) → j < n → J j vs own (hideL g wr) → P j v s.heap → St s₀ g L ns vs own s →
   wpAny (model pw w) A (assign T env v) (fun _ s₂ => wpAny (model pw w) A (execs body env) (fun f s' => match f with
    | .next | .cont => ∃ vs' own', St s₀ g L ns vs' own' s' ∧ J (j + 1) vs' own' (hideL (rest s'.heap L own') wr)
    | .brk => Q .next s'
    | .ret v => Q (.ret v) s') ff s₂) ff s)
  (done : ∀ g vs own s, Keeps h₀ g → J n vs own g → St s₀ g L ns vs own s → Q .next s) :
  codeAny (model pw w) A (.forLoop T (.ref I) body [] env) (fun r s' => match r with | .ok f => Q f s' | .error e => cameBackBy (model pw w) A env E e s') s₁ := by
 have ltL : @LT.lt Nat _ L s.heap.objs.size := let ⟨_, _, _, ho, _⟩ := S.nsp; hli ho
 have lto : ∀ p ∈ own, @LT.lt Nat _ p.1 s.heap.objs.size := fun p hp => S.lt hp
 refine loop_any Z (S.keeps kp g os) h0 (fun b hb => ?_) (fun b hb => ?_) J mono ?_ turn done
 ·rcases hfp b hb with q | ⟨o, ho⟩
  ·refine ⟨nn (.inr (nll ltL q)), fun m => ?_⟩
   refine Ex1 (lmm.mp m) fun p => an2 fun hp z => ?_
   exact absurd z (nn (.inl (nll (lto p hp) q)))
  ·refine ⟨fun z => (by rw [z, S.off] at ho; cases ho), fun m => ?_⟩
   refine Ex1 (lmm.mp m) fun p => an2 fun hp z => ?_
   have := (S.nw p hp).2.2
   rw [z, ho] at this; cases this
 ·cases q : h₀.get? b with
  | none => rfl
  | some o => exact absurd (hwr b hb) (Nat.not_le.mpr (hli (S.keep _ _ q)))
 ·refine mono _ _ _ _ _ hJ fun b o q => ?_
  have hm : b ∉ L :: own.map (·.1) := fun m => by rw [hideL_none m] at q; cases q
  have q' := hideL_sub _ _ _ _ q
  refine hideL_get (hideL_get (kp _ _ q') hm) fun m => ?_
  exact absurd (hwr b m) (Nat.not_le.mpr (hli q'))
theorem loop_enum {elts : List Expr} {k : Nat} {pos : Pos} {body : List Stmt} {Q : Flow → Shared → Prop} {l : Addr} {xs : List Value} (hh : A.handled = none) (S : St s₀ h₀ L ns vs own s) (hl : Ls h₀ l xs)
  (J : Nat → List (Option Value) → List (Addr × Obj) → Heap → Prop) (mono : ∀ j vs own h h', J j vs own h → Keeps h h' → J j vs own h')
  (hJ : J 0 vs own (rest s.heap L own))
  (turn : ∀ wr g j vs own s T t x, Keeps h₀ g → (∀ b ∈ wr, ∃ o, g.get? b = some o) → xs[j]? = some x → J j vs own (hideL g wr) → s.heap.IsTuple T #[.int j t, x] → St s₀ g L ns vs own s →
   wpAny (model pw w) A (assign (.Tuple elts k pos) env (.ref T)) (fun _ s₂ => wpAny (model pw w) A (execs body env) (fun f s' => match f with
    | .next | .cont => ∃ vs' own', St s₀ g L ns vs' own' s' ∧ J (j + 1) vs' own' (hideL (rest s'.heap L own') wr)
    | .brk => Q .next s'
    | .ret v => Q (.ret v) s') ff s₂) ff s)
  (done : ∀ g vs own s, Keeps h₀ g → J xs.length vs own g → St s₀ g L ns vs own s → Q .next s) :
  wpAny (model pw w) A (call (.type "enumerate") [.ref l]) (fun z s₁ => wpAny (model pw w) A (pyIter z) (fun it s₂ => codeAny (model pw w) A (.forLoop (.Tuple elts k pos) it body [] env)
   (fun r s' => match r with | .ok f => Q f s' | .error e => cameBackBy (model pw w) A env E e s') s₂) E s₁) E s := by
 have a1 := (hl.keeps S.keep).isList
 refine Ex1 (id hl) fun nl hlo => ?_
 have lt1 : @LT.lt Nat _ l s.heap.objs.size := let ⟨o, ho, _⟩ := a1; hli ho
 refine call_enumerate_list a1 fun h' z1 z2 z3 z4 => wpAny_pyIter_enum z1 ?_
 have W := WalksT.enumerate (prog := pw) (w := w) hh (s.heap.objs.size + 1) s.heap.objs.size l (nn (by omega)) (nn (by omega)) (nn (by exact Or.inl lt1)) xs.toArray
 rw [lst] at W
 refine loop_new (s₁ := { s with heap := h' }) (Steps.ofT W ?_) S z4 rfl rfl ⟨⟨_, z1⟩, z2, a1.at fun o q => z4 _ _ q⟩ ?_ ?_ J mono hJ ?_ done
 ·refine fun i h => an3 fun zz1 zz2 zz3 => fun b hb => ?_
  refine Ex1 zz1 fun _ y1 => ?_
  refine Ex1 zz2 fun o2 => an2 fun y2 _ => ?_
  refine Ex1 zz3 fun o3 => an2 fun y3 _ => ?_
  simp only [lmc, lmi, or_false] at hb
  rcases hb with rfl | rfl | rfl
  ·exact ⟨_, y1⟩
  ·exact ⟨_, y2⟩
  ·exact ⟨_, y3⟩
 ·intro b hb
  simp only [lmc, lmi, or_false] at hb
  rcases hb with rfl | rfl | rfl
  ·exact .inl (nla _ _)
  ·exact .inl (nlr _)
  ·exact .inr ⟨_, hlo⟩
 ·intro b hb
  simp only [lmc, lmi, or_false] at hb
  rcases hb with rfl | rfl
  ·exact nla _ _
  ·exact nlr _
 ·refine fun g j vs own s v kg hw hj hJ => ex2 fun T vals => an3 fun zz1 zz2 hT => fun S => ?_
  subst zz1
  refine Ex2 zz2 fun t x => an2 fun hx zz3 => ?_
  subst zz3
  exact turn _ g j vs own s T t x kg hw (by simpa using hx) hJ hT S
theorem newDict_ {pos : Pos} {Q : Value → Shared → Prop} (B : Base w h₀) (S : St s₀ h₀ L ns vs own s) (h : ∀ d s', @LT.lt Nat _ 3 d → St s₀ h₀ L ns vs ((d, dictOf [] 0) :: own) s' → Q (.ref d) s') : wpAny (model pw w) A (eval (.Dict [] [] pos) env) Q E s :=
 wpAny_Dict_empty (h _ _ (S.keep.size B) (S.push (dictOf [] 0) rfl rfl rfl rfl))
theorem dictDict {h : Heap} {l : Addr} {es : List DictEntry} {n : Nat} (ho : h.get? l = some (dictOf es n)) : ∀ a, Value.ref l = .ref a → ∃ ob, h.get? a = some ob ∧ ob.dict = none := fun a q => by cases q; exact ⟨_, ho, rfl⟩
theorem setdef_ {x y : Str} {i i' j : Nat} {d : Addr} {D : List Ent} {n : Nat} {v : Value} {k : Nat} {p1 p2 p3 p5 p6 : Pos} {Q : Value → Shared → Prop} (e : Ev env L ns gs) (hu : A.units + 5 < cLine) (S : St s₀ h₀ L ns vs own s)
  (hi : ns[i]? = some x) (hv : vs[i]? = some (some (.ref d))) (hi' : ns[i']? = some y) (hv' : vs[i']? = some (some v)) (hj : own[j]? = some (d, dictT w D n)) (h3 : @LT.lt Nat _ 3 d) (hz : D.length ≤ 1000) (T : TD h₀ D) (K : Thing h₀ v k) (hn : valAt D k = none) (hline : (p2.endLine == p3.line) = true)
  (h : ∀ l s' n', St s₀ h₀ L ns vs ((l, listOf #[] 0) :: own.set j (d, dictT w (D ++ [(k, v, .ref l)]) n')) s' → Q (.ref l) s') :
  wpAny (model pw w) A (eval (.Call (.Attribute (.Name x p1) (sO "setdefault") p2) [.Name y p5, .List [] p6] [] p3) env) Q E s := by
 have hsz := see
 refine wpAny_Call_method rfl rfl hline PySem.F.plainAttrs_dict PySem.F.slot_dict_setdefault PySem.F.type_dict_setdefault (ld e S hi hv ?_)
 refine ⟨⟨_, S.get hj, rfl⟩, dictDict (S.get hj), ?_⟩
 refine ccb rfl (cep (csc (ld e S hi' hv' (csc (List_ (wpAny_items_nil (newList_ S (fun l s' S' => csn ?_) (by simp))))))))
 have hj' : ((l, listOf ([] : List Value).toArray 0) :: own)[j + 1]? = some (d, dictT w D n) := hj
 have hT : s'.TypeIs (.ref d) "dict" := ⟨_, S'.get hj', rfl⟩
 refine wce PySem.F.slot_dict_setdefault hT PySem.F.entry_dict_setdefault ?_ (PySem.F.args_dict_setdefault_3 _ _ _)
 have hne : (d == sysModules) = false := beq_eq_false_iff_ne.mpr (nn (.inr (Nat.lt_trans (by decide) h3)))
 show wpAny _ _ (Builtin.Dict.keyAndDefault "setdefault" ⟨[.ref d, v, .ref l], []⟩ >>= _) _ _ _
 unfold Builtin.Dict.keyAndDefault
 refine wb (wb (wpAny_notOrdered_dict hT ?_))
 refine wb (wpp (wb (wpp (wb (wpp (wpp ?_))))))
 show wpAny _ _ (if (d == sysModules) = true then _ else (dictSetDefault d v (.ref l) >>= _)) _ _ _
 rw [if_neg (by rw [hne]; exact bfn)]
 refine wb (setDefT (by show A.units + 1 + 1 < cLine; omega) (by omega) (S'.get hj') (T.keeps S'.keep) (K.keeps S'.keep) (fun x m q => by rw [hn] at q; cases q) fun h' m n' _ hs ho => ?_)
 exact wpp ⟨_, rfl, h l _ n' (S'.update (s' := { s' with heap := h', toks := s'.toks + m }) hj' hs.extBut ho rfl rfl)⟩
noncomputable abbrev setO (led : Bool) : Obj := { cls := .type "set", dict := none, data := .set #[] 0 (.fresh 0 0 led) }
theorem gl_set {w : World} {h : Heap} (B : Base w h) : Gl h (sO "set") (.type "set") := B.blt (by kernel_rfl) (by decide) (by decide +kernel)
theorem gl_enum {w : World} {h : Heap} (B : Base w h) : Gl h (sO "enumerate") (.type "enumerate") := B.blt (by kernel_rfl) (by decide) (by decide +kernel)
theorem callTyp0 {f : Str} {p pos : Pos} {i : Nat} {id : String} {Q : Value → Shared → Prop} (e : Ev env L ns gs) (S : St s₀ h₀ L ns vs own s) (hi : gs[i]? = some f) (g : Gl h₀ f (.type id))
  (h : wpAny (model pw w) A (call (.type id) []) Q E s) : wpAny (model pw w) A (eval (.Call (.Name f p) [] [] pos) env) Q E s := by
 refine wpAny_Call_Name_kw (ldg e S hi g ?_)
 exact PyProof.Rows.callWith_type rfl (wpp h)
theorem newSet_ {p pos : Pos} {i : Nat} {Q : Value → Shared → Prop} (e : Ev env L ns gs) (B : Base w h₀) (S : St s₀ h₀ L ns vs own s) (hi : gs[i]? = some (sO "set"))
  (h : ∀ a led s', St s₀ h₀ L ns vs ((a, setO led) :: own) s' → Q (.ref a) s') : wpAny (model pw w) A (eval (.Call (.Name (sO "set") p) [] [] pos) env) Q E s :=
 callTyp0 e S hi (gl_set B) (call_set_0 fun led => h _ led _ (S.push (setO led) rfl rfl rfl rfl))
theorem chain_tail {x D d : Addr} {oD : Obj} {vb m1 m2 m4 m5 m6 m7 : Value} {m8 m9 u3 u4 u5 u6 u7 u8 u9 u10 u11 : Option Value} {n : Nat} {Q : Flow → Shared → Prop} (e : Ev env L N188 [sO "enumerate", sO "set", sO "len"]) (B : Base w h₀) (hx : h₀.get? x = some (instObj 242 D))
  (S : St s₀ h₀ L N188 [some (.ref x), some vb, some (.ref d), u3, u4, u5, u6, u7, u8, u9, u10, u11] ((D, oD) :: own) s)
  (f : FldO oD (Loc MN [some .none, some m1, some m2, some (.bool true), some m4, some m5, some m6, some m7, m8, m9])) (hn : n < 200)
  (hlen : ∀ (p p1 pos : Pos) vs own s' (Q' : Value → Shared → Prop), vs[1]? = some (some vb) → St s₀ h₀ L N188 vs own s' → (∀ t s'', St s₀ h₀ L N188 vs own s'' → Q' (.int n t) s'') → wpAny (model pw w) A (eval (.Call (.Name (sO "len") p) [.Name (sO "b") p1] [] pos) env) Q' E s')
  (h : ∀ s' oD' js l1 ps l2 vs', St s₀ h₀ L N188 vs' ((ps, setO l2) :: (js, setO l1) :: (D, oD') :: own) s' →
   FldO oD' (Loc MN [some .none, some m1, some m2, some (.bool true), some m4, some m5, some m6, some m7, some (.ref js), some (.ref ps)]) → Q .next s') :
  wpAny (model pw w) A (execs ((fnB (kid (st 5) 5)).drop 3) env) Q E s := by
 conv in (List.drop _ _) => whnf
 with_reducible refine wec ?_
 refine wat ?_
 refine newSet_ e B S (i := 1) rfl ?_
 intro js l1 s' S
 refine setS e B S (i := 0) (k := 8) rfl rfl hx (j := 1) rfl f rfl (nlo rfl) ?_
 intro s' oD1 S f
 refine wan (st_ e S (i := 6) rfl (nlo rfl) ?_)
 intro s' S
 with_reducible refine wec ?_
 refine waa ?_
 refine getS e B S (i := 0) (k := 0) (v := .none) rfl rfl hx (j := 1) rfl f rfl rfl rfl ?_
 intro s' S _
 refine st_ e S (i := 7) rfl (nlo rfl) ?_
 intro s' S
 with_reducible refine wec ?_
 refine wpAny_If (isTrue_plain (ld e S (i := 7) rfl rfl (truthy_none ?_)))
 rw [if_neg bfn]
 refine wen ?_
 with_reducible refine wec ?_
 refine wat ?_
 refine newSet_ e B S (i := 1) rfl ?_
 intro ps l2 s' S
 refine setS e B S (i := 0) (k := 9) rfl rfl hx (j := 2) rfl f rfl (nlo rfl) ?_
 intro s' oD2 S f
 refine wan (st_ e S (i := 8) rfl (nlo rfl) ?_)
 intro s' S
 with_reducible refine wec ?_
 refine waa (hlen _ _ _ _ _ _ _ rfl S ?_)
 intro t s' S
 refine st_ e S (i := 9) rfl (nlo rfl) ?_
 intro s' S
 with_reducible refine wec ?_
 refine wpAny_If (wib (wac (isTrue_plain ?_)))
 refine getS e B S (i := 0) (k := 3) (v := .bool true) rfl rfl hx (j := 2) rfl f rfl rfl rfl ?_
 intro s' S _
 refine wtb ?_
 rw [if_pos rfl]
 refine wac (wic ?_ (by with_unfolding_all rfl))
 refine ld e S (i := 9) rfl rfl ?_
 refine cint S ?_
 intro t2 s' S
 refine P.ge_int (wtb ?_)
 rw [decide_eq_false (by lia), if_neg bfn, if_neg bfn]
 refine wen (wen ?_)
 exact h _ oD2 js l1 ps l2 _ S f
noncomputable def DictO (o : Obj) : Prop := ∃ es ep, o.data = .dict es ep
theorem DictO.nt {o : Obj} (h : DictO o) : NT o := fun xs q => by (refine Ex2 h fun es ep e => ?_); rw [q] at e; cases e
theorem FldO.dict {o : Obj} {m : Str → Option Value} (f : FldO o m) : DictO o := let ⟨es, ep, e, _⟩ := f; ⟨es, ep, e⟩
theorem St.fresh2 (S : St s₀ h₀ L ns vs own s) {a : Addr} (h : s.heap.get? a = none) : a ≠ L ∧ a ∉ own.map (·.1) := by
 refine ⟨fun q => ?_, fun m => ?_⟩
 ·refine Ex3 S.nsp fun oL _ _ => an2 fun hL _ => ?_
  rw [q, hL] at h; cases h
 ·refine Ex1 (lmm.mp m) fun p => an2 fun hp q => ?_
  have := (S.nw p hp).1
  rw [q, h] at this; cases this
structure B2J (h : Heap) (us : List Value) (zs : List Int) (DB : List Ent) : Prop where
 len : DB.length = us.length
 ks : DB.map (·.1) = zs.map Int.toNat
 vls : DB.map (·.2.1) = us
 at_ : ∀ (i : Nat) (x : Ent), DB[i]? = some x → ∃ l t, x.2.2 = .ref l ∧ Ls h l [.int i t]
theorem B2J.keeps {h h' : Heap} {us : List Value} {zs : List Int} {DB : List Ent} (b : B2J h us zs DB) (k : Keeps h h') : B2J h' us zs DB :=
 ⟨b.len, b.ks, b.vls, fun i x q => let ⟨l, t, e, q'⟩ := b.at_ i x q; ⟨l, t, e, q'.keeps k⟩⟩
noncomputable def B2At (w : World) (h : Heap) (d js : Addr) (us : List Value) (zs : List Int) : Prop :=
 @LT.lt Nat _ 3 d ∧ ∃ DB n l1, h.get? d = some (dictT w DB n) ∧ TD h DB ∧ B2J h us zs DB ∧ h.get? js = some (setO l1)
theorem B2At.keeps {w : World} {h h' : Heap} {d js : Addr} {us : List Value} {zs : List Int} (b : B2At w h d js us zs) (k : Keeps h h') : B2At w h' d js us zs :=
 let ⟨a, DB, n, l1, q1, q2, q3, q4⟩ := b; ⟨a, DB, n, l1, k _ _ q1, q2.keeps k, q3.keeps k, k _ _ q4⟩
theorem getElem?_map_take {α β : Type} {f : α → β} {l : List α} {m : List β} (h : l.map f = m) {i : Nat} {x : α} (q : l[i]? = some x) : m[i]? = some (f x) := by rw [← h, lgm, q]; rfl
theorem b2j_none {DB : List Ent} {zs : List Int} {j : Nat} {z : Int} (nd : (zs.map kd).Nodup) (hz : zs[j]? = some z) (hk : DB.map (·.1) = (zs.take j).map Int.toNat) : valAt DB z.toNat = none := by
 refine valAt_none.mpr (fnd_none.mpr fun i x q e => ?_)
 have h1 := getElem?_map_take hk q
 have hi : i < j := by
  have := lt_of_get h1
  rw [llm, llt] at this; lia
 rw [lgm, List.getElem?_take, if_pos hi] at h1
 refine Ex1 (Option.map_eq_some_iff.mp h1) fun y => an2 fun hy hy' => ?_
 have e1 : (zs.map kd)[i]? = some (kd z) := by
  rw [lgm, hy]
  show some (kd y) = _
  rw [← kd_nat y, hy', e, kd_nat]
 have e2 : (zs.map kd)[j]? = some (kd z) := by rw [lgm, hz]; rfl
 have := (List.getElem?_inj (lt_of_get e1) nd).mp (e1.trans e2.symm)
 exact Nat.ne_of_gt hi (id (Eq.symm this))
theorem b2j_td {h : Heap} {DB : List Ent} {us : List Value} {zs : List Int} (T : Ths h us zs) (nd : (zs.map kd).Nodup) (hk : DB.map (·.1) = zs.map Int.toNat) (hv : DB.map (·.2.1) = us) : TD h DB := by
 refine ⟨fun x hx => ?_, ?_⟩
 ·obtain ⟨i, hi, rfl⟩ := lmg.mp hx
  have q := lge hi
  have a1 := getElem?_map_take hk q
  have a2 := getElem?_map_take hv q
  refine Ex1 (T.get a2) fun z => an2 fun hz t => ?_
  rw [lgm, hz] at a1
  rw [← Option.some.inj a1]
  exact t
 ·have : DB.map (fun x => kd x.1) = zs.map kd := by
   have e1 : DB.map (fun x => kd x.1) = (DB.map (·.1)).map (fun k => kd (k : Nat)) := by rw [List.map_map]; rfl
   rw [e1, hk, List.map_map]
   exact List.map_congr_left fun z _ => kd_nat z
  rw [this]; exact nd
theorem b2j_snoc {h : Heap} {DB : List Ent} {us : List Value} {zs : List Int} {j : Nat} {v : Value} {z : Int} {l : Addr} {t : Tok} (b : B2J h (us.take j) (zs.take j) DB) (hj : j ≤ us.length) (hv : us[j]? = some v) (hz : zs[j]? = some z) (hl : Ls h l [.int j t]) :
  B2J h (us.take (j + 1)) (zs.take (j + 1)) (DB ++ [(z.toNat, v, .ref l)]) := by
 have hlen : DB.length = j := by rw [b.len, llt]; lia
 refine ⟨?_, ?_, ?_, fun i x q => ?_⟩
 ·rw [take_snoc hv, lla, lla, b.len]; rfl
 ·rw [take_snoc hz, lma, lma, b.ks]; rfl
 ·rw [take_snoc hv, lma, b.vls]; rfl
 ·rw [List.getElem?_append] at q
  split at q
  ·exact b.at_ i x q
  ·rename_i hi
   have : i = j := by
    have := lt_of_get q
    simp only [List.length_cons, List.length_nil] at this
    lia
   subst this
   rw [hlen, Nat.sub_self] at q
   cases q
   exact ⟨l, t, rfl, hl⟩
def ChainJ (x lb d D : Addr) (oD : Obj) (us : List Value) (zs : List Int) (w : World) (j : Nat) (vs : List (Option Value)) (own : List (Addr × Obj)) (h : Heap) : Prop :=
 ∃ (DB : List Ent) (n : Nat) (u3 u4 u5 : Option Value), vs = [some (.ref x), some (.ref lb), some (.ref d), u3, u4, u5, none, none, none, none, none, none] ∧ own = [(D, oD), (d, dictT w DB n)] ∧ B2J h (us.take j) (zs.take j) DB
theorem chain_b {w : World} {A : Around} {s : Shared} {g₀ : Heap} {x D lb : Addr} {oD : Obj} {us : List Value} {zs : List Int} {m1 m4 m5 m6 : Value} {m7 m8 m9 : Option Value} (B : Base w g₀) (k : Keeps g₀ s.heap) (nD : g₀.get? D = none) (hD : s.heap.get? D = some oD) (hx : g₀.get? x = some (instObj 242 D)) (r : Room A 2)
  (f : FldO oD (Loc MN [some .none, some m1, some (.ref lb), some (.bool true), some m4, some m5, some m6, m7, m8, m9])) (hl : Ls g₀ lb us) (T : Ths g₀ us zs) (nd : (zs.map kd).Nodup) (hz : zs.length ≤ 9) :
  codeAny (model pw w) A (.call (.ref 188) ⟨[.ref x], []⟩) (RetM D s fun v oD' s' => v = .none ∧ ∃ d js ps, FldO oD' (Loc MN [some .none, some m1, some (.ref lb), some (.bool true), some m4, some m5, some m6, some (.ref d), some (.ref js), some (.ref ps)]) ∧ s.heap.get? d = none ∧ B2At w s'.heap d js us zs) s := by
 refine call_f (B.keeps k) (is188 (B.keeps k)) ok188 r.lt (vals := [.ref x]) (.of_eq (by kernel_rfl)) rfl ?_
 intro env L s' e S
 have kg := enter k nD
 have S := S.take hD
 have hsz : sizeLine = 16777216 := see
 have hh : (A.deeper env).handled = none := r.handled
 have hu : (A.deeper env).units + 5 < cLine := by have := (r.deeper env).units; lia
 have Bg := B.keeps kg
 have hxg := kg _ _ hx
 have hlg := hl.keeps kg
 have hlen := T.len
 conv in (fnB _) => whnf
 with_reducible refine wec ?_
 refine waa (getS e Bg S (i := 0) (k := 2) (v := .ref lb) rfl rfl hxg (j := 0) rfl f rfl rfl rfl ?_)
 intro s' S _
 refine st_ e S (i := 1) rfl (nlo rfl) ?_
 intro s' S
 with_reducible refine wec ?_
 refine wat (newDict_ Bg S ?_)
 intro d s' h3 S
 have hfd : s.heap.get? d = none := by
  have h1 := (S.nw _ (.head _)).2.2
  have hdD : d ≠ D := fun q => (lnc.mp S.nd).1 (by rw [q]; exact .head _)
  cases q : s.heap.get? d with
  | none => rfl
  | some o => rw [hideL_get q (fun m => hdD (lms.mp m))] at h1; cases h1
 refine setS e Bg S (i := 0) (k := 7) rfl rfl hxg (j := 1) rfl f rfl (nlo rfl) ?_
 intro s' oD1 S f
 refine wan (st_ e S (i := 2) rfl (nlo rfl) ?_)
 intro s' S
 have S := S.perm (own' := [(D, oD1), (d, dictOf [] 0)]) (.swap _ _ _)
 with_reducible refine wec ?_
 refine wpAny_For ?_
 refine callTyp e S (i := 0) rfl (gl_enum Bg) ?_
 with_reducible refine it_Name (ld e S (i := 1) rfl rfl (it_nil ?_))
 refine loop_enum hh S hlg (ChainJ x lb d D oD1 us zs w) ?_ ?_ ?_ ?_
 ·refine fun j vs own h h' => ex5 fun DB n u3 u4 u5 => an3 fun zz1 zz2 b => fun kk => ?_
  subst zz1
  subst zz2
  exact ⟨DB, n, u3, u4, u5, rfl, rfl, b.keeps kk⟩
 ·exact ⟨[], 0, none, none, none, rfl, rfl, ⟨rfl, rfl, rfl, fun i x q => by simp at q⟩⟩
 ·refine fun wr g j vs own s' T' t v kg' hw hv => ex5 fun DB n u3 u4 u5 => an3 fun zz1 zz2 b => fun hT' S => ?_
  subst zz1
  subst zz2
  refine Ex1 (T.get hv) fun z => an2 fun hz' Z => ?_
  have hj := lt_of_get hz'
  have kgg := kg.trans kg'
  have hblen : DB.length = j := by rw [b.len, llt]; lia
  refine unp2 e hh S hT' (i := 3) (j := 4) rfl rfl (nlo rfl) (nlo rfl) ?_
  intro s' S
  with_reducible refine wec ?_
  refine waa (setdef_ e hu S (i := 2) (i' := 4) (j := 1) (D := DB) (k := z.toNat) rfl rfl rfl rfl rfl h3 (by lia) (b2j_td ((T.keeps kgg).take j) ?_ b.ks b.vls) (Z.keeps kgg) (b2j_none nd hz' b.ks) rfl ?_)
  ·rw [List.map_take]; exact nd.sublist (List.take_sublist _ _)
  intro l s' n' S
  refine st_ e S (i := 5) rfl (nlo rfl) ?_
  intro s' S
  with_reducible refine wec ?_
  refine append_ e S (i := 5) (j := 0) rfl rfl rfl rfl ?_
  refine ld e S (i := 3) rfl rfl ?_
  refine ⟨_, _, _, 0, _, _, S, rfl, nzl _, ?_⟩
  intro s' S
  have hlL := (S.nw _ (.head _)).2.1
  have hlo := (lnc.mp S.nd).1
  have hls : s'.heap.get? l = some (listOf [.int j t].toArray 1) := S.get (j := 0) rfl
  have hld := rest_get (L := L) (own := [(D, oD1), (d, dictT w (DB ++ [(z.toNat, v, .ref l)]) n')]) hls hlL hlo
  have hlg : g.get? l = none := (S.nw _ (.head _)).2.2
  have S := S.drop (own' := [(D, oD1), (d, dictT w (DB ++ [(z.toNat, v, .ref l)]) n')]) (lsc _ _)
  have hlw : l ∉ wr := fun m => by (refine Ex1 (hw l m) fun o ho => ?_); rw [hlg] at ho; cases ho
  exact wen ⟨_, _, S, _, n', _, _, _, rfl, rfl, b2j_snoc (b.keeps S.past) (by lia) hv hz' ⟨1, hideL_get hld hlw⟩⟩
 ·refine fun g vs own s' kg' => ex5 fun DB n u3 u4 u5 => an3 fun zz1 zz2 b => fun S => ?_
  subst zz1
  subst zz2
  rw [ltl, hlen, ltl] at b
  have kgg := kg.trans kg'
  have S := S.perm (own' := [(D, oD1), (d, dictT w DB n)]) (.refl _)
  refine chain_tail (d := d) (n := us.length) e (Bg.keeps kg') (kg' _ _ hxg) S f (by lia) ?_ ?_
  ·intro p p1 pos vs own s' Q' hv S hq
   exact len_ e (Bg.keeps kg') S (i := 2) (j := 1) rfl rfl hv ((hlg.keeps kg').keeps S.keep) (by lia) fun t s'' S' _ => hq t s'' S'
  intro s' oD' js l1 ps l2 vs' S f
  refine S.leave kg' (j := 2) rfl ⟨rfl, d, js, ps, f, hfd, h3, DB, n, l1, S.get (j := 3) rfl, b2j_td ((T.keeps kgg).keeps S.keep) nd b.ks b.vls, b.keeps S.keep, S.get (j := 1) rfl⟩
def NotIs (h : Heap) (u v : Value) : Prop := ∀ (M : Model) (A : Around) (E : Value → Shared → Prop) (Q : Value → Shared → Prop) (s : Shared), Keeps h s.heap → Q (.bool false) s → wpAny M A (compareOp .Is u v) Q E s
theorem NotIs.none {h : Heap} {u : Value} (hu : u ≠ .none) : NotIs h u .none := fun M A E Q s _ q => is_none_ne hu q
theorem NotIs.lists {h : Heap} {a b : Addr} {xs ys : List Value} (ha : Ls h a xs) (hb : Ls h b ys) (hne : a ≠ b) : NotIs h (.ref a) (.ref b) := fun M A E Q s k q => by
 refine Ex1 ha fun n e1 => ?_
 refine Ex1 hb fun m e2 => ?_
 exact kto_is (k _ _ e1) (k _ _ e2) hne (by show Value.type "list" ≠ _; decide) q
theorem NotIs.str {h : Heap} {a : Addr} {x : Str} {t : Tok} : NotIs h (.ref a) (.str x t) := fun M A E Q s k q => wpAny_is_other rfl (by intro z; cases z) q
section
variable {g₀ : Heap} {x D : Addr} {oD : Obj} {m0 m1 m2 m3 m4 m5 m6 m7 m8 m9 : Option Value}
theorem set_seq1 {va v1 : Value} (B : Base w g₀) (k : Keeps g₀ s.heap) (nD : g₀.get? D = none) (hD : s.heap.get? D = some oD) (hx : g₀.get? x = some (instObj 242 D)) (r : Room A 1)
  (f : FldO oD (Loc MN [m0, some v1, m2, m3, m4, m5, m6, m7, m8, m9])) (hv : handedIn v1 = true) (ni : NotIs g₀ va v1) :
  codeAny (model pw w) A (.call (.ref 174) ⟨[.ref x, va], []⟩) (RetM D s fun v oD' s' => v = .none ∧ FldO oD' (Loc MN [m0, some va, m2, m3, some .none, some .none, m6, m7, m8, m9])) s := by
 refine call_f (B.keeps k) (is174 (B.keeps k)) ok174 r.lt (vals := [.ref x, va]) (.of_eq (by kernel_rfl)) rfl ?_
 intro env L s' e S
 have kg := enter k nD
 have S := S.take hD
 have Bg := B.keeps kg
 have hxg := kg _ _ hx
 conv in (fnB _) => whnf
 with_reducible refine wec ?_
 refine we (wcs ?_) e.inter
 have S := S.same (s' := { s' with toks := s'.toks + 1 }) rfl rfl rfl
 with_reducible refine wec ?_
 refine ifc ?_
 refine ld e S (i := 1) rfl rfl ?_
 refine getS e Bg S (i := 0) (k := 1) (v := v1) rfl rfl hxg (j := 0) rfl f rfl rfl hv ?_
 intro s' S _
 refine ni _ _ _ _ _ (kg.trans S.keep) ⟨_, rfl, fun q => (nomatch q), fun _ => ?_⟩
 refine wen ?_
 with_reducible refine wec ?_
 refine pwa ?_
 refine ld e S (i := 1) rfl rfl ?_
 refine ld e S (i := 0) rfl rfl ?_
 refine setA Bg S hxg (j := 0) (k := 1) rfl f rfl (nlo rfl) ?_
 intro s' oD1 S f
 with_reducible refine wec ?_
 refine wat (cnone ?_)
 refine setS e Bg S (i := 0) (k := 4) rfl rfl hxg (j := 0) rfl f rfl (nlo rfl) ?_
 intro s' oD2 S f
 refine setS e Bg S (i := 0) (k := 5) rfl rfl hxg (j := 0) rfl f rfl (nlo rfl) ?_
 intro s' oD3 S f
 exact wen (S.leave (.refl _) (j := 0) rfl ⟨rfl, f⟩)
theorem back_none {s s' : Shared} {D d : Addr} {oD : Obj} (x : Heap.ExtBut D s.heap s'.heap) (hD : s'.heap.get? D = some oD) (n : s'.heap.get? d = none) : s.heap.get? d = none := by
 cases q : s.heap.get? d with
 | none => rfl
 | some o => rw [x d o (fun z => by rw [z, hD] at n; cases n) q] at n; cases n
theorem extBut_take {s s' : Shared} {L : Addr} {ns : List Str} {vs : List (Option Value)} {g : Heap} {own : List (Addr × Obj)} (S : St s g L ns vs own s') (kg : Keeps (hideL s.heap [D]) g) : Heap.ExtBut D s.heap s'.heap :=
 fun b o hb q => S.keep _ _ (kg _ _ (hideL_get q fun m => hb (lms.mp m)))
theorem set_seq2 {vb v2 : Value} {R : Obj → Addr → Shared → Prop} (B : Base w g₀) (k : Keeps g₀ s.heap) (nD : g₀.get? D = none) (hD : s.heap.get? D = some oD) (hx : g₀.get? x = some (instObj 242 D)) (r : Room A 3)
  (f : FldO oD (Loc MN [m0, m1, some v2, m3, m4, m5, m6, m7, m8, m9])) (hv : handedIn v2 = true) (ni : NotIs g₀ vb v2)
  (hc : ∀ A s' oD', Room A 2 → Keeps g₀ s'.heap → s'.heap.get? D = some oD' → FldO oD' (Loc MN [m0, m1, some vb, m3, some .none, some .none, some .none, m7, m8, m9]) →
   codeAny (model pw w) A (.call (.ref 188) ⟨[.ref x], []⟩) (RetM D s' fun v oD'' s'' => v = .none ∧ ∃ d, s'.heap.get? d = none ∧ R oD'' d s'') s') :
  codeAny (model pw w) A (.call (.ref 181) ⟨[.ref x, vb], []⟩) (RetM D s fun v oD' s' => v = .none ∧ ∃ d, s.heap.get? d = none ∧ R oD' d s') s := by
 refine call_f (B.keeps k) (is181 (B.keeps k)) ok181 r.lt (vals := [.ref x, vb]) (.of_eq (by kernel_rfl)) rfl ?_
 intro env L s' e S
 have kg := enter k nD
 have S := S.take hD
 have Bg := B.keeps kg
 have hxg := kg _ _ hx
 conv in (fnB _) => whnf
 with_reducible refine wec ?_
 refine we (wcs ?_) e.inter
 have S := S.same (s' := { s' with toks := s'.toks + 1 }) rfl rfl rfl
 with_reducible refine wec ?_
 refine ifc ?_
 refine ld e S (i := 1) rfl rfl ?_
 refine getS e Bg S (i := 0) (k := 2) (v := v2) rfl rfl hxg (j := 0) rfl f rfl rfl hv ?_
 intro s' S _
 refine ni _ _ _ _ _ (kg.trans S.keep) ⟨_, rfl, fun q => (nomatch q), fun _ => ?_⟩
 refine wen ?_
 with_reducible refine wec ?_
 refine pwa ?_
 refine ld e S (i := 1) rfl rfl ?_
 refine ld e S (i := 0) rfl rfl ?_
 refine setA Bg S hxg (j := 0) (k := 2) rfl f rfl (nlo rfl) ?_
 intro s' oD1 S f
 with_reducible refine wec ?_
 refine wat (cnone ?_)
 refine setS e Bg S (i := 0) (k := 4) rfl rfl hxg (j := 0) rfl f rfl (nlo rfl) ?_
 intro s' oD2 S f
 refine setS e Bg S (i := 0) (k := 5) rfl rfl hxg (j := 0) rfl f rfl (nlo rfl) ?_
 intro s' oD3 S f
 with_reducible refine wec ?_
 refine pwa (cnone ?_)
 refine ld e S (i := 0) rfl rfl ?_
 refine setA Bg S hxg (j := 0) (k := 6) rfl f rfl (nlo rfl) ?_
 intro s' oD4 S f
 with_reducible refine wec ?_
 refine we ?_ e.inter
 refine callM0 e Bg S (i := 0) rfl rfl hxg (j := 0) rfl f (mt188 _) ?_
 refine useM S (j := 0) rfl (hc _ _ _ (r.deeper env) (kg.trans S.keep) (S.get (j := 0) rfl) f) ?_
 refine fun v oD5 s₂ S2 ext => an2 fun zz1 => ex1 fun d => an2 fun hd hR => ?_
 subst zz1
 exact wen (S2.leave (.refl _) (j := 0) rfl ⟨rfl, d, back_none (extBut_take S (.refl _)) (S.get (j := 0) rfl) hd, hR⟩)
theorem set_seqs {va vb v1 v2 : Value} {R : Obj → Addr → Shared → Prop} (B : Base w g₀) (k : Keeps g₀ s.heap) (nD : g₀.get? D = none) (hD : s.heap.get? D = some oD) (hx : g₀.get? x = some (instObj 242 D)) (r : Room A 4)
  (f : FldO oD (Loc MN [m0, some v1, some v2, m3, m4, m5, m6, m7, m8, m9])) (hv1 : handedIn v1 = true) (hv2 : handedIn v2 = true) (ni1 : NotIs g₀ va v1) (ni2 : NotIs g₀ vb v2)
  (hc : ∀ A s' oD', Room A 2 → Keeps g₀ s'.heap → s'.heap.get? D = some oD' → FldO oD' (Loc MN [m0, some va, some vb, m3, some .none, some .none, some .none, m7, m8, m9]) →
   codeAny (model pw w) A (.call (.ref 188) ⟨[.ref x], []⟩) (RetM D s' fun v oD'' s'' => v = .none ∧ ∃ d, s'.heap.get? d = none ∧ R oD'' d s'') s') :
  codeAny (model pw w) A (.call (.ref 167) ⟨[.ref x, va, vb], []⟩) (RetM D s fun v oD' s' => v = .none ∧ ∃ d, s.heap.get? d = none ∧ R oD' d s') s := by
 refine call_f (B.keeps k) (is167 (B.keeps k)) ok167 r.lt (vals := [.ref x, va, vb]) (.of_eq (by kernel_rfl)) rfl ?_
 intro env L s' e S
 have kg := enter k nD
 have S := S.take hD
 have Bg := B.keeps kg
 have hxg := kg _ _ hx
 have r1 := r.deeper env
 conv in (fnB _) => whnf
 with_reducible refine wec ?_
 refine we (wcs ?_) e.inter
 have S := S.same (s' := { s' with toks := s'.toks + 1 }) rfl rfl rfl
 with_reducible refine wec ?_
 refine we ?_ e.inter
 refine callM e Bg S (i := 0) rfl rfl hxg (j := 0) rfl f (mt174 _) ?_
 with_reducible refine it_Name (ld e S (i := 1) rfl rfl (it_nil ?_))
 refine ⟨S.keep, useM S (j := 0) rfl (set_seq1 B (kg.trans S.keep) nD (S.get (j := 0) rfl) hx (r1.le (by decide)) f hv1 ni1) ?_⟩
 refine fun v oD1 s₂ S ext => an2 fun zz1 f => ?_
 subst zz1
 with_reducible refine wec ?_
 refine we ?_ e.inter
 refine callM e Bg S (i := 0) rfl rfl hxg (j := 0) rfl f (mt181 _) ?_
 with_reducible refine it_Name (ld e S (i := 2) rfl rfl (it_nil ?_))
 refine ⟨S.keep, useM S (j := 0) rfl (set_seq2 B (kg.trans S.keep) nD (S.get (j := 0) rfl) hx r1 f hv2 ni2 hc) ?_⟩
 refine fun v oD2 s₃ S2 ext => an2 fun zz1 => ex1 fun d => an2 fun hd hR => ?_
 subst zz1
 exact wen (S2.leave (.refl _) (j := 0) rfl ⟨rfl, d, back_none (extBut_take S (.refl _)) (S.get (j := 0) rfl) hd, hR⟩)
end
theorem sit_empty : strIterType (sO "") = "str_ascii_iterator" := by kernel_rfl
section
variable {g₀ : Heap} {x D : Addr} {oD : Obj}
theorem chain_b0 {m1 m4 m5 m6 : Value} {t : Tok} {m7 m8 m9 : Option Value} (B : Base w g₀) (k : Keeps g₀ s.heap) (nD : g₀.get? D = none) (hD : s.heap.get? D = some oD) (hx : g₀.get? x = some (instObj 242 D)) (r : Room A 2)
  (f : FldO oD (Loc MN [some .none, some m1, some (.str (sO "") t), some (.bool true), some m4, some m5, some m6, m7, m8, m9])) :
  codeAny (model pw w) A (.call (.ref 188) ⟨[.ref x], []⟩) (RetM D s fun v oD' s' => v = .none ∧ ∃ d, s.heap.get? d = none ∧ ∃ js ps, FldO oD' (Loc MN [some .none, some m1, some (.str (sO "") t), some (.bool true), some m4, some m5, some m6, some (.ref d), some (.ref js), some (.ref ps)])) s := by
 refine call_f (B.keeps k) (is188 (B.keeps k)) ok188 r.lt (vals := [.ref x]) (.of_eq (by kernel_rfl)) rfl ?_
 intro env L s' e S
 have kg := enter k nD
 have S := S.take hD
 have hh : (A.deeper env).handled = none := r.handled
 have Bg := B.keeps kg
 have hxg := kg _ _ hx
 conv in (fnB _) => whnf
 with_reducible refine wec ?_
 refine waa (getS e Bg S (i := 0) (k := 2) rfl rfl hxg (j := 0) rfl f rfl rfl rfl ?_)
 intro s' S _
 refine st_ e S (i := 1) rfl (nlo rfl) ?_
 intro s' S
 with_reducible refine wec ?_
 refine wat (newDict_ Bg S ?_)
 intro d s' h3 S
 have hfd : s.heap.get? d = none := by
  have h1 := (S.nw _ (.head _)).2.2
  have hdD : d ≠ D := fun q => (lnc.mp S.nd).1 (by rw [q]; exact .head _)
  cases q : s.heap.get? d with
  | none => rfl
  | some o => rw [hideL_get q (fun m => hdD (lms.mp m))] at h1; cases h1
 refine setS e Bg S (i := 0) (k := 7) rfl rfl hxg (j := 1) rfl f rfl (nlo rfl) ?_
 intro s' oD1 S f
 refine wan (st_ e S (i := 2) rfl (nlo rfl) ?_)
 intro s' S
 have S := S.perm (own' := [(D, oD1), (d, dictOf [] 0)]) (.swap _ _ _)
 with_reducible refine wec ?_
 refine wpAny_For ?_
 refine callTyp e S (i := 0) rfl (gl_enum Bg) ?_
 with_reducible refine it_Name (ld e S (i := 1) rfl rfl (it_nil ?_))
 refine call_enumerate_str fun h' z1 z2 z3 z4 => wpAny_pyIter_enum z1 ?_
 rw [sit_empty] at z2
 have W := WalksT.enumerateD (prog := pw) (w := w) (A := A.deeper env) (Draws.strAscii (A := (A.deeper env).in1) hh s'.heap.objs.size (sO "") t) (s'.heap.objs.size + 1) (Nat.succ_ne_self _) (fun m => Nat.succ_ne_self _ (lms.mp m)) (.head _)
 refine loop_new (s₁ := { s' with heap := h' }) (Steps.ofT W ?_) S z4 rfl rfl ⟨⟨_, z1⟩, z2⟩ ?_ ?_ (fun j vs own _ => own = [(D, oD1), (d, dictOf [] 0)] ∧ ∃ u3 u4 u5, vs = [some (.ref x), some (.str (sO "") t), some (.ref d), u3, u4, u5, none, none, none, none, none, none]) (fun _ _ _ _ _ h _ => h) ⟨rfl, _, _, _, rfl⟩ ?_ ?_
 ·refine fun i h => an2 fun zz1 zz2 => fun b hb => ?_
  refine Ex1 zz1 fun _ y1 => ?_
  refine Ex1 zz2 fun o2 => an2 fun y2 _ => ?_
  simp only [lmc, lmi, or_false] at hb
  rcases hb with rfl | rfl
  ·exact ⟨_, y1⟩
  ·exact ⟨_, y2⟩
 ·intro b hb
  simp only [lmc, lmi, or_false] at hb
  rcases hb with rfl | rfl
  ·exact .inl (nla _ _)
  ·exact .inl (nlr _)
 ·intro b hb
  simp only [lmc, lmi, or_false] at hb
  rcases hb with rfl | rfl
  ·exact nla _ _
  ·exact nlr _
 ·intro g j vs own s v kg hw hj
  exact absurd hj (Nat.not_lt_zero _)
 ·refine fun g vs own s' kg' => an2 fun zz1 => ex3 fun u3 u4 u5 zz2 => fun S => ?_
  subst zz1
  subst zz2
  refine chain_tail (d := d) (n := 0) e (Bg.keeps kg') (kg' _ _ hxg) S f (by lia) ?_ ?_
  ·intro p p1 pos vs own s' Q' hv S hq
   refine callBlt e S (i := 2) rfl (gl_len (Bg.keeps kg')) ?_
   with_reducible refine it_Name (ld e S (i := 1) rfl hv (it_nil ?_))
   refine len_str (by decide) (hq _ _ (S.same rfl rfl rfl))
  intro s' oD' js l1 ps l2 vs' S f
  exact S.leave kg' (j := 2) rfl ⟨rfl, d, hfd, js, ps, f⟩
theorem binds_160 {x : Addr} (B : Base w s.heap) : BindsTo s fd160 ⟨[.ref x, .none], []⟩ ([sO "self", sO "isjunk", sO "a", sO "b", sO "autojunk"].zip [.ref x, .none, .str (sO "") 404, .str (sO "") 405, .bool true]) :=
 BindsTo.of_defaults (T := 153) (o := o153 w.params) rfl (B.at (by kernel_rfl)) rfl rfl rfl
theorem init_ (B : Base w g₀) (k : Keeps g₀ s.heap) (nD : g₀.get? D = none) (hD : s.heap.get? D = some oD) (hx : g₀.get? x = some (instObj 242 D)) (r : Room A 5)
  (f : FldO oD (Loc MN [none, none, none, none, none, none, none, none, none, none])) :
  codeAny (model pw w) A (.call (.ref 160) ⟨[.ref x, .none], []⟩) (RetM D s fun v oD' s' => v = .none ∧ ∃ d, s.heap.get? d = none ∧ ∃ t1 t2 js ps, FldO oD' (Loc MN [some .none, some (.str (sO "") t1), some (.str (sO "") t2), some (.bool true), some .none, some .none, some .none, some (.ref d), some (.ref js), some (.ref ps)])) s := by
 refine call_f (B.keeps k) (is160 (B.keeps k)) ok160 r.lt (vals := [.ref x, .none, .str (sO "") 404, .str (sO "") 405, .bool true]) (binds_160 (B.keeps k)) rfl ?_
 intro env L s' e S
 have kg := enter k nD
 have S := S.take hD
 have Bg := B.keeps kg
 have hxg := kg _ _ hx
 conv in (fnB _) => whnf
 with_reducible refine wec ?_
 refine we (wcs ?_) e.inter
 have S := S.same (s' := { s' with toks := s'.toks + 1 }) rfl rfl rfl
 with_reducible refine wec ?_
 refine pwa ?_
 refine ld e S (i := 1) rfl rfl ?_
 refine ld e S (i := 0) rfl rfl ?_
 refine setA Bg S hxg (j := 0) (k := 0) rfl f rfl (nlo rfl) ?_
 intro s' oD1 S f
 with_reducible refine wec ?_
 refine wat (cnone ?_)
 refine setS e Bg S (i := 0) (k := 1) rfl rfl hxg (j := 0) rfl f rfl (nlo rfl) ?_
 intro s' oD2 S f
 refine setS e Bg S (i := 0) (k := 2) rfl rfl hxg (j := 0) rfl f rfl (nlo rfl) ?_
 intro s' oD3 S f
 with_reducible refine wec ?_
 refine pwa ?_
 refine ld e S (i := 4) rfl rfl ?_
 refine ld e S (i := 0) rfl rfl ?_
 refine setA Bg S hxg (j := 0) (k := 3) rfl f rfl (nlo rfl) ?_
 intro s' oD4 S f
 with_reducible refine wec ?_
 refine we ?_ e.inter
 refine callM e Bg S (i := 0) rfl rfl hxg (j := 0) rfl f (mt167 _) ?_
 with_reducible refine it_Name (ld e S (i := 2) rfl rfl (it_Name (ld e S (i := 3) rfl rfl (it_nil ?_))))
 refine ⟨S.keep, useM S (j := 0) rfl (set_seqs (R := fun oD' d _ => ∃ js ps, FldO oD' (Loc MN [some .none, some (.str (sO "") 404), some (.str (sO "") 405), some (.bool true), some .none, some .none, some .none, some (.ref d), some (.ref js), some (.ref ps)])) B (kg.trans S.keep) nD (S.get (j := 0) rfl) hx (r.deeper env) f rfl rfl (.none (by intro z; cases z)) (.none (by intro z; cases z)) ?_) ?_⟩
 ·intro A s' oD' r k hD f
  exact chain_b0 B k nD hD hx r f
 refine fun v oD2 s₃ S2 ext => an2 fun zz1 => ex1 fun d => an2 fun hd => ex2 fun js ps f => ?_
 subst zz1
 exact wen (S2.leave (.refl _) (j := 0) rfl ⟨rfl, d, back_none (extBut_take S (.refl _)) (S.get (j := 0) rfl) hd, _, _, js, ps, f⟩)
end
theorem makes_242 (P : Params) : makesIn (KF P) 242 = true := by kernel_rfl
theorem find_init (P : Params) : findIn (KF P) (.ref 242) "__init__" = some (some (.ref 160)) := by kernel_rfl
theorem fn_160 (P : Params) : typeIn (KF P) (.ref 160) = some (.type "function") := by kernel_rfl
theorem units_tc (A : Around) (args : Args) : (A.under (.builtin "type.__call__" args)).units = A.units + 1 := by kernel_rfl
def MkP (s : Shared) (r : Result) (s' : Shared) : Prop := ∃ x D oD d t1 t2 js ps, r = .ok (.ret (.ref x)) ∧ Keeps s.heap s'.heap ∧ s'.gens = s.gens ∧ s'.os = s.os ∧ s.heap.get? x = none ∧ s.heap.get? D = none ∧ x ≠ D ∧ s'.heap.get? x = some (instObj 242 D) ∧ s'.heap.get? D = some oD ∧
 FldO oD (Loc MN [some .none, some (.str (sO "") t1), some (.str (sO "") t2), some (.bool true), some .none, some .none, some .none, some (.ref d), some (.ref js), some (.ref ps)])
theorem mk_ {w : World} {A : Around} {s : Shared} (B : Base w s.heap) (r : Room A 7) : codeAny (model pw w) A (.call (.ref 242) ⟨[.none], []⟩) (MkP s) s := by
 obtain ⟨hp, g, d, t, os⟩ := s
 have K1 : Keeps hp ((hp.push emptyDict).push (instObj 242 hp.objs.size)) := (Keeps.push _ _).trans (Keeps.push _ _)
 have hsz : (hp.push emptyDict).objs.size = hp.objs.size + 1 := Heap.size_push ..
 have hD : ((hp.push emptyDict).push (instObj 242 hp.objs.size)).get? hp.objs.size = some emptyDict := hgp _ (hgs _ rfl)
 have hx : ((hp.push emptyDict).push (instObj 242 hp.objs.size)).get? (hp.objs.size + 1) = some (instObj 242 hp.objs.size) := by rw [← hsz]; exact hgs _ rfl
 refine make_core (makes_of B.K (makes_242 _)) (looks_findIn B.K (find_init _)) (fun self => bind_fn B.K self (fn_160 _)) (.inl rfl) ?_
 have hne : hp.objs.size + 1 ≠ hp.objs.size := Nat.succ_ne_self _
 have nf : hp.get? (hp.objs.size + 1) = none := Heap.get?_none_of_le (Nat.le_succ _)
 refine codeAny_mono (init_ (s := ⟨(hp.push emptyDict).push (instObj 242 hp.objs.size), g, d, t, os⟩) (g₀ := hideL ((hp.push emptyDict).push (instObj 242 hp.objs.size)) [hp.objs.size]) (x := hp.objs.size + 1) (D := hp.objs.size) (oD := emptyDict) ?_ (hideL_sub _ _) (hideL_none (.head _)) hD (hideL_get hx fun m => hne (lms.mp m)) ?_ ?_) ?_
 ·refine B.keeps fun b o q => hideL_get (K1 _ _ q) fun m => ?_
  rw [lms.mp m, get_size] at q; cases q
 ·exact ⟨by have := r.depth; show A.depth + 1 + 5 < _; exact nl0 this, by have := r.units; rw [units_tc]; lia, r.handled⟩
 ·exact ⟨#[], 0, rfl, fun e h => by simp at h, .nil, fun n => (show nsFind #[] n = none from rfl).trans (Loc.empty (ns := MN) (y := n)).symm⟩
 ·refine fun res s' => ex2 fun v oD' => an7 fun zz1 ext hD' hg ho zz2 => ex1 fun d' => an2 fun hd' => ex4 fun t1 t2 js ps f => ?_
  subst zz1
  subst zz2
  refine ⟨rfl, _, _, oD', d', t1, t2, js, ps, rfl, fun b o q => ext b o (fun z => ?_) (K1 _ _ q), hg, ho, nf, get_size _, hne, ext _ _ hne hx, hD', f⟩
  rw [z, get_size] at q; cases q
theorem slot_md_get : Slot "method_descriptor" "__get__" "method_descriptor.__get__" :=
 .of (owner := "method_descriptor") (n := "__get__") (by rw [ttt, bef]; kernel_rfl) (by decide +kernel) (by decide +kernel) (by decide +kernel)
  (by first | exact .inl (by decide +kernel) | exact .inr (by decide +kernel)) (by rw [itt]; kernel_rfl)
theorem entry_md_get : entryFor table "method_descriptor.__get__" = some Builtin.«method_descriptor.__get__» := entryFor_of_tree (by kernel_rfl)
theorem args_md_get (a b c : Value) : argsOk "method_descriptor.__get__" ⟨[a, b, c], []⟩ := by unfold argsOk; kernel_rfl
theorem md_set : typeLookup (.type "method_descriptor") "__set__" = pure none := by rw [ttt, bef]; kernel_rfl
theorem md_del : typeLookup (.type "method_descriptor") "__delete__" = pure none := by rw [ttt, bef]; kernel_rfl
structure BltM (T : String) (name : Str) (id : String) (ga : String) : Prop where
 lk : typeLookup (.type T) name = pure (some (.builtin id))
 ty : typeOf (.builtin id) = pure (.type "method_descriptor")
 sub : isSubtype (.type T) (.type (".".intercalate (id.cutAt '.').dropLast)) = pure true
 told : Manifest.toldItsClass.contains id = false
 slot : Slot T "__getattribute__" ga
 entry : entryFor table ga = some Builtin.«object.__getattribute__»
 args : ∀ a b, argsOk ga ⟨[a, b], []⟩
 nb : ((.type T : Value) == .type "module") = false
section
variable {h : Heap} {g : Array GenState} {d : Drawn} {t : Nat} {os : OsState} {a : Addr} {o : Obj} {T id ga : String} {name : Str}
theorem bnd_get {R : Result → Shared → Prop} (M : BltM T name id ga) (hx : h.get? a = some o) (hc : o.cls = .type T) (hq : R (.ok (.ret (.ref h.objs.size))) ⟨h.push (bmO id (.ref a)), g, d, t, os⟩) :
  codeAny (model pw w) A (.call (.builtin "method_descriptor.__get__") ⟨[.builtin id, .ref a, .type T], []⟩) R ⟨h, g, d, t, os⟩ := by
 have hT : (⟨h, g, d, t, os⟩ : Shared).TypeIs (.ref a) T := ⟨_, hx, hc⟩
 have hT5 : (⟨h, g, d, t, os⟩ : Shared).TypeIs (.builtin id) "method_descriptor" := M.ty
 have f8 := M.sub
 have f9 := M.told
 refine codeAny_call_builtin slot_md_get.plain entry_md_get (slot_md_get.check _ _ _ _ _ _ _ _ hT5 (args_md_get _ _ _) ?_)
 repeat (any_goals (first | assumption | wp_step))
 rw [if_neg (by rw [f9]; exact bfn)]
 repeat (any_goals (first | assumption | wp_step))
theorem bnd_entry {tk : Tok} {Q : Fin → Shared → Prop} (M : BltM T name id ga) (hx : h.get? a = some o) (hc : o.cls = .type T) (hdd : o.dict = none) (hnc : ∀ c, o.data ≠ .cls c) (hcn : copiedNames.contains name = false) (hq : Q (.done (.ret (.ref h.objs.size))) ⟨h.push (bmO id (.ref a)), g, d, t, os⟩) :
  wpAny (model pw w) A (Builtin.«object.__getattribute__» ⟨[.ref a, .str name tk], []⟩) Q E ⟨h, g, d, t, os⟩ := by
 have hT : (⟨h, g, d, t, os⟩ : Shared).TypeIs (.ref a) T := ⟨_, hx, hc⟩
 have hT5 : (⟨h, g, d, t, os⟩ : Shared).TypeIs (.builtin id) "method_descriptor" := M.ty
 have f4 := M.lk
 have f5 := M.ty
 have f6 := slot_md_get.lookup
 have f7 := md_set
 have f8 := md_del
 obtain ⟨oc, od, dt, sl⟩ := o
 dsimp only at hc hdd hnc
 subst hc hdd
 repeat (any_goals (first | assumption | wp_step))
 split
 ·rename_i c q; exact absurd q (hnc c)
 repeat (any_goals (first | assumption | wp_step))
 rw [if_neg (by rw [show ([sO "__module__", sO "__name__", sO "__qualname__", sO "__doc__", sO "__annotations__"] : List Str).contains name = false from hcn]; exact bfn)]
 repeat (any_goals (first | assumption | wp_step))
 refine bnd_get M hx rfl ?_
 repeat (any_goals (first | assumption | wp_step))
theorem bnd_call {tk : Tok} {R : Result → Shared → Prop} (M : BltM T name id ga) (hx : h.get? a = some o) (hc : o.cls = .type T) (hdd : o.dict = none) (hnc : ∀ c, o.data ≠ .cls c) (hcn : copiedNames.contains name = false) (hq : R (.ok (.ret (.ref h.objs.size))) ⟨h.push (bmO id (.ref a)), g, d, t, os⟩) :
  codeAny (model pw w) A (.call (.builtin ga) ⟨[.ref a, .str name tk], []⟩) R ⟨h, g, d, t, os⟩ :=
 codeAny_call_builtin M.slot.plain M.entry (M.slot.check _ _ _ _ _ _ _ _ (show (⟨h, g, d, t, os⟩ : Shared).TypeIs (.ref a) T from ⟨_, hx, hc⟩) (M.args _ _) (bnd_entry M hx hc hdd hnc hcn hq))
theorem bnd_attr {expr : Bool} {Q : Value → Shared → Prop} (M : BltM T name id ga) (hx : h.get? a = some o) (hc : o.cls = .type T) (hdd : o.dict = none) (hnc : ∀ c, o.data ≠ .cls c) (hcn : copiedNames.contains name = false) (hq : Q (.ref h.objs.size) ⟨h.push (bmO id (.ref a)), g, d, t + 1, os⟩) :
  wpAny (model pw w) A (getAttr (.ref a) name expr) Q E ⟨h, g, d, t, os⟩ := by
 have hT : (⟨h, g, d, t, os⟩ : Shared).TypeIs (.ref a) T := ⟨_, hx, hc⟩
 have f2 := M.slot.lookup
 have f3 := M.slot.bind (.ref a)
 have hc' := hc
 obtain ⟨oc, od, dt, sl⟩ := o
 dsimp only at hc' hdd hnc
 subst hc' hdd
 repeat (any_goals (first | assumption | wp_step))
 rw [if_neg (by rw [show onTheHeap (.builtin ga) = false from rfl, Bool.and_false]; exact bfn)]
 repeat (any_goals (first | assumption | wp_step))
 refine bnd_call M hx rfl rfl hnc hcn ?_
 repeat (any_goals (first | assumption | wp_step))
end
theorem bm_dict_get : BltM "dict" (sO "get") "dict.get" "dict.__getattribute__" :=
 ⟨by rw [ttt, bef]; kernel_rfl, PySem.F.type_dict_get, by rw [itt]; kernel_rfl, by decide +kernel, PySem.F.slot_dict_getattribute, PySem.F.entry_dict_ga, PySem.F.args_dict_getattribute_2, by decide⟩
theorem bm_dict_has : BltM "dict" (sO "__contains__") "dict.__contains__" "dict.__getattribute__" :=
 ⟨by rw [ttt, bef]; kernel_rfl, by show builtinType _ = _; rw [builtinType_eq_fast]; kernel_rfl, by rw [itt]; kernel_rfl, by decide +kernel, PySem.F.slot_dict_getattribute, PySem.F.entry_dict_ga, PySem.F.args_dict_getattribute_2, by decide⟩
theorem bm_set_has : BltM "set" (sO "__contains__") "set.__contains__" "set.__getattribute__" :=
 ⟨by rw [ttt, bef]; kernel_rfl, by show builtinType _ = _; rw [builtinType_eq_fast]; kernel_rfl, by rw [itt]; kernel_rfl, by decide +kernel, PySem.F.slot_set_getattribute, PySem.F.entry_set_ga, PySem.F.args_set_getattribute_2, by decide⟩
theorem sub_dm : isSubtype (.type "dict") (.type "module") = pure false := by rw [itt]; kernel_rfl
theorem sub_sm : isSubtype (.type "set") (.type "module") = pure false := by rw [itt]; kernel_rfl
theorem cbc_get {d : Addr} {es : List DictEntry} {n : Nat} {a b : Value} {Q : Unit → Shared → Prop} (ho : s.heap.get? d = some (dictOf es n)) (q : Q () s) : wpAny (model pw w) A (checkBoundCall "dict.get" ⟨[.ref d, a, b], []⟩) Q E s := by
 obtain ⟨h, g, dr, t, os⟩ := s
 have f1 := sub_dm
 have hT : (⟨h, g, dr, t, os⟩ : Shared).TypeIs (.ref d) "dict" := ⟨_, ho, rfl⟩
 unfold checkBoundCall
 repeat (any_goals (first | assumption | wp_step))
theorem fresh_probe (led : Bool) (hashAt : Nat → Int) (h : Int) : (SetTable.fresh 0 0 led).probe hashAt h ((SetTable.fresh 0 0 led).probeStart h) = some (.empty (SetTable.bits h % 8) none) := by rfl
theorem setHas0 {a : Addr} {led : Bool} {v : Value} {k : Nat} {Q : Bool → Shared → Prop} (hu : A.units < cLine) (ho : s.heap.get? a = some (setO led)) (K : Thing s.heap v k) (h : ∀ m, Q false { s with toks := s.toks + m }) : wpAny (model pw w) A (setContains a v) Q E s := by
 unfold setContains
 refine whh (wb (K.hash hu fun m => ?_))
 have st : ∀ {Q : (Array (Int × Value) × Nat × SetTable) → Shared → Prop}, Q (#[], 0, .fresh 0 0 led) { s with toks := s.toks + m } → wpAny (model pw w) A (setState a) Q E { s with toks := s.toks + m } := fun q => wpAny_setState_of (s := { s with toks := s.toks + m }) ho rfl (by rfl) q
 unfold setFind
 unfold setFindIn
 refine wb (wb (st ?_))
 dsimp only
 by_cases hb : byScan v #[] = true
 ·rw [if_pos hb]
  refine wb (wpAny_rule (wb ?_))
  have e : setScan a v (hashT w k) false #[] = pure .absent := by
   unfold setScan
   cases v <;> first | rfl | (simp [setScanStrs]; rfl) | simp [setScanStrs]
  rw [e]
  exact wpp (wpp (wpp (h m)))
 ·rw [if_neg hb]
  unfold setSearch
  refine wb ?_
  refine wb (st ?_)
  dsimp only
  rw [if_neg (by simp [SetTable.gaveWay, SetTable.fresh])]
  have pr := fun f => fresh_probe led f (hashT w k)
  simp only [Option.getD_none, pr]
  exact wpp (wpp (wpp (h m)))
theorem cbc_has {d : Addr} {led : Bool} {a : Value} {Q : Unit → Shared → Prop} (ho : s.heap.get? d = some (setO led)) (q : Q () s) : wpAny (model pw w) A (checkBoundCall "set.__contains__" ⟨[.ref d, a], []⟩) Q E s := by
 obtain ⟨h, g, dr, t, os⟩ := s
 have f1 := sub_sm
 have hT : (⟨h, g, dr, t, os⟩ : Shared).TypeIs (.ref d) "set" := ⟨_, ho, rfl⟩
 unfold checkBoundCall
 repeat (any_goals (first | assumption | wp_step))
theorem cbc_dhas {d : Addr} {es : List DictEntry} {n : Nat} {a : Value} {Q : Unit → Shared → Prop} (ho : s.heap.get? d = some (dictOf es n)) (q : Q () s) : wpAny (model pw w) A (checkBoundCall "dict.__contains__" ⟨[.ref d, a], []⟩) Q E s := by
 obtain ⟨h, g, dr, t, os⟩ := s
 have f1 := sub_dm
 have hT : (⟨h, g, dr, t, os⟩ : Shared).TypeIs (.ref d) "dict" := ⟨_, ho, rfl⟩
 unfold checkBoundCall
 repeat (any_goals (first | assumption | wp_step))
theorem bnd_ {T id ga : String} {name : Str} {a : Addr} {o : Obj} {expr : Bool} {Q : Value → Shared → Prop} (M : BltM T name id ga) (S : St s₀ h₀ L ns vs own s) (hx : s.heap.get? a = some o) (hc : o.cls = .type T) (hdd : o.dict = none) (hnc : ∀ c, o.data ≠ .cls c) (hcn : copiedNames.contains name = false)
  (h : ∀ b s', St s₀ h₀ L ns vs ((b, bmO id (.ref a)) :: own) s' → Q (.ref b) s') : wpAny (model pw w) A (getAttr (.ref a) name expr) Q E s := by
 obtain ⟨hp, g, d, t, os⟩ := s
 exact bnd_attr M hx hc hdd hnc hcn (h _ _ (S.push (bmO id (.ref a)) rfl rfl rfl rfl))
theorem bndName {f : Str} {p pos : Pos} {x : Expr} {args : List Expr} {i : Nat} {b : Addr} {id : String} {self : Value} {Q : Value → Shared → Prop} (e : Ev env L ns gs) (S : St s₀ h₀ L ns vs own s) (hi : ns[i]? = some f) (hv : vs[i]? = some (some (.ref b)))
  (h : wpAny (model pw w) A (spliced (backTo pos (starEach (x :: args) env))) (fun vals s₁ => s₁.heap.get? b = some (bmO id self) ∧ wpAny (model pw w) A (call (.ref b) vals) Q E s₁) E s)
  (he : starEach (x :: args) env = (false, eval x env) :: starEach args env := by rfl) (hp : (backTo pos (starEach args env)).any (·.1) = false := by rfl) :
  wpAny (model pw w) A (eval (.Call (.Name f p) (x :: args) [] pos) env) Q E s := by
 refine wpAny_Call_Name_kw (ld e S hi hv ?_)
 rw [he] at h ⊢
 exact callWith_bound (by show (false || (backTo pos (starEach args env)).any (·.1)) = false; rw [hp]; rfl) (cep (wm h (fun vals s₁ h₁ => ⟨⟨_, _, h₁.1⟩, h₁.2⟩) fun _ _ y => y))
theorem isb_ {f : Str} {p pos : Pos} {x : Expr} {i : Nat} {b js : Addr} {Q : Value → Shared → Prop} (e : Ev env L ns gs) (hu : A.units + 5 < cLine) (S : St s₀ h₀ L ns vs own s) (hi : ns[i]? = some f) (hv : vs[i]? = some (some (.ref b)))
  (h : wpAny (model pw w) A (eval x env) (fun v s₁ => ∃ led k, s₁.heap.get? b = some (bmO "set.__contains__" (.ref js)) ∧ s₁.heap.get? js = some (setO led) ∧ Thing s₁.heap v k ∧ ∀ m, Q (.bool false) { s₁ with toks := s₁.toks + m }) E s)
  (he : starEach [x] env = [(false, eval x env)] := by rfl) :
  wpAny (model pw w) A (eval (.Call (.Name f p) [x] [] pos) env) Q E s := by
 refine bndName (id := "set.__contains__") (self := .ref js) e S hi hv ?_ he
 rw [he]
 refine csc (wm h (fun v s₁ h₁ => ?_) fun _ _ y => y)
 refine Ex2 h₁ fun led k => an4 fun hb hs K hq => ?_
 refine csn ⟨hb, ?_⟩
 refine call_bound (S := fun A R s => s = s₁ ∧ A.units + 5 < cLine ∧ ∀ m, R (.ok (.ret (.bool false))) { s₁ with toks := s₁.toks + m }) hb (fun A' E' Q' q => cbc_has hs q) (by decide +kernel) entry_set_contains ?_ ⟨rfl, hu, hq⟩
 refine fun A R _ => an3 fun zz1 hu h => ?_
 subst zz1
 unfold Builtin.«frozenset.__contains__» Builtin.Frozenset.oneOther
 refine wb (wb (wpp (wpp ?_)))
 show wpAny _ _ ((setContains js v).tryCatch _ >>= _) _ _ _
 refine wb (wpAny_tryCatch (setHas0 (by show A.units + 1 < cLine; lia) hs K fun m => ?_))
 exact wpp (h m)
theorem gl_range {w : World} {h : Heap} (B : Base w h) : Gl h (sO "range") (.type "range") := B.blt (by kernel_rfl) (by decide) (by decide +kernel)
theorem small_ {a b : Nat} (ha : a ≤ 1000) (hb : b ≤ 1000) : (Builtin.Range.rangeFitsLong a && Builtin.Range.rangeFitsLong b && Builtin.Range.rangeFitsLong 1 && Builtin.Range.rangeFitsLong ((b - a : Nat) : Int) &&
  (((b - a : Nat) : Int) == 0 || if (1 : Int) > 0 then Builtin.Range.rangeFitsLong ((b : Int) + (1 - 1)) else Builtin.Range.rangeFitsLong ((b : Int) + (1 + 1)))) = true := by
 have f : ∀ n : Int, 0 ≤ n → n ≤ 1000 → Builtin.Range.rangeFitsLong n = true := fun n h0 h1 => by
  unfold Builtin.Range.rangeFitsLong
  simp only [Bool.and_eq_true, decide_eq_true_eq]
  lia
 rw [f a (by lia) (by lia), f b (by lia) (by lia), f 1 (by lia) (by lia), f _ (by lia) (by lia), if_pos (by decide), f _ (by lia) (by lia)]
 simp
theorem loop_rngT {x : Str} {px : Pos} {body : List Stmt} {Q : Flow → Shared → Prop} {r : Addr} {a b : Nat} {t u v : Tok} (hh : A.handled = none) (S : St s₀ h₀ L ns vs own s) (kp : Keeps s.heap s₁.heap) (g : s₁.gens = s.gens) (os : s₁.os = s.os)
  (hle : @LE.le Nat _ s.heap.objs.size s₁.heap.objs.size) (hr : IsRange s₁.heap r a b 1 t u v) (ha : a ≤ 1000) (hz : b ≤ 1000)
  (J : Nat → List (Option Value) → List (Addr × Obj) → Heap → Prop) (mono : ∀ j vs own h h', J j vs own h → Keeps h h' → J j vs own h')
  (hJ : J 0 vs own (rest s.heap L own))
  (turn : ∀ (R : Flow → Shared → Prop) wr g j vs own s t, Keeps h₀ g → (∀ b ∈ wr, ∃ o, g.get? b = some o) → j < b - a → J j vs own (hideL g wr) → St s₀ g L ns vs own s →
   (∀ vs' own' s', St s₀ g L ns vs' own' s' → J (j + 1) vs' own' (hideL (rest s'.heap L own') wr) → R .next s') →
   wpAny (model pw w) A (storeName env x (.int ((a + j : Nat) : Int) t)) (fun _ s₂ => wpAny (model pw w) A (execs body env) R ff s₂) ff s)
  (done : ∀ g vs own s, Keeps h₀ g → J (b - a) vs own g → St s₀ g L ns vs own s → Q .next s) :
  wpAny (model pw w) A (pyIter (.ref r)) (fun it s₂ => codeAny (model pw w) A (.forLoop (.Name x px) it body [] env)
   (fun r s' => match r with | .ok f => Q f s' | .error e => cameBackBy (model pw w) A env E e s') s₂) E s₁ := by
 have hsz : Builtin.Range.rangeSize a b 1 = ((b - a : Nat) : Int) := by
  unfold Builtin.Range.rangeSize
  rw [if_pos (by decide), Int.ediv_one]
  split <;> lia
 refine wpAny_pyIter_range hr (by rw [Builtin.Range.small, hsz]; exact small_ ha hz) ?_
 rw [hsz]
 have W := Walks.range (prog := pw) (w := w) hh s₁.heap.objs.size (a : Int) 1 (b - a)
 have le1 := hle
 refine loop_new (s := s) (s₁ := { s₁ with heap := s₁.heap.push _ }) (Steps.ofName (x := x) (pos := px) W ?_) S (kp.trans (Keeps.push _ _)) g os ?_ ?_ ?_ J mono hJ ?_ done
 ·intro i h hst b hb
  rw [lms.mp hb]
  exact ⟨_, hst⟩
 ·have q := hgs s₁.heap (o := { cls := .type "range_iterator", data := .fields #[rawInt a, rawInt ((b - a : Nat) : Int), rawInt 1] }) rfl
  have e1 : ((a : Int) + ((0 : Nat) : Int) * 1) = a := by lia
  have e2 : (((b - a : Nat) : Int) - ((0 : Nat) : Int)) = ((b - a : Nat) : Int) := by lia
  rw [e1, e2]
  exact q
 ·intro b hb
  rw [lms.mp hb]
  exact .inl le1
 ·intro b hb
  rw [lms.mp hb]
  exact le1
 ·rintro g j vs own s v kg hw hj hJ ⟨t, rfl⟩ S
  have e1 : ((a : Int) + (j : Int) * 1) = ((a + j : Nat) : Int) := by push_cast; lia
  rw [e1]
  exact wan (turn _ _ g j vs own s t kg hw hj hJ S fun vs' own' s' x y => ⟨vs', own', x, y⟩)
theorem isInt_self (k : Int) (t : Tok) : Value.isInt k (.int k t) = true := by simp [Value.isInt]
noncomputable def MapO (w : World) (o : Obj) (f : Int → Option Value) : Prop := o.ExactDict ∧ ∃ es ep, o.data = .dict es ep ∧ KeysOf (intKind pw w) es ∧ ∀ k, findBy (intKind pw w).is es k = f k
theorem MapO.at {w : World} {h : Heap} {d : Addr} {o : Obj} {f : Int → Option Value} (m : MapO w o f) (e : h.get? d = some o) : h.MapOf (intKind pw w) d f := let ⟨x, es, ep, r⟩ := m; ⟨o, es, ep, e, x, r⟩
theorem MapO.of {w : World} {h : Heap} {d : Addr} {f : Int → Option Value} (m : h.MapOf (intKind pw w) d f) : ∃ o, h.get? d = some o ∧ MapO w o f := let ⟨o, es, ep, e, x, r⟩ := m; ⟨o, e, x, es, ep, r⟩
theorem MapO.shape {w : World} {o : Obj} {f : Int → Option Value} (m : MapO w o f) : ∃ es n, o = dictOf es n := by
 refine An2 m fun zz1 => ex2 fun es ep => an2 fun hd _ => ?_
 refine An3 zz1 fun h1 h2 h3 => ?_
 obtain ⟨c, d, dt, sl⟩ := o
 dsimp only at h1 h2 h3 hd
 subst h1 h2 h3 hd
 exact ⟨es.toList, ep, rfl⟩
theorem MapO.empty (w : World) : MapO w (dictOf [] 0) fun _ => none := ⟨⟨rfl, rfl, rfl⟩, #[], 0, rfl, fun e h => by simp at h, fun k => rfl⟩
theorem jset_ {j : Nat} {d : Addr} {k : Int} {t : Tok} {v : Value} {Q : Unit → Shared → Prop} (S : St s₀ h₀ L ns vs own s) (hj : own[j]? = some (d, dictOf [] 0))
  (h : ∀ o' s', St s₀ h₀ L ns vs (own.set j (d, o')) s' → MapO w o' (fun x => if x = k then some v else none) → Q () s') : wpAny (model pw w) A (setItem (.ref d) (.int k t) v) Q E s := by
 refine wpAny_setItem_of (knd := intKind pw w) (k := k) (by show Value.isInt k (.int k t) = true; simp [Value.isInt]) ((MapO.empty w).at (S.get hj)) (fun h' hm hs => ?_) ?_
 ·refine Ex1 (MapO.of hm) fun o' => an2 fun ho' m' => ?_
  exact h o' _ (S.update (s' := { s with heap := h', toks := s.toks + 1 }) hj hs.extBut ho' rfl rfl) m'
 ·intro o es ep ho hd
  rw [S.get hj] at ho
  cases ho
  cases hd
  exact nzl _
theorem jget_ {f : Str} {p pos : Pos} {x y : Expr} {i : Nat} {b d : Addr} {Q : Value → Shared → Prop} (e : Ev env L ns gs) (S : St s₀ h₀ L ns vs own s) (hi : ns[i]? = some f) (hv : vs[i]? = some (some (.ref b)))
  (h : wpAny (model pw w) A (eval x env) (fun v1 s₁ => wpAny (model pw w) A (eval y env) (fun v2 s₂ => ∃ k t o fm, v1 = .int k t ∧ s₂.heap.get? b = some (bmO "dict.get" (.ref d)) ∧ s₂.heap.get? d = some o ∧ MapO w o fm ∧ @LT.lt Nat _ 3 d ∧ Q ((fm k).getD v2) { s₂ with toks := s₂.toks + 1 }) E s₁) E s)
  (he : starEach [x, y] env = (false, eval x env) :: starEach [y] env := by rfl) (he2 : starEach [y] env = [(false, eval y env)] := by rfl) :
  wpAny (model pw w) A (eval (.Call (.Name f p) [x, y] [] pos) env) Q E s := by
 refine bndName (id := "dict.get") (self := .ref d) e S hi hv ?_ he (by rw [he2]; rfl)
 rw [he, he2]
 refine csc (wm h (fun v1 s₁ h₁ => csc (wm h₁ (fun v2 s₂ h₂ => ?_) fun _ _ y => y)) fun _ _ y => y)
 refine Ex4 h₂ fun k t o fm => an6 fun zz1 hb ho m h3 q => ?_
 subst zz1
 refine csn ⟨hb, ?_⟩
 have hne : (d == sysModules) = false := beq_eq_false_iff_ne.mpr (nn (.inr (Nat.lt_trans (by decide) h3)))
 refine Ex2 m.shape fun es n zz1 => ?_
 subst zz1
 refine call_bound hb (fun A' E' Q' q => cbc_get ho q) (by decide +kernel) PySem.F.entry_dict_get (meets_dict_get_default (intKind pw w) (k := k) (key := .int k t) d (isInt_self k t) hne v2) ⟨fm, m.at ho, q⟩
theorem while0 {test : Expr} {body : List Stmt} {pos : Pos} {Q : Flow → Shared → Prop} (h : wpAny (model pw w) A (isTrue test env (eval test env)) (fun b s₂ => b = false ∧ Q .next s₂) ff s) :
  wpAny (model pw w) A (exec (.While test body [] pos) env) Q E s := by
 refine wpAny_While (codeAny_whileLoop (fun _ s' => s' = s) (fun n s' hs => ?_) 0 rfl)
 subst hs
 refine wm h (fun b s₂ hb => ?_) fun _ _ y => y.elim
 refine An2 hb fun zz1 q => ?_
 subst zz1
 rw [if_neg bfn]
 exact wen q
theorem asg4 {n1 n2 n3 n4 : Str} {p1 p2 p3 p4 tp vp pos : Pos} {k k' i1 i2 i3 i4 : Nat} {e1 e2 e3 e4 : Expr} {Q : Flow → Shared → Prop} (e : Ev env L ns gs) (hh : A.handled = none) (h1 : ns[i1]? = some n1) (h2 : ns[i2]? = some n2) (h3 : ns[i3]? = some n3) (h4 : ns[i4]? = some n4)
  (h : wpAny (model pw w) A (eval e1 env) (fun v1 s₁ => wpAny (model pw w) A (eval e2 env) (fun v2 s₂ => wpAny (model pw w) A (eval e3 env) (fun v3 s₃ => wpAny (model pw w) A (eval e4 env) (fun v4 s₄ => ∃ h₂ vs₂ own₂, St s₀ h₂ L ns vs₂ own₂ s₄ ∧ i1 < vs₂.length ∧ i2 < vs₂.length ∧ i3 < vs₂.length ∧ i4 < vs₂.length ∧
   ∀ s₅, St s₀ h₂ L ns ((((vs₂.set i1 (some v1)).set i2 (some v2)).set i3 (some v3)).set i4 (some v4)) own₂ s₅ → Q .next s₅) E s₃) E s₂) E s₁) E s)
  (hst : starEach [e1, e2, e3, e4] env = [(false, eval e1 env), (false, eval e2 env), (false, eval e3 env), (false, eval e4 env)] := by rfl)
  (hsw : swapsWithSole [.Tuple [.Name n1 p1, .Name n2 p2, .Name n3 p3, .Name n4 p4] k tp] (.Tuple [e1, e2, e3, e4] k' vp) pos.line env = pure false := by rfl) :
  wpAny (model pw w) A (exec (.Assign [.Tuple [.Name n1 p1, .Name n2 p2, .Name n3 p3, .Name n4 p4] k tp] (.Tuple [e1, e2, e3, e4] k' vp) pos) env) Q E s := by
 refine Assign_Tuple ?_ hsw (by unfold swappedStores; rfl)
 refine Tuple_ ?_
 rw [hst]
 refine csc (wm h (fun v1 s₁ hv1 => csc (wm hv1 (fun v2 s₂ hv2 => csc (wm hv2 (fun v3 s₃ hv3 => csc (wm hv3 (fun v4 s₄ hv4 => csn ?_) fun _ _ y => y)) fun _ _ y => y)) fun _ _ y => y)) fun _ _ y => y)
 refine Ex3 hv4 fun h₂ vs₂ own₂ => an6 fun S l1 l2 l3 l4 q => ?_
 refine newTuple_ S ?_ (by rw [see]; simp)
 intro a s₃ S₃
 refine wpAny_assign_Tuple (items := #[v1, v2, v3, v4]) hh ⟨_, S₃.get (j := 0) rfl, rfl, 0, rfl⟩ rfl rfl fun h' hb => ?_
 have S := (S₃.drop (lsc _ _)).keeps (s' := { s₃ with heap := h' }) (extBut_size hb) rfl rfl
 refine aac (wan (st_ e S h1 l1 fun s₁ S => aac (wan (st_ e S h2 (by simpa using l2) fun s₂ S => aac (wan (st_ e S h3 (by simpa using l3) fun s₃ S => aac (wan (st_ e S h4 (by simpa using l4) fun s₄ S => assignInOrder_nil (q _ S)))))))))
noncomputable abbrev mtO (dx : Addr) (i j k : Value) : Obj := ⟨.ref 135, some dx, .seq #[i, j, k] 0, #[]⟩
theorem cls_135a (P : Params) : (clsIn (KF P) 135).any (fun cd => cd.mro == [.ref 135, .type "tuple", .type "object"] && cd.bases == [.type "tuple"] && !cd.hasDel && !cd.abstract) = true := by kernel_rfl
theorem cls_135 (P : Params) : ∃ cd, clsIn (KF P) 135 = some cd ∧ cd.mro = [.ref 135, .type "tuple", .type "object"] ∧ cd.bases = [.type "tuple"] ∧ cd.hasDel = false ∧ cd.abstract = false := by
 refine Ex1 (any_some (cls_135a P)) fun cd => an2 fun h e => ?_
 simp only [Bool.and_eq_true, beq_iff_eq, Bool.not_eq_true'] at e
 exact ⟨cd, h, e.1.1.1, e.1.1.2, e.1.2, e.2⟩
section
variable {h : Heap}
theorem mro_135 (B : Base w h) : Looks (model pw w) h (mroOf (.ref 135)) [.ref 135, .type "tuple", .type "object"] := by
 refine Ex1 (cls_135 w.params) fun cd => an3 fun hc e _ => ?_
 rw [← e]
 exact (looks_clsIn B.K hc).andThen .now
theorem made_135 (B : Base w h) : Looks (model pw w) h (Bind.madeBy (.ref 135)) none := by
 intro A Q E s k q
 unfold Bind.madeBy
 have ho := k _ _ (B.at (a := 135) (o := o135 w.params) (by kernel_rfl))
 refine wb (mro_135 B A _ E s k ?_)
 rw [List.forIn_cons]
 refine wb (wb (wb (wb (wpAny_loadPart ho (wpp ?_)))))
 exact wpp (wpp (wpp q))
theorem made_tup : Bind.madeBy (.type "tuple") = pure (some "tuple.__new__") := PySem.F.called_tuple.made
theorem best_tup : Builtin.Slots.bestBase [.type "tuple"] = pure (.type "tuple") := by kernel_rfl
theorem base_135 (B : Base w h) : Looks (model pw w) h (Bind.staticBase (.ref 135)) (.type "tuple") := by
 intro A Q E s k q
 refine Ex1 (cls_135 w.params) fun cd => an4 fun hc _ e _ => ?_
 unfold Bind.staticBase
 refine wb (mro_135 B A _ E s k ?_)
 rw [List.forIn_cons]
 refine wb (wb (wb (made_135 B A _ E s k ?_)))
 rw [if_neg (by decide)]
 refine wb (looks_clsIn B.K hc A _ E s k ?_)
 rw [e, best_tup]
 refine wb (wpp (wpp ?_))
 dsimp only
 rw [List.forIn_cons]
 refine wb (wb ?_)
 show wpAny _ _ (Bind.madeBy (.type "tuple")) _ _ _
 rw [made_tup]
 exact wpp (wpp (wpp (wpp q)))
theorem here_135 (B : Base w h) : Looks (model pw w) h (Bind.madeHere "tuple.__new__" (.ref 135)) () := by
 intro A Q E s k q
 unfold Bind.madeHere
 refine wb (base_135 B A _ E s k (wb ?_))
 rw [made_tup]
 refine wpp ?_
 rw [if_neg (by simp)]
 exact wpp q
theorem init_135 (P : Params) : findIn (KF P) (.ref 135) "__init__" = some (some (.builtin "object.__init__")) := by kernel_rfl
theorem sub_135 (P : Params) : subIn (KF P) (.ref 135) (.type "tuple") = some true := by kernel_rfl
theorem entry_tnew : entryFor table "tuple.__new__" = some Builtin.«tuple.__new__» := entryFor_of_tree (by kernel_rfl)
theorem tnew_ {s : Shared} {T : Addr} {xs : List Value} {Q : Fin → Shared → Prop} (B : Base w s.heap) (hT : s.heap.get? T = some (tupO xs.toArray)) (hz : xs.length ≤ 1000)
  (hq : ∀ s' m dx, Keeps s.heap s'.heap → s.heap.get? m = none → s.heap.get? dx = none → s'.heap.get? m = some ⟨.ref 135, some dx, .seq xs.toArray 0, #[]⟩ → s'.gens = s.gens → s'.os = s.os → Q (.done (.ret (.ref m))) s') :
  wpAny (model pw w) A (Builtin.«tuple.__new__» ⟨[.ref 135, .ref T], []⟩) Q E s := by
 have hsz := see
 refine Ex1 (cls_135 w.params) fun cd => an5 fun hc _ _ hdel _ => ?_
 have ho := B.at (a := 135) (o := o135 w.params) (by kernel_rfl)
 have LI := looks_findIn (M := model pw w) B.K (init_135 _)
 have LS := looks_subIn (M := model pw w) B.K (sub_135 _)
 have LH := here_135 B
 obtain ⟨hp, g, d, t, os⟩ := s
 dsimp only at ho LI LS LH hT B hq
 unfold Builtin.«tuple.__new__» isType
 dsimp only
 generalize hcol : collect (.ref T) = col
 repeat lk
 rw [← hcol]
 refine wpAny_collect_seq T (.inr rfl) hT rfl rfl ?_ (by rw [hsz, lst]; lia)
 intro h' k
 refine wb (wpp (wb (wpAny_alloc (wb ?_))))
 have step : wpAny (model pw w) A (newObjAsIs (.ref 135) (.seq xs.toArray) (some h'.objs.size)) (fun a s' => wpAny (model pw w) A (ret a) Q E s') E ⟨h'.push { cls := .type "dict", data := .dict #[] }, g, d, t, os⟩ := by
  unfold newObjAsIs classHasDel
  refine wb (wpAny_alloc (wb (wb (wpAny_load (hgp _ (hgp _ (k _ _ ho))) (wpp ?_)))))
  refine wpp (wpp ?_)
  exact hq _ _ h'.objs.size (fun b o q => hgp _ (hgp _ (k _ _ q))) (Keeps.none (fun b o q => hgp _ (k _ _ q)) (get_size _)) (Keeps.none k (get_size _)) (hgs _ rfl) rfl rfl
 unfold newObj
 dsimp only
 rw [if_neg (by rw [hsz]; simp; lia)]
 first | exact step | exact wb (wpp step)
theorem tn_kind : builtinKind "tuple.__new__" = some .builtinFn := by decide +kernel
theorem tn_split : splitId "tuple.__new__" = some ("tuple", "__new__") := by decide +kernel
theorem tn_args (a b : Value) : argsOk "tuple.__new__" ⟨[a, b], []⟩ := by unfold argsOk; kernel_rfl
theorem tn_check {s : Shared} {T : Addr} {Q : Unit → Shared → Prop} (B : Base w s.heap) (q : Q () s) : wpAny (model pw w) A (checkBuiltinCall "tuple.__new__" ⟨[.ref 135, .ref T], []⟩) Q E s := by
 have ho := B.at (a := 135) (o := o135 w.params) (by kernel_rfl)
 have LS := looks_subIn (M := model pw w) B.K (sub_135 _)
 have LB := base_135 B
 have LM : Looks (model pw w) s.heap (Bind.madeBy (.type "tuple")) (some "tuple.__new__") := Looks.of_pure made_tup
 have ha := tn_args (.ref 135) (.ref T)
 obtain ⟨hp, g, d, t, os⟩ := s
 dsimp only at ho LS LB LM q
 simp only [checkBuiltinCall, tn_kind, tn_split]
 unfold isType
 cases hsig : Manifest.signature? "tuple.__new__" with
 | none =>
  dsimp only
  repeat lk
  all_goals exact q
 | some sig =>
  simp only [argsOk, hsig] at ha
  have h2 : Bind.checkArgs "tuple.__new__" sig ⟨[.ref 135, .ref T], []⟩ = pure () := ha
  dsimp only
  rw [h2]
  repeat lk
  all_goals exact q
end
theorem gl_tuple {w : World} {h : Heap} (B : Base w h) : Gl h (sO "tuple") (.type "tuple") := B.blt (by kernel_rfl) (by decide) (by decide +kernel)
theorem tup_ty : typeOf (.type "tuple") = pure (.type "type") := by kernel_rfl
theorem tup_stub : Manifest.isStub "tuple" = false := by kernel_rfl
theorem find_tnew : findCls [] (.type "tuple") (.type "type") (sO "__new__") = some (.val (.builtin "tuple.__new__")) := by kernel_rfl
theorem tn_attr {pl : Sem Bool} {Q : Value × List Value → Shared → Prop} (h : Q (.builtin "tuple.__new__", []) { s with toks := s.toks + 1 }) : wpAny (model pw w) A (getMethod (.type "tuple") (sO "__new__") pl) Q E s := by
 have X : Frag.In [] s.heap := fun a o e => by cases e
 have hstub : opaqueClassAbove (.type "tuple") = pure none := by unfold opaqueClassAbove; dsimp only; rw [tup_stub]; rfl
 have L0 : Looks (model pw w) s.heap (typeOf (.type "tuple")) (.type "type") := Looks.of_pure tup_ty
 have hg : findIn [] (.type "type") "__getattribute__" = some (some (.builtin "type.__getattribute__")) := type_tga
 unfold getMethod specialOf
 refine wb (wb (L0.here ((looks_findIn X hg).here ?_)))
 dsimp only
 rw [if_pos canon_tga]
 refine wb (wm (Q := fun v => Q (v, [])) (E := E) ?_ (fun _ _ z => wpp z) fun _ _ z => z)
 refine cls_open X (Looks.of_pure hstub) L0 hg (looks_hook X (r := none) (by rfl)) (by show subIn [] _ _ = _; rfl) find_tnew ?_
 exact wpp (by show wpAny _ _ (handedOut _) _ _ _; rw [handedOut_of rfl]; exact wpp h)
theorem call_tnew {T : Addr} {xs : List Value} {Q : Value → Shared → Prop} (B : Base w s.heap) (hT : s.heap.get? T = some (tupO xs.toArray)) (hz : xs.length ≤ 1000)
  (hq : ∀ s' m dx, Keeps s.heap s'.heap → s.heap.get? m = none → s.heap.get? dx = none → s'.heap.get? m = some ⟨.ref 135, some dx, .seq xs.toArray 0, #[]⟩ → s'.gens = s.gens → s'.os = s.os → Q (.ref m) s') :
  wpAny (model pw w) A (call (.builtin "tuple.__new__") [.ref 135, .ref T]) Q E s := by
 refine wpAny_call (codeAny_call_builtin_code (Code.quiet_builtin _ (by decide +kernel)) (tn_check B (codeAny_builtin entry_tnew ?_)))
 exact tnew_ B hT hz fun s' m dx a b c d e f => hq s' m dx a b c d e f
theorem mt_new {a b c : Value} (B : Base w s.heap) (r : Room A 1) : codeAny (model pw w) A (.call (.ref 82) ⟨[.ref 135, a, b, c], []⟩) (Ret s fun v s' => ∃ m dx, v = .ref m ∧ s.heap.get? m = none ∧ s.heap.get? dx = none ∧ s'.heap.get? m = some (mtO dx a b c)) s := by
 refine call_f B (is82 B) ok82 r.lt (vals := [.ref 135, a, b, c]) (.of_eq (by kernel_rfl)) rfl ?_
 intro env L s' e S
 have hsz := see
 conv in (fnB _) => whnf
 with_reducible refine wec ?_
 refine we (wcs ?_) e.inter
 have S := S.same (s' := { s' with toks := s'.toks + 1 }) rfl rfl rfl
 with_reducible refine wec ?_
 with_reducible refine wrs ?_
 refine methodCall_KW (ldg e S (i := 0) rfl (gl_tuple B) (tn_attr ?_)) (by rfl)
 have S := S.same (s' := { s' with toks := s'.toks + 1 + 1 }) rfl rfl rfl
 refine ccb rfl (cep ?_)
 refine it_Name (ld e S (i := 0) rfl rfl ?_)
 with_reducible refine it_Tuple (Tuple_ ?_)
 with_reducible refine it_Name (ld e S (i := 1) rfl rfl (it_Name (ld e S (i := 2) rfl rfl (it_Name (ld e S (i := 3) rfl rfl (it_nil ?_))))))
 refine newTuple_ S ?_ (by rw [hsz]; simp)
 intro T s' S
 refine it_nil (call_tnew (xs := [a, b, c]) (B.keeps S.keep) (S.get (j := 0) rfl) (by simp) ?_)
 intro s₂ m dx k h1 h2 h3 h4 h5
 have S2 := S.keeps k h4 h5
 exact ⟨_, rfl, S2.keep, S2.gens, S2.os, m, dx, rfl, S.keep.none h1, S.keep.none h2, h3⟩
theorem mc_call (P : Params) : specialIn (KF P) (.ref 135) "__call__" = some (some (.builtin "type.__call__")) := by kernel_rfl
theorem mc_inst (P : Params) : instIn (KF P) (.ref 135) (.type "type") = some true := by kernel_rfl
theorem mc_reads (P : Params) : readsIn (KF P) 135 (.type "type") = true := by kernel_rfl
theorem mc_new (P : Params) : findCls (KF P) (.ref 135) (.type "type") "__new__" = some (.get (.builtin "staticmethod.__get__") (.ref 136) .none (.ref 135)) := by kernel_rfl
theorem mc_rec (P : Params) : (recIn (KF P) 136 "staticmethod").any (fun l => l.head? == some (.ref 82)) = true := by kernel_rfl
theorem mc_self (P : Params) : subIn (KF P) (.ref 135) (.ref 135) = some true := by kernel_rfl
theorem mc_obj (P : Params) : subIn (KF P) (.ref 135) (.type "object") = some true := by kernel_rfl
theorem oi_args4 (a b c d : Value) : argsOk "object.__init__" ⟨[a, b, c, d], []⟩ := by unfold argsOk; kernel_rfl
theorem mt_init {m dx : Addr} {a b c i j k : Value} {R : Result → Shared → Prop} (B : Base w s.heap) (hm : s.heap.get? m = some (mtO dx i j k)) (h : R (.ok (.ret .none)) s) :
  codeAny (model pw w) A (.call (.builtin "object.__init__") ⟨[.ref m, a, b, c], []⟩) R s := by
 have LI := looks_findIn (M := model pw w) B.K (init_135 _)
 have LT : Looks (model pw w) s.heap (typeOf (.ref m)) (.ref 135) := (Looks.ld hm).andThen .now
 have LO : Looks (model pw w) s.heap (isInstance (.ref m) (.type "object")) true := LT.andThen (looks_subIn B.K (mc_obj _))
 have LM := made_135 B
 refine codeAny_call_builtin oi_plain entry_oi (@check_slot (model pw w) _ _ _ "object.__init__" "object" "__init__" (.ref m) [a, b, c] [] _ oi_kind oi_split LO (oi_args4 _ _ _ _) ?_)
 obtain ⟨hp, g, d, t, os⟩ := s
 dsimp only at hm LI LT LO LM h
 unfold Builtin.«object.__init__»
 repeat lk
 all_goals exact h
theorem mt_call {a b c : Value} (B : Base w s.heap) (r : Room A 3) : codeAny (model pw w) A (.call (.ref 135) ⟨[a, b, c], []⟩) (Ret s fun v s' => ∃ m dx, v = .ref m ∧ s.heap.get? m = none ∧ s'.heap.get? m = some (mtO dx a b c)) s := by
 obtain ⟨hp, g, d, t, os⟩ := s
 have hC := B.at (a := 135) (o := o135 w.params) (by kernel_rfl)
 refine codeAny_of_tree ?_
 show wpAny _ _ (callAny (.ref 135) _) _ _ _
 refine nd_load hC ?_
 show wpAny _ _ (callAny.viaDunder (.ref 135) _) _ _ _
 unfold callAny.viaDunder
 refine wb ((looks_specialIn B.K (mc_call _)).at ?_)
 dsimp only
 rw [tc_bind]
 refine wb (wpp (wb (wpp ?_)))
 refine wpp (a := Fin.again (.call (.builtin "type.__call__") ⟨[.ref 135, a, b, c], []⟩)) (And.intro rfl ?_)
 refine codeAny_call_builtin_at (Code.quiet_builtin _ (by decide +kernel)) entry_typeCall (check_slot tc_kind tc_split (looks_instIn B.K (mc_inst _)) (tc_args _ _ _) ?_)
 have LM := mro_135 B
 have LN := made_135 B
 unfold Builtin.«type.__call__»
 dsimp only at LM LN
 dsimp only
 generalize hga : getAttr (.ref 135) (sO "__new__") = ga
 repeat lk
 rw [← hga]
 refine Ex1 (any_some (mc_rec w.params)) fun l => an2 fun hl hh => ?_
 obtain ⟨rest, rfl⟩ : ∃ rest, l = .ref 82 :: rest := by
  cases l with
  | nil => cases hh
  | cons x r => rw [List.head?_cons] at hh; cases (beq_iff_eq.mp hh); exact ⟨r, rfl⟩
 have r1 : Room (A.under (.builtin "type.__call__" ⟨[.ref 135, a, b, c], []⟩)) 1 := ⟨by have := r.depth; show A.depth + 1 + 1 < _; lia, by have := r.units; rw [units_tc]; lia, r.handled⟩
 refine cls_bind B.K (mc_reads _) (mc_new _) (wpAny_call (sm_get (s := ⟨hp, g, d, t + 1, os⟩) B.K hl (handed_on rfl ?_)))
 refine wb (whh (wpAny_call (codeAny_mono (mt_new (s := ⟨hp, g, d, t + 1, os⟩) (a := a) (b := b) (c := c) B r1) fun res s' hr => ?_)))
 refine Ex1 hr fun v => an5 fun zz1 k hg' ho' => ex2 fun m dx => an4 fun zz2 h1 h2 h3 => ?_
 subst zz1
 subst zz2
 have B' : Base w s'.heap := B.keeps k
 have LT : Looks (model pw w) s'.heap (typeOf (.ref m)) (.ref 135) := (Looks.ld h3).andThen .now
 refine wb (wb (LT.here ((looks_subIn B'.K (mc_self _)).here ?_)))
 rw [if_neg (by decide)]
 refine wb (whh ?_)
 unfold callSpecial? specialOf
 refine wb (wb (LT.here ((looks_findIn B'.K (init_135 _)).here ?_)))
 dsimp only
 refine whh ?_
 rw [oi_bind]
 refine wb (wpp (wb (wpAny_call ?_)))
 refine mt_init B' h3 ?_
 refine wpp ?_
 dsimp only
 rw [if_neg (by decide)]
 exact wpp ⟨_, rfl, k, hg', ho', m, dx, rfl, h1, h3⟩
noncomputable def posOf (B : List Int) (x : Int) : Option Nat := B.findIdx? (· == x)
noncomputable abbrev FSt := (Nat × Nat × Nat) × Option (Nat × Nat)
noncomputable def kNext (e : Option (Nat × Nat)) (j : Nat) : Nat := (match e with | some (j', k') => if j' + 1 = j then k' else 0 | none => 0) + 1
noncomputable def flmStep (A B : List Int) (blo bhi : Nat) (st : FSt) (i : Nat) : FSt :=
 match posOf B (A.getD i 0) with
 | none => (st.1, none)
 | some j => if j < blo ∨ bhi ≤ j then (st.1, none) else
  (if st.1.2.2 < kNext st.2 j then (i + 1 - kNext st.2 j, j + 1 - kNext st.2 j, kNext st.2 j) else st.1, some (j, kNext st.2 j))
noncomputable def flmN (A B : List Int) (alo blo bhi : Nat) : Nat → FSt
 | 0 => ((alo, blo, 0), none)
 | n + 1 => flmStep A B blo bhi (flmN A B alo blo bhi n) (alo + n)
noncomputable def flm (A B : List Int) (alo ahi blo bhi : Nat) : Nat × Nat × Nat := (flmN A B alo blo bhi (ahi - alo)).1
theorem flmN_fit (A B : List Int) (alo blo bhi : Nat) : ∀ n j k, (flmN A B alo blo bhi n).2 = some (j, k) → k ≤ n ∧ k ≤ j + 1
 | 0, j, k, h => by cases h
 | n + 1, j, k, h => by
  have ih := flmN_fit A B alo blo bhi n
  unfold flmN flmStep at h
  split at h
  ·cases h
  ·rename_i j0 _
   split at h
   ·cases h
   ·have e := Option.some.inj h
    have e1 : j0 = j := congrArg Prod.fst e
    have e2 : kNext (flmN A B alo blo bhi n).2 j0 = k := congrArg Prod.snd e
    rw [← e2, ← e1]
    unfold kNext
    split
    ·rename_i j' k' q
     have := ih j' k' q
     split <;> lia
    ·exact ⟨Nat.succ_pos n, Nat.succ_pos j0⟩
theorem posOf_lt {B : List Int} {x : Int} {j : Nat} (h : posOf B x = some j) : j < B.length ∧ B[j]? = some x := by
 unfold posOf at h
 refine Ex1 (lfe.mp h) fun hj => an2 fun h1 _ => ?_
 exact ⟨hj, by rw [lge hj]; simpa using h1⟩
theorem b2j_val {h : Heap} {us : List Value} {zs : List Int} {DB : List Ent} (b : B2J h us zs DB) (k : Nat) : match posOf (zs.map kd) (kd k) with
  | none => valAt DB k = none
  | some j => ∃ l t, valAt DB k = some (.ref l) ∧ Ls h l [.int j t] := by
 have e : fnd DB k = posOf (zs.map kd) (kd k) := by
  unfold fnd posOf
  have e1 : zs.map kd = DB.map (fun x => kd x.1) := by
   have e1 : DB.map (fun x => kd x.1) = (DB.map (·.1)).map (fun k => kd (k : Nat)) := by rw [List.map_map]; rfl
   rw [e1, b.ks, List.map_map]
   exact (List.map_congr_left fun z _ => kd_nat z).symm
  rw [e1, List.findIdx?_map]
  rfl
 rw [← e]
 cases q : fnd DB k with
 | none => exact valAt_none.mpr q
 | some j =>
  refine Ex1 (fnd_lt q) fun x => an2 fun hx _ => ?_
  refine Ex2 (b.at_ j x hx) fun l t => an2 fun e2 hl => ?_
  exact ⟨l, t, by unfold valAt; rw [q, Option.bind_some, hx]; exact congrArg some e2, hl⟩
theorem getS' {self attr : Str} {p1 p2 : Pos} {i k : Nat} {x D : Addr} {oD : Obj} {mv : List (Option Value)} {v : Value} {Q : Value → Shared → Prop} (e : Ev env L ns gs) (B : Base w h₀) (S : St s₀ h₀ L ns vs own s) (hi : ns[i]? = some self) (hv : vs[i]? = some (some (.ref x)))
  (hx : h₀.get? x = some (instObj 242 D)) (hD : h₀.get? D = some oD) (f : FldO oD (Loc MN mv)) (hk : MN[k]? = some attr) (hm : mv[k]? = some (some v)) (hh : handedIn v = true)
  (h : ∀ s', St s₀ h₀ L ns vs own s' → s'.heap = s.heap → Q v s') : wpAny (model pw w) A (eval (.Attribute (.Name self p1) attr p2) env) Q E s := by
 refine Attribute_name (ld e S hi hv ?_)
 have X := (B.keeps S.keep).K
 refine get_value X (inst_at (S.keep _ _ hx) (S.keep _ _ hD)) (ga_242 _) ?_ hh (h _ (S.same rfl rfl rfl) rfl)
 refine Ex1 (any_some (hd_242 w.params)) fun cd => an2 fun hc hd => ?_
 have ho : PySem.W.ownOf cd (some oD) attr = some (some v) := by unfold PySem.W.ownOf; rw [if_pos hd]; show lookIn attr oD = _; rw [f.look, Loc.get MN_nd hk hm]
 unfold findObj
 rw [hc, Option.bind_some, mn_none hk, Option.bind_some]
 simp only [Option.bind_some, ho]
theorem getT_ {x y : Str} {i i' : Nat} {d : Addr} {D : List Ent} {n : Nat} {dv : Value} {arg : Expr} {p1 p2 p3 p5 : Pos} {Q : Value → Shared → Prop} (e : Ev env L ns gs) (hu : A.units + 5 < cLine) (S : St s₀ h₀ L ns vs own s)
  (hi : ns[i]? = some x) (hv : vs[i]? = some (some (.ref d))) (hi' : ns[i']? = some y) (hv' : vs[i']? = some (some dv)) (hd : s.heap.get? d = some (dictT w D n)) (hline : (p2.endLine == p3.line) = true)
  (h : wpAny (model pw w) A (eval arg env) (fun v s₁ => ∃ k, St s₀ h₀ L ns vs own s₁ ∧ s₁.heap.get? d = some (dictT w D n) ∧ @LT.lt Nat _ 3 d ∧ TD s₁.heap D ∧ Thing s₁.heap v k ∧ ∀ m, Q ((valAt D k).getD dv) { s₁ with toks := s₁.toks + m }) E s)
  (hst : starEach [arg, .Name y p5] env = [(false, eval arg env), (false, eval (.Name y p5) env)] := by rfl) :
  wpAny (model pw w) A (eval (.Call (.Attribute (.Name x p1) (sO "get") p2) [arg, .Name y p5] [] p3) env) Q E s := by
 refine wpAny_Call_method rfl (by rw [hst]; rfl) hline PySem.F.plainAttrs_dict PySem.F.slot_dict_get PySem.F.type_dict_get (ld e S hi hv ?_)
 refine ⟨⟨_, hd, rfl⟩, dictDict hd, ?_⟩
 rw [hst]
 refine ccb rfl (cep (csc (wm h (fun v s₁ h₁ => ?_) fun _ _ y => y)))
 refine Ex1 h₁ fun k => an6 fun S₁ hd1 h3 T K q => ?_
 refine csc (ld e S₁ hi' hv' (csn ?_))
 have hT : s₁.TypeIs (.ref d) "dict" := ⟨_, hd1, rfl⟩
 have hne : (d == sysModules) = false := beq_eq_false_iff_ne.mpr (nn (.inr (Nat.lt_trans (by decide) h3)))
 refine wce PySem.F.slot_dict_get hT PySem.F.entry_dict_get ?_ (PySem.F.args_dict_get_3 _ _ _)
 show wpAny _ _ (dictGet d v >>= _) _ _ _
 refine wb (dictGetT (by show A.units + 1 + 1 < cLine; lia) hd1 T K fun m => ?_)
 have q := q m
 cases hf : valAt D k with
 | some u => rw [hf] at q; exact wpp ⟨u, rfl, q⟩
 | none =>
  rw [hf] at q
  show wpAny _ _ (Builtin.Dict.missed d v >>= _) _ _ _
  exact wb (wpAny_missed_other hne (wpp ⟨dv, rfl, q⟩))
noncomputable def forB : Stmt → List Stmt
 | .For _ _ b _ _ => b
 | .While _ b _ _ => b
 | .If _ b _ _ => b
 | _ => []
noncomputable def stAt (l : List Stmt) (i : Nat) : Stmt := (l[i]?).getD (.Pass default)
noncomputable def EM (e : Option (Nat × Nat)) (fm : Int → Option Value) : Prop := match e with
 | none => ∀ y, fm y = none
 | some (j, k) => ∃ t, ∀ y : Int, fm y = if y = j then some (.int k t) else none
theorem EM.next {e : Option (Nat × Nat)} {fm : Int → Option Value} (m : EM e fm) (j : Nat) (t0 : Tok) : ∃ z t, (fm ((j : Int) - 1)).getD (.int 0 t0) = .int z t ∧ z + 1 = ((kNext e j : Nat) : Int) := by
 unfold EM at m
 unfold kNext
 cases e with
 | none => rw [m]; exact ⟨0, t0, rfl, rfl⟩
 | some p =>
  obtain ⟨j', k'⟩ := p
  refine Ex1 m fun t m => ?_
  rw [m]
  dsimp only
  by_cases h : j' + 1 = j
  ·rw [if_pos (by lia), if_pos h]; exact ⟨k', t, rfl, by push_cast; rfl⟩
  ·rw [if_neg (by lia), if_neg h]; exact ⟨0, t0, rfl, rfl⟩
inductive PI (ns : List Str) (vs : List (Option Value)) : Expr → Int → Prop
 | nm {x : Str} {p : Pos} (i : Nat) {n : Int} {t : Tok} : ns[i]? = some x → vs[i]? = some (some (.int n t)) → PI ns vs (.Name x p) n
 | c {n : Int} {k : Nat} {p : Pos} : PI ns vs (.Constant (.int n) k p) n
 | add {a b : Expr} {m n : Int} {p : Pos} : PI ns vs a m → PI ns vs b n → PI ns vs (.BinOp a .Add b p) (m + n)
 | sub {a b : Expr} {m n : Int} {p : Pos} : PI ns vs a m → PI ns vs b n → PI ns vs (.BinOp a .Sub b p) (m - n)
 | neg {a : Expr} {m : Int} {p : Pos} : PI ns vs a m → PI ns vs (.UnaryOp .USub a p) (-m)
inductive PB (ns : List Str) (vs : List (Option Value)) : Expr → Bool → Prop
 | lt {a b : Expr} {m n : Int} {p : Pos} : PI ns vs a m → PI ns vs b n → PB ns vs (.Compare a [.Lt] [b] p) (decide (m < n))
 | gt {a b : Expr} {m n : Int} {p : Pos} : PI ns vs a m → PI ns vs b n → PB ns vs (.Compare a [.Gt] [b] p) (decide (m > n))
 | ge {a b : Expr} {m n : Int} {p : Pos} : PI ns vs a m → PI ns vs b n → PB ns vs (.Compare a [.GtE] [b] p) (decide (m ≥ n))
 | eq {a b : Expr} {m n : Int} {p : Pos} : PI ns vs a m → PI ns vs b n → PB ns vs (.Compare a [.Eq] [b] p) (m == n)
 | ne {a b : Expr} {m n : Int} {p : Pos} : PI ns vs a m → PI ns vs b n → PB ns vs (.Compare a [.NotEq] [b] p) (m != n)
 | and {a b : Expr} {x y : Bool} {p : Pos} : PB ns vs a x → PB ns vs b y → PB ns vs (.BoolOp .And [a, b] p) (x && y)
 | or {a b : Expr} {x y : Bool} {p : Pos} : PB ns vs a x → PB ns vs b y → PB ns vs (.BoolOp .Or [a, b] p) (x || y)
noncomputable def AtI (vs : List (Option Value)) (i : Nat) (n : Int) : Prop := ∃ t, At vs i (.int n t)
theorem AtI.ne {vs : List (Option Value)} {i j : Nat} {n : Int} {u : Option Value} (h : AtI vs i n) (k : (j == i) = false := by rfl) : AtI (vs.set j u) i n := let ⟨t, h⟩ := h; ⟨t, h.ne k⟩
theorem PI.at {ns : List Str} {vs : List (Option Value)} {x : Str} {p : Pos} {i : Nat} {n : Int} (h : AtI vs i n) (hi : ns[i]? = some x := by rfl) : PI ns vs (.Name x p) n := let ⟨_, h⟩ := h; .nm i hi h
theorem PI.marks {ns : List Str} {vs : List (Option Value)} {a : Expr} {n : Int} (h : PI ns vs a n) (op : CmpOp) : behindInMarks op a = false := by cases h <;> rfl
theorem PI.ev {a : Expr} {n : Int} (d : PI ns vs a n) (e : Ev env L ns gs) : ∀ {s : Shared} {Q : Value → Shared → Prop}, St s₀ h₀ L ns vs own s → (∀ t s', St s₀ h₀ L ns vs own s' → s'.heap = s.heap → Q (.int n t) s') → wpAny (model pw w) A (eval a env) Q E s := by
 induction d with
 | nm i hi hv => intro s Q S h; exact ld e S hi hv (h _ _ S rfl)
 | c => intro s Q S h; exact wpAny_Constant_int (h _ _ (S.same rfl rfl rfl) rfl)
 | add _ _ ih1 ih2 => intro s Q S h; exact wbb (ih1 S fun t s₁ S₁ e₁ => ih2 S₁ fun t' s₂ S₂ e₂ => P.add_int (h _ _ (S₂.same rfl rfl rfl) (e₂.trans e₁)))
 | sub _ _ ih1 ih2 => intro s Q S h; exact wbb (ih1 S fun t s₁ S₁ e₁ => ih2 S₁ fun t' s₂ S₂ e₂ => P.sub_int (h _ _ (S₂.same rfl rfl rfl) (e₂.trans e₁)))
 | neg _ ih => intro s Q S h; exact wpAny_UnaryOp (ih S fun t s₁ S₁ e₁ => P.neg_int (h _ _ (S₁.same rfl rfl rfl) e₁))
theorem PB.ev {a : Expr} {b : Bool} (d : PB ns vs a b) (e : Ev env L ns gs) : ∀ {s : Shared} {Q : Bool → Shared → Prop} {whole : Sem Value}, St s₀ h₀ L ns vs own s → (∀ s', St s₀ h₀ L ns vs own s' → s'.heap = s.heap → Q b s') → wpAny (model pw w) A (isTrue a env whole) Q E s := by
 induction d with
 | lt p q => intro s Q wh S h; exact wic (p.ev e S fun t s₁ S₁ e₁ => q.ev e S₁ fun t' s₂ S₂ e₂ => P.lt_int (wtb (h _ S₂ (e₂.trans e₁)))) (q.marks _)
 | gt p q => intro s Q wh S h; exact wic (p.ev e S fun t s₁ S₁ e₁ => q.ev e S₁ fun t' s₂ S₂ e₂ => P.gt_int (wtb (h _ S₂ (e₂.trans e₁)))) (q.marks _)
 | ge p q => intro s Q wh S h; exact wic (p.ev e S fun t s₁ S₁ e₁ => q.ev e S₁ fun t' s₂ S₂ e₂ => P.ge_int (wtb (h _ S₂ (e₂.trans e₁)))) (q.marks _)
 | eq p q => intro s Q wh S h; exact wic (p.ev e S fun t s₁ S₁ e₁ => q.ev e S₁ fun t' s₂ S₂ e₂ => P.eq_int (wtb (h _ S₂ (e₂.trans e₁)))) (q.marks _)
 | ne p q => intro s Q wh S h; exact wic (p.ev e S fun t s₁ S₁ e₁ => q.ev e S₁ fun t' s₂ S₂ e₂ => P.ne_int (wtb (h _ S₂ (e₂.trans e₁)))) (q.marks _)
 | @and _ _ x y _ _ _ ih1 ih2 =>
  intro s Q wh S h
  refine wib (wac (ih1 S fun s₁ S₁ e₁ => ?_))
  cases x with
  | false => exact h _ S₁ e₁
  | true => exact wac (ih2 S₁ fun s₂ S₂ e₂ => by cases y with
    | false => exact h _ S₂ (e₂.trans e₁)
    | true => exact wpAny_allTrue_And_nil (h _ S₂ (e₂.trans e₁)))
 | @or _ _ x y _ _ _ ih1 ih2 =>
  intro s Q wh S h
  refine wib (wao (ih1 S fun s₁ S₁ e₁ => ?_))
  cases x with
  | true => exact h _ S₁ e₁
  | false => exact wao (ih2 S₁ fun s₂ S₂ e₂ => by cases y with
    | true => exact h _ S₂ (e₂.trans e₁)
    | false => exact wpAny_allTrue_Or_nil (h _ S₂ (e₂.trans e₁)))
theorem ifP {test : Expr} {b : Bool} {body orelse : List Stmt} {pos : Pos} {Q : Flow → Shared → Prop} (e : Ev env L ns gs) (S : St s₀ h₀ L ns vs own s) (d : PB ns vs test b)
  (h : ∀ s', St s₀ h₀ L ns vs own s' → s'.heap = s.heap → wpAny (model pw w) A (execs (if b then body else orelse) env) Q E s') : wpAny (model pw w) A (exec (.If test body orelse pos) env) Q E s :=
 wpAny_If (d.ev e S fun s' S' e' => by cases b with
  | true => exact h _ S' e'
  | false => exact h _ S' e')
theorem asgP {x : Str} {i : Nat} {a : Expr} {n : Int} {px pos : Pos} {Q : Flow → Shared → Prop} (e : Ev env L ns gs) (S : St s₀ h₀ L ns vs own s) (hi : ns[i]? = some x) (hl : i < vs.length) (d : PI ns vs a n)
  (h : ∀ t s', St s₀ h₀ L ns (vs.set i (some (.int n t))) own s' → Q .next s') (hs : swapsWith a (some (.Name x px)) pos.line env = pure false := by rfl) :
  wpAny (model pw w) A (exec (.Assign [.Name x px] a pos) env) Q E s :=
 waa (d.ev e S fun t s' S' _ => st_ e S' hi hl fun s'' S'' => h t _ S'') hs
theorem PI.plain {ns : List Str} {vs : List (Option Value)} {ex : Expr} {n : Int} (d : PI ns vs ex n) (a b : Value) : subscripted ex false a b = operate [a, b] (getItem a b) := by cases d <;> with_unfolding_all rfl
section
variable {la lb ib js : Addr} {ua ub : List Value} {za zb : List Int} {led : Bool}
theorem isbT {ex : Expr} {n : Int} {p1 p2 p3 p4 : Pos} {Q : Bool → Shared → Prop} (e : Ev env L N196 gs) (hu : A.units + 5 < cLine) (S : St s₀ h₀ L N196 vs own s) (hb : vs[6]? = some (some (.ref lb))) (hi : vs[8]? = some (some (.ref ib)))
  (hl : Ls h₀ lb ub) (T : Ths h₀ ub zb) (hz : zb.length ≤ 1000) (hib : h₀.get? ib = some (bmO "set.__contains__" (.ref js))) (hjs : h₀.get? js = some (setO led)) (d : PI N196 vs ex n) (h0 : 0 ≤ n) (hn : n < zb.length)
  (h : ∀ s', St s₀ h₀ L N196 vs own s' → Q false s')
  (hs : starEach [Expr.Subscript (.Name (sO "b") p2) ex p3] env = [(false, eval (.Subscript (.Name (sO "b") p2) ex p3) env)] := by rfl) :
  wpAny (model pw w) A (isTrue (.Call (.Name (sO "isbjunk") p1) [.Subscript (.Name (sO "b") p2) ex p3] [] p4) env (eval (.Call (.Name (sO "isbjunk") p1) [.Subscript (.Name (sO "b") p2) ex p3] [] p4) env)) Q E s := by
 have hsz := see
 have hlen := T.len
 refine isTrue_plain (isb_ (js := js) e hu S (i := 8) rfl hi (Subscript_ (ld e S (i := 6) rfl hb (d.ev e S fun t s' S' _ => ?_))) hs)
 refine Ex1 (⟨_, lge (by lia)⟩ : ∃ z, zb[n.toNat]? = some z) fun z hz' => ?_
 refine Ex1 (T.get' hz') fun v => an2 fun hv K => ?_
 refine item_ (hl.keeps S'.keep).isList h0 hv (by lia) ?_ ?_
 ·exact ⟨led, _, S'.keep _ _ hib, S'.keep _ _ hjs, K.keeps S'.keep, fun m => wtb (h _ (S'.same rfl rfl rfl))⟩
 ·exact d.plain _ _
theorem eqT {ex ey : Expr} {m n : Int} {y z : Int} {p1 p2 p3 p4 p5 : Pos} {whole : Sem Value} {Q : Bool → Shared → Prop} (e : Ev env L N196 gs) (hu : A.units + 5 < cLine) (S : St s₀ h₀ L N196 vs own s) (ha : vs[5]? = some (some (.ref la))) (hb : vs[6]? = some (some (.ref lb)))
  (hla : Ls h₀ la ua) (Ta : Ths h₀ ua za) (hza : za.length ≤ 1000) (hl : Ls h₀ lb ub) (T : Ths h₀ ub zb) (hz : zb.length ≤ 1000) (d1 : PI N196 vs ex m) (h1 : 0 ≤ m) (hm : za[m.toNat]? = some y) (d2 : PI N196 vs ey n) (h2 : 0 ≤ n) (hn : zb[n.toNat]? = some z)
  (h : ∀ s', St s₀ h₀ L N196 vs own s' → Q (decide (kd y = kd z)) s') :
  wpAny (model pw w) A (isTrue (.Compare (.Subscript (.Name (sO "a") p1) ex p2) [.Eq] [.Subscript (.Name (sO "b") p3) ey p4] p5) env whole) Q E s := by
 have hsz := see
 have hlen := T.len
 have hlena := Ta.len
 refine Ex1 (Ta.get' hm) fun v => an2 fun hv Y => ?_
 refine Ex1 (T.get' hn) fun u => an2 fun hu' Z => ?_
 refine wic (Subscript_ (ld e S (i := 5) rfl ha (d1.ev e S fun t s₁ S₁ _ => item_ (hla.keeps S₁.keep).isList h1 hv (by lia) ?_ (d1.plain _ _)))) rfl
 refine Subscript_ (ld e S₁ (i := 6) rfl hb (d2.ev e S₁ fun t s₂ S₂ _ => item_ (hl.keeps S₂.keep).isList h2 hu' (by lia) ?_ (d2.plain _ _)))
 have Y := Y.keeps S₂.keep
 have Z := Z.keeps S₂.keep
 refine compareEq_reads Y.reads Z.reads (thing_lay _ Y.lt) (thing_lay _ Z.lt) (by have := thing_deep _ Y.lt; lia) (wtb ?_)
 rw [thing_eqv _ Y.lt _ Z.lt, kd_nat, kd_nat]
 exact h _ S₂
end
theorem gl_match {w : World} {h : Heap} (B : Base w h) : Gl h (sO "Match") (.ref 135) := B.glob (by kernel_rfl)
theorem keep_135 (P : Params) : keepIn (KF P) (.ref 135) = true := by kernel_rfl
theorem callCls {f : Str} {p pos : Pos} {x : Expr} {rest : List Expr} {i : Nat} {C : Addr} {Q : Value → Shared → Prop} (e : Ev env L ns gs) (B : Base w h₀) (S : St s₀ h₀ L ns vs own s) (hi : gs[i]? = some f) (g : Gl h₀ f (.ref C)) (hk : keepIn (KF w.params) (.ref C) = true)
  (h : wpAny (model pw w) A (spliced (backTo pos (starEach (x :: rest) env))) (fun vals s₁ => Keeps h₀ s₁.heap ∧ codeAny (model pw w) A (.call (.ref C) ⟨vals, []⟩) (fun r s' => match r with | .ok (.ret v) => Q v s' | .ok _ => False | .error e => E e s') s₁) E s)
  (hplain : ((backTo pos (starEach (x :: rest) env)).any (·.1) || (backToKw pos (keywordEach [] env)).any (·.1.isNone)) = false := by rfl) (he : starEach (x :: rest) env = (false, eval x env) :: starEach rest env := by rfl) :
  wpAny (model pw w) A (eval (.Call (.Name f p) (x :: rest) [] pos) env) Q E s := by
 refine wpAny_Call_Name_kw (ldg e S hi g ?_)
 exact callWith_KW B.K hk rfl (wm h (fun vals s₁ h₁ => wpp ⟨B.K.keeps h₁.1, wpAny_call h₁.2⟩) fun _ _ y => y) hplain he
theorem andP {a : Expr} {rest : List Expr} {b : Bool} {Q : Bool → Shared → Prop} (e : Ev env L ns gs) (S : St s₀ h₀ L ns vs own s) (d : PB ns vs a b)
  (h0 : b = false → ∀ s', St s₀ h₀ L ns vs own s' → Q false s') (h1 : b = true → ∀ s', St s₀ h₀ L ns vs own s' → wpAny (model pw w) A (allTrue .And rest env) Q E s') : wpAny (model pw w) A (allTrue .And (a :: rest) env) Q E s :=
 wac (d.ev e S fun s' S' _ => by cases b with
  | true => exact h1 rfl _ S'
  | false => exact h0 rfl _ S')
section
variable {x la lb d ib js : Addr} {z1 z2 z3 z4 b1 b2 b3 : Nat} {ua ub : List Value} {za zb : List Int} {led : Bool}
structure FlmV (h₀ : Heap) (vs : List (Option Value)) (la lb ib js : Addr) (z1 z2 z3 z4 b1 b2 b3 : Nat) (ua ub : List Value) (za zb : List Int) (led : Bool) : Prop where
 v1 : AtI vs 1 z1
 v2 : AtI vs 2 z2
 v3 : AtI vs 3 z3
 v4 : AtI vs 4 z4
 v5 : vs[5]? = some (some (.ref la))
 v6 : vs[6]? = some (some (.ref lb))
 v8 : vs[8]? = some (some (.ref ib))
 v9 : AtI vs 9 b1
 v10 : AtI vs 10 b2
 v11 : AtI vs 11 b3
 hla : Ls h₀ la ua
 Ta : Ths h₀ ua za
 hza : za.length ≤ 1000
 hlb : Ls h₀ lb ub
 Tb : Ths h₀ ub zb
 hzb : zb.length ≤ 1000
 hib : h₀.get? ib = some (bmO "set.__contains__" (.ref js))
 hjs : h₀.get? js = some (setO led)
 q1 : b1 ≤ za.length
 q2 : b2 ≤ zb.length
 q3 : z2 ≤ za.length
 q4 : z4 ≤ zb.length
 max1 : z1 < b1 → z3 < b2 → ∀ y z, za[b1 - 1]? = some y → zb[b2 - 1]? = some z → kd y ≠ kd z
 max2 : b1 + b3 < z2 → b2 + b3 < z4 → ∀ y z, za[b1 + b3]? = some y → zb[b2 + b3]? = some z → kd y ≠ kd z
theorem toNat_sub1 {b : Nat} (h : 0 < b) : ((b : Int) - 1).toNat = b - 1 := by lia
theorem getE {α : Type} {l : List α} {i : Nat} (h : i < l.length) : ∃ x, l[i]? = some x := ⟨_, lge h⟩
theorem flm_w1 {Q : Flow → Shared → Prop} (F : FlmV h₀ vs la lb ib js z1 z2 z3 z4 b1 b2 b3 ua ub za zb led) (e : Ev env L N196 [sO "len", sO "range", sO "Match"]) (hu : A.units + 5 < cLine)
  (S : St s₀ h₀ L N196 vs own s) (h : ∀ s', St s₀ h₀ L N196 vs own s' → Q .next s') : wpAny (model pw w) A (exec (stAt (fnB (kid (st 5) 6)) 8) env) Q ff s := by
 conv in (stAt _ _) => whnf
 refine while0 (wib (andP e S (.gt (PI.at F.v9) (PI.at F.v1)) (fun _ s' S => ⟨rfl, h _ S⟩) fun c1 s' S => andP e S (.gt (PI.at F.v10) (PI.at F.v3)) (fun _ s' S => ⟨rfl, h _ S⟩) fun c2 s' S => ?_))
 have c1 : z1 < b1 := Int.ofNat_lt.mp (of_decide_eq_true c1)
 have c2 : z3 < b2 := Int.ofNat_lt.mp (of_decide_eq_true c2)
 have q1 := F.q1
 have q2 := F.q2
 refine Ex1 (getE (l := za) (i := b1 - 1) (by lia)) fun y hy => ?_
 refine Ex1 (getE (l := zb) (i := b2 - 1) (by lia)) fun z hz => ?_
 refine wac (wpAny_isTrue_Not (isbT e hu S F.v6 F.v8 F.hlb F.Tb F.hzb F.hib F.hjs (.sub (PI.at F.v10) .c) (by lia) (by lia) fun s' S => ?_))
 refine wac (eqT e hu S F.v5 F.v6 F.hla F.Ta F.hza F.hlb F.Tb F.hzb (.sub (PI.at F.v9) .c) (by lia) (y := y) (by rw [toNat_sub1 (by lia)]; exact hy) (.sub (PI.at F.v10) .c) (by lia) (z := z) (by rw [toNat_sub1 (by lia)]; exact hz) fun s' S => ?_)
 rw [decide_eq_false (F.max1 c1 c2 y z hy hz)]
 exact ⟨rfl, h _ S⟩
theorem flm_w3 {Q : Flow → Shared → Prop} (F : FlmV h₀ vs la lb ib js z1 z2 z3 z4 b1 b2 b3 ua ub za zb led) (e : Ev env L N196 [sO "len", sO "range", sO "Match"]) (hu : A.units + 5 < cLine)
  (S : St s₀ h₀ L N196 vs own s) (h : ∀ s', St s₀ h₀ L N196 vs own s' → Q .next s') : wpAny (model pw w) A (exec (stAt (fnB (kid (st 5) 6)) 10) env) Q ff s := by
 conv in (stAt _ _) => whnf
 refine while0 (wib (andP e S (.gt (PI.at F.v9) (PI.at F.v1)) (fun _ s' S => ⟨rfl, h _ S⟩) fun c1 s' S => andP e S (.gt (PI.at F.v10) (PI.at F.v3)) (fun _ s' S => ⟨rfl, h _ S⟩) fun c2 s' S => ?_))
 have c2 : z3 < b2 := Int.ofNat_lt.mp (of_decide_eq_true c2)
 have q2 := F.q2
 exact wac (isbT e hu S F.v6 F.v8 F.hlb F.Tb F.hzb F.hib F.hjs (.sub (PI.at F.v10) .c) (by lia) (by lia) fun s' S => ⟨rfl, h _ S⟩)
theorem flm_w2 {Q : Flow → Shared → Prop} (F : FlmV h₀ vs la lb ib js z1 z2 z3 z4 b1 b2 b3 ua ub za zb led) (e : Ev env L N196 [sO "len", sO "range", sO "Match"]) (hu : A.units + 5 < cLine)
  (S : St s₀ h₀ L N196 vs own s) (h : ∀ s', St s₀ h₀ L N196 vs own s' → Q .next s') : wpAny (model pw w) A (exec (stAt (fnB (kid (st 5) 6)) 9) env) Q ff s := by
 conv in (stAt _ _) => whnf
 refine while0 (wib (andP e S (.lt (.add (PI.at F.v9) (PI.at F.v11)) (PI.at F.v2)) (fun _ s' S => ⟨rfl, h _ S⟩) fun c1 s' S => andP e S (.lt (.add (PI.at F.v10) (PI.at F.v11)) (PI.at F.v4)) (fun _ s' S => ⟨rfl, h _ S⟩) fun c2 s' S => ?_))
 have c1 : b1 + b3 < z2 := by have := of_decide_eq_true c1; lia
 have c2 : b2 + b3 < z4 := by have := of_decide_eq_true c2; lia
 have q3 := F.q3
 have q4 := F.q4
 refine Ex1 (getE (l := za) (i := b1 + b3) (by exact nll c1 q3)) fun y hy => ?_
 refine Ex1 (getE (l := zb) (i := b2 + b3) (by exact nll c2 q4)) fun z hz => ?_
 refine wac (wpAny_isTrue_Not (isbT e hu S F.v6 F.v8 F.hlb F.Tb F.hzb F.hib F.hjs (.add (PI.at F.v10) (PI.at F.v11)) (by exact Int.NonNeg.mk (b2 + b3 + 0)) (by lia) fun s' S => ?_))
 refine wac (eqT e hu S F.v5 F.v6 F.hla F.Ta F.hza F.hlb F.Tb F.hzb (.add (PI.at F.v9) (PI.at F.v11)) (by exact Int.NonNeg.mk (b1 + b3 + 0)) (y := y) hy (.add (PI.at F.v10) (PI.at F.v11)) (by exact Int.NonNeg.mk (b2 + b3 + 0)) (z := z) hz fun s' S => ?_)
 rw [decide_eq_false (F.max2 c1 c2 y z hy hz)]
 exact ⟨rfl, h _ S⟩
theorem flm_w4 {Q : Flow → Shared → Prop} (F : FlmV h₀ vs la lb ib js z1 z2 z3 z4 b1 b2 b3 ua ub za zb led) (e : Ev env L N196 [sO "len", sO "range", sO "Match"]) (hu : A.units + 5 < cLine)
  (S : St s₀ h₀ L N196 vs own s) (h : ∀ s', St s₀ h₀ L N196 vs own s' → Q .next s') : wpAny (model pw w) A (exec (stAt (fnB (kid (st 5) 6)) 11) env) Q ff s := by
 conv in (stAt _ _) => whnf
 refine while0 (wib (andP e S (.lt (.add (PI.at F.v9) (PI.at F.v11)) (PI.at F.v2)) (fun _ s' S => ⟨rfl, h _ S⟩) fun c1 s' S => andP e S (.lt (.add (PI.at F.v10) (PI.at F.v11)) (PI.at F.v4)) (fun _ s' S => ⟨rfl, h _ S⟩) fun c2 s' S => ?_))
 have c2 : b2 + b3 < z4 := by have := of_decide_eq_true c2; lia
 have q4 := F.q4
 exact wac (isbT e hu S F.v6 F.v8 F.hlb F.Tb F.hzb F.hib F.hjs (.add (PI.at F.v10) (PI.at F.v11)) (by exact Int.NonNeg.mk (b2 + b3 + 0)) (by lia) fun s' S => ⟨rfl, h _ S⟩)
end
structure FA (vs : List (Option Value)) (la lb d ib no : Addr) (z1 z2 z3 z4 : Nat) : Prop where
 v1 : AtI vs 1 z1
 v2 : AtI vs 2 z2
 v3 : AtI vs 3 z3
 v4 : AtI vs 4 z4
 v5 : At vs 5 (.ref la)
 v6 : At vs 6 (.ref lb)
 v7 : At vs 7 (.ref d)
 v8 : At vs 8 (.ref ib)
 v13 : At vs 13 (.ref no)
 len : vs.length = 19
structure FB (vs : List (Option Value)) (b : Nat × Nat × Nat) : Prop where
 v9 : AtI vs 9 b.1
 v10 : AtI vs 10 b.2.1
 v11 : AtI vs 11 b.2.2
structure FC (vs : List (Option Value)) (i : Nat) (bg dn : Addr) : Prop where
 v14 : AtI vs 14 i
 v15 : At vs 15 (.ref bg)
 v16 : At vs 16 (.ref dn)
noncomputable abbrev own3 (dn bg dj : Addr) (on oj : Obj) : List (Addr × Obj) := [(dn, on), (bg, bmO "dict.get" (.ref dj)), (dj, oj)]
noncomputable def flmOne (z3 z4 : Nat) (st : FSt) (i j : Nat) : FSt := if j < z3 ∨ z4 ≤ j then (st.1, none) else
 (if st.1.2.2 < kNext st.2 j then (i + 1 - kNext st.2 j, j + 1 - kNext st.2 j, kNext st.2 j) else st.1, some (j, kNext st.2 j))
theorem flmStep_some {A B : List Int} {z3 z4 i j : Nat} {st : FSt} (h : posOf B (A.getD i 0) = some j) : flmStep A B z3 z4 st i = flmOne z3 z4 st i j := by unfold flmStep; rw [h]; rfl
theorem flmStep_none {A B : List Int} {z3 z4 i : Nat} {st : FSt} (h : posOf B (A.getD i 0) = none) : flmStep A B z3 z4 st i = (st.1, none) := by unfold flmStep; rw [h]
theorem nnk {k i : Nat} (h : i < k) : (k == i) = false := beq_eq_false_iff_ne.mpr (Nat.ne_of_gt h)
section
variable {la lb d ib no dj bg dn js : Addr} {z1 z2 z3 z4 i j k : Nat} {b : Nat × Nat × Nat} {oj : Obj} {fm : Int → Option Value} {e0 : Option (Nat × Nat)} {Q : Flow → Shared → Prop} {u : Option Value} {ua ub : List Value} {za zb : List Int}
theorem FA.set (f : FA vs la lb d ib no z1 z2 z3 z4) (h : 8 < k) (h13 : (k == 13) = false) : FA (vs.set k u) la lb d ib no z1 z2 z3 z4 :=
 have n : ∀ i, i ≤ 8 → (k == i) = false := fun i hi => nnk (nol hi h)
 ⟨f.v1.ne (n 1 (by decide)), f.v2.ne (n 2 (by decide)), f.v3.ne (n 3 (by decide)), f.v4.ne (n 4 (by decide)), f.v5.ne (n 5 (by decide)), f.v6.ne (n 6 (by decide)), f.v7.ne (n 7 (by decide)), f.v8.ne (n 8 (by decide)), f.v13.ne h13, (lls ..).trans f.len⟩
theorem FB.set (f : FB vs b) (h : 11 < k) : FB (vs.set k u) b :=
 have n : ∀ i, i ≤ 11 → (k == i) = false := fun i hi => nnk (nol hi h)
 ⟨f.v9.ne (n 9 (by decide)), f.v10.ne (n 10 (by decide)), f.v11.ne (by exact n 11 (by decide))⟩
theorem FC.set (f : FC vs i bg dn) (h : (k == 14) = false) (h2 : (k == 15) = false) (h3 : (k == 16) = false) : FC (vs.set k u) i bg dn := ⟨f.v14.ne h, f.v15.ne h2, f.v16.ne h3⟩
inductive OneP (w : World) (la lb d ib no : Addr) (z1 z2 z3 z4 i : Nat) (bg dn dj : Addr) (oj : Obj) (st : FSt) (vs : List (Option Value)) : List (Addr × Obj) → Prop
 | mk {on : Obj} {fm : Int → Option Value} : FA vs la lb d ib no z1 z2 z3 z4 → FB vs st.1 → FC vs i bg dn → MapO w on fm → EM st.2 fm → OneP w la lb d ib no z1 z2 z3 z4 i bg dn dj oj st vs (own3 dn bg dj on oj)
theorem sub_k {i k : Nat} (h : k ≤ i + 1) : ((i : Int) - k + 1) = ((i + 1 - k : Nat) : Int) := by omega
theorem flm_one (e : Ev env L N196 [sO "len", sO "range", sO "Match"]) (hh : A.handled = none) (S : St s₀ h₀ L N196 vs (own3 dn bg dj (dictOf [] 0) oj) s) (F : FA vs la lb d ib no z1 z2 z3 z4) (G : FB vs b) (C : FC vs i bg dn) (a17 : AtI vs 17 j)
  (m : MapO w oj fm) (em : EM e0 fm) (h3 : @LT.lt Nat _ 3 dj) (hk1 : kNext e0 j ≤ i + 1) (hk2 : kNext e0 j ≤ j + 1)
  (h : ∀ f s' vs' own', (f = .next ∨ f = .cont ∨ f = .brk) → St s₀ h₀ L N196 vs' own' s' → OneP w la lb d ib no z1 z2 z3 z4 i bg dn dj oj (flmOne z3 z4 (b, e0) i j) vs' own' → Q f s') :
  wpAny (model pw w) A (execs (forB (stAt (forB (stAt (fnB (kid (st 5) 6)) 7)) 2)) env) Q ff s := by
 conv in (forB _) => whnf
 refine wec (ifP e S (.lt (PI.at a17) (PI.at F.v3)) fun s S _ => ?_)
 cases c1 : decide ((j : Int) < z3) with
 | true => exact wec (wpAny_Continue (h .cont _ _ _ (.inr (.inl rfl)) S (by unfold flmOne; rw [if_pos (.inl (Int.ofNat_lt.mp (of_decide_eq_true c1)))]; exact .mk F G C (MapO.empty w) fun _ => rfl)))
 | false =>
 refine wen (wec (ifP e S (.ge (PI.at a17) (PI.at F.v4)) fun s S _ => ?_))
 cases c2 : decide ((j : Int) ≥ z4) with
 | true => exact wec (wpAny_Break (h .brk _ _ _ (.inr (.inr rfl)) S (by unfold flmOne; rw [if_pos (.inr (Int.ofNat_le.mp (of_decide_eq_true c2)))]; exact .mk F G C (MapO.empty w) fun _ => rfl)))
 | false =>
 have h : ∀ s' vs' own', St s₀ h₀ L N196 vs' own' s' → OneP w la lb d ib no z1 z2 z3 z4 i bg dn dj oj (if b.2.2 < kNext e0 j then (i + 1 - kNext e0 j, j + 1 - kNext e0 j, kNext e0 j) else b, some (j, kNext e0 j)) vs' own' → Q .next s' := fun s' vs' own' S O => h _ s' vs' own' (.inl rfl) S (by
  unfold flmOne
  rw [if_neg fun q => q.elim (fun q => of_decide_eq_false c1 (Int.ofNat_lt.mpr q)) fun q => of_decide_eq_false c2 (Int.ofNat_le.mpr q)]
  exact O)
 refine wen (wec (wat (wbb (jget_ (d := dj) e S (i := 15) rfl C.v15 (wbb ?_)))))
 refine Ex1 a17 fun tj a17 => ?_
 refine ld e S (i := 17) rfl a17 (cint S fun t s' S => sub_ S fun t s' S => cint S fun t0 s' S => ?_)
 refine Ex2 (em.next j t0) fun z tz => an2 fun ez hz => ?_
 refine ⟨(j : Int) - 1, t, oj, fm, rfl, S.get (j := 1) rfl, S.get (j := 2) rfl, m, h3, ?_⟩
 rw [ez]
 have S := S.same (s' := { s' with toks := s'.toks + 1 }) rfl rfl rfl
 refine cint S fun t' s' S => add_ S fun tk s' S => ?_
 rw [hz]
 clear hz ez em m
 generalize kNext e0 j = kk at hk1 hk2 h ⊢
 have l18 : 18 < vs.length := F.len ▸ nlo rfl
 refine wan (st_ e S (i := 18) rfl l18 fun s' S => ?_)
 have F := F.set (k := 18) (u := some (.int kk tk)) (by decide) rfl
 have G := G.set (k := 18) (u := some (.int kk tk)) (by decide)
 have C := C.set (k := 18) (u := some (.int kk tk)) rfl rfl rfl
 have a17 : At (vs.set 18 (some (.int kk tk))) 17 (.int j tj) := a17.ne
 have a18 : AtI (vs.set 18 (some (.int kk tk))) 18 kk := ⟨tk, At.eq l18⟩
 generalize vs.set 18 (some (.int kk tk)) = vs at S F G C a17 a18
 refine kas_sub (ld e S (i := 16) rfl C.v16 (ld e S (i := 17) rfl a17 (jset_ S (j := 0) rfl fun on s' S mo => ?_)))
 have S : St s₀ h₀ L N196 vs (own3 dn bg dj on oj) s' := S
 have eo : EM (some (j, kk)) (fun y => if y = (j : Int) then some (.int kk tk) else none) := ⟨tk, fun _ => rfl⟩
 refine wec (ifP e S (.gt (PI.at a18) (PI.at G.v11)) fun s S _ => ?_)
 cases c3 : decide ((kk : Int) > (b.2.2 : Nat)) with
 | false =>
  rw [if_neg fun q => of_decide_eq_false c3 (Int.ofNat_lt.mpr q)] at h
  exact wen (wen (h _ _ _ S (.mk F G C mo eo)))
 | true =>
  rw [if_pos (Int.ofNat_lt.mp (of_decide_eq_true c3))] at h
  refine wec (asg3 e hh (i := 9) (j := 10) (m := 11) rfl rfl rfl (by decide) (by decide) (by decide) rfl rfl rfl rfl rfl ((PI.add (.sub (PI.at C.v14) (PI.at a18)) .c).ev e S fun ta s S _ => (PI.add (.sub (.nm 17 rfl a17) (PI.at a18)) .c).ev e S fun tb s S _ => (PI.at a18).ev e S fun tc s S _ =>
   ⟨_, _, _, S, F.len ▸ nlo rfl, F.len ▸ nlo rfl, F.len ▸ nlo rfl, fun s S => ?_⟩))
  rw [sub_k hk1, sub_k hk2] at S
  have l9 : ∀ i, i < 19 → i < vs.length := fun i hi => F.len ▸ hi
  exact wen (wen (h _ _ _ S (.mk (((F.set (by decide) rfl).set (by decide) rfl).set (by decide) rfl) ⟨⟨ta, At.eq (ltS (ltS (l9 9 (by decide))))⟩, ⟨tb, (At.eq (ltS (l9 10 (by decide)))).ne⟩, ⟨tc, ((At.eq (l9 11 (by decide))).ne).ne⟩⟩ (((C.set rfl rfl rfl).set rfl rfl rfl).set rfl rfl rfl) mo eo)))
inductive InJ (w : World) (la lb d ib no : Addr) (z1 z2 z3 z4 i : Nat) (bg dn dj : Addr) (oj : Obj) (b : Nat × Nat × Nat) (st : FSt) (vs : List (Option Value)) : Nat → List (Addr × Obj) → Prop
 | zero : FA vs la lb d ib no z1 z2 z3 z4 → FB vs b → FC vs i bg dn → InJ w la lb d ib no z1 z2 z3 z4 i bg dn dj oj b st vs 0 (own3 dn bg dj (dictOf [] 0) oj)
 | succ {j : Nat} {own : List (Addr × Obj)} : OneP w la lb d ib no z1 z2 z3 z4 i bg dn dj oj st vs own → InJ w la lb d ib no z1 z2 z3 z4 i bg dn dj oj b st vs (j + 1) own
theorem flm_in {l : Addr} {xs : List Value} {px : Pos} {st : FSt} (e : Ev env L N196 [sO "len", sO "range", sO "Match"]) (hh : A.handled = none) (S : St s₀ h₀ L N196 vs (own3 dn bg dj (dictOf [] 0) oj) s) (F : FA vs la lb d ib no z1 z2 z3 z4) (G : FB vs b) (C : FC vs i bg dn)
  (m : MapO w oj fm) (em : EM e0 fm) (h3 : @LT.lt Nat _ 3 dj) (hk : ∀ j, kNext e0 j ≤ i + 1 ∧ kNext e0 j ≤ j + 1) (hl : Ls h₀ l xs) (hx : (xs = [] ∧ st = (b, none)) ∨ ∃ j t, xs = [.int (j : Nat) t] ∧ st = flmOne z3 z4 (b, e0) i j)
  (h : ∀ s' vs' own', St s₀ h₀ L N196 vs' own' s' → OneP w la lb d ib no z1 z2 z3 z4 i bg dn dj oj st vs' own' → Q .next s') :
  wpAny (model pw w) A (pyIter (.ref l)) (fun it s₂ => codeAny (model pw w) A (.forLoop (.Name (sO "j") px) it (forB (stAt (forB (stAt (fnB (kid (Mine.st 5) 6)) 7)) 2)) [] env) (fun r s' => match r with | .ok f => Q f s' | .error e => cameBackBy (model pw w) A env ff e s') s₂) ff s := by
 refine loop_listB hh S hl (.inl ⟨_, _, rfl⟩) (fun j vs own _ => InJ w la lb d ib no z1 z2 z3 z4 i bg dn dj oj b st vs j own) (fun _ _ _ _ _ h _ => h) (.zero F G C) (fun R wr g j vs own s' v kg _ hv J S k kb => ?_) fun g vs own s' kg J S => h _ _ _ (S.unbase kg) ?_
 ·rcases hx with ⟨rfl, _⟩ | ⟨j', t, rfl, rfl⟩
  ·cases hv
  cases J with
  | succ _ => cases hv
  | zero F G C =>
   cases hv
   refine wan (st_ e S (i := 17) rfl (F.len ▸ nlo rfl) fun s' S => ?_)
   refine wm (flm_one e hh S (F.set (by decide) rfl) (G.set (by decide)) (C.set rfl rfl rfl) ⟨t, At.eq (F.len ▸ nlo rfl)⟩ m em h3 (hk j').1 (hk j').2 (Q := R) fun f s' vs' own' hf S' O => ?_) (fun _ _ y => y) fun _ _ y => y.elim
   have kk := k vs' own' s' S' (.succ O)
   rcases hf with rfl | rfl | rfl
   ·exact kk.1
   ·exact kk.2
   ·exact kb _ (h _ _ _ (S'.unbase kg) O)
 ·rcases hx with ⟨rfl, rfl⟩ | ⟨j', t, rfl, rfl⟩
  ·cases J with | zero F G C => exact .mk F G C (MapO.empty w) fun _ => rfl
  ·cases J with | succ O => exact O
inductive OutP (w : World) (la lb d ib no : Addr) (z1 z2 z3 z4 : Nat) (st : FSt) (vs : List (Option Value)) : List (Addr × Obj) → Prop
 | mk {dj : Addr} {oj : Obj} {fm : Int → Option Value} : FA vs la lb d ib no z1 z2 z3 z4 → FB vs st.1 → At vs 12 (.ref dj) → MapO w oj fm → EM st.2 fm → @LT.lt Nat _ 3 dj → OutP w la lb d ib no z1 z2 z3 z4 st vs [(dj, oj)]
theorem attr_get (e : Ev env L N196 [sO "len", sO "range", sO "Match"]) {p1 p2 : Pos} {Q : Value → Shared → Prop} (S : St s₀ h₀ L N196 vs ((dj, oj) :: own) s) (m : MapO w oj fm) (hv : At vs 12 (.ref dj))
  (h : ∀ b s', St s₀ h₀ L N196 vs ((b, bmO "dict.get" (.ref dj)) :: (dj, oj) :: own) s' → Q (.ref b) s') : wpAny (model pw w) A (eval (.Attribute (.Name (sO "j2len") p1) (sO "get") p2) env) Q E s := by
 refine Ex2 m.shape fun es n zz1 => ?_
 subst zz1
 exact Attribute_name (ld e S (i := 12) rfl hv (bnd_ bm_dict_get S (S.get (j := 0) rfl) rfl rfl (by rintro c ⟨⟩) (by decide +kernel) h))
theorem flm_turn (e : Ev env L N196 [sO "len", sO "range", sO "Match"]) (hh : A.handled = none) (hu : A.units + 5 < cLine) (B : Base w h₀)
  (hla : Ls h₀ la ua) (Ta : Ths h₀ ua za) (hb2 : B2At w h₀ d js ub zb) (hno : Ls h₀ no []) (hi : i < za.length) (hz : za.length ≤ 1000)
  (S : St s₀ h₀ L N196 vs [(dj, oj)] s) (F : FA vs la lb d ib no z1 z2 z3 z4) (G : FB vs b) (a12 : At vs 12 (.ref dj)) (a14 : AtI vs 14 i)
  (m : MapO w oj fm) (em : EM e0 fm) (h3 : @LT.lt Nat _ 3 dj) (hk : ∀ j, kNext e0 j ≤ i + 1 ∧ kNext e0 j ≤ j + 1)
  (h : ∀ s' vs' own', St s₀ h₀ L N196 vs' own' s' → OutP w la lb d ib no z1 z2 z3 z4 (flmStep (za.map kd) (zb.map kd) z3 z4 (b, e0) i) vs' own' → Q .next s') :
  wpAny (model pw w) A (execs (forB (stAt (fnB (kid (st 5) 6)) 7)) env) Q ff s := by
 refine An2 hb2 fun h3d => ex3 fun DB nD l1 => an4 fun hd TDB bJ hjs => ?_
 refine Ex1 (getE hi) fun z hz' => ?_
 refine Ex1 (Ta.get' hz') fun va => an2 fun hva Z => ?_
 have hA : (za.map kd).getD i 0 = kd z := by rw [lgg, lgm, hz']; rfl
 have bv := b2j_val bJ z.toNat
 rw [kd_nat, ← hA] at bv
 conv in (forB _) => whnf
 refine wec (waa (attr_get e S m a12 fun bg s' S => st_ e S (i := 15) rfl (F.len ▸ nlo rfl) fun s' S => ?_))
 refine wec (waa (newDict_ B S fun dn s' h3n S => st_ e S (i := 16) rfl (ltS (F.len ▸ nlo rfl)) fun s' S => ?_))
 have C : FC ((vs.set 15 (some (.ref bg))).set 16 (some (.ref dn))) i bg dn := ⟨(a14.ne).ne, (At.eq (F.len ▸ nlo rfl)).ne, At.eq (ltS (F.len ▸ nlo rfl))⟩
 have F := (F.set (k := 15) (u := some (.ref bg)) (by decide) rfl).set (k := 16) (u := some (.ref dn)) (by decide) rfl
 have G := (G.set (k := 15) (u := some (.ref bg)) (by decide)).set (k := 16) (u := some (.ref dn)) (by decide)
 generalize (vs.set 15 (some (.ref bg))).set 16 (some (.ref dn)) = vs at S F G C
 refine Ex1 C.v14 fun ti a14' => ?_
 refine wec (wpAny_For (getT_ e hu S (i := 7) (i' := 13) (D := DB) (n := nD) rfl F.v7 rfl F.v13 (S.keep _ _ hd) rfl (Subscript_ (ld e S (i := 5) rfl F.v5 (ld e S (i := 14) rfl a14' (item_ (hla.keeps S.keep).isList (Int.natCast_nonneg i) hva (by rw [Ta.len, see]; exact nlt hz (by decide)) ⟨z.toNat, S, S.keep _ _ hd, h3d, TDB.keeps S.keep, Z.keeps S.keep, fun mm => ?_⟩))))))
 have S := S.same (s' := { s' with toks := s'.toks + mm }) rfl rfl rfl
 have fin : ∀ {st : FSt}, flmStep (za.map kd) (zb.map kd) z3 z4 (b, e0) i = st → ∀ s' vs' own', St s₀ h₀ L N196 vs' own' s' → OneP w la lb d ib no z1 z2 z3 z4 i bg dn dj oj st vs' own' → ∀ {p1 p2 : Pos}, wpAny (model pw w) A (execs [.Assign [.Name (sO "j2len") p1] (.Name (sO "newj2len") p2) p1] env) Q ff s' := by
  intro st hst s' vs' own' S O p1 p2
  cases O with | mk F G C mo eo =>
  exact wec (waa (ld e S (i := 16) rfl C.v16 (st_ e S (i := 12) rfl (F.len ▸ nlo rfl) fun s' S => wen (h _ _ _ (S.drop (own' := [(dn, _)]) (.cons_cons _ (List.nil_sublist _))) (.mk (F.set (by decide) rfl) (hst ▸ G.set (by decide)) (At.eq (F.len ▸ nlo rfl)) mo (hst ▸ eo) h3n)))))
 cases hp : posOf (zb.map kd) ((za.map kd).getD i 0) with
 | none =>
  rw [hp] at bv
  rw [bv]
  exact flm_in e hh S F G C m em h3 hk hno (.inl ⟨rfl, rfl⟩) fun s' vs' own' S O => fin (flmStep_none hp) s' vs' own' S O
 | some j =>
  rw [hp] at bv
  refine Ex2 bv fun l t => an2 fun e2 hl => ?_
  rw [e2]
  exact flm_in e hh S F G C m em h3 hk hl (.inr ⟨j, t, rfl, rfl⟩) fun s' vs' own' S O => fin (flmStep_some hp) s' vs' own' S O
end
structure FlmOk (A B : List Int) (z1 z2 z3 z4 : Nat) : Prop where
 q1 : (flm A B z1 z2 z3 z4).1 ≤ A.length
 q2 : (flm A B z1 z2 z3 z4).2.1 ≤ B.length
 max1 : z1 < (flm A B z1 z2 z3 z4).1 → z3 < (flm A B z1 z2 z3 z4).2.1 → A[(flm A B z1 z2 z3 z4).1 - 1]? ≠ B[(flm A B z1 z2 z3 z4).2.1 - 1]?
 max2 : (flm A B z1 z2 z3 z4).1 + (flm A B z1 z2 z3 z4).2.2 < z2 → (flm A B z1 z2 z3 z4).2.1 + (flm A B z1 z2 z3 z4).2.2 < z4 → A[(flm A B z1 z2 z3 z4).1 + (flm A B z1 z2 z3 z4).2.2]? ≠ B[(flm A B z1 z2 z3 z4).2.1 + (flm A B z1 z2 z3 z4).2.2]?
theorem kNext_fit {A B : List Int} {alo blo bhi n : Nat} (j : Nat) : kNext (flmN A B alo blo bhi n).2 j ≤ alo + n + 1 ∧ kNext (flmN A B alo blo bhi n).2 j ≤ j + 1 := by
 unfold kNext
 cases q : (flmN A B alo blo bhi n).2 with
 | none => dsimp only; exact ⟨by exact nlt (nlr (0 + 1)) (Nat.succ_pos (alo + n)), by exact nlt (nlr (0 + 1)) (Nat.succ_pos j)⟩
 | some p =>
  obtain ⟨j', k'⟩ := p
  have := flmN_fit A B alo blo bhi n j' k' q
  dsimp only
  split <;> lia
theorem mapkd {zs : List Int} {i : Nat} {y : Int} (h : zs[i]? = some y) : (zs.map kd)[i]? = some (kd y) := by rw [lgm, h]; rfl
theorem binds_196 {w : World} {s : Shared} {a b c d e : Value} (B : Base w s.heap) : BindsTo s fd196 ⟨[a, b, c, d, e], []⟩ ([sO "self", sO "alo", sO "ahi", sO "blo", sO "bhi"].zip [a, b, c, d, e]) :=
 BindsTo.of_defaults (T := 189) (o := o189 w.params) rfl (B.at (by kernel_rfl)) rfl rfl rfl
section
variable {x D la lb d js : Addr} {oD : Obj} {m0 m3 m4 m5 m6 m9 : Option Value} {ua ub : List Value} {za zb : List Int} {z1 z2 z3 z4 : Nat} {t1 t2 t3 t4 : Tok}
set_option maxHeartbeats 1000000 in
theorem flm_ (B : Base w s.heap) (r : Room A 4) (hx : s.heap.get? x = some (instObj 242 D)) (hD : s.heap.get? D = some oD) (f : FldO oD (Loc MN [m0, some (.ref la), some (.ref lb), m3, m4, m5, m6, some (.ref d), some (.ref js), m9]))
  (hla : Ls s.heap la ua) (Ta : Ths s.heap ua za) (hza : za.length ≤ 1000) (hlb : Ls s.heap lb ub) (Tb : Ths s.heap ub zb) (hzb : zb.length ≤ 1000) (hb2 : B2At w s.heap d js ub zb)
  (q12 : z1 ≤ z2) (q2 : z2 ≤ za.length) (q4 : z4 ≤ zb.length) (ok : FlmOk (za.map kd) (zb.map kd) z1 z2 z3 z4) :
  codeAny (model pw w) A (.call (.ref 196) ⟨[.ref x, .int z1 t1, .int z2 t2, .int z3 t3, .int z4 t4], []⟩) (Ret s fun v s' => ∃ m dx t5 t6 t7, v = .ref m ∧ s.heap.get? m = none ∧
   s'.heap.get? m = some (mtO dx (.int (flm (za.map kd) (zb.map kd) z1 z2 z3 z4).1 t5) (.int (flm (za.map kd) (zb.map kd) z1 z2 z3 z4).2.1 t6) (.int (flm (za.map kd) (zb.map kd) z1 z2 z3 z4).2.2 t7))) s := by
 refine call_fR B (is196 B) ok196 r.lt (vals := [.ref x, .int z1 t1, .int z2 t2, .int z3 t3, .int z4 t4]) (binds_196 B) rfl ?_
 intro env L s' Q hret _ e S
 have hh : (A.deeper env).handled = none := r.handled
 have r1 := r.deeper env
 have hu : (A.deeper env).units + 5 < cLine := r1.u (by decide)
 refine Ex1 (let ⟨_, _, _, l, _, _, _, q⟩ := hb2; ⟨l, q⟩ : ∃ led, s.heap.get? js = some (setO led)) fun led hjs => ?_
 conv in (fnB _) => whnf
 with_reducible refine wec ?_
 refine we (wcs ?_) e.inter
 have S := S.same (s' := { s' with toks := s'.toks + 1 }) rfl rfl rfl
 with_reducible refine wec ?_
 refine asg4 (s₀ := s) e hh (i1 := 5) (i2 := 6) (i3 := 7) (i4 := 8) rfl rfl rfl rfl ?_
 refine getS' e B S (i := 0) (k := 1) rfl rfl hx hD f rfl rfl rfl fun s' S _ => ?_
 refine getS' e B S (i := 0) (k := 2) rfl rfl hx hD f rfl rfl rfl fun s' S _ => ?_
 refine getS' e B S (i := 0) (k := 7) rfl rfl hx hD f rfl rfl rfl fun s' S _ => ?_
 refine Attribute_any_ (getS' e B S (i := 0) (k := 8) rfl rfl hx hD f rfl rfl rfl fun s' S _ => ?_)
 refine bnd_ bm_set_has S (S.keep _ _ hjs) rfl rfl (by rintro c ⟨⟩) (by decide +kernel) fun ib s' S => ?_
 refine ⟨_, _, _, S, nlo rfl, nlo rfl, nlo rfl, nlo rfl, fun s' S => ?_⟩
 with_reducible refine wec ?_
 refine ifc (ld e S (i := 2) rfl rfl (cnone (is_int_none ⟨_, rfl, fun q => (nomatch q), fun _ => wen ?_⟩)))
 with_reducible refine wec ?_
 refine ifc (ld e S (i := 4) rfl rfl (cnone (is_int_none ⟨_, rfl, fun q => (nomatch q), fun _ => wen ?_⟩)))
 with_reducible refine wec ?_
 refine asg3 (s₀ := s) e hh (i := 9) (j := 10) (m := 11) rfl rfl rfl (by decide) (by decide) (by decide) rfl rfl rfl rfl rfl ?_
 refine ld e S (i := 1) rfl rfl (ld e S (i := 3) rfl rfl (cint S fun t s' S => ?_))
 refine ⟨_, _, _, S, nlo rfl, nlo rfl, nlo rfl, fun s' S => ?_⟩
 with_reducible refine wec ?_
 refine waa (newDict_ B S fun dj s' h3 S => st_ e S (i := 12) rfl (nlo rfl) fun s' S => ?_)
 with_reducible refine wec ?_
 refine waa (List_ (it_nil (newList_ S (fun no s' S => st_ e S (i := 13) rfl (nlo rfl) fun s' S => ?_) (by simp))))
 have hib := S.get (j := 2) rfl
 have hno := S.get (j := 0) rfl
 have nw := S.nw
 have nd := S.nd
 simp only [lmn, List.map_nil, lnc, lmc, lmi, or_false, not_or] at nd
 refine An2 ((S.drop (own' := [(dj, dictOf [] 0)]) (.cons _ (.cons_cons _ (.cons _ .slnil)))).rebase) fun S kg => ?_
 have hib := rest_get (L := L) (own := [(dj, dictOf [] 0)]) hib (nw _ (.tail _ (.tail _ (.head _)))).2.1 (fun m => nd.2.1 (lms.mp m).symm)
 have hno := rest_get (L := L) (own := [(dj, dictOf [] 0)]) hno (nw _ (.head _)).2.1 (fun m => nd.1.1 (lms.mp m))
 unfold Mine.rest at hib hno
 have Bg := B.keeps kg
 generalize hideL _ _ = g at S kg hib hno Bg
 clear nw nd
 have kS := S.keep
 with_reducible refine wec ?_
 refine wpAny_For ?_
 refine callTyp e S (i := 1) rfl (gl_range Bg) ?_
 with_reducible refine it_Name (ld e S (i := 1) rfl rfl (it_Name (ld e S (i := 2) rfl rfl (it_nil (call_range_2 ?_)))))
 refine loop_rngT (a := z1) (b := z2) hh S (Keeps.push _ _) rfl rfl (by rw [Heap.size_push]; exact Nat.le_succ _) (IsRange.new _ _ _ _ _ _ _) (nlt q12 (nlt q2 hza)) (nlt q2 hza)
  (fun j vs own _ => OutP w la lb d ib no z1 z2 z3 z4 (flmN (za.map kd) (zb.map kd) z1 z3 z4 j) vs own) (fun _ _ _ _ _ h _ => h) (show OutP w la lb d ib no z1 z2 z3 z4 ((z1, z3, 0), none) _ _ from .mk ⟨⟨t1, rfl⟩, ⟨t2, rfl⟩, ⟨t3, rfl⟩, ⟨t4, rfl⟩, rfl, rfl, rfl, rfl, rfl, rfl⟩ ⟨⟨_, rfl⟩, ⟨_, rfl⟩, ⟨_, rfl⟩⟩ rfl (MapO.empty w) (fun _ => rfl) h3) (fun R wr g' j vs own s' t kg' hw hj J S k => ?_) fun g' vs own s' kg' J S => ?_
 ·cases J with | mk F G a12 mo em h3 =>
  refine st_ e S (i := 14) rfl (F.len ▸ nlo rfl) fun s' S => ?_
  exact flm_turn (js := js) (ub := ub) (zb := zb) e hh hu (Bg.keeps kg') (hla.keeps (kg.trans kg')) (Ta.keeps (kg.trans kg')) (hb2.keeps (kg.trans kg')) ⟨_, kg' _ _ hno⟩ (nll (Nat.add_lt_of_lt_sub' hj) q2) hza S (F.set (by decide) rfl) ⟨G.v9.ne, G.v10.ne, G.v11.ne⟩ a12.ne ⟨t, At.eq (F.len ▸ nlo rfl)⟩ mo em h3 (fun j' => kNext_fit j') fun s' vs' own' S' O => k vs' own' s' S' O
 cases J with | mk F G a12 mo em h3 =>
 have kk := kg.trans kg'
 have G : FB vs (flm (za.map kd) (zb.map kd) z1 z2 z3 z4) := G
 obtain ⟨oq1, oq2, om1, om2⟩ := ok
 generalize flm (za.map kd) (zb.map kd) z1 z2 z3 z4 = b at G hret oq1 oq2 om1 om2
 have F : FlmV g' vs la lb ib js z1 z2 z3 z4 b.1 b.2.1 b.2.2 ua ub za zb led :=
  ⟨F.v1, F.v2, F.v3, F.v4, F.v5, F.v6, F.v8, G.v9, G.v10, G.v11, hla.keeps kk, Ta.keeps kk, hza, hlb.keeps kk, Tb.keeps kk, hzb, kg' _ _ hib, kk _ _ hjs, llm (as := za) kd ▸ oq1, llm (as := zb) kd ▸ oq2, q2, q4,
   fun a1 a2 y z hy hz q => om1 a1 a2 (by rw [mapkd hy, mapkd hz, q]), fun a1 a2 y z hy hz q => om2 a1 a2 (by rw [mapkd hy, mapkd hz, q])⟩
 refine wec (flm_w1 F e hu S fun s' S => wec (flm_w2 F e hu S fun s' S => wec (flm_w3 F e hu S fun s' S => wec (flm_w4 F e hu S fun s' S => ?_))))
 with_reducible refine wec (wrs ?_)
 have Bg' := Bg.keeps kg'
 refine Ex1 F.v9 fun t5 v9 => ?_
 refine Ex1 F.v10 fun t6 v10 => ?_
 refine Ex1 F.v11 fun t7 v11 => ?_
 refine callCls e Bg' S (i := 2) rfl (gl_match Bg') (keep_135 _) (it_Name (ld e S (i := 9) rfl v9 (it_Name (ld e S (i := 10) rfl v10 (it_Name (ld e S (i := 11) rfl v11 (it_nil ?_)))))))
 refine ⟨S.keep, use S (mt_call (Bg'.keeps S.keep) r1) ?_⟩
 refine fun v s₂ S2 _ => ex2 fun m dx => an3 fun zz1 h1 h2 => ?_
 subst zz1
 exact hret _ _ ⟨_, rfl, kk.trans S2.keep, S2.gens, S2.os, m, dx, t5, t6, t7, rfl, (kk.trans S.keep).none h1, h2⟩
end
end
section
open PySem PySem.W PyProof.Rows
variable {w : World} {A : Around} {E : Value → Shared → Prop} {s₀ s s₁ : Shared} {env : Env} {h₀ : Heap} {L : Addr} {ns gs : List Str} {vs : List (Option Value)} {own : List (Addr × Obj)}
noncomputable def Wk (n : Nat) (lt : Nat → Nat → Bool) {α : Type} : KasT α → (α → Prop) → Prop
 | .ret a, P => P a
 | .ask i j k, P => i < n ∧ j < n ∧ Wk n lt (k (lt i j)) P
theorem Wk.bind {n : Nat} {lt : Nat → Nat → Bool} {α β : Type} {f : α → KasT β} {P : β → Prop} : ∀ {t : KasT α}, Wk n lt t (fun a => Wk n lt (f a) P) → Wk n lt (t.bind f) P
 | .ret a, h => h
 | .ask i j k, ⟨h1, h2, h3⟩ => ⟨h1, h2, Wk.bind h3⟩
theorem Wk.mono {n : Nat} {lt : Nat → Nat → Bool} {α : Type} {P P' : α → Prop} (hp : ∀ a, P a → P' a) : ∀ {t : KasT α}, Wk n lt t P → Wk n lt t P'
 | .ret a, h => hp a h
 | .ask i j k, ⟨h1, h2, h3⟩ => ⟨h1, h2, Wk.mono hp h3⟩
theorem Wk.wp {n : Nat} {lt : Nat → Nat → Bool} {α : Type} {P : α → Prop} {I : Shared → Prop} {cmp : Nat → Nat → (Bool → Shared → Prop) → Shared → Prop} {Q : α → Shared → Prop}
  (hc : ∀ i j C s, i < n → j < n → I s → (∀ s', I s' → C (lt i j) s') → cmp i j C s) (hq : ∀ a s', P a → I s' → Q a s') : ∀ {t : KasT α} {s : Shared}, Wk n lt t P → I s → t.kasWp cmp Q s
 | .ret a, s, h, hI => hq a s h hI
 | .ask i j k, s, ⟨h1, h2, h3⟩, hI => hc i j _ s h1 h2 hI fun s' hI' => Wk.wp hc hq h3 hI'
section
variable {n : Nat} {key : Nat → Int}
noncomputable abbrev ltK (key : Nat → Int) (i j : Nat) : Bool := decide (key i < key j)
def Inj (n : Nat) (key : Nat → Int) : Prop := ∀ i j, i < n → j < n → key i = key j → i = j
def Good (n : Nat) (p : Array Nat) : Prop := p.Perm (List.range n).toArray
noncomputable abbrev K (key : Nat → Int) (p : Array Nat) (x : Nat) : Int := key (p.getD x 0)
theorem Good.size {p : Array Nat} (g : Good n p) : p.size = n := by rw [g.size_eq]; simp
theorem Good.at {p : Array Nat} (g : Good n p) {x : Nat} (h : x < n) : ∃ y, p[x]? = some y ∧ p.getD x 0 = y ∧ y < n := by
 have hx : x < p.size := by rw [g.size]; exact h
 refine ⟨p[x], Array.getElem?_eq_getElem hx, by simp [Array.getD, hx], ?_⟩
 have : p[x] ∈ (List.range n).toArray := g.mem_iff.mp (Array.getElem_mem hx)
 simpa using this
theorem Good.lt {p : Array Nat} (g : Good n p) {x : Nat} (h : x < n) : p.getD x 0 < n := by obtain ⟨y, _, e, hy⟩ := g.at h; rw [e]; exact hy
theorem Good.inj {p : Array Nat} (g : Good n p) {x y : Nat} (hx : x < n) (hy : y < n) (h : p.getD x 0 = p.getD y 0) : x = y := by
 have nd : p.toList.Nodup := by
  have := (Array.perm_iff_toList_perm.mp g).nodup_iff.mpr (by simpa using List.nodup_range)
  exact this
 obtain ⟨a, ha, ea, _⟩ := g.at hx
 obtain ⟨b, hb, eb, _⟩ := g.at hy
 have h1 : p.toList[x]? = some a := by rw [Array.getElem?_toList]; exact ha
 have h2 : p.toList[y]? = some b := by rw [Array.getElem?_toList]; exact hb
 rw [ea, eb] at h
 subst h
 exact (List.getElem?_inj (lt_of_get h1) nd).mp (h1.trans h2.symm)
theorem Good.tri {p : Array Nat} (g : Good n p) (hi : Inj n key) {x y : Nat} (hx : x < n) (hy : y < n) (hne : x ≠ y) (h : ¬ K key p x < K key p y) : K key p y < K key p x := by
 have : K key p x ≠ K key p y := fun q => hne (g.inj hx hy (hi _ _ (g.lt hx) (g.lt hy) q))
 lia
def Asc (key : Nat → Int) (p : Array Nat) (m : Nat) : Prop := ∀ x y, x < y → y < m → K key p x < K key p y
def Dsc (key : Nat → Int) (p : Array Nat) (m : Nat) : Prop := ∀ x y, x < y → y < m → K key p y < K key p x
theorem Asc.snoc {p : Array Nat} {m : Nat} (a : Asc key p m) (h1 : 1 ≤ m) (h : K key p (m - 1) < K key p m) : Asc key p (m + 1) := fun x y hx hy => by
 rcases nlg y m with q | q
 ·exact a x y hx q
 ·have : y = m := by lia
  subst this
  rcases nlg x (y - 1) with r | r
  ·exact Int.lt_trans (a x (y - 1) r (by lia)) h
  ·have : x = y - 1 := by lia
   rw [this]; exact h
theorem Dsc.snoc {p : Array Nat} {m : Nat} (a : Dsc key p m) (h1 : 1 ≤ m) (h : K key p m < K key p (m - 1)) : Dsc key p (m + 1) := fun x y hx hy => by
 rcases nlg y m with q | q
 ·exact a x y hx q
 ·have : y = m := by lia
  subst this
  rcases nlg x (y - 1) with r | r
  ·exact Int.lt_trans h (a x (y - 1) r (by lia))
  ·have : x = y - 1 := by lia
   rw [this]; exact h
theorem asc_ {p : Array Nat} (g : Good n p) (hi : Inj n key) : ∀ f a, 1 ≤ a → a + f ≤ n → Asc key p a → Wk n (ltK key) (kas_asc p f a) fun m => a ≤ m ∧ m ≤ a + f ∧ Asc key p m ∧ (m = a + f ∨ K key p m < K key p (m - 1))
 | 0, a, h1, h2, A => ⟨nlr _, nlr _, A, .inl rfl⟩
 | f + 1, a, h1, h2, A => by
  refine ⟨g.lt (by lia), g.lt (by lia), ?_⟩
  by_cases h : K key p a < K key p (a - 1)
  ·rw [show ltK key (p.getD a 0) (p.getD (a - 1) 0) = true from decide_eq_true h]
   exact ⟨nlr _, nla _ _, A, .inr h⟩
  ·rw [show ltK key (p.getD a 0) (p.getD (a - 1) 0) = false from decide_eq_false h]
   exact (asc_ g hi f (a + 1) (by exact nlt (nlr 1) (Nat.succ_pos a)) (by lia) (A.snoc h1 (g.tri hi (by lia) (by lia) (by lia) h))).mono fun m q => ⟨by lia, by lia, q.2.2.1, q.2.2.2.imp (fun e => by lia) id⟩
theorem desc_ {p : Array Nat} (g : Good n p) (hi : Inj n key) : ∀ f a, 1 ≤ a → a + f ≤ n → Dsc key p a → Wk n (ltK key) (kas_desc f p a 0) fun r => r.1 = p ∧ r.2.2 = 0 ∧ a ≤ r.2.1 ∧ r.2.1 ≤ a + f ∧ Dsc key p r.2.1
 | 0, a, h1, h2, A => ⟨rfl, rfl, nlr _, nlr _, A⟩
 | f + 1, a, h1, h2, A => by
  refine ⟨g.lt (by lia), g.lt (by lia), ?_⟩
  by_cases h : K key p a < K key p (a - 1)
  ·rw [show ltK key (p.getD a 0) (p.getD (a - 1) 0) = true from decide_eq_true h]
   exact (desc_ g hi f (a + 1) (by exact nlt (nlr 1) (Nat.succ_pos a)) (by lia) (A.snoc h1 h)).mono fun m q => ⟨q.1, q.2.1, by lia, by lia, q.2.2.2.2⟩
  ·have h' := g.tri hi (by lia) (by lia) (by lia) h
   rw [show ltK key (p.getD a 0) (p.getD (a - 1) 0) = false from decide_eq_false h]
   refine ⟨g.lt (by lia), g.lt (by lia), ?_⟩
   rw [show ltK key (p.getD (a - 1) 0) (p.getD a 0) = true from decide_eq_true h']
   exact ⟨rfl, rfl, nlr _, nla _ _, A⟩
theorem getD_congr {p q : Array Nat} {x y : Nat} (h : p[x]? = q[y]?) : p.getD x 0 = q.getD y 0 := by rw [Array.getD_eq_getD_getElem?, Array.getD_eq_getD_getElem?, h]
theorem rev_ {p : Array Nat} (g : Good n p) {m : Nat} (hm : m ≤ n) (d : Dsc key p m) : Good n (kas_rev p 0 m) ∧ Asc key (kas_rev p 0 m) m := by
 refine ⟨(mirror_perm _ _ _ _).trans g, fun x y hx hy => ?_⟩
 have e : ∀ k, k < m → (kas_rev p 0 m).getD k 0 = p.getD (0 + m - 1 - k) 0 := fun k hk => by
  have := getElem?_mirror_all (xs := p) (i := 0) (j := m) (by rw [g.size]; exact hm) k
  rw [if_pos ⟨nzl _, hk⟩] at this
  exact getD_congr this
 show key _ < key _
 rw [e x (by exact Nat.lt_trans hx hy), e y hy]
 exact d _ _ (by lia) (by lia)
theorem tail3_ {p : Array Nat} (g : Good n p) (hi : Inj n key) {m : Nat} (h1 : 1 ≤ m) (hm : m ≤ n) (d : Dsc key p m) : Wk n (ltK key) (kas_tail3 m n p) fun r => 1 ≤ r.1 ∧ r.1 ≤ n ∧ Good n r.2 ∧ Asc key r.2 r.1 := by
 obtain ⟨g', a'⟩ := rev_ g hm d
 exact Wk.bind ((asc_ g' hi (n - m) m h1 (by lia) a').mono fun k q => ⟨by lia, by lia, g', q.2.2.1⟩)
theorem descPart_ {p : Array Nat} (g : Good n p) (hi : Inj n key) (hn : 2 ≤ n) (h : K key p 1 < K key p 0) : Wk n (ltK key) (kas_descPart 1 n p) fun r => 1 ≤ r.1 ∧ r.1 ≤ n ∧ Good n r.2 ∧ Asc key r.2 r.1 := by
 refine Wk.bind ((desc_ g hi (n - 2) 2 (by exact nlt (nlr 1) (Nat.succ_pos 1)) (by lia) ?_).mono fun r q => ?_)
 ·intro x y hx hy
  have : x = 0 := by lia
  have : y = 1 := by lia
  subst x y
  exact h
 ·obtain ⟨rp, m, q0⟩ := r
  obtain ⟨e1, e2, h3, h4, d⟩ := q
  dsimp only at e1 e2 h3 h4 d ⊢
  subst e1 e2
  exact tail3_ g hi (by exact nl0 h3) (by lia) d
theorem count_ {p : Array Nat} (g : Good n p) (hi : Inj n key) (hn : 2 ≤ n) : Wk n (ltK key) (kas_count n p) fun r => 1 ≤ r.1 ∧ r.1 ≤ n ∧ Good n r.2 ∧ Asc key r.2 r.1 := by
 refine Wk.bind ((asc_ g hi (n - 1) 1 (nlr _) (by lia) fun x y hx hy => by lia).mono fun m q => ?_)
 obtain ⟨h1, h2, A, h3⟩ := q
 by_cases hm : m = n
 ·rw [if_pos (beq_iff_eq.mpr hm)]
  exact ⟨h1, Nat.le_of_eq hm, g, A⟩
 rw [if_neg (fun q => hm (beq_iff_eq.mp q))]
 have h3 : K key p m < K key p (m - 1) := h3.resolve_left (by lia)
 by_cases h4 : m > 1
 ·rw [if_pos h4]
  refine ⟨g.lt (by exact nl0 hn), g.lt (by lia), ?_⟩
  rw [show ltK key (p.getD 0 0) (p.getD (m - 1) 0) = true from decide_eq_true (A 0 (m - 1) (by lia) (by lia))]
  exact ⟨h1, by lia, g, A⟩
 ·rw [if_neg h4]
  have : m = 1 := by lia
  subst this
  exact descPart_ g hi hn h3
theorem place_ {p : Array Nat} (g : Good n p) (hi : Inj n key) {k : Nat} (hk : k < n) (A : Asc key p k) : ∀ f l r, l ≤ r → r ≤ k → r - l ≤ f → (∀ x, x < l → K key p x < K key p k) → (∀ x, r ≤ x → x < k → K key p k < K key p x) →
  Wk n (ltK key) (kas_place p k f l r) fun m => m ≤ k ∧ (∀ x, x < m → K key p x < K key p k) ∧ ∀ x, m ≤ x → x < k → K key p k < K key p x
 | 0, l, r, h1, h2, h3, h4, h5 => by
  have : l = r := by lia
  subst this
  exact ⟨h2, h4, h5⟩
 | f + 1, l, r, h1, h2, h3, h4, h5 => by
  unfold kas_place
  by_cases q : l ≥ r
  ·rw [if_pos q]
   have : l = r := by lia
   subst this
   exact ⟨h2, h4, h5⟩
  rw [if_neg q]
  refine ⟨g.lt hk, g.lt (by lia), ?_⟩
  have hm1 : l ≤ (l + r) / 2 := by lia
  have hm2 : (l + r) / 2 < r := by lia
  generalize (l + r) / 2 = mid at hm1 hm2
  by_cases h : K key p k < K key p mid
  ·rw [show ltK key (p.getD k 0) (p.getD mid 0) = true from decide_eq_true h]
   refine place_ g hi hk A f l mid hm1 (by lia) (by lia) h4 fun x hx hxk => ?_
   rcases nlg mid x with s | s
   ·exact Int.lt_trans h (A mid x s hxk)
   ·have : x = mid := by lia
    rw [this]; exact h
  ·have h' := g.tri hi hk (by lia) (by exact Nat.ne_of_gt (nll hm2 h2)) h
   rw [show ltK key (p.getD k 0) (p.getD mid 0) = false from decide_eq_false h]
   refine place_ g hi hk A f (mid + 1) r (by assumption) h2 (by lia) (fun x hx => ?_) h5
   rcases nlg x mid with s | s
   ·exact Int.lt_trans (A x mid s (by exact nll hm2 h2)) h'
   ·have : x = mid := by lia
    rw [this]; exact h'
theorem bub_ {p : Array Nat} (g : Good n p) {k m : Nat} (hk : k < n) (hm : m ≤ k) (A : Asc key p k) (h1 : ∀ x, x < m → K key p x < K key p k) (h2 : ∀ x, m ≤ x → x < k → K key p k < K key p x) : Good n (bubble p k (k - m)) ∧ Asc key (bubble p k (k - m)) (k + 1) := by
 refine ⟨(bubble_perm _ _ _).trans g, fun x y hx hy => ?_⟩
 have e : ∀ z, z ≤ k → (bubble p k (k - m)).getD z 0 = if z < m then p.getD z 0 else if z = m then p.getD k 0 else p.getD (z - 1) 0 := fun z hz => by
  have := getElem?_bubble (xs := p) (src := k) (by rw [g.size]; exact hk) (k - m) (by exact nlt (Nat.sub_le k m) Nat.le.refl) z
  rw [show k - (k - m) = m by lia] at this
  by_cases q : z = m
  ·rw [if_pos q] at this
   rw [if_neg (by lia), if_pos q]
   exact getD_congr this
  ·rw [if_neg q] at this
   rcases nlg z m with s | s
   ·rw [if_neg (by lia)] at this
    rw [if_pos s]
    exact getD_congr this
   ·rw [if_pos (by lia)] at this
    rw [if_neg (by lia), if_neg q]
    exact getD_congr this
 show key _ < key _
 rw [e x (by lia), e y (by exact Nat.le_of_lt_succ hy)]
 by_cases q1 : y < m
 ·rw [if_pos (by exact Nat.lt_trans hx q1), if_pos q1]; exact A x y hx (by exact nll q1 hm)
 rw [if_neg q1]
 by_cases q2 : y = m
 ·rw [if_pos q2, if_pos (by lia)]; exact h1 x (by lia)
 rw [if_neg q2]
 by_cases q3 : x < m
 ·rw [if_pos q3]; exact A x (y - 1) (by lia) (by lia)
 rw [if_neg q3]
 by_cases q4 : x = m
 ·rw [if_pos q4]; exact h2 _ (by lia) (by lia)
 rw [if_neg q4]
 exact A (x - 1) (y - 1) (by lia) (by lia)
theorem bin_ (hi : Inj n key) : ∀ f {p : Array Nat} k, Good n p → k + f ≤ n → Asc key p k → Wk n (ltK key) (kas_bin f p k) fun q => Good n q ∧ Asc key q (k + f)
 | 0, p, k, g, h, A => ⟨g, A⟩
 | f + 1, p, k, g, h, A => by
  refine Wk.bind ((place_ g hi (by lia) A k 0 k (nzl _) (nlr _) (by exact Nat.le.refl) (fun x hx => absurd hx (Nat.not_lt_zero _)) fun x h1 h2 => by lia).mono fun m q => ?_)
  obtain ⟨g', A'⟩ := bub_ g (by lia) q.1 A q.2.1 q.2.2
  exact (bin_ hi f (k + 1) g' (by lia) A').mono fun q z => ⟨z.1, by rw [show k + (f + 1) = k + 1 + f by lia]; exact z.2⟩
theorem sorts (hi : Inj n key) (hn : 2 ≤ n) : Wk n (ltK key) (kas_sort n) fun p => Good n p ∧ Asc key p n := by
 refine Wk.bind ((count_ (p := (List.range n).toArray) (Array.Perm.refl _) hi hn).mono fun r q => ?_)
 obtain ⟨h1, h2, g, A⟩ := q
 by_cases h : r.1 < n
 ·rw [if_pos h, Nat.max_eq_left h1]
  exact (bin_ hi (n - r.1) r.1 g (by lia) A).mono fun q z => ⟨z.1, by rw [show r.1 + (n - r.1) = n by lia] at z; exact z.2⟩
 ·rw [if_neg h]
  have : r.1 = n := by lia
  exact ⟨g, this ▸ A⟩
end
end
section
open PySem PySem.W PyProof.Rows PySem.SeqAt
variable {w : World} {A : Around} {E : Value → Shared → Prop} {s₀ s s₁ : Shared} {env : Env} {h₀ : Heap} {L : Addr} {ns gs : List Str} {vs : List (Option Value)} {own : List (Addr × Obj)}
theorem ml_find (P : Params) : findIn (KF P) (.ref 135) "__len__" = some (some (.builtin "tuple.__len__")) := by kernel_rfl
theorem tl_kind : builtinKind "tuple.__len__" = some .slot := by decide +kernel
theorem tl_split : splitId "tuple.__len__" = some ("tuple", "__len__") := by decide +kernel
theorem len_mt {m dx : Addr} {xs : List Value} {Q : Value → Shared → Prop} (B : Base w s.heap) (hm : s.heap.get? m = some ⟨.ref 135, some dx, .seq xs.toArray 0, #[]⟩) (hz : xs.length ≤ 1000) (h : ∀ t n, Q (.int xs.length t) { s with toks := s.toks + n }) :
  wpAny (model pw w) A (call (.builtin "len") [.ref m]) Q E s := by
 have LT : Looks (model pw w) s.heap (typeOf (.ref m)) (.ref 135) := (Looks.ld hm).andThen .now
 have LF := looks_findIn (M := model pw w) B.K (ml_find _)
 have LI : Looks (model pw w) s.heap (isInstance (.ref m) (.type "tuple")) true := LT.andThen (looks_subIn B.K (sub_135 _))
 refine Calls.call_function_entry kind_len plain_len entry_len (args_len1 _) ?_
 unfold Builtin.«len»
 refine wb (wpp ?_)
 refine wb ?_
 unfold callSpecial? specialOf
 refine wb (wb (LT.here (LF.here ?_)))
 dsimp only
 refine whh ?_
 rw [PySem.F.slot_tuple_len.bind]
 refine wb (wpp (wb (wpAny_call (codeAny_call_builtin PySem.F.slot_tuple_len.plain PySem.F.entry_tuple_len (check_slot (i := "tuple.__len__") (owner := "tuple") (n := "__len__") tl_kind tl_split LI (PySem.F.args_tuple_len_1 _) ?_)))))
 show wpAny _ _ (Builtin.Tuple.tupleItemsOf (.ref m) >>= _) _ _ s
 refine wb (wpAny_tupleItemsOf hm rfl ?_)
 refine wb (wpAny_mkInt (wpp (wpp ?_)))
 refine wb (whh (wpp ?_))
 refine wb (wpAny_letGo ?_)
 rw [lst]
 rw [if_neg (by lia), if_neg (by lia)]
 exact wb (wpAny_mkInt (wpp ⟨_, rfl, h _ 2⟩))
theorem mt_make {T : Addr} {a b c : Value} (B : Base w s.heap) (r : Room A 1) (hT : s.heap.get? T = some (tupO #[a, b, c])) : codeAny (model pw w) A (.call (.ref 89) ⟨[.ref 135, .ref T], []⟩) (Ret s fun v s' => ∃ m dx, v = .ref m ∧ s.heap.get? m = none ∧ s'.heap.get? m = some (mtO dx a b c)) s := by
 refine call_fR B (is89 B) ok89 r.lt (vals := [.ref 135, .ref T]) (.of_eq (by kernel_rfl)) rfl ?_
 intro env L s' Q hret _ e S
 conv in (fnB _) => whnf
 with_reducible refine wec ?_
 refine we (wcs ?_) e.inter
 have S := S.same (s' := { s' with toks := s'.toks + 1 }) rfl rfl rfl
 with_reducible refine wec ?_
 refine waa (methodCall_KW (ldg e S (i := 0) rfl (gl_tuple B) (tn_attr ?_)) (by rfl))
 have S := S.same (s' := { s' with toks := s'.toks + 1 + 1 }) rfl rfl rfl
 refine ccb rfl (cep ?_)
 refine it_Name (ld e S (i := 0) rfl rfl (it_Name (ld e S (i := 1) rfl rfl (it_nil ?_))))
 refine call_tnew (xs := [a, b, c]) (B.keeps S.keep) (S.keep _ _ hT) (by simp) fun s₂ m dx k h1 h2 h3 h4 h5 => ?_
 have hf := S.keep.none h1
 have S := S.made h1 k h3 h4 h5
 refine st_ e S (i := 2) rfl (nlo rfl) fun s' S => ?_
 with_reducible refine wec ?_
 refine ifc (callBlt e S (i := 1) rfl (gl_len B) (it_Name (ld e S (i := 2) rfl rfl (it_nil (len_mt (B.keeps S.keep) (S.get (j := 0) rfl) (by simp) fun t n => ?_)))))
 have S := S.same (s' := { s' with toks := s'.toks + n }) rfl rfl rfl
 refine cint S fun t s' S => P.ne_int ⟨_, rfl, fun q => (nomatch q), fun _ => wen ?_⟩
 with_reducible refine wec (wrs ?_)
 refine ld e S (i := 2) rfl rfl ?_
 exact hret _ _ ⟨_, rfl, S.keep, S.gens, S.os, m, dx, rfl, hf, S.get (j := 0) rfl⟩
end
section
open PySem PySem.W PyProof.Rows
structure Com (A B : List Int) (x y k : Nat) : Prop where
 ha : x + k ≤ A.length
 hb : y + k ≤ B.length
 eq : ∀ t, t < k → A[x + t]? = B[y + t]?
structure Win where
 alo : Nat
 ahi : Nat
 blo : Nat
 bhi : Nat
noncomputable def Win.has (W : Win) (x y k : Nat) : Prop := W.alo ≤ x ∧ x + k ≤ W.ahi ∧ W.blo ≤ y ∧ y + k ≤ W.bhi
variable {A B : List Int} {W : Win}
theorem nodup_inj {l : List Int} (h : l.Nodup) {i j : Nat} (hi : i < l.length) (e : l[i]? = l[j]?) : i = j := (List.getElem?_inj hi h).mp e
theorem Com.short {x y k : Nat} (c : Com A B x y (k + 1)) : Com A B x y k := ⟨by have := c.ha; exact nl0 this, by have := c.hb; exact nl0 this, fun t h => c.eq t (by exact nll h (nla k 1))⟩
theorem Com.long {x y k : Nat} (c : Com A B x y k) (h1 : x + k < A.length) (h2 : y + k < B.length) (h : A[x + k]? = B[y + k]?) : Com A B x y (k + 1) :=
 ⟨h1, h2, fun t ht => by
  rcases Nat.lt_or_eq_of_le (Nat.le_of_lt_succ ht) with q | q
  ·exact c.eq t q
  ·rw [q]; exact h⟩
theorem Com.last {x y k : Nat} (c : Com A B x y (k + 1)) : A[x + k]? = B[y + k]? := c.eq k (nls _)
def EndAt (A B : List Int) (W : Win) (n : Nat) : Option (Nat × Nat) → Prop
 | none => ∀ x y l, x + (l + 1) = n → Com A B x y (l + 1) → ¬ W.has x y (l + 1)
 | some (j, k) => 0 < k ∧ k ≤ n ∧ k ≤ j + 1 ∧ Com A B (n - k) (j + 1 - k) k ∧ W.has (n - k) (j + 1 - k) k ∧ ∀ x y l, x + (l + 1) = n → Com A B x y (l + 1) → W.has x y (l + 1) → y + (l + 1) = j + 1 ∧ l + 1 ≤ k
structure BestAt (A B : List Int) (W : Win) (n : Nat) (b : Nat × Nat × Nat) : Prop where
 zero : b.2.2 = 0 → b.1 = W.alo ∧ b.2.1 = W.blo
 com : 0 < b.2.2 → Com A B b.1 b.2.1 b.2.2 ∧ W.has b.1 b.2.1 b.2.2 ∧ b.1 + b.2.2 ≤ n
 max : ∀ x y l, 0 < l → x + l ≤ n → Com A B x y l → W.has x y l → l < b.2.2 ∨ (l = b.2.2 ∧ b.1 ≤ x)
theorem posOf_some {x : Int} {j : Nat} (hB : B.Nodup) (h : B[j]? = some x) : posOf B x = some j := by
 unfold posOf
 refine Ex1 (List.getElem?_eq_some_iff.mp h) fun hj e => ?_
 refine lfe.mpr ⟨hj, by simp [e], fun i hi => ?_⟩
 simp only [Bool.not_eq_true, beq_eq_false_iff_ne]
 intro q
 have : i = j := nodup_inj hB (by exact Nat.lt_trans hi hj) (by rw [lge (by exact Nat.lt_trans hi hj), h, q])
 exact Nat.ne_of_gt hi (id (Eq.symm this))
theorem getD_at {l : List Int} {i : Nat} (h : i < l.length) : l[i]? = some (l.getD i 0) := by
 rw [lge h, lgg, lge h]; rfl
theorem flmN_spec (hB : B.Nodup) (h2 : W.ahi ≤ A.length) : ∀ n, W.alo + n ≤ W.ahi →
  BestAt A B W (W.alo + n) (flmN A B W.alo W.blo W.bhi n).1 ∧ EndAt A B W (W.alo + n) (flmN A B W.alo W.blo W.bhi n).2
 | 0, _ => by
  refine ⟨⟨fun _ => ⟨rfl, rfl⟩, fun q => absurd q (Nat.lt_irrefl 0), fun x y l h0 h1 c h => ?_⟩, fun x y l h1 c h => ?_⟩
  ·have := h.1; lia
  ·have := h.1; lia
 | n + 1, hn => by
  refine An2 (flmN_spec hB h2 n (by exact nl0 hn)) fun b e => ?_
  show BestAt A B W (W.alo + (n + 1)) (flmStep A B W.blo W.bhi (flmN A B W.alo W.blo W.bhi n) (W.alo + n)).1 ∧ EndAt A B W (W.alo + (n + 1)) (flmStep A B W.blo W.bhi (flmN A B W.alo W.blo W.bhi n) (W.alo + n)).2
  generalize flmN A B W.alo W.blo W.bhi n = st at b e
  obtain ⟨⟨b1, b2, b3⟩, en⟩ := st
  have hA : A[W.alo + n]? = some (A.getD (W.alo + n) 0) := getD_at (by exact nll hn h2)
  have no : (∀ x y l, x + (l + 1) = W.alo + (n + 1) → Com A B x y (l + 1) → ¬ W.has x y (l + 1)) →
    BestAt A B W (W.alo + (n + 1)) (b1, b2, b3) ∧ EndAt A B W (W.alo + (n + 1)) none := fun q =>
   ⟨⟨b.zero, fun h => let ⟨x, y, z⟩ := b.com h; ⟨x, y, nlt z (by exact Nat.le.step Nat.le.refl)⟩, fun x y l h0 h1 c h => by
    rcases Nat.lt_or_eq_of_le h1 with g | g
    ·exact b.max x y l h0 (by exact Nat.le_of_lt_succ g) c h
    ·refine Ex1 (⟨l - 1, by lia⟩ : ∃ m, l = m + 1) fun m zz1 => ?_
     subst zz1
     exact absurd h (q x y m g c)⟩, q⟩
  unfold flmStep
  cases hp : posOf B (A.getD (W.alo + n) 0) with
  | none =>
   refine no fun x y l h1 c h => ?_
   have e1 := c.last
   have : x + l = W.alo + n := by lia
   rw [this, hA] at e1
   rw [posOf_some hB e1.symm] at hp; cases hp
  | some j =>
   refine An2 (posOf_lt hp) fun hj ej => ?_
   have uq : ∀ x y l, x + (l + 1) = W.alo + (n + 1) → Com A B x y (l + 1) → y + l = j := fun x y l h1 c => by
    have e1 := c.last
    have : x + l = W.alo + n := by lia
    rw [this, hA, ← ej] at e1
    exact (nodup_inj hB hj e1).symm
   dsimp only
   split
   ·rename_i q
    refine no fun x y l h1 c h => ?_
    have := uq x y l h1 c
    refine An4 h fun w1 w2 w3 w4 => ?_
    lia
   ·rename_i q
    have key : EndAt A B W (W.alo + (n + 1)) (some (j, kNext en j)) := by
     have one : (∀ x y l, x + (l + 1) = W.alo + n → Com A B x y (l + 1) → W.has x y (l + 1) → y + (l + 1) ≠ j) → EndAt A B W (W.alo + (n + 1)) (some (j, 1)) := fun g => by
      refine ⟨Nat.one_pos, by lia, by lia, ⟨by exact nll hn h2, by assumption, fun t ht => ?_⟩, ⟨by exact nlt Nat.le.refl (nla W.alo n), by assumption, by lia, by lia⟩, fun x y l h1 c h => ?_⟩
      ·have : t = 0 := by lia
       subst this
       show A[W.alo + (n + 1) - 1 + 0]? = B[j + 1 - 1 + 0]?
       rw [show W.alo + (n + 1) - 1 + 0 = W.alo + n from by exact Eq.refl (W.alo + (n + 1) - 1 + 0), show j + 1 - 1 + 0 = j from by exact Eq.refl (j + 1 - 1 + 0), hA, ej]
      ·have u := uq x y l h1 c
       refine ⟨by lia, ?_⟩
       cases l with
       | zero => exact nll (nls 0) (nls 0)
       | succ l =>
        refine An4 h fun w1 w2 w3 w4 => ?_
        exact absurd u (g x y l (by lia) c.short ⟨w1, by exact Nat.lt_trans (nls (x.add l)) w2, w3, by exact Nat.lt_trans (nls (y.add l)) w4⟩)
     cases en with
     | none => exact one fun x y l h1 c h => absurd h (e x y l h1 c)
     | some p =>
      obtain ⟨j', k'⟩ := p
      refine An6 e fun e0 e1 e2 e3 e4 e5 => ?_
      by_cases hj' : j' + 1 = j
      ·have : kNext (some (j', k')) j = k' + 1 := by show (if j' + 1 = j then k' else 0) + 1 = _; rw [if_pos hj']
       rw [this]
       refine An4 e4 fun w1 w2 w3 w4 => ?_
       have a1 : W.alo + (n + 1) - (k' + 1) = W.alo + n - k' := by lia
       have a2 : j + 1 - (k' + 1) = j' + 1 - k' := by lia
       refine ⟨by exact nll e0 (nla k' 1), by exact nol e1 (nls (W.alo + n)), by lia, ?_, ?_, fun x y l h1 c h => ?_⟩
       ·rw [a1, a2]
        refine e3.long (by lia) (by lia) ?_
        rw [show W.alo + n - k' + k' = W.alo + n from by lia, show j' + 1 - k' + k' = j from by lia, hA, ej]
       ·rw [a1, a2]; exact ⟨w1, by lia, w3, by lia⟩
       ·have u := uq x y l h1 c
        refine ⟨by lia, ?_⟩
        cases l with
        | zero => exact nll e0 (nla k' 1)
        | succ l =>
         refine An4 h fun v1 v2 v3 v4 => ?_
         have := (e5 x y l (by lia) c.short ⟨v1, by exact Nat.lt_trans (nls (x.add l)) v2, v3, by exact Nat.lt_trans (nls (y.add l)) v4⟩).2
         exact nol this (nls k')
      ·have : kNext (some (j', k')) j = 1 := by show (if j' + 1 = j then k' else 0) + 1 = _; rw [if_neg hj']
       rw [this]
       exact one fun x y l h1 c h g => hj' (by have := (e5 x y l h1 c h).1; lia)
    refine ⟨?_, key⟩
    refine An6 key fun k0 k1 k2 k3 k4 k5 => ?_
    generalize kNext en j = k at k0 k1 k2 k3 k4 k5
    dsimp only
    split
    ·rename_i lt
     refine ⟨fun z => absurd (show k = 0 from z) (by exact Nat.ne_of_gt k0), fun _ => ⟨?_, ?_, ?_⟩, fun x y l h0 h1 c h => ?_⟩
     ·exact k3
     ·exact k4
     ·show W.alo + n + 1 - k + k ≤ _; lia
     ·show l < k ∨ (l = k ∧ W.alo + n + 1 - k ≤ x)
      rcases Nat.lt_or_eq_of_le h1 with g | g
      ·have := b.max x y l h0 (by lia) c h
       dsimp only at this
       lia
      ·refine Ex1 (⟨l - 1, by lia⟩ : ∃ m, l = m + 1) fun m zz1 => ?_
       subst zz1
       have := (k5 x y m g c h).2
       lia
    ·rename_i lt
     refine ⟨b.zero, fun h => let ⟨x, y, z⟩ := b.com h; ⟨x, y, by dsimp only at z ⊢; exact Nat.le.step z⟩, fun x y l h0 h1 c h => ?_⟩
     rcases Nat.lt_or_eq_of_le h1 with g | g
     ·exact b.max x y l h0 (by lia) c h
     ·refine Ex1 (⟨l - 1, by lia⟩ : ∃ m, l = m + 1) fun m zz1 => ?_
      subst zz1
      have := (k5 x y m g c h).2
      show m + 1 < b3 ∨ (m + 1 = b3 ∧ b1 ≤ x)
      rcases Nat.lt_or_eq_of_le (show m + 1 ≤ b3 by lia) with u | u
      ·exact .inl u
      ·refine .inr ⟨u, ?_⟩
       have := (b.com (by show 0 < b3; lia)).2.2
       dsimp only at this
       lia
theorem flm_best (hB : B.Nodup) (h2 : W.ahi ≤ A.length) (h1 : W.alo ≤ W.ahi) : BestAt A B W W.ahi (flm A B W.alo W.ahi W.blo W.bhi) := by
 have := (flmN_spec (A := A) (B := B) (W := W) hB h2 (W.ahi - W.alo) (by lia)).1
 rw [show W.alo + (W.ahi - W.alo) = W.ahi from by lia] at this
 exact this
theorem flm_ok (hB : B.Nodup) (h1 : W.alo ≤ W.ahi) (h2 : W.ahi ≤ A.length) (h3 : W.blo ≤ W.bhi) (h4 : W.bhi ≤ B.length) : FlmOk A B W.alo W.ahi W.blo W.bhi := by
 have b := flm_best (A := A) hB h2 h1
 revert b
 have e : FlmOk A B W.alo W.ahi W.blo W.bhi = ((flm A B W.alo W.ahi W.blo W.bhi).1 ≤ A.length ∧ (flm A B W.alo W.ahi W.blo W.bhi).2.1 ≤ B.length ∧
   (W.alo < (flm A B W.alo W.ahi W.blo W.bhi).1 → W.blo < (flm A B W.alo W.ahi W.blo W.bhi).2.1 → A[(flm A B W.alo W.ahi W.blo W.bhi).1 - 1]? ≠ B[(flm A B W.alo W.ahi W.blo W.bhi).2.1 - 1]?) ∧
   ((flm A B W.alo W.ahi W.blo W.bhi).1 + (flm A B W.alo W.ahi W.blo W.bhi).2.2 < W.ahi → (flm A B W.alo W.ahi W.blo W.bhi).2.1 + (flm A B W.alo W.ahi W.blo W.bhi).2.2 < W.bhi → A[(flm A B W.alo W.ahi W.blo W.bhi).1 + (flm A B W.alo W.ahi W.blo W.bhi).2.2]? ≠ B[(flm A B W.alo W.ahi W.blo W.bhi).2.1 + (flm A B W.alo W.ahi W.blo W.bhi).2.2]?)) :=
  propext ⟨fun ⟨a, b, c, d⟩ => ⟨a, b, c, d⟩, fun ⟨a, b, c, d⟩ => ⟨a, b, c, d⟩⟩
 rw [e]
 generalize flm A B W.alo W.ahi W.blo W.bhi = r
 obtain ⟨i, j, k⟩ := r
 intro b
 dsimp only
 rcases Nat.eq_zero_or_pos k with rfl | hk
 ·refine An2 (b.zero rfl) fun z1 z2 => ?_
  dsimp only at z1 z2
  refine ⟨by lia, by lia, fun _ _ => by lia, fun l1 l2 q => ?_⟩
  have := b.max i j 1 (by exact nlt (nlr (Nat.succ 0)) (nlr (Nat.succ 0))) (by assumption) ⟨by exact nll l1 h2, by exact nll l2 h4, fun t ht => by rw [show t = 0 from by lia]; exact q⟩ ⟨by lia, by assumption, by lia, by assumption⟩
  dsimp only at this; lia
 ·refine An3 (b.com hk) fun c zz1 _ => ?_
  refine An4 zz1 fun w1 w2 w3 w4 => ?_
  dsimp only at c w1 w2 w3 w4
  refine ⟨by lia, by lia, fun l1 l2 q => ?_, fun l1 l2 q => ?_⟩
  ·have := b.max (i - 1) (j - 1) (k + 1) (by exact nll hk (nla k 1)) (by lia) ⟨by lia, by lia, fun t ht => ?_⟩ ⟨by lia, by lia, by lia, by lia⟩
   ·dsimp only at this; lia
   ·cases t with
    | zero => exact q
    | succ t =>
     rw [show i - 1 + (t + 1) = i + t from by lia, show j - 1 + (t + 1) = j + t from by lia]
     exact c.eq t (by lia)
  ·have := b.max i j (k + 1) (by exact nll hk (nla k 1)) (by assumption) (c.long (by exact nll l1 h2) (by exact nll l2 h4) q) ⟨by assumption, by assumption, by assumption, by assumption⟩
   dsimp only at this; lia
noncomputable abbrev T3 := Nat × Nat × Nat
structure IsRun (A B : List Int) (r : T3) : Prop where
 com : Com A B r.1 r.2.1 r.2.2
 pos : 0 < r.2.2
 left : r.1 = 0 ∨ r.2.1 = 0 ∨ A[r.1 - 1]? ≠ B[r.2.1 - 1]?
 right : r.1 + r.2.2 < A.length → r.2.1 + r.2.2 < B.length → A[r.1 + r.2.2]? ≠ B[r.2.1 + r.2.2]?
variable {A B : List Int} {W : Win}
theorem IsRun.covers {r : T3} (h : IsRun A B r) {t k : Nat} (ht : t ≤ r.2.2) (c : Com A B (r.1 + t) (r.2.1 + t) k) : t + k ≤ r.2.2 := by
 rcases nlg r.2.2 (t + k) with q | q
 ·have e := c.eq (r.2.2 - t) (by lia)
  have a := c.ha
  have b := c.hb
  rw [show r.1 + t + (r.2.2 - t) = r.1 + r.2.2 by lia, show r.2.1 + t + (r.2.2 - t) = r.2.1 + r.2.2 by lia] at e
  exact absurd e (h.right (by lia) (by lia))
 ·exact q
theorem IsRun.diag {r r' : T3} (h : IsRun A B r) (h' : IsRun A B r') {t : Nat} (ht : t < r.2.2) (e1 : r'.1 = r.1 + t) (e2 : r'.2.1 = r.2.1 + t) : r = r' := by
 have t0 : t = 0 := by
  rcases Nat.eq_zero_or_pos t with q | q
  ·exact q
  ·rcases h'.left with l | l | l
   ·lia
   ·lia
   ·have := h.com.eq (t - 1) (by lia)
    rw [show r.1 + (t - 1) = r'.1 - 1 by lia, show r.2.1 + (t - 1) = r'.2.1 - 1 by lia] at this
    exact absurd this l
 subst t0
 have c1 := h.covers (t := 0) (nzl _) (k := r'.2.2) (by rw [← e1, ← e2]; exact h'.com)
 have c2 := h'.covers (t := 0) (nzl _) (k := r.2.2) (by rw [e1, e2]; exact h.com)
 obtain ⟨a, b, c⟩ := r
 obtain ⟨a', b', c'⟩ := r'
 simp only at e1 e2 c1 c2
 rw [Prod.mk.injEq, Prod.mk.injEq]
 exact ⟨e1.symm, e2.symm, by lia⟩
theorem IsRun.meet {r r' : T3} (h : IsRun A B r) (h' : IsRun A B r') {t t' : Nat} (ht : t < r.2.2) (ht' : t' < r'.2.2) (e1 : r.1 + t = r'.1 + t') (e2 : r.2.1 + t = r'.2.1 + t') : r = r' := by
 rcases Nat.le_total t' t with q | q
 ·exact h.diag h' (t := t - t') (by lia) (by lia) (by lia)
 ·exact (h'.diag h (t := t' - t) (by lia) (by lia) (by lia)).symm
theorem IsRun.apart (hA : A.Nodup) (hB : B.Nodup) {r r' : T3} (h : IsRun A B r) (h' : IsRun A B r') (n : r ≠ r') :
  (r.1 + r.2.2 ≤ r'.1 ∨ r'.1 + r'.2.2 ≤ r.1) ∧ (r.2.1 + r.2.2 ≤ r'.2.1 ∨ r'.2.1 + r'.2.2 ≤ r.2.1) := by
 have a := h.com.ha
 have b := h.com.hb
 have a' := h'.com.ha
 have b' := h'.com.hb
 have p := h.pos
 have p' := h'.pos
 constructor
 ·rcases nlg r'.1 (r.1 + r.2.2) with q | q
  ·rcases nlg r.1 (r'.1 + r'.2.2) with q' | q'
   ·refine absurd ?_ n
    have g : ∃ t t', t < r.2.2 ∧ t' < r'.2.2 ∧ r.1 + t = r'.1 + t' := by
     rcases Nat.le_total r.1 r'.1 with z | z
     ·exact ⟨r'.1 - r.1, 0, by lia, by assumption, by lia⟩
     ·exact ⟨0, r.1 - r'.1, by assumption, by lia, by lia⟩
    refine Ex2 g fun t t' => an3 fun l l' e => ?_
    refine h.meet h' l l' e (nodup_inj hB (by lia) ?_)
    rw [← h.com.eq t l, ← h'.com.eq t' l', e]
   ·exact .inr q'
  ·exact .inl q
 ·rcases nlg r'.2.1 (r.2.1 + r.2.2) with q | q
  ·rcases nlg r.2.1 (r'.2.1 + r'.2.2) with q' | q'
   ·refine absurd ?_ n
    have g : ∃ t t', t < r.2.2 ∧ t' < r'.2.2 ∧ r.2.1 + t = r'.2.1 + t' := by
     rcases Nat.le_total r.2.1 r'.2.1 with z | z
     ·exact ⟨r'.2.1 - r.2.1, 0, by lia, by assumption, by lia⟩
     ·exact ⟨0, r.2.1 - r'.2.1, by assumption, by lia, by lia⟩
    refine Ex2 g fun t t' => an3 fun l l' e => ?_
    refine h.meet h' l l' (nodup_inj hA (by lia) ?_) e
    rw [h.com.eq t l, h'.com.eq t' l', e]
   ·exact .inr q'
  ·exact .inl q
noncomputable def cpl : List Int → List Int → Nat
 | a :: l, b :: m => if a = b then cpl l m + 1 else 0
 | _, _ => 0
theorem cpl_le : ∀ l m : List Int, cpl l m ≤ l.length ∧ cpl l m ≤ m.length
 | a :: l, b :: m => by
  have := cpl_le l m
  unfold cpl
  split
  ·simpa using this
  ·exact ⟨nzl _, nzl _⟩
 | [], _ => ⟨nlr _, nzl _⟩
 | _ :: _, [] => ⟨nzl _, nlr _⟩
theorem cpl_eq : ∀ (l m : List Int) (t : Nat), t < cpl l m → l[t]? = m[t]?
 | a :: l, b :: m, t, h => by
  unfold cpl at h
  split at h
  ·rename_i e
   cases t with
   | zero => simp [e]
   | succ t => simpa using cpl_eq l m t (by exact Nat.le_of_lt_succ h)
  ·lia
 | [], _, t, h => absurd h (by unfold cpl; lia)
 | _ :: _, [], t, h => absurd h (by unfold cpl; lia)
theorem cpl_ne : ∀ (l m : List Int), cpl l m < l.length → cpl l m < m.length → l[cpl l m]? ≠ m[cpl l m]?
 | a :: l, b :: m, h1, h2 => by
  unfold cpl at h1 h2 ⊢
  split at h1
  ·rename_i e
   rw [if_pos e] at h2 ⊢
   simpa using cpl_ne l m (by simpa using h1) (by simpa using h2)
  ·rename_i e
   rw [if_neg e]
   simpa using e
 | [], _, h, _ => absurd h (by simp)
 | _ :: _, [], _, h => absurd h (by simp)
noncomputable def runFrom (A B : List Int) (p q : Nat) : T3 := (p, q, cpl (A.drop p) (B.drop q))
theorem runFrom_com (p q : Nat) (hp : p ≤ A.length) (hq : q ≤ B.length) : Com A B p q (cpl (A.drop p) (B.drop q)) := by
 have l := cpl_le (A.drop p) (B.drop q)
 rw [List.length_drop, List.length_drop] at l
 refine ⟨by lia, by lia, fun t ht => ?_⟩
 have := cpl_eq (A.drop p) (B.drop q) t ht
 rwa [lgd, lgd] at this
theorem runFrom_max (p q : Nat) (h1 : p + cpl (A.drop p) (B.drop q) < A.length) (h2 : q + cpl (A.drop p) (B.drop q) < B.length) : A[p + cpl (A.drop p) (B.drop q)]? ≠ B[q + cpl (A.drop p) (B.drop q)]? := by
 have := cpl_ne (A.drop p) (B.drop q) (by rw [List.length_drop]; lia) (by rw [List.length_drop]; lia)
 rwa [lgd, lgd] at this
theorem runFrom_pos {p q : Nat} (hp : p < A.length) (hq : q < B.length) (e : A[p]? = B[q]?) : 0 < cpl (A.drop p) (B.drop q) := by
 rcases Nat.eq_zero_or_pos (cpl (A.drop p) (B.drop q)) with z | z
 ·have := runFrom_max (A := A) (B := B) p q (by lia) (by lia)
  rw [z] at this
  exact absurd e this
 ·exact z
theorem runFrom_run {p q : Nat} (hp : p < A.length) (hq : q < B.length) (e : A[p]? = B[q]?) (l : p = 0 ∨ q = 0 ∨ A[p - 1]? ≠ B[q - 1]?) : IsRun A B (runFrom A B p q) :=
 ⟨runFrom_com p q (nl0 hp) (nl0 hq), runFrom_pos hp hq e, l, runFrom_max p q⟩
theorem run_of (p : Nat) : ∀ q, p < A.length → q < B.length → A[p]? = B[q]? → ∃ r t, IsRun A B r ∧ t < r.2.2 ∧ r.1 + t = p ∧ r.2.1 + t = q := by
 induction p with
 | zero => exact fun q hp hq e => ⟨_, 0, runFrom_run hp hq e (.inl rfl), runFrom_pos hp hq e, rfl, rfl⟩
 | succ p ih =>
  intro q hp hq e
  by_cases l : p + 1 = 0 ∨ q = 0 ∨ A[p + 1 - 1]? ≠ B[q - 1]?
  ·exact ⟨_, 0, runFrom_run hp hq e l, runFrom_pos hp hq e, rfl, rfl⟩
  ·have q0 : 0 < q := by
    rcases Nat.eq_zero_or_pos q with z | z
    ·exact absurd (.inr (.inl z)) l
    ·exact z
   have e' : A[p]? = B[q - 1]? := by
    rcases Decidable.em (A[p]? = B[q - 1]?) with z | z
    ·exact z
    ·exact absurd (.inr (.inr z)) l
   refine Ex2 (ih (q - 1) (by exact nl0 hp) (by lia) e') fun r t => an4 fun h ht e1 e2 => ?_
   have := h.covers (t := t) (nl0 ht) (k := 2) ⟨by lia, by lia, fun u hu => by
    rw [e1, e2]
    rcases Nat.eq_zero_or_pos u with z | z
    ·rw [z]; exact e'
    ·rw [show u = 1 by lia, show q - 1 + 1 = q by lia]; exact e⟩
   exact ⟨r, t + 1, h, by assumption, by lia, by lia⟩
def better (r r' : T3) : Prop := r'.2.2 < r.2.2 ∨ (r.2.2 = r'.2.2 ∧ r.1 < r'.1)
noncomputable def crossB (r k : T3) : Bool := decide (k.1 < r.1) != decide (k.2.1 < r.2.1)
noncomputable def keepG (kept : List T3) (r : T3) : List T3 := if kept.any (crossB r) then kept else kept ++ [r]
noncomputable def Gr (kept S : List T3) : List T3 := S.foldl keepG kept
noncomputable def Lf (r x : T3) : Bool := decide (x.1 < r.1) && decide (x.2.1 < r.2.1)
noncomputable def Rt (r x : T3) : Bool := decide (r.1 < x.1) && decide (r.2.1 < x.2.1)
theorem Lf_iff {r x : T3} : Lf r x = true ↔ x.1 < r.1 ∧ x.2.1 < r.2.1 := by unfold Lf; rw [Bool.and_eq_true, decide_eq_true_eq, decide_eq_true_eq]
theorem Rt_iff {r x : T3} : Rt r x = true ↔ r.1 < x.1 ∧ r.2.1 < x.2.1 := by unfold Rt; rw [Bool.and_eq_true, decide_eq_true_eq, decide_eq_true_eq]
theorem cross_iff {r k : T3} : crossB r k = false ↔ (k.1 < r.1 ↔ k.2.1 < r.2.1) := by unfold crossB; rw [bne_eq_false_iff_eq, decide_eq_decide]
theorem any_none {l : List T3} {p : T3 → Bool} (h : ∀ x ∈ l, p x = false) : l.any p = false := by
 rw [← Bool.not_eq_true, List.any_eq_true]; (refine ex1 fun x => an2 fun hx q => ?_); rw [h x hx] at q; cases q
theorem fold_split (r : T3) : ∀ (S kept KL KR : List T3), kept.Perm (r :: (KL ++ KR)) → (∀ x ∈ KL, Lf r x = true) → (∀ x ∈ KR, Rt r x = true) → (∀ x ∈ S, x.1 ≠ r.1 ∧ x.2.1 ≠ r.2.1) →
  (Gr kept S).Perm (r :: (Gr KL (S.filter (Lf r)) ++ Gr KR (S.filter (Rt r))))
 | [], kept, KL, KR, hp, _, _, _ => hp
 | x :: S, kept, KL, KR, hp, hl, hr, hs => by
  have hs' := fun y hy => hs y (lom _ hy)
  have hx := hs x (lcs ..)
  have hany : kept.any (crossB x) = (crossB x r || (KL.any (crossB x) || KR.any (crossB x))) := by
   rw [← List.any_append, ← List.any_cons]
   exact hp.any_eq
  show (Gr (keepG kept x) S).Perm _
  cases ql : Lf r x with
  | true =>
   have l := Lf_iff.mp ql
   have qr : Rt r x = false := by rw [← Bool.not_eq_true, Rt_iff]; lia
   rw [List.filter_cons_of_pos ql, lfc (by rw [qr]; exact bfn)]
   show (Gr (keepG kept x) S).Perm (r :: (Gr (keepG KL x) (S.filter (Lf r)) ++ Gr KR (S.filter (Rt r))))
   have e1 : crossB x r = false := cross_iff.mpr (by lia)
   have e2 : KR.any (crossB x) = false := any_none fun y hy => by
    have := Rt_iff.mp (hr y hy)
    exact cross_iff.mpr (by lia)
   rw [e1, e2, Bool.false_or, Bool.or_false] at hany
   unfold keepG
   rw [hany]
   cases KL.any (crossB x) with
   | true => exact fold_split r S _ _ _ hp hl hr hs'
   | false =>
    refine fold_split r S _ _ _ ?_ ?_ hr hs'
    ·refine (hp.append_right [x]).trans ?_
     show (r :: ((KL ++ KR) ++ [x])).Perm (r :: ((KL ++ [x]) ++ KR))
     refine List.Perm.cons _ ?_
     rw [laa, laa]
     exact (List.perm_append_comm).append_left _
    ·intro y hy
     rcases lmp.mp hy with h | h
     ·exact hl y h
     ·rw [lms.mp h]; exact ql
  | false =>
   cases qr : Rt r x with
   | true =>
    have l := Rt_iff.mp qr
    rw [lfc (by rw [ql]; exact bfn), List.filter_cons_of_pos qr]
    show (Gr (keepG kept x) S).Perm (r :: (Gr KL (S.filter (Lf r)) ++ Gr (keepG KR x) (S.filter (Rt r))))
    have e1 : crossB x r = false := cross_iff.mpr (by lia)
    have e2 : KL.any (crossB x) = false := any_none fun y hy => by
     have := Lf_iff.mp (hl y hy)
     exact cross_iff.mpr (by lia)
    rw [e1, e2, Bool.false_or, Bool.false_or] at hany
    unfold keepG
    rw [hany]
    cases KR.any (crossB x) with
    | true => exact fold_split r S _ _ _ hp hl hr hs'
    | false =>
     refine fold_split r S _ _ _ ?_ hl ?_ hs'
     ·refine (hp.append_right [x]).trans ?_
      show (r :: ((KL ++ KR) ++ [x])).Perm (r :: (KL ++ (KR ++ [x])))
      rw [laa]
     ·intro y hy
      rcases lmp.mp hy with h | h
      ·exact hr y h
      ·rw [lms.mp h]; exact qr
   | false =>
    rw [lfc (by rw [ql]; exact bfn), lfc (by rw [qr]; exact bfn)]
    have e1 : crossB x r = true := by
     rw [← Bool.not_eq_false, cross_iff]
     have l1 : ¬ (x.1 < r.1 ∧ x.2.1 < r.2.1) := fun q => by rw [Lf_iff.mpr q] at ql; cases ql
     have l2 : ¬ (r.1 < x.1 ∧ r.2.1 < x.2.1) := fun q => by rw [Rt_iff.mpr q] at qr; cases qr
     omega
    rw [e1, Bool.true_or] at hany
    unfold keepG
    rw [hany]
    exact fold_split r S _ _ _ hp hl hr hs'
noncomputable def Win.hasB (W : Win) (r : T3) : Bool := decide (W.alo ≤ r.1 ∧ r.1 + r.2.2 ≤ W.ahi ∧ W.blo ≤ r.2.1 ∧ r.2.1 + r.2.2 ≤ W.bhi)
theorem hasB_iff {W : Win} {r : T3} : W.hasB r = true ↔ W.has r.1 r.2.1 r.2.2 := by unfold Win.hasB; rw [decide_eq_true_eq]; exact Iff.rfl
noncomputable def WL (W : Win) (r : T3) : Win := ⟨W.alo, r.1, W.blo, r.2.1⟩
noncomputable def WR (W : Win) (r : T3) : Win := ⟨r.1 + r.2.2, W.ahi, r.2.1 + r.2.2, W.bhi⟩
noncomputable def goL (W : Win) (r : T3) : Bool := decide (W.alo < r.1) && decide (W.blo < r.2.1)
noncomputable def goR (W : Win) (r : T3) : Bool := decide (r.1 + r.2.2 < W.ahi) && decide (r.2.1 + r.2.2 < W.bhi)
noncomputable def subs (W : Win) (r : T3) : List Win := (if goL W r then [WL W r] else []) ++ (if goR W r then [WR W r] else [])
structure WOk (A B : List Int) (W : Win) : Prop where
 a1 : W.alo ≤ W.ahi
 a2 : W.ahi ≤ A.length
 b1 : W.blo ≤ W.bhi
 b2 : W.bhi ≤ B.length
 closed : ∀ r, IsRun A B r → ∀ t, t < r.2.2 → W.has (r.1 + t) (r.2.1 + t) 1 → W.has r.1 r.2.1 r.2.2
structure Sorted (A B : List Int) (S : List T3) : Prop where
 mem : ∀ r, r ∈ S ↔ IsRun A B r
 ord : S.Pairwise better
noncomputable def gr (S : List T3) (W : Win) : List T3 := Gr [] (S.filter W.hasB)
variable {A B : List Int} {W : Win} {S : List T3}
theorem flm_run (hA : A.Nodup) (hB : B.Nodup) (ok : WOk A B W) (hk : 0 < (flm A B W.alo W.ahi W.blo W.bhi).2.2) : IsRun A B (flm A B W.alo W.ahi W.blo W.bhi) ∧ W.has (flm A B W.alo W.ahi W.blo W.bhi).1 (flm A B W.alo W.ahi W.blo W.bhi).2.1 (flm A B W.alo W.ahi W.blo W.bhi).2.2 := by
 have b := flm_best (A := A) hB ok.a2 ok.a1
 revert b hk
 generalize flm A B W.alo W.ahi W.blo W.bhi = m
 intro hk b
 refine An3 (b.com hk) fun c h _ => ?_
 have ca := c.ha
 have cb := c.hb
 have h' := h
 refine An4 h' fun w1 w2 w3 w4 => ?_
 refine Ex2 (run_of m.1 m.2.1 (by exact nll (Nat.lt_add_of_pos_right hk) ca) (by exact nll (Nat.lt_add_of_pos_right hk) cb) (c.eq 0 hk)) fun r t => an4 fun hr ht e1 e2 => ?_
 have hw := ok.closed r hr t ht (by rw [e1, e2]; exact ⟨w1, by lia, w3, by exact nll (Nat.lt_add_of_pos_right hk) w4⟩)
 have hw' := hw
 refine An4 hw' fun v1 v2 v3 v4 => ?_
 have cov := hr.covers (t := t) (nl0 ht) (k := m.2.2) (by rw [e1, e2]; exact c)
 have mx := b.max r.1 r.2.1 r.2.2 hr.pos (by assumption) hr.com hw
 have : r = m := by
  obtain ⟨a, b, d⟩ := r
  obtain ⟨a', b', d'⟩ := m
  dsimp only at *
  rw [Prod.mk.injEq, Prod.mk.injEq]
  exact ⟨by lia, by lia, by lia⟩
 exact ⟨this ▸ hr, h⟩
theorem has_left (hA : A.Nodup) (hB : B.Nodup) {r : T3} (hr : IsRun A B r) (hw : W.has r.1 r.2.1 r.2.2) {x : T3} (hx : IsRun A B x) : (WL W r).hasB x = (Lf r x && W.hasB x) := by
 refine An4 hw fun w1 w2 w3 w4 => ?_
 have p := hr.pos
 have px := hx.pos
 rw [bei, Bool.and_eq_true, hasB_iff, hasB_iff, Lf_iff]
 constructor
 ·refine an4 fun v1 v2 v3 v4 => ?_
  simp only [WL] at v1 v2 v3 v4
  exact ⟨by lia, by assumption, by lia, by assumption, by lia⟩
 ·refine an5 fun zz1 v1 v2 v3 v4 => ?_
  refine An2 zz1 fun l1 l2 => ?_
  have ap := hr.apart hA hB hx (fun q => by rw [q] at l1; exact Nat.lt_irrefl x.fst l1)
  exact ⟨v1, by show x.1 + x.2.2 ≤ r.1; lia, v3, by show x.2.1 + x.2.2 ≤ r.2.1; lia⟩
theorem has_right (hA : A.Nodup) (hB : B.Nodup) {r : T3} (hr : IsRun A B r) (hw : W.has r.1 r.2.1 r.2.2) {x : T3} (hx : IsRun A B x) : (WR W r).hasB x = (Rt r x && W.hasB x) := by
 refine An4 hw fun w1 w2 w3 w4 => ?_
 have p := hr.pos
 have px := hx.pos
 rw [bei, Bool.and_eq_true, hasB_iff, hasB_iff, Rt_iff]
 constructor
 ·refine an4 fun v1 v2 v3 v4 => ?_
  simp only [WR] at v1 v2 v3 v4
  exact ⟨by lia, by lia, by assumption, by lia, by assumption⟩
 ·refine an5 fun zz1 v1 v2 v3 v4 => ?_
  refine An2 zz1 fun l1 l2 => ?_
  have ap := hr.apart hA hB hx (fun q => by rw [q] at l1; exact Nat.lt_irrefl x.fst l1)
  exact ⟨by show r.1 + r.2.2 ≤ x.1; lia, v2, by show r.2.1 + r.2.2 ≤ x.2.1; lia, v4⟩
theorem ok_left (hA : A.Nodup) (hB : B.Nodup) (ok : WOk A B W) {r : T3} (hr : IsRun A B r) (hw : W.has r.1 r.2.1 r.2.2) : WOk A B (WL W r) := by
 have hw' := hw
 refine An4 hw' fun w1 w2 w3 w4 => ?_
 have p := hr.pos
 have := ok.a2
 have := ok.b2
 refine ⟨w1, by show r.1 ≤ _; lia, w3, by show r.2.1 ≤ _; lia, fun x hx t ht h => ?_⟩
 refine An4 h fun v1 v2 v3 v4 => ?_
 simp only [WL] at v1 v2 v3 v4
 refine An4 (ok.closed x hx t ht ⟨v1, by lia, v3, by lia⟩) fun u1 u2 u3 u4 => ?_
 have ap := hr.apart hA hB hx (fun q => by rw [← q] at v2; lia)
 exact ⟨u1, by show x.1 + x.2.2 ≤ r.1; lia, u3, by show x.2.1 + x.2.2 ≤ r.2.1; lia⟩
theorem ok_right (hA : A.Nodup) (hB : B.Nodup) (ok : WOk A B W) {r : T3} (hr : IsRun A B r) (hw : W.has r.1 r.2.1 r.2.2) : WOk A B (WR W r) := by
 have hw' := hw
 refine An4 hw' fun w1 w2 w3 w4 => ?_
 have p := hr.pos
 refine ⟨w2, ok.a2, w4, ok.b2, fun x hx t ht h => ?_⟩
 refine An4 h fun v1 v2 v3 v4 => ?_
 simp only [WR] at v1 v2 v3 v4
 refine An4 (ok.closed x hx t ht ⟨by lia, v2, by lia, v4⟩) fun u1 u2 u3 u4 => ?_
 have ap := hr.apart hA hB hx (fun q => by rw [← q] at v1 ht; lia)
 exact ⟨by show r.1 + r.2.2 ≤ x.1; lia, u2, by show r.2.1 + r.2.2 ≤ x.2.1; lia, u4⟩
theorem gr_nil (h : ∀ x ∈ S, W.hasB x = false) : gr S W = [] := by
 unfold gr
 rw [List.filter_eq_nil_iff.mpr fun x hx => by rw [h x hx]; exact bfn]
 rfl
theorem subs_gr (hs : Sorted A B S) {r : T3} (hr : IsRun A B r) : (subs W r).flatMap (gr S) = gr S (WL W r) ++ gr S (WR W r) := by
 have e1 : goL W r = false → gr S (WL W r) = [] := fun q => gr_nil fun x hx => by
  have px := ((hs.mem x).mp hx).pos
  unfold goL at q
  rw [← Bool.not_eq_true, hasB_iff]
  refine an4 fun v1 v2 v3 v4 => ?_
  simp only [WL] at v1 v2 v3 v4
  rw [decide_eq_true (by lia), decide_eq_true (by lia)] at q
  cases q
 have e2 : goR W r = false → gr S (WR W r) = [] := fun q => gr_nil fun x hx => by
  have px := ((hs.mem x).mp hx).pos
  unfold goR at q
  rw [← Bool.not_eq_true, hasB_iff]
  refine an4 fun v1 v2 v3 v4 => ?_
  simp only [WR] at v1 v2 v3 v4
  rw [decide_eq_true (by lia), decide_eq_true (by lia)] at q
  cases q
 unfold subs
 rw [List.flatMap_append]
 congr 1
 ·cases q : goL W r with
  | true => simp
  | false => rw [e1 q]; rfl
 ·cases q : goR W r with
  | true => simp
  | false => rw [e2 q]; rfl
theorem gr_step (hA : A.Nodup) (hB : B.Nodup) (hs : Sorted A B S) (ok : WOk A B W) (hk : 0 < (flm A B W.alo W.ahi W.blo W.bhi).2.2) :
  (gr S W).Perm (flm A B W.alo W.ahi W.blo W.bhi :: (subs W (flm A B W.alo W.ahi W.blo W.bhi)).flatMap (gr S)) := by
 refine An2 (flm_run hA hB ok hk) fun hr hw => ?_
 have b := flm_best (A := A) hB ok.a2 ok.a1
 generalize flm A B W.alo W.ahi W.blo W.bhi = r at b hr hw
 rw [subs_gr hs hr]
 have hm : r ∈ S.filter W.hasB := lmf.mpr ⟨(hs.mem r).mpr hr, hasB_iff.mpr hw⟩
 have hord : (S.filter W.hasB).Pairwise better := hs.ord.sublist List.filter_sublist
 have hall : ∀ x ∈ S.filter W.hasB, IsRun A B x ∧ W.has x.1 x.2.1 x.2.2 := fun x hx => ⟨(hs.mem x).mp (lmf.mp hx).1, hasB_iff.mp (lmf.mp hx).2⟩
 have el : gr S (WL W r) = Gr [] ((S.filter W.hasB).filter (Lf r)) := by
  unfold gr
  rw [List.filter_filter]
  exact congrArg _ (List.filter_congr fun x hx => has_left hA hB hr hw ((hs.mem x).mp hx))
 have er : gr S (WR W r) = Gr [] ((S.filter W.hasB).filter (Rt r)) := by
  unfold gr
  rw [List.filter_filter]
  exact congrArg _ (List.filter_congr fun x hx => has_right hA hB hr hw ((hs.mem x).mp hx))
 rw [el, er]
 unfold gr
 cases hS : S.filter W.hasB with
 | nil => rw [hS] at hm; cases hm
 | cons y S' =>
  rw [hS] at hm hord hall
  have hy : y = r := by
   rcases lmc.mp hm with q | q
   ·exact q.symm
   ·have g := List.rel_of_pairwise_cons hord q
    refine An2 (hall y (lcs ..)) fun y1 y2 => ?_
    have mx := b.max y.1 y.2.1 y.2.2 y1.pos y2.2.1 y1.com y2
    unfold better at g
    lia
  subst hy
  have l0 : Lf y y = false := by rw [← Bool.not_eq_true, Lf_iff]; lia
  have r0 : Rt y y = false := by rw [← Bool.not_eq_true, Rt_iff]; lia
  rw [lfc (by rw [l0]; exact bfn), lfc (by rw [r0]; exact bfn)]
  refine fold_split y S' [y] [] [] (List.Perm.refl _) (fun _ h => nomatch h) (fun _ h => nomatch h) fun x hx => ?_
  have g := List.rel_of_pairwise_cons hord hx
  have hx1 := (hall x (lom _ hx)).1
  have ap := hr.apart hA hB hx1 (fun q => by rw [q] at g; unfold better at g; lia)
  have p1 := hr.pos
  have p2 := hx1.pos
  exact ⟨by lia, by lia⟩
theorem gr_zero (hA : A.Nodup) (hB : B.Nodup) (hs : Sorted A B S) (ok : WOk A B W) (hk : (flm A B W.alo W.ahi W.blo W.bhi).2.2 = 0) : gr S W = [] := by
 have b := flm_best (A := A) hB ok.a2 ok.a1
 refine gr_nil fun x hx => ?_
 have r := (hs.mem x).mp hx
 have p := r.pos
 rw [← Bool.not_eq_true, hasB_iff]
 intro h
 have := b.max x.1 x.2.1 x.2.2 r.pos h.2.1 r.com h
 lia
noncomputable def W₀ (A B : List Int) : Win := ⟨0, A.length, 0, B.length⟩
theorem ok_all : WOk A B (W₀ A B) := ⟨nzl _, nlr _, nzl _, nlr _, fun r h t _ _ => ⟨nzl _, h.com.ha, nzl _, h.com.hb⟩⟩
theorem gr_all (hs : Sorted A B S) : gr S (W₀ A B) = Gr [] S := by
 unfold gr
 rw [List.filter_eq_self.mpr fun x hx => hasB_iff.mpr ?_]
 have := ((hs.mem x).mp hx).com
 exact ⟨nzl _, this.ha, nzl _, this.hb⟩
variable {A B : List Int} {S K : List T3}
theorem Gr_mem : ∀ {S kept : List T3} {x : T3}, x ∈ Gr kept S → x ∈ kept ∨ x ∈ S
 | [], kept, x, h => .inl h
 | y :: S, kept, x, h => by
  rcases Gr_mem (S := S) (kept := keepG kept y) h with q | q
  ·unfold keepG at q
   split at q
   ·exact .inl q
   ·rcases lmp.mp q with z | z
    ·exact .inl z
    ·exact .inr (lms.mp z ▸ lcs ..)
  ·exact .inr (lom _ q)
def NC (r r' : T3) : Prop := r.1 < r'.1 ↔ r.2.1 < r'.2.1
theorem Gr_nc (hA : A.Nodup) (hB : B.Nodup) : ∀ {S kept : List T3}, (∀ x ∈ S, IsRun A B x) → (∀ x ∈ kept, IsRun A B x) → S.Pairwise (· ≠ ·) → (∀ x ∈ kept, x ∉ S) → kept.Pairwise (fun r r' => r ≠ r' ∧ NC r r' ∧ NC r' r) → (Gr kept S).Pairwise (fun r r' => r ≠ r' ∧ NC r r' ∧ NC r' r)
 | [], kept, _, _, _, _, h => h
 | y :: S, kept, hs, hk, hp, hd, h => by
  have hp' := List.pairwise_cons.mp hp
  have h1 := fun x hx => hs x (lom _ hx)
  show (Gr (keepG kept y) S).Pairwise _
  cases q : kept.any (crossB y) with
  | true =>
   unfold keepG; rw [q]
   exact Gr_nc hA hB h1 hk hp'.2 (fun x hx m => hd x hx (lom _ m)) h
  | false =>
   unfold keepG; rw [q]
   refine Gr_nc hA hB h1 ?_ hp'.2 ?_ ?_
   ·intro x hx
    rcases lmp.mp hx with z | z
    ·exact hk x z
    ·rw [lms.mp z]; exact hs y (lcs ..)
   ·intro x hx m
    rcases lmp.mp hx with z | z
    ·exact hd x z (lom _ m)
    ·rw [lms.mp z] at m; exact hp'.1 y m rfl
   ·refine List.pairwise_append.mpr ⟨h, List.pairwise_singleton _ _, fun a ha b hb => ?_⟩
    rw [lms.mp hb]
    have ne : a ≠ y := fun e => hd a ha (e ▸ lcs ..)
    have c : crossB y a = false := by
     cases z : crossB y a with
     | false => rfl
     | true => rw [List.any_eq_true.mpr ⟨a, ha, z⟩] at q; cases q
    have c := cross_iff.mp c
    have ra := hk a ha
    have ry := hs y (lcs ..)
    have ap := ra.apart hA hB ry ne
    have p1 := ra.pos
    have p2 := ry.pos
    exact ⟨ne, c, by unfold NC; lia⟩
theorem Gr_self : ∀ {S kept : List T3}, (∀ x ∈ S, ∀ y ∈ kept ++ S, crossB x y = false) → Gr kept S = kept ++ S
 | [], kept, _ => (lan _).symm
 | y :: S, kept, h => by
  show Gr (keepG kept y) S = _
  have : kept.any (crossB y) = false := any_none fun x hx => h y (lcs ..) x (lml _ hx)
  unfold keepG
  rw [this]
  show Gr (kept ++ [y]) S = kept ++ y :: S
  rw [Gr_self (S := S) (kept := kept ++ [y]) fun x hx z hz => h x (lom _ hx) z (by simpa using hz)]
  simp
noncomputable def Chn (A B : List Int) : Nat → Nat → List T3 → Prop
 | i, j, [] => i ≤ A.length ∧ j ≤ B.length
 | i, j, b :: r => (i ≤ b.1 ∧ j ≤ b.2.1) ∧ 0 < b.2.2 ∧ Com A B b.1 b.2.1 b.2.2 ∧ (b.1 = i → b.2.1 = j → i = 0 ∧ j = 0) ∧ Chn A B (b.1 + b.2.2) (b.2.1 + b.2.2) r
structure KeptOk (A B : List Int) (K : List T3) : Prop where
 run : ∀ r ∈ K, IsRun A B r
 ord : K.Pairwise (fun r r' => r.1 < r'.1)
 nc : ∀ r ∈ K, ∀ r' ∈ K, r.1 < r'.1 → r.2.1 < r'.2.1
theorem chn_of (hA : A.Nodup) (hB : B.Nodup) : ∀ {K : List T3} {i j : Nat}, KeptOk A B K → i ≤ A.length → j ≤ B.length → (∀ r ∈ K, (i ≤ r.1 ∧ j ≤ r.2.1) ∧ (r.1 = i → r.2.1 = j → i = 0 ∧ j = 0)) → Chn A B i j K
 | [], i, j, _, hi, hj, _ => ⟨hi, hj⟩
 | b :: K, i, j, h, hi, hj, hr => by
  have hb := h.run b (lcs ..)
  have r0 := hr b (lcs ..)
  have ho := List.pairwise_cons.mp h.ord
  refine ⟨r0.1, hb.pos, hb.com, r0.2, chn_of hA hB ⟨fun r m => h.run r (lom _ m), ho.2, fun r m r' m' => h.nc r (lom _ m) r' (lom _ m')⟩ hb.com.ha hb.com.hb fun r m => ?_⟩
  have g := ho.1 r m
  have g' := h.nc b (lcs ..) r (lom _ m) g
  have hr := h.run r (lom _ m)
  have ap := hb.apart hA hB hr (fun q => by rw [q] at g; exact Nat.lt_irrefl r.fst g)
  have p1 := hb.pos
  have p2 := hr.pos
  refine ⟨⟨by lia, by lia⟩, fun e1 e2 => ?_⟩
  have c := hr.com
  have ca := c.ha
  have cb := c.hb
  have e := c.eq 0 p2
  rw [Nat.add_zero, Nat.add_zero, e1, e2] at e
  exact absurd e (hb.right (by lia) (by lia))
theorem pw_mem {α : Type} {R : α → α → Prop} (hs : ∀ {a b}, R a b → R b a) : ∀ {l : List α}, l.Pairwise R → ∀ {a b}, a ∈ l → b ∈ l → a ≠ b → R a b
 | x :: l, h, a, b, ha, hb, ne => by
  have h' := List.pairwise_cons.mp h
  rcases lmc.mp ha with ea | ha'
  ·rcases lmc.mp hb with eb | hb'
   ·exact absurd (ea.trans eb.symm) ne
   ·exact ea ▸ h'.1 b hb'
  ·rcases lmc.mp hb with eb | hb'
   ·exact eb ▸ hs (h'.1 a ha')
   ·exact pw_mem hs h'.2 ha' hb' ne
theorem kept_ok (hA : A.Nodup) (hB : B.Nodup) (hs : Sorted A B S) (hp : K.Perm (Gr [] S)) (ho : K.Pairwise (fun r r' => r.1 < r'.1)) : KeptOk A B K := by
 have hne : S.Pairwise (· ≠ ·) := hs.ord.imp fun {a b} g q => by rw [q] at g; unfold better at g; lia
 have hnc := Gr_nc (kept := []) hA hB (fun x hx => (hs.mem x).mp hx) (fun _ h => nomatch h) hne (fun _ h => nomatch h) List.Pairwise.nil
 have hsy : ∀ {r r' : T3}, (r ≠ r' ∧ NC r r' ∧ NC r' r) → (r' ≠ r ∧ NC r' r ∧ NC r r') := fun ⟨a, b, c⟩ => ⟨Ne.symm a, c, b⟩
 have hK := hnc.perm hp.symm hsy
 refine ⟨fun r m => ?_, ho, fun r m r' m' g => ?_⟩
 ·rcases Gr_mem (hp.mem_iff.mp m) with q | q
  ·cases q
  ·exact (hs.mem r).mp q
 ·exact ((pw_mem hsy hK m m' fun e => by rw [e] at g; exact Nat.lt_irrefl r'.fst g).2.1).mp g
theorem chn_zero (hA : A.Nodup) (hB : B.Nodup) (h : KeptOk A B K) : Chn A B 0 0 K := chn_of hA hB h (nzl _) (nzl _) fun r _ => ⟨⟨nzl _, nzl _⟩, fun _ _ => ⟨rfl, rfl⟩⟩
noncomputable def mrg : T3 → List T3 → List T3
 | c, [] => if 0 < c.2.2 then [c] else []
 | c, b :: r => if c.1 + c.2.2 = b.1 ∧ c.2.1 + c.2.2 = b.2.1 then mrg (c.1, c.2.1, c.2.2 + b.2.2) r else (if 0 < c.2.2 then [c] else []) ++ mrg b r
theorem mrg_pos : ∀ {K : List T3} {c : T3}, 0 < c.2.2 → Chn A B (c.1 + c.2.2) (c.2.1 + c.2.2) K → mrg c K = c :: K
 | [], c, h, _ => if_pos h
 | b :: K, c, h, ⟨_, h2, h3, h4, h5⟩ => by
  unfold mrg
  rw [if_neg fun q => by have := h4 q.1.symm q.2.symm; lia, if_pos h, mrg_pos h2 h5]
  rfl
theorem mrg_same : ∀ {K : List T3}, Chn A B 0 0 K → mrg (0, 0, 0) K = K
 | [], _ => rfl
 | b :: K, ⟨_, h2, h3, h4, h5⟩ => by
  unfold mrg
  by_cases q : 0 + 0 = b.1 ∧ 0 + 0 = b.2.1
  ·rw [if_pos q]
   have e : ((0 : Nat), (0 : Nat), 0 + b.2.2) = b := by
    obtain ⟨x, y, z⟩ := b
    refine An2 q fun q1 q2 => ?_
    simp only at q1 q2 ⊢
    rw [← q1, ← q2, Nat.zero_add]
   show mrg (0, 0, 0 + b.2.2) K = _
   rw [e, mrg_pos h2 h5]
  ·rw [if_neg q]
   show [] ++ mrg b K = _
   rw [mrg_pos h2 h5]; rfl
inductive Tag | rep | del | ins | eql
 deriving DecidableEq
noncomputable abbrev Code := Tag × Nat × Nat × Nat × Nat
noncomputable def equalC (b : T3) : List Code := if 0 < b.2.2 then [(.eql, b.1, b.1 + b.2.2, b.2.1, b.2.1 + b.2.2)] else []
noncomputable def tagC (i j : Nat) (b : T3) : List Code := if i < b.1 ∧ j < b.2.1 then [(.rep, i, b.1, j, b.2.1)] else if i < b.1 then [(.del, i, b.1, j, b.2.1)] else if j < b.2.1 then [(.ins, i, b.1, j, b.2.1)] else []
noncomputable def tagL (i j : Nat) (b : T3) : List Code := if i < b.1 ∨ j < b.2.1 then [(if i = b.1 then .ins else if j = b.2.1 then .del else .rep, i, b.1, j, b.2.1)] else []
theorem tag_same {i j : Nat} {b : T3} (h1 : i ≤ b.1) (h2 : j ≤ b.2.1) : tagL i j b = tagC i j b := by
 unfold tagL tagC
 by_cases a : i < b.1
 ·have a' : i ≠ b.1 := Nat.ne_of_lt a
  by_cases c : j < b.2.1
  ·simp [a, c, a', Nat.ne_of_lt c]
  ·simp [a, a', Nat.le_antisymm h2 (Nat.le_of_not_lt c)]
 ·have a' : i = b.1 := Nat.le_antisymm h1 (Nat.le_of_not_lt a)
  by_cases c : j < b.2.1
  ·simp [a', c]
  ·simp [a', c]
noncomputable def codesC : Nat → Nat → List T3 → List Code
 | _, _, [] => []
 | i, j, b :: r => tagC i j b ++ equalC b ++ codesC (b.1 + b.2.2) (b.2.1 + b.2.2) r
noncomputable def codesL : Nat → Nat → List T3 → List Code
 | _, _, [] => []
 | i, j, b :: r => tagL i j b ++ equalC b ++ codesL (b.1 + b.2.2) (b.2.1 + b.2.2) r
theorem codes_same : ∀ {K : List T3} {i j : Nat}, Chn A B i j K → codesL i j (K ++ [(A.length, B.length, 0)]) = codesC i j (K ++ [(A.length, B.length, 0)])
 | [], i, j, h => by
  show tagL i j _ ++ equalC _ ++ [] = tagC i j _ ++ equalC _ ++ []
  rw [tag_same h.1 h.2]
 | b :: K, i, j, h => by
  show tagL i j b ++ equalC b ++ codesL _ _ (K ++ [(A.length, B.length, 0)]) = tagC i j b ++ equalC b ++ codesC _ _ (K ++ [(A.length, B.length, 0)])
  rw [tag_same h.1.1 h.1.2, codes_same h.2.2.2.2]
noncomputable abbrev kk (xs : List Int) : List Int := xs.map kd
theorem kk_cons (x : Int) (xs : List Int) : kk (x :: xs) = kd x :: kk xs := rfl
theorem kk_app (xs ys : List Int) : kk (xs ++ ys) = kk xs ++ kk ys := lma
theorem addF_pos {acc : List Int} {k : Int} (h : kd k ∈ kk acc) : addF acc k = acc := by
 unfold addF; refine if_pos (List.any_eq_true.mpr ⟨kd k, h, ?_⟩); exact beq_self_eq_true (kd k)
theorem addF_neg {acc : List Int} {k : Int} (h : kd k ∉ kk acc) : addF acc k = acc ++ [k] := by
 unfold addF; rw [if_neg fun q => ?_]
 refine Ex1 (List.any_eq_true.mp q) fun x => an2 fun hx e => ?_
 exact h (eq_of_beq e ▸ hx)
theorem foldF (c : Int) : ∀ (ys acc : List Int), (kk acc).Nodup → (kk (ys.foldl addF acc)).Nodup ∧ (c ∈ kk (ys.foldl addF acc) ↔ c ∈ kk acc ∨ c ∈ kk ys)
 | [], acc, h => ⟨h, by simp⟩
 | y :: ys, acc, h => by
  by_cases q : kd y ∈ kk acc
  ·have := foldF c ys acc h
   show (kk (ys.foldl addF (addF acc y))).Nodup ∧ _
   rw [List.foldl_cons, addF_pos q, kk_cons, lmc]
   refine ⟨this.1, this.2.trans ⟨fun z => z.elim .inl fun z => .inr (.inr z), fun z => z.elim .inl fun z => z.elim (fun e => .inl (e ▸ q)) .inr⟩⟩
  ·have n : (kk (acc ++ [y])).Nodup := by
    rw [kk_app, List.nodup_append]
    exact ⟨h, by simp, fun a ha b hb e => q (by simp only [lmn, List.map_nil, lms] at hb; rw [← hb, ← e]; exact ha)⟩
   have := foldF c ys (acc ++ [y]) n
   rw [List.foldl_cons, addF_neg q, kk_cons, lmc]
   refine ⟨this.1, this.2.trans ?_⟩
   rw [kk_app, lmp, show kk [y] = [kd y] from rfl, lms, or_assoc]
theorem firsts_nodup (xs : List Int) : (kk (firstsL xs)).Nodup := (foldF 0 xs [] List.nodup_nil).1
theorem firsts_mem (xs : List Int) (c : Int) : c ∈ kk (firstsL xs) ↔ c ∈ kk xs := (foldF c xs [] List.nodup_nil).2.trans ⟨fun z => z.elim (fun q => nomatch q) id, .inr⟩
theorem fold_off (X : List Int) : ∀ (ys acc : List Int), ys.foldl addF (X ++ acc.filter fun k => !decide (kd k ∈ kk X)) = X ++ (ys.foldl addF acc).filter fun k => !decide (kd k ∈ kk X)
 | [], acc => rfl
 | y :: ys, acc => by
  rw [List.foldl_cons, List.foldl_cons, ← fold_off X ys (addF acc y)]
  congr 1
  by_cases q : kd y ∈ kk X
  ·rw [addF_pos (by rw [kk_app]; exact lml _ q)]
   by_cases p : kd y ∈ kk acc
   ·rw [addF_pos p]
   ·rw [addF_neg p, List.filter_append, lfc (by simp [q]), List.filter_nil, lan]
  ·have e : kd y ∈ kk (X ++ acc.filter fun k => !decide (kd k ∈ kk X)) ↔ kd y ∈ kk acc := by
    rw [kk_app, lmp]
    constructor
    ·rintro (z | z)
     ·exact absurd z q
     ·refine Ex1 (lmm.mp z) fun k => an2 fun hk e => ?_
      exact lmm.mpr ⟨k, (lmf.mp hk).1, e⟩
    ·intro z
     refine Ex1 (lmm.mp z) fun k => an2 fun hk e => ?_
     exact .inr (lmm.mpr ⟨k, lmf.mpr ⟨hk, by rw [e, decide_eq_false q]; rfl⟩, e⟩)
   by_cases p : kd y ∈ kk acc
   ·rw [addF_pos p, addF_pos (e.mpr p)]
   ·rw [addF_neg p, addF_neg (fun z => p (e.mp z)), List.filter_append, List.filter_cons_of_pos (by simp [q]), List.filter_nil, laa]
theorem firsts_app (xs ys : List Int) : firstsL (xs ++ ys) = firstsL xs ++ (firstsL ys).filter fun k => !decide (kd k ∈ kk (firstsL xs)) := by
 have := fold_off (firstsL xs) ys []
 rw [List.filter_nil, lan] at this
 rw [firstsL, List.foldl_append]
 exact this
theorem fold_self : ∀ (ys acc : List Int), (kk (acc ++ ys)).Nodup → ys.foldl addF acc = acc ++ ys
 | [], acc, _ => (lan _).symm
 | y :: ys, acc, h => by
  have q : kd y ∉ kk acc := fun z => by
   rw [kk_app, List.nodup_append] at h
   exact h.2.2 _ z _ (lcs ..) rfl
  rw [List.foldl_cons, addF_neg q, fold_self ys (acc ++ [y]) (by rw [laa]; exact h), laa]
  rfl
theorem firsts_self {xs : List Int} (h : (kk xs).Nodup) : firstsL xs = xs := fold_self xs [] h
theorem posK_some {t : List Int} {f : Int} {j : Nat} (h : posK t f = some j) : (kk t).Perm (kd f :: kk (t.eraseIdx j)) := by
 unfold posK at h
 refine Ex1 (lfe.mp h) fun hj => an2 fun e _ => ?_
 have p : t.Perm (t[j] :: t.eraseIdx j) := by
  rw [List.eraseIdx_eq_take_drop_succ]
  refine .trans (.of_eq ?_) (List.perm_middle (l₁ := t.take j) (l₂ := t.drop (j + 1)))
  rw [← List.drop_eq_getElem_cons hj, List.take_append_drop]
 have := p.map kd
 rw [lmn, eq_of_beq e] at this
 exact this
theorem posK_of {t : List Int} {f : Int} (h : kd f ∈ kk t) : ∃ j, posK t f = some j := by
 cases q : posK t f with
 | some j => exact ⟨j, rfl⟩
 | none =>
  refine Ex1 (lmm.mp h) fun k => an2 fun hk e => ?_
  have := List.findIdx?_eq_none_iff.mp q k hk
  rw [e, beq_self_eq_true] at this
  cases this
theorem remAll_perm : ∀ {fs t r : List Int}, remAll fs t = some r → (kk t).Perm (kk fs ++ kk r)
 | [], t, r, h => by cases h; exact .refl _
 | f :: fs, t, r, h => by
  unfold remAll at h
  split at h
  ·cases h
  ·rename_i j hj
   exact (posK_some hj).trans ((remAll_perm h).cons _)
theorem remAll_some : ∀ {fs t : List Int}, (kk fs).Nodup → (∀ c ∈ kk fs, c ∈ kk t) → ∃ r, remAll fs t = some r
 | [], t, _, _ => ⟨t, rfl⟩
 | f :: fs, t, h, hs => by
  refine Ex1 (posK_of (hs _ (lcs ..))) fun j hj => ?_
  unfold remAll
  rw [hj]
  have n := lnc.mp h
  refine remAll_some n.2 fun c hc => ?_
  rcases lmc.mp ((posK_some hj).mem_iff.mp (hs c (lom _ hc))) with e | e
  ·exact absurd (e ▸ hc) n.1
  ·exact e
theorem perm_of_mem {l m : List Int} (hl : l.Nodup) (hm : m.Nodup) (h : ∀ c, c ∈ l ↔ c ∈ m) : l.Perm m := (List.perm_ext_iff_of_nodup hl hm).mpr h
theorem cmpL_iff (xs ys : List Int) : cmpL xs ys = true ↔ ∀ c, c ∈ kk xs ↔ c ∈ kk ys := by
 unfold cmpL
 constructor
 ·intro h
  split at h
  ·cases h
  ·rename_i r q
   have p := remAll_perm q
   rw [List.isEmpty_iff.mp h] at p
   intro c
   rw [← firsts_mem xs c, ← firsts_mem ys c, p.mem_iff]
   simp
 ·intro h
  have m : ∀ c, c ∈ kk (firstsL xs) ↔ c ∈ kk (firstsL ys) := fun c => (firsts_mem xs c).trans ((h c).trans (firsts_mem ys c).symm)
  refine Ex1 (remAll_some (t := firstsL ys) (firsts_nodup xs) fun c hc => (m c).mp hc) fun r q => ?_
  rw [q]
  have p := (remAll_perm q).length_eq
  have p' := (perm_of_mem (firsts_nodup xs) (firsts_nodup ys) m).length_eq
  rw [lla] at p
  show r.isEmpty = true
  rw [List.isEmpty_iff]
  refine List.eq_nil_of_length_eq_zero ?_
  rw [llm, llm, llm] at p
  rw [llm, llm] at p'
  lia
end
section
open PySem PySem.W PyProof.Rows PySem.SeqAt
variable {w : World} {A : Around} {E : Value → Shared → Prop} {s₀ s s₁ : Shared} {env : Env} {h₀ : Heap} {L : Addr} {ns gs : List Str} {vs : List (Option Value)} {own : List (Addr × Obj)}
structure MtS (P : Params) (name : Str) (id : String) (Bf : Builtin) : Prop where
 find : findIn (KF P) (.ref 135) name = some (some (.builtin id))
 kind : builtinKind id = some .slot
 split : ∃ n, splitId id = some ("tuple", n)
 slot : Slot "tuple" name id
 entry : entryFor table id = some Bf
noncomputable abbrev mO (dx : Addr) (xs : List Value) : Obj := ⟨.ref 135, some dx, .seq xs.toArray 0, #[]⟩
noncomputable def MtAt (h : Heap) (m : Addr) (xs : List Value) : Prop := ∃ dx, h.get? m = some (mO dx xs)
theorem MtAt.keeps {h h' : Heap} {m : Addr} {xs : List Value} (x : MtAt h m xs) (k : Keeps h h') : MtAt h' m xs := let ⟨dx, e⟩ := x; ⟨dx, k _ _ e⟩
section
variable {m : Addr} {xs args : List Value} {name : Str} {id : String} {Bf : Builtin}
theorem mt_type (hm : MtAt s.heap m xs) : Looks (model pw w) s.heap (typeOf (.ref m)) (.ref 135) := let ⟨dx, e⟩ := hm; (Looks.ld e).andThen .now
theorem mt_spec {Q : Option Value → Shared → Prop} (ms : MtS w.params name id Bf) (B : Base w s.heap) (hm : MtAt s.heap m xs) (q : Q (some (.builtin id)) s) : wpAny (model pw w) A (specialOf (.ref m) name) Q E s := by
 unfold specialOf
 exact wb ((mt_type hm).here ((looks_findIn B.K ms.find).here q))
theorem mt_call_ {Q : Value → Shared → Prop} (ms : MtS w.params name id Bf) (B : Base w s.heap) (hm : MtAt s.heap m xs) (ha : argsOk id ⟨.ref m :: args, []⟩)
  (h : wpAny (model pw w) A.in1 (Bf ⟨.ref m :: args, []⟩) (fun fin s' => ∃ v, fin = .done (.ret v) ∧ Q v s') E s) : wpAny (model pw w) A (call (.builtin id) (.ref m :: args)) Q E s := by
 refine Ex1 ms.split fun n hs => ?_
 refine wpAny_call (codeAny_call_builtin ms.slot.plain ms.entry (check_slot ms.kind hs ((mt_type hm).andThen (looks_subIn B.K (sub_135 _))) ha (wm h (fun fin s' q => ?_) fun _ _ x => x)))
 obtain ⟨v, rfl, q⟩ := q
 exact q
theorem mt_special {Q : Option Value → Shared → Prop} (ms : MtS w.params name id Bf) (B : Base w s.heap) (hm : MtAt s.heap m xs) (h : wpAny (model pw w) A (call (.builtin id) (.ref m :: args)) (fun v => Q (some v)) E s) :
  wpAny (model pw w) A (callSpecial? (.ref m) name args) Q E s := by
 unfold callSpecial?
 refine wb (mt_spec ms B hm (whh ?_))
 rw [ms.slot.bind]
 exact wb (wpp (wb (wm h (fun v s' q => wpp q) fun _ _ x => x)))
theorem mt_bindIf {Q : Option (Value × List Value) → Shared → Prop} (ms : MtS w.params name id Bf) (B : Base w s.heap) (hm : MtAt s.heap m xs) (h : Q (some (.builtin id, [.ref m])) s) :
  wpAny (model pw w) A (bindSpecialIfBound? (.ref m) name) Q E s := by
 unfold bindSpecialIfBound?
 refine wb (mt_spec ms B hm ?_)
 dsimp only
 rw [ms.slot.bind]
 refine wb (wpAny_askSetting (wpAny_ite ?_))
 split
 ·exact wb (wpp (wpp h))
 ·exact wpAny_tryCatch (wb (wpp (wpp h)))
theorem mt_specialIf {Q : Option Value → Shared → Prop} (ms : MtS w.params name id Bf) (B : Base w s.heap) (hm : MtAt s.heap m xs) (h : wpAny (model pw w) A (call (.builtin id) (.ref m :: args)) (fun v => Q (some v)) E s) :
  wpAny (model pw w) A (callSpecialIfBound? (.ref m) name args) Q E s := by
 unfold callSpecialIfBound?
 exact whh (wb (mt_bindIf ms B hm (wb (wm h (fun v s' q => wpp q) fun _ _ x => x))))
theorem mt_iterS (P : Params) : MtS P (sO "__iter__") "tuple.__iter__" Builtin.«tuple.__iter__» := ⟨by kernel_rfl, by decide +kernel, ⟨"__iter__", by decide +kernel⟩, PySem.F.slot_tuple_iter, PySem.F.entry_tuple_iter⟩
theorem mt_getS (P : Params) : MtS P (sO "__getitem__") "tuple.__getitem__" Builtin.«tuple.__getitem__» := ⟨by kernel_rfl, by decide +kernel, ⟨"__getitem__", by decide +kernel⟩, PySem.F.slot_tuple_getitem, PySem.F.entry_tuple_getitem⟩
theorem mt_ltS (P : Params) : MtS P (sO "__lt__") "tuple.__lt__" Builtin.«tuple.__lt__» := ⟨by kernel_rfl, by decide +kernel, ⟨"__lt__", by decide +kernel⟩, PySem.F.slot_tuple_lt, PySem.F.entry_tuple_lt⟩
def TIt (h : Heap) (it m : Addr) (i : Nat) : Prop := h.get? it = some ⟨.type "tuple_iterator", none, .fields #[.ref m, .int i 0], #[]⟩
theorem mt_iter {Q : Value → Shared → Prop} (B : Base w s.heap) (hm : MtAt s.heap m xs) (q : Q (.ref s.heap.objs.size) { s with heap := s.heap.push ⟨.type "tuple_iterator", none, .fields #[.ref m, .int 0 0], #[]⟩ }) :
  wpAny (model pw w) A (pyIter (.ref m)) Q E s := by
 unfold pyIter
 refine wb (mt_spec (mt_iterS _) B hm ?_)
 show wpAny _ A (callSpecialIfBoundUnlessNone? (.ref m) "__iter__" _ >>= _) _ _ _
 refine wb ?_
 unfold callSpecialIfBoundUnlessNone?
 refine whh (wb (mt_bindIf (mt_iterS _) B hm ?_))
 dsimp only
 rw [if_neg (by simp)]
 refine wb (mt_call_ (mt_iterS _) B hm (PySem.F.args_tuple_iter_1 _) ?_)
 show wpAny _ _ (do ret (← newFields "tuple_iterator" [.ref m, rawInt 0])) _ _ s
 refine wb (wnt (wpp ⟨_, rfl, wpp ?_⟩))
 exact wb (wpAny_specialOf (T := "tuple_iterator") ⟨_, hgs _ rfl, rfl⟩ PySem.F.slot_tuple_iterator_next.lookup (wpp q))
theorem mt_next {it : Addr} {i : Nat} {x : Value} {Q : Option Value → Shared → Prop} (hm : MtAt s.heap m xs) (hit : TIt s.heap it m i) (hx : xs[i]? = some x) (q : ∀ h', Heap.SameBut it s.heap h' → TIt h' it m (i + 1) → Q (some x) { s with heap := h' }) :
  wpAny (model pw w) A (pyNext (.ref it)) Q E s := by
 refine Ex1 hm fun dx hm => ?_
 have hT : s.TypeIs (.ref it) "tuple_iterator" := ⟨_, hit, rfl⟩
 unfold pyNext
 refine wb (wpAny_attempt (wpAny_callSpecial?_slot (name := sO "__next__") hT PySem.F.slot_tuple_iterator_next (wce PySem.F.slot_tuple_iterator_next hT PySem.F.entry_tuple_iterator_next ?_ (PySem.F.args_tuple_iterator_next_1 _))))
 show wpAny _ _ (field (.ref it) 0 >>= _) _ _ s
 refine wb (wpAny_field hit rfl (x := .ref m) rfl ?_)
 rw [if_neg (show ¬ ((Value.ref m == Value.none) = true) from bfn)]
 show wpAny _ _ (field (.ref it) 1 >>= _) _ _ s
 refine wb (wpAny_field hit rfl (x := .int i 0) rfl ?_)
 show wpAny _ _ (seqItems? (.ref m) >>= _) _ _ s
 refine wb (wpAny_seqItems hm rfl ?_)
 simp only [Int.toNat_natCast, List.getElem?_toArray, hx]
 exact wb (wpAny_setField hit rfl (by simp) (wpp ⟨x, rfl, wpp (q _ (Heap.SameBut.update ..) (Heap.get?_update_self _ hit rfl))⟩))
theorem mt_end {it : Addr} {i : Nat} {Q : Option Value → Shared → Prop} (hh : A.handled = none) (hm : MtAt s.heap m xs) (hit : TIt s.heap it m i) (hx : xs[i]? = none) (q : ∀ h', Heap.ExtBut it s.heap h' → Q none { s with heap := h' }) :
  wpAny (model pw w) A (pyNext (.ref it)) Q E s := by
 refine Ex1 hm fun dx hm => ?_
 have hT : s.TypeIs (.ref it) "tuple_iterator" := ⟨_, hit, rfl⟩
 unfold pyNext
 refine wb (wpAny_attempt (wpAny_callSpecial?_slot (name := sO "__next__") hT PySem.F.slot_tuple_iterator_next (wce PySem.F.slot_tuple_iterator_next hT PySem.F.entry_tuple_iterator_next ?_ (PySem.F.args_tuple_iterator_next_1 _))))
 show wpAny _ _ (field (.ref it) 0 >>= _) _ _ s
 refine wb (wpAny_field hit rfl (x := .ref m) rfl ?_)
 rw [if_neg (show ¬ ((Value.ref m == Value.none) = true) from bfn)]
 show wpAny _ _ (field (.ref it) 1 >>= _) _ _ s
 refine wb (wpAny_field hit rfl (x := .int i 0) rfl ?_)
 show wpAny _ _ (seqItems? (.ref m) >>= _) _ _ s
 refine wb (wpAny_seqItems hm rfl ?_)
 simp only [Int.toNat_natCast, List.getElem?_toArray, hx]
 refine wb (wpAny_rule (wb (wpAny_setField hit rfl (by simp) ?_)))
 show wpAny _ _ (newExc (.type "StopIteration") [] >>= _) _ _ _
 refine wb ?_
 simp only [newExc, newTuple]
 refine wb (wnt ?_ (by size_fits))
 refine wb (m := firstArgMember _ _) (wpAny_of_eq (a := Value.none) (by first | rfl | (simp only [firstArgMember]; rfl)) ?_)
 refine wnt ?_ (by size_fits)
 unfold raiseNew
 refine wb (wpAny_handled ?_)
 first | rw [show A.in1.handled = none from hh] | rw [hh]
 refine wb (wpp (wpAny_throw ?_))
 refine wb (wpAny_isInstance (T := "StopIteration") (b := true) ⟨_, hgs _ rfl, rfl⟩ isSubtype_stop ?_)
 exact wpp (q _ (((Heap.SameBut.update ..).extBut.push _).push _))
theorem MtAt.extBut {h h' : Heap} {it : Addr} (hm : MtAt h m xs) (hs : Heap.ExtBut it h h') (ne : m ≠ it) : MtAt h' m xs := let ⟨dx, e⟩ := hm; ⟨dx, hs _ _ ne e⟩
theorem mt_unpack {a b c : Value} {Q : List Value → Shared → Prop} (hh : A.handled = none) (B : Base w s.heap) (hm : MtAt s.heap m [a, b, c]) (q : ∀ h', Heap.ExtBut s.heap.objs.size s.heap h' → Q [a, b, c] { s with heap := h' }) :
  wpAny (model pw w) A (unpackItems (.ref m) 3 none) Q E s := by
 have ne : m ≠ s.heap.objs.size := by (refine Ex1 hm fun dx e => ?_); exact Nat.ne_of_lt (hli e)
 unfold unpackItems
 refine wb ?_
 unfold notIterableAtAll
 refine wb (mt_spec (mt_iterS _) B hm (wpp ?_))
 rw [if_neg (by simp)]
 refine wb (whh (mt_iter B hm (wb (whh ?_))))
 have hm0 : MtAt (s.heap.push ⟨.type "tuple_iterator", none, .fields #[.ref m, .int 0 0], #[]⟩) m [a, b, c] := hm.keeps (Keeps.push _ _)
 refine wb (mt_next (i := 0) hm0 (hgs _ rfl) rfl fun h1 s1 t1 => ?_)
 have hm1 := hm0.extBut s1.extBut ne
 refine wb (whh (wb (mt_next (i := 1) hm1 t1 rfl fun h2 s2 t2 => ?_)))
 have hm2 := hm1.extBut s2.extBut ne
 refine wb (whh (wb (mt_next (i := 2) hm2 t2 rfl fun h3 s3 t3 => ?_)))
 have hm3 := hm2.extBut s3.extBut ne
 refine wb (whh (wpp (wpp (wpp (wpp ?_)))))
 dsimp only
 rw [if_neg (by simp)]
 refine wb (whh (mt_end (i := 3) hh hm3 t3 rfl fun h4 e4 => ?_))
 rw [if_neg (by simp)]
 exact wpp (q h4 fun b o hb e => e4 b o hb (s3.extBut b o hb (s2.extBut b o hb (s1.extBut b o hb (hgp _ e)))))
end
theorem unpM {x y z : Str} {p1 p2 p3 pos : Pos} {k i j l : Nat} {m : Addr} {a b c : Value} {Q : Unit → Shared → Prop} (e : Ev env L ns gs) (hh : A.handled = none) (B : Base w h₀) (S : St s₀ h₀ L ns vs own s) (hm : MtAt s.heap m [a, b, c]) (hi : ns[i]? = some x) (hj : ns[j]? = some y) (hl : ns[l]? = some z)
  (li : i < vs.length) (lj : j < vs.length) (ll : l < vs.length) (h : ∀ s', St s₀ h₀ L ns (((vs.set i (some a)).set j (some b)).set l (some c)) own s' → Q () s') :
  wpAny (model pw w) A (assign (.Tuple [.Name x p1, .Name y p2, .Name z p3] k pos) env (.ref m)) Q E s := by
 rw [arm_assign_Tuple]
 refine wb (wpAny_standAt ?_)
 unfold unpack
 refine wb (whh (mt_unpack hh (B.keeps S.keep) hm fun h' hb => ?_))
 have S := S.keeps (s' := { s with heap := h' }) (extBut_size hb) rfl rfl
 exact aac (wan (st_ e S hi li fun s₁ S => aac (wan (st_ e S hj (by simpa using lj) fun s₂ S => aac (wan (st_ e S hl (by simpa using ll) fun s₃ S => assignInOrder_nil (h _ S)))))))
structure Near (a : Addr) (s s' : Shared) : Prop where
 ext : Heap.ExtBut a s.heap s'.heap
 gens : s'.gens = s.gens
 os : s'.os = s.os
theorem Near.trans {a : Addr} {s s' s'' : Shared} (x : Near a s s') (y : Near a s' s'') : Near a s s'' := ⟨fun b o hb q => y.ext b o hb (x.ext b o hb q), y.gens.trans x.gens, y.os.trans x.os⟩
noncomputable abbrev outL {α : Type} (d : α) (l : List α) (p : Array Nat) : List α := p.toList.map fun i => l.getD i d
set_option maxHeartbeats 4000000 in
theorem sort_at {a : Addr} {vs : List Value} {n : Nat} {κ : SortKind} {key : Nat → Int} {P : PySem.Fin → Shared → Prop} (ho : s.heap.get? a = some (listOf vs.toArray n)) (h64 : vs.length < 64) (hi : Inj vs.length key)
  (hκ : 2 ≤ vs.length → ∀ s' (Q : SortKind → Shared → Prop), Near a s s' → Q κ s' → wpAny (model pw w) A (keyKind' vs.toArray) Q E s')
  (hc : ∀ i j C s', i < vs.length → j < vs.length → Near a s s' → (∀ s'', Keeps s'.heap s''.heap → s''.gens = s'.gens → s''.os = s'.os → C (ltK key i j) s'') → kas_ask pw w A κ vs i j C s')
  (h : ∀ p c s', Good vs.length p → Asc key p vs.length → Near a s s' → s'.heap.get? a = some (listOf (outL .none vs p).toArray c) → P (.done (.ret .none)) s') :
  wpAny (model pw w) A (Builtin.«list.sort» ⟨[.ref a], []⟩) P E s := by
 have hsz := see
 have s1 := Heap.SameBut.update s.heap a (Obj.mapSeq fun _ => (#[] : Array Value))
 refine Ex1 (⟨_, get?_update_seq ho fun _ => #[]⟩ : ∃ e1, (s.heap.update a (Obj.mapSeq fun _ => (#[] : Array Value))).get? a = some (seqObj "list" #[] e1)) fun e1 ho1 => ?_
 rw [list_sort_plain]
 refine wb (listItems_at ho rfl ?_)
 refine wb (listUpdate_at ho rfl ?_ (by rw [lst, hsz]; omega) (nzl _))
 refine wb (seqEpoch_at ho1 rfl ?_)
 refine wb (wpAny_newTuple ?_ (by show vs.length ≤ _; rw [hsz]; omega))
 refine wb (wpAny_newList ?_ (nzl _))
 refine whh ?_
 generalize hh3 : (((s.heap.update a (Obj.mapSeq fun _ => (#[] : Array Value))).push (seqObj "tuple" vs.toArray 0)).push (seqObj "list" #[] 0)) = h3
 have k3 : Keeps (s.heap.update a (Obj.mapSeq fun _ => (#[] : Array Value))) h3 := hh3 ▸ (Keeps.push _ _).trans (Keeps.push _ _)
 have N3 : Near a s { s with heap := h3 } := ⟨fun b o hb q => k3 _ _ (s1.extBut b o hb q), rfl, rfl⟩
 have ha3 : h3.get? a = some (seqObj "list" #[] e1) := k3 _ _ ho1
 have fin : ∀ (st' : SortSt) (p : Array Nat) (s' : Shared), Good vs.length p → Asc key p vs.length → Near a s s' → s'.heap.get? a = some (seqObj "list" #[] e1) → arrOf st' = p.map (kas_item (vs.toArray.zip vs.toArray)) → failedOf st' = none →
   wpAny (model pw w) A (do
    let touched := (← seqEpoch a) != e1
    Builtin.List.listUpdate (.ref a) fun _ => (arrOf st').map (·.2)
    if let some e := failedOf st' then rule "list.sort.comparison-raised"; throw e
    if touched then rule "list.sort.modified"; raiseError "ValueError" "list modified during sort"
    ret .none) P E s' := by
  intro st' p s' g A' N ha' har hf
  rw [kat_snds rfl har]
  have hz : (List.toArray (outL .none vs p)).size = vs.length := by rw [lst, llm, Array.length_toList, g.size]
  refine wb (seqEpoch_at ha' rfl ?_)
  refine wb (listUpdate_at ha' rfl ?_ (nzl _) (nlt (Nat.le_of_eq hz) (by rw [hsz]; omega)))
  rw [hf]
  simp only [bne_self_eq_false, Bool.false_eq_true, if_false]
  exact wpp (h p _ _ g A' (N.trans ⟨(Heap.SameBut.update ..).extBut, rfl, rfl⟩) (get?_update_seq ha' fun _ => (outL .none vs p).toArray))
 show wpAny (model pw w) A _ P E { s with heap := h3 }
 dsimp only
 by_cases h2 : vs.toArray.size < 2
 ·rw [if_pos h2, if_pos h2]
  rw [lst] at h2
  refine wb (wpp (wb (wpp ?_)))
  refine fin (SortSt.mk' general' (vs.toArray.zip vs.toArray) #[] 7 none) (List.toArray (List.range vs.length)) _ (Array.Perm.refl _) (fun x y hx hy => by omega) N3 ha3 ?_ rfl
  have e := kas_range (vs.toArray.zip vs.toArray)
  rw [show (vs.toArray.zip vs.toArray).size = vs.length by simp] at e
  rw [e]
 ·rw [if_neg h2, if_neg h2]
  rw [lst] at h2
  refine wb (hκ (by omega) _ _ N3 ?_)
  refine wb (wm (kat_run (Q := fun st' s' => ∃ p : Array Nat, arrOf st' = p.map (kas_item (vs.toArray.zip vs.toArray)) ∧ failedOf st' = none ∧ (Good vs.length p ∧ Asc key p vs.length) ∧ Near a s s' ∧ s'.heap.get? a = some (seqObj "list" #[] e1))
   (G := fun p s' => (Good vs.length p ∧ Asc key p vs.length) ∧ Near a s s' ∧ s'.heap.get? a = some (seqObj "list" #[] e1)) rfl (by omega) h64 (fun p' st' s' a1 a2 a3 a4 => ⟨p', a2, a3, a4⟩) ?_) ?_ fun _ _ e => e)
  ·refine Wk.wp (I := fun s' => Near a s s' ∧ s'.heap.get? a = some (seqObj "list" #[] e1)) (P := fun p => Good vs.length p ∧ Asc key p vs.length) (lt := ltK key) (n := vs.length) ?_ (fun p s' hp hI => ⟨hp, hI.1, hI.2⟩) (sorts hi (by omega)) ⟨N3, ha3⟩
   intro i j C s' h1 h2 hI hC
   exact hc i j C s' h1 h2 hI.1 fun s'' k g o => hC s'' ⟨hI.1.trans ⟨fun b o' _ q => k b o' q, g, o⟩, k _ _ hI.2⟩
  ·rintro ⟨⟨⟩, st'⟩ s' ⟨p, har, hf, ⟨g, A'⟩, N, ha'⟩
   exact fin st' p s' g A' N ha' har hf
theorem getD_eq {α : Type} {l : List α} {i : Nat} (h : i < l.length) (d : α) : l[i]? = some (l.getD i d) := by
 rw [lgg, lge h]; rfl
theorem Good.lts {n : Nat} {p : Array Nat} (g : Good n p) : ∀ i ∈ p.toList, i < n := fun i hi => by
 have : i ∈ (List.range n).toArray := g.mem_iff.mp (Array.mem_toList_iff.mp hi)
 simpa using this
theorem outL_perm {α : Type} {d : α} {l : List α} {p : Array Nat} (g : Good l.length p) : (outL d l p).Perm l := by
 have h := (Array.perm_iff_toList_perm.mp g).map fun i => l.getD i d
 refine h.trans (.of_eq ?_)
 refine List.ext_getElem? fun i => ?_
 by_cases hi : i < l.length
 ·simp only [lgm, List.getElem?_range hi, Option.map_some]
  exact (getD_eq hi d).symm
 ·rw [lgn (by simpa using hi), lgn (by lia)]
theorem outL_all2 {α β : Type} {R : α → β → Prop} {as : List α} {bs : List β} {da : α} {db : β} (h : All2 R as bs) : ∀ {l : List Nat}, (∀ i ∈ l, i < as.length) → All2 R (l.map fun i => as.getD i da) (l.map fun i => bs.getD i db)
 | [], _ => .nil
 | i :: l, hl => by
  refine .cons ?_ (outL_all2 h fun j hj => hl j (.tail _ hj))
  refine Ex1 (h.get (getD_eq (hl i (.head _)) da)) fun b => an2 fun hb r => ?_
  have e : bs.getD i db = b := by rw [lgg, hb]; rfl
  show R (as.getD i da) (bs.getD i db)
  rw [e]; exact r
theorem outL_asc {α : Type} {d : α} {l : List α} {f : α → Int} {p : Array Nat} (g : Good l.length p) (A : Asc (fun i => f (l.getD i d)) p l.length) : (outL d l p).Pairwise fun x y => f x < f y := by
 rw [List.pairwise_map, List.pairwise_iff_getElem]
 intro i j hi hj hij
 have hs : p.toList.length = l.length := by rw [Array.length_toList, g.size]
 have := A i j hij (by lia)
 have e : ∀ k (hk : k < p.toList.length), p.getD k 0 = p.toList[k] := fun k hk => by
  have hk' : k < p.size := by simpa using hk
  simp [Array.getD, hk']
 have this : f (l.getD (p.getD i 0) d) < f (l.getD (p.getD j 0) d) := this
 rwa [e i hi, e j hj] at this
section
variable {α : Type}
theorem sort_all {a : Addr} {vs : List Value} {ts : List α} {n : Nat} {κ : SortKind} {R : Value → α → Prop} {key : α → Int} {P : PySem.Fin → Shared → Prop} (d : α) (ho : s.heap.get? a = some (listOf vs.toArray n)) (X : All2 R vs ts) (h64 : ts.length < 64) (nd : (ts.map key).Nodup)
  (hκ : 2 ≤ vs.length → ∀ s' (Q : SortKind → Shared → Prop), Near a s s' → Q κ s' → wpAny (model pw w) A (keyKind' vs.toArray) Q E s')
  (hc : ∀ v x u y C s', x ∈ ts → y ∈ ts → R v x → R u y → Near a s s' → (∀ s'', Keeps s'.heap s''.heap → s''.gens = s'.gens → s''.os = s'.os → C (decide (key x < key y)) s'') → wpAny (model pw w) A (keyLt' κ v u) C (fun _ _ => False) s')
  (h : ∀ us' ts' c s', ts'.Perm ts → ts'.Pairwise (fun x y => key x < key y) → All2 R us' ts' → Near a s s' → s'.heap.get? a = some (listOf us'.toArray c) → P (.done (.ret .none)) s') :
  wpAny (model pw w) A (Builtin.«list.sort» ⟨[.ref a], []⟩) P E s := by
 have hl := X.len
 refine sort_at (key := fun i => key (ts.getD i d)) ho (by lia) (fun i j hi hj q => ?_) hκ (fun i j C s' hi hj N hC => ?_) fun p c s' g A' N ha => ?_
 ·have e : ∀ k, k < ts.length → (ts.map key)[k]? = some (key (ts.getD k d)) := fun k hk => by rw [lgm, getD_eq hk d]; rfl
  exact (List.getElem?_inj (by rw [llm]; lia) nd).mp (by have q : key (ts.getD i d) = key (ts.getD j d) := q; rw [e i (by lia), e j (by lia), q])
 ·refine Ex1 (X.get (getD_eq hi Value.none)) fun x => an2 fun hx rx => ?_
  refine Ex1 (X.get (getD_eq hj Value.none)) fun y => an2 fun hy ry => ?_
  have ex : ts.getD i d = x := by rw [lgg, hx]; rfl
  have ey : ts.getD j d = y := by rw [lgg, hy]; rfl
  refine hc _ x _ y C s' (mem_of_get hx) (mem_of_get hy) rx ry N ?_
  show ∀ s'', _ → _ → _ → C (decide (key x < key y)) s''
  rw [← ex, ← ey]; exact hC
 ·rw [hl] at g A'
  exact h _ _ c s' (outL_perm (d := d) g) (outL_asc g A') (outL_all2 X (by rw [hl]; exact g.lts)) N ha
noncomputable def lexB : List Int → List Int → Bool
 | a :: l, b :: m => if a = b then lexB l m else decide (a < b)
 | [], _ :: _ => true
 | _, _ => false
theorem lexB_same {a : Int} {l m : List Int} : lexB (a :: l) (a :: m) = lexB l m := if_pos rfl
theorem lexB_ne {a b : Int} {l m : List Int} (h : a ≠ b) : lexB (a :: l) (b :: m) = decide (a < b) := if_neg h
theorem kat_ints {Q : Bool → Shared → Prop} {b : Bool} {xs : List Value} {zs : List Int} (I : IntsAre xs zs) : ∀ {ys : List Value} {us : List Int} {i : Nat}, IntsAre ys us → xs.length = ys.length → Q (lexB zs us) s → KatLex pw w A b false Q (xs.zip ys) i s := by
 induction I with
 | nil =>
  intro ys us i J hl q
  cases J with
  | nil => exact q
  | cons y u J => cases hl
 | cons x t I ih =>
  intro ys us i J hl q
  cases J with
  | nil => cases hl
  | cons y u J =>
  refine kat_cons (wpAny_eqBool_int (kat_go (fun e => kat_yes ?_) fun e => kat_no ?_))
  ·have e : x = y := eq_of_beq e
   rw [e, lexB_same] at q
   exact ih J (Nat.succ.inj hl) q
  ·have e : x ≠ y := fun z => by rw [z, beq_self_eq_true] at e; cases e
   rw [lexB_ne e] at q
   cases hb : (b && i == 0) with
   | true => exact oneLt_int q
   | false => exact kat_one _ _ (P.lt_int q)
noncomputable def TupI (h : Heap) (v : Value) (zs : List Int) : Prop := ∃ a xs, v = .ref a ∧ h.get? a = some (tupO xs.toArray) ∧ IntsAre xs zs
noncomputable def MtI (h : Heap) (v : Value) (zs : List Int) : Prop := ∃ m xs, v = .ref m ∧ MtAt h m xs ∧ IntsAre xs zs
theorem TupI.keeps {h h' : Heap} {v : Value} {zs : List Int} (x : TupI h v zs) (k : Keeps h h') : TupI h' v zs := let ⟨a, xs, e, q, i⟩ := x; ⟨a, xs, e, k _ _ q, i⟩
theorem MtI.keeps {h h' : Heap} {v : Value} {zs : List Int} (x : MtI h v zs) (k : Keeps h h') : MtI h' v zs := let ⟨a, xs, e, q, i⟩ := x; ⟨a, xs, e, q.keeps k, i⟩
theorem MtI.near {a : Addr} {s' : Shared} {its : Array Value} {n : Nat} {v : Value} {zs : List Int} (x : MtI s.heap v zs) (N : Near a s s') (ho : s.heap.get? a = some (listOf its n)) : MtI s'.heap v zs :=
 let ⟨b, xs, e, ⟨dx, q⟩, i⟩ := x; ⟨b, xs, e, ⟨dx, N.ext _ _ (fun z => by rw [z, ho] at q; exact absurd (congrArg Obj.cls (Option.some.inj q)) (by intro z; cases z)) q⟩, i⟩
theorem lt_tup {v u : Value} {zs us : List Int} {b : Bool} {Q : Bool → Shared → Prop} (x : TupI s.heap v zs) (y : TupI s.heap u us) (hl : zs.length = us.length) (q : Q (lexB zs us) s) : wpAny (model pw w) A (keyLt' (tuples' b) v u) Q E s := by
 refine Ex2 x fun a xs => an3 fun zz1 hx I => ?_
 subst zz1
 refine Ex2 y fun c ys => an3 fun zz1 hy J => ?_
 subst zz1
 have hl' : xs.length = ys.length := by rw [ints_len I, ints_len J, hl]
 refine kat_lt hx rfl hy rfl ?_
 rw [show decide (xs.toArray.size < ys.toArray.size) = false from decide_eq_false (by simp [hl'])]
 exact kat_ints I J hl' q
theorem lt_mt {v u : Value} {zs us : List Int} {Q : Bool → Shared → Prop} (B : Base w s.heap) (hu : A.units < cLine) (x : MtI s.heap v zs) (y : MtI s.heap u us) (hl : zs.length = us.length) (q : Q (lexB zs us) s) : wpAny (model pw w) A (keyLt' oneType' v u) Q E s := by
 refine Ex2 x fun a xs => an3 fun zz1 hx I => ?_
 subst zz1
 refine Ex2 y fun c ys => an3 fun zz1 hy J => ?_
 subst zz1
 have hl' : xs.length = ys.length := by rw [ints_len I, ints_len J, hl]
 rw [keyLt'_oneType, oneLt'_eq, if_pos rfl]
 refine wb (wpAny_cRoomFor_or (.inr hu) (wb ?_))
 refine mt_specialIf (mt_ltS _) B hx (mt_call_ (mt_ltS _) B hx (PySem.F.args_tuple_lt_2 _ _) ?_)
 refine Ex1 (id hx) fun dx hx => ?_
 have hy0 := hy
 refine Ex1 hy fun dy hy => ?_
 show wpAny _ _ (isInstance (.ref c) (.type "tuple") >>= _) _ _ _
 refine wb (((mt_type hy0).andThen (looks_subIn B.K (sub_135 _)) : Looks (model pw w) s.heap (isInstance (.ref c) (.type "tuple")) true).here ?_)
 rw [if_neg (by decide)]
 refine wb (wpAny_tupleItemsOf hx rfl (wb (wpAny_tupleItemsOf hy rfl ?_)))
 refine wb (wm (wpAny_forIn_list _ (fun rest r s' => r = (none, ()) ∧ s' = s ∧ ∃ xs ys zs us, rest = xs.zip ys ∧ IntsAre xs zs ∧ IntsAre ys us ∧ xs.length = ys.length ∧ Q (lexB zs us) s)
  (fun r s' => match r.1 with | none => s' = s ∧ Q false s | some fin => ∃ c, fin = Fin.done (.ret (.bool c)) ∧ s' = s ∧ Q c s) ?_ ?_ _ _ ⟨rfl, rfl, xs, ys, zs, us, rfl, I, J, hl', q⟩) ?_ fun _ _ x => x)
 ·rintro ⟨p1, p2⟩ rest r s' ⟨rfl, rfl, xs, ys, zs, us, hz, I, J, hl, q⟩
  cases I with
  | nil => cases hz
  | cons x t I =>
   cases J with
   | nil => cases hz
   | cons y u J =>
    rw [List.zip_cons_cons] at hz
    cases hz
    refine wb (wpAny_eqBool_int ?_)
    by_cases e : x = y
    ·rw [show (x == y) = true from beq_iff_eq.mpr e]
     simp only [Bool.not_true, Bool.false_eq_true, if_false]
     rw [e, lexB_same] at q
     exact wpp ⟨rfl, rfl, _, _, _, _, rfl, I, J, by simpa using hl, q⟩
    ·rw [show (x == y) = false from beq_eq_false_iff_ne.mpr e]
     simp only [Bool.not_false, if_true]
     rw [lexB_ne e] at q
     refine wb (wpAny_rule ?_)
     refine wb (show wpAny _ _ (compareOp .Lt (.int x t) (.int y u)) _ _ _ from P.lt_int ?_)
     exact wb (wpp (wpp ⟨_, rfl, rfl, q⟩))
 ·rintro ⟨r1, r2⟩ s' ⟨h1, rfl, xs, ys, zs, us, hz, I, J, hl, q⟩
  cases h1
  refine ⟨rfl, ?_⟩
  cases I with
  | nil => cases J with
   | nil => exact q
   | cons y u J => cases hl
  | cons x t I => cases J with
   | nil => cases hl
   | cons y u J => cases hz
 ·rintro ⟨r1, r2⟩ s' hr
  cases r1 with
  | none =>
   refine An2 hr fun zz1 q => ?_
   subst zz1
   dsimp only
   refine wpp ⟨_, rfl, ?_⟩
   show wpAny _ _ (truthOfDropped (.bool (decide (xs.toArray.size < ys.toArray.size)))) _ _ _
   rw [decide_eq_false (by simp [hl'])]
   exact wtb q
  | some fin =>
   refine Ex1 hr fun b => an3 fun zz1 zz2 q => ?_
   subst zz1
   subst zz2
   exact wpp ⟨_, rfl, wtb q⟩
end
theorem inj_mem {α : Type} {f : α → Int} {l : List α} (nd : (l.map f).Nodup) {x y : α} (hx : x ∈ l) (hy : y ∈ l) (h : f x = f y) : x = y := by
 obtain ⟨i, hi, rfl⟩ := lmg.mp hx
 obtain ⟨j, hj, rfl⟩ := lmg.mp hy
 have e : ∀ k (hk : k < l.length), (l.map f)[k]? = some (f l[k]) := fun k hk => by rw [lgm, lge hk]; rfl
 have : i = j := (List.getElem?_inj (by rw [llm]; exact hi) nd).mp (by rw [e i hi, e j hj, h])
 subst this; rfl
noncomputable abbrev z3 (t : T3) : List Int := [(t.1 : Int), (t.2.1 : Int), (t.2.2 : Int)]
noncomputable abbrev k1 (t : T3) : Int := (t.1 : Int)
theorem lex_z3 {ts : List T3} (nd : (ts.map k1).Nodup) {x y : T3} (hx : x ∈ ts) (hy : y ∈ ts) : lexB (z3 x) (z3 y) = decide (k1 x < k1 y) := by
 by_cases h : k1 x = k1 y
 ·have := inj_mem nd hx hy h
  subst this
  rw [lexB_same, lexB_same, lexB_same]
  exact (decide_eq_false (Int.lt_irrefl _)).symm
 ·exact lexB_ne h
noncomputable abbrev Mts (h : Heap) (vs : List Value) (ts : List T3) : Prop := All2 (fun v t => MtI h v (z3 t)) vs ts
noncomputable abbrev Tups (h : Heap) (vs : List Value) (ts : List T3) : Prop := All2 (fun v t => TupI h v (z3 t)) vs ts
theorem katTups {α : Type} {h : Heap} {f : α → List Int} {vs : List Value} {ts : List α} (X : All2 (fun v t => TupI h v (f t)) vs ts) (hf : ∀ t, f t ≠ []) : ∃ fs, KatTups h vs fs ∧ fs.length = vs.length ∧ ∀ v ∈ fs, ∃ z t, v = Value.int z t := by
 induction X with
 | nil => exact ⟨[], trivial, rfl, fun _ h => nomatch h⟩
 | @cons v₀ t₀ _ _ x _ ih =>
  refine Ex1 ih fun fs => an3 fun a b c => ?_
  refine Ex2 x fun ad xs => an3 fun zz1 q I => ?_
  subst zz1
  have hne := hf t₀
  generalize f t₀ = zz at I hne
  cases I with
  | nil => exact absurd rfl hne
  | cons z t I => exact ⟨_ :: fs, .cons q rfl rfl rfl a, by simp [b], fun v hv => (lmc.mp hv).elim (fun e => ⟨z, t, e⟩) (c v)⟩
theorem sortM_ {x : Str} {i j n : Nat} {l : Addr} {us : List Value} {ts : List T3} {p1 p2 p3 p4 : Pos} {Q : Flow → Shared → Prop} (e : Ev env L ns gs) (B : Base w h₀) (hu : A.units + 2 < cLine) (S : St s₀ h₀ L ns vs own s)
  (hi : ns[i]? = some x) (hv : vs[i]? = some (some (.ref l))) (hj : own[j]? = some (l, listOf us.toArray n)) (hline : (p2.endLine == p3.line) = true) (X : Mts s.heap us ts) (h64 : ts.length < 64) (nd : (ts.map k1).Nodup)
  (h : ∀ us' ts' c s', ts'.Perm ts → ts'.Pairwise (fun x y => k1 x < k1 y) → Mts s'.heap us' ts' → St s₀ h₀ L ns vs (own.set j (l, listOf us'.toArray c)) s' → Q .next s') :
  wpAny (model pw w) A (exec (.Expr (.Call (.Attribute (.Name x p1) (sO "sort") p2) [] [] p3) p4) env) Q E s := by
 refine we ?_ e.inter
 refine wpAny_Call_method rfl rfl hline PySem.F.plainAttrs_list PySem.F.slot_list_sort PySem.F.type_list_sort (ld e S hi hv ?_)
 refine ⟨⟨_, S.get hj, rfl⟩, listDict (S.get hj), ?_⟩
 refine ccb rfl (wpp ?_)
 have keepB : ∀ {s'}, Near l s s' → Base w s'.heap := fun N => B.keeps fun b o q => N.ext b o (fun z => by have := (S.nw _ (lmo hj)).2.2; rw [z] at q; rw [show l = l from rfl, q] at this; cases this) (S.keep _ _ q)
 refine wce PySem.F.slot_list_sort ⟨_, S.get hj, rfl⟩ entry_list_sort (sort_all (κ := oneType') (R := fun v t => MtI s.heap v (z3 t)) (key := k1) (0, 0, 0) (S.get hj) X h64 nd (fun h2 s' Q' N q => ?_) (fun v x u y C s' hx hy rx ry N hC => ?_) fun us' ts' c s' hp ho X' N ha => ⟨_, rfl, ?_⟩) (PyProof.Rows.args_list_sort _)
 ·refine kas_kind (T := .ref 135) h2 (fun v hv => ?_) (by decide) (by decide) q
  obtain ⟨k, hk, rfl⟩ := lmg.mp hv
  refine Ex1 (X.get (lge hk)) fun t => an2 fun _ M => ?_
  refine Ex2 (M.near N (S.get hj)) fun m xs => an3 fun e hm _ => ?_
  rw [e]; exact mt_type hm
 ·refine lt_mt (keepB N) (by show A.units + 1 < cLine; lia) (rx.near N (S.get hj)) (ry.near N (S.get hj)) rfl ?_
  rw [lex_z3 nd hx hy]
  exact hC s' (.refl _) rfl rfl
 ·exact h us' ts' c s' hp ho (X'.imp fun _ _ M => M.near N (S.get hj)) (S.update hj N.ext ha N.gens N.os)
theorem gl_sorted {h : Heap} (B : Base w h) : Gl h (sO "sorted") (.builtin "sorted") := B.blt (by kernel_rfl) (by decide) (by decide +kernel)
theorem sorted_ {α : Type} {l : Addr} {us : List Value} {ts : List α} {κ : SortKind} {R : Value → α → Prop} {key : α → Int} {Q : Value → Shared → Prop} (d : α) (S : St s₀ h₀ L ns vs own s) (hl : Ls s.heap l us) (X : All2 R us ts) (h64 : ts.length < 64) (nd : (ts.map key).Nodup)
  (hκ : 2 ≤ us.length → ∀ s' (Q : SortKind → Shared → Prop), Keeps s.heap s'.heap → Q κ s' → wpAny (model pw w) A.in1.in1 (keyKind' us.toArray) Q E s')
  (hc : ∀ v x u y C s', x ∈ ts → y ∈ ts → R v x → R u y → Keeps s.heap s'.heap → (∀ s'', Keeps s'.heap s''.heap → s''.gens = s'.gens → s''.os = s'.os → C (decide (key x < key y)) s'') → wpAny (model pw w) A.in1.in1 (keyLt' κ v u) C (fun _ _ => False) s')
  (h : ∀ us' ts' D c s', ts'.Perm ts → ts'.Pairwise (fun x y => key x < key y) → All2 R us' ts' → Keeps s.heap s'.heap → St s₀ h₀ L ns vs ((D, listOf us'.toArray c) :: own) s' → Q (.ref D) s') :
  wpAny (model pw w) A (call (.builtin "sorted") [.ref l]) Q E s := by
 have hsl := see
 have hlen := X.len
 refine Calls.call_function_entry kind_sorted plain_sorted entry_sorted (args_sorted1 _) ?_
 unfold Builtin.«sorted»
 refine wb (m := checkCount "sorted" 1 1 _) (wpp ?_)
 refine wb (collect_list hl.isList ?_ (by rw [hsl]; lia))
 refine wb (wpAny_newList ?_ (by rw [hsl]; lia))
 generalize hh1 : (s.heap.push (seqObj "list" #[] 0)).update s.heap.objs.size (Obj.mapSeq (· ++ us.toArray)) = h1
 have k1 : Keeps s.heap h1 := fun b o q => by
  have hlt : b < s.heap.objs.size := hli q
  rw [← hh1, Heap.get?_update_ne _ _ _ _ (Nat.ne_of_lt hlt)]
  exact hgp _ q
 have S1 := (S.keeps (s' := { s with heap := h1 }) k1 rfl rfl).push (s' := { s with heap := h1.push (listOf us.toArray 0) }) (listOf us.toArray 0) rfl rfl rfl rfl
 have hD := S1.get (j := 0) rfl
 have near : ∀ {s'}, Near h1.objs.size { s with heap := h1.push (listOf us.toArray 0) } s' → Keeps s.heap s'.heap := fun N b o q => N.ext b o (Nat.ne_of_lt (hli (k1 _ _ q))) (hgp _ (k1 _ _ q))
 show wpAny _ _ _ _ _ { s with heap := h1.push (listOf us.toArray 0) }
 refine wb (whh (wce slot_list_sort ⟨_, hD, rfl⟩ entry_list_sort (sort_all (s := { s with heap := h1.push (listOf us.toArray 0) }) (κ := κ) (R := R) (key := key) d hD X h64 nd (fun h2 s' Q' N q => ?_) (fun v x u y C s' hx hy rx ry N hC => ?_) fun us' ts' c s' hp ho X' N ha => ⟨_, rfl, ?_⟩) (args_list_sort _)))
 ·exact hκ h2 _ _ (near N) q
 ·exact hc _ _ _ _ _ _ hx hy rx ry (near N) hC
 ·exact wpp ⟨_, rfl, h us' ts' _ c s' hp ho X' (near N) (S1.update (j := 0) rfl N.ext ha N.gens N.os)⟩
theorem mro_map : mroOf (.type "map") = pure [.type "map", .type "object"] := by rw [mroOf_type]; kernel_rfl
theorem sub_map : isSubtype (.type "map") (.type "map") = pure true := by rw [itt]; kernel_rfl
theorem lookup_map_new : typeLookup (.type "map") "__new__" = pure (some (.builtin "map.__new__")) := by rw [ttt, bef]; kernel_rfl
theorem slot_map_init : Slot "map" "__init__" "object.__init__" :=
 .of (owner := "object") (n := "__init__") (by rw [ttt, bef]; kernel_rfl) (by decide +kernel) (by decide +kernel) (by decide +kernel)
  (by first | exact .inl (by decide +kernel) | exact .inr (by decide +kernel)) (by rw [itt]; kernel_rfl)
theorem slot_map_next : Slot "map" "__next__" "map.__next__" :=
 .of (owner := "map") (n := "__next__") (by rw [ttt, bef]; kernel_rfl) (by decide +kernel) (by decide +kernel) (by decide +kernel)
  (by first | exact .inl (by decide +kernel) | exact .inr (by decide +kernel)) (by rw [itt]; kernel_rfl)
theorem slot_map_iter : Slot "map" "__iter__" "map.__iter__" :=
 .of (owner := "map") (n := "__iter__") (by rw [ttt, bef]; kernel_rfl) (by decide +kernel) (by decide +kernel) (by decide +kernel)
  (by first | exact .inl (by decide +kernel) | exact .inr (by decide +kernel)) (by rw [itt]; kernel_rfl)
theorem called_map : TypeCalled "map" "map.__new__" "object.__init__" :=
 ⟨by decide +kernel, by decide +kernel, ⟨_, _, mro_map⟩, madeBy_type mro_map lookup_map_new (by decide +kernel), by decide +kernel, by rw [itt]; kernel_rfl, slot_map_init⟩
theorem typeCall_map_2 (a b : Value) : checkTypeCall "map" ⟨[a, b], []⟩ = pure () := by kernel_rfl
theorem newCall_map_2 (a b : Value) : checkBuiltinCall "map.__new__" ⟨[.type "map", a, b], []⟩ = pure () := by kernel_rfl
theorem entry_map_new : entryFor table "map.__new__" = some Builtin.«map.__new__» := entryFor_of_tree (by kernel_rfl)
theorem entry_map_next : entryFor table "map.__next__" = some Builtin.«map.__next__» := entryFor_of_tree (by kernel_rfl)
theorem entry_map_iter : entryFor table "map.__iter__" = some Builtin.«dict_keyiterator.__iter__» :=
 entryFor_alias (id' := "dict_keyiterator.__iter__") (by kernel_rfl) (by first | rfl | decide +kernel | (unfold String.splitOn; simp +decide [String.splitOnAux])) (by decide +kernel) (by kernel_rfl)
theorem args_map_next (a : Value) : argsOk "map.__next__" ⟨[a], []⟩ := by unfold argsOk; kernel_rfl
theorem args_map_iter (a : Value) : argsOk "map.__iter__" ⟨[a], []⟩ := by unfold argsOk; kernel_rfl
theorem map_no_len : typeLookup (.type "map") "__len__" = pure none := by rw [ttt, bef]; kernel_rfl
theorem map_no_hint : typeLookup (.type "map") "__length_hint__" = pure none := by rw [ttt, bef]; kernel_rfl
theorem gl_map {w : World} {h : Heap} (B : Base w h) : Gl h (sO "map") (.type "map") := B.blt (by kernel_rfl) (by decide) (by decide +kernel)
noncomputable abbrev mapO (T : Addr) (f : Value) : Obj := ⟨.type "map", none, .fields #[.ref T, f], #[]⟩
noncomputable abbrev liO (l : Addr) (i : Nat) : Obj := ⟨.type "list_iterator", none, .fields #[.ref l, .int i 0], #[]⟩
noncomputable abbrev mapH1 (h : Heap) (l : Addr) : Heap := h.push { cls := .type "list_iterator", data := .fields #[.ref l, .int 0 0] }
noncomputable abbrev mapH2 (h : Heap) (l : Addr) : Heap := (mapH1 h l).push { cls := .type "tuple", data := .seq #[.ref h.objs.size] }
noncomputable abbrev mapH3 (h : Heap) (l : Addr) (f : Value) : Heap := (mapH2 h l).push { cls := .type "map", data := .fields #[.ref (mapH1 h l).objs.size, f] }
theorem meets_map_new (f : Value) (l : Addr) (xs : Array Value) :
  Meets (Builtin.«map.__new__» ⟨[.type "map", f, .ref l], []⟩) (fun _ R s => s.heap.IsList l xs ∧ R (.ok (.ret (.ref (mapH2 s.heap l).objs.size))) { s with heap := mapH3 s.heap l f }) :=
 .of_wp fun prog w A R s h => by
  obtain ⟨hp, g, d, tk, os⟩ := s; (refine An2 h fun hl h => ?_)
  have hsub := sub_map
  have hL : Heap.IsList (Shared.heap ⟨hp, g, d, tk, os⟩) l xs := hl
  wp_walk using wpAny_pyIter_list hL
  exact ⟨_, rfl, h⟩
theorem call_map {f : Value} {l : Addr} {xs : Array Value} {Q : Value → Shared → Prop} (hl : s.heap.IsList l xs)
  (h : ∀ s' I T M, Keeps s.heap s'.heap → s'.gens = s.gens → s'.os = s.os → s'.heap.get? I = some (liO l 0) → s'.heap.get? T = some (tupO #[.ref I]) → s'.heap.get? M = some (mapO T f) → T ≠ I → M ≠ I → s.heap.get? I = none → s.heap.get? M = none → Q (.ref M) s') :
  wpAny (model pw w) A (call (.type "map") [f, .ref l]) Q E s := by
 refine callType_new called_map (by decide) (typeCall_map_2 _ _) (newCall_map_2 _ _) (fun obj => PySem.F.args_object_init_3 obj _ _) entry_map_new (meets_map_new f l xs) ⟨hl, ?_⟩
 have z1 : (mapH1 s.heap l).objs.size = s.heap.objs.size + 1 := Heap.size_push ..
 have z2 : (mapH2 s.heap l).objs.size = s.heap.objs.size + 2 := by rw [Heap.size_push, z1]
 have g3 : (mapH3 s.heap l f).get? (mapH2 s.heap l).objs.size = some (mapO (mapH1 s.heap l).objs.size f) := hgs _ rfl
 have g2 : (mapH3 s.heap l f).get? (mapH1 s.heap l).objs.size = some (tupO #[.ref s.heap.objs.size]) := hgp _ (hgs _ rfl)
 have g1 : (mapH3 s.heap l f).get? s.heap.objs.size = some (liO l 0) := hgp _ (hgp _ (hgs _ rfl))
 refine ⟨⟨_, g3, rfl⟩, h _ _ _ _ ((Keeps.push _ _).trans ((Keeps.push _ _).trans (Keeps.push _ _))) rfl rfl g1 g2 g3 ?_ ?_ (get_size _) (Heap.get?_none_of_le ?_)⟩
 ·rw [z1]; exact Nat.succ_ne_self _
 ·rw [z2]; exact nn (.inr (Nat.lt_add_of_pos_right (by decide)))
 ·rw [z2]; exact nla _ _
theorem map_iter {T M : Addr} {f : Value} {Q : Value → Shared → Prop} (hM : s.heap.get? M = some (mapO T f)) (h : Q (.ref M) s) : wpAny (model pw w) A (pyIter (.ref M)) Q E s := by
 have hT : s.TypeIs (.ref M) "map" := ⟨_, hM, rfl⟩
 refine wpAny_pyIter_slot hT slot_map_iter (wce slot_map_iter hT entry_map_iter ?_ (args_map_iter _))
 show wpAny _ _ (ret (.ref M)) _ _ s
 exact wpp ⟨_, rfl, "map", _, hT, slot_map_next.lookup, h⟩
theorem map_next {T M I l : Addr} {f x : Value} {i : Nat} {xs : List Value} {Q : Option Value → Shared → Prop} (hM : s.heap.get? M = some (mapO T f)) (hT : s.heap.get? T = some (tupO #[.ref I])) (hI : s.heap.IsListIter I l i) (hl : s.heap.IsList l xs.toArray) (hx : xs[i]? = some x) (ne : M ≠ I)
  (h : ∀ h', Heap.SameBut I s.heap h' → h'.IsListIter I l (i + 1) → wpAny (model pw w) A.in1 (call f [x]) (fun v => Q (some v)) ff { s with heap := h' }) : wpAny (model pw w) A (pyNext (.ref M)) Q E s := by
 have hTy : s.TypeIs (.ref M) "map" := ⟨_, hM, rfl⟩
 unfold pyNext
 refine wb (wpAny_attempt (wpAny_callSpecial?_slot (name := sO "__next__") hTy slot_map_next (wce slot_map_next hTy entry_map_next ?_ (args_map_next _))))
 show wpAny _ _ (field (.ref M) 0 >>= _) _ _ s
 refine wb (wpAny_field hM rfl (x := .ref T) rfl ?_)
 show wpAny _ _ (seqItems? (.ref T) >>= _) _ _ s
 refine wb (wpAny_seqItems hT rfl ?_)
 dsimp only
 refine wb ?_
 rw [← Array.forIn_toList]
 rw [List.forIn_cons]
 refine wb (wb (whh (wpAny_nextOf_list_item hI hl (by simpa using hx) fun h' hi' hs' => ?_)))
 refine wpp ?_
 dsimp only
 rw [List.forIn_nil]
 refine wpp ?_
 have hM' := hs'.extBut _ _ ne hM
 refine wb (wpAny_field hM' rfl (x := f) rfl (wb (whh (wm (h h' hs' hi') (fun v s' q => ?_) fun _ _ q => q.elim))))
 refine wb (wpAny_letGo ?_)
 exact wpp ⟨v, rfl, wpp q⟩
theorem map_end {T M I l : Addr} {f : Value} {i : Nat} {xs : List Value} {Q : Option Value → Shared → Prop} (hh : A.handled = none) (hM : s.heap.get? M = some (mapO T f)) (hT : s.heap.get? T = some (tupO #[.ref I])) (hI : s.heap.IsListIter I l i) (hl : s.heap.IsList l xs.toArray) (hx : xs[i]? = none)
  (h : ∀ h', Heap.ExtBut I s.heap h' → Q none { s with heap := h' }) : wpAny (model pw w) A (pyNext (.ref M)) Q E s := by
 have hTy : s.TypeIs (.ref M) "map" := ⟨_, hM, rfl⟩
 unfold pyNext
 refine wb (wpAny_attempt (wpAny_callSpecial?_slot (name := sO "__next__") hTy slot_map_next (wce slot_map_next hTy entry_map_next ?_ (args_map_next _))))
 show wpAny _ _ (field (.ref M) 0 >>= _) _ _ s
 refine wb (wpAny_field hM rfl (x := .ref T) rfl ?_)
 show wpAny _ _ (seqItems? (.ref T) >>= _) _ _ s
 refine wb (wpAny_seqItems hT rfl ?_)
 dsimp only
 refine wb ?_
 rw [← Array.forIn_toList]
 rw [List.forIn_cons]
 refine wb (wb (whh (wpAny_nextOf_list_end hh hI hl (by simpa using hx) fun h' e hb he => ?_)))
 refine Ex1 he fun o => an2 fun ho hc => ?_
 refine wb (wpAny_isInstance (T := "StopIteration") (b := true) ⟨_, ho, hc⟩ isSubtype_stop ?_)
 exact wpp (h _ hb)
theorem ints3 {xs : List Value} {a b c : Int} (I : IntsAre xs [a, b, c]) : ∃ t1 t2 t3, xs = [.int a t1, .int b t2, .int c t3] := by
 cases I with
 | cons _ t1 I => cases I with
  | cons _ t2 I => cases I with
   | cons _ t3 I => cases I with
    | nil => exact ⟨t1, t2, t3, rfl⟩
theorem ty_ne {a b : String} (h : (a == b) = false := by decide) : Value.type a ≠ Value.type b := fun q => by cases q; simp at h
def KeepX (l : List Addr) (h h' : Heap) : Prop := ∀ b o, b ∉ l → h.get? b = some o → h'.get? b = some o
theorem TupI.x {l : List Addr} {h h' : Heap} {v : Value} {zs : List Int} (x : TupI h v zs) (k : KeepX l h h') (n : ∀ b ∈ l, ∀ xs, h.get? b ≠ some (tupO xs)) : TupI h' v zs :=
 let ⟨a, xs, e, q, i⟩ := x; ⟨a, xs, e, k _ _ (fun m => n a m _ q) q, i⟩
theorem MtI.x {l : List Addr} {h h' : Heap} {v : Value} {zs : List Int} (x : MtI h v zs) (k : KeepX l h h') (n : ∀ b ∈ l, ∀ o, h.get? b = some o → o.cls ≠ .ref 135) : MtI h' v zs :=
 let ⟨a, xs, e, ⟨dx, q⟩, i⟩ := x; ⟨a, xs, e, ⟨dx, k _ _ (fun m => n a m _ q rfl) q⟩, i⟩
theorem KeepX.trans {l : List Addr} {a b c : Heap} (x : KeepX l a b) (y : KeepX l b c) : KeepX l a c := fun d o n q => y d o n (x d o n q)
theorem map_loop {S M T I q l : Addr} {xs : List Value} {ts : List T3} {res : Value} {R : Result → Shared → Prop} (hh : A.handled = none) (r : Room A 2) (hz : ts.length ≤ 1000) (n1 : M ≠ I) (n2 : M ≠ S) (n3 : T ≠ I) (n4 : T ≠ S) (n5 : q ≠ I) (n6 : q ≠ S) (n7 : l ≠ I) (n8 : l ≠ S) (n9 : S ≠ I) :
  ∀ (k i : Nat) (acc : List Value) (c : Nat) (s : Shared), ts.length = i + k → (∃ g, Base w g ∧ KeepX [S, I] g s.heap ∧ g.get? S = none ∧ g.get? I = none) → s.heap.get? M = some (mapO T (.ref q)) → s.heap.get? T = some (tupO #[.ref I]) → s.heap.get? q = some (methodObj (.ref 89) (.ref 135)) → s.heap.IsListIter I l i →
   Ls s.heap l xs → s.heap.get? S = some (listOf acc.toArray c) → Tups s.heap xs ts → Mts s.heap acc (ts.take i) →
   (∀ s' acc' c', KeepX [S, I] s.heap s'.heap → s'.gens = s.gens → s'.os = s.os → s'.heap.get? S = some (listOf acc'.toArray c') → Mts s'.heap acc' ts → R (.ok (.ret res)) s') →
   codeAny (model pw w) A (.builtin "list.extend.loop" ⟨[.ref S, .ref M, res], []⟩) R s := by
 have hsz := see
 intro k
 induction k with
 | zero =>
  intro i acc c s hk B hM hT hq hI hl hS X Y h
  have hlen := X.len
  refine codeAny_builtin PySem.F.entry_extend_loop ?_
  rw [Around.under_plainId PySem.F.plain_extend_loop _]
  show wpAny _ A.in1 (pyNext (.ref M) >>= _) _ _ s
  refine wb (map_end (A := A.in1) hh hM hT hI hl.isList (lgn (by lia)) fun h' hb => ?_)
  have kx : KeepX [S, I] s.heap h' := fun b o n q => hb b o (fun z => n (by rw [z]; simp)) q
  rw [List.take_of_length_le (by lia)] at Y
  refine wpp (h _ acc c kx rfl rfl (hb _ _ n9 hS) (Y.imp fun _ _ m => m.x (l := [I]) (fun b o n q => hb b o (fun z => n (by rw [z]; simp)) q) fun b m o e => ?_))
  refine Ex1 (id hI) fun o' => an3 fun ho hc _ => ?_
  rw [lms.mp m, ho] at e
  cases e; rw [hc]; exact fun z => by cases z
 | succ k ih =>
  intro i acc c s hk B hM hT hq hI hl hS X Y h
  have hlen := X.len
  refine Ex1 (⟨_, lge (by lia)⟩ : ∃ x, xs[i]? = some x) fun x hx => ?_
  refine Ex1 (X.get hx) fun t => an2 fun ht tx => ?_
  have hacc := Y.len
  rw [llt] at hacc
  refine codeAny_builtin PySem.F.entry_extend_loop ?_
  rw [Around.under_plainId PySem.F.plain_extend_loop _]
  show wpAny _ A.in1 (pyNext (.ref M) >>= _) _ _ s
  refine wb (map_next hM hT hI hl.isList hx n1 fun h1 s1 i1 => ?_)
  have k1 : KeepX [I] s.heap h1 := fun b o n q => s1.extBut b o (fun z => n (by rw [z]; simp)) q
  have clsI : ∀ o, s.heap.get? I = some o → o.cls = .type "list_iterator" := fun o q => by (refine Ex1 (id hI) fun o' => an3 fun ho hc _ => ?_); rw [ho] at q; cases q; exact hc
  refine Ex2 (tx.x k1 (fun b m xs q => absurd (clsI _ (lms.mp m ▸ q)) ty_ne)) fun a us => an3 fun zz1 ha Ia => ?_
  subst zz1
  refine Ex3 (ints3 Ia) fun t1 t2 t3 zz1 => ?_
  subst zz1
  refine Ex1 (id B) fun g => an4 fun Bg kg gS gI => ?_
  have B1 : Base w h1 := Bg.keeps fun b o e => s1.extBut b o (fun z => by rw [z, gI] at e; cases e) (kg b o (fun m => by simp at m; rcases m with rfl | rfl <;> simp_all) e)
  refine wpAny_call (method_call (s := { s with heap := h1 }) (s1.extBut _ _ n5 hq) (codeAny_mono (mt_make (s := { s with heap := h1 }) (A := A.in1.in1) B1 ⟨by have := r.depth; show A.depth + 1 < _; lia, by have := r.units; show A.units + 1 + 1 + 20 * 1 + 100 < _; lia, hh⟩ ha) fun res' s2 hr => ?_))
  refine Ex1 hr fun v => an5 fun zz1 k2 g2 o2 => ex2 fun m dx => an3 fun zz2 hf hm => ?_
  subst zz1
  subst zz2
  have hS2 := k2 _ _ (s1.extBut _ _ n9 hS)
  show wpAny _ A.in1 (updateSeq S (·.push (.ref m)) >>= _) _ _ _
  refine wb (wpAny_updateSeq hS2 rfl ?_ (by rw [hsz, lst]; lia) (by rw [hsz]; show (acc.toArray.push _).size ≤ _; rw [Array.size_push, lst]; lia))
  refine wpp ⟨plainId_quiet PySem.F.plain_extend_loop _, ?_⟩
  have u3 := Heap.SameBut.update s2.heap S (Obj.mapSeq (·.push (Value.ref m)))
  have kk : KeepX [S, I] s.heap (s2.heap.update S (Obj.mapSeq (·.push (Value.ref m)))) := fun b o n q => u3.extBut b o (fun z => n (by rw [z]; simp)) (k2 _ _ (k1 b o (fun m => n (by simp at m; simp [m])) q))
  have at_ : ∀ {b o}, b ≠ S → b ≠ I → s.heap.get? b = some o → (s2.heap.update S (Obj.mapSeq (·.push (Value.ref m)))).get? b = some o := fun nS nI q => kk _ _ (by simp [nS, nI]) q
  have hm3 : MtI (s2.heap.update S (Obj.mapSeq (·.push (Value.ref m)))) (.ref m) (z3 t) := ⟨m, _, rfl, ⟨dx, u3.extBut _ _ (fun z => by rw [z] at hf; rw [s1.extBut _ _ n9 hS] at hf; cases hf) hm⟩, .cons _ _ (.cons _ _ (.cons _ _ .nil))⟩
  have nSI : ∀ b ∈ [S, I], ∀ o, s.heap.get? b = some o → o.cls ≠ .ref 135 ∧ o.cls ≠ .type "tuple" := fun b m o q => by
   simp at m
   rcases m with rfl | rfl
   ·rw [hS] at q; cases q; exact ⟨nofun, ty_ne⟩
   ·rw [clsI _ q]; exact ⟨nofun, ty_ne⟩
  have e3 : (acc ++ [Value.ref m]).toArray = acc.toArray.push (.ref m) := by simp
  refine ih (i + 1) (acc ++ [.ref m]) _ _ (by lia) ⟨g, Bg, kg.trans kk, gS, gI⟩ (at_ n2 n1 hM) (at_ n4 n3 hT) (at_ n6 n5 hq) (let ⟨o, ho, r⟩ := i1; ⟨o, u3.extBut _ _ (Ne.symm n9) (k2 _ _ ho), r⟩) (let ⟨n, e⟩ := hl; ⟨n, at_ n8 n7 e⟩) (by rw [e3]; exact get?_update_seq hS2 (·.push (.ref m))) (X.imp fun _ _ z => z.x kk fun b m xs q => absurd rfl ((nSI b m _ q).2)) ?_ fun s' acc' c' k g o => h s' acc' c' (kk.trans k) (g.trans g2) (o.trans o2)
  ·rw [take_snoc ht]
   exact (Y.imp fun _ _ z => z.x kk fun b m o q => (nSI b m _ q).1).snoc hm3
theorem touch_ {S : Addr} {acc : List Value} {c : Nat} {Q : Unit → Shared → Prop} (hS : s.heap.get? S = some (listOf acc.toArray c)) (hz : acc.length ≤ 1000) (h : ∀ h' c', Heap.SameBut S s.heap h' → h'.get? S = some (listOf acc.toArray c') → Q () { s with heap := h' }) :
  wpAny (model pw w) A (Builtin.List.listTouch (.ref S)) Q E s := by
 have hsz := see
 show wpAny _ A (updateSeq S (·.push .none) >>= fun _ => updateSeq S (·.pop)) _ _ _
 refine wb (wpAny_updateSeq hS rfl ?_ (by rw [hsz, lst]; exact nlt hz (nal 1000 16776216)) (by rw [hsz]; show (acc.toArray.push _).size ≤ _; rw [Array.size_push, lst]; lia))
 have h2 := get?_update_seq (c := "list") hS (·.push Value.none)
 have h3 := get?_update_seq (c := "list") h2 (·.pop)
 rw [Array.pop_push] at h3
 exact wpAny_updateSeq h2 rfl (h _ _ ((Heap.SameBut.update ..).trans (Heap.SameBut.update ..)) h3) (by rw [hsz, Array.size_push, lst]; lia) (by rw [hsz]; show (acc.toArray.push _).pop.size ≤ _; rw [Array.pop_push, lst]; lia)
theorem call_list_map {M T I q l : Addr} {xs : List Value} {ts : List T3} {Q : Value → Shared → Prop} (hh : A.handled = none) (r : Room A 3) (hz : ts.length ≤ 1000) (B : Base w s.heap) (hM : s.heap.get? M = some (mapO T (.ref q))) (hT : s.heap.get? T = some (tupO #[.ref I])) (hq : s.heap.get? q = some (methodObj (.ref 89) (.ref 135))) (hI : s.heap.get? I = some (liO l 0))
  (hl : Ls s.heap l xs) (X : Tups s.heap xs ts) {g : Heap} (Bg : Base w g) (kg : Keeps g s.heap) (gI : g.get? I = none)
  (h : ∀ s' S us c, KeepX [I] s.heap s'.heap → s'.gens = s.gens → s'.os = s.os → s.heap.get? S = none → s'.heap.get? S = some (listOf us.toArray c) → Mts s'.heap us ts → Q (.ref S) s') :
  wpAny (model pw w) A (call (.type "list") [.ref M]) Q E s := by
 have hsz := see
 refine callType_codes (Q₁ := fun obj s₁ => obj = .ref s.heap.objs.size ∧ s₁ = { s with heap := s.heap.push (listOf #[] 0) }) PySem.F.called_list (PySem.F.typeCall_list_1 _) PySem.F.entry_list_init (code_list_new _ ⟨rfl, rfl⟩) fun obj s₁ h₁ => ?_
 obtain ⟨rfl, rfl⟩ := h₁
 have hS : (s.heap.push (listOf #[] 0)).get? s.heap.objs.size = some (listOf ([] : List Value).toArray 0) := hgs _ rfl
 have new : s.heap.get? s.heap.objs.size = none := get_size _
 have k0 : Keeps s.heap (s.heap.push (listOf #[] 0)) := Keeps.push _ _
 generalize s.heap.push (listOf #[] 0) = h0 at hS k0
 generalize s.heap.objs.size = S at hS new
 have ne : ∀ {b : Addr} {o : Obj}, s.heap.get? b = some o → b ≠ S := fun e z => by rw [z, new] at e; cases e
 refine ⟨⟨_, hS, rfl⟩, PySem.F.args_list_init_2 _ _, ?_⟩
 show wpAny _ _ (do let old ← Builtin.List.listItems (.ref S); Builtin.List.listUpdate (.ref S) (fun _ => #[]); letGo old.toList.reverse; Builtin.List.listExtendWith (.ref S) (.ref M) .none) _ _ _
 refine wb (listItems_at hS rfl (wb (listUpdate_at hS rfl ?_ (nzl _) (nzl _))))
 have hS2 := get?_update_seq (c := "list") hS (fun _ => (#[] : Array Value))
 have k2 : ∀ b o, b ≠ S → h0.get? b = some o → (h0.update S (Obj.mapSeq fun _ => (#[] : Array Value))).get? b = some o := (Heap.SameBut.update ..).extBut
 generalize h0.update S (Obj.mapSeq fun _ => (#[] : Array Value)) = h2 at hS2 k2
 have kk : ∀ b o, s.heap.get? b = some o → h2.get? b = some o := fun b o e => k2 b o (ne e) (k0 _ _ e)
 clear k0 k2 hS
 refine wb (wpAny_letGo ?_)
 unfold Builtin.List.listExtendWith
 have hMT : Shared.TypeIs { s with heap := h2 } (.ref M) "map" := ⟨_, kk _ _ hM, rfl⟩
 refine wb (wpAny_typeOf hMT ?_)
 have b1 : Builtin.List.listSameRef (.ref S) (.ref M) = false := by simp [Builtin.List.listSameRef, Ne.symm (ne hM)]
 have b2 : (Value.type "map" == Value.type "list") = false := by decide
 have b3 : (Value.type "map" == Value.type "tuple") = false := by decide
 simp only [b1, b2, b3, Bool.or_false, Bool.false_eq_true, if_false]
 refine wb (map_iter (s := { s with heap := h2 }) (kk _ _ hM) (wb (whh ?_)))
 unfold Builtin.List.listLengthHint
 refine wb (wpAny_specialOf hMT map_no_len ?_)
 show wpAny _ _ (specialOf (Value.ref M) (sO "__length_hint__") >>= _) _ _ _
 refine wb (wpAny_specialOf hMT map_no_hint (wpp ?_))
 show wpAny _ _ (rule "list.extend.makes-room" >>= fun _ => Builtin.List.listTouch (.ref S) >>= fun _ => again (.builtin "list.extend.loop" ⟨[.ref S, .ref M, .none], []⟩)) _ _ _
 refine wb (wpAny_rule (wb (touch_ (s := { s with heap := h2 }) (acc := []) hS2 (nzl _) fun h3 c3 u3 hS3 => ?_)))
 have kk : ∀ b o, s.heap.get? b = some o → h3.get? b = some o := fun b o e => u3.extBut b o (ne e) (kk _ _ e)
 have neI : ∀ {b : Addr} {o : Obj}, s.heap.get? b = some o → o.cls ≠ .type "list_iterator" → b ≠ I := fun e n z => by rw [z, hI] at e; cases e; exact n rfl
 obtain ⟨nl, hlo⟩ := id hl
 refine wpp ⟨plainId_quiet PySem.F.plain_extend_loop _, map_loop (A := A.in1) hh ⟨by have := r.depth; show A.depth + 2 < _; lia, by have := r.units; show A.units + 1 + 20 * 2 + 100 < _; lia, hh⟩ hz (neI hM ty_ne) (ne hM) (neI hT ty_ne) (ne hT) (neI hq ty_ne) (ne hq) (neI hlo ty_ne) (ne hlo) (Ne.symm (ne hI)) ts.length 0 [] c3 _ (Nat.zero_add _).symm
  ⟨g, Bg, fun b o n e => kk _ _ (kg _ _ e), kg.none new, gI⟩ (kk _ _ hM) (kk _ _ hT) (kk _ _ hq) ⟨_, kk _ _ hI, rfl, rfl⟩ ⟨nl, kk _ _ hlo⟩ hS3 (X.imp fun _ _ z => z.keeps kk) .nil fun s' acc' c' kx gg oo hS' Y => ?_⟩
 exact ⟨rfl, h s' S acc' c' (fun b o n e => kx b o (by simp at n ⊢; exact ⟨ne e, n⟩) (kk _ _ e)) gg oo new hS' Y⟩
theorem make_find (P : Params) : findCls (KF P) (.ref 135) (.type "type") (sO "_make") = some (.get (.builtin "classmethod.__get__") (.ref 91) .none (.ref 135)) := by kernel_rfl
theorem make_rec (P : Params) : (recIn (KF P) 91 "classmethod").any (fun l => l.head? == some (.ref 89)) = true := by kernel_rfl
theorem mc_rec91 (P : Params) : ∃ rest, recIn (KF P) 91 "classmethod" = some (.ref 89 :: rest) := by
 refine Ex1 (any_some (make_rec P)) fun l => an2 fun hl hh => ?_
 cases l with
 | nil => cases hh
 | cons x r => rw [List.head?_cons] at hh; cases (beq_iff_eq.mp hh); exact ⟨r, hl⟩
theorem listmap_ {x : Str} {p1 p2 p3 p4 p5 p6 p7 : Pos} {i a b c : Nat} {l : Addr} {xs : List Value} {ts : List T3} {Q : Value → Shared → Prop} (e : Ev env L ns gs) (hh : A.handled = none) (r : Room A 3) (B : Base w h₀) (S : St s₀ h₀ L ns vs own s)
  (ha : gs[a]? = some (sO "list")) (hb : gs[b]? = some (sO "map")) (hc : gs[c]? = some (sO "Match")) (hi : ns[i]? = some x) (hv : At vs i (.ref l)) (hl : Ls s.heap l xs) (X : Tups s.heap xs ts) (hz : ts.length ≤ 1000)
  (h : ∀ D us c s', St s₀ h₀ L ns vs ((D, listOf us.toArray c) :: own) s' → Mts s'.heap us ts → Q (.ref D) s') :
  wpAny (model pw w) A (eval (.Call (.Name (sO "list") p1) [.Call (.Name (sO "map") p2) [.Attribute (.Name (sO "Match") p3) (sO "_make") p4, .Name x p5] [] p6] [] p7) env) Q E s := by
 refine Ex1 (mc_rec91 w.params) fun rest hrec => ?_
 refine callTyp e S ha (gl_list B) (it_Call (callTyp e S hb (gl_map B) (it_Attribute (Attribute_name (ldg e S hc (gl_match B) ?_)))))
 refine cls_bind (B.keeps S.keep).K (mc_reads _) (make_find _) (wpAny_call (cm_get (s := { s with toks := s.toks + 1 }) (B.keeps S.keep).K hrec (handed_on rfl ?_)))
 have S1 := S.push (s' := { s with heap := s.heap.push (methodObj (.ref 89) (.ref 135)), toks := s.toks + 1 }) (methodObj (.ref 89) (.ref 135)) rfl rfl rfl rfl
 have kp : Keeps s.heap (s.heap.push (methodObj (.ref 89) (.ref 135))) := Keeps.push _ _
 refine it_Name (ld e S1 hi hv (it_nil (call_map (hl.keeps kp).isList fun s2 I T M k2 g2 o2 hI hT hM n1 n2 fI fM => it_nil ?_)))
 have S2 := S1.keeps k2 g2 o2
 have ke := kp.trans k2
 refine call_list_map hh r hz (B.keeps S2.keep) hM hT (k2 _ _ (hgs _ rfl)) hI (hl.keeps ke) (X.imp fun _ _ z => z.keeps ke) (B.keeps S1.keep) k2 fI fun s3 D us c kx g3 o3 fD hD Y => h D us c s3 ?_ Y
 have fI := kp.none fI
 exact S.made (ke.none fD) (fun b o q => kx b o (fun m => by rw [lms.mp m, fI] at q; cases q) (ke _ _ q)) hD (g3.trans g2) (o3.trans o2)
theorem toE {α : Type} {c : Sem α} {Q : α → Shared → Prop} (h : wpAny (model pw w) A c Q ff s) : wpAny (model pw w) A c Q E s := wm h (fun _ _ y => y) fun _ _ y => y.elim
theorem loop_while {test : Expr} {body : List Stmt} {pos : Pos} {Q : Flow → Shared → Prop} {n : Nat} (J : Nat → List (Option Value) → List (Addr × Obj) → Heap → Prop) (S : St s₀ h₀ L ns vs own s) (hJ : J n vs own (rest s.heap L own))
  (turn : ∀ (R : Flow → Shared → Prop) g n vs own s, Keeps h₀ g → J n vs own g → St s₀ g L ns vs own s → (∀ m vs' own' s', m < n → St s₀ g L ns vs' own' s' → J m vs' own' (rest s'.heap L own') → R .next s') →
   wpAny (model pw w) A (isTrue test env (eval test env)) (fun b s₂ => if b = true then wpAny (model pw w) A (execs body env) R ff s₂ else Q .next s₂) ff s) :
  wpAny (model pw w) A (exec (.While test body [] pos) env) Q E s := by
 refine wpAny_While (codeAny_whileLoop (fun k s' => ∃ g vs own, Keeps h₀ g ∧ St s₀ g L ns vs own s' ∧ J k vs own g) (fun k s' hs => ?_) n ⟨_, vs, own, S.old, S.rebase.1, hJ⟩)
 refine Ex3 hs fun g vs own => an3 fun kg S hJ => ?_
 refine wm (turn (fun f s₃ => f = .next ∧ ∃ m vs' own', m < k ∧ St s₀ g L ns vs' own' s₃ ∧ J m vs' own' (rest s₃.heap L own')) g k vs own s' kg hJ S fun m vs' own' s' a b c => ⟨rfl, m, vs', own', a, b, c⟩) (fun b s₂ hb => ?_) fun _ _ y => y.elim
 cases b with
 | false => exact wen hb
 | true =>
  refine wm hb (fun f s₃ hf => ?_) fun _ _ y => y.elim
  refine An2 hf fun zz1 => ex3 fun m vs' own' => an3 fun hm S' hJ' => ?_
  subst zz1
  exact ⟨m, hm, _, vs', own', kg.trans S'.old, S'.rebase.1, hJ'⟩
theorem PI.items {es : List Expr} {zs : List Int} (d : All2 (PI ns vs) es zs) (e : Ev env L ns gs) {pos : Pos} : ∀ {s : Shared} {Q : List Value → Shared → Prop}, St s₀ h₀ L ns vs own s → (∀ xs s', St s₀ h₀ L ns vs own s' → s'.heap = s.heap → IntsAre xs zs → Q xs s') →
  wpAny (model pw w) A (spliced (backTo pos (starEach es env))) Q E s := by
 induction d with
 | nil => intro s Q S h; exact wpAny_items_nil (h _ _ S rfl .nil)
 | cons p _ ih => intro s Q S h; exact wio (p.ev e S fun t s₁ S₁ e₁ => ih S₁ fun xs s₂ S₂ e₂ I => h _ _ S₂ (e₂.trans e₁) (.cons _ _ I)) (by cases p <;> rfl)
theorem PI.tuple {es : List Expr} {zs : List Int} {k : Nat} {pos : Pos} {Q : Value → Shared → Prop} (d : All2 (PI ns vs) es zs) (e : Ev env L ns gs) (S : St s₀ h₀ L ns vs own s) (hz : zs.length ≤ 1000)
  (h : ∀ a xs s', St s₀ h₀ L ns vs ((a, tupO xs.toArray) :: own) s' → Keeps s.heap s'.heap → IntsAre xs zs → Q (.ref a) s') : wpAny (model pw w) A (eval (.Tuple es k pos) env) Q E s :=
 Tuple_ (PI.items d e S fun xs s₁ S₁ e₁ I => wnt (h _ _ _ (S₁.push (tupO xs.toArray) rfl rfl rfl rfl) (e₁ ▸ Keeps.push _ _) I) (by show xs.toArray.size ≤ sizeLine; rw [lst, see, ints_len I]; exact nlt hz (nal 1000 16776216)))
theorem appT_ {x : Str} {i j n k : Nat} {l : Addr} {us : List Value} {es : List Expr} {zs : List Int} {p1 p2 p3 p4 p5 : Pos} {Q : Flow → Shared → Prop} (e : Ev env L ns gs) (S : St s₀ h₀ L ns vs own s)
  (hi : ns[i]? = some x) (hv : At vs i (.ref l)) (hj : own[j]? = some (l, listOf us.toArray n)) (hline : (p2.endLine == p3.line) = true) (d : All2 (PI ns vs) es zs) (hz : zs.length ≤ 1000) (hu : us.length ≤ 1000)
  (h : ∀ a xs c s', St s₀ h₀ L ns vs ((a, tupO xs.toArray) :: own.set j (l, listOf (us ++ [Value.ref a]).toArray c)) s' → IntsAre xs zs → Q .next s') :
  wpAny (model pw w) A (exec (.Expr (.Call (.Attribute (.Name x p1) (sO "append") p2) [.Tuple es k p5] [] p3) p4) env) Q E s := by
 refine append_ e S hi hv hj hline ?_
 refine PI.tuple d e S hz fun a xs s' S' kp I => ⟨_, _, _, j + 1, us.toArray, n, S', hj, by rw [lst, see]; exact nlt hu (nal 1000 16776216), fun s₂ S₂ => h a xs (n + 1) s₂ ?_ I⟩
 rw [show (us ++ [Value.ref a]).toArray = us.toArray.push (.ref a) by simp]
 exact S₂
theorem pop_ {x : Str} {i j n : Nat} {l : Addr} {us : List Value} {v : Value} {p1 p2 p3 : Pos} {Q : Value → Shared → Prop} (e : Ev env L ns gs) (S : St s₀ h₀ L ns vs own s)
  (hi : ns[i]? = some x) (hv : At vs i (.ref l)) (hj : own[j]? = some (l, listOf (us ++ [v]).toArray n)) (hline : (p2.endLine == p3.line) = true) (hu : us.length ≤ 1000)
  (h : ∀ c s', St s₀ h₀ L ns vs (own.set j (l, listOf us.toArray c)) s' → Keeps (hideL s.heap [l]) s'.heap → Q v s') :
  wpAny (model pw w) A (eval (.Call (.Attribute (.Name x p1) (sO "pop") p2) [] [] p3) env) Q E s := by
 refine wpAny_Call_method rfl rfl hline PySem.F.plainAttrs_list PySem.F.slot_list_pop PySem.F.type_list_pop (ld e S hi hv ?_)
 refine ⟨⟨_, S.get hj, rfl⟩, listDict (S.get hj), ?_⟩
 have hsz : (us ++ [v]).toArray.size = us.length + 1 := by simp
 have eq : (us ++ [v]).toArray.eraseIdxIfInBounds ((us ++ [v]).toArray.size - 1) = us.toArray := by
  apply Array.toList_inj.mp
  rw [hsz, Array.toList_eraseIdxIfInBounds]
  simp [List.eraseIdx_append_of_length_le]
 have hs := Heap.SameBut.update s.heap l (Obj.mapSeq fun xs => xs.eraseIdxIfInBounds ((us ++ [v]).toArray.size - 1))
 have ho := get?_update_seq (c := "list") (S.get hj) (fun xs => xs.eraseIdxIfInBounds ((us ++ [v]).toArray.size - 1))
 rw [eq] at ho
 refine P.pop_list (S.get hj) (by rw [hsz, Nat.add_sub_cancel]; simp) (h _ _ (S.update hj hs.extBut ho rfl rfl) fun b o q => hs.extBut b o (fun z => by rw [z, hideL_none (.head _)] at q; cases q) (hideL_sub _ _ _ _ q)) (by rw [hsz, see]; lia)
theorem TupI.stay (S : St s₀ h₀ L ns vs own s) {v : Value} {zs : List Int} (x : TupI s.heap v zs) (h : ∀ p ∈ own, NT p.2) : TupI (Mine.rest s.heap L own) v zs := by
 refine Ex2 x fun a xs => an3 fun e q I => ?_
 refine ⟨a, xs, e, rest_get q (fun z => ?_) fun m => ?_, I⟩
 ·rw [z] at q; exact NT.frame S.nsp q _ rfl
 ·refine Ex1 (lmm.mp m) fun p => an2 fun hp z => ?_
  have := (S.nw p hp).1
  rw [z, q] at this
  exact h p hp _ (Option.some.inj this).symm
noncomputable def NM (o : Obj) : Prop := ∀ dx xs, o ≠ mO dx xs
theorem NM.list (its : Array Value) (n : Nat) : NM (listOf its n) := nofun
theorem DictO.nm {o : Obj} (h : DictO o) : NM o := fun dx xs q => by (refine Ex2 h fun es ep e => ?_); rw [q] at e; cases e
theorem MtI.stay (S : St s₀ h₀ L ns vs own s) {v : Value} {zs : List Int} (x : MtI s.heap v zs) (h : ∀ p ∈ own, NM p.2) : MtI (Mine.rest s.heap L own) v zs := by
 refine Ex2 x fun a xs => an3 fun e zz1 I => ?_
 refine Ex1 zz1 fun dx q => ?_
 refine ⟨a, xs, e, ⟨dx, rest_get q (fun z => ?_) fun m => ?_⟩, I⟩
 ·refine Ex3 S.nsp fun oL es ep => an3 fun hL hd _ => ?_
  rw [z, hL] at q; cases q; cases hd
 ·refine Ex1 (lmm.mp m) fun p => an2 fun hp z => ?_
  have := (S.nw p hp).1
  rw [z, q] at this
  exact h p hp _ _ (Option.some.inj this).symm
theorem lt_nat (a b : Nat) : decide ((a : Int) < (b : Int)) = decide (a < b) := decide_eq_decide.mpr Int.ofNat_lt
noncomputable abbrev w4 (W : Win) : List Int := [(W.alo : Int), (W.ahi : Int), (W.blo : Int), (W.bhi : Int)]
noncomputable abbrev Q4s (h : Heap) (vs : List Value) (Ws : List Win) : Prop := All2 (fun v W => TupI h v (w4 W)) vs Ws
section
theorem ifN {x : Str} {p pos : Pos} {i : Nat} {n : Int} {body orelse : List Stmt} {Q : Flow → Shared → Prop} (e : Ev env L ns gs) (S : St s₀ h₀ L ns vs own s) (hi : ns[i]? = some x) (hv : AtI vs i n)
  (h : ∀ s', St s₀ h₀ L ns vs own s' → wpAny (model pw w) A (execs (if n != 0 then body else orelse) env) Q E s') : wpAny (model pw w) A (exec (.If (.Name x p) body orelse pos) env) Q E s := by
 refine Ex1 hv fun t hv => ?_
 refine wpAny_If (isTrue_plain (ld e S hi hv (P.truthy_int ?_)))
 have := h s S
 cases hb : (n != 0) with
 | true => rw [hb] at this; exact this
 | false => rw [hb] at this; exact this
structure GB (vs : List (Option Value)) (lq lm : Addr) (W : Win) (m : T3) (xv : Value) : Prop where
 a3 : At vs 3 (.ref lq)
 a4 : At vs 4 (.ref lm)
 a5 : AtI vs 5 W.alo
 a6 : AtI vs 6 W.ahi
 a7 : AtI vs 7 W.blo
 a8 : AtI vs 8 W.bhi
 a9 : AtI vs 9 m.1
 a10 : AtI vs 10 m.2.1
 a11 : AtI vs 11 m.2.2
 a12 : At vs 12 xv
variable {lq lm D : Addr} {oD : Obj} {W : Win} {m : T3} {xv : Value} {qs ms : List Value} {nq nm : Nat} {Q : Flow → Shared → Prop}
noncomputable abbrev GO (lq lm D : Addr) (oD : Obj) (qs ms : List Value) (nq nm : Nat) : List (Addr × Obj) := [(lq, listOf qs.toArray nq), (lm, listOf ms.toArray nm), (D, oD)]
theorem all3 {P : Obj → Prop} {a b c : Addr × Obj} (h1 : P a.2) (h2 : P b.2) (h3 : P c.2) : ∀ p ∈ [a, b, c], P p.2 := fun p hp =>
 (lmc.mp hp).elim (fun e => e ▸ h1) fun hp => (lmc.mp hp).elim (fun e => e ▸ h2) fun hp => lms.mp hp ▸ h3
theorem gmb_push {es : List Expr} {V : Win} {b : Bool} {test : Expr} {p1 p2 p3 p4 p5 pos : Pos} (e : Ev env L N203 gs) (S : St s₀ h₀ L N203 vs (GO lq lm D oD qs ms nq nm) s) (hD : DictO oD) (hv : At vs 3 (.ref lq)) (dt : PB N203 vs test b) (d : All2 (PI N203 vs) es (w4 V)) (hq : qs.length ≤ 900)
  (hline : (p2.endLine == p3.line) = true)
  (h : ∀ g s' new nq', Keeps h₀ g → St s₀ g L N203 vs (GO lq lm D oD (qs ++ new) ms nq' nm) s' → Q4s g new (if b then [V] else []) → Q .next s') :
  wpAny (model pw w) A (exec (.If test [.Expr (.Call (.Attribute (.Name (sO "queue") p1) (sO "append") p2) [.Tuple es 0 p5] [] p3) p4] [] pos) env) Q E s := by
 refine ifP e S dt fun s₁ S₁ e₁ => ?_
 cases b with
 | false => exact wen (h h₀ s₁ [] nq (.refl _) (by rw [lan]; exact S₁) .nil)
 | true =>
  refine wec (appT_ e S₁ (i := 3) (j := 0) rfl hv rfl hline d (by show (4 : Nat) ≤ 1000; decide) (by exact nlt hq (nal 900 100)) fun a xs c s₂ S₂ I => wen ?_)
  have S₃ := S₂.drop (own' := GO lq lm D oD (qs ++ [.ref a]) ms c nm) (lsc _ _)
  have T : TupI s₂.heap (.ref a) (w4 V) := ⟨a, xs, rfl, S₂.get (j := 0) rfl, I⟩
  exact h _ s₂ [.ref a] c S₃.rebase.2 S₃.rebase.1 (.cons (T.stay S₃ (all3 (.list _ _) (.list _ _) hD.nt)) .nil)
theorem gmb_if (e : Ev env L N203 gs) (S : St s₀ h₀ L N203 vs (GO lq lm D oD qs ms nq nm) s) (hD : DictO oD) (F : GB vs lq lm W m xv) (hq : qs.length ≤ 800) (hm : ms.length ≤ 900)
  (h : ∀ g s' new add nq' nm', Keeps h₀ g → St s₀ g L N203 vs (GO lq lm D oD (qs ++ new) (ms ++ add) nq' nm') s' → Q4s g new (if m.2.2 = 0 then [] else subs W m) → add = (if m.2.2 = 0 then [] else [xv]) → Q .next s') :
  wpAny (model pw w) A (exec (stAt (forB (stAt (fnB (kid (st 5) 7)) 5)) 2) env) Q E s := by
 conv in (stAt _ _) => whnf
 refine ifN e S (i := 11) rfl F.a11 fun s₁ S₁ => ?_
 by_cases hk : m.2.2 = 0
 ·rw [if_pos hk] at h
  rw [hk]
  exact wen (h h₀ s₁ [] [] nq nm (.refl _) (by rw [lan, lan]; exact S₁) .nil (if_pos hk).symm)
 ·rw [if_neg hk] at h
  rw [show (((m.2.2 : Nat) : Int) != 0) = true from bne_iff_ne.mpr (by lia)]
  rw [if_pos rfl]
  refine wec (appN_ e S₁ (i := 4) (i' := 12) (j := 1) rfl F.a4 rfl F.a12 rfl rfl (by exact nlt hm (nal 900 100)) fun c s₂ S₂ => ?_)
  refine wec (gmb_push (V := WL W m) (b := goL W m) e S₂ hD F.a3 ?_ (.cons (.at F.a5) (.cons (.at F.a9) (.cons (.at F.a7) (.cons (.at F.a10) .nil)))) (by exact nlt hq (nal 800 100)) rfl fun g s₃ n1 c1 k1 S₃ X1 => ?_)
  ·unfold goL
   rw [← lt_nat, ← lt_nat]
   exact .and (.lt (.at F.a5) (.at F.a9)) (.lt (.at F.a7) (.at F.a10))
  have hl : n1.length ≤ 1 := by rw [X1.len]; cases goL W m <;> simp
  refine wec (gmb_push (V := WR W m) (b := goR W m) e S₃ hD F.a3 ?_ (.cons (.add (.at F.a9) (.at F.a11)) (.cons (.at F.a6) (.cons (.add (.at F.a10) (.at F.a11)) (.cons (.at F.a8) .nil)))) (by rw [lla]; lia) rfl fun g2 s₄ n2 c2 k2 S₄ X2 => ?_)
  ·unfold goR
   rw [← lt_nat, ← lt_nat]
   exact .and (.lt (.add (.at F.a9) (.at F.a11)) (.at F.a6)) (.lt (.add (.at F.a10) (.at F.a11)) (.at F.a8))
  rw [laa] at S₄
  exact wen (h g2 s₄ (n1 ++ n2) [xv] c2 c (k1.trans k2) S₄ ((X1.imp fun _ _ z => z.keeps k2).app X2) (if_neg hk).symm)
end
end
section
open PySem PySem.W PyProof.Rows
noncomputable def mu (Ws : List Win) : Nat := (Ws.map fun W => 2 * (W.ahi - W.alo) + 1).sum
theorem mu_app (a b : List Win) : mu (a ++ b) = mu a + mu b := by unfold mu; rw [lma, List.sum_append]
theorem mu_one (W : Win) : mu [W] = 2 * (W.ahi - W.alo) + 1 := by unfold mu; simp
theorem mu_len : ∀ Ws : List Win, Ws.length ≤ mu Ws
 | [] => nzl _
 | W :: Ws => by have := mu_len Ws; have e := mu_app [W] Ws; rw [mu_one] at e; rw [List.length_cons, show W :: Ws = [W] ++ Ws from rfl, e]; lia
structure GInv (A B : List Int) (S : List T3) (Ws : List Win) (acc : List T3) : Prop where
 ok : ∀ W ∈ Ws, WOk A B W
 perm : (acc ++ Ws.flatMap (gr S)).Perm (Gr [] S)
 fit : acc.length + mu Ws ≤ 2 * A.length + 1
variable {A B : List Int} {S acc : List T3} {Ws : List Win} {W : Win}
noncomputable abbrev flmW (A B : List Int) (W : Win) : T3 := flm A B W.alo W.ahi W.blo W.bhi
theorem GInv.start (hs : Sorted A B S) : GInv A B S [W₀ A B] [] := by
 refine ⟨fun W h => by rw [lms.mp h]; exact ok_all, ?_, ?_⟩
 ·rw [List.nil_append, List.flatMap_singleton, gr_all hs]
 ·rw [mu_one]; show 0 + (2 * (A.length - 0) + 1) ≤ _; lia
theorem GInv.step (hA : A.Nodup) (hB : B.Nodup) (hs : Sorted A B S) (g : GInv A B S (Ws ++ [W]) acc) :
  mu (Ws ++ (if (flmW A B W).2.2 = 0 then [] else subs W (flmW A B W))) < mu (Ws ++ [W]) ∧ GInv A B S (Ws ++ (if (flmW A B W).2.2 = 0 then [] else subs W (flmW A B W))) (acc ++ (if (flmW A B W).2.2 = 0 then [] else [flmW A B W])) := by
 have ok := g.ok W (List.mem_append_right _ (lms.mpr rfl))
 have p := g.perm
 have f := g.fit
 rw [List.flatMap_append, List.flatMap_singleton] at p
 rw [mu_app, mu_one] at f
 rw [mu_app, mu_app, mu_one]
 by_cases hk : (flmW A B W).2.2 = 0
 ·rw [if_pos hk, if_pos hk, lan, lan]
  rw [gr_zero hA hB hs ok hk, lan] at p
  exact ⟨by rw [show mu [] = 0 from rfl]; omega, fun V h => g.ok V (lml _ h), p, by lia⟩
 ·rw [if_neg hk, if_neg hk]
  have hk' : 0 < (flmW A B W).2.2 := Nat.pos_of_ne_zero hk
  obtain ⟨hr, hw⟩ : IsRun A B (flmW A B W) ∧ W.has (flmW A B W).1 (flmW A B W).2.1 (flmW A B W).2.2 := flm_run hA hB ok hk'
  have st : (gr S W).Perm (flmW A B W :: (subs W (flmW A B W)).flatMap (gr S)) := gr_step hA hB hs ok hk'
  generalize flmW A B W = r at hk hk' hr hw st
  have hw' := hw
  obtain ⟨w1, w2, w3, w4⟩ := hw'
  have m : mu (subs W r) < 2 * (W.ahi - W.alo) + 1 := by
   unfold subs
   rw [mu_app]
   have e1 : mu (if goL W r = true then [WL W r] else []) ≤ 2 * (r.1 - W.alo) + 1 := by
    split
    ·rw [mu_one]; exact nlr _
    ·exact nzl _
   have e2 : mu (if goR W r = true then [WR W r] else []) ≤ 2 * (W.ahi - (r.1 + r.2.2)) + 1 := by
    split
    ·rw [mu_one]; exact nlr _
    ·exact nzl _
   lia
  refine ⟨by lia, fun V h => ?_, ?_, ?_⟩
  ·rcases lmp.mp h with h | h
   ·exact g.ok V (lml _ h)
   ·unfold subs at h
    rcases lmp.mp h with h | h
    ·split at h
     ·rw [lms.mp h]; exact ok_left hA hB ok hr hw
     ·cases h
    ·split at h
     ·rw [lms.mp h]; exact ok_right hA hB ok hr hw
     ·cases h
  ·rw [List.flatMap_append]
   refine List.Perm.trans ?_ p
   rw [laa]
   refine List.Perm.append_left acc ?_
   refine List.Perm.trans ?_ (st.symm.append_left _)
   show ([r] ++ (Ws.flatMap (gr S) ++ (subs W r).flatMap (gr S))).Perm (Ws.flatMap (gr S) ++ ([r] ++ (subs W r).flatMap (gr S)))
   rw [← laa, ← laa]
   exact List.perm_append_comm.append_right _
  ·rw [lla, mu_app]
   show acc.length + 1 + _ ≤ _
   lia
theorem GInv.done (g : GInv A B S [] acc) : acc.Perm (Gr [] S) := by
 have := g.perm
 rwa [List.flatMap_nil, lan] at this
theorem Gr_keys (hA : A.Nodup) (hB : B.Nodup) (hs : Sorted A B S) {K : List T3} (p : K.Perm (Gr [] S)) : (K.map fun r => (r.1 : Int)).Nodup := by
 have hne : S.Pairwise (· ≠ ·) := hs.ord.imp fun {a b} g q => by rw [q] at g; unfold better at g; lia
 have hnc := Gr_nc (kept := []) hA hB (fun x hx => (hs.mem x).mp hx) (fun _ h => nomatch h) hne (fun _ h => nomatch h) List.Pairwise.nil
 refine (p.map _).nodup_iff.mpr ?_
 refine List.pairwise_map.mpr (hnc.imp_of_mem fun {a b} ha hb h q => ?_)
 have ra : IsRun A B a := (Gr_mem ha).elim (fun h => nomatch h) fun h => (hs.mem a).mp h
 have rb : IsRun A B b := (Gr_mem hb).elim (fun h => nomatch h) fun h => (hs.mem b).mp h
 have ap := ra.apart hA hB rb h.1
 have p1 := ra.pos
 have p2 := rb.pos
 have q : a.1 = b.1 := Int.ofNat.inj q
 lia
end
section
section
variable {A B : List Int}
noncomputable def runAt (A B : List Int) (p : Nat) : Option T3 := match posOf B (A.getD p 0) with
 | none => none
 | some q => if p = 0 ∨ q = 0 ∨ A[p - 1]? ≠ B[q - 1]? then some (runFrom A B p q) else none
noncomputable def runsN (A B : List Int) (n : Nat) : List T3 := (List.range n).filterMap (runAt A B)
theorem runsN_succ (n : Nat) : runsN A B (n + 1) = runsN A B n ++ (runAt A B n).toList := by
 unfold runsN
 rw [List.range_succ, List.filterMap_append]
 cases h : runAt A B n <;> simp [h]
theorem runAt_fst {p : Nat} {r : T3} (h : runAt A B p = some r) : r.1 = p := by
 unfold runAt at h
 split at h
 ·cases h
 ·split at h
  ·cases h; rfl
  ·cases h
theorem runsN_ord : ∀ n, (runsN A B n).Pairwise (fun r r' => r.1 < r'.1) ∧ ∀ r ∈ runsN A B n, r.1 < n
 | 0 => ⟨List.Pairwise.nil, fun _ h => nomatch h⟩
 | n + 1 => by
  have ⟨h1, h2⟩ := runsN_ord n
  rw [runsN_succ]
  cases h : runAt A B n with
  | none =>
   rw [Option.toList_none, lan]
   exact ⟨h1, fun r m => Nat.lt_succ_of_lt (h2 r m)⟩
  | some x =>
   have := runAt_fst h
   rw [Option.toList_some]
   refine ⟨List.pairwise_append.mpr ⟨h1, List.pairwise_singleton _ _, fun r hr y hy => ?_⟩, fun r m => ?_⟩
   ·rw [lms.mp hy, this]; exact h2 r hr
   ·rcases lmp.mp m with m | m
    ·exact Nat.lt_succ_of_lt (h2 r m)
    ·rw [lms.mp m, this]; exact nls _
theorem posOf_at {x : Int} {q : Nat} (h : posOf B x = some q) : B[q]? = some x := by
 refine Ex1 (lfe.mp h) fun a => an2 fun b _ => ?_
 rw [lge a, eq_of_beq b]
theorem runsN_mem (hB : B.Nodup) {r : T3} : r ∈ runsN A B A.length ↔ IsRun A B r := by
 unfold runsN
 rw [List.mem_filterMap]
 constructor
 ·refine ex1 fun p => an2 fun hp h => ?_
  have hp := List.mem_range.mp hp
  unfold runAt at h
  split at h
  ·cases h
  ·rename_i q hq
   split at h
   ·rename_i hl
    cases h
    have := posOf_at hq
    exact runFrom_run hp (lt_of_get this) ((getD_at hp).trans this.symm) hl
   ·cases h
 ·intro R
  have h1 := R.com.ha
  have h2 := R.com.hb
  have h3 := R.pos
  have e0 := R.com.eq 0 R.pos
  rw [Nat.add_zero, Nat.add_zero] at e0
  have hp : r.1 < A.length := by exact nll (Nat.lt_add_of_pos_right h3) h1
  have hq : r.2.1 < B.length := by exact nll (Nat.lt_add_of_pos_right h3) h2
  refine ⟨r.1, List.mem_range.mpr hp, ?_⟩
  unfold runAt
  rw [posOf_some hB (e0.symm.trans (getD_at hp))]
  dsimp only
  rw [if_pos R.left]
  have X := runFrom_run hp hq e0 R.left
  exact congrArg some ((R.diag X (t := 0) R.pos rfl rfl).symm)
noncomputable def rkey (r : T3) : Int := r.1 - 64 * r.2.2
theorem rkey_better {r r' : T3} (h : r.1 < 64) (h' : r'.1 < 64) (k : rkey r < rkey r') : better r r' := by
 unfold rkey at k
 unfold better
 lia
theorem sorted_runs (hB : B.Nodup) (h64 : A.length ≤ 64) {S : List T3} (p : S.Perm (runsN A B A.length)) (o : S.Pairwise fun x y => rkey x < rkey y) : Sorted A B S := by
 have m : ∀ r ∈ S, r.1 < 64 := fun r hr => nll ((runsN_ord A.length).2 r (p.mem_iff.mp hr)) h64
 exact ⟨fun r => p.mem_iff.trans (runsN_mem hB), o.imp_of_mem fun ha hb k => rkey_better (m _ ha) (m _ hb) k⟩
theorem rkey_nodup (h64 : A.length ≤ 64) : ((runsN A B A.length).map rkey).Nodup := by
 have ⟨h1, h2⟩ := runsN_ord (A := A) (B := B) A.length
 rw [List.Nodup, List.pairwise_map]
 refine h1.imp_of_mem fun {a b} ha hb k q => ?_
 have := h2 _ ha
 have := h2 _ hb
 unfold rkey at q
 lia
end
end
section
open PySem
noncomputable abbrev two : UInt64 := 4611686018427387904
noncomputable abbrev one1 : UInt64 := 4607182418800017408
noncomputable def qr (m n : Nat) : UInt64 := if n = 0 then one1 else Float64.div (Float64.mul two (Float64.ofInt m)) (Float64.ofInt n)
theorem num_inf (n : Nat) (h : n < 19) : ¬ Float64.isInf (Float64.ofInt n) = true := by
 have : ∀ k : Fin 19, Float64.isInf (Float64.ofInt (k.val : Int)) = false := by decide +kernel
 rw [this ⟨n, h⟩]; exact bfn
theorem num_zero (n : Nat) (h : n < 19) (h0 : n ≠ 0) : ¬ Float64.isZero (Float64.ofInt n) = true := by
 have : ∀ k : Fin 18, Float64.isZero (Float64.ofInt ((k.val + 1 : Nat) : Int)) = false := by decide +kernel
 have := this ⟨n - 1, by omega⟩
 rw [show n - 1 + 1 = n by omega] at this
 rw [this]; exact bfn
theorem qr_eq (n m k : Nat) (hn : n < 19) (hm : m < 10) (hk : k < 10) (h0 : n ≠ 0) : (Float64.cmp (qr m n) (qr k n) == some Ordering.eq) = decide (m = k) := by
 have : ∀ n : Fin 18, ∀ m k : Fin 10, (Float64.cmp (qr m.val (n.val + 1)) (qr k.val (n.val + 1)) == some Ordering.eq) = decide (m.val = k.val) := by decide +kernel
 have := this ⟨n - 1, by omega⟩ ⟨m, hm⟩ ⟨k, hk⟩
 rwa [show n - 1 + 1 = n by lia] at this
theorem qr_zero (m k : Nat) : (Float64.cmp (qr m 0) (qr k 0) == some Ordering.eq) = true := by
 have : (Float64.cmp one1 one1 == some Ordering.eq) = true := by decide +kernel
 exact this
theorem qr_one (n m : Nat) (hn : n < 19) (hm : m < 10) (h0 : n ≠ 0) : (Float64.cmp (qr m n) one1 == some Ordering.eq) = decide (2 * m = n) := by
 have : ∀ n : Fin 18, ∀ m : Fin 10, (Float64.cmp (qr m.val (n.val + 1)) one1 == some Ordering.eq) = decide (2 * m.val = n.val + 1) := by decide +kernel
 have := this ⟨n - 1, by omega⟩ ⟨m, hm⟩
 rwa [show n - 1 + 1 = n by lia] at this
theorem qr_one0 (m : Nat) : (Float64.cmp (qr m 0) one1 == some Ordering.eq) = true := qr_zero m m
end
section
theorem posOf_idx {B : List Int} {z : Int} : posOf B z = if B.any (· == z) then some (B.idxOf z) else none := by
 unfold posOf
 split
 ·rename_i h
  rw [List.findIdx?_eq_some_iff_findIdx_eq]
  exact ⟨List.findIdx_lt_length_of_exists (by simpa using h), rfl⟩
 ·rename_i h
  rw [List.findIdx?_eq_none_iff]
  intro x hx
  rw [Bool.eq_false_iff]
  exact fun q => h (List.any_eq_true.mpr ⟨x, hx, q⟩)
theorem cpl_test {A B : List Int} {p q n : Nat} (hs : n ≤ cpl (A.drop p) (B.drop q)) :
  (decide ((p : Int) + n < A.length) && (decide ((q : Int) + n < B.length) && (A.getD (p + n) 0 == B.getD (q + n) 0))) = decide (n < cpl (A.drop p) (B.drop q)) := by
 have l1 := cpl_le (A.drop p) (B.drop q)
 rw [List.length_drop, List.length_drop] at l1
 have e1 := cpl_eq (A.drop p) (B.drop q) n
 rw [lgd, lgd] at e1
 by_cases h : n < cpl (A.drop p) (B.drop q)
 ·have e2 := e1 h
  rw [getD_at (l := A) (by lia), getD_at (l := B) (by lia)] at e2
  rw [decide_eq_true h, decide_eq_true (by lia), decide_eq_true (by lia), Option.some.inj e2, beq_self_eq_true]; rfl
 ·have hk : n = cpl (A.drop p) (B.drop q) := by lia
  rw [decide_eq_false h]
  by_cases h1 : p + n < A.length
  ·by_cases h2 : q + n < B.length
   ·have e3 := cpl_ne (A.drop p) (B.drop q) (by rw [List.length_drop, ← hk]; lia) (by rw [List.length_drop, ← hk]; lia)
    rw [← hk, lgd, lgd, getD_at (l := A) h1, getD_at (l := B) h2] at e3
    rw [show (A.getD (p + n) 0 == B.getD (q + n) 0) = false from beq_eq_false_iff_ne.mpr fun z => e3 (congrArg some z), Bool.and_false, Bool.and_false]
   ·rw [decide_eq_false (p := (q : Int) + n < B.length) (by lia), Bool.false_and, Bool.and_false]
  ·rw [decide_eq_false (p := (p : Int) + n < A.length) (by lia), Bool.false_and]
theorem left_test {A B : List Int} {p q : Nat} (hp : p < A.length) (hq : q < B.length) :
  (((p : Int) == 0) || (((q : Int) == 0) || (A.getD (p - 1) 0 != B.getD (q - 1) 0))) = decide (p = 0 ∨ q = 0 ∨ A[p - 1]? ≠ B[q - 1]?) := by
 have h1 : ((p : Int) == 0) = decide (p = 0) := by rw [bei]; simp
 have h2 : ((q : Int) == 0) = decide (q = 0) := by rw [bei]; simp
 have h3 : (A.getD (p - 1) 0 != B.getD (q - 1) 0) = decide (A[p - 1]? ≠ B[q - 1]?) := by
  rw [getD_at (l := A) (i := p - 1) (by exact nol (Nat.sub_le p 1) hp), getD_at (l := B) (i := q - 1) (by exact nol (Nat.sub_le q 1) hq), bei]; simp
 rw [h1, h2, h3, ← Bool.decide_or, ← Bool.decide_or]
theorem cpl_one {A B : List Int} {p q : Nat} (hp : p < A.length) (h : A[p]? = B[q]?) : 1 ≤ cpl (A.drop p) (B.drop q) := by
 have hq : q < B.length := lt_of_get (h.symm.trans (getD_at hp))
 exact runFrom_pos hp hq h
section
variable {α : Type}
noncomputable def sl (l : List α) (i p : Nat) : List α := (l.take p).drop i
theorem sl_nil (l : List α) {i p : Nat} (h : p ≤ i) : sl l i p = [] := List.drop_eq_nil_of_le (by rw [llt]; omega)
theorem sl_drop (l : List α) {i p : Nat} (h : i ≤ p) : sl l i p ++ l.drop p = l.drop i := by
 unfold sl
 have e := congrArg (List.drop i) (List.take_append_drop p l)
 rw [List.drop_append] at e
 by_cases q : i ≤ l.length
 ·rw [show i - (l.take p).length = 0 by rw [llt]; omega, List.drop_zero] at e
  exact e
 ·rw [List.drop_eq_nil_of_le (as := l) (i := p) (by omega), lan, List.drop_take, List.drop_eq_nil_of_le (as := l) (i := i) (by omega), List.take_nil]
noncomputable def gapA (l : List α) : Nat → List T3 → List α
 | i, [] => l.drop i
 | i, r :: K => sl l i r.1 ++ gapA l (r.1 + r.2.2) K
noncomputable def gapB (l : List α) : Nat → List T3 → List α
 | j, [] => l.drop j
 | j, r :: K => sl l j r.2.1 ++ gapB l (r.2.1 + r.2.2) K
noncomputable def keptA (l : List α) (K : List T3) : List α := K.flatMap fun r => sl l r.1 (r.1 + r.2.2)
noncomputable def keptB (l : List α) (K : List T3) : List α := K.flatMap fun r => sl l r.2.1 (r.2.1 + r.2.2)
noncomputable def laidK (a b : List α) : Nat → Nat → List T3 → List α
 | i, j, [] => a.drop i ++ b.drop j
 | i, j, r :: K => sl a i r.1 ++ (sl b j r.2.1 ++ (sl a r.1 (r.1 + r.2.2) ++ laidK a b (r.1 + r.2.2) (r.2.1 + r.2.2) K))
noncomputable abbrev Lay (α : Type) := List α × List α × List α
noncomputable def layStep (a b : List α) (s : Lay α) (c : Code) : Lay α := match c with
 | (.eql, i, p, _, _) => (s.1 ++ sl a i p, s.2.1, s.2.2)
 | (_, i, p, j, q) => (s.1 ++ sl a i p ++ sl b j q, s.2.1 ++ sl a i p, s.2.2 ++ sl b j q)
theorem sl_full (l : List α) (i : Nat) : sl l i l.length = l.drop i := by unfold sl; rw [ltl]
theorem lay_tag (a b : List α) (s : Lay α) {i j : Nat} {r : T3} (h1 : i ≤ r.1) (h2 : j ≤ r.2.1) : (tagC i j r).foldl (layStep a b) s = (s.1 ++ sl a i r.1 ++ sl b j r.2.1, s.2.1 ++ sl a i r.1, s.2.2 ++ sl b j r.2.1) := by
 unfold tagC
 by_cases c : i < r.1
 ·by_cases d : j < r.2.1
  ·rw [if_pos ⟨c, d⟩]; rfl
  ·rw [if_neg (fun q => d q.2), if_pos c]; rfl
 ·rw [if_neg (fun q => c q.1), if_neg c]
  by_cases d : j < r.2.1
  ·rw [if_pos d]; rfl
  ·rw [if_neg d, sl_nil a (Nat.le_of_not_lt c), sl_nil b (Nat.le_of_not_lt d)]; simp
theorem lay_equal (a b : List α) (s : Lay α) (r : T3) : (equalC r).foldl (layStep a b) s = (s.1 ++ sl a r.1 (r.1 + r.2.2), s.2.1, s.2.2) := by
 unfold equalC
 by_cases c : 0 < r.2.2
 ·rw [if_pos c]; rfl
 ·rw [if_neg c, sl_nil a (by omega)]; simp
theorem lay_codes {A B : List Int} (a b : List α) (ha : a.length = A.length) (hb : b.length = B.length) : ∀ {K : List T3} {i j : Nat} (s : Lay α), Chn A B i j K →
  (codesC i j (K ++ [(A.length, B.length, 0)])).foldl (layStep a b) s = (s.1 ++ laidK a b i j K, s.2.1 ++ gapA a i K, s.2.2 ++ gapB b j K)
 | [], i, j, s, h => by
  show (tagC i j _ ++ equalC _ ++ []).foldl _ _ = _
  rw [lan, List.foldl_append, lay_tag a b s h.1 h.2, lay_equal]
  show (s.1 ++ sl a i A.length ++ sl b j B.length ++ sl a A.length A.length, s.2.1 ++ sl a i A.length, s.2.2 ++ sl b j B.length) = _
  rw [sl_nil a (nlr _), ← ha, ← hb, sl_full, sl_full, lan, laa]
  rfl
 | r :: K, i, j, s, h => by
  show (tagC i j r ++ equalC r ++ codesC _ _ (K ++ _)).foldl _ _ = _
  rw [List.foldl_append, List.foldl_append, lay_tag a b s h.1.1 h.1.2, lay_equal, lay_codes a b ha hb _ h.2.2.2.2]
  simp only [laidK, gapA, gapB, laa]
theorem laid_perm (a b : List Int) : ∀ {K : List T3} {i j : Nat}, (laidK a b i j K).Perm ((gapA a i K ++ keptA a K) ++ gapB b j K)
 | [], i, j => by show (a.drop i ++ b.drop j).Perm _; simp [gapA, gapB, keptA]
 | r :: K, i, j => by
  have ih := laid_perm a b (K := K) (i := r.1 + r.2.2) (j := r.2.1 + r.2.2)
  show (sl a i r.1 ++ (sl b j r.2.1 ++ (sl a r.1 (r.1 + r.2.2) ++ laidK a b _ _ K))).Perm (((sl a i r.1 ++ gapA a _ K) ++ (sl a r.1 (r.1 + r.2.2) ++ keptA a K)) ++ (sl b j r.2.1 ++ gapB b _ K))
  rw [laa, laa]
  refine List.Perm.append_left _ ?_
  generalize gapA a (r.1 + r.2.2) K = G at ih ⊢
  generalize gapB b (r.2.1 + r.2.2) K = H at ih ⊢
  generalize keptA a K = X at ih ⊢
  generalize sl a r.1 (r.1 + r.2.2) = Y
  generalize sl b j r.2.1 = Z
  refine ((ih.append_left Y).append_left Z).trans ?_
  rw [List.perm_iff_count]
  intro x
  simp only [List.count_append]
  lia
theorem gapA_perm (a : List Int) {A B : List Int} (ha : a.length = A.length) : ∀ {K : List T3} {i j : Nat}, Chn A B i j K → (a.drop i).Perm (gapA a i K ++ keptA a K)
 | [], i, j, _ => by simp [gapA, keptA]
 | r :: K, i, j, h => by
  have ih := gapA_perm a ha h.2.2.2.2
  rw [← sl_drop a h.1.1, ← sl_drop a (nla r.1 r.2.2)]
  show (sl a i r.1 ++ (sl a r.1 (r.1 + r.2.2) ++ a.drop (r.1 + r.2.2))).Perm ((sl a i r.1 ++ gapA a _ K) ++ (sl a r.1 (r.1 + r.2.2) ++ keptA a K))
  rw [List.perm_iff_count] at ih ⊢
  intro x
  have := ih x
  simp only [List.count_append] at this ⊢
  lia
theorem gapB_perm (b : List Int) {A B : List Int} (hb : b.length = B.length) : ∀ {K : List T3} {i j : Nat}, Chn A B i j K → (b.drop j).Perm (gapB b j K ++ keptB b K)
 | [], i, j, _ => by simp [gapB, keptB]
 | r :: K, i, j, h => by
  have ih := gapB_perm b hb h.2.2.2.2
  rw [← sl_drop b h.1.2, ← sl_drop b (nla r.2.1 r.2.2)]
  show (sl b j r.2.1 ++ (sl b r.2.1 (r.2.1 + r.2.2) ++ b.drop (r.2.1 + r.2.2))).Perm ((sl b j r.2.1 ++ gapB b _ K) ++ (sl b r.2.1 (r.2.1 + r.2.2) ++ keptB b K))
  rw [List.perm_iff_count] at ih ⊢
  intro x
  have := ih x
  simp only [List.count_append] at this ⊢
  lia
theorem gapA_sub (a : List Int) {A B : List Int} : ∀ {K : List T3} {i j : Nat}, Chn A B i j K → (gapA a i K).Sublist (a.drop i)
 | [], i, j, _ => List.Sublist.refl _
 | r :: K, i, j, h => by
  rw [← sl_drop a h.1.1]
  refine List.Sublist.append_left ((gapA_sub a h.2.2.2.2).trans ?_) _
  rw [← sl_drop a (nla r.1 r.2.2)]
  exact List.sublist_append_right _ _
theorem gapB_sub (b : List Int) {A B : List Int} : ∀ {K : List T3} {i j : Nat}, Chn A B i j K → (gapB b j K).Sublist (b.drop j)
 | [], i, j, _ => List.Sublist.refl _
 | r :: K, i, j, h => by
  rw [← sl_drop b h.1.2]
  refine List.Sublist.append_left ((gapB_sub b h.2.2.2.2).trans ?_) _
  rw [← sl_drop b (nla r.2.1 r.2.2)]
  exact List.sublist_append_right _ _
theorem keptA_sub (a : List Int) {A B : List Int} : ∀ {K : List T3} {i j : Nat}, Chn A B i j K → (keptA a K).Sublist (a.drop i)
 | [], i, j, _ => List.nil_sublist _
 | r :: K, i, j, h => by
  rw [← sl_drop a h.1.1, ← sl_drop a (nla r.1 r.2.2)]
  exact (List.Sublist.append_left (keptA_sub a h.2.2.2.2) _).trans (List.sublist_append_right _ _)
theorem keptB_sub (b : List Int) {A B : List Int} : ∀ {K : List T3} {i j : Nat}, Chn A B i j K → (keptB b K).Sublist (b.drop j)
 | [], i, j, _ => List.nil_sublist _
 | r :: K, i, j, h => by
  rw [← sl_drop b h.1.2, ← sl_drop b (nla r.2.1 r.2.2)]
  exact (List.Sublist.append_left (keptB_sub b h.2.2.2.2) _).trans (List.sublist_append_right _ _)
theorem sl_com {A B : List Int} {x y k : Nat} (c : Com A B x y k) : sl A x (x + k) = sl B y (y + k) := by
 refine List.ext_getElem? fun t => ?_
 unfold sl
 rw [lgd, lgd, List.getElem?_take, List.getElem?_take]
 by_cases h : t < k
 ·rw [if_pos (by omega), if_pos (by lia)]; exact c.eq t h
 ·rw [if_neg (by omega), if_neg (by lia)]
theorem kept_same {A B : List Int} : ∀ {K : List T3} {i j : Nat}, Chn A B i j K → keptA A K = keptB B K ∧ (keptA A K).length = (K.map (·.2.2)).sum
 | [], i, j, _ => ⟨rfl, rfl⟩
 | r :: K, i, j, h => by
  refine An2 (kept_same h.2.2.2.2) fun e l => ?_
  have hl : (sl A r.1 (r.1 + r.2.2)).length = r.2.2 := by
   have := h.2.2.1.ha
   unfold sl
   rw [List.length_drop, llt]; omega
  refine ⟨?_, ?_⟩
  ·show sl A _ _ ++ keptA A K = sl B _ _ ++ keptB B K
   rw [sl_com h.2.2.1, e]
  ·show (sl A _ _ ++ keptA A K).length = r.2.2 + (K.map (·.2.2)).sum
   rw [lla, hl, l]
theorem sub_filter {l g c : List Int} (nd : l.Nodup) (hs : g.Sublist l) (hp : l.Perm (g ++ c)) : g = l.filter fun x => !decide (x ∈ c) := by
 have nd2 := List.nodup_append.mp (hp.nodup_iff.mp nd)
 have hg : (g.filter fun x => !decide (x ∈ c)) = g := List.filter_eq_self.mpr fun x hx => by rw [decide_eq_false fun m => nd2.2.2 x hx x m rfl]; rfl
 have hc : (c.filter fun x => !decide (x ∈ c)) = [] := List.filter_eq_nil_iff.mpr fun x hx => by rw [decide_eq_true hx]; exact bfn
 have s := hs.filter fun x => !decide (x ∈ c)
 have e := hp.filter fun x => !decide (x ∈ c)
 rw [List.filter_append, hg, hc, lan] at e
 rw [hg] at s
 exact s.eq_of_length e.length_eq.symm
def Full (A B : List Int) (K : List T3) : Prop := ∀ x ∈ A, x ∈ B → x ∈ keptA A K
variable {A B : List Int} {K S : List T3}
theorem c_subA (h : Chn A B 0 0 K) : (keptA A K).Sublist A := keptA_sub A h
theorem c_subB (h : Chn A B 0 0 K) : (keptA A K).Sublist B := by rw [(kept_same h).1]; exact keptB_sub B h
theorem c_both (h : Chn A B 0 0 K) {x : Int} (m : x ∈ keptA A K) : x ∈ A ∧ x ∈ B := ⟨(c_subA h).subset m, (c_subB h).subset m⟩
theorem c_subF (h : Chn A B 0 0 K) : (keptA A K).Sublist (A.filter fun x => decide (x ∈ B)) := by
 have := (c_subA h).filter fun x => decide (x ∈ B)
 rwa [List.filter_eq_self.mpr fun x hx => decide_eq_true (c_both h hx).2] at this
theorem full_len (hA : A.Nodup) (h : Chn A B 0 0 K) : Full A B K ↔ (keptA A K).length = (A.filter fun x => decide (x ∈ B)).length := by
 constructor
 ·intro f
  refine (perm_of_mem (hA.sublist (c_subA h)) (hA.sublist List.filter_sublist) fun c => ?_).length_eq
  rw [lmf, decide_eq_true_eq]
  exact ⟨c_both h, fun m => f c m.1 m.2⟩
 ·intro e x hx hy
  rw [(c_subF h).eq_of_length e]
  exact lmf.mpr ⟨hx, decide_eq_true hy⟩
theorem gapB_eq (hB : B.Nodup) (h : Chn A B 0 0 K) : gapB B 0 K = B.filter fun x => !decide (x ∈ keptA A K) := by
 rw [(kept_same h).1]
 exact sub_filter hB (gapB_sub B h) (gapB_perm B rfl h)
theorem gapA_eq (hA : A.Nodup) (h : Chn A B 0 0 K) : gapA A 0 K = A.filter fun x => !decide (x ∈ keptA A K) := sub_filter hA (gapA_sub A h) (gapA_perm A rfl h)
theorem full_gap {l m : List Int} {c : List Int} (hc : ∀ x ∈ c, x ∈ m) : (∀ x ∈ l, x ∈ m → x ∈ c) ↔ (l.filter fun x => !decide (x ∈ c)) = l.filter fun x => !decide (x ∈ m) := by
 constructor
 ·intro f
  refine List.filter_congr fun x hx => ?_
  rw [decide_eq_decide.mpr ⟨hc x, f x hx⟩]
 ·intro e x hx hm
  by_cases q : x ∈ c
  ·exact q
  ·have : x ∈ l.filter fun x => !decide (x ∈ m) := by
    rw [← e]; exact lmf.mpr ⟨hx, by rw [decide_eq_false q]; rfl⟩
   have := (lmf.mp this).2
   rw [decide_eq_true hm] at this; cases this
theorem full_comes (hB : B.Nodup) (h : Chn A B 0 0 K) : Full A B K ↔ gapB B 0 K = B.filter fun x => !decide (x ∈ A) := by
 rw [gapB_eq hB h, ← full_gap fun x hx => (c_both h hx).1]
 exact ⟨fun f x hx hy => f x hy hx, fun f x hx hy => f x hy hx⟩
theorem full_goes (hA : A.Nodup) (h : Chn A B 0 0 K) : Full A B K ↔ gapA A 0 K = A.filter fun x => !decide (x ∈ B) := by
 rw [gapA_eq hA h, ← full_gap fun x hx => (c_both h hx).2]
 exact Iff.rfl
theorem laid_mem (h : Chn A B 0 0 K) : (laidK A B 0 0 K).Perm (A ++ gapB B 0 K) := (laid_perm A B).trans ((gapA_perm A rfl h).symm.append_right _)
theorem full_laid (hA : A.Nodup) (hB : B.Nodup) (h : Chn A B 0 0 K) : Full A B K ↔ (laidK A B 0 0 K).Nodup := by
 rw [(laid_mem h).nodup_iff, gapB_eq hB h]
 constructor
 ·intro f
  refine List.nodup_append.mpr ⟨hA, hB.sublist List.filter_sublist, fun x hx y hy e => ?_⟩
  subst e
  refine An2 (lmf.mp hy) fun m n => ?_
  rw [decide_eq_true (f x hx m)] at n; cases n
 ·intro nd x hx hy
  by_cases q : x ∈ keptA A K
  ·exact q
  ·exact absurd rfl ((List.nodup_append.mp nd).2.2 x hx x (lmf.mpr ⟨hy, by rw [decide_eq_false q]; rfl⟩))
theorem laid_kinds (h : Chn A B 0 0 K) (c : Int) : c ∈ laidK A B 0 0 K ↔ c ∈ A ∨ c ∈ B := by
 rw [(laid_mem h).mem_iff, lmp]
 constructor
 ·rintro (m | m)
  ·exact .inl m
  ·exact .inr ((gapB_sub B h).subset m)
 ·rintro (m | m)
  ·exact .inl m
  ·rcases lmp.mp ((gapB_perm B rfl h).mem_iff.mp (show c ∈ B.drop 0 from m)) with q | q
   ·exact .inr q
   ·rw [← (kept_same h).1] at q
    exact .inl (c_both h q).1
theorem two_sub {l : List Int} {x y : Int} {i j : Nat} (h : i < j) (hi : l[i]? = some x) (hj : l[j]? = some y) : [x, y].Sublist l := by
 rw [← List.take_append_drop j l]
 refine List.Sublist.append (l₁ := [x]) (r₁ := [y]) (List.singleton_sublist.mpr (List.mem_iff_getElem?.mpr ⟨i, ?_⟩)) (List.singleton_sublist.mpr (List.mem_iff_getElem?.mpr ⟨0, ?_⟩))
 ·rw [List.getElem?_take, if_pos h, hi]
 ·rw [lgd, Nat.add_zero, hj]
theorem two_not : ∀ {l : List Int} {x y : Int}, l.Nodup → [x, y].Sublist l → ¬ [y, x].Sublist l
 | [], _, _, _, h => nomatch h
 | a :: l, x, y, nd, h => by
  intro h'
  have ⟨na, nl⟩ := lnc.mp nd
  cases h with
  | cons _ h =>
   cases h' with
   | cons _ h' => exact two_not nl h h'
   | cons_cons _ h' => exact na (h.subset (.tail _ (.head _)))
  | cons_cons _ h =>
   cases h' with
   | cons _ h' => exact na (h'.subset (.tail _ (.head _)))
   | cons_cons _ h' => exact na (h.subset (.head _))
theorem ord_same (hB : B.Nodup) (e : (A.filter fun x => decide (x ∈ B)) = B.filter fun x => decide (x ∈ A)) {p q p' q' : Nat} (h1 : A[p]? = B[q]?) (h2 : A[p']? = B[q']?) (hp : p < A.length) (hp' : p' < A.length) (h : p < p') : q < q' := by
 have a1 := lge hp
 have a2 := lge hp'
 have b1 := h1.symm.trans a1
 have b2 := h2.symm.trans a2
 have s := (two_sub h a1 a2).filter fun x => decide (x ∈ B)
 rw [List.filter_eq_self.mpr, e] at s
 ·have s := s.trans List.filter_sublist
  rcases Nat.lt_trichotomy q q' with z | z | z
  ·exact z
  ·subst z
   rw [b1] at b2
   have := lnc.mp (hB.sublist s)
   rw [Option.some.inj b2] at this
   exact absurd (.head _) this.1
  ·exact absurd (two_sub z b2 b1) (two_not hB s)
 ·intro x hx
  refine decide_eq_true ?_
  rcases lmc.mp hx with rfl | hx
  ·exact lmo b1
  ·rw [lms.mp hx]; exact lmo b2
theorem full_straight (hA : A.Nodup) (hB : B.Nodup) (hs : Sorted A B S) (hp : K.Perm (Gr [] S)) (h : Chn A B 0 0 K) : Full A B K ↔ (A.filter fun x => decide (x ∈ B)) = B.filter fun x => decide (x ∈ A) := by
 constructor
 ·intro f
  have e1 := (c_subF h).eq_of_length ((full_len hA h).mp f)
  have s2 := (c_subB h).filter fun x => decide (x ∈ A)
  rw [List.filter_eq_self.mpr fun x hx => decide_eq_true (c_both h hx).1] at s2
  have e2 : keptA A K = B.filter fun x => decide (x ∈ A) := s2.eq_of_length (perm_of_mem (hA.sublist (c_subA h)) (hB.sublist List.filter_sublist) fun c => by
   rw [lmf, decide_eq_true_eq]
   exact ⟨fun m => ⟨(c_both h m).2, (c_both h m).1⟩, fun m => f c m.2 m.1⟩).length_eq
  rw [← e1, e2]
 ·intro e x hx hy
  have all : Gr [] S = S := by
   refine (Gr_self fun r hr k hk => cross_iff.mpr ?_).trans (List.nil_append _)
   have R := ((hs.mem r).mp hr)
   have T := ((hs.mem k).mp hk)
   have r0 := R.com.eq 0 R.pos
   have t0 := T.com.eq 0 T.pos
   have := R.com.ha
   have := T.com.ha
   have := R.com.hb
   have := T.com.hb
   have := R.pos
   have := T.pos
   exact ⟨ord_same hB e t0 r0 (by omega) (by omega), ord_same hA e.symm t0.symm r0.symm (by omega) (by omega)⟩
  refine Ex1 (List.mem_iff_getElem?.mp hx) fun p ep => ?_
  refine Ex1 (List.mem_iff_getElem?.mp hy) fun q eq => ?_
  refine Ex2 (run_of (A := A) (B := B) p q (lt_of_get ep) (lt_of_get eq) (ep.trans eq.symm)) fun r t => an4 fun R ht e1 e2 => ?_
  have hr : r ∈ K := by rw [hp.mem_iff, all]; exact (hs.mem r).mpr R
  refine List.mem_flatMap.mpr ⟨r, hr, List.mem_iff_getElem?.mpr ⟨t, ?_⟩⟩
  unfold sl
  rw [lgd, List.getElem?_take, if_pos (by omega), e1, ep]
end
theorem pw_unique {α : Type} {R : α → α → Prop} (as : ∀ a b, R a b → ¬ R b a) : ∀ {l m : List α}, l.Pairwise R → m.Pairwise R → (∀ x, x ∈ l ↔ x ∈ m) → l = m
 | [], [], _, _, _ => rfl
 | [], b :: m, _, _, h => absurd ((h b).mpr (.head _)) List.not_mem_nil
 | a :: l, [], _, _, h => absurd ((h a).mp (.head _)) List.not_mem_nil
 | a :: l, b :: m, hl, hm, h => by
  have ⟨l1, l2⟩ := List.pairwise_cons.mp hl
  have ⟨m1, m2⟩ := List.pairwise_cons.mp hm
  have e : a = b := by
   rcases lmc.mp ((h a).mp (.head _)) with e | q
   ·exact e
   ·rcases lmc.mp ((h b).mpr (.head _)) with e | p
    ·exact e.symm
    ·exact absurd (m1 a q) (as _ _ (l1 b p))
  subst e
  refine congrArg _ (pw_unique as l2 m2 fun x => ?_)
  constructor
  ·intro q
   rcases lmc.mp ((h x).mp (.tail _ q)) with e | p
   ·subst e; exact absurd (l1 x q) (as _ _ (l1 x q))
   ·exact p
  ·intro q
   rcases lmc.mp ((h x).mpr (.tail _ q)) with e | p
   ·subst e; exact absurd (m1 x q) (as _ _ (m1 x q))
   ·exact p
theorem sorted_unique {A B : List Int} {S S' : List T3} (h : Sorted A B S) (h' : Sorted A B S') : S = S' :=
 pw_unique (R := better) (fun a b x y => by unfold better at x y; omega) h.ord h'.ord fun r => (h.mem r).trans (h'.mem r).symm
theorem kept_unique {K K' G : List T3} (p : K.Perm G) (p' : K'.Perm G) (o : K.Pairwise fun r r' => r.1 < r'.1) (o' : K'.Pairwise fun r r' => r.1 < r'.1) : K = K' :=
 pw_unique (R := fun r r' : T3 => r.1 < r'.1) (fun a b x y => by omega) o o' fun x => p.mem_iff.trans p'.mem_iff.symm
theorem Gr_snoc (kept S : List T3) (r : T3) : Gr kept (S ++ [r]) = keepG (Gr kept S) r := by unfold Gr; rw [List.foldl_append]; rfl
theorem Gr_len : ∀ (S kept : List T3), (Gr kept S).length ≤ kept.length + S.length
 | [], kept => nlr _
 | r :: S, kept => by
  have := Gr_len S (keepG kept r)
  have h2 : (keepG kept r).length ≤ kept.length + 1 := by unfold keepG; split <;> simp
  show (Gr (keepG kept r) S).length ≤ _
  rw [List.length_cons]; omega
theorem runs_len (A B : List Int) (n : Nat) : (runsN A B n).length ≤ n := by
 unfold runsN
 exact nlt (List.length_filterMap_le _ _) (Nat.le_of_eq List.length_range)
theorem sorted_ex {A B : List Int} (hB : B.Nodup) (h64 : A.length ≤ 64) : ∃ S, Sorted A B S := by
 have nd := rkey_nodup (B := B) h64
 have s := List.pairwise_mergeSort (le := fun x y : T3 => decide (rkey x ≤ rkey y)) (fun a b c x y => by simp only [decide_eq_true_eq] at *; omega) (fun a b => by simp only [Bool.or_eq_true, decide_eq_true_eq]; omega) (runsN A B A.length)
 have p := List.mergeSort_perm (runsN A B A.length) fun x y : T3 => decide (rkey x ≤ rkey y)
 refine ⟨_, sorted_runs hB h64 p ?_⟩
 have nd2 := (p.map rkey).nodup_iff.mpr nd
 rw [List.Nodup, List.pairwise_map] at nd2
 refine (s.and nd2).imp fun {a b} h => ?_
 have := of_decide_eq_true h.1
 have := h.2
 omega
end
section
open PySem PySem.W PyProof.Rows PySem.SeqAt
variable {w : World} {A : Around} {E : Value → Shared → Prop} {s₀ s s₁ : Shared} {env : Env} {h₀ : Heap} {L : Addr} {ns gs : List Str} {vs : List (Option Value)} {own : List (Addr × Obj)}
structure MC (w : World) (h : Heap) (x D la lb d js : Addr) (ua ub : List Value) (za zb : List Int) : Prop where
 hx : h.get? x = some (instObj 242 D)
 hla : Ls h la ua
 Ta : Ths h ua za
 hza : za.length ≤ 9
 hlb : Ls h lb ub
 Tb : Ths h ub zb
 hzb : zb.length ≤ 9
 hb2 : B2At w h d js ub zb
 nda : (za.map kd).Nodup
 ndb : (zb.map kd).Nodup
theorem MC.keeps {w : World} {h h' : Heap} {x D la lb d js : Addr} {ua ub : List Value} {za zb : List Int} (c : MC w h x D la lb d js ua ub za zb) (k : Keeps h h') : MC w h' x D la lb d js ua ub za zb :=
 ⟨k _ _ c.hx, c.hla.keeps k, c.Ta.keeps k, c.hza, c.hlb.keeps k, c.Tb.keeps k, c.hzb, c.hb2.keeps k, c.nda, c.ndb⟩
noncomputable abbrev FM (oD : Obj) (la lb d js : Addr) (m4 m5 m6 m9 : Option Value) : Prop := FldO oD (Loc MN [some .none, some (.ref la), some (.ref lb), some (.bool true), m4, m5, m6, some (.ref d), some (.ref js), m9])
structure GF (vs : List (Option Value)) (x lq lm : Addr) (na nb : Nat) : Prop where
 a0 : At vs 0 (.ref x)
 a1 : AtI vs 1 na
 a2 : AtI vs 2 nb
 a3 : At vs 3 (.ref lq)
 a4 : At vs 4 (.ref lm)
 len : vs.length = 20
theorem GF.set {vs : List (Option Value)} {x lq lm : Addr} {na nb : Nat} (f : GF vs x lq lm na nb) {j : Nat} {u : Option Value} (h : 5 ≤ j) : GF (vs.set j u) x lq lm na nb := by
 have n : ∀ i, i < 5 → (j == i) = false := fun i hi => beq_eq_false_iff_ne.mpr (by exact Nat.ne_of_gt (nll hi h))
 exact ⟨f.a0.ne (n 0 (by decide)), f.a1.ne (n 1 (by decide)), f.a2.ne (n 2 (by decide)), f.a3.ne (n 3 (by decide)), f.a4.ne (n 4 (by decide)), by rw [lls, f.len]⟩
section
theorem unp4 {n1 n2 n3 n4 : Str} {p1 p2 p3 p4 pos : Pos} {k i1 i2 i3 i4 : Nat} {T : Addr} {v1 v2 v3 v4 : Value} {Q : Unit → Shared → Prop} (e : Ev env L ns gs) (hh : A.handled = none) (S : St s₀ h₀ L ns vs own s) (hT : s.heap.IsTuple T #[v1, v2, v3, v4])
  (h1 : ns[i1]? = some n1) (h2 : ns[i2]? = some n2) (h3 : ns[i3]? = some n3) (h4 : ns[i4]? = some n4) (l1 : i1 < vs.length) (l2 : i2 < vs.length) (l3 : i3 < vs.length) (l4 : i4 < vs.length)
  (h : ∀ s', St s₀ h₀ L ns ((((vs.set i1 (some v1)).set i2 (some v2)).set i3 (some v3)).set i4 (some v4)) own s' → Q () s') :
  wpAny (model pw w) A (assign (.Tuple [.Name n1 p1, .Name n2 p2, .Name n3 p3, .Name n4 p4] k pos) env (.ref T)) Q E s := by
 refine wpAny_assign_Tuple hh hT rfl rfl fun h' hb => ?_
 have S := S.keeps (s' := { s with heap := h' }) (extBut_size hb) rfl rfl
 exact aac (wan (st_ e S h1 l1 fun s₁ S => aac (wan (st_ e S h2 (ltS l2) fun s₂ S => aac (wan (st_ e S h3 (ltS (ltS l3)) fun s₃ S => aac (wan (st_ e S h4 (ltS (ltS (ltS l4))) fun s₄ S => assignInOrder_nil (h _ S)))))))))
theorem ints4 {xs : List Value} {a b c d : Int} (I : IntsAre xs [a, b, c, d]) : ∃ t1 t2 t3 t4, xs = [.int a t1, .int b t2, .int c t3, .int d t4] := by
 cases I with
 | cons _ t1 I => (refine Ex3 (ints3 I) fun t2 t3 t4 zz1 => ?_; subst zz1); exact ⟨t1, t2, t3, t4, rfl⟩
variable {x D la lb d js lq lm : Addr} {oD : Obj} {m4 m5 m6 m9 : Option Value} {ua ub qs ms : List Value} {za zb : List Int} {nq nm : Nat} {Sr acc : List T3} {Ws : List Win} {W : Win} {v : Value} {Q : Flow → Shared → Prop}
theorem gmb_turn (e : Ev env L N203 gs) (hh : A.handled = none) (r : Room A 4) (B : Base w h₀) (C : MC w h₀ x D la lb d js ua ub za zb) (f : FM oD la lb d js m4 m5 m6 m9) (hs : Sorted (za.map kd) (zb.map kd) Sr)
  (S : St s₀ h₀ L N203 vs (GO lq lm D oD (qs ++ [v]) ms nq nm) s) (G : GF vs x lq lm ua.length ub.length) (X : Q4s h₀ qs Ws) (Xv : TupI h₀ v (w4 W)) (Y : Mts h₀ ms acc) (I : GInv (za.map kd) (zb.map kd) Sr (Ws ++ [W]) acc)
  (h : ∀ g vs' s' qs' ms' Ws' acc' nq' nm', Keeps h₀ g → St s₀ g L N203 vs' (GO lq lm D oD qs' ms' nq' nm') s' → GF vs' x lq lm ua.length ub.length → Q4s g qs' Ws' → Mts g ms' acc' → GInv (za.map kd) (zb.map kd) Sr Ws' acc' → mu Ws' < mu (Ws ++ [W]) → Q .next s') :
  wpAny (model pw w) A (execs (forB (stAt (fnB (kid (st 5) 7)) 5)) env) Q ff s := by
 have ok := I.ok W (List.mem_append_right _ (lms.mpr rfl))
 refine An2 (I.step C.nda C.ndb hs) fun mu1 I' => ?_
 have fit := I.fit
 have ml := mu_len (Ws ++ [W])
 rw [lla, List.length_singleton] at ml
 have hza := C.hza
 have hzb := C.hzb
 rw [llm] at fit
 have hq := X.len
 have hm := Y.len
 have okf := flm_ok (A := za.map kd) (W := W) C.ndb ok.a1 ok.a2 ok.b1 ok.b2
 have oa := ok.a2
 have ob := ok.b2
 rw [llm] at oa ob
 refine Ex2 Xv fun a xs => an3 fun zz1 ha Ia => ?_
 subst zz1
 refine Ex4 (ints4 Ia) fun t1 t2 t3 t4 zz1 => ?_
 subst zz1
 have hl := G.len
 conv in (forB _) => whnf
 refine wec (Assign_Tuple (pop_ e S (i := 3) (j := 0) rfl G.a3 rfl rfl (by lia) fun c s₁ S _ => ?_))
 refine unp4 e hh S ⟨_, S.keep _ _ ha, rfl, 0, rfl⟩ (i1 := 5) (i2 := 6) (i3 := 7) (i4 := 8) rfl rfl rfl rfl (by rw [hl]; decide) (by rw [hl]; decide) (by rw [hl]; decide) (by rw [hl]; decide) fun s₂ S => ?_
 have G := (((G.set (u := some (.int W.alo t1)) (j := 5) (by decide)).set (u := some (.int W.ahi t2)) (j := 6) (by decide)).set (u := some (.int W.blo t3)) (j := 7) (by decide)).set (u := some (.int W.bhi t4)) (j := 8) (by decide)
 have b5 : At ((((vs.set 5 (some (.int W.alo t1))).set 6 (some (.int W.ahi t2))).set 7 (some (.int W.blo t3))).set 8 (some (.int W.bhi t4))) 5 (.int W.alo t1) := (((At.eq (by rw [hl]; decide)).ne).ne).ne
 have b6 : At ((((vs.set 5 (some (.int W.alo t1))).set 6 (some (.int W.ahi t2))).set 7 (some (.int W.blo t3))).set 8 (some (.int W.bhi t4))) 6 (.int W.ahi t2) := ((At.eq (ltS (by rw [hl]; decide))).ne).ne
 have b7 : At ((((vs.set 5 (some (.int W.alo t1))).set 6 (some (.int W.ahi t2))).set 7 (some (.int W.blo t3))).set 8 (some (.int W.bhi t4))) 7 (.int W.blo t3) := (At.eq (ltS (ltS (by rw [hl]; decide)))).ne
 have b8 : At ((((vs.set 5 (some (.int W.alo t1))).set 6 (some (.int W.ahi t2))).set 7 (some (.int W.blo t3))).set 8 (some (.int W.bhi t4))) 8 (.int W.bhi t4) := At.eq (ltS (ltS (ltS (by rw [hl]; decide))))
 generalize (((vs.set 5 (some (.int W.alo t1))).set 6 (some (.int W.ahi t2))).set 7 (some (.int W.blo t3))).set 8 (some (.int W.bhi t4)) = vs at S G b5 b6 b7 b8
 have hl := G.len
 refine wec (wat (callM e B S (i := 0) rfl G.a0 C.hx (j := 2) rfl f (mt196 _) ?_))
 refine it_Name (ld e S (i := 5) rfl b5 (it_Name (ld e S (i := 6) rfl b6 (it_Name (ld e S (i := 7) rfl b7 (it_Name (ld e S (i := 8) rfl b8 (it_nil ⟨S.keep, ?_⟩))))))))
 have C2 := C.keeps S.keep
 refine use S (flm_ (B.keeps S.keep) r C2.hx (S.get (j := 2) rfl) f C2.hla C2.Ta (by lia) C2.hlb C2.Tb (by lia) C2.hb2 ok.a1 oa ob okf) ?_
 refine fun v s₃ S k3 => ex5 fun m dx t5 t6 t7 => an3 fun zz1 _ hm3 => ?_
 subst zz1
 have M : MtI s₃.heap (.ref m) (z3 (flmW (za.map kd) (zb.map kd) W)) := ⟨m, _, rfl, ⟨dx, hm3⟩, .cons _ _ (.cons _ _ (.cons _ _ .nil))⟩
 clear hm3 t5 t6 t7
 generalize flmW (za.map kd) (zb.map kd) W = z at M mu1 I'
 have M := M.stay S (all3 (.list _ _) (.list _ _) f.dict.nm)
 refine An2 S.rebase fun S kg => ?_
 change MtI (hideL _ _) _ _ at M
 generalize hideL _ _ = g at S kg M
 refine Ex2 (id M) fun _ xm => an3 fun em hmt Im => ?_
 cases em
 refine Ex3 (ints3 Im) fun t5 t6 t7 zz1 => ?_
 subst zz1
 refine unpM e hh (B.keeps kg) S (hmt.keeps S.keep) (i := 9) (j := 10) (l := 11) rfl rfl rfl (by rw [hl]; decide) (by rw [hl]; decide) (by rw [hl]; decide) fun s₄ S => ?_
 refine wan (st_ e S (i := 12) rfl (ltS (ltS (ltS (by rw [hl]; decide)))) fun s₅ S => ?_)
 have F : GB ((((vs.set 9 (some (.int z.1 t5))).set 10 (some (.int z.2.1 t6))).set 11 (some (.int z.2.2 t7))).set 12 (some (.ref m))) lq lm W z (.ref m) :=
  ⟨(((G.a3.ne).ne).ne).ne, (((G.a4.ne).ne).ne).ne, ⟨_, (((b5.ne).ne).ne).ne⟩, ⟨_, (((b6.ne).ne).ne).ne⟩, ⟨_, (((b7.ne).ne).ne).ne⟩, ⟨_, (((b8.ne).ne).ne).ne⟩,
   ⟨_, (((At.eq (by rw [hl]; decide)).ne).ne).ne⟩, ⟨_, ((At.eq (ltS (by rw [hl]; decide))).ne).ne⟩, ⟨_, (At.eq (ltS (ltS (by rw [hl]; decide)))).ne⟩, At.eq (ltS (ltS (ltS (by rw [hl]; decide))))⟩
 have G := (((G.set (u := some (.int z.1 t5)) (j := 9) (by decide)).set (u := some (.int z.2.1 t6)) (j := 10) (by decide)).set (u := some (.int z.2.2 t7)) (j := 11) (by decide)).set (u := some (.ref m)) (j := 12) (by decide)
 refine wec (gmb_if e S f.dict F (by lia) (by lia) fun g2 s₆ new add c2 c3 k2 S N ea => wen ?_)
 have kk := kg.trans k2
 have Z : Mts g2 add (if z.2.2 = 0 then [] else [z]) := by
  rw [ea]; split
  ·exact .nil
  ·exact .cons (M.keeps k2) .nil
 exact h g2 _ s₆ _ _ _ _ c2 c3 kk S G ((X.imp fun _ _ z => z.keeps kk).app N) ((Y.imp fun _ _ z => z.keeps kk).app Z) I' mu1
end
section
theorem mem_set {own : List (Addr × Obj)} {P : Obj → Prop} (h : ∀ p ∈ own, P p.2) {j : Nat} {a : Addr} {o : Obj} (ho : P o) : ∀ p ∈ own.set j (a, o), P p.2 := fun p hp =>
 (List.mem_or_eq_of_mem_set hp).elim (h p) fun e => e ▸ ho
theorem appR_ {x : Str} {i j n k : Nat} {l : Addr} {us : List Value} {es : List Expr} {zs : List Int} {p1 p2 p3 p4 p5 : Pos} {Q : Flow → Shared → Prop} (e : Ev env L ns gs) (S : St s₀ h₀ L ns vs own s)
  (hi : ns[i]? = some x) (hv : At vs i (.ref l)) (hj : own[j]? = some (l, listOf us.toArray n)) (hline : (p2.endLine == p3.line) = true) (d : All2 (PI ns vs) es zs) (hz : zs.length ≤ 1000) (hu : us.length ≤ 1000) (hnt : ∀ p ∈ own, NT p.2)
  (h : ∀ g a c s', Keeps h₀ g → St s₀ g L ns vs (own.set j (l, listOf (us ++ [Value.ref a]).toArray c)) s' → TupI g (.ref a) zs → h₀.get? a = none → Q .next s') :
  wpAny (model pw w) A (exec (.Expr (.Call (.Attribute (.Name x p1) (sO "append") p2) [.Tuple es k p5] [] p3) p4) env) Q E s :=
 appT_ e S hi hv hj hline d hz hu fun a xs c s₂ S₂ I =>
  have S₃ := S₂.drop (lsc _ _)
  have T : TupI s₂.heap (.ref a) zs := ⟨a, xs, rfl, S₂.get (j := 0) rfl, I⟩
  h _ a c s₂ S₃.rebase.2 S₃.rebase.1 (T.stay S₃ (mem_set hnt (.list _ _))) (S₂.nw _ (.head _)).2.2
structure NF (vs : List (Option Value)) (x lna : Addr) (na nb : Nat) (c : T3) : Prop where
 a0 : At vs 0 (.ref x)
 a1 : AtI vs 1 na
 a2 : AtI vs 2 nb
 a16 : At vs 16 (.ref lna)
 a13 : AtI vs 13 c.1
 a14 : AtI vs 14 c.2.1
 a15 : AtI vs 15 c.2.2
 len : vs.length = 20
theorem NF.set {vs : List (Option Value)} {x lna : Addr} {na nb : Nat} {c : T3} (f : NF vs x lna na nb c) {j : Nat} {u : Option Value} (h : 17 ≤ j) : NF (vs.set j u) x lna na nb c := by
 have n : ∀ i, i < 17 → (j == i) = false := fun i hi => beq_eq_false_iff_ne.mpr (by exact Nat.ne_of_gt (nll hi h))
 exact ⟨f.a0.ne (n 0 (by decide)), f.a1.ne (n 1 (by decide)), f.a2.ne (n 2 (by decide)), f.a16.ne (n 16 (by decide)), f.a13.ne (n 13 (by decide)), f.a14.ne (n 14 (by decide)), f.a15.ne (n 15 (by decide)), by rw [lls, f.len]⟩
variable {x D lna : Addr} {oD : Obj} {nas : List Value} {nn na nb : Nat} {out : List T3} {c b : T3} {Q : Flow → Shared → Prop}
noncomputable abbrev NO (lna D : Addr) (oD : Obj) (nas : List Value) (nn : Nat) : List (Addr × Obj) := [(lna, listOf nas.toArray nn), (D, oD)]
theorem eq_nat (a b : Nat) : ((a : Int) == (b : Int)) = decide (a = b) := by
 by_cases h : a = b
 ·subst h; rw [decide_eq_true rfl]; exact beq_self_eq_true _
 ·rw [decide_eq_false h]; exact beq_eq_false_iff_ne.mpr fun q => h (Int.ofNat.inj q)
theorem all2o {P : Obj → Prop} {a b : Addr × Obj} (h1 : P a.2) (h2 : P b.2) : ∀ p ∈ [a, b], P p.2 := fun p hp =>
 (lmc.mp hp).elim (fun e => e ▸ h1) fun hp => lms.mp hp ▸ h2
theorem hide_mono {h h' : Heap} (wr : List Addr) (k : Keeps h h') : Keeps (hideL h wr) (hideL h' wr) := fun b o q => hideL_get (k _ _ (hideL_sub _ _ _ _ q)) fun m => by rw [hideL_none m] at q; cases q
theorem TupI.hide {h h' : Heap} {wr : List Addr} {a : Addr} {zs : List Int} (hw : ∀ b ∈ wr, ∃ o, h.get? b = some o) (hn : h.get? a = none) (x : TupI h' (.ref a) zs) : TupI (hideL h' wr) (.ref a) zs := by
 refine Ex2 x fun _ xs => an3 fun e q I => ?_
 cases e
 exact ⟨a, xs, rfl, hideL_get q (fun m => by (refine Ex1 (hw _ m) fun o ho => ?_); rw [hn] at ho; exact nomatch ho), I⟩
theorem gmb_merge {wr : List Addr} (hw : ∀ b ∈ wr, ∃ o, h₀.get? b = some o) (e : Ev env L N203 gs) (hh : A.handled = none) (S : St s₀ h₀ L N203 vs (NO lna D oD nas nn) s) (hD : DictO oD) (F : NF vs x lna na nb c) (f17 : AtI vs 17 b.1) (f18 : AtI vs 18 b.2.1) (f19 : AtI vs 19 b.2.2) (X : Tups (hideL h₀ wr) nas out) (ho : out.length ≤ 900)
  (h : ∀ g s' vs' nas' nn' out' c', Keeps h₀ g → St s₀ g L N203 vs' (NO lna D oD nas' nn') s' → NF vs' x lna na nb c' → Tups (hideL g wr) nas' out' → (∀ r, out ++ mrg c (b :: r) = out' ++ mrg c' r) → out'.length ≤ out.length + 1 → Q .next s') :
  wpAny (model pw w) A (execs (forB (stAt (fnB (kid (st 5) 7)) 9)) env) Q ff s := by
 have hl := F.len
 have hx := X.len
 conv in (forB _) => whnf
 refine wec (ifP (b := decide (c.1 + c.2.2 = b.1) && decide (c.2.1 + c.2.2 = b.2.1)) e S ?_ fun s₁ S _ => ?_)
 ·rw [← eq_nat, ← eq_nat]
  exact .and (.eq (.add (.at F.a13) (.at F.a15)) (.at f17)) (.eq (.add (.at F.a14) (.at F.a15)) (.at f18))
 by_cases hc : c.1 + c.2.2 = b.1 ∧ c.2.1 + c.2.2 = b.2.1
 ·rw [decide_eq_true hc.1, decide_eq_true hc.2]
  refine Ex1 F.a15 fun t h15 => ?_
  refine wec (wpAny_AugAssign_Name (ldn e S (i := 15) rfl h15 ((PI.at f19).ev e S fun t' s₂ S _ => iadd_ S fun t' s₃ S => st_ e S (i := 15) rfl (by rw [hl]; decide) fun s₄ S => wen (wen ?_))))
  refine h h₀ s₄ _ nas nn out (c.1, c.2.1, c.2.2 + b.2.2) (.refl _) S ⟨F.a0.ne, F.a1.ne, F.a2.ne, F.a16.ne, F.a13.ne, F.a14.ne, ⟨t', At.eq (by rw [hl]; decide)⟩, by rw [lls, hl]⟩ X (fun r => ?_) (Nat.le_succ _)
  rw [mrg, if_pos hc]
 ·have hb : (decide (c.1 + c.2.2 = b.1) && decide (c.2.1 + c.2.2 = b.2.1)) = false := by rw [Bool.and_eq_false_iff, decide_eq_false_iff_not, decide_eq_false_iff_not]; exact Decidable.not_and_iff_or_not.mp hc
  rw [hb]
  refine seqP (fun s' => ∃ g nas' nn', Keeps h₀ g ∧ St s₀ g L N203 vs (NO lna D oD nas' nn') s' ∧ Tups (hideL g wr) nas' (out ++ if 0 < c.2.2 then [c] else [])) (ifN e S (i := 15) rfl F.a15 fun s₂ S => ?_) ?_
  ·by_cases hk : c.2.2 = 0
   ·rw [hk, if_neg (Nat.lt_irrefl 0), lan]
    exact wen ⟨rfl, h₀, nas, nn, .refl _, S, X⟩
   ·rw [show (((c.2.2 : Nat) : Int) != 0) = true from bne_iff_ne.mpr fun q => hk (Int.ofNat.inj q), if_pos (Nat.pos_of_ne_zero hk)]
    exact wec (appR_ e S (i := 16) (j := 0) rfl F.a16 rfl rfl (zs := z3 c) (.cons (.at F.a13) (.cons (.at F.a14) (.cons (.at F.a15) .nil))) (by show (3 : Nat) ≤ 1000; decide) (by lia) (all2o (.list _ _) hD.nt) fun g a n s₃ k S T fa => wen ⟨rfl, g, _, n, k, S, (X.imp fun _ _ z => z.keeps (hide_mono wr k)).snoc (T.hide hw fa)⟩)
  ·refine fun s₂ => ex3 fun g nas' nn' => an3 fun k S X => ?_
   refine Ex1 f17 fun t1 f17 => ?_
   refine Ex1 f18 fun t2 f18 => ?_
   refine Ex1 f19 fun t3 f19 => ?_
   refine wec (asg3 (s₀ := s₀) e hh (i := 13) (j := 14) (m := 15) rfl rfl rfl (by decide) (by decide) (by decide) rfl rfl rfl rfl rfl (ld e S (i := 17) rfl f17 (ld e S (i := 18) rfl f18 (ld e S (i := 19) rfl f19 ⟨_, _, _, S, by rw [hl]; decide, by rw [hl]; decide, by rw [hl]; decide, fun s₃ S => ?_⟩))))
   refine wen (wen (h g s₃ _ nas' nn' _ b k S ⟨((F.a0.ne).ne).ne, ((F.a1.ne).ne).ne, ((F.a2.ne).ne).ne, ((F.a16.ne).ne).ne, ⟨t1, At.eq (ltS (ltS (by rw [hl]; decide)))⟩, ⟨t2, (At.eq (ltS (by rw [hl]; decide))).ne⟩, ⟨t3, ((At.eq (by rw [hl]; decide)).ne).ne⟩, by rw [lls, lls, lls, hl]⟩ X (fun r => ?_) ?_))
   ·rw [mrg, if_neg hc, laa]
   ·rw [lla]; split <;> simp
end
section
variable {x D lna lm : Addr} {oD : Obj} {us : List Value} {nn na nb : Nat} {K : List T3} {Q : Flow → Shared → Prop}
inductive MJ (vs : List (Option Value)) (x lna D : Addr) (oD : Obj) (na nb : Nat) (K : List T3) (j : Nat) (g : Heap) : List (Addr × Obj) → Prop
 | mk {nas : List Value} {nn : Nat} {out : List T3} {c : T3} : NF vs x lna na nb c → Tups g nas out → mrg (0, 0, 0) K = out ++ mrg c (K.drop j) → out.length ≤ j → MJ vs x lna D oD na nb K j g (NO lna D oD nas nn)
theorem gmb_for (e : Ev env L N203 gs) (hh : A.handled = none) (B : Base w h₀) (S : St s₀ h₀ L N203 vs (NO lna D oD [] nn) s) (hD : DictO oD) (F : NF vs x lna na nb (0, 0, 0)) (v4 : At vs 4 (.ref lm)) (hl : Ls h₀ lm us) (Y : Mts h₀ us K) (hK : K.length ≤ 900)
  (h : ∀ g s' vs' nas' nn' out' c', Keeps h₀ g → St s₀ g L N203 vs' (NO lna D oD nas' nn') s' → NF vs' x lna na nb c' → Tups g nas' out' → mrg (0, 0, 0) K = out' ++ mrg c' [] → out'.length ≤ K.length → Q .next s') :
  wpAny (model pw w) A (exec (stAt (fnB (kid (st 5) 7)) 9) env) Q ff s := by
 conv in (stAt _ _) => whnf
 refine wpAny_For (ld e S (i := 4) rfl v4 ?_)
 refine loop_listQ hh S hl (.inr ⟨_, _, _, rfl⟩) (fun j vs own h => MJ vs x lna D oD na nb K j h own) (fun j vs own h h' J k => by cases J with | mk F X q ho => exact .mk F (X.imp fun _ _ z => z.keeps k) q ho) (.mk F .nil rfl (nlr _)) (fun R wr g j vs own s' v kg hw hv J S k => ?_) fun g vs own s' kg J S => ?_
 ·cases J with | @mk nas nn out c F X q ho =>
  refine Ex1 (Y.get hv) fun b => an2 fun hb => ex2 fun m xs => an3 fun zz1 hm I => ?_
  subst zz1
  have hj := lt_of_get hb
  refine Ex3 (ints3 I) fun t1 t2 t3 zz1 => ?_
  subst zz1
  have ln : ∀ i, i < 20 → i < vs.length := fun i hi => F.len ▸ hi
  refine unpM e hh (B.keeps kg) S (hm.keeps (kg.trans S.keep)) (i := 17) (j := 18) (l := 19) rfl rfl rfl (ln 17 (by decide)) (ln 18 (by decide)) (ln 19 (by decide)) fun s₁ S => ?_
  exact toE (gmb_merge (b := b) hw e hh S hD (((F.set (by decide)).set (by decide)).set (by decide)) ⟨t1, ((At.eq (ln 17 (by decide))).ne).ne⟩ ⟨t2, (At.eq (ltS (ln 18 (by decide)))).ne⟩ ⟨t3, At.eq (ltS (ltS (ln 19 (by decide))))⟩ X (nlt ho (nlt (nl0 hj) hK)) fun g2 s₂ vs' nas' nn' out' c' k2 S F X' q' ho' =>
   k vs' _ s₂ (S.unbase k2) (.mk F (X'.imp fun _ _ z => z.keeps S.past) (by
    rw [q, ← q', List.drop_eq_getElem_cons hj]
    rw [lge hj] at hb
    cases hb; rfl) (nlt ho' (Nat.succ_le_succ ho))))
 ·cases J with | @mk nas nn out c F X q ho =>
  have := Y.len
  rw [this, List.drop_length] at q
  exact h g s' vs nas nn out c kg S F X q (this ▸ ho)
end
section
variable {x D lna lm la lb d js : Addr} {oD : Obj} {us nas : List Value} {nn nm na nb : Nat} {K out acc : List T3} {c : T3} {m4 m5 m6 m9 : Option Value} {Q : Flow → Shared → Prop}
theorem mrg_nil (c : T3) : mrg c [] = if 0 < c.2.2 then [c] else [] := rfl
theorem gmb_end (e : Ev env L N203 [sO "len", sO "list", sO "map", sO "Match"]) (hh : A.handled = none) (r : Room A 3) (B : Base w h₀) (S : St s₀ h₀ L N203 vs (NO lna D oD nas nn) s) (hx : h₀.get? x = some (instObj 242 D)) (f : FM oD la lb d js m4 m5 m6 m9) (F : NF vs x lna na nb c) (X : Tups h₀ nas out) (ho : out.length ≤ 900)
  (h : ∀ g s' lr us cr oD', Keeps h₀ g → St s₀ g L N203 vs [(lr, listOf us.toArray cr), (D, oD')] s' → FM oD' la lb d js (some (.ref lr)) m5 m6 m9 → Mts s'.heap us (out ++ mrg c [] ++ [(na, nb, 0)]) → Q (.ret (.ref lr)) s') :
  wpAny (model pw w) A (execs ((fnB (kid (st 5) 7)).drop 10) env) Q E s := by
 have hx0 := X.len
 conv in (List.drop _ _) => whnf
 refine seqP (fun s' => ∃ g nas' nn', Keeps h₀ g ∧ St s₀ g L N203 vs (NO lna D oD nas' nn') s' ∧ Tups g nas' (out ++ mrg c [])) (ifN e S (i := 15) rfl F.a15 fun s₂ S => ?_) ?_
 ·rw [mrg_nil]
  by_cases hk : c.2.2 = 0
  ·rw [hk, if_neg (Nat.lt_irrefl 0), lan]
   exact wen ⟨rfl, h₀, nas, nn, .refl _, S, X⟩
  ·rw [show (((c.2.2 : Nat) : Int) != 0) = true from bne_iff_ne.mpr fun q => hk (Int.ofNat.inj q), if_pos (Nat.pos_of_ne_zero hk)]
   exact wec (appR_ e S (i := 16) (j := 0) rfl F.a16 rfl rfl (zs := z3 c) (.cons (.at F.a13) (.cons (.at F.a14) (.cons (.at F.a15) .nil))) (by show (3 : Nat) ≤ 1000; decide) (by lia) (all2o (.list _ _) f.dict.nt) fun g a n s₃ k S T fa => wen ⟨rfl, g, _, n, k, S, (X.imp fun _ _ z => z.keeps k).snoc T⟩)
 refine fun s₁ => ex3 fun g nas' nn' => an3 fun k S X => ?_
 have hx1 := X.len
 have ho' : (out ++ mrg c []).length ≤ out.length + 1 := by rw [mrg_nil, lla]; split <;> simp
 generalize out ++ mrg c [] = o2 at X h hx1 ho'
 refine wec (appR_ e S (i := 16) (j := 0) rfl F.a16 rfl rfl (zs := z3 (na, nb, 0)) (.cons (.at F.a1) (.cons (.at F.a2) (.cons .c .nil))) (by show (3 : Nat) ≤ 1000; decide) (by lia) (all2o (.list _ _) f.dict.nt) fun g2 a n s₂ k2 S T fa => ?_)
 have X := (X.imp fun _ _ z => z.keeps k2).snoc T
 have kk := k.trans k2
 generalize o2 ++ [(na, nb, 0)] = o3 at X h
 have hl3 : o3.length ≤ 1000 := by rw [← X.len, lla, List.length_singleton, hx1]; lia
 clear k k2 hx1 ho'
 refine wec (pwa ?_)
 have hl := S.get (j := 0) rfl
 refine listmap_ e hh r (B.keeps kk) S (a := 1) (b := 2) (c := 3) (i := 16) rfl rfl rfl rfl F.a16 ⟨n, hl⟩ (X.imp fun _ _ z => z.keeps S.keep) hl3 fun Dl us cr s₃ S Y => ?_
 refine ld e S (i := 0) rfl F.a0 ?_
 have Y := Y.imp fun _ _ (z : MtI _ _ _) => z.stay S (all3 (.list _ _) (.list _ _) f.dict.nm)
 refine An2 S.rebase fun S kg => ?_
 change Mts (hideL _ _) _ _ at Y
 generalize hideL _ _ = g3 at S kg Y
 have kk := kk.trans kg
 refine setA (B.keeps kk) S (kk _ _ hx) (j := 2) (k := 4) rfl f rfl (nlo rfl) fun s₄ oD' S f => ?_
 have S := S.drop (own' := [(Dl, listOf us.toArray cr), (D, oD')]) (.cons_cons _ (.cons _ (.refl _)))
 with_reducible refine wec (wrs ?_)
 refine getS e (B.keeps kk) S (i := 0) (k := 4) rfl F.a0 (kk _ _ hx) (j := 1) rfl f rfl rfl rfl fun s₅ S _ => ?_
 exact h g3 s₅ Dl us cr oD' kk S f (Y.imp fun _ _ z => z.keeps S.keep)
end
section
variable {x D lq lm la lb d js : Addr} {oD : Obj} {us ms ua ub : List Value} {nq nm na nb : Nat} {K acc Sr : List T3} {za zb : List Int} {m4 m5 m6 m9 : Option Value} {Q : Flow → Shared → Prop}
theorem gmb_mid (e : Ev env L N203 [sO "len", sO "list", sO "map", sO "Match"]) (hh : A.handled = none) (r : Room A 3) (B : Base w h₀) (S : St s₀ h₀ L N203 vs [(lm, listOf ms.toArray nm), (D, oD)] s) (hx : h₀.get? x = some (instObj 242 D)) (f : FM oD la lb d js m4 m5 m6 m9) (G : GF vs x lq lm na nb) (Y : Mts h₀ ms acc) (ha : acc.length ≤ 60) (nd : (acc.map k1).Nodup)
  (h : ∀ g s' vs' lr us cr oD' K out c, K.Perm acc → K.Pairwise (fun x y => k1 x < k1 y) → mrg (0, 0, 0) K = out ++ mrg c [] → Keeps h₀ g → St s₀ g L N203 vs' [(lr, listOf us.toArray cr), (D, oD')] s' → FM oD' la lb d js (some (.ref lr)) m5 m6 m9 → Mts s'.heap us (out ++ mrg c [] ++ [(na, nb, 0)]) → Q (.ret (.ref lr)) s') :
  wpAny (model pw w) A (execs ((fnB (kid (st 5) 7)).drop 6) env) Q ff s := by
 have ln := G.len
 conv in (List.drop _ _) => whnf
 refine wec (sortM_ e B (by have := r.units; lia) S (i := 4) (j := 0) rfl G.a4 rfl rfl (Y.imp fun _ _ z => z.keeps S.keep) (by lia) nd fun us K c s₁ hp ho Y S => ?_)
 have hK := hp.length_eq
 have S : St s₀ h₀ L N203 vs [(lm, listOf us.toArray c), (D, oD)] s₁ := S
 have hlm : Ls (Mine.rest s₁.heap L [(D, oD)]) lm us := ⟨c, S.dropped⟩
 have S := S.drop (own' := [(D, oD)]) (lsc _ _)
 have Y := Y.imp fun _ _ (z : MtI _ _ _) => z.stay S fun p hp => lms.mp hp ▸ f.dict.nm
 refine An2 S.rebase fun S kg => ?_
 change Ls (hideL _ _) _ _ at hlm
 change Mts (hideL _ _) _ _ at Y
 generalize hideL _ _ = g at S kg Y hlm
 refine wec (wpAny_Assign_three (cint S fun t s₂ S => wan (st_ e S (i := 13) rfl (by rw [ln]; decide) fun s₃ S => wan (st_ e S (i := 14) rfl (ltS (by rw [ln]; decide)) fun s₄ S => wan (st_ e S (i := 15) rfl (ltS (ltS (by rw [ln]; decide))) fun s₅ S => ?_)))))
 refine wec (waa (List_ (it_nil (newList_ S (fun lna s₆ S => st_ e S (i := 16) rfl (ltS (ltS (ltS (by rw [ln]; decide)))) fun s₇ S => ?_) (nzl _)))))
 have F : NF ((((vs.set 13 (some (.int 0 t))).set 14 (some (.int 0 t))).set 15 (some (.int 0 t))).set 16 (some (.ref lna))) x lna na nb (0, 0, 0) :=
  ⟨(((G.a0.ne).ne).ne).ne, (((G.a1.ne).ne).ne).ne, (((G.a2.ne).ne).ne).ne, At.eq (ltS (ltS (ltS (by rw [ln]; decide)))), ⟨t, (((At.eq (by rw [ln]; decide)).ne).ne).ne⟩, ⟨t, ((At.eq (ltS (by rw [ln]; decide))).ne).ne⟩, ⟨t, (At.eq (ltS (ltS (by rw [ln]; decide)))).ne⟩, by rw [lls, lls, lls, lls, ln]⟩
 have v4 := (((G.a4.ne (j := 13) (u := some (.int 0 t))).ne (j := 14) (u := some (.int 0 t))).ne (j := 15) (u := some (.int 0 t))).ne (j := 16) (u := some (.ref lna))
 generalize ((((vs.set 13 (some (.int 0 t))).set 14 (some (.int 0 t))).set 15 (some (.int 0 t))).set 16 (some (.ref lna))) = vs at S F v4
 refine wec (gmb_for e hh (B.keeps kg) S f.dict F v4 hlm Y (by lia) fun g2 s₈ vs' nas nn out c k2 S F X eq lo => ?_)
 have kk := kg.trans k2
 exact gmb_end e hh r (B.keeps kk) S (kk _ _ hx) f F X (by lia) fun g3 s₉ lr us cr oD' k3 S f Y => h g3 s₉ vs' lr us cr oD' K out c hp ho eq (kk.trans k3) S f Y
end
section
theorem lenC {l : Addr} {xs : List Value} {Q : Value → Shared → Prop} (S : St s₀ h₀ L ns vs own s) (hl : Ls s.heap l xs) (hz : xs.length ≤ 1000) (h : ∀ t s', St s₀ h₀ L ns vs own s' → s'.heap = s.heap → Q (.int xs.length t) s') :
  wpAny (model pw w) A (call (.builtin "len") [.ref l]) Q E s := by
 refine Calls.call_len_list hl.isList (by rw [lst]; lia) ?_
 rw [lst]
 exact h _ _ (S.same rfl rfl rfl) rfl
variable {x D lq lm la lb d js : Addr} {oD : Obj} {us ms ua ub : List Value} {nq nm na nb : Nat} {K acc Sr : List T3} {za zb : List Int} {m4 m5 m6 m9 : Option Value} {Q : Flow → Shared → Prop}
inductive WJ (vs : List (Option Value)) (x lq lm D : Addr) (oD : Obj) (na nb : Nat) (A B : List Int) (Sr : List T3) (g : Heap) : Nat → List (Addr × Obj) → Prop
 | mk {qs ms : List Value} {nq nm : Nat} {Ws : List Win} {acc : List T3} : GF vs x lq lm na nb → Q4s g qs Ws → Mts g ms acc → GInv A B Sr Ws acc → WJ vs x lq lm D oD na nb A B Sr g (mu Ws) (GO lq lm D oD qs ms nq nm)
theorem gmb_while (e : Ev env L N203 gs) (hh : A.handled = none) (r : Room A 4) (B : Base w h₀) (C : MC w h₀ x D la lb d js ua ub za zb) (f : FM oD la lb d js m4 m5 m6 m9) (hs : Sorted (za.map kd) (zb.map kd) Sr) {qs : List Value} {Ws : List Win}
  (S : St s₀ h₀ L N203 vs (GO lq lm D oD qs ms nq nm) s) (G : GF vs x lq lm ua.length ub.length) (X : Q4s (Mine.rest s.heap L (GO lq lm D oD qs ms nq nm)) qs Ws) (Y : Mts (Mine.rest s.heap L (GO lq lm D oD qs ms nq nm)) ms acc) (I : GInv (za.map kd) (zb.map kd) Sr Ws acc)
  (h : ∀ g vs' s' ms' acc' nq' nm', Keeps h₀ g → St s₀ g L N203 vs' (GO lq lm D oD [] ms' nq' nm') s' → GF vs' x lq lm ua.length ub.length → Mts g ms' acc' → acc'.Perm (Gr [] Sr) → acc'.length ≤ 19 → Q .next s') :
  wpAny (model pw w) A (exec (stAt (fnB (kid (st 5) 7)) 5) env) Q E s := by
 conv in (stAt _ _) => whnf
 refine loop_while (n := mu Ws) (fun n vs own g => WJ vs x lq lm D oD ua.length ub.length (za.map kd) (zb.map kd) Sr g n own) S (.mk G X Y I) ?_
 clear S G X Y I
 intro R g n vs own s kg J S k
 cases J with | @mk qs ms nq nm Ws acc G X Y I =>
 have fit := I.fit
 have ml := mu_len Ws
 rw [llm] at fit
 have hza := C.hza
 have hq := X.len
 refine isTrue_plain (ld e S (i := 3) rfl G.a3 (wpAny_truthy_list (S.isList (j := 0) rfl) (by rw [lst]; lia) ?_))
 have S := S.same (s' := { s with toks := s.toks + 1 + 1 }) rfl rfl rfl
 rcases List.eq_nil_or_concat qs with rfl | ⟨qs, v, rfl⟩
 ·cases X
  exact h g vs _ ms acc nq nm kg S G Y I.done (by lia)
 ·rw [show (!(qs.concat v).toArray.isEmpty) = true by simp, if_pos rfl]
  rw [List.concat_eq_append] at X S hq
  rcases List.eq_nil_or_concat Ws with rfl | ⟨Ws, W, rfl⟩
  ·rw [lla] at hq; cases hq
  ·rw [List.concat_eq_append] at X I k
   have xl : qs.length = Ws.length := by rw [List.concat_eq_append, lla, lla] at hq; exact Nat.succ.inj hq
   have X1 := X.take qs.length
   have X2 := X.drop qs.length
   rw [List.take_left, xl, List.take_left] at X1
   rw [List.drop_left, xl, List.drop_left] at X2
   cases X2 with
   | cons Xv _ =>
   exact gmb_turn e hh r (B.keeps kg) (C.keeps kg) f hs S G X1 Xv Y I fun g' vs' s' qs' ms' Ws' acc' nq' nm' k' S G X Y I hm => k _ vs' _ s' hm (S.unbase k') (.mk G (X.imp fun _ _ z => z.keeps S.old) (Y.imp fun _ _ z => z.keeps S.old) I)
end
section
variable {g₀ : Heap}
variable {x D la lb d js lr : Addr} {oD : Obj} {ua ub : List Value} {K Sr : List T3} {za zb : List Int} {m4 m5 m6 m9 : Option Value}
theorem back_free {s' : Shared} {L : Addr} {ns : List Str} {vs : List (Option Value)} {own : List (Addr × Obj)} {g : Heap} {a : Addr} {o : Obj} (S : St s g L ns vs ((a, o) :: own) s') (kg : Keeps (hideL s.heap [D]) g) (hD : (D, oD) ∈ own) : s.heap.get? a = none := by
 have h1 := kg.none (S.nw _ (.head _)).2.2
 have ne : a ≠ D := fun q => (lnc.mp S.nd).1 (q ▸ lme (f := (·.1)) hD)
 cases q : s.heap.get? a with
 | none => rfl
 | some o => rw [hideL_get q (fun m => ne (lms.mp m))] at h1; cases h1
theorem gmb_ (B : Base w g₀) (k : Keeps g₀ s.heap) (nD : g₀.get? D = none) (hD : s.heap.get? D = some oD) (C : MC w g₀ x D la lb d js ua ub za zb) (r : Room A 5) (f : FM oD la lb d js (some .none) m5 m6 m9) (hs : Sorted (za.map kd) (zb.map kd) Sr) :
  codeAny (model pw w) A (.call (.ref 203) ⟨[.ref x], []⟩) (RetM D s fun v oD' s' => ∃ lr us K, v = .ref lr ∧ FM oD' la lb d js (some (.ref lr)) m5 m6 m9 ∧ s.heap.get? lr = none ∧ Ls s'.heap lr us ∧ Mts s'.heap us (K ++ [(za.length, zb.length, 0)]) ∧ KeptOk (za.map kd) (zb.map kd) K ∧ K.Perm (Gr [] Sr) ∧ K.length ≤ 19) s := by
 refine call_fR (B.keeps k) (is203 (B.keeps k)) ok203 r.lt (vals := [.ref x]) (.of_eq (by kernel_rfl)) rfl ?_
 intro env L s' Q hret _ e S
 have hh : (A.deeper env).handled = none := r.handled
 have r1 := r.deeper env
 have kg := enter k nD
 have S := S.take hD
 have B := B.keeps kg
 have C := C.keeps kg
 have hza := C.hza
 have hzb := C.hzb
 have lua := C.Ta.len
 have lub := C.Tb.len
 have hd := f.dict
 have kb : Keeps (hideL s.heap [D]) (hideL s.heap [D]) := .refl _
 generalize hbase : hideL s.heap [D] = hb at S B C
 rw [hbase] at kg
 have kb : Keeps (hideL s.heap [D]) hb := by rw [hbase]; exact .refl _
 clear hbase
 conv in (fnB _) => whnf
 with_reducible refine wec ?_
 refine we (wcs ?_) e.inter
 have S := S.same (s' := { s' with toks := s'.toks + 1 }) rfl rfl rfl
 refine wec (ifc (getS e B S (i := 0) (k := 4) rfl rfl C.hx (j := 0) rfl f rfl rfl rfl fun s₁ S _ => cnone (isnot_none_none ⟨_, rfl, nofun, fun _ => wen ?_⟩)))
 refine wec (asg2 (s₀ := s) e hh (i := 1) (j := 2) rfl rfl (by decide) rfl rfl rfl rfl (callBlt e S (i := 0) rfl (gl_len B) (it_Attribute (getS e B S (i := 0) (k := 1) rfl rfl C.hx (j := 0) rfl f rfl rfl rfl fun s₂ S _ => it_nil (lenC S (C.hla.keeps S.keep) (by lia) fun ta s₃ S _ => ?_)))))
 refine callBlt e S (i := 0) rfl (gl_len B) (it_Attribute (getS e B S (i := 0) (k := 2) rfl rfl C.hx (j := 0) rfl f rfl rfl rfl fun s₄ S _ => it_nil (lenC S (C.hlb.keeps S.keep) (by lia) fun tb s₅ S _ => ?_)))
 refine ⟨_, _, _, S, nlo rfl, nlo rfl, fun s₆ S => ?_⟩
 refine wec (waa (List_ (it_Tuple (PI.tuple (zs := w4 (W₀ (za.map kd) (zb.map kd))) ?_ e S (by show (4 : Nat) ≤ 1000; decide) fun a xs s₇ S _ I => it_nil (newList_ S (fun lq s₈ S => st_ e S (i := 3) rfl (nlo rfl) fun s₉ S => ?_) (by rw [see]; show (1 : Nat) ≤ _; decide))))))
 ·show All2 _ _ [_, ((za.map kd).length : Int), _, ((zb.map kd).length : Int)]
  rw [llm, llm, ← lua, ← lub]
  exact .cons .c (.cons (.nm 1 rfl rfl) (.cons .c (.cons (.nm 2 rfl rfl) .nil)))
 have T : TupI s₉.heap (.ref a) (w4 (W₀ (za.map kd) (zb.map kd))) := ⟨a, xs, rfl, S.get (j := 1) rfl, I⟩
 have S := S.drop (own' := [(lq, _), (D, oD)]) (.cons_cons _ (.cons _ (.refl _)))
 have T := T.stay S (all2o (.list _ _) hd.nt)
 refine An2 S.rebase fun S k2 => ?_
 change TupI (hideL _ _) _ _ at T
 generalize hideL _ _ = g at S k2 T
 refine wec (waa (List_ (it_nil (newList_ S (fun lm s₁₀ S => st_ e S (i := 4) rfl (nlo rfl) fun s₁₁ S => ?_) (nzl _)))))
 have S := S.perm (own' := GO lq lm D oD [.ref a] [] 0 0) (.swap _ _ _)
 refine wec (gmb_while e hh r1 (B.keeps k2) (C.keeps k2) f hs S ⟨rfl, ⟨ta, rfl⟩, ⟨tb, rfl⟩, rfl, rfl, rfl⟩ (.cons (T.keeps S.old) .nil) .nil (.start hs) fun g3 vs s₁₂ ms acc nq nm k3 S G Y hp la => ?_)
 have kk := k2.trans k3
 have S := S.drop (own' := [(lm, _), (D, oD)]) (lsc _ _)
 refine gmb_mid e hh (r1.le (by decide)) (B.keeps kk) S (kk _ _ C.hx) f G Y (by lia) (Gr_keys C.nda C.ndb hs hp) fun g4 s₁₃ vs' lr us cr oD' K out c p1 o1 eq k4 S f Y => ?_
 have kk := kk.trans k4
 have hp := p1.trans hp
 have kok := kept_ok C.nda C.ndb hs hp (o1.imp fun {a b} h => Int.ofNat_lt.mp h)
 rw [mrg_same (chn_zero C.nda C.ndb kok)] at eq
 rw [← eq, lua, lub] at Y
 exact hret _ _ (S.leave (kb.trans kk) (j := 1) rfl ⟨lr, us, K, rfl, f, back_free S (kb.trans kk) (.head _), S.ls (j := 0) rfl, Y, kok, hp, p1.length_eq ▸ la⟩)
theorem gmb2_ (B : Base w g₀) (k : Keeps g₀ s.heap) (nD : g₀.get? D = none) (hD : s.heap.get? D = some oD) (C : MC w g₀ x D la lb d js ua ub za zb) (r : Room A 1) (f : FM oD la lb d js (some (.ref lr)) m5 m6 m9) :
  codeAny (model pw w) A (.call (.ref 203) ⟨[.ref x], []⟩) (Ret s fun v s' => v = .ref lr) s := by
 refine call_fR (B.keeps k) (is203 (B.keeps k)) ok203 r.lt (vals := [.ref x]) (.of_eq (by kernel_rfl)) rfl ?_
 intro env L s' Q hret _ e S
 have B := B.keeps k
 have C := C.keeps k
 conv in (fnB _) => whnf
 with_reducible refine wec ?_
 refine we (wcs ?_) e.inter
 have S := S.same (s' := { s' with toks := s'.toks + 1 }) rfl rfl rfl
 refine wec (ifc (getS' e B S (i := 0) (k := 4) rfl rfl C.hx hD f rfl rfl rfl fun s₁ S _ => cnone (isnot_ref_none ⟨_, rfl, fun _ => wec (wrs (getS' e B S (i := 0) (k := 4) rfl rfl C.hx hD f rfl rfl rfl fun s₂ S _ => hret _ _ ⟨_, rfl, S.keep, S.gens, S.os, rfl⟩)), nofun⟩)))
end
end
section
open PySem PySem.W PyProof.Rows PySem.SeqAt
inductive Sc : Value → PyData → Prop
 | i (n : Int) (t : Tok) : Sc (.int n t) (.int n)
 | s (x : Str) (t : Tok) : Sc (.str x t) (.str x)
variable {w : World} {A : Around} {E : Value → Shared → Prop} {s₀ s s₁ : Shared} {env : Env} {h₀ : Heap} {L : Addr} {ns gs : List Str} {vs : List (Option Value)} {own : List (Addr × Obj)}
noncomputable def TupD (h : Heap) (v : Value) (ds : List PyData) : Prop := ∃ a xs, v = .ref a ∧ h.get? a = some (tupO xs.toArray) ∧ All2 Sc xs ds
theorem TupD.keeps {h h' : Heap} {v : Value} {ds : List PyData} (x : TupD h v ds) (k : Keeps h h') : TupD h' v ds := let ⟨a, xs, e, q, i⟩ := x; ⟨a, xs, e, k _ _ q, i⟩
theorem TupD.hide {h h' : Heap} {wr : List Addr} {a : Addr} {ds : List PyData} (hw : ∀ b ∈ wr, ∃ o, h.get? b = some o) (hn : h.get? a = none) (x : TupD h' (.ref a) ds) : TupD (hideL h' wr) (.ref a) ds := by
 refine Ex2 x fun _ xs => an3 fun e q I => ?_
 cases e
 exact ⟨a, xs, rfl, hideL_get q (fun m => by (refine Ex1 (hw _ m) fun o ho => ?_); rw [hn] at ho; exact nomatch ho), I⟩
inductive PV (ns : List Str) (vs : List (Option Value)) : Expr → PyData → Prop
 | int {a : Expr} {n : Int} : PI ns vs a n → PV ns vs a (.int n)
 | sn {x : Str} {p : Pos} (i : Nat) {y : Str} {t : Tok} : ns[i]? = some x → At vs i (.str y t) → PV ns vs (.Name x p) (.str y)
 | sc {y : Str} {k : Nat} {p : Pos} : PV ns vs (.Constant (.str y) k p) (.str y)
theorem PV.ev {a : Expr} {d : PyData} (p : PV ns vs a d) (e : Ev env L ns gs) {s : Shared} {Q : Value → Shared → Prop} (S : St s₀ h₀ L ns vs own s) (h : ∀ v s', St s₀ h₀ L ns vs own s' → s'.heap = s.heap → Sc v d → Q v s') : wpAny (model pw w) A (eval a env) Q E s := by
 cases p with
 | int p => exact p.ev e S fun t s' S' e' => h _ _ S' e' (.i _ _)
 | sn i hi hv => exact ld e S hi hv (h _ _ S rfl (.s _ _))
 | sc => exact wcs (h _ _ (S.same rfl rfl rfl) rfl (.s _ _))
theorem PV.items {es : List Expr} {ds : List PyData} (d : All2 (PV ns vs) es ds) (e : Ev env L ns gs) {pos : Pos} : ∀ {s : Shared} {Q : List Value → Shared → Prop}, St s₀ h₀ L ns vs own s → (∀ xs s', St s₀ h₀ L ns vs own s' → s'.heap = s.heap → All2 Sc xs ds → Q xs s') →
  wpAny (model pw w) A (spliced (backTo pos (starEach es env))) Q E s := by
 induction d with
 | nil => intro s Q S h; exact wpAny_items_nil (h _ _ S rfl .nil)
 | cons p _ ih => intro s Q S h; exact wio (p.ev e S fun v s₁ S₁ e₁ c => ih S₁ fun xs s₂ S₂ e₂ I => h _ _ S₂ (e₂.trans e₁) (.cons c I)) (by cases p with
   | int p => cases p <;> rfl
   | sn => rfl
   | sc => rfl)
theorem TupD.stay (S : St s₀ h₀ L ns vs own s) {v : Value} {ds : List PyData} (x : TupD s.heap v ds) (h : ∀ p ∈ own, NT p.2) : TupD (Mine.rest s.heap L own) v ds := by
 refine Ex2 x fun a xs => an3 fun e q I => ?_
 refine ⟨a, xs, e, rest_get q (fun z => ?_) fun m => ?_, I⟩
 ·rw [z] at q; exact NT.frame S.nsp q _ rfl
 ·refine Ex1 (lmm.mp m) fun p => an2 fun hp z => ?_
  have := (S.nw p hp).1
  rw [z, q] at this
  exact h p hp _ (Option.some.inj this).symm
theorem appD_ {x : Str} {i j n k : Nat} {l : Addr} {us : List Value} {es : List Expr} {ds : List PyData} {p1 p2 p3 p4 p5 : Pos} {Q : Flow → Shared → Prop} (e : Ev env L ns gs) (S : St s₀ h₀ L ns vs own s)
  (hi : ns[i]? = some x) (hv : At vs i (.ref l)) (hj : own[j]? = some (l, listOf us.toArray n)) (hline : (p2.endLine == p3.line) = true) (d : All2 (PV ns vs) es ds) (hz : ds.length ≤ 1000) (hu : us.length ≤ 1000) (hnt : ∀ p ∈ own, NT p.2)
  (h : ∀ g a c s', Keeps h₀ g → St s₀ g L ns vs (own.set j (l, listOf (us ++ [Value.ref a]).toArray c)) s' → TupD g (.ref a) ds → h₀.get? a = none → Q .next s') :
  wpAny (model pw w) A (exec (.Expr (.Call (.Attribute (.Name x p1) (sO "append") p2) [.Tuple es k p5] [] p3) p4) env) Q E s := by
 refine append_ e S hi hv hj hline (Tuple_ (PV.items d e S fun xs s₁ S₁ e₁ I => wnt ?_ (by show xs.toArray.size ≤ sizeLine; rw [lst, see, I.len]; exact nlt hz (nal 1000 16776216))))
 have S₂ := S₁.push (s' := { s₁ with heap := s₁.heap.push (tupO xs.toArray) }) (tupO xs.toArray) rfl rfl rfl rfl
 refine ⟨_, _, _, j + 1, us.toArray, n, S₂, hj, by rw [lst, see]; exact nlt hu (nal 1000 16776216), fun s₃ S₃ => ?_⟩
 rw [show us.toArray.push (.ref s₁.heap.objs.size) = (us ++ [Value.ref s₁.heap.objs.size]).toArray by simp] at S₃
 have T : TupD s₃.heap (.ref s₁.heap.objs.size) ds := ⟨_, xs, rfl, S₃.get (j := 0) rfl, I⟩
 have S₄ := S₃.drop (lsc _ _)
 exact h _ _ (n + 1) s₃ S₄.rebase.2 S₄.rebase.1 (T.stay S₄ (mem_set hnt (.list _ _))) (S₃.nw _ (.head _)).2.2
noncomputable def DsAt (vs : List (Option Value)) (k : Nat) (ds : List PyData) : Prop := ∀ j d, ds[j]? = some d → ∃ u, At vs (k + j) u ∧ Sc u d
theorem DsAt.int {k j : Nat} {n : Int} {ds : List PyData} (D : DsAt vs k ds) (h : ds[j]? = some (.int n)) : AtI vs (k + j) n := by
 refine Ex1 (D j _ h) fun u => an2 fun a x => ?_
 cases x with | i _ t => exact ⟨t, a⟩
theorem DsAt.str {k j : Nat} {x : Str} {ds : List PyData} (D : DsAt vs k ds) (h : ds[j]? = some (.str x)) : ∃ t, At vs (k + j) (.str x t) := by
 refine Ex1 (D j _ h) fun u => an2 fun a x => ?_
 cases x with | s _ t => exact ⟨t, a⟩
theorem names_ (e : Ev env L ns gs) {us : List Value} {ds : List PyData} (I : All2 Sc us ds) : ∀ {nm : List (Str × Pos)} {k : Nat} {vs : List (Option Value)} {s : Shared} {Q : Unit → Shared → Prop}, St s₀ h₀ L ns vs own s → nm.map (fun x => some x.1) = (List.range' k ds.length).map (fun i => ns[i]?) → k + ds.length ≤ vs.length →
  (∀ vs' s', vs'.length = vs.length → (∀ i, i < k ∨ k + ds.length ≤ i → vs'[i]? = vs[i]?) → DsAt vs' k ds → St s₀ h₀ L ns vs' own s' → Q () s') →
  wpAny (model pw w) A (assignInOrder (nm.map fun x => assign (.Name x.1 x.2) env) us) Q E s := by
 induction I with
 | nil =>
  intro nm k vs s Q S hn hl h
  cases nm with
  | nil => exact assignInOrder_nil (h vs s rfl (fun _ _ => rfl) (fun _ _ q => nomatch q) S)
  | cons x nm => cases hn
 | @cons u d us ds c I ih =>
  intro nm k vs s Q S hn hl h
  cases nm with
  | nil => cases hn
  | cons x nm =>
  rw [List.length_cons] at hl
  have hn : some x.1 :: nm.map (fun x => some x.1) = ns[k]? :: (List.range' (k + 1) ds.length).map (fun i => ns[i]?) := hn
  refine aac (wan (st_ e S (List.cons.inj hn).1.symm (by omega) fun s₁ S => ih S (List.cons.inj hn).2 (by rw [lls]; omega) fun vs' s' h1 h2 h3 S => h vs' s' (by rw [h1, lls]) (fun i hi => ?_) ?_ S))
  ·rw [List.length_cons] at hi
   rw [h2 i (by omega), List.getElem?_set_ne (by omega)]
  ·intro j d' q
   cases j with
   | zero => rw [← Option.some.inj q]; exact ⟨u, (h2 k (.inl (nls _))).trans (List.getElem?_set_self (by omega)), c⟩
   | succ j => rw [show k + (j + 1) = k + 1 + j by omega]; exact h3 j d' q
theorem asgT_ {es : List Expr} {v : Value} {ds : List PyData} {nm : List (Str × Pos)} {k kk : Nat} {p : Pos} {Q : Unit → Shared → Prop} (hh : A.handled = none) (e : Ev env L ns gs) (S : St s₀ h₀ L ns vs own s) (T : TupD s.heap v ds)
  (he : assignEach es env = nm.map fun x => (false, assign (.Name x.1 x.2) env)) (hn : nm.map (fun x => some x.1) = (List.range' k ds.length).map (fun i => ns[i]?)) (hl : k + ds.length ≤ vs.length)
  (h : ∀ vs' s', vs'.length = vs.length → (∀ i, i < k ∨ k + ds.length ≤ i → vs'[i]? = vs[i]?) → DsAt vs' k ds → St s₀ h₀ L ns vs' own s' → Q () s') : wpAny (model pw w) A (assign (.Tuple es kk p) env v) Q E s := by
 refine Ex2 T fun a xs => an3 fun zz1 q I => ?_
 subst zz1
 have hz : nm.length = ds.length := by have := congrArg List.length hn; rwa [llm, llm, List.length_range'] at this
 refine wpAny_assign_Tuple hh ⟨_, q, rfl, 0, rfl⟩ (by rw [he, llm, hz, lst, I.len]) (by rw [he, List.findIdx?_eq_none_iff]; intro x hx; (refine Ex1 (lmm.mp hx) fun y => an2 fun _ zz1 => ?_; subst zz1); rfl) fun h' hb' => ?_
 rw [he, List.map_map]
 exact names_ e I (S.keeps (s' := { s with heap := h' }) (extBut_size hb') rfl rfl) hn hl h
noncomputable def tagS : Tag → Str
 | .rep => sO "replace" | .del => sO "delete" | .ins => sO "insert" | .eql => sO "equal"
noncomputable abbrev c5 (c : Code) : List PyData := [.str (tagS c.1), .int (c.2.1 : Nat), .int (c.2.2.1 : Nat), .int (c.2.2.2.1 : Nat), .int (c.2.2.2.2 : Nat)]
noncomputable abbrev Cds (h : Heap) (vs : List Value) (cs : List Code) : Prop := All2 (fun v c => TupD h v (c5 c)) vs cs
noncomputable def tgO (i j : Nat) (b : T3) : Option Tag := if i < b.1 ∧ j < b.2.1 then some .rep else if i < b.1 then some .del else if j < b.2.1 then some .ins else none
noncomputable def tgS : Option Tag → Str
 | none => sO ""
 | some t => tagS t
theorem tagC_eq (i j : Nat) (b : T3) : tagC i j b = match tgO i j b with | none => [] | some t => [(t, i, b.1, j, b.2.1)] := by
 unfold tagC tgO
 split
 ·rfl
 ·split
  ·rfl
  ·split <;> rfl
theorem tgS_len (o : Option Tag) : (((tgS o).length : Int) != 0) = o.isSome := by
 match o with
 | none => decide +kernel
 | some .rep => decide +kernel
 | some .del => decide +kernel
 | some .ins => decide +kernel
 | some .eql => decide +kernel
theorem tgS_fit (o : Option Tag) : ¬ ((tgS o).length : Int) ≥ 2 ^ 63 := by
 match o with
 | none => decide +kernel
 | some .rep => decide +kernel
 | some .del => decide +kernel
 | some .ins => decide +kernel
 | some .eql => decide +kernel
structure OF (vs : List (Option Value)) (x la : Addr) (i j : Nat) : Prop where
 a0 : At vs 0 (.ref x)
 a3 : At vs 3 (.ref la)
 a1 : AtI vs 1 i
 a2 : AtI vs 2 j
 len : vs.length = 8
theorem OF.set {vs : List (Option Value)} {x la : Addr} {i j : Nat} (f : OF vs x la i j) {k : Nat} {u : Option Value} (h : 4 ≤ k) : OF (vs.set k u) x la i j := by
 have n : ∀ i, i < 4 → (k == i) = false := fun i hi => beq_eq_false_iff_ne.mpr (by exact Nat.ne_of_gt (nll hi h))
 exact ⟨f.a0.ne (n 0 (by decide)), f.a3.ne (n 3 (by decide)), f.a1.ne (n 1 (by decide)), f.a2.ne (n 2 (by decide)), by rw [lls, f.len]⟩
structure OB (vs : List (Option Value)) (b : T3) : Prop where
 a4 : AtI vs 4 b.1
 a5 : AtI vs 5 b.2.1
 a6 : AtI vs 6 b.2.2
theorem OB.set7 {vs : List (Option Value)} {b : T3} (f : OB vs b) {u : Option Value} : OB (vs.set 7 u) b := ⟨f.a4.ne, f.a5.ne, f.a6.ne⟩
section
variable {x la D : Addr} {oD : Obj} {os : List Value} {no i j : Nat} {out : List Code} {b : T3} {wr : List Addr} {Q : Flow → Shared → Prop}
theorem asgS {y x : Str} {k : Nat} {i : Nat} {p1 p2 p3 : Pos} (e : Ev env L ns gs) (S : St s₀ h₀ L ns vs own s) (hi : ns[i]? = some x) (hl : i < vs.length) (h : ∀ t s', St s₀ h₀ L ns (vs.set i (some (.str y t))) own s' → Q .next s') :
  wpAny (model pw w) A (exec (.Assign [.Name x p1] (.Constant (.str y) k p2) p3) env) Q E s :=
 waa (cstr S fun t s₁ S => st_ e S hi hl fun s₂ S => h t _ S)
theorem opc_tag (e : Ev env L N210 gs) (S : St s₀ h₀ L N210 vs own s) (F : OF vs x la i j) (G : OB vs b) (h7 : ∃ t, At vs 7 (.str (tgS none) t)) (hq : ∀ vs' s', St s₀ h₀ L N210 vs' own s' → OF vs' x la i j → OB vs' b → (∃ t, At vs' 7 (.str (tgS (tgO i j b)) t)) → Q .next s') :
  wpAny (model pw w) A (exec (stAt (forB (stAt (fnB (kid (st 5) 8)) 4)) 1) env) Q ff s := by
 have l7 : 7 < vs.length := by rw [F.len]; decide
 have h : ∀ t s', St s₀ h₀ L N210 (vs.set 7 (some (.str (tgS (tgO i j b)) t))) own s' → Q .next s' := fun t s' S => hq _ _ S (F.set (by decide)) G.set7 ⟨t, At.eq l7⟩
 unfold tgO at h hq
 conv in (stAt _ _) => whnf
 refine ifP (b := decide (i < b.1) && decide (j < b.2.1)) e S (by rw [← lt_nat, ← lt_nat]; exact .and (.lt (.at F.a1) (.at G.a4)) (.lt (.at F.a2) (.at G.a5))) fun s₁ S _ => ?_
 by_cases h1 : i < b.1
 ·rw [decide_eq_true h1, Bool.true_and]
  by_cases h2 : j < b.2.1
  ·rw [decide_eq_true h2]
   rw [if_pos ⟨h1, h2⟩] at h
   exact wec (asgS e S (i := 7) rfl l7 fun t s₂ S => wen (h t _ S))
  ·rw [decide_eq_false h2]
   rw [if_neg (fun q => h2 q.2), if_pos h1] at h
   refine wec (ifP (b := decide (i < b.1)) e S (by rw [← lt_nat]; exact .lt (.at F.a1) (.at G.a4)) fun s₂ S _ => ?_)
   rw [decide_eq_true h1]
   exact wec (asgS e S (i := 7) rfl l7 fun t s₃ S => wen (wen (h t _ S)))
 ·rw [decide_eq_false h1, Bool.false_and]
  rw [if_neg (fun q => h1 q.1), if_neg h1] at h
  refine wec (ifP (b := decide (i < b.1)) e S (by rw [← lt_nat]; exact .lt (.at F.a1) (.at G.a4)) fun s₂ S _ => ?_)
  rw [decide_eq_false h1]
  refine wec (ifP (b := decide (j < b.2.1)) e S (by rw [← lt_nat]; exact .lt (.at F.a2) (.at G.a5)) fun s₃ S _ => ?_)
  by_cases h2 : j < b.2.1
  ·rw [decide_eq_true h2]
   rw [if_pos h2] at h
   exact wec (asgS e S (i := 7) rfl l7 fun t s₄ S => wen (wen (wen (h t _ S))))
  ·rw [decide_eq_false h2]
   rw [if_neg (fun q => h1 q.1), if_neg h1, if_neg h2] at hq
   exact wen (wen (wen (hq _ _ S F G h7)))
noncomputable abbrev OO (la D : Addr) (oD : Obj) (os : List Value) (no : Nat) : List (Addr × Obj) := [(la, listOf os.toArray no), (D, oD)]
theorem opc_app {es : List Expr} {c : Code} {p1 p2 p3 p4 p5 : Pos} {h₁ : Heap} (hw : ∀ b ∈ wr, ∃ o, h₁.get? b = some o) (e : Ev env L N210 gs) (S : St s₀ h₁ L N210 vs (OO la D oD os no) s) (hD : DictO oD) (F : At vs 3 (.ref la)) (d : All2 (PV N210 vs) es (c5 c)) (X : Cds (hideL h₁ wr) os out) (ho : out.length ≤ 900) (hline : (p2.endLine == p3.line) = true)
  (h : ∀ g s' os' no', Keeps h₁ g → St s₀ g L N210 vs (OO la D oD os' no') s' → Cds (hideL g wr) os' (out ++ [c]) → Q .next s') :
  wpAny (model pw w) A (exec (.Expr (.Call (.Attribute (.Name (sO "answer") p1) (sO "append") p2) [.Tuple es 0 p5] [] p3) p4) env) Q E s :=
 appD_ e S (i := 3) (j := 0) rfl F rfl hline d (by show (5 : Nat) ≤ 1000; decide) (by rw [X.len]; exact nlt ho (nal 900 100)) (all2o (.list _ _) hD.nt) fun g a n s₃ k S T fa => h g s₃ _ n k S ((X.imp fun _ _ z => z.keeps (hide_mono wr k)).snoc (T.hide hw fa))
theorem opc_turn (hw : ∀ b ∈ wr, ∃ o, h₀.get? b = some o) (e : Ev env L N210 gs) (hh : A.handled = none) (S : St s₀ h₀ L N210 vs (OO la D oD os no) s) (hD : DictO oD) (F : OF vs x la i j) (G : OB vs b) (X : Cds (hideL h₀ wr) os out) (ho : out.length ≤ 800)
  (h : ∀ g s' vs' os' no', Keeps h₀ g → St s₀ g L N210 vs' (OO la D oD os' no') s' → OF vs' x la (b.1 + b.2.2) (b.2.1 + b.2.2) → Cds (hideL g wr) os' (out ++ (tagC i j b ++ equalC b)) → Q .next s') :
  wpAny (model pw w) A (execs (forB (stAt (fnB (kid (st 5) 8)) 4)) env) Q ff s := by
 have l7 : 7 < vs.length := by rw [F.len]; decide
 conv in (forB _) => whnf
 refine wec (asgS e S (i := 7) rfl l7 fun t s₁ S => ?_)
 refine wec (opc_tag e S (F.set (by decide)) G.set7 ⟨t, At.eq l7⟩ fun vs s₂ S F G h7 => ?_)
 refine Ex1 h7 fun t h7 => ?_
 rw [tagC_eq] at h
 refine seqP (fun s' => ∃ g os' no', Keeps h₀ g ∧ St s₀ g L N210 vs (OO la D oD os' no') s' ∧ Cds (hideL g wr) os' (out ++ match tgO i j b with | none => [] | some t => [(t, i, b.1, j, b.2.1)])) (wpAny_If (isTrue_plain (ld e S (i := 7) rfl h7 (P.truthy_str (tgS_fit _) ?_)))) ?_
 ·rw [tgS_len]
  have S := S.same (s' := { s₂ with toks := s₂.toks + 1 + 1 }) rfl rfl rfl
  clear h
  generalize tgO i j b = o at h7 ⊢
  cases o with
  | none => exact wen ⟨rfl, h₀, os, no, .refl _, S, by rw [lan]; exact X⟩
  | some tg =>
   exact wec (opc_app (c := (tg, i, b.1, j, b.2.1)) hw e S hD F.a3 (.cons (.sn 7 rfl h7) (.cons (.int (.at F.a1)) (.cons (.int (.at G.a4)) (.cons (.int (.at F.a2)) (.cons (.int (.at G.a5)) .nil))))) X (by exact nlt ho (nal 800 100)) rfl fun g s₃ os' no' k S X => wen ⟨rfl, g, os', no', k, S, X⟩)
 refine fun s₃ => ex3 fun g os' no' => an3 fun k S X => ?_
 have ho' : (out ++ match tgO i j b with | none => [] | some t => [(t, i, b.1, j, b.2.1)]).length ≤ out.length + 1 := by rw [lla]; split <;> simp
 rw [← laa] at h
 generalize (out ++ match tgO i j b with | none => [] | some t => [(t, i, b.1, j, b.2.1)]) = out at X h ho'
 have ln := F.len
 refine wec (asg2 (s₀ := s₀) e hh (i := 1) (j := 2) rfl rfl (by decide) rfl rfl rfl rfl ((PI.add (.at G.a4) (.at G.a6)).ev e S fun t1 s₄ S _ => (PI.add (.at G.a5) (.at G.a6)).ev e S fun t2 s₅ S _ => ⟨_, _, _, S, by rw [ln]; decide, by rw [ln]; decide, fun s₆ S => ?_⟩))
 have F2 : OF ((vs.set 2 (some (.int ((b.2.1 : Int) + (b.2.2 : Int)) t2))).set 1 (some (.int ((b.1 : Int) + (b.2.2 : Int)) t1))) x la (b.1 + b.2.2) (b.2.1 + b.2.2) :=
  ⟨(F.a0.ne).ne, (F.a3.ne).ne, ⟨t1, At.eq (ltS (by rw [ln]; decide))⟩, ⟨t2, (At.eq (by rw [ln]; decide)).ne⟩, by rw [lls, lls, ln]⟩
 have G2 : OB ((vs.set 2 (some (.int ((b.2.1 : Int) + (b.2.2 : Int)) t2))).set 1 (some (.int ((b.1 : Int) + (b.2.2 : Int)) t1))) b := ⟨(G.a4.ne).ne, (G.a5.ne).ne, (G.a6.ne).ne⟩
 generalize ((vs.set 2 (some (.int ((b.2.1 : Int) + (b.2.2 : Int)) t2))).set 1 (some (.int ((b.1 : Int) + (b.2.2 : Int)) t1))) = vs at S F2 G2
 refine wec (ifN e S (i := 6) rfl G2.a6 fun s₇ S => ?_)
 unfold equalC at h
 by_cases hk : b.2.2 = 0
 ·rw [hk]
  rw [if_neg (by lia), lan] at h
  exact wen (wen (h g s₇ _ os' no' k S F2 X))
 ·rw [show (((b.2.2 : Nat) : Int) != 0) = true from bne_iff_ne.mpr fun q => hk (Int.ofNat.inj q)]
  rw [if_pos (Nat.pos_of_ne_zero hk)] at h
  exact wec (opc_app (c := (.eql, b.1, b.1 + b.2.2, b.2.1, b.2.1 + b.2.2)) (fun c hc => let ⟨o, ho⟩ := hw c hc; ⟨o, k _ _ ho⟩) e S hD F2.a3 (.cons .sc (.cons (.int (.at G2.a4)) (.cons (.int (.at F2.a1)) (.cons (.int (.at G2.a5)) (.cons (.int (.at F2.a2)) .nil))))) X (by lia) rfl fun g2 s₈ os' no' k2 S X => wen (wen (h g2 s₈ _ os' no' (k.trans k2) S F2 X)))
end
noncomputable def endB : Nat → Nat → List T3 → Nat × Nat
 | i, j, [] => (i, j)
 | _, _, b :: r => endB (b.1 + b.2.2) (b.2.1 + b.2.2) r
theorem codesC_snoc (b : T3) : ∀ (K : List T3) (i j : Nat), codesC i j (K ++ [b]) = codesC i j K ++ (tagC (endB i j K).1 (endB i j K).2 b ++ equalC b) ∧ endB i j (K ++ [b]) = (b.1 + b.2.2, b.2.1 + b.2.2)
 | [], i, j => ⟨by simp [codesC, endB], rfl⟩
 | c :: K, i, j => by
  refine An2 (codesC_snoc b K (c.1 + c.2.2) (c.2.1 + c.2.2)) fun e1 e2 => ?_
  exact ⟨by rw [List.cons_append, codesC, e1, codesC]; simp only [laa]; rfl, e2⟩
theorem codesC_len : ∀ (K : List T3) (i j : Nat), (codesC i j K).length ≤ 2 * K.length
 | [], _, _ => nlr _
 | b :: K, i, j => by
  have := codesC_len K (b.1 + b.2.2) (b.2.1 + b.2.2)
  have h1 : (tagC i j b).length ≤ 1 := by rw [tagC_eq]; split <;> simp
  have h2 : (equalC b).length ≤ 1 := by unfold equalC; split <;> simp
  rw [codesC, lla, lla, List.length_cons]
  lia
section
variable {g₀ : Heap}
variable {x la lb d js D lo lr : Addr} {oD : Obj} {us ua ub : List Value} {no : Nat} {K Sr : List T3} {za zb : List Int} {m4 m5 m6 m9 : Option Value} {Q : Flow → Shared → Prop}
inductive PJ (vs : List (Option Value)) (x lo D : Addr) (oD : Obj) (ij : Nat × Nat) (cs : List Code) (g : Heap) : List (Addr × Obj) → Prop
 | mk {os : List Value} {no : Nat} : OF vs x lo ij.1 ij.2 → Cds g os cs → PJ vs x lo D oD ij cs g (OO lo D oD os no)
theorem opc_for {pt : Pos} {es : List Expr} {kt : Nat} (hT : Expr.Tuple es kt pt = (match stAt (fnB (kid (st 5) 8)) 4 with | .For t _ _ _ _ => t | _ => default)) (e : Ev env L N210 gs) (hh : A.handled = none) (B : Base w h₀) (S : St s₀ h₀ L N210 vs (OO lo D oD [] no) s) (hD : DictO oD) (F : OF vs x lo 0 0) (hl : Ls h₀ lr us) (Y : Mts h₀ us K) (hK : K.length ≤ 300)
  (h : ∀ g s' vs' os' no', Keeps h₀ g → St s₀ g L N210 vs' (OO lo D oD os' no') s' → At vs' 3 (.ref lo) → Cds g os' (codesC 0 0 K) → Q .next s') :
  wpAny (model pw w) A (pyIter (.ref lr)) (fun it s₂ => codeAny (model pw w) A (.forLoop (.Tuple es kt pt) it (forB (stAt (fnB (kid (st 5) 8)) 4)) [] env) (fun r s' => match r with | .ok f => Q f s' | .error e => cameBackBy (model pw w) A env ff e s') s₂) ff s := by
 conv at hT => rhs; whnf
 cases hT
 refine loop_listQ hh S hl (.inr ⟨_, _, _, rfl⟩) (fun k vs own h => PJ vs x lo D oD (endB 0 0 (K.take k)) (codesC 0 0 (K.take k)) h own) (fun j vs own h h' J kk => by cases J with | mk F R => exact .mk F (R.imp fun _ _ z => z.keeps kk)) (.mk F .nil) (fun R wr g k vs own s' v kg hw hv J S kn => ?_) fun g vs own s' kg J S => ?_
 ·cases J with | @mk os no F X =>
  refine Ex1 (Y.get hv) fun b => an2 fun hb => ex2 fun m xs => an3 fun zz1 hm I => ?_
  subst zz1
  refine Ex3 (ints3 I) fun t1 t2 t3 zz1 => ?_
  subst zz1
  have ln : ∀ i, i < 8 → i < vs.length := fun i hi => F.len ▸ hi
  have cl : (codesC 0 0 (K.take k)).length ≤ 600 := nlt (codesC_len (K.take k) 0 0) (Nat.mul_le_mul_left 2 (nlt (by rw [llt]; exact Nat.min_le_right _ _) hK))
  refine An2 (codesC_snoc b (K.take k) 0 0) fun e1 e2 => ?_
  refine unpM e hh (B.keeps kg) S (hm.keeps (kg.trans S.keep)) (i := 4) (j := 5) (l := 6) rfl rfl rfl (ln 4 (by decide)) (ln 5 (by decide)) (ln 6 (by decide)) fun s₁ S => ?_
  exact toE (opc_turn (b := b) (wr := wr) hw e hh S hD (((F.set (by decide)).set (by decide)).set (by decide)) ⟨⟨t1, ((At.eq (ln 4 (by decide))).ne).ne⟩, ⟨t2, (At.eq (ltS (ln 5 (by decide)))).ne⟩, ⟨t3, At.eq (ltS (ltS (ln 6 (by decide))))⟩⟩ X (nlt cl (by decide)) fun g2 s₂ vs' os' no' k2 S F X => kn vs' _ s₂ (S.unbase k2) (by
   rw [take_snoc hb, e1, e2]
   exact .mk F (X.imp fun _ _ z => z.keeps S.past)))
 ·cases J with | mk F X =>
  rw [Y.len, ltl] at X
  exact h g s' vs _ _ kg S F.a3 X
theorem opc_ (B : Base w g₀) (k : Keeps g₀ s.heap) (nD : g₀.get? D = none) (hD : s.heap.get? D = some oD) (C : MC w g₀ x D la lb d js ua ub za zb) (r : Room A 6) (f : FM oD la lb d js (some .none) (some .none) m6 m9) (hs : Sorted (za.map kd) (zb.map kd) Sr) :
  codeAny (model pw w) A (.call (.ref 210) ⟨[.ref x], []⟩) (RetM D s fun v oD' s' => ∃ lo os lr us K, v = .ref lo ∧ FM oD' la lb d js (some (.ref lr)) (some (.ref lo)) m6 m9 ∧ s.heap.get? lo = none ∧ Ls s'.heap lo os ∧ Cds s'.heap os (codesC 0 0 (K ++ [(za.length, zb.length, 0)])) ∧ Ls s'.heap lr us ∧ Mts s'.heap us (K ++ [(za.length, zb.length, 0)]) ∧ KeptOk (za.map kd) (zb.map kd) K ∧ K.Perm (Gr [] Sr)) s := by
 refine call_fR (B.keeps k) (is210 (B.keeps k)) ok210 r.lt (vals := [.ref x]) (.of_eq (by kernel_rfl)) rfl ?_
 intro env L s' Q hret _ e S
 have hh : (A.deeper env).handled = none := r.handled
 have r1 := r.deeper env
 have kg := enter k nD
 have S := S.take hD
 have B := B.keeps kg
 have C := C.keeps kg
 have nD : (hideL s.heap [D]).get? D = none := hideL_none (.head _)
 generalize hbase : hideL s.heap [D] = hb at S B C nD
 have kb : Keeps (hideL s.heap [D]) hb := by rw [hbase]; exact .refl _
 clear hbase kg
 conv in (fnB _) => whnf
 with_reducible refine wec ?_
 refine we (wcs ?_) e.inter
 have S := S.same (s' := { s' with toks := s'.toks + 1 }) rfl rfl rfl
 refine wec (ifc (getS e B S (i := 0) (k := 5) rfl rfl C.hx (j := 0) rfl f rfl rfl rfl fun s₁ S _ => cnone (isnot_none_none ⟨_, rfl, nofun, fun _ => wen ?_⟩)))
 refine wec (wat (cint S fun t s₂ S => wan (st_ e S (i := 1) rfl (nlo rfl) fun s₃ S => wan (st_ e S (i := 2) rfl (nlo rfl) fun s₄ S => ?_))))
 refine wec (wat (List_ (it_nil (newList_ S (fun lo s₅ S => setS e B S (i := 0) (k := 5) rfl rfl C.hx (j := 1) rfl f rfl (nlo rfl) fun s₆ oD S f => wan (st_ e S (i := 3) rfl (nlo rfl) fun s₇ S => ?_)) (nzl _)))))
 refine wec (wpAny_For (callM0 e B S (i := 0) rfl rfl C.hx (j := 1) rfl f (mt203 _) (useM S (j := 1) rfl (gmb_ B S.keep nD (S.get (j := 1) rfl) C r1 f hs) ?_)))
 refine fun v oD' s₈ S2 ext => ex3 fun lr us K => an8 fun zz1 f fr hl Y kok hp lK => ?_
 subst zz1
 have nr := S.fresh2 fr
 have S2 : St s hb L N210 _ (OO lo D oD' [] 0) s₈ := S2
 have Y := Y.imp fun _ _ (z : MtI _ _ _) => z.stay S2 (all2o (.list _ _) f.dict.nm)
 refine Ex1 hl fun cr hl => ?_
 have hl := rest_get (L := L) (own := OO lo D oD' [] 0) hl nr.1 nr.2
 refine An2 S2.rebase fun S k2 => ?_
 change Mts (hideL _ _) _ _ at Y
 change (hideL _ _).get? _ = _ at hl
 generalize hideL s₈.heap _ = g at S k2 Y hl
 refine opc_for (Q := fun f s' => match f with | .next => wpAny (model pw w) (A.deeper env) (execs [stAt (fnB (kid (st 5) 8)) 5] env) Q ff s' | f => Q f s') rfl e hh (B.keeps k2) S f.dict ⟨rfl, rfl, ⟨t, rfl⟩, ⟨t, rfl⟩, rfl⟩ ⟨cr, hl⟩ Y (by rw [lla]; show _ + 1 ≤ _; lia) fun g2 s₉ vs' os no k3 S v3 X => ?_
 have kk := k2.trans k3
 conv in (stAt _ _) => whnf
 with_reducible refine wec (wrs ?_)
 refine ld e S (i := 3) rfl v3 ?_
 exact hret _ _ (S.leave (kb.trans kk) (j := 1) rfl ⟨lo, os, lr, us, K, rfl, f, back_free S (kb.trans kk) (.head _), S.ls (j := 0) rfl, X.imp fun _ _ z => z.keeps S.keep, ⟨cr, (k3.trans S.keep) _ _ hl⟩, Y.imp fun _ _ z => z.keeps (k3.trans S.keep), kok, hp⟩)
end
theorem mt_sub {value slice : PySem.Expr} {m : Addr} {a b c : Value} {u : Tok} {Q : Value → Shared → Prop} (B : Base w s.heap) (hm : MtAt s.heap m [a, b, c]) (q : Q c s)
  (hs : subscripted slice false (.ref m) (.int (-1) u) = operate [.ref m, .int (-1) u] (getItem (.ref m) (.int (-1) u)) := by with_unfolding_all rfl) (ht : ∀ r, letTemporaryGo value (.ref m) r = pure () := by intro _; with_unfolding_all rfl) :
  wpAny (model pw w) A (subscriptTail value slice (.ref m) (.int (-1) u)) Q E s := by
 unfold subscriptTail
 refine wb ?_
 rw [getitemInPython_of_ne (by intro z; cases z)]
 refine wb (mt_spec (mt_getS _) B hm (wpp (wb ?_)))
 rw [hs]
 refine wpAny_operating (wm (Q := Q) ?_ (fun r s₃ h₃ => wb (wpAny_of_eq (ht r) (wpp h₃))) fun _ _ x => x)
 unfold getItem
 refine whh (wb ?_)
 unfold sequenceKey
 refine wb ((mt_type hm).here ?_)
 dsimp only
 unfold seqItemTypes
 refine wb ?_
 refine wb ((looks_subIn B.K (show subIn (KF w.params) (.ref 135) (.type "collections.deque") = some false by kernel_rfl)).here ?_)
 refine wpp ?_
 refine wpp ?_
 refine wb (mt_special (mt_getS _) B hm (mt_call_ (mt_getS _) B hm (PySem.F.args_tuple_getitem_2 _ _) ?_))
 refine Ex1 hm fun dx hm => ?_
 show wpAny _ _ (Builtin.Tuple.tupleItemsOf (.ref m) >>= _) _ _ s
 refine wb (wpAny_tupleItemsOf hm rfl ?_)
 refine wb (wpAny_typeOf (typeIs_int s _ u) ?_)
 rw [if_neg (by decide)]
 refine wb (wpAny_specialOf (T := "int") (typeIs_int s _ u) int_index ?_)
 rw [if_neg (by simp)]
 refine wb (wpAny_of_eq (a := (-1 : Int)) rfl ?_)
 rw [if_neg (by decide)]
 exact wpp ⟨_, rfl, wpp q⟩
noncomputable abbrev tabO (ps : Array Value) : Obj := { cls := .none, data := .fields ps }
theorem gen_code {j : Nat} {ps : Array Value} {pos : Pos} {qual : Str} {scope : Scope} {Q : Value → Shared → Prop} (B : Base w h₀) (S : St s₀ h₀ L ns vs own s) (hj : own[j]? = some (220, tabO ps)) (ok : TriplesOk ps.toList) (hc : env.code = .ref 224)
  (h : ∀ c' ps' s', TriplesOk ps'.toList → St s₀ h₀ L ns vs (own.set j (220, tabO ps')) s' → Heap.ExtBut 220 s.heap s'.heap → Q c' s') : wpAny (model pw w) A (genexprCode env pos qual scope) Q E s := by
 have h4 := (B.keeps S.keep).at (a := 224) (o := o224 w.params) (by kernel_rfl)
 have T := S.get hj
 have ic : s.heap.IsCode 224 220 ps := ⟨_, _, _, _, _, _, _, _, _, _, h4, rfl, rfl, rfl, rfl, rfl, rfl, T, rfl, ok, by decide⟩
 cases hf : codeAmong pos ps.toList with
 | some c' => exact wpAny_genexprCode_hit hc ic hf (h c' ps s ok (S.update hj (fun _ _ _ q => q) T rfl rfl) fun _ _ _ q => q)
 | none =>
  refine wpAny_genexprCodeX hc ic ⟨⟨_, _, h4, rfl, rfl, rfl⟩, T⟩ hf fun c' h' tk ext _ _ _ _ tb _ => h _ _ _ ?_ (S.update hj ext tb.2 rfl rfl) ext
  rw [Array.toList_append]
  exact TriplesOk_snoc _ _ _ _ ok
theorem blt_for {Q : Addr → Shared → Prop} (B : Base w s.heap) (h : Q builtinsNs s) : wpAny (model pw w) A (builtinsFor mainGlobals builtinsNs) Q E s := by
 refine Ex2 B.g fun mg mb => an3 fun x1 _ _ => ?_
 refine Ex3 (id x1) fun o es ep => an4 fun ho hd hk hf => ?_
 have h3 := B.at (a := 3) (o := o3 w.params) (by kernel_rfl)
 rw [show mainGlobals = 3 from rfl, h3] at ho
 cases ho
 have e : nsFind (ents (o3 w.params)) "__builtins__" = some (.ref 4) := by kernel_rfl
 have : ents (o3 w.params) = es := by unfold ents; rw [hd]
 rw [this, hf] at e
 exact wpAny_builtinsFor x1 e (by decide) (B.at (a := 4) (o := o4 w.params) (by kernel_rfl)) rfl rfl rfl h
theorem St.again {I : Addr} (S : St s₀ h₀ L ns vs own s) {s' : Shared} (hI : I ∉ L :: own.map (·.1)) (hn : h₀.get? I = none) (k : ∀ b o, b ≠ I → s.heap.get? b = some o → s'.heap.get? b = some o) : St s' h₀ L ns vs own s' := by
 refine Ex3 S.nsp fun o es ep => an2 fun hL r => ?_
 exact ⟨⟨o, es, ep, k _ _ (fun z => hI (z ▸ .head _)) hL, r⟩, fun b o q => k _ _ (fun z => by rw [z, hn] at q; cases q) (S.keep _ _ q), S.off, fun p hp => ⟨k _ _ (fun z => hI (z ▸ .tail _ (lme hp))) (S.nw p hp).1, (S.nw p hp).2⟩, S.nd, rfl, rfl⟩
noncomputable def sizes (K : List T3) : Nat := (K.map (·.2.2)).sum
noncomputable def szAt (K : List T3) (i : Nat) : Int := ((K[i]?).map fun t => (t.2.2 : Int)).getD 0
theorem sizes_pre (K : List T3) : ∀ j, preSum (szAt K) j = sizes (K.take j)
 | 0 => by rw [List.take_zero]; rfl
 | j + 1 => by
  rw [preSum, sizes_pre K j]
  unfold szAt
  cases h : K[j]? with
  | none => rw [List.take_add_one, h]; simp [sizes]
  | some t => rw [take_snoc h]; simp [sizes]
theorem pass_all (n : Nat) : passing (fun _ => true) n 0 = List.range n := by unfold passing; rw [List.drop_zero, List.filter_eq_self.mpr fun _ _ => rfl]
theorem sum_gen {lr : Addr} {ps : Array Value} {us : List Value} {K : List T3} {x : Str} {px p1 p2 p3 p4 gpos : Pos} {kc : Nat} {iter : Expr} {scope : Scope} {Q : Value → Shared → Prop}
  (e : Ev env L ns gs) (hh : A.handled = none) (hr : A.depth < recursionLimit) (B : Base w h₀) (S : St s₀ h₀ L ns vs [(220, tabO ps)] s) (ok : TriplesOk ps.toList) (hc : env.code = .ref 224) (G : AllBare s₀.gens)
  (hl : Ls h₀ lr us) (X : Mts h₀ us K) (hit : ∀ Q' : Value → Shared → Prop, (∀ s', St s₀ h₀ L ns vs [(220, tabO ps)] s' → Q' (.ref lr) s') → wpAny (model pw w) A (eval iter env) Q' E s)
  (h : ∀ t ps' s', TriplesOk ps'.toList → St s' h₀ L ns vs [(220, tabO ps')] s' → AllBare s'.gens → s'.os = s₀.os → Q (.int (sizes K) t) s')
  (hco : scope.isCoroutine = false) (hclos : closureFor scope env = pure []) (hcell : ∀ y ∈ scope.names, y.2 ≠ .cell) (h0 : scope.names.lookup (".0" : Str) = some NameKind.local)
  (hx : scope.names.lookup x = some .local) (hd : (x == ("__debug__" : Str)) = false) (hkind : scope.kind = .function) (hs : ∀ x, genFold iter env x = pure x) :
  wpAny (model pw w) A (eval (.GeneratorExp (.Subscript (.Name x p1) (.UnaryOp .USub (.Constant (.int 1) kc p2) p3) p4) [⟨.Name x px, iter, [], 0⟩] scope gpos) env) (fun v s₁ => wpAny (model pw w) A (call (.builtin "sum") [v]) Q E s₁) E s := by
 refine wpAny_GeneratorExp_walksQD hh hco hclos hcell h0 hx hkind hr (hit _ fun s₁ S1 => wpAny_pyIter_list (hl.keeps S1.keep).isList ?_) hs
 have nI : h₀.get? s₁.heap.objs.size = none := S1.keep.none (get_size _)
 have hLlt : @LT.lt Nat _ L s₁.heap.objs.size := let ⟨_, _, _, q, _⟩ := S1.nsp; hli q
 have h22 : @LT.lt Nat _ 220 s₁.heap.objs.size := S1.lt (.head _)
 have hI : s₁.heap.objs.size ∉ [L, 220] := fun m => by
  rcases lmc.mp m with m | m
  ·exact absurd m (nn (by exact Or.inr hLlt))
  ·exact absurd (lms.mp m) (nn (by exact Or.inr h22))
 have hIt := hgs s₁.heap (o := { cls := .type "list_iterator", data := .fields #[.ref lr, .int 0 0] }) rfl
 have S2 := S1.keeps (s' := { s₁ with heap := s₁.heap.push { cls := .type "list_iterator", data := .fields #[.ref lr, .int 0 0] } }) (Keeps.push _ _) rfl rfl
 refine ⟨(B.keeps S2.keep).lim, gen_code (j := 0) B S2 rfl ok hc fun c' ps' s₃ ok' S3 ext => ?_⟩
 replace hIt := ext _ _ (nn (by exact Or.inr h22)) hIt
 clear ext S2 S1 hit
 generalize s₁.heap.objs.size = I at *
 rw [e.glob, e.blt]
 have B3 := B.keeps S3.keep
 have hlt : @LT.lt Nat _ I s₃.heap.objs.size := hli hIt
 have hl3 := hl.keeps S3.keep
 have hlr : @LT.lt Nat _ lr s₃.heap.objs.size := let ⟨_, q⟩ := hl3; hli q
 have hne : lr ≠ I := fun z => by
  refine Ex1 hl fun _ q => ?_
  rw [z, nI] at q; cases q
 refine blt_for B3 ⟨I, [I, lr], [I], us.toArray.size, _, _, fun _ => true, fun i y => ∃ t, y = .int (szAt K i) t, rfl, fun A' hA => Walks.list hA I lr hne us.toArray, ⟨⟨_, hIt, rfl, rfl⟩, hl3.isList⟩, ?_, B3.lim, ?_, ?_, ?_⟩
 ·intro b hb
  rcases lmc.mp hb with rfl | hb
  ·exact hlt
  ·rw [lms.mp hb]; exact hlr
 ·intro z
  refine Ex1 B.lim fun _ => an2 fun hn _ => ?_
  refine Ex3 hn fun _ _ _ => an2 fun q _ => ?_
  rw [lms.mp z, nI] at q; cases q
 ·intro href hk
  refine ⟨fun A' E' i v s₂ m₂ _ _ _ _ _ _ _ => wpp ⟨rfl, _, _, rfl, fun _ _ q => q⟩, fun A' E' i v s₂ m₂ hA _ _ hP _ hns hm hkp => ?_⟩
  rw [List.getElem?_toArray] at hP
  have k2 : Keeps h₀ s₂.heap := fun b o q => hkp b (List.mem_range.mpr (hli (S3.keep _ _ q))) (fun z => by rw [lms.mp z, nI] at q; cases q) o (hk _ _ (S3.keep _ _ q))
  refine Ex1 (X.get hP) fun b => an2 fun hb => ex2 fun m xs => an3 fun zz1 hM J => ?_
  subst zz1
  refine Ex3 (ints3 J) fun t1 t2 t3 zz1 => ?_
  subst zz1
  refine Subscript_ (wpAny_Name (wpAny_loadName_local hkind hx hns hm ?_) hd)
  refine wpAny_UnaryOp (wpAny_Constant_int (P.neg_int ?_))
  refine mt_sub (B.keeps k2) (hM.keeps k2) ⟨⟨t3, ?_⟩, _, _, rfl, fun _ _ q => q⟩
  unfold szAt
  rw [hb]; rfl
 ·intro a h₅ tk gs hb ha hsz kk W hst
  have W := W.in4_1
  rw [pass_all, List.length_range] at W
  refine call_sum_walkAnyS (W.self 0 _ _ _ hst ⟨a, _, _, _, _, _, _, szAt K, rfl, W, hst, ?_, ?_, fun s' t' hm => ?_⟩)
  ·intro b hb
   have q : b = a ∨ b = s₃.heap.objs.size ∨ @LT.lt Nat _ b s₃.heap.objs.size := by
    rcases lmc.mp hb with z | hb
    ·exact .inl z
    ·rcases lmc.mp hb with z | hb
     ·exact .inr (.inl z)
     ·exact .inr (.inr (List.mem_range.mp hb))
   show @LT.lt Nat _ b h₅.objs.size
   rw [hsz]
   rcases q with q | q | q
   ·rw [q]; exact nls _
   ·rw [q]; exact Nat.lt_succ_of_lt ha
   ·exact Nat.lt_succ_of_lt (Nat.lt_trans q ha)
  ·refine fun i v => ex1 fun i' => an2 fun hi => ex1 fun t zz1 => ?_
   subst zz1
   rw [List.getElem?_range (lt_of_get hi |> fun q => by rwa [List.length_range] at q)] at hi
   cases hi
   exact ⟨t, rfl⟩
  ·rw [sizes_pre, lst, X.len, ltl]
   refine h _ ps' s' ok' (S3.again (I := I) hI nI fun b o hb q => ?_) ((AllBare.push (S3.gens ▸ G) hb).moved hm.gens) (hm.os.trans S3.os)
   refine hm.heap b o (fun z => ?_) (kk _ _ q)
   rcases lmc.mp z with z | z
   ·exact Nat.lt_irrefl _ (z ▸ hli q)
   ·exact hb (lms.mp z)
section
variable {x D la lb d js lr : Addr} {oD : Obj} {us ua ub : List Value} {K : List T3} {za zb : List Int} {m4 m5 m6 m9 : Option Value}
theorem cr_ {m n : Nat} {t u : Tok} (B : Base w s.heap) (r : Room A 1) (hm : m < 19) (hn : n < 19) : codeAny (model pw w) A (.call (.ref 145) ⟨[.int m t, .int n u], []⟩) (Ret s fun v _ => ∃ t, v = .float (qr m n) t) s := by
 refine call_fR B (is145 B) ok145 r.lt (vals := [.int m t, .int n u]) (.of_eq (by kernel_rfl)) rfl ?_
 intro env L s' Q hret _ e S
 conv in (fnB _) => whnf
 with_reducible refine wec ?_
 refine wpAny_If (isTrue_plain (ld e S (i := 1) rfl rfl (P.truthy_int ?_)))
 by_cases h : n = 0
 ·rw [show ((n : Int) != 0) = false by rw [h]; rfl]
  refine wen (wec (wrs (wpAny_Constant_float ?_)))
  exact hret _ _ ⟨_, rfl, S.keep, S.gens, S.os, _, by unfold qr; rw [if_pos h]⟩
 ·rw [show ((n : Int) != 0) = true by rw [bne_iff_ne]; lia]
  refine wec (wrs (wbb (wbb (wpAny_Constant_float (ld e (S.same (s' := { s' with toks := s'.toks + 1 }) rfl rfl rfl) (i := 0) rfl rfl (AutoFloatOps.mul_fi_1 (num_inf m hm) ?_))))))
  refine ld e (S.same (s' := { s' with toks := s'.toks + 1 + 1 }) rfl rfl rfl) (i := 1) rfl rfl (AutoFloatOps.truediv_fi_2 (num_inf n hn) (num_zero n hn h) ?_)
  exact hret _ _ ⟨_, rfl, S.keep, S.gens, S.os, _, by unfold qr; rw [if_neg h]⟩
theorem gl_cr {h : Heap} (B : Base w h) : Gl h (sO "_calculate_ratio") (.ref 145) := B.glob (by kernel_rfl)
theorem ret_ratio {p1 p2 p3 p4 p5 p6 p7 p8 p9 p10 p11 p12 p13 : Pos} {i k1 k2 m : Nat} {t : Tok} {Q : Flow → Shared → Prop} (e : Ev env L ns gs) (B : Base w h₀) (r : Room A 1) (S : St s₀ h₀ L ns vs own s) (C : MC w h₀ x D la lb d js ua ub za zb) (hD : h₀.get? D = some oD) (f : FM oD la lb d js m4 m5 m6 m9)
  (hi : ns[i]? = some (sO "matches")) (hv : vs[i]? = some (some (.int (m : Nat) t))) (h0 : ns[0]? = some (sO "self")) (hv0 : vs[0]? = some (some (.ref x))) (hg1 : gs[k1]? = some (sO "_calculate_ratio")) (hg2 : gs[k2]? = some (sO "len")) (hm : m < 19)
  (h : ∀ t s', St s₀ h₀ L ns vs own s' → Q (.ret (.float (qr m (za.length + zb.length)) t)) s') :
  wpAny (model pw w) A (exec (.Return (some (.Call (.Name (sO "_calculate_ratio") p1) [.Name (sO "matches") p2, .BinOp (.Call (.Name (sO "len") p3) [.Attribute (.Name (sO "self") p4) (sO "a") p5] [] p6) .Add (.Call (.Name (sO "len") p7) [.Attribute (.Name (sO "self") p8) (sO "b") p9] [] p10) p11] [] p12)) p13) env) Q E s := by
 have lua := C.Ta.len
 have lub := C.Tb.len
 have hza := C.hza
 have hzb := C.hzb
 refine wrs (callName e S hg1 (gl_cr B) (o := o145 w.params) (fd := fd145) (B.at (by kernel_rfl)) (by kernel_rfl) (it_Name (ld e S hi hv (it_BinOp (wbb ?_)))))
 refine callBlt e S hg2 (gl_len B) (it_Attribute (getS' e B S h0 (k := 1) hv0 C.hx hD f rfl rfl rfl fun s₂ S _ => it_nil (lenC S (C.hla.keeps S.keep) (by lia) fun ta s₃ S _ => ?_)))
 refine callBlt e S hg2 (gl_len B) (it_Attribute (getS' e B S h0 (k := 2) hv0 C.hx hD f rfl rfl rfl fun s₄ S _ => it_nil (lenC S (C.hlb.keeps S.keep) (by lia) fun tb s₅ S _ => ?_)))
 refine add_ S fun u s₆ S => it_nil ⟨S.keep, ?_⟩
 rw [lua, lub]
 refine use S (cr_ (n := za.length + zb.length) (B.keeps S.keep) r hm (by lia)) ?_
 refine fun v s₇ S7 _ => ex1 fun t' zz1 => ?_
 subst zz1
 exact h _ _ S7
end
theorem call_fC {w : World} {A : Around} {s : Shared} {R : Result → Shared → Prop} {f : Addr} {fd : FuncData} {body : List Stmt} {ps ls gs : List Str} {args : Args} {vals : List Value}
  (B : Base w s.heap) (F : IsFn s.heap f fd) (ok : FnOk fd body ps ls gs) (hroom : A.depth < recursionLimit)
  (hbind : BindsTo s fd args (ps.zip vals)) (hlen : ps.length = vals.length)
  (h : ∀ env L s' (Q : Flow → Shared → Prop), (∀ v s'', R (.ok (.ret v)) s'' → Q (.ret v) s'') → Ev env L (ps ++ ls) gs → env.code = fd.code → St s s.heap L (ps ++ ls) (vals.map some ++ List.replicate ls.length none) [] s' →
   wpAny (model pw w) (A.deeper env) (execs body env) Q ff s') :
  codeAny (model pw w) A (.call (.ref f) args) R s := by
 obtain ⟨⟨o, ho, hd⟩, hc⟩ := F
 refine codeAny_call_def (fd := fd) (body := body) (binds := ps.zip vals) hroom ho hd B.lim hc ok.body hbind ok.nocell (fun x hx => ok.loc x.1 (lml _ (List.of_mem_zip hx).1)) (fun h₁ hns hk₁ => ?_) ok.co ok.gen ok.kind
 rw [Loc.binds (ns := ls) (ps := ps) (as := vals) ok.nd hlen] at hns
 refine wm (h (callEnv fd s.heap.objs.size f) s.heap.objs.size _ (fun fl s'' => R (.ok (.ret (match fl with | .ret v => v | _ => .none))) s'') (fun _ _ x => x) ⟨ok.kind, rfl, ok.globals, ok.builtins, fun x hx => ok.loc x hx, fun x hx => ok.glob x hx, ok.dbg, ok.nd⟩ rfl
  ⟨hns, hk₁, get_size _, fun _ hp => (nomatch hp), List.nodup_nil, rfl, rfl⟩) (fun _ _ x => x) fun _ _ x => x.elim
def RetR (s : Shared) (P : Value → Prop) : Result → Shared → Prop := fun r s' => ∃ v ps', r = .ok (.ret v) ∧ Heap.ExtBut 220 s.heap s'.heap ∧ s'.heap.get? 220 = some (tabO ps') ∧ TriplesOk ps'.toList ∧ AllBare s'.gens ∧ s'.os = s.os ∧ P v
section
variable {g₀ : Heap}
variable {x D la lb d js lr : Addr} {oD : Obj} {us ua ub : List Value} {K : List T3} {za zb : List Int} {m4 m5 m6 m9 : Option Value}
theorem callM0' {self meth : Str} {p1 apos pos : Pos} {i : Nat} {f : Addr} {mv : List (Option Value)} {Q : Value → Shared → Prop} (e : Ev env L ns gs) (B : Base w h₀) (S : St s₀ h₀ L ns vs own s) (hi : ns[i]? = some self) (hv : vs[i]? = some (some (.ref x)))
  (hx : h₀.get? x = some (instObj 242 D)) (hD : h₀.get? D = some oD) (fl : FldO oD (Loc MN mv)) (mt : Mt w.params meth f)
  (h : codeAny (model pw w) A (.call (.ref f) ⟨[.ref x], []⟩) (fun r s' => match r with | .ok (.ret v) => Q v s' | .ok _ => False | .error e => E e s') s)
  (hc : ∃ pl, eval (.Call (.Attribute (.Name self p1) meth apos) [] [] pos) env = (do
   let ov ← eval (.Name self p1) env
   standAt apos.atName
   let (f, first) ← holding [ov] (getMethod ov meth pl)
   callWith pos f first (backTo pos (starEach [] env)) (backToKw pos (keywordEach [] env))) := by exact ⟨_, rfl⟩) :
  wpAny (model pw w) A (eval (.Call (.Attribute (.Name self p1) meth apos) [] [] pos) env) Q E s := by
 have X := (B.keeps S.keep).K
 obtain ⟨pl, hc⟩ := hc
 refine methodCall_KW (ld e S hi hv (method_fn X (inst_at (S.keep _ _ hx) (S.keep _ _ hD)) (ga_242 _) (ge_242 _) mt.find mt.fn (by show (lookIn meth oD).map _ = _; rw [fl.look, Loc.out mt.out]; rfl) ?_)) hc
 exact callWith_KW0 B.K mt.keep rfl (wpp ⟨X, wpAny_call h⟩) rfl
theorem gl_sum {h : Heap} (B : Base w h) : Gl h (sO "sum") (.builtin "sum") := B.blt (by kernel_rfl) (by decide) (by decide +kernel)
theorem ratio_ {ps : Array Value} (B : Base w g₀) (k : Keeps g₀ s.heap) (n2 : g₀.get? 220 = none) (hT : s.heap.get? 220 = some (tabO ps)) (ok : TriplesOk ps.toList) (G : AllBare s.gens) (nD : g₀.get? D = none) (hD : s.heap.get? D = some oD) (C : MC w g₀ x D la lb d js ua ub za zb) (r : Room A 3)
  (f : FM oD la lb d js (some (.ref lr)) m5 m6 m9) (hl : Ls s.heap lr us) (X : Mts s.heap us K) (hz : sizes K < 19) (hne : D ≠ 220) :
  codeAny (model pw w) A (.call (.ref 225) ⟨[.ref x], []⟩) (RetR s fun v => ∃ t, v = .float (qr (sizes K) (za.length + zb.length)) t) s := by
 refine call_fC (B.keeps k) (is225 (B.keeps k)) ok225 r.lt (vals := [.ref x]) (.of_eq (by kernel_rfl)) rfl ?_
 intro env L s' Q hret e hcode S
 have hh : (A.deeper env).handled = none := r.handled
 have r1 := r.deeper env
 have S := S.take hT
 have kg := enter k n2
 have B1 := B.keeps kg
 have C1 := C.keeps kg
 have hD1 : (hideL s.heap [220]).get? D = some oD := hideL_get hD fun m => hne (lms.mp m)
 have off : ∀ {b : Addr} {o : Obj}, s.heap.get? b = some o → o ≠ tabO ps → (hideL s.heap [220]).get? b = some o := fun q n => hideL_get q fun m => n (by rw [lms.mp m, hT] at q; exact (Option.some.inj q).symm)
 have hl1 : Ls (hideL s.heap [220]) lr us := let ⟨c, q⟩ := hl; ⟨c, off q (fun z => by cases z)⟩
 have X1 : Mts (hideL s.heap [220]) us K := X.imp fun _ _ ⟨m, xs, e, ⟨dx, q⟩, i⟩ => ⟨m, xs, e, ⟨dx, off q (fun z => by cases z)⟩, i⟩
 conv in (fnB _) => whnf
 with_reducible refine wec ?_
 refine we (wcs ?_) e.inter
 have S := S.same (s' := { s' with toks := s'.toks + 1 }) rfl rfl rfl
 refine wec (waa (callBlt e S (i := 0) rfl (gl_sum B1) (it_GeneratorExp (wm (sum_gen (us := us) (K := K) e hh r1.lt B1 S ok hcode G hl1 X1 (fun Q' q => callM0' e B1 S (i := 0) rfl rfl C1.hx hD1 f (mt203 _) (use S (gmb2_ B (k := kg.trans S.keep) nD (S.keep _ _ hD1) C (r1.le (by exact nlt (nlr 1) (Nat.succ_pos 1))) f) ?_)) ?_ rfl rfl (by decide) rfl rfl rfl rfl (fun _ => rfl)) (fun v s₁ q => it_nil q) fun _ _ y => y))))
 ·rintro v s₁ S1 _ rfl
  exact q _ S1
 ·intro t ps' s₁ ok' S1 G1 o1
  refine st_ e S1 (i := 1) rfl (nlo rfl) fun s₂ S2 => ?_
  refine wec (ret_ratio e B1 (r1.le (by exact nlt (nlr 1) (Nat.succ_pos 1))) S2 C1 hD1 f (i := 1) rfl rfl rfl rfl (k1 := 1) (k2 := 2) rfl rfl hz fun t' s₃ S3 => ?_)
  exact hret _ _ ⟨_, ps', rfl, fun b o hb q => S3.keep _ _ (hideL_get q fun m => hb (lms.mp m)), S3.get (j := 0) rfl, ok', S3.gens ▸ G1, S3.os.trans o1, t', rfl⟩
end
section
variable {g₀ : Heap}
variable {x D la lb d js lr : Addr} {oD : Obj} {us ua ub : List Value} {K : List T3} {za zb : List Int} {m4 m5 m6 m9 : Option Value}
theorem gl_min {h : Heap} (B : Base w h) : Gl h (sO "min") (.builtin "min") := B.blt (by kernel_rfl) (by decide) (by decide +kernel)
theorem min_val {a b : Nat} {t u : Tok} : ∃ t', (if (b : Int) < a then Value.int b u else .int a t) = .int (min a b : Nat) t' := by
 by_cases h : b < a
 ·exact ⟨u, by rw [if_pos (by exact_mod_cast h), Nat.min_eq_right (nl0 h)]⟩
 ·exact ⟨t, by rw [if_neg (by exact_mod_cast h), Nat.min_eq_left (Nat.le_of_not_lt h)]⟩
theorem rqr_ (B : Base w s.heap) (hD : s.heap.get? D = some oD) (C : MC w s.heap x D la lb d js ua ub za zb) (r : Room A 2) (f : FM oD la lb d js m4 m5 m6 m9) :
  codeAny (model pw w) A (.call (.ref 239) ⟨[.ref x], []⟩) (Ret s fun v _ => ∃ t, v = .float (qr (min za.length zb.length) (za.length + zb.length)) t) s := by
 refine call_fR B (is239 B) ok239 r.lt (vals := [.ref x]) (.of_eq (by kernel_rfl)) rfl ?_
 intro env L s' Q hret _ e S
 have hh : (A.deeper env).handled = none := r.handled
 have r1 := r.deeper env
 have lua := C.Ta.len
 have lub := C.Tb.len
 have hza := C.hza
 have hzb := C.hzb
 conv in (fnB _) => whnf
 with_reducible refine wec ?_
 refine we (wcs ?_) e.inter
 have S := S.same (s' := { s' with toks := s'.toks + 1 }) rfl rfl rfl
 refine wec (asg2 (s₀ := s) e hh (i := 1) (j := 2) rfl rfl (by decide) rfl rfl rfl rfl (callBlt e S (i := 0) rfl (gl_len B) (it_Attribute (getS' e B S (i := 0) (k := 1) rfl rfl C.hx hD f rfl rfl rfl fun s₂ S _ => it_nil (lenC S (C.hla.keeps S.keep) (by lia) fun ta s₃ S _ => ?_)))))
 refine callBlt e S (i := 0) rfl (gl_len B) (it_Attribute (getS' e B S (i := 0) (k := 2) rfl rfl C.hx hD f rfl rfl rfl fun s₄ S _ => it_nil (lenC S (C.hlb.keeps S.keep) (by lia) fun tb s₅ S _ => ?_)))
 refine ⟨_, _, _, S, nlo rfl, nlo rfl, fun s₆ S => ?_⟩
 rw [lua, lub] at S
 refine wec (wrs (callName e S (i := 1) rfl (gl_cr B) (o := o145 w.params) (fd := fd145) (B.at (by kernel_rfl)) (by kernel_rfl) (it_Call (callBlt e S (i := 2) rfl (gl_min B) (it_Name (ld e S (i := 1) rfl rfl (it_Name (ld e S (i := 2) rfl rfl (it_nil (min_two_ints hh fun h' tk kk => ?_))))))))))
 obtain ⟨t', q⟩ := min_val (a := za.length) (b := zb.length) (t := ta) (u := tb)
 rw [q]
 have S := S.keeps (s' := { s₆ with heap := h', toks := tk }) kk rfl rfl
 refine it_BinOp (PI.ev (.add (.nm 1 rfl rfl) (.nm 2 rfl rfl)) e S fun t s₇ S _ => it_nil ⟨S.keep, ?_⟩)
 refine use S (cr_ (n := za.length + zb.length) (B.keeps S.keep) (r1.le (nlr _)) (by lia) (by lia)) ?_
 rintro v s₈ S8 _ ⟨t', rfl⟩
 exact hret _ _ ⟨_, rfl, S8.keep, S8.gens, S8.os, t', rfl⟩
end
structure Cnt (us : List Value) (zs : List Int) (P : Int → Prop) (D : List Ent) : Prop where
 ks : D.map (·.1) = zs.map Int.toNat
 vls : D.map (·.2.1) = us
 at_ : ∀ x ∈ D, ∃ i t, x.2.2 = .int i t ∧ P i
theorem Cnt.len {us : List Value} {zs : List Int} {P : Int → Prop} {D : List Ent} (c : Cnt us zs P D) : D.length = zs.length := by
 have := congrArg List.length c.ks
 rwa [llm, llm] at this
theorem Cnt.snoc {us : List Value} {zs : List Int} {P : Int → Prop} {D : List Ent} {v : Value} {z i : Int} {t : Tok} (c : Cnt us zs P D) (h : P i) : Cnt (us ++ [v]) (zs ++ [z]) P (D ++ [(z.toNat, v, .int i t)]) := by
 refine ⟨by rw [lma, lma, c.ks]; rfl, by rw [lma, c.vls]; rfl, fun x hx => ?_⟩
 rcases lmp.mp hx with hx | hx
 ·exact c.at_ x hx
 ·rw [lms.mp hx]; exact ⟨i, t, rfl, h⟩
section
variable {x y : Str} {i i' j n k : Nat} {d : Addr} {D : List Ent} {u v : Value}
theorem putT {p1 p2 p3 : Pos} {Q : Unit → Shared → Prop} (e : Ev env L ns gs) (hu : A.units + 5 < cLine) (S : St s₀ h₀ L ns vs own s) (hi : ns[i]? = some x) (hv : vs[i]? = some (some (.ref d))) (hi' : ns[i']? = some y) (hv' : vs[i']? = some (some v)) (hj : own[j]? = some (d, dictT w D n))
  (hz : D.length ≤ 1000) (T : TD h₀ D) (K : Thing h₀ v k) (hn : valAt D k = none) (h : ∀ s' n', St s₀ h₀ L ns vs (own.set j (d, dictT w (D ++ [(k, v, u)]) n')) s' → Q () s') :
  wpAny (model pw w) A (assign (.Subscript (.Name x p1) (.Name y p2) p3) env u) Q E s := by
 refine kas_sub (ld e S hi hv (ld e S hi' hv' (setItemT (by lia) (by rw [see]; exact nlt hz (nal 1000 16776216)) (S.get hj) (T.keeps S.keep) (K.keeps S.keep) fun h' m n' hs ho => ?_)))
 unfold setE at ho
 rw [valAt_none.mp hn] at ho
 exact h _ n' (S.update (s' := { s with heap := h', toks := s.toks + m }) hj hs.extBut ho rfl rfl)
theorem getC_ {p1 p2 p3 p4 p5 : Pos} {kc : Nat} {c : Int} {Q : Value → Shared → Prop} (e : Ev env L ns gs) (hu : A.units + 5 < cLine) (S : St s₀ h₀ L ns vs own s)
  (hi : ns[i]? = some x) (hv : vs[i]? = some (some (.ref d))) (hi' : ns[i']? = some y) (hv' : vs[i']? = some (some v)) (hd : s.heap.get? d = some (dictT w D n)) (h3 : @LT.lt Nat _ 3 d) (T : TD s.heap D) (K : Thing s.heap v k) (hline : (p2.endLine == p3.line) = true)
  (h : ∀ t m, Q ((valAt D k).getD (.int c t)) { s with toks := s.toks + m }) :
  wpAny (model pw w) A (eval (.Call (.Attribute (.Name x p1) (sO "get") p2) [.Name y p4, .Constant (.int c) kc p5] [] p3) env) Q E s := by
 have hst : starEach [.Name y p4, .Constant (.int c) kc p5] env = [(false, eval (.Name y p4) env), (false, eval (.Constant (.int c) kc p5) env)] := rfl
 refine wpAny_Call_method rfl (by rw [hst]; rfl) hline PySem.F.plainAttrs_dict PySem.F.slot_dict_get PySem.F.type_dict_get (ld e S hi hv ?_)
 refine ⟨⟨_, hd, rfl⟩, dictDict hd, ?_⟩
 rw [hst]
 refine ccb rfl (cep (csc (ld e S hi' hv' ?_)))
 refine csc (wpAny_Constant_int (k := kc) (pos := p5) (csn ?_))
 have hT : Shared.TypeIs { s with toks := s.toks + 1 } (.ref d) "dict" := ⟨_, hd, rfl⟩
 have hne : (d == sysModules) = false := beq_eq_false_iff_ne.mpr (nn (.inr (Nat.lt_trans (by decide) h3)))
 refine wce PySem.F.slot_dict_get hT PySem.F.entry_dict_get ?_ (PySem.F.args_dict_get_3 _ _ _)
 show wpAny _ _ (dictGet d v >>= _) _ _ _
 refine wb (dictGetT (by show A.units + 1 + 1 < cLine; lia) hd T K fun m => ?_)
 have q := h s.toks (1 + m)
 rw [← Nat.add_assoc] at q
 cases hf : valAt D k with
 | some u => rw [hf] at q; exact wpp ⟨u, rfl, q⟩
 | none =>
  rw [hf] at q
  show wpAny _ _ (Builtin.Dict.missed d v >>= _) _ _ _
  exact wb (wpAny_missed_other hne (wpp ⟨_, rfl, q⟩))
theorem hasN_ {b : Addr} {p p1 p2 : Pos} {Q : Value → Shared → Prop} (e : Ev env L ns gs) (hu : A.units + 5 < cLine) (S : St s₀ h₀ L ns vs own s) (hi : ns[i]? = some x) (hv : vs[i]? = some (some (.ref b))) (hi' : ns[i']? = some y) (hv' : vs[i']? = some (some v))
  (hb : s.heap.get? b = some (bmO "dict.__contains__" (.ref d))) (hd : s.heap.get? d = some (dictT w D n)) (h3 : @LT.lt Nat _ 3 d) (T : TD s.heap D) (K : Thing s.heap v k) (hn : valAt D k = none)
  (h : ∀ m, Q (.bool false) { s with toks := s.toks + m }) : wpAny (model pw w) A (eval (.Call (.Name x p) [.Name y p1] [] p2) env) Q E s := by
 refine bndName (id := "dict.__contains__") (self := .ref d) e S hi hv (csc (ld e S hi' hv' (csn ⟨hb, ?_⟩))) rfl
 have hne : (d == sysModules) = false := beq_eq_false_iff_ne.mpr (nn (.inr (Nat.lt_trans (by decide) h3)))
 refine call_bound (S := fun A R s₁ => s₁ = s ∧ A.units + 5 < cLine ∧ ∀ m, R (.ok (.ret (.bool false))) { s₁ with toks := s₁.toks + m }) hb (fun A' E' Q' q => cbc_dhas hd q) (by decide +kernel) PySem.F.entry_dict_contains ?_ ⟨rfl, hu, h⟩
 rintro A R _ ⟨rfl, hu, h⟩
 show wpAny _ _ (dictGet d v >>= _) _ _ _
 refine wb (dictGetT (by show A.units + 1 + 1 < cLine; lia) hd T K fun m => ?_)
 rw [hn]
 show wpAny _ _ (Builtin.Dict.pendingKey? d v >>= _) _ _ _
 exact wb (wpAny_pendingKey_other hne (wpp (h m)))
end
theorem cnt_val {h : Heap} {us : List Value} {zs : List Int} {FB : List Ent} {z : Int} {t : Tok} (T : TD h FB) (c : Cnt us zs (· = 1) FB) : ∃ t', (valAt FB z.toNat).getD (.int 0 t) = .int (if kd z ∈ kk zs then 1 else 0) t' := by
 by_cases hm : kd z ∈ kk zs
 ·rw [if_pos hm]
  refine Ex1 (lmm.mp hm) fun y => an2 fun hy e => ?_
  obtain ⟨i, hi, rfl⟩ := lmg.mp hy
  have hl : i < FB.length := by rw [c.len]; exact hi
  have e1 : FB[i].1 = zs[i].toNat := by
   have := congrArg (fun l => l[i]?) c.ks
   simpa [hl, hi] using this
  have hf := fnd_some T (k := z.toNat) (lge hl) (by rw [e1, kd_nat, kd_nat]; exact e)
  refine Ex2 (c.at_ _ (List.getElem_mem hl)) fun j t' => an2 fun q zz1 => ?_
  subst zz1
  refine ⟨t', ?_⟩
  unfold valAt
  rw [hf, Option.bind_some, lge hl, Option.map_some, q]; rfl
 ·rw [if_neg hm]
  refine ⟨t, ?_⟩
  have hf : fnd FB z.toNat = none := fnd_none.mpr fun j e q hk => hm ?_
  ·rw [valAt_none.mpr hf]; rfl
  ·have hl := lt_of_get q
   rw [lge hl] at q
   cases q
   have hi : j < zs.length := by rw [← c.len]; exact hl
   have e1 : FB[j].1 = zs[j].toNat := by
    have := congrArg (fun l => l[j]?) c.ks
    simpa [hl, hi] using this
   rw [e1, kd_nat, kd_nat] at hk
   rw [← hk]
   exact lme (List.getElem_mem hi)
section
theorem asgSub {o i value : Expr} {pos' pos : Pos} {Q : Flow → Shared → Prop} (h : wpAny (model pw w) A (eval value env) (fun v s₁ => wpAny (model pw w) A (assign (.Subscript o i pos') env v) (fun _ => Q .next) E s₁) E s)
  (hs : swapsWith value (some (.Subscript o i pos')) pos.line env = pure false := by rfl) : wpAny (model pw w) A (exec (.Assign [.Subscript o i pos'] value pos) env) Q E s := by
 rw [exec_Assign_Subscript o i pos' value pos hs]
 exact wb (wpAny_standAt (wb (wm h (fun v s₁ h => wb (wm h (fun _ _ q => wpp q) fun _ _ y => y)) fun _ _ y => y)))
variable {x y : Str} {i i' j n k : Nat} {d : Addr} {D : List Ent} {v : Value} {Q : Flow → Shared → Prop}
theorem tally_ {p1 p2 p3 p4 p5 p6 p7 p8 p9 p10 p11 : Pos} {kc kc' : Nat} (e : Ev env L ns gs) (hu : A.units + 5 < cLine) (S : St s₀ h₀ L ns vs own s) (hi : ns[i]? = some x) (hv : vs[i]? = some (some (.ref d))) (hi' : ns[i']? = some y) (hv' : vs[i']? = some (some v)) (hj : own[j]? = some (d, dictT w D n)) (h3 : @LT.lt Nat _ 3 d)
  (hz : D.length ≤ 1000) (T : TD h₀ D) (K : Thing h₀ v k) (hn : valAt D k = none) (hline : (p5.endLine == p8.line) = true) (h : ∀ t s' n', St s₀ h₀ L ns vs (own.set j (d, dictT w (D ++ [(k, v, .int 1 t)]) n')) s' → Q .next s') :
  wpAny (model pw w) A (exec (.Assign [.Subscript (.Name x p1) (.Name y p2) p3] (.BinOp (.Call (.Attribute (.Name x p4) (sO "get") p5) [.Name y p6, .Constant (.int 0) kc p7] [] p8) .Add (.Constant (.int 1) kc' p9) p10) p11) env) Q E s := by
 refine asgSub (wbb (getC_ e hu S hi hv hi' hv' (S.get hj) h3 (T.keeps S.keep) (K.keeps S.keep) hline fun t m => ?_))
 rw [hn]
 have S := S.same (s' := { s with toks := s.toks + m }) rfl rfl rfl
 refine cint S fun t' s₁ S => add_ S fun t₂ s₂ S => ?_
 exact putT e hu S hi hv hi' hv' hj hz T K hn fun s₃ n' S => h _ _ _ S
structure QF (vs : List (Option Value)) (x fb av ab : Addr) (m : Nat) : Prop where
 a0 : At vs 0 (.ref x)
 a1 : At vs 1 (.ref fb)
 a3 : At vs 3 (.ref av)
 a4 : At vs 4 (.ref ab)
 a5 : AtI vs 5 m
 len : vs.length = 7
variable {fb av ab xx : Addr} {m nf : Nat} {ub : List Value} {zb : List Int} {FB : List Ent} {z : Int}
theorem qk_turn2 (e : Ev env L N232 gs) (hu : A.units + 5 < cLine) (S : St s₀ h₀ L N232 vs [(av, dictT w D n)] s) (F : QF vs xx fb av ab m) (a2 : At vs 2 v) (h3 : @LT.lt Nat _ 3 av) (h4 : @LT.lt Nat _ 3 fb) (hb : h₀.get? ab = some (bmO "dict.__contains__" (.ref av)))
  (hf : h₀.get? fb = some (dictT w FB nf)) (TF : TD h₀ FB) (C : Cnt ub zb (· = 1) FB) (K : Thing h₀ v z.toNat) (T : TD h₀ D) (hn : valAt D z.toNat = none) (hz : D.length ≤ 1000)
  (h : ∀ s' vs' i t n', St s₀ h₀ L N232 vs' [(av, dictT w (D ++ [(z.toNat, v, .int i t)]) n')] s' → QF vs' xx fb av ab (m + if kd z ∈ kk zb then 1 else 0) → Q .next s') :
  wpAny (model pw w) A (execs (forB (stAt (fnB (kid (st 5) 11)) 5)) env) Q E s := by
 conv in (forB _) => whnf
 have ln := F.len
 with_reducible refine wec ?_
 refine wpAny_If (isTrue_plain (hasN_ e hu S (i := 4) (i' := 2) rfl F.a4 rfl a2 (S.keep _ _ hb) (S.get (j := 0) rfl) h3 (T.keeps S.keep) (K.keeps S.keep) hn fun m' => wtb ?_))
 have S := S.same (s' := { s with toks := s.toks + m' }) rfl rfl rfl
 rw [if_neg bfn]
 with_reducible refine wec ?_
 refine waa (getC_ e hu S (i := 1) (i' := 2) rfl F.a1 rfl a2 (S.keep _ _ hf) h4 (TF.keeps S.keep) (K.keeps S.keep) rfl fun t m'' => ?_)
 refine Ex1 (cnt_val (z := z) (t := t) TF C) fun t' q => ?_
 rw [q]
 have S := S.same (s' := { s with toks := s.toks + m' + m'' }) rfl rfl rfl
 refine st_ e S (i := 6) rfl (by rw [ln]; decide) fun s₁ S => ?_
 refine wen (wec (asgSub (PI.ev (.sub (.nm 6 rfl (At.eq (by rw [ln]; decide))) .c) e S fun t₂ s₂ S _ => ?_)))
 refine putT e hu S (i := 3) (i' := 2) (j := 0) rfl F.a3.ne rfl a2.ne rfl hz T K hn fun s₃ n' S => ?_
 have S : St s₀ h₀ L N232 _ [(av, _)] s₃ := S
 refine wec (ifP e S (.gt (.nm 6 rfl (At.eq (by rw [ln]; decide))) .c) fun s₄ S _ => ?_)
 refine Ex1 F.a5 fun tm hm => ?_
 by_cases hk : kd z ∈ kk zb
 ·rw [if_pos hk] at h S ⊢
  refine wec (asgP e S (i := 5) rfl (ltS (by rw [ln]; decide)) (.add (.nm 5 rfl (At.ne hm)) .c) fun t₃ s₅ S => wen (wen ?_))
  exact h _ _ _ _ _ S ⟨(F.a0.ne).ne, (F.a1.ne).ne, (F.a3.ne).ne, (F.a4.ne).ne, ⟨t₃, At.eq (ltS (by rw [ln]; decide))⟩, by rw [lls, lls, ln]⟩
 ·rw [if_neg hk] at h S ⊢
  refine wen (wen ?_)
  exact h _ _ _ _ _ S ⟨F.a0.ne, F.a1.ne, F.a3.ne, F.a4.ne, ⟨tm, At.ne hm⟩, by rw [lls, ln]⟩
end
noncomputable def sharedN (za zb : List Int) : Nat := (za.filter fun z => decide (kd z ∈ kk zb)).length
theorem sharedN_le (za zb : List Int) : sharedN za zb ≤ za.length := List.length_filter_le _ _
theorem sharedN_snoc {za zb : List Int} {j : Nat} {z : Int} (h : za[j]? = some z) : sharedN (za.take (j + 1)) zb = sharedN (za.take j) zb + if kd z ∈ kk zb then 1 else 0 := by
 unfold sharedN
 rw [take_snoc h, List.filter_append, lla]
 by_cases hk : kd z ∈ kk zb
 ·rw [if_pos hk, List.filter_cons_of_pos (by exact decide_eq_true hk)]; rfl
 ·rw [if_neg hk, lfc (by exact fun q => hk (of_decide_eq_true q))]; rfl
section
variable {g₀ : Heap}
variable {Q : Flow → Shared → Prop} {n nf : Nat} {fb av ab x la lb d js D : Addr} {oD : Obj} {ua ub : List Value} {za zb : List Int} {FB : List Ent} {m4 m5 m6 m9 : Option Value}
inductive Q2J (w : World) (vs : List (Option Value)) (x fb av ab : Addr) (m : Nat) (us : List Value) (zs : List Int) : List (Addr × Obj) → Prop
 | mk {D : List Ent} {n : Nat} : QF vs x fb av ab m → Cnt us zs (fun _ => True) D → Q2J w vs x fb av ab m us zs [(av, dictT w D n)]
inductive Q1J (w : World) (vs : List (Option Value)) (x fb D : Addr) (oD : Obj) (us : List Value) (zs : List Int) : List (Addr × Obj) → Prop
 | mk {DB : List Ent} {n : Nat} : At vs 0 (.ref x) → At vs 1 (.ref fb) → vs.length = 7 → Cnt us zs (· = 1) DB → Q1J w vs x fb D oD us zs [(fb, dictT w DB n), (D, oD)]
theorem qk_for {px : Pos} (e : Ev env L N232 gs) (hh : A.handled = none) (hu : A.units + 5 < cLine) (S : St s₀ h₀ L N232 vs [(av, dictT w [] n)] s) (F : QF vs x fb av ab 0) (h3 : @LT.lt Nat _ 3 av) (h4 : @LT.lt Nat _ 3 fb) (hb : h₀.get? ab = some (bmO "dict.__contains__" (.ref av)))
  (hf : h₀.get? fb = some (dictT w FB nf)) (TF : TD h₀ FB) (C : Cnt ub zb (· = 1) FB) (hl : Ls h₀ la ua) (T : Ths h₀ ua za) (nd : (za.map kd).Nodup) (hz : za.length ≤ 9)
  (h : ∀ g s' vs' own', Keeps h₀ g → St s₀ g L N232 vs' own' s' → QF vs' x fb av ab (sharedN za zb) → Q .next s') :
  wpAny (model pw w) A (pyIter (.ref la)) (fun it s₂ => codeAny (model pw w) A (.forLoop (.Name (sO "elt") px) it (forB (stAt (fnB (kid (st 5) 11)) 5)) [] env) (fun r s' => match r with | .ok f => Q f s' | .error e => cameBackBy (model pw w) A env E e s') s₂) E s := by
 refine loop_listQ hh S hl (.inl ⟨_, _, rfl⟩) (fun j vs own h => Q2J w vs x fb av ab (sharedN (za.take j) zb) (ua.take j) (za.take j) own) (fun _ _ _ _ _ h _ => h) (.mk F ⟨rfl, rfl, fun _ q => nomatch q⟩) (fun R wr g j vs own s v kg hw hv J S k => ?_) fun g vs own s kg J S => ?_
 ·cases J with | @mk D n F X =>
  refine Ex1 (T.get hv) fun z => an2 fun hz' K => ?_
  have ln : ∀ i, i < 6 → i < vs.length := fun i hi => F.len ▸ nll hi (by decide)
  have hl := X.len
  rw [llt] at hl
  have Tj := b2j_td ((T.keeps kg).take j) (by rw [List.map_take]; exact nd.sublist (List.take_sublist _ _)) X.ks X.vls
  refine wan (st_ e S (i := 2) rfl (ln 2 (by decide)) fun s₁ S => ?_)
  refine qk_turn2 (zb := zb) e hu S ⟨F.a0.ne, F.a1.ne, F.a3.ne, F.a4.ne, F.a5.ne, (lls ..).trans F.len⟩ (At.eq (ln 2 (by decide))) h3 h4 (kg _ _ hb) (kg _ _ hf) (TF.keeps kg) C (K.keeps kg) Tj (b2j_none nd hz' X.ks) (by lia) fun s₂ vs' i t n' S F => k vs' _ s₂ S ?_
  rw [← sharedN_snoc hz'] at F
  have X := X.snoc (v := v) (z := z) (i := i) (t := t) trivial
  rw [← take_snoc hz', ← take_snoc hv] at X
  exact .mk F X
 ·cases J with | @mk D n F X =>
  rw [T.len, ltl] at F
  exact h g s vs _ kg S F
theorem St.sink {p : Addr × Obj} (S : St s₀ h₀ L ns vs (p :: own) s) : ∀ q ∈ own, (hideL s.heap (L :: [p].map (·.1))).get? q.1 = some q.2 := fun q hq => by
 have h := S.nw q (.tail _ hq)
 refine rest_get h.1 h.2.1 fun m => ?_
 exact (lnc.mp S.nd).1 (lms.mp m ▸ lme hq)
theorem qk_ (B : Base w g₀) (k : Keeps g₀ s.heap) (nD : g₀.get? D = none) (hD : s.heap.get? D = some oD) (C : MC w g₀ x D la lb d js ua ub za zb) (r : Room A 3) (f : FM oD la lb d js m4 m5 (some .none) m9) :
  codeAny (model pw w) A (.call (.ref 232) ⟨[.ref x], []⟩) (RetM D s fun v oD' s' => ∃ fb t, v = .float (qr (sharedN za zb) (za.length + zb.length)) t ∧ FM oD' la lb d js m4 m5 (some (.ref fb)) m9) s := by
 refine call_fR (B.keeps k) (is232 (B.keeps k)) ok232 r.lt (vals := [.ref x]) (.of_eq (by kernel_rfl)) rfl ?_
 intro env L s' Q hret _ e S
 have hh : (A.deeper env).handled = none := r.handled
 have r1 := r.deeper env
 have hu : (A.deeper env).units + 5 < cLine := r1.u (by decide)
 have S := S.take hD
 have kg := enter k nD
 have B := B.keeps kg
 have C := C.keeps kg
 have hza := C.hza
 have hzb := C.hzb
 have lub := C.Tb.len
 have nD : (hideL s.heap [D]).get? D = none := hideL_none (.head _)
 generalize hbase : hideL s.heap [D] = hb at S B C nD
 have kb : Keeps (hideL s.heap [D]) hb := by rw [hbase]; exact .refl _
 clear hbase kg
 conv in (fnB _) => whnf
 with_reducible refine wec ?_
 refine we (wcs ?_) e.inter
 have S := S.same (s' := { s' with toks := s'.toks + 1 }) rfl rfl rfl
 refine wec (ifc (getS e B S (i := 0) (k := 6) rfl rfl C.hx (j := 0) rfl f rfl rfl rfl fun s₁ S _ => cnone (is_none_none ⟨_, rfl, fun _ => ?_, nofun⟩)))
 refine wec (wat (newDict_ B S fun fb s₂ h4 S => setS e B S (i := 0) (k := 6) rfl rfl C.hx (j := 1) rfl f rfl (nlo rfl) fun s₃ oD' S f => wan (st_ e S (i := 1) rfl (nlo rfl) fun s₄ S => ?_)))
 have f : FM oD' la lb d js m4 m5 (some (.ref fb)) m9 := f
 have S : St s hb L N232 _ [(fb, dictT w [] 0), (D, oD')] s₄ := S
 refine wec (wpAny_For (getS e B S (i := 0) (k := 2) rfl rfl C.hx (j := 1) rfl f rfl rfl rfl fun s₅ S _ => ?_))
 refine loop_listQ hh S C.hlb (.inl ⟨_, _, rfl⟩) (fun j vs own h => Q1J w vs x fb D oD' (ub.take j) (zb.take j) own) (fun _ _ _ _ _ h _ => h) (.mk rfl rfl rfl ⟨rfl, rfl, fun _ q => nomatch q⟩) (fun R wr g j vs own s' v kg hw hv J S k => ?_) fun g vs own s₅ kg J S => ?_
 ·cases J with | @mk DB n a0 a1 ln X =>
  refine Ex1 (C.Tb.get hv) fun z => an2 fun hz' K => ?_
  have hl := X.len
  rw [llt] at hl
  have Tj := b2j_td ((C.Tb.keeps kg).take j) (by rw [List.map_take]; exact C.ndb.sublist (List.take_sublist _ _)) X.ks X.vls
  refine wan (st_ e S (i := 2) rfl (ln ▸ nlo rfl) fun s₁ S => ?_)
  refine wec (tally_ e hu S (i := 1) (i' := 2) (j := 0) rfl a1.ne rfl (At.eq (ln ▸ nlo rfl)) rfl h4 (by lia) Tj (K.keeps kg) (b2j_none C.ndb hz' X.ks) rfl fun t s₂ n' S => wen (k _ _ s₂ S ?_))
  rw [take_snoc hz', take_snoc hv]
  exact .mk a0.ne a1.ne ((lls ..).trans ln) (X.snoc rfl)
 ·cases J with | @mk FB nf a0 a1 ln X =>
  rw [ltl, lub, ltl] at X
  refine wen (wec (waa (getS e (B.keeps kg) S (i := 0) (k := 6) rfl a0 (kg _ _ C.hx) (j := 1) rfl f rfl rfl rfl fun s₆ S _ => st_ e S (i := 1) rfl (by rw [ln]; decide) fun s₇ S => ?_)))
  refine wec (waa (newDict_ (B.keeps kg) S fun av s₈ h3 S => st_ e S (i := 3) rfl (by rw [lls, ln]; decide) fun s₉ S => ?_))
  refine wec (asg2 (s₀ := s) e hh (i := 4) (j := 5) rfl rfl (by decide) rfl rfl rfl rfl (Attribute_name (ld e S (i := 3) rfl (At.eq (by rw [lls, ln]; decide)) (bnd_ bm_dict_has S (S.get (j := 0) rfl) rfl rfl (by rintro c ⟨⟩) (by decide +kernel) fun ab s₁₀ S => cint S fun t0 s₁₁ S => ⟨_, _, _, S, ?_, ?_, fun s₁₂ S => ?_⟩))))
  ·rw [lls, lls, ln]; decide
  ·rw [lls, lls, ln]; decide
  have S := S.perm (own' := [(av, dictT w [] 0), (ab, _), (fb, _), (D, _)]) (.swap _ _ _)
  have sink := S.sink
  have hb' := sink _ (.head _)
  have hf' := sink _ (.tail _ (.head _))
  have hD' := sink _ (.tail _ (.tail _ (.head _)))
  clear sink
  refine An2 ((S.drop (own' := [(av, dictT w [] 0)]) (.cons_cons _ (List.nil_sublist _))).rebase) fun S k2 => ?_
  generalize hideL _ _ = g2 at S k2 hb' hf' hD'
  have kk := kg.trans k2
  have B := B.keeps kk
  have C := C.keeps kk
  have F : QF _ x fb av ab 0 := ⟨((((a0.ne).ne).ne).ne : At ((((vs.set 1 (some (.ref fb))).set 3 (some (.ref av))).set 5 (some (.int 0 t0))).set 4 (some (.ref ab))) 0 (.ref x)), (((At.eq (by rw [ln]; decide)).ne).ne).ne, ((At.eq (by rw [lls, ln]; decide)).ne).ne, At.eq (ltS (ltS (ltS (by rw [ln]; decide)))), ⟨t0, (At.eq (ltS (ltS (by rw [ln]; decide)))).ne⟩, by rw [lls, lls, lls, lls, ln]⟩
  refine wec (wpAny_For (getS' e B S (i := 0) (k := 1) rfl F.a0 C.hx hD' f rfl rfl rfl fun s₁₃ S _ => ?_))
  refine qk_for e hh hu S F h3 h4 hb' hf' (b2j_td C.Tb C.ndb X.ks X.vls) X C.hla C.Ta C.nda hza fun g3 s₁₄ vs own k3 S F => ?_
  refine Ex1 F.a5 fun tm a5 => ?_
  have le : sharedN za zb < 19 := by
   have := sharedN_le za zb
   lia
  refine wec (ret_ratio e (B.keeps k3) (r1.le (by exact nlt (nlr 1) (Nat.succ_pos 1))) S (C.keeps k3) (k3 _ _ hD') f (i := 5) rfl a5 rfl F.a0 (k1 := 0) (k2 := 1) rfl rfl le fun t s₁₅ S => ?_)
  exact hret _ _ ⟨_, oD', rfl, fun b o hb q => S.keep _ _ (k3 _ _ (kk _ _ (kb _ _ (hideL_get q fun m => hb (lms.mp m))))), S.keep _ _ (k3 _ _ hD'), S.gens, S.os, fb, t, rfl, f⟩
end
structure FnOkC (fd : FuncData) (body : List Stmt) (ps ls gs : List Str) (c1 c2 : Str) : Prop where
 body : fd.body = .stmts body
 kind : fd.scope.kind = .function
 co : fd.scope.isCoroutine = false
 gen : fd.scope.isGenerator = false
 clo : fd.closure = []
 cells : ∀ n, cellsFrom n fd.scope.names [] = [(c2, n + 1), (c1, n)]
 globals : fd.globals = mainGlobals
 builtins : fd.builtins = builtinsNs
 loc : ∀ x ∈ ps ++ ls, fd.scope.names.lookup x = some .local
 k1 : fd.scope.names.lookup c1 = some .cell
 k2 : fd.scope.names.lookup c2 = some .cell
 ne : (c1 == c2) = false
 dbg1 : (c1 == ("__debug__" : Str)) = false
 dbg2 : (c2 == ("__debug__" : Str)) = false
 glob : ∀ x ∈ gs, fd.scope.names.lookup x = some .globalImplicit
 dbg : ∀ x ∈ (ps ++ ls) ++ gs, (x == ("__debug__" : Str)) = false
 nd : (ps ++ ls).Nodup
noncomputable def fnOkC (fd : FuncData) (ps ls gs : List Str) (c1 c2 : Str) : Bool :=
 (fd.scope.kind == .function && !fd.scope.isCoroutine && !fd.scope.isGenerator && fd.closure.isEmpty) &&
 (fd.globals == mainGlobals && fd.builtins == builtinsNs) &&
 ((ps ++ ls).all (fun x => fd.scope.names.lookup x == some .local) && gs.all (fun x => fd.scope.names.lookup x == some .globalImplicit) && ((ps ++ ls) ++ gs).all (fun x => !(x == ("__debug__" : Str)))) && decide (ps ++ ls).Nodup &&
 (fd.scope.names.lookup c1 == some .cell && fd.scope.names.lookup c2 == some .cell && !(c1 == c2) && !(c1 == ("__debug__" : Str)) && !(c2 == ("__debug__" : Str)))
theorem FnOkC.of {fd : FuncData} {body : List Stmt} {ps ls gs : List Str} {c1 c2 : Str} (hb : fd.body = .stmts body) (hc : ∀ n, cellsFrom n fd.scope.names [] = [(c2, n + 1), (c1, n)]) (e : fnOkC fd ps ls gs c1 c2 = true) : FnOkC fd body ps ls gs c1 c2 := by
 simp only [fnOkC, Bool.and_eq_true, beq_iff_eq, Bool.not_eq_true', List.all_eq_true, decide_eq_true_eq, List.isEmpty_iff] at e
 refine An3 e fun zz1 zz2 b5 => ?_
 refine An2 zz1 fun zz3 a10 => ?_
 refine An3 zz3 fun zz4 zz5 a9 => ?_
 refine An3 zz4 fun zz6 a5 a6 => ?_
 refine An2 zz6 fun zz7 a4 => ?_
 refine An2 zz7 fun zz8 a3 => ?_
 refine An2 zz8 fun a1 a2 => ?_
 refine An2 zz5 fun a7 a8 => ?_
 refine An2 zz2 fun zz9 b4 => ?_
 refine An2 zz9 fun zz10 b3 => ?_
 refine An2 zz10 fun b1 b2 => ?_
 exact ⟨hb, a1, a2, a3, a4, hc, a5, a6, a7, b1, b2, b3, b4, b5, a8, a9, a10⟩
structure Cl (env : Env) (c : Str) (k : NameKind) (a : Addr) : Prop where
 kind : env.kindOf c = some k
 at_ : env.cells.lookup c = some a
 dbg : (c == ("__debug__" : Str)) = false
theorem bindL_loc {kindOf : Str → Option NameKind} : ∀ {ps : List Str} {vals : List Value} {m : Str → Option Value}, (∀ x ∈ ps, kindOf x = some .local) → ps.length = vals.length → ps.Nodup → ∀ y, bindL kindOf (ps.zip vals) m y = ((ps.zip vals).lookup y).or (m y)
 | [], [], m, _, _, _, y => by simp [bindL]
 | p :: ps, v :: vals, m, h, hl, nd, y => by
  rw [List.zip_cons_cons, bindL, if_pos (h p (.head _)), bindL_loc (fun x hx => h x (.tail _ hx)) (Nat.succ.inj hl) (lnc.mp nd).2, List.lookup_cons]
  by_cases e : y = p
  ·subst e
   have : (ps.zip vals).lookup y = none := by
    cases q : (ps.zip vals).lookup y with
    | none => rfl
    | some z => exact absurd (List.of_mem_zip (PySem.mem_of_lookup q)).1 (lnc.mp nd).1
   rw [this, beq_self_eq_true]; simp
  ·rw [if_neg e, show (y == p) = false from beq_eq_false_iff_ne.mpr e]
 | [], _ :: _, _, _, h, _, _ => nomatch h
 | _ :: _, [], _, _, h, _, _ => nomatch h
theorem bindC_loc {kindOf : Str → Option NameKind} : ∀ {l : List (Str × Value)} {m : Str → Option Value}, (∀ x ∈ l, kindOf x.1 = some .local) → bindC kindOf l m = m
 | [], _, _ => rfl
 | (n, v) :: l, m, h => by rw [bindC, if_pos (h _ (.head _)), bindC_loc fun x hx => h x (.tail _ hx)]
theorem zip_loc : ∀ {ps ls : List Str} {vals : List Value}, ps.length = vals.length → (fun y => ((ps.zip vals).lookup y).or none) = Loc (ps ++ ls) (vals.map some ++ List.replicate ls.length none)
 | [], ls, [], _ => by funext y; exact (Loc.empty (ns := ls) (y := y)).symm
 | p :: ps, ls, v :: vals, hl => by
  funext y
  have := congrFun (zip_loc (ls := ls) (Nat.succ.inj hl)) y
  rw [List.zip_cons_cons, List.lookup_cons]
  show _ = if y = p then some v else Loc (ps ++ ls) _ y
  by_cases e : y = p
  ·subst e
   rw [beq_self_eq_true, if_pos rfl]; rfl
  ·rw [if_neg e, show (y == p) = false from beq_eq_false_iff_ne.mpr e]
   exact this
 | [], _, _ :: _, h => nomatch h
 | _ :: _, _, [], h => nomatch h
theorem call_fK {w : World} {A : Around} {s : Shared} {R : Result → Shared → Prop} {f : Addr} {fd : FuncData} {body : List Stmt} {ps ls gs : List Str} {c1 c2 : Str} {vals : List Value}
  (B : Base w s.heap) (F : IsFn s.heap f fd) (ok : FnOkC fd body ps ls gs c1 c2) (hroom : A.depth < recursionLimit) (hbind : bindArgs fd ⟨vals, []⟩ = pure (ps.zip vals)) (hlen : ps.length = vals.length)
  (h : ∀ env L s' a1 a2 o1 o2 (Q : Flow → Shared → Prop), (∀ v s'', R (.ok (.ret v)) s'' → Q (.ret v) s'') → Ev env L (ps ++ ls) gs → env.frame = some L → Cl env c1 .cell a1 → Cl env c2 .cell a2 → o1.data = .cell none → o2.data = .cell none →
   St s s.heap L (ps ++ ls) (vals.map some ++ List.replicate ls.length none) [(a1, o1), (a2, o2)] s' → wpAny (model pw w) (A.deeper env) (execs body env) Q ff s') :
  codeAny (model pw w) A (.call (.ref f) ⟨vals, []⟩) R s := by
 obtain ⟨⟨o, ho, hd⟩, hc⟩ := F
 have hl : ∀ x ∈ ps.zip vals, fd.scope.names.lookup x.1 = some .local := fun x hx => ok.loc x.1 (lml _ (List.of_mem_zip hx).1)
 have nd := (List.nodup_append.mp ok.nd).1
 refine codeAny_call_cells (fd := fd) (body := body) (binds := ps.zip vals) hroom ho hd B.lim hc ok.body hbind ok.clo (fun x hx => .inl (hl x hx)) (fun s₁ x => ?_) ok.co ok.gen ok.kind
 have lk : ∀ {c : Str} {a : Addr}, (callEnvC fd s.heap.objs.size f).cells.lookup c = some a → s₁.heap.IsCell a none := fun q => by
  have := x.cell _ _ q
  rwa [bindC_loc (fun y hy => hl y hy)] at this
 have hcs : (callEnvC fd s.heap.objs.size f).cells = [(c2, s.heap.objs.size + 1 + 1), (c1, s.heap.objs.size + 1)] := ok.cells _
 have l1 : (callEnvC fd s.heap.objs.size f).cells.lookup c1 = some (s.heap.objs.size + 1) := by rw [hcs, List.lookup_cons, ok.ne]; simp
 have l2 : (callEnvC fd s.heap.objs.size f).cells.lookup c2 = some (s.heap.objs.size + 1 + 1) := by rw [hcs]; simp
 refine Ex1 (lk l1) fun o1 => an2 fun g1 d1 => ?_
 refine Ex1 (lk l2) fun o2 => an2 fun g2 d2 => ?_
 refine Ex2 x.toInCall.same fun h' tk zz1 => ?_
 subst zz1
 have hns := x.toInCall.ns
 rw [show bindL (callEnvC fd s.heap.objs.size f).kindOf (ps.zip vals) (fun _ => none) = Loc (ps ++ ls) (vals.map some ++ List.replicate ls.length none) by
  rw [← zip_loc hlen]; funext y
  exact bindL_loc (fun x hx => ok.loc x (lml _ hx)) hlen nd y] at hns
 refine wm (h (callEnvC fd s.heap.objs.size f) s.heap.objs.size _ _ _ o1 o2 (fun fl s'' => R (.ok (.ret (match fl with | .ret v => v | _ => .none))) s'') (fun _ _ x => x) ⟨ok.kind, rfl, ok.globals, ok.builtins, fun x hx => ok.loc x hx, fun x hx => ok.glob x hx, ok.dbg, ok.nd⟩ rfl
  ⟨ok.k1, l1, ok.dbg1⟩ ⟨ok.k2, l2, ok.dbg2⟩ d1 d2 ⟨hns, x.toInCall.keep, get_size _, fun p hp => ?_, ?_, rfl, rfl⟩) (fun _ _ x => x) fun _ _ x => x.elim
 ·have nz : ∀ k, s.heap.objs.size ≤ k → s.heap.get? k = none := fun k hk => by
   cases q : s.heap.get? k with
   | none => rfl
   | some o => exact absurd (hli q) (Nat.not_lt.mpr hk)
  rcases lmc.mp hp with rfl | hp
  ·exact ⟨g1, nn (.inr (nls _)), nz _ (Nat.le_succ _)⟩
  ·rw [lms.mp hp]
   exact ⟨g2, nn (.inr (Nat.lt_succ_of_lt (nls _))), nz _ (Nat.le_succ_of_le (Nat.le_succ _))⟩
 ·show [s.heap.objs.size + 1, s.heap.objs.size + 1 + 1].Nodup
  rw [lnc]
  exact ⟨fun m => absurd (lms.mp m) (nn (.inl (nls _))), lnc.mpr ⟨fun m => (nomatch m), List.nodup_nil⟩⟩
theorem ldc {x : Str} {pos : Pos} {a : Addr} {o : Obj} {v : Value} {Q : Value → Shared → Prop} (e : Ev env L ns gs) (c : Cl env x .cell a) (ho : s.heap.get? a = some o) (hd : o.data = .cell (some v)) (h : Q v s) : wpAny (model pw w) A (eval (.Name x pos) env) Q E s :=
 wpAny_Name (wpAny_loadName_cell e.kind c.kind c.at_ ⟨o, ho, hd⟩ h) c.dbg
theorem stc {x : Str} {a : Addr} {o : Obj} {u : Option Value} {v : Value} {j : Nat} {Q : Unit → Shared → Prop} (e : Ev env L ns gs) (S : St s₀ h₀ L ns vs own s) (c : Cl env x .cell a) (hj : own[j]? = some (a, o)) (hd : o.data = .cell u)
  (h : ∀ s' o', o'.data = .cell (some v) → St s₀ h₀ L ns vs (own.set j (a, o')) s' → Q () s') : wpAny (model pw w) A (storeName env x v) Q E s :=
 wpAny_storeName_cell e.kind c.kind c.at_ ⟨o, S.get hj, hd⟩ fun h' ⟨o', ho', hd'⟩ hs => h _ o' hd' (S.update (s' := { s with heap := h' }) hj hs.extBut ho' rfl rfl)
noncomputable def EI (w : World) (A : Around) (E : Value → Shared → Prop) (env : Env) (I : Shared → Prop) (a : Expr) (n : Int) : Prop := ∀ (s : Shared) (Q : Value → Shared → Prop), I s → (∀ t s', I s' → Q (.int n t) s') → wpAny (model pw w) A (eval a env) Q E s
noncomputable def EB (w : World) (A : Around) (E : Value → Shared → Prop) (env : Env) (I : Shared → Prop) (a : Expr) (b : Bool) : Prop := ∀ (s : Shared) (Q : Bool → Shared → Prop) (whole : Sem Value), I s → (∀ s', I s' → Q b s') → wpAny (model pw w) A (isTrue a env whole) Q E s
noncomputable abbrev Tk (I : Shared → Prop) : Prop := ∀ s m, I s → I { s with toks := s.toks + m }
section
variable {I : Shared → Prop} {a b c : Expr} {m n : Int} {x y z : Bool} {p : Pos}
theorem EI.num (T : Tk I) {k : Nat} : EI w A E env I (.Constant (.int n) k p) n := fun s Q S h => wpAny_Constant_int (h _ _ (T s 1 S))
theorem EI.add (T : Tk I) (d : EI w A E env I a m) (f : EI w A E env I b n) : EI w A E env I (.BinOp a .Add b p) (m + n) := fun s Q S h => wbb (d s _ S fun t s₁ S₁ => f s₁ _ S₁ fun t' s₂ S₂ => P.add_int (h _ _ (T s₂ 1 S₂)))
theorem EI.sub (T : Tk I) (d : EI w A E env I a m) (f : EI w A E env I b n) : EI w A E env I (.BinOp a .Sub b p) (m - n) := fun s Q S h => wbb (d s _ S fun t s₁ S₁ => f s₁ _ S₁ fun t' s₂ S₂ => P.sub_int (h _ _ (T s₂ 1 S₂)))
theorem EI.neg (T : Tk I) (d : EI w A E env I a m) : EI w A E env I (.UnaryOp .USub a p) (-m) := fun s Q S h => wpAny_UnaryOp (d s _ S fun t s₁ S₁ => P.neg_int (h _ _ (T s₁ 1 S₁)))
theorem EB.lt (d : EI w A E env I a m) (f : EI w A E env I b n) (hm : behindInMarks .Lt b = false := by rfl) : EB w A E env I (.Compare a [.Lt] [b] p) (decide (m < n)) := fun s Q _ S h => wic (d s _ S fun t s₁ S₁ => f s₁ _ S₁ fun t' s₂ S₂ => P.lt_int (wtb (h _ S₂))) hm
theorem EB.eq (d : EI w A E env I a m) (f : EI w A E env I b n) (hm : behindInMarks .Eq b = false := by rfl) : EB w A E env I (.Compare a [.Eq] [b] p) (m == n) := fun s Q _ S h => wic (d s _ S fun t s₁ S₁ => f s₁ _ S₁ fun t' s₂ S₂ => P.eq_int (wtb (h _ S₂))) hm
theorem EB.ne (d : EI w A E env I a m) (f : EI w A E env I b n) (hm : behindInMarks .NotEq b = false := by rfl) : EB w A E env I (.Compare a [.NotEq] [b] p) (m != n) := fun s Q _ S h => wic (d s _ S fun t s₁ S₁ => f s₁ _ S₁ fun t' s₂ S₂ => P.ne_int (wtb (h _ S₂))) hm
theorem EB.or1 (d : EB w A E env I a x) : EB w A E env I (.BoolOp .Or [a] p) x := fun s Q _ S h => wib (wao (d s _ _ S fun s₁ S₁ => by
 cases x with
 | true => exact h _ S₁
 | false => exact wpAny_allTrue_Or_nil (h _ S₁)))
theorem EB.orC {l : List Expr} (d : EB w A E env I a x) (f : x = false → EB w A E env I (.BoolOp .Or l p) y) : EB w A E env I (.BoolOp .Or (a :: l) p) (x || y) := fun s Q _ S h => wib (wao (d s _ _ S fun s₁ S₁ => by
 cases x with
 | true => exact h _ S₁
 | false =>
  have := f rfl s₁ Q (pure .none) S₁ h
  rwa [arm_isTrue_BoolOp] at this))
theorem EB.and1 (d : EB w A E env I a x) : EB w A E env I (.BoolOp .And [a] p) x := fun s Q _ S h => wib (wac (d s _ _ S fun s₁ S₁ => by
 cases x with
 | false => exact h _ S₁
 | true => exact wpAny_allTrue_And_nil (h _ S₁)))
theorem EB.andC {l : List Expr} (d : EB w A E env I a x) (f : x = true → EB w A E env I (.BoolOp .And l p) y) : EB w A E env I (.BoolOp .And (a :: l) p) (x && y) := fun s Q _ S h => wib (wac (d s _ _ S fun s₁ S₁ => by
 cases x with
 | false => exact h _ S₁
 | true =>
  have := f rfl s₁ Q (pure .none) S₁ h
  rwa [arm_isTrue_BoolOp] at this))
theorem ifE {s : Shared} {body orelse : List Stmt} {Q : Flow → Shared → Prop} (S : I s) (d : EB w A E env I a x) (h : ∀ s', I s' → wpAny (model pw w) A (execs (if x then body else orelse) env) Q E s') : wpAny (model pw w) A (exec (.If a body orelse p) env) Q E s :=
 wpAny_If (d s _ _ S fun s' S' => by cases x with
  | true => exact h _ S'
  | false => exact h _ S')
end
section
theorem St.tk : Tk (St s₀ h₀ L ns vs own) := fun s m S => S.same rfl rfl rfl
variable {x : Str} {i j : Nat} {n m z : Int} {t : Tok} {p p1 pos : Pos} {l : Addr} {xs : List Value} {zs : List Int} {a : Expr}
theorem EI.nm (e : Ev env L ns gs) (hi : ns[i]? = some x) (hv : vs[i]? = some (some (.int n t))) : EI w A E env (St s₀ h₀ L ns vs own) (.Name x p) n := fun s Q S h => ld e S hi hv (h _ _ S)
theorem EI.cell {o : Obj} {b : Addr} (e : Ev env L ns gs) (c : Cl env x .cell b) (hj : own[j]? = some (b, o)) (hd : o.data = .cell (some (.int n t))) : EI w A E env (St s₀ h₀ L ns vs own) (.Name x p) n := fun s Q S h => ldc e c (S.get hj) hd (h _ _ S)
theorem EI.len (e : Ev env L ns gs) (B : Base w h₀) (hg : gs[i]? = some (sO "len")) (hj : ns[j]? = some x) (hv : At vs j (.ref l)) (hl : Ls h₀ l xs) (hz : xs.length ≤ 1000) : EI w A E env (St s₀ h₀ L ns vs own) (.Call (.Name (sO "len") p) [.Name x p1] [] pos) xs.length :=
 fun s Q S h => len_ e B S hg hj hv (hl.keeps S.keep) (by rw [see]; exact nlt hz (nal 1000 16776216)) fun t s' S' _ => h t s' S'
theorem EI.item (e : Ev env L ns gs) (hi : ns[i]? = some x) (hv : At vs i (.ref l)) (hl : Ls h₀ l xs) (X : IntsAre xs zs) (hz : xs.length ≤ 1000) (d : EI w A E env (St s₀ h₀ L ns vs own) a m) (h0 : 0 ≤ m) (hm : zs[m.toNat]? = some z)
  (hs : ∀ u, subscripted a false (.ref l) (.int m u) = operate [.ref l, .int m u] (getItem (.ref l) (.int m u)) := by intro _; with_unfolding_all rfl) : EI w A E env (St s₀ h₀ L ns vs own) (.Subscript (.Name x p) a p1) z := fun s Q S h => by
 refine Ex1 (ints_get X hm) fun t hx => ?_
 exact Subscript_ (ld e S hi hv (d s _ S fun t s' S' => item_ (hl.keeps S'.keep).isList h0 hx (by rw [see]; lia) (h _ _ S') (hs t)))
theorem EB.in_ (e : Ev env L ns gs) (hi : ns[i]? = some x) (hv : At vs i (.ref l)) (hl : Ls h₀ l xs) (X : IntsAre xs zs) (d : EI w A E env (St s₀ h₀ L ns vs own) a m) : EB w A E env (St s₀ h₀ L ns vs own) (.Compare a [.In] [.Name x p] p1) (zs.any (· == m)) :=
 fun s Q _ S h => wic (d s _ S fun t s' S' => ld e S' hi hv (in_list_ints (hl.keeps S'.keep).isList X (wtb (h _ S')))) rfl
theorem tup3_ {e1 e2 e3 : Expr} {a b c : Int} {k : Nat} {Q : Value → Shared → Prop} (S : St s₀ h₀ L ns vs own s) (d1 : EI w A E env (St s₀ h₀ L ns vs own) e1 a) (d2 : EI w A E env (St s₀ h₀ L ns vs own) e2 b) (d3 : EI w A E env (St s₀ h₀ L ns vs own) e3 c)
  (h : ∀ y xs s', St s₀ h₀ L ns vs ((y, tupO xs.toArray) :: own) s' → IntsAre xs [a, b, c] → Q (.ref y) s') (hst : starEach [e1, e2, e3] env = [(false, eval e1 env), (false, eval e2 env), (false, eval e3 env)] := by rfl) :
  wpAny (model pw w) A (eval (.Tuple [e1, e2, e3] k pos) env) Q E s := by
 refine Tuple_ ?_
 rw [hst]
 refine csc (d1 s _ S fun t1 s₁ S => csc (d2 s₁ _ S fun t2 s₂ S => csc (d3 s₂ _ S fun t3 s₃ S => csn ?_)))
 exact wnt (h _ [.int a t1, .int b t2, .int c t3] _ (S.push (tupO #[.int a t1, .int b t2, .int c t3]) rfl rfl rfl rfl) (.cons _ _ (.cons _ _ (.cons _ _ .nil)))) (by show (3 : Nat) ≤ sizeLine; rw [see]; decide)
end
noncomputable def fd306 : FuncData := fnD (sO "_law_kept") (sO "_law_kept") (st 16) [] .none .none .none (.str (sO "law_ny0445_01") 625) none (.ref 305) .none
noncomputable abbrev N306 : List Str := [sO "one", sO "other", sO "runs", sO "size", sO "kept", sO "less"]
noncomputable abbrev G306 : List Str := [sO "range", sO "len", sO "sorted"]
theorem ok306 : FnOkC fd306 (fnB (st 16)) [sO "one", sO "other"] [sO "runs", sO "size", sO "kept", sO "less"] G306 (sO "p") (sO "q") := FnOkC.of (by kernel_rfl) (fun n => by kernel_rfl) (by kernel_rfl)
theorem is306 {w : World} {h : Heap} (B : Base w h) : IsFn h 306 fd306 := ⟨⟨o306 w.params, B.at (by kernel_rfl), by kernel_rfl⟩, ⟨305, o305 w.params, _, _, by kernel_rfl, B.at (by kernel_rfl), rfl, rfl⟩⟩
noncomputable abbrev zr (r : T3) : List Int := [-(r.2.2 : Int), (r.1 : Int), (r.2.1 : Int)]
noncomputable abbrev RTs (h : Heap) (us : List Value) (rs : List T3) : Prop := All2 (fun v r => TupI h v (zr r)) us rs
noncomputable abbrev KO (a1 : Addr) (o1 : Obj) (a2 : Addr) (o2 : Obj) (l : Addr) (us : List Value) (n : Nat) : List (Addr × Obj) := [(a1, o1), (a2, o2), (l, listOf us.toArray n)]
theorem NT.cell {o : Obj} {v : Option Value} (h : o.data = .cell v) : NT o := fun xs q => by rw [q] at h; cases h
structure KL (h : Heap) (vs : List (Option Value)) (lo lt lr : Addr) (ua ub : List Value) (za zb : List Int) : Prop where
 a0 : At vs 0 (.ref lo)
 a1 : At vs 1 (.ref lt)
 a2 : At vs 2 (.ref lr)
 len : vs.length = 6
 la : Ls h lo ua
 Ia : IntsAre ua za
 lb : Ls h lt ub
 Ib : IntsAre ub zb
 ha : za.length ≤ 9
 hb : zb.length ≤ 9
theorem KL.keeps {h h' : Heap} {vs : List (Option Value)} {lo lt lr : Addr} {ua ub : List Value} {za zb : List Int} (c : KL h vs lo lt lr ua ub za zb) (k : Keeps h h') : KL h' vs lo lt lr ua ub za zb := ⟨c.a0, c.a1, c.a2, c.len, c.la.keeps k, c.Ia, c.lb.keeps k, c.Ib, c.ha, c.hb⟩
theorem KL.set {h : Heap} {vs : List (Option Value)} {lo lt lr : Addr} {ua ub : List Value} {za zb : List Int} {i : Nat} {u : Option Value} (c : KL h vs lo lt lr ua ub za zb) (hi : 3 ≤ i) : KL h (vs.set i u) lo lt lr ua ub za zb :=
 ⟨c.a0.ne (beq_eq_false_iff_ne.mpr (by lia)), c.a1.ne (beq_eq_false_iff_ne.mpr (by lia)), c.a2.ne (beq_eq_false_iff_ne.mpr (by lia)), by rw [lls, c.len], c.la, c.Ia, c.lb, c.Ib, c.ha, c.hb⟩
section
variable {a1 a2 lo lt lr : Addr} {o1 o2 : Obj} {us ua ub : List Value} {n p q k : Nat} {tp tq : Tok} {za zb : List Int} {rs : List T3} {Q : Flow → Shared → Prop}
theorem kept_while (e : Ev env L N306 G306) (B : Base w h₀) (c1 : Cl env (sO "p") .cell a1) (c2 : Cl env (sO "q") .cell a2) (S : St s₀ h₀ L N306 vs (KO a1 o1 a2 o2 lr us n) s) (d1 : o1.data = .cell (some (.int p tp))) (d2 : o2.data = .cell (some (.int q tq)))
  (K : KL h₀ vs lo lt lr ua ub za zb) (a3 : AtI vs 3 1) (hk : k = cpl (za.drop p) (zb.drop q)) (h1 : 1 ≤ k) (h : ∀ g vs' s', Keeps h₀ g → St s₀ g L N306 vs' (KO a1 o1 a2 o2 lr us n) s' → KL g vs' lo lt lr ua ub za zb → AtI vs' 3 k → Q .next s') :
  wpAny (model pw w) A (exec (stAt (forB (stAt (forB (stAt (forB (stAt (fnB (st 16)) 1)) 0)) 1)) 1) env) Q E s := by
 conv in (stAt _ _) => whnf
 have lua := ints_len K.Ia
 have lub := ints_len K.Ib
 refine loop_while (n := k - 1) (fun m vs own g => own = KO a1 o1 a2 o2 lr us n ∧ KL g vs lo lt lr ua ub za zb ∧ ∃ z : Nat, AtI vs 3 z ∧ 1 ≤ z ∧ z ≤ k ∧ m = k - z) S ⟨rfl, K.keeps S.old, 1, a3, nlr _, h1, rfl⟩ ?_
 refine fun R g m vs own s kg => an3 fun zz1 K => ex1 fun z => an4 fun zz2 z1 z2 zz3 => fun S kn => ?_
 subst zz1
 subst zz3
 refine Ex1 zz2 fun t a3 => ?_
 have Bg := B.keeps kg
 have ha := K.ha
 have hb := K.hb
 refine (show EB w A ff env (St s₀ g L N306 vs (KO a1 o1 a2 o2 lr us n)) _ (decide (z < k)) from ?_) s _ _ S fun s₁ S => ?_
 ·rw [hk, ← cpl_test (by rw [← hk]; exact z2), ← lua, ← lub]
  exact EB.andC (EB.lt (EI.add St.tk (EI.cell e c1 (j := 0) rfl d1) (EI.nm e (i := 3) rfl a3)) (EI.len e Bg (i := 1) rfl (j := 0) rfl K.a0 K.la (by lia))) fun x1 => EB.andC (EB.lt (EI.add St.tk (EI.cell e c2 (j := 1) rfl d2) (EI.nm e (i := 3) rfl a3)) (EI.len e Bg (i := 1) rfl (j := 1) rfl K.a1 K.lb (by lia))) fun x2 =>
   EB.and1 (EB.eq (EI.item e (i := 0) rfl K.a0 K.la K.Ia (by lia) (EI.add St.tk (EI.cell e c1 (j := 0) rfl d1) (EI.nm e (i := 3) rfl a3)) (by lia) (z := za.getD (p + z) 0) (by have := of_decide_eq_true x1; rw [show ((p : Int) + z).toNat = p + z by lia]; exact getD_at (by lia)))
    (EI.item e (i := 1) rfl K.a1 K.lb K.Ib (by lia) (EI.add St.tk (EI.cell e c2 (j := 1) rfl d2) (EI.nm e (i := 3) rfl a3)) (by lia) (z := zb.getD (q + z) 0) (by have := of_decide_eq_true x2; rw [show ((q : Int) + z).toNat = q + z by lia]; exact getD_at (by lia))))
 by_cases hz : z < k
 ·rw [if_pos (decide_eq_true hz)]
  refine wec (asgP e S (i := 3) rfl (by rw [K.len]; decide) (.add (.nm 3 rfl a3) .c) fun t₃ s₂ S => wen ?_)
  exact kn _ _ _ s₂ (Nat.sub_lt_sub_left hz (nls z)) S ⟨rfl, (K.set (by decide)).keeps S.old, z + 1, ⟨t₃, At.eq (by rw [K.len]; decide)⟩, Nat.le_succ_of_le z1, hz, rfl⟩
 ·rw [if_neg (by rw [decide_eq_false hz]; exact bfn)]
  have : z = k := by lia
  subst this
  exact h g vs s₁ kg S K ⟨t, a3⟩
theorem index_ints {l : Addr} {xs : List Value} {zs : List Int} {m : Int} {t : Tok} {Q : Value → Shared → Prop} (hl : Ls s.heap l xs) (hi : IntsAre xs zs) (hz : xs.length ≤ 1000) (hk : m ∈ zs) (h : Q (.int (zs.idxOf m : Nat) s.toks) { s with toks := s.toks + 1 }) :
  wpAny (model pw w) A (call (.builtin "list.index") [.ref l, .int m t]) Q E s := by
 refine Ex1 hl fun c ho => ?_
 have hlen := ints_len hi
 have hj : zs.idxOf m < zs.length := List.idxOf_lt_length_iff.mpr hk
 refine call_meets PySem.F.slot_list_index ⟨_, ho, rfl⟩ PySem.F.entry_list_index (PySem.F.args_list_index_2 _ _)
  (list_indexAt l xs.toArray c none #[] (.int m t) (isInt m) (zs.idxOf m) (by simpa [hlen] using hj) (by lia) ?_ ?_) ⟨ho, fun y hy => (eq_isInt m t hi y (by simpa using hy)).at _ _, h⟩
 ·show isInt m xs[zs.idxOf m] = true
  rw [isInt_at m hi _ (by lia) hj]
  simpa using List.getElem_idxOf hj
 ·intro j hjs hlt
  show isInt m xs[j] = false
  rw [isInt_at m hi j (by simpa using hjs) (by lia)]
  exact ne_of_lt_idxOf hlt _
theorem kept_turn1 {u2 : Option Value} {wr : List Addr} (hw : ∀ b ∈ wr, ∃ o, h₀.get? b = some o) (e : Ev env L N306 G306) (hu : A.units + 5 < cLine) (B : Base w h₀) (c1 : Cl env (sO "p") .cell a1) (c2 : Cl env (sO "q") .cell a2) (S : St s₀ h₀ L N306 vs (KO a1 o1 a2 o2 lr us n) s) (d1 : o1.data = .cell (some (.int p tp))) (d2 : o2.data = .cell u2)
  (K : KL h₀ vs lo lt lr ua ub za zb) (hp : p < za.length) (R : RTs (hideL h₀ wr) us rs) (hr : us.length ≤ 900)
  (h : ∀ g vs' o2' u2' us' n' s', Keeps h₀ g → St s₀ g L N306 vs' (KO a1 o1 a2 o2' lr us' n') s' → KL g vs' lo lt lr ua ub za zb → o2'.data = .cell u2' → RTs (hideL g wr) us' (rs ++ (runAt za zb p).toList) → Q .next s') :
  wpAny (model pw w) A (execs (forB (stAt (fnB (st 16)) 1)) env) Q E s := by
 conv in (forB _) => whnf
 have lua := ints_len K.Ia
 have lub := ints_len K.Ib
 have ha := K.ha
 have hb := K.hb
 refine wec (ifE S (EB.in_ e (i := 1) rfl K.a1 K.lb K.Ib (EI.item e (i := 0) rfl K.a0 K.la K.Ia (by lia) (EI.cell e c1 (j := 0) rfl d1) (by lia) (z := za.getD p 0) (getD_at hp))) fun s₁ S => ?_)
 have pi := posOf_idx (B := zb) (z := za.getD p 0)
 by_cases hin : zb.any (· == za.getD p 0) = true
 ·rw [if_pos hin] at pi ⊢
  have hm : za.getD p 0 ∈ zb := by
   refine Ex1 (List.any_eq_true.mp hin) fun y => an2 fun hy z => ?_
   rwa [← eq_of_beq z]
  generalize hq : zb.idxOf (za.getD p 0) = q at pi
  have hq2 : q < zb.length := by rw [← hq]; exact List.idxOf_lt_length_iff.mpr hm
  have eqv : za[p]? = zb[q]? := by rw [getD_at hp]; exact (posOf_at pi).symm
  with_reducible refine wec ?_
  refine waa (wpAny_Call_method rfl rfl rfl PySem.F.plainAttrs_list PySem.F.slot_list_index PySem.F.type_list_index (ld e S (i := 1) rfl K.a1 ?_))
  refine Ex1 (id (K.lb.keeps S.keep)) fun cb hcb => ?_
  refine ⟨⟨_, hcb, rfl⟩, listDict hcb, ccb rfl (cep (csc ?_))⟩
  refine EI.item e (i := 0) rfl K.a0 K.la K.Ia (by lia) (EI.cell (own := KO a1 o1 a2 o2 lr us n) e c1 (j := 0) rfl d1) (by lia) (z := za.getD p 0) (getD_at hp) (fun _ => by with_unfolding_all rfl) s₁ _ S fun t s₂ S => csn ?_
  refine index_ints (K.lb.keeps S.keep) K.Ib (by lia) hm ?_
  rw [hq]
  have S := S.same (s' := { s₂ with toks := s₂.toks + 1 }) rfl rfl rfl
  generalize s₂.toks = tq at S ⊢
  refine stc e S c2 (j := 1) rfl d2 fun s₃ o2' d2 S => ?_
  have S : St s₀ h₀ L N306 vs (KO a1 o1 a2 o2' lr us n) s₃ := S
  refine wec (ifE (x := decide (p = 0 ∨ q = 0 ∨ za[p - 1]? ≠ zb[q - 1]?)) S ?_ fun s₄ S => ?_)
  ·rw [← left_test hp hq2]
   exact EB.orC (EB.eq (EI.cell e c1 (j := 0) rfl d1) (EI.num St.tk)) fun x1 => EB.orC (EB.eq (EI.cell e c2 (j := 1) rfl d2) (EI.num St.tk)) fun x2 => by
    have x1 := beq_eq_false_iff_ne.mp x1
    have x2 := beq_eq_false_iff_ne.mp x2
    exact EB.or1 (EB.ne (EI.item e (i := 0) rfl K.a0 K.la K.Ia (by lia) (EI.sub St.tk (EI.cell e c1 (j := 0) rfl d1) (EI.num St.tk)) (by lia) (by rw [show ((p : Int) - 1).toNat = p - 1 by lia]; exact getD_at (by lia)))
     (EI.item e (i := 1) rfl K.a1 K.lb K.Ib (by lia) (EI.sub St.tk (EI.cell e c2 (j := 1) rfl d2) (EI.num St.tk)) (by lia) (by rw [show ((q : Int) - 1).toNat = q - 1 by lia]; exact getD_at (by lia))))
  ·by_cases hl : p = 0 ∨ q = 0 ∨ za[p - 1]? ≠ zb[q - 1]?
   ·have hrun : runAt za zb p = some (p, q, cpl (za.drop p) (zb.drop q)) := by unfold runAt; rw [pi]; exact if_pos hl
    rw [if_pos (decide_eq_true hl)]
    refine wec (asgP e S (i := 3) rfl (by rw [K.len]; decide) .c fun t₅ s₅ S => wec ?_)
    refine kept_while e B c1 c2 S d1 d2 (K.set (by decide)) ⟨t₅, At.eq (by rw [K.len]; decide)⟩ rfl (cpl_one hp eqv) fun g vs' s₆ kg S K' a3 => ?_
    generalize cpl (za.drop p) (zb.drop q) = k at hrun a3
    refine Ex1 a3 fun t6 a3 => ?_
    refine wec (append_ e S (i := 2) (j := 2) rfl K'.a2 rfl rfl (tup3_ S (EI.neg St.tk (EI.nm e (i := 3) rfl a3)) (EI.cell e c1 (j := 0) rfl d1) (EI.cell e c2 (j := 1) rfl d2) fun y xs s₇ S I => ⟨_, _, _, 3, us.toArray, n, S, rfl, by rw [lst, see]; lia, fun s₈ S => ?_⟩))
    refine wen (wen (wen ?_))
    have T : TupI s₈.heap (.ref y) (zr (p, q, k)) := ⟨y, xs, rfl, S.get (j := 0) rfl, I⟩
    have S : St s₀ g L N306 vs' ((y, tupO xs.toArray) :: KO a1 o1 a2 o2' lr (us ++ [.ref y]) (n + 1)) s₈ := by
     show St s₀ g L N306 vs' [_, _, _, (lr, listOf (us ++ [Value.ref y]).toArray (n + 1))] s₈
     rw [show (us ++ [Value.ref y]).toArray = us.toArray.push (.ref y) by simp]
     exact S
    have fr := (S.nw _ (.head _)).2.2
    have S := S.drop (own' := KO a1 o1 a2 o2' lr (us ++ [.ref y]) (n + 1)) (lsc _ _)
    have T := T.stay S (all3 (.cell d1) (.cell d2) (.list _ _))
    have T := T.hide (h := g) (fun b hb => let ⟨o, q⟩ := hw b hb; ⟨o, kg _ _ q⟩) fr
    refine An2 S.rebase fun S k2 => ?_
    refine h _ vs' o2' _ _ _ s₈ (kg.trans k2) S (K'.keeps k2) d2 ?_
    rw [hrun]
    exact (R.imp fun _ _ z => z.keeps (hide_mono wr (kg.trans k2))).app (.cons T .nil)
   ·have hrun : runAt za zb p = none := by unfold runAt; rw [pi]; exact if_neg hl
    rw [if_neg (by rw [decide_eq_false hl]; exact bfn)]
    refine wen (wen (wen (h h₀ vs o2' _ us n s₄ (.refl _) S K d2 ?_)))
    rw [hrun, Option.toList_none, lan]
    exact R
 ·rw [if_neg hin] at pi ⊢
  refine wen (wen (h h₀ vs o2 u2 us n s₁ (.refl _) S K d2 ?_))
  rw [show runAt za zb p = none by unfold runAt; rw [pi], Option.toList_none, lan]
  exact R
end
section
variable {a1 a2 lo lt lr : Addr} {o1 o2 : Obj} {us ua ub : List Value} {n : Nat} {za zb : List Int} {rs : List T3} {Q : Flow → Shared → Prop}
theorem KL.past {h : Heap} {vs : List (Option Value)} {lo lt lr : Addr} {ua ub : List Value} {za zb : List Int} (c : KL h vs lo lt lr ua ub za zb) {vs' : List (Option Value)} {h' : Heap} (c' : KL h' vs' lo lt lr ua ub za zb) : KL h vs' lo lt lr ua ub za zb := ⟨c'.a0, c'.a1, c'.a2, c'.len, c.la, c.Ia, c.lb, c.Ib, c.ha, c.hb⟩
inductive K1J (vs : List (Option Value)) (a1 a2 lo lt lr : Addr) (ua ub : List Value) (za zb : List Int) (rs : List T3) (g : Heap) : List (Addr × Obj) → Prop
 | mk {o1 o2 : Obj} {u1 u2 : Option Value} {us : List Value} {n : Nat} {h : Heap} : o1.data = .cell u1 → o2.data = .cell u2 → KL h vs lo lt lr ua ub za zb → RTs g us rs → K1J vs a1 a2 lo lt lr ua ub za zb rs g (KO a1 o1 a2 o2 lr us n)
theorem kept_for1 {u1 u2 : Option Value} (e : Ev env L N306 G306) (hh : A.handled = none) (hu : A.units + 5 < cLine) (B : Base w h₀) (c1 : Cl env (sO "p") .cell a1) (c2 : Cl env (sO "q") .cell a2) (S : St s₀ h₀ L N306 vs (KO a1 o1 a2 o2 lr [] n) s) (d1 : o1.data = .cell u1) (d2 : o2.data = .cell u2)
  (K : KL h₀ vs lo lt lr ua ub za zb)
  (h : ∀ g vs' o1' o2' u1' u2' us n' s', Keeps h₀ g → St s₀ g L N306 vs' (KO a1 o1' a2 o2' lr us n') s' → KL g vs' lo lt lr ua ub za zb → o1'.data = .cell u1' → o2'.data = .cell u2' → RTs g us (runsN za zb za.length) → Q .next s') :
  wpAny (model pw w) A (exec (stAt (fnB (st 16)) 1) env) Q ff s := by
 conv in (stAt _ _) => whnf
 have lua := ints_len K.Ia
 have ha := K.ha
 refine wpAny_For (callTyp e S (i := 0) rfl (gl_range B) (it_Call (EI.len e B (i := 1) rfl (j := 0) rfl K.a0 K.la (by lia) s _ S fun t s₁ S => it_nil (call_range_1 ?_))))
 rw [lua]
 refine loop_rngT (a := 0) (b := za.length) hh S (Keeps.push _ _) rfl rfl (by rw [Heap.size_push]; exact Nat.le_succ _) (IsRange.new _ _ _ _ _ _ _) (by decide) (nlt ha (by decide))
  (fun j vs own g => K1J vs a1 a2 lo lt lr ua ub za zb (runsN za zb j) g own) (fun j vs own h h' J kk => by cases J with | mk d1 d2 K R => exact .mk d1 d2 K (R.imp fun _ _ z => z.keeps kk)) (.mk d1 d2 K .nil) (fun R wr g j vs own s t kg hw hj J S k => ?_) fun g vs own s kg J S => ?_
 ·cases J with | @mk o1 o2 u1 u2 us n hx d1 d2 Kx R =>
  have K2 := (K.past Kx).keeps kg
  have hj : j < za.length := hj
  have hlen : us.length ≤ j := by
   rw [R.len]; unfold runsN
   exact nlt (List.length_filterMap_le _ _) (Nat.le_of_eq List.length_range)
  refine stc e S c1 (j := 0) rfl d1 fun s₂ o1' d1 S => ?_
  have S : St s₀ g L N306 vs (KO a1 o1' a2 o2 lr us n) s₂ := S
  rw [Nat.zero_add] at d1
  exact kept_turn1 hw e hu (B.keeps kg) c1 c2 S d1 d2 K2 hj R (nlt hlen (nlt (nl0 hj) (nlt ha (by decide)))) fun g2 vs' o2' u2' us' n' s₃ k2 S K3 d2 R2 => k vs' _ s₃ (S.unbase k2) (.mk d1 d2 K3 (by rw [runsN_succ]; exact R2.imp fun _ _ z => z.keeps S.past))
 ·cases J with | mk d1 d2 Kx R => exact h g vs _ _ _ _ _ _ s kg S ((K.past Kx).keeps kg) d1 d2 R
end
theorem reads_all {α : Type} {h : Heap} {R : Value → α → Prop} {dat : α → PyData} (f : ∀ v x, R v x → ∃ as, Reads h v (dat x) as) {us : List Value} {xs : List α} (X : All2 R us xs) : ∃ as, ReadsAll h us (xs.map dat) as := by
 induction X with
 | nil => exact ⟨_, .nil⟩
 | cons x _ ih =>
  refine Ex1 (f _ _ x) fun as a => ?_
  refine Ex1 ih fun bs b => ?_
  exact ⟨_, .cons a b⟩
theorem reads_list {α : Type} {h : Heap} {R : Value → α → Prop} {dat : α → PyData} (f : ∀ v x, R v x → ∃ as, Reads h v (dat x) as) {l : Addr} {us : List Value} {xs : List α} (hl : Ls h l us) (X : All2 R us xs) : ∃ as, Reads h (.ref l) (.list (xs.map dat)) as := by
 refine Ex1 hl fun c ho => ?_
 refine Ex1 (reads_all f X) fun as r => ?_
 exact ⟨_, .list ho rfl rfl (by rw [List.toList_toArray]; exact r)⟩
theorem reads_ints {h : Heap} {us : List Value} {zs : List Int} (I : IntsAre us zs) : ∃ as, ReadsAll h us (zs.map .int) as := by
 induction I with
 | nil => exact ⟨_, .nil⟩
 | cons _ _ _ ih => (refine Ex1 ih fun as r => ?_); exact ⟨_, .cons (.int _ _) r⟩
theorem reads_intL {h : Heap} {l : Addr} {us : List Value} {zs : List Int} (hl : Ls h l us) (I : IntsAre us zs) : ∃ as, Reads h (.ref l) (.list (zs.map .int)) as := by
 refine Ex1 hl fun c ho => ?_
 refine Ex1 (reads_ints (h := h) I) fun as r => ?_
 exact ⟨_, .list ho rfl rfl (by rw [List.toList_toArray]; exact r)⟩
theorem lay_map {α : Type} {dat : α → PyData} : ∀ {xs : List α}, (∀ x ∈ xs, (dat x).canLay0 = true) → PyData.canLayAll0 (xs.map dat) = true
 | [], _ => rfl
 | x :: xs, h => by
  rw [lmn, PyData.canLayAll0, h x (.head _), lay_map fun y hy => h y (.tail _ hy)]; rfl
theorem deep_map {α : Type} {dat : α → PyData} {n : Nat} : ∀ {xs : List α}, (∀ x ∈ xs, (dat x).depth ≤ n) → PyData.depthAll (xs.map dat) ≤ n
 | [], _ => nzl _
 | x :: xs, h => by
  rw [lmn, PyData.depthAll]
  exact Nat.max_le.mpr ⟨h x (.head _), deep_map fun y hy => h y (.tail _ hy)⟩
theorem eqv_map {α : Type} {dat : α → PyData} {β : Type} [DecidableEq β] {key : α → β} : ∀ {xs ys : List α}, (∀ x ∈ xs, ∀ y ∈ ys, (dat x).eqv (dat y) = decide (key x = key y)) → PyData.eqvAll (xs.map dat) (ys.map dat) = decide (xs.map key = ys.map key)
 | [], [], _ => rfl
 | [], _ :: _, _ => rfl
 | _ :: _, [], _ => rfl
 | x :: xs, y :: ys, h => by
  rw [lmn, lmn, PyData.eqvAll, h x (.head _) y (.head _), eqv_map fun a ha b hb => h a (.tail _ ha) b (.tail _ hb), bei]
  simp
noncomputable abbrev cScope : Scope := { kind := .function, names := [(sO ".0", .local), (sO "i", .local), (sO "j", .local), (sO "more", .local), (sO "p", .free), (sO "q", .free)], isGenerator := false, isCoroutine := false }
section
variable {a1 a2 lo lt lr lk : Addr} {o1 o2 : Obj} {us ua ub : List Value} {n p q : Nat} {tp tq : Tok} {za zb : List Int} {rs K : List T3}
theorem clos_c (c1 : Cl env (sO "p") .cell a1) (c2 : Cl env (sO "q") .cell a2) : closureFor cScope env = pure [(sO "q", a2), (sO "p", a1)] := by
 have e1 : cellOf env (sO "p") = pure a1 := by unfold cellOf; rw [c1.at_]
 have e2 : cellOf env (sO "q") = pure a2 := by unfold cellOf; rw [c2.at_]
 unfold closureFor
 simp [e1, e2]
theorem ev_c (e : Ev env L ns gs) (cl : List (Str × Addr)) (C : Addr) : Ev (compEnvC cScope cl C env) C [sO "i", sO "j", sO "more"] [] :=
 ⟨rfl, rfl, e.glob, e.blt, fun x hx => by
  rcases lmc.mp hx with rfl | hx
  ·rfl
  rcases lmc.mp hx with rfl | hx
  ·rfl
  rw [lms.mp hx]; rfl, fun x hx => (nomatch hx), by decide, by decide⟩
theorem lookup_relabel_free {x : Str} (hk : env.scope.kind = .function) (hc : env.kindOf x = some .cell) : ∀ {names : List (Str × NameKind)}, names.lookup x = some .free →
  (names.map fun (n, k) => if (k == NameKind.free && env.scope.kind == .function && env.kindOf n == some .cell) then (n, NameKind.cell) else (n, k)).lookup x = some .cell
 | [], h => by simp at h
 | (n, k) :: r, h => by
  have ih := lookup_relabel_free hk hc (names := r)
  rw [List.lookup_cons] at h
  rw [lmn]
  by_cases e : x = n
  ·subst e
   rw [beq_self_eq_true] at h
   cases h
   dsimp only
   rw [hk, hc, if_pos (by decide), List.lookup_cons, beq_self_eq_true]
  ·have e : (x == n) = false := beq_eq_false_iff_ne.mpr e
   rw [e] at h
   dsimp only
   split
   ·rw [List.lookup_cons, e]; exact ih h
   ·rw [List.lookup_cons, e]; exact ih h
theorem cl_c {x : Str} {a : Addr} {cl : List (Str × Addr)} (e : Ev env L ns gs) (c : Cl env x .cell a) (C : Addr) (hx : cScope.names.lookup x = some .free) (ha : cl.lookup x = some a) : Cl (compEnvC cScope cl C env) x .cell a :=
 ⟨lookup_relabel_free e.kind c.kind hx, ha, c.dbg⟩
noncomputable abbrev EmptyT (p1 p2 p3 p4 p5 p6 p7 p8 p9 p10 p11 p12 p13 p14 p15 p16 : Pos) : Expr :=
 .Compare (.ListComp (.Name (sO "i") p1) [⟨.Tuple [.Name (sO "i") p2, .Name (sO "j") p3, .Name (sO "more") p4] 0 p5, .Name (sO "kept") p6,
  [.Compare (.Compare (.Name (sO "i") p7) [.Lt] [.Name (sO "p") p8] p9) [.NotEq] [.Compare (.Name (sO "j") p10) [.Lt] [.Name (sO "q") p11] p12] p13], 0⟩] cScope p14) [.Eq] [.List [] p15] p16
theorem kept_comp {p1 p2 p3 p4 p5 p6 p7 p8 p9 p10 p11 p12 p13 p14 p15 p16 : Pos} {whole : Sem Value} {Q : Bool → Shared → Prop} (e : Ev env L N306 gs) (hh : A.handled = none) (hu : A.units + 5 < cLine) (c1 : Cl env (sO "p") .cell a1) (c2 : Cl env (sO "q") .cell a2)
  (S : St s₀ h₀ L N306 vs (KO a1 o1 a2 o2 lk us n) s) (d1 : o1.data = .cell (some (.int p tp))) (d2 : o2.data = .cell (some (.int q tq))) (hv : At vs 4 (.ref lk)) (X : Tups h₀ us K) (hz : K.length ≤ 900)
  (h : ∀ s', St s₀ h₀ L N306 vs (KO a1 o1 a2 o2 lk us n) s' → Q (!(K.any (crossB (p, q, 0)))) s') :
  wpAny (model pw w) A (isTrue (EmptyT p1 p2 p3 p4 p5 p6 p7 p8 p9 p10 p11 p12 p13 p14 p15 p16) env whole) Q E s := by
 have hlen := X.len
 have S0 := S
 refine wic (comp_list (cns := [sO "i", sO "j", sO "more"]) (xs := us) hh S (fun Q' q => ld e S (i := 4) rfl hv q) (S.isList (j := 2) rfl) (S.nw _ (.tail _ (.tail _ (.head _)))).2.1 (by lia) (clos_c c1 c2) (by decide) rfl (by decide)
  (fun j us ys h => us.length = 3 ∧ ∃ zs, IntsAre ys zs ∧ zs.isEmpty = !((K.take j).any (crossB (p, q, 0))) ∧ zs.length ≤ j) (fun j us ys h h' a _ => a) (fun h => ⟨rfl, [], .nil, rfl, nlr _⟩) ?_ (fun j us ys h ⟨_, zs, I, _, l⟩ => by rw [ints_len I]; exact l) ?_ (fun _ _ _ _ _ _ _ hi q => letGo_list hi q)) rfl
 ·refine fun g C D oL j us' ys m s₁ v hoL kg hx => an2 fun hu3 => ex1 fun zs => an3 fun I hemp hl => fun S => ?_
  refine Ex1 (X.get hx) fun b => an2 fun hb => ex2 fun m' xs => an3 fun zz1 hm J => ?_
  subst zz1
  refine Ex3 (ints3 J) fun t1 t2 t3 zz1 => ?_
  subst zz1
  have eC := ev_c e [(sO "q", a2), (sO "p", a1)] C
  have k1 := cl_c (cl := [(sO "q", a2), (sO "p", a1)]) e c1 C (by decide) (by rw [List.lookup_cons]; rfl)
  have k2 := cl_c (cl := [(sO "q", a2), (sO "p", a1)]) e c2 C (by decide) (by rw [List.lookup_cons]; rfl)
  refine unp3 eC hh S ⟨_, S.keep _ _ (kg _ _ (S0.old _ _ hm)), rfl, 0, rfl⟩ (i := 0) (j := 1) (m := 2) rfl rfl rfl (by lia) (by lia) (by lia) fun s₂ S => ?_
  have b0 : At (((us'.set 0 (some (.int b.1 t1))).set 1 (some (.int b.2.1 t2))).set 2 (some (.int b.2.2 t3))) 0 (.int b.1 t1) := ((At.eq (by lia)).ne).ne
  have b1 : At (((us'.set 0 (some (.int b.1 t1))).set 1 (some (.int b.2.1 t2))).set 2 (some (.int b.2.2 t3))) 1 (.int b.2.1 t2) := (At.eq (ltS (by lia))).ne
  refine wpAny_tests_one (wic (wpAny_Compare1 (ld eC S (i := 0) rfl b0 (ldc eC k1 (S.get (j := 2) rfl) d1 (P.lt_int ?_))) rfl) rfl)
  refine wpAny_Compare1 (ld eC S (i := 1) rfl b1 (ldc eC k2 (S.get (j := 3) rfl) d2 (P.lt_int ?_))) rfl
  refine compareNe_reads (.bool _) (.bool _) rfl rfl (by show A.units + 0 < cLine; lia) (wtb ?_)
  have e1 : (!(PyData.bool (decide ((b.1 : Int) < p))).eqv (.bool (decide ((b.2.1 : Int) < q)))) = crossB (p, q, 0) b := by
   show (!(decide ((b.1 : Int) < p) == decide ((b.2.1 : Int) < q))) = _
   rw [lt_nat, lt_nat]; rfl
  rw [e1]
  have hlen3 : (((us'.set 0 (some (Value.int b.1 t1))).set 1 (some (.int b.2.1 t2))).set 2 (some (.int b.2.2 t3))).length = 3 := by rw [lls, lls, lls, hu3]
  by_cases hc : crossB (p, q, 0) b = true
  ·rw [if_pos hc]
   refine ld eC S (i := 0) rfl b0 ⟨_, S, hlen3, _, ints_snoc I _ t1, ?_, by rw [lla]; exact Nat.succ_le_succ hl⟩
   rw [take_snoc hb, List.any_append, List.any_cons, hc]; simp
  ·rw [if_neg hc]
   refine ⟨_, S, hlen3, zs, I, ?_, Nat.le_succ_of_le hl⟩
   rw [take_snoc hb, List.any_append, List.any_cons, Bool.eq_false_iff.mpr hc, hemp]; simp
 ·refine fun g D ys c us' s' kg _ => an2 fun _ => ex1 fun zs => an3 fun I hemp _ => fun S => ?_
  refine List_ (it_nil (newList_ S (fun l s₂ S => ?_) (nzl _)))
  refine Ex1 (reads_intL (S.ls (j := 1) rfl) I) fun as r1 => ?_
  refine Ex1 (reads_intL (S.ls (j := 0) rfl) .nil) fun bs r2 => ?_
  refine compareEq_reads r1 r2 (lay_map fun _ _ => rfl) rfl ?_ (wtb ?_)
  ·show A.units + min (PyData.depthAll _ + 1) (0 + 1) < cLine
   lia
  ·have e2 : PyData.eqv (.list (zs.map .int)) (.list (([] : List Int).map .int)) = zs.isEmpty := by cases zs <;> rfl
   rw [e2, hemp, hlen, ltl]
   exact h _ ((S.drop (.cons _ (.cons _ (.refl _)))).unbase kg)
end
theorem lex_zr {ts : List T3} (nd : (ts.map rkey).Nodup) (h64 : ∀ r ∈ ts, r.1 < 64) {x y : T3} (hx : x ∈ ts) (hy : y ∈ ts) : lexB (zr x) (zr y) = decide (rkey x < rkey y) := by
 have a := h64 x hx
 have b := h64 y hy
 by_cases h : x.2.2 = y.2.2
 ·by_cases k : x.1 = y.1
  ·have e : x = y := inj_mem nd hx hy (by unfold rkey; rw [h, k])
   subst e
   rw [lexB_same, lexB_same, lexB_same]
   exact (decide_eq_false (Int.lt_irrefl _)).symm
  ·unfold zr
   rw [h, lexB_same, lexB_ne (by lia)]
   exact decide_eq_decide.mpr (by unfold rkey; lia)
 ·unfold zr
  rw [lexB_ne (by lia)]
  exact decide_eq_decide.mpr (by unfold rkey; lia)
section
theorem sortedT_ {α : Type} {f : α → List Int} {key : α → Int} {l : Addr} {us : List Value} {ts : List α} {Q : Value → Shared → Prop} (d : α) (S : St s₀ h₀ L ns vs own s) (hl : Ls s.heap l us) (X : All2 (fun v t => TupI s.heap v (f t)) us ts) (h64 : ts.length < 64) (nd : (ts.map key).Nodup)
  (hf : ∀ t, (f t).length = 3) (hlex : ∀ x ∈ ts, ∀ y ∈ ts, lexB (f x) (f y) = decide (key x < key y))
  (h : ∀ us' ts' D c s', ts'.Perm ts → ts'.Pairwise (fun x y => key x < key y) → All2 (fun v t => TupI s.heap v (f t)) us' ts' → Keeps s.heap s'.heap → St s₀ h₀ L ns vs ((D, listOf us'.toArray c) :: own) s' → Q (.ref D) s') :
  wpAny (model pw w) A (call (.builtin "sorted") [.ref l]) Q E s := by
 refine sorted_ (κ := tuples' (Value.type "int" != Value.type "tuple")) (R := fun v t => TupI s.heap v (f t)) (key := key) d S hl X h64 nd (fun h2 s' Q' k q => ?_) (fun v x u y C s' hx hy rx ry k hC => ?_) h
 ·refine Ex1 (katTups (X.imp fun _ _ z => z.keeps k) fun t e => by have := hf t; rw [e] at this; cases this) fun fs => an3 fun t hlen hT => ?_
  refine kat_kind (T := .type "int") t (by lia) (fun v hv => ?_) (by decide) q
  refine Ex2 (hT v hv) fun z t' zz1 => ?_
  subst zz1
  exact .of_pure rfl
 ·refine lt_tup (rx.keeps k) (ry.keeps k) (by rw [hf, hf]) ?_
  rw [hlex x hx y hy]
  exact hC s' (.refl _) rfl rfl
variable {a1 a2 lo lt lr lk : Addr} {o1 o2 : Obj} {us ua ub : List Value} {n p q z : Nat} {tp tq : Tok} {za zb : List Int} {K Sr : List T3} {Q : Flow → Shared → Prop}
theorem kept_turn2 {wr : List Addr} (hw : ∀ b ∈ wr, ∃ o, h₀.get? b = some o) (e : Ev env L N306 G306) (hh : A.handled = none) (hu : A.units + 5 < cLine) (c1 : Cl env (sO "p") .cell a1) (c2 : Cl env (sO "q") .cell a2) (S : St s₀ h₀ L N306 vs (KO a1 o1 a2 o2 lk us n) s)
  (d1 : o1.data = .cell (some (.int p tp))) (d2 : o2.data = .cell (some (.int q tq))) (a4 : At vs 4 (.ref lk)) (a5 : AtI vs 5 (-(z : Int))) (X : Tups (hideL h₀ wr) us K) (hz : K.length ≤ 900)
  (h : ∀ g us' n' s', Keeps h₀ g → St s₀ g L N306 vs (KO a1 o1 a2 o2 lk us' n') s' → Tups (hideL g wr) us' (keepG K (p, q, z)) → Q .next s') :
  wpAny (model pw w) A (execs (forB (stAt (fnB (st 16)) 3)) env) Q E s := by
 conv in (forB _) => whnf
 have hlen := X.len
 refine Ex1 a5 fun t5 a5 => ?_
 refine wec (wpAny_If (kept_comp e hh hu c1 c2 S d1 d2 a4 (X.imp fun _ _ y => y.keeps (hideL_sub _ _)) hz fun s₁ S => ?_))
 unfold keepG at h
 rw [show K.any (crossB (p, q, z)) = K.any (crossB (p, q, 0)) from rfl] at h
 cases hk : K.any (crossB (p, q, 0)) with
 | true =>
  rw [hk, if_pos rfl] at h
  exact wen (wen (h h₀ us n s₁ (.refl _) S X))
 | false =>
  rw [hk, if_neg bfn] at h
  rw [Bool.not_false, if_pos rfl]
  refine wec (append_ e S (i := 4) (j := 2) rfl a4 rfl rfl (tup3_ S (EI.cell e c1 (j := 0) rfl d1) (EI.cell e c2 (j := 1) rfl d2) (EI.neg St.tk (EI.nm e (i := 5) rfl a5)) fun y xs s₇ S I => ⟨_, _, _, 3, us.toArray, n, S, rfl, by rw [lst, see]; lia, fun s₈ S => ?_⟩))
  refine wen (wen ?_)
  rw [Int.neg_neg] at I
  have T : TupI s₈.heap (.ref y) (z3 (p, q, z)) := ⟨y, xs, rfl, S.get (j := 0) rfl, I⟩
  have S : St s₀ h₀ L N306 vs ((y, tupO xs.toArray) :: KO a1 o1 a2 o2 lk (us ++ [.ref y]) (n + 1)) s₈ := by
   show St s₀ h₀ L N306 vs [_, _, _, (lk, listOf (us ++ [Value.ref y]).toArray (n + 1))] s₈
   rw [show (us ++ [Value.ref y]).toArray = us.toArray.push (.ref y) by simp]
   exact S
  have fr := (S.nw _ (.head _)).2.2
  have S := S.drop (own' := KO a1 o1 a2 o2 lk (us ++ [.ref y]) (n + 1)) (lsc _ _)
  have T := T.stay S (all3 (.cell d1) (.cell d2) (.list _ _))
  have T := T.hide (h := h₀) hw fr
  refine An2 S.rebase fun S k2 => ?_
  exact h _ _ _ s₈ k2 S ((X.imp fun _ _ z => z.keeps (hide_mono wr k2)).app (.cons T .nil))
end
section
variable {a1 a2 lo lt lr lk D : Addr} {o1 o2 : Obj} {us ua ub : List Value} {n : Nat} {za zb : List Int} {Sr : List T3} {Q : Flow → Shared → Prop}
inductive K2J (vs : List (Option Value)) (a1 a2 lk : Addr) (K : List T3) (g : Heap) : List (Addr × Obj) → Prop
 | mk {o1 o2 : Obj} {u1 u2 : Option Value} {us : List Value} {n : Nat} : o1.data = .cell u1 → o2.data = .cell u2 → At vs 4 (.ref lk) → vs.length = 6 → Tups g us K → K2J vs a1 a2 lk K g (KO a1 o1 a2 o2 lk us n)
theorem kept_for2 {u1 u2 : Option Value} {k : Nat} {p1 p2 p3 p4 : Pos} (e : Ev env L N306 G306) (hh : A.handled = none) (hu : A.units + 5 < cLine) (c1 : Cl env (sO "p") .cell a1) (c2 : Cl env (sO "q") .cell a2) (S : St s₀ h₀ L N306 vs (KO a1 o1 a2 o2 lk [] n) s)
  (d1 : o1.data = .cell u1) (d2 : o2.data = .cell u2) (a4 : At vs 4 (.ref lk)) (ln : vs.length = 6) (hl : Ls h₀ D us) (X : RTs h₀ us Sr) (hz : Sr.length ≤ 9)
  (h : ∀ g vs' o1' o2' us n s', Keeps h₀ g → St s₀ g L N306 vs' (KO a1 o1' a2 o2' lk us n) s' → At vs' 4 (.ref lk) → Tups g us (Gr [] Sr) → Q .next s') :
  wpAny (model pw w) A (pyIter (.ref D)) (fun it s₂ => codeAny (model pw w) A (.forLoop (.Tuple [.Name (sO "less") p1, .Name (sO "p") p2, .Name (sO "q") p3] k p4) it (forB (stAt (fnB (st 16)) 3)) [] env) (fun r s' => match r with | .ok f => Q f s' | .error e => cameBackBy (model pw w) A env E e s') s₂) E s := by
 refine loop_listQ hh S hl (.inr ⟨_, _, _, rfl⟩) (fun j vs own h => K2J vs a1 a2 lk (Gr [] (Sr.take j)) h own) (fun j vs own h h' J kk => by cases J with | mk d1 d2 a4 ln R => exact .mk d1 d2 a4 ln (R.imp fun _ _ z => z.keeps kk)) (.mk d1 d2 a4 ln .nil) (fun R wr g j vs own s v kg hw hv J S k => ?_) fun g vs own s kg J S => ?_
 ·cases J with | @mk o1 o2 u1 u2 us' n d1 d2 a4 ln R =>
  refine Ex1 (X.get hv) fun b => an2 fun hb => ex2 fun m xs => an3 fun zz1 hm I => ?_
  subst zz1
  refine Ex3 (ints3 I) fun t1 t2 t3 zz1 => ?_
  subst zz1
  have gl := Gr_len (Sr.take j) []
  rw [llt, List.length_nil] at gl
  refine wpAny_assign_Tuple hh ⟨_, S.keep _ _ (kg _ _ hm), rfl, 0, rfl⟩ rfl rfl fun h' hb' => ?_
  have S := S.keeps (s' := { s with heap := h' }) (extBut_size hb') rfl rfl
  have l5 : 5 < vs.length := ln ▸ nlo rfl
  refine aac (wan (st_ e S (i := 5) rfl l5 fun s₁ S => aac (wan (stc e S c1 (j := 0) rfl d1 fun s₂ o1' d1 S => aac (wan (stc e S c2 (j := 1) rfl d2 fun s₃ o2' d2 S => assignInOrder_nil ?_))))))
  have S : St s₀ g L N306 _ (KO a1 o1' a2 o2' lk us' n) s₃ := S
  exact kept_turn2 (z := b.2.2) (K := Gr [] (Sr.take j)) hw e hh hu c1 c2 S d1 d2 a4.ne ⟨t1, At.eq l5⟩ R (by lia) fun g2 us2 n2 s₄ k2 S R2 => k _ _ s₄ (S.unbase k2) (.mk d1 d2 a4.ne ((lls ..).trans ln) (by rw [take_snoc hb, Gr_snoc]; exact R2.imp fun _ _ z => z.keeps S.past))
 ·cases J with | mk d1 d2 a4 ln R =>
  rw [X.len, ltl] at R
  exact h g vs _ _ _ _ s kg S a4 R
theorem kept_ (B : Base w s.heap) (r : Room A 2) (hla : Ls s.heap lo ua) (Ia : IntsAre ua za) (hlb : Ls s.heap lt ub) (Ib : IntsAre ub zb) (ndA : za.Nodup) (ndB : zb.Nodup) (ha : za.length ≤ 9) (hb : zb.length ≤ 9) (hs : Sorted za zb Sr) :
  codeAny (model pw w) A (.call (.ref 306) ⟨[.ref lo, .ref lt], []⟩) (Ret s fun v s' => ∃ l us K, v = .ref l ∧ s.heap.get? l = none ∧ Ls s'.heap l us ∧ Tups s'.heap us K ∧ K.Perm (Gr [] Sr) ∧ K.Pairwise fun r r' => r.1 < r'.1) s := by
 refine call_fK B (is306 B) ok306 r.lt (vals := [.ref lo, .ref lt]) (by kernel_rfl) rfl ?_
 intro env L s' a1 a2 o1 o2 Q hret e _ c1 c2 d1 d2 S
 have hh : (A.deeper env).handled = none := r.handled
 have r1 := r.deeper env
 have hu : (A.deeper env).units + 5 < cLine := r1.u (by decide)
 conv in (fnB _) => whnf
 refine wec (waa (List_ (it_nil (newList_ S (fun lr s₁ S => st_ e S (i := 2) rfl (nlo rfl) fun s₂ S => ?_) (nzl _)))))
 have S := S.perm (own' := KO a1 o1 a2 o2 lr [] 0) (List.perm_append_comm (l₁ := [(a1, o1), (a2, o2)]) (l₂ := [(lr, _)]))
 refine wec ?_
 refine kept_for1 e hh hu B c1 c2 S d1 d2 ⟨rfl, rfl, rfl, rfl, hla, Ia, hlb, Ib, ha, hb⟩ fun g vs o1 o2 u1 u2 us n s₃ kg S K d1 d2 R => ?_
 refine wec (waa (List_ (it_nil (newList_ S (fun lk s₄ S => st_ e S (i := 4) rfl (by rw [K.len]; decide) fun s₅ S => ?_) (nzl _)))))
 have a4 : At (vs.set 4 (some (.ref lk))) 4 (.ref lk) := At.eq (by rw [K.len]; decide)
 have S := S.perm (own' := (lr, listOf us.toArray n) :: KO a1 o1 a2 o2 lk [] 0) (by
  show [(lr, listOf us.toArray n), (a1, o1), (a2, o2), (lk, _)].Perm [(lk, _), (a1, o1), (a2, o2), (lr, listOf us.toArray n)]
  exact (List.perm_append_comm (l₁ := [(lr, listOf us.toArray n), (a1, o1), (a2, o2)]) (l₂ := [(lk, listOf ([] : List Value).toArray 0)])).trans (.cons _ (List.perm_append_comm (l₁ := [(lr, listOf us.toArray n)]) (l₂ := [(a1, o1), (a2, o2)]))))
 have rl := runs_len za zb za.length
 have ul := R.len
 have m64 : ∀ r ∈ runsN za zb za.length, r.1 < 64 := fun r hr => by have := (runsN_ord (A := za) (B := zb) za.length).2 r hr; lia
 have ndr := rkey_nodup (A := za) (B := zb) (by lia)
 refine wec (wpAny_For (callBlt e S (i := 2) rfl (gl_sorted (B.keeps kg)) (it_Name (ld e S (i := 2) rfl K.a2.ne (it_nil (sortedT_ (f := zr) (key := rkey) (0, 0, 0) S (S.ls (j := 0) rfl) (R.imp fun _ _ z => z.keeps S.keep) (by lia) ndr (fun _ => rfl) (fun x hx y hy => lex_zr ndr m64 hx hy) fun us' Sr' D c s₆ hp ho X k6 S => ?_))))))
 have hs' := sorted_runs ndB (by lia) hp ho
 have eS := sorted_unique hs' hs
 subst eS
 have S := S.drop (own' := (D, listOf us'.toArray c) :: KO a1 o1 a2 o2 lk [] 0) (.cons_cons _ (lsc _ _))
 have hD := S.dropped
 have S := S.drop (own' := KO a1 o1 a2 o2 lk [] 0) (lsc _ _)
 have X : RTs (Mine.rest s₆.heap L (KO a1 o1 a2 o2 lk [] 0)) us' Sr' := X.imp fun _ _ z => (z.keeps k6).stay S (all3 (.cell d1) (.cell d2) (.list _ _))
 refine An2 S.rebase fun S k2 => ?_
 change (hideL _ _).get? _ = _ at hD
 change RTs (hideL _ _) _ _ at X
 generalize hideL _ _ = g2 at S k2 hD X
 have sl : Sr'.length ≤ 9 := by rw [hp.length_eq]; lia
 refine kept_for2 e hh hu c1 c2 S d1 d2 a4 (by rw [lls, K.len]) ⟨_, hD⟩ X sl fun g3 vs' o1 o2 us3 n3 s₇ k3 S a4 X3 => ?_
 have Kp := Gr_len Sr' []
 have ndk := Gr_keys ndA ndB hs (.refl _)
 refine wec (wrs (callBlt e S (i := 2) rfl (gl_sorted (B.keeps (kg.trans (k2.trans k3)))) (it_Name (ld e S (i := 4) rfl a4 (it_nil (sortedT_ (f := z3) (key := k1) (0, 0, 0) S (S.ls (j := 2) rfl) (X3.imp fun _ _ z => z.keeps S.keep) (by rw [List.length_nil] at Kp; lia) ndk (fun _ => rfl) (fun x hx y hy => lex_z3 ndk hx hy) fun us4 K4 D4 c4 s₈ hp4 ho4 X4 k8 S => ?_))))))
 exact hret _ _ ⟨_, rfl, (kg.trans (k2.trans k3)).trans S.keep, S.gens, S.os, D4, us4, K4, rfl, (kg.trans (k2.trans k3)).none (S.nw _ (.head _)).2.2, S.ls (j := 0) rfl, X4.imp fun _ _ z => z.keeps k8, hp4, ho4.imp fun {a b} z => Int.ofNat_lt.mp z⟩
end
structure CF (vs : List (Option Value)) (lo lt lc : Addr) (i j : Nat) : Prop where
 a0 : At vs 0 (.ref lo)
 a1 : At vs 1 (.ref lt)
 a2 : At vs 2 (.ref lc)
 a3 : AtI vs 3 i
 a4 : AtI vs 4 j
 len : vs.length = 9
theorem CF.set {vs : List (Option Value)} {lo lt lc : Addr} {i j k : Nat} {u : Option Value} (f : CF vs lo lt lc i j) (h : 5 ≤ k) : CF (vs.set k u) lo lt lc i j := by
 have n : ∀ i, i < 5 → (k == i) = false := fun i hi => beq_eq_false_iff_ne.mpr (by exact Nat.ne_of_gt (nll hi h))
 exact ⟨f.a0.ne (n 0 (by decide)), f.a1.ne (n 1 (by decide)), f.a2.ne (n 2 (by decide)), f.a3.ne (n 3 (by decide)), f.a4.ne (n 4 (by decide)), by rw [lls, f.len]⟩
structure CB (vs : List (Option Value)) (b : T3) : Prop where
 a5 : AtI vs 5 b.1
 a6 : AtI vs 6 b.2.1
 a7 : AtI vs 7 b.2.2
noncomputable def tgL (i j : Nat) (b : T3) : Tag := if i = b.1 then .ins else if j = b.2.1 then .del else .rep
theorem eqd {m n : Nat} : ((m : Int) == n) = decide (m = n) := by rw [bei, beq_iff_eq, decide_eq_true_eq]; exact Int.ofNat_inj
section
variable {lo lt lc : Addr} {os ua ub : List Value} {no i j : Nat} {b : T3} {out : List Code} {wr : List Addr} {za zb : List Int} {K Sr : List T3} {Q : Flow → Shared → Prop}
theorem codes_tag {p1 p2 p3 p4 p5 p6 p7 p8 p9 p10 p11 p12 p13 : Pos} {k1 k2 k3 : Nat} (e : Ev env L N313 gs) (S : St s₀ h₀ L N313 vs [(lc, listOf os.toArray no)] s) (F : CF vs lo lt lc i j) (G : CB vs b)
  (h : ∀ t s', St s₀ h₀ L N313 (vs.set 8 (some (.str (tagS (tgL i j b)) t))) [(lc, listOf os.toArray no)] s' → Q .next s') :
  wpAny (model pw w) A (exec (.Assign [.Name (sO "tag") p1] (.IfExp (.Compare (.Name (sO "i") p2) [.Eq] [.Name (sO "p") p3] p4) (.Constant (.str (sO "insert")) k1 p5)
   (.IfExp (.Compare (.Name (sO "j") p6) [.Eq] [.Name (sO "q") p7] p8) (.Constant (.str (sO "delete")) k2 p9) (.Constant (.str (sO "replace")) k3 p10) p11) p12) p13) env) Q E s := by
 have l8 : 8 < vs.length := by rw [F.len]; decide
 unfold tgL at h
 refine waa (wpAny_IfExp ((PB.eq (.at F.a3) (.at G.a5)).ev e S fun s₁ S _ => ?_))
 rw [eqd]
 by_cases h1 : i = b.1
 ·rw [if_pos (decide_eq_true h1)]
  rw [if_pos h1] at h
  exact cstr S fun t s₂ S => st_ e S (i := 8) rfl l8 fun s₃ S => h t _ S
 ·rw [if_neg (fun q => h1 (of_decide_eq_true q))]
  rw [if_neg h1] at h
  refine wpAny_IfExp ((PB.eq (.at F.a4) (.at G.a6)).ev e S fun s₂ S _ => ?_)
  rw [eqd]
  by_cases h2 : j = b.2.1
  ·rw [if_pos (decide_eq_true h2)]
   rw [if_pos h2] at h
   exact cstr S fun t s₃ S => st_ e S (i := 8) rfl l8 fun s₄ S => h t _ S
  ·rw [if_neg (fun q => h2 (of_decide_eq_true q))]
   rw [if_neg h2] at h
   exact cstr S fun t s₃ S => st_ e S (i := 8) rfl l8 fun s₄ S => h t _ S
theorem codes_app {es : List Expr} {c : Code} {p1 p2 p3 p4 p5 : Pos} (hw : ∀ b ∈ wr, ∃ o, h₀.get? b = some o) (e : Ev env L N313 gs) (S : St s₀ h₀ L N313 vs [(lc, listOf os.toArray no)] s) (F : At vs 2 (.ref lc)) (d : All2 (PV N313 vs) es (c5 c)) (X : Cds (hideL h₀ wr) os out) (ho : out.length ≤ 900) (hline : (p2.endLine == p3.line) = true)
  (h : ∀ g s' os' no', Keeps h₀ g → St s₀ g L N313 vs [(lc, listOf os'.toArray no')] s' → Cds (hideL g wr) os' (out ++ [c]) → Q .next s') :
  wpAny (model pw w) A (exec (.Expr (.Call (.Attribute (.Name (sO "codes") p1) (sO "append") p2) [.Tuple es 0 p5] [] p3) p4) env) Q E s :=
 appD_ e S (i := 2) (j := 0) rfl F rfl hline d (by show (5 : Nat) ≤ 1000; decide) (by rw [X.len]; exact nlt ho (nal 900 100)) (fun p hp => lms.mp hp ▸ .list _ _) fun g a n s₃ k S T fa => h g s₃ _ n k S ((X.imp fun _ _ z => z.keeps (hide_mono wr k)).snoc (T.hide hw fa))
theorem codes_turn (hw : ∀ b ∈ wr, ∃ o, h₀.get? b = some o) (e : Ev env L N313 gs) (hh : A.handled = none) (S : St s₀ h₀ L N313 vs [(lc, listOf os.toArray no)] s) (F : CF vs lo lt lc i j) (G : CB vs b) (X : Cds (hideL h₀ wr) os out) (ho : out.length ≤ 800)
  (h : ∀ g s' vs' os' no', Keeps h₀ g → St s₀ g L N313 vs' [(lc, listOf os'.toArray no')] s' → CF vs' lo lt lc (b.1 + b.2.2) (b.2.1 + b.2.2) → Cds (hideL g wr) os' (out ++ (tagL i j b ++ equalC b)) → Q .next s') :
  wpAny (model pw w) A (execs (forB (stAt (fnB (st 17)) 1)) env) Q E s := by
 conv in (forB _) => whnf
 refine seqP (P := fun s' => ∃ g vs' os' no', Keeps h₀ g ∧ St s₀ g L N313 vs' [(lc, listOf os'.toArray no')] s' ∧ CF vs' lo lt lc i j ∧ CB vs' b ∧ Cds (hideL g wr) os' (out ++ tagL i j b)) ?_ ?_
 ·refine ifP (b := decide (i < b.1) || decide (j < b.2.1)) e S (by rw [← lt_nat, ← lt_nat]; exact .or (.lt (.at F.a3) (.at G.a5)) (.lt (.at F.a4) (.at G.a6))) fun s₁ S _ => ?_
  rw [← Bool.decide_or]
  by_cases hc : i < b.1 ∨ j < b.2.1
  ·rw [decide_eq_true hc]
   refine wec (codes_tag e S F G fun t s₂ S => wec (codes_app (c := (tgL i j b, i, b.1, j, b.2.1)) hw e S (F.set (by decide)).a2 ?_ X (by exact nlt ho (nal 800 100)) rfl fun g s₃ os' no' k S Y => wen ⟨rfl, g, _, os', no', k, S, F.set (by decide), ⟨G.a5.ne, G.a6.ne, G.a7.ne⟩, ?_⟩))
   ·have F := F.set (k := 8) (u := some (.str (tagS (tgL i j b)) t)) (by decide)
    exact .cons (.sn 8 rfl (At.eq (by rw [← lls, F.len]; decide))) (.cons (.int (.at F.a3)) (.cons (.int (.at G.a5.ne)) (.cons (.int (.at F.a4)) (.cons (.int (.at G.a6.ne)) .nil))))
   ·unfold tagL; rw [if_pos hc]; exact Y
  ·rw [decide_eq_false hc]
   refine wen ⟨rfl, h₀, vs, os, no, .refl _, S, F, G, ?_⟩
   unfold tagL; rw [if_neg hc, lan]; exact X
 ·refine fun s₁ => ex4 fun g vs os no => an5 fun k S F G X => ?_
  have hw : ∀ b ∈ wr, ∃ o, g.get? b = some o := fun b hb => let ⟨o, q⟩ := hw b hb; ⟨o, k _ _ q⟩
  have hl : (out ++ tagL i j b).length ≤ 900 := by
   have : (tagL i j b).length ≤ 1 := by unfold tagL; split <;> simp
   rw [lla]; lia
  refine seqP (P := fun s' => ∃ g', Keeps g g' ∧ ∃ os' no', St s₀ g' L N313 vs [(lc, listOf os'.toArray no')] s' ∧ Cds (hideL g' wr) os' (out ++ tagL i j b ++ equalC b)) ?_ ?_
  ·refine ifP (b := decide (0 < b.2.2)) e S (by rw [← lt_nat]; exact .gt (.at G.a7) .c) fun s₂ S _ => ?_
   unfold equalC
   by_cases hc : 0 < b.2.2
   ·rw [decide_eq_true hc, if_pos hc]
    refine wec (codes_app (c := (.eql, b.1, b.1 + b.2.2, b.2.1, b.2.1 + b.2.2)) hw e S F.a2 ?_ X hl rfl fun g' s₃ os' no' k S Y => wen ⟨rfl, g', k, os', no', S, Y⟩)
    show All2 _ _ [_, _, PyData.int ((b.1 : Int) + (b.2.2 : Int)), _, PyData.int ((b.2.1 : Int) + (b.2.2 : Int))]
    exact .cons .sc (.cons (.int (.at G.a5)) (.cons (.int (.add (.at G.a5) (.at G.a7))) (.cons (.int (.at G.a6)) (.cons (.int (.add (.at G.a6) (.at G.a7))) .nil))))
   ·rw [decide_eq_false hc, if_neg hc, lan]
    exact wen ⟨rfl, g, .refl _, os, no, S, X⟩
  ·refine fun s₂ => ex1 fun g' => an2 fun k' => ex2 fun os' no' => an2 fun S Y => ?_
   refine wec (asg2 (s₀ := s₀) e hh (i := 3) (j := 4) rfl rfl (by decide) rfl rfl rfl rfl ((PI.add (.at G.a5) (.at G.a7)).ev e S fun t s₃ S _ => (PI.add (.at G.a6) (.at G.a7)).ev e S fun t' s₄ S _ => ⟨_, _, _, S, by rw [F.len]; decide, by rw [F.len]; decide, fun s₅ S => ?_⟩))
   refine wen (h g' s₅ _ os' no' (k.trans k') S ⟨(F.a0.ne).ne, (F.a1.ne).ne, (F.a2.ne).ne, ⟨t, At.eq (ltS (by rw [F.len]; decide))⟩, ⟨t', (At.eq (by rw [F.len]; decide)).ne⟩, by rw [lls, lls, F.len]⟩ ?_)
   rwa [laa] at Y
end
theorem codesL_snoc (b : T3) : ∀ (K : List T3) (i j : Nat), endB i j (K ++ [b]) = (b.1 + b.2.2, b.2.1 + b.2.2) ∧ codesL i j (K ++ [b]) = codesL i j K ++ (tagL (endB i j K).1 (endB i j K).2 b ++ equalC b)
 | [], i, j => ⟨rfl, by show tagL i j b ++ equalC b ++ [] = _; rw [lan]; rfl⟩
 | c :: K, i, j => by
  refine An2 (codesL_snoc b K (c.1 + c.2.2) (c.2.1 + c.2.2)) fun h1 h2 => ?_
  refine ⟨h1, ?_⟩
  show _ ++ codesL _ _ (K ++ [b]) = (_ ++ codesL _ _ K) ++ _
  rw [h2, ← laa]; rfl
theorem codesL_len : ∀ (K : List T3) (i j : Nat), (codesL i j K).length ≤ 2 * K.length
 | [], _, _ => nlr _
 | b :: K, i, j => by
  have := codesL_len K (b.1 + b.2.2) (b.2.1 + b.2.2)
  have h1 : (tagL i j b).length ≤ 1 := by unfold tagL; split <;> simp
  have h2 : (equalC b).length ≤ 1 := by unfold equalC; split <;> simp
  rw [codesL, lla, lla, List.length_cons]
  lia
section
variable {lo lt lc D : Addr} {os us ua ub : List Value} {no i j : Nat} {b : T3} {out : List Code} {za zb : List Int} {K Sr : List T3} {Q : Flow → Shared → Prop}
inductive CJ (vs : List (Option Value)) (lo lt lc : Addr) (ij : Nat × Nat) (cs : List Code) (g : Heap) : List (Addr × Obj) → Prop
 | mk {os : List Value} {no : Nat} : CF vs lo lt lc ij.1 ij.2 → Cds g os cs → CJ vs lo lt lc ij cs g [(lc, listOf os.toArray no)]
theorem codes_for {k : Nat} {p1 p2 p3 p4 : Pos} (e : Ev env L N313 gs) (hh : A.handled = none) (S : St s₀ h₀ L N313 vs [(lc, listOf ([] : List Value).toArray no)] s) (F : CF vs lo lt lc 0 0) (hl : Ls h₀ D us) (Y : Tups h₀ us K) (hz : K.length ≤ 300)
  (h : ∀ g s' vs' os' no', Keeps h₀ g → St s₀ g L N313 vs' [(lc, listOf os'.toArray no')] s' → At vs' 2 (.ref lc) → Cds g os' (codesL 0 0 K) → Q .next s') :
  wpAny (model pw w) A (pyIter (.ref D)) (fun it s₂ => codeAny (model pw w) A (.forLoop (.Tuple [.Name (sO "p") p1, .Name (sO "q") p2, .Name (sO "size") p3] k p4) it (forB (stAt (fnB (st 17)) 1)) [] env) (fun r s' => match r with | .ok f => Q f s' | .error e => cameBackBy (model pw w) A env E e s') s₂) E s := by
 refine loop_listQ hh S hl (.inr ⟨_, _, _, rfl⟩) (fun k vs own h => CJ vs lo lt lc (endB 0 0 (K.take k)) (codesL 0 0 (K.take k)) h own) (fun j vs own h h' J kk => by cases J with | mk F R => exact .mk F (R.imp fun _ _ z => z.keeps kk)) (.mk F .nil) (fun R wr g k vs own s v kg hw hv J S kn => ?_) fun g vs own s' kg J S => ?_
 ·cases J with | @mk os no F X =>
  refine Ex1 (Y.get hv) fun b => an2 fun hb => ex2 fun m xs => an3 fun zz1 hm I => ?_
  subst zz1
  refine Ex3 (ints3 I) fun t1 t2 t3 zz1 => ?_
  subst zz1
  have ln : ∀ i, i < 9 → i < vs.length := fun i hi => F.len ▸ hi
  have cl : (codesL 0 0 (K.take k)).length ≤ 600 := nlt (codesL_len (K.take k) 0 0) (Nat.mul_le_mul_left 2 (nlt (by rw [llt]; exact Nat.min_le_right _ _) hz))
  refine An2 (codesL_snoc b (K.take k) 0 0) fun e1 e2 => ?_
  refine unp3 e hh S ⟨_, S.keep _ _ (kg _ _ hm), rfl, 0, rfl⟩ (i := 5) (j := 6) (m := 7) rfl rfl rfl (ln 5 (by decide)) (ln 6 (by decide)) (ln 7 (by decide)) fun s₁ S => ?_
  exact codes_turn (b := b) (wr := wr) hw e hh S (((F.set (by decide)).set (by decide)).set (by decide)) ⟨⟨t1, ((At.eq (ln 5 (by decide))).ne).ne⟩, ⟨t2, (At.eq (ltS (ln 6 (by decide)))).ne⟩, ⟨t3, At.eq (ltS (ltS (ln 7 (by decide))))⟩⟩ X (nlt cl (by decide)) fun g2 s₂ vs' os' no' k2 S F X => kn vs' _ s₂ (S.unbase k2) (by
   rw [take_snoc hb, e1, e2]
   exact .mk F (X.imp fun _ _ z => z.keeps S.past))
 ·cases J with | mk F X =>
  rw [Y.len, ltl] at X
  exact h g s' vs _ _ kg S F.a2 X
theorem gl_kept {h : Heap} (B : Base w h) : Gl h (sO "_law_kept") (.ref 306) := B.glob (by kernel_rfl)
theorem codes_ (B : Base w s.heap) (r : Room A 3) (hla : Ls s.heap lo ua) (Ia : IntsAre ua za) (hlb : Ls s.heap lt ub) (Ib : IntsAre ub zb) (ndA : za.Nodup) (ndB : zb.Nodup) (ha : za.length ≤ 9) (hb : zb.length ≤ 9) (hs : Sorted za zb Sr) :
  codeAny (model pw w) A (.call (.ref 313) ⟨[.ref lo, .ref lt], []⟩) (Ret s fun v s' => ∃ l os K, v = .ref l ∧ Ls s'.heap l os ∧ Cds s'.heap os (codesL 0 0 (K ++ [(za.length, zb.length, 0)])) ∧ K.Perm (Gr [] Sr) ∧ K.Pairwise fun r r' => r.1 < r'.1) s := by
 refine call_fR B (is313 B) ok313 r.lt (vals := [.ref lo, .ref lt]) (.of_eq (by kernel_rfl)) rfl ?_
 intro env L s' Q hret _ e S
 have hh : (A.deeper env).handled = none := r.handled
 have r1 := r.deeper env
 have lua := ints_len Ia
 have lub := ints_len Ib
 conv in (fnB _) => whnf
 refine wec (asg3 (s₀ := s) e hh (i := 2) (j := 3) (m := 4) rfl rfl rfl (by decide) (by decide) (by decide) rfl rfl rfl rfl rfl (List_ (it_nil (newList_ S (fun lc s₁ S => cint S fun t1 s₂ S => cint S fun t2 s₃ S => ⟨_, _, _, S, nlo rfl, nlo rfl, nlo rfl, fun s₄ S => ?_⟩) (nzl _)))))
 refine wec (wpAny_For (wbb (callName e S (i := 0) rfl (gl_kept B) (o := o306 w.params) (fd := fd306) (B.at (by kernel_rfl)) (by kernel_rfl) (it_Name (ld e S (i := 0) rfl rfl (it_Name (ld e S (i := 1) rfl rfl (it_nil ⟨S.keep, use S (kept_ (B.keeps S.keep) (r1.le (by exact nlt (nlr 2) (nlr 2))) (hla.keeps S.keep) Ia (hlb.keeps S.keep) Ib ndA ndB ha hb hs) ?_⟩))))))))
 refine fun v s₅ S5 k5 => ex3 fun l us K => an6 fun zz1 fr zz2 X hp ho => ?_
 subst zz1
 refine Ex1 zz2 fun c hl => ?_
 have hl := S.fresh fr hl |> fun _ => rest_get (L := L) (own := [(lc, listOf ([] : List Value).toArray 0)]) hl (S.fresh2 fr).1 (S.fresh2 fr).2
 have X : Tups (Mine.rest s₅.heap L [(lc, listOf ([] : List Value).toArray 0)]) us K := X.imp fun _ _ z => z.stay S5 (fun p hp => lms.mp hp ▸ .list _ _)
 refine An2 S5.rebase fun S kg => ?_
 change (hideL _ _).get? _ = _ at hl
 change Tups (hideL _ _) _ _ at X
 generalize hideL _ _ = g at S kg hl X
 have Gl := Gr_len Sr []
 have Kl := hp.length_eq
 have sl : Sr.length ≤ 9 := by
  have := (List.perm_ext_iff_of_nodup (hs.ord.imp fun {a b} h z => by subst z; unfold better at h; omega) ((runsN_ord (A := za) (B := zb) za.length).1.imp fun {a b} h z => by subst z; exact Nat.lt_irrefl a.fst h)).mpr fun r => (hs.mem r).trans (runsN_mem ndB).symm
  have q := runs_len za zb za.length
  have := this.length_eq
  lia
 rw [List.length_nil] at Gl
 refine List_ (it_Tuple (tup3_ (a := za.length) (b := zb.length) (c := 0) S (by rw [← lua]; exact EI.len e (B.keeps kg) (i := 1) rfl (j := 0) rfl rfl (hla.keeps kg) (by lia)) (by rw [← lub]; exact EI.len e (B.keeps kg) (i := 1) rfl (j := 1) rfl rfl (hlb.keeps kg) (by lia)) (EI.num St.tk) fun y xs s₆ S I => it_nil (newList_ S (fun l2 s₇ S => addL_ S ⟨c, S.keep _ _ hl⟩ (S.ls (j := 0) rfl) (by have := X.len; rw [see]; simp only [List.length_cons, List.length_nil]; lia) fun l3 s₈ S => ?_) (by rw [see]; show (1 : Nat) ≤ _; decide))))
 have T : TupI s₈.heap (.ref y) (z3 (za.length, zb.length, 0)) := ⟨y, xs, rfl, S.get (j := 2) rfl, I⟩
 have S := S.drop (own' := [(l3, _), (lc, listOf ([] : List Value).toArray 0)]) (.cons_cons _ (.cons _ (.cons _ (.refl _))))
 have hl3 := S.dropped
 have S := S.drop (own' := [(lc, listOf ([] : List Value).toArray 0)]) (lsc _ _)
 have T := T.stay S (fun p hp => lms.mp hp ▸ .list _ _)
 refine An2 S.rebase fun S k2 => ?_
 change (hideL _ _).get? _ = _ at hl3
 change TupI (hideL _ _) _ _ at T
 generalize hideL _ _ = g2 at S k2 hl3 T
 refine codes_for e hh S ⟨rfl, rfl, rfl, ⟨t1, rfl⟩, ⟨t2, rfl⟩, rfl⟩ ⟨_, hl3⟩ ((X.imp fun _ _ z => z.keeps k2).app (.cons T .nil)) (by rw [lla]; show K.length + 1 ≤ _; lia) fun g3 s₉ vs' os' no' k3 S a2 Z => ?_
 refine wec (wrs (ld e S (i := 2) rfl a2 ?_))
 exact hret _ _ ⟨_, rfl, (kg.trans (k2.trans k3)).trans S.keep, S.gens, S.os, lc, os', K, rfl, S.ls (j := 0) rfl, Z.imp fun _ _ z => z.keeps S.keep, hp, ho⟩
end
section
variable {d it : Addr} {es : List DictEntry} {n i : Nat}
theorem dict_iter {Q : Value → Shared → Prop} (hd : (d == sysModules) = false) (ho : s.heap.get? d = some (dictOf es n))
  (hQ : Q (.ref s.heap.objs.size) { s with heap := s.heap.push { cls := .type "dict_keyiterator", data := .fields #[.ref d, .int 0 0, .int es.length 0, .int n 0] } }) :
  wpAny (model pw w) A (pyIter (.ref d)) Q E s := by
 have hT : s.TypeIs (.ref d) "dict" := ⟨_, ho, rfl⟩
 refine wpAny_pyIter_slot hT PySem.F.slot_dict_iter (wce PySem.F.slot_dict_iter hT PySem.F.entry_dict_iter ?_ (PySem.F.args_dict_iter_1 _))
 unfold Builtin.«dict.__iter__»
 refine wb ?_
 unfold Builtin.Dict.dictSlotNone
 refine wb (wpAny_notOrdered_dict hT ?_)
 show wpAny _ _ (pure (Value.ref d)) _ _ s
 refine wpp ?_
 show wpAny _ _ (Builtin.Dict.showsAll d >>= _) _ _ s
 unfold Builtin.Dict.showsAll
 rw [if_neg (by rw [hd]; exact bfn)]
 refine wb (wpp ?_)
 refine wb (wpAny_dictEntries ho rfl ?_)
 refine wb (wd ho rfl ?_)
 refine wb (wnt (wpp ⟨_, rfl, "dict_keyiterator", _, ⟨_, hgs _ rfl, rfl⟩, PySem.F.slot_dict_keyiterator_next.lookup, ?_⟩))
 simpa [rawInt] using hQ
theorem key_at {es : List DictEntry} {i : Nat} {o : Option DictEntry} (hx : es[i]? = o) : (if (i : Int) < 0 then none else es.toArray[(i : Int).toNat]?) = o := by
 rw [if_neg (Int.not_lt.mpr (Int.natCast_nonneg i)), Int.toNat_natCast, List.getElem?_toArray, hx]
theorem dict_next {Q : Option Value → Shared → Prop} {e : DictEntry} (hit : s.heap.IsKeyIter it d i es.length n) (hod : s.heap.get? d = some (dictOf es n)) (hx : es[i]? = some e)
  (hQ : ∀ h', h'.IsKeyIter it d (i + 1) es.length n → Heap.SameBut it s.heap h' → Q (some e.key) { s with heap := h' }) :
  wpAny (model pw w) A (pyNext (.ref it)) Q E s := by
 refine Ex1 (id hit) fun o => an3 fun ho hc hd => ?_
 unfold pyNext
 refine wb (wpAny_attempt (wpAny_callSpecial?_slot (name := sO "__next__") hit.typeIs PySem.F.slot_dict_keyiterator_next
  (wce PySem.F.slot_dict_keyiterator_next hit.typeIs PySem.F.entry_dict_keyiterator_next ?_ (PySem.F.args_dict_keyiterator_next_1 _))))
 refine wb (wpp ?_)
 refine wb ?_
 refine wb ?_
 first | refine wb (wpAny_typeNameOfWhole_keyiter hit.typeIs (wpp ?_)) | refine wb (wpAny_typeNameOf_keyiter hit.typeIs (wpp ?_))
 refine wb (wpAny_fieldsOf ho hd ?_)
 have hown : Builtin.Dict_items.ownsTuple "dict_keyiterator" = false := by decide
 rw [hown]
 show wpAny _ _ (if (Value.ref d == Value.none) = true then _ else _) _ _ s
 rw [if_neg (show ¬ ((Value.ref d == Value.none) = true) from bfn)]
 refine wb (wpp ?_)
 refine wb (wpAny_dictEntries hod rfl ?_)
 have hsz : es.toArray.size = es.length := by simp
 rw [if_neg (by rw [hsz]; simp)]
 refine wb (wpp ?_)
 refine wb (wd hod rfl ?_)
 rw [if_neg (by simp)]
 refine wpp ?_
 dsimp only
 rw [key_at hx]
 refine wb ?_
 first | refine wb (wpAny_typeNameOfWhole_keyiter hit.typeIs (wpp ?_)) | refine wb (wpAny_typeNameOf_keyiter hit.typeIs (wpp ?_))
 refine wb (wpAny_isOneOf_keyiter hit.typeIs ?_)
 show wpAny _ _ (setField (.ref it) 1 (rawInt ((i : Int) + 1)) >>= _) _ _ s
 refine wb (wpAny_setField ho hd (by simp) ?_)
 have hit' : (s.heap.update it (Obj.mapFields (·.setIfInBounds 1 (rawInt ((i : Int) + 1))))).IsKeyIter it d (i + 1) es.length n :=
  ⟨_, Heap.get?_update_self _ ho (Obj.isFreed_of_fields (Obj.data_mapFields hd _)), (Obj.cls_mapFields ..).trans hc, by rw [Obj.data_mapFields hd]; simp [rawInt]⟩
 refine wb (whh ?_)
 refine wb (wpAny_isOneOf_keyiter (s := { s with heap := s.heap.update it (Obj.mapFields (·.setIfInBounds 1 (rawInt ((i : Int) + 1)))) }) hit'.typeIs ?_)
 show wpAny _ _ (pure e.key) _ _ _
 exact wpp (wpp ⟨_, rfl, wpp (hQ _ hit' (Heap.SameBut.update ..))⟩)
theorem dict_end {Q : Option Value → Shared → Prop} (hh : A.handled = none) (hit : s.heap.IsKeyIter it d i es.length n) (hod : s.heap.get? d = some (dictOf es n)) (hx : es[i]? = none)
  (hQ : ∀ h', Heap.ExtBut it s.heap h' → Q none { s with heap := h' }) : wpAny (model pw w) A (pyNext (.ref it)) Q E s := by
 refine Ex1 (id hit) fun o => an3 fun ho hc hd => ?_
 unfold pyNext
 refine wb (wpAny_attempt (wpAny_callSpecial?_slot (name := sO "__next__") hit.typeIs PySem.F.slot_dict_keyiterator_next
  (wce PySem.F.slot_dict_keyiterator_next hit.typeIs PySem.F.entry_dict_keyiterator_next ?_ (PySem.F.args_dict_keyiterator_next_1 _))))
 refine wb (wpp ?_)
 refine wb ?_
 refine wb ?_
 first | refine wb (wpAny_typeNameOfWhole_keyiter hit.typeIs (wpp ?_)) | refine wb (wpAny_typeNameOf_keyiter hit.typeIs (wpp ?_))
 refine wb (wpAny_fieldsOf ho hd ?_)
 have hown : Builtin.Dict_items.ownsTuple "dict_keyiterator" = false := by decide
 rw [hown]
 show wpAny _ _ (if (Value.ref d == Value.none) = true then _ else _) _ _ s
 rw [if_neg (show ¬ ((Value.ref d == Value.none) = true) from bfn)]
 refine wb (wpp ?_)
 refine wb (wpAny_dictEntries hod rfl ?_)
 have hsz : es.toArray.size = es.length := by simp
 rw [if_neg (by rw [hsz]; simp)]
 refine wb (wpp ?_)
 refine wb (wd hod rfl ?_)
 rw [if_neg (by simp)]
 refine wpp ?_
 dsimp only
 rw [key_at hx]
 refine wb ?_
 first | refine wb (wpAny_typeNameOfWhole_keyiter hit.typeIs (wpp ?_)) | refine wb (wpAny_typeNameOf_keyiter hit.typeIs (wpp ?_))
 show wpAny _ _ (setField (.ref it) 0 .none >>= _) _ _ s
 refine wb (wpAny_setField ho hd (by simp) ?_)
 show wpAny _ _ (newExc (.type "StopIteration") [] >>= _) _ _ _
 refine wb ?_
 simp only [newExc, newTuple]
 refine wb (wnt ?_ (by size_fits))
 refine wb (m := firstArgMember _ _) (wpAny_of_eq (a := Value.none) (by first | rfl | (simp only [firstArgMember]; rfl)) ?_)
 refine wnt ?_ (by size_fits)
 unfold raiseNew
 refine wb (wpAny_handled ?_)
 rw [show A.in1.handled = none from hh]
 refine wb (wpp (wpAny_throw ?_))
 refine wb (wpAny_isInstance (T := "StopIteration") (b := true) ⟨_, hgs _ rfl, rfl⟩ isSubtype_stop ?_)
 exact wpp (hQ _ (((Heap.SameBut.update ..).extBut.push _).push _))
theorem dict_walks (hh : A.handled = none) (hne : d ≠ it) : Walks pw w A it [it, d] [it] es.length (fun i v => ∃ e, es[i]? = some e ∧ v = e.key) (fun i h => h.IsKeyIter it d i es.length n ∧ h.get? d = some (dictOf es n)) where
 sub := fun b hb => by simp at hb; simp [hb]
 frame := fun _ _ _ st hk => ⟨let ⟨o, q, r⟩ := st.1; ⟨o, hk it (by simp) o q, r⟩, hk d (by simp) _ st.2⟩
 item := fun i s Q E hi st hQ => dict_next st.1 st.2 (lge hi) fun h' hit' hs' => hQ _ h' s.toks ⟨_, lge hi, rfl⟩ ⟨hit', hs'.extBut _ _ hne st.2⟩ fun b o hb e => hs'.extBut b o (fun h => hb (by simp [h])) e
 done := fun s Q E st hQ => dict_end hh st.1 st.2 (by simp) fun h' he' => hQ h' s.toks fun b o hb e => he' b o (fun h => hb (by simp [h])) e
 self := fun _ _ _ _ st hQ => wpAny_pyIter_keyiter st.1 hQ
theorem dict_src (lo : (d == sysModules) = false) : KdlSrc pw w "dict" d d es.length (fun i v => ∃ e, es[i]? = some e ∧ v = e.key) (fun h => h.get? d = some (dictOf es n)) where
 type := fun _ hm => ⟨_, hm, rfl⟩
 there := fun _ hm => ⟨hli hm, hli hm⟩
 keep := fun _ _ hm hk => hk d (.inl rfl) _ hm
 notList := by decide
 notTuple := by decide
 hint := fun _ _ _ _ hm hq => kdl_hint_dict ⟨_, hm, rfl⟩ hq
 iter := fun _ _ hh hm => ⟨_, _, (fun _ _ hq => dict_iter lo hm hq), dict_walks hh (Nat.ne_of_lt (hli hm)), ⟨⟨_, hgs _ rfl, rfl, rfl⟩, hgp _ hm⟩⟩
theorem list_dict {Q : Value → Shared → Prop} (lo : (d == sysModules) = false) (hh : A.handled = none) (hm : s.heap.get? d = some (dictOf es n)) (hz : es.length ≤ sizeLine)
  (h : ∀ h' tk c, Keeps s.heap h' → h'.get? s.heap.objs.size = some (listOf (es.map (·.key)).toArray c) → Q (.ref s.heap.objs.size) { s with heap := h', toks := tk }) :
  wpAny (model pw w) A (call (.type "list") [.ref d]) Q E s :=
 kdl_call (dict_src (es := es) (n := n) lo) hh hm hz fun h' tk acc c hk hS hacc => by
  have e : acc = (es.map (·.key)).toArray := by
   rw [← Array.toArray_toList (xs := acc)]
   refine congrArg List.toArray (List.ext_getElem? fun j => ?_)
   rw [Array.getElem?_toList, lgm]
   cases q : es[j]? with
   | none =>
    rw [Array.getElem?_eq_none (by rw [hacc.1]; exact List.getElem?_eq_none_iff.mp q)]; rfl
   | some e =>
    have hj : j < acc.size := by rw [hacc.1]; exact lt_of_get q
    refine Ex1 (hacc.2 j _ (Array.getElem?_eq_getElem hj)) fun e' => an2 fun h1 h2 => ?_
    rw [q] at h1
    rw [Array.getElem?_eq_getElem hj, h2, ← Option.some.inj h1]; rfl
  subst e
  exact h h' tk c hk hS
end
theorem fnd_acc {D : List Ent} {acc : List Int} {z : Int} (h : D.map (·.1) = acc.map Int.toNat) : fnd D z.toNat = none ↔ kd z ∉ kk acc := by
 rw [fnd_none]
 constructor
 ·intro f m
  refine Ex1 (lmm.mp m) fun y => an2 fun hy e => ?_
  refine Ex1 (List.mem_iff_getElem?.mp hy) fun i hi => ?_
  have := congrArg (fun l => l[i]?) h
  simp only [lgm, hi, Option.map_some] at this
  refine Ex1 (Option.map_eq_some_iff.mp this) fun x => an2 fun hx ex => ?_
  exact f i x hx (by rw [ex, kd_nat, kd_nat, e])
 ·intro m j x hx e
  have := congrArg (fun l => l[j]?) h
  simp only [lgm, hx, Option.map_some] at this
  refine Ex1 (Option.map_eq_some_iff.mp this.symm) fun y => an2 fun hy ey => ?_
  refine m (lmm.mpr ⟨y, lmo hy, ?_⟩)
  rw [← kd_nat y, ey, e, kd_nat]
theorem fkD_keys : ∀ {us : List Value} {zs : List Int} {D : List Ent} {acc : List Int}, us.length = zs.length → D.map (·.1) = acc.map Int.toNat → (fkD D us zs).map (·.1) = (zs.foldl addF acc).map Int.toNat
 | [], [], D, acc, _, h => h
 | v :: us, z :: zs, D, acc, hl, h => by
  show (fkD (setE D z.toNat v .none) us zs).map (·.1) = (zs.foldl addF (addF acc z)).map Int.toNat
  refine fkD_keys (Nat.succ.inj hl) ?_
  have f := fnd_acc (z := z) h
  unfold setE
  cases q : fnd D z.toNat with
  | none =>
   rw [addF_neg (f.mp q)]
   show (D ++ [_]).map _ = _
   rw [lma, lma, h]; rfl
  | some i =>
   have : kd z ∈ kk acc := by
    by_cases m : kd z ∈ kk acc
    ·exact m
    ·rw [f.mpr m] at q; cases q
   rw [addF_pos this]
   show (D.modify i _).map _ = _
   rw [map_modify (f := fun x : Ent => (x.1, x.2.1, Value.none)) (g := fun x : Ent => x.1) (fun _ => rfl), h]
theorem ths_keys {h : Heap} {D : List Ent} {zs : List Int} (T : TD h D) (e : D.map (·.1) = zs.map Int.toNat) : Ths h (D.map (·.2.1)) zs := by
 have : ∀ {D : List Ent} {zs : List Int}, (∀ x ∈ D, Thing h x.2.1 x.1) → D.map (·.1) = zs.map Int.toNat → Ths h (D.map (·.2.1)) zs := by
  intro D
  induction D with
  | nil =>
   intro zs _ e
   cases zs with
   | nil => exact .nil
   | cons => cases e
  | cons x D ih =>
   intro zs f e
   cases zs with
   | nil => cases e
   | cons z zs =>
    rw [lmn, lmn] at e
    have e1 := (List.cons.inj e).1
    exact .cons (e1 ▸ f x (.head _)) (ih (fun y hy => f y (.tail _ hy)) (List.cons.inj e).2)
 exact this T.th e
theorem gl_dedup {h : Heap} (B : Base w h) : Gl h (sO "_deduplicate") (.ref 254) := B.glob (by kernel_rfl)
theorem dd_ {arg : Expr} {zs : List Int} {i1 i2 : Nat} {p1 p2 p3 p4 : Pos} {own1 : List (Addr × Obj)} {Q : Value → Shared → Prop} (e : Ev env L ns gs) (hh : A.handled = none) (B : Base w h₀) (r : Room A 2) (h1 : gs[i1]? = some (sO "list")) (h2 : gs[i2]? = some (sO "_deduplicate")) (hz : zs.length ≤ 1000) (S : St s₀ h₀ L ns vs own s)
  (ha : ∀ Q' : Value → Shared → Prop, (∀ l us s', St s₀ h₀ L ns vs own1 s' → Ls s'.heap l us → Ths s'.heap us zs → Q' (.ref l) s') → wpAny (model pw w) A (eval arg env) Q' E s)
  (h : ∀ D ks c s', St s₀ h₀ L ns vs ((D, listOf ks.toArray c) :: own1) s' → Ths s'.heap ks (firstsL zs) → Q (.ref D) s')
  (hst : ∀ rest, starEach (arg :: rest) env = (false, eval arg env) :: starEach rest env := by intro _; rfl) :
  wpAny (model pw w) A (eval (.Call (.Name (sO "list") p1) [.Call (.Name (sO "_deduplicate") p2) [arg] [] p3] [] p4) env) Q E s := by
 refine callTyp e S h1 (gl_list B) (it_Call (callName e S h2 (gl_dedup B) (o := o254 w.params) (fd := fd254) (B.at (by kernel_rfl)) (by kernel_rfl) ?_ ⟨_, _, _, by rw [hst]; rfl, rfl⟩))
 refine wio (ha _ fun l us s₁ S1 hl T => it_nil ⟨S1.keep, use S1 (dedup (B.keeps S1.keep) r hl T hz) ?_⟩) (hst _)
 refine fun v s₂ S2 k2 => ex2 fun d n => an5 fun zz1 h3 fr hd TD => ?_
 subst zz1
 have len := T.len
 have hk := fkD_keys (D := []) (acc := []) len rfl
 have hz2 := firstsL_len zs
 have hlen : (fkD [] us zs).length = (firstsL zs).length := by
  have := congrArg List.length hk
  rwa [llm, llm] at this
 have lo : (d == sysModules) = false := beq_eq_false_iff_ne.mpr (nn (.inr (Nat.lt_trans (by decide) h3)))
 refine it_nil (list_dict lo hh hd (by rw [llm, hlen, see]; lia) fun h' tk c kp hnew => ?_)
 have S := S2.made (s' := { s₂ with heap := h', toks := tk }) (get_size _) kp hnew rfl rfl
 have T2 := ths_keys TD hk
 rw [List.map_map] at S
 exact h _ _ c _ S (T2.keeps kp)
inductive FirstsJ (l : Addr) (zs : List Int) (j : Nat) (vs : List (Option Value)) : List (Addr × Obj) → Prop
 | mk {lk lf : Addr} {K F : List Value} {n m : Nat} : At vs 0 (.ref l) → At vs 1 (.ref lk) → At vs 2 (.ref lf) → vs.length = 4 → IntsAre K ((firstsL (zs.take j)).map kd) → IntsAre F (firstsL (zs.take j)) → FirstsJ l zs j vs [(lk, listOf K.toArray n), (lf, listOf F.toArray m)]
inductive FirstsP (zs : List Int) (h : Heap) : Value → Prop
 | mk {a lk lf : Addr} {K F : List Value} : h.get? a = some (tupO #[.ref lk, .ref lf]) → Ls h lk K → Ls h lf F → IntsAre K ((firstsL zs).map kd) → IntsAre F (firstsL zs) → FirstsP zs h (.ref a)
theorem kind_ (e : Ev env L (sO "row" :: N296.tail) [sO "_law_kind"]) (B : Base w h₀) (r : Room A 1) {z : Int} (z0 : 0 ≤ z) (z1 : z < 12) (a3 : AtI vs 3 z) {p1 p2 p3 : Pos} : EI w A E env (St s₀ h₀ L N296 vs own) (.Call (.Name (sO "_law_kind") p1) [.Name (sO "k") p2] [] p3) (kd z) := fun s Q S h => by
 refine Ex1 a3 fun t a3 => ?_
 obtain ⟨⟨o, ho, hd⟩, _⟩ := is282 B
 refine callName e S (i := 0) rfl (gl_kind B) ho hd (it_Name (ld e S (i := 3) rfl a3 (it_nil ⟨S.keep, use S (law_kind (B.keeps S.keep) r z0 z1) ?_⟩)))
 refine fun v s' S k1 => ex1 fun t1 zz1 => ?_
 subst zz1
 exact h t1 s' S
theorem law_firsts {w : World} {A : Around} {s : Shared} {l : Addr} {xs : List Value} {zs : List Int} (B : Base w s.heap) (r : Room A 2) (hl : Ls s.heap l xs) (I : IntsAre xs zs) (hk : Ks zs) (hz : zs.length ≤ 1000) :
  codeAny (model pw w) A (.call (.ref 296) ⟨[.ref l], []⟩) (Ret s fun v s' => FirstsP zs s'.heap v) s := by
 refine call_fR B (is296 B) ok296 r.lt (vals := [.ref l]) (.of_eq (by kernel_rfl)) rfl fun env L s' Q q1 _ e S => ?_
 have r1 := r.deeper env
 conv in (fnB _) => whnf
 refine wec (asg2 e r.handled (i := 1) (j := 2) rfl rfl (by decide) rfl rfl rfl rfl (List_ (it_nil (newList_ S (fun lk s' S => List_ (it_nil (newList_ S (fun lf s' S => ⟨_, _, _, S, nlo rfl, nlo rfl, fun s' S => ?_⟩) (nzl _)))) (nzl _)))))
 refine wec (wpAny_For (ld e S (i := 0) rfl rfl ?_))
 have S := S.perm (own' := [(lk, listOf ([] : List Value).toArray 0), (lf, listOf ([] : List Value).toArray 0)]) (.swap _ _ _)
 refine loop_listQ r.handled S hl (.inl ⟨_, _, rfl⟩) (fun j vs own _ => FirstsJ l zs j vs own) (fun _ _ _ _ _ h _ => h) (.mk rfl rfl rfl rfl .nil .nil) (fun R wr g j vs own s' x kg hw hx J S k => ?_) fun g vs own s' kg J S => ?_
 ·cases J with | @mk lk lf K F n m a0 a1 a2 ln IK IF =>
  refine Ex2 (IntsAre.at I j x hx) fun z t => an2 fun zz1 hz' => ?_
  subst zz1
  have hkz := hk z (mem_of_get hz')
  have Bg := B.keeps kg
  have lF : F.length ≤ 1000 := ints_len IF ▸ nlt (firsts_bnd zs j) hz
  refine wan (st_ e S (i := 3) rfl (ln ▸ nlo rfl) fun s' S => ?_)
  have a0 : At (vs.set 3 (some (.int z t))) 0 (.ref l) := a0.ne
  have a1 : At (vs.set 3 (some (.int z t))) 1 (.ref lk) := a1.ne
  have a2 : At (vs.set 3 (some (.int z t))) 2 (.ref lf) := a2.ne
  have a3 : At (vs.set 3 (some (.int z t))) 3 (.int z t) := At.eq (ln ▸ nlo rfl)
  have ln := (lls (as := vs) (i := 3) (a := some (.int z t))).trans ln
  generalize vs.set 3 (some (.int z t)) = vs at S a0 a1 a2 a3 ln
  have kk := fun {E : Value → Shared → Prop} {own : List (Addr × Obj)} {p1 p2 p3 : Pos} => kind_ (E := E) (own := own) (s₀ := s) (vs := vs) e Bg r1 hkz.1 hkz.2 ⟨t, a3⟩ (p1 := p1) (p2 := p2) (p3 := p3)
  refine wec (wpAny_If (wic (kk _ _ S fun t1 s' S => ld e S (i := 1) rfl a1 (notin_list_ints (S.ls (j := 0) rfl).isList IK (wtb ?_))) rfl))
  have ta := firsts_take hz'
  cases hb : ((firstsL (zs.take j)).map kd).any (· == kd z) with
  | true =>
   rw [addF_t hb] at ta
   exact wen (wen (k vs _ s' S (.mk a0 a1 a2 ln (ta ▸ IK) (ta ▸ IF))))
  | false =>
   rw [addF_f hb] at ta
   refine wec (append_ e S (i := 1) (j := 0) rfl a1 rfl rfl (kk _ _ S fun t2 s' S => ⟨_, _, _, 0, _, _, S, rfl, by rw [lst, ints_len IK, llm, ← ints_len IF, see]; exact nlt lF (by decide), fun s' S => ?_⟩))
   have S : St s g L N296 vs [(lk, listOf (K ++ [Value.int (kd z) t2]).toArray (n + 1)), (lf, listOf F.toArray m)] s' := by simpa using S
   refine wec (appN_ e S (i := 2) (i' := 3) (j := 1) rfl a2 rfl a3 rfl rfl lF fun c s' S => wen (wen (k vs _ s' S (.mk (n := n + 1) (m := c) a0 a1 a2 ln ?_ ?_))))
   ·rw [ta, lma]; exact ints_snoc IK _ _
   ·rw [ta]; exact ints_snoc IF _ _
 ·cases J with | mk a0 a1 a2 ln IK IF =>
  rw [ints_len I, ltl] at IK IF
  exact wec (wrs (Tuple_ (it_Name (ld e S (i := 1) rfl a1 (it_Name (ld e S (i := 2) rfl a2 (it_nil (newTuple_ S (fun a s' S => q1 _ _ ⟨_, rfl, kg.trans S.keep, S.gens, S.os, .mk (S.get (j := 0) rfl) (S.ls (j := 1) rfl) (S.ls (j := 2) rfl) IK IF⟩) (by rw [see]; exact nlo rfl)))))))))
noncomputable def fd318 : FuncData := fnD (sO "_law_right") (sO "_law_right") (st 18) [] .none .none .none (.str (sO "law_ny0445_01") 625) none (.ref 317) .none
noncomputable abbrev P318 : List Str := [sO "matcher", sO "x", sO "y"]
noncomputable abbrev L318 : List Str := [sO "things", sO "others", sO "mine", sO "theirs", sO "a", sO "b", sO "codes", sO "laid", sO "goes", sO "comes", sO "tag", sO "i", sO "p", sO "j", sO "q", sO "shared", sO "straight", sO "quick", sO "signs", sO "alike", sO "within", sO "held", sO "told"]
noncomputable abbrev N318 : List Str := P318 ++ L318
noncomputable abbrev G318 : List Str := [sO "_law_firsts", sO "list", sO "_deduplicate", sO "_law_same", sO "_law_codes", sO "len", sO "_compare_args_orderless", sO "sorted"]
theorem ok318 : FnOkC fd318 (fnB (st 18)) P318 L318 G318 (sO "one") (sO "other") := FnOkC.of (by kernel_rfl) (fun n => by kernel_rfl) (by kernel_rfl)
theorem is318 {w : World} {h : Heap} (B : Base w h) : IsFn h 318 fd318 := ⟨⟨o318 w.params, B.at (by kernel_rfl), by kernel_rfl⟩, ⟨317, o317 w.params, _, _, by kernel_rfl, B.at (by kernel_rfl), rfl, rfl⟩⟩
def NX (o : Obj) : Prop := NT o ∧ (∀ its n, o ≠ listOf its n) ∧ (∀ led, o ≠ setO led) ∧ NM o
theorem NX.cell {o : Obj} {v : Option Value} (h : o.data = .cell v) : NX o := ⟨.cell h, (fun its n q => by rw [q] at h; cases h), (fun led q => by rw [q] at h; cases h), (fun dx xs q => by rw [q] at h; cases h)⟩
theorem St.settle {a : Addr} {o : Obj} (S : St s₀ h₀ L ns vs ((a, o) :: own) s) : ∃ g, Keeps h₀ g ∧ St s₀ g L ns vs own s ∧ g.get? a = some o ∧ h₀.get? a = none ∧ g = Mine.rest s.heap L own :=
 have S' := S.drop (lsc _ _)
 ⟨_, S'.rebase.2, S'.rebase.1, S.dropped, (S.nw _ (.head _)).2.2, rfl⟩
theorem Ls.stay {l : Addr} {us : List Value} (S : St s₀ h₀ L ns vs own s) (hl : Ls s.heap l us) (h : ∀ p ∈ own, NX p.2) : Ls (Mine.rest s.heap L own) l us := by
 refine Ex1 hl fun c q => ?_
 refine ⟨c, rest_get q (fun z => ?_) fun m => ?_⟩
 ·refine Ex3 S.nsp fun o es ep => an3 fun ho hd _ => ?_
  rw [z, ho] at q
  rw [Option.some.inj q] at hd; cases hd
 ·refine Ex1 (lmm.mp m) fun p => an2 fun hp z => ?_
  have := (S.nw p hp).1
  rw [z, q] at this
  exact (h p hp).2.1 _ _ (Option.some.inj this).symm
theorem things_ {x y : Str} {p1 p2 p3 p4 p5 p6 py spos : Pos} {i j : Nat} {l : Addr} {xs : List Value} {zs : List Int} {Q : Flow → Shared → Prop} (e : Ev env L ns gs) (r : Room A 1) (B : Base w h₀) (S : St s₀ h₀ L ns vs own s)
  (hi : ns[i]? = some y) (hlen : i < vs.length) (hj : ns[j]? = some x) (hv : vs[j]? = some (some (.ref l))) (hl : Ls h₀ l xs) (I : IntsAre xs zs) (hk : Ks zs) (hz : zs.length ≤ 1000)
  (hline : (py.line == p6.line) = true) (hn : (kScope.names.any fun p => p.1 == y && (p.2 == .local || p.2 == .cell)) = false) (hown : ∀ p ∈ own, NX p.2)
  (done : ∀ g D us s', Keeps h₀ g → Ls g D us → Ths g us zs → St s₀ g L ns (vs.set i (some (.ref D))) own s' → Q .next s') :
  wpAny (model pw w) A (exec (.Assign [.Name y py] (.ListComp (.Call (.Name (sO "_law_thing") p1) [.Name (sO "k") p2] [] p3) [⟨.Name (sO "k") p4, .Name x p5, [], 0⟩] kScope p6) spos) env) Q E s :=
 asg_things e r B S hi hlen hj hv hl I hk hz hline hn (fun p hp => (hown p hp).1) fun g D us n s' k T S => by
  refine Ex1 S.settle fun g2 => an5 fun k2 S hD _ _ => ?_
  exact done g2 D us s' (k.trans k2) ⟨n, hD⟩ (T.keeps k2) S
theorem gl_firsts {h : Heap} (B : Base w h) : Gl h (sO "_law_firsts") (.ref 296) := B.glob (by kernel_rfl)
theorem gl_same {h : Heap} (B : Base w h) : Gl h (sO "_law_same") (.ref 301) := B.glob (by kernel_rfl)
theorem firsts_ {c x y : Str} {p1 p2 p3 p4 p5 p6 p7 : Pos} {i j k jc : Nat} {l a : Addr} {o : Obj} {u : Option Value} {xs : List Value} {zs : List Int} {Q : Flow → Shared → Prop} (e : Ev env L ns gs) (hh : A.handled = none) (r : Room A 2) (B : Base w h₀) (S : St s₀ h₀ L ns vs own s) (hg : gs[k]? = some (sO "_law_firsts"))
  (hc : Cl env c .cell a) (hjc : own[jc]? = some (a, o)) (hd : o.data = .cell u) (hi : ns[i]? = some y) (hlen : i < vs.length) (hj : ns[j]? = some x) (hv : vs[j]? = some (some (.ref l))) (hl : Ls h₀ l xs) (I : IntsAre xs zs) (hk : Ks zs) (hz : zs.length ≤ 1000) (hown : ∀ p ∈ own, NX p.2)
  (h : ∀ g lk lf K F o' s', Keeps h₀ g → o'.data = .cell (some (.ref lk)) → Ls g lk K → IntsAre K (kk (firstsL zs)) → Ls g lf F → IntsAre F (firstsL zs) → St s₀ g L ns (vs.set i (some (.ref lf))) (own.set jc (a, o')) s' → Q .next s')
  (hs : swapsWithSole [.Tuple [.Name c p1, .Name y p2] 0 p3] (.Call (.Name (sO "_law_firsts") p4) [.Name x p5] [] p6) p7.line env = pure false := by rfl)
  (hw : swappedStores [.Tuple [.Name c p1, .Name y p2] 0 p3] (.Call (.Name (sO "_law_firsts") p4) [.Name x p5] [] p6) env = pure none := by rfl) :
  wpAny (model pw w) A (exec (.Assign [.Tuple [.Name c p1, .Name y p2] 0 p3] (.Call (.Name (sO "_law_firsts") p4) [.Name x p5] [] p6) p7) env) Q E s := by
 refine Assign_Tuple (callName e S hg (gl_firsts B) (o := o296 w.params) (fd := fd296) (B.at (by kernel_rfl)) (by kernel_rfl) (it_Name (ld e S hj hv (it_nil ⟨S.keep, use S (law_firsts (B.keeps S.keep) r (hl.keeps S.keep) I hk hz) ?_⟩)))) hs hw
 rintro v s₁ S1 k1 ⟨hb, hlk, hlf, IK, IF⟩
 rename_i b lk lf K F
 have hlk := hlk.stay S1 hown
 have hlf := hlf.stay S1 hown
 refine wpAny_assign_Tuple hh ⟨_, hb, rfl, 0, rfl⟩ rfl rfl fun h' hb' => ?_
 refine An2 S1.rebase fun S kg => ?_
 change Ls (hideL _ _) _ _ at hlk hlf
 generalize hideL _ _ = g at S kg hlk hlf
 have S := S.keeps (s' := { s₁ with heap := h' }) (extBut_size hb') rfl rfl
 refine aac (wan (stc e S hc hjc hd fun s₂ o' d' S => aac (wan (st_ e S hi hlen fun s₃ S => assignInOrder_nil ?_))))
 exact h g lk lf K F o' _ kg d' hlk IK hlf IF S
noncomputable abbrev OR (F : Addr) (oF : Obj) (ps : Array Value) (D : Addr) (oD : Obj) (a1 : Addr) (o1 : Obj) (a2 : Addr) (o2 : Obj) : List (Addr × Obj) := [(F, oF), (220, tabO ps), (D, oD), (a1, o1), (a2, o2)]
theorem NX.tab {ps : Array Value} : NX (tabO ps) := ⟨(fun xs q => by cases q), (fun its n q => by cases q), (fun led q => by cases q), (fun dx xs q => by cases q)⟩
theorem DictO.nx {o : Obj} (h : DictO o) : NX o := let ⟨es, ep, e⟩ := id h; ⟨(fun xs q => by rw [q] at e; cases e), (fun its n q => by rw [q] at e; cases e), (fun led q => by rw [q] at e; cases e), h.nm⟩
theorem or_nx {F : Addr} {oF : Obj} {ps : Array Value} {D : Addr} {oD : Obj} {a1 : Addr} {o1 : Obj} {a2 : Addr} {o2 : Obj} (hF : NX oF) (hD : NX oD) (h1 : NX o1) (h2 : NX o2) : ∀ p ∈ OR F oF ps D oD a1 o1 a2 o2, NX p.2 := fun p hp => by
 rcases lmc.mp hp with rfl | hp
 ·exact hF
 rcases lmc.mp hp with rfl | hp
 ·exact .tab
 rcases lmc.mp hp with rfl | hp
 ·exact hD
 rcases lmc.mp hp with rfl | hp
 ·exact h1
 ·rw [lms.mp hp]; exact h2
structure TL (h : Heap) (l : Addr) (us : List Value) (zs : List Int) : Prop where
 l : Ls h l us
 t : Ths h us zs
theorem TL.keeps {h h' : Heap} {l : Addr} {us : List Value} {zs : List Int} (x : TL h l us zs) (k : Keeps h h') : TL h' l us zs := ⟨x.l.keeps k, x.t.keeps k⟩
structure IL (h : Heap) (l : Addr) (us : List Value) (zs : List Int) : Prop where
 l : Ls h l us
 i : IntsAre us zs
theorem IL.keeps {h h' : Heap} {l : Addr} {us : List Value} {zs : List Int} (x : IL h l us zs) (k : Keeps h h') : IL h' l us zs := ⟨x.l.keeps k, x.i⟩
section
theorem St.settleT {D : Addr} {ks : List Value} {zs : List Int} {c : Nat} (S : St s₀ h₀ L ns vs ((D, listOf ks.toArray c) :: own) s) (T : Ths s.heap ks zs) (nx : ∀ p ∈ own, NX p.2) : ∃ g, Keeps h₀ g ∧ St s₀ g L ns vs own s ∧ TL g D ks zs ∧ h₀.get? D = none := by
 have S' := S.drop (lsc _ _)
 exact ⟨_, S'.rebase.2, S'.rebase.1, ⟨⟨c, S.dropped⟩, ths_own S' T fun p hp => (nx p hp).1⟩, (S.nw _ (.head _)).2.2⟩
theorem asg_dd {x y : Str} {i j i1 i2 : Nat} {l : Addr} {us : List Value} {zs : List Int} {p1 p2 p3 p4 p5 p6 p7 : Pos} {Q : Flow → Shared → Prop} (e : Ev env L ns gs) (hh : A.handled = none) (B : Base w h₀) (r : Room A 2) (h1 : gs[i1]? = some (sO "list")) (h2 : gs[i2]? = some (sO "_deduplicate")) (S : St s₀ h₀ L ns vs own s)
  (hi : ns[i]? = some y) (hlen : i < vs.length) (hj : ns[j]? = some x) (hv : vs[j]? = some (some (.ref l))) (T : TL h₀ l us zs) (hz : zs.length ≤ 1000) (nx : ∀ p ∈ own, NX p.2)
  (done : ∀ g D ks s', Keeps h₀ g → TL g D ks (firstsL zs) → h₀.get? D = none → St s₀ g L ns (vs.set i (some (.ref D))) own s' → Q .next s')
  (hs : swapsWith (.Call (.Name (sO "list") p1) [.Call (.Name (sO "_deduplicate") p2) [.Name x p3] [] p4] [] p5) (some (.Name y p6)) p7.line env = pure false := by rfl) :
  wpAny (model pw w) A (exec (.Assign [.Name y p6] (.Call (.Name (sO "list") p1) [.Call (.Name (sO "_deduplicate") p2) [.Name x p3] [] p4] [] p5) p7) env) Q E s :=
 waa (dd_ e hh B r h1 h2 hz S (fun Q' q => ld e S hj hv (q l us s S (T.l.keeps S.keep) (T.t.keeps S.keep))) fun D ks c s₁ S1 T1 => by
  refine Ex1 (S1.settleT T1 nx) fun g => an4 fun k S X fr => ?_
  exact st_ e S hi hlen fun s₂ S => done g D ks s₂ k X fr S) hs
variable {m lx ly F D a1 a2 : Addr} {oF oD o1 o2 : Obj} {ps : Array Value} {xs ys : List Value} {zx zy : List Int} {Q : Flow → Shared → Prop}
noncomputable abbrev RA (m lx ly th ot mi te la lb : Addr) : List (Option Value) := [some (.ref m), some (.ref lx), some (.ref ly), some (.ref th), some (.ref ot), some (.ref mi), some (.ref te), some (.ref la), some (.ref lb), none, none, none, none, none, none, none, none, none, none, none, none, none, none, none, none, none]
theorem right_a (e : Ev env L N318 G318) (hh : A.handled = none) (r : Room A 3) (B : Base w h₀) (c1 : Cl env (sO "one") .cell a1) (c2 : Cl env (sO "other") .cell a2)
  (S : St s₀ h₀ L N318 ([Value.ref m, .ref lx, .ref ly].map some ++ List.replicate L318.length none) (OR F oF ps D oD a1 o1 a2 o2) s) (hF : NX oF) (hD : NX oD) (d1 : o1.data = .cell none) (d2 : o2.data = .cell none)
  (X : IL h₀ lx xs zx) (Y : IL h₀ ly ys zy) (kx : Ks zx) (ky : Ks zy) (hzx : zx.length ≤ 100) (hzy : zy.length ≤ 100)
  (h : ∀ g th ot mi te la lb lo lt o1 o2 tu ou ua ub uo ut um ue s', Keeps h₀ g → St s₀ g L N318 (RA m lx ly th ot mi te la lb) (OR F oF ps D oD a1 o1 a2 o2) s' → o1.data = .cell (some (.ref lo)) → o2.data = .cell (some (.ref lt)) →
   TL g th tu zx → TL g ot ou zy → TL g la ua (firstsL zx) → TL g lb ub (firstsL zy) → IL g lo uo (kk (firstsL zx)) → IL g lt ut (kk (firstsL zy)) → IL g mi um (firstsL zx) → IL g te ue (firstsL zy) → h₀.get? la = none → h₀.get? lb = none →
   wpAny (model pw w) A (execs ((fnB (st 18)).drop 6) env) Q E s') :
  wpAny (model pw w) A (execs (fnB (st 18)) env) Q E s := by
 conv in (fnB _) => whnf
 have nx := or_nx (F := F) (ps := ps) (D := D) (a1 := a1) (a2 := a2) hF hD (.cell d1) (.cell d2)
 refine wec (things_ e (r.le (by decide)) B S (i := 3) (j := 1) rfl (nlo rfl) rfl rfl X.l X.i kx (by lia) rfl (by decide) nx fun g1 th tu s₁ k1 lth T1 S => ?_)
 refine wec (things_ e (r.le (by decide)) (B.keeps k1) S (i := 4) (j := 2) rfl (nlo rfl) rfl rfl (Y.l.keeps k1) Y.i ky (by lia) rfl (by decide) nx fun g2 ot ou s₂ k2 lot T2 S => ?_)
 have k2' := k2
 have k2 := k1.trans k2
 refine wec (firsts_ e hh (r.le (by decide)) (B.keeps k2) S (k := 0) (jc := 3) rfl c1 rfl d1 (i := 5) (j := 1) rfl (nlo rfl) rfl rfl (X.l.keeps k2) X.i kx (by lia) nx fun g3 lo mi uo um o1 s₃ k3 d1 hlo Io hmi Im S => ?_)
 have S : St s₀ g3 L N318 _ (OR F oF ps D oD a1 o1 a2 o2) s₃ := S
 have nx := or_nx (F := F) (ps := ps) (D := D) (a1 := a1) (a2 := a2) hF hD (.cell d1) (.cell d2)
 have k23 := k2.trans k3
 refine wec (firsts_ e hh (r.le (by decide)) (B.keeps k23) S (k := 0) (jc := 4) rfl c2 rfl d2 (i := 6) (j := 2) rfl (nlo rfl) rfl rfl (Y.l.keeps k23) Y.i ky (by lia) nx fun g4 lt te ut ue o2 s₄ k4 d2 hlt It hte Ie S => ?_)
 have S : St s₀ g4 L N318 _ (OR F oF ps D oD a1 o1 a2 o2) s₄ := S
 have nx := or_nx (F := F) (ps := ps) (D := D) (a1 := a1) (a2 := a2) hF hD (.cell d1) (.cell d2)
 have k14 := k23.trans k4
 have k24 := (k2'.trans k3).trans k4
 have T1 : TL g4 th tu zx := ⟨lth.keeps k24, T1.keeps k24⟩
 have T2 : TL g4 ot ou zy := ⟨lot.keeps (k3.trans k4), T2.keeps (k3.trans k4)⟩
 refine wec (asg_dd e hh (B.keeps k14) (r.le (by decide)) (i1 := 1) (i2 := 2) rfl rfl S (i := 7) (j := 3) rfl (nlo rfl) rfl rfl T1 (by lia) nx fun g5 la ua s₅ k5 TA fa S => ?_)
 refine wec (asg_dd e hh (B.keeps (k14.trans k5)) (r.le (by decide)) (i1 := 1) (i2 := 2) rfl rfl S (i := 8) (j := 4) rfl (nlo rfl) rfl rfl (T2.keeps k5) (by lia) nx fun g6 lb ub s₆ k6 TB fb S => ?_)
 have k56 := k5.trans k6
 exact h g6 th ot mi te la lb lo lt o1 o2 tu ou ua ub uo ut um ue s₆ (k14.trans k56) S d1 d2 (T1.keeps k56) (T2.keeps k56) (TA.keeps k6) TB ⟨hlo.keeps (k4.trans k56), Io⟩ ⟨hlt.keeps k56, It⟩ ⟨hmi.keeps (k4.trans k56), Im⟩ ⟨hte.keeps k56, Ie⟩ (k14.none fa) ((k14.trans k5).none fb)
end
theorem firsts_in : ∀ (zs acc : List Int) (z : Int), z ∈ zs.foldl addF acc → z ∈ acc ∨ z ∈ zs
 | [], acc, z, h => .inl h
 | y :: zs, acc, z, h => by
  rcases firsts_in zs (addF acc y) z h with q | q
  ·unfold addF at q
   split at q
   ·exact .inl q
   ·rcases lmp.mp q with q | q
    ·exact .inl q
    ·exact .inr (lms.mp q ▸ .head _)
  ·exact .inr (.tail _ q)
theorem Ks.firsts {zs : List Int} (k : Ks zs) : Ks (firstsL zs) := fun z hz => k z ((firsts_in zs [] z hz).resolve_left (fun q => nomatch q))
section
theorem same_ {x y : Str} {i j k : Nat} {p1 p2 p3 p4 p5 : Pos} {l l2 : Addr} {us xs : List Value} {zs : List Int} (e : Ev env L ns gs) (B : Base w h₀) (r : Room A 3) (hg : gs[k]? = some (sO "_law_same")) (hi : ns[i]? = some x) (hv : At vs i (.ref l)) (hj : ns[j]? = some y) (hv2 : At vs j (.ref l2)) (T : TL h₀ l us zs) (X : IL h₀ l2 xs zs) (hk : Ks zs) (hz : zs.length ≤ 1000) :
  EB w A E env (St s₀ h₀ L ns vs own) (.UnaryOp .Not (.Call (.Name (sO "_law_same") p1) [.Name x p2, .Name y p3] [] p4) p5) false := fun s Q _ S h => by
 refine wpAny_isTrue_Not (isTrue_plain (callName e S hg (gl_same B) (o := o301 w.params) (fd := fd301) (B.at (by kernel_rfl)) (by kernel_rfl) (it_Name (ld e S hi hv (it_Name (ld e S hj hv2 (it_nil ⟨S.keep, use S (law_same (B.keeps S.keep) r (T.l.keeps S.keep) (T.t.keeps S.keep) (X.l.keeps S.keep) X.i hk hz) ?_⟩)))))))
 rintro v s' S' _ rfl
 exact wtb (h _ S')
theorem B2At.stay {d js : Addr} {us : List Value} {zs : List Int} (S : St s₀ h₀ L ns vs own s) (b : B2At w s.heap d js us zs) (fr : d ≠ L ∧ d ∉ own.map (·.1)) (nx : ∀ p ∈ own, NX p.2) : B2At w (Mine.rest s.heap L own) d js us zs := by
 refine An2 b fun h3 => ex3 fun DB n l1 => an4 fun q1 q2 q3 q4 => ?_
 refine ⟨h3, DB, n, l1, rest_get q1 fr.1 fr.2, ⟨fun x hx => (q2.th x hx).ownd S fun p hp => (nx p hp).1, q2.nd⟩, ⟨q3.len, q3.ks, q3.vls, fun i x q => let ⟨l, t, e, hl⟩ := q3.at_ i x q; ⟨l, t, e, hl.stay S nx⟩⟩, rest_get q4 (fun z => ?_) fun m => ?_⟩
 ·refine Ex3 S.nsp fun o es ep => an3 fun ho hd _ => ?_
  rw [z, ho] at q4
  rw [Option.some.inj q4] at hd; cases hd
 ·refine Ex1 (lmm.mp m) fun p => an2 fun hp z => ?_
  have := (S.nw p hp).1
  rw [z, q4] at this
  exact (nx p hp).2.2.1 _ (Option.some.inj this).symm
variable {m lx ly F D a1 a2 th ot mi te la lb d js : Addr} {oF oD o1 o2 : Obj} {ps : Array Value} {xs ys ua ub um ue : List Value} {zx zy : List Int} {Q : Flow → Shared → Prop} {v1 v2 : Value} {m4 m5 m6 m7 m8 m9 : Option Value}
theorem right_b (e : Ev env L N318 G318) (hh : A.handled = none) (r : Room A 5) (B : Base w h₀) (S : St s₀ h₀ L N318 (RA m lx ly th ot mi te la lb) (OR F oF ps D oD a1 o1 a2 o2) s) (hF : NX oF) (x1 : NX o1) (x2 : NX o2)
  (hm : h₀.get? m = some (instObj 242 D)) (f : FldO oD (Loc MN [some .none, some v1, some v2, some (.bool true), m4, m5, m6, m7, m8, m9])) (hv1 : handedIn v1 = true) (hv2 : handedIn v2 = true) (ni1 : NotIs h₀ (.ref la) v1) (ni2 : NotIs h₀ (.ref lb) v2)
  (TA : TL h₀ la ua (firstsL zx)) (TB : TL h₀ lb ub (firstsL zy)) (IM : IL h₀ mi um (firstsL zx)) (IE : IL h₀ te ue (firstsL zy)) (kx : Ks zx) (ky : Ks zy) (nx : (firstsL zx).length ≤ 9) (ny : (firstsL zy).length ≤ 9)
  (h : ∀ g oD d js m9 s', Keeps h₀ g → St s₀ g L N318 (RA m lx ly th ot mi te la lb) (OR F oF ps D oD a1 o1 a2 o2) s' → FM oD la lb d js (some .none) (some .none) (some .none) m9 → B2At w g d js ub (firstsL zy) →
   wpAny (model pw w) A (execs ((fnB (st 18)).drop 8) env) Q E s') :
  wpAny (model pw w) A (execs ((fnB (st 18)).drop 6) env) Q E s := by
 conv in (List.drop _ _) => whnf
 refine wec (ifE S (EB.orC (same_ e B (r.le (by decide)) (k := 3) rfl (i := 7) (j := 5) rfl rfl rfl rfl TA IM kx.firsts (by lia)) fun _ => EB.or1 (same_ e B (r.le (by decide)) (k := 3) rfl (i := 8) (j := 6) rfl rfl rfl rfl TB IE ky.firsts (by lia))) fun s₁ S => ?_)
 rw [Bool.or_false, if_neg bfn]
 refine wen ?_
 have nD := (S.nw (D, oD) (.tail _ (.tail _ (.head _)))).2.2
 refine wec (we (callM e B S (i := 0) rfl rfl hm (j := 2) rfl f (mt167 _) (it_Name (ld e S (i := 7) rfl rfl (it_Name (ld e S (i := 8) rfl rfl (it_nil ⟨S.keep, useM S (j := 2) rfl (set_seqs (R := fun oD' d s' => ∃ js m9, FM oD' la lb d js (some .none) (some .none) (some .none) m9 ∧ B2At w s'.heap d js ub (firstsL zy)) B S.keep nD (S.get (j := 2) rfl) hm (r.le (by decide)) f hv1 hv2 ni1 ni2 ?_) ?_⟩)))))) e.inter)
 ·intro A' s' oD' r' k' hD' f'
  refine codeAny_mono (chain_b B k' nD hD' hm r' f' TB.l TB.t (firsts_nodup zy) ny) fun r s'' hr => ?_
  refine Ex2 hr fun v oD2 => an7 fun e1 k2 h2 g2 o2 e2 => ex3 fun d js ps => an3 fun f2 fr b => ?_
  exact ⟨v, oD2, e1, k2, h2, g2, o2, e2, d, fr, js, _, f2, b⟩
 ·refine fun v oD' s₂ S2 ext => an2 fun zz1 => ex1 fun d => an2 fun fr => ex2 fun js m9 => an2 fun f' b => ?_
  subst zz1
  have S2 : St s₀ h₀ L N318 _ (OR F oF ps D oD' a1 o1 a2 o2) s₂ := S2
  have b := b.stay S2 (S.fresh2 fr) (or_nx hF f'.dict.nx x1 x2)
  refine An2 S2.rebase fun S kg => ?_
  exact h _ oD' d js m9 s₂ kg S f' b
end
noncomputable abbrev cD (c : Code) : PyData := .tuple (c5 c)
theorem sc_reads {h : Heap} {xs : List Value} {ds : List PyData} (X : All2 Sc xs ds) : ∃ as, ReadsAll h xs ds as := by
 induction X with
 | nil => exact ⟨_, .nil⟩
 | cons x _ ih =>
  refine Ex1 ih fun as r => ?_
  cases x with
  | i n t => exact ⟨_, .cons (.int _ _) r⟩
  | s x t => exact ⟨_, .cons (.str _ _) r⟩
theorem code_reads {h : Heap} {v : Value} {c : Code} (x : TupD h v (c5 c)) : ∃ as, Reads h v (cD c) as := by
 refine Ex2 x fun a xs => an3 fun zz1 q X => ?_
 subst zz1
 refine Ex1 (sc_reads (h := h) X) fun as r => ?_
 exact ⟨as, .tuple q rfl rfl (by rw [List.toList_toArray]; exact r)⟩
theorem code_lay (c : Code) : (cD c).canLay0 = true := by
 obtain ⟨t, i, p, j, q⟩ := c
 have : PyData.canLay0 (.str (tagS t)) = true := by cases t <;> decide +kernel
 show (PyData.canLay0 (.str (tagS t)) && true) = true
 rw [this]; rfl
theorem code_eqv (c : Code) : (cD c).eqv (cD c) = true := by
 show PyData.eqvAll (c5 c) (c5 c) = true
 simp [c5, PyData.eqvAll, PyData.eqv]
theorem codes_eqv : ∀ cs : List Code, PyData.eqvAll (cs.map cD) (cs.map cD) = true
 | [] => rfl
 | c :: cs => by rw [lmn, PyData.eqvAll, code_eqv, codes_eqv cs]; rfl
section
variable {m lx ly F D a1 a2 th ot mi te la lb d js lo lt : Addr} {oF oD o1 o2 : Obj} {ps : Array Value} {xs ys ua ub uo ut : List Value} {za zb : List Int} {Q : Flow → Shared → Prop} {m6 m9 : Option Value} {Sr : List T3}
noncomputable abbrev RC (m lx ly th ot mi te la lb co : Addr) : List (Option Value) := [some (.ref m), some (.ref lx), some (.ref ly), some (.ref th), some (.ref ot), some (.ref mi), some (.ref te), some (.ref la), some (.ref lb), some (.ref co), none, none, none, none, none, none, none, none, none, none, none, none, none, none, none, none]
theorem gl_codes {h : Heap} (B : Base w h) : Gl h (sO "_law_codes") (.ref 313) := B.glob (by kernel_rfl)
theorem right_c (e : Ev env L N318 G318) (hh : A.handled = none) (r : Room A 6) (B : Base w h₀) (c1 : Cl env (sO "one") .cell a1) (c2 : Cl env (sO "other") .cell a2) (S : St s₀ h₀ L N318 (RA m lx ly th ot mi te la lb) (OR F oF ps D oD a1 o1 a2 o2) s) (hF : NX oF)
  (d1 : o1.data = .cell (some (.ref lo))) (d2 : o2.data = .cell (some (.ref lt))) (C : MC w h₀ m D la lb d js ua ub za zb) (f : FM oD la lb d js (some .none) (some .none) m6 m9) (hs : Sorted (kk za) (kk zb) Sr) (X : IL h₀ lo uo (kk za)) (Y : IL h₀ lt ut (kk zb))
  (h : ∀ g oD co lr us os K s', Keeps h₀ g → St s₀ g L N318 (RC m lx ly th ot mi te la lb co) (OR F oF ps D oD a1 o1 a2 o2) s' → FM oD la lb d js (some (.ref lr)) (some (.ref co)) m6 m9 → Ls g co os → Cds g os (codesC 0 0 (K ++ [((kk za).length, (kk zb).length, 0)])) → Ls g lr us → Mts g us (K ++ [((kk za).length, (kk zb).length, 0)]) →
   KeptOk (kk za) (kk zb) K → K.Perm (Gr [] Sr) → wpAny (model pw w) A (execs ((fnB (st 18)).drop 10) env) Q E s') :
  wpAny (model pw w) A (execs ((fnB (st 18)).drop 8) env) Q E s := by
 conv in (List.drop _ _) => whnf
 have nD := (S.nw (D, oD) (.tail _ (.tail _ (.head _)))).2.2
 have hza := C.hza
 have hzb := C.hzb
 refine wec (waa (callM0 e B S (i := 0) rfl rfl C.hx (j := 2) rfl f (mt210 _) (useM S (j := 2) rfl (opc_ B S.keep nD (S.get (j := 2) rfl) C r f hs) ?_)))
 refine fun v oD' s₁ S1 ext => ex5 fun co os lr us K => an8 fun zz1 f' fr hco Z hlr M => an2 fun ok hp => ?_
 subst zz1
 have S1 : St s₀ h₀ L N318 _ (OR F oF ps D oD' a1 o1 a2 o2) s₁ := S1
 have nx := or_nx (F := F) (ps := ps) (D := D) (a1 := a1) (a2 := a2) hF f'.dict.nx (.cell d1) (.cell d2)
 have hco := hco.stay S1 nx
 have hlr := hlr.stay S1 nx
 have Z := Z.imp fun _ _ (z : TupD _ _ _) => z.stay S1 fun p hp => (nx p hp).1
 have M := M.imp fun _ _ (z : MtI _ _ _) => z.stay S1 fun p hp => (nx p hp).2.2.2
 refine An2 S1.rebase fun S kg => ?_
 change Ls (hideL _ _) _ _ at hco hlr
 change All2 (fun v c => TupD (hideL _ _) v (c5 c)) _ _ at Z
 change All2 (fun v t => MtI (hideL _ _) v (z3 t)) _ _ at M
 generalize hideL _ _ = g at S kg hco hlr Z M
 refine st_ e S (i := 9) rfl (nlo rfl) fun s₂ S => ?_
 rw [← llm (f := kd) (as := za), ← llm (f := kd) (as := zb)] at Z M
 have B := B.keeps kg
 refine wec (wpAny_If (wic (ld e S (i := 9) rfl rfl (callName e S (i := 4) rfl (gl_codes B) (o := o313 w.params) (fd := fd313) (B.at (by kernel_rfl)) (by kernel_rfl) (it_Name (ldc e c1 (S.get (j := 3) rfl) d1 (it_Name (ldc e c2 (S.get (j := 4) rfl) d2 (it_nil ⟨S.keep, use S (codes_ (B.keeps S.keep) (r.le (by decide)) (X.l.keeps (kg.trans S.keep)) X.i (Y.l.keeps (kg.trans S.keep)) Y.i C.nda C.ndb (by rw [llm]; exact hza) (by rw [llm]; exact hzb) hs) ?_⟩))))))) rfl))
 refine fun v s₃ S3 k3 => ex3 fun l2 os2 K2 => an5 fun zz1 hl2 Z2 hp2 ho2 => ?_
 subst zz1
 have eK := kept_unique hp2 hp ho2 ok.ord
 subst eK
 rw [codes_same (chn_zero C.nda C.ndb ok)] at Z2
 refine Ex1 (reads_list (dat := cD) (fun v c x => code_reads x) (hco.keeps S3.keep) (Z.imp fun _ _ z => z.keeps S3.keep)) fun as r1 => ?_
 refine Ex1 (reads_list (dat := cD) (fun v c x => code_reads x) hl2 Z2) fun bs r2 => ?_
 have dp : ∀ cs : List Code, (PyData.list (cs.map cD)).depth ≤ 2 := fun cs => Nat.succ_le_succ (deep_map fun c _ => by show (PyData.depthAll (c5 c)) + 1 ≤ 1; simp [PyData.depthAll, PyData.depth])
 refine compareNe_reads r1 r2 (lay_map fun c _ => code_lay c) (lay_map fun c _ => code_lay c) ?_ (wtb ?_)
 ·have := dp (codesC 0 0 (K2 ++ [((kk za).length, (kk zb).length, 0)]))
  have := r.units
  lia
 ·rw [show PyData.eqv (.list _) (.list _) = true from codes_eqv _, Bool.not_true, if_neg bfn]
  exact wen (h g oD' co lr us os K2 s₃ kg S3 f' hco Z hlr M ok hp)
end
theorem slice_pick (us : List Value) (i p : Nat) : slicePick us.toArray (some (i : Int)) (some (p : Int)) none = (sl us i p).toArray := by
 rw [slicePick_plain]
 show ((us.drop (clipAt us.toArray.size i)).take (clipAt us.toArray.size p - clipAt us.toArray.size i)).toArray = _
 rw [clipAt_nat, clipAt_nat, lst]
 refine congrArg _ (List.ext_getElem? fun j => ?_)
 unfold sl
 rw [lgd, List.getElem?_take, List.getElem?_take, lgd]
 by_cases h : i ≤ us.length
 ·rw [Nat.min_eq_left h]
  by_cases h2 : j < min p us.length - i
  ·rw [if_pos h2, if_pos (by omega)]
  ·rw [if_neg h2]
   by_cases h3 : i + j < p
   ·rw [if_pos h3, lgn (by omega)]
   ·rw [if_neg h3]
 ·rw [if_neg (by omega), lgn (l := us) (by lia)]
  split <;> rfl
theorem sl_len {α : Type} (l : List α) (i p : Nat) : (sl l i p).length ≤ l.length := by unfold sl; rw [List.length_drop, llt]; omega
theorem All2.sl {α β : Type} {R : α → β → Prop} {as : List α} {bs : List β} (h : All2 R as bs) (i p : Nat) : All2 R (Mine.sl as i p) (Mine.sl bs i p) := (h.take p).drop i
theorem slice_ {y i p : Str} {iy k1 k2 ni np : Nat} {l : Addr} {us : List Value} {p1 p2 p3 p4 p5 : Pos} {Q : Value → Shared → Prop} (e : Ev env L ns gs) (S : St s₀ h₀ L ns vs own s) (hy : ns[iy]? = some y) (hv : At vs iy (.ref l)) (hl : Ls h₀ l us) (hz : us.length ≤ 1000)
  (hi : ns[k1]? = some i) (ai : AtI vs k1 ni) (hp : ns[k2]? = some p) (ap : AtI vs k2 np) (h : ∀ D s', St s₀ h₀ L ns vs ((D, listOf (sl us ni np).toArray 0) :: own) s' → Q (.ref D) s') :
  wpAny (model pw w) A (eval (.Subscript (.Name y p1) (.Slice (some (.Name i p2)) (some (.Name p p3)) none p4) p5) env) Q E s := by
 refine Ex1 ai fun t1 ai => ?_
 refine Ex1 ap fun t2 ap => ?_
 refine wpAny_Subscript_list_slice (ld e S hy hv ?_) (fun _ _ => rfl)
 rw [evalPart_some, evalPart_some]
 refine ld e S hi ai (ld e S hp ap ⟨l, us.toArray, some ni, some np, rfl, (hl.keeps S.keep).isList, by rw [lst, see]; exact nlt hz (nal 1000 16776216), .int _ _, .int _ _, ?_⟩)
 have S1 := S.keeps (s' := { s with heap := s.heap.push { cls := .type "slice", data := .fields #[.int ni t1, .int np t2, .none] } }) (Keeps.push _ _) rfl rfl
 have S2 := S1.push (s' := { s with heap := (s.heap.push { cls := .type "slice", data := .fields #[.int ni t1, .int np t2, .none] }).push (listOf (sl us ni np).toArray 0) }) (listOf (sl us ni np).toArray 0) rfl rfl rfl rfl
 rw [slice_pick]
 rw [show (s.heap.push { cls := .type "slice", data := .fields #[.int ni t1, .int np t2, .none] }).objs.size = s.heap.objs.size + 1 from Heap.size_push ..] at S2
 exact h _ _ S2
theorem addS_ {x y i p : Str} {ix iy k1 k2 ni np : Nat} {lx ly : Addr} {ux uy : List Value} {zx zy : List Int} {wr : List Addr} {p1 p2 p3 p4 p5 p6 p7 p8 p9 : Pos} {Q : Flow → Shared → Prop} (hw : ∀ b ∈ wr, ∃ o, h₀.get? b = some o) (e : Ev env L ns gs) (S : St s₀ h₀ L ns vs own s)
  (hx : ns[ix]? = some x) (hvx : At vs ix (.ref lx)) (TX : TL (hideL h₀ wr) lx ux zx) (hy : ns[iy]? = some y) (hv : At vs iy (.ref ly)) (TY : TL (hideL h₀ wr) ly uy zy) (hzx : zx.length ≤ 900) (hzy : zy.length ≤ 9)
  (hi : ns[k1]? = some i) (ai : AtI vs k1 ni) (hp : ns[k2]? = some p) (ap : AtI vs k2 np)
  (done : ∀ g D us s', Keeps h₀ g → TL (hideL g wr) D us (zx ++ sl zy ni np) → St s₀ g L ns (vs.set ix (some (.ref D))) own s' → Q .next s') :
  wpAny (model pw w) A (exec (.Assign [.Name x p1] (.BinOp (.Name x p2) .Add (.Subscript (.Name y p3) (.Slice (some (.Name i p4)) (some (.Name p p5)) none p6) p7) p8) p9) env) Q E s := by
 have l1 := TX.t.len
 have l2 := TY.t.len
 have l3 := sl_len uy ni np
 refine waa (wbb (ld e S hx hvx (slice_ e S hy hv (TY.l.keeps (hideL_sub _ _)) (by lia) hi ai hp ap fun D s₁ S => ?_)))
 refine addL_ S (TX.l.keeps ((hideL_sub _ _).trans S.keep)) (S.ls (j := 0) rfl) (by rw [see]; lia) fun c s₂ S => ?_
 have S := S.drop (own' := (c, listOf (ux ++ sl uy ni np).toArray 0) :: own) (.cons_cons _ (lsc _ _))
 refine Ex1 S.settle fun g => an5 fun k S hc fr _ => ?_
 refine st_ e S hx (lt_of_get hvx) fun s₃ S => done g c _ s₃ k ⟨⟨0, hideL_get hc fun m => ?_⟩, Ths.keeps (TX.t.app (TY.t.sl ni np)) (hide_mono wr k)⟩ S
 refine Ex1 (hw c m) fun o q => ?_
 rw [fr] at q; cases q
structure RF (vs : List (Option Value)) (m lx ly th ot mi te la lb co : Addr) : Prop where
 a0 : At vs 0 (.ref m)
 a1 : At vs 1 (.ref lx)
 a2 : At vs 2 (.ref ly)
 a3 : At vs 3 (.ref th)
 a4 : At vs 4 (.ref ot)
 a7 : At vs 7 (.ref la)
 a8 : At vs 8 (.ref lb)
 a9 : At vs 9 (.ref co)
 len : vs.length = 26
theorem RF.set {m lx ly th ot mi te la lb co : Addr} (f : RF vs m lx ly th ot mi te la lb co) {k : Nat} {u : Option Value} (h : 10 ≤ k) : RF (vs.set k u) m lx ly th ot mi te la lb co := by
 have n : ∀ i, i < 10 → (k == i) = false := fun i hi => beq_eq_false_iff_ne.mpr (by exact Nat.ne_of_gt (nll hi h))
 exact ⟨f.a0.ne (n 0 (by decide)), f.a1.ne (n 1 (by decide)), f.a2.ne (n 2 (by decide)), f.a3.ne (n 3 (by decide)), f.a4.ne (n 4 (by decide)), f.a7.ne (n 7 (by decide)), f.a8.ne (n 8 (by decide)), f.a9.ne (n 9 (by decide)), by rw [lls, f.len]⟩
theorem tag_eql (t : Tag) : PyData.eqv (.str (tagS t)) (.str (sO "equal")) = decide (t = .eql) := by cases t <;> decide +kernel
theorem tag_lay (t : Tag) : PyData.canLay0 (.str (tagS t)) = true := by cases t <;> decide +kernel
structure LL (h : Heap) (vs : List (Option Value)) (st : Lay Int) : Prop where
 x : ∃ l us, At vs 10 (.ref l) ∧ TL h l us st.1
 g : ∃ l us, At vs 11 (.ref l) ∧ TL h l us st.2.1
 c : ∃ l us, At vs 12 (.ref l) ∧ TL h l us st.2.2
theorem LL.keeps {h h' : Heap} {vs : List (Option Value)} {st : Lay Int} (x : LL h vs st) (k : Keeps h h') : LL h' vs st :=
 ⟨let ⟨l, us, a, t⟩ := x.x; ⟨l, us, a, t.keeps k⟩, let ⟨l, us, a, t⟩ := x.g; ⟨l, us, a, t.keeps k⟩, let ⟨l, us, a, t⟩ := x.c; ⟨l, us, a, t.keeps k⟩⟩
section
variable {m lx ly th ot mi te la lb co : Addr} {ua ub : List Value} {za zb : List Int} {wr : List Addr} {stt : Lay Int} {c : Code} {n : Nat} {Q : Flow → Shared → Prop}
structure CN (vs : List (Option Value)) (c : Code) : Prop where
 a13 : ∃ t, At vs 13 (.str (tagS c.1) t)
 a14 : AtI vs 14 c.2.1
 a15 : AtI vs 15 c.2.2.1
 a16 : AtI vs 16 c.2.2.2.1
 a17 : AtI vs 17 c.2.2.2.2
theorem CN.set (f : CN vs c) {k : Nat} {u : Option Value} (h : k ≤ 12) : CN (vs.set k u) c := by
 have n : ∀ i, 13 ≤ i → (k == i) = false := fun i hi => beq_eq_false_iff_ne.mpr (by exact Nat.ne_of_lt (nol h hi))
 exact ⟨let ⟨t, a⟩ := f.a13; ⟨t, a.ne (n 13 (by decide))⟩, f.a14.ne (n 14 (by decide)), f.a15.ne (n 15 (by decide)), f.a16.ne (n 16 (by decide)), f.a17.ne (n 17 (by decide))⟩
theorem lay_turn (hw : ∀ b ∈ wr, ∃ o, h₀.get? b = some o) (e : Ev env L N318 gs) (hu : A.units + 5 < cLine) (S : St s₀ h₀ L N318 vs own s) (F : RF vs m lx ly th ot mi te la lb co) (G : CN vs c) (TA : TL (hideL h₀ wr) la ua za) (TB : TL (hideL h₀ wr) lb ub zb) (hza : za.length ≤ 9) (hzb : zb.length ≤ 9)
  (X : LL (hideL h₀ wr) vs stt) (b1 : stt.1.length ≤ n) (b2 : stt.2.1.length ≤ n) (b3 : stt.2.2.length ≤ n) (hn : n ≤ 800)
  (h : ∀ g vs' s', Keeps h₀ g → St s₀ g L N318 vs' own s' → RF vs' m lx ly th ot mi te la lb co → LL (hideL g wr) vs' (layStep za zb stt c) → Q .next s') :
  wpAny (model pw w) A (execs (forB (stAt (fnB (st 18)) 11)) env) Q E s := by
 conv in (forB _) => whnf
 refine Ex2 X.x fun l1 u1 => an2 fun e1 T1 => ?_
 have sa := sl_len za c.2.1 c.2.2.1
 refine wec (addS_ hw e S (ix := 10) (iy := 7) (k1 := 14) (k2 := 15) rfl e1 T1 rfl F.a7 TA (by lia) hza rfl G.a14 rfl G.a15 fun g D us s₁ k TD S => ?_)
 have hw : ∀ b ∈ wr, ∃ o, g.get? b = some o := fun b hb => let ⟨o, q⟩ := hw b hb; ⟨o, k _ _ q⟩
 have F := F.set (k := 10) (u := some (.ref D)) (by decide)
 have G := G.set (k := 10) (u := some (.ref D)) (by decide)
 have X := X.keeps (hide_mono wr k)
 have TA := TA.keeps (hide_mono wr k)
 have TB := TB.keeps (hide_mono wr k)
 have e10 : At (vs.set 10 (some (.ref D))) 10 (.ref D) := At.eq (lt_of_get e1)
 refine Ex2 X.g fun l2 u2 => an2 fun e2 T2 => ?_
 refine Ex2 X.c fun l3 u3 => an2 fun e3 T3 => ?_
 have e2 : At (vs.set 10 (some (.ref D))) 11 (.ref l2) := e2.ne
 have e3 : At (vs.set 10 (some (.ref D))) 12 (.ref l3) := e3.ne
 clear X e1 T1
 generalize vs.set 10 (some (.ref D)) = vs at S F G e10 e2 e3
 refine Ex1 G.a13 fun t13 a13 => ?_
 refine wec (wpAny_If (wic (ld e S (i := 13) rfl a13 (wcs ?_)) rfl))
 have S := S.same (s' := { s₁ with toks := s₁.toks + 1 }) rfl rfl rfl
 refine compareNe_reads (.str _ _) (.str _ _) (tag_lay _) (by decide +kernel) (by show A.units + 0 < cLine; lia) (wtb ?_)
 rw [tag_eql]
 obtain ⟨tg, i, p, j, q⟩ := c
 by_cases ht : tg = .eql
 ·subst ht
  rw [decide_eq_true rfl, Bool.not_true, if_neg bfn]
  exact wen (wen (h g vs _ k S F ⟨⟨D, us, e10, TD⟩, ⟨l2, u2, e2, T2⟩, ⟨l3, u3, e3, T3⟩⟩))
 ·rw [decide_eq_false ht, Bool.not_false, if_pos rfl]
  have step : layStep za zb stt (tg, i, p, j, q) = (stt.1 ++ sl za i p ++ sl zb j q, stt.2.1 ++ sl za i p, stt.2.2 ++ sl zb j q) := by
   cases tg <;> first | rfl | exact absurd rfl ht
  rw [step] at h
  refine wec (addS_ hw e S (ix := 10) (iy := 8) (k1 := 16) (k2 := 17) rfl e10 TD rfl F.a8 TB (by rw [lla]; lia) hzb rfl G.a16 rfl G.a17 fun g2 D2 us2 s₂ k2 TD2 S => ?_)
  have hw : ∀ b ∈ wr, ∃ o, g2.get? b = some o := fun b hb => let ⟨o, q⟩ := hw b hb; ⟨o, k2 _ _ q⟩
  have F := F.set (k := 10) (u := some (.ref D2)) (by decide)
  have G := G.set (k := 10) (u := some (.ref D2)) (by decide)
  refine wec (addS_ hw e S (ix := 11) (iy := 7) (k1 := 14) (k2 := 15) rfl e2.ne (T2.keeps (hide_mono wr k2)) rfl F.a7 (TA.keeps (hide_mono wr k2)) (by lia) hza rfl G.a14 rfl G.a15 fun g3 D3 us3 s₃ k3 TD3 S => ?_)
  have hw : ∀ b ∈ wr, ∃ o, g3.get? b = some o := fun b hb => let ⟨o, q⟩ := hw b hb; ⟨o, k3 _ _ q⟩
  have F := F.set (k := 11) (u := some (.ref D3)) (by decide)
  have G := G.set (k := 11) (u := some (.ref D3)) (by decide)
  have k23 := hide_mono wr (k2.trans k3)
  refine wec (addS_ hw e S (ix := 12) (iy := 8) (k1 := 16) (k2 := 17) rfl (e3.ne).ne (T3.keeps k23) rfl F.a8 (TB.keeps k23) (by lia) hzb rfl G.a16 rfl G.a17 fun g4 D4 us4 s₄ k4 TD4 S => ?_)
  refine wen (wen (h g4 _ _ (k.trans (k2.trans (k3.trans k4))) S (F.set (by decide)) ⟨⟨D2, us2, ((At.eq (lt_of_get e10)).ne).ne, TD2.keeps (hide_mono wr (k3.trans k4))⟩, ⟨D3, us3, (At.eq (lt_of_get e2.ne)).ne, TD3.keeps (hide_mono wr k4)⟩, ⟨D4, us4, At.eq (lt_of_get ((e3.ne).ne)), TD4⟩⟩))
end
theorem lay_len (za zb : List Int) (st : Lay Int) (c : Code) {n : Nat} (ha : za.length ≤ 9) (hb : zb.length ≤ 9) (h1 : st.1.length ≤ n) (h2 : st.2.1.length ≤ n) (h3 : st.2.2.length ≤ n) :
  (layStep za zb st c).1.length ≤ n + 18 ∧ (layStep za zb st c).2.1.length ≤ n + 18 ∧ (layStep za zb st c).2.2.length ≤ n + 18 := by
 have a := nlt (sl_len za c.2.1 c.2.2.1) ha
 have b := nlt (sl_len zb c.2.2.2.1 c.2.2.2.2) hb
 have g0 : ∀ {x : Nat}, x ≤ n → x ≤ n + 18 := fun h => Nat.le_add_right_of_le h
 have g1 : ∀ {x y : List Int}, x.length ≤ n → y.length ≤ 9 → (x ++ y).length ≤ n + 9 := fun h1 h2 => by rw [lla]; exact Nat.add_le_add h1 h2
 have g2 : ∀ {x : Nat}, x ≤ n + 9 → x ≤ n + 18 := fun h => nlt h (Nat.add_le_add_left (by decide) n)
 have g3 : ∀ {x y z : List Int}, x.length ≤ n → y.length ≤ 9 → z.length ≤ 9 → (x ++ y ++ z).length ≤ n + 18 := fun h1 h2 h3 => by rw [lla]; exact Nat.add_le_add (b := n + 9) (d := 9) (g1 h1 h2) h3
 obtain ⟨t, i, p, j, q⟩ := c
 cases t with
 | eql => exact ⟨g2 (g1 h1 a), g0 h2, g0 h3⟩
 | _ => exact ⟨g3 h1 a b, g2 (g1 h2 a), g2 (g1 h3 b)⟩
section
variable {m lx ly th ot mi te la lb co : Addr} {ua ub os : List Value} {za zb : List Int} {cs : List Code} {Q : Flow → Shared → Prop}
noncomputable abbrev layAll (za zb : List Int) (cs : List Code) : Lay Int := cs.foldl (layStep za zb) ([], [], [])
theorem RF.same {vs' : List (Option Value)} {n : Nat} (f : RF vs m lx ly th ot mi te la lb co) (h : ∀ i, i < 13 ∨ n ≤ i → vs'[i]? = vs[i]?) (hl : vs'.length = vs.length) : RF vs' m lx ly th ot mi te la lb co :=
 have k : ∀ i, i < 13 → ∀ {v : Value}, At vs i v → At vs' i v := fun i hi v a => (h i (.inl hi)).trans a
 ⟨k 0 (by decide) f.a0, k 1 (by decide) f.a1, k 2 (by decide) f.a2, k 3 (by decide) f.a3, k 4 (by decide) f.a4, k 7 (by decide) f.a7, k 8 (by decide) f.a8, k 9 (by decide) f.a9, hl.trans f.len⟩
theorem LL.same {vs' : List (Option Value)} {n : Nat} {h : Heap} {stt : Lay Int} (f : LL h vs stt) (e : ∀ i, i < 13 ∨ n ≤ i → vs'[i]? = vs[i]?) : LL h vs' stt :=
 have k : ∀ i, i < 13 → ∀ {v : Value}, At vs i v → At vs' i v := fun i hi v a => (e i (.inl hi)).trans a
 ⟨let ⟨l, us, a, t⟩ := f.x; ⟨l, us, k 10 (by decide) a, t⟩, let ⟨l, us, a, t⟩ := f.g; ⟨l, us, k 11 (by decide) a, t⟩, let ⟨l, us, a, t⟩ := f.c; ⟨l, us, k 12 (by decide) a, t⟩⟩
structure LayI (m lx ly th ot mi te la lb co : Addr) (ua ub : List Value) (za zb : List Int) (cs : List Code) (n : Nat) (vs : List (Option Value)) (h : Heap) : Prop where
 F : RF vs m lx ly th ot mi te la lb co
 X : LL h vs (layAll za zb cs)
 TA : TL h la ua za
 TB : TL h lb ub zb
 b1 : (layAll za zb cs).1.length ≤ n
 b2 : (layAll za zb cs).2.1.length ≤ n
 b3 : (layAll za zb cs).2.2.length ≤ n
theorem LayI.keeps {n : Nat} {h h' : Heap} (I : LayI m lx ly th ot mi te la lb co ua ub za zb cs n vs h) (k : Keeps h h') : LayI m lx ly th ot mi te la lb co ua ub za zb cs n vs h' :=
 ⟨I.F, I.X.keeps k, I.TA.keeps k, I.TB.keeps k, I.b1, I.b2, I.b3⟩
theorem LayI.step {j : Nat} {c : Code} {h : Heap} (I : LayI m lx ly th ot mi te la lb co ua ub za zb (cs.take j) (18 * j) vs h) (hza : za.length ≤ 9) (hzb : zb.length ≤ 9) (hc : cs[j]? = some c) (hj : j < cs.length) (hz : cs.length ≤ 40) :
  18 * j ≤ 800 ∧ layStep za zb (layAll za zb (cs.take j)) c = layAll za zb (cs.take (j + 1)) ∧ (layAll za zb (cs.take (j + 1))).1.length ≤ 18 * (j + 1) ∧ (layAll za zb (cs.take (j + 1))).2.1.length ≤ 18 * (j + 1) ∧ (layAll za zb (cs.take (j + 1))).2.2.length ≤ 18 * (j + 1) := by
 have es : layAll za zb (cs.take (j + 1)) = layStep za zb (layAll za zb (cs.take j)) c := by
  rw [take_snoc hc]; exact List.foldl_append
 rw [es]
 exact ⟨by lia, rfl, lay_len za zb _ c hza hzb I.b1 I.b2 I.b3⟩
theorem lay_for {k : Nat} {p1 p2 p3 p4 p5 p6 : Pos} (e : Ev env L N318 gs) (hh : A.handled = none) (hu : A.units + 5 < cLine) (S : St s₀ h₀ L N318 vs own s) (F : RF vs m lx ly th ot mi te la lb co) (X : LL (Mine.rest s.heap L own) vs ([], [], [])) (TA : TL (Mine.rest s.heap L own) la ua za) (TB : TL (Mine.rest s.heap L own) lb ub zb) (hza : za.length ≤ 9) (hzb : zb.length ≤ 9)
  (hl : Ls h₀ co os) (Z : Cds h₀ os cs) (hz : cs.length ≤ 40)
  (h : ∀ g vs' s', Keeps h₀ g → St s₀ g L N318 vs' own s' → RF vs' m lx ly th ot mi te la lb co → LL g vs' (layAll za zb cs) → Q .next s') :
  wpAny (model pw w) A (pyIter (.ref co)) (fun it s₂ => codeAny (model pw w) A (.forLoop (.Tuple [.Name (sO "tag") p1, .Name (sO "i") p2, .Name (sO "p") p3, .Name (sO "j") p4, .Name (sO "q") p5] k p6) it (forB (stAt (fnB (st 18)) 11)) [] env) (fun r s' => match r with | .ok f => Q f s' | .error e => cameBackBy (model pw w) A env E e s') s₂) E s := by
 refine loop_listQ hh S hl (.inr ⟨_, _, _, rfl⟩) (fun j vs own' h => own = own' ∧ LayI m lx ly th ot mi te la lb co ua ub za zb (cs.take j) (18 * j) vs h) (fun j vs own' h h' I kk => ⟨I.1, I.2.keeps kk⟩) ⟨rfl, F, X, TA, TB, nzl _, nzl _, nzl _⟩ (fun R wr g j vs own' s v kg hw hv I S k => ?_) fun g vs own' s kg I S => ?_
 ·obtain ⟨rfl, I⟩ := I
  obtain ⟨c, hc, T⟩ := Z.get hv
  refine asgT_ hh e S (T.keeps (kg.trans S.keep)) (nm := [(_, p1), (_, p2), (_, p3), (_, p4), (_, p5)]) (k := 13) rfl rfl (I.F.len ▸ nlo rfl) fun vs s ln eq D S => ?_
  have hb := I.step hza hzb hc (lt_of_get hc) hz
  exact lay_turn hw e hu S (I.F.same eq ln) ⟨D.str (j := 0) rfl, D.int (j := 1) rfl, D.int (j := 2) rfl, D.int (j := 3) rfl, D.int (j := 4) rfl⟩ I.TA I.TB hza hzb (I.X.same eq) I.b1 I.b2 I.b3 hb.1 fun g2 vs' s' k2 S F X => k vs' own s' (S.unbase k2) ⟨rfl, F, hb.2.1 ▸ X.keeps S.past, I.TA.keeps ((hide_mono wr k2).trans S.past), I.TB.keeps ((hide_mono wr k2).trans S.past), hb.2.2.1, hb.2.2.2.1, hb.2.2.2.2⟩
 ·obtain ⟨rfl, I⟩ := I
  have X := I.X
  rw [Z.len, ltl] at X
  exact h g vs s kg S I.F X
end
section
variable {m lx ly th ot mi te la lb co : Addr} {ua ub os : List Value} {za zb : List Int} {cs : List Code} {Q : Flow → Shared → Prop}
theorem right_d (e : Ev env L N318 G318) (hh : A.handled = none) (hu : A.units + 5 < cLine) (S : St s₀ h₀ L N318 (RC m lx ly th ot mi te la lb co) own s) (TA : TL h₀ la ua za) (TB : TL h₀ lb ub zb) (hza : za.length ≤ 9) (hzb : zb.length ≤ 9)
  (hl : Ls h₀ co os) (Z : Cds h₀ os cs) (hz : cs.length ≤ 40)
  (h : ∀ g vs' s', Keeps h₀ g → St s₀ g L N318 vs' own s' → RF vs' m lx ly th ot mi te la lb co → LL g vs' (layAll za zb cs) → wpAny (model pw w) A (execs ((fnB (st 18)).drop 12) env) Q ff s') :
  wpAny (model pw w) A (execs ((fnB (st 18)).drop 10) env) Q ff s := by
 conv in (List.drop _ _) => whnf
 refine wec (asg3 (s₀ := s₀) e hh (i := 10) (j := 11) (m := 12) rfl rfl rfl (by decide) (by decide) (by decide) rfl rfl rfl rfl rfl (List_ (it_nil (newList_ S (fun l1 s₁ S => List_ (it_nil (newList_ S (fun l2 s₂ S => List_ (it_nil (newList_ S (fun l3 s₃ S =>
  ⟨_, _, _, S, nlo rfl, nlo rfl, nlo rfl, fun s₄ S => ?_⟩) (nzl _)))) (nzl _)))) (nzl _)))))
 refine Ex1 S.settle fun g3 => an5 fun k3 S h3 _ _ => ?_
 refine Ex1 S.settle fun g2 => an5 fun k2 S h2 _ _ => ?_
 refine Ex1 S.settle fun g1 => an5 fun k1 S h1 _ _ => ?_
 have kk := k3.trans (k2.trans k1)
 have F : RF ((((RC m lx ly th ot mi te la lb co).set 12 (some (.ref l3))).set 11 (some (.ref l2))).set 10 (some (.ref l1))) m lx ly th ot mi te la lb co := ⟨rfl, rfl, rfl, rfl, rfl, rfl, rfl, rfl, rfl⟩
 refine wec (wpAny_For (ld e S (i := 9) rfl F.a9 (lay_for e hh hu S F ⟨⟨l1, [], rfl, ⟨⟨0, S.old _ _ h1⟩, .nil⟩⟩, ⟨l2, [], rfl, ⟨⟨0, S.old _ _ (k1 _ _ h2)⟩, .nil⟩⟩, ⟨l3, [], rfl, ⟨⟨0, S.old _ _ (k1 _ _ (k2 _ _ h3))⟩, .nil⟩⟩⟩ (TA.keeps (kk.trans S.old)) (TB.keeps (kk.trans S.old)) hza hzb (hl.keeps kk) (Z.imp fun _ _ z => z.keeps kk) hz fun g vs' s' k S F X => ?_)))
 exact h g vs' s' (kk.trans k) S F X
end
noncomputable abbrev fScope (c : Str) : Scope := { kind := .function, names := [(sO ".0", .local), (sO "kind", .local), (c, .free)], isGenerator := false, isCoroutine := false }
theorem any_mem (zs : List Int) (z : Int) : zs.any (· == z) = decide (z ∈ zs) := by
 rw [bei, List.any_eq_true, decide_eq_true_eq]
 exact ⟨fun ⟨x, hx, e⟩ => eq_of_beq e ▸ hx, fun h => ⟨z, h, beq_self_eq_true z⟩⟩
theorem ints_eqv (xs ys : List Int) : PyData.eqvAll (xs.map .int) (ys.map .int) = decide (xs = ys) := by
 rw [eqv_map (key := id) fun x _ y _ => by show (x == y) = _; rw [bei]; simp]
 simp
section
variable {c1 c2 : Str} {b1 b2 lo lt : Addr} {o1 o2 : Obj} {j1 j2 : Nat} {uo ut : List Value} {za zb : List Int}
theorem ev_f (e : Ev env L ns gs) (cl : List (Str × Addr)) (C : Addr) : Ev (compEnvC (fScope c2) cl C env) C [sO "kind"] [] :=
 ⟨rfl, rfl, e.glob, e.blt, fun x hx => by rw [lms.mp hx]; rfl, fun x hx => (nomatch hx), by decide, by decide⟩
theorem clos_f (c : Cl env c2 .cell b2) : closureFor (fScope c2) env = pure [(c2, b2)] := by
 have e1 : cellOf env c2 = pure b2 := by unfold cellOf; rw [c.at_]
 unfold closureFor
 simp [e1]
noncomputable abbrev FJ (za zb : List Int) : Nat → List (Option Value) → List Value → Heap → Prop := fun j us ys _ => us.length = 1 ∧ IntsAre ys ((za.take j).filter fun z => decide (z ∈ zb))
noncomputable abbrev fT (p : Pos) : Expr := .Name (sO "kind") p
theorem filt_turn {p1 p2 p4 p5 p6 : Pos} (e : Ev env L ns gs) (S : St s₀ h₀ L ns vs own s) (c : Cl env c2 .cell b2) (h2 : own[j2]? = some (b2, o2)) (d2 : o2.data = .cell (some (.ref lt))) (hx : (fScope c2).names.lookup c2 = some .free) (X : IL h₀ lo uo za) (Y : IL h₀ lt ut zb) :
  ∀ g C D oL j us ys n s₁ v, s.heap.get? L = some oL → Keeps (Mine.rest s.heap L own) g → uo[j]? = some v → FJ za zb j us ys g → St s g C [sO "kind"] us ((D, listOf ys.toArray n) :: (L, oL) :: own) s₁ →
   wpAny (model pw w) A (assign (fT p2) (compEnvC (fScope c2) [(c2, b2)] C env) v) (fun _ s₂ => wpAny (model pw w) A (testsOf [.Compare (fT p4) [.In] [.Name c2 p5] p6] (compEnvC (fScope c2) [(c2, b2)] C env)) (fun ok s₃ =>
    if ok = true then wpAny (model pw w) A (eval (fT p1) (compEnvC (fScope c2) [(c2, b2)] C env)) (fun y s₄ => ∃ us', St s g C [sO "kind"] us' ((D, listOf ys.toArray n) :: (L, oL) :: own) s₄ ∧
      FJ za zb (j + 1) us' (ys ++ [y]) (Mine.rest s₄.heap C ((D, listOf ys.toArray n) :: (L, oL) :: own))) ff s₃
    else ∃ us', St s g C [sO "kind"] us' ((D, listOf ys.toArray n) :: (L, oL) :: own) s₃ ∧ FJ za zb (j + 1) us' ys (Mine.rest s₃.heap C ((D, listOf ys.toArray n) :: (L, oL) :: own))) ff s₂) ff s₁ := by
 refine fun g C D oL j us ys n s₁ v hoL kg hv => an2 fun hu I => fun S1 => ?_
 refine Ex2 (IntsAre.at X.i j v hv) fun z t => an2 fun zz1 hz => ?_
 subst zz1
 have eC := ev_f (c2 := c2) e [(c2, b2)] C
 have cC : Cl (compEnvC (fScope c2) [(c2, b2)] C env) c2 .cell b2 := ⟨lookup_relabel_free e.kind c.kind hx, by rw [show (compEnvC (fScope c2) [(c2, b2)] C env).cells = [(c2, b2)] from rfl, List.lookup_cons, beq_self_eq_true], c.dbg⟩
 have kk := S.old.trans kg
 refine wan (st_ eC S1 (i := 0) rfl (by lia) fun s₂ S2 => ?_)
 have a0 : At (us.set 0 (some (.int z t))) 0 (.int z t) := At.eq (by lia)
 have ul : (us.set 0 (some (Value.int z t))).length = 1 := by rw [lls, hu]
 refine wpAny_tests_one (wic (ld eC S2 (i := 0) rfl a0 (ldc eC cC (S2.get (j := j2 + 2) h2) d2 (in_list_ints (Y.l.keeps (kk.trans S2.keep)).isList Y.i (wtb ?_)))) rfl)
 rw [any_mem]
 by_cases hm : z ∈ zb
 ·rw [decide_eq_true hm, if_pos rfl]
  refine ld eC S2 (i := 0) rfl a0 ⟨_, S2, ul, ?_⟩
  rw [take_snoc hz, List.filter_append, List.filter_cons_of_pos (by exact decide_eq_true hm)]
  exact ints_snoc I z t
 ·rw [decide_eq_false hm, if_neg bfn]
  refine ⟨_, S2, ul, ?_⟩
  rw [take_snoc hz, List.filter_append, lfc (by exact fun q => hm (of_decide_eq_true q)), List.filter_nil, lan]
  exact I
theorem fj_len {j : Nat} {us : List (Option Value)} {ys : List Value} {h : Heap} (J : FJ za zb j us ys h) : ys.length ≤ j := by
 rw [ints_len J.2]
 exact nlt (List.length_filter_le _ _) (by rw [llt]; omega)
theorem filt_ {p1 p2 p3 p4 p5 p6 pos : Pos} {Q : Value → Shared → Prop} (e : Ev env L ns gs) (hh : A.handled = none) (S : St s₀ h₀ L ns vs own s) (k1 : Cl env c1 .cell b1) (k2 : Cl env c2 .cell b2) (h1 : own[j1]? = some (b1, o1)) (d1 : o1.data = .cell (some (.ref lo))) (h2 : own[j2]? = some (b2, o2)) (d2 : o2.data = .cell (some (.ref lt)))
  (hx : (fScope c2).names.lookup c2 = some .free) (hc : ∀ y ∈ (fScope c2).names, y.2 ≠ .cell) (hn : ∀ y ∈ (fScope c2).names, y.2 = .local → (fScope c2).names.lookup y.1 = some .local) (X : IL h₀ lo uo za) (Y : IL h₀ lt ut zb) (hz : za.length ≤ 1000)
  (done : ∀ D ys n s', IntsAre ys (za.filter fun z => decide (z ∈ zb)) → St s₀ h₀ L ns vs ((D, listOf ys.toArray n) :: own) s' → Q (.ref D) s') :
  wpAny (model pw w) A (eval (.ListComp (fT p1) [⟨fT p2, .Name c1 p3, [.Compare (fT p4) [.In] [.Name c2 p5] p6], 0⟩] (fScope c2) pos) env) Q E s := by
 have hl := ints_len X.i
 refine comp_list (cns := [sO "kind"]) (xs := uo) hh S (fun Q' q => ldc e k1 (S.get h1) d1 q) (X.l.keeps S.keep).isList (ls_off S X.l).1 (by lia) (clos_f k2) hc rfl hn (FJ za zb) (fun _ _ _ _ _ a _ => a) (fun _ => ⟨rfl, by rw [List.take_zero]; exact .nil⟩) (filt_turn e S k2 h2 d2 hx X Y) (fun _ _ _ _ J => fj_len J) ?_
 refine fun g D ys n us s' kg _ => an2 fun _ I => fun S' => ?_
 rw [hl, ltl] at I
 exact done D ys n s' I (S'.unbase kg)
theorem asg_filt {y : Str} {i : Nat} {p1 p2 p3 p4 p5 p6 pos py spos : Pos} {Q : Flow → Shared → Prop} (e : Ev env L ns gs) (hh : A.handled = none) (S : St s₀ h₀ L ns vs own s) (hi : ns[i]? = some y) (hlen : i < vs.length) (hline : (py.line == pos.line) = true) (hy : ((fScope c2).names.any fun p => p.1 == y && (p.2 == .local || p.2 == .cell)) = false)
  (k1 : Cl env c1 .cell b1) (k2 : Cl env c2 .cell b2) (h1 : own[j1]? = some (b1, o1)) (d1 : o1.data = .cell (some (.ref lo))) (h2 : own[j2]? = some (b2, o2)) (d2 : o2.data = .cell (some (.ref lt)))
  (hx : (fScope c2).names.lookup c2 = some .free) (hc : ∀ y ∈ (fScope c2).names, y.2 ≠ .cell) (hn : ∀ y ∈ (fScope c2).names, y.2 = .local → (fScope c2).names.lookup y.1 = some .local) (X : IL h₀ lo uo za) (Y : IL h₀ lt ut zb) (hz : za.length ≤ 1000)
  (done : ∀ D ys n s', IntsAre ys (za.filter fun z => decide (z ∈ zb)) → St s₀ h₀ L ns (vs.set i (some (.ref D))) ((D, listOf ys.toArray n) :: own) s' → Q .next s') :
  wpAny (model pw w) A (exec (.Assign [.Name y py] (.ListComp (fT p1) [⟨fT p2, .Name c1 p3, [.Compare (fT p4) [.In] [.Name c2 p5] p6], 0⟩] (fScope c2) pos) spos) env) Q E s := by
 have hl := ints_len X.i
 refine asg_comp (cns := [sO "kind"]) (xs := uo) e hh S hi hlen (swaps_comp e hi hline hy) (fun Q' q => ldc e k1 (S.get h1) d1 q) (X.l.keeps S.keep).isList (ls_off S X.l).1 (by lia) (clos_f k2) hc rfl hn (FJ za zb) (fun _ _ _ _ _ a _ => a) (fun _ => ⟨rfl, by rw [List.take_zero]; exact .nil⟩) (filt_turn e S k2 h2 d2 hx X Y) (fun _ _ _ _ J => fj_len J) ?_
 refine fun g D ys n us s' kg _ => an2 fun _ I => fun S' => ?_
 rw [hl, ltl] at I
 exact done D ys n s' I (S'.unbase kg)
end
theorem LL.set {h : Heap} {vs : List (Option Value)} {st : Lay Int} (x : LL h vs st) {k : Nat} {u : Option Value} (hk : 13 ≤ k) : LL h (vs.set k u) st := by
 have n : ∀ i, i < 13 → (k == i) = false := fun i hi => beq_eq_false_iff_ne.mpr (by exact Nat.ne_of_gt (nll hi hk))
 exact ⟨let ⟨l, us, a, t⟩ := x.x; ⟨l, us, a.ne (n 10 (by decide)), t⟩, let ⟨l, us, a, t⟩ := x.g; ⟨l, us, a.ne (n 11 (by decide)), t⟩, let ⟨l, us, a, t⟩ := x.c; ⟨l, us, a.ne (n 12 (by decide)), t⟩⟩
section
variable {m lx ly F D a1 a2 th ot mi te la lb co lo lt d js : Addr} {oF oD o1 o2 : Obj} {ps : Array Value} {ua ub uo ut : List Value} {za zb : List Int} {ly3 : Lay Int} {Q : Flow → Shared → Prop} {m4 m5 m9 : Option Value}
theorem right_e (e : Ev env L N318 G318) (hh : A.handled = none) (r : Room A 6) (B : Base w h₀) (c1 : Cl env (sO "one") .cell a1) (c2 : Cl env (sO "other") .cell a2) (S : St s₀ h₀ L N318 vs (OR F oF ps D oD a1 o1 a2 o2) s)
  (d1 : o1.data = .cell (some (.ref lo))) (d2 : o2.data = .cell (some (.ref lt))) (X : IL h₀ lo uo (kk za)) (Y : IL h₀ lt ut (kk zb)) (C : MC w h₀ m D la lb d js ua ub za zb) (f : FM oD la lb d js m4 m5 (some .none) m9) (R : RF vs m lx ly th ot mi te la lb co) (LY : LL h₀ vs ly3)
  (h : ∀ g vs' oD sh us fb t s', Keeps h₀ g → St s₀ g L N318 vs' (OR F oF ps D oD a1 o1 a2 o2) s' → RF vs' m lx ly th ot mi te la lb co → LL g vs' ly3 → At vs' 18 (.ref sh) → IL g sh us ((kk za).filter fun z => decide (z ∈ kk zb)) →
   At vs' 19 (.bool (decide (((kk za).filter fun z => decide (z ∈ kk zb)) = (kk zb).filter fun z => decide (z ∈ kk za)))) → At vs' 20 (.float (qr (sharedN za zb) (za.length + zb.length)) t) → FM oD la lb d js m4 m5 (some (.ref fb)) m9 →
   wpAny (model pw w) A (execs ((fnB (st 18)).drop 15) env) Q E s') :
  wpAny (model pw w) A (execs ((fnB (st 18)).drop 12) env) Q E s := by
 conv in (List.drop _ _) => whnf
 have hza := C.hza
 have hzb := C.hzb
 have la1 : (kk za).length ≤ 1000 := by rw [llm]; lia
 have lb1 : (kk zb).length ≤ 1000 := by rw [llm]; lia
 refine wec (asg_filt e hh S (i := 18) rfl (by rw [R.len]; decide) rfl (by decide) c1 c2 (j1 := 3) (j2 := 4) rfl d1 rfl d2 (by decide) (by decide) (by decide) X Y la1 fun sh us n s₁ I S => ?_)
 refine Ex1 S.settle fun g => an5 fun k S hsh _ _ => ?_
 have a18 : At (vs.set 18 (some (.ref sh))) 18 (.ref sh) := At.eq (by rw [R.len]; decide)
 have R := R.set (k := 18) (u := some (.ref sh)) (by decide)
 have LY := (LY.set (k := 18) (u := some (.ref sh)) (by decide)).keeps k
 generalize vs.set 18 (some (.ref sh)) = vs at S a18 R LY
 refine wec (waa (wpAny_Compare1 (ld e S (i := 18) rfl a18 (filt_ e hh S c2 c1 (j1 := 4) (j2 := 3) rfl d2 rfl d1 (by decide) (by decide) (by decide) ⟨Y.l.keeps k, Y.i⟩ ⟨X.l.keeps k, X.i⟩ lb1 fun D2 ys n2 s₂ I2 S => ?_)) rfl))
 refine Ex1 (reads_intL (l := sh) ⟨n, S.keep _ _ hsh⟩ I) fun as r1 => ?_
 refine Ex1 (reads_intL (S.ls (j := 0) rfl) I2) fun bs r2 => ?_
 refine compareEq_reads r1 r2 (lay_map fun _ _ => rfl) (lay_map fun _ _ => rfl) ?_ ?_
 ·have : PyData.depthAll (((kk za).filter fun z => decide (z ∈ kk zb)).map .int) ≤ 0 := deep_map fun _ _ => nlr _
  have := r.units
  show A.units + min (PyData.depthAll _ + 1) _ < cLine
  lia
 rw [show PyData.eqv (.list _) (.list _) = decide _ from ints_eqv _ _]
 have S := S.drop (own' := OR F oF ps D oD a1 o1 a2 o2) (lsc _ _)
 refine st_ e S (i := 19) rfl (by rw [R.len]; decide) fun s₃ S => ?_
 have a19 : At (vs.set 19 (some (.bool (decide (((kk za).filter fun z => decide (z ∈ kk zb)) = (kk zb).filter fun z => decide (z ∈ kk za)))))) 19 _ := At.eq (by rw [R.len]; decide)
 have a18 : At (vs.set 19 (some (.bool (decide (((kk za).filter fun z => decide (z ∈ kk zb)) = (kk zb).filter fun z => decide (z ∈ kk za)))))) 18 (.ref sh) := a18.ne
 have R := R.set (k := 19) (u := some (.bool (decide (((kk za).filter fun z => decide (z ∈ kk zb)) = (kk zb).filter fun z => decide (z ∈ kk za))))) (by decide)
 have LY := LY.set (k := 19) (u := some (.bool (decide (((kk za).filter fun z => decide (z ∈ kk zb)) = (kk zb).filter fun z => decide (z ∈ kk za))))) (by decide)
 generalize vs.set 19 _ = vs at S a18 a19 R LY
 have C := C.keeps k
 have B := B.keeps k
 have nD := (S.nw (D, oD) (.tail _ (.tail _ (.head _)))).2.2
 refine wec (waa (callM0 e B S (i := 0) rfl R.a0 C.hx (j := 2) rfl f (mt232 _) (useM S (j := 2) rfl (qk_ B S.keep nD (S.get (j := 2) rfl) C (r.le (by decide)) f) ?_)))
 refine fun v oD' s₄ S1 ext => ex2 fun fb t => an2 fun zz1 f' => ?_
 subst zz1
 have S1 : St s₀ g L N318 vs (OR F oF ps D oD' a1 o1 a2 o2) s₄ := S1
 refine st_ e S1 (i := 20) rfl (by rw [R.len]; decide) fun s₅ S => ?_
 exact h g _ oD' sh us fb t s₅ k S (R.set (by decide)) (LY.set (by decide)) a18.ne ⟨⟨n, hsh⟩, I⟩ a19.ne (At.eq (by rw [R.len]; decide)) f'
end
theorem Ths.small {h : Heap} {us : List Value} {zs : List Int} (T : Ths h us zs) : ∀ z ∈ zs, z.toNat < 12 := by
 induction T with
 | nil => exact fun _ h => nomatch h
 | cons x _ ih => exact fun z hz => (lmc.mp hz).elim (fun e => e ▸ x.lt) (ih z)
theorem eqTL {l l' : Addr} {us us' : List Value} {zs zs' : List Int} {Q : Value → Shared → Prop} (T : TL s.heap l us zs) (T' : TL s.heap l' us' zs') (hu : A.units + 5 < cLine) (h : Q (.bool (decide (kk zs = kk zs'))) s) : wpAny (model pw w) A (compareOp .Eq (.ref l) (.ref l')) Q E s := by
 have b := T.t.small
 have b' := T'.t.small
 refine Ex1 (reads_list (dat := fun z : Int => thingD z.toNat) (fun v z x => ⟨_, x.reads⟩) T.l T.t) fun as r1 => ?_
 refine Ex1 (reads_list (dat := fun z : Int => thingD z.toNat) (fun v z x => ⟨_, x.reads⟩) T'.l T'.t) fun bs r2 => ?_
 refine compareEq_reads r1 r2 (lay_map fun z hz => thing_lay _ (b z hz)) (lay_map fun z hz => thing_lay _ (b' z hz)) ?_ ?_
 ·have : PyData.depthAll (zs.map fun z : Int => thingD z.toNat) ≤ 1 := deep_map fun z hz => thing_deep _ (b z hz)
  show A.units + min (PyData.depthAll _ + 1) _ < cLine
  lia
 ·rw [show PyData.eqv (.list _) (.list _) = decide (zs.map kd = zs'.map kd) from eqv_map fun x hx y hy => by rw [thing_eqv _ (b x hx) _ (b' y hy), kd_nat, kd_nat]]
  exact h
theorem sub_from_ {value lo : Expr} {p pos : Pos} {Q : Value → Shared → Prop}
  (h : wpAny (model pw w) A (eval value env) (fun o s₁ => wpAny (model pw w) A (eval lo env) (fun vl s₂ => ∃ l us, ∃ n : Nat, ∃ t, o = .ref l ∧ vl = .int n t ∧ Ls s₂.heap l us ∧ us.length ≤ 1000 ∧
   Q (.ref (s₂.heap.objs.size + 1)) { s₂ with heap := (s₂.heap.push { cls := .type "slice", data := .fields #[vl, .none, .none] }).push (listOf (us.drop n).toArray 0) }) E s₁) E s) :
  wpAny (model pw w) A (eval (.Subscript value (.Slice (some lo) none none p) pos) env) Q E s := by
 rw [eval_Subscript]
 refine wb (wm h (fun o s₁ h₁ => wb (whh (wpAny_Slice ?_))) fun _ _ x => x)
 rw [evalPart_some]
 refine wm h₁ (fun vl s₂ h₂ => ?_) fun _ _ x => x
 refine Ex4 h₂ fun l us n t => an5 fun zz1 zz2 hl hz q => ?_
 subst zz1
 subst zz2
 refine wpp (wpp (wb (wpAny_standAt ?_)))
 have hl2 := (hl.isList).push { cls := .type "slice", data := .fields #[.int n t, .none, .none] }
 have key : wpAny (model pw w) A (getItem (.ref l) (.ref s₂.heap.objs.size)) Q E { s₂ with heap := s₂.heap.push { cls := .type "slice", data := .fields #[.int n t, .none, .none] } } := by
  refine wpAny_getItem_list_slice hl2 (Heap.IsSliceOf.new ..) (.int _ _) .none .none (by simp) ?_ (by rw [lst, see]; lia)
  rw [Heap.size_push, slicePick_from']
  exact q
 have fin : wpAny (model pw w) A (operate [.ref s₂.heap.objs.size, .ref l] (getItem (.ref l) (.ref s₂.heap.objs.size))) (fun r s₃ => wpAny (model pw w) A (letTemporaryGo value (.ref l) r >>= fun _ => pure r) Q E s₃) E { s₂ with heap := s₂.heap.push { cls := .type "slice", data := .fields #[.int n t, .none, .none] } } :=
  wpAny_operating (wm key (fun r s₃ h₃ => wb (wpAny_letTemporaryGo (wpp h₃))) fun _ _ x => x)
 have hT : Shared.TypeIs { s₂ with heap := s₂.heap.push { cls := .type "slice", data := .fields #[.int n t, .none, .none] } } (.ref l) "list" := hl2.typeIs
 refine wb ?_
 rw [getitemInPython_of_ne hT.not_modules]
 refine wb (wpAny_specialOf hT list_getitem_lookup ?_)
 first
  | exact wpp (wb fin)
  | exact wb (wpp (wb fin))
  | exact wb fin
theorem useR {c : PySem.Code} {j : Nat} {ps : Array Value} {P : Value → Prop} {Q : Value → Shared → Prop} (S : St s₀ h₀ L ns vs own s) (hj : own[j]? = some (220, tabO ps)) (hs : codeAny (model pw w) A c (RetR s P) s)
  (h : ∀ v ps' s', TriplesOk ps'.toList → St s' h₀ L ns vs (own.set j (220, tabO ps')) s' → AllBare s'.gens → s'.os = s₀.os → P v → Q v s') : codeAny (model pw w) A c (fun r s' => match r with | .ok (.ret v) => Q v s' | .ok _ => False | .error e => E e s') s := by
 refine codeAny_mono hs fun r s' hr => ?_
 refine Ex2 hr fun v ps' => an7 fun zz1 ext hT ok hb os p => ?_
 subst zz1
 have X := S.update (s' := { s' with gens := s.gens, os := s.os }) hj ext hT rfl rfl
 exact h v ps' s' ok ⟨X.nsp, X.keep, X.off, X.nw, X.nd, rfl, rfl⟩ hb (os.trans S.os) p
theorem late_ {x y a z : Str} {i j k l i1 i2 i3 : Nat} {lx ly la lz : Addr} {ux uy ua uz : List Value} {zx zy za zz : List Int} {p1 p2 p3 p4 p5 p6 p7 p8 p9 p10 p11 p12 p13 p14 : Pos} {Q : Value → Shared → Prop} (e : Ev env L ns gs) (hh : A.handled = none) (B : Base w h₀) (r : Room A 2) (h1 : gs[i1]? = some (sO "list")) (h2 : gs[i2]? = some (sO "_deduplicate")) (h3 : gs[i3]? = some (sO "len")) (S : St s₀ h₀ L ns vs own s)
  (hx : ns[i]? = some x) (vx : At vs i (.ref lx)) (TX : TL h₀ lx ux zx) (hy : ns[j]? = some y) (vy : At vs j (.ref ly)) (TY : TL h₀ ly uy zy) (ha : ns[k]? = some a) (va : At vs k (.ref la)) (TA : TL h₀ la ua za) (hz : ns[l]? = some z) (vz : At vs l (.ref lz)) (TZ : TL h₀ lz uz zz)
  (b1 : zx.length ≤ 100) (b2 : zy.length ≤ 100) (b3 : za.length ≤ 100) (h : ∀ s', St s₀ h₀ L ns vs own s' → Q (.bool (decide (kk ((firstsL (zx ++ zy)).drop za.length) = kk zz))) s') :
  wpAny (model pw w) A (eval (.Compare (.Subscript (.Call (.Name (sO "list") p1) [.Call (.Name (sO "_deduplicate") p2) [.BinOp (.Name x p3) .Add (.Name y p4) p5] [] p6] [] p7) (.Slice (some (.Call (.Name (sO "len") p8) [.Name a p9] [] p10)) none none p11) p12) [.Eq] [.Name z p13] p14) env) Q E s := by
 have lx' := TX.t.len
 have ly' := TY.t.len
 have la' := TA.t.len
 have fl := firstsL_len (zx ++ zy)
 have sl : (zx ++ zy).length ≤ 200 := by rw [lla]; lia
 refine wpAny_Compare1 (sub_from_ (dd_ (zs := zx ++ zy) (own1 := own) e hh B r h1 h2 (by lia) S (fun Q' q => wbb (ld e S hx vx (ld e S hy vy (addL_ S (TX.l.keeps S.keep) (TY.l.keeps S.keep) (by rw [see]; lia) fun c s₁ S1 => ?_)))) fun D ks c s₂ S2 T2 => ?_)) rfl
 ·exact q c _ s₁ (S1.drop (lsc _ _)) (S1.ls (j := 0) rfl) (Ths.keeps (TX.t.app TY.t) S1.keep)
 ·refine len_ e B S2 h3 ha va (TA.l.keeps S2.keep) (by rw [see]; lia) fun t s₃ S3 e3 => ⟨D, ks, ua.length, t, rfl, rfl, S3.ls (j := 0) rfl, by rw [T2.len]; lia, ?_⟩
  have S4 := S3.keeps (s' := { s₃ with heap := s₃.heap.push { cls := .type "slice", data := .fields #[.int ua.length t, .none, .none] } }) (Keeps.push _ _) rfl rfl
  have S5 := S4.push (s' := { s₃ with heap := (s₃.heap.push { cls := .type "slice", data := .fields #[.int ua.length t, .none, .none] }).push (listOf (ks.drop ua.length).toArray 0) }) (listOf (ks.drop ua.length).toArray 0) rfl rfl rfl rfl
  rw [show (s₃.heap.push { cls := .type "slice", data := .fields #[.int ua.length t, .none, .none] }).objs.size = s₃.heap.objs.size + 1 from Heap.size_push ..] at S5
  have k5 : Keeps s₂.heap ((s₃.heap.push { cls := .type "slice", data := .fields #[.int ua.length t, .none, .none] }).push (listOf (ks.drop ua.length).toArray 0)) := by rw [e3]; exact (Keeps.push _ _).trans (Keeps.push _ _)
  refine ld e S5 hz vz (eqTL ⟨S5.ls (j := 0) rfl, Ths.keeps (T2.drop ua.length) k5⟩ (TZ.keeps S5.keep) (by have := r.units; lia) ?_)
  have q := h _ (S5.drop (.cons _ (.cons _ (.refl _))))
  rwa [← la'] at q
section
variable {m lx ly F D a1 a2 th ot mi te la lb co lr sh d js : Addr} {oF oD o1 o2 : Obj} {ps : Array Value} {ua ub tu ou us : List Value} {za zb zx zy : List Int} {K : List T3} {lay : Lay Int} {Q : Flow → Shared → Prop} {m5 m6 m9 : Option Value} {st qv : Value}
structure RG (vs : List (Option Value)) (sh : Addr) (st qv : Value) : Prop where
 a18 : At vs 18 (.ref sh)
 a19 : At vs 19 st
 a20 : At vs 20 qv
theorem RG.set (f : RG vs sh st qv) {k : Nat} {u : Option Value} (h : 21 ≤ k) : RG (vs.set k u) sh st qv := by
 have n : ∀ i, i < 21 → (k == i) = false := fun i hi => beq_eq_false_iff_ne.mpr (by exact Nat.ne_of_gt (nll hi h))
 exact ⟨f.a18.ne (n 18 (by decide)), f.a19.ne (n 19 (by decide)), f.a20.ne (n 20 (by decide))⟩
theorem right_f {q : UInt64} {tq : Tok} (e : Ev env L N318 G318) (hh : A.handled = none) (r : Room A 6) (B : Base w h₀) (S : St s₀ h₀ L N318 vs (OR F oF ps D oD a1 o1 a2 o2) s) (hG : AllBare s₀.gens) (ok : TriplesOk ps.toList)
  (C : MC w h₀ m D la lb d js ua ub za zb) (f : FM oD la lb d js (some (.ref lr)) m5 m6 m9) (hlr : Ls h₀ lr us) (M : Mts h₀ us K) (hK : sizes K < 19) (R : RF vs m lx ly th ot mi te la lb co) (LY : LL h₀ vs lay) (TX : TL h₀ th tu zx) (TY : TL h₀ ot ou zy) (bx : zx.length ≤ 100) (by_ : zy.length ≤ 100) (bl : lay.1.length ≤ 1000)
  (RG0 : RG vs sh st (.float q tq))
  (h : ∀ s₁ g vs' ps' si s', s₁.os = s₀.os → AllBare s₁.gens → TriplesOk ps'.toList → Keeps h₀ g → St s₁ g L N318 vs' (OR F oF ps' D oD a1 o1 a2 o2) s' → RF vs' m lx ly th ot mi te la lb co → LL g vs' lay → RG vs' sh st (.float q tq) → At vs' 21 (.ref si) →
   Ls g si [.bool (Float64.cmp (qr (sizes K) (za.length + zb.length)) q == some Ordering.eq), .bool (decide (kk (firstsL lay.1) = kk lay.1)), .bool (decide (kk ((firstsL (zx ++ zy)).drop za.length) = kk lay.2.2)), .bool (decide (kk ((firstsL (zy ++ zx)).drop zb.length) = kk lay.2.1))] →
   wpAny (model pw w) A (execs ((fnB (Mine.st 18)).drop 16) env) Q E s') :
  wpAny (model pw w) A (execs ((fnB (Mine.st 18)).drop 15) env) Q E s := by
 conv in (List.drop _ _) => whnf
 have hza := C.hza
 have hzb := C.hzb
 have nw2 := (S.nw (220, tabO ps) (.tail _ (.head _))).2.2
 have nD := (S.nw (D, oD) (.tail _ (.tail _ (.head _)))).2.2
 have hne : D ≠ 220 := fun z => (lnc.mp (lnc.mp S.nd).2).1 (z ▸ .head _)
 refine Ex2 LY.x fun lx1 ux1 => an2 fun ax Tx => ?_
 refine Ex2 LY.g fun lg ug => an2 fun ag Tg => ?_
 refine Ex2 LY.c fun lc uc => an2 fun ac Tc => ?_
 refine wec (waa (List_ (it_Compare (wpAny_Compare1 (callM0 e B S (i := 0) rfl R.a0 C.hx (j := 2) rfl f (mt225 _) (useR S (j := 1) rfl (ratio_ B S.keep nw2 (S.get (j := 1) rfl) ok (S.gens ▸ hG) nD (S.get (j := 2) rfl) C (r.le (by decide)) f (hlr.keeps S.keep) (M.imp fun _ _ z => z.keeps S.keep) hK hne) ?_)) rfl))))
 refine fun v ps' s₁ ok' S hb os => ex1 fun t zz1 => ?_
 subst zz1
 have S : St s₁ h₀ L N318 vs (OR F oF ps' D oD a1 o1 a2 o2) s₁ := S
 refine ld e S (i := 20) rfl RG0.a20 (AutoFloatOps.eq_0 ?_)
 refine it_Compare (wpAny_Compare1 (dd_ (zs := lay.1) (own1 := OR F oF ps' D oD a1 o1 a2 o2) e hh B (r.le (by decide)) (i1 := 1) (i2 := 2) rfl rfl bl S (fun Q' q => ld e S (i := 10) rfl ax (q _ _ _ S (Tx.l.keeps S.keep) (Tx.t.keeps S.keep))) fun D1 ks c1 s₂ S2 T2 => ?_) rfl)
 refine ld e S2 (i := 10) rfl ax (eqTL ⟨S2.ls (j := 0) rfl, T2⟩ (Tx.keeps S2.keep) (by have := r.units; lia) ?_)
 have S := S2.drop (own' := OR F oF ps' D oD a1 o1 a2 o2) (lsc _ _)
 refine it_Compare (late_ (za := za) e hh B (r.le (by decide)) (i1 := 1) (i2 := 2) (i3 := 5) rfl rfl rfl S (i := 3) rfl R.a3 TX (j := 4) rfl R.a4 TY (k := 7) rfl R.a7 ⟨C.hla, C.Ta⟩ (l := 12) rfl ac Tc bx by_ (by lia) fun s₃ S => ?_)
 refine it_Compare (late_ (za := zb) e hh B (r.le (by decide)) (i1 := 1) (i2 := 2) (i3 := 5) rfl rfl rfl S (i := 4) rfl R.a4 TY (j := 3) rfl R.a3 TX (k := 8) rfl R.a8 ⟨C.hlb, C.Tb⟩ (l := 11) rfl ag Tg by_ bx (by lia) fun s₄ S => ?_)
 refine it_nil (newList_ S (fun si s₅ S => ?_) (by rw [see]; show (4 : Nat) ≤ _; decide))
 refine Ex1 S.settle fun g => an5 fun k S hsi _ _ => ?_
 refine st_ e S (i := 21) rfl (by rw [R.len]; decide) fun s₆ S => ?_
 exact h s₁ g _ ps' si s₆ os hb ok' k S (R.set (by decide)) ((LY.set (by decide)).keeps k) (RG0.set (by decide)) (At.eq (by rw [R.len]; decide)) ⟨_, hsi⟩
end
structure Two (A : Around) (env : Env) (L F : Addr) : Prop where
 fr : ∃ el, A.frames = some [env, el] ∧ el.scope.kind ≠ .module ∧ el.frame = some F
 hk : env.scope.kind ≠ .module
 hf : env.frame = some L
section
variable {F l1 l2 : Addr} {oF : Obj} {us1 us2 : List Value} {zs1 zs2 : List Int}
theorem useF {Q : Value → Shared → Prop} (S : St s₀ h₀ L ns vs ((F, oF) :: own) s) (B : Base w h₀) (t : Two A env L F) (dF : DictO oF) (r : Room A 3) (T1 : TL s.heap l1 us1 zs1) (T2 : TL s.heap l2 us2 zs2) (z1 : zs1.length ≤ 1000) (z2 : zs2.length ≤ 1000)
  (h : ∀ oF' s', DictO oF' → (∃ sl, oF' = { oF with slots := sl }) → St s₀ h₀ L ns vs ((F, oF') :: own) s' → Q (.bool (cmpL zs1 zs2)) s') :
  codeAny (model pw w) A (.call (.ref 268) ⟨[.ref l1, .ref l2], []⟩) (fun r s' => match r with | .ok (.ret v) => Q v s' | .ok _ => False | .error e => E e s') s := by
 refine Ex1 t.fr fun el => an3 fun hfr hke hfe => ?_
 have hFn := S.nw _ (.head _)
 have k0 : ∀ b o, h₀.get? b = some o → b ∉ [L, F] := fun b o q m => by
  rcases lmc.mp m with m | m
  ·rw [m, S.off] at q; cases q
  ·rw [lms.mp m, hFn.2.2] at q; cases q
 have kb : Keeps h₀ (hideL s.heap [L, F]) := fun b o q => hideL_get (S.keep _ _ q) (k0 b o q)
 refine Ex2 (id dF) fun es ep eF => ?_
 have FF : s.heap.FunFrames (hideL s.heap [L, F]) [env, el] :=
  Heap.FunFrames.cons t.hk t.hf S.nsp (hideL_none (.head _)) ⟨hke, ⟨F, oF, hfe, hideL_none (.tail _ (.head _)), hFn.1, fun vs q => by rw [eF] at q; cases q⟩, trivial⟩
 refine codeAny_mono (cmp_args (h₀ := hideL s.heap [L, F]) (B.keeps S.keep) (hideL_sub _ _) (B.keeps kb) hfr FF r T1.l T1.t T2.l T2.t z1 z2) fun res s' hr => ?_
 refine Ex1 hr fun v => an6 fun zz1 k up g os zz2 => ?_
 subst zz1
 subst zz2
 refine Ex1 (up F oF hFn.1 fun vs q => by rw [eF] at q; cases q) fun sl hF' => ?_
 refine Ex3 S.nsp fun oL es' ep' => an3 fun hL hd rr => ?_
 refine Ex1 (up L oL hL fun vs q => by rw [hd] at q; cases q) fun slL hL' => ?_
 refine h { oF with slots := sl } s' ⟨es, ep, eF⟩ ⟨sl, rfl⟩ ⟨⟨_, es', ep', hL', hd, rr⟩, fun b o q => k _ _ (kb _ _ q), S.off, fun p hp => ?_, S.nd, os.trans S.os, g.trans S.gens⟩
 rcases lmc.mp hp with rfl | hp
 ·exact ⟨hF', hFn.2⟩
 ·have P := S.nw p (.tail _ hp)
  refine ⟨k _ _ (hideL_get P.1 fun m => ?_), P.2⟩
  rcases lmc.mp m with m | m
  ·exact P.2.1 m
  ·exact (lnc.mp S.nd).1 (lms.mp m ▸ lme (f := (·.1)) hp)
theorem gl_cmp {h : Heap} (B : Base w h) : Gl h (sO "_compare_args_orderless") (.ref 268) := B.glob (by kernel_rfl)
end
def ET (w : World) (A : Around) (E : Value → Shared → Prop) (env : Env) (I : Shared → Prop) (x : Expr) (zs : List Int) : Prop := ∀ (s : Shared) (Q : Value → Shared → Prop), I s → (∀ l us s', I s' → Keeps s.heap s'.heap → TL s'.heap l us zs → Q (.ref l) s') → wpAny (model pw w) A (eval x env) Q E s
section
variable {F l1 l2 : Addr} {oF : Obj} {us1 us2 : List Value} {zs1 zs2 : List Int} {x y : Str} {i j : Nat} {p1 p2 p3 : Pos}
theorem ET.nm (e : Ev env L ns gs) (hi : ns[i]? = some x) (hv : At vs i (.ref l1)) (T : TL h₀ l1 us1 zs1) : ET w A E env (St s₀ h₀ L ns vs own) (.Name x p1) zs1 := fun s Q S h => ld e S hi hv (h _ _ s S (.refl _) (T.keeps S.keep))
theorem ET.add (e : Ev env L ns gs) (hi : ns[i]? = some x) (hv : At vs i (.ref l1)) (T : TL h₀ l1 us1 zs1) (hj : ns[j]? = some y) (hv2 : At vs j (.ref l2)) (T2 : TL h₀ l2 us2 zs2) (hz : zs1.length + zs2.length ≤ 1000) : ET w A E env (St s₀ h₀ L ns vs own) (.BinOp (.Name x p1) .Add (.Name y p2) p3) (zs1 ++ zs2) := fun s Q S h => by
 have a := T.t.len
 have b := T2.t.len
 refine Ex1 (T.l.keeps S.keep) fun n1 h1 => ?_
 refine Ex1 (T2.l.keeps S.keep) fun n2 h2 => ?_
 refine wbb (ld e S hi hv (ld e S hj hv2 (P.add_list h1 h2 ?_ (by rw [see]; simp; lia))))
 have eq : (us1.toArray ++ us2.toArray) = (us1 ++ us2).toArray := by simp
 rw [eq]
 have S2 := S.push (s' := { s with heap := s.heap.push (listOf (us1 ++ us2).toArray 0) }) (listOf (us1 ++ us2).toArray 0) rfl rfl rfl rfl
 exact h _ (us1 ++ us2) _ (S2.drop (lsc _ _)) (Keeps.push _ _) ⟨S2.ls (j := 0) rfl, Ths.keeps (T.t.app T2.t) S2.keep⟩
theorem cmp_ {a b : Expr} {k : Nat} {Q : Value → Shared → Prop} (e : Ev env L ns gs) (B : Base w h₀) (S : St s₀ h₀ L ns vs ((F, oF) :: own) s) (t : Two A env L F) (dF : DictO oF) (r : Room A 3) (hg : gs[k]? = some (sO "_compare_args_orderless"))
  (T1 : ET w A E env (St s₀ h₀ L ns vs ((F, oF) :: own)) a zs1) (T2 : ET w A E env (St s₀ h₀ L ns vs ((F, oF) :: own)) b zs2) (z1 : zs1.length ≤ 1000) (z2 : zs2.length ≤ 1000)
  (h : ∀ oF' s', DictO oF' → (∃ sl, oF' = { oF with slots := sl }) → St s₀ h₀ L ns vs ((F, oF') :: own) s' → Q (.bool (cmpL zs1 zs2)) s')
  (hst : starEach [a, b] env = [(false, eval a env), (false, eval b env)] := by rfl) :
  wpAny (model pw w) A (eval (.Call (.Name (sO "_compare_args_orderless") p1) [a, b] [] p2) env) Q E s := by
 refine callName e S hg (gl_cmp B) (o := o268 w.params) (fd := fd268) (B.at (by kernel_rfl)) (by kernel_rfl) ?_ ⟨_, _, _, by rw [hst]; rfl, rfl⟩
 rw [hst]
 refine csc (T1 s _ S fun l1 us1 s₁ S1 k1 X1 => csc (T2 s₁ _ S1 fun l2 us2 s₂ S2 k2 X2 => csn ⟨S2.keep, ?_⟩))
 exact useF S2 B t dF r (X1.keeps k2) X2 z1 z2 h
end
theorem bools_all : ∀ bs : List Bool, All2 (fun v b => v = Value.bool b) (bs.map Value.bool) bs
 | [] => .nil
 | b :: bs => .cons rfl (bools_all bs)
theorem reads_bools {h : Heap} {l : Addr} {bs : List Bool} (hl : Ls h l (bs.map Value.bool)) : ∃ as, Reads h (.ref l) (.list (bs.map PyData.bool)) as :=
 reads_list (R := fun v b => v = Value.bool b) (dat := PyData.bool) (fun v b e => ⟨[], by subst e; exact .bool b⟩) hl (bools_all bs)
theorem bools_eqv (xs ys : List Bool) : PyData.eqvAll (xs.map PyData.bool) (ys.map PyData.bool) = decide (xs = ys) := by
 rw [eqv_map (key := id) fun x _ y _ => by show (x == y) = _; rw [bei]; simp]
 simp
section
variable {m lx ly F th ot mi te la lb co sh si : Addr} {oF : Obj} {tu ou : List Value} {zx zy : List Int} {lay : Lay Int} {Q : Flow → Shared → Prop} {b : Bool} {qv : Value}
theorem right_g (e : Ev env L N318 G318) (r : Room A 6) (B : Base w h₀) (S : St s₀ h₀ L N318 vs ((F, oF) :: own) s) (t : Two A env L F) (dF : DictO oF) (R : RF vs m lx ly th ot mi te la lb co) (LY : LL h₀ vs lay) (G : RG vs sh (.bool b) qv) (a21 : At vs 21 (.ref si)) (hsi : Ls h₀ si [.bool b, .bool b, .bool b, .bool b])
  (TX : TL h₀ th tu zx) (TY : TL h₀ ot ou zy) (bx : zx.length ≤ 100) (by_ : zy.length ≤ 100) (bl : lay.1.length ≤ 1000) (hc : cmpL lay.1 (zx ++ zy) = true)
  (h : ∀ oF' s', DictO oF' → (∃ sl, oF' = { oF with slots := sl }) → St s₀ h₀ L N318 vs ((F, oF') :: own) s' → wpAny (model pw w) A (execs ((fnB (Mine.st 18)).drop 17) env) Q E s') :
  wpAny (model pw w) A (execs ((fnB (Mine.st 18)).drop 16) env) Q E s := by
 conv in (List.drop _ _) => whnf
 have hu := r.units
 refine Ex2 LY.x fun lx1 ux1 => an2 fun ax Tx => ?_
 refine wec (wpAny_If (wib (wao (wic ?_ rfl))))
 refine ld e S (i := 21) rfl a21 (List_ ?_)
 refine it_Name (ld e S (i := 19) rfl G.a19 (it_Name (ld e S (i := 19) rfl G.a19 ?_)))
 refine it_Name (ld e S (i := 19) rfl G.a19 (it_Name (ld e S (i := 19) rfl G.a19 ?_)))
 refine it_nil (newList_ S (fun l s₁ S1 => ?_) (by rw [see]; show (4 : Nat) ≤ _; decide))
 refine Ex1 (reads_bools (bs := [b, b, b, b]) (hsi.keeps S1.keep)) fun as r1 => ?_
 refine Ex1 (reads_bools (bs := [b, b, b, b]) (S1.ls (j := 0) rfl)) fun bs r2 => ?_
 refine compareNe_reads r1 r2 (lay_map fun _ _ => rfl) (lay_map fun _ _ => rfl) ?_ (wtb ?_)
 ·have : PyData.depthAll ([b, b, b, b].map PyData.bool) ≤ 0 := deep_map fun _ _ => nlr _
  show A.units + min (PyData.depthAll _ + 1) _ < cLine
  lia
 rw [show PyData.eqv (.list _) (.list _) = decide _ from bools_eqv _ _, decide_eq_true rfl, Bool.not_true, if_neg bfn]
 have S := S1.drop (own' := (F, oF) :: own) (lsc _ _)
 refine wao (wpAny_isTrue_Not (isTrue_plain (cmp_ (zs1 := lay.1) (zs2 := zx ++ zy) e B S t dF (r.le (by decide)) (k := 6) rfl (ET.nm e (i := 10) rfl ax Tx) (ET.add e (i := 3) rfl R.a3 TX (j := 4) rfl R.a4 TY (by lia)) bl (by rw [lla]; lia) fun oF' s₂ d' sl S => wtb ?_)))
 rw [hc, Bool.not_true, if_neg bfn]
 refine wpAny_allTrue_Or_nil ?_
 rw [if_neg bfn]
 exact wen (h oF' s₂ d' sl S)
end
theorem ints_all2 {us : List Value} {zs : List Int} (I : IntsAre us zs) : All2 (fun v z => ∃ t, v = Value.int z t) us zs := by
 induction I with
 | nil => exact .nil
 | cons z t _ ih => exact .cons ⟨t, rfl⟩ ih
theorem all2_ints {us : List Value} {zs : List Int} (I : All2 (fun v z => ∃ t, v = Value.int z t) us zs) : IntsAre us zs := by
 induction I with
 | nil => exact .nil
 | cons h _ ih => obtain ⟨t, rfl⟩ := h; exact .cons _ _ ih
theorem sortedI_ {l : Addr} {us : List Value} {zs : List Int} {Q : Value → Shared → Prop} (S : St s₀ h₀ L ns vs own s) (X : IL s.heap l us zs) (h64 : zs.length < 64) (nd : zs.Nodup)
  (h : ∀ us' zs' D c s', zs'.Perm zs → zs'.Pairwise (· < ·) → IntsAre us' zs' → Keeps s.heap s'.heap → St s₀ h₀ L ns vs ((D, listOf us'.toArray c) :: own) s' → Q (.ref D) s') :
  wpAny (model pw w) A (call (.builtin "sorted") [.ref l]) Q E s := by
 have X2 := ints_all2 X.i
 refine sorted_ (κ := oneType') (R := fun v z => ∃ t, v = Value.int z t) (key := id) 0 S X.l X2 h64 (by rw [List.map_id]; exact nd) (fun h2 s' Q' k q => ?_) (fun v x u y C s' hx hy rx ry k hC => ?_) fun us' zs' D c s' hp ho X' k S' => h us' zs' D c s' hp ho (all2_ints X') k S'
 ·refine kas_kind (T := .type "int") h2 (fun v hv => ?_) (by decide) (by decide) q
  obtain ⟨i, hi⟩ := List.mem_iff_getElem?.mp hv
  obtain ⟨z, _, t, rfl⟩ := X2.get hi
  exact .of_pure rfl
 ·obtain ⟨t, rfl⟩ := rx
  obtain ⟨t', rfl⟩ := ry
  exact kat_lt_int (hC s' (.refl _) rfl rfl)
section
variable {I : Shared → Prop} {a b : Expr} {m n : Int} {p : Pos}
theorem EI.mod (T : Tk I) (d : EI w A E env I a m) (f : EI w A E env I b n) (hn : n ≠ 0) : EI w A E env I (.BinOp a .Mod b p) (m.fmod n) := fun s Q S h => wbb (d s _ S fun t s₁ S₁ => f s₁ _ S₁ fun t' s₂ S₂ => mod_int' hn (h _ _ (T s₂ 1 S₂)))
end
section
variable {g : Heap} {Q : Flow → Shared → Prop}
variable {l lf lg : Addr} {F G : List Value} {zf zg : List Int} {nf ng j j' : Nat} {z k : Int}
structure RowI (l : Addr) (j j' : Nat) (vs : List (Option Value)) (lf lg : Addr) (F G : List Value) (zf zg : List Int) : Prop where
 a0 : At vs 0 (.ref l)
 a1 : At vs 1 (.ref lf)
 a2 : At vs 2 (.ref lg)
 len : vs.length = 5
 f : IntsAre F zf
 g : IntsAre G zg
 kf : Ks zf
 kg : Ks zg
 bf : zf.length ≤ j
 bg : zg.length ≤ j'
noncomputable abbrev RO (lf lg : Addr) (F G : List Value) (nf ng : Nat) : List (Addr × Obj) := [(lf, listOf F.toArray nf), (lg, listOf G.toArray ng)]
theorem RowI.set (R : RowI l j j' vs lf lg F G zf zg) {i : Nat} {u : Option Value} (h : 3 ≤ i) : RowI l j j' (vs.set i u) lf lg F G zf zg :=
 have n : ∀ q, q < 3 → (i == q) = false := fun q hq => beq_eq_false_iff_ne.mpr (Nat.ne_of_gt (nll hq h))
 ⟨R.a0.ne (n 0 (by decide)), R.a1.ne (n 1 (by decide)), R.a2.ne (n 2 (by decide)), (lls ..).trans R.len, R.f, R.g, R.kf, R.kg, R.bf, R.bg⟩
theorem snoc_le {zs : List Int} (h : zs.length ≤ j) (k : Int) : (zs ++ [k]).length ≤ j + 1 := by rw [lla]; exact Nat.succ_le_succ h
theorem num4 (e : Ev env L N289 gs) (az : AtI vs 3 z) {p p1 p2 : Pos} {kk : Nat} : EI w A E env (St s₀ g L N289 vs own) (.BinOp (.Name (sO "number") p1) .Mod (.Constant (.int 4) kk p2) p) (z.fmod 4) :=
 let ⟨_, a⟩ := az; EI.mod St.tk (EI.nm e (i := 3) rfl a) (EI.num St.tk) (by decide)
theorem rows1 (e : Ev env L N289 gs) (S : St s₀ g L N289 vs (RO lf lg F G nf ng) s) (R : RowI l j j' vs lf lg F G zf zg) (az : AtI vs 3 z) (ak : AtI vs 4 k) (k0 : 0 ≤ k) (k1 : k < 12) (hj : j ≤ 900)
  (h : ∀ F zf nf s', St s₀ g L N289 vs (RO lf lg F G nf ng) s' → RowI l (j + 1) j' vs lf lg F G zf zg → Q .next s') :
  wpAny (model pw w) A (exec (stAt (forB (stAt (fnB (st 13)) 1)) 1) env) Q E s := by
 conv in (stAt (forB _) _) => whnf
 refine ifE S (EB.ne (num4 e az) (EI.num St.tk)) fun s S => ?_
 cases (z.fmod 4 != 1) with
 | true =>
  refine Ex1 ak fun t ak => ?_
  refine wec (appN_ e S (i := 1) (i' := 4) (j := 0) rfl R.a1 rfl ak rfl rfl (by rw [ints_len R.f]; exact nlt R.bf (nlt hj (by decide))) fun c s S => wen (h (F ++ [Value.int k t]) (zf ++ [k]) c s S ⟨R.a0, R.a1, R.a2, R.len, ints_snoc R.f k t, R.g, R.kf.snoc k0 k1, R.kg, snoc_le R.bf k, R.bg⟩))
 | false => exact wen (h F zf nf s S ⟨R.a0, R.a1, R.a2, R.len, R.f, R.g, R.kf, R.kg, Nat.le_succ_of_le R.bf, R.bg⟩)
theorem rows2 (e : Ev env L N289 gs) (S : St s₀ g L N289 vs (RO lf lg F G nf ng) s) (R : RowI l j' j vs lf lg F G zf zg) (az : AtI vs 3 z) (ak : AtI vs 4 k) (k0 : 0 ≤ k) (k1 : k < 12) (hj : j ≤ 900)
  (h : ∀ vs lg G zg ng s', St s₀ g L N289 vs (RO lf lg F G nf ng) s' → RowI l j' (j + 1) vs lf lg F G zf zg → Q .next s') :
  wpAny (model pw w) A (exec (stAt (forB (stAt (fnB (st 13)) 1)) 2) env) Q E s := by
 conv in (stAt (forB _) _) => whnf
 have lG : G.length ≤ 900 := by rw [ints_len R.g]; exact nlt R.bg hj
 refine Ex1 (id ak) fun t at4 => ?_
 refine ifE S (EB.eq (num4 e az) (EI.num St.tk)) fun s S => ?_
 cases (z.fmod 4 == 3) with
 | true =>
  refine wec (waa (wbb (List_ (it_Name (ld e S (i := 4) rfl at4 (it_nil (newList_ S (fun l1 s S => ld e S (i := 2) rfl R.a2 (addL_ S (S.ls (j := 0) (xs := [.int k t]) rfl) (S.ls (j := 2) (xs := G) rfl) (by rw [see]; show 1 + _ ≤ _; lia) fun lg' s S => st_ e S (i := 2) rfl (R.a2.lt) fun s S => wen ?_)) (by rw [see]; exact nlo rfl))))))))
  refine h _ lg' _ (k :: zg) 0 s ((S.drop (own' := [(lg', _), (lf, _)]) (.cons_cons _ (.cons _ (.cons_cons _ (.cons _ .slnil))))).perm (.swap _ _ _)) ⟨R.a0.ne, R.a1.ne, At.eq R.a2.lt, (lls ..).trans R.len, R.f, .cons k t R.g, R.kf, R.kg.cons k0 k1, R.bf, Nat.succ_le_succ R.bg⟩
 | false =>
  refine wec (ifE S (EB.ne (num4 e az) (EI.num St.tk)) fun s S => ?_)
  cases (z.fmod 4 != 0) with
  | true =>
   exact wec (appN_ e S (i := 2) (i' := 4) (j := 1) rfl R.a2 rfl at4 rfl rfl (nlt lG (by decide)) fun c s S => wen (wen (h vs lg (G ++ [Value.int k t]) (zg ++ [k]) c s S ⟨R.a0, R.a1, R.a2, R.len, R.f, ints_snoc R.g k t, R.kf, R.kg.snoc k0 k1, R.bf, snoc_le R.bg k⟩)))
  | false => exact wen (wen (h vs lg G zg ng s S ⟨R.a0, R.a1, R.a2, R.len, R.f, R.g, R.kf, R.kg, R.bf, Nat.le_succ_of_le R.bg⟩))
end
inductive RowsP (n : Nat) (h : Heap) : Value → Prop
 | mk {a lf lg : Addr} {F G : List Value} {zf zg : List Int} : h.get? a = some (tupO #[.ref lf, .ref lg]) → Ls h lf F → Ls h lg G → IntsAre F zf → IntsAre G zg → Ks zf → Ks zg → zf.length ≤ n → zg.length ≤ n → RowsP n h (.ref a)
inductive RowJ (l : Addr) (j : Nat) (vs : List (Option Value)) : List (Addr × Obj) → Prop
 | mk {lf lg : Addr} {F G : List Value} {zf zg : List Int} {nf ng : Nat} : RowI l j j vs lf lg F G zf zg → RowJ l j vs (RO lf lg F G nf ng)
theorem law_rows {w : World} {A : Around} {s : Shared} {l : Addr} {xs : List Value} {zs : List Int} (B : Base w s.heap) (r : Room A 1) (hl : Ls s.heap l xs) (I : IntsAre xs zs) (hz : zs.length ≤ 900) :
  codeAny (model pw w) A (.call (.ref 289) ⟨[.ref l], []⟩) (Ret s fun v s' => RowsP zs.length s'.heap v) s := by
 refine call_fR B (is289 B) ok289 r.lt (vals := [.ref l]) (.of_eq (by kernel_rfl)) rfl fun env L s' Q q1 _ e S => ?_
 have hlen := ints_len I
 conv in (fnB _) => whnf
 refine wec (asg2 e r.handled (i := 1) (j := 2) rfl rfl (by decide) rfl rfl rfl rfl (List_ (it_nil (newList_ S (fun lf s' S => List_ (it_nil (newList_ S (fun lg s' S => ⟨_, _, _, S, nlo rfl, nlo rfl, fun s' S => ?_⟩) (nzl _)))) (nzl _)))))
 refine wec (wpAny_For (ld e S (i := 0) rfl rfl ?_))
 have S := S.perm (own' := RO lf lg [] [] 0 0) (.swap _ _ _)
 refine loop_listQ r.handled S hl (.inl ⟨_, _, rfl⟩) (fun j vs own _ => RowJ l j vs own) (fun _ _ _ _ _ h _ => h)
  (.mk ⟨rfl, rfl, rfl, rfl, .nil, .nil, fun _ h => (nomatch h), fun _ h => (nomatch h), nlr _, nlr _⟩) (fun R wr g j vs own s' x kg hw hx J S k => ?_) fun g vs own s' kg J S => ?_
 ·cases J with | mk J =>
  refine Ex2 (IntsAre.at I j x hx) fun z t => an2 fun zz1 hz' => ?_
  subst zz1
  have hj : j ≤ 900 := nlt (nl0 (lt_of_get hz')) hz
  refine wan (st_ e S (i := 3) rfl (J.len ▸ nlo rfl) fun s' S => ?_)
  have a3 : At (vs.set 3 (some (.int z t))) 3 (.int z t) := At.eq (J.len ▸ nlo rfl)
  have J := J.set (i := 3) (u := some (.int z t)) (nlr _)
  generalize vs.set 3 (some (.int z t)) = vs at S a3 J
  refine wec (waa (wbb (wbb (ld e S (i := 3) rfl a3 (cint S fun t1 s' S => fdiv_ S (by decide) (by decide) fun t2 s' S => cint S fun t1 s' S => mod_ S (by decide) fun tk s' S => st_ e S (i := 4) rfl (J.len ▸ nlo rfl) fun s' S => ?_)))))
  have k0 : 0 ≤ (z.fdiv 4).fmod 12 := fmod_lo _ (by decide)
  have k1 : (z.fdiv 4).fmod 12 < 12 := fmod_hi _ (by decide)
  generalize (z.fdiv 4).fmod 12 = kk at k0 k1 S
  have a4 : At (vs.set 4 (some (.int kk tk))) 4 (.int kk tk) := At.eq (J.len ▸ nlo rfl)
  have a3 : At (vs.set 4 (some (.int kk tk))) 3 (.int z t) := a3.ne
  have J := J.set (i := 4) (u := some (.int kk tk)) (by decide)
  generalize vs.set 4 (some (.int kk tk)) = vs at S a3 a4 J
  exact wec (rows1 e S J ⟨t, a3⟩ ⟨tk, a4⟩ k0 k1 hj fun F zf nf s' S J => wec (rows2 e S J ⟨t, a3⟩ ⟨tk, a4⟩ k0 k1 hj fun vs lg G zg ng s' S J => wen (k vs _ s' S (.mk J))))
 ·cases J with | mk J =>
  refine wec (wrs (Tuple_ (it_Name (ld e S (i := 1) rfl J.a1 (it_Name (ld e S (i := 2) rfl J.a2 (it_nil (newTuple_ S (fun a s' S => q1 _ _ ⟨_, rfl, kg.trans S.keep, S.gens, S.os, .mk (S.get (j := 0) rfl) (S.ls (j := 1) rfl) (S.ls (j := 2) rfl) J.f J.g J.kf J.kg (hlen ▸ J.bf) (hlen ▸ J.bg)⟩) (by rw [see]; exact nlo rfl)))))))))
theorem sorted_eq {z1 z2 as bs : List Int} (p1 : z1.Perm as) (o1 : z1.Pairwise (· < ·)) (p2 : z2.Perm bs) (o2 : z2.Pairwise (· < ·)) : decide (z1 = z2) = decide (as.Perm bs) :=
 decide_eq_decide.mpr ⟨fun e => p1.symm.trans (e ▸ p2), fun p => pw_unique (fun a b x y => Int.lt_irrefl _ (Int.lt_trans x y)) o1 o2 fun x => (p1.mem_iff.trans p.mem_iff).trans p2.mem_iff.symm⟩
section
variable {a1 a2 lo lt sh : Addr} {o1 o2 : Obj} {uo ut us : List Value} {as bs zs : List Int} {Q : Flow → Shared → Prop}
structure HB (h : Heap) (vs : List (Option Value)) (a1 a2 lo lt sh : Addr) (uo ut us : List Value) (as bs zs : List Int) : Prop where
 g1 : ∃ o, h.get? a1 = some o ∧ o.data = .cell (some (.ref lo))
 g2 : ∃ o, h.get? a2 = some o ∧ o.data = .cell (some (.ref lt))
 X : IL h lo uo as
 Y : IL h lt ut bs
 Z : IL h sh us zs
 a18 : At vs 18 (.ref sh)
 nx : as.Nodup
 ny : bs.Nodup
 bx : as.length ≤ 9
 by_ : bs.length ≤ 9
 bz : zs.length ≤ 9
 len : vs.length = 26
theorem right_h (e : Ev env L N318 G318) (r : Room A 6) (B : Base w h₀) (S : St s₀ h₀ L N318 vs own s) (c1 : Cl env (sO "one") .cell a1) (c2 : Cl env (sO "other") .cell a2) (H : HB h₀ vs a1 a2 lo lt sh uo ut us as bs zs)
  (h : ∀ s', St s₀ h₀ L N318 (vs.set 22 (some (.bool (decide (as.Perm bs))))) own s' → wpAny (model pw w) A (execs ((fnB (Mine.st 18)).drop 18) env) Q E s') :
  wpAny (model pw w) A (execs ((fnB (Mine.st 18)).drop 17) env) Q E s := by
 conv in (List.drop _ _) => whnf
 refine Ex1 H.g1 fun o1 => an2 fun g1 d1 => ?_
 refine Ex1 H.g2 fun o2 => an2 fun g2 d2 => ?_
 refine wec (waa (wpAny_Compare1 (callBlt e S (i := 7) rfl (gl_sorted B) (it_Name (ldc e c1 (S.keep _ _ g1) d1 (it_nil (sortedI_ S (H.X.keeps S.keep) (nol H.bx (by decide)) H.nx fun us1 z1 D1 c s1 p1 o1 I1 k1 S1 => ?_))))) rfl))
 refine callBlt e S1 (i := 7) rfl (gl_sorted B) (it_Name (ldc e c2 (S1.keep _ _ g2) d2 (it_nil (sortedI_ S1 (H.Y.keeps S1.keep) (nol H.by_ (by decide)) H.ny fun us2 z2 D2 c s2 p2 o2 I2 k2 S2 => ?_))))
 refine Ex1 (reads_intL (S2.ls (j := 1) rfl) I1) fun as1 r1 => ?_
 refine Ex1 (reads_intL (S2.ls (j := 0) rfl) I2) fun as2 r2 => ?_
 refine compareEq_reads r1 r2 (lay_map fun _ _ => rfl) (lay_map fun _ _ => rfl) ?_ ?_
 ·have : PyData.depthAll (z1.map .int) ≤ 0 := deep_map fun _ _ => nlr _
  exact nol (Nat.add_le_add_left (nlt (Nat.min_le_left _ _) (Nat.succ_le_succ this)) _) (r.u (n := 1) (by decide))
 rw [show PyData.eqv (.list _) (.list _) = decide _ from ints_eqv _ _, sorted_eq p1 o1 p2 o2]
 have S := S2.drop (own' := own) ((lsc _ _).trans (lsc _ _))
 exact st_ e S (i := 22) rfl (H.len ▸ nlo rfl) fun s' S => h s' S
theorem right_i (e : Ev env L N318 G318) (B : Base w h₀) (S : St s₀ h₀ L N318 vs own s) (c1 : Cl env (sO "one") .cell a1) (c2 : Cl env (sO "other") .cell a2) (H : HB h₀ vs a1 a2 lo lt sh uo ut us as bs zs)
  (h : ∀ s', St s₀ h₀ L N318 (vs.set 23 (some (.bool ([(as.length : Int), (bs.length : Int)].any (· == (zs.length : Int)))))) own s' → wpAny (model pw w) A (execs ((fnB (Mine.st 18)).drop 19) env) Q E s') :
  wpAny (model pw w) A (execs ((fnB (Mine.st 18)).drop 18) env) Q E s := by
 conv in (List.drop _ _) => whnf
 refine Ex1 H.g1 fun o1 => an2 fun g1 d1 => ?_
 refine Ex1 H.g2 fun o2 => an2 fun g2 d2 => ?_
 have lx := ints_len H.X.i
 have ly := ints_len H.Y.i
 have le : ∀ {n : Nat}, n ≤ 9 → n ≤ 1000 := fun h => nlt h (by decide)
 refine wec (waa (wpAny_Compare1 (EI.len e B (i := 5) rfl (j := 18) rfl H.a18 H.Z.l (ints_len H.Z.i ▸ le H.bz) s _ S fun t s₁ S => ?_) rfl))
 refine List_ (it_Call (callBlt e S (i := 5) rfl (gl_len B) (it_Name (ldc e c1 (S.keep _ _ g1) d1 (it_nil (lenC S (H.X.l.keeps S.keep) (lx ▸ le H.bx) fun t1 s₂ S _ => ?_))))))
 refine it_Call (callBlt e S (i := 5) rfl (gl_len B) (it_Name (ldc e c2 (S.keep _ _ g2) d2 (it_nil (lenC S (H.Y.l.keeps S.keep) (ly ▸ le H.by_) fun t2 s₃ S _ => ?_)))))
 refine it_nil (newList_ S (fun l s₄ S => ?_) (by rw [see]; exact nlo rfl))
 rw [lx, ly, ints_len H.Z.i] at *
 refine in_list_ints (S.ls (j := 0) (xs := [_, _]) rfl).isList (.cons _ t1 (.cons _ t2 .nil)) ?_
 have S := S.drop (own' := own) (lsc _ _)
 exact st_ e S (i := 23) rfl (H.len ▸ nlo rfl) fun s' S => h s' S
end
theorem kept_len {A B : List Int} : ∀ {K : List T3} {i j : Nat}, Chn A B i j K → (keptA A K).length = sizes K
 | [], _, _, _ => rfl
 | r :: K, i, j, h => by
  show (sl A r.1 (r.1 + r.2.2) ++ keptA A K).length = _
  rw [lla, kept_len h.2.2.2.2, sl, List.length_drop, llt, Nat.min_eq_left h.2.2.1.ha, Nat.add_sub_cancel_left]
  exact (List.sum_cons ..).symm
theorem sl_map {α β : Type} (f : α → β) (l : List α) (i p : Nat) : (sl l i p).map f = sl (l.map f) i p := by unfold sl; rw [List.map_drop, List.map_take]
theorem laid_map {α β : Type} (f : α → β) (a b : List α) : ∀ (K : List T3) (i j : Nat), (laidK a b i j K).map f = laidK (a.map f) (b.map f) i j K
 | [], i, j => by show (a.drop i ++ b.drop j).map f = _; rw [lma, List.map_drop, List.map_drop]; rfl
 | r :: K, i, j => by
  show (sl a i r.1 ++ (sl b j r.2.1 ++ (sl a r.1 (r.1 + r.2.2) ++ laidK a b _ _ K))).map f = _
  rw [lma, lma, lma, sl_map, sl_map, sl_map, laid_map f a b K]; rfl
theorem gapA_map {α β : Type} (f : α → β) (a : List α) : ∀ (K : List T3) (i : Nat), (gapA a i K).map f = gapA (a.map f) i K
 | [], i => List.map_drop ..
 | r :: K, i => by
  show (sl a i r.1 ++ gapA a _ K).map f = _
  rw [lma, sl_map, gapA_map f a K]; rfl
theorem gapB_map {α β : Type} (f : α → β) (b : List α) : ∀ (K : List T3) (j : Nat), (gapB b j K).map f = gapB (b.map f) j K
 | [], j => List.map_drop ..
 | r :: K, j => by
  show (sl b j r.2.1 ++ gapB b _ K).map f = _
  rw [lma, sl_map, gapB_map f b K]; rfl
theorem shared_len (za zb : List Int) : sharedN za zb = ((kk za).filter fun x => decide (x ∈ kk zb)).length := by
 unfold sharedN kk
 rw [List.filter_map, llm]; rfl
theorem kk_drop (zx zy : List Int) : kk ((firstsL (zx ++ zy)).drop (firstsL zx).length) = (kk (firstsL zy)).filter fun x => !decide (x ∈ kk (firstsL zx)) := by
 rw [firsts_app, List.drop_left]
 unfold kk
 rw [List.filter_map]; rfl
theorem kk_dbl (l : List Int) : (kk (firstsL l) = kk l) ↔ (kk l).Nodup := ⟨fun e => e ▸ firsts_nodup l, fun h => by rw [firsts_self h]⟩
section
variable {A B : List Int} {K S : List T3} {zx zy : List Int}
theorem sub_len {l m : List Int} : (l.filter fun x => decide (x ∈ m)).length = l.length ↔ ∀ x ∈ l, x ∈ m := by
 rw [List.length_filter_eq_length_iff]
 exact ⟨fun h x hx => of_decide_eq_true (h x hx), fun h x hx => decide_eq_true (h x hx)⟩
theorem both_len (hA : A.Nodup) (hB : B.Nodup) : (A.filter fun x => decide (x ∈ B)).length = (B.filter fun x => decide (x ∈ A)).length :=
 (perm_of_mem (hA.sublist List.filter_sublist) (hB.sublist List.filter_sublist) fun c => by rw [lmf, lmf, decide_eq_true_eq, decide_eq_true_eq]; exact And.comm).length_eq
theorem perm_iff (hA : A.Nodup) (hB : B.Nodup) : A.Perm B ↔ (∀ x ∈ A, x ∈ B) ∧ ∀ x ∈ B, x ∈ A := ⟨fun p => ⟨fun x h => p.mem_iff.mp h, fun x h => p.mem_iff.mpr h⟩, fun h => perm_of_mem hA hB fun c => ⟨h.1 c, h.2 c⟩⟩
theorem two_s {s a b : Nat} (h1 : s ≤ a) (h2 : s ≤ b) : 2 * s = a + b ↔ s = a ∧ s = b := by omega
theorem min_s {s a b : Nat} (h1 : s ≤ a) (h2 : s ≤ b) : s = min a b ↔ s = a ∨ s = b := by omega
theorem within_eq {s a b : Nat} : [(a : Int), (b : Int)].any (· == (s : Int)) = decide (s = a ∨ s = b) := by
 rw [bei, List.any_eq_true, decide_eq_true_eq]
 constructor
 ·rintro ⟨z, hz, e⟩
  have e := eq_of_beq e
  rcases lmc.mp hz with q | q
  ·exact .inl (Int.ofNat.inj (e.symm.trans q))
  ·exact .inr (Int.ofNat.inj (e.symm.trans (lms.mp q)))
 ·rintro (q | q)
  ·exact ⟨_, .head _, by rw [q]; exact beq_self_eq_true _⟩
  ·exact ⟨_, .tail _ (.head _), by rw [q]; exact beq_self_eq_true _⟩
theorem told1 (hA : A.Nodup) (hB : B.Nodup) (ha : A.length ≤ 9) (hb : B.length ≤ 9) : (Float64.cmp (qr (A.filter fun x => decide (x ∈ B)).length (A.length + B.length)) one1 == some Ordering.eq) = decide (A.Perm B) := by
 have s1 := List.length_filter_le (fun x => decide (x ∈ B)) A
 have s2 : (A.filter fun x => decide (x ∈ B)).length ≤ B.length := both_len hA hB ▸ List.length_filter_le _ _
 by_cases h : A.length + B.length = 0
 ·rw [h, qr_one0]
  have e1 := List.eq_nil_of_length_eq_zero (Nat.eq_zero_of_add_eq_zero_right h)
  have e2 := List.eq_nil_of_length_eq_zero (Nat.eq_zero_of_add_eq_zero_left h)
  rw [e1, e2]; rfl
 ·rw [qr_one _ _ (Nat.lt_succ_of_le (Nat.add_le_add ha hb)) (Nat.lt_succ_of_le (nlt s1 ha)) h]
  refine decide_eq_decide.mpr ((two_s s1 s2).trans ?_)
  rw [perm_iff hA hB, ← sub_len, ← sub_len, ← both_len hA hB]
theorem told3 (hA : A.Nodup) (hB : B.Nodup) (ha : A.length ≤ 9) (hb : B.length ≤ 9) :
  (Float64.cmp (qr (A.filter fun x => decide (x ∈ B)).length (A.length + B.length)) (qr (min A.length B.length) (A.length + B.length)) == some Ordering.eq) = [(A.length : Int), (B.length : Int)].any (· == ((A.filter fun x => decide (x ∈ B)).length : Int)) := by
 have s1 := List.length_filter_le (fun x => decide (x ∈ B)) A
 have s2 : (A.filter fun x => decide (x ∈ B)).length ≤ B.length := both_len hA hB ▸ List.length_filter_le _ _
 rw [within_eq]
 by_cases h : A.length + B.length = 0
 ·have e1 := List.eq_nil_of_length_eq_zero (Nat.eq_zero_of_add_eq_zero_right h)
  rw [h, qr_zero, e1]; rfl
 ·rw [qr_eq _ _ _ (Nat.lt_succ_of_le (Nat.add_le_add ha hb)) (Nat.lt_succ_of_le (nlt s1 ha)) (Nat.lt_succ_of_le (nlt (Nat.min_le_left _ _) ha)) h]
  exact decide_eq_decide.mpr (min_s s1 s2)
end
structure PL (zx zy : List Int) (S K : List T3) : Prop where
 hs : Sorted (kk (firstsL zx)) (kk (firstsL zy)) S
 hp : K.Perm (Gr [] S)
 c : Chn (kk (firstsL zx)) (kk (firstsL zy)) 0 0 K
 nx : (firstsL zx).length ≤ 9
 ny : (firstsL zy).length ≤ 9
noncomputable abbrev strB (A B : List Int) : Bool := decide ((A.filter fun x => decide (x ∈ B)) = B.filter fun x => decide (x ∈ A))
section
variable {zx zy : List Int} {S K : List T3}
theorem PL.str (P : PL zx zy S K) {p : Prop} [Decidable p] (h : Full (kk (firstsL zx)) (kk (firstsL zy)) K ↔ p) : decide p = strB (kk (firstsL zx)) (kk (firstsL zy)) :=
 decide_eq_decide.mpr (h.symm.trans (full_straight (firsts_nodup zx) (firsts_nodup zy) P.hs P.hp P.c))
theorem PL.lenx (P : PL zx zy S K) : (kk (firstsL zx)).length ≤ 9 := by rw [llm]; exact P.nx
theorem PL.leny (P : PL zx zy S K) : (kk (firstsL zy)).length ≤ 9 := by rw [llm]; exact P.ny
theorem PL.sign1 (P : PL zx zy S K) : (Float64.cmp (qr (sizes K) ((firstsL zx).length + (firstsL zy).length)) (qr (sharedN (firstsL zx) (firstsL zy)) ((firstsL zx).length + (firstsL zy).length)) == some Ordering.eq) = strB (kk (firstsL zx)) (kk (firstsL zy)) := by
 have k1 : sizes K ≤ 9 := by rw [← kept_len P.c]; exact nlt (c_subA P.c).length_le P.lenx
 have k2 : sharedN (firstsL zx) (firstsL zy) ≤ 9 := nlt (sharedN_le _ _) P.nx
 by_cases h : (firstsL zx).length + (firstsL zy).length = 0
 ·have e1 := List.eq_nil_of_length_eq_zero (Nat.eq_zero_of_add_eq_zero_right h)
  have e2 := List.eq_nil_of_length_eq_zero (Nat.eq_zero_of_add_eq_zero_left h)
  rw [h, qr_zero, e1, e2]; rfl
 ·rw [qr_eq _ _ _ (Nat.lt_succ_of_le (Nat.add_le_add P.nx P.ny)) (Nat.lt_succ_of_le k1) (Nat.lt_succ_of_le k2) h]
  exact P.str (by rw [full_len (firsts_nodup zx) P.c, kept_len P.c, shared_len])
theorem PL.sign2 (P : PL zx zy S K) {l : List Int} (e : kk l = laidK (kk (firstsL zx)) (kk (firstsL zy)) 0 0 K) : decide (kk (firstsL l) = kk l) = strB (kk (firstsL zx)) (kk (firstsL zy)) :=
 P.str ((full_laid (firsts_nodup zx) (firsts_nodup zy) P.c).trans (by rw [kk_dbl, e]))
theorem PL.sign3 (P : PL zx zy S K) {l : List Int} (e : kk l = gapB (kk (firstsL zy)) 0 K) : decide (kk ((firstsL (zx ++ zy)).drop (firstsL zx).length) = kk l) = strB (kk (firstsL zx)) (kk (firstsL zy)) :=
 P.str ((full_comes (firsts_nodup zy) P.c).trans (by rw [kk_drop, e]; exact eq_comm))
theorem PL.sign4 (P : PL zx zy S K) {l : List Int} (e : kk l = gapA (kk (firstsL zx)) 0 K) : decide (kk ((firstsL (zy ++ zx)).drop (firstsL zy).length) = kk l) = strB (kk (firstsL zx)) (kk (firstsL zy)) :=
 P.str ((full_goes (firsts_nodup zx) P.c).trans (by rw [kk_drop, e]; exact eq_comm))
theorem PL.laid (P : PL zx zy S K) {l : List Int} (e : kk l = laidK (kk (firstsL zx)) (kk (firstsL zy)) 0 0 K) : cmpL l (zx ++ zy) = true :=
 (cmpL_iff _ _).mpr fun c => by
  rw [e, laid_kinds P.c, firsts_mem, firsts_mem]
  show _ ↔ c ∈ (zx ++ zy).map kd
  rw [lma, lmp]
theorem told2 (zx zy : List Int) : cmpL zx zy = decide ((kk (firstsL zx)).Perm (kk (firstsL zy))) := by
 rw [bei, cmpL_iff, decide_eq_true_eq, perm_iff (firsts_nodup zx) (firsts_nodup zy)]
 exact ⟨fun h => ⟨fun c m => (firsts_mem zy c).mpr ((h c).mp ((firsts_mem zx c).mp m)), fun c m => (firsts_mem zx c).mpr ((h c).mpr ((firsts_mem zy c).mp m))⟩,
  fun h c => ⟨fun m => (firsts_mem zy c).mp (h.1 c ((firsts_mem zx c).mpr m)), fun m => (firsts_mem zx c).mp (h.2 c ((firsts_mem zy c).mpr m))⟩⟩
theorem held_iff (zx zy : List Int) : (cmpL (zx ++ zy) zx || cmpL (zx ++ zy) zy) = decide (((kk (firstsL zx)).filter fun x => decide (x ∈ kk (firstsL zy))).length = (kk (firstsL zx)).length ∨ ((kk (firstsL zx)).filter fun x => decide (x ∈ kk (firstsL zy))).length = (kk (firstsL zy)).length) := by
 have ap : ∀ c, c ∈ kk (zx ++ zy) ↔ c ∈ kk zx ∨ c ∈ kk zy := fun c => by show c ∈ (zx ++ zy).map kd ↔ _; rw [lma, lmp]
 have f1 : (cmpL (zx ++ zy) zx = true) ↔ ∀ c ∈ kk (firstsL zy), c ∈ kk (firstsL zx) := by
  rw [cmpL_iff]
  exact ⟨fun h c m => (firsts_mem zx c).mpr ((h c).mp ((ap c).mpr (.inr ((firsts_mem zy c).mp m)))), fun h c => (ap c).trans ⟨fun m => m.elim id fun m => (firsts_mem zx c).mp (h c ((firsts_mem zy c).mpr m)), .inl⟩⟩
 have f2 : (cmpL (zx ++ zy) zy = true) ↔ ∀ c ∈ kk (firstsL zx), c ∈ kk (firstsL zy) := by
  rw [cmpL_iff]
  exact ⟨fun h c m => (firsts_mem zy c).mpr ((h c).mp ((ap c).mpr (.inl ((firsts_mem zx c).mp m)))), fun h c => (ap c).trans ⟨fun m => m.elim (fun m => (firsts_mem zy c).mp (h c ((firsts_mem zx c).mpr m))) id, .inr⟩⟩
 rw [bei, Bool.or_eq_true, decide_eq_true_eq, f1, f2, ← sub_len, ← sub_len, both_len (firsts_nodup zy) (firsts_nodup zx)]
 exact Or.comm
end
theorem mt239 (P : Params) : Mt P (sO "real_quick_ratio") 239 := ⟨by decide +kernel, by kernel_rfl, by kernel_rfl, by kernel_rfl⟩
section
variable {m lx ly F D th ot mi te la lb co d js : Addr} {oF oD : Obj} {tu ou ua ub : List Value} {zx zy za zb : List Int} {m4 m5 m6 m9 : Option Value} {Q : Flow → Shared → Prop} {al wi : Bool} {q : UInt64} {tq : Tok}
noncomputable abbrev OF1 (F : Addr) (oF : Obj) : List (Addr × Obj) := [(F, oF)]
theorem right_j (e : Ev env L N318 G318) (r : Room A 6) (B : Base w h₀) (S : St s₀ h₀ L N318 vs (OF1 F oF) s) (t : Two A env L F) (dF : DictO oF) (R : RF vs m lx ly th ot mi te la lb co) (TX : TL h₀ th tu zx) (TY : TL h₀ ot ou zy) (bx : zx.length ≤ 100) (by_ : zy.length ≤ 100)
  (hw : (cmpL (zx ++ zy) zx || cmpL (zx ++ zy) zy) = wi)
  (h : ∀ oF' s', DictO oF' → (∃ sl, oF' = { oF with slots := sl }) → St s₀ h₀ L N318 (vs.set 24 (some (.bool wi))) (OF1 F oF') s' → wpAny (model pw w) A (execs ((fnB (Mine.st 18)).drop 20) env) Q E s') :
  wpAny (model pw w) A (execs ((fnB (Mine.st 18)).drop 19) env) Q E s := by
 conv in (List.drop _ _) => whnf
 have b2 : zx.length + zy.length ≤ 1000 := nlt (Nat.add_le_add bx by_) (by decide)
 have b3 : (zx ++ zy).length ≤ 1000 := by rw [lla]; exact b2
 have l24 : 24 < vs.length := R.len ▸ nlo rfl
 refine wec (waa (wpAny_Or2 (cmp_ (zs1 := zx ++ zy) (zs2 := zx) e B S t dF (r.le (by decide)) (k := 6) rfl (ET.add e (i := 3) rfl R.a3 TX (j := 4) rfl R.a4 TY b2) (ET.nm e (i := 3) rfl R.a3 TX) b3 (nlt bx (by decide)) fun oF1 s₁ d1 x1 S => wtb ?_)))
 cases hb : cmpL (zx ++ zy) zx with
 | true =>
  rw [hb, Bool.true_or] at hw
  exact st_ e S (i := 24) rfl l24 fun s₂ S => h oF1 s₂ d1 x1 (hw ▸ S)
 | false =>
  rw [hb, Bool.false_or] at hw
  refine cmp_ (zs1 := zx ++ zy) (zs2 := zy) e B S t d1 (r.le (by decide)) (k := 6) rfl (ET.add e (i := 3) rfl R.a3 TX (j := 4) rfl R.a4 TY b2) (ET.nm e (i := 4) rfl R.a4 TY) b3 (nlt by_ (by decide)) fun oF2 s₂ d2 x2 S => ?_
  rw [hw]
  refine st_ e S (i := 24) rfl l24 fun s₃ S => h oF2 s₃ d2 ?_ S
  refine Ex1 x1 fun sl1 e1 => Ex1 x2 fun sl2 e2 => ⟨sl2, ?_⟩
  rw [e2, e1]
theorem right_k (e : Ev env L N318 G318) (r : Room A 6) (B : Base w h₀) (S : St s₀ h₀ L N318 vs (OF1 F oF) s) (t : Two A env L F) (dF : DictO oF) (R : RF vs m lx ly th ot mi te la lb co) (TX : TL h₀ th tu zx) (TY : TL h₀ ot ou zy) (bx : zx.length ≤ 100) (by_ : zy.length ≤ 100)
  (C : MC w h₀ m D la lb d js ua ub za zb) (hD : h₀.get? D = some oD) (f : FM oD la lb d js m4 m5 m6 m9) (a20 : At vs 20 (.float q tq)) (a22 : At vs 22 (.bool al)) (a23 : At vs 23 (.bool wi)) (a24 : At vs 24 (.bool wi))
  (h1 : (Float64.cmp q one1 == some Ordering.eq) = al) (h2 : cmpL zx zy = al) (h3 : (Float64.cmp q (qr (min za.length zb.length) (za.length + zb.length)) == some Ordering.eq) = wi)
  (h : ∀ oF' vs' s', DictO oF' → (∃ sl, oF' = { oF with slots := sl }) → St s₀ h₀ L N318 vs' (OF1 F oF') s' → Q (.ret (.bool true)) s') :
  wpAny (model pw w) A (execs ((fnB (Mine.st 18)).drop 20) env) Q E s := by
 conv in (List.drop _ _) => whnf
 have l25 : 25 < vs.length := R.len ▸ nlo rfl
 refine wec (waa (List_ (it_Compare (wpAny_Compare1 (ld e S (i := 20) rfl a20 (AutoFloatOps.wpAny_Constant_float (AutoFloatOps.eq_0 ?_))) rfl))))
 have S := S.same (s' := { s with toks := s.toks + 1 }) rfl rfl rfl
 rw [show (Float64.cmp q _ == some Ordering.eq) = al from h1]
 refine it_Call (cmp_ (zs1 := zx) (zs2 := zy) e B S t dF (r.le (by decide)) (k := 6) rfl (ET.nm e (i := 3) rfl R.a3 TX) (ET.nm e (i := 4) rfl R.a4 TY) (nlt bx (by decide)) (nlt by_ (by decide)) fun oF1 s₁ d1 x1 S => ?_)
 rw [h2]
 refine it_Compare (wpAny_Compare1 (ld e S (i := 20) rfl a20 (callM0' e B S (i := 0) rfl R.a0 C.hx hD f (mt239 _) (use S (rqr_ (B.keeps S.keep) (S.keep _ _ hD) (C.keeps S.keep) (r.le (by decide)) f) fun v s₂ S _ => ex1 fun tv ev => ?_))) rfl)
 subst ev
 refine AutoFloatOps.eq_0 ?_
 rw [h3]
 refine it_Name (ld e S (i := 24) rfl a24 (it_nil (newList_ S (fun l s₃ S => st_ e S (i := 25) rfl l25 fun s₄ S => ?_) (by rw [see]; exact nlo rfl))))
 refine wec (wrs (wpAny_Compare1 (ld e S (i := 25) rfl (At.eq l25) (List_ ?_)) rfl))
 have a22 : At (vs.set 25 (some (.ref l))) 22 (.bool al) := a22.ne
 have a23 : At (vs.set 25 (some (.ref l))) 23 (.bool wi) := a23.ne
 generalize vs.set 25 (some (.ref l)) = vs at S a22 a23
 refine it_Name (ld e S (i := 22) rfl a22 (it_Name (ld e S (i := 22) rfl a22 (it_Name (ld e S (i := 23) rfl a23 (it_Name (ld e S (i := 23) rfl a23 (it_nil (newList_ S (fun l2 s₅ S => ?_) (by rw [see]; exact nlo rfl))))))))))
 refine Ex1 (reads_bools (bs := [al, al, wi, wi]) (S.ls (j := 1) rfl)) fun as r1 => ?_
 refine Ex1 (reads_bools (bs := [al, al, wi, wi]) (S.ls (j := 0) rfl)) fun bs r2 => ?_
 refine compareEq_reads r1 r2 (lay_map fun _ _ => rfl) (lay_map fun _ _ => rfl) ?_ ?_
 ·have : PyData.depthAll ([al, al, wi, wi].map PyData.bool) ≤ 0 := deep_map fun _ _ => nlr _
  exact nol (Nat.add_le_add_left (nlt (Nat.min_le_left _ _) (Nat.succ_le_succ this)) _) (r.u (n := 1) (by decide))
 rw [show PyData.eqv (.list _) (.list _) = decide _ from bools_eqv _ _, decide_eq_true rfl]
 exact h oF1 vs s₅ d1 x1 (S.drop (own' := OF1 F oF1) ((lsc _ _).trans (lsc _ _)))
end
noncomputable def D9 : List Int := [0, 2, 4, 6, 7, 8, 9, 10, 11]
theorem kd_in : ∀ n < 12, kindL.getD n 0 ∈ D9 := by decide +kernel
theorem firsts_le {zs : List Int} (k : Ks zs) : (firstsL zs).length ≤ 9 := by
 have p : (kk (firstsL zs)).Perm (D9.filter fun x => decide (x ∈ kk (firstsL zs))) :=
  perm_of_mem (firsts_nodup zs) ((show D9.Nodup by decide +kernel).sublist List.filter_sublist) fun c => ⟨fun m => lmf.mpr ⟨Ex1 (lmm.mp m) fun z => an2 fun hz e => e ▸ kd_in z.toNat ((Int.toNat_lt (k.firsts z hz).1).mpr (k.firsts z hz).2), decide_eq_true m⟩, fun m => of_decide_eq_true (lmf.mp m).2⟩
 rw [← llm (f := kd), p.length_eq]
 exact List.length_filter_le _ D9
theorem sizes_end (K : List T3) (a b : Nat) : sizes (K ++ [(a, b, 0)]) = sizes K := by unfold sizes; rw [lma, List.sum_append]; rfl
theorem len_sizes {A B : List Int} : ∀ {K : List T3} {i j : Nat}, Chn A B i j K → K.length ≤ sizes K
 | [], _, _, _ => nlr _
 | b :: K, _, _, h => by
  have := len_sizes h.2.2.2.2
  rw [show sizes (b :: K) = b.2.2 + sizes K from List.sum_cons .., List.length_cons, Nat.add_comm]
  exact Nat.add_le_add h.2.1 this
section
variable {zx zy : List Int} {S K : List T3}
theorem PL.sz (P : PL zx zy S K) : sizes K ≤ 9 := by rw [← kept_len P.c]; exact nlt (c_subA P.c).length_le P.lenx
theorem PL.codes (P : PL zx zy S K) (x : T3) : (codesC 0 0 (K ++ [x])).length ≤ 40 :=
 nlt (codesC_len _ 0 0) (by rw [lla]; exact Nat.mul_le_mul_left 2 (Nat.add_le_add (nlt (len_sizes P.c) (nlt P.sz (by decide : 9 ≤ 19))) (nlr 1)))
theorem PL.lay (P : PL zx zy S K) : layAll (firstsL zx) (firstsL zy) (codesC 0 0 (K ++ [((kk (firstsL zx)).length, (kk (firstsL zy)).length, 0)])) = (laidK (firstsL zx) (firstsL zy) 0 0 K, gapA (firstsL zx) 0 K, gapB (firstsL zy) 0 K) :=
 lay_codes _ _ (llm ..).symm (llm ..).symm ([], [], []) P.c
theorem PL.laidL (P : PL zx zy S K) : (laidK (firstsL zx) (firstsL zy) 0 0 K).length ≤ 1000 := by
 rw [← llm (f := kd), laid_map, (laid_mem P.c).length_eq, lla]
 exact nlt (Nat.add_le_add P.lenx (nlt (gapB_sub _ P.c).length_le P.leny)) (by decide)
end
structure OldV (h : Heap) (v : Value) : Prop where
 hand : handedIn v = true
 ni : ∀ {g : Heap} {a : Addr} {xs : List Value}, Keeps h g → h.get? a = none → Ls g a xs → NotIs g (.ref a) v
theorem OldV.str {h : Heap} {x : Str} {t : Tok} : OldV h (.str x t) := ⟨rfl, fun _ _ _ => .str⟩
theorem OldV.list {h : Heap} {l : Addr} {us : List Value} (hl : Ls h l us) : OldV h (.ref l) := ⟨rfl, fun k n ha => .lists ha (hl.keeps k) fun q => Ex1 hl fun c e => by rw [← q, n] at e; cases e⟩
inductive Mat (h : Heap) (oD : Obj) : Prop
 | mk {v1 v2 : Value} {m4 m5 m6 m7 m8 m9 : Option Value} : FldO oD (Loc MN [some .none, some v1, some v2, some (.bool true), m4, m5, m6, m7, m8, m9]) → OldV h v1 → OldV h v2 → Mat h oD
theorem OldV.keeps {h h' : Heap} {v : Value} (o : OldV h v) (k : Keeps h h') : OldV h' v := ⟨o.hand, fun k' n => o.ni (k.trans k') (k.none n)⟩
theorem Mat.keeps {h h' : Heap} {oD : Obj} (m : Mat h oD) (k : Keeps h h') : Mat h' oD := match m with | .mk f a b => .mk f (a.keeps k) (b.keeps k)
theorem HB.set22 {h : Heap} {vs : List (Option Value)} {a1 a2 lo lt sh : Addr} {uo ut us : List Value} {as bs zs : List Int} (H : HB h vs a1 a2 lo lt sh uo ut us as bs zs) {u : Option Value} : HB h (vs.set 22 u) a1 a2 lo lt sh uo ut us as bs zs :=
 { H with a18 := H.a18.ne, len := (lls ..).trans H.len }
section
variable {F : Addr}
variable {m D lx ly : Addr} {oD : Obj} {ps : Array Value} {xs ys : List Value} {zx zy : List Int} {el : Env}
theorem St.anew {s' : Shared} {oF oD' : Obj} {ps' : Array Value} {sl : Array (Option Value)} (S : St s₀ h₀ F ns vs [(220, tabO ps), (D, oD)] s) (hF : s.heap.get? F = some oF) (k : Keeps h₀ s'.heap) (hF' : s'.heap.get? F = some { oF with slots := sl }) (h2 : s'.heap.get? 220 = some (tabO ps')) (hD : s'.heap.get? D = some oD') : St s' h₀ F ns vs [(220, tabO ps'), (D, oD')] s' := by
 refine Ex3 S.nsp fun o es ep => an2 fun ho r => ?_
 rw [ho] at hF
 cases hF
 exact ⟨⟨_, es, ep, hF', r⟩, k, S.off, fun p hp => (lmc.mp hp).elim (fun e => e ▸ ⟨h2, (S.nw _ (.head _)).2⟩) fun hp => lms.mp hp ▸ ⟨hD, (S.nw _ (.tail _ (.head _))).2⟩, S.nd, rfl, rfl⟩
theorem law_right {R : Result → Shared → Prop} (B : Base w h₀) (S : St s₀ h₀ F ns vs [(220, tabO ps), (D, oD)] s) (ok : TriplesOk ps.toList) (G : AllBare s.gens) (hfr : A.frames = some [el]) (hke : el.scope.kind ≠ .module) (hfe : el.frame = some F) (r : Room A 7) (hm : h₀.get? m = some (instObj 242 D)) (M : Mat h₀ oD)
  (X : IL h₀ lx xs zx) (Y : IL h₀ ly ys zy) (kx : Ks zx) (ky : Ks zy) (bx : zx.length ≤ 100) (by_ : zy.length ≤ 100)
  (h : ∀ g ps oD s', Keeps h₀ g → St s' g F ns vs [(220, tabO ps), (D, oD)] s' → TriplesOk ps.toList → AllBare s'.gens → s'.os = s.os → Mat g oD → R (.ok (.ret (.bool true))) s') :
  codeAny (model pw w) A (.call (.ref 318) ⟨[.ref m, .ref lx, .ref ly], []⟩) R s := by
 obtain ⟨f, V1, V2⟩ := M
 have Bs := B.keeps S.keep
 refine call_fK Bs (is318 Bs) ok318 r.lt (vals := [.ref m, .ref lx, .ref ly]) (by kernel_rfl) rfl fun env L s' a1 a2 o1 o2 Q q e fe c1 c2 d1 d2 S1 => ?_
 have hh : (A.deeper env).handled = none := r.handled
 have r := r.deeper env
 have hu : (A.deeper env).units + 5 < cLine := r.u (by decide)
 have t : Two (A.deeper env) env L F := ⟨⟨el, by show A.frames.map _ = _; rw [hfr]; rfl, hke, hfe⟩, by rw [e.kind]; nofun, fe⟩
 refine Ex3 (id S.nsp) fun oF es ep => an2 fun hF => an2 fun dF _ => ?_
 have dF : DictO oF := ⟨es, ep, dF⟩
 have nw2 := S.nw _ (.head _)
 have nwD := S.nw _ (.tail _ (.head _))
 have n2D : (220 : Addr) ≠ D := fun z => (lnc.mp S.nd).1 (lms.mpr z)
 have S1 := ((S1.take nwD.1).take (hideL_get nw2.1 fun z => n2D (lms.mp z))).take (hideL_get (hideL_get hF fun z => nwD.2.1 (lms.mp z).symm) fun z => nw2.2.1 (lms.mp z).symm)
 have S1 : St s h₀ L N318 _ (OR F oF ps D oD a1 o1 a2 o2) s' := S1.unbase (enter (enter (enter S.keep nwD.2.2) nw2.2.2) S.off)
 refine right_a e hh (r.le (by decide)) B c1 c2 S1 dF.nx f.dict.nx d1 d2 X Y kx ky bx by_ fun g1 th ot mi te la lb lo lt o1 o2 tu ou ua ub uo ut um ue s1 k1 S1 d1 d2 TX TY TA TB X Y IM IE fa fb => ?_
 have B1 := B.keeps k1
 have nx := firsts_le kx
 have ny := firsts_le ky
 refine right_b e hh (r.le (by decide)) B1 S1 dF.nx (.cell d1) (.cell d2) (k1 _ _ hm) f V1.hand V2.hand (V1.ni k1 fa TA.l) (V2.ni k1 fb TB.l) TA TB IM IE kx ky nx ny fun g2 oD d js m9 s2 k2 S1 f b => ?_
 have TX := TX.keeps k2
 have TY := TY.keeps k2
 have TA := TA.keeps k2
 have TB := TB.keeps k2
 have X := X.keeps k2
 have Y := Y.keeps k2
 have k2 := k1.trans k2
 have C : MC w g2 m D la lb d js ua ub (firstsL zx) (firstsL zy) := ⟨k2 _ _ hm, TA.l, TA.t, nx, TB.l, TB.t, ny, b, firsts_nodup zx, firsts_nodup zy⟩
 refine Ex1 (sorted_ex (A := kk (firstsL zx)) (firsts_nodup zy) (by rw [llm]; exact nlt nx (by decide))) fun Sr hs => ?_
 refine right_c e hh r (B.keeps k2) c1 c2 S1 dF.nx d1 d2 C f hs X Y fun g3 oD co lr us os K s3 k3 S1 f hco Z hlr M kok hp => ?_
 have P : PL zx zy Sr K := ⟨hs, hp, chn_zero C.nda C.ndb kok, nx, ny⟩
 refine right_d e hh hu S1 (TA.keeps k3) (TB.keeps k3) nx ny hco Z (P.codes _) fun g4 vs4 s4 k4 S1 R LY => ?_
 rw [P.lay] at LY
 have k34 := k3.trans k4
 refine right_e e hh r (B.keeps (k2.trans k34)) c1 c2 S1 d1 d2 (X.keeps k34) (Y.keeps k34) (C.keeps k34) f R LY fun g5 vs5 oD sh us5 fb t5 s5 k5 S1 R LY a18 IZ a19 a20 f => ?_
 have k35 := k34.trans k5
 have k45 := k4.trans k5
 refine right_f e hh r (B.keeps (k2.trans k35)) S1 G ok (C.keeps k35) f (hlr.keeps k45) (M.imp fun _ _ z => z.keeps k45) (by rw [sizes_end]; exact nol P.sz (by decide)) R LY (TX.keeps k35) (TY.keeps k35) bx by_ P.laidL ⟨a18, a19, a20⟩ fun s₁ g6 vs6 ps si s6 os6 hb ok k6 S1 R LY RG a21 hsi => ?_
 rw [sizes_end, P.sign1, P.sign2 (laid_map ..), P.sign3 (gapB_map ..), P.sign4 (gapA_map ..)] at hsi
 have k36 := k35.trans k6
 have k56 := k5.trans k6
 refine right_g e r (B.keeps (k2.trans k36)) S1 t dF R LY RG a21 hsi (TX.keeps k36) (TY.keeps k36) bx by_ P.laidL (P.laid (laid_map ..)) fun oF7 s7 dF7 x7 S1 => ?_
 have nw : ∀ p ∈ [(220, tabO ps), (D, oD), (a1, o1), (a2, o2)], (hideL s7.heap (L :: [F])).get? p.1 = some p.2 := fun p hp => by
  have P := S1.nw p (.tail _ hp)
  refine hideL_get P.1 fun m => (lmc.mp m).elim P.2.1 fun m => ?_
  exact (lnc.mp S1.nd).1 (lms.mp m ▸ lme (f := (·.1)) hp)
 have S7 := S1.drop (own' := OF1 F oF7) (.cons_cons _ (List.nil_sublist _))
 refine An2 S7.rebase fun S7 k7 => ?_
 change Keeps g6 (hideL s7.heap (L :: [F])) at k7
 change St s₁ (hideL s7.heap (L :: [F])) L N318 vs6 _ s7 at S7
 generalize hideL s7.heap (L :: [F]) = g7 at S7 k7 nw
 have k37 := k36.trans k7
 have B7 := B.keeps (k2.trans k37)
 have hl : ∀ {zs : List Int}, (firstsL zs).length ≤ 9 → (kk (firstsL zs)).length ≤ 9 := fun h => by rw [llm]; exact h
 have H : HB g7 vs6 a1 a2 lo lt sh uo ut us5 _ _ _ := ⟨⟨o1, nw _ (.tail _ (.tail _ (.head _))), d1⟩, ⟨o2, nw _ (.tail _ (.tail _ (.tail _ (.head _)))), d2⟩, X.keeps k37, Y.keeps k37, IZ.keeps (k6.trans k7), RG.a18, C.nda, C.ndb, hl nx, hl ny, nlt (List.length_filter_le _ _) (hl nx), R.len⟩
 have t1 := told1 C.nda C.ndb (hl nx) (hl ny)
 have t3 := told3 C.nda C.ndb (hl nx) (hl ny)
 rw [← shared_len, llm, llm] at t1 t3
 have t4 := held_iff zx zy
 rw [← within_eq, ← shared_len, llm, llm] at t4
 refine right_h e r B7 S7 c1 c2 H fun s8 S7 => right_i e B7 S7 c1 c2 H.set22 fun s9 S7 => ?_
 rw [← shared_len, llm, llm] at S7
 have a20 := RG.a20
 have l24 : 24 < vs6.length := R.len ▸ nlo rfl
 have R2 := fun u v : Option Value => (R.set (k := 22) (u := u) (by decide)).set (k := 23) (u := v) (by decide)
 refine right_j e r B7 S7 t dF7 (R2 _ _) (TX.keeps k37) (TY.keeps k37) bx by_ t4 fun oF10 s10 dF10 x10 S7 => ?_
 refine right_k e r B7 S7 t dF10 ((R2 _ _).set (by decide)) (TX.keeps k37) (TY.keeps k37) bx by_ (C.keeps k37) (nw _ (.tail _ (.head _))) f (At.ne (At.ne (At.ne a20))) (At.ne (At.ne (At.eq (Nat.lt_of_succ_lt (Nat.lt_of_succ_lt l24))))) (At.ne (At.eq (ltS (Nat.lt_of_succ_lt l24)))) (At.eq (ltS (ltS l24))) t1 (told2 zx zy) t3 fun oF11 vs11 s11 dF11 x11 S7 => q _ _ ?_
 refine Ex1 x7 fun sl7 e7 => Ex1 x10 fun sl10 e10 => Ex1 x11 fun sl11 e11 => ?_
 have S8 := S.anew (sl := sl11) hF ((k2.trans k37).trans S7.keep) ((S7.get (j := 0) rfl).trans (by rw [e11, e10, e7])) (S7.keep _ _ (nw _ (.head _))) (S7.keep _ _ (nw _ (.tail _ (.head _))))
 have k9 := k37.trans S7.keep
 exact h _ _ _ _ S8.rebase.2 S8.rebase.1 ok (S7.gens ▸ hb) (S7.os.trans os6) (.mk f (.list ((TA.l.keeps k9).stay S8 (all2o .tab f.dict.nx))) (.list ((TB.l.keeps k9).stay S8 (all2o .tab f.dict.nx))))
end
theorem keep_242 (P : Params) : keepIn (KF P) (.ref 242) = true := by kernel_rfl
theorem gl_rows {h : Heap} (B : Base w h) : Gl h (sO "_law_rows") (.ref 289) := B.glob (by kernel_rfl)
theorem gl_sm {h : Heap} (B : Base w h) : Gl h (sO "SequenceMatcher") (.ref 242) := B.glob (by kernel_rfl)
theorem gl_right {h : Heap} (B : Base w h) : Gl h (sO "_law_right") (.ref 318) := B.glob (by kernel_rfl)
theorem upto9 {y : Str} {iy k : Nat} {l : Addr} {us : List Value} {p1 p2 p3 p4 : Pos} {Q : Value → Shared → Prop} (e : Ev env L ns gs) (S : St s₀ h₀ L ns vs own s) (hy : ns[iy]? = some y) (hv : At vs iy (.ref l)) (hl : h₀.IsList l us.toArray) (hz : us.length ≤ 1000)
  (h : ∀ D s', St s₀ h₀ L ns vs ((D, listOf (us.take 9).toArray 0) :: own) s' → Q (.ref D) s') :
  wpAny (model pw w) A (eval (.Subscript (.Name y p1) (.Slice none (some (.Constant (.int 9) k p2)) none p3) p4) env) Q E s := by
 refine wpAny_Subscript_list_slice (ld e S hy hv (evalPart_none_step ?_)) (fun _ _ => rfl)
 rw [evalPart_some]
 refine cint S fun t s₁ S => ⟨l, us.toArray, none, some (9 : Nat), rfl, S.keep.isList hl, by rw [lst, see]; exact nlt hz (nal 1000 16776216), .none, .int _ _, ?_⟩
 rw [slicePick_upto']
 have S2 := (S.keeps (s' := { s₁ with heap := s₁.heap.push { cls := .type "slice", data := .fields #[.none, .int 9 t, .none] } }) (Keeps.push _ _) rfl rfl).push (s' := { s₁ with heap := (s₁.heap.push { cls := .type "slice", data := .fields #[.none, .int 9 t, .none] }).push (listOf (us.take 9).toArray 0) }) (listOf (us.take 9).toArray 0) rfl rfl rfl rfl
 rw [show (s₁.heap.push { cls := .type "slice", data := .fields #[.none, .int 9 t, .none] }).objs.size = s₁.heap.objs.size + 1 from Heap.size_push ..] at S2
 exact h _ _ S2
theorem lr_ {y z : Str} {D x ly lz : Addr} {oD : Obj} {ps : Array Value} {us ws : List Value} {zy zz : List Int} {j k : Nat} {p1 p2 p3 p4 p5 : Pos} {Q : Value → Shared → Prop} (e : Ev env L N325 [sO "_law_rows", sO "SequenceMatcher", sO "_law_right"]) (B : Base w h₀) (S' : St s₀ h₀ L N325 vs [(220, tabO ps), (D, oD)] s) (ok : TriplesOk ps.toList) (G : AllBare s₀.gens) (hfr : A.frames = some [env]) (fe : env.frame = some L) (r : Room A 7) (hx : h₀.get? x = some (instObj 242 D)) (M : Mat h₀ oD)
  (v3 : At vs 3 (.ref x)) (hj : N325[j]? = some y) (vj : At vs j (.ref ly)) (Y : IL h₀ ly us zy) (hk : N325[k]? = some z) (vk : At vs k (.ref lz)) (Z : IL h₀ lz ws zz) (ky : Ks zy) (kz : Ks zz) (by_ : zy.length ≤ 100) (bz : zz.length ≤ 100)
  (h : ∀ g ps oD s', Keeps h₀ g → St s' g L N325 vs [(220, tabO ps), (D, oD)] s' → TriplesOk ps.toList → AllBare s'.gens → s'.os = s₀.os → Mat g oD → Q (.bool true) s') :
  wpAny (model pw w) A (eval (.Call (.Name (sO "_law_right") p1) [.Name (sO "matcher") p2, .Name y p3, .Name z p4] [] p5) env) Q E s :=
 callName e S' (i := 2) rfl (gl_right B) (o := o318 w.params) (fd := fd318) (B.at (by kernel_rfl)) (by kernel_rfl) (it_Name (ld e S' (i := 3) rfl v3 (it_Name (ld e S' hj vj (it_Name (ld e S' hk vk (it_nil ⟨S'.keep, law_right B S' ok (S'.gens ▸ G) hfr (by rw [e.kind]; nofun) fe r hx M Y Z ky kz by_ bz fun g ps oD s' k S ok hb os M => h g ps oD s' k S ok hb (os.trans S'.os) M⟩)))))))
theorem law_ {R : Result → Shared → Prop} {l : Addr} {xs : List Value} {zs : List Int} (B : Base w (hideL s.heap [220])) (h2 : s.heap.get? 220 = some (tabO #[])) (G : AllBare s.gens) (r : Room A 9) (hfr : A.frames = some []) (hl : (hideL s.heap [220]).IsList l xs.toArray) (I : IntsAre xs zs) (hz : zs.length ≤ 63)
  (h : ∀ ps s', Keeps (hideL s.heap [220]) s'.heap → s'.heap.get? 220 = some (tabO ps) → AllBare s'.gens → s'.os = s.os → R (.ok (.ret (.bool true))) s') : codeAny (model pw w) A (.call (.ref 325) ⟨[.ref l], []⟩) R s := by
 have B' := B.keeps (hideL_sub _ _)
 refine call_fFR B' (is325 B') ok325 r.lt (vals := [.ref l]) (.of_eq (by kernel_rfl)) rfl fun env L s' Q q e fe S => ?_
 have hh : (A.deeper env).handled = none := r.handled
 have r := r.deeper env
 have hfr : (A.deeper env).frames = some [env] := by show A.frames.map _ = _; rw [hfr]; rfl
 have hke : env.scope.kind ≠ .module := by rw [e.kind]; nofun
 have S := S.take h2
 have nx1 : ∀ p ∈ [((220 : Addr), tabO #[])], NX p.2 := fun p hp => lms.mp hp ▸ .tab
 have lz := ints_len I
 conv in (fnB _) => whnf
 refine wec (Assign_Tuple (callName e S (i := 0) rfl (gl_rows B) (o := o289 w.params) (fd := fd289) (B.at (by kernel_rfl)) (by kernel_rfl) (it_BinOp (wbb (List_ (consts_ (zs := [2, 28, 5, 42, 37]) (.cons (.cons (.cons (.cons (.cons .nil))))) S fun fv s₁ S I5 => newList_ S (fun lf s₂ S => upto9 e S (iy := 0) rfl rfl hl (by lia) fun lt s₃ S => addL_ S (S.ls (j := 1) rfl) (S.ls (j := 0) rfl) (by rw [see, ints_len I5, llt]; show 5 + _ ≤ _; lia) fun lc s₄ S => it_nil ⟨S.keep, ?_⟩) (by rw [see, ints_len I5]; exact nlo rfl)))))) rfl rfl)
 have hc := S.ls (j := 0) rfl
 have S := S.drop (own' := [(220, tabO #[])]) (.cons _ (.cons _ (.cons _ (.refl _))))
 refine use S (law_rows (B.keeps S.keep) (r.le (by decide)) hc (I5.append (all2_ints ((ints_all2 I).take 9))) (by rw [lla, llt]; show 5 + _ ≤ _; lia)) fun v s₅ S k5 hv => ?_
 have bn : ([2, 28, 5, 42, 37] ++ zs.take 9).length ≤ 14 := by rw [lla, llt]; exact Nat.add_le_add_left (Nat.min_le_left _ _) 5
 cases hv with | @mk a lf lg F G' zf zg hb hlf hlg IF IG kf kg bf bg =>
 have bf := nlt bf bn
 have bg := nlt bg bn
 have hlf := hlf.stay S nx1
 have hlg := hlg.stay S nx1
 refine wpAny_assign_Tuple hh ⟨_, hb, rfl, 0, rfl⟩ rfl rfl fun h' hb' => ?_
 refine An2 S.rebase fun S kh => ?_
 change Ls (hideL _ _) _ _ at hlf hlg
 generalize hideL s₅.heap _ = g at S kh hlf hlg
 have S := S.keeps (s' := { s₅ with heap := h' }) (extBut_size hb') rfl rfl
 refine aac (wan (st_ e S (i := 1) rfl (nlo rfl) fun s₆ S => aac (wan (st_ e S (i := 2) rfl (nlo rfl) fun s₇ S => assignInOrder_nil ?_))))
 have B := B.keeps kh
 refine wec (waa (callCls e B S (i := 1) rfl (gl_sm B) (keep_242 _) (it_Constant (cnone (it_nil ⟨S.keep, codeAny_mono (mk_ (B.keeps S.keep) (r.le (by decide))) ?_⟩)))))
 rintro res s₈ ⟨x, D, oD, d, t1, t2, js, ps, rfl, k8, g8, o8, nx, nD, ne, hx, hD, f⟩
 have fx := S.fresh2 nx
 have S := (S.made nD k8 hD g8 o8).perm (own' := [(220, tabO #[]), (D, oD)]) (.swap _ _ _)
 have hx := rest_get (L := L) (own := [(220, tabO #[]), (D, oD)]) hx fx.1 fun m => (lmc.mp m).elim (fun z => fx.2 (z ▸ .head _)) fun m => ne (lms.mp m)
 refine An2 S.rebase fun S k9 => ?_
 change (hideL _ _).get? _ = _ at hx
 generalize hideL s₈.heap _ = g2 at S k9 hx
 refine st_ e S (i := 3) rfl (nlo rfl) fun s₉ S => ?_
 have B := B.keeps k9
 have X : IL g2 lf F zf := ⟨hlf.keeps k9, IF⟩
 have Y : IL g2 lg G' zg := ⟨hlg.keeps k9, IG⟩
 have kb := kh.trans k9
 have le : ∀ {n : Nat}, n ≤ 14 → n ≤ 100 := fun h => nlt h (by decide)
 refine wec (wpAny_If (wib (wao (wpAny_isTrue_Not (isTrue_plain (lr_ e B S trivial (S.gens ▸ G) hfr fe (r.le (by decide)) hx (.mk f .str .str) rfl (j := 1) rfl rfl X (k := 2) rfl rfl Y kf kg (le bf) (le bg) fun g3 ps oD s₁₀ k3 S ok hb os1 M => wtb ?_))))))
 rw [Bool.not_true, if_neg bfn]
 have B := B.keeps k3
 refine wao (wpAny_isTrue_Not (isTrue_plain (lr_ e B S ok hb hfr fe (r.le (by decide)) (k3 _ _ hx) M rfl (j := 2) rfl rfl (Y.keeps k3) (k := 1) rfl rfl (X.keeps k3) kg kf (le bg) (le bf) fun g4 ps oD s₁₁ k4 S ok hb os2 M => wtb ?_)))
 rw [Bool.not_true, if_neg bfn]
 refine wpAny_allTrue_Or_nil ?_
 rw [if_neg bfn]
 have B := B.keeps k4
 have k34 := k3.trans k4
 have X := X.keeps k34
 have Y := Y.keeps k34
 have hx := k34 _ _ hx
 refine wen (wec (wrs (callName e S (i := 2) rfl (gl_right B) (o := o318 w.params) (fd := fd318) (B.at (by kernel_rfl)) (by kernel_rfl) (it_Name (ld e S (i := 3) rfl rfl (it_Name (ld e S (i := 2) rfl rfl (it_BinOp (wbb (ld e S (i := 1) rfl rfl (ld e S (i := 2) rfl rfl (addL_ S (X.l.keeps S.keep) (Y.l.keeps S.keep) (by rw [see, ints_len IF, ints_len IG]; lia) fun lc s₁₂ S => it_nil ⟨S.keep, ?_⟩))))))))))))
 refine Ex1 S.settle fun g5 => an5 fun k5 S hc _ _ => ?_
 refine law_right (B.keeps k5) S ok (S.gens ▸ hb) hfr (by rw [e.kind]; nofun) fe (r.le (by decide)) (k5 _ _ hx) (M.keeps k5) (Y.keeps k5) ⟨⟨_, hc⟩, IF.append IG⟩ kg (fun z hz => (lmp.mp hz).elim (kf z) (kg z)) (le bg) (by rw [lla]; exact nlt (Nat.add_le_add bf bg) (by decide)) fun g6 ps oD s₁₃ k6 S6 ok hb os3 M => q _ _ (h ps s₁₃ ?_ (S6.get (j := 0) rfl) hb ?_)
 ·exact (kb.trans (k34.trans (k5.trans k6))).trans S6.keep
 ·exact os3.trans (S.os.trans (os2.trans os1))
theorem off220 {h : Heap} {a : Addr} {o : Obj} (e : h.get? a = some o) (n : (a == 220) = false) : (hideL h [220]).get? a = some o := hideL_get e fun m => beq_eq_false_iff_ne.mp n (lms.mp m)
theorem Ns.off220 {h : Heap} {a : Addr} {m : Str → Option Value} (x : h.Ns a m) (n : (a == 220) = false) : (hideL h [220]).Ns a m := let ⟨o, es, ep, e, r⟩ := x; ⟨o, es, ep, Mine.off220 e n, r⟩
theorem kf220 (P : Params) : (KF P).lookup 220 = none := by kernel_rfl
theorem KG.off {P : Params} {h : Heap} (K : (KG P).In h) : (KF P).In (hideL h [220]) := fun a o e => by
 have n : (a == 220) = false := by
  rw [beq_eq_false_iff_ne]
  intro q
  rw [q, kf220] at e; cases e
 exact off220 (K a o (by unfold KG; rw [List.lookup_cons, n]; exact e)) n
theorem tab220 {P : Params} {h : Heap} (K : (KG P).In h) : isCodeTable h 220 := ⟨224, o224 P, _, K 224 _ (by kernel_rfl), rfl, rfl, rfl⟩
theorem law325 (P : Params) : nsFind (ents (o3 P)) (sO "law") = some (.ref 325) := by kernel_rfl
theorem post_gen {r : RowW} (h1 : r.returns = .bool) (h2 : r.post = .eq .res (.lit (.bool true))) (h3 : r.raises = []) {cl : Str → Option Addr} {mean : ExcName → Option Value} {args : List WData} {s₁ s' : Shared} (k : OldK s₁.heap s'.heap) (os : s'.os = s₁.os) (G : AllBare s'.gens) :
  GoodWG r.claim cl mean args s₁ (.ok (.ret (.bool true))) s' :=
 ⟨.inl ⟨_, .bool true, [], rfl, raisesW_false (h3 ▸ allW_false_nil), .bool _, postW_of (by rw [h1]; rfl) (X := true) (by rw [h2]; wtm_val) rfl, fun _ => ⟨List.nodup_nil, nofun⟩⟩, k, os, G⟩
theorem post_row {cl : Str → Option Addr} {mean : ExcName → Option Value} {args : List WData} {s₁ s' : Shared} (k : OldK s₁.heap s'.heap) (os : s'.os = s₁.os) (G : AllBare s'.gens) : GoodWG rowL.claim cl mean args s₁ (.ok (.ret (.bool true))) s' :=
 post_gen (by delta rowL OpenLaw.row; dsimp only) (by delta rowL OpenLaw.row; dsimp only) (by delta rowL OpenLaw.row; dsimp only) k os G
theorem old220 {P : Params} {h h' : Heap} {ps : Array Value} (K : (KG P).In h) (h2 : h.get? 220 = some (tabO #[])) (k : Keeps (hideL h [220]) h') (h2' : h'.get? 220 = some (tabO ps)) : OldK h h' where
 old b o e := by
  by_cases q : b = 220
  ·subst q
   rw [h2] at e; cases e
   exact .inr (.inl ⟨tab220 K, rfl, #[], ps, rfl, by rw [h2', Array.empty_append]⟩)
  ·exact .inl (k _ _ (hideL_get e fun m => q (lms.mp m)))
 there b o e := by
  by_cases q : b = 220
  ·subst q; exact ⟨_, h2'⟩
  ·exact ⟨o, k _ _ (hideL_get e fun m => q (lms.mp m))⟩
theorem walk : WalkL := by
 intro w s₀ s₁ mg mb G Y fa o pm cd doc dV kV ho hd hcd hD hmg hg args vals as hpre hlay hrd hwl hlo
 have K := kIn_of Y
 have T := G.T
 have B : Base w (hideL s₁.heap [220]) := ⟨KG.off K, let ⟨mc, a, b⟩ := T.nolimit; ⟨mc, Ns.off220 a rfl, b⟩, mg, mb, Ns.off220 T.g rfl, Ns.off220 T.b rfl, T.builtins⟩
 have e325 : fa = 325 := by
  refine Ex3 T.g fun o es ep => an4 fun ho hd hk hf => ?_
  rw [show mainGlobals = 3 from rfl, K 3 (o3 w.params) (by kernel_rfl)] at ho
  cases ho
  have := law325 w.params
  rw [show ents (o3 w.params) = es by unfold ents; rw [hd], hf] at this
  exact Value.ref.inj (Option.some.inj (hmg.symm.trans this))
 subst e325
 clear hD hcd hd ho
 wrow_args hpre hlay hrd hwl hlo
 rename_i _ _ _ _ _ _ _ l xs _ hL _ _ _ I _ hz _
 have h2 : s₁.heap.get? 220 = some (tabO #[]) := K 220 _ (by kernel_rfl)
 have hl : (hideL s₁.heap [220]).IsList l xs.toArray := Ex1 hL fun o => an3 fun h1 hc r => ⟨o, hideL_get h1 fun m => (by rw [lms.mp m, h2] at h1; cases h1; cases hc), hc, r⟩
 rw [prog_eq]
 exact enter_call (law_ B h2 (fun y hy => by rw [hg] at hy; exact absurd hy (Array.not_mem_empty _)) ⟨by decide +kernel, by decide +kernel, rfl⟩ rfl hl I (Int.ofNat_le.mp (Int.not_lt.mp hz)) fun ps s' k h2' hb os => post_row (old220 K h2 k h2') os hb)
end
end Mine
theorem PySem.Challenge.cw_ny0445_01_holds : PySem.Challenge.rw_ny0445_01.Holds :=
 Mine.head Mine.walk
