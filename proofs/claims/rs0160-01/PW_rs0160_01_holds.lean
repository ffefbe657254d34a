import PyProof.Rows.All
import Wide.All
import OpenK.AllK
import Wide.FinOn
import Lean
import PySem.Challenge.RW_rs0160_01
open PySem PySem.W PySem.Calls PyProof.Rows
set_option Elab.async false
set_option maxRecDepth 1000000
set_option maxHeartbeats 0
namespace Mine
noncomputable def nthS (l : List Stmt) (i : Nat) : Stmt := (l.drop i).headD (.Pass ⟨0, 0, 0, 0⟩)
noncomputable def sParams : Stmt → Arguments
  | .FunctionDef _ a _ _ _ _ _ _ _ _ => a
  | _ => { posonlyargs := [], args := [], vararg := none, kwonlyargs := [], kw_defaults := [], kwarg := none, defaults := [] }
noncomputable def sBody : Stmt → List Stmt
  | .FunctionDef _ _ b _ _ _ _ _ _ _ => b
  | .ClassDef _ _ _ b _ _ _ _ _ _ _ => b
  | _ => []
noncomputable def sScope : Stmt → Scope
  | .FunctionDef _ _ _ _ _ _ s _ _ _ => s
  | _ => { kind := .function, names := [], isGenerator := false, isCoroutine := false, more := [] }
noncomputable abbrev pw : Program := PySem.Challenge.pw_rs0160_01
noncomputable def tops : List Stmt := pw.main.body
noncomputable def fd__wall : Stmt := nthS tops 0
noncomputable def fd__parse_varint : Stmt := nthS tops 4
noncomputable def fd_in_table_b1 : Stmt := nthS tops 7
noncomputable def fd_map_table_b3 : Stmt := nthS tops 9
noncomputable def fd_in_table_c9 : Stmt := nthS tops 11
noncomputable def fd__law_stream : Stmt := nthS tops 13
noncomputable def fd__law_tag : Stmt := nthS tops 14
noncomputable def fd__law_sign : Stmt := nthS tops 15
noncomputable def fd__law_unseen : Stmt := nthS tops 16
noncomputable def fd__law_shown : Stmt := nthS tops 17
noncomputable def fd__law_page : Stmt := nthS tops 18
noncomputable def fd__law_text : Stmt := nthS tops 19
noncomputable def fd__law_prepared : Stmt := nthS tops 20
noncomputable def fd__law_read : Stmt := nthS tops 21
noncomputable def fd__law_undone : Stmt := nthS tops 22
noncomputable def fd_law : Stmt := nthS tops 23
noncomputable def fd__netrclex_u_init_u : Stmt := nthS (sBody (nthS tops 2)) 0
noncomputable def fd__netrclex_uread_char : Stmt := nthS (sBody (nthS tops 2)) 1
noncomputable def fd__netrclex_get_token : Stmt := nthS (sBody (nthS tops 2)) 2
noncomputable def fd__netrclex_push_token : Stmt := nthS (sBody (nthS tops 2)) 3
noncomputable def dictKV : Stmt → List (Int × Str)
  | .Assign _ (.Dict ks vs _) _ => (ks.zip vs).filterMap fun
    | (some (.Constant (.int k) _ _), .Constant (.str v) _ _) => some (k, v)
    | _ => none
  | _ => []
noncomputable def b3KV : List (Int × Str) := dictKV (nthS tops 8)
noncomputable def ents (t d : Nat) : List (Int × Str) → List DictEntry
  | [] => []
  | (k, v) :: r => ⟨k, .int k t, .str v (t + 1)⟩ :: ents (t + d) d r
noncomputable def chunk (j : Nat) : List DictEntry := ents (334 + 51 * j) (if j = 38 then 2 else 3) ((b3KV.drop (17 * j)).take 17)
noncomputable def dictO (es : List DictEntry) (n : Nat) : Obj := ⟨.type "dict", none, .dict es.toArray n, #[]⟩
noncomputable def setO (es : Array (Int × Value)) (n : Nat) (t : SetTable) : Obj := ⟨.type "set", none, .set es n t, #[]⟩
structure SetSt where
  es : Array (Int × Value)
  n : Nat
  t : SetTable
noncomputable def SetSt.obj (p : SetSt) : Obj := setO p.es p.n p.t
noncomputable def addS (p : SetSt) (h : Int) (x : Value) : SetSt :=
  match layNew p.t p.es h x with
  | (es1, t1, wd, _) =>
    if !wd && t1.tooFull then
      match relayAll t1 es1 (SetTable.grown es1.size) with
      | (es2, t2, _) => ⟨es2, p.n + 2, t2⟩
    else ⟨es1, p.n + 1, t1⟩
noncomputable def foldS : List Int → Nat → SetSt → (Nat → Nat) → SetSt
  | [], _, p, _ => p
  | k :: r, i, p, tk => foldS r (i + 1) (addS p (hashInt k) (.int k (tk i))) tk
noncomputable def kf (i : Nat) : Int := if i = 0 then 917505 else ((917535 + i : Nat) : Int)
noncomputable def tkf (i : Nat) : Nat := if i = 0 then 2293 else 2298 + i
noncomputable def keysC : List Int := (List.range 97).map kf
noncomputable def p0C (b : Bool) : SetSt := ⟨#[], 0, { mask := 7, place := #[], dummies := #[], finger := 0, led := b, moves := 0, plain := true }⟩
noncomputable def c9S (P : Params) : SetSt := foldS keysC 0 (p0C (!P.followText "set-order")) tkf
noncomputable def o89 (_ : Params) : Obj := dictO (ents 334 3 (b3KV.take 646) ++ ents 2272 2 (b3KV.drop 646)) 650
noncomputable def o90 (_ : Params) : Obj := dictO (chunk 1) 17
noncomputable def o91 (_ : Params) : Obj := dictO (chunk 2) 17
noncomputable def o92 (_ : Params) : Obj := dictO (chunk 3) 17
noncomputable def o93 (_ : Params) : Obj := dictO (chunk 4) 17
noncomputable def o94 (_ : Params) : Obj := dictO (chunk 5) 17
noncomputable def o95 (_ : Params) : Obj := dictO (chunk 6) 17
noncomputable def o96 (_ : Params) : Obj := dictO (chunk 7) 17
noncomputable def o97 (_ : Params) : Obj := dictO (chunk 8) 17
noncomputable def o98 (_ : Params) : Obj := dictO (chunk 9) 17
noncomputable def o99 (_ : Params) : Obj := dictO (chunk 10) 17
noncomputable def o100 (_ : Params) : Obj := dictO (chunk 11) 17
noncomputable def o101 (_ : Params) : Obj := dictO (chunk 12) 17
noncomputable def o102 (_ : Params) : Obj := dictO (chunk 13) 17
noncomputable def o103 (_ : Params) : Obj := dictO (chunk 14) 17
noncomputable def o104 (_ : Params) : Obj := dictO (chunk 15) 17
noncomputable def o105 (_ : Params) : Obj := dictO (chunk 16) 17
noncomputable def o106 (_ : Params) : Obj := dictO (chunk 17) 17
noncomputable def o107 (_ : Params) : Obj := dictO (chunk 18) 17
noncomputable def o108 (_ : Params) : Obj := dictO (chunk 19) 17
noncomputable def o109 (_ : Params) : Obj := dictO (chunk 20) 17
noncomputable def o110 (_ : Params) : Obj := dictO (chunk 21) 17
noncomputable def o111 (_ : Params) : Obj := dictO (chunk 22) 17
noncomputable def o112 (_ : Params) : Obj := dictO (chunk 23) 17
noncomputable def o113 (_ : Params) : Obj := dictO (chunk 24) 17
noncomputable def o114 (_ : Params) : Obj := dictO (chunk 25) 17
noncomputable def o115 (_ : Params) : Obj := dictO (chunk 26) 17
noncomputable def o116 (_ : Params) : Obj := dictO (chunk 27) 17
noncomputable def o117 (_ : Params) : Obj := dictO (chunk 28) 17
noncomputable def o118 (_ : Params) : Obj := dictO (chunk 29) 17
noncomputable def o119 (_ : Params) : Obj := dictO (chunk 30) 17
noncomputable def o120 (_ : Params) : Obj := dictO (chunk 31) 17
noncomputable def o121 (_ : Params) : Obj := dictO (chunk 32) 17
noncomputable def o122 (_ : Params) : Obj := dictO (chunk 33) 17
noncomputable def o123 (_ : Params) : Obj := dictO (chunk 34) 17
noncomputable def o124 (_ : Params) : Obj := dictO (chunk 35) 17
noncomputable def o125 (_ : Params) : Obj := dictO (chunk 36) 17
noncomputable def o126 (_ : Params) : Obj := dictO (chunk 37) 17
noncomputable def o127 (_ : Params) : Obj := dictO (chunk 38) 4
noncomputable def o11 (P : Params) : Obj := ⟨(.type "tuple"), none, (.seq #[] 0), #[]⟩
noncomputable def o13 (P : Params) : Obj := ⟨(.type "code"), none, (.fields #[(.str (.ofString "<module>") 182), (.str (.ofString "<module>") 183), (.str (.ofString "/claim/cut.py") 184), (.int 1 0), (.int 0 0), (.int 0 0), (.int 0 0), (.int 0 0), (.ref 11), (.bool false), (.int 181 0), (.ref 12), .none, .none, .none, .none, (.int 185 0), (.int 1 0), (.str (.ofString "/claim/cut.py") 186)]), #[]⟩
noncomputable def o14 (P : Params) : Obj := ⟨(.type "frame"), none, .plain, #[(some (.ref 13)), (some (.ref 3)), (some (.ref 3)), none, (some (.str (.ofString "__main__") 164)), none, (some (.ref 0))]⟩
noncomputable def o15 (P : Params) : Obj := ⟨(.type "tuple"), none, (.seq #[] 0), #[]⟩
noncomputable def o16 (P : Params) : Obj := ⟨.none, none, (.fields #[]), #[]⟩
noncomputable def o17 (P : Params) : Obj := ⟨(.type "tuple"), none, (.seq #[(.str (.ofString "k") 190)] 0), #[]⟩
noncomputable def o18 (P : Params) : Obj := ⟨(.type "tuple"), none, (.seq #[] 0), #[]⟩
noncomputable def o19 (P : Params) : Obj := ⟨.none, none, (.func { name := (.ofString "_wall"), qualname := (.ofString "_wall"), params := sParams fd__wall, body := .stmts (sBody fd__wall), scope := sScope fd__wall, globals := 0, closure := [], defaults := .none, kwdefaults := .none, doc := .none, pyModule := .none, annotations := none, code := .none, closureTuple := .none, builtins := 0 }), #[]⟩
noncomputable def o20 (P : Params) : Obj := ⟨(.type "code"), none, (.fields #[(.str (.ofString "_wall") 187), (.str (.ofString "_wall") 188), (.str (.ofString "/claim/cut.py") 189), (.int 1 0), (.int 1 0), (.int 0 0), (.int 0 0), (.int 3 0), (.ref 15), (.bool true), (.int 181 0), (.ref 16), .none, (.ref 17), (.ref 18), (.ref 19), (.int 191 0), (.int 1 0), (.str (.ofString "/claim/cut.py") 192)]), #[]⟩
noncomputable def o21 (P : Params) : Obj := ⟨(.type "function"), none, (.func { name := (.ofString "_wall"), qualname := (.ofString "_wall"), params := sParams fd__wall, body := .stmts (sBody fd__wall), scope := sScope fd__wall, globals := 3, closure := [], defaults := .none, kwdefaults := .none, doc := .none, pyModule := (.str (.ofString "__main__") 164), annotations := none, code := (.ref 20), closureTuple := .none, builtins := 0 }), #[]⟩
noncomputable def o22 (P : Params) : Obj := ⟨(.type "tuple"), none, (.seq #[] 0), #[]⟩
noncomputable def o23 (P : Params) : Obj := ⟨(.type "builtin_function_or_method"), none, (.fields #[(.builtin "type.__prepare__"), (.type "type")]), #[]⟩
noncomputable def o24 (P : Params) : Obj := ⟨(.type "dict"), none, (.dict #[⟨PyData.keyHash P (.ofString "__module__"), (.str (.ofString "__module__") 203), (.str (.ofString "cpy313.netrc") 194)⟩, ⟨PyData.keyHash P (.ofString "__qualname__"), (.str (.ofString "__qualname__") 205), (.str (.ofString "_netrclex") 204)⟩, ⟨PyData.keyHash P (.ofString "__firstlineno__"), (.str (.ofString "__firstlineno__") 207), (.int 5 206)⟩, ⟨PyData.keyHash P (.ofString "__init__"), (.str (.ofString "__init__") 215), (.ref 35)⟩, ⟨PyData.keyHash P (.ofString "_read_char"), (.str (.ofString "_read_char") 223), (.ref 42)⟩, ⟨PyData.keyHash P (.ofString "get_token"), (.str (.ofString "get_token") 233), (.ref 49)⟩, ⟨PyData.keyHash P (.ofString "push_token"), (.str (.ofString "push_token") 241), (.ref 56)⟩, ⟨PyData.keyHash P (.ofString "__static_attributes__"), (.str (.ofString "__static_attributes__") 246), (.ref 57)⟩] 8), #[]⟩
noncomputable def o25 (P : Params) : Obj := ⟨(.type "tuple"), none, (.seq #[] 0), #[]⟩
noncomputable def o26 (P : Params) : Obj := ⟨.none, none, (.fields #[(.int 7 0), (.int 4 0), (.ref 34), (.int 13 0), (.int 4 0), (.ref 41), (.int 19 0), (.int 4 0), (.ref 48), (.int 46 0), (.int 4 0), (.ref 55)]), #[]⟩
noncomputable def o27 (P : Params) : Obj := ⟨(.type "code"), none, (.fields #[(.str (.ofString "_netrclex") 198), (.str (.ofString "_netrclex") 199), (.str (.ofString "/claim/cut.py") 200), (.int 5 0), (.int 0 0), (.int 0 0), (.int 0 0), (.int 0 0), (.ref 25), (.bool false), (.int 181 0), (.ref 26), .none, .none, .none, .none, (.int 201 0), (.int 5 0), (.str (.ofString "/claim/cut.py") 202)]), #[]⟩
noncomputable def o28 (P : Params) : Obj := ⟨(.type "frame"), none, .plain, #[(some (.ref 27)), (some (.ref 3)), (some (.ref 24)), none, (some (.str (.ofString "cpy313.netrc") 194)), none, (some (.ref 0))]⟩
noncomputable def o29 (P : Params) : Obj := ⟨(.type "tuple"), none, (.seq #[] 0), #[]⟩
noncomputable def o30 (P : Params) : Obj := ⟨.none, none, (.fields #[]), #[]⟩
noncomputable def o31 (P : Params) : Obj := ⟨(.type "tuple"), none, (.seq #[(.str (.ofString "self") 211), (.str (.ofString "fp") 212)] 0), #[]⟩
noncomputable def o32 (P : Params) : Obj := ⟨(.type "tuple"), none, (.seq #[] 0), #[]⟩
noncomputable def o33 (P : Params) : Obj := ⟨.none, none, (.func { name := (.ofString "__init__"), qualname := (.ofString "_netrclex.__init__"), params := sParams fd__netrclex_u_init_u, body := .stmts (sBody fd__netrclex_u_init_u), scope := sScope fd__netrclex_u_init_u, globals := 0, closure := [], defaults := .none, kwdefaults := .none, doc := .none, pyModule := .none, annotations := none, code := .none, closureTuple := .none, builtins := 0 }), #[]⟩
noncomputable def o34 (P : Params) : Obj := ⟨(.type "code"), none, (.fields #[(.str (.ofString "__init__") 208), (.str (.ofString "_netrclex.__init__") 209), (.str (.ofString "/claim/cut.py") 210), (.int 7 0), (.int 2 0), (.int 0 0), (.int 0 0), (.int 3 0), (.ref 29), (.bool true), (.int 181 0), (.ref 30), .none, (.ref 31), (.ref 32), (.ref 33), (.int 213 0), (.int 7 0), (.str (.ofString "/claim/cut.py") 214)]), #[]⟩
noncomputable def o35 (P : Params) : Obj := ⟨(.type "function"), none, (.func { name := (.ofString "__init__"), qualname := (.ofString "_netrclex.__init__"), params := sParams fd__netrclex_u_init_u, body := .stmts (sBody fd__netrclex_u_init_u), scope := sScope fd__netrclex_u_init_u, globals := 3, closure := [], defaults := .none, kwdefaults := .none, doc := .none, pyModule := (.str (.ofString "cpy313.netrc") 194), annotations := none, code := (.ref 34), closureTuple := .none, builtins := 0 }), #[]⟩
noncomputable def o36 (P : Params) : Obj := ⟨(.type "tuple"), none, (.seq #[] 0), #[]⟩
noncomputable def o37 (P : Params) : Obj := ⟨.none, none, (.fields #[]), #[]⟩
noncomputable def o38 (P : Params) : Obj := ⟨(.type "tuple"), none, (.seq #[(.str (.ofString "self") 219), (.str (.ofString "ch") 220)] 0), #[]⟩
noncomputable def o39 (P : Params) : Obj := ⟨(.type "tuple"), none, (.seq #[] 0), #[]⟩
noncomputable def o40 (P : Params) : Obj := ⟨.none, none, (.func { name := (.ofString "_read_char"), qualname := (.ofString "_netrclex._read_char"), params := sParams fd__netrclex_uread_char, body := .stmts (sBody fd__netrclex_uread_char), scope := sScope fd__netrclex_uread_char, globals := 0, closure := [], defaults := .none, kwdefaults := .none, doc := .none, pyModule := .none, annotations := none, code := .none, closureTuple := .none, builtins := 0 }), #[]⟩
noncomputable def o41 (P : Params) : Obj := ⟨(.type "code"), none, (.fields #[(.str (.ofString "_read_char") 216), (.str (.ofString "_netrclex._read_char") 217), (.str (.ofString "/claim/cut.py") 218), (.int 13 0), (.int 1 0), (.int 0 0), (.int 0 0), (.int 3 0), (.ref 36), (.bool true), (.int 181 0), (.ref 37), .none, (.ref 38), (.ref 39), (.ref 40), (.int 221 0), (.int 13 0), (.str (.ofString "/claim/cut.py") 222)]), #[]⟩
noncomputable def o42 (P : Params) : Obj := ⟨(.type "function"), none, (.func { name := (.ofString "_read_char"), qualname := (.ofString "_netrclex._read_char"), params := sParams fd__netrclex_uread_char, body := .stmts (sBody fd__netrclex_uread_char), scope := sScope fd__netrclex_uread_char, globals := 3, closure := [], defaults := .none, kwdefaults := .none, doc := .none, pyModule := (.str (.ofString "cpy313.netrc") 194), annotations := none, code := (.ref 41), closureTuple := .none, builtins := 0 }), #[]⟩
noncomputable def o43 (P : Params) : Obj := ⟨(.type "tuple"), none, (.seq #[] 0), #[]⟩
noncomputable def o44 (P : Params) : Obj := ⟨.none, none, (.fields #[]), #[]⟩
noncomputable def o45 (P : Params) : Obj := ⟨(.type "tuple"), none, (.seq #[(.str (.ofString "self") 227), (.str (.ofString "token") 228), (.str (.ofString "fiter") 229), (.str (.ofString "ch") 230)] 0), #[]⟩
noncomputable def o46 (P : Params) : Obj := ⟨(.type "tuple"), none, (.seq #[] 0), #[]⟩
noncomputable def o47 (P : Params) : Obj := ⟨.none, none, (.func { name := (.ofString "get_token"), qualname := (.ofString "_netrclex.get_token"), params := sParams fd__netrclex_get_token, body := .stmts (sBody fd__netrclex_get_token), scope := sScope fd__netrclex_get_token, globals := 0, closure := [], defaults := .none, kwdefaults := .none, doc := .none, pyModule := .none, annotations := none, code := .none, closureTuple := .none, builtins := 0 }), #[]⟩
noncomputable def o48 (P : Params) : Obj := ⟨(.type "code"), none, (.fields #[(.str (.ofString "get_token") 224), (.str (.ofString "_netrclex.get_token") 225), (.str (.ofString "/claim/cut.py") 226), (.int 19 0), (.int 1 0), (.int 0 0), (.int 0 0), (.int 3 0), (.ref 43), (.bool true), (.int 181 0), (.ref 44), .none, (.ref 45), (.ref 46), (.ref 47), (.int 231 0), (.int 19 0), (.str (.ofString "/claim/cut.py") 232)]), #[]⟩
noncomputable def o49 (P : Params) : Obj := ⟨(.type "function"), none, (.func { name := (.ofString "get_token"), qualname := (.ofString "_netrclex.get_token"), params := sParams fd__netrclex_get_token, body := .stmts (sBody fd__netrclex_get_token), scope := sScope fd__netrclex_get_token, globals := 3, closure := [], defaults := .none, kwdefaults := .none, doc := .none, pyModule := (.str (.ofString "cpy313.netrc") 194), annotations := none, code := (.ref 48), closureTuple := .none, builtins := 0 }), #[]⟩
noncomputable def o50 (P : Params) : Obj := ⟨(.type "tuple"), none, (.seq #[] 0), #[]⟩
noncomputable def o51 (P : Params) : Obj := ⟨.none, none, (.fields #[]), #[]⟩
noncomputable def o52 (P : Params) : Obj := ⟨(.type "tuple"), none, (.seq #[(.str (.ofString "self") 237), (.str (.ofString "token") 238)] 0), #[]⟩
noncomputable def o53 (P : Params) : Obj := ⟨(.type "tuple"), none, (.seq #[] 0), #[]⟩
noncomputable def o54 (P : Params) : Obj := ⟨.none, none, (.func { name := (.ofString "push_token"), qualname := (.ofString "_netrclex.push_token"), params := sParams fd__netrclex_push_token, body := .stmts (sBody fd__netrclex_push_token), scope := sScope fd__netrclex_push_token, globals := 0, closure := [], defaults := .none, kwdefaults := .none, doc := .none, pyModule := .none, annotations := none, code := .none, closureTuple := .none, builtins := 0 }), #[]⟩
noncomputable def o55 (P : Params) : Obj := ⟨(.type "code"), none, (.fields #[(.str (.ofString "push_token") 234), (.str (.ofString "_netrclex.push_token") 235), (.str (.ofString "/claim/cut.py") 236), (.int 46 0), (.int 2 0), (.int 0 0), (.int 0 0), (.int 3 0), (.ref 50), (.bool true), (.int 181 0), (.ref 51), .none, (.ref 52), (.ref 53), (.ref 54), (.int 239 0), (.int 46 0), (.str (.ofString "/claim/cut.py") 240)]), #[]⟩
noncomputable def o56 (P : Params) : Obj := ⟨(.type "function"), none, (.func { name := (.ofString "push_token"), qualname := (.ofString "_netrclex.push_token"), params := sParams fd__netrclex_push_token, body := .stmts (sBody fd__netrclex_push_token), scope := sScope fd__netrclex_push_token, globals := 3, closure := [], defaults := .none, kwdefaults := .none, doc := .none, pyModule := (.str (.ofString "cpy313.netrc") 194), annotations := none, code := (.ref 55), closureTuple := .none, builtins := 0 }), #[]⟩
noncomputable def o57 (P : Params) : Obj := ⟨(.type "tuple"), none, (.seq #[(.str (.ofString "instream") 242), (.str (.ofString "lineno") 243), (.str (.ofString "pushback") 244), (.str (.ofString "whitespace") 245)] 0), #[]⟩
noncomputable def o58 (P : Params) : Obj := ⟨(.type "dict"), none, (.dict #[⟨PyData.keyHash P (.ofString "__module__"), (.str (.ofString "__module__") 203), (.str (.ofString "cpy313.netrc") 194)⟩, ⟨PyData.keyHash P (.ofString "__firstlineno__"), (.str (.ofString "__firstlineno__") 207), (.int 5 206)⟩, ⟨PyData.keyHash P (.ofString "__init__"), (.str (.ofString "__init__") 215), (.ref 35)⟩, ⟨PyData.keyHash P (.ofString "_read_char"), (.str (.ofString "_read_char") 223), (.ref 42)⟩, ⟨PyData.keyHash P (.ofString "get_token"), (.str (.ofString "get_token") 233), (.ref 49)⟩, ⟨PyData.keyHash P (.ofString "push_token"), (.str (.ofString "push_token") 241), (.ref 56)⟩, ⟨PyData.keyHash P (.ofString "__static_attributes__"), (.str (.ofString "__static_attributes__") 246), (.ref 57)⟩, ⟨PyData.keyHash P (.ofString "__dict__"), (.str (.ofString "__dict__") 248), (.ref 60)⟩, ⟨PyData.keyHash P (.ofString "__weakref__"), (.str (.ofString "__weakref__") 250), (.ref 61)⟩, ⟨PyData.keyHash P (.ofString "__doc__"), (.str (.ofString "__doc__") 251), .none⟩] 4), #[]⟩
noncomputable def o59 (P : Params) : Obj := ⟨(.type "type"), none, (.cls { name := (.ofString "_netrclex"), bases := [(.type "object")], mro := [(.ref 59), (.type "object")], ns := 58, qualname := (.ofString "_netrclex"), hasDict := true, slotNames := [], subclasses := [], abstract := false, collection := none, hasDel := false }), #[none, none, (some (.str (.ofString "_netrclex") 196)), (some (.str (.ofString "_netrclex") 204)), (some (.builtin "object.__new__")), (some (.bool true))]⟩
noncomputable def o60 (P : Params) : Obj := ⟨(.type "getset_descriptor"), none, (.fields #[(.str (.ofString "__dict__") 247), (.ref 59), (.builtin "function.__dict__"), (.builtin "function.__dict__#set")]), #[]⟩
noncomputable def o61 (P : Params) : Obj := ⟨(.type "getset_descriptor"), none, (.fields #[(.str (.ofString "__weakref__") 249), (.ref 59), (.builtin "ExceptionGroup.__weakref__"), .none]), #[]⟩
noncomputable def o62 (P : Params) : Obj := ⟨(.type "super"), none, (.fields #[(.ref 59), (.ref 59), (.ref 59)]), #[]⟩
noncomputable def o63 (P : Params) : Obj := ⟨(.type "builtin_function_or_method"), none, (.fields #[(.builtin "object.__init_subclass__"), (.ref 59)]), #[]⟩
noncomputable def o64 (P : Params) : Obj := ⟨(.type "tuple"), none, (.seq #[] 0), #[]⟩
noncomputable def o65 (P : Params) : Obj := ⟨.none, none, (.fields #[]), #[]⟩
noncomputable def o66 (P : Params) : Obj := ⟨(.type "tuple"), none, (.seq #[(.str (.ofString "iterator") 259), (.str (.ofString "b") 260), (.str (.ofString "val") 261)] 0), #[]⟩
noncomputable def o67 (P : Params) : Obj := ⟨(.type "tuple"), none, (.seq #[] 0), #[]⟩
noncomputable def o68 (P : Params) : Obj := ⟨.none, none, (.func { name := (.ofString "_parse_varint"), qualname := (.ofString "_parse_varint"), params := sParams fd__parse_varint, body := .stmts (sBody fd__parse_varint), scope := sScope fd__parse_varint, globals := 0, closure := [], defaults := .none, kwdefaults := .none, doc := .none, pyModule := .none, annotations := none, code := .none, closureTuple := .none, builtins := 0 }), #[]⟩
noncomputable def o69 (P : Params) : Obj := ⟨(.type "code"), none, (.fields #[(.str (.ofString "_parse_varint") 256), (.str (.ofString "_parse_varint") 257), (.str (.ofString "/claim/cut.py") 258), (.int 49 0), (.int 1 0), (.int 0 0), (.int 0 0), (.int 3 0), (.ref 64), (.bool true), (.int 181 0), (.ref 65), .none, (.ref 66), (.ref 67), (.ref 68), (.int 262 0), (.int 49 0), (.str (.ofString "/claim/cut.py") 263)]), #[]⟩
noncomputable def o70 (P : Params) : Obj := ⟨(.type "function"), none, (.func { name := (.ofString "_parse_varint"), qualname := (.ofString "_parse_varint"), params := sParams fd__parse_varint, body := .stmts (sBody fd__parse_varint), scope := sScope fd__parse_varint, globals := 3, closure := [], defaults := .none, kwdefaults := .none, doc := .none, pyModule := (.str (.ofString "cpy313.dis") 254), annotations := none, code := (.ref 69), closureTuple := .none, builtins := 0 }), #[]⟩
noncomputable def o71 (P : Params) : Obj := ⟨(.type "list"), none, (.seq #[(.int 173 267), (.int 847 268), (.int 6150 269), (.int 6155 270), (.int 6156 271), (.int 6157 272), (.int 8203 273), (.int 8204 274), (.int 8205 275), (.int 8288 276), (.int 65279 277)] 0), #[]⟩
noncomputable def o72 (P : Params) : Obj := ⟨(.type "range"), none, (.fields #[(.int 65024 278), (.int 65040 279), (.int 1 280)]), #[]⟩
noncomputable def o73 (P : Params) : Obj := ⟨(.type "list"), none, (.seq #[(.int 65024 283), (.int 65025 284), (.int 65026 285), (.int 65027 286), (.int 65028 287), (.int 65029 288), (.int 65030 289), (.int 65031 290), (.int 65032 291), (.int 65033 292), (.int 65034 293), (.int 65035 294), (.int 65036 295), (.int 65037 296), (.int 65038 297), (.int 65039 298)] 18), #[]⟩
noncomputable def o74 (P : Params) : Obj := ⟨(.type "range_iterator"), none, (.fields #[(.int 65040 0), (.int 0 0), (.int 1 0)]), #[]⟩
noncomputable def o75 (P : Params) : Obj := ⟨(.type "tuple"), none, (.seq #[] 0), #[]⟩
noncomputable def o76 (P : Params) : Obj := ⟨(.type "StopIteration"), none, (.fields #[(.ref 75), .none, .none, .none, (.bool false), .none]), #[]⟩
noncomputable def o77 (P : Params) : Obj := ⟨(.type "list"), none, (.seq #[(.int 173 267), (.int 847 268), (.int 6150 269), (.int 6155 270), (.int 6156 271), (.int 6157 272), (.int 8203 273), (.int 8204 274), (.int 8205 275), (.int 8288 276), (.int 65279 277), (.int 65024 283), (.int 65025 284), (.int 65026 285), (.int 65027 286), (.int 65028 287), (.int 65029 288), (.int 65030 289), (.int 65031 290), (.int 65032 291), (.int 65033 292), (.int 65034 293), (.int 65035 294), (.int 65036 295), (.int 65037 296), (.int 65038 297), (.int 65039 298)] 0), #[]⟩
noncomputable def o78 (P : Params) : Obj := ⟨(.type "set"), none, (.set #[(65024, (.int 65024 283)), (65025, (.int 65025 284)), (65026, (.int 65026 285)), (65027, (.int 65027 286)), (65028, (.int 65028 287)), (65029, (.int 65029 288)), (6150, (.int 6150 269)), (65030, (.int 65030 289)), (65031, (.int 65031 290)), (65032, (.int 65032 291)), (65033, (.int 65033 292)), (6155, (.int 6155 270)), (6156, (.int 6156 271)), (6157, (.int 6157 272)), (8203, (.int 8203 273)), (8204, (.int 8204 274)), (8205, (.int 8205 275)), (65034, (.int 65034 293)), (65035, (.int 65035 294)), (65036, (.int 65036 295)), (65037, (.int 65037 296)), (65038, (.int 65038 297)), (65039, (.int 65039 298)), (173, (.int 173 267)), (847, (.int 847 268)), (8288, (.int 8288 276)), (65279, (.int 65279 277))] 29 { mask := 127, place := #[0, 1, 2, 3, 4, 5, 6, 7, 8, 9, 10, 11, 12, 13, 14, 15, 16, 17, 18, 19, 20, 21, 22, 45, 79, 96, 127], dummies := #[], finger := 0, led := !P.followText "set-order", moves := 2, plain := true }), #[]⟩
noncomputable def o79 (P : Params) : Obj := ⟨(.type "list_iterator"), none, (.fields #[.none, (.int 27 0)]), #[]⟩
noncomputable def o80 (P : Params) : Obj := ⟨(.type "tuple"), none, (.seq #[] 0), #[]⟩
noncomputable def o81 (P : Params) : Obj := ⟨(.type "StopIteration"), none, (.fields #[(.ref 80), .none, .none, .none, (.bool false), .none]), #[]⟩
noncomputable def o82 (P : Params) : Obj := ⟨(.type "tuple"), none, (.seq #[] 0), #[]⟩
noncomputable def o83 (P : Params) : Obj := ⟨.none, none, (.fields #[]), #[]⟩
noncomputable def o84 (P : Params) : Obj := ⟨(.type "tuple"), none, (.seq #[(.str (.ofString "code") 330)] 0), #[]⟩
noncomputable def o85 (P : Params) : Obj := ⟨(.type "tuple"), none, (.seq #[] 0), #[]⟩
noncomputable def o86 (P : Params) : Obj := ⟨.none, none, (.func { name := (.ofString "in_table_b1"), qualname := (.ofString "in_table_b1"), params := sParams fd_in_table_b1, body := .stmts (sBody fd_in_table_b1), scope := sScope fd_in_table_b1, globals := 0, closure := [], defaults := .none, kwdefaults := .none, doc := .none, pyModule := .none, annotations := none, code := .none, closureTuple := .none, builtins := 0 }), #[]⟩
noncomputable def o87 (P : Params) : Obj := ⟨(.type "code"), none, (.fields #[(.str (.ofString "in_table_b1") 327), (.str (.ofString "in_table_b1") 328), (.str (.ofString "/claim/cut.py") 329), (.int 59 0), (.int 1 0), (.int 0 0), (.int 0 0), (.int 3 0), (.ref 82), (.bool true), (.int 181 0), (.ref 83), .none, (.ref 84), (.ref 85), (.ref 86), (.int 331 0), (.int 59 0), (.str (.ofString "/claim/cut.py") 332)]), #[]⟩
noncomputable def o88 (P : Params) : Obj := ⟨(.type "function"), none, (.func { name := (.ofString "in_table_b1"), qualname := (.ofString "in_table_b1"), params := sParams fd_in_table_b1, body := .stmts (sBody fd_in_table_b1), scope := sScope fd_in_table_b1, globals := 3, closure := [], defaults := .none, kwdefaults := .none, doc := .none, pyModule := (.str (.ofString "cpy313.stringprep") 265), annotations := none, code := (.ref 87), closureTuple := .none, builtins := 0 }), #[]⟩
noncomputable def o128 (P : Params) : Obj := ⟨(.type "tuple"), none, (.seq #[] 0), #[]⟩
noncomputable def o129 (P : Params) : Obj := ⟨.none, none, (.fields #[]), #[]⟩
noncomputable def o130 (P : Params) : Obj := ⟨(.type "tuple"), none, (.seq #[(.str (.ofString "code") 2288), (.str (.ofString "r") 2289)] 0), #[]⟩
noncomputable def o131 (P : Params) : Obj := ⟨(.type "tuple"), none, (.seq #[] 0), #[]⟩
noncomputable def o132 (P : Params) : Obj := ⟨.none, none, (.func { name := (.ofString "map_table_b3"), qualname := (.ofString "map_table_b3"), params := sParams fd_map_table_b3, body := .stmts (sBody fd_map_table_b3), scope := sScope fd_map_table_b3, globals := 0, closure := [], defaults := .none, kwdefaults := .none, doc := .none, pyModule := .none, annotations := none, code := .none, closureTuple := .none, builtins := 0 }), #[]⟩
noncomputable def o133 (P : Params) : Obj := ⟨(.type "code"), none, (.fields #[(.str (.ofString "map_table_b3") 2285), (.str (.ofString "map_table_b3") 2286), (.str (.ofString "/claim/cut.py") 2287), (.int 62 0), (.int 1 0), (.int 0 0), (.int 0 0), (.int 3 0), (.ref 128), (.bool true), (.int 181 0), (.ref 129), .none, (.ref 130), (.ref 131), (.ref 132), (.int 2290 0), (.int 62 0), (.str (.ofString "/claim/cut.py") 2291)]), #[]⟩
noncomputable def o134 (P : Params) : Obj := ⟨(.type "function"), none, (.func { name := (.ofString "map_table_b3"), qualname := (.ofString "map_table_b3"), params := sParams fd_map_table_b3, body := .stmts (sBody fd_map_table_b3), scope := sScope fd_map_table_b3, globals := 3, closure := [], defaults := .none, kwdefaults := .none, doc := .none, pyModule := (.str (.ofString "cpy313.stringprep") 265), annotations := none, code := (.ref 133), closureTuple := .none, builtins := 0 }), #[]⟩
noncomputable def o135 (P : Params) : Obj := ⟨(.type "list"), none, (.seq #[(.int 917505 2293)] 0), #[]⟩
noncomputable def o136 (P : Params) : Obj := ⟨(.type "range"), none, (.fields #[(.int 917536 2294), (.int 917632 2295), (.int 1 2296)]), #[]⟩
noncomputable def o137 (P : Params) : Obj := ⟨(.type "list"), none, (.seq #[(.int 917536 2299), (.int 917537 2300), (.int 917538 2301), (.int 917539 2302), (.int 917540 2303), (.int 917541 2304), (.int 917542 2305), (.int 917543 2306), (.int 917544 2307), (.int 917545 2308), (.int 917546 2309), (.int 917547 2310), (.int 917548 2311), (.int 917549 2312), (.int 917550 2313), (.int 917551 2314), (.int 917552 2315), (.int 917553 2316), (.int 917554 2317), (.int 917555 2318), (.int 917556 2319), (.int 917557 2320), (.int 917558 2321), (.int 917559 2322), (.int 917560 2323), (.int 917561 2324), (.int 917562 2325), (.int 917563 2326), (.int 917564 2327), (.int 917565 2328), (.int 917566 2329), (.int 917567 2330), (.int 917568 2331), (.int 917569 2332), (.int 917570 2333), (.int 917571 2334), (.int 917572 2335), (.int 917573 2336), (.int 917574 2337), (.int 917575 2338), (.int 917576 2339), (.int 917577 2340), (.int 917578 2341), (.int 917579 2342), (.int 917580 2343), (.int 917581 2344), (.int 917582 2345), (.int 917583 2346), (.int 917584 2347), (.int 917585 2348), (.int 917586 2349), (.int 917587 2350), (.int 917588 2351), (.int 917589 2352), (.int 917590 2353), (.int 917591 2354), (.int 917592 2355), (.int 917593 2356), (.int 917594 2357), (.int 917595 2358), (.int 917596 2359), (.int 917597 2360), (.int 917598 2361), (.int 917599 2362), (.int 917600 2363), (.int 917601 2364), (.int 917602 2365), (.int 917603 2366), (.int 917604 2367), (.int 917605 2368), (.int 917606 2369), (.int 917607 2370), (.int 917608 2371), (.int 917609 2372), (.int 917610 2373), (.int 917611 2374), (.int 917612 2375), (.int 917613 2376), (.int 917614 2377), (.int 917615 2378), (.int 917616 2379), (.int 917617 2380), (.int 917618 2381), (.int 917619 2382), (.int 917620 2383), (.int 917621 2384), (.int 917622 2385), (.int 917623 2386), (.int 917624 2387), (.int 917625 2388), (.int 917626 2389), (.int 917627 2390), (.int 917628 2391), (.int 917629 2392), (.int 917630 2393), (.int 917631 2394)] 98), #[]⟩
noncomputable def o138 (P : Params) : Obj := ⟨(.type "range_iterator"), none, (.fields #[(.int 917632 0), (.int 0 0), (.int 1 0)]), #[]⟩
noncomputable def o139 (P : Params) : Obj := ⟨(.type "tuple"), none, (.seq #[] 0), #[]⟩
noncomputable def o140 (P : Params) : Obj := ⟨(.type "StopIteration"), none, (.fields #[(.ref 139), .none, .none, .none, (.bool false), .none]), #[]⟩
noncomputable def o141 (P : Params) : Obj := ⟨(.type "list"), none, (.seq #[(.int 917505 2293), (.int 917536 2299), (.int 917537 2300), (.int 917538 2301), (.int 917539 2302), (.int 917540 2303), (.int 917541 2304), (.int 917542 2305), (.int 917543 2306), (.int 917544 2307), (.int 917545 2308), (.int 917546 2309), (.int 917547 2310), (.int 917548 2311), (.int 917549 2312), (.int 917550 2313), (.int 917551 2314), (.int 917552 2315), (.int 917553 2316), (.int 917554 2317), (.int 917555 2318), (.int 917556 2319), (.int 917557 2320), (.int 917558 2321), (.int 917559 2322), (.int 917560 2323), (.int 917561 2324), (.int 917562 2325), (.int 917563 2326), (.int 917564 2327), (.int 917565 2328), (.int 917566 2329), (.int 917567 2330), (.int 917568 2331), (.int 917569 2332), (.int 917570 2333), (.int 917571 2334), (.int 917572 2335), (.int 917573 2336), (.int 917574 2337), (.int 917575 2338), (.int 917576 2339), (.int 917577 2340), (.int 917578 2341), (.int 917579 2342), (.int 917580 2343), (.int 917581 2344), (.int 917582 2345), (.int 917583 2346), (.int 917584 2347), (.int 917585 2348), (.int 917586 2349), (.int 917587 2350), (.int 917588 2351), (.int 917589 2352), (.int 917590 2353), (.int 917591 2354), (.int 917592 2355), (.int 917593 2356), (.int 917594 2357), (.int 917595 2358), (.int 917596 2359), (.int 917597 2360), (.int 917598 2361), (.int 917599 2362), (.int 917600 2363), (.int 917601 2364), (.int 917602 2365), (.int 917603 2366), (.int 917604 2367), (.int 917605 2368), (.int 917606 2369), (.int 917607 2370), (.int 917608 2371), (.int 917609 2372), (.int 917610 2373), (.int 917611 2374), (.int 917612 2375), (.int 917613 2376), (.int 917614 2377), (.int 917615 2378), (.int 917616 2379), (.int 917617 2380), (.int 917618 2381), (.int 917619 2382), (.int 917620 2383), (.int 917621 2384), (.int 917622 2385), (.int 917623 2386), (.int 917624 2387), (.int 917625 2388), (.int 917626 2389), (.int 917627 2390), (.int 917628 2391), (.int 917629 2392), (.int 917630 2393), (.int 917631 2394)] 0), #[]⟩
noncomputable def o142 (P : Params) : Obj := (c9S P).obj
noncomputable def o143 (P : Params) : Obj := ⟨(.type "list_iterator"), none, (.fields #[.none, (.int 97 0)]), #[]⟩
noncomputable def o144 (P : Params) : Obj := ⟨(.type "tuple"), none, (.seq #[] 0), #[]⟩
noncomputable def o145 (P : Params) : Obj := ⟨(.type "StopIteration"), none, (.fields #[(.ref 144), .none, .none, .none, (.bool false), .none]), #[]⟩
noncomputable def o146 (P : Params) : Obj := ⟨(.type "tuple"), none, (.seq #[] 0), #[]⟩
noncomputable def o147 (P : Params) : Obj := ⟨.none, none, (.fields #[]), #[]⟩
noncomputable def o148 (P : Params) : Obj := ⟨(.type "tuple"), none, (.seq #[(.str (.ofString "code") 2496)] 0), #[]⟩
noncomputable def o149 (P : Params) : Obj := ⟨(.type "tuple"), none, (.seq #[] 0), #[]⟩
noncomputable def o150 (P : Params) : Obj := ⟨.none, none, (.func { name := (.ofString "in_table_c9"), qualname := (.ofString "in_table_c9"), params := sParams fd_in_table_c9, body := .stmts (sBody fd_in_table_c9), scope := sScope fd_in_table_c9, globals := 0, closure := [], defaults := .none, kwdefaults := .none, doc := .none, pyModule := .none, annotations := none, code := .none, closureTuple := .none, builtins := 0 }), #[]⟩
noncomputable def o151 (P : Params) : Obj := ⟨(.type "code"), none, (.fields #[(.str (.ofString "in_table_c9") 2493), (.str (.ofString "in_table_c9") 2494), (.str (.ofString "/claim/cut.py") 2495), (.int 68 0), (.int 1 0), (.int 0 0), (.int 0 0), (.int 3 0), (.ref 146), (.bool true), (.int 181 0), (.ref 147), .none, (.ref 148), (.ref 149), (.ref 150), (.int 2497 0), (.int 68 0), (.str (.ofString "/claim/cut.py") 2498)]), #[]⟩
noncomputable def o152 (P : Params) : Obj := ⟨(.type "function"), none, (.func { name := (.ofString "in_table_c9"), qualname := (.ofString "in_table_c9"), params := sParams fd_in_table_c9, body := .stmts (sBody fd_in_table_c9), scope := sScope fd_in_table_c9, globals := 3, closure := [], defaults := .none, kwdefaults := .none, doc := .none, pyModule := (.str (.ofString "cpy313.stringprep") 265), annotations := none, code := (.ref 151), closureTuple := .none, builtins := 0 }), #[]⟩
noncomputable def o153 (P : Params) : Obj := ⟨(.type "tuple"), none, (.seq #[] 0), #[]⟩
noncomputable def o154 (P : Params) : Obj := ⟨.none, none, (.fields #[]), #[]⟩
noncomputable def o155 (P : Params) : Obj := ⟨(.type "tuple"), none, (.seq #[(.str (.ofString "text") 2505), (.str (.ofString "read") 2506), (.str (.ofString "stream") 2507)] 0), #[]⟩
noncomputable def o156 (P : Params) : Obj := ⟨(.type "tuple"), none, (.seq #[(.str (.ofString "text") 2508), (.str (.ofString "place") 2509)] 0), #[]⟩
noncomputable def o157 (P : Params) : Obj := ⟨.none, none, (.func { name := (.ofString "_law_stream"), qualname := (.ofString "_law_stream"), params := sParams fd__law_stream, body := .stmts (sBody fd__law_stream), scope := sScope fd__law_stream, globals := 0, closure := [], defaults := .none, kwdefaults := .none, doc := .none, pyModule := .none, annotations := none, code := .none, closureTuple := .none, builtins := 0 }), #[]⟩
noncomputable def o158 (P : Params) : Obj := ⟨(.type "code"), none, (.fields #[(.str (.ofString "_law_stream") 2502), (.str (.ofString "_law_stream") 2503), (.str (.ofString "/claim/cut.py") 2504), (.int 71 0), (.int 1 0), (.int 0 0), (.int 0 0), (.int 3 0), (.ref 153), (.bool true), (.int 181 0), (.ref 154), .none, (.ref 155), (.ref 156), (.ref 157), (.int 2510 0), (.int 71 0), (.str (.ofString "/claim/cut.py") 2511)]), #[]⟩
noncomputable def o159 (P : Params) : Obj := ⟨(.type "function"), none, (.func { name := (.ofString "_law_stream"), qualname := (.ofString "_law_stream"), params := sParams fd__law_stream, body := .stmts (sBody fd__law_stream), scope := sScope fd__law_stream, globals := 3, closure := [], defaults := .none, kwdefaults := .none, doc := .none, pyModule := (.str (.ofString "law_rs0160_01") 2500), annotations := none, code := (.ref 158), closureTuple := .none, builtins := 0 }), #[]⟩
noncomputable def o160 (P : Params) : Obj := ⟨(.type "tuple"), none, (.seq #[] 0), #[]⟩
noncomputable def o161 (P : Params) : Obj := ⟨.none, none, (.fields #[]), #[]⟩
noncomputable def o162 (P : Params) : Obj := ⟨(.type "tuple"), none, (.seq #[(.str (.ofString "number") 2516), (.str (.ofString "place") 2517)] 0), #[]⟩
noncomputable def o163 (P : Params) : Obj := ⟨(.type "tuple"), none, (.seq #[] 0), #[]⟩
noncomputable def o164 (P : Params) : Obj := ⟨.none, none, (.func { name := (.ofString "_law_tag"), qualname := (.ofString "_law_tag"), params := sParams fd__law_tag, body := .stmts (sBody fd__law_tag), scope := sScope fd__law_tag, globals := 0, closure := [], defaults := .none, kwdefaults := .none, doc := .none, pyModule := .none, annotations := none, code := .none, closureTuple := .none, builtins := 0 }), #[]⟩
noncomputable def o165 (P : Params) : Obj := ⟨(.type "code"), none, (.fields #[(.str (.ofString "_law_tag") 2513), (.str (.ofString "_law_tag") 2514), (.str (.ofString "/claim/cut.py") 2515), (.int 80 0), (.int 1 0), (.int 0 0), (.int 0 0), (.int 3 0), (.ref 160), (.bool true), (.int 181 0), (.ref 161), .none, (.ref 162), (.ref 163), (.ref 164), (.int 2518 0), (.int 80 0), (.str (.ofString "/claim/cut.py") 2519)]), #[]⟩
noncomputable def o166 (P : Params) : Obj := ⟨(.type "function"), none, (.func { name := (.ofString "_law_tag"), qualname := (.ofString "_law_tag"), params := sParams fd__law_tag, body := .stmts (sBody fd__law_tag), scope := sScope fd__law_tag, globals := 3, closure := [], defaults := .none, kwdefaults := .none, doc := .none, pyModule := (.str (.ofString "law_rs0160_01") 2500), annotations := none, code := (.ref 165), closureTuple := .none, builtins := 0 }), #[]⟩
noncomputable def o167 (P : Params) : Obj := ⟨(.type "tuple"), none, (.seq #[] 0), #[]⟩
noncomputable def o168 (P : Params) : Obj := ⟨.none, none, (.fields #[]), #[]⟩
noncomputable def o169 (P : Params) : Obj := ⟨.none, none, (.func { name := (.ofString "_law_sign"), qualname := (.ofString "_law_sign"), params := sParams fd__law_sign, body := .stmts (sBody fd__law_sign), scope := sScope fd__law_sign, globals := 0, closure := [], defaults := .none, kwdefaults := .none, doc := .none, pyModule := .none, annotations := none, code := .none, closureTuple := .none, builtins := 0 }), #[]⟩
noncomputable def o170 (P : Params) : Obj := ⟨(.type "code"), none, (.fields #[(.str (.ofString "_law_sign") 2521), (.str (.ofString "_law_sign") 2522), (.str (.ofString "/claim/cut.py") 2523), (.int 83 0), (.int 1 0), (.int 0 0), (.int 0 0), (.int 3 0), (.ref 167), (.bool true), (.int 181 0), (.ref 168), .none, .none, .none, (.ref 169), (.int 2524 0), (.int 83 0), (.str (.ofString "/claim/cut.py") 2525)]), #[]⟩
noncomputable def o171 (P : Params) : Obj := ⟨(.type "function"), none, (.func { name := (.ofString "_law_sign"), qualname := (.ofString "_law_sign"), params := sParams fd__law_sign, body := .stmts (sBody fd__law_sign), scope := sScope fd__law_sign, globals := 3, closure := [], defaults := .none, kwdefaults := .none, doc := .none, pyModule := (.str (.ofString "law_rs0160_01") 2500), annotations := none, code := (.ref 170), closureTuple := .none, builtins := 0 }), #[]⟩
noncomputable def o172 (P : Params) : Obj := ⟨(.type "tuple"), none, (.seq #[] 0), #[]⟩
noncomputable def o173 (P : Params) : Obj := ⟨.none, none, (.fields #[]), #[]⟩
noncomputable def o174 (P : Params) : Obj := ⟨.none, none, (.func { name := (.ofString "_law_unseen"), qualname := (.ofString "_law_unseen"), params := sParams fd__law_unseen, body := .stmts (sBody fd__law_unseen), scope := sScope fd__law_unseen, globals := 0, closure := [], defaults := .none, kwdefaults := .none, doc := .none, pyModule := .none, annotations := none, code := .none, closureTuple := .none, builtins := 0 }), #[]⟩
noncomputable def o175 (P : Params) : Obj := ⟨(.type "code"), none, (.fields #[(.str (.ofString "_law_unseen") 2527), (.str (.ofString "_law_unseen") 2528), (.str (.ofString "/claim/cut.py") 2529), (.int 102 0), (.int 1 0), (.int 0 0), (.int 0 0), (.int 3 0), (.ref 172), (.bool true), (.int 181 0), (.ref 173), .none, .none, .none, (.ref 174), (.int 2530 0), (.int 102 0), (.str (.ofString "/claim/cut.py") 2531)]), #[]⟩
noncomputable def o176 (P : Params) : Obj := ⟨(.type "function"), none, (.func { name := (.ofString "_law_unseen"), qualname := (.ofString "_law_unseen"), params := sParams fd__law_unseen, body := .stmts (sBody fd__law_unseen), scope := sScope fd__law_unseen, globals := 3, closure := [], defaults := .none, kwdefaults := .none, doc := .none, pyModule := (.str (.ofString "law_rs0160_01") 2500), annotations := none, code := (.ref 175), closureTuple := .none, builtins := 0 }), #[]⟩
noncomputable def o177 (P : Params) : Obj := ⟨(.type "tuple"), none, (.seq #[] 0), #[]⟩
noncomputable def o178 (P : Params) : Obj := ⟨.none, none, (.fields #[]), #[]⟩
noncomputable def o179 (P : Params) : Obj := ⟨.none, none, (.func { name := (.ofString "_law_shown"), qualname := (.ofString "_law_shown"), params := sParams fd__law_shown, body := .stmts (sBody fd__law_shown), scope := sScope fd__law_shown, globals := 0, closure := [], defaults := .none, kwdefaults := .none, doc := .none, pyModule := .none, annotations := none, code := .none, closureTuple := .none, builtins := 0 }), #[]⟩
noncomputable def o180 (P : Params) : Obj := ⟨(.type "code"), none, (.fields #[(.str (.ofString "_law_shown") 2533), (.str (.ofString "_law_shown") 2534), (.str (.ofString "/claim/cut.py") 2535), (.int 109 0), (.int 2 0), (.int 0 0), (.int 0 0), (.int 3 0), (.ref 177), (.bool true), (.int 181 0), (.ref 178), .none, .none, .none, (.ref 179), (.int 2536 0), (.int 109 0), (.str (.ofString "/claim/cut.py") 2537)]), #[]⟩
noncomputable def o181 (P : Params) : Obj := ⟨(.type "function"), none, (.func { name := (.ofString "_law_shown"), qualname := (.ofString "_law_shown"), params := sParams fd__law_shown, body := .stmts (sBody fd__law_shown), scope := sScope fd__law_shown, globals := 3, closure := [], defaults := .none, kwdefaults := .none, doc := .none, pyModule := (.str (.ofString "law_rs0160_01") 2500), annotations := none, code := (.ref 180), closureTuple := .none, builtins := 0 }), #[]⟩
noncomputable def o182 (P : Params) : Obj := ⟨(.type "tuple"), none, (.seq #[] 0), #[]⟩
noncomputable def o183 (P : Params) : Obj := ⟨.none, none, (.fields #[]), #[]⟩
noncomputable def o184 (P : Params) : Obj := ⟨(.type "tuple"), none, (.seq #[(.str (.ofString "shown") 2542), (.str (.ofString "bare") 2543), (.str (.ofString "frame") 2544), (.str (.ofString "page") 2545), (.str (.ofString "pair") 2546)] 0), #[]⟩
noncomputable def o185 (P : Params) : Obj := ⟨(.type "tuple"), none, (.seq #[] 0), #[]⟩
noncomputable def o186 (P : Params) : Obj := ⟨.none, none, (.func { name := (.ofString "_law_page"), qualname := (.ofString "_law_page"), params := sParams fd__law_page, body := .stmts (sBody fd__law_page), scope := sScope fd__law_page, globals := 0, closure := [], defaults := .none, kwdefaults := .none, doc := .none, pyModule := .none, annotations := none, code := .none, closureTuple := .none, builtins := 0 }), #[]⟩
noncomputable def o187 (P : Params) : Obj := ⟨(.type "code"), none, (.fields #[(.str (.ofString "_law_page") 2539), (.str (.ofString "_law_page") 2540), (.str (.ofString "/claim/cut.py") 2541), (.int 118 0), (.int 2 0), (.int 0 0), (.int 0 0), (.int 3 0), (.ref 182), (.bool true), (.int 181 0), (.ref 183), .none, (.ref 184), (.ref 185), (.ref 186), (.int 2547 0), (.int 118 0), (.str (.ofString "/claim/cut.py") 2548)]), #[]⟩
noncomputable def o188 (P : Params) : Obj := ⟨(.type "function"), none, (.func { name := (.ofString "_law_page"), qualname := (.ofString "_law_page"), params := sParams fd__law_page, body := .stmts (sBody fd__law_page), scope := sScope fd__law_page, globals := 3, closure := [], defaults := .none, kwdefaults := .none, doc := .none, pyModule := (.str (.ofString "law_rs0160_01") 2500), annotations := none, code := (.ref 187), closureTuple := .none, builtins := 0 }), #[]⟩
noncomputable def o189 (P : Params) : Obj := ⟨(.type "tuple"), none, (.seq #[] 0), #[]⟩
noncomputable def o190 (P : Params) : Obj := ⟨.none, none, (.fields #[]), #[]⟩
noncomputable def o191 (P : Params) : Obj := ⟨.none, none, (.func { name := (.ofString "_law_text"), qualname := (.ofString "_law_text"), params := sParams fd__law_text, body := .stmts (sBody fd__law_text), scope := sScope fd__law_text, globals := 0, closure := [], defaults := .none, kwdefaults := .none, doc := .none, pyModule := .none, annotations := none, code := .none, closureTuple := .none, builtins := 0 }), #[]⟩
noncomputable def o192 (P : Params) : Obj := ⟨(.type "code"), none, (.fields #[(.str (.ofString "_law_text") 2550), (.str (.ofString "_law_text") 2551), (.str (.ofString "/claim/cut.py") 2552), (.int 126 0), (.int 2 0), (.int 0 0), (.int 0 0), (.int 3 0), (.ref 189), (.bool true), (.int 181 0), (.ref 190), .none, .none, .none, (.ref 191), (.int 2553 0), (.int 126 0), (.str (.ofString "/claim/cut.py") 2554)]), #[]⟩
noncomputable def o193 (P : Params) : Obj := ⟨(.type "function"), none, (.func { name := (.ofString "_law_text"), qualname := (.ofString "_law_text"), params := sParams fd__law_text, body := .stmts (sBody fd__law_text), scope := sScope fd__law_text, globals := 3, closure := [], defaults := .none, kwdefaults := .none, doc := .none, pyModule := (.str (.ofString "law_rs0160_01") 2500), annotations := none, code := (.ref 192), closureTuple := .none, builtins := 0 }), #[]⟩
noncomputable def o194 (P : Params) : Obj := ⟨(.type "tuple"), none, (.seq #[] 0), #[]⟩
noncomputable def o195 (P : Params) : Obj := ⟨.none, none, (.fields #[]), #[]⟩
noncomputable def o196 (P : Params) : Obj := ⟨.none, none, (.func { name := (.ofString "_law_prepared"), qualname := (.ofString "_law_prepared"), params := sParams fd__law_prepared, body := .stmts (sBody fd__law_prepared), scope := sScope fd__law_prepared, globals := 0, closure := [], defaults := .none, kwdefaults := .none, doc := .none, pyModule := .none, annotations := none, code := .none, closureTuple := .none, builtins := 0 }), #[]⟩
noncomputable def o197 (P : Params) : Obj := ⟨(.type "code"), none, (.fields #[(.str (.ofString "_law_prepared") 2556), (.str (.ofString "_law_prepared") 2557), (.str (.ofString "/claim/cut.py") 2558), (.int 128 0), (.int 1 0), (.int 0 0), (.int 0 0), (.int 3 0), (.ref 194), (.bool true), (.int 181 0), (.ref 195), .none, .none, .none, (.ref 196), (.int 2559 0), (.int 128 0), (.str (.ofString "/claim/cut.py") 2560)]), #[]⟩
noncomputable def o198 (P : Params) : Obj := ⟨(.type "function"), none, (.func { name := (.ofString "_law_prepared"), qualname := (.ofString "_law_prepared"), params := sParams fd__law_prepared, body := .stmts (sBody fd__law_prepared), scope := sScope fd__law_prepared, globals := 3, closure := [], defaults := .none, kwdefaults := .none, doc := .none, pyModule := (.str (.ofString "law_rs0160_01") 2500), annotations := none, code := (.ref 197), closureTuple := .none, builtins := 0 }), #[]⟩
noncomputable def o199 (P : Params) : Obj := ⟨(.type "tuple"), none, (.seq #[] 0), #[]⟩
noncomputable def o200 (P : Params) : Obj := ⟨.none, none, (.fields #[]), #[]⟩
noncomputable def o201 (P : Params) : Obj := ⟨(.type "tuple"), none, (.seq #[(.str (.ofString "text") 2565), (.str (.ofString "lexer") 2566)] 0), #[]⟩
noncomputable def o202 (P : Params) : Obj := ⟨(.type "tuple"), none, (.seq #[] 0), #[]⟩
noncomputable def o203 (P : Params) : Obj := ⟨.none, none, (.func { name := (.ofString "_law_read"), qualname := (.ofString "_law_read"), params := sParams fd__law_read, body := .stmts (sBody fd__law_read), scope := sScope fd__law_read, globals := 0, closure := [], defaults := .none, kwdefaults := .none, doc := .none, pyModule := .none, annotations := none, code := .none, closureTuple := .none, builtins := 0 }), #[]⟩
noncomputable def o204 (P : Params) : Obj := ⟨(.type "code"), none, (.fields #[(.str (.ofString "_law_read") 2562), (.str (.ofString "_law_read") 2563), (.str (.ofString "/claim/cut.py") 2564), (.int 130 0), (.int 1 0), (.int 0 0), (.int 0 0), (.int 3 0), (.ref 199), (.bool true), (.int 181 0), (.ref 200), .none, (.ref 201), (.ref 202), (.ref 203), (.int 2567 0), (.int 130 0), (.str (.ofString "/claim/cut.py") 2568)]), #[]⟩
noncomputable def o205 (P : Params) : Obj := ⟨(.type "function"), none, (.func { name := (.ofString "_law_read"), qualname := (.ofString "_law_read"), params := sParams fd__law_read, body := .stmts (sBody fd__law_read), scope := sScope fd__law_read, globals := 3, closure := [], defaults := .none, kwdefaults := .none, doc := .none, pyModule := (.str (.ofString "law_rs0160_01") 2500), annotations := none, code := (.ref 204), closureTuple := .none, builtins := 0 }), #[]⟩
noncomputable def o206 (P : Params) : Obj := ⟨(.type "tuple"), none, (.seq #[] 0), #[]⟩
noncomputable def o207 (P : Params) : Obj := ⟨.none, none, (.fields #[]), #[]⟩
noncomputable def o208 (P : Params) : Obj := ⟨.none, none, (.func { name := (.ofString "_law_undone"), qualname := (.ofString "_law_undone"), params := sParams fd__law_undone, body := .stmts (sBody fd__law_undone), scope := sScope fd__law_undone, globals := 0, closure := [], defaults := .none, kwdefaults := .none, doc := .none, pyModule := .none, annotations := none, code := .none, closureTuple := .none, builtins := 0 }), #[]⟩
noncomputable def o209 (P : Params) : Obj := ⟨(.type "code"), none, (.fields #[(.str (.ofString "_law_undone") 2570), (.str (.ofString "_law_undone") 2571), (.str (.ofString "/claim/cut.py") 2572), (.int 133 0), (.int 1 0), (.int 0 0), (.int 0 0), (.int 3 0), (.ref 206), (.bool true), (.int 181 0), (.ref 207), .none, .none, .none, (.ref 208), (.int 2573 0), (.int 133 0), (.str (.ofString "/claim/cut.py") 2574)]), #[]⟩
noncomputable def o210 (P : Params) : Obj := ⟨(.type "function"), none, (.func { name := (.ofString "_law_undone"), qualname := (.ofString "_law_undone"), params := sParams fd__law_undone, body := .stmts (sBody fd__law_undone), scope := sScope fd__law_undone, globals := 3, closure := [], defaults := .none, kwdefaults := .none, doc := .none, pyModule := (.str (.ofString "law_rs0160_01") 2500), annotations := none, code := (.ref 209), closureTuple := .none, builtins := 0 }), #[]⟩
noncomputable def o211 (P : Params) : Obj := ⟨(.type "tuple"), none, (.seq #[] 0), #[]⟩
noncomputable def o212 (P : Params) : Obj := ⟨.none, none, (.fields #[]), #[]⟩
noncomputable def o213 (P : Params) : Obj := ⟨.none, none, (.func { name := (.ofString "law"), qualname := (.ofString "law"), params := sParams fd_law, body := .stmts (sBody fd_law), scope := sScope fd_law, globals := 0, closure := [], defaults := .none, kwdefaults := .none, doc := .none, pyModule := .none, annotations := none, code := .none, closureTuple := .none, builtins := 0 }), #[]⟩
noncomputable def o214 (P : Params) : Obj := ⟨(.type "code"), none, (.fields #[(.str (.ofString "law") 2576), (.str (.ofString "law") 2577), (.str (.ofString "/claim/cut.py") 2578), (.int 147 0), (.int 1 0), (.int 0 0), (.int 0 0), (.int 3 0), (.ref 211), (.bool true), (.int 181 0), (.ref 212), .none, .none, .none, (.ref 213), (.int 2579 0), (.int 147 0), (.str (.ofString "/claim/cut.py") 2580)]), #[]⟩
noncomputable def o215 (P : Params) : Obj := ⟨(.type "function"), none, (.func { name := (.ofString "law"), qualname := (.ofString "law"), params := sParams fd_law, body := .stmts (sBody fd_law), scope := sScope fd_law, globals := 3, closure := [], defaults := .none, kwdefaults := .none, doc := .none, pyModule := (.str (.ofString "law_rs0160_01") 2500), annotations := none, code := (.ref 214), closureTuple := .none, builtins := 0 }), #[]⟩
noncomputable def o3_B (P : Params) : Obj := ⟨(.type "dict"), none, (.dict #[⟨PyData.keyHash P (.ofString "__name__"), (.str (.ofString "__name__") 165), (.str (.ofString "__main__") 164)⟩, ⟨PyData.keyHash P (.ofString "__doc__"), (.str (.ofString "__doc__") 166), .none⟩, ⟨PyData.keyHash P (.ofString "__package__"), (.str (.ofString "__package__") 167), .none⟩, ⟨PyData.keyHash P (.ofString "__loader__"), (.str (.ofString "__loader__") 168), (.builtin "__main__.__loader__#opaque")⟩, ⟨PyData.keyHash P (.ofString "__spec__"), (.str (.ofString "__spec__") 169), .none⟩, ⟨PyData.keyHash P (.ofString "__annotations__"), (.str (.ofString "__annotations__") 170), (.ref 6)⟩, ⟨PyData.keyHash P (.ofString "__builtins__"), (.str (.ofString "__builtins__") 171), (.ref 4)⟩, ⟨PyData.keyHash P (.ofString "__file__"), (.str (.ofString "__file__") 173), (.str (.ofString "/claim/cut.py") 172)⟩, ⟨PyData.keyHash P (.ofString "__cached__"), (.str (.ofString "__cached__") 174), .none⟩] 9), #[]⟩
noncomputable def o12_B : Obj := ⟨.none, none, (.fields #[]), #[]⟩
noncomputable def o3_5 (P : Params) : Obj := ⟨(.type "dict"), none, (.dict #[⟨PyData.keyHash P (.ofString "__name__"), (.str (.ofString "__name__") 165), (.str (.ofString "cpy313.stringprep") 265)⟩, ⟨PyData.keyHash P (.ofString "__doc__"), (.str (.ofString "__doc__") 166), .none⟩, ⟨PyData.keyHash P (.ofString "__package__"), (.str (.ofString "__package__") 167), .none⟩, ⟨PyData.keyHash P (.ofString "__loader__"), (.str (.ofString "__loader__") 168), (.builtin "__main__.__loader__#opaque")⟩, ⟨PyData.keyHash P (.ofString "__spec__"), (.str (.ofString "__spec__") 169), .none⟩, ⟨PyData.keyHash P (.ofString "__annotations__"), (.str (.ofString "__annotations__") 170), (.ref 6)⟩, ⟨PyData.keyHash P (.ofString "__builtins__"), (.str (.ofString "__builtins__") 171), (.ref 4)⟩, ⟨PyData.keyHash P (.ofString "__file__"), (.str (.ofString "__file__") 173), (.str (.ofString "/claim/cut.py") 172)⟩, ⟨PyData.keyHash P (.ofString "__cached__"), (.str (.ofString "__cached__") 174), .none⟩, ⟨PyData.keyHash P (.ofString "_wall"), (.str (.ofString "_wall") 193), (.ref 21)⟩, ⟨PyData.keyHash P (.ofString "_netrclex"), (.str (.ofString "_netrclex") 253), (.ref 59)⟩, ⟨PyData.keyHash P (.ofString "_parse_varint"), (.str (.ofString "_parse_varint") 264), (.ref 70)⟩] 12), #[]⟩
noncomputable def o12_5 : Obj := ⟨.none, none, (.fields #[(.int 1 0), (.int 0 0), (.ref 20), (.int 5 0), (.int 0 0), (.ref 27), (.int 49 0), (.int 0 0), (.ref 69)]), #[]⟩
noncomputable def o3_6 (P : Params) : Obj := ⟨(.type "dict"), none, (.dict #[⟨PyData.keyHash P (.ofString "__name__"), (.str (.ofString "__name__") 165), (.str (.ofString "cpy313.stringprep") 265)⟩, ⟨PyData.keyHash P (.ofString "__doc__"), (.str (.ofString "__doc__") 166), .none⟩, ⟨PyData.keyHash P (.ofString "__package__"), (.str (.ofString "__package__") 167), .none⟩, ⟨PyData.keyHash P (.ofString "__loader__"), (.str (.ofString "__loader__") 168), (.builtin "__main__.__loader__#opaque")⟩, ⟨PyData.keyHash P (.ofString "__spec__"), (.str (.ofString "__spec__") 169), .none⟩, ⟨PyData.keyHash P (.ofString "__annotations__"), (.str (.ofString "__annotations__") 170), (.ref 6)⟩, ⟨PyData.keyHash P (.ofString "__builtins__"), (.str (.ofString "__builtins__") 171), (.ref 4)⟩, ⟨PyData.keyHash P (.ofString "__file__"), (.str (.ofString "__file__") 173), (.str (.ofString "/claim/cut.py") 172)⟩, ⟨PyData.keyHash P (.ofString "__cached__"), (.str (.ofString "__cached__") 174), .none⟩, ⟨PyData.keyHash P (.ofString "_wall"), (.str (.ofString "_wall") 193), (.ref 21)⟩, ⟨PyData.keyHash P (.ofString "_netrclex"), (.str (.ofString "_netrclex") 253), (.ref 59)⟩, ⟨PyData.keyHash P (.ofString "_parse_varint"), (.str (.ofString "_parse_varint") 264), (.ref 70)⟩, ⟨PyData.keyHash P (.ofString "b1_set"), (.str (.ofString "b1_set") 326), (.ref 78)⟩] 13), #[]⟩
noncomputable def o12_6 : Obj := ⟨.none, none, (.fields #[(.int 1 0), (.int 0 0), (.ref 20), (.int 5 0), (.int 0 0), (.ref 27), (.int 49 0), (.int 0 0), (.ref 69)]), #[]⟩
noncomputable def o3_7 (P : Params) : Obj := ⟨(.type "dict"), none, (.dict #[⟨PyData.keyHash P (.ofString "__name__"), (.str (.ofString "__name__") 165), (.str (.ofString "cpy313.stringprep") 265)⟩, ⟨PyData.keyHash P (.ofString "__doc__"), (.str (.ofString "__doc__") 166), .none⟩, ⟨PyData.keyHash P (.ofString "__package__"), (.str (.ofString "__package__") 167), .none⟩, ⟨PyData.keyHash P (.ofString "__loader__"), (.str (.ofString "__loader__") 168), (.builtin "__main__.__loader__#opaque")⟩, ⟨PyData.keyHash P (.ofString "__spec__"), (.str (.ofString "__spec__") 169), .none⟩, ⟨PyData.keyHash P (.ofString "__annotations__"), (.str (.ofString "__annotations__") 170), (.ref 6)⟩, ⟨PyData.keyHash P (.ofString "__builtins__"), (.str (.ofString "__builtins__") 171), (.ref 4)⟩, ⟨PyData.keyHash P (.ofString "__file__"), (.str (.ofString "__file__") 173), (.str (.ofString "/claim/cut.py") 172)⟩, ⟨PyData.keyHash P (.ofString "__cached__"), (.str (.ofString "__cached__") 174), .none⟩, ⟨PyData.keyHash P (.ofString "_wall"), (.str (.ofString "_wall") 193), (.ref 21)⟩, ⟨PyData.keyHash P (.ofString "_netrclex"), (.str (.ofString "_netrclex") 253), (.ref 59)⟩, ⟨PyData.keyHash P (.ofString "_parse_varint"), (.str (.ofString "_parse_varint") 264), (.ref 70)⟩, ⟨PyData.keyHash P (.ofString "b1_set"), (.str (.ofString "b1_set") 326), (.ref 78)⟩, ⟨PyData.keyHash P (.ofString "in_table_b1"), (.str (.ofString "in_table_b1") 333), (.ref 88)⟩] 14), #[]⟩
noncomputable def o12_7 : Obj := ⟨.none, none, (.fields #[(.int 1 0), (.int 0 0), (.ref 20), (.int 5 0), (.int 0 0), (.ref 27), (.int 49 0), (.int 0 0), (.ref 69), (.int 59 0), (.int 0 0), (.ref 87)]), #[]⟩
noncomputable def o3_8 (P : Params) : Obj := ⟨(.type "dict"), none, (.dict #[⟨PyData.keyHash P (.ofString "__name__"), (.str (.ofString "__name__") 165), (.str (.ofString "cpy313.stringprep") 265)⟩, ⟨PyData.keyHash P (.ofString "__doc__"), (.str (.ofString "__doc__") 166), .none⟩, ⟨PyData.keyHash P (.ofString "__package__"), (.str (.ofString "__package__") 167), .none⟩, ⟨PyData.keyHash P (.ofString "__loader__"), (.str (.ofString "__loader__") 168), (.builtin "__main__.__loader__#opaque")⟩, ⟨PyData.keyHash P (.ofString "__spec__"), (.str (.ofString "__spec__") 169), .none⟩, ⟨PyData.keyHash P (.ofString "__annotations__"), (.str (.ofString "__annotations__") 170), (.ref 6)⟩, ⟨PyData.keyHash P (.ofString "__builtins__"), (.str (.ofString "__builtins__") 171), (.ref 4)⟩, ⟨PyData.keyHash P (.ofString "__file__"), (.str (.ofString "__file__") 173), (.str (.ofString "/claim/cut.py") 172)⟩, ⟨PyData.keyHash P (.ofString "__cached__"), (.str (.ofString "__cached__") 174), .none⟩, ⟨PyData.keyHash P (.ofString "_wall"), (.str (.ofString "_wall") 193), (.ref 21)⟩, ⟨PyData.keyHash P (.ofString "_netrclex"), (.str (.ofString "_netrclex") 253), (.ref 59)⟩, ⟨PyData.keyHash P (.ofString "_parse_varint"), (.str (.ofString "_parse_varint") 264), (.ref 70)⟩, ⟨PyData.keyHash P (.ofString "b1_set"), (.str (.ofString "b1_set") 326), (.ref 78)⟩, ⟨PyData.keyHash P (.ofString "in_table_b1"), (.str (.ofString "in_table_b1") 333), (.ref 88)⟩, ⟨PyData.keyHash P (.ofString "b3_exceptions"), (.str (.ofString "b3_exceptions") 2284), (.ref 89)⟩] 15), #[]⟩
noncomputable def o12_8 : Obj := ⟨.none, none, (.fields #[(.int 1 0), (.int 0 0), (.ref 20), (.int 5 0), (.int 0 0), (.ref 27), (.int 49 0), (.int 0 0), (.ref 69), (.int 59 0), (.int 0 0), (.ref 87)]), #[]⟩
noncomputable def o3_9 (P : Params) : Obj := ⟨(.type "dict"), none, (.dict #[⟨PyData.keyHash P (.ofString "__name__"), (.str (.ofString "__name__") 165), (.str (.ofString "cpy313.stringprep") 265)⟩, ⟨PyData.keyHash P (.ofString "__doc__"), (.str (.ofString "__doc__") 166), .none⟩, ⟨PyData.keyHash P (.ofString "__package__"), (.str (.ofString "__package__") 167), .none⟩, ⟨PyData.keyHash P (.ofString "__loader__"), (.str (.ofString "__loader__") 168), (.builtin "__main__.__loader__#opaque")⟩, ⟨PyData.keyHash P (.ofString "__spec__"), (.str (.ofString "__spec__") 169), .none⟩, ⟨PyData.keyHash P (.ofString "__annotations__"), (.str (.ofString "__annotations__") 170), (.ref 6)⟩, ⟨PyData.keyHash P (.ofString "__builtins__"), (.str (.ofString "__builtins__") 171), (.ref 4)⟩, ⟨PyData.keyHash P (.ofString "__file__"), (.str (.ofString "__file__") 173), (.str (.ofString "/claim/cut.py") 172)⟩, ⟨PyData.keyHash P (.ofString "__cached__"), (.str (.ofString "__cached__") 174), .none⟩, ⟨PyData.keyHash P (.ofString "_wall"), (.str (.ofString "_wall") 193), (.ref 21)⟩, ⟨PyData.keyHash P (.ofString "_netrclex"), (.str (.ofString "_netrclex") 253), (.ref 59)⟩, ⟨PyData.keyHash P (.ofString "_parse_varint"), (.str (.ofString "_parse_varint") 264), (.ref 70)⟩, ⟨PyData.keyHash P (.ofString "b1_set"), (.str (.ofString "b1_set") 326), (.ref 78)⟩, ⟨PyData.keyHash P (.ofString "in_table_b1"), (.str (.ofString "in_table_b1") 333), (.ref 88)⟩, ⟨PyData.keyHash P (.ofString "b3_exceptions"), (.str (.ofString "b3_exceptions") 2284), (.ref 89)⟩, ⟨PyData.keyHash P (.ofString "map_table_b3"), (.str (.ofString "map_table_b3") 2292), (.ref 134)⟩] 16), #[]⟩
noncomputable def o12_9 : Obj := ⟨.none, none, (.fields #[(.int 1 0), (.int 0 0), (.ref 20), (.int 5 0), (.int 0 0), (.ref 27), (.int 49 0), (.int 0 0), (.ref 69), (.int 59 0), (.int 0 0), (.ref 87), (.int 62 0), (.int 0 0), (.ref 133)]), #[]⟩
noncomputable def o3_10 (P : Params) : Obj := ⟨(.type "dict"), none, (.dict #[⟨PyData.keyHash P (.ofString "__name__"), (.str (.ofString "__name__") 165), (.str (.ofString "cpy313.stringprep") 265)⟩, ⟨PyData.keyHash P (.ofString "__doc__"), (.str (.ofString "__doc__") 166), .none⟩, ⟨PyData.keyHash P (.ofString "__package__"), (.str (.ofString "__package__") 167), .none⟩, ⟨PyData.keyHash P (.ofString "__loader__"), (.str (.ofString "__loader__") 168), (.builtin "__main__.__loader__#opaque")⟩, ⟨PyData.keyHash P (.ofString "__spec__"), (.str (.ofString "__spec__") 169), .none⟩, ⟨PyData.keyHash P (.ofString "__annotations__"), (.str (.ofString "__annotations__") 170), (.ref 6)⟩, ⟨PyData.keyHash P (.ofString "__builtins__"), (.str (.ofString "__builtins__") 171), (.ref 4)⟩, ⟨PyData.keyHash P (.ofString "__file__"), (.str (.ofString "__file__") 173), (.str (.ofString "/claim/cut.py") 172)⟩, ⟨PyData.keyHash P (.ofString "__cached__"), (.str (.ofString "__cached__") 174), .none⟩, ⟨PyData.keyHash P (.ofString "_wall"), (.str (.ofString "_wall") 193), (.ref 21)⟩, ⟨PyData.keyHash P (.ofString "_netrclex"), (.str (.ofString "_netrclex") 253), (.ref 59)⟩, ⟨PyData.keyHash P (.ofString "_parse_varint"), (.str (.ofString "_parse_varint") 264), (.ref 70)⟩, ⟨PyData.keyHash P (.ofString "b1_set"), (.str (.ofString "b1_set") 326), (.ref 78)⟩, ⟨PyData.keyHash P (.ofString "in_table_b1"), (.str (.ofString "in_table_b1") 333), (.ref 88)⟩, ⟨PyData.keyHash P (.ofString "b3_exceptions"), (.str (.ofString "b3_exceptions") 2284), (.ref 89)⟩, ⟨PyData.keyHash P (.ofString "map_table_b3"), (.str (.ofString "map_table_b3") 2292), (.ref 134)⟩, ⟨PyData.keyHash P (.ofString "c9_set"), (.str (.ofString "c9_set") 2492), (.ref 142)⟩] 17), #[]⟩
noncomputable def o12_10 : Obj := ⟨.none, none, (.fields #[(.int 1 0), (.int 0 0), (.ref 20), (.int 5 0), (.int 0 0), (.ref 27), (.int 49 0), (.int 0 0), (.ref 69), (.int 59 0), (.int 0 0), (.ref 87), (.int 62 0), (.int 0 0), (.ref 133)]), #[]⟩
noncomputable def o3_23 (P : Params) : Obj := ⟨(.type "dict"), none, (.dict #[⟨PyData.keyHash P (.ofString "__name__"), (.str (.ofString "__name__") 165), (.str (.ofString "law_rs0160_01") 2500)⟩, ⟨PyData.keyHash P (.ofString "__doc__"), (.str (.ofString "__doc__") 166), .none⟩, ⟨PyData.keyHash P (.ofString "__package__"), (.str (.ofString "__package__") 167), .none⟩, ⟨PyData.keyHash P (.ofString "__loader__"), (.str (.ofString "__loader__") 168), (.builtin "__main__.__loader__#opaque")⟩, ⟨PyData.keyHash P (.ofString "__spec__"), (.str (.ofString "__spec__") 169), .none⟩, ⟨PyData.keyHash P (.ofString "__annotations__"), (.str (.ofString "__annotations__") 170), (.ref 6)⟩, ⟨PyData.keyHash P (.ofString "__builtins__"), (.str (.ofString "__builtins__") 171), (.ref 4)⟩, ⟨PyData.keyHash P (.ofString "__file__"), (.str (.ofString "__file__") 173), (.str (.ofString "/claim/cut.py") 172)⟩, ⟨PyData.keyHash P (.ofString "__cached__"), (.str (.ofString "__cached__") 174), .none⟩, ⟨PyData.keyHash P (.ofString "_wall"), (.str (.ofString "_wall") 193), (.ref 21)⟩, ⟨PyData.keyHash P (.ofString "_netrclex"), (.str (.ofString "_netrclex") 253), (.ref 59)⟩, ⟨PyData.keyHash P (.ofString "_parse_varint"), (.str (.ofString "_parse_varint") 264), (.ref 70)⟩, ⟨PyData.keyHash P (.ofString "b1_set"), (.str (.ofString "b1_set") 326), (.ref 78)⟩, ⟨PyData.keyHash P (.ofString "in_table_b1"), (.str (.ofString "in_table_b1") 333), (.ref 88)⟩, ⟨PyData.keyHash P (.ofString "b3_exceptions"), (.str (.ofString "b3_exceptions") 2284), (.ref 89)⟩, ⟨PyData.keyHash P (.ofString "map_table_b3"), (.str (.ofString "map_table_b3") 2292), (.ref 134)⟩, ⟨PyData.keyHash P (.ofString "c9_set"), (.str (.ofString "c9_set") 2492), (.ref 142)⟩, ⟨PyData.keyHash P (.ofString "in_table_c9"), (.str (.ofString "in_table_c9") 2499), (.ref 152)⟩, ⟨PyData.keyHash P (.ofString "_law_stream"), (.str (.ofString "_law_stream") 2512), (.ref 159)⟩, ⟨PyData.keyHash P (.ofString "_law_tag"), (.str (.ofString "_law_tag") 2520), (.ref 166)⟩, ⟨PyData.keyHash P (.ofString "_law_sign"), (.str (.ofString "_law_sign") 2526), (.ref 171)⟩, ⟨PyData.keyHash P (.ofString "_law_unseen"), (.str (.ofString "_law_unseen") 2532), (.ref 176)⟩, ⟨PyData.keyHash P (.ofString "_law_shown"), (.str (.ofString "_law_shown") 2538), (.ref 181)⟩, ⟨PyData.keyHash P (.ofString "_law_page"), (.str (.ofString "_law_page") 2549), (.ref 188)⟩, ⟨PyData.keyHash P (.ofString "_law_text"), (.str (.ofString "_law_text") 2555), (.ref 193)⟩, ⟨PyData.keyHash P (.ofString "_law_prepared"), (.str (.ofString "_law_prepared") 2561), (.ref 198)⟩, ⟨PyData.keyHash P (.ofString "_law_read"), (.str (.ofString "_law_read") 2569), (.ref 205)⟩, ⟨PyData.keyHash P (.ofString "_law_undone"), (.str (.ofString "_law_undone") 2575), (.ref 210)⟩, ⟨PyData.keyHash P (.ofString "law"), (.str (.ofString "law") 2581), (.ref 215)⟩] 29), #[]⟩
noncomputable def o12_23 : Obj := ⟨.none, none, (.fields #[(.int 1 0), (.int 0 0), (.ref 20), (.int 5 0), (.int 0 0), (.ref 27), (.int 49 0), (.int 0 0), (.ref 69), (.int 59 0), (.int 0 0), (.ref 87), (.int 62 0), (.int 0 0), (.ref 133), (.int 68 0), (.int 0 0), (.ref 151), (.int 71 0), (.int 0 0), (.ref 158), (.int 80 0), (.int 0 0), (.ref 165), (.int 83 0), (.int 0 0), (.ref 170), (.int 102 0), (.int 0 0), (.ref 175), (.int 109 0), (.int 0 0), (.ref 180), (.int 118 0), (.int 0 0), (.ref 187), (.int 126 0), (.int 0 0), (.ref 192), (.int 128 0), (.int 0 0), (.ref 197), (.int 130 0), (.int 0 0), (.ref 204), (.int 133 0), (.int 0 0), (.ref 209), (.int 147 0), (.int 0 0), (.ref 214)]), #[]⟩
noncomputable def trB (P : Params) : BT := (.node (boot_o_0 P) (.node (boot_o_1 P) (.node (o3_B P) (.node (boot_o_7 P) .nil .nil) (.node (o11 P) .nil .nil)) (.node (boot_o_5 P) (.node (boot_o_9 P) .nil .nil) (.node (o13 P) .nil .nil))) (.node (boot_o_2 P) (.node (boot_o_4 P) (.node (boot_o_8 P) .nil .nil) (.node o12_B .nil .nil)) (.node (boot_o_6 P) (.node (boot_o_10 P) .nil .nil) (.node (o14 P) .nil .nil))))
noncomputable def tr5 (P : Params) : BT := (.node (boot_o_0 P) (.node (boot_o_1 P) (.node (o3_5 P) (.node (boot_o_7 P) (.node (o15 P) (.node (o31 P) (.node (o63 P) .nil .nil) .nil) (.node (o47 P) .nil .nil)) (.node (o23 P) (.node (o39 P) .nil .nil) (.node (o55 P) .nil .nil))) (.node (o11 P) (.node (o19 P) (.node (o35 P) (.node (o67 P) .nil .nil) .nil) (.node (o51 P) .nil .nil)) (.node (o27 P) (.node (o43 P) .nil .nil) (.node (o59 P) .nil .nil)))) (.node (boot_o_5 P) (.node (boot_o_9 P) (.node (o17 P) (.node (o33 P) (.node (o65 P) .nil .nil) .nil) (.node (o49 P) .nil .nil)) (.node (o25 P) (.node (o41 P) .nil .nil) (.node (o57 P) .nil .nil))) (.node (o13 P) (.node (o21 P) (.node (o37 P) (.node (o69 P) .nil .nil) .nil) (.node (o53 P) .nil .nil)) (.node (o29 P) (.node (o45 P) .nil .nil) (.node (o61 P) .nil .nil))))) (.node (boot_o_2 P) (.node (boot_o_4 P) (.node (boot_o_8 P) (.node (o16 P) (.node (o32 P) (.node (o64 P) .nil .nil) .nil) (.node (o48 P) .nil .nil)) (.node (o24 P) (.node (o40 P) .nil .nil) (.node (o56 P) .nil .nil))) (.node o12_5 (.node (o20 P) (.node (o36 P) (.node (o68 P) .nil .nil) .nil) (.node (o52 P) .nil .nil)) (.node (o28 P) (.node (o44 P) .nil .nil) (.node (o60 P) .nil .nil)))) (.node (boot_o_6 P) (.node (boot_o_10 P) (.node (o18 P) (.node (o34 P) (.node (o66 P) .nil .nil) .nil) (.node (o50 P) .nil .nil)) (.node (o26 P) (.node (o42 P) .nil .nil) (.node (o58 P) .nil .nil))) (.node (o14 P) (.node (o22 P) (.node (o38 P) (.node (o70 P) .nil .nil) .nil) (.node (o54 P) .nil .nil)) (.node (o30 P) (.node (o46 P) .nil .nil) (.node (o62 P) .nil .nil))))))
noncomputable def tr6 (P : Params) : BT := (.node (boot_o_0 P) (.node (boot_o_1 P) (.node (o3_6 P) (.node (boot_o_7 P) (.node (o15 P) (.node (o31 P) (.node (o63 P) .nil .nil) .nil) (.node (o47 P) (.node (o79 P) .nil .nil) .nil)) (.node (o23 P) (.node (o39 P) (.node (o71 P) .nil .nil) .nil) (.node (o55 P) .nil .nil))) (.node (o11 P) (.node (o19 P) (.node (o35 P) (.node (o67 P) .nil .nil) .nil) (.node (o51 P) .nil .nil)) (.node (o27 P) (.node (o43 P) (.node (o75 P) .nil .nil) .nil) (.node (o59 P) .nil .nil)))) (.node (boot_o_5 P) (.node (boot_o_9 P) (.node (o17 P) (.node (o33 P) (.node (o65 P) .nil .nil) .nil) (.node (o49 P) (.node (o81 P) .nil .nil) .nil)) (.node (o25 P) (.node (o41 P) (.node (o73 P) .nil .nil) .nil) (.node (o57 P) .nil .nil))) (.node (o13 P) (.node (o21 P) (.node (o37 P) (.node (o69 P) .nil .nil) .nil) (.node (o53 P) .nil .nil)) (.node (o29 P) (.node (o45 P) (.node (o77 P) .nil .nil) .nil) (.node (o61 P) .nil .nil))))) (.node (boot_o_2 P) (.node (boot_o_4 P) (.node (boot_o_8 P) (.node (o16 P) (.node (o32 P) (.node (o64 P) .nil .nil) .nil) (.node (o48 P) (.node (o80 P) .nil .nil) .nil)) (.node (o24 P) (.node (o40 P) (.node (o72 P) .nil .nil) .nil) (.node (o56 P) .nil .nil))) (.node o12_6 (.node (o20 P) (.node (o36 P) (.node (o68 P) .nil .nil) .nil) (.node (o52 P) .nil .nil)) (.node (o28 P) (.node (o44 P) (.node (o76 P) .nil .nil) .nil) (.node (o60 P) .nil .nil)))) (.node (boot_o_6 P) (.node (boot_o_10 P) (.node (o18 P) (.node (o34 P) (.node (o66 P) .nil .nil) .nil) (.node (o50 P) .nil .nil)) (.node (o26 P) (.node (o42 P) (.node (o74 P) .nil .nil) .nil) (.node (o58 P) .nil .nil))) (.node (o14 P) (.node (o22 P) (.node (o38 P) (.node (o70 P) .nil .nil) .nil) (.node (o54 P) .nil .nil)) (.node (o30 P) (.node (o46 P) (.node (o78 P) .nil .nil) .nil) (.node (o62 P) .nil .nil))))))
noncomputable def tr7 (P : Params) : BT := (.node (boot_o_0 P) (.node (boot_o_1 P) (.node (o3_7 P) (.node (boot_o_7 P) (.node (o15 P) (.node (o31 P) (.node (o63 P) .nil .nil) .nil) (.node (o47 P) (.node (o79 P) .nil .nil) .nil)) (.node (o23 P) (.node (o39 P) (.node (o71 P) .nil .nil) .nil) (.node (o55 P) (.node (o87 P) .nil .nil) .nil))) (.node (o11 P) (.node (o19 P) (.node (o35 P) (.node (o67 P) .nil .nil) .nil) (.node (o51 P) (.node (o83 P) .nil .nil) .nil)) (.node (o27 P) (.node (o43 P) (.node (o75 P) .nil .nil) .nil) (.node (o59 P) .nil .nil)))) (.node (boot_o_5 P) (.node (boot_o_9 P) (.node (o17 P) (.node (o33 P) (.node (o65 P) .nil .nil) .nil) (.node (o49 P) (.node (o81 P) .nil .nil) .nil)) (.node (o25 P) (.node (o41 P) (.node (o73 P) .nil .nil) .nil) (.node (o57 P) .nil .nil))) (.node (o13 P) (.node (o21 P) (.node (o37 P) (.node (o69 P) .nil .nil) .nil) (.node (o53 P) (.node (o85 P) .nil .nil) .nil)) (.node (o29 P) (.node (o45 P) (.node (o77 P) .nil .nil) .nil) (.node (o61 P) .nil .nil))))) (.node (boot_o_2 P) (.node (boot_o_4 P) (.node (boot_o_8 P) (.node (o16 P) (.node (o32 P) (.node (o64 P) .nil .nil) .nil) (.node (o48 P) (.node (o80 P) .nil .nil) .nil)) (.node (o24 P) (.node (o40 P) (.node (o72 P) .nil .nil) .nil) (.node (o56 P) (.node (o88 P) .nil .nil) .nil))) (.node o12_7 (.node (o20 P) (.node (o36 P) (.node (o68 P) .nil .nil) .nil) (.node (o52 P) (.node (o84 P) .nil .nil) .nil)) (.node (o28 P) (.node (o44 P) (.node (o76 P) .nil .nil) .nil) (.node (o60 P) .nil .nil)))) (.node (boot_o_6 P) (.node (boot_o_10 P) (.node (o18 P) (.node (o34 P) (.node (o66 P) .nil .nil) .nil) (.node (o50 P) (.node (o82 P) .nil .nil) .nil)) (.node (o26 P) (.node (o42 P) (.node (o74 P) .nil .nil) .nil) (.node (o58 P) .nil .nil))) (.node (o14 P) (.node (o22 P) (.node (o38 P) (.node (o70 P) .nil .nil) .nil) (.node (o54 P) (.node (o86 P) .nil .nil) .nil)) (.node (o30 P) (.node (o46 P) (.node (o78 P) .nil .nil) .nil) (.node (o62 P) .nil .nil))))))
noncomputable def tr8 (P : Params) : BT := (.node (boot_o_0 P) (.node (boot_o_1 P) (.node (o3_8 P) (.node (boot_o_7 P) (.node (o15 P) (.node (o31 P) (.node (o63 P) (.node (o127 P) .nil .nil) .nil) (.node (o95 P) .nil .nil)) (.node (o47 P) (.node (o79 P) .nil .nil) (.node (o111 P) .nil .nil))) (.node (o23 P) (.node (o39 P) (.node (o71 P) .nil .nil) (.node (o103 P) .nil .nil)) (.node (o55 P) (.node (o87 P) .nil .nil) (.node (o119 P) .nil .nil)))) (.node (o11 P) (.node (o19 P) (.node (o35 P) (.node (o67 P) .nil .nil) (.node (o99 P) .nil .nil)) (.node (o51 P) (.node (o83 P) .nil .nil) (.node (o115 P) .nil .nil))) (.node (o27 P) (.node (o43 P) (.node (o75 P) .nil .nil) (.node (o107 P) .nil .nil)) (.node (o59 P) (.node (o91 P) .nil .nil) (.node (o123 P) .nil .nil))))) (.node (boot_o_5 P) (.node (boot_o_9 P) (.node (o17 P) (.node (o33 P) (.node (o65 P) .nil .nil) (.node (o97 P) .nil .nil)) (.node (o49 P) (.node (o81 P) .nil .nil) (.node (o113 P) .nil .nil))) (.node (o25 P) (.node (o41 P) (.node (o73 P) .nil .nil) (.node (o105 P) .nil .nil)) (.node (o57 P) (.node (o89 P) .nil .nil) (.node (o121 P) .nil .nil)))) (.node (o13 P) (.node (o21 P) (.node (o37 P) (.node (o69 P) .nil .nil) (.node (o101 P) .nil .nil)) (.node (o53 P) (.node (o85 P) .nil .nil) (.node (o117 P) .nil .nil))) (.node (o29 P) (.node (o45 P) (.node (o77 P) .nil .nil) (.node (o109 P) .nil .nil)) (.node (o61 P) (.node (o93 P) .nil .nil) (.node (o125 P) .nil .nil)))))) (.node (boot_o_2 P) (.node (boot_o_4 P) (.node (boot_o_8 P) (.node (o16 P) (.node (o32 P) (.node (o64 P) .nil .nil) (.node (o96 P) .nil .nil)) (.node (o48 P) (.node (o80 P) .nil .nil) (.node (o112 P) .nil .nil))) (.node (o24 P) (.node (o40 P) (.node (o72 P) .nil .nil) (.node (o104 P) .nil .nil)) (.node (o56 P) (.node (o88 P) .nil .nil) (.node (o120 P) .nil .nil)))) (.node o12_8 (.node (o20 P) (.node (o36 P) (.node (o68 P) .nil .nil) (.node (o100 P) .nil .nil)) (.node (o52 P) (.node (o84 P) .nil .nil) (.node (o116 P) .nil .nil))) (.node (o28 P) (.node (o44 P) (.node (o76 P) .nil .nil) (.node (o108 P) .nil .nil)) (.node (o60 P) (.node (o92 P) .nil .nil) (.node (o124 P) .nil .nil))))) (.node (boot_o_6 P) (.node (boot_o_10 P) (.node (o18 P) (.node (o34 P) (.node (o66 P) .nil .nil) (.node (o98 P) .nil .nil)) (.node (o50 P) (.node (o82 P) .nil .nil) (.node (o114 P) .nil .nil))) (.node (o26 P) (.node (o42 P) (.node (o74 P) .nil .nil) (.node (o106 P) .nil .nil)) (.node (o58 P) (.node (o90 P) .nil .nil) (.node (o122 P) .nil .nil)))) (.node (o14 P) (.node (o22 P) (.node (o38 P) (.node (o70 P) .nil .nil) (.node (o102 P) .nil .nil)) (.node (o54 P) (.node (o86 P) .nil .nil) (.node (o118 P) .nil .nil))) (.node (o30 P) (.node (o46 P) (.node (o78 P) .nil .nil) (.node (o110 P) .nil .nil)) (.node (o62 P) (.node (o94 P) .nil .nil) (.node (o126 P) .nil .nil)))))))
noncomputable def tr9 (P : Params) : BT := (.node (boot_o_0 P) (.node (boot_o_1 P) (.node (o3_9 P) (.node (boot_o_7 P) (.node (o15 P) (.node (o31 P) (.node (o63 P) (.node (o127 P) .nil .nil) .nil) (.node (o95 P) .nil .nil)) (.node (o47 P) (.node (o79 P) .nil .nil) (.node (o111 P) .nil .nil))) (.node (o23 P) (.node (o39 P) (.node (o71 P) .nil .nil) (.node (o103 P) .nil .nil)) (.node (o55 P) (.node (o87 P) .nil .nil) (.node (o119 P) .nil .nil)))) (.node (o11 P) (.node (o19 P) (.node (o35 P) (.node (o67 P) (.node (o131 P) .nil .nil) .nil) (.node (o99 P) .nil .nil)) (.node (o51 P) (.node (o83 P) .nil .nil) (.node (o115 P) .nil .nil))) (.node (o27 P) (.node (o43 P) (.node (o75 P) .nil .nil) (.node (o107 P) .nil .nil)) (.node (o59 P) (.node (o91 P) .nil .nil) (.node (o123 P) .nil .nil))))) (.node (boot_o_5 P) (.node (boot_o_9 P) (.node (o17 P) (.node (o33 P) (.node (o65 P) (.node (o129 P) .nil .nil) .nil) (.node (o97 P) .nil .nil)) (.node (o49 P) (.node (o81 P) .nil .nil) (.node (o113 P) .nil .nil))) (.node (o25 P) (.node (o41 P) (.node (o73 P) .nil .nil) (.node (o105 P) .nil .nil)) (.node (o57 P) (.node (o89 P) .nil .nil) (.node (o121 P) .nil .nil)))) (.node (o13 P) (.node (o21 P) (.node (o37 P) (.node (o69 P) (.node (o133 P) .nil .nil) .nil) (.node (o101 P) .nil .nil)) (.node (o53 P) (.node (o85 P) .nil .nil) (.node (o117 P) .nil .nil))) (.node (o29 P) (.node (o45 P) (.node (o77 P) .nil .nil) (.node (o109 P) .nil .nil)) (.node (o61 P) (.node (o93 P) .nil .nil) (.node (o125 P) .nil .nil)))))) (.node (boot_o_2 P) (.node (boot_o_4 P) (.node (boot_o_8 P) (.node (o16 P) (.node (o32 P) (.node (o64 P) (.node (o128 P) .nil .nil) .nil) (.node (o96 P) .nil .nil)) (.node (o48 P) (.node (o80 P) .nil .nil) (.node (o112 P) .nil .nil))) (.node (o24 P) (.node (o40 P) (.node (o72 P) .nil .nil) (.node (o104 P) .nil .nil)) (.node (o56 P) (.node (o88 P) .nil .nil) (.node (o120 P) .nil .nil)))) (.node o12_9 (.node (o20 P) (.node (o36 P) (.node (o68 P) (.node (o132 P) .nil .nil) .nil) (.node (o100 P) .nil .nil)) (.node (o52 P) (.node (o84 P) .nil .nil) (.node (o116 P) .nil .nil))) (.node (o28 P) (.node (o44 P) (.node (o76 P) .nil .nil) (.node (o108 P) .nil .nil)) (.node (o60 P) (.node (o92 P) .nil .nil) (.node (o124 P) .nil .nil))))) (.node (boot_o_6 P) (.node (boot_o_10 P) (.node (o18 P) (.node (o34 P) (.node (o66 P) (.node (o130 P) .nil .nil) .nil) (.node (o98 P) .nil .nil)) (.node (o50 P) (.node (o82 P) .nil .nil) (.node (o114 P) .nil .nil))) (.node (o26 P) (.node (o42 P) (.node (o74 P) .nil .nil) (.node (o106 P) .nil .nil)) (.node (o58 P) (.node (o90 P) .nil .nil) (.node (o122 P) .nil .nil)))) (.node (o14 P) (.node (o22 P) (.node (o38 P) (.node (o70 P) (.node (o134 P) .nil .nil) .nil) (.node (o102 P) .nil .nil)) (.node (o54 P) (.node (o86 P) .nil .nil) (.node (o118 P) .nil .nil))) (.node (o30 P) (.node (o46 P) (.node (o78 P) .nil .nil) (.node (o110 P) .nil .nil)) (.node (o62 P) (.node (o94 P) .nil .nil) (.node (o126 P) .nil .nil)))))))
noncomputable def tr10 (P : Params) : BT := (.node (boot_o_0 P) (.node (boot_o_1 P) (.node (o3_10 P) (.node (boot_o_7 P) (.node (o15 P) (.node (o31 P) (.node (o63 P) (.node (o127 P) .nil .nil) .nil) (.node (o95 P) .nil .nil)) (.node (o47 P) (.node (o79 P) (.node (o143 P) .nil .nil) .nil) (.node (o111 P) .nil .nil))) (.node (o23 P) (.node (o39 P) (.node (o71 P) (.node (o135 P) .nil .nil) .nil) (.node (o103 P) .nil .nil)) (.node (o55 P) (.node (o87 P) .nil .nil) (.node (o119 P) .nil .nil)))) (.node (o11 P) (.node (o19 P) (.node (o35 P) (.node (o67 P) (.node (o131 P) .nil .nil) .nil) (.node (o99 P) .nil .nil)) (.node (o51 P) (.node (o83 P) .nil .nil) (.node (o115 P) .nil .nil))) (.node (o27 P) (.node (o43 P) (.node (o75 P) (.node (o139 P) .nil .nil) .nil) (.node (o107 P) .nil .nil)) (.node (o59 P) (.node (o91 P) .nil .nil) (.node (o123 P) .nil .nil))))) (.node (boot_o_5 P) (.node (boot_o_9 P) (.node (o17 P) (.node (o33 P) (.node (o65 P) (.node (o129 P) .nil .nil) .nil) (.node (o97 P) .nil .nil)) (.node (o49 P) (.node (o81 P) (.node (o145 P) .nil .nil) .nil) (.node (o113 P) .nil .nil))) (.node (o25 P) (.node (o41 P) (.node (o73 P) (.node (o137 P) .nil .nil) .nil) (.node (o105 P) .nil .nil)) (.node (o57 P) (.node (o89 P) .nil .nil) (.node (o121 P) .nil .nil)))) (.node (o13 P) (.node (o21 P) (.node (o37 P) (.node (o69 P) (.node (o133 P) .nil .nil) .nil) (.node (o101 P) .nil .nil)) (.node (o53 P) (.node (o85 P) .nil .nil) (.node (o117 P) .nil .nil))) (.node (o29 P) (.node (o45 P) (.node (o77 P) (.node (o141 P) .nil .nil) .nil) (.node (o109 P) .nil .nil)) (.node (o61 P) (.node (o93 P) .nil .nil) (.node (o125 P) .nil .nil)))))) (.node (boot_o_2 P) (.node (boot_o_4 P) (.node (boot_o_8 P) (.node (o16 P) (.node (o32 P) (.node (o64 P) (.node (o128 P) .nil .nil) .nil) (.node (o96 P) .nil .nil)) (.node (o48 P) (.node (o80 P) (.node (o144 P) .nil .nil) .nil) (.node (o112 P) .nil .nil))) (.node (o24 P) (.node (o40 P) (.node (o72 P) (.node (o136 P) .nil .nil) .nil) (.node (o104 P) .nil .nil)) (.node (o56 P) (.node (o88 P) .nil .nil) (.node (o120 P) .nil .nil)))) (.node o12_10 (.node (o20 P) (.node (o36 P) (.node (o68 P) (.node (o132 P) .nil .nil) .nil) (.node (o100 P) .nil .nil)) (.node (o52 P) (.node (o84 P) .nil .nil) (.node (o116 P) .nil .nil))) (.node (o28 P) (.node (o44 P) (.node (o76 P) (.node (o140 P) .nil .nil) .nil) (.node (o108 P) .nil .nil)) (.node (o60 P) (.node (o92 P) .nil .nil) (.node (o124 P) .nil .nil))))) (.node (boot_o_6 P) (.node (boot_o_10 P) (.node (o18 P) (.node (o34 P) (.node (o66 P) (.node (o130 P) .nil .nil) .nil) (.node (o98 P) .nil .nil)) (.node (o50 P) (.node (o82 P) .nil .nil) (.node (o114 P) .nil .nil))) (.node (o26 P) (.node (o42 P) (.node (o74 P) (.node (o138 P) .nil .nil) .nil) (.node (o106 P) .nil .nil)) (.node (o58 P) (.node (o90 P) .nil .nil) (.node (o122 P) .nil .nil)))) (.node (o14 P) (.node (o22 P) (.node (o38 P) (.node (o70 P) (.node (o134 P) .nil .nil) .nil) (.node (o102 P) .nil .nil)) (.node (o54 P) (.node (o86 P) .nil .nil) (.node (o118 P) .nil .nil))) (.node (o30 P) (.node (o46 P) (.node (o78 P) (.node (o142 P) .nil .nil) .nil) (.node (o110 P) .nil .nil)) (.node (o62 P) (.node (o94 P) .nil .nil) (.node (o126 P) .nil .nil)))))))
noncomputable def tr23 (P : Params) : BT := (.node (boot_o_0 P) (.node (boot_o_1 P) (.node (o3_23 P) (.node (boot_o_7 P) (.node (o15 P) (.node (o31 P) (.node (o63 P) (.node (o127 P) .nil .nil) (.node (o191 P) .nil .nil)) (.node (o95 P) (.node (o159 P) .nil .nil) .nil)) (.node (o47 P) (.node (o79 P) (.node (o143 P) .nil .nil) (.node (o207 P) .nil .nil)) (.node (o111 P) (.node (o175 P) .nil .nil) .nil))) (.node (o23 P) (.node (o39 P) (.node (o71 P) (.node (o135 P) .nil .nil) (.node (o199 P) .nil .nil)) (.node (o103 P) (.node (o167 P) .nil .nil) .nil)) (.node (o55 P) (.node (o87 P) (.node (o151 P) .nil .nil) (.node (o215 P) .nil .nil)) (.node (o119 P) (.node (o183 P) .nil .nil) .nil)))) (.node (o11 P) (.node (o19 P) (.node (o35 P) (.node (o67 P) (.node (o131 P) .nil .nil) (.node (o195 P) .nil .nil)) (.node (o99 P) (.node (o163 P) .nil .nil) .nil)) (.node (o51 P) (.node (o83 P) (.node (o147 P) .nil .nil) (.node (o211 P) .nil .nil)) (.node (o115 P) (.node (o179 P) .nil .nil) .nil))) (.node (o27 P) (.node (o43 P) (.node (o75 P) (.node (o139 P) .nil .nil) (.node (o203 P) .nil .nil)) (.node (o107 P) (.node (o171 P) .nil .nil) .nil)) (.node (o59 P) (.node (o91 P) (.node (o155 P) .nil .nil) .nil) (.node (o123 P) (.node (o187 P) .nil .nil) .nil))))) (.node (boot_o_5 P) (.node (boot_o_9 P) (.node (o17 P) (.node (o33 P) (.node (o65 P) (.node (o129 P) .nil .nil) (.node (o193 P) .nil .nil)) (.node (o97 P) (.node (o161 P) .nil .nil) .nil)) (.node (o49 P) (.node (o81 P) (.node (o145 P) .nil .nil) (.node (o209 P) .nil .nil)) (.node (o113 P) (.node (o177 P) .nil .nil) .nil))) (.node (o25 P) (.node (o41 P) (.node (o73 P) (.node (o137 P) .nil .nil) (.node (o201 P) .nil .nil)) (.node (o105 P) (.node (o169 P) .nil .nil) .nil)) (.node (o57 P) (.node (o89 P) (.node (o153 P) .nil .nil) .nil) (.node (o121 P) (.node (o185 P) .nil .nil) .nil)))) (.node (o13 P) (.node (o21 P) (.node (o37 P) (.node (o69 P) (.node (o133 P) .nil .nil) (.node (o197 P) .nil .nil)) (.node (o101 P) (.node (o165 P) .nil .nil) .nil)) (.node (o53 P) (.node (o85 P) (.node (o149 P) .nil .nil) (.node (o213 P) .nil .nil)) (.node (o117 P) (.node (o181 P) .nil .nil) .nil))) (.node (o29 P) (.node (o45 P) (.node (o77 P) (.node (o141 P) .nil .nil) (.node (o205 P) .nil .nil)) (.node (o109 P) (.node (o173 P) .nil .nil) .nil)) (.node (o61 P) (.node (o93 P) (.node (o157 P) .nil .nil) .nil) (.node (o125 P) (.node (o189 P) .nil .nil) .nil)))))) (.node (boot_o_2 P) (.node (boot_o_4 P) (.node (boot_o_8 P) (.node (o16 P) (.node (o32 P) (.node (o64 P) (.node (o128 P) .nil .nil) (.node (o192 P) .nil .nil)) (.node (o96 P) (.node (o160 P) .nil .nil) .nil)) (.node (o48 P) (.node (o80 P) (.node (o144 P) .nil .nil) (.node (o208 P) .nil .nil)) (.node (o112 P) (.node (o176 P) .nil .nil) .nil))) (.node (o24 P) (.node (o40 P) (.node (o72 P) (.node (o136 P) .nil .nil) (.node (o200 P) .nil .nil)) (.node (o104 P) (.node (o168 P) .nil .nil) .nil)) (.node (o56 P) (.node (o88 P) (.node (o152 P) .nil .nil) .nil) (.node (o120 P) (.node (o184 P) .nil .nil) .nil)))) (.node o12_23 (.node (o20 P) (.node (o36 P) (.node (o68 P) (.node (o132 P) .nil .nil) (.node (o196 P) .nil .nil)) (.node (o100 P) (.node (o164 P) .nil .nil) .nil)) (.node (o52 P) (.node (o84 P) (.node (o148 P) .nil .nil) (.node (o212 P) .nil .nil)) (.node (o116 P) (.node (o180 P) .nil .nil) .nil))) (.node (o28 P) (.node (o44 P) (.node (o76 P) (.node (o140 P) .nil .nil) (.node (o204 P) .nil .nil)) (.node (o108 P) (.node (o172 P) .nil .nil) .nil)) (.node (o60 P) (.node (o92 P) (.node (o156 P) .nil .nil) .nil) (.node (o124 P) (.node (o188 P) .nil .nil) .nil))))) (.node (boot_o_6 P) (.node (boot_o_10 P) (.node (o18 P) (.node (o34 P) (.node (o66 P) (.node (o130 P) .nil .nil) (.node (o194 P) .nil .nil)) (.node (o98 P) (.node (o162 P) .nil .nil) .nil)) (.node (o50 P) (.node (o82 P) (.node (o146 P) .nil .nil) (.node (o210 P) .nil .nil)) (.node (o114 P) (.node (o178 P) .nil .nil) .nil))) (.node (o26 P) (.node (o42 P) (.node (o74 P) (.node (o138 P) .nil .nil) (.node (o202 P) .nil .nil)) (.node (o106 P) (.node (o170 P) .nil .nil) .nil)) (.node (o58 P) (.node (o90 P) (.node (o154 P) .nil .nil) .nil) (.node (o122 P) (.node (o186 P) .nil .nil) .nil)))) (.node (o14 P) (.node (o22 P) (.node (o38 P) (.node (o70 P) (.node (o134 P) .nil .nil) (.node (o198 P) .nil .nil)) (.node (o102 P) (.node (o166 P) .nil .nil) .nil)) (.node (o54 P) (.node (o86 P) (.node (o150 P) .nil .nil) (.node (o214 P) .nil .nil)) (.node (o118 P) (.node (o182 P) .nil .nil) .nil))) (.node (o30 P) (.node (o46 P) (.node (o78 P) (.node (o142 P) .nil .nil) (.node (o206 P) .nil .nil)) (.node (o110 P) (.node (o174 P) .nil .nil) .nil)) (.node (o62 P) (.node (o94 P) (.node (o158 P) .nil .nil) .nil) (.node (o126 P) (.node (o190 P) .nil .nil) .nil)))))))

noncomputable abbrev bodyB : List Stmt := behindTheImports pw
noncomputable def envT : Env := { scope := pw.main.scope, locals := mainNs, globals := mainNs, cells := [], code := .ref 13, frame := some 14 }
noncomputable abbrev cT : Code := .body bodyB envT
noncomputable abbrev p0 : Pos := ⟨0, 0, 0, 0⟩
noncomputable abbrev BT0 : List Frame := [topFrame p0]
noncomputable abbrev ann0 : Option Value := some (.ref 6)
noncomputable abbrev stT (tr : Params → BT) (n toks : Nat) (w : World) (os : OsState) : SharedT := ⟨tr w.params, n, {}, #[], {}, toks, os⟩
end Mine

open PySem PySem.W PySem.Calls PyProof.Rows
set_option Elab.async false
set_option maxRecDepth 1000000
set_option maxHeartbeats 0
set_option linter.unusedVariables false
namespace Mine
noncomputable def oL137_0 : Obj := ⟨(.type "list"), none, (.seq #[] 2), #[]⟩
noncomputable def oL138_0 : Obj := ⟨(.type "range_iterator"), none, (.fields #[(.int 917536 0), (.int 96 0), (.int 1 0)]), #[]⟩
noncomputable def oL137_16 : Obj := ⟨(.type "list"), none, (.seq #[(.int 917536 2299), (.int 917537 2300), (.int 917538 2301), (.int 917539 2302), (.int 917540 2303), (.int 917541 2304), (.int 917542 2305), (.int 917543 2306), (.int 917544 2307), (.int 917545 2308), (.int 917546 2309), (.int 917547 2310), (.int 917548 2311), (.int 917549 2312), (.int 917550 2313), (.int 917551 2314)] 18), #[]⟩
noncomputable def oL138_16 : Obj := ⟨(.type "range_iterator"), none, (.fields #[(.int 917552 0), (.int 80 0), (.int 1 0)]), #[]⟩
noncomputable def oL137_32 : Obj := ⟨(.type "list"), none, (.seq #[(.int 917536 2299), (.int 917537 2300), (.int 917538 2301), (.int 917539 2302), (.int 917540 2303), (.int 917541 2304), (.int 917542 2305), (.int 917543 2306), (.int 917544 2307), (.int 917545 2308), (.int 917546 2309), (.int 917547 2310), (.int 917548 2311), (.int 917549 2312), (.int 917550 2313), (.int 917551 2314), (.int 917552 2315), (.int 917553 2316), (.int 917554 2317), (.int 917555 2318), (.int 917556 2319), (.int 917557 2320), (.int 917558 2321), (.int 917559 2322), (.int 917560 2323), (.int 917561 2324), (.int 917562 2325), (.int 917563 2326), (.int 917564 2327), (.int 917565 2328), (.int 917566 2329), (.int 917567 2330)] 34), #[]⟩
noncomputable def oL138_32 : Obj := ⟨(.type "range_iterator"), none, (.fields #[(.int 917568 0), (.int 64 0), (.int 1 0)]), #[]⟩
noncomputable def oL137_48 : Obj := ⟨(.type "list"), none, (.seq #[(.int 917536 2299), (.int 917537 2300), (.int 917538 2301), (.int 917539 2302), (.int 917540 2303), (.int 917541 2304), (.int 917542 2305), (.int 917543 2306), (.int 917544 2307), (.int 917545 2308), (.int 917546 2309), (.int 917547 2310), (.int 917548 2311), (.int 917549 2312), (.int 917550 2313), (.int 917551 2314), (.int 917552 2315), (.int 917553 2316), (.int 917554 2317), (.int 917555 2318), (.int 917556 2319), (.int 917557 2320), (.int 917558 2321), (.int 917559 2322), (.int 917560 2323), (.int 917561 2324), (.int 917562 2325), (.int 917563 2326), (.int 917564 2327), (.int 917565 2328), (.int 917566 2329), (.int 917567 2330), (.int 917568 2331), (.int 917569 2332), (.int 917570 2333), (.int 917571 2334), (.int 917572 2335), (.int 917573 2336), (.int 917574 2337), (.int 917575 2338), (.int 917576 2339), (.int 917577 2340), (.int 917578 2341), (.int 917579 2342), (.int 917580 2343), (.int 917581 2344), (.int 917582 2345), (.int 917583 2346)] 50), #[]⟩
noncomputable def oL138_48 : Obj := ⟨(.type "range_iterator"), none, (.fields #[(.int 917584 0), (.int 48 0), (.int 1 0)]), #[]⟩
noncomputable def oL137_64 : Obj := ⟨(.type "list"), none, (.seq #[(.int 917536 2299), (.int 917537 2300), (.int 917538 2301), (.int 917539 2302), (.int 917540 2303), (.int 917541 2304), (.int 917542 2305), (.int 917543 2306), (.int 917544 2307), (.int 917545 2308), (.int 917546 2309), (.int 917547 2310), (.int 917548 2311), (.int 917549 2312), (.int 917550 2313), (.int 917551 2314), (.int 917552 2315), (.int 917553 2316), (.int 917554 2317), (.int 917555 2318), (.int 917556 2319), (.int 917557 2320), (.int 917558 2321), (.int 917559 2322), (.int 917560 2323), (.int 917561 2324), (.int 917562 2325), (.int 917563 2326), (.int 917564 2327), (.int 917565 2328), (.int 917566 2329), (.int 917567 2330), (.int 917568 2331), (.int 917569 2332), (.int 917570 2333), (.int 917571 2334), (.int 917572 2335), (.int 917573 2336), (.int 917574 2337), (.int 917575 2338), (.int 917576 2339), (.int 917577 2340), (.int 917578 2341), (.int 917579 2342), (.int 917580 2343), (.int 917581 2344), (.int 917582 2345), (.int 917583 2346), (.int 917584 2347), (.int 917585 2348), (.int 917586 2349), (.int 917587 2350), (.int 917588 2351), (.int 917589 2352), (.int 917590 2353), (.int 917591 2354), (.int 917592 2355), (.int 917593 2356), (.int 917594 2357), (.int 917595 2358), (.int 917596 2359), (.int 917597 2360), (.int 917598 2361), (.int 917599 2362)] 66), #[]⟩
noncomputable def oL138_64 : Obj := ⟨(.type "range_iterator"), none, (.fields #[(.int 917600 0), (.int 32 0), (.int 1 0)]), #[]⟩
noncomputable def oL137_80 : Obj := ⟨(.type "list"), none, (.seq #[(.int 917536 2299), (.int 917537 2300), (.int 917538 2301), (.int 917539 2302), (.int 917540 2303), (.int 917541 2304), (.int 917542 2305), (.int 917543 2306), (.int 917544 2307), (.int 917545 2308), (.int 917546 2309), (.int 917547 2310), (.int 917548 2311), (.int 917549 2312), (.int 917550 2313), (.int 917551 2314), (.int 917552 2315), (.int 917553 2316), (.int 917554 2317), (.int 917555 2318), (.int 917556 2319), (.int 917557 2320), (.int 917558 2321), (.int 917559 2322), (.int 917560 2323), (.int 917561 2324), (.int 917562 2325), (.int 917563 2326), (.int 917564 2327), (.int 917565 2328), (.int 917566 2329), (.int 917567 2330), (.int 917568 2331), (.int 917569 2332), (.int 917570 2333), (.int 917571 2334), (.int 917572 2335), (.int 917573 2336), (.int 917574 2337), (.int 917575 2338), (.int 917576 2339), (.int 917577 2340), (.int 917578 2341), (.int 917579 2342), (.int 917580 2343), (.int 917581 2344), (.int 917582 2345), (.int 917583 2346), (.int 917584 2347), (.int 917585 2348), (.int 917586 2349), (.int 917587 2350), (.int 917588 2351), (.int 917589 2352), (.int 917590 2353), (.int 917591 2354), (.int 917592 2355), (.int 917593 2356), (.int 917594 2357), (.int 917595 2358), (.int 917596 2359), (.int 917597 2360), (.int 917598 2361), (.int 917599 2362), (.int 917600 2363), (.int 917601 2364), (.int 917602 2365), (.int 917603 2366), (.int 917604 2367), (.int 917605 2368), (.int 917606 2369), (.int 917607 2370), (.int 917608 2371), (.int 917609 2372), (.int 917610 2373), (.int 917611 2374), (.int 917612 2375), (.int 917613 2376), (.int 917614 2377), (.int 917615 2378)] 82), #[]⟩
noncomputable def oL138_80 : Obj := ⟨(.type "range_iterator"), none, (.fields #[(.int 917616 0), (.int 16 0), (.int 1 0)]), #[]⟩
noncomputable def oL137_96 : Obj := ⟨(.type "list"), none, (.seq #[(.int 917536 2299), (.int 917537 2300), (.int 917538 2301), (.int 917539 2302), (.int 917540 2303), (.int 917541 2304), (.int 917542 2305), (.int 917543 2306), (.int 917544 2307), (.int 917545 2308), (.int 917546 2309), (.int 917547 2310), (.int 917548 2311), (.int 917549 2312), (.int 917550 2313), (.int 917551 2314), (.int 917552 2315), (.int 917553 2316), (.int 917554 2317), (.int 917555 2318), (.int 917556 2319), (.int 917557 2320), (.int 917558 2321), (.int 917559 2322), (.int 917560 2323), (.int 917561 2324), (.int 917562 2325), (.int 917563 2326), (.int 917564 2327), (.int 917565 2328), (.int 917566 2329), (.int 917567 2330), (.int 917568 2331), (.int 917569 2332), (.int 917570 2333), (.int 917571 2334), (.int 917572 2335), (.int 917573 2336), (.int 917574 2337), (.int 917575 2338), (.int 917576 2339), (.int 917577 2340), (.int 917578 2341), (.int 917579 2342), (.int 917580 2343), (.int 917581 2344), (.int 917582 2345), (.int 917583 2346), (.int 917584 2347), (.int 917585 2348), (.int 917586 2349), (.int 917587 2350), (.int 917588 2351), (.int 917589 2352), (.int 917590 2353), (.int 917591 2354), (.int 917592 2355), (.int 917593 2356), (.int 917594 2357), (.int 917595 2358), (.int 917596 2359), (.int 917597 2360), (.int 917598 2361), (.int 917599 2362), (.int 917600 2363), (.int 917601 2364), (.int 917602 2365), (.int 917603 2366), (.int 917604 2367), (.int 917605 2368), (.int 917606 2369), (.int 917607 2370), (.int 917608 2371), (.int 917609 2372), (.int 917610 2373), (.int 917611 2374), (.int 917612 2375), (.int 917613 2376), (.int 917614 2377), (.int 917615 2378), (.int 917616 2379), (.int 917617 2380), (.int 917618 2381), (.int 917619 2382), (.int 917620 2383), (.int 917621 2384), (.int 917622 2385), (.int 917623 2386), (.int 917624 2387), (.int 917625 2388), (.int 917626 2389), (.int 917627 2390), (.int 917628 2391), (.int 917629 2392), (.int 917630 2393), (.int 917631 2394)] 98), #[]⟩
noncomputable def oL138_96 : Obj := ⟨(.type "range_iterator"), none, (.fields #[(.int 917632 0), (.int 0 0), (.int 1 0)]), #[]⟩
noncomputable def oS142_0 (P : Params) : Obj := ⟨(.type "set"), none, (.set #[] 0 { mask := 7, place := #[], dummies := #[], finger := 0, led := !P.followText "set-order", moves := 0, plain := true }), #[]⟩
noncomputable def oS143_0 : Obj := ⟨(.type "list_iterator"), none, (.fields #[(.ref 141), (.int 0 0)]), #[]⟩
noncomputable def oS142_14 (P : Params) : Obj := ⟨(.type "set"), none, (.set #[(917536, (.int 917536 2299)), (917505, (.int 917505 2293)), (917538, (.int 917538 2301)), (917539, (.int 917539 2302)), (917537, (.int 917537 2300)), (917540, (.int 917540 2303)), (917541, (.int 917541 2304)), (917542, (.int 917542 2305)), (917543, (.int 917543 2306)), (917544, (.int 917544 2307)), (917545, (.int 917545 2308)), (917546, (.int 917546 2309)), (917547, (.int 917547 2310)), (917548, (.int 917548 2311))] 15 { mask := 31, place := #[0, 1, 2, 3, 4, 5, 6, 7, 8, 9, 10, 11, 12, 13], dummies := #[], finger := 0, led := !P.followText "set-order", moves := 1, plain := true }), #[]⟩
noncomputable def oS143_14 : Obj := ⟨(.type "list_iterator"), none, (.fields #[(.ref 141), (.int 14 0)]), #[]⟩
noncomputable def oS142_28 (P : Params) : Obj := ⟨(.type "set"), none, (.set #[(917505, (.int 917505 2293)), (917536, (.int 917536 2299)), (917537, (.int 917537 2300)), (917538, (.int 917538 2301)), (917539, (.int 917539 2302)), (917540, (.int 917540 2303)), (917541, (.int 917541 2304)), (917542, (.int 917542 2305)), (917543, (.int 917543 2306)), (917544, (.int 917544 2307)), (917545, (.int 917545 2308)), (917546, (.int 917546 2309)), (917547, (.int 917547 2310)), (917548, (.int 917548 2311)), (917549, (.int 917549 2312)), (917550, (.int 917550 2313)), (917551, (.int 917551 2314)), (917552, (.int 917552 2315)), (917553, (.int 917553 2316)), (917554, (.int 917554 2317)), (917555, (.int 917555 2318)), (917556, (.int 917556 2319)), (917557, (.int 917557 2320)), (917558, (.int 917558 2321)), (917559, (.int 917559 2322)), (917560, (.int 917560 2323)), (917561, (.int 917561 2324)), (917562, (.int 917562 2325))] 30 { mask := 127, place := #[1, 32, 33, 34, 35, 36, 37, 38, 39, 40, 41, 42, 43, 44, 45, 46, 47, 48, 49, 50, 51, 52, 53, 54, 55, 56, 57, 58], dummies := #[], finger := 0, led := !P.followText "set-order", moves := 2, plain := true }), #[]⟩
noncomputable def oS143_28 : Obj := ⟨(.type "list_iterator"), none, (.fields #[(.ref 141), (.int 28 0)]), #[]⟩
noncomputable def oS142_42 (P : Params) : Obj := ⟨(.type "set"), none, (.set #[(917505, (.int 917505 2293)), (917536, (.int 917536 2299)), (917537, (.int 917537 2300)), (917538, (.int 917538 2301)), (917539, (.int 917539 2302)), (917540, (.int 917540 2303)), (917541, (.int 917541 2304)), (917542, (.int 917542 2305)), (917543, (.int 917543 2306)), (917544, (.int 917544 2307)), (917545, (.int 917545 2308)), (917546, (.int 917546 2309)), (917547, (.int 917547 2310)), (917548, (.int 917548 2311)), (917549, (.int 917549 2312)), (917550, (.int 917550 2313)), (917551, (.int 917551 2314)), (917552, (.int 917552 2315)), (917553, (.int 917553 2316)), (917554, (.int 917554 2317)), (917555, (.int 917555 2318)), (917556, (.int 917556 2319)), (917557, (.int 917557 2320)), (917558, (.int 917558 2321)), (917559, (.int 917559 2322)), (917560, (.int 917560 2323)), (917561, (.int 917561 2324)), (917562, (.int 917562 2325)), (917563, (.int 917563 2326)), (917564, (.int 917564 2327)), (917565, (.int 917565 2328)), (917566, (.int 917566 2329)), (917567, (.int 917567 2330)), (917568, (.int 917568 2331)), (917569, (.int 917569 2332)), (917570, (.int 917570 2333)), (917571, (.int 917571 2334)), (917572, (.int 917572 2335)), (917573, (.int 917573 2336)), (917574, (.int 917574 2337)), (917575, (.int 917575 2338)), (917576, (.int 917576 2339))] 44 { mask := 127, place := #[1, 32, 33, 34, 35, 36, 37, 38, 39, 40, 41, 42, 43, 44, 45, 46, 47, 48, 49, 50, 51, 52, 53, 54, 55, 56, 57, 58, 59, 60, 61, 62, 63, 64, 65, 66, 67, 68, 69, 70, 71, 72], dummies := #[], finger := 0, led := !P.followText "set-order", moves := 2, plain := true }), #[]⟩
noncomputable def oS143_42 : Obj := ⟨(.type "list_iterator"), none, (.fields #[(.ref 141), (.int 42 0)]), #[]⟩
noncomputable def oS142_56 (P : Params) : Obj := ⟨(.type "set"), none, (.set #[(917505, (.int 917505 2293)), (917536, (.int 917536 2299)), (917537, (.int 917537 2300)), (917538, (.int 917538 2301)), (917539, (.int 917539 2302)), (917540, (.int 917540 2303)), (917541, (.int 917541 2304)), (917542, (.int 917542 2305)), (917543, (.int 917543 2306)), (917544, (.int 917544 2307)), (917545, (.int 917545 2308)), (917546, (.int 917546 2309)), (917547, (.int 917547 2310)), (917548, (.int 917548 2311)), (917549, (.int 917549 2312)), (917550, (.int 917550 2313)), (917551, (.int 917551 2314)), (917552, (.int 917552 2315)), (917553, (.int 917553 2316)), (917554, (.int 917554 2317)), (917555, (.int 917555 2318)), (917556, (.int 917556 2319)), (917557, (.int 917557 2320)), (917558, (.int 917558 2321)), (917559, (.int 917559 2322)), (917560, (.int 917560 2323)), (917561, (.int 917561 2324)), (917562, (.int 917562 2325)), (917563, (.int 917563 2326)), (917564, (.int 917564 2327)), (917565, (.int 917565 2328)), (917566, (.int 917566 2329)), (917567, (.int 917567 2330)), (917568, (.int 917568 2331)), (917569, (.int 917569 2332)), (917570, (.int 917570 2333)), (917571, (.int 917571 2334)), (917572, (.int 917572 2335)), (917573, (.int 917573 2336)), (917574, (.int 917574 2337)), (917575, (.int 917575 2338)), (917576, (.int 917576 2339)), (917577, (.int 917577 2340)), (917578, (.int 917578 2341)), (917579, (.int 917579 2342)), (917580, (.int 917580 2343)), (917581, (.int 917581 2344)), (917582, (.int 917582 2345)), (917583, (.int 917583 2346)), (917584, (.int 917584 2347)), (917585, (.int 917585 2348)), (917586, (.int 917586 2349)), (917587, (.int 917587 2350)), (917588, (.int 917588 2351)), (917589, (.int 917589 2352)), (917590, (.int 917590 2353))] 58 { mask := 127, place := #[1, 32, 33, 34, 35, 36, 37, 38, 39, 40, 41, 42, 43, 44, 45, 46, 47, 48, 49, 50, 51, 52, 53, 54, 55, 56, 57, 58, 59, 60, 61, 62, 63, 64, 65, 66, 67, 68, 69, 70, 71, 72, 73, 74, 75, 76, 77, 78, 79, 80, 81, 82, 83, 84, 85, 86], dummies := #[], finger := 0, led := !P.followText "set-order", moves := 2, plain := true }), #[]⟩
noncomputable def oS143_56 : Obj := ⟨(.type "list_iterator"), none, (.fields #[(.ref 141), (.int 56 0)]), #[]⟩
noncomputable def oS142_70 (P : Params) : Obj := ⟨(.type "set"), none, (.set #[(917505, (.int 917505 2293)), (917536, (.int 917536 2299)), (917537, (.int 917537 2300)), (917538, (.int 917538 2301)), (917539, (.int 917539 2302)), (917540, (.int 917540 2303)), (917541, (.int 917541 2304)), (917542, (.int 917542 2305)), (917543, (.int 917543 2306)), (917544, (.int 917544 2307)), (917545, (.int 917545 2308)), (917546, (.int 917546 2309)), (917547, (.int 917547 2310)), (917548, (.int 917548 2311)), (917549, (.int 917549 2312)), (917550, (.int 917550 2313)), (917551, (.int 917551 2314)), (917552, (.int 917552 2315)), (917553, (.int 917553 2316)), (917554, (.int 917554 2317)), (917555, (.int 917555 2318)), (917556, (.int 917556 2319)), (917557, (.int 917557 2320)), (917558, (.int 917558 2321)), (917559, (.int 917559 2322)), (917560, (.int 917560 2323)), (917561, (.int 917561 2324)), (917562, (.int 917562 2325)), (917563, (.int 917563 2326)), (917564, (.int 917564 2327)), (917565, (.int 917565 2328)), (917566, (.int 917566 2329)), (917567, (.int 917567 2330)), (917568, (.int 917568 2331)), (917569, (.int 917569 2332)), (917570, (.int 917570 2333)), (917571, (.int 917571 2334)), (917572, (.int 917572 2335)), (917573, (.int 917573 2336)), (917574, (.int 917574 2337)), (917575, (.int 917575 2338)), (917576, (.int 917576 2339)), (917577, (.int 917577 2340)), (917578, (.int 917578 2341)), (917579, (.int 917579 2342)), (917580, (.int 917580 2343)), (917581, (.int 917581 2344)), (917582, (.int 917582 2345)), (917583, (.int 917583 2346)), (917584, (.int 917584 2347)), (917585, (.int 917585 2348)), (917586, (.int 917586 2349)), (917587, (.int 917587 2350)), (917588, (.int 917588 2351)), (917589, (.int 917589 2352)), (917590, (.int 917590 2353)), (917591, (.int 917591 2354)), (917592, (.int 917592 2355)), (917593, (.int 917593 2356)), (917594, (.int 917594 2357)), (917595, (.int 917595 2358)), (917596, (.int 917596 2359)), (917597, (.int 917597 2360)), (917598, (.int 917598 2361)), (917599, (.int 917599 2362)), (917600, (.int 917600 2363)), (917601, (.int 917601 2364)), (917602, (.int 917602 2365)), (917603, (.int 917603 2366)), (917604, (.int 917604 2367))] 72 { mask := 127, place := #[1, 32, 33, 34, 35, 36, 37, 38, 39, 40, 41, 42, 43, 44, 45, 46, 47, 48, 49, 50, 51, 52, 53, 54, 55, 56, 57, 58, 59, 60, 61, 62, 63, 64, 65, 66, 67, 68, 69, 70, 71, 72, 73, 74, 75, 76, 77, 78, 79, 80, 81, 82, 83, 84, 85, 86, 87, 88, 89, 90, 91, 92, 93, 94, 95, 96, 97, 98, 99, 100], dummies := #[], finger := 0, led := !P.followText "set-order", moves := 2, plain := true }), #[]⟩
noncomputable def oS143_70 : Obj := ⟨(.type "list_iterator"), none, (.fields #[(.ref 141), (.int 70 0)]), #[]⟩
noncomputable def oS142_84 (P : Params) : Obj := ⟨(.type "set"), none, (.set #[(917505, (.int 917505 2293)), (917536, (.int 917536 2299)), (917537, (.int 917537 2300)), (917538, (.int 917538 2301)), (917539, (.int 917539 2302)), (917540, (.int 917540 2303)), (917541, (.int 917541 2304)), (917542, (.int 917542 2305)), (917543, (.int 917543 2306)), (917544, (.int 917544 2307)), (917545, (.int 917545 2308)), (917546, (.int 917546 2309)), (917547, (.int 917547 2310)), (917548, (.int 917548 2311)), (917549, (.int 917549 2312)), (917550, (.int 917550 2313)), (917551, (.int 917551 2314)), (917552, (.int 917552 2315)), (917553, (.int 917553 2316)), (917554, (.int 917554 2317)), (917555, (.int 917555 2318)), (917556, (.int 917556 2319)), (917557, (.int 917557 2320)), (917558, (.int 917558 2321)), (917559, (.int 917559 2322)), (917560, (.int 917560 2323)), (917561, (.int 917561 2324)), (917562, (.int 917562 2325)), (917563, (.int 917563 2326)), (917564, (.int 917564 2327)), (917565, (.int 917565 2328)), (917566, (.int 917566 2329)), (917567, (.int 917567 2330)), (917568, (.int 917568 2331)), (917569, (.int 917569 2332)), (917570, (.int 917570 2333)), (917571, (.int 917571 2334)), (917572, (.int 917572 2335)), (917573, (.int 917573 2336)), (917574, (.int 917574 2337)), (917575, (.int 917575 2338)), (917576, (.int 917576 2339)), (917577, (.int 917577 2340)), (917578, (.int 917578 2341)), (917579, (.int 917579 2342)), (917580, (.int 917580 2343)), (917581, (.int 917581 2344)), (917582, (.int 917582 2345)), (917583, (.int 917583 2346)), (917584, (.int 917584 2347)), (917585, (.int 917585 2348)), (917586, (.int 917586 2349)), (917587, (.int 917587 2350)), (917588, (.int 917588 2351)), (917589, (.int 917589 2352)), (917590, (.int 917590 2353)), (917591, (.int 917591 2354)), (917592, (.int 917592 2355)), (917593, (.int 917593 2356)), (917594, (.int 917594 2357)), (917595, (.int 917595 2358)), (917596, (.int 917596 2359)), (917597, (.int 917597 2360)), (917598, (.int 917598 2361)), (917599, (.int 917599 2362)), (917600, (.int 917600 2363)), (917601, (.int 917601 2364)), (917602, (.int 917602 2365)), (917603, (.int 917603 2366)), (917604, (.int 917604 2367)), (917605, (.int 917605 2368)), (917606, (.int 917606 2369)), (917607, (.int 917607 2370)), (917608, (.int 917608 2371)), (917609, (.int 917609 2372)), (917610, (.int 917610 2373)), (917611, (.int 917611 2374)), (917612, (.int 917612 2375)), (917613, (.int 917613 2376)), (917614, (.int 917614 2377)), (917615, (.int 917615 2378)), (917616, (.int 917616 2379)), (917617, (.int 917617 2380)), (917618, (.int 917618 2381))] 87 { mask := 511, place := #[1, 32, 33, 34, 35, 36, 37, 38, 39, 40, 41, 42, 43, 44, 45, 46, 47, 48, 49, 50, 51, 52, 53, 54, 55, 56, 57, 58, 59, 60, 61, 62, 63, 64, 65, 66, 67, 68, 69, 70, 71, 72, 73, 74, 75, 76, 77, 78, 79, 80, 81, 82, 83, 84, 85, 86, 87, 88, 89, 90, 91, 92, 93, 94, 95, 96, 97, 98, 99, 100, 101, 102, 103, 104, 105, 106, 107, 108, 109, 110, 111, 112, 113, 114], dummies := #[], finger := 0, led := !P.followText "set-order", moves := 3, plain := true }), #[]⟩
noncomputable def oS143_84 : Obj := ⟨(.type "list_iterator"), none, (.fields #[(.ref 141), (.int 84 0)]), #[]⟩
noncomputable def oS142_97 (P : Params) : Obj := ⟨(.type "set"), none, (.set #[(917505, (.int 917505 2293)), (917536, (.int 917536 2299)), (917537, (.int 917537 2300)), (917538, (.int 917538 2301)), (917539, (.int 917539 2302)), (917540, (.int 917540 2303)), (917541, (.int 917541 2304)), (917542, (.int 917542 2305)), (917543, (.int 917543 2306)), (917544, (.int 917544 2307)), (917545, (.int 917545 2308)), (917546, (.int 917546 2309)), (917547, (.int 917547 2310)), (917548, (.int 917548 2311)), (917549, (.int 917549 2312)), (917550, (.int 917550 2313)), (917551, (.int 917551 2314)), (917552, (.int 917552 2315)), (917553, (.int 917553 2316)), (917554, (.int 917554 2317)), (917555, (.int 917555 2318)), (917556, (.int 917556 2319)), (917557, (.int 917557 2320)), (917558, (.int 917558 2321)), (917559, (.int 917559 2322)), (917560, (.int 917560 2323)), (917561, (.int 917561 2324)), (917562, (.int 917562 2325)), (917563, (.int 917563 2326)), (917564, (.int 917564 2327)), (917565, (.int 917565 2328)), (917566, (.int 917566 2329)), (917567, (.int 917567 2330)), (917568, (.int 917568 2331)), (917569, (.int 917569 2332)), (917570, (.int 917570 2333)), (917571, (.int 917571 2334)), (917572, (.int 917572 2335)), (917573, (.int 917573 2336)), (917574, (.int 917574 2337)), (917575, (.int 917575 2338)), (917576, (.int 917576 2339)), (917577, (.int 917577 2340)), (917578, (.int 917578 2341)), (917579, (.int 917579 2342)), (917580, (.int 917580 2343)), (917581, (.int 917581 2344)), (917582, (.int 917582 2345)), (917583, (.int 917583 2346)), (917584, (.int 917584 2347)), (917585, (.int 917585 2348)), (917586, (.int 917586 2349)), (917587, (.int 917587 2350)), (917588, (.int 917588 2351)), (917589, (.int 917589 2352)), (917590, (.int 917590 2353)), (917591, (.int 917591 2354)), (917592, (.int 917592 2355)), (917593, (.int 917593 2356)), (917594, (.int 917594 2357)), (917595, (.int 917595 2358)), (917596, (.int 917596 2359)), (917597, (.int 917597 2360)), (917598, (.int 917598 2361)), (917599, (.int 917599 2362)), (917600, (.int 917600 2363)), (917601, (.int 917601 2364)), (917602, (.int 917602 2365)), (917603, (.int 917603 2366)), (917604, (.int 917604 2367)), (917605, (.int 917605 2368)), (917606, (.int 917606 2369)), (917607, (.int 917607 2370)), (917608, (.int 917608 2371)), (917609, (.int 917609 2372)), (917610, (.int 917610 2373)), (917611, (.int 917611 2374)), (917612, (.int 917612 2375)), (917613, (.int 917613 2376)), (917614, (.int 917614 2377)), (917615, (.int 917615 2378)), (917616, (.int 917616 2379)), (917617, (.int 917617 2380)), (917618, (.int 917618 2381)), (917619, (.int 917619 2382)), (917620, (.int 917620 2383)), (917621, (.int 917621 2384)), (917622, (.int 917622 2385)), (917623, (.int 917623 2386)), (917624, (.int 917624 2387)), (917625, (.int 917625 2388)), (917626, (.int 917626 2389)), (917627, (.int 917627 2390)), (917628, (.int 917628 2391)), (917629, (.int 917629 2392)), (917630, (.int 917630 2393)), (917631, (.int 917631 2394))] 100 { mask := 511, place := #[1, 32, 33, 34, 35, 36, 37, 38, 39, 40, 41, 42, 43, 44, 45, 46, 47, 48, 49, 50, 51, 52, 53, 54, 55, 56, 57, 58, 59, 60, 61, 62, 63, 64, 65, 66, 67, 68, 69, 70, 71, 72, 73, 74, 75, 76, 77, 78, 79, 80, 81, 82, 83, 84, 85, 86, 87, 88, 89, 90, 91, 92, 93, 94, 95, 96, 97, 98, 99, 100, 101, 102, 103, 104, 105, 106, 107, 108, 109, 110, 111, 112, 113, 114, 115, 116, 117, 118, 119, 120, 121, 122, 123, 124, 125, 126, 127], dummies := #[], finger := 0, led := !P.followText "set-order", moves := 3, plain := true }), #[]⟩
noncomputable def oS143_97 : Obj := ⟨(.type "list_iterator"), none, (.fields #[(.ref 141), (.int 97 0)]), #[]⟩
noncomputable def trL (a b : Obj) (P : Params) : BT := (.node (boot_o_0 P) (.node (boot_o_1 P) (.node (o3_9 P) (.node (boot_o_7 P) (.node (o15 P) (.node (o31 P) (.node (o63 P) (.node (o127 P) .nil .nil) .nil) (.node (o95 P) .nil .nil)) (.node (o47 P) (.node (o79 P) .nil .nil) (.node (o111 P) .nil .nil))) (.node (o23 P) (.node (o39 P) (.node (o71 P) (.node (o135 P) .nil .nil) .nil) (.node (o103 P) .nil .nil)) (.node (o55 P) (.node (o87 P) .nil .nil) (.node (o119 P) .nil .nil)))) (.node (o11 P) (.node (o19 P) (.node (o35 P) (.node (o67 P) (.node (o131 P) .nil .nil) .nil) (.node (o99 P) .nil .nil)) (.node (o51 P) (.node (o83 P) .nil .nil) (.node (o115 P) .nil .nil))) (.node (o27 P) (.node (o43 P) (.node (o75 P) .nil .nil) (.node (o107 P) .nil .nil)) (.node (o59 P) (.node (o91 P) .nil .nil) (.node (o123 P) .nil .nil))))) (.node (boot_o_5 P) (.node (boot_o_9 P) (.node (o17 P) (.node (o33 P) (.node (o65 P) (.node (o129 P) .nil .nil) .nil) (.node (o97 P) .nil .nil)) (.node (o49 P) (.node (o81 P) .nil .nil) (.node (o113 P) .nil .nil))) (.node (o25 P) (.node (o41 P) (.node (o73 P) (.node a .nil .nil) .nil) (.node (o105 P) .nil .nil)) (.node (o57 P) (.node (o89 P) .nil .nil) (.node (o121 P) .nil .nil)))) (.node (o13 P) (.node (o21 P) (.node (o37 P) (.node (o69 P) (.node (o133 P) .nil .nil) .nil) (.node (o101 P) .nil .nil)) (.node (o53 P) (.node (o85 P) .nil .nil) (.node (o117 P) .nil .nil))) (.node (o29 P) (.node (o45 P) (.node (o77 P) .nil .nil) (.node (o109 P) .nil .nil)) (.node (o61 P) (.node (o93 P) .nil .nil) (.node (o125 P) .nil .nil)))))) (.node (boot_o_2 P) (.node (boot_o_4 P) (.node (boot_o_8 P) (.node (o16 P) (.node (o32 P) (.node (o64 P) (.node (o128 P) .nil .nil) .nil) (.node (o96 P) .nil .nil)) (.node (o48 P) (.node (o80 P) .nil .nil) (.node (o112 P) .nil .nil))) (.node (o24 P) (.node (o40 P) (.node (o72 P) (.node (o136 P) .nil .nil) .nil) (.node (o104 P) .nil .nil)) (.node (o56 P) (.node (o88 P) .nil .nil) (.node (o120 P) .nil .nil)))) (.node o12_9 (.node (o20 P) (.node (o36 P) (.node (o68 P) (.node (o132 P) .nil .nil) .nil) (.node (o100 P) .nil .nil)) (.node (o52 P) (.node (o84 P) .nil .nil) (.node (o116 P) .nil .nil))) (.node (o28 P) (.node (o44 P) (.node (o76 P) .nil .nil) (.node (o108 P) .nil .nil)) (.node (o60 P) (.node (o92 P) .nil .nil) (.node (o124 P) .nil .nil))))) (.node (boot_o_6 P) (.node (boot_o_10 P) (.node (o18 P) (.node (o34 P) (.node (o66 P) (.node (o130 P) .nil .nil) .nil) (.node (o98 P) .nil .nil)) (.node (o50 P) (.node (o82 P) .nil .nil) (.node (o114 P) .nil .nil))) (.node (o26 P) (.node (o42 P) (.node (o74 P) (.node b .nil .nil) .nil) (.node (o106 P) .nil .nil)) (.node (o58 P) (.node (o90 P) .nil .nil) (.node (o122 P) .nil .nil)))) (.node (o14 P) (.node (o22 P) (.node (o38 P) (.node (o70 P) (.node (o134 P) .nil .nil) .nil) (.node (o102 P) .nil .nil)) (.node (o54 P) (.node (o86 P) .nil .nil) (.node (o118 P) .nil .nil))) (.node (o30 P) (.node (o46 P) (.node (o78 P) .nil .nil) (.node (o110 P) .nil .nil)) (.node (o62 P) (.node (o94 P) .nil .nil) (.node (o126 P) .nil .nil)))))))
noncomputable def trS (a b : Obj) (P : Params) : BT := (.node (boot_o_0 P) (.node (boot_o_1 P) (.node (o3_9 P) (.node (boot_o_7 P) (.node (o15 P) (.node (o31 P) (.node (o63 P) (.node (o127 P) .nil .nil) .nil) (.node (o95 P) .nil .nil)) (.node (o47 P) (.node (o79 P) (.node b .nil .nil) .nil) (.node (o111 P) .nil .nil))) (.node (o23 P) (.node (o39 P) (.node (o71 P) (.node (o135 P) .nil .nil) .nil) (.node (o103 P) .nil .nil)) (.node (o55 P) (.node (o87 P) .nil .nil) (.node (o119 P) .nil .nil)))) (.node (o11 P) (.node (o19 P) (.node (o35 P) (.node (o67 P) (.node (o131 P) .nil .nil) .nil) (.node (o99 P) .nil .nil)) (.node (o51 P) (.node (o83 P) .nil .nil) (.node (o115 P) .nil .nil))) (.node (o27 P) (.node (o43 P) (.node (o75 P) (.node (o139 P) .nil .nil) .nil) (.node (o107 P) .nil .nil)) (.node (o59 P) (.node (o91 P) .nil .nil) (.node (o123 P) .nil .nil))))) (.node (boot_o_5 P) (.node (boot_o_9 P) (.node (o17 P) (.node (o33 P) (.node (o65 P) (.node (o129 P) .nil .nil) .nil) (.node (o97 P) .nil .nil)) (.node (o49 P) (.node (o81 P) .nil .nil) (.node (o113 P) .nil .nil))) (.node (o25 P) (.node (o41 P) (.node (o73 P) (.node (o137 P) .nil .nil) .nil) (.node (o105 P) .nil .nil)) (.node (o57 P) (.node (o89 P) .nil .nil) (.node (o121 P) .nil .nil)))) (.node (o13 P) (.node (o21 P) (.node (o37 P) (.node (o69 P) (.node (o133 P) .nil .nil) .nil) (.node (o101 P) .nil .nil)) (.node (o53 P) (.node (o85 P) .nil .nil) (.node (o117 P) .nil .nil))) (.node (o29 P) (.node (o45 P) (.node (o77 P) (.node (o141 P) .nil .nil) .nil) (.node (o109 P) .nil .nil)) (.node (o61 P) (.node (o93 P) .nil .nil) (.node (o125 P) .nil .nil)))))) (.node (boot_o_2 P) (.node (boot_o_4 P) (.node (boot_o_8 P) (.node (o16 P) (.node (o32 P) (.node (o64 P) (.node (o128 P) .nil .nil) .nil) (.node (o96 P) .nil .nil)) (.node (o48 P) (.node (o80 P) .nil .nil) (.node (o112 P) .nil .nil))) (.node (o24 P) (.node (o40 P) (.node (o72 P) (.node (o136 P) .nil .nil) .nil) (.node (o104 P) .nil .nil)) (.node (o56 P) (.node (o88 P) .nil .nil) (.node (o120 P) .nil .nil)))) (.node o12_9 (.node (o20 P) (.node (o36 P) (.node (o68 P) (.node (o132 P) .nil .nil) .nil) (.node (o100 P) .nil .nil)) (.node (o52 P) (.node (o84 P) .nil .nil) (.node (o116 P) .nil .nil))) (.node (o28 P) (.node (o44 P) (.node (o76 P) (.node (o140 P) .nil .nil) .nil) (.node (o108 P) .nil .nil)) (.node (o60 P) (.node (o92 P) .nil .nil) (.node (o124 P) .nil .nil))))) (.node (boot_o_6 P) (.node (boot_o_10 P) (.node (o18 P) (.node (o34 P) (.node (o66 P) (.node (o130 P) .nil .nil) .nil) (.node (o98 P) .nil .nil)) (.node (o50 P) (.node (o82 P) .nil .nil) (.node (o114 P) .nil .nil))) (.node (o26 P) (.node (o42 P) (.node (o74 P) (.node (o138 P) .nil .nil) .nil) (.node (o106 P) .nil .nil)) (.node (o58 P) (.node (o90 P) .nil .nil) (.node (o122 P) .nil .nil)))) (.node (o14 P) (.node (o22 P) (.node (o38 P) (.node (o70 P) (.node (o134 P) .nil .nil) .nil) (.node (o102 P) .nil .nil)) (.node (o54 P) (.node (o86 P) .nil .nil) (.node (o118 P) .nil .nil))) (.node (o30 P) (.node (o46 P) (.node (o78 P) (.node a .nil .nil) .nil) (.node (o110 P) .nil .nil)) (.node (o62 P) (.node (o94 P) .nil .nil) (.node (o126 P) .nil .nil)))))))

noncomputable abbrev tS := Fast.tw10295753902157049106
theorem teS : @segGoT = tS := Fast.te10295753902157049106
noncomputable abbrev tT := Fast.tw14364793385576792824
theorem teT : treeTable = tT := Fast.te14364793385576792824
noncomputable abbrev tD := Fast.tw11892475500146522536
theorem teD : @denote = tD := Fast.te11892475500146522536
theorem teR : @segRunT = Fast.tw10110043849684766642 := Fast.te10110043849684766642
noncomputable abbrev top10 : List Stmt := (tops.drop 10).take 1
noncomputable abbrev pos9 : Pos := ⟨62, 0, 66, 23⟩
noncomputable abbrev posL : Pos := ⟨67, 24, 67, 51⟩
noncomputable abbrev posS : Pos := ⟨67, 9, 67, 52⟩
noncomputable def cL : Code := .builtin "list.extend.loop" ⟨[.ref 137, .ref 138, .none], []⟩
noncomputable def cS : Code := .builtin "set.update.loop" ⟨[.ref 142, .ref 143], []⟩
noncomputable def stkA (w : World) (os : OsState) : List Frame := match tS tT pw w 11 ann0 1 87 (stT tr9 135 2293 w os) (piecesOf top10 envT cT pos9 BT0) with
  | some (_, ⟨_, _, _, st⟩) => st
  | none => []
noncomputable def fA1 (w : World) (os : OsState) : Frame := (stkA w os).headD (topFrame p0)
noncomputable def fA2 (w : World) (os : OsState) : Frame := (stkA w os).tail.headD (topFrame p0)
noncomputable def stkB (w : World) (os : OsState) : List Frame := match tS tT pw w 11 ann0 1 59 ⟨trL oL137_96 oL138_96 w.params, 139, {}, #[], {}, 2395, os⟩ ⟨tD tT cL, cL, posL, [fA1 w os, fA2 w os, topFrame p0]⟩ with
  | some (_, ⟨_, _, _, st⟩) => st
  | none => []
noncomputable def fB1 (w : World) (os : OsState) : Frame := (stkB w os).headD (topFrame p0)
noncomputable def fB2 (w : World) (os : OsState) : Frame := (stkB w os).tail.headD (topFrame p0)
noncomputable def fB3 (w : World) (os : OsState) : Frame := (stkB w os).tail.tail.headD (topFrame p0)
noncomputable abbrev wS (b : Bool) (w : World) : World := w.withFollow "special-get-raises" b
end Mine

open PySem PySem.W PySem.Calls PyProof.Rows
set_option Elab.async false
set_option maxRecDepth 1000000
set_option maxHeartbeats 0
set_option linter.unusedVariables false
namespace Mine
noncomputable abbrev goT (w : World) (n : Nat) (s : SharedT) (t : Thread) : Option (SharedT × Thread) := segGoT treeTable pw w 11 ann0 1 n s t
theorem goT_add {w : World} : ∀ {n : Nat} {s s1 : SharedT} {t t1 : Thread} (m : Nat), goT w n s t = some (s1, t1) → goT w (n + m) s t = goT w m s1 t1
  | 0, s, s1, t, t1, m, h => by
    simp only [goT, segGoT, Option.some.injEq, Prod.mk.injEq] at h
    obtain ⟨rfl, rfl⟩ := h
    rw [Nat.zero_add]
  | n + 1, s, s1, t, t1, m, h => by
    rw [Nat.succ_add]
    simp only [goT, segGoT] at h ⊢
    cases he : endAt 1 t with
    | some f => rw [he] at h; cases h
    | none =>
      rw [he] at h
      simp only at h ⊢
      cases hk : stepOk 11 ann0 t with
      | false => rw [hk] at h; cases h
      | true =>
        rw [hk] at h
        simp only at h ⊢
        cases hs : stepT (denote treeTable) pw w s t with
        | none => rw [hs] at h; cases h
        | some r => rw [hs] at h; exact goT_add m h
theorem end_none {cur : Sem PySem.Fin} {c : Code} {q : Pos} {st : List Frame} (h : ∀ x, cur ≠ .pure x) : endAt 1 ⟨cur, c, q, st⟩ = none := by
  unfold endAt
  split
  · rename_i f e1 e2; exact absurd e2 (h _)
  · rfl
theorem go_node {w : World} {cur : Sem PySem.Fin} {c : Code} {q : Pos} {st : List Frame} {s s' : SharedT} {t' : Thread} (h : ∀ x, cur ≠ .pure x) (hk : stepOk 11 ann0 ⟨cur, c, q, st⟩ = true)
    (hs : stepT (denote treeTable) pw w s ⟨cur, c, q, st⟩ = some (s', t')) : goT w 1 s ⟨cur, c, q, st⟩ = some (s', t') := by
  simp only [goT, segGoT, end_none h, hk, hs]
noncomputable def Tr (w : World) {α : Type} (t : Sem α) (s : SharedT) (q : Pos) (n : Nat) (a : α) (s' : SharedT) (q' : Pos) : Prop :=
  ∃ k, k ≤ n ∧ ∀ (K : α → Sem PySem.Fin) (H : Value → Sem PySem.Fin) (gd : Bool → Bool) (lv : List Value → List Value) (c : Code) (f0 : Frame) (st : List Frame), goT w k s ⟨t.wrap K H gd lv, c, q, f0 :: st⟩ = some (s', ⟨K a, c, q', f0 :: st⟩)
section
variable {w : World} {α β : Type} {s s1 s2 : SharedT} {q q1 q2 : Pos}
theorem Tr.pure (a : α) : Tr w (Sem.pure a) s q 0 a s q := ⟨0, Nat.le_refl _, fun _ _ _ _ _ _ _ => rfl⟩
theorem Tr.mono {t : Sem α} {n m : Nat} {a : α} (h : Tr w t s q n a s1 q1) (hm : n ≤ m) : Tr w t s q m a s1 q1 := by
  obtain ⟨k, hk, x⟩ := h
  exact ⟨k, Nat.le_trans hk hm, x⟩
theorem Tr.bind {m : Sem α} {f : α → Sem β} {n k : Nat} {a : α} {b : β} (h : Tr w m s q n a s1 q1) (h' : Tr w (f a) s1 q1 k b s2 q2) : Tr w (m.bind f) s q (n + k) b s2 q2 := by
  obtain ⟨i, hi, x⟩ := h
  obtain ⟨j, hj, y⟩ := h'
  refine ⟨i + j, Nat.add_le_add hi hj, fun K H gd lv c f0 st => ?_⟩
  rw [Sem.bind_eq_wrap, Sem.wrap_wrap]
  rw [goT_add j (x _ _ _ _ c f0 st)]
  exact y K H gd lv c f0 st
theorem Tr.wrap0 {t : Sem α} {n : Nat} {a : α} (K : α → Sem β) (H : Value → Sem β) (g : Bool → Bool) (l : List Value → List Value) {k : Nat} {b : β} (h : Tr w t s q n a s1 q1) (h' : Tr w (K a) s1 q1 k b s2 q2) : Tr w (t.wrap K H g l) s q (n + k) b s2 q2 := by
  obtain ⟨i, hi, x⟩ := h
  obtain ⟨j, hj, y⟩ := h'
  refine ⟨i + j, Nat.add_le_add hi hj, fun K' H' gd lv c f0 st => ?_⟩
  rw [Sem.wrap_wrap]
  rw [goT_add j (x _ _ _ _ c f0 st)]
  exact y K' H' gd lv c f0 st
theorem Tr.keep {t : Sem α} {n : Nat} {a : α} (vs : List Value) (h : Tr w t s q n a s1 q1) : Tr w (t.keep vs) s q n a s1 q1 := by
  rw [Sem.keep_eq_wrap]
  exact h.wrap0 _ _ _ _ (Tr.pure a)
theorem Tr.holding {t : Sem α} {n : Nat} {a : α} (vs : List Value) (h : Tr w t s q n a s1 q1) : Tr w (holding vs t) s q n a s1 q1 := by
  unfold PySem.holding
  split
  · exact h
  · exact h.keep _
theorem Tr.onRaise {t : Sem α} {n : Nat} {a : α} (f : Value → Sem Unit) (h : Tr w t s q n a s1 q1) : Tr w (t.onRaise f) s q n a s1 q1 := by
  rw [Sem.onRaise_eq_wrap]
  exact h.wrap0 _ _ _ _ (Tr.pure a)
theorem Tr.tryCatch {t : Sem α} {n : Nat} {a : α} (f : Value → Sem α) (h : Tr w t s q n a s1 q1) : Tr w (t.tryCatch f) s q n a s1 q1 := by
  rw [Sem.tryCatch_eq_wrap]
  exact h.wrap0 _ _ _ _ (Tr.pure a)
theorem Tr.node {t : Sem α} {t' : Sem α} (h0 : ∀ (K : α → Sem PySem.Fin) H gd lv c f0 st, goT w 1 s ⟨t.wrap K H gd lv, c, q, f0 :: st⟩ = some (s1, ⟨t'.wrap K H gd lv, c, q1, f0 :: st⟩)) {n : Nat} {a : α} (h : Tr w t' s1 q1 n a s2 q2) : Tr w t s q (n + 1) a s2 q2 := by
  obtain ⟨i, hi, x⟩ := h
  refine ⟨1 + i, by omega, fun K H gd lv c f0 st => ?_⟩
  rw [goT_add i (h0 K H gd lv c f0 st)]
  exact x K H gd lv c f0 st
theorem Tr.rule {tag : String} {k : Unit → Sem α} {n : Nat} {a : α} (h : Tr w (k ()) s q n a s2 q2) : Tr w (.rule tag k) s q (n + 1) a s2 q2 :=
  Tr.node (fun _ _ _ _ _ _ _ => go_node (by intro x e; cases e) rfl rfl) h
theorem Tr.at {p : Pos} {k : Unit → Sem α} {n : Nat} {a : α} (h : Tr w (k ()) s p n a s2 q2) : Tr w (.at p k) s q (n + 1) a s2 q2 :=
  Tr.node (fun _ _ _ _ _ _ _ => go_node (by intro x e; cases e) rfl rfl) h
theorem Tr.point {l : List Value} {k : Unit → Sem α} {n : Nat} {a : α} (h : Tr w (k ()) s q n a s2 q2) : Tr w (.point l k) s q (n + 1) a s2 q2 :=
  Tr.node (fun _ _ _ _ _ _ _ => go_node (by intro x e; cases e) rfl rfl) h
theorem Tr.ask {k : Setting → Sem α} {n : Nat} {a : α} (h : Tr w (k ⟨pw, w.params⟩) s q n a s2 q2) : Tr w (.ask k) s q (n + 1) a s2 q2 :=
  Tr.node (fun _ _ _ _ _ _ _ => go_node (by intro x e; cases e) rfl rfl) h
end
section
variable {w : World} {α β : Type} {T : BT} {N : Nat} {life : Life} {gens : Array GenState} {drawn : Drawn} {toks : Nat} {os : OsState} {s s' s2 : SharedT} {q q' q2 : Pos}
theorem Tr.fresh {k : Tok → Sem α} {n : Nat} {a : α} (h : Tr w (k toks) ⟨T, N, life, gens, drawn, toks + 1, os⟩ q n a s2 q2) : Tr w (.fresh k) ⟨T, N, life, gens, drawn, toks, os⟩ q (n + 1) a s2 q2 :=
  Tr.node (fun _ _ _ _ _ _ _ => go_node (by intro x e; cases e) rfl rfl) h
theorem Tr.load {b : Addr} {p : Option Value} {k : Obj → Sem α} {o : Obj} {n : Nat} {a : α} (hn : Nat.blt b N = true) (ho : T.get b = some o) (hf : alive o = some o) (h : Tr w (k o) ⟨T, N, life, gens, drawn, toks, os⟩ q n a s2 q2) :
    Tr w (.load b p k) ⟨T, N, life, gens, drawn, toks, os⟩ q (n + 1) a s2 q2 :=
  Tr.node (fun _ _ _ _ _ _ _ => go_node (by intro x e; cases e) rfl (by simp only [Sem.wrap, stepT, hn, ho, hf])) h
theorem Tr.update {b : Addr} {p : Option Value} {f : Obj → Obj} {k : Unit → Sem α} {o : Obj} {n : Nat} {a : α} (hn : Nat.blt b N = true) (hb : 11 ≤ b) (ho : T.get b = some o) (hf : alive o = some o) (h : Tr w (k ()) ⟨T.set b f, N, life, gens, drawn, toks, os⟩ q n a s2 q2) :
    Tr w (.update b p f k) ⟨T, N, life, gens, drawn, toks, os⟩ q (n + 1) a s2 q2 :=
  Tr.node (fun _ _ _ _ _ _ _ => go_node (by intro x e; cases e) (by
    have : Nat.ble 11 b = true := Nat.ble_eq_true_of_le hb
    simp only [Sem.wrap, stepOk, this, Bool.true_or, Bool.and_true]
    rfl) (by simp only [Sem.wrap, stepT, hn, ho, hf])) h
theorem Tr.alloc {o : Obj} {k : Addr → Sem α} {n : Nat} {a : α} (hg : ((T.ins N o).get N).isSome = true) (h : Tr w (k N) ⟨T.ins N o, N + 1, life, gens, drawn, toks, os⟩ q n a s2 q2) :
    Tr w (.alloc o k) ⟨T, N, life, gens, drawn, toks, os⟩ q (n + 1) a s2 q2 :=
  Tr.node (fun _ _ _ _ _ _ _ => go_node (by intro x e; cases e) rfl (by simp only [Sem.wrap, stepT, hg])) h
/-- a code run from its entry to its end, in the frame that called it -/
noncomputable def TrC (w : World) (cd : Code) (s : SharedT) (q : Pos) (n : Nat) (f : Flow) (s' : SharedT) : Prop :=
  ∃ k, k ≤ n ∧ ∀ (κ : Result → Sem PySem.Fin) (h : Option Value) (g : Bool) (l : List Value) (c0 : Code) (p1 : Pos) (kp : List Value) (f0 : Frame) (st : List Frame), ∃ c' q' kp',
    goT w k s ⟨denote treeTable cd, cd, q, .ret κ h g l c0 p1 kp :: f0 :: st⟩ = some (s', ⟨.pure (.done f), c', q', .ret κ h g l c0 p1 kp' :: f0 :: st⟩)
theorem TrC.mono {cd : Code} {n m : Nat} {f : Flow} (h : TrC w cd s q n f s') (hm : n ≤ m) : TrC w cd s q m f s' := by
  obtain ⟨k, hk, x⟩ := h
  exact ⟨k, Nat.le_trans hk hm, x⟩
theorem wrap_id (t : Sem α) : t.wrap .pure .raise id id = t := by rw [← Sem.bind_eq_wrap]; induction t <;> simp only [Sem.bind, *]
theorem TrC.done {cd : Code} {n : Nat} {f : Flow} (h : Tr w (denote treeTable cd) s q n (.done f) s' q') : TrC w cd s q n f s' := by
  obtain ⟨k, hk, x⟩ := h
  refine ⟨k, hk, fun κ h g l c0 p1 kp f0 st => ⟨cd, q', kp, ?_⟩⟩
  have y := x .pure .raise id id cd (.ret κ h g l c0 p1 kp) (f0 :: st)
  rw [wrap_id] at y
  exact y
theorem go_again {c c' : Code} {κ : Result → Sem PySem.Fin} {h : Option Value} {g : Bool} {l : List Value} {c0 : Code} {p1 : Pos} {kp : List Value} {st : List Frame}
    (hq : stepOk 11 ann0 ⟨.pure (.again c'), c, q, .ret κ h g l c0 p1 kp :: st⟩ = true) : goT w 1 s ⟨.pure (.again c'), c, q, .ret κ h g l c0 p1 kp :: st⟩ = some (s, ⟨denote treeTable c', c', q, .ret κ h g l c0 p1 (keptBy c c' l kp) :: st⟩) := by
  have he : endAt 1 ⟨.pure (.again c'), c, q, .ret κ h g l c0 p1 kp :: st⟩ = none := by
    unfold endAt
    split
    · rename_i f e1 e2; cases e2
    · rfl
  have hs : stepT (denote treeTable) pw w s ⟨.pure (.again c'), c, q, .ret κ h g l c0 p1 kp :: st⟩ = some (s, ⟨denote treeTable c', c', q, .ret κ h g l c0 p1 (keptBy c c' l kp) :: st⟩) := by
    obtain ⟨T, N, life, gens, drawn, toks, os⟩ := s
    show (match step (denote treeTable) pw w ⟨{}, gens, drawn, toks, os⟩ ⟨.pure (.again c'), c, q, .ret κ h g l c0 p1 kp :: st⟩ with
      | .go s' t' => some ((⟨T, N, life, s'.gens, s'.drawn, s'.toks, s'.os⟩ : SharedT), t')
      | .halt _ _ => none) = _
    rw [PySem.W.step_again]
  simp only [goT, segGoT, he, hq, hs]
theorem go_pop {c : Code} {κ : Result → Sem PySem.Fin} {h : Option Value} {g : Bool} {l : List Value} {c0 : Code} {p1 : Pos} {kp : List Value} {f0 : Frame} {st : List Frame} {f : Flow} :
    goT w 1 s ⟨.pure (.done f), c, q, .ret κ h g l c0 p1 kp :: f0 :: st⟩ = some (s, ⟨κ (.ok f), c0, p1, f0 :: st⟩) := by
  have he : endAt 1 ⟨.pure (.done f), c, q, .ret κ h g l c0 p1 kp :: f0 :: st⟩ = none := by
    unfold endAt
    split
    · rename_i e1 e2; simp at e1
    · rfl
  simp only [goT, segGoT, he]
  rfl
theorem TrC.again {cd c' : Code} {n m : Nat} {f : Flow} (h : Tr w (denote treeTable cd) s q n (.again c') s2 q2) (hq : ∀ st, stepOk 11 ann0 ⟨.pure (.again c'), cd, q2, st⟩ = true) (h' : TrC w c' s2 q2 m f s') : TrC w cd s q (n + (m + 1)) f s' := by
  obtain ⟨i, hi, x⟩ := h
  obtain ⟨j, hj, y⟩ := h'
  refine ⟨i + (1 + j), by omega, fun κ h g l c0 p1 kp f0 st => ?_⟩
  have z := x .pure .raise id id cd (.ret κ h g l c0 p1 kp) (f0 :: st)
  rw [wrap_id] at z
  obtain ⟨c'', q'', kp', e⟩ := y κ h g l c0 p1 (keptBy cd c' l kp) f0 st
  refine ⟨c'', q'', kp', ?_⟩
  rw [goT_add _ z, goT_add _ (go_again (hq _))]
  exact e
theorem Tr.call {cd : Code} {h : Option Value} {g : Bool} {l : List Value} {k : Result → Sem α} {n m : Nat} {f : Flow} {a : α} (hc : TrC w cd s q n f s') (hk : Tr w (k (.ok f)) s' q m a s2 q2) : Tr w (.call cd h g l k) s q (1 + n + 1 + m) a s2 q2 := by
  obtain ⟨i, hi, x⟩ := hc
  obtain ⟨j, hj, y⟩ := hk
  refine ⟨1 + i + 1 + j, by omega, fun K H gd lv c f0 st => ?_⟩
  have e1 : ∃ kp0, goT w 1 s ⟨(Sem.call cd h g l k).wrap K H gd lv, c, q, f0 :: st⟩ = some (s, ⟨denote treeTable cd, cd, q, .ret (fun r => (k r).wrap K H gd lv) h (gd g) (lv l) c q kp0 :: f0 :: st⟩) := by
    obtain ⟨T, N, life, gens, drawn, toks, os⟩ := s
    exact ⟨_, go_node (by intro x e; cases e) rfl rfl⟩
  obtain ⟨kp0, e1⟩ := e1
  obtain ⟨c', q', kp', e⟩ := x (fun r => (k r).wrap K H gd lv) h (gd g) (lv l) c q kp0 f0 st
  rw [Nat.add_assoc, Nat.add_assoc, goT_add _ e1, goT_add _ e, goT_add _ go_pop]
  exact y K H gd lv c f0 st
end
end Mine

open PySem PySem.W PySem.Calls PyProof.Rows
set_option Elab.async false
set_option maxRecDepth 1000000
set_option maxHeartbeats 0
set_option linter.unusedVariables false
namespace Mine
theorem den_call_hash (k : Int) (t : Tok) : denote treeTable (.call (.builtin "int.__hash__") ⟨[.int k t], []⟩) = .pure (.again (.builtin "int.__hash__" ⟨[.int k t], []⟩)) := by
  rw [teD, teT]; kernel_rfl
theorem den_hash (k : Int) (t : Tok) : denote treeTable (.builtin "int.__hash__" ⟨[.int k t], []⟩) = .fresh fun tok => .pure (.done (.ret (.int (rawHash k) tok))) := by
  show (match entryFor treeTable "int.__hash__" with
    | some b => b ⟨[.int k t], []⟩
    | none => unsupported ((withoutEnding? "int.__hash__" "#data").getD "int.__hash__")) = _
  rw [← table_eq_tree, entry_int_hash]
  rfl
section
variable {w : World} {α β : Type} {T : BT} {N : Nat} {life : Life} {gens : Array GenState} {drawn : Drawn} {toks : Nat} {os : OsState} {s1 s2 s3 : SharedT} {q q1 q2 : Pos}
theorem Tr.bind' {m : Sem α} {f : α → Sem β} {n k : Nat} {a : α} {b : β} (h : Tr w m s1 q n a s2 q1) (h' : Tr w (f a) s2 q1 k b s3 q2) : Tr w (m >>= f) s1 q (n + k) b s3 q2 := Tr.bind h h'
theorem Tr.pure' (a : α) : Tr w (Pure.pure a : Sem α) s1 q 0 a s1 q := Tr.pure a
theorem Tr.eq {t t' : Sem α} (e : t = t') {n : Nat} {a : α} (h : Tr w t' s1 q n a s2 q1) : Tr w t s1 q n a s2 q1 := e ▸ h
theorem Tr.bq {m : Sem α} {f : α → Sem β} {n k : Nat} {a : α} {b : β} (h : Tr w m s1 q n a s2 q) (h' : Tr w (f a) s2 q k b s3 q2) : Tr w (m >>= f) s1 q (n + k) b s3 q2 := Tr.bind h h'
theorem Tr.skip {m : Sem α} {f : α → Sem β} {k : Nat} {a : α} {b : β} (e : m = Pure.pure a) (h' : Tr w (f a) s1 q k b s3 q2) : Tr w (m >>= f) s1 q k b s3 q2 := by
  subst e
  exact h'
theorem tr_callHash {k : Int} {t : Tok} : Tr w (PySem.call (.builtin "int.__hash__") [.int k t]) ⟨T, N, life, gens, drawn, toks, os⟩ q 5 (.int (rawHash k) toks) ⟨T, N, life, gens, drawn, toks + 1, os⟩ q := by
  have c2 : TrC w (.builtin "int.__hash__" ⟨[.int k t], []⟩) ⟨T, N, life, gens, drawn, toks, os⟩ q 1 (.ret (.int (rawHash k) toks)) ⟨T, N, life, gens, drawn, toks + 1, os⟩ := by
    refine TrC.done (q' := q) ?_
    rw [den_hash]
    exact Tr.fresh (Tr.pure _)
  have c1 : TrC w (.call (.builtin "int.__hash__") ⟨[.int k t], []⟩) ⟨T, N, life, gens, drawn, toks, os⟩ q (0 + (1 + 1)) (.ret (.int (rawHash k) toks)) ⟨T, N, life, gens, drawn, toks + 1, os⟩ := by
    refine TrC.again (q2 := q) ?_ ?_ c2
    · rw [den_call_hash]; exact Tr.pure _
    · intro st
      unfold stepOk Thread.calm Thread.atCollectorCode Thread.yieldsInsideHandler
      have : ("int.__hash__").startsWith "lifetime." = false := by decide +kernel
      simp [this]
  unfold PySem.call runValue PySem.run
  have c0 : Tr w (Sem.call (.call (.builtin "int.__hash__") ⟨[.int k t], []⟩) none false [] fun | .ok f => .pure f | .error e => .raise e) ⟨T, N, life, gens, drawn, toks, os⟩ q (1 + (0 + (1 + 1)) + 1 + 0) (Flow.ret (.int (rawHash k) toks)) ⟨T, N, life, gens, drawn, toks + 1, os⟩ q := Tr.call c1 (Tr.pure _)
  exact Tr.mono (n := 1 + (0 + (1 + 1)) + 1 + 0 + 0) (Tr.bq c0 (Tr.pure' _)) (by omega)
theorem special_hash (k : Int) (t : Tok) : specialOf (.int k t) "__hash__" = Pure.pure (some (.builtin "int.__hash__")) := by
  unfold specialOf
  show (typeOf (.int k t) >>= fun x => typeLookup x "__hash__") = _
  have e : typeOf (.int k t) = Pure.pure (.type "int") := rfl
  rw [e]
  exact slot_int_hash.lookup
theorem tr_pyHash {k : Int} {t : Tok} : Tr w (pyHash (.int k t)) ⟨T, N, life, gens, drawn, toks, os⟩ q 6 (hashInt k) ⟨T, N, life, gens, drawn, toks + 1, os⟩ q := by
  have hr := rawHash_range k
  show Tr w (pyHashByItsType (.int k t)) _ _ _ _ _ _
  unfold pyHashByItsType
  have hv : [Value.int k t].any Value.onHeap = false := rfl
  refine Tr.skip (a := ()) (by rw [cRoomFor, if_neg (by rw [hv]; exact Bool.false_ne_true)]) ?_
  rw [special_hash]
  refine Tr.skip rfl ?_
  rw [if_neg (by rw [beq_builtin_none]; exact Bool.false_ne_true)]
  refine Tr.skip rfl ?_
  have c : ∀ rf, Tr w (callSpecialIfBoundUnlessNone? (.int k t) "__hash__" rf) ⟨T, N, life, gens, drawn, toks, os⟩ q 6 (some (.int (rawHash k) toks)) ⟨T, N, life, gens, drawn, toks + 1, os⟩ q := by
    intro rf
    simp only [callSpecialIfBoundUnlessNone?, bindSpecialIfBound?]
    refine Tr.holding _ ?_
    refine Tr.bq (n := 1) (k := 5) (a := some (.builtin "int.__hash__", [.int k t])) (s2 := ⟨T, N, life, gens, drawn, toks, os⟩) ?_ ?_
    · rw [special_hash]
      refine Tr.skip rfl ?_
      simp only [slot_int_hash.bind]
      refine Tr.ask ?_
      show Tr w (if _ then _ else _) _ _ _ _ _ _
      split
      · exact Tr.pure' _
      · exact Tr.tryCatch _ (Tr.pure' _)
    · show Tr w (if (Value.builtin "int.__hash__" == Value.none) = true then _ else _) _ _ _ _ _ _
      rw [if_neg (by simp only [builtin_beq_none]; exact Bool.false_ne_true)]
      exact Tr.bq (n := 5) (k := 0) tr_callHash (Tr.pure' _)
  refine Tr.bq (n := 6) (k := 0) (c _) ?_
  show Tr w (if (decide (-(2 : Int) ^ 63 ≤ rawHash k) && decide (rawHash k < 2 ^ 63)) = true then _ else _) _ _ _ _ _ _
  rw [if_pos (by rw [decide_eq_true hr.1, decide_eq_true hr.2]; rfl)]
  exact Tr.pure' _
theorem tr_load {b : Addr} {p : Option Value} {o : Obj} (hn : Nat.blt b N = true) (ho : T.get b = some o) (hf : alive o = some o) :
    Tr w (loadPart b p) ⟨T, N, life, gens, drawn, toks, os⟩ q 1 o ⟨T, N, life, gens, drawn, toks, os⟩ q := Tr.load hn ho hf (Tr.pure o)
theorem tr_update {b : Addr} {p : Option Value} {f : Obj → Obj} {o : Obj} (hn : Nat.blt b N = true) (hb : 11 ≤ b) (ho : T.get b = some o) (hf : alive o = some o) :
    Tr w (updatePart b p f) ⟨T, N, life, gens, drawn, toks, os⟩ q 1 () ⟨T.set b f, N, life, gens, drawn, toks, os⟩ q := Tr.update hn hb ho hf (Tr.pure ())
theorem alive_dict (es : List DictEntry) (n : Nat) : alive (dictO es n) = some (dictO es n) := rfl
theorem tr_entries {d : Addr} {p : Option Value} {es : List DictEntry} {ep : Nat} (hn : Nat.blt d N = true) (ho : T.get d = some (dictO es ep)) :
    Tr w (dictEntries d p) ⟨T, N, life, gens, drawn, toks, os⟩ q 1 es.toArray ⟨T, N, life, gens, drawn, toks, os⟩ q := by
  unfold dictEntries
  exact Tr.bq (n := 1) (k := 0) (tr_load hn ho (alive_dict _ _)) (Tr.pure' _)
theorem places_nil (es : List DictEntry) (h : Int) (hno : ∀ e ∈ es, e.hash ≠ h) : placesWithHash es.toArray.size (fun i => es.toArray[i]?.map (·.hash)) h = [] := by
  unfold placesWithHash
  rw [List.filter_eq_nil_iff]
  intro i hi
  rw [List.mem_range] at hi
  simp only [List.size_toArray] at hi
  have : es.toArray[i]? = some es[i] := by simp [hi]
  show ¬((es.toArray[i]?.map (·.hash)) == some h) = true
  rw [this]
  simp only [Option.map_some, beq_iff_eq, Option.some.injEq]
  exact hno _ (List.getElem_mem hi)
theorem tr_find {d : Addr} {es : List DictEntry} {ep : Nat} {k h : Int} {t : Tok} (hn : Nat.blt d N = true) (ho : T.get d = some (dictO es ep)) (hno : ∀ e ∈ es, e.hash ≠ h) :
    Tr w (dictFind d (.int k t) h) ⟨T, N, life, gens, drawn, toks, os⟩ q 1 none ⟨T, N, life, gens, drawn, toks, os⟩ q := by
  unfold dictFind
  refine Tr.holding _ ?_
  refine Tr.bq (n := 1) (k := 0) (tr_entries hn ho) ?_
  dsimp only
  rw [places_nil es h hno]
  exact Tr.pure' _
theorem push_dict (e : DictEntry) (es : List DictEntry) (ep : Nat) : Obj.mapDictKeys (·.push e) (dictO es ep) = dictO (es ++ [e]) (ep + 1) := by
  simp [dictO, Obj.mapDictKeys]
theorem get_set_same {T : BT} {d : Addr} {o : Obj} (f : Obj → Obj) (ho : T.get d = some o) : (T.set d f).get d = some (f o) := by
  rw [BT.get_set, if_pos rfl, ho]; rfl
theorem tr_pushKey {d : Addr} {p : Option Value} {es : List DictEntry} {ep : Nat} (e : DictEntry) (hn : Nat.blt d N = true) (hb : 11 ≤ d) (ho : T.get d = some (dictO es ep)) (hz : es.length ≤ 5000) :
    Tr w (updateDictKeys d (·.push e) p) ⟨T, N, life, gens, drawn, toks, os⟩ q 3 () ⟨T.set d (Obj.mapDictKeys (·.push e)), N, life, gens, drawn, toks, os⟩ q := by
  unfold updateDictKeys
  refine Tr.bq (n := 1) (k := 2) (tr_load hn ho (alive_dict _ _)) ?_
  refine Tr.bq (n := 1) (k := 1) (tr_update hn hb ho (alive_dict _ _)) ?_
  unfold lookBehind
  have g : (T.set d (Obj.mapDictKeys (·.push e))).get d = some (dictO (es ++ [e]) (ep + 1)) := by rw [get_set_same _ ho, push_dict]
  refine Tr.bq (n := 1) (k := 0) (tr_load hn g (alive_dict _ _)) ?_
  have : (dictO (es ++ [e]) (ep + 1)).data.pastItsLine = none := by
    unfold dictO Data.pastItsLine
    simp only [List.size_toArray, List.length_append, List.length_cons, List.length_nil]
    rw [if_neg]
    unfold sizeLine
    omega
  rw [this]
  exact Tr.pure' _
theorem tr_dictSet {d : Addr} {es : List DictEntry} {ep : Nat} {k : Int} {t : Tok} {v : Value} (hn : Nat.blt d N = true) (hb : 11 ≤ d) (ho : T.get d = some (dictO es ep)) (hz : es.length ≤ 5000) (hno : ∀ e ∈ es, e.hash ≠ hashInt k) :
    Tr w (dictSet d (.int k t) v) ⟨T, N, life, gens, drawn, toks, os⟩ q 11 () ⟨T.set d (Obj.mapDictKeys (·.push ⟨hashInt k, .int k t, v⟩)), N, life, gens, drawn, toks + 1, os⟩ q := by
  unfold dictSet
  refine Tr.holding _ ?_
  refine Tr.bq (n := 6) (k := 5) tr_pyHash ?_
  unfold dictSetHashed
  refine Tr.holding _ ?_
  refine Tr.bq (n := 1) (k := 4) (tr_find hn ho hno) ?_
  refine Tr.rule ?_
  exact tr_pushKey _ hn hb ho hz
theorem tr_dictPut {d : Addr} {es : List DictEntry} {ep : Nat} {k h : Int} {t : Tok} {v : Value} (hn : Nat.blt d N = true) (hb : 11 ≤ d) (ho : T.get d = some (dictO es ep)) (hz : es.length ≤ 5000) (hno : ∀ e ∈ es, e.hash ≠ h) :
    Tr w (dictPut d h (.int k t) v) ⟨T, N, life, gens, drawn, toks, os⟩ q 4 () ⟨T.set d (Obj.mapDictKeys (·.push ⟨h, .int k t, v⟩)), N, life, gens, drawn, toks, os⟩ q := by
  unfold dictPut
  refine Tr.bq (n := 1) (k := 3) (tr_find hn ho hno) ?_
  exact tr_pushKey _ hn hb ho hz
end
end Mine

open PySem PySem.W PySem.Calls PyProof.Rows
set_option Elab.async false
set_option maxRecDepth 1000000
set_option maxHeartbeats 0
set_option linter.unusedVariables false
namespace Mine
theorem bt_set_const (f : Obj → Obj) : ∀ (T : BT) (d : Nat) {o : Obj}, T.get d = some o → T.set d f = T.set d (fun _ => f o)
  | .nil, _, _, h => by cases h
  | .node v l r, d, o, h => by
    rw [BT.get_node] at h
    rw [BT.set_node, BT.set_node]
    by_cases h0 : d = 0
    · simp only [h0, if_true] at h ⊢; cases h; rfl
    · by_cases p : d % 2 = 1
      · simp only [h0, p, if_true, if_false] at h ⊢; rw [bt_set_const f l _ h]
      · simp only [h0, p, if_false] at h ⊢; rw [bt_set_const f r _ h]
theorem bt_set_id : ∀ (T : BT) (d : Nat), T.set d id = T
  | .nil, _ => rfl
  | .node v l r, d => by
    rw [BT.set_node]
    by_cases h0 : d = 0
    · simp [h0]
    · by_cases p : d % 2 = 1
      · simp only [h0, p, if_true, if_false]; rw [bt_set_id l]
      · simp only [h0, p, if_false]; rw [bt_set_id r]
theorem bt_set_set (f g : Obj → Obj) : ∀ (T : BT) (d : Nat), (T.set d f).set d g = T.set d (fun o => g (f o))
  | .nil, _ => rfl
  | .node v l r, d => by
    rw [BT.set_node, BT.set_node]
    by_cases h0 : d = 0
    · simp only [h0, if_true]; rw [BT.set_node]; simp
    · by_cases p : d % 2 = 1
      · simp only [h0, p, if_true, if_false]; rw [BT.set_node]; simp only [h0, p, if_true, if_false]; rw [bt_set_set f g l]
      · simp only [h0, p, if_false]; rw [BT.set_node]; simp only [h0, p, if_false]; rw [bt_set_set f g r]
theorem bt_ins_set (f : Obj → Obj) (o : Obj) : ∀ (T : BT) (d : Nat), ((T.ins d o).get d).isSome = true → (T.ins d o).set d f = T.ins d (f o)
  | .nil, d, h => by
    have e : (BT.nil.ins d o) = .node o .nil .nil := rfl
    rw [e, BT.get_node] at h
    by_cases h0 : d = 0
    · rw [e, BT.set_node, if_pos h0]; rfl
    · exfalso; revert h; by_cases p : d % 2 = 1 <;> simp [h0, p, BT.get]
  | .node v l r, d, h => by
    rw [BT.ins_node] at h ⊢
    rw [BT.ins_node]
    by_cases h0 : d = 0
    · simp only [h0, if_true]; rw [BT.set_node]; simp
    · by_cases p : d % 2 = 1
      · simp only [h0, p, if_true, if_false] at h ⊢
        rw [BT.get_node] at h
        simp only [h0, p, if_true, if_false] at h
        rw [BT.set_node]; simp only [h0, p, if_true, if_false]; rw [bt_ins_set f o l _ h]
      · simp only [h0, p, if_false] at h ⊢
        rw [BT.get_node] at h
        simp only [h0, p, if_false] at h
        rw [BT.set_node]; simp only [h0, p, if_false]; rw [bt_ins_set f o r _ h]
/-- whether the place is free: what ins hangs there depends on no object -/
theorem bt_ins_get (o o' : Obj) : ∀ (T : BT) (d : Nat), ((T.ins d o).get d).isSome = ((T.ins d o').get d).isSome
  | .nil, d => by
    have e : ∀ x, (BT.nil.ins d x) = .node x .nil .nil := fun _ => rfl
    rw [e, e, BT.get_node, BT.get_node]
    by_cases h0 : d = 0
    · simp [h0]
    · by_cases p : d % 2 = 1 <;> simp [h0, p, BT.get]
  | .node v l r, d => by
    rw [BT.ins_node, BT.ins_node]
    by_cases h0 : d = 0
    · simp [h0, BT.get_node]
    · by_cases p : d % 2 = 1
      · simp only [h0, p, if_true, if_false]; rw [BT.get_node, BT.get_node]; simp only [h0, p, if_true, if_false]; exact bt_ins_get o o' l _
      · simp only [h0, p, if_false]; rw [BT.get_node, BT.get_node]; simp only [h0, p, if_false]; exact bt_ins_get o o' r _
theorem bt_ins_self {T : BT} {d : Nat} {o : Obj} (h : ((T.ins d o).get d).isSome = true) : (T.ins d o).get d = some o := by rw [BT.get_ins o T d h, if_pos rfl]

inductive All2 {α β : Type} (R : α → β → Prop) : List α → List β → Prop
  | nil : All2 R [] []
  | cons {a : α} {b : β} {as : List α} {bs : List β} : R a b → All2 R as bs → All2 R (a :: as) (b :: bs)
section
variable {w : World} {T : BT} {N : Nat} {life : Life} {gens : Array GenState} {drawn : Drawn} {toks : Nat} {os : OsState} {s1 s2 s3 : SharedT} {q q1 q2 P : Pos}
/-- a pair of a display: a written int and a written text -/
noncomputable def KV (w : World) (P : Pos) (x : Sem Value × Sem Value) (kv : Int × Str) : Prop :=
  (∀ T N life gens drawn toks os, Tr w x.1 ⟨T, N, life, gens, drawn, toks, os⟩ P 1 (.int kv.1 toks) ⟨T, N, life, gens, drawn, toks + 1, os⟩ P) ∧
  ∀ T N life gens drawn toks os, Tr w x.2 ⟨T, N, life, gens, drawn, toks, os⟩ P 2 (.str kv.2 toks) ⟨T, N, life, gens, drawn, toks + 1, os⟩ P
noncomputable def Keys (kvs : List (Int × Str)) : Prop := (∀ kv ∈ kvs, hashInt kv.1 = kv.1) ∧ (kvs.map (·.1)).Nodup
theorem ents_hash {t d : Nat} : ∀ {kvs : List (Int × Str)} {t : Nat} {e : DictEntry}, e ∈ ents t d kvs → ∃ kv ∈ kvs, e.hash = kv.1 ∧ (∃ u, e.key = .int kv.1 u)
  | [], _, _, h => by cases h
  | kv :: r, t, e, h => by
    rcases List.mem_cons.mp h with rfl | h
    · exact ⟨kv, .head _, rfl, t, rfl⟩
    · obtain ⟨kv', hm, x⟩ := ents_hash (t := t) h; exact ⟨kv', .tail _ hm, x⟩
theorem ents_length (d : Nat) : ∀ (kvs : List (Int × Str)) (t : Nat), (ents t d kvs).length = kvs.length
  | [], _ => rfl
  | kv :: r, t => by show (ents (t + d) d r).length + 1 = r.length + 1; rw [ents_length d r]
/-- the long road of one piece of a display: pair by pair -/
theorem tr_long_loop (f : (Sem Value × Sem Value) → PUnit → Sem (ForInStep PUnit)) (d : Addr)
    (hf : ∀ x u, f x u = (do let kv ← x.1; let vv ← holding [kv] x.2; let _ ← holding [kv, vv] (dictSet d kv vv); pure (.yield ⟨⟩)))
    (hn : Nat.blt d N = true) (hb : 11 ≤ d) :
    ∀ (items : List (Sem Value × Sem Value)) (kvs : List (Int × Str)) (es : List DictEntry) (ep toks : Nat) (T : BT), All2 (KV w P) items kvs → Keys kvs → (∀ e ∈ es, ∀ kv ∈ kvs, e.hash ≠ kv.1) → es.length + kvs.length ≤ 5000 → T.get d = some (dictO es ep) →
      Tr w (forIn items PUnit.unit f) ⟨T, N, life, gens, drawn, toks, os⟩ P (14 * kvs.length) PUnit.unit ⟨T.set d (fun _ => dictO (es ++ ents toks 3 kvs) (ep + kvs.length)), N, life, gens, drawn, toks + 3 * kvs.length, os⟩ P := by
  intro items kvs es ep toks T hF
  induction hF generalizing es ep toks T with
  | nil =>
    intro _ _ _ ho
    rw [List.forIn_nil]
    have e : T.set d (fun _ => dictO (es ++ ents toks 3 []) (ep + ([] : List (Int × Str)).length)) = T := by
      show T.set d (fun _ => dictO (es ++ []) (ep + 0)) = T
      rw [List.append_nil, Nat.add_zero]
      exact (bt_set_const id T d ho).symm.trans (bt_set_id T d)
    rw [e]
    exact Tr.pure' _
  | @cons x kv items kvs hx hF ih =>
    intro hk hno hz ho
    rw [List.forIn_cons, hf]
    have hk0 := hk.1 kv (.head _)
    have hkt : Keys kvs := ⟨fun a ha => hk.1 a (.tail _ ha), (List.nodup_cons.mp hk.2).2⟩
    have hnin : ∀ a ∈ kvs, kv.1 ≠ a.1 := fun a ha e => (List.nodup_cons.mp hk.2).1 (by show kv.1 ∈ _; rw [e]; exact List.mem_map_of_mem ha)
    have hz' : es.length + (kvs.length + 1) ≤ 5000 := hz
    have hlen : (kv :: kvs).length = kvs.length + 1 := rfl
    have s1 := hx.1 T N life gens drawn toks os
    have s2 := hx.2 T N life gens drawn (toks + 1) os
    have s3 : Tr w (dictSet d (.int kv.1 toks) (.str kv.2 (toks + 1))) ⟨T, N, life, gens, drawn, toks + 2, os⟩ P 11 () ⟨T.set d (Obj.mapDictKeys (·.push ⟨hashInt kv.1, .int kv.1 toks, .str kv.2 (toks + 1)⟩)), N, life, gens, drawn, toks + 3, os⟩ P :=
      tr_dictSet hn hb ho (by omega) (fun e he => by rw [hk0]; exact hno e he kv (.head _))
    rw [hk0] at s3
    have g := get_set_same (Obj.mapDictKeys (·.push ⟨kv.1, .int kv.1 toks, .str kv.2 (toks + 1)⟩)) ho
    rw [push_dict] at g
    have s4 := ih (es ++ [⟨kv.1, .int kv.1 toks, .str kv.2 (toks + 1)⟩]) (ep + 1) (toks + 3) _ hkt (fun e he a ha => by
      rcases List.mem_append.mp he with he | he
      · exact hno e he a (.tail _ ha)
      · simp only [List.mem_singleton] at he; subst he; exact hnin a ha) (by simp only [List.length_append, List.length_cons, List.length_nil]; omega) g
    have s5 := Tr.bq s1 (f := fun kv => do let vv ← holding [kv] x.2; let _ ← holding [kv, vv] (dictSet d kv vv); pure (ForInStep.yield PUnit.unit)) (Tr.bq (Tr.holding _ s2) (Tr.bq (Tr.holding _ s3) (Tr.pure' (ForInStep.yield PUnit.unit))))
    refine Tr.mono (m := 14 * (kv :: kvs).length) (n := 1 + (2 + (11 + 0)) + 14 * kvs.length) ?_ (by rw [hlen]; omega)
    have eT : (T.set d (Obj.mapDictKeys (·.push ⟨kv.1, .int kv.1 toks, .str kv.2 (toks + 1)⟩))).set d (fun _ => dictO ((es ++ [⟨kv.1, .int kv.1 toks, .str kv.2 (toks + 1)⟩]) ++ ents (toks + 3) 3 kvs) (ep + 1 + kvs.length)) =
        T.set d (fun _ => dictO (es ++ ents toks 3 (kv :: kvs)) (ep + (kv :: kvs).length)) := by
      rw [bt_set_set, List.append_assoc, hlen, Nat.add_assoc, Nat.add_comm 1]
      rfl
    have et : toks + 3 + 3 * kvs.length = toks + 3 * (kv :: kvs).length := by rw [hlen]; omega
    rw [eT, et] at s4
    exact Tr.bq s5 s4
end
end Mine

open PySem PySem.W PySem.Calls PyProof.Rows
set_option Elab.async false
set_option maxRecDepth 1000000
set_option maxHeartbeats 0
set_option linter.unusedVariables false
namespace Mine
theorem look_dict_iter : typeLookup (.type "dict") "__iter__" = pure (some (.builtin "dict.__iter__")) := by rw [typeLookup_type, builtinLookup_eq_fast]; kernel_rfl
section
variable {w : World} {T : BT} {N : Nat} {life : Life} {gens : Array GenState} {drawn : Drawn} {toks : Nat} {os : OsState} {s1 s2 s3 : SharedT} {q q1 q2 P : Pos}
theorem tr_epoch {d : Addr} {p : Option Value} {es : List DictEntry} {ep : Nat} (hn : Nat.blt d N = true) (ho : T.get d = some (dictO es ep)) :
    Tr w (dictEpoch d p) ⟨T, N, life, gens, drawn, toks, os⟩ q 1 ep ⟨T, N, life, gens, drawn, toks, os⟩ q := by
  unfold dictEpoch
  exact Tr.bq (n := 1) (k := 0) (tr_load hn ho (alive_dict _ _)) (Tr.pure' _)
noncomputable def IntKey (e : DictEntry) : Prop := ∃ k u, e.key = .int k u
theorem tr_merge_loop (f : Nat → PUnit → Sem (ForInStep PUnit)) (d sub : Addr) (ss : List DictEntry) (eq : Nat)
    (hf : ∀ (i : Nat) (e : DictEntry) (es : List DictEntry) (ep : Nat) (T : BT), ss[i]? = some e → IntKey e → T.get sub = some (dictO ss eq) → T.get d = some (dictO es ep) → (∀ x ∈ es, x.hash ≠ e.hash) → es.length ≤ 5000 →
      Tr w (f i PUnit.unit) ⟨T, N, life, gens, drawn, toks, os⟩ P 6 (.yield PUnit.unit) ⟨T.set d (Obj.mapDictKeys (·.push e)), N, life, gens, drawn, toks, os⟩ P)
    (hd : sub ≠ d) : ∀ (post pre es : List DictEntry) (ep : Nat) (T : BT), ss = pre ++ post → T.get sub = some (dictO ss eq) → T.get d = some (dictO es ep) →
      (∀ e ∈ post, IntKey e) → (post.map (·.hash)).Nodup → (∀ e ∈ post, ∀ x ∈ es, x.hash ≠ e.hash) → es.length + post.length ≤ 5000 →
      Tr w (forIn (List.range' pre.length post.length) PUnit.unit f) ⟨T, N, life, gens, drawn, toks, os⟩ P (6 * post.length) PUnit.unit ⟨T.set d (fun _ => dictO (es ++ post) (ep + post.length)), N, life, gens, drawn, toks, os⟩ P
  | [], pre, es, ep, T, _, _, ho, _, _, _, _ => by
    have e : T.set d (fun _ => dictO (es ++ []) (ep + ([] : List DictEntry).length)) = T := by
      show T.set d (fun _ => dictO (es ++ []) (ep + 0)) = T
      rw [List.append_nil, Nat.add_zero]
      exact (bt_set_const id T d ho).symm.trans (bt_set_id T d)
    rw [e]
    exact Tr.pure' _
  | e :: post, pre, es, ep, T, hs, hsub, ho, hk, hnd, hno, hz => by
    have hlen : (e :: post).length = post.length + 1 := rfl
    have hi : ss[pre.length]? = some e := by rw [hs, List.getElem?_append_right (Nat.le_refl _), Nat.sub_self]; rfl
    have hz' : es.length + (post.length + 1) ≤ 5000 := hz
    have a1 := hf pre.length e es ep T hi (hk e (.head _)) hsub ho (hno e (.head _)) (by omega)
    have hsub' : (T.set d (Obj.mapDictKeys (·.push e))).get sub = some (dictO ss eq) := by rw [BT.get_set, if_neg hd]; exact hsub
    have ho' := get_set_same (Obj.mapDictKeys (·.push e)) ho
    rw [push_dict] at ho'
    have a2 := tr_merge_loop f d sub ss eq hf hd post (pre ++ [e]) (es ++ [e]) (ep + 1) _ (by rw [hs]; simp) hsub' ho' (fun a ha => hk a (.tail _ ha)) (List.nodup_cons.mp hnd).2
      (fun a ha x hx => by
        rcases List.mem_append.mp hx with hx | hx
        · exact hno a (.tail _ ha) x hx
        · simp only [List.mem_singleton] at hx; subst hx
          intro e'
          exact (List.nodup_cons.mp hnd).1 (by show x.hash ∈ _; rw [e']; exact List.mem_map_of_mem ha)) (by simp only [List.length_append, List.length_cons, List.length_nil]; omega)
    have hr : List.range' pre.length (e :: post).length = pre.length :: List.range' (pre ++ [e]).length post.length := by
      rw [hlen, List.range'_succ, List.length_append]; rfl
    rw [hr, List.forIn_cons]
    have eT : (T.set d (Obj.mapDictKeys (·.push e))).set d (fun _ => dictO ((es ++ [e]) ++ post) (ep + 1 + post.length)) = T.set d (fun _ => dictO (es ++ e :: post) (ep + (e :: post).length)) := by
      rw [bt_set_set, List.append_assoc, hlen, Nat.add_assoc, Nat.add_comm 1]
      rfl
    rw [eT] at a2
    refine Tr.mono (m := 6 * (e :: post).length) (n := 6 + 6 * post.length) ?_ (by rw [hlen]; omega)
    exact Tr.bq a1 a2
theorem tr_merge {d sub : Addr} {es ss : List DictEntry} {ep eq : Nat} (hd : sub ≠ d) (hnd' : Nat.blt d N = true) (hns : Nat.blt sub N = true) (hb : 11 ≤ d) (hm : (sub == sysModules) = false)
    (hsub : T.get sub = some (dictO ss eq)) (ho : T.get d = some (dictO es ep)) (hne : es ≠ [])
    (hk : ∀ e ∈ ss, IntKey e) (hnd : (ss.map (·.hash)).Nodup) (hno : ∀ e ∈ ss, ∀ x ∈ es, x.hash ≠ e.hash) (hz : es.length + ss.length ≤ 5000) :
    Tr w (mergeMapping d (.ref sub) false) ⟨T, N, life, gens, drawn, toks, os⟩ P (6 * ss.length + 5) () ⟨T.set d (fun _ => dictO (es ++ ss) (ep + ss.length)), N, life, gens, drawn, toks, os⟩ P := by
  have hty : ∀ {T : BT}, T.get sub = some (dictO ss eq) → Tr w (typeOf (.ref sub)) ⟨T, N, life, gens, drawn, toks, os⟩ P 1 (.type "dict") ⟨T, N, life, gens, drawn, toks, os⟩ P := fun hs => by
    rw [typeOf_ref]
    exact Tr.load hns hs (alive_dict _ _) (Tr.pure _)
  unfold mergeMapping
  refine Tr.mono (n := 2 + (6 * ss.length + 3)) ?_ (by omega)
  have hin : Tr w (isInstance (.ref sub) (.type "dict")) ⟨T, N, life, gens, drawn, toks, os⟩ P 1 true ⟨T, N, life, gens, drawn, toks, os⟩ P := by
    unfold isInstance
    refine Tr.bq (n := 1) (k := 0) (hty hsub) ?_
    rw [isSubtype_dict_dict]
    exact Tr.pure' _
  have hsp : Tr w (specialOf (.ref sub) "__iter__") ⟨T, N, life, gens, drawn, toks, os⟩ P 1 (some (.builtin "dict.__iter__")) ⟨T, N, life, gens, drawn, toks, os⟩ P := by
    unfold specialOf
    refine Tr.bq (n := 1) (k := 0) (hty hsub) ?_
    rw [look_dict_iter]
    exact Tr.pure' _
  refine Tr.mono (n := 1 + (1 + (6 * ss.length + 3))) ?_ (by omega)
  refine Tr.bq (n := 1) hin ?_
  dsimp only
  rw [if_pos rfl]
  refine Tr.bq (n := 1) hsp ?_
  refine Tr.skip (a := true) (by simp) ?_
  · dsimp only
    rw [if_neg (by rw [hm]; exact Bool.false_ne_true)]
    refine Tr.mono (n := 1 + (1 + (1 + 6 * ss.length))) ?_ (by omega)
    refine Tr.bq (n := 1) (tr_entries hnd' ho) ?_
    rw [if_neg (by cases es with | nil => exact absurd rfl hne | cons a b => simp)]
    refine Tr.bq (n := 1) (tr_entries hns hsub) ?_
    refine Tr.bq (n := 1) (tr_epoch hns hsub) ?_
    have hsz : ss.toArray.size = ss.length := by simp
    rw [hsz, List.range_eq_range']
    refine Tr.mono (n := 6 * ss.length + 0) ?_ (by omega)
    refine Tr.bq (a := PUnit.unit) (tr_merge_loop _ d sub ss eq ?_ hd ss [] es ep T rfl hsub ho hk hnd hno hz) (Tr.pure' _)
    intro i e es' ep' T' hi hke hsub' ho' hno' hz'
    refine Tr.bq (n := 1) (k := 5) (tr_entries hns hsub') ?_
    have : ss.toArray[i]? = some e := by simpa using hi
    simp only [this]
    obtain ⟨k, u, hke⟩ := hke
    refine Tr.bq (n := 4) (k := 1) (Tr.holding _ ?_) ?_ (a := ()) (s2 := ⟨T'.set d (Obj.mapDictKeys (·.push e)), N, life, gens, drawn, toks, os⟩)
    · rw [if_neg Bool.false_ne_true]
      have := tr_dictPut (w := w) (N := N) (life := life) (gens := gens) (drawn := drawn) (toks := toks) (os := os) (q := P) (k := k) (t := u) (v := e.val) hnd' hb ho' hz' hno'
      rw [← hke] at this
      exact this
    · have hsub'' : (T'.set d (Obj.mapDictKeys (·.push e))).get sub = some (dictO ss eq) := by rw [BT.get_set, if_neg hd]; exact hsub'
      refine Tr.bq (n := 1) (k := 0) (tr_epoch hns hsub'') ?_
      rw [if_neg (by simp)]
      exact Tr.pure' _
end
end Mine

open PySem PySem.W PySem.Calls PyProof.Rows
set_option Elab.async false
set_option maxRecDepth 1000000
set_option maxHeartbeats 0
set_option linter.unusedVariables false
namespace Mine
section
variable {w : World} {T : BT} {N : Nat} {life : Life} {gens : Array GenState} {drawn : Drawn} {toks : Nat} {os : OsState} {s1 s2 s3 : SharedT} {q q1 q2 P : Pos}
theorem All2.length {α β : Type} {R : α → β → Prop} {a : List α} {b : List β} (h : All2 R a b) : a.length = b.length := by
  induction h with
  | nil => rfl
  | cons _ _ ih => simp [ih]
theorem blt_succ {N : Nat} : Nat.blt N (N + 1) = true := by simp
theorem bt_set_ins_const (o o' : Obj) (T : BT) (d : Nat) (h : ((T.ins d o).get d).isSome = true) : (T.ins d o).set d (fun _ => o') = T.ins d o' := bt_ins_set _ _ T d h
/-- a piece of seventeen pairs -/
theorem tr_subDict_long {its : List (Sem Value × Sem Value)} {kvs : List (Int × Str)} (hF : All2 (KV w P) its kvs) (hk : Keys kvs) (hl : 15 < its.length) (hz : kvs.length ≤ 5000) (hb : 11 ≤ N) (hg : ∀ o, ((T.ins N o).get N).isSome = true) :
    Tr w (subDict its) ⟨T, N, life, gens, drawn, toks, os⟩ P (14 * kvs.length + 2) N ⟨T.ins N (dictO (ents toks 3 kvs) kvs.length), N + 1, life, gens, drawn, toks + 3 * kvs.length, os⟩ P := by
  unfold subDict
  refine Tr.mono (n := 1 + (14 * kvs.length + 1)) ?_ (by omega)
  refine Tr.bq (n := 1) (a := N) (s2 := ⟨T.ins N (dictO [] 0), N + 1, life, gens, drawn, toks, os⟩) (Tr.alloc (hg _) (Tr.pure N)) ?_
  refine Tr.mono (n := (14 * kvs.length + 1) + 0) ?_ (by omega)
  refine Tr.bq (a := ()) (Tr.holding _ ?_) (Tr.pure' _)
  rw [if_neg (by omega)]
  refine Tr.mono (n := 1 + (14 * kvs.length + 0)) ?_ (by omega)
  refine Tr.bq (n := 1) (a := ()) (s2 := ⟨T.ins N (dictO [] 0), N + 1, life, gens, drawn, toks, os⟩) (Tr.rule (Tr.pure _)) ?_
  have h := tr_long_loop (w := w) (N := N + 1) (life := life) (gens := gens) (drawn := drawn) (os := os) (P := P)
    (fun (x : Sem Value × Sem Value) (u : PUnit) => (do let kv ← x.1; let vv ← holding [kv] x.2; let _ ← holding [kv, vv] (dictSet N kv vv); pure (.yield ⟨⟩))) N (fun _ _ => rfl) blt_succ hb its kvs [] 0 toks (T.ins N (dictO [] 0)) hF hk (fun e he => by cases he) (by simpa using hz) (bt_ins_self (hg _))
  rw [bt_set_ins_const _ _ _ _ (hg _), List.nil_append, Nat.zero_add] at h
  exact Tr.bq (a := PUnit.unit) h (Tr.pure' _)
noncomputable def pairsOf (d : Nat) : Nat → List (Int × Str) → List (Value × Value)
  | _, [] => []
  | t, kv :: r => (.int kv.1 t, .str kv.2 (t + 1)) :: pairsOf d (t + d) r
theorem tr_evalPairs {its : List (Sem Value × Sem Value)} {kvs : List (Int × Str)} (hF : All2 (KV w P) its kvs) : ∀ {toks : Nat}, Tr w (evalPairs its) ⟨T, N, life, gens, drawn, toks, os⟩ P (3 * kvs.length) (pairsOf 2 toks kvs) ⟨T, N, life, gens, drawn, toks + 2 * kvs.length, os⟩ P := by
  induction hF with
  | nil => intro toks; exact Tr.pure' _
  | @cons x kv items kvs hx hF ih =>
    intro toks
    unfold evalPairs
    have hlen : (kv :: kvs).length = kvs.length + 1 := rfl
    refine Tr.mono (n := 1 + (2 + (3 * kvs.length + 0))) ?_ (by rw [hlen]; omega)
    refine Tr.bq (hx.1 T N life gens drawn toks os) ?_
    refine Tr.bq (Tr.holding _ (hx.2 T N life gens drawn (toks + 1) os)) ?_
    have et : toks + 2 + 2 * kvs.length = toks + 2 * (kv :: kvs).length := by rw [hlen]; omega
    rw [← et]
    exact Tr.bq (Tr.holding _ (ih (toks := toks + 2))) (Tr.pure' _)
theorem tr_short_loop (f : (Value × Value) → PUnit → Sem (ForInStep PUnit)) (d : Addr)
    (hf : ∀ k v u, f (k, v) u = (do let _ ← dictSet d k v; pure (.yield ⟨⟩)))
    (hn : Nat.blt d N = true) (hb : 11 ≤ d) : ∀ (kvs : List (Int × Str)) (es : List DictEntry) (ep t toks : Nat) (T : BT), Keys kvs → (∀ e ∈ es, ∀ kv ∈ kvs, e.hash ≠ kv.1) → es.length + kvs.length ≤ 5000 → T.get d = some (dictO es ep) →
      Tr w (forIn (pairsOf 2 t kvs) PUnit.unit f) ⟨T, N, life, gens, drawn, toks, os⟩ P (11 * kvs.length) PUnit.unit ⟨T.set d (fun _ => dictO (es ++ ents t 2 kvs) (ep + kvs.length)), N, life, gens, drawn, toks + kvs.length, os⟩ P
  | [], es, ep, t, toks, T, _, _, _, ho => by
    have e : T.set d (fun _ => dictO (es ++ ents t 2 []) (ep + ([] : List (Int × Str)).length)) = T := by
      show T.set d (fun _ => dictO (es ++ []) (ep + 0)) = T
      rw [List.append_nil, Nat.add_zero]
      exact (bt_set_const id T d ho).symm.trans (bt_set_id T d)
    rw [e]
    exact Tr.pure' _
  | kv :: kvs, es, ep, t, toks, T, hk, hno, hz, ho => by
    have hk0 := hk.1 kv (.head _)
    have hkt : Keys kvs := ⟨fun a ha => hk.1 a (.tail _ ha), (List.nodup_cons.mp hk.2).2⟩
    have hnin : ∀ a ∈ kvs, kv.1 ≠ a.1 := fun a ha e => (List.nodup_cons.mp hk.2).1 (by show kv.1 ∈ _; rw [e]; exact List.mem_map_of_mem ha)
    have hz' : es.length + (kvs.length + 1) ≤ 5000 := hz
    have hlen : (kv :: kvs).length = kvs.length + 1 := rfl
    have s3 : Tr w (dictSet d (.int kv.1 t) (.str kv.2 (t + 1))) ⟨T, N, life, gens, drawn, toks, os⟩ P 11 () ⟨T.set d (Obj.mapDictKeys (·.push ⟨hashInt kv.1, .int kv.1 t, .str kv.2 (t + 1)⟩)), N, life, gens, drawn, toks + 1, os⟩ P :=
      tr_dictSet hn hb ho (by omega) (fun e he => by rw [hk0]; exact hno e he kv (.head _))
    rw [hk0] at s3
    have g := get_set_same (Obj.mapDictKeys (·.push ⟨kv.1, .int kv.1 t, .str kv.2 (t + 1)⟩)) ho
    rw [push_dict] at g
    have s4 := tr_short_loop f d hf hn hb kvs (es ++ [⟨kv.1, .int kv.1 t, .str kv.2 (t + 1)⟩]) (ep + 1) (t + 2) (toks + 1) _ hkt (fun e he a ha => by
      rcases List.mem_append.mp he with he | he
      · exact hno e he a (.tail _ ha)
      · simp only [List.mem_singleton] at he; subst he; exact hnin a ha) (by simp only [List.length_append, List.length_cons, List.length_nil]; omega) g
    refine Tr.mono (m := 11 * (kv :: kvs).length) (n := (11 + 0) + 11 * kvs.length) ?_ (by rw [hlen]; omega)
    have eT : (T.set d (Obj.mapDictKeys (·.push ⟨kv.1, .int kv.1 t, .str kv.2 (t + 1)⟩))).set d (fun _ => dictO ((es ++ [⟨kv.1, .int kv.1 t, .str kv.2 (t + 1)⟩]) ++ ents (t + 2) 2 kvs) (ep + 1 + kvs.length)) =
        T.set d (fun _ => dictO (es ++ ents t 2 (kv :: kvs)) (ep + (kv :: kvs).length)) := by
      rw [bt_set_set, List.append_assoc, hlen, Nat.add_assoc, Nat.add_comm 1]
      rfl
    have et : toks + 1 + kvs.length = toks + (kv :: kvs).length := by rw [hlen]; omega
    rw [eT, et] at s4
    have ep : pairsOf 2 t (kv :: kvs) = (.int kv.1 t, .str kv.2 (t + 1)) :: pairsOf 2 (t + 2) kvs := rfl
    rw [ep, List.forIn_cons, hf]
    exact Tr.bq (Tr.bq s3 (Tr.pure' (ForInStep.yield PUnit.unit))) s4
theorem tr_subDict_short {its : List (Sem Value × Sem Value)} {kvs : List (Int × Str)} (hF : All2 (KV w P) its kvs) (hk : Keys kvs) (hl : its.length ≤ 15) (hz : kvs.length ≤ 5000) (hb : 11 ≤ N) (hg : ∀ o, ((T.ins N o).get N).isSome = true) :
    Tr w (subDict its) ⟨T, N, life, gens, drawn, toks, os⟩ P (14 * kvs.length + 2) N ⟨T.ins N (dictO (ents toks 2 kvs) kvs.length), N + 1, life, gens, drawn, toks + 3 * kvs.length, os⟩ P := by
  unfold subDict
  refine Tr.mono (n := 1 + (14 * kvs.length + 1)) ?_ (by omega)
  refine Tr.bq (n := 1) (a := N) (s2 := ⟨T.ins N (dictO [] 0), N + 1, life, gens, drawn, toks, os⟩) (Tr.alloc (hg _) (Tr.pure N)) ?_
  refine Tr.mono (n := (3 * kvs.length + (11 * kvs.length + 0)) + 0) ?_ (by omega)
  refine Tr.bq (a := ()) (Tr.holding _ ?_) (Tr.pure' _)
  rw [if_pos hl]
  refine Tr.bq (tr_evalPairs hF) (Tr.holding _ ?_)
  have h := tr_short_loop (w := w) (N := N + 1) (life := life) (gens := gens) (drawn := drawn) (os := os) (P := P)
    (fun (x : Value × Value) (u : PUnit) => (match x with | (k, v) => do let _ ← dictSet N k v; pure (.yield ⟨⟩))) N (fun _ _ _ => rfl) blt_succ hb kvs [] 0 toks (toks + 2 * kvs.length) (T.ins N (dictO [] 0)) hk (fun e he => by cases he) (by simpa using hz) (bt_ins_self (hg _))
  rw [bt_set_ins_const _ _ _ _ (hg _), List.nil_append, Nat.zero_add] at h
  have et : toks + 2 * kvs.length + kvs.length = toks + 3 * kvs.length := by omega
  rw [et] at h
  exact Tr.bq (a := PUnit.unit) h (Tr.pure' _)
end
end Mine

open PySem PySem.W PySem.Calls PyProof.Rows
set_option Elab.async false
set_option maxRecDepth 1000000
set_option maxHeartbeats 0
set_option linter.unusedVariables false
namespace Mine
/-- every place below N is filled -/
noncomputable def FullT (T : BT) (N : Nat) : Prop := ∀ i, i < N → (T.get i).isSome = true
theorem full_ins_get (o : Obj) : ∀ (T : BT) (N : Nat), FullT T N → ((T.ins N o).get N).isSome = true
  | .nil, N, h => by
    have h0 : N = 0 := by
      rcases Nat.eq_zero_or_pos N with h0 | h0
      · exact h0
      · have := h 0 h0; simp [BT.get] at this
    subst h0
    rfl
  | .node v l r, N, h => by
    rw [BT.ins_node]
    by_cases h0 : N = 0
    · simp only [h0, if_true]; rw [BT.get_node]; simp
    · by_cases p : N % 2 = 1
      · simp only [h0, p, if_true, if_false]
        rw [BT.get_node]; simp only [h0, p, if_true, if_false]
        refine full_ins_get o l _ (fun i hi => ?_)
        have h1 := h (2 * i + 1) (by omega)
        rw [BT.get_node, if_neg (by omega), if_pos (by omega)] at h1
        have e : (2 * i + 1) / 2 = i := by omega
        rwa [e] at h1
      · simp only [h0, p, if_false]
        rw [BT.get_node]; simp only [h0, p, if_false]
        refine full_ins_get o r _ (fun i hi => ?_)
        have h1 := h (2 * i + 2) (by omega)
        rw [BT.get_node, if_neg (by omega), if_neg (by omega)] at h1
        have e : (2 * i + 2) / 2 - 1 = i := by omega
        rwa [e] at h1
theorem FullT.ins {T : BT} {N : Nat} (h : FullT T N) (o : Obj) : FullT (T.ins N o) (N + 1) := fun i hi => by
  rw [BT.get_ins o T N (full_ins_get o T N h)]
  by_cases e : i = N
  · simp [e]
  · rw [if_neg e]; exact h i (by omega)
theorem FullT.set {T : BT} {N : Nat} (h : FullT T N) (d : Nat) (f : Obj → Obj) : FullT (T.set d f) N := fun i hi => by
  rw [BT.get_set]
  by_cases e : i = d
  · rw [if_pos e, Option.isSome_map]; subst e; exact h i hi
  · rw [if_neg e]; exact h i hi
noncomputable abbrev SV := Sem Value × Sem Value
noncomputable def sm (p : SV) : Option (Sem Value) × Sem Value := (some p.1, p.2)
noncomputable def fl (run : List SV) (main : Option Addr) : Sem (Option Addr) :=
  if run.isEmpty = true then pure main else match main with
    | none => do return some (← subDict run)
    | some d => do
      let sub ← holding [.ref d] (subDict run)
      (holding [.ref d, .ref sub] (mergeMapping d (.ref sub) false)).onRaise fun x => do let _ ← holding [.ref d, x] (runValue (.builtin "proto.let_go" {}))
      return some d
noncomputable def subE (t : Nat) (c : List (Int × Str)) : List DictEntry := ents t (if c.length ≤ 15 then 2 else 3) c
theorem ents_map (d : Nat) : ∀ (kvs : List (Int × Str)) (t : Nat), (ents t d kvs).map (·.hash) = kvs.map (·.1)
  | [], _ => rfl
  | kv :: r, t => by show kv.1 :: (ents (t + d) d r).map _ = _; rw [ents_map d r]; rfl
theorem ents_int (d : Nat) : ∀ (kvs : List (Int × Str)) (t : Nat), ∀ e ∈ ents t d kvs, IntKey e
  | [], _, e, h => by cases h
  | kv :: r, t, e, h => by
    rcases List.mem_cons.mp h with rfl | h
    · exact ⟨_, _, rfl⟩
    · exact ents_int d r _ e h
noncomputable def dT (d : Addr) : BT → Nat → Nat → List DictEntry → List (List (Int × Str)) → BT
  | T, _, _, _, [] => T
  | T, N, t, es, c :: cs => dT d ((T.ins N (dictO (subE t c) c.length)).set d (fun _ => dictO (es ++ subE t c) (es.length + c.length))) (N + 1) (t + 3 * c.length) (es ++ subE t c) cs
section
variable {w : World} {T : BT} {N : Nat} {life : Life} {gens : Array GenState} {drawn : Drawn} {toks : Nat} {os : OsState} {s1 s2 s3 : SharedT} {q q1 q2 P : Pos}
theorem tr_subDict {its : List SV} {kvs : List (Int × Str)} (hF : All2 (KV w P) its kvs) (hk : Keys kvs) (hz : kvs.length ≤ 5000) (hb : 11 ≤ N) (hf : FullT T N) :
    Tr w (subDict its) ⟨T, N, life, gens, drawn, toks, os⟩ P (14 * kvs.length + 2) N ⟨T.ins N (dictO (subE toks kvs) kvs.length), N + 1, life, gens, drawn, toks + 3 * kvs.length, os⟩ P := by
  have hl := hF.length
  unfold subE
  by_cases h : kvs.length ≤ 15
  · rw [if_pos h]; exact tr_subDict_short hF hk (by omega) hz hb (fun o => full_ins_get o T N hf)
  · rw [if_neg h]; exact tr_subDict_long hF hk (by omega) hz hb (fun o => full_ins_get o T N hf)
theorem keys_of {es : List DictEntry} {c r : List (Int × Str)} (hn : (es.map (·.hash) ++ (c ++ r).map (·.1)).Nodup) (hh : ∀ kv ∈ c ++ r, hashInt kv.1 = kv.1) : Keys c ∧ (∀ e ∈ es, ∀ kv ∈ c, e.hash ≠ kv.1) := by
  rw [List.map_append, List.nodup_append] at hn
  obtain ⟨_, h2, h3⟩ := hn
  rw [List.nodup_append] at h2
  refine ⟨⟨fun kv h => hh kv (List.mem_append_left _ h), h2.1⟩, fun e he kv hkv => ?_⟩
  exact h3 _ (List.mem_map_of_mem he) _ (List.mem_append_left _ (List.mem_map_of_mem hkv))
theorem tr_fl {d : Nat} {its : List SV} {c : List (Int × Str)} {es : List DictEntry} (hF : All2 (KV w P) its c) (hc : c ≠ []) (hk : Keys c) (hno : ∀ e ∈ es, ∀ kv ∈ c, e.hash ≠ kv.1) (hz : es.length + c.length ≤ 5000)
    (hd : d < N) (hb : 11 ≤ d) (hf : FullT T N) (ho : T.get d = some (dictO es es.length)) (hne : es ≠ []) :
    Tr w (fl its (some d)) ⟨T, N, life, gens, drawn, toks, os⟩ P (20 * c.length + 7) (some d) ⟨(T.ins N (dictO (subE toks c) c.length)).set d (fun _ => dictO (es ++ subE toks c) (es.length + c.length)), N + 1, life, gens, drawn, toks + 3 * c.length, os⟩ P := by
  have hl := hF.length
  unfold fl
  rw [if_neg (by cases its with | nil => exact absurd (List.eq_nil_of_length_eq_zero hl.symm) hc | cons a b => simp)]
  dsimp only
  have hsl : (subE toks c).length = c.length := ents_length _ _ _
  have hgN := bt_ins_self (full_ins_get (dictO (subE toks c) c.length) T N hf)
  have hgd : (T.ins N (dictO (subE toks c) c.length)).get d = some (dictO es es.length) := by rw [BT.get_ins _ T N (full_ins_get _ T N hf), if_neg (by omega)]; exact ho
  have hNd : N ≠ d := by omega
  have hm := tr_merge (w := w) (T := T.ins N (dictO (subE toks c) c.length)) (N := N + 1) (life := life) (gens := gens) (drawn := drawn) (toks := toks + 3 * c.length) (os := os) (P := P) (d := d) (sub := N) (es := es) (ss := subE toks c) (ep := es.length) (eq := c.length) hNd (by simp; omega) blt_succ hb
    (by
      have : N ≠ sysModules := by show N ≠ 1; omega
      simpa using this) hgN hgd hne (ents_int _ _ _) (by unfold subE; rw [ents_map]; exact hk.2) (fun e he x hx => by
        obtain ⟨kv, hm, e1, _⟩ := ents_hash (t := if c.length ≤ 15 then 2 else 3) he
        rw [e1]; exact hno x hx kv hm) (by rw [hsl]; exact hz)
  rw [hsl] at hm
  refine Tr.mono (n := (14 * c.length + 2) + ((6 * c.length + 5) + 0)) ?_ (by omega)
  refine Tr.bq (Tr.holding _ (tr_subDict hF hk (by omega) (by omega) hf)) ?_
  refine Tr.bq (Tr.onRaise _ (Tr.holding _ hm)) ?_
  exact Tr.pure' _
/-- the display's loop over pairs that fill no piece -/
theorem skip_run (f : Option (Sem Value) × Sem Value → Option Addr × List SV → Sem (ForInStep (Option Addr × List SV)))
    (hf : ∀ k v s, f (some k, v) s = if ((s.2 ++ [(k, v)]).length == 17) = true then (do let main ← fl (s.2 ++ [(k, v)]) s.1; pure (.yield (main, []))) else pure (.yield (s.1, s.2 ++ [(k, v)])))
    (m : Option Addr) (rest : List (Option (Sem Value) × Sem Value)) : ∀ (c run : List SV), run.length + c.length < 17 → forIn (c.map sm ++ rest) (m, run) f = forIn rest (m, run ++ c) f
  | [], run, _ => by rw [List.append_nil]; rfl
  | p :: c, run, h => by
    have h' : run.length + (c.length + 1) < 17 := h
    show forIn ((some p.1, p.2) :: (c.map sm ++ rest)) (m, run) f = _
    rw [List.forIn_cons, hf, if_neg (by
      have : (run ++ [(p.1, p.2)]).length = run.length + 1 := by simp
      simp only [this, beq_iff_eq]; omega)]
    show forIn (c.map sm ++ rest) (m, run ++ [p]) f = _
    rw [skip_run f hf m rest c (run ++ [p]) (by simp only [List.length_append, List.length_cons, List.length_nil]; omega), List.append_assoc]
    rfl
theorem tr_piece (f : Option (Sem Value) × Sem Value → Option Addr × List SV → Sem (ForInStep (Option Addr × List SV)))
    (hf : ∀ k v s, f (some k, v) s = if ((s.2 ++ [(k, v)]).length == 17) = true then (do let main ← fl (s.2 ++ [(k, v)]) s.1; pure (.yield (main, []))) else pure (.yield (s.1, s.2 ++ [(k, v)])))
    {m m' : Option Addr} {rest : List (Option (Sem Value) × Sem Value)} {c : List SV} (hc : c.length = 17) {n n' : Nat} {γ : Type} {g : Option Addr × List SV → Sem γ} {b : γ} (h1 : Tr w (fl c m) s1 P n m' s2 P) (h2 : Tr w (forIn rest (m', []) f >>= g) s2 P n' b s3 P) :
    Tr w (forIn (c.map sm ++ rest) (m, []) f >>= g) s1 P (n + n') b s3 P := by
  rcases List.eq_nil_or_concat c with rfl | ⟨c0, p, rfl⟩
  · cases hc
  · rw [List.concat_eq_append] at hc h1 ⊢
    rw [List.length_append] at hc
    have hc0 : c0.length = 16 := by simpa using hc
    rw [List.map_append, List.append_assoc, skip_run f hf m _ c0 [] (by simp [hc0]), List.nil_append]
    show Tr w (forIn ((some p.1, p.2) :: rest) (m, c0) f >>= g) _ _ _ _ _ _
    rw [List.forIn_cons, hf, if_pos (by simp [hc0])]
    rw [bind_assoc, bind_assoc]
    refine Tr.bq h1 ?_
    exact h2
theorem tr_disp_loop (f : Option (Sem Value) × Sem Value → Option Addr × List SV → Sem (ForInStep (Option Addr × List SV)))
    (hf : ∀ k v s, f (some k, v) s = if ((s.2 ++ [(k, v)]).length == 17) = true then (do let main ← fl (s.2 ++ [(k, v)]) s.1; pure (.yield (main, []))) else pure (.yield (s.1, s.2 ++ [(k, v)])))
    (d : Nat) (hb : 11 ≤ d) (rest : List SV) (kr : List (Int × Str)) (hr : All2 (KV w P) rest kr) (hr0 : kr ≠ []) (hr17 : kr.length < 17) :
    ∀ (css : List (List SV)) (kss : List (List (Int × Str))) (T : BT) (N toks : Nat) (es : List DictEntry), All2 (All2 (KV w P)) css kss → (∀ c ∈ kss, c.length = 17) → d < N → FullT T N → T.get d = some (dictO es es.length) → es ≠ [] →
      (es.map (·.hash) ++ (kss.flatten ++ kr).map (·.1)).Nodup → (∀ kv ∈ kss.flatten ++ kr, hashInt kv.1 = kv.1) → es.length + (kss.flatten ++ kr).length ≤ 5000 →
      Tr w ((forIn ((css.flatten ++ rest).map sm) ((some d, []) : Option Addr × List SV) f : Sem (Option Addr × List SV)) >>= fun (s : Option Addr × List SV) => fl s.2 s.1) ⟨T, N, life, gens, drawn, toks, os⟩ P (400 * (kss.length + 1)) (some d) ⟨dT d T N toks es (kss ++ [kr]), N + (kss.length + 1), life, gens, drawn, toks + 3 * (kss.flatten ++ kr).length, os⟩ P
  | [], [], T, N, toks, es, _, _, hd, hF, ho, hne, hn, hh, hz => by
    have hn' : (es.map (·.hash) ++ (kr ++ []).map (fun kv : Int × Str => kv.1)).Nodup := by rw [List.append_nil]; exact hn
    have hk := keys_of hn' (fun kv h => by rw [List.append_nil] at h; exact hh kv h)
    have e : ((([] : List (List SV)).flatten ++ rest).map sm) = rest.map sm ++ [] := by rw [List.append_nil]; rfl
    rw [e, skip_run f hf (some d) [] rest [] (by simp [hr.length, hr17])]
    refine Tr.mono (n := 0 + (20 * kr.length + 7)) ?_ (by simp only [List.length_nil]; omega)
    refine Tr.bq (a := (some d, [] ++ rest)) (Tr.pure' _) ?_
    exact tr_fl hr hr0 hk.1 hk.2 hz hd hb hF ho hne
  | c :: css, k :: kss, T, N, toks, es, hA, hl, hd, hF, ho, hne, hn, hh, hz => by
    cases hA with
    | cons hA0 hA1 =>
    have hk17 : k.length = 17 := hl k (.head _)
    have ef : ((k :: kss).flatten ++ kr) = k ++ (kss.flatten ++ kr) := by rw [List.flatten_cons, List.append_assoc]
    rw [ef] at hn hh hz ⊢
    have hk := keys_of hn hh
    have hk0 : k ≠ [] := by intro e; rw [e] at hk17; cases hk17
    rw [List.length_append] at hz
    have h1 := tr_fl (w := w) (N := N) (life := life) (gens := gens) (drawn := drawn) (toks := toks) (os := os) hA0 hk0 hk.1 hk.2 (by omega) hd hb hF ho hne
    have hsl : (subE toks k).length = k.length := ents_length _ _ _
    have hg1 : (T.ins N (dictO (subE toks k) k.length)).get d = some (dictO es es.length) := by rw [BT.get_ins _ T N (full_ins_get _ T N hF), if_neg (by omega)]; exact ho
    have hg2 := get_set_same (fun _ => dictO (es ++ subE toks k) (es.length + k.length)) hg1
    have el : es.length + k.length = (es ++ subE toks k).length := by rw [List.length_append, hsl]
    have hes : (subE toks k).map (·.hash) = k.map (·.1) := by unfold subE; exact ents_map _ _ _
    have h2 := tr_disp_loop f hf d hb rest kr hr hr0 hr17 css kss ((T.ins N (dictO (subE toks k) k.length)).set d (fun _ => dictO (es ++ subE toks k) (es.length + k.length))) (N + 1) (toks + 3 * k.length) (es ++ subE toks k) hA1 (fun c h => hl c (.tail _ h)) (by omega) ((hF.ins _).set _ _)
      (by rw [el] at hg2; rw [el]; exact hg2) (by simp [hne]) (by rw [List.map_append, hes, List.append_assoc, ← List.map_append]; exact hn) (fun kv h => hh kv (List.mem_append_right _ h)) (by rw [List.length_append, hsl]; rw [List.length_append] at hz ⊢; omega)
    have ec : ((c :: css).flatten ++ rest).map sm = c.map sm ++ (css.flatten ++ rest).map sm := by rw [List.flatten_cons, List.append_assoc, List.map_append]
    rw [ec]
    have eN : N + 1 + (kss.length + 1) = N + ((k :: kss).length + 1) := by rw [List.length_cons]; omega
    have et : toks + 3 * k.length + 3 * (kss.flatten ++ kr).length = toks + 3 * (k ++ (kss.flatten ++ kr)).length := by rw [List.length_append (as := k)]; omega
    rw [eN, et] at h2
    have c17 : c.length = 17 := by rw [hA0.length]; exact hk17
    refine Tr.mono (n := (20 * k.length + 7) + 400 * (kss.length + 1)) ?_ (by rw [List.length_cons]; omega)
    exact tr_piece f hf c17 h1 h2
end
end Mine

open PySem PySem.W PySem.Calls PyProof.Rows
set_option Elab.async false
set_option maxRecDepth 1000000
set_option maxHeartbeats 0
set_option linter.unusedVariables false
namespace Mine
section
variable {w : World} {T : BT} {N : Nat} {life : Life} {gens : Array GenState} {drawn : Drawn} {toks : Nat} {os : OsState} {s1 s2 s3 : SharedT} {q q1 q2 P : Pos}
theorem tr_display (c0 : List SV) (css : List (List SV)) (rest : List SV) (k0 : List (Int × Str)) (kss : List (List (Int × Str))) (kr : List (Int × Str))
    (h0 : All2 (KV w P) c0 k0) (hA : All2 (All2 (KV w P)) css kss) (hr : All2 (KV w P) rest kr) (hk0 : k0.length = 17) (hl : ∀ c ∈ kss, c.length = 17) (hr0 : kr ≠ []) (hr17 : kr.length < 17)
    (hb : 11 ≤ N) (hF : FullT T N) (hn : ((k0 ++ (kss.flatten ++ kr)).map (fun kv : Int × Str => kv.1)).Nodup) (hh : ∀ kv ∈ k0 ++ (kss.flatten ++ kr), hashInt kv.1 = kv.1) (hz : 17 + (kss.flatten ++ kr).length ≤ 5000) :
    Tr w (dictDisplay ((c0 ++ (css.flatten ++ rest)).map sm)) ⟨T, N, life, gens, drawn, toks, os⟩ P (400 * (kss.length + 2)) (.ref N)
      ⟨dT N (T.ins N (dictO (subE toks k0) 17)) (N + 1) (toks + 51) (subE toks k0) (kss ++ [kr]), N + 1 + (kss.length + 1), life, gens, drawn, toks + 51 + 3 * (kss.flatten ++ kr).length, os⟩ P := by
  have hsl : (subE toks k0).length = 17 := (ents_length _ _ _).trans hk0
  have hne : subE toks k0 ≠ [] := by intro e; rw [e] at hsl; cases hsl
  have hkeys := keys_of (es := []) (c := k0) (r := kss.flatten ++ kr) (by simpa using hn) hh
  have hes : (subE toks k0).map (·.hash) = k0.map (·.1) := by unfold subE; exact ents_map _ _ _
  have hg := bt_ins_self (full_ins_get (dictO (subE toks k0) 17) T N hF)
  have e51 : toks + 51 = toks + 3 * k0.length := by rw [hk0]
  unfold dictDisplay
  dsimp only
  refine Tr.mono (n := ((14 * k0.length + 2) + 400 * (kss.length + 1)) + 0) ?_ (by omega)
  rw [← bind_assoc]
  refine Tr.bq (a := some N) (f := fun (r : Option Addr) => (match r with | some d => pure (.ref d) | none => newDict : Sem Value)) ?_ (Tr.pure' _)
  rw [List.map_append]
  refine tr_piece (m' := some N) _ ?_ (h0.length.trans hk0) (g := fun (s : Option Addr × List SV) => fl s.2 s.1) ?_ ?_ (s2 := ⟨T.ins N (dictO (subE toks k0) 17), N + 1, life, gens, drawn, toks + 51, os⟩)
  · intro k v s; rfl
  · unfold fl
    rw [if_neg (by
      have := h0.length.trans hk0
      cases c0 with | nil => cases this | cons a b => simp)]
    dsimp only
    rw [e51, ← hk0]
    exact Tr.mono (n := (14 * k0.length + 2) + 0) (Tr.bq (tr_subDict h0 hkeys.1 (by omega) hb hF) (Tr.pure' _)) (by omega)
  · refine tr_disp_loop _ ?_ N hb rest kr hr hr0 hr17 css kss _ (N + 1) (toks + 51) (subE toks k0) hA hl (Nat.lt_succ_self _) (hF.ins _) (by rw [hsl]; exact hg) hne (by rw [hes, ← List.map_append]; exact hn) (fun kv h => hh kv (List.mem_append_right _ h)) (by rw [hsl]; exact hz)
    intro k v s; rfl
end
end Mine

open PySem PySem.W PySem.Calls PyProof.Rows
set_option Elab.async false
set_option maxRecDepth 1000000
set_option maxHeartbeats 0
set_option linter.unusedVariables false
namespace Mine
noncomputable def iterO (l i : Nat) : Obj := ⟨.type "list_iterator", none, .fields #[.ref l, .int i 0], #[]⟩
noncomputable def listO (xs : Array Value) (n : Nat) : Obj := ⟨.type "list", none, .seq xs n, #[]⟩
noncomputable def kNext (it : Addr) : Obj → Sem PySem.Fin := match tD tT (.call (.builtin "list_iterator.__next__") ⟨[.ref it], []⟩) with
  | .load _ _ k => k
  | _ => fun _ => .unsupported ""
theorem den_call_next (it : Addr) : denote treeTable (.call (.builtin "list_iterator.__next__") ⟨[.ref it], []⟩) = .load it (some headPart) (kNext it) := by
  rw [teD, teT]; kernel_rfl
theorem kNext_iter (it l i : Nat) : kNext it (iterO l i) = .pure (.again (.builtin "list_iterator.__next__" ⟨[.ref it], []⟩)) := by kernel_rfl
theorem den_next (it : Addr) : denote treeTable (.builtin "list_iterator.__next__" ⟨[.ref it], []⟩) = Builtin.«list_iterator.__next__» ⟨[.ref it], []⟩ := by
  show (match entryFor treeTable "list_iterator.__next__" with
    | some b => b ⟨[.ref it], []⟩
    | none => unsupported ((withoutEnding? "list_iterator.__next__" "#data").getD "list_iterator.__next__")) = _
  rw [← table_eq_tree, entry_listiter_next]
section
variable {w : World} {T : BT} {N : Nat} {life : Life} {gens : Array GenState} {drawn : Drawn} {toks : Nat} {os : OsState} {s1 s2 s3 : SharedT} {q q1 q2 P : Pos}
theorem alive_iter (l i : Nat) : alive (iterO l i) = some (iterO l i) := rfl
theorem alive_list (xs : Array Value) (n : Nat) : alive (listO xs n) = some (listO xs n) := rfl
theorem alive_set (es : Array (Int × Value)) (n : Nat) (t : SetTable) : alive (setO es n t) = some (setO es n t) := rfl
theorem tr_next {it l i m : Nat} {xs : Array Value} {x : Value} (hi : Nat.blt it N = true) (hl : Nat.blt l N = true) (hb : 11 ≤ it) (ho : T.get it = some (iterO l i)) (hx : T.get l = some (listO xs m)) (he : xs[i]? = some x) :
    Tr w (pyNext (.ref it)) ⟨T, N, life, gens, drawn, toks, os⟩ P 20 (some x) ⟨T.set it (fun _ => iterO l (i + 1)), N, life, gens, drawn, toks, os⟩ P := by
  have hsp : Tr w (specialOf (.ref it) "__next__") ⟨T, N, life, gens, drawn, toks, os⟩ P 1 (some (.builtin "list_iterator.__next__")) ⟨T, N, life, gens, drawn, toks, os⟩ P := by
    unfold specialOf
    refine Tr.bq (n := 1) (k := 0) (a := .type "list_iterator") (s2 := ⟨T, N, life, gens, drawn, toks, os⟩) ?_ ?_
    · rw [typeOf_ref]; exact Tr.load hi ho (alive_iter _ _) (Tr.pure _)
    · rw [slot_listiter_next.lookup]; exact Tr.pure' _
  have hf : Tr w (fieldsOf (.ref it)) ⟨T, N, life, gens, drawn, toks, os⟩ P 1 #[.ref l, .int i 0] ⟨T, N, life, gens, drawn, toks, os⟩ P := by
    unfold fieldsOf
    exact Tr.bq (n := 1) (k := 0) (tr_load hi ho (alive_iter _ _)) (Tr.pure' _)
  have eU : T.set it (Obj.mapFields (·.setIfInBounds 1 (rawInt ((i : Int) + 1)))) = T.set it (fun _ => iterO l (i + 1)) := by
    rw [bt_set_const _ T it ho]
    rfl
  have c2 : TrC w (.builtin "list_iterator.__next__" ⟨[.ref it], []⟩) ⟨T, N, life, gens, drawn, toks, os⟩ P 6 (.ret x) ⟨T.set it (fun _ => iterO l (i + 1)), N, life, gens, drawn, toks, os⟩ := by
    refine TrC.done (q' := P) ?_
    rw [den_next]
    show Tr w (field (.ref it) 0 >>= _) _ _ _ _ _ _
    refine Tr.mono (n := 1 + (1 + (1 + (2 + 0)))) ?_ (by omega)
    refine Tr.bq (n := 1) (a := .ref l) (s2 := ⟨T, N, life, gens, drawn, toks, os⟩) ?_ ?_
    · unfold field; exact Tr.bq (n := 1) (k := 0) hf (Tr.pure' _)
    show Tr w (if (Value.ref l == Value.none) = true then _ else _) _ _ _ _ _ _
    rw [if_neg (show ¬ ((Value.ref l == Value.none) = true) from Bool.false_ne_true)]
    refine Tr.bq (n := 1) (a := .int i 0) (s2 := ⟨T, N, life, gens, drawn, toks, os⟩) ?_ ?_
    · unfold field; exact Tr.bq (n := 1) (k := 0) hf (Tr.pure' _)
    refine Tr.bq (n := 1) (a := some xs) (s2 := ⟨T, N, life, gens, drawn, toks, os⟩) ?_ ?_
    · unfold seqItems?; exact Tr.bq (n := 1) (k := 0) (tr_load hl hx (alive_list _ _)) (Tr.pure' _)
    simp only [Int.toNat_natCast, he]
    refine Tr.bq (n := 2) (a := ()) (s2 := ⟨T.set it (fun _ => iterO l (i + 1)), N, life, gens, drawn, toks, os⟩) ?_ (Tr.pure' _)
    show Tr w (updateField it 1 _) _ _ _ _ _ _
    unfold updateField
    refine Tr.bq (n := 1) (k := 1) (tr_load hi ho (alive_iter _ _)) ?_
    show Tr w (if _ then _ else _) _ _ _ _ _ _
    rw [if_pos (by simp), ← eU]
    exact tr_update hi hb ho (alive_iter _ _)
  have c1 : TrC w (.call (.builtin "list_iterator.__next__") ⟨[.ref it], []⟩) ⟨T, N, life, gens, drawn, toks, os⟩ P (1 + (6 + 1)) (.ret x) ⟨T.set it (fun _ => iterO l (i + 1)), N, life, gens, drawn, toks, os⟩ := by
    refine TrC.again (q2 := P) (s2 := ⟨T, N, life, gens, drawn, toks, os⟩) ?_ ?_ c2
    · rw [den_call_next]
      refine Tr.load hi ho (alive_iter _ _) ?_
      rw [kNext_iter]
      exact Tr.pure _
    · intro st
      unfold stepOk Thread.calm Thread.atCollectorCode Thread.yieldsInsideHandler
      have : ("list_iterator.__next__").startsWith "lifetime." = false := by decide +kernel
      simp [this]
  have c0 : Tr w (PySem.call (.builtin "list_iterator.__next__") [.ref it]) ⟨T, N, life, gens, drawn, toks, os⟩ P (1 + (1 + (6 + 1)) + 1 + 0) x ⟨T.set it (fun _ => iterO l (i + 1)), N, life, gens, drawn, toks, os⟩ P := by
    unfold PySem.call runValue PySem.run
    have c0 : Tr w (Sem.call (.call (.builtin "list_iterator.__next__") ⟨[.ref it], []⟩) none false [] fun | .ok f => .pure f | .error e => .raise e) ⟨T, N, life, gens, drawn, toks, os⟩ P (1 + (1 + (6 + 1)) + 1 + 0) (Flow.ret x) ⟨T.set it (fun _ => iterO l (i + 1)), N, life, gens, drawn, toks, os⟩ P := Tr.call c1 (Tr.pure _)
    exact Tr.mono (n := 1 + (1 + (6 + 1)) + 1 + 0 + 0) (Tr.bq c0 (Tr.pure' _)) (by omega)
  unfold pyNext
  refine Tr.mono (n := (1 + (1 + (1 + (6 + 1)) + 1 + 0 + 0)) + 0) ?_ (by omega)
  refine Tr.bq (a := .ok (some x)) (s2 := ⟨T.set it (fun _ => iterO l (i + 1)), N, life, gens, drawn, toks, os⟩) ?_ (Tr.pure' _)
  unfold Sem.attempt
  refine Tr.tryCatch _ ?_
  refine Tr.mono (n := (1 + (1 + (1 + (6 + 1)) + 1 + 0 + 0)) + 0) ?_ (by omega)
  refine Tr.bind (a := some x) (q1 := P) (s1 := ⟨T.set it (fun _ => iterO l (i + 1)), N, life, gens, drawn, toks, os⟩) ?_ (Tr.pure _)
  unfold callSpecial?
  refine Tr.bq (n := 1) hsp ?_
  refine Tr.holding _ ?_
  rw [slot_listiter_next.bind]
  refine Tr.skip rfl ?_
  exact Tr.bq (k := 0) c0 (Tr.pure' _)
end
end Mine

open PySem PySem.W PySem.Calls PyProof.Rows
set_option Elab.async false
set_option maxRecDepth 1000000
set_option maxHeartbeats 0
set_option linter.unusedVariables false
namespace Mine
noncomputable def okS (p : SetSt) (h : Int) (x : Value) : Bool := byScan x p.es && p.es.toList.all (fun e => !(e.1 == h)) && !(p.t.place.size != p.es.size || p.t.fill > p.t.mask)
theorem addS_perm (p : SetSt) (h : Int) (x : Value) : List.Perm (addS p h x).es.toList (p.es.push (h, x)).toList := by
  have h1 := layNew_perm p.t p.es h x
  unfold addS
  rcases hl : layNew p.t p.es h x with ⟨es1, t1, wd, gave⟩
  rw [hl] at h1
  dsimp only at h1 ⊢
  split
  · have h2 := relayAll_perm t1 es1 (SetTable.grown es1.size)
    rcases hr : relayAll t1 es1 (SetTable.grown es1.size) with ⟨es2, t2, gave2⟩
    rw [hr] at h2
    exact h2.trans h1
  · exact h1
theorem addS_fits (p : SetSt) (h : Int) (x : Value) : (addS p h x).t.fits (addS p h x).es.size = true := by
  have h1 := layNew_fits p.t p.es h x
  unfold addS
  rcases hl : layNew p.t p.es h x with ⟨es1, t1, wd, gave⟩
  rw [hl] at h1
  dsimp only at h1 ⊢
  split
  · have h2 := relayAll_fits t1 es1 (SetTable.grown es1.size)
    rcases hr : relayAll t1 es1 (SetTable.grown es1.size) with ⟨es2, t2, gave2⟩
    rw [hr] at h2
    exact h2
  · exact h1
section
variable {w : World} {T : BT} {N : Nat} {life : Life} {gens : Array GenState} {drawn : Drawn} {toks : Nat} {os : OsState} {s1 s2 s3 : SharedT} {q q1 q2 P : Pos}
theorem scan_absent (a : Addr) (x : Value) (h : Int) (adding : Bool) : ∀ (l : List (Int × Value)) (i : Nat), l.all (fun e => !(e.1 == h)) = true → setScanFrom a x h adding l i = pure .absent
  | [], _, _ => rfl
  | (h', y) :: r, i, hl => by
    simp only [List.all_cons, Bool.and_eq_true, Bool.not_eq_true'] at hl
    unfold setScanFrom
    rw [if_neg (by rw [hl.1]; exact Bool.false_ne_true)]
    exact scan_absent a x h adding r _ hl.2
theorem tr_setState {a : Addr} {p : SetSt} (hn : Nat.blt a N = true) (ho : T.get a = some p.obj) (hf : (p.t.place.size != p.es.size || decide (p.t.fill > p.t.mask)) = false) :
    Tr w (setState a) ⟨T, N, life, gens, drawn, toks, os⟩ P 1 (p.es, p.n, p.t) ⟨T, N, life, gens, drawn, toks, os⟩ P := by
  unfold setState
  refine Tr.bq (n := 1) (k := 0) (tr_load hn ho (alive_set _ _ _)) ?_
  show Tr w (if _ then _ else _) _ _ _ _ _ _
  rw [if_neg (by rw [hf]; exact Bool.false_ne_true)]
  exact Tr.pure' _
theorem tr_storeSet {a : Addr} {p : SetSt} {es : Array (Int × Value)} {t : SetTable} (hn : Nat.blt a N = true) (hb : 11 ≤ a) (ho : T.get a = some p.obj) (hz : ¬ es.size > sizeLine) :
    Tr w (storeSet a es t) ⟨T, N, life, gens, drawn, toks, os⟩ P 2 () ⟨T.set a (fun _ => setO es (p.n + 1) t), N, life, gens, drawn, toks, os⟩ P := by
  have eU : T.set a (Obj.putSet es t) = T.set a (fun _ => setO es (p.n + 1) t) := by
    rw [bt_set_const _ T a ho]
    rfl
  unfold storeSet
  refine Tr.bq (n := 1) (k := 1) (tr_load hn ho (alive_set _ _ _)) ?_
  show Tr w (if _ then _ else _) _ _ _ _ _ _
  rw [if_neg hz, ← eU]
  exact tr_update hn hb ho (alive_set _ _ _)
theorem tr_setAdd {a : Addr} {p : SetSt} {k : Int} {tk : Tok} (hn : Nat.blt a N = true) (hb : 11 ≤ a) (ho : T.get a = some p.obj) (hok : okS p (hashInt k) (.int k tk) = true) (hz5 : p.es.size ≤ 5000) :
    Tr w (setAdd a (.int k tk)) ⟨T, N, life, gens, drawn, toks, os⟩ P 17 true ⟨T.set a (fun _ => (addS p (hashInt k) (.int k tk)).obj), N, life, gens, drawn, toks + 1, os⟩ P := by
  have hsz1 : ∀ es1 t1 wd gave, layNew p.t p.es (hashInt k) (.int k tk) = (es1, t1, wd, gave) → es1.size = p.es.size + 1 := by
    intro es1 t1 wd gave hl
    have h1 := layNew_perm p.t p.es (hashInt k) (.int k tk)
    rw [hl] at h1
    have := h1.length_eq
    simpa using this
  have hsl : ∀ n, n ≤ 5001 → ¬ n > sizeLine := by intro n hn; unfold sizeLine; omega
  unfold okS at hok
  simp only [Bool.and_eq_true, Bool.not_eq_true'] at hok
  obtain ⟨⟨hscan, habs⟩, hfit⟩ := hok
  have habs' : p.es.toList.all (fun e => !(e.1 == hashInt k)) = true := habs
  unfold setAdd
  refine Tr.holding _ ?_
  refine Tr.mono (n := 6 + 11) ?_ (by omega)
  refine Tr.bq tr_pyHash ?_
  unfold setAddHashed
  refine Tr.holding _ ?_
  show Tr w (setAddHashedIn a (.int k tk) (hashInt k) (99999 + 1)) _ _ _ _ _ _
  rw [setAddHashedIn]
  refine Tr.mono (n := 1 + 10) ?_ (by omega)
  refine Tr.bq (tr_setState hn ho hfit) ?_
  dsimp only
  rw [if_pos hscan]
  refine Tr.mono (n := 10 + 0) ?_ (by omega)
  refine Tr.bq (a := some true) ?_ (Tr.pure' _)
  unfold setAddByScan
  refine Tr.mono (n := 1 + 9) ?_ (by omega)
  refine Tr.bq (n := 1) (a := ()) (Tr.rule (Tr.pure _)) ?_
  refine Tr.skip (a := .absent) (by unfold setScan; exact scan_absent _ _ _ _ _ _ habs') ?_
  dsimp only
  unfold addS
  have hsz2 := hsz1
  rcases hl : layNew p.t p.es (hashInt k) (.int k tk) with ⟨es1, t1, wd, gave⟩
  have e1 := hsz1 _ _ _ _ hl
  have hz : ¬ es1.size > sizeLine := hsl _ (by omega)
  dsimp only
  have gw : ∀ (g : Bool) (T : BT), Tr w (match g with | true => rule "set.scan.the-table-gave-way" | false => Pure.pure ()) ⟨T, N, life, gens, drawn, toks + 1, os⟩ P 1 () ⟨T, N, life, gens, drawn, toks + 1, os⟩ P := by
    intro g T
    cases g
    · exact Tr.mono (Tr.pure' _) (by omega)
    · exact Tr.rule (Tr.pure _)
  refine Tr.mono (n := 1 + 8) ?_ (by omega)
  refine Tr.bq (gw gave _) ?_
  have hjp : ∀ (F : Bool → Sem (Option Bool)), (if t1.plain = true then (hashByValue 8 (Value.int k tk) >>= F) else (Pure.pure true >>= F)) = F true := by
    intro F
    split <;> rfl
  rw [hjp]
  rw [if_pos rfl]
  split
  next hfull =>
    have h2p := relayAll_perm t1 es1 (SetTable.grown es1.size)
    have g := get_set_same (fun _ => setO es1 (p.n + 1) t1) ho
    refine Tr.mono (n := 2 + (1 + (2 + 0))) ?_ (by omega)
    refine Tr.bq (tr_storeSet hn hb ho hz) ?_
    rcases hr : relayAll t1 es1 (SetTable.grown es1.size) with ⟨es2, t2, gave2⟩
    rw [hr] at h2p
    have e2 : es2.size = es1.size := by simpa using h2p.length_eq
    have hz2 : ¬ es2.size > sizeLine := hsl _ (by omega)
    dsimp only
    refine Tr.bq (gw gave2 _) ?_
    have h2 := tr_storeSet (w := w) (N := N) (life := life) (gens := gens) (drawn := drawn) (toks := toks + 1) (os := os) (P := P) (p := ⟨es1, p.n + 1, t1⟩) (es := es2) (t := t2) hn hb g hz2
    rw [bt_set_set] at h2
    exact Tr.bq h2 (Tr.pure' _)
  next hfull =>
    refine Tr.mono (n := 2 + 0) ?_ (by omega)
    refine Tr.bq (tr_storeSet hn hb ho hz) ?_
    exact Tr.pure' _
end
end Mine

open PySem PySem.W PySem.Calls PyProof.Rows
set_option Elab.async false
set_option maxRecDepth 1000000
set_option maxHeartbeats 0
set_option linter.unusedVariables false
namespace Mine
noncomputable def aTargets : Stmt → List Expr
  | .Assign t _ _ => t
  | _ => []
noncomputable def aValue : Stmt → Expr
  | .Assign _ v _ => v
  | _ => .Dict [] [] ⟨0, 0, 0, 0⟩
noncomputable def aPos : Stmt → Pos
  | .Assign _ _ p => p
  | _ => p0
noncomputable def dKeys : Expr → List (Option Expr)
  | .Dict k _ _ => k
  | _ => []
noncomputable def dVals : Expr → List Expr
  | .Dict _ v _ => v
  | _ => []
noncomputable def dPos : Expr → Pos
  | .Dict _ _ p => p
  | _ => p0
noncomputable abbrev t8 : Stmt := nthS tops 8
noncomputable abbrev P8 : Pos := dPos (aValue t8)
theorem tops8 : (tops.drop 8).take 1 = [.Assign (aTargets t8) (.Dict (dKeys (aValue t8)) (dVals (aValue t8)) P8) (aPos t8)] := by kernel_rfl
noncomputable def itK (P : Pos) (kv : Int × Str) : SV := (mkInt kv.1, do let x ← mkText kv.2; standAt P; pure x)
theorem kv_itK {w : World} (P : Pos) (kv : Int × Str) : KV w P (itK P kv) kv :=
  ⟨fun _ _ _ _ _ _ _ => Tr.fresh (Tr.pure _), fun T N life gens drawn toks os => Tr.fresh (Tr.at (Tr.pure _))⟩
theorem all_itK {w : World} (P : Pos) : ∀ l : List (Int × Str), All2 (KV w P) (l.map (itK P)) l
  | [] => .nil
  | kv :: l => .cons (kv_itK P kv) (all_itK P l)
theorem all_all_itK {w : World} (P : Pos) : ∀ l : List (List (Int × Str)), All2 (All2 (KV w P)) (l.map (List.map (itK P))) l
  | [] => .nil
  | k :: l => .cons (all_itK P k) (all_all_itK P l)
theorem items8 : ((evalEachOpt (dKeys (aValue t8)) envT).zip ((evalEach (dVals (aValue t8)) envT).map fun v => (do let x ← v; standAt P8; pure x : Sem Value))) = (b3KV.map (itK P8)).map sm := by kernel_rfl
noncomputable def k0 : List (Int × Str) := b3KV.take 17
noncomputable def kss : List (List (Int × Str)) := (List.range 37).map fun j => (b3KV.drop (17 * (j + 1))).take 17
noncomputable def kr : List (Int × Str) := b3KV.drop 646
theorem b3_split : b3KV = k0 ++ (kss.flatten ++ kr) := by kernel_rfl
theorem k0_len : k0.length = 17 := by kernel_rfl
theorem kss_len : ∀ c ∈ kss, c.length = 17 := by
  have : kss.all (fun c => c.length == 17) = true := by kernel_rfl
  intro c hc
  have := List.all_eq_true.mp this c hc
  simpa using this
noncomputable def incr : Int → List (Int × Str) → Bool
  | _, [] => true
  | a, kv :: r => decide (a < kv.1) && incr kv.1 r
theorem incr_lt : ∀ (l : List (Int × Str)) (a : Int), incr a l = true → ∀ kv ∈ l, a < kv.1
  | [], _, _, _, h => by cases h
  | kv :: r, a, h, x, hx => by
    simp only [incr, Bool.and_eq_true, decide_eq_true_eq] at h
    rcases List.mem_cons.mp hx with rfl | hx
    · exact h.1
    · exact Int.lt_trans h.1 (incr_lt r _ h.2 x hx)
theorem incr_nodup : ∀ (l : List (Int × Str)) (a : Int), incr a l = true → (l.map (fun kv : Int × Str => kv.1)).Nodup
  | [], _, _ => List.nodup_nil
  | kv :: r, a, h => by
    simp only [incr, Bool.and_eq_true, decide_eq_true_eq] at h
    rw [List.map_cons, List.nodup_cons]
    refine ⟨fun hm => ?_, incr_nodup r _ h.2⟩
    obtain ⟨x, hx, e⟩ := List.mem_map.mp hm
    have := incr_lt r _ h.2 x hx
    omega
theorem b3_incr : incr 0 b3KV = true := by kernel_rfl
noncomputable def tr8x (P : Params) : BT := (tr8 P).set 3 (fun _ => o3_7 P)
theorem full7 (P : Params) : FullT (tr7 P) 89 := by
  have h : (List.range 89).all (fun i => ((tr7 P).get i).isSome) = true := by kernel_rfl
  intro i hi
  exact List.all_eq_true.mp h i (List.mem_range.mpr hi)
theorem dT8 (P : Params) : dT 89 ((tr7 P).ins 89 (dictO (subE 334 k0) 17)) 90 385 (subE 334 k0) (kss ++ [kr]) = tr8x P := by kernel_rfl
theorem b3_hash : ∀ kv ∈ b3KV, hashInt kv.1 = kv.1 := by
  have : b3KV.all (fun kv => decide (hashInt kv.1 = kv.1)) = true := by kernel_rfl
  intro kv hkv
  have := List.all_eq_true.mp this kv hkv
  simpa using this
end Mine

open PySem PySem.W PySem.Calls PyProof.Rows
set_option Elab.async false
set_option maxRecDepth 1000000
set_option maxHeartbeats 0
set_option linter.unusedVariables false
namespace Mine
noncomputable abbrev S8 : Stmt := .Assign (aTargets t8) (.Dict (dKeys (aValue t8)) (dVals (aValue t8)) P8) (aPos t8)
noncomputable abbrev items8' : List (Option (Sem Value) × Sem Value) := (evalEachOpt (dKeys (aValue t8)) envT).zip ((evalEach (dVals (aValue t8)) envT).map fun v => do let x ← v; standAt P8; pure x)
noncomputable def asg8 (v : Value) : Sem Flow := assignStores envT v none ((assignEach (aTargets t8) envT).map (·.2))
noncomputable def kk8 (f : Flow) : Sem Flow := match f with
  | .next => execs [] envT
  | f => pure f
theorem swaps8 : swapsWithSole (aTargets t8) (.Dict (dKeys (aValue t8)) (dVals (aValue t8)) P8) (aPos t8).line envT = pure false := by kernel_rfl
theorem swapped8 : swappedStores (aTargets t8) (.Dict (dKeys (aValue t8)) (dVals (aValue t8)) P8) envT = pure none := by kernel_rfl
theorem eval8 : eval (.Dict (dKeys (aValue t8)) (dVals (aValue t8)) P8) envT = .at P8 fun _ => dictDisplay items8' := by kernel_rfl
theorem exec8a : exec S8 envT = .at (aPos t8) fun _ => .at P8 fun _ => dictDisplay items8' >>= asg8 := by
  show (do
    standAt (aPos t8)
    if ← swapsWithSole (aTargets t8) (.Dict (dKeys (aValue t8)) (dVals (aValue t8)) P8) (aPos t8).line envT then do
      evalThenUse (.Dict (dKeys (aValue t8)) (dVals (aValue t8)) P8) envT fun v => assignAll v ((assignEach (aTargets t8) envT).map (·.2))
      pure .next
    else do
      let v ← eval (.Dict (dKeys (aValue t8)) (dVals (aValue t8)) P8) envT
      assignStores envT v (← swappedStores (aTargets t8) (.Dict (dKeys (aValue t8)) (dVals (aValue t8)) P8) envT) ((assignEach (aTargets t8) envT).map (·.2)) : Sem Flow) = _
  rw [swaps8, swapped8, eval8]
  rfl
theorem exec8 : execs ((tops.drop 8).take 1) envT = .at (aPos t8) fun _ => .at P8 fun _ => dictDisplay ((b3KV.map (itK P8)).map sm) >>= fun v => asg8 v >>= kk8 := by
  rw [tops8, ← items8]
  show exec S8 envT >>= kk8 = _
  rw [exec8a]
  show (Sem.at (aPos t8) fun _ => .at P8 fun _ => (dictDisplay items8' >>= asg8) >>= kk8) = _
  simp only [bind_assoc]
noncomputable def rest8 (v : Value) : Sem Flow := asg8 v >>= kk8
theorem tail8_go (w : World) (os : OsState) :
    goT w 7 (stT tr8x 128 2284 w os) ⟨(rest8 (.ref 89)).wrap doneF deadEnd id id, cT, P8, BT0⟩ = some (stT tr8 128 2285 w os, ⟨doneF .next, cT, ⟨61, 0, 61, 13⟩, BT0⟩) := by
  unfold goT
  rw [teS, teT]; kernel_rfl
theorem runT_go {w : World} : ∀ {k : Nat} {m : Nat} {s s' : SharedT} {t t' : Thread} {r : Flow × SharedT × Code × Pos}, goT w k s t = some (s', t') → segRunT treeTable pw w 11 ann0 1 m s' t' = some r → segRunT treeTable pw w 11 ann0 1 (k + m) s t = some r
  | 0, m, s, s', t, t', r, h, hr => by
    simp only [goT, segGoT, Option.some.injEq, Prod.mk.injEq] at h
    obtain ⟨rfl, rfl⟩ := h
    rw [Nat.zero_add]; exact hr
  | k + 1, m, s, s', t, t', r, h, hr => by
    rw [Nat.succ_add]
    simp only [goT, segGoT, segRunT] at h ⊢
    cases he : endAt 1 t with
    | some f => rw [he] at h; cases h
    | none =>
      rw [he] at h
      simp only at h ⊢
      cases hk : stepOk 11 ann0 t with
      | false => rw [hk] at h; cases h
      | true =>
        rw [hk] at h
        simp only at h ⊢
        cases hs : stepT (denote treeTable) pw w s t with
        | none => rw [hs] at h; cases h
        | some r => rw [hs] at h; simp only at h ⊢; exact runT_go h hr
theorem kr_len : kr.length = 4 := by kernel_rfl
theorem rest_len : (kss.flatten ++ kr).length = 633 := by kernel_rfl
theorem display8 (w : World) (os : OsState) : Tr w (dictDisplay ((b3KV.map (itK P8)).map sm)) (stT tr7 89 334 w os) P8 (400 * (kss.length + 2)) (.ref 89) (stT tr8x 128 2284 w os) P8 := by
  have h := tr_display (w := w) (T := tr7 w.params) (N := 89) (life := {}) (gens := #[]) (drawn := {}) (toks := 334) (os := os) (P := P8) (k0.map (itK P8)) (kss.map (List.map (itK P8))) (kr.map (itK P8)) k0 kss kr
    (all_itK _ _) (all_all_itK _ _) (all_itK _ _) k0_len kss_len (by intro e; have h := kr_len; rw [e] at h; cases h) (by rw [kr_len]; decide) (by decide) (full7 _) (by rw [← b3_split]; exact incr_nodup _ 0 b3_incr) (by rw [← b3_split]; exact b3_hash) (by rw [rest_len]; decide)
  have e : k0.map (itK P8) ++ ((kss.map (List.map (itK P8))).flatten ++ kr.map (itK P8)) = b3KV.map (itK P8) := by
    conv => rhs; rw [b3_split]
    rw [List.map_append, List.map_append, List.map_flatten]
  have e2 : 334 + 51 + 3 * (kss.flatten ++ kr).length = 2284 := by kernel_rfl
  have e3 : 89 + 1 + (kss.length + 1) = 128 := by kernel_rfl
  rw [e, e2, e3] at h
  have e4 := dT8 w.params
  have e5 : dT 89 ((tr7 w.params).ins 89 (dictO (subE 334 k0) 17)) (89 + 1) (334 + 51) (subE 334 k0) (kss ++ [kr]) = tr8x w.params := e4
  rw [e5] at h
  exact h
theorem piece8 (w : World) (os : OsState) :
    segRunT treeTable pw w 11 ann0 1 20000 (stT tr7 89 334 w os) (piecesOf ((tops.drop 8).take 1) envT cT ⟨59, 0, 60, 30⟩ BT0) = some (.next, stT tr8 128 2285 w os, cT, ⟨61, 0, 61, 13⟩) := by
  obtain ⟨k, hk, x⟩ := display8 w os
  have hkl : kss.length = 37 := by kernel_rfl
  rw [hkl] at hk
  have e0 : goT w 2 (stT tr7 89 334 w os) (piecesOf ((tops.drop 8).take 1) envT cT ⟨59, 0, 60, 30⟩ BT0) = some (stT tr7 89 334 w os, ⟨(dictDisplay ((b3KV.map (itK P8)).map sm) >>= rest8).wrap doneF deadEnd id id, cT, P8, BT0⟩) := by
    unfold piecesOf
    rw [exec8]
    rw [goT_add (n := 1) 1 (go_node (by intro x e; cases e) rfl rfl)]
    exact go_node (by intro x e; cases e) rfl rfl
  have e1 : goT w k (stT tr7 89 334 w os) ⟨(dictDisplay ((b3KV.map (itK P8)).map sm) >>= rest8).wrap doneF deadEnd id id, cT, P8, BT0⟩ = some (stT tr8x 128 2284 w os, ⟨(rest8 (.ref 89)).wrap doneF deadEnd id id, cT, P8, BT0⟩) := by
    show goT w k _ ⟨((dictDisplay ((b3KV.map (itK P8)).map sm)).bind rest8).wrap doneF deadEnd id id, cT, P8, BT0⟩ = _
    rw [Sem.bind_eq_wrap, Sem.wrap_wrap]
    exact x _ _ _ _ _ _ _
  have e2 := tail8_go w os
  have e3 : (20000 : Nat) = 2 + (k + (7 + (1 + (19990 - k)))) := by omega
  rw [e3]
  refine runT_go e0 (runT_go e1 (runT_go e2 ?_))
  rw [Nat.add_comm]
  rfl
end Mine

open PySem PySem.W PySem.Calls PyProof.Rows
set_option Elab.async false
set_option maxRecDepth 1000000
set_option maxHeartbeats 0
set_option linter.unusedVariables false
namespace Mine
theorem entry_upl : entryFor table "set.update.loop" = some Builtin.«set.update.loop» := entryFor_of_tree (by kernel_rfl)
theorem den_loop : denote treeTable cS = Builtin.«set.update.loop» ⟨[.ref 142, .ref 143], []⟩ := by
  show (match entryFor treeTable "set.update.loop" with
    | some b => b ⟨[.ref 142, .ref 143], []⟩
    | none => unsupported ((withoutEnding? "set.update.loop" "#data").getD "set.update.loop")) = _
  rw [← table_eq_tree, entry_upl]
theorem go_againS {w : World} {s : SharedT} {f1 f2 : Frame} {st : List Frame} : goT w 1 s ⟨.pure (.again cS), cS, posS, f1 :: f2 :: st⟩ = some (s, ⟨denote treeTable cS, cS, posS, f1 :: f2 :: st⟩) := by
  obtain ⟨T, N, life, gens, drawn, toks, os⟩ := s
  unfold goT
  rw [teS, teT]; kernel_rfl
theorem bt_set_comm (f g : Obj → Obj) : ∀ (T : BT) (a b : Nat), a ≠ b → (T.set a f).set b g = (T.set b g).set a f
  | .nil, _, _, _ => rfl
  | .node v l r, a, b, h => by
    rw [BT.set_node, BT.set_node]
    by_cases ha : a = 0 <;> by_cases hb : b = 0 <;> by_cases pa : a % 2 = 1 <;> by_cases pb : b % 2 = 1 <;> simp only [ha, hb, pa, pb, if_true, if_false, BT.set_node] <;>
      first
      | rfl
      | (exfalso; omega)
      | (rw [bt_set_comm f g l (a / 2) (b / 2) (by omega)])
      | (rw [bt_set_comm f g r (a / 2 - 1) (b / 2 - 1) (by omega)])
      | skip
/-- the members are these: hash and written int, and the table fits -/
noncomputable def InvS (p : SetSt) (L : List (Int × Value)) : Prop := List.Perm p.es.toList L ∧ p.t.fits p.es.size = true
noncomputable def sOf (tk : Nat → Nat) : List Int → Nat → List (Int × Value)
  | [], _ => []
  | k :: r, i => (hashInt k, .int k (tk i)) :: sOf tk r (i + 1)
theorem InvS.ok {p : SetSt} {L : List (Int × Value)} {k : Int} {u : Tok} (h : InvS p L) (hL : L.length < 4000) (hs : ∀ e ∈ L, e.2.scannable = true) (hd : ∀ e ∈ L, e.1 ≠ hashInt k) : okS p (hashInt k) (.int k u) = true ∧ p.es.size ≤ 5000 := by
  have hl : p.es.size = L.length := by simpa using h.1.length_eq
  refine ⟨?_, by omega⟩
  unfold okS
  simp only [Bool.and_eq_true, Bool.not_eq_true']
  refine ⟨⟨?_, ?_⟩, ?_⟩
  · unfold byScan
    simp only [Bool.and_eq_true, decide_eq_true_eq]
    refine ⟨⟨rfl, by unfold scanBound; omega⟩, ?_⟩
    rw [← Array.all_toList, List.all_eq_true]
    intro e he
    exact hs e (h.1.mem_iff.mp he)
  · rw [List.all_eq_true]
    intro e he
    have := hd e (h.1.mem_iff.mp he)
    simp only [Bool.not_eq_true', beq_eq_false_iff_ne]
    exact this
  · have hf := h.2
    unfold SetTable.fits at hf
    simp only [Bool.and_eq_true, beq_iff_eq, decide_eq_true_eq] at hf
    simp only [Bool.or_eq_false_iff, bne_eq_false_iff_eq, decide_eq_false_iff_not]
    exact ⟨hf.1, by omega⟩
theorem InvS.add {p : SetSt} {L : List (Int × Value)} {h : Int} {x : Value} (hi : InvS p L) : InvS (addS p h x) (L ++ [(h, x)]) := by
  refine ⟨(addS_perm p h x).trans ?_, addS_fits p h x⟩
  rw [Array.toList_push]
  exact hi.1.append_right _
section
variable {w : World} {N : Nat} {life : Life} {gens : Array GenState} {drawn : Drawn} {os : OsState}
theorem go_loop {m : Nat} {xs : Array Value} (tk : Nat → Nat) (h1 : Nat.blt 142 N = true) (h2 : Nat.blt 143 N = true) (h3 : Nat.blt 141 N = true) (f1 f2 : Frame) (st : List Frame) :
    ∀ (r : List Int) (i toks : Nat) (T : BT) (p : SetSt) (L : List (Int × Value)), (∀ j k, r[j]? = some k → xs[i + j]? = some (.int k (tk (i + j)))) → InvS p L → (∀ e ∈ L, e.2.scannable = true) → (L.map (·.1) ++ r.map hashInt).Nodup → L.length + r.length < 4000 → T.get 142 = some p.obj → T.get 143 = some (iterO 141 i) → T.get 141 = some (listO xs m) →
      InvS (foldS r i p tk) (L ++ sOf tk r i) ∧ ∃ n, n ≤ 40 * r.length ∧ goT w n ⟨T, N, life, gens, drawn, toks, os⟩ ⟨denote treeTable cS, cS, posS, f1 :: f2 :: st⟩ = some (⟨(T.set 142 (fun _ => (foldS r i p tk).obj)).set 143 (fun _ => iterO 141 (i + r.length)), N, life, gens, drawn, toks + r.length, os⟩, ⟨denote treeTable cS, cS, posS, f1 :: f2 :: st⟩)
  | [], i, toks, T, p, L, _, hI, _, _, _, hp, hi, _ => by
    have e : (T.set 142 (fun _ => p.obj)).set 143 (fun _ => iterO 141 (i + ([] : List Int).length)) = T := by
      have e1 : T.set 142 (fun _ => p.obj) = T := (bt_set_const id T 142 hp).symm.trans (bt_set_id T 142)
      rw [e1]
      exact (bt_set_const id T 143 hi).symm.trans (bt_set_id T 143)
    show InvS p (L ++ []) ∧ ∃ n, _ ∧ goT w n _ _ = some (⟨(T.set 142 (fun _ => p.obj)).set 143 (fun _ => iterO 141 (i + ([] : List Int).length)), _, _, _, _, _, _⟩, _)
    rw [e, List.append_nil]
    exact ⟨hI, 0, Nat.zero_le _, rfl⟩
  | k :: r, i, toks, T, p, L, hx, hI, hS, hD, hZ, hp, hi, hl => by
      have hZ' : L.length + (r.length + 1) < 4000 := hZ
      have hD' : (L.map (·.1) ++ (hashInt k :: r.map hashInt)).Nodup := hD
      have hok := hI.ok (k := k) (u := tk i) (by omega) hS (fun e he e' => by
        rw [List.nodup_append] at hD'
        exact hD'.2.2 _ (List.mem_map_of_mem he) _ (.head _) e')
      have hxi := hx 0 k rfl
      have t1 : Tr w (pyNext (.ref 143)) ⟨T, N, life, gens, drawn, toks, os⟩ posS 20 _ _ posS := tr_next h2 h3 (by decide) hi hl hxi
      have g2 : (T.set 143 (fun _ => iterO 141 (i + 1))).get 142 = some p.obj := by rw [BT.get_set, if_neg (by decide)]; exact hp
      have t2 : Tr w (setAdd 142 (.int k (tk i))) ⟨T.set 143 (fun _ => iterO 141 (i + 1)), N, life, gens, drawn, toks, os⟩ posS 17 true _ posS := tr_setAdd h1 (by decide) g2 hok.1 hok.2
      have t3 : Tr w (denote treeTable cS) ⟨T, N, life, gens, drawn, toks, os⟩ posS (20 + (17 + 0)) (.again cS) ⟨(T.set 143 (fun _ => iterO 141 (i + 1))).set 142 (fun _ => (addS p (hashInt k) (.int k (tk i))).obj), N, life, gens, drawn, toks + 1, os⟩ posS := by
        rw [den_loop]
        show Tr w (pyNext (.ref 143) >>= _) _ _ _ _ _ _
        refine Tr.bq t1 ?_
        refine Tr.bq (Tr.holding _ t2) ?_
        exact Tr.pure' _
      obtain ⟨n1, hn1, e1⟩ := t3
      have e1' := e1 .pure .raise id id cS f1 (f2 :: st)
      rw [wrap_id] at e1'
      generalize hp1 : addS p (hashInt k) (.int k (tk i)) = p1 at e1'
      have hI1 : InvS p1 (L ++ [(hashInt k, .int k (tk i))]) := hp1 ▸ hI.add
      have hne : ∀ (o1 o2 : Obj), ((T.set 143 (fun _ => o1)).set 142 (fun _ => o2)).get 142 = some o2 := fun o1 o2 => get_set_same _ (by rw [BT.get_set, if_neg (by decide)]; exact hp)
      have g3 : ((T.set 143 (fun _ => iterO 141 (i + 1))).set 142 (fun _ => p1.obj)).get 143 = some (iterO 141 (i + 1)) := by rw [BT.get_set, if_neg (by decide)]; exact get_set_same _ hi
      have g4 : ((T.set 143 (fun _ => iterO 141 (i + 1))).set 142 (fun _ => p1.obj)).get 141 = some (listO xs m) := by rw [BT.get_set, if_neg (by decide), BT.get_set, if_neg (by decide)]; exact hl
      obtain ⟨hI2, n2, hn2, e2⟩ := go_loop tk h1 h2 h3 f1 f2 st r (i + 1) (toks + 1) _ p1 (L ++ [(hashInt k, .int k (tk i))]) (fun j k' hj => by
        have := hx (j + 1) k' hj
        have e : i + (j + 1) = i + 1 + j := by omega
        rwa [e] at this) hI1 (fun e he => by
          rcases List.mem_append.mp he with he | he
          · exact hS e he
          · simp only [List.mem_singleton] at he; subst he; rfl) (by rw [List.map_append, List.append_assoc]; exact hD') (by simp only [List.length_append, List.length_cons, List.length_nil]; omega) (hne _ _) g3 g4
      have ef : foldS (k :: r) i p tk = foldS r (i + 1) p1 tk := by rw [← hp1]; rfl
      rw [ef]
      refine ⟨by rw [List.append_assoc] at hI2; exact hI2, n1 + (1 + n2), by rw [List.length_cons]; omega, ?_⟩
      rw [goT_add _ e1', goT_add _ go_againS, e2]
      have eT : ((((T.set 143 (fun _ => iterO 141 (i + 1))).set 142 (fun _ => p1.obj)).set 142 (fun _ => (foldS r (i + 1) p1 tk).obj)).set 143 (fun _ => iterO 141 (i + 1 + r.length))) = (T.set 142 (fun _ => (foldS r (i + 1) p1 tk).obj)).set 143 (fun _ => iterO 141 (i + (k :: r).length)) := by
        rw [bt_set_set]
        rw [bt_set_comm _ _ T 143 142 (by decide), bt_set_set, List.length_cons]
        have : i + 1 + r.length = i + (r.length + 1) := by omega
        rw [this]
      rw [eT]
      have : toks + 1 + r.length = toks + (k :: r).length := by rw [List.length_cons]; omega
      rw [this]
end
end Mine

open PySem PySem.W PySem.Calls PyProof.Rows
set_option Elab.async false
set_option maxRecDepth 1000000
set_option maxHeartbeats 0
set_option linter.unusedVariables false
namespace Mine
theorem stB0 (w : World) (os : OsState) (f1 f2 : Frame) (st : List Frame) : segGoT treeTable pw w 11 ann0 1 272 ⟨trL oL137_0 oL138_0 w.params, 139, {}, #[], {}, 2299, os⟩ ⟨denote treeTable cL, cL, posL, f1 :: f2 :: st⟩ =
    some (⟨trL oL137_16 oL138_16 w.params, 139, {}, #[], {}, 2315, os⟩, ⟨denote treeTable cL, cL, posL, f1 :: f2 :: st⟩) := by rw [teD, teS, teT]; kernel_rfl
theorem stB16 (w : World) (os : OsState) (f1 f2 : Frame) (st : List Frame) : segGoT treeTable pw w 11 ann0 1 272 ⟨trL oL137_16 oL138_16 w.params, 139, {}, #[], {}, 2315, os⟩ ⟨denote treeTable cL, cL, posL, f1 :: f2 :: st⟩ =
    some (⟨trL oL137_32 oL138_32 w.params, 139, {}, #[], {}, 2331, os⟩, ⟨denote treeTable cL, cL, posL, f1 :: f2 :: st⟩) := by rw [teD, teS, teT]; kernel_rfl
theorem stB32 (w : World) (os : OsState) (f1 f2 : Frame) (st : List Frame) : segGoT treeTable pw w 11 ann0 1 272 ⟨trL oL137_32 oL138_32 w.params, 139, {}, #[], {}, 2331, os⟩ ⟨denote treeTable cL, cL, posL, f1 :: f2 :: st⟩ =
    some (⟨trL oL137_48 oL138_48 w.params, 139, {}, #[], {}, 2347, os⟩, ⟨denote treeTable cL, cL, posL, f1 :: f2 :: st⟩) := by rw [teD, teS, teT]; kernel_rfl
theorem stB48 (w : World) (os : OsState) (f1 f2 : Frame) (st : List Frame) : segGoT treeTable pw w 11 ann0 1 272 ⟨trL oL137_48 oL138_48 w.params, 139, {}, #[], {}, 2347, os⟩ ⟨denote treeTable cL, cL, posL, f1 :: f2 :: st⟩ =
    some (⟨trL oL137_64 oL138_64 w.params, 139, {}, #[], {}, 2363, os⟩, ⟨denote treeTable cL, cL, posL, f1 :: f2 :: st⟩) := by rw [teD, teS, teT]; kernel_rfl
theorem stB64 (w : World) (os : OsState) (f1 f2 : Frame) (st : List Frame) : segGoT treeTable pw w 11 ann0 1 272 ⟨trL oL137_64 oL138_64 w.params, 139, {}, #[], {}, 2363, os⟩ ⟨denote treeTable cL, cL, posL, f1 :: f2 :: st⟩ =
    some (⟨trL oL137_80 oL138_80 w.params, 139, {}, #[], {}, 2379, os⟩, ⟨denote treeTable cL, cL, posL, f1 :: f2 :: st⟩) := by rw [teD, teS, teT]; kernel_rfl
theorem stB80 (w : World) (os : OsState) (f1 f2 : Frame) (st : List Frame) : segGoT treeTable pw w 11 ann0 1 272 ⟨trL oL137_80 oL138_80 w.params, 139, {}, #[], {}, 2379, os⟩ ⟨denote treeTable cL, cL, posL, f1 :: f2 :: st⟩ =
    some (⟨trL oL137_96 oL138_96 w.params, 139, {}, #[], {}, 2395, os⟩, ⟨denote treeTable cL, cL, posL, f1 :: f2 :: st⟩) := by rw [teD, teS, teT]; kernel_rfl
theorem goB (w : World) (os : OsState) (f1 f2 : Frame) (st : List Frame) : goT w 1632 ⟨trL oL137_0 oL138_0 w.params, 139, {}, #[], {}, 2299, os⟩ ⟨denote treeTable cL, cL, posL, f1 :: f2 :: st⟩ =
    some (⟨trL oL137_96 oL138_96 w.params, 139, {}, #[], {}, 2395, os⟩, ⟨denote treeTable cL, cL, posL, f1 :: f2 :: st⟩) := by
  rw [goT_add (n := 272) 1360 (stB0 w os f1 f2 st), goT_add (n := 272) 1088 (stB16 w os f1 f2 st), goT_add (n := 272) 816 (stB32 w os f1 f2 st), goT_add (n := 272) 544 (stB48 w os f1 f2 st), goT_add (n := 272) 272 (stB64 w os f1 f2 st)]
  exact stB80 w os f1 f2 st
end Mine

open PySem PySem.W PySem.Calls PyProof.Rows
set_option Elab.async false
set_option maxRecDepth 1000000
set_option maxHeartbeats 0
set_option linter.unusedVariables false
namespace Mine
noncomputable abbrev s0C (P : Params) : Obj := (p0C (!P.followText "set-order")).obj
theorem stAF (w : World) (os : OsState) : segGoT treeTable pw (wS false w) 11 ann0 1 87 (stT tr9 135 2293 (wS false w) os) (piecesOf top10 envT cT pos9 BT0) =
    some (⟨trL oL137_0 oL138_0 (wS false w).params, 139, {}, #[], {}, 2299, os⟩, ⟨denote treeTable cL, cL, posL, [fA1 (wS false w) os, fA2 (wS false w) os, topFrame p0]⟩) := by
  rw [teD, teS, teT]; kernel_rfl
theorem stCF (w : World) (os : OsState) : segGoT treeTable pw (wS false w) 11 ann0 1 59 ⟨trL oL137_96 oL138_96 (wS false w).params, 139, {}, #[], {}, 2395, os⟩ ⟨denote treeTable cL, cL, posL, [fA1 (wS false w) os, fA2 (wS false w) os, topFrame p0]⟩ =
    some (⟨trS (s0C (wS false w).params) (iterO 141 0) (wS false w).params, 144, {}, #[], {}, 2395, os⟩, ⟨denote treeTable cS, cS, posS, [fB1 (wS false w) os, fB2 (wS false w) os, fB3 (wS false w) os, topFrame p0]⟩) := by
  rw [teD, teS, teT]; kernel_rfl
theorem stEF (w : World) (os : OsState) (es : Array (Int × Value)) (n : Nat) (t : SetTable) : segRunT treeTable pw (wS false w) 11 ann0 1 27 ⟨trS (setO es n t) (iterO 141 97) (wS false w).params, 144, {}, #[], {}, 2492, os⟩ ⟨denote treeTable cS, cS, posS, [fB1 (wS false w) os, fB2 (wS false w) os, fB3 (wS false w) os, topFrame p0]⟩ =
    some (.next, ⟨(tr10 (wS false w).params).set 142 (fun _ => setO es n t), 146, {}, #[], {}, 2493, os⟩, cT, ⟨67, 0, 67, 6⟩) := by rw [teD, teR, teT]; kernel_rfl
theorem stAT (w : World) (os : OsState) : segGoT treeTable pw (wS true w) 11 ann0 1 87 (stT tr9 135 2293 (wS true w) os) (piecesOf top10 envT cT pos9 BT0) =
    some (⟨trL oL137_0 oL138_0 (wS true w).params, 139, {}, #[], {}, 2299, os⟩, ⟨denote treeTable cL, cL, posL, [fA1 (wS true w) os, fA2 (wS true w) os, topFrame p0]⟩) := by
  rw [teD, teS, teT]; kernel_rfl
theorem stCT (w : World) (os : OsState) : segGoT treeTable pw (wS true w) 11 ann0 1 59 ⟨trL oL137_96 oL138_96 (wS true w).params, 139, {}, #[], {}, 2395, os⟩ ⟨denote treeTable cL, cL, posL, [fA1 (wS true w) os, fA2 (wS true w) os, topFrame p0]⟩ =
    some (⟨trS (s0C (wS true w).params) (iterO 141 0) (wS true w).params, 144, {}, #[], {}, 2395, os⟩, ⟨denote treeTable cS, cS, posS, [fB1 (wS true w) os, fB2 (wS true w) os, fB3 (wS true w) os, topFrame p0]⟩) := by
  rw [teD, teS, teT]; kernel_rfl
theorem stET (w : World) (os : OsState) (es : Array (Int × Value)) (n : Nat) (t : SetTable) : segRunT treeTable pw (wS true w) 11 ann0 1 27 ⟨trS (setO es n t) (iterO 141 97) (wS true w).params, 144, {}, #[], {}, 2492, os⟩ ⟨denote treeTable cS, cS, posS, [fB1 (wS true w) os, fB2 (wS true w) os, fB3 (wS true w) os, topFrame p0]⟩ =
    some (.next, ⟨(tr10 (wS true w).params).set 142 (fun _ => setO es n t), 146, {}, #[], {}, 2493, os⟩, cT, ⟨67, 0, 67, 6⟩) := by rw [teD, teR, teT]; kernel_rfl
end Mine

open PySem PySem.W PySem.Calls PyProof.Rows
set_option Elab.async false
set_option maxRecDepth 1000000
set_option maxHeartbeats 0
set_option linter.unusedVariables false
namespace Mine
theorem o141_list (P : Params) : o141 P = listO ((List.range 97).map fun i => Value.int (kf i) (tkf i)).toArray 0 := by kernel_rfl
theorem trS_get (a b : Obj) (P : Params) : (trS a b P).get 142 = some a ∧ (trS a b P).get 143 = some b ∧ (trS a b P).get 141 = some (o141 P) := ⟨by kernel_rfl, by kernel_rfl, by kernel_rfl⟩
theorem trS_set (a b a' b' : Obj) (P : Params) : ((trS a b P).set 142 (fun _ => a')).set 143 (fun _ => b') = trS a' b' P := by kernel_rfl
theorem keysC_nodup : (keysC.map hashInt).Nodup := by
  have : keysC.map hashInt = keysC := by kernel_rfl
  rw [this]
  decide +kernel
theorem xs_at (j : Nat) (k : Int) (h : keysC[j]? = some k) : ((List.range 97).map fun i => Value.int (kf i) (tkf i)).toArray[0 + j]? = some (.int k (tkf (0 + j))) := by
  rw [Nat.zero_add]
  unfold keysC at h
  rw [List.getElem?_map] at h
  rw [List.getElem?_toArray, List.getElem?_map]
  cases hj : (List.range 97)[j]? with
  | none => rw [hj] at h; cases h
  | some i =>
    rw [hj] at h
    have hi : i = j := by
      rw [List.getElem?_range (by
        rcases Nat.lt_or_ge j 97 with h1 | h1
        · exact h1
        · rw [List.getElem?_eq_none (by simpa using h1)] at hj; cases hj)] at hj
      exact (Option.some.inj hj).symm
    subst hi
    simp only [Option.map_some, Option.some.injEq] at h ⊢
    rw [h]
theorem stD (w : World) (os : OsState) (f1 f2 : Frame) (st : List Frame) : InvS (c9S w.params) (sOf tkf keysC 0) ∧ ∃ n, n ≤ 3880 ∧ goT w n ⟨trS (s0C w.params) (iterO 141 0) w.params, 144, {}, #[], {}, 2395, os⟩ ⟨denote treeTable cS, cS, posS, f1 :: f2 :: st⟩ =
    some (⟨trS (c9S w.params).obj (iterO 141 97) w.params, 144, {}, #[], {}, 2492, os⟩, ⟨denote treeTable cS, cS, posS, f1 :: f2 :: st⟩) := by
  have hg := trS_get (s0C w.params) (iterO 141 0) w.params
  have h := go_loop (w := w) (N := 144) (life := {}) (gens := #[]) (drawn := {}) (os := os) (m := 0) (xs := ((List.range 97).map fun i => Value.int (kf i) (tkf i)).toArray) tkf rfl rfl rfl f1 f2 st keysC 0 2395 (trS (s0C w.params) (iterO 141 0) w.params) (p0C (!w.params.followText "set-order")) [] xs_at
    ⟨List.Perm.refl _, by simp [p0C, SetTable.fits, SetTable.fill]⟩ (fun e he => by cases he) (by simpa using keysC_nodup) (by decide) hg.1 hg.2.1 (by rw [hg.2.2, o141_list])
  obtain ⟨h1, n, hn, h2⟩ := h
  refine ⟨by rw [List.nil_append] at h1; exact h1, n, hn, ?_⟩
  rw [trS_set] at h2
  exact h2
theorem runT_more {w : World} : ∀ {k : Nat} {s : SharedT} {t : Thread} {r : Flow × SharedT × Code × Pos}, segRunT treeTable pw w 11 ann0 1 k s t = some r → ∀ m, segRunT treeTable pw w 11 ann0 1 (k + m) s t = some r
  | 0, s, t, r, h, m => by cases h
  | k + 1, s, t, r, h, m => by
    rw [Nat.succ_add]
    simp only [segRunT] at h ⊢
    cases he : endAt 1 t with
    | some f => rw [he] at h; exact h
    | none =>
      rw [he] at h
      simp only at h ⊢
      cases hk : stepOk 11 ann0 t with
      | false => rw [hk] at h; cases h
      | true =>
        rw [hk] at h
        simp only at h ⊢
        cases hs : stepT (denote treeTable) pw w s t with
        | none => rw [hs] at h; cases h
        | some r => rw [hs] at h; simp only at h ⊢; exact runT_more h m
theorem tr10_set (P : Params) : (tr10 P).set 142 (fun _ => (c9S P).obj) = tr10 P := by
  have h : (tr10 P).get 142 = some (c9S P).obj := by
    have : (tr10 P).get 142 = some (o142 P) := by kernel_rfl
    exact this
  exact (bt_set_const id (tr10 P) 142 h).symm.trans (bt_set_id _ _)
theorem piece10 (w : World) (os : OsState) :
    segRunT treeTable pw w 11 ann0 1 6000 (stT tr9 135 2293 w os) (piecesOf top10 envT cT pos9 BT0) = some (.next, stT tr10 146 2493 w os, cT, ⟨67, 0, 67, 6⟩) := by
  revert os
  refine byRow2 (P := fun w => ∀ os, segRunT treeTable pw w 11 ann0 1 6000 (stT tr9 135 2293 w os) (piecesOf top10 envT cT pos9 BT0) = some (.next, stT tr10 146 2493 w os, cT, ⟨67, 0, 67, 6⟩)) "special-get-raises" ?_ ?_ w
  · intro w os
    obtain ⟨_, n, hn, hD⟩ := stD (wS false w) os (fB1 (wS false w) os) (fB2 (wS false w) os) [fB3 (wS false w) os, topFrame p0]
    have hE := stEF w os (c9S (wS false w).params).es (c9S (wS false w).params).n (c9S (wS false w).params).t
    have hE' : segRunT treeTable pw (wS false w) 11 ann0 1 27 ⟨trS (c9S (wS false w).params).obj (iterO 141 97) (wS false w).params, 144, {}, #[], {}, 2492, os⟩ ⟨denote treeTable cS, cS, posS, [fB1 (wS false w) os, fB2 (wS false w) os, fB3 (wS false w) os, topFrame p0]⟩ =
      some (.next, ⟨(tr10 (wS false w).params).set 142 (fun _ => (c9S (wS false w).params).obj), 146, {}, #[], {}, 2493, os⟩, cT, ⟨67, 0, 67, 6⟩) := hE
    rw [tr10_set] at hE'
    have e : (6000 : Nat) = 87 + (1632 + (59 + (n + (27 + (4195 - n))))) := by omega
    rw [e]
    exact runT_go (stAF w os) (runT_go (goB _ _ _ _ _) (runT_go (stCF w os) (runT_go hD (runT_more hE' _))))
  · intro w os
    obtain ⟨_, n, hn, hD⟩ := stD (wS true w) os (fB1 (wS true w) os) (fB2 (wS true w) os) [fB3 (wS true w) os, topFrame p0]
    have hE := stET w os (c9S (wS true w).params).es (c9S (wS true w).params).n (c9S (wS true w).params).t
    have hE' : segRunT treeTable pw (wS true w) 11 ann0 1 27 ⟨trS (c9S (wS true w).params).obj (iterO 141 97) (wS true w).params, 144, {}, #[], {}, 2492, os⟩ ⟨denote treeTable cS, cS, posS, [fB1 (wS true w) os, fB2 (wS true w) os, fB3 (wS true w) os, topFrame p0]⟩ =
      some (.next, ⟨(tr10 (wS true w).params).set 142 (fun _ => (c9S (wS true w).params).obj), 146, {}, #[], {}, 2493, os⟩, cT, ⟨67, 0, 67, 6⟩) := hE
    rw [tr10_set] at hE'
    have e : (6000 : Nat) = 87 + (1632 + (59 + (n + (27 + (4195 - n))))) := by omega
    rw [e]
    exact runT_go (stAT w os) (runT_go (goB _ _ _ _ _) (runT_go (stCT w os) (runT_go hD (runT_more hE' _))))
end Mine

open PySem PySem.W PySem.Calls PyProof.Rows
set_option Elab.async false
set_option maxRecDepth 1000000
set_option maxHeartbeats 0
set_option linter.unusedVariables false
namespace Mine
theorem piece05 (w : World) (os : OsState) : segRunT treeTable pw w 11 ann0 1 411 (stT trB 15 187 w os) (piecesOf ((tops.drop 0).take 6) envT cT p0 BT0) =
    some (.next, stT tr5 71 267 w os, cT, ⟨57, 0, 57, 8⟩) := by rw [teR, teT]; kernel_rfl
theorem piece6 (w : World) (os : OsState) : segRunT treeTable pw w 11 ann0 1 999 (stT tr5 71 267 w os) (piecesOf ((tops.drop 6).take 1) envT cT ⟨57, 0, 57, 8⟩ BT0) =
    some (.next, stT tr6 82 327 w os, cT, ⟨58, 0, 58, 6⟩) := by
  revert os
  refine byRow2 (P := fun w => ∀ os, segRunT treeTable pw w 11 ann0 1 999 (stT tr5 71 267 w os) (piecesOf ((tops.drop 6).take 1) envT cT ⟨57, 0, 57, 8⟩ BT0) =
    some (.next, stT tr6 82 327 w os, cT, ⟨58, 0, 58, 6⟩)) "special-get-raises" ?_ ?_ w
  · intro w os; rw [teR, teT]; kernel_rfl
  · intro w os; rw [teR, teT]; kernel_rfl
theorem piece7 (w : World) (os : OsState) : segRunT treeTable pw w 11 ann0 1 40 (stT tr6 82 327 w os) (piecesOf ((tops.drop 7).take 1) envT cT ⟨58, 0, 58, 6⟩ BT0) =
    some (.next, stT tr7 89 334 w os, cT, ⟨59, 0, 60, 30⟩) := by rw [teR, teT]; kernel_rfl
theorem piece9 (w : World) (os : OsState) : segRunT treeTable pw w 11 ann0 1 40 (stT tr8 128 2285 w os) (piecesOf ((tops.drop 9).take 1) envT cT ⟨61, 0, 61, 13⟩ BT0) =
    some (.next, stT tr9 135 2293 w os, cT, ⟨62, 0, 66, 23⟩) := by rw [teR, teT]; kernel_rfl
theorem piece11 (w : World) (os : OsState) :
  segRunT treeTable pw w 11 ann0 1 378 (stT tr10 146 2493 w os) (piecesOf (tops.drop 11) envT cT ⟨67, 0, 67, 6⟩ BT0) =
    some (.next, stT tr23 216 2582 w os, cT, ⟨147, 0, 166, 15⟩) := by rw [teR, teT]; kernel_rfl
end Mine

open PySem PySem.W PySem.Calls PyProof.Rows
set_option Elab.async false
set_option maxRecDepth 1000000
set_option maxHeartbeats 0
set_option linter.unusedVariables false
namespace Mine
theorem tgoE : @topGo = Fast.tw15667345088766844465 := Fast.te15667345088766844465
theorem sgrE : @segRun = Fast.tw14374325043358763698 := Fast.te14374325043358763698
theorem trunE : @topRun = Fast.tw14082659384304107361 := Fast.te14082659384304107361
theorem pre0 (w : World) (os : OsState) : topGo treeTable pw w 11 ann0 12 ⟨boot_heap w.params, #[], boot_drawn, boot_toks, os⟩ (topStub pw) = some ((stT trB 15 187 w os).abs, ⟨denote treeTable cT, cT, p0, BT0⟩) := by
  rw [teD, tgoE, teT]; kernel_rfl
theorem block0 (w : World) (os : OsState) : segRun treeTable pw w 11 ann0 1 1 (stT trB 15 187 w os).abs (blockOf bodyB envT cT p0 BT0) = some (.next, (stT trB 15 187 w os).abs, cT, p0) := by
  rw [sgrE, teT]; kernel_rfl
theorem fin0 (w : World) (os : OsState) : topRun treeTable pw w 11 ann0 2 (stT tr23 216 2582 w os).abs ⟨doneF .next, cT, ⟨147, 0, 166, 15⟩, BT0⟩ = some (stT tr23 216 2582 w os).abs := by
  rw [trunE, teT]; kernel_rfl
end Mine

open PySem PySem.W PySem.Calls PyProof.Rows
set_option Elab.async false
set_option maxRecDepth 1000000
set_option maxHeartbeats 0
set_option linter.unusedVariables false
namespace Mine
theorem body_split : bodyB = (tops.drop 0).take 6 ++ ((tops.drop 6).take 1 ++ ((tops.drop 7).take 1 ++ ((tops.drop 8).take 1 ++ ((tops.drop 9).take 1 ++ (top10 ++ (tops.drop 11 ++ [])))))) := by kernel_rfl
theorem topRun0 (w : World) (os : OsState) : topRun treeTable pw w 11 ann0 30000 ⟨boot_heap w.params, #[], boot_drawn, boot_toks, os⟩ (topStub pw) = some (stT tr23 216 2582 w os).abs := by
  have e : (30000 : Nat) = 12 + (1 + (411 + (999 + (40 + (20000 + (40 + (6000 + (378 + 2119)))))))) := rfl
  have hf : topRun treeTable pw w 11 ann0 2119 (stT tr23 216 2582 w os).abs ⟨doneF .next, cT, ⟨147, 0, 166, 15⟩, BT0⟩ = some (stT tr23 216 2582 w os).abs := topRun_mono 2117 _ _ _ _ (fin0 w os)
  rw [e]
  refine go_top (pre0 w os) (piece_block (block0 w os) ?_)
  rw [body_split]
  exact piece_app (segRun_of (piece05 w os)) (piece_app (segRun_of (piece6 w os)) (piece_app (segRun_of (piece7 w os)) (piece_app (segRun_of (piece8 w os)) (piece_app (segRun_of (piece9 w os)) (piece_app (segRun_of (piece10 w os)) (piece_app (segRun_of (piece11 w os)) (piece_nil hf)))))))
end Mine

open PySem PySem.W PySem.Calls PyProof.Rows
set_option Elab.async false
set_option maxRecDepth 1000000
set_option maxHeartbeats 0
set_option linter.unusedVariables false
namespace Mine
noncomputable def KF (P : Params) : Frag := [(nat_lit 2, boot_o_2 P), (nat_lit 3, o3_23 P), (nat_lit 15, o15 P), (nat_lit 17, o17 P), (nat_lit 18, o18 P), (nat_lit 20, o20 P), (nat_lit 21, o21 P), (nat_lit 29, o29 P), (nat_lit 31, o31 P), (nat_lit 32, o32 P), (nat_lit 34, o34 P), (nat_lit 35, o35 P), (nat_lit 36, o36 P), (nat_lit 38, o38 P), (nat_lit 39, o39 P), (nat_lit 41, o41 P), (nat_lit 42, o42 P), (nat_lit 43, o43 P), (nat_lit 45, o45 P), (nat_lit 46, o46 P), (nat_lit 48, o48 P), (nat_lit 49, o49 P), (nat_lit 50, o50 P), (nat_lit 52, o52 P), (nat_lit 53, o53 P), (nat_lit 55, o55 P), (nat_lit 56, o56 P), (nat_lit 57, o57 P), (nat_lit 58, o58 P), (nat_lit 59, o59 P), (nat_lit 60, o60 P), (nat_lit 61, o61 P), (nat_lit 64, o64 P), (nat_lit 66, o66 P), (nat_lit 67, o67 P), (nat_lit 69, o69 P), (nat_lit 70, o70 P), (nat_lit 78, o78 P), (nat_lit 82, o82 P), (nat_lit 84, o84 P), (nat_lit 85, o85 P), (nat_lit 87, o87 P), (nat_lit 88, o88 P), (nat_lit 89, o89 P), (nat_lit 128, o128 P), (nat_lit 130, o130 P), (nat_lit 131, o131 P), (nat_lit 133, o133 P), (nat_lit 134, o134 P), (nat_lit 142, o142 P), (nat_lit 146, o146 P), (nat_lit 148, o148 P), (nat_lit 149, o149 P), (nat_lit 151, o151 P), (nat_lit 152, o152 P), (nat_lit 153, o153 P), (nat_lit 155, o155 P), (nat_lit 156, o156 P), (nat_lit 158, o158 P), (nat_lit 159, o159 P), (nat_lit 160, o160 P), (nat_lit 162, o162 P), (nat_lit 163, o163 P), (nat_lit 165, o165 P), (nat_lit 166, o166 P), (nat_lit 167, o167 P), (nat_lit 170, o170 P), (nat_lit 171, o171 P), (nat_lit 172, o172 P), (nat_lit 175, o175 P), (nat_lit 176, o176 P), (nat_lit 177, o177 P), (nat_lit 180, o180 P), (nat_lit 181, o181 P), (nat_lit 182, o182 P), (nat_lit 184, o184 P), (nat_lit 185, o185 P), (nat_lit 187, o187 P), (nat_lit 188, o188 P), (nat_lit 189, o189 P), (nat_lit 192, o192 P), (nat_lit 193, o193 P), (nat_lit 194, o194 P), (nat_lit 197, o197 P), (nat_lit 198, o198 P), (nat_lit 199, o199 P), (nat_lit 201, o201 P), (nat_lit 202, o202 P), (nat_lit 204, o204 P), (nat_lit 205, o205 P), (nat_lit 206, o206 P), (nat_lit 209, o209 P), (nat_lit 210, o210 P), (nat_lit 211, o211 P), (nat_lit 214, o214 P), (nat_lit 215, o215 P)]
noncomputable def KA : List Addr := [nat_lit 2, nat_lit 3, nat_lit 15, nat_lit 17, nat_lit 18, nat_lit 20, nat_lit 21, nat_lit 29, nat_lit 31, nat_lit 32, nat_lit 34, nat_lit 35, nat_lit 36, nat_lit 38, nat_lit 39, nat_lit 41, nat_lit 42, nat_lit 43, nat_lit 45, nat_lit 46, nat_lit 48, nat_lit 49, nat_lit 50, nat_lit 52, nat_lit 53, nat_lit 55, nat_lit 56, nat_lit 57, nat_lit 58, nat_lit 59, nat_lit 60, nat_lit 61, nat_lit 64, nat_lit 66, nat_lit 67, nat_lit 69, nat_lit 70, nat_lit 78, nat_lit 82, nat_lit 84, nat_lit 85, nat_lit 87, nat_lit 88, nat_lit 89, nat_lit 128, nat_lit 130, nat_lit 131, nat_lit 133, nat_lit 134, nat_lit 142, nat_lit 146, nat_lit 148, nat_lit 149, nat_lit 151, nat_lit 152, nat_lit 153, nat_lit 155, nat_lit 156, nat_lit 158, nat_lit 159, nat_lit 160, nat_lit 162, nat_lit 163, nat_lit 165, nat_lit 166, nat_lit 167, nat_lit 170, nat_lit 171, nat_lit 172, nat_lit 175, nat_lit 176, nat_lit 177, nat_lit 180, nat_lit 181, nat_lit 182, nat_lit 184, nat_lit 185, nat_lit 187, nat_lit 188, nat_lit 189, nat_lit 192, nat_lit 193, nat_lit 194, nat_lit 197, nat_lit 198, nat_lit 199, nat_lit 201, nat_lit 202, nat_lit 204, nat_lit 205, nat_lit 206, nat_lit 209, nat_lit 210, nat_lit 211, nat_lit 214, nat_lit 215]
noncomputable def kept : List Nat := [0, 2, 4, 6, 7, 8, 9, 10, 11, 13, 14, 15, 16, 17, 18, 19, 20, 21, 22, 23]
noncomputable def vw : Program := { pw with main := { pw.main with body := [nthS tops 0, nthS tops 2, nthS tops 4, nthS tops 6, nthS tops 7, nthS tops 8, nthS tops 9, nthS tops 10, nthS tops 11, nthS tops 13, nthS tops 14, nthS tops 15, nthS tops 16, nthS tops 17, nthS tops 18, nthS tops 19, nthS tops 20, nthS tops 21, nthS tops 22, nthS tops 23] } }
noncomputable def looseN : List Str := [Str.ofString "b1_set", Str.ofString "b3_exceptions", Str.ofString "c9_set"]
noncomputable abbrev KH : Hook := kHook KF KA (fun _ => by kernel_rfl)
noncomputable abbrev rwR : OpenRow := PySem.Challenge.rw_rs0160_01.row
theorem leftO : LeftO pw vw looseN (fun s => xlAt vw [] s && recOk (RowW.records rwR.toRowW) s) KH.obs KH.val 36300 true := by
  refine LeftO.of_pieces (H₀ := boot_heap) (H₁ := fun P => absHeap (tr23 P) 216 {}) (gs₀ := #[]) (gs₁ := #[]) (d₀ := boot_drawn) (d₁ := {}) (k₀ := boot_toks) (k₁ := 2582) (m₀ := 11) (ann := ann0) (M := 30000) ?_ ?_ ?_ ?_ ?_
  · exact boot_open rfl (by decide) (fun s => rfl)
  · intro w; kernel_rfl
  · exact topRun0
  · decide
  · intro w; rw [Fast.te4187177175401517315]; kernel_rfl
end Mine

open PySem PySem.W PySem.Calls PyProof.Rows
set_option Elab.async false
set_option maxRecDepth 1000000
set_option maxHeartbeats 0
set_option linter.unusedVariables false
namespace Mine
noncomputable abbrev pwp : Program := PySem.Challenge.rw_rs0160_01.prog
noncomputable abbrev MW (w : World) : Model := model pwp w
structure Gd (w : World) (h : Heap) : Prop where
  k : (KF w.params).In h
  t : ∃ p loose mean mg mb, Top p loose mean mg mb h
  c9 : InvS (c9S w.params) (sOf tkf keysC 0)
noncomputable def Ext (h h' : Heap) : Prop := ∀ b o, h.get? b = some o → h'.get? b = some o
theorem Ext.refl (h : Heap) : Ext h h := fun _ _ e => e
theorem Ext.trans {h h' h'' : Heap} (a : Ext h h') (b : Ext h' h'') : Ext h h'' := fun x o e => b x o (a x o e)
theorem Gd.keeps {w : World} {h h' : Heap} (G : Gd w h) (e : Ext h h') : Gd w h' := ⟨G.k.keeps e, let ⟨p, l, a, b, c, T⟩ := G.t; ⟨p, l, a, b, c, T.keeps e⟩, G.c9⟩
theorem look_fn {w : World} {h : Heap} (G : Gd w h) {a : Addr} {o : Obj} (e : (KF w.params).lookup a = some o) : h.get? a = some o := G.k a o e
noncomputable def doc (fd : Stmt) (name : Str) (pm cd : Value) : FuncData := Calls.docDef name (sParams fd) (sBody fd) (sScope fd) pm cd .none
theorem call_def {w : World} {s : Shared} {A : Around} {Q E : Value → Shared → Prop} {f : Addr} {fd : Stmt} {name : Str} {pm cd : Value} {o : Obj} {args : List Value} {binds : List (Str × Value)}
    (G : Gd w s.heap) (hr : A.depth < recursionLimit) (ho : (KF w.params).lookup f = some o) (hdata : o.data = .func (doc fd name pm cd)) (hcd : codeIn (KF w.params) cd name = true)
    (hbind : bindArgs (doc fd name pm cd) ⟨args, []⟩ = pure binds) (hloc : (binds.all fun x => decide ((sScope fd).names.lookup x.1 = some .local)) = true)
    (hco : (sScope fd).isCoroutine = false) (hgen : (sScope fd).isGenerator = false) (hk : (sScope fd).kind = .function) (hcell : ((sScope fd).names.all fun x => x.2 != .cell) = true)
    (h : ∀ h₁, Fr s.heap s.heap.objs.size h₁ (fun x => binds.reverse.lookup x) → Gd w h₁ →
      wpAny (MW w) (A.deeper (envOf name (sScope fd) s.heap.objs.size f cd)) (execs (sBody fd) (envOf name (sScope fd) s.heap.objs.size f cd))
        (fun fl s' => Q (match fl with | .ret v => v | _ => .none) s') (fun _ _ => False) { s with heap := h₁, toks := s.toks + binds.length }) :
    wpAny (MW w) A (call (.ref f) args) Q E s := by
  obtain ⟨_, _, mean, mg, mb, T⟩ := G.t
  refine wpAny_call (call_plain_ret hr (look_fn G ho) hdata T.nolimit (codeRec_of G.k hcd) hbind (locs hloc) (fun h₁ F => ?_) hco hgen hk (fun x hx => ?_))
  · exact h h₁ F (G.keeps F.keep)
  · have := List.all_eq_true.mp hcell x hx
    simpa using this
section
variable {w : World} {A : Around} {E Q : Value → Shared → Prop} {s : Shared} {h₀ : Heap} {L a : Addr} {m : Str → Option Value} {cn : Str} {cs : Scope} {ccd : Value}
/-- a global name of the text -/
theorem gname {x : Str} {pos : Pos} {v : Value} (F : Fr h₀ L s.heap m) (G : Gd w h₀) (e : nsIn (KF w.params) mainGlobals x = some (some v))
    (hk : cs.kind = .function) (hx : (envOf cn cs L a ccd).kindOf x = some .globalImplicit) (hd : (x == ("__debug__" : Str)) = false) (h : Q v s) :
    wpAny (MW w) A (eval (.Name x pos) (envOf cn cs L a ccd)) Q E s := by
  obtain ⟨_, _, mean, mg, mb, T⟩ := G.t
  exact name_K F G.k (topRead_of T) e h hk hx hd
theorem bname {x : Str} {pos : Pos} {v : Value} (F : Fr h₀ L s.heap m) (G : Gd w h₀) (e : nsIn (KF w.params) mainGlobals x = some none) (hv : bootBuiltins x = some v) (hn : x ≠ "__name__")
    (hk : cs.kind = .function) (hx : (envOf cn cs L a ccd).kindOf x = some .globalImplicit) (hd : (x == ("__debug__" : Str)) = false) (h : Q v s) :
    wpAny (MW w) A (eval (.Name x pos) (envOf cn cs L a ccd)) Q E s := by
  obtain ⟨_, _, mean, mg, mb, T⟩ := G.t
  exact name_B F G.k (topRead_of T) e hv hn h hk hx hd
end
/-- what the walk asks of a call's surroundings -/
noncomputable abbrev Back (s : Shared) (V : Value → Heap → Prop) (Q : Value → Shared → Prop) : Prop := ∀ v h' tk', V v h' → Ext s.heap h' → Q v { s with heap := h', toks := tk' }
end Mine

open PySem PySem.W PySem.Calls PyProof.Rows
set_option Elab.async false
set_option maxRecDepth 1000000
set_option maxHeartbeats 0
set_option linter.unusedVariables false
namespace Mine
theorem g_netrclex (P : Params) : nsIn (KF P) mainGlobals (Str.ofString "_netrclex") = some (some (.ref 59)) := by kernel_rfl
theorem g_parse_varint (P : Params) : nsIn (KF P) mainGlobals (Str.ofString "_parse_varint") = some (some (.ref 70)) := by kernel_rfl
theorem gb1_set (P : Params) : nsIn (KF P) mainGlobals (Str.ofString "b1_set") = some (some (.ref 78)) := by kernel_rfl
theorem gin_table_b1 (P : Params) : nsIn (KF P) mainGlobals (Str.ofString "in_table_b1") = some (some (.ref 88)) := by kernel_rfl
theorem gb3_exceptions (P : Params) : nsIn (KF P) mainGlobals (Str.ofString "b3_exceptions") = some (some (.ref 89)) := by kernel_rfl
theorem gmap_table_b3 (P : Params) : nsIn (KF P) mainGlobals (Str.ofString "map_table_b3") = some (some (.ref 134)) := by kernel_rfl
theorem gc9_set (P : Params) : nsIn (KF P) mainGlobals (Str.ofString "c9_set") = some (some (.ref 142)) := by kernel_rfl
theorem gin_table_c9 (P : Params) : nsIn (KF P) mainGlobals (Str.ofString "in_table_c9") = some (some (.ref 152)) := by kernel_rfl
theorem g_law_stream (P : Params) : nsIn (KF P) mainGlobals (Str.ofString "_law_stream") = some (some (.ref 159)) := by kernel_rfl
theorem g_law_tag (P : Params) : nsIn (KF P) mainGlobals (Str.ofString "_law_tag") = some (some (.ref 166)) := by kernel_rfl
theorem g_law_sign (P : Params) : nsIn (KF P) mainGlobals (Str.ofString "_law_sign") = some (some (.ref 171)) := by kernel_rfl
theorem g_law_unseen (P : Params) : nsIn (KF P) mainGlobals (Str.ofString "_law_unseen") = some (some (.ref 176)) := by kernel_rfl
theorem g_law_shown (P : Params) : nsIn (KF P) mainGlobals (Str.ofString "_law_shown") = some (some (.ref 181)) := by kernel_rfl
theorem g_law_page (P : Params) : nsIn (KF P) mainGlobals (Str.ofString "_law_page") = some (some (.ref 188)) := by kernel_rfl
theorem g_law_text (P : Params) : nsIn (KF P) mainGlobals (Str.ofString "_law_text") = some (some (.ref 193)) := by kernel_rfl
theorem g_law_prepared (P : Params) : nsIn (KF P) mainGlobals (Str.ofString "_law_prepared") = some (some (.ref 198)) := by kernel_rfl
theorem g_law_read (P : Params) : nsIn (KF P) mainGlobals (Str.ofString "_law_read") = some (some (.ref 205)) := by kernel_rfl
theorem g_law_undone (P : Params) : nsIn (KF P) mainGlobals (Str.ofString "_law_undone") = some (some (.ref 210)) := by kernel_rfl
theorem gb_ord (P : Params) : nsIn (KF P) mainGlobals (Str.ofString "ord") = some none := by kernel_rfl
theorem gb_iter (P : Params) : nsIn (KF P) mainGlobals (Str.ofString "iter") = some none := by kernel_rfl
theorem gb_next (P : Params) : nsIn (KF P) mainGlobals (Str.ofString "next") = some none := by kernel_rfl
theorem gb_chr (P : Params) : nsIn (KF P) mainGlobals (Str.ofString "chr") = some none := by kernel_rfl
theorem gb_len (P : Params) : nsIn (KF P) mainGlobals (Str.ofString "len") = some none := by kernel_rfl
theorem gb_sum (P : Params) : nsIn (KF P) mainGlobals (Str.ofString "sum") = some none := by kernel_rfl
theorem gb_range (P : Params) : nsIn (KF P) mainGlobals (Str.ofString "range") = some none := by kernel_rfl
section
open PyProof.Rows in
theorem Globals_cb1 {M : Model} {A : Around} {E : Value → Shared → Prop} {s : Shared} {env : Env} {pos : Pos} {id : String} {e : Expr} {rest : List Expr} {Q : Value → Shared → Prop}
    (h : wpAny M A (spliced (backTo pos (starEach (e :: rest) env))) (fun vs s₁ => wpAny M A (call (.builtin id) vs) Q E s₁) E s)
    (he : starEach (e :: rest) env = (false, eval e env) :: starEach rest env := by rfl)
    (hplain : (backTo pos (starEach rest env)).any (·.1) = false := by rfl) :
    wpAny M A (callWith pos (.builtin id) [] (backTo pos (starEach (e :: rest) env)) []) Q E s := PyProof.Rows.callWith_builtin1 h he hplain
variable {w : World} {s : Shared} {A : Around} {Q E : Value → Shared → Prop}
noncomputable def b1L : List Int := [65024, 65025, 65026, 65027, 65028, 65029, 6150, 65030, 65031, 65032, 65033, 6155, 6156, 6157, 8203, 8204, 8205, 65034, 65035, 65036, 65037, 65038, 65039, 173, 847, 8288, 65279]
noncomputable def b1 (c : Nat) : Bool := b1L.contains (c : Int)
noncomputable def c9 (c : Nat) : Bool := keysC.contains (c : Int)
theorem scans_int (es : Array (Int × Value)) (L : List Int) (h : es.toList.map (fun e => (e.1, (match e.2 with | .int k _ => some k | _ => none))) = L.map fun k => (hashInt k, some k)) :
    ElemsOf (intKind pwp w) es.toList ∧ ∀ k, L.contains k = true ↔ ∃ e ∈ es.toList, (intKind pwp w).is k e.2 = true := by
  have key : ∀ e ∈ es.toList, ∃ k ∈ L, ∃ t, e = (hashInt k, Value.int k t) := by
    intro e he
    have hm : (e.1, (match e.2 with | .int k _ => some k | _ => none)) ∈ L.map fun k => (hashInt k, some k) := by rw [← h]; exact List.mem_map_of_mem he
    obtain ⟨k, hk, e1⟩ := List.mem_map.mp hm
    obtain ⟨e1a, e1b⟩ := Prod.mk.inj e1
    obtain ⟨a, v⟩ := e
    cases v <;> simp at e1b
    subst e1b
    exact ⟨_, hk, _, by simp only at e1a; rw [e1a]⟩
  refine ⟨fun e he => ?_, fun k => ⟨fun hk => ?_, fun ⟨e, he, hek⟩ => ?_⟩⟩
  · obtain ⟨k, hk, t, rfl⟩ := key e he
    exact ⟨⟨k, by simp [intKind, Value.isInt], rfl⟩, rfl⟩
  · have hk' : k ∈ L := by simpa using hk
    have hm : (hashInt k, some k) ∈ es.toList.map (fun e => (e.1, (match e.2 with | .int k _ => some k | _ => none))) := by rw [h]; exact List.mem_map.mpr ⟨k, hk', rfl⟩
    obtain ⟨e, he, e1⟩ := List.mem_map.mp hm
    refine ⟨e, he, ?_⟩
    obtain ⟨a, v⟩ := e
    obtain ⟨_, e1b⟩ := Prod.mk.inj e1
    cases v <;> simp at e1b
    subst e1b
    simp [intKind, Value.isInt]
  · obtain ⟨k', hk', t, rfl⟩ := key e he
    have : k' = k := by simpa [intKind, Value.isInt] using hek
    subst this
    simpa using hk'
theorem set_b1 (G : Gd w s.heap) : s.heap.SetOf (intKind pwp w) 78 (fun k => b1L.contains k) 27 := by
  have ho := look_fn G (a := 78) (o := o78 w.params) (by kernel_rfl)
  obtain ⟨h1, h2⟩ := scans_int (w := w) (match (o78 w.params).data with | .set es _ _ => es | _ => #[]) b1L (by kernel_rfl)
  exact ⟨o78 w.params, _, _, _, ho, ⟨rfl, rfl, rfl⟩, rfl, h1, h2, by decide +kernel, by kernel_rfl, by rfl⟩
theorem sOf_mem (tk : Nat → Nat) : ∀ (l : List Int) (i : Nat) (e : Int × Value), e ∈ sOf tk l i → ∃ k ∈ l, ∃ t, e = (hashInt k, Value.int k t)
  | k :: r, i, e, h => by
    rcases List.mem_cons.mp h with rfl | h
    · exact ⟨k, .head _, _, rfl⟩
    · obtain ⟨k', h1, h2⟩ := sOf_mem tk r _ e h; exact ⟨k', .tail _ h1, h2⟩
theorem sOf_has (tk : Nat → Nat) : ∀ (l : List Int) (i : Nat) (k : Int), k ∈ l → ∃ t, (hashInt k, Value.int k t) ∈ sOf tk l i
  | k' :: r, i, k, h => by
    rcases List.mem_cons.mp h with rfl | h
    · exact ⟨_, .head _⟩
    · obtain ⟨t, ht⟩ := sOf_has tk r (i + 1) k h; exact ⟨t, .tail _ ht⟩
theorem sOf_len (tk : Nat → Nat) : ∀ (l : List Int) (i : Nat), (sOf tk l i).length = l.length
  | [], _ => rfl
  | k :: r, i => by show (sOf tk r (i + 1)).length + 1 = r.length + 1; rw [sOf_len tk r]
theorem set_c9 (G : Gd w s.heap) : s.heap.SetOf (intKind pwp w) 142 (fun k => keysC.contains k) 97 := by
  have ho := look_fn G (a := 142) (o := o142 w.params) (by kernel_rfl)
  obtain ⟨hp, hf⟩ := G.c9
  have hl : (c9S w.params).es.size = 97 := by
    have := hp.length_eq
    rw [sOf_len] at this
    simpa [keysC] using this
  refine ⟨o142 w.params, (c9S w.params).es, _, _, ho, ⟨rfl, rfl, rfl⟩, rfl, fun e he => ?_, fun k => ⟨fun hk => ?_, fun ⟨e, he, hek⟩ => ?_⟩, by rw [hl]; decide, hf, hl⟩
  · obtain ⟨k, hk, t, rfl⟩ := sOf_mem tkf keysC 0 e (hp.mem_iff.mp he)
    exact ⟨⟨k, by simp [intKind, Value.isInt], rfl⟩, rfl⟩
  · have hk' : k ∈ keysC := by simpa using hk
    obtain ⟨t, ht⟩ := sOf_has tkf keysC 0 k hk'
    exact ⟨_, hp.mem_iff.mpr ht, by simp [intKind, Value.isInt]⟩
  · obtain ⟨k', hk', t, rfl⟩ := sOf_mem tkf keysC 0 e (hp.mem_iff.mp he)
    have : k' = k := by simpa [intKind, Value.isInt] using hek
    subst this
    simpa using hk'
theorem con_b1 (G : Gd w s.heap) (hr : A.depth < recursionLimit) (c : Nat) (tk : Tok) (h : Back s (fun v _ => v = .bool (b1 c)) Q) :
    wpAny (MW w) A (call (.ref 88) [.str ⟨#[c]⟩ tk]) Q E s := by
  refine call_def (fd := fd_in_table_b1) (name := Str.ofString "in_table_b1") (binds := [(Str.ofString "code", .str ⟨#[c]⟩ tk)]) G hr (o := o88 w.params) (by kernel_rfl) rfl (by kernel_rfl) (by kernel_rfl) (by kernel_rfl) (by kernel_rfl) (by kernel_rfl) (by kernel_rfl) (by kernel_rfl) (fun h₁ F G1 => ?_)
  conv in (sBody _) => whnf
  refine wpAny_execs_cons (wpAny_Return_some (wpAny_Compare1 (Call_ (bname F G (gb_ord _) (by boot_by_name) (by decide) rfl rfl rfl (Globals_cb1 (args_cons (ld F rfl (args_nil (P.ord_of_char ?_)))))))))
  refine gname F G (gb1_set _) rfl rfl rfl ?_
  refine wpAny_inSet_of (knd := intKind pwp w) (k := (c : Int)) (by simp [intKind, Value.isInt]) rfl (set_b1 (s := ⟨h₁, s.gens, s.drawn, s.toks, s.os⟩) G1) ?_
  exact h _ _ _ rfl F.keep
end
end Mine

open PySem PySem.W PySem.Calls PyProof.Rows
set_option Elab.async false
set_option maxRecDepth 1000000
set_option maxHeartbeats 0
set_option linter.unusedVariables false
namespace Mine
noncomputable def str (l : List Nat) : Str := ⟨l.toArray⟩
/-- what one sign is folded to -/
noncomputable def b3 (c : Nat) : List Nat := match b3KV.lookup (c : Int) with
  | some v => v.cps.toList
  | none => Unicode.lowerAt #[c] 0
section
variable {w : World} {s : Shared} {A : Around} {Q E : Value → Shared → Prop}
theorem con_c9 (G : Gd w s.heap) (hr : A.depth < recursionLimit) (c : Nat) (tk : Tok) (h : Back s (fun v _ => v = .bool (c9 c)) Q) :
    wpAny (MW w) A (call (.ref 152) [.str ⟨#[c]⟩ tk]) Q E s := by
  refine call_def (fd := fd_in_table_c9) (name := Str.ofString "in_table_c9") (binds := [(Str.ofString "code", .str ⟨#[c]⟩ tk)]) G hr (o := o152 w.params) (by kernel_rfl) rfl (by kernel_rfl) (by kernel_rfl) (by kernel_rfl) (by kernel_rfl) (by kernel_rfl) (by kernel_rfl) (by kernel_rfl) (fun h₁ F G1 => ?_)
  conv in (sBody _) => whnf
  refine wpAny_execs_cons (wpAny_Return_some (wpAny_Compare1 (Call_ (bname F G (gb_ord _) (by boot_by_name) (by decide) rfl rfl rfl (Globals_cb1 (args_cons (ld F rfl (args_nil (P.ord_of_char ?_)))))))))
  refine gname F G (gc9_set _) rfl rfl rfl ?_
  refine wpAny_inSet_of (knd := intKind pwp w) (k := (c : Int)) (by simp [intKind, Value.isInt]) rfl (set_c9 (s := ⟨h₁, s.gens, s.drawn, s.toks, s.os⟩) G1) ?_
  exact h _ _ _ rfl F.keep
theorem find_ents (d : Nat) (k : Int) : ∀ (l : List (Int × Str)) (t : Nat), ∃ u, ((ents t d l).find? (fun e => Value.isInt k e.key)).map (·.val) = (l.lookup k).map (fun v => Value.str v u)
  | [], t => ⟨0, rfl⟩
  | kv :: r, t => by
    obtain ⟨u, hu⟩ := find_ents d k r (t + d)
    show ∃ u, ((⟨kv.1, .int kv.1 t, .str kv.2 (t + 1)⟩ :: ents (t + d) d r : List DictEntry).find? (fun e => Value.isInt k e.key)).map (·.val) = _
    rw [List.find?_cons]
    obtain ⟨a, b⟩ := kv
    by_cases h : k = a
    · subst h
      refine ⟨t + 1, ?_⟩
      simp [Value.isInt, List.lookup]
    · refine ⟨u, ?_⟩
      have h1 : Value.isInt k (Value.int a t) = false := by simp [Value.isInt]; exact fun e => h e.symm
      simp only [h1]
      rw [hu, List.lookup_cons]
      have : (k == a) = false := by simpa using h
      rw [this]
theorem lookup_append (k : Int) : ∀ (a b : List (Int × Str)), (a ++ b).lookup k = (a.lookup k).or (b.lookup k)
  | [], b => by simp
  | (x, y) :: r, b => by
    rw [List.cons_append, List.lookup_cons, List.lookup_cons]
    cases (k == x) with
    | true => rfl
    | false => exact lookup_append k r b
theorem find_b3 (k : Int) : ∃ u, findBy (intKind pwp w).is (ents 334 3 (b3KV.take 646) ++ ents 2272 2 (b3KV.drop 646)).toArray k = (b3KV.lookup k).map (fun v => Value.str v u) := by
  obtain ⟨u1, h1⟩ := find_ents 3 k (b3KV.take 646) 334
  obtain ⟨u2, h2⟩ := find_ents 2 k (b3KV.drop 646) 2272
  unfold findBy
  rw [List.find?_toArray, List.find?_append]
  have e : b3KV.lookup k = ((b3KV.take 646).lookup k).or ((b3KV.drop 646).lookup k) := by rw [← lookup_append, List.take_append_drop]
  rw [e]
  show ∃ u, (((ents 334 3 (b3KV.take 646)).find? (fun e => Value.isInt k e.key)).or ((ents 2272 2 (b3KV.drop 646)).find? (fun e => Value.isInt k e.key))).map (·.val) = _
  cases hc : (ents 334 3 (b3KV.take 646)).find? (fun e => Value.isInt k e.key) with
  | some x =>
    rw [hc] at h1
    refine ⟨u1, ?_⟩
    cases hl : (b3KV.take 646).lookup k with
    | none => rw [hl] at h1; cases h1
    | some y => rw [hl] at h1; exact h1
  | none =>
    rw [hc] at h1
    refine ⟨u2, ?_⟩
    cases hl : (b3KV.take 646).lookup k with
    | some y => rw [hl] at h1; cases h1
    | none => exact h2
theorem map_b3 (G : Gd w s.heap) : s.heap.MapOf (intKind pwp w) 89 (findBy (intKind pwp w).is (ents 334 3 (b3KV.take 646) ++ ents 2272 2 (b3KV.drop 646)).toArray) := by
  have ho := look_fn G (a := 89) (o := o89 w.params) (by kernel_rfl)
  refine ⟨o89 w.params, _, _, ho, ⟨rfl, rfl, rfl⟩, rfl, fun e he => ?_, fun k => rfl⟩
  have key : ∀ (d t : Nat) (l : List (Int × Str)), (∀ kv ∈ l, hashInt kv.1 = kv.1) → e ∈ ents t d l → ∃ k, (intKind pwp w).is k e.key = true ∧ e.hash = (intKind pwp w).hash k := by
    intro d t l hl hm
    obtain ⟨kv, hkv, e1, u, e2⟩ := ents_hash (t := 0) hm
    refine ⟨kv.1, ?_, ?_⟩
    · rw [e2]; simp [intKind, Value.isInt]
    · rw [e1]; exact (hl kv hkv).symm
  rw [List.mem_toArray] at he
  rcases List.mem_append.mp he with he | he
  · exact key 3 334 _ (fun kv h => b3_hash kv (List.mem_of_mem_take h)) he
  · exact key 2 2272 _ (fun kv h => b3_hash kv (List.mem_of_mem_drop h)) he
theorem lower_one (c : Nat) : Txt.lower ⟨#[c]⟩ = str (Unicode.lowerAt #[c] 0) := by
  unfold Txt.lower str PySem.placed
  congr 1
  apply Array.toList_inj.mp
  simp
theorem con_b3 (G : Gd w s.heap) (hr : A.depth < recursionLimit) (c : Nat) (tk : Tok) (h : Back s (fun v _ => ∃ u, v = .str (str (b3 c)) u) Q) :
    wpAny (MW w) A (call (.ref 134) [.str ⟨#[c]⟩ tk]) Q E s := by
  refine call_def (fd := fd_map_table_b3) (name := Str.ofString "map_table_b3") (binds := [(Str.ofString "code", .str ⟨#[c]⟩ tk)]) G hr (o := o134 w.params) (by kernel_rfl) rfl (by kernel_rfl) (by kernel_rfl) (by kernel_rfl) (by kernel_rfl) (by kernel_rfl) (by kernel_rfl) (by kernel_rfl) (fun h₁ Fm G1 => ?_)
  conv in (sBody _) => whnf
  obtain ⟨u, hu⟩ := find_b3 (w := w) (c : Int)
  have hm : ∀ s' : Shared, s'.heap = h₁ → s'.heap.MapOf (intKind pwp w) 89 (findBy (intKind pwp w).is (ents 334 3 (b3KV.take 646) ++ ents 2272 2 (b3KV.drop 646)).toArray) := fun s' e => map_b3 (by rw [e]; exact G1)
  refine wpAny_execs_cons (wpAny_Assign_Name (Call_method1 rfl rfl rfl (gname Fm G (gb3_exceptions _) rfl rfl rfl
    ⟨"dict", "dict.get", F.plainAttrs_dict, F.slot_dict_get, F.type_dict_get, (hm _ rfl).typeIs, fun a e => ?_, ?_⟩)))
  · cases e
    exact ⟨_, look_fn G1 (o := o89 w.params) (by kernel_rfl), rfl⟩
  refine wpAny_dict_get1 (knd := intKind pwp w) rfl (Call_ (bname Fm G (gb_ord _) (by boot_by_name) (by decide) rfl rfl rfl (Globals_cb1 (args_cons (ld Fm rfl (args_nil (P.ord_of_char ?_)))))))
  refine ⟨(c : Int), _, by simp [intKind, Value.isInt], hm _ rfl, ?_⟩
  rw [hu]
  cases hl : b3KV.lookup (c : Int) with
  | some v =>
    refine st Fm (fun h₂ Fm2 => ?_) rfl rfl
    dsimp only
    have e : str (b3 c) = v := by unfold b3 str; rw [hl]
    refine wpAny_execs_cons (wpAny_If (wpAny_isTrue_Compare1 (ld Fm2 rfl (Constant_none (wpAny_isNot_plain rfl (wpAny_truthy_bool ?_))))))
    refine wpAny_execs_cons (wpAny_Return_some (ld Fm2 rfl ?_))
    exact h _ _ _ ⟨u, by rw [e]; rfl⟩ Fm2.keep
  | none =>
    refine st Fm (fun h₂ Fm2 => ?_) rfl rfl
    dsimp only
    have e : str (b3 c) = str (Unicode.lowerAt #[c] 0) := by unfold b3; rw [hl]
    refine wpAny_execs_cons (wpAny_If (wpAny_isTrue_Compare1 (ld Fm2 rfl (Constant_none (wpAny_isNot_plain rfl (wpAny_truthy_bool ?_))))))
    refine wpAny_execs_nil ?_
    refine wpAny_execs_cons (wpAny_Return_some (Call_method0 rfl rfl (ld Fm2 rfl (SB.lower (fit_lower (by show 1 ≤ 5592405; decide)) ?_))))
    exact h _ _ _ ⟨_, by rw [e, lower_one]⟩ Fm2.keep
end
end Mine

open PySem PySem.W PySem.Calls PyProof.Rows
set_option Elab.async false
set_option maxRecDepth 1000000
set_option maxHeartbeats 0
set_option linter.unusedVariables false
namespace Mine
section
variable {w : World} {s : Shared} {A : Around} {Q E : Value → Shared → Prop} {env : Env}
theorem gnameE {x : Str} {pos : Pos} {v : Value} (G : Gd w s.heap) (e : nsIn (KF w.params) mainGlobals x = some (some v)) (hg : env.globals = mainGlobals)
    (hk : env.scope.kind = .function) (hx : env.kindOf x = some .globalImplicit) (hd : (x == ("__debug__" : Str)) = false) (h : Q v s) :
    wpAny (MW w) A (eval (.Name x pos) env) Q E s := by
  obtain ⟨_, _, mean, mg, mb, T⟩ := G.t
  exact Name_function_global hk hx (loadGlobal_global (env := env) (by rw [hg]; exact T.g) (mg_of G.k T.g e) h) hd
theorem bnameE {x : Str} {pos : Pos} {v : Value} (G : Gd w s.heap) (e : nsIn (KF w.params) mainGlobals x = some none) (hv : bootBuiltins x = some v) (hn : x ≠ "__name__") (hg : env.globals = mainGlobals) (hb : env.builtins = builtinsNs)
    (hk : env.scope.kind = .function) (hx : env.kindOf x = some .globalImplicit) (hd : (x == ("__debug__" : Str)) = false) (h : Q v s) :
    wpAny (MW w) A (eval (.Name x pos) env) Q E s := by
  obtain ⟨_, _, mean, mg, mb, T⟩ := G.t
  exact Name_function_global hk hx (loadGlobal_builtin (env := env) (by rw [hg]; exact T.g) (mg_none_of G.k T.g e) (by rw [hb]; exact T.b) ((T.builtins x hn).trans hv) h) hd
/-- a def of the text, called by its name -/
theorem call1 {x : Str} {p1 pos : Pos} {f : Addr} {o : Obj} {fd : FuncData} {arg : Expr} (G : Gd w s.heap) (e : nsIn (KF w.params) mainGlobals x = some (some (.ref f))) (ho : (KF w.params).lookup f = some o) (hdat : o.data = .func fd)
    (hg : env.globals = mainGlobals) (hk : env.scope.kind = .function) (hx : env.kindOf x = some .globalImplicit) (hd : (x == ("__debug__" : Str)) = false)
    (hst : starEach [arg] env = [(false, eval arg env)]) (he : eval (.Call (.Name x p1) [arg] [] pos) env = (do callWith pos (← eval (.Name x p1) env) [] (backTo pos (starEach [arg] env)) (backToKw pos (keywordEach [] env))))
    (h : wpAny (MW w) A (eval arg env) (fun v s₁ => Ext s.heap s₁.heap ∧ wpAny (MW w) A (call (.ref f) [v]) Q E s₁) E s) : wpAny (MW w) A (eval (.Call (.Name x p1) [arg] [] pos) env) Q E s := by
  refine Call_ (gnameE G e hg hk hx hd ?_) he
  refine callWith_def (o := o) (fd := fd) (e := arg) (rest := []) hdat ?_ hst
  refine args_cons (wpAny_mono h (fun v s₁ h₁ => ?_) fun _ _ x => x) hst
  exact args_nil ⟨h₁.1 _ _ (look_fn G ho), h₁.2⟩
end
noncomputable def keepC (c : Nat) : Bool := !(b1 c) && !(c9 c)
/-- a text prepared -/
noncomputable def prep (l : List Nat) : List Nat := (l.filter keepC).flatMap b3
theorem str_app (a b : List Nat) : str a ++ str b = str (a ++ b) := by
  show (⟨a.toArray ++ b.toArray⟩ : Str) = ⟨(a ++ b).toArray⟩
  rw [List.append_toArray]
theorem join_str : ∀ ls : List (List Nat), Txt.join (str []) (ls.map str) = str ls.flatten := by
  intro ls
  have h1 := eq_of_beq (join_plain_closes (str []) (ls.map str))
  rw [h1]
  induction ls with
  | nil => rfl
  | cons a r ih =>
    have := join_nil_cons (str a) (r.map str)
    show Str.join ⟨#[]⟩ (str a :: r.map str) = _
    rw [this]
    have e2 : Str.join ⟨#[]⟩ (r.map str) = str r.flatten := ih (eq_of_beq (join_plain_closes (str []) (r.map str)))
    rw [e2, str_app]
    rfl
theorem codesOf {x : List Nat} {vs : List Value} (hl : vs.length = x.length) (hP : ∀ j v, vs[j]? = some v → SignAt (str x) j v) : Paired (fun v c => ∃ u, v = Value.str ⟨#[c]⟩ u) vs x := by
  induction vs generalizing x with
  | nil => cases x with
    | nil => exact .nil
    | cons a b => cases hl
  | cons v vs ih => cases x with
    | nil => cases hl
    | cons c x =>
      refine .cons ?_ (ih (by simpa using hl) (fun j v' hv => ?_))
      · obtain ⟨c', u, h1, h2⟩ := hP 0 v rfl
        simp [str] at h1
        subst h1
        exact ⟨u, h2⟩
      · obtain ⟨c', u, h1, h2⟩ := hP (j + 1) v' (by simpa using hv)
        exact ⟨c', u, by simpa [str] using h1, h2⟩
noncomputable def codeOf : Value → Nat
  | .str s _ => s.cps.getD 0 0
  | _ => 0
theorem paired_strs {f : Nat → List Nat} {g : Nat → Bool} {F : Value → Value → Prop} (hF : ∀ c u y, F (.str ⟨#[c]⟩ u) y → ∃ u', y = .str (str (f c)) u') : ∀ {vs : List Value} {x : List Nat} {ys : List Value},
    Paired (fun v c => ∃ u, v = Value.str ⟨#[c]⟩ u) vs x → Paired F (vs.filter (fun v => g (codeOf v))) ys → ∃ l : List (Str × Tok), ys = strValues l ∧ l.map (·.1) = ((x.filter g).map f).map str
  | _, _, ys, .nil, h => by
    cases h
    exact ⟨[], rfl, rfl⟩
  | _, _, ys, .cons (a := v) (b := c) (l₁ := vs) (l₂ := x) hv ht, h => by
    obtain ⟨u, rfl⟩ := hv
    rw [List.filter_cons] at h ⊢
    have e : codeOf (.str ⟨#[c]⟩ u) = c := rfl
    rw [e] at h
    cases hg : g c with
    | false =>
      rw [hg] at h
      exact paired_strs hF ht h
    | true =>
      rw [hg] at h
      cases h with
      | cons h1 h2 =>
        obtain ⟨l, hl1, hl2⟩ := paired_strs hF ht h2
        obtain ⟨u', rfl⟩ := hF c u _ h1
        exact ⟨(str (f c), u') :: l, by rw [hl1]; rfl, by rw [List.map_cons, hl2]; rfl⟩
end Mine

open PySem PySem.W PySem.Calls PyProof.Rows
set_option Elab.async false
set_option maxRecDepth 1000000
set_option maxHeartbeats 0
set_option linter.unusedVariables false
namespace Mine
theorem lookup_mem {k : Int} {v : Str} : ∀ {l : List (Int × Str)}, l.lookup k = some v → (k, v) ∈ l
  | (a, b) :: r, h => by
    rw [List.lookup_cons] at h
    cases hk : (k == a) with
    | true =>
      rw [hk] at h
      have : k = a := by simpa using hk
      cases h; subst this; exact .head _
    | false => rw [hk] at h; exact .tail _ (lookup_mem h)
theorem b3_len (c : Nat) : (b3 c).length ≤ 8 := by
  unfold b3
  cases h : b3KV.lookup (c : Int) with
  | none => have := StrLaws.lowerAt_le3 #[c] 0; simp only; omega
  | some v =>
    have hall : b3KV.all (fun kv => decide (kv.2.cps.toList.length ≤ 8)) = true := by kernel_rfl
    have := List.all_eq_true.mp hall _ (lookup_mem h)
    simpa using this
theorem sum_str (B : Nat) : ∀ ls : List (List Nat), (∀ x ∈ ls, x.length ≤ B) → ((ls.map str).map (·.length)).sum ≤ B * ls.length
  | [], _ => by simp
  | a :: r, h => by
    have h1 := sum_str B r (fun x hx => h x (.tail _ hx))
    have h2 := h a (.head _)
    have h3 : (str a).length = a.length := by simp [str, Str.length]
    simp only [List.map_cons, List.sum_cons, List.length_cons, Nat.mul_succ]
    rw [h3]
    omega
section
variable {w : World} {s : Shared} {A : Around} {Q E : Value → Shared → Prop} {env : Env}
theorem con_prep (G : Gd w s.heap) (hA : A.handled = none) (hr : A.depth + 2 < recursionLimit) (l : List Nat) (hl : l.length ≤ 1000000) (tk : Tok) (h : Back s (fun v _ => ∃ u, v = .str (str (prep l)) u) Q) :
    wpAny (MW w) A (call (.ref 198) [.str (str l) tk]) Q E s := by
  refine call_def (fd := fd__law_prepared) (name := Str.ofString "_law_prepared") (binds := [(Str.ofString "text", .str (str l) tk)]) G (by omega) (o := o198 w.params) (by kernel_rfl) rfl (by kernel_rfl) (by kernel_rfl) (by kernel_rfl) (by kernel_rfl) (by kernel_rfl) (by kernel_rfl) (by kernel_rfl) (fun h₁ Fm G1 => ?_)
  conv in (sBody _) => whnf
  refine wpAny_execs_cons (wpAny_Return_some (Call_method1 rfl rfl rfl (wpAny_Constant_str (SB.join (wpAny_ListComp_walk (fun v => keepC (codeOf v)) (fun v y => ∃ c u u', v = .str ⟨#[c]⟩ u ∧ y = .str (str (b3 c)) u') ?_ ?_ ?_ ?_ ?_
    (ld Fm rfl (wpAny_pyIter_str (fun o St W hst => ⟨_, _, _, _, _, St, rfl, W _ ?_, ?_, hst, ?_, ?_, ?_⟩))))))))
  · decide
  · decide
  · rfl
  · decide
  · rfl
  · exact hA
  · show (str l).cps.size ≤ sizeLine
    have : (str l).cps.size = l.length := by simp [str]
    rw [this]; unfold sizeLine; omega
  · intro b hb
    rw [List.mem_singleton.mp hb]
    show h₁.objs.size < (h₁.push o).objs.size
    rw [Heap.size_push]; exact Nat.lt_succ_self _
  · have ext3 : ∀ s₃ : Shared, (∀ b o', b ∉ [h₁.objs.size] → (h₁.push o).get? b = some o' → s₃.heap.get? b = some o') → Ext h₁ s₃.heap := fun s₃ hk b o' e => hk b o' (old_not_new e) (Heap.get?_push_of_some _ e)
    refine ⟨fun C i v s₃ m₃ E' hP hn hm hk htk => ?_, fun C i v s₃ m₃ E' hP hp hn hm hk htk => ?_⟩
    · obtain ⟨c, u, _, rfl⟩ := hP
      have e3 := ext3 s₃ hk
      have G3 := G1.keeps e3
      refine wpAny_tests_one (isTrue_and (isTrue_not (isTrue_plain (call1 G3 (gin_table_b1 _) (o := o88 w.params) (by kernel_rfl) rfl rfl rfl rfl rfl rfl rfl
        (wpAny_Name (wpAny_loadName_local rfl rfl hn hm ⟨Ext.refl _, con_b1 G3 (by show A.depth + 1 < _; omega) c u ?_⟩) rfl)))))
      rintro v₁ h₄ tk₄ rfl e4
      refine wpAny_truthy_bool ?_
      cases hb1 : b1 c with
      | true => exact ⟨by simp [keepC, codeOf, hb1], h₄, tk₄, rfl, e4⟩
      | false =>
        have G4 := G3.keeps e4
        have hn4 : h₄.Ns C m₃ := hn.keeps e4
        refine isTrue_and (isTrue_not (isTrue_plain (call1 G4 (gin_table_c9 _) (o := o152 w.params) (by kernel_rfl) rfl rfl rfl rfl rfl rfl rfl
          (wpAny_Name (wpAny_loadName_local rfl rfl hn4 hm ⟨Ext.refl _, con_c9 G4 (by show A.depth + 1 < _; omega) c u ?_⟩) rfl))))
        rintro v₂ h₅ tk₅ rfl e5
        refine wpAny_truthy_bool ?_
        cases hc9 : c9 c with
        | true => exact ⟨by simp [keepC, codeOf, hb1, hc9], h₅, tk₅, rfl, Ext.trans e4 e5⟩
        | false => exact isTrue_and_nil ⟨by simp [keepC, codeOf, hb1, hc9], h₅, tk₅, rfl, Ext.trans e4 e5⟩
    · obtain ⟨c, u, _, rfl⟩ := hP
      have e3 := ext3 s₃ hk
      have G3 := G1.keeps e3
      refine call1 G3 (gmap_table_b3 _) (o := o134 w.params) (by kernel_rfl) rfl rfl rfl rfl rfl rfl rfl
        (wpAny_Name (wpAny_loadName_local rfl rfl hn hm ⟨Ext.refl _, con_b3 G3 (by show A.depth + 1 < _; omega) c u ?_⟩) rfl)
      rintro v₁ h₄ tk₄ ⟨u', rfl⟩ e4
      exact ⟨⟨c, u, u', rfl, rfl⟩, h₄, tk₄, rfl, e4⟩
  · intro D h' tk' ys vs hD hlD hplD hlen hP hF hk
    have hl2 : vs.length = l.length := by rw [hlen]; simp [str]
    obtain ⟨lt, hl3, hl4⟩ := paired_strs (f := b3) (g := keepC) (fun c u y hy => by
      obtain ⟨c', u1, u2, h1, h2⟩ := hy
      simp at h1
      obtain ⟨rfl, _⟩ := h1
      exact ⟨u2, h2⟩) (codesOf hl2 hP) hF
    refine ⟨D, lt, rfl, ?_, _, hl4, ?_, ?_⟩
    · show h'.IsList D (strValues lt).toArray
      rw [← hl3]; simpa using hlD
    · refine joinOk_of ?_
      have h1 := sum_str 8 ((l.filter keepC).map b3) (fun x hx => by
        obtain ⟨c, _, rfl⟩ := List.mem_map.mp hx
        exact b3_len c)
      have h2 : ((l.filter keepC).map b3).length ≤ l.length := by rw [List.length_map]; exact List.length_filter_le _ _
      have h3 : (Str.ofString "").length = 0 := rfl
      rw [h3, Nat.mul_zero]
      omega
    · intro t' k
      have e : Txt.join (str []) (((l.filter keepC).map b3).map str) = str (prep l) := by rw [join_str, prep, List.flatMap]
      show Q (.str (Txt.join (str []) _) t') _
      rw [e]
      exact h _ _ _ ⟨t', rfl⟩ (fun b o' e => hk b o' (old_not_new (Fm.keep _ _ e)) (Heap.get?_push_of_some _ (Fm.keep _ _ e)))
end
end Mine

open PySem PySem.W PySem.Calls PyProof.Rows
set_option Elab.async false
set_option maxRecDepth 1000000
set_option maxHeartbeats 0
set_option linter.unusedVariables false
namespace Mine
/-- all but these objects stay -/
noncomputable def XB (bs : List Addr) (h h' : Heap) : Prop := ∀ b o, b ∉ bs → h.get? b = some o → h'.get? b = some o
theorem XB.refl (bs : List Addr) (h : Heap) : XB bs h h := fun _ _ _ e => e
theorem XB.trans {bs : List Addr} {h h' h'' : Heap} (a : XB bs h h') (b : XB bs h' h'') : XB bs h h'' := fun x o n e => b x o n (a x o n e)
theorem XB.of_ext {bs : List Addr} {h h' : Heap} (a : Ext h h') : XB bs h h' := fun x o _ e => a x o e
theorem XB.mono {bs cs : List Addr} {h h' : Heap} (a : XB bs h h') (s : ∀ b ∈ bs, b ∈ cs) : XB cs h h' := fun x o n e => a x o (fun m => n (s x m)) e
theorem Ext.xb {g h h' : Heap} {bs : List Addr} (e : Ext g h) (x : XB bs h h') (hb : ∀ b ∈ bs, g.get? b = none) : Ext g h' := fun b o q => x b o (fun m => by rw [hb b m] at q; cases q) (e b o q)
section
variable {w : World} {s : Shared} {A : Around} {Q E : Value → Shared → Prop} {env : Env}
theorem next1 {it l : Addr} {i : Nat} {items : Array Value} {x : Value} (hit : s.heap.IsListIter it l i) (hl : s.heap.IsList l items) (hx : items[i]? = some x)
    (hQ : ∀ h', h'.IsListIter it l (i + 1) → Heap.SameBut it s.heap h' → Q x { s with heap := h' }) : wpAny (MW w) A (call (.builtin "next") [.ref it]) Q E s := by
  obtain ⟨o, ho, hc, hd⟩ := id hit
  obtain ⟨ol, hol, _, nl, hdl⟩ := hl
  refine call_function_entry (by decide +kernel) (by decide +kernel) kdk_entry_next (kdk_args_next _) ?_
  unfold Builtin.«next»
  refine wpAny_bind (m := someArgs "next" 1 2 _) (wpAny_of_eq (a := [Value.ref it]) (by first | rfl | kernel_rfl!) ?_)
  dsimp only
  refine wpAny_bind (wpAny_specialOf (name := Str.ofString "__next__") hit.typeIs slot_listiter_next.lookup ?_)
  refine wpAny_ite_split (fun hab => absurd hab (by decide)) (fun _ => ?_)
  refine wpAny_bind (wpAny_callSpecial?_slot (name := Str.ofString "__next__") hit.typeIs slot_listiter_next
    (wpAny_call_entry slot_listiter_next hit.typeIs entry_listiter_next ?_ (args_listiter_next _)))
  show wpAny _ _ (field (.ref it) 0 >>= _) _ _ s
  refine wpAny_bind (wpAny_field ho hd (x := .ref l) rfl ?_)
  show wpAny _ _ (if (Value.ref l == Value.none) = true then _ else _) _ _ s
  rw [if_neg (show ¬ ((Value.ref l == Value.none) = true) from Bool.false_ne_true)]
  show wpAny _ _ (field (.ref it) 1 >>= _) _ _ s
  refine wpAny_bind (wpAny_field ho hd (x := .int i 0) rfl ?_)
  show wpAny _ _ (seqItems? (.ref l) >>= _) _ _ s
  refine wpAny_bind (wpAny_seqItems hol hdl ?_)
  simp only [Int.toNat_natCast, hx]
  refine wpAny_bind (wpAny_setField ho hd (by simp) (wpAny_pure ⟨x, rfl, wpAny_pure ⟨_, rfl, hQ _ ?_ (Heap.SameBut.update ..)⟩⟩))
  exact ⟨_, Heap.get?_update_self _ ho (Obj.isFreed_of_fields (Obj.data_mapFields hd _)), (Obj.cls_mapFields ..).trans hc, by
    rw [Obj.data_mapFields hd]; simp [rawInt]⟩
end
/-- what is left of a list of written codes from place i on -/
noncomputable def Codes (items : Array Value) (i : Nat) (rest : List Nat) : Prop := Paired (fun v (c : Nat) => ∃ t, v = Value.int (c : Int) t) (items.toList.drop i) rest
theorem Codes.cons {items : Array Value} {i c : Nat} {rest : List Nat} (h : Codes items i (c :: rest)) : (∃ t, items[i]? = some (.int (c : Int) t)) ∧ Codes items (i + 1) rest := by
  unfold Codes at h ⊢
  cases hd : items.toList.drop i with
  | nil => rw [hd] at h; cases h
  | cons v vs =>
    rw [hd] at h
    cases h with
    | cons h1 h2 =>
      obtain ⟨t, rfl⟩ := h1
      have e1 : items.toList[i]? = some (.int (c : Int) t) := by
        have := congrArg (·[0]?) hd
        simpa using this
      refine ⟨⟨t, by simpa using e1⟩, ?_⟩
      have e2 : items.toList.drop (i + 1) = vs := by
        have := congrArg (List.drop 1) hd
        simpa [List.drop_drop, Nat.add_comm] using this
      rw [e2]; exact h2
noncomputable def vgo (val b : Nat) : List Nat → Option (Nat × List Nat)
  | [] => if b &&& 64 = 0 then some (val, []) else none
  | b' :: r => if b &&& 64 = 0 then some (val, b' :: r) else if val < 2 ^ 58 then vgo ((val * 64) ||| (b' &&& 63)) b' r else none
/-- the number that a varint's codes say, and what is left -/
noncomputable def vint : List Nat → Option (Nat × List Nat)
  | [] => none
  | b :: r => vgo (b &&& 63) b r
theorem bitAnd_nat (a b : Nat) : Builtin.bitAnd (a : Int) (b : Int) = ((a &&& b : Nat) : Int) := by
  rw [bitAnd_pp (by omega) (by omega)]
  simp
theorem bitAnd63 (b : Nat) : Builtin.bitAnd (b : Int) 63 = ((b &&& 63 : Nat) : Int) := bitAnd_nat b 63
theorem bitAnd64 (b : Nat) : Builtin.bitAnd (b : Int) 64 = ((b &&& 64 : Nat) : Int) := bitAnd_nat b 64
theorem not_not (z : Int) : Builtin.bitNot (Builtin.bitNot z) = z := by unfold Builtin.bitNot; omega
theorem bitOr_nat (a b : Nat) : Builtin.bitOr (a : Int) (b : Int) = ((a ||| b : Nat) : Int) := by
  unfold Builtin.bitOr
  rw [bitAnd_nn (by unfold Builtin.bitNot; omega) (by unfold Builtin.bitNot; omega), not_not, not_not, not_not]
  simp
section
variable {w : World} {s : Shared} {A : Around} {Q E : Value → Shared → Prop} {env : Env}
theorem ldN {x : Str} {pos : Pos} {v : Value} {m : Str → Option Value} (hn : s.heap.Ns env.locals m) (hv : m x = some v) (hk : env.scope.kind = .function) (hl : env.kindOf x = some .local) (hd : (x == ("__debug__" : Str)) = false) (h : Q v s) :
    wpAny (MW w) A (eval (.Name x pos) env) Q E s := wpAny_Name (wpAny_loadName_local hk hl hn hv h) hd
theorem XB.step {h₀ h h' : Heap} {it L : Addr} (x : XB [it] h₀ h) (hL : h₀.objs.size ≤ L) (hs : Heap.SameBut L h h') : XB [it] h₀ h' := fun b o n e =>
  hs.extBut b o (Nat.ne_of_lt (Nat.lt_of_lt_of_le (Heap.lt_size e) hL)) (x b o n e)
theorem XB.iter {h₀ h h' : Heap} {it : Addr} (x : XB [it] h₀ h) (hs : Heap.SameBut it h h') : XB [it] h₀ h' := fun b o n e =>
  hs.extBut b o (fun e => n (by rw [e]; exact .head _)) (x b o n e)
theorem con_varint {g : Heap} (G : Gd w g) (eg : Ext g s.heap) {it l : Addr} {i : Nat} {items : Array Value} {rest rest' : List Nat} {v : Nat} (hit : s.heap.IsListIter it l i) (hl : s.heap.IsList l items) (hne : l ≠ it) (hat : Codes items i rest)
    (hgi : g.get? it = none) (hv : vint rest = some (v, rest')) (hr : A.depth < recursionLimit)
    (h : ∀ h' tk' t j, h'.IsListIter it l (i + j) → Codes items (i + j) rest' → XB [it] s.heap h' → Q (.int (v : Int) t) { s with heap := h', toks := tk' }) :
    wpAny (MW w) A (call (.ref 70) [.ref it]) Q E s := by
  have Gs := G.keeps eg
  refine call_def (fd := fd__parse_varint) (name := Str.ofString "_parse_varint") (binds := [(Str.ofString "iterator", .ref it)]) Gs hr (o := o70 w.params) (by kernel_rfl) rfl (by kernel_rfl) (by kernel_rfl) (by kernel_rfl) (by kernel_rfl) (by kernel_rfl) (by kernel_rfl) (by kernel_rfl) (fun h₁ Fm G1 => ?_)
  conv in (sBody _) => whnf
  cases rest with
  | nil => cases hv
  | cons b r =>
  obtain ⟨⟨t, hx⟩, hat1⟩ := hat.cons
  have hit1 : h₁.IsListIter it l i := let ⟨o, a, b⟩ := hit; ⟨o, Fm.keep _ _ a, b⟩
  have hl1 : h₁.IsList l items := let ⟨o, a, b⟩ := hl; ⟨o, Fm.keep _ _ a, b⟩
  refine wpAny_execs_cons (wpAny_Assign_Name (Call_ (bname Fm Gs (gb_next _) (by boot_by_name) (by decide) rfl rfl rfl (Globals_cb1 (args_cons (ld Fm rfl (args_nil (next1 hit1 hl1 hx fun h₂ hit2 hs2 => ?_))))))))
  have hLs : s.heap.objs.size ≤ s.heap.objs.size := Nat.le_refl _
  have hitL : it ≠ s.heap.objs.size := by obtain ⟨o, a, _⟩ := hit; exact Nat.ne_of_lt (Heap.lt_size a)
  have x1 : XB [it] s.heap h₁ := XB.of_ext Fm.keep
  have x2 : XB [it] s.heap h₂ := x1.iter hs2
  have n2 : h₂.Ns s.heap.objs.size (fun x => List.lookup x [(Str.ofString "iterator", Value.ref it)].reverse) := Fm.ns.sameBut hs2 (Ne.symm hitL)
  refine wpAny_storeName_local rfl n2 (fun h₃ n3 hs3 => ?_) rfl
  have x3 := x2.step hLs hs3
  have hit3 : h₃.IsListIter it l (i + 1) := let ⟨o, a, c⟩ := hit2; ⟨o, hs3.extBut _ _ hitL a, c⟩
  dsimp only
  refine wpAny_execs_cons (wpAny_Assign_Name (wpAny_BinOp (ldN n3 rfl rfl rfl rfl (wpAny_Constant_int (and_int ?_)))))
  rw [bitAnd63 b]
  refine wpAny_storeName_local rfl n3 (fun h₄ n4 hs4 => ?_) rfl
  have x4 := x3.step hLs hs4
  have hit4 : h₄.IsListIter it l (i + 1) := let ⟨o, a, c⟩ := hit3; ⟨o, hs4.extBut _ _ hitL a, c⟩
  dsimp only
  refine wpAny_execs_cons (wpAny_While (codeAny_whileLoop (fun n s' => ∃ h' tk' m' val bb rr j t1 t2, s' = { s with heap := h', toks := tk' } ∧ n = rr.length ∧ h'.Ns s.heap.objs.size m' ∧ m' (Str.ofString "val") = some (.int (val : Nat) t1) ∧
      m' (Str.ofString "b") = some (.int (bb : Nat) t2) ∧ m' (Str.ofString "iterator") = some (.ref it) ∧ h'.IsListIter it l (i + j) ∧ Codes items (i + j) rr ∧ XB [it] s.heap h' ∧ vgo val bb rr = some (v, rest')) ?_ r.length
    ⟨h₄, _, _, b &&& 63, b, r, 1, _, t, rfl, rfl, n4, rfl, rfl, rfl, hit4, hat1, x4, hv⟩))
  rintro n s' ⟨h', tk', m', val, bb, rr, j, t1, t2, rfl, rfl, hn, hmv, hmb, hmi, hI, hC, hX, hG⟩
  refine isTrue_plain (wpAny_BinOp (ldN hn hmb rfl rfl rfl (wpAny_Constant_int (and_int ?_))))
  rw [bitAnd64 bb]
  refine P.truthy_int ?_
  by_cases h64 : bb &&& 64 = 0
  · rw [h64]
    refine wpAny_execs_nil ?_
    dsimp only
    have hvr : val = v ∧ rr = rest' := by
      cases rr with
      | nil => simp only [vgo, h64, if_true, Option.some.injEq, Prod.mk.injEq] at hG; exact hG
      | cons a b => simp only [vgo, h64, if_true, Option.some.injEq, Prod.mk.injEq] at hG; exact hG
    obtain ⟨rfl, rfl⟩ := hvr
    refine wpAny_execs_cons (wpAny_Return_some (ldN hn hmv rfl rfl rfl ?_))
    exact h _ _ _ j hI hC hX
  · have hne0 : (((bb &&& 64 : Nat) : Int) != 0) = true := by simp; exact h64
    rw [hne0]
    cases rr with
    | nil => simp only [vgo, h64, if_false] at hG; cases hG
    | cons b' r' =>
      simp only [vgo, h64, if_false] at hG
      by_cases hsm : val < 2 ^ 58
      · rw [if_pos hsm] at hG
        obtain ⟨⟨t', hx'⟩, hC'⟩ := hC.cons
        refine wpAny_execs_cons (wpAny_AugAssign_Name (wpAny_loadName_local rfl rfl hn hmv (wpAny_Constant_int (ilshift_int_small (by decide) (by decide) (by
          have : (val : Int).natAbs = val := by simp
          rw [this]; exact Nat.lt_trans hsm (by decide)) ?_))))
        refine wpAny_storeName_local rfl hn (fun h₅ n5 hs5 => ?_) rfl
        have x5 := hX.step hLs hs5
        have hit5 : h₅.IsListIter it l (i + j) := let ⟨o, a, c⟩ := hI; ⟨o, hs5.extBut _ _ hitL a, c⟩
        have hl5 : h₅.IsList l items := let ⟨o, a, c⟩ := hl; ⟨o, x5 _ _ (by simpa using hne) a, c⟩
        have G5 : Gd w h₅ := G.keeps (eg.xb x5 (by simpa using hgi))
        dsimp only
        refine wpAny_execs_cons (wpAny_Assign_Name (Call_ (bnameE G5 (gb_next _) (by boot_by_name) (by decide) rfl rfl rfl rfl rfl (Globals_cb1 (args_cons (ldN n5 hmi rfl rfl rfl (args_nil (next1 hit5 hl5 hx' fun h₆ hit6 hs6 => ?_))))))))
        have x6 := x5.iter hs6
        have n6 := n5.sameBut hs6 (Ne.symm hitL)
        refine wpAny_storeName_local rfl n6 (fun h₇ n7 hs7 => ?_) rfl
        have x7 := x6.step hLs hs7
        have hit7 : h₇.IsListIter it l (i + j + 1) := let ⟨o, a, c⟩ := hit6; ⟨o, hs7.extBut _ _ hitL a, c⟩
        dsimp only
        refine wpAny_execs_cons (wpAny_AugAssign_Name (wpAny_loadName_local rfl rfl n7 rfl (wpAny_BinOp (ldN n7 rfl rfl rfl rfl (wpAny_Constant_int (and_int ?_))))))
        rw [bitAnd63 b']
        have esh : (val : Int) * 2 ^ (6 : Int).toNat = ((val * 64 : Nat) : Int) := by
          show (val : Int) * 2 ^ 6 = _
          omega
        rw [esh]
        refine ior_int ?_
        rw [bitOr_nat]
        refine wpAny_storeName_local rfl n7 (fun h₈ n8 hs8 => ?_) rfl
        have x8 := x7.step hLs hs8
        have hit8 : h₈.IsListIter it l (i + j + 1) := let ⟨o, a, c⟩ := hit7; ⟨o, hs8.extBut _ _ hitL a, c⟩
        dsimp only
        refine wpAny_execs_nil ⟨r'.length, by simp, h₈, _, _, (val * 64) ||| (b' &&& 63), b', r', j + 1, _, t', rfl, rfl, n8, rfl, rfl, hmi, ?_, ?_, x8, hG⟩
        · exact hit8
        · exact hC'
      · rw [if_neg hsm] at hG; cases hG
end
end Mine

open PySem PySem.W PySem.Calls PyProof.Rows
set_option Elab.async false
set_option maxRecDepth 1000000
set_option maxHeartbeats 0
set_option linter.unusedVariables false
namespace Mine
noncomputable def tagN (n : Int) : Nat := if 0 < n.fmod 97 then 917535 + (n.fmod 97).toNat else 917505
section
variable {w : World} {s : Shared} {A : Around} {Q E : Value → Shared → Prop} {env : Env}
theorem con_tag (G : Gd w s.heap) (hr : A.depth < recursionLimit) (n : Int) (tk : Tok) (h : Back s (fun v _ => ∃ u, v = .str (str [tagN n]) u) Q) :
    wpAny (MW w) A (call (.ref 166) [.int n tk]) Q E s := by
  refine call_def (fd := fd__law_tag) (name := Str.ofString "_law_tag") (binds := [(Str.ofString "number", .int n tk)]) G hr (o := o166 w.params) (by kernel_rfl) rfl (by kernel_rfl) (by kernel_rfl) (by kernel_rfl) (by kernel_rfl) (by kernel_rfl) (by kernel_rfl) (by kernel_rfl) (fun h₁ Fm G1 => ?_)
  conv in (sBody _) => whnf
  have hp0 : 0 ≤ n.fmod 97 := Int.fmod_nonneg_of_pos n (by decide)
  have hp1 : n.fmod 97 < 97 := Int.fmod_lt_of_pos n (by decide)
  refine wpAny_execs_cons (wpAny_Assign_Name (wpAny_BinOp (ld Fm rfl (wpAny_Constant_int (PyProof.Rows.mod_int (by decide) (st Fm (fun h₂ Fm2 => ?_) rfl rfl))))))
  have G2 : Gd w h₂ := G.keeps Fm2.keep
  dsimp only
  refine wpAny_execs_cons (wpAny_Return_some (IfExp_ (wpAny_isTrue_Compare1 (ld Fm2 rfl (wpAny_Constant_int (gt_int (wpAny_truthy_bool ?_)))))))
  by_cases hc : 0 < n.fmod 97
  · have e : tagN n = 917535 + (n.fmod 97).toNat := by unfold tagN; rw [if_pos hc]
    rw [decide_eq_true hc]
    refine Call_ (bname Fm2 G (gb_chr _) (by boot_by_name) (by decide) rfl rfl rfl (Globals_cb1 (args_cons (wpAny_BinOp (wpAny_Constant_int (ld Fm2 rfl (PyProof.Rows.add_int (args_nil (chr_of_range (by omega) (by omega) ?_)))))))))
    have e2 : (917535 + n.fmod 97).toNat = tagN n := by rw [e]; omega
    exact h _ _ _ ⟨_, by rw [← e2]; rfl⟩ Fm2.keep
  · have e : tagN n = 917505 := by unfold tagN; rw [if_neg hc]
    rw [decide_eq_false hc]
    refine Call_ (bname Fm2 G (gb_chr _) (by boot_by_name) (by decide) rfl rfl rfl (Globals_cb1 (args_cons (wpAny_Constant_int (args_nil (chr_of_range (by decide) (by decide) ?_))))))
    exact h _ _ _ ⟨_, by rw [e]; rfl⟩ Fm2.keep
end
end Mine

open PySem PySem.W PySem.Calls PyProof.Rows
set_option Elab.async false
set_option maxRecDepth 1000000
set_option maxHeartbeats 0
set_option linter.unusedVariables false
namespace Mine
theorem ns_list {h : Heap} {L l : Addr} {m} {items : Array Value} (n : h.Ns L m) (x : h.IsList l items) : l ≠ L := by
  rintro rfl
  obtain ⟨o, es, ep, a, d, _⟩ := n
  obtain ⟨o', a', _, k, d'⟩ := x
  rw [a] at a'; cases a'; rw [d] at d'; cases d'
theorem ns_tup {h : Heap} {L l : Addr} {m} {items : Array Value} (n : h.Ns L m) (x : h.IsTuple l items) : l ≠ L := by
  rintro rfl
  obtain ⟨o, es, ep, a, d, _⟩ := n
  obtain ⟨o', a', _, k, d'⟩ := x
  rw [a] at a'; cases a'; rw [d] at d'; cases d'
theorem ns_iter {h : Heap} {L it l : Addr} {i : Nat} {m} (n : h.Ns L m) (x : h.IsListIter it l i) : it ≠ L := by
  rintro rfl
  obtain ⟨o, es, ep, a, d, _⟩ := n
  obtain ⟨o', a', _, d'⟩ := x
  rw [a] at a'; cases a'; rw [d] at d'; cases d'
theorem list_iter {h : Heap} {it l ll : Addr} {i : Nat} {items : Array Value} (n : h.IsList l items) (x : h.IsListIter it ll i) : l ≠ it := by
  rintro rfl
  obtain ⟨o, a, _, k, d⟩ := n
  obtain ⟨o', a', _, d'⟩ := x
  rw [a] at a'; cases a'; rw [d] at d'; cases d'
theorem tup_iter {h : Heap} {it l ll : Addr} {i : Nat} {items : Array Value} (n : h.IsTuple l items) (x : h.IsListIter it ll i) : l ≠ it := by
  rintro rfl
  obtain ⟨o, a, _, k, d⟩ := n
  obtain ⟨o', a', _, d'⟩ := x
  rw [a] at a'; cases a'; rw [d] at d'; cases d'
theorem tup_list {h : Heap} {t l : Addr} {items its : Array Value} (n : h.IsTuple t items) (x : h.IsList l its) : t ≠ l := by
  rintro rfl
  obtain ⟨o, a, c, k, d⟩ := n
  obtain ⟨o', a', c', _⟩ := x
  rw [a] at a'; cases a'; rw [c] at c'; revert c'; decide
theorem XB.one {b : Addr} {h h' : Heap} (e : Heap.ExtBut b h h') : XB [b] h h' := fun x o n q => e x o (fun q => n (by rw [q]; exact .head _)) q
theorem XB.same {b : Addr} {h h' : Heap} (e : Heap.SameBut b h h') : XB [b] h h' := XB.one e.extBut
theorem XB.in {b : Addr} {bs : List Addr} {h h' : Heap} (e : XB [b] h h') (hb : b ∈ bs) : XB bs h h' := e.mono fun x hx => by rw [List.mem_singleton.mp hx]; exact hb
theorem XB.ext {h h' : Heap} (e : XB [] h h') : Ext h h' := fun b o q => e b o (by simp) q
theorem tup_xb {bs : List Addr} {h h' : Heap} {t : Addr} {items : Array Value} (x : h.IsTuple t items) (e : XB bs h h') (hb : t ∉ bs) : h'.IsTuple t items := let ⟨o, ho, r⟩ := x; ⟨o, e t o hb ho, r⟩
theorem list_xb {bs : List Addr} {h h' : Heap} {t : Addr} {items : Array Value} (x : h.IsList t items) (e : XB bs h h') (hb : t ∉ bs) : h'.IsList t items := let ⟨o, ho, r⟩ := x; ⟨o, e t o hb ho, r⟩
theorem iter_xb {bs : List Addr} {h h' : Heap} {t l : Addr} {i : Nat} (x : h.IsListIter t l i) (e : XB bs h h') (hb : t ∉ bs) : h'.IsListIter t l i := let ⟨o, ho, r⟩ := x; ⟨o, e t o hb ho, r⟩
theorem ns_xb {bs : List Addr} {h h' : Heap} {t : Addr} {m} (x : h.Ns t m) (e : XB bs h h') (hb : t ∉ bs) : h'.Ns t m := let ⟨o, es, ep, ho, r⟩ := x; ⟨o, es, ep, e t o hb ho, r⟩
theorem Ext.push {h : Heap} (o : Obj) : Ext h (h.push o) := fun b q e => Heap.get?_push_of_some _ e
theorem none_of_size {h : Heap} : h.get? h.objs.size = none := by
  cases e : h.get? h.objs.size with
  | none => rfl
  | some o => exact absurd (Heap.lt_size e) (Nat.lt_irrefl _)
theorem fresh_le {g h : Heap} {a : Addr} (e : Ext g h) (x : h.get? a = none) : g.get? a = none := by
  cases q : g.get? a with
  | none => rfl
  | some o => rw [e a o q] at x; cases x
section
variable {w : World} {s : Shared} {A : Around} {Q E : Value → Shared → Prop} {env : Env}
/-- a for over a list, its name stored in the frame -/
theorem forL {EE : Value → Shared → Prop} {QF : Flow → Shared → Prop} {x : Str} {px pos : Pos} {iter : Expr} {body : List Stmt} {l : Addr} {items : Array Value} {m : Str → Option Value} (wr : List Addr)
    (J : Nat → Heap → (Str → Option Value) → Prop)
    (hh : A.handled = none) (hx : env.kindOf x = some .local) (hp : (env.scope.kind == .class || (env.scope.kind == .module && env.locals != env.globals)) = false)
    (hE : PassesOwn (MW w) A env EE)
    (hwr : ∀ b ∈ wr, b < s.heap.objs.size) (hLw : env.locals ∈ wr) (hlw : l ∉ wr)
    (hl : s.heap.IsList l items) (hn : s.heap.Ns env.locals m)
    (hiter : ∀ Q', Q' (.ref l) s → wpAny (MW w) A (eval iter env) Q' EE s)
    (h0 : ∀ h', Ext s.heap h' → J 0 h' m)
    (hst : ∀ i h h' m b, (b = env.locals ∨ (s.heap.get? b = none ∧ ∃ l k, h.IsListIter b l k)) → XB [b] h h' → h.Ns env.locals m → J i h m → J i h' m)
    (step : ∀ i v m₁ h tk, items[i]? = some v → XB wr s.heap h → h.IsList l items → h.Ns env.locals (fun y => if y = x then some v else m₁ y) → J i h m₁ →
      wpAny (MW w) A (execs body env) (fun f s₂ => match f with
        | .next | .cont => ∃ h' tk' m₂, s₂ = { s with heap := h', toks := tk' } ∧ XB wr h h' ∧ h'.Ns env.locals m₂ ∧ J (i + 1) h' m₂
        | .ret v => QF (.ret v) s₂
        | .brk => False) EE { s with heap := h, toks := tk })
    (hQ : ∀ h' tk m', XB wr s.heap h' → h'.Ns env.locals m' → J items.size h' m' → QF .next { s with heap := h', toks := tk })
    (hs : ∀ x, foldedSetIterable iter env x = pure x := by intro _; rfl) :
    wpAny (MW w) A (exec (.For (.Name x px) iter body [] pos) env) QF EE s := by
  refine wpAny_For (hiter _ (wpAny_pyIter_list hl ?_)) hs
  have hI : s.heap.objs.size ∉ wr := fun q => Nat.lt_irrefl _ (hwr _ q)
  have fr : s.heap.get? s.heap.objs.size = none := none_of_size
  have e0 : Ext s.heap (s.heap.push { cls := .type "list_iterator", data := .fields #[.ref l, .int 0 0] }) := Ext.push _
  generalize hI' : s.heap.objs.size = I at *
  refine codeAny_forLoop (fun k s' => ∃ h' tk m' i, s' = { s with heap := h', toks := tk } ∧ XB wr s.heap h' ∧ h'.IsListIter I l i ∧ h'.IsList l items ∧ h'.Ns env.locals m' ∧ J i h' m' ∧ i ≤ items.size ∧ k = items.size + 1 - i) ?_ (items.size + 1)
    ⟨_, s.toks, m, 0, rfl, XB.of_ext e0, ⟨_, by rw [← hI']; exact Heap.get?_push_size _ rfl, rfl, rfl⟩, let ⟨o, a, b⟩ := hl; ⟨o, e0 _ _ a, b⟩, let ⟨o, es, ep, a, b⟩ := hn; ⟨o, es, ep, e0 _ _ a, b⟩, h0 _ e0, Nat.zero_le _, rfl⟩
  rintro k s' ⟨h', tk, m', i, rfl, hX, hit', hl', hn', hJ, hi, rfl⟩
  have hIL : I ≠ env.locals := ns_iter hn' hit'
  have hlI : l ≠ I := list_iter hl' hit'
  have hlL : l ≠ env.locals := ns_list hn' hl'
  have xI : ∀ {h₁ h₂ : Heap}, XB [I] h₁ h₂ → XB wr s.heap h₁ → XB wr s.heap h₂ := fun a b c o nc q => a c o (fun q' => by rw [List.mem_singleton.mp q'] at q; rw [fr] at q; cases q) (b c o nc q)
  cases hv : items[i]? with
  | none =>
    have hsz : i = items.size := Nat.le_antisymm hi (by simpa using hv)
    refine wpAny_pyNext_list_end hh hit' hl' hv fun h₁ he₁ => wpAny_execs_nil ?_
    have x1 := XB.one he₁
    exact hQ h₁ tk m' (xI x1 hX) (ns_xb hn' x1 (by simpa using Ne.symm hIL)) (hsz ▸ hst i h' h₁ m' I (.inr ⟨fr, _, _, hit'⟩) x1 hn' hJ)
  | some v =>
    have hlt : i < items.size := (Array.getElem?_eq_some_iff.mp hv).1
    refine wpAny_pyNext_list_item hit' hl' hv fun h₁ hit₁ hs₁ => ?_
    have x1 : XB [I] h' h₁ := XB.same hs₁
    have n1 := ns_xb hn' x1 (by simpa using Ne.symm hIL)
    have j1 := hst i h' h₁ m' I (.inr ⟨fr, _, _, hit'⟩) x1 hn' hJ
    have l1 := list_xb hl' x1 (by simpa using hlI)
    refine wpAny_assign_Name (wpAny_storeName_local hx n1 (fun h₂ hn₂ hs₂ => ?_) hp)
    have x2 : XB [env.locals] h₁ h₂ := XB.same hs₂
    have j2 := hst i h₁ h₂ m' env.locals (.inl rfl) x2 n1 j1
    have X2 : XB wr s.heap h₂ := (xI x1 hX).trans (x2.in hLw)
    refine wpAny_mono (wpAny_passesOwn hE (step i v m' h₂ _ hv X2 (list_xb l1 x2 (by simpa using hlL)) hn₂ j2)) (fun f s₃ h₃ => ?_) fun _ _ e => e
    have fin : (∃ h' tk' m₂, s₃ = { s with heap := h', toks := tk' } ∧ XB wr h₂ h' ∧ h'.Ns env.locals m₂ ∧ J (i + 1) h' m₂) → ∃ m_1, m_1 < items.size + 1 - i ∧ ∃ h' tk m' i, s₃ = { s with heap := h', toks := tk } ∧ XB wr s.heap h' ∧ h'.IsListIter I l i ∧ h'.IsList l items ∧ h'.Ns env.locals m' ∧ J i h' m' ∧ i ≤ items.size ∧ m_1 = items.size + 1 - i := by
      rintro ⟨h₄, tk₄, m₄, rfl, x4, n4, j4⟩
      exact ⟨items.size + 1 - (i + 1), by omega, h₄, tk₄, m₄, i + 1, rfl, X2.trans x4, iter_xb (iter_xb hit₁ x2 (by simpa using hIL)) x4 hI, list_xb (list_xb l1 x2 (by simpa using hlL)) x4 hlw, n4, j4, hlt, rfl⟩
    cases f with
    | next => exact fin h₃
    | cont => exact fin h₃
    | brk => exact h₃.elim
    | ret v => exact h₃
/-- a for over a list of pairs, both names stored in the frame -/
theorem forT {EE : Value → Shared → Prop} {QF : Flow → Shared → Prop} {xa xb : Str} {pa pb pt pos : Pos} {x1 : Nat} {iter : Expr} {body : List Stmt} {l : Addr} {items : Array Value} {m : Str → Option Value} (wr : List Addr)
    (P : Nat → Value → Value → Prop) (J : Nat → Heap → (Str → Option Value) → Prop)
    (hh : A.handled = none) (hxa : env.kindOf xa = some .local) (hxb : env.kindOf xb = some .local) (hp : (env.scope.kind == .class || (env.scope.kind == .module && env.locals != env.globals)) = false)
    (hE : PassesOwn (MW w) A env EE)
    (hwr : ∀ b ∈ wr, b < s.heap.objs.size) (hLw : env.locals ∈ wr) (hlw : l ∉ wr)
    (hl : s.heap.IsList l items) (hn : s.heap.Ns env.locals m)
    (hT : ∀ i v, items[i]? = some v → ∃ t v0 v1, v = .ref t ∧ s.heap.IsTuple t #[v0, v1] ∧ t ∉ wr ∧ P i v0 v1)
    (hiter : ∀ Q', Q' (.ref l) s → wpAny (MW w) A (eval iter env) Q' EE s)
    (h0 : ∀ h', Ext s.heap h' → J 0 h' m)
    (hst : ∀ i h h' m b, (b = env.locals ∨ (s.heap.get? b = none ∧ (h.get? b = none ∨ ∃ l k, h.IsListIter b l k))) → XB [b] h h' → h.Ns env.locals m → J i h m → J i h' m)
    (step : ∀ i v0 v1 m₁ h tk, i < items.size → P i v0 v1 → XB wr s.heap h → h.IsList l items → h.Ns env.locals (fun y => if y = xb then some v1 else if y = xa then some v0 else m₁ y) → J i h m₁ →
      wpAny (MW w) A (execs body env) (fun f s₂ => match f with
        | .next | .cont => ∃ h' tk' m₂, s₂ = { s with heap := h', toks := tk' } ∧ XB wr h h' ∧ h'.Ns env.locals m₂ ∧ J (i + 1) h' m₂
        | .ret v => QF (.ret v) s₂
        | .brk => False) EE { s with heap := h, toks := tk })
    (hQ : ∀ h' tk m', XB wr s.heap h' → h'.Ns env.locals m' → J items.size h' m' → QF .next { s with heap := h', toks := tk })
    (hab : xa ≠ xb)
    (hs : ∀ x, foldedSetIterable iter env x = pure x := by intro _; rfl) :
    wpAny (MW w) A (exec (.For (.Tuple [.Name xa pa, .Name xb pb] x1 pt) iter body [] pos) env) QF EE s := by
  refine wpAny_For (hiter _ (wpAny_pyIter_list hl ?_)) hs
  have hI : s.heap.objs.size ∉ wr := fun q => Nat.lt_irrefl _ (hwr _ q)
  have fr : s.heap.get? s.heap.objs.size = none := none_of_size
  have e0 : Ext s.heap (s.heap.push { cls := .type "list_iterator", data := .fields #[.ref l, .int 0 0] }) := Ext.push _
  generalize hI' : s.heap.objs.size = I at *
  refine codeAny_forLoop_any (fun k s' => ∃ h' tk m' i, s' = { s with heap := h', toks := tk } ∧ XB wr s.heap h' ∧ h'.IsListIter I l i ∧ h'.IsList l items ∧ h'.Ns env.locals m' ∧ J i h' m' ∧ i ≤ items.size ∧ k = items.size + 1 - i) ?_ (items.size + 1)
    ⟨_, s.toks, m, 0, rfl, XB.of_ext e0, ⟨_, by rw [← hI']; exact Heap.get?_push_size _ rfl, rfl, rfl⟩, let ⟨o, a, b⟩ := hl; ⟨o, e0 _ _ a, b⟩, let ⟨o, es, ep, a, b⟩ := hn; ⟨o, es, ep, e0 _ _ a, b⟩, h0 _ e0, Nat.zero_le _, rfl⟩
  rintro k s' ⟨h', tk, m', i, rfl, hX, hit', hl', hn', hJ, hi, rfl⟩
  have hIL : I ≠ env.locals := ns_iter hn' hit'
  have hlI : l ≠ I := list_iter hl' hit'
  have hlL : l ≠ env.locals := ns_list hn' hl'
  have xI : ∀ {b : Addr} {h₁ h₂ : Heap}, s.heap.get? b = none → XB [b] h₁ h₂ → XB wr s.heap h₁ → XB wr s.heap h₂ := fun fb a b c o nc q => a c o (fun q' => by rw [List.mem_singleton.mp q'] at q; rw [fb] at q; cases q) (b c o nc q)
  cases hv : items[i]? with
  | none =>
    have hsz : i = items.size := Nat.le_antisymm hi (by simpa using hv)
    refine wpAny_pyNext_list_end hh hit' hl' hv fun h₁ he₁ => wpAny_execs_nil ?_
    have x1 := XB.one he₁
    exact hQ h₁ tk m' (xI fr x1 hX) (ns_xb hn' x1 (by simpa using Ne.symm hIL)) (hsz ▸ hst i h' h₁ m' I (.inr ⟨fr, .inr ⟨_, _, hit'⟩⟩) x1 hn' hJ)
  | some v =>
    have hlt : i < items.size := (Array.getElem?_eq_some_iff.mp hv).1
    obtain ⟨T, v0, v1, rfl, hTs, hTw, hP⟩ := hT i v hv
    refine wpAny_pyNext_list_item hit' hl' hv fun h₁ hit₁ hs₁ => ?_
    have x1 : XB [I] h' h₁ := XB.same hs₁
    have n1 := ns_xb hn' x1 (by simpa using Ne.symm hIL)
    have j1 := hst i h' h₁ m' I (.inr ⟨fr, .inr ⟨_, _, hit'⟩⟩) x1 hn' hJ
    have l1 := list_xb hl' x1 (by simpa using hlI)
    have X1 := xI fr x1 hX
    have t1 : h₁.IsTuple T #[v0, v1] := tup_xb hTs X1 hTw
    refine wpAny_letOwnedTupleGo_listiter hit₁ ?_
    refine wpAny_assign_Tuple hh t1 rfl rfl fun h₂ hx₂ => ?_
    dsimp only at hx₂
    have x2 : XB [h₁.objs.size] h₁ h₂ := XB.one hx₂
    have fz : h₁.get? h₁.objs.size = none := none_of_size
    have e2 : Ext h₁ h₂ := fun b o q => x2 b o (fun q' => by rw [List.mem_singleton.mp q'] at q; rw [fz] at q; cases q) q
    have fz0 : s.heap.get? h₁.objs.size = none := by
      cases q : s.heap.get? h₁.objs.size with
      | none => rfl
      | some o =>
        have hw : h₁.objs.size ∉ wr := fun q' => by
          have h1 := hwr _ q'
          obtain ⟨o', ho', _⟩ := hit₁
          have h2 := Heap.lt_size ho'
          exact absurd h1 (Nat.not_lt.mpr (Nat.le_of_lt h2))
        have := X1 _ _ hw q
        rw [fz] at this; cases this
    have n2 := ns_xb n1 x2 (by simpa using Nat.ne_of_lt (Heap.Ns.lt n1))
    have j2 := hst i h₁ h₂ m' _ (.inr ⟨fz0, .inl fz⟩) x2 n1 j1
    have l2 : h₂.IsList l items := let ⟨o, a, b⟩ := l1; ⟨o, e2 _ _ a, b⟩
    have it2 : h₂.IsListIter I l (i + 1) := let ⟨o, a, b⟩ := hit₁; ⟨o, e2 _ _ a, b⟩
    have X2 := xI fz0 x2 X1
    show wpAny _ A (do holding [v1] (assign (.Name xa pa) env v0); do holding [] (assign (.Name xb pb) env v1); pure ()) _ _ _
    refine wpAny_bind (wpAny_holding (wpAny_assign_Name (wpAny_storeName_local hxa n2 (fun h₃ hn₃ hs₃ => ?_) hp)))
    have x3 : XB [env.locals] h₂ h₃ := XB.same hs₃
    have j3 := hst i h₂ h₃ m' env.locals (.inl rfl) x3 n2 j2
    refine wpAny_bind (wpAny_holding (wpAny_assign_Name (wpAny_storeName_local hxb hn₃ (fun h₄ hn₄ hs₄ => wpAny_pure ?_) hp)))
    have x4 : XB [env.locals] h₃ h₄ := XB.same hs₄
    have j4 := hst i h₂ h₄ m' env.locals (.inl rfl) (x3.trans x4) n2 j2
    have X4 : XB wr s.heap h₄ := (X2.trans (x3.in hLw)).trans (x4.in hLw)
    refine wpAny_mono (wpAny_passesOwn hE (step i v0 v1 m' h₄ _ hlt hP X4 (list_xb l2 (x3.trans x4) (by simpa using hlL)) hn₄ j4)) (fun f s₃ h₃ => ?_) fun _ _ e => e
    have fin : (∃ h' tk' m₂, s₃ = { s with heap := h', toks := tk' } ∧ XB wr h₄ h' ∧ h'.Ns env.locals m₂ ∧ J (i + 1) h' m₂) → ∃ m_1, m_1 < items.size + 1 - i ∧ ∃ h' tk m' i, s₃ = { s with heap := h', toks := tk } ∧ XB wr s.heap h' ∧ h'.IsListIter I l i ∧ h'.IsList l items ∧ h'.Ns env.locals m' ∧ J i h' m' ∧ i ≤ items.size ∧ m_1 = items.size + 1 - i := by
      rintro ⟨h₅, tk₅, m₅, rfl, x5, n5, j5⟩
      exact ⟨items.size + 1 - (i + 1), by omega, h₅, tk₅, m₅, i + 1, rfl, X4.trans x5, iter_xb (iter_xb it2 (x3.trans x4) (by simpa using hIL)) x5 hI, list_xb (list_xb l2 (x3.trans x4) (by simpa using hlL)) x5 hlw, n5, j5, hlt, rfl⟩
    cases f with
    | next => exact fin h₃
    | cont => exact fin h₃
    | brk => exact h₃.elim
    | ret v => exact h₃
end
end Mine

open PySem PySem.W PySem.Calls PyProof.Rows
set_option Elab.async false
set_option maxRecDepth 1000000
set_option maxHeartbeats 0
set_option linter.unusedVariables false
namespace Mine
section
variable {w : World} {s : Shared} {A : Around} {Q E : Value → Shared → Prop} {env : Env}
theorem old_nn {h : Heap} {b : Addr} {o : Obj} (e : h.get? b = some o) : b ∉ [h.objs.size] := by
  intro q; rw [List.mem_singleton.mp q] at e; rw [none_of_size] at e; cases e
/-- a comprehension over a list -/
theorem compL {elt iter : Expr} {x : Str} {px : Pos} {ifs : List Expr} {scope : Scope} {pos : Pos} {l : Addr} {items : Array Value} (p : Value → Bool) (F : Value → Value → Prop)
    (hA : A.handled = none) (hl : s.heap.IsList l items) (hsz : items.size ≤ sizeLine)
    (hiter : ∀ Q', Q' (.ref l) s → wpAny (MW w) A (eval iter env) Q' E s)
    (htests : ∀ C v s₃ m₃ E', v ∈ items.toList → Ext s.heap s₃.heap → s₃.heap.Ns C m₃ → m₃ x = some v →
      wpAny (MW w) A (forIn ifs true fun c r => if r = true then do let ok ← isTrue c (compEnv scope C env) (eval c (compEnv scope C env)); pure (ForInStep.yield ok) else pure (ForInStep.yield r)) (fun ok s₄ => ok = p v ∧ Keeps s₃ s₄) E' s₃)
    (helt : ∀ C v s₃ m₃ E', v ∈ items.toList → p v = true → Ext s.heap s₃.heap → s₃.heap.Ns C m₃ → m₃ x = some v → wpAny (MW w) A (eval elt (compEnv scope C env)) (fun y s₄ => F v y ∧ Keeps s₃ s₄) E' s₃)
    (hQ : ∀ D h' tk ys, s.heap.get? D = none → h'.PlainList D ys → Paired F (items.toList.filter p) ys.toList → Ext s.heap h' → Q (.ref D) { s with heap := h', toks := tk })
    (hfree : ∀ y ∈ scope.names, y.2 ≠ .free) (hcell : ∀ y ∈ scope.names, y.2 ≠ .cell) (hkind : scope.kind = .function)
    (hnames : ∀ y ∈ scope.names, y.2 = .local → scope.names.lookup y.1 = some .local) (hx : scope.names.lookup x = some .local)
    (hs : ∀ x, foldedSetIterable iter env x = pure x := by intro _; rfl) :
    wpAny (MW w) A (eval (.ListComp elt [⟨.Name x px, iter, ifs, 0⟩] scope pos) env) Q E s := by
  refine wpAny_ListComp_walk p F hfree hcell hkind hnames hx (hiter _ (wpAny_pyIter_list hl ?_)) hs
  have e0 : Ext s.heap (s.heap.push { cls := .type "list_iterator", data := .fields #[.ref l, .int 0 0] }) := Ext.push _
  have hlI : l ≠ s.heap.objs.size := by obtain ⟨o, a, _⟩ := hl; exact Nat.ne_of_lt (Heap.lt_size a)
  have ex : ∀ h', (∀ b o, b ∉ [s.heap.objs.size] → (s.heap.push { cls := .type "list_iterator", data := .fields #[.ref l, .int 0 0] }).get? b = some o → h'.get? b = some o) → Ext s.heap h' :=
    fun h' hk b o q => hk b o (by intro q'; rw [List.mem_singleton.mp q'] at q; rw [none_of_size] at q; cases q) (e0 _ _ q)
  refine ⟨_, _, _, _, _, _, rfl, Walks.list hA s.heap.objs.size l hlI items, hsz, ⟨⟨_, Heap.get?_push_size _ rfl, rfl, rfl⟩, let ⟨o, a, b⟩ := hl; ⟨o, e0 _ _ a, b⟩⟩, ?_, ⟨?_, ?_⟩, ?_⟩
  · intro b hb
    show b < (Heap.push s.heap _).objs.size
    rw [Heap.size_push]
    simp at hb
    rcases hb with rfl | rfl
    · exact Nat.lt_succ_self _
    · obtain ⟨o, a, _⟩ := hl; exact Nat.lt_succ_of_lt (Heap.lt_size a)
  · intro C i v s₃ m₃ E' hP hn hm hk htk
    exact htests C v s₃ m₃ E' (Array.mem_toList_iff.mpr (Array.mem_of_getElem? hP)) (ex _ hk) hn hm
  · intro C i v s₃ m₃ E' hP hp hn hm hk htk
    exact helt C v s₃ m₃ E' (Array.mem_toList_iff.mpr (Array.mem_of_getElem? hP)) hp (ex _ hk) hn hm
  · intro D h' tk ys vs hD hlD hplD hlen hP hF hk
    have e : vs = items.toList := by
      apply List.ext_getElem?
      intro j
      cases hj : vs[j]? with
      | some v => rw [Array.getElem?_toList, hP j v hj]
      | none =>
        have : vs.length ≤ j := by simpa using hj
        rw [Array.getElem?_toList, Eq.comm, Array.getElem?_eq_none_iff]; omega
    rw [e] at hF
    have hD' : s.heap.get? D = none := fresh_le e0 hD
    exact hQ D h' tk ys hD' hplD hF (ex _ hk)
/-- a comprehension over a text -/
theorem compS {elt iter : Expr} {x : Str} {px : Pos} {ifs : List Expr} {scope : Scope} {pos : Pos} {l : List Nat} {t : Tok} (p : Value → Bool) (F : Value → Value → Prop)
    (hA : A.handled = none) (hsz : l.length ≤ sizeLine)
    (hiter : ∀ Q', (∀ h tk, h = s.heap → Q' (.str (str l) t) { s with heap := h, toks := tk }) → wpAny (MW w) A (eval iter env) Q' E s)
    (htests : ∀ C c u s₃ m₃ E', c ∈ l → Ext s.heap s₃.heap → s₃.heap.Ns C m₃ → m₃ x = some (.str ⟨#[c]⟩ u) →
      wpAny (MW w) A (forIn ifs true fun c r => if r = true then do let ok ← isTrue c (compEnv scope C env) (eval c (compEnv scope C env)); pure (ForInStep.yield ok) else pure (ForInStep.yield r)) (fun ok s₄ => ok = p (.str ⟨#[c]⟩ u) ∧ Keeps s₃ s₄) E' s₃)
    (helt : ∀ C c u s₃ m₃ E', c ∈ l → p (.str ⟨#[c]⟩ u) = true → Ext s.heap s₃.heap → s₃.heap.Ns C m₃ → m₃ x = some (.str ⟨#[c]⟩ u) → wpAny (MW w) A (eval elt (compEnv scope C env)) (fun y s₄ => F (.str ⟨#[c]⟩ u) y ∧ Keeps s₃ s₄) E' s₃)
    (hQ : ∀ D h' tk ys vs, s.heap.get? D = none → h'.PlainList D ys → Paired (fun v (c : Nat) => ∃ u, v = Value.str ⟨#[c]⟩ u) vs l → Paired F (vs.filter p) ys.toList → Ext s.heap h' → Q (.ref D) { s with heap := h', toks := tk })
    (hfree : ∀ y ∈ scope.names, y.2 ≠ .free) (hcell : ∀ y ∈ scope.names, y.2 ≠ .cell) (hkind : scope.kind = .function)
    (hnames : ∀ y ∈ scope.names, y.2 = .local → scope.names.lookup y.1 = some .local) (hx : scope.names.lookup x = some .local)
    (hs : ∀ x, foldedSetIterable iter env x = pure x := by intro _; rfl) :
    wpAny (MW w) A (eval (.ListComp elt [⟨.Name x px, iter, ifs, 0⟩] scope pos) env) Q E s := by
  refine wpAny_ListComp_walk p F hfree hcell hkind hnames hx (hiter _ (fun hh tk he => wpAny_pyIter_str (fun o St W hst => ⟨_, _, _, _, _, St, rfl, W _ hA, ?_, hst, ?_, ⟨?_, ?_⟩, ?_⟩))) hs
  · show (str l).cps.size ≤ sizeLine
    simpa [str] using hsz
  · intro b hb
    rw [List.mem_singleton.mp hb]
    show hh.objs.size < (hh.push o).objs.size
    rw [Heap.size_push]; exact Nat.lt_succ_self _
  · intro C i v s₃ m₃ E' hP hn hm hk htk
    subst he
    obtain ⟨c, u, hc, rfl⟩ := hP
    refine htests C c u s₃ m₃ E' ?_ (fun b o' q => hk b o' (old_not_new q) (Heap.get?_push_of_some _ q)) hn hm
    have := Array.mem_of_getElem? hc
    simpa [str] using this
  · intro C i v s₃ m₃ E' hP hp hn hm hk htk
    subst he
    obtain ⟨c, u, hc, rfl⟩ := hP
    refine helt C c u s₃ m₃ E' ?_ hp (fun b o' q => hk b o' (old_not_new q) (Heap.get?_push_of_some _ q)) hn hm
    have := Array.mem_of_getElem? hc
    simpa [str] using this
  · intro D h' tk' ys vs hD hlD hplD hlen hP hF hk
    subst he
    have hD' : s.heap.get? D = none := fresh_le (Ext.push o) hD
    exact hQ D h' tk' ys vs hD' hplD (codesOf (by rw [hlen]; simp [str]) hP) hF (fun b o' q => hk b o' (old_not_new q) (Heap.get?_push_of_some _ q))
/-- list + list -/
theorem addL {l b : Addr} {vs ws : Array Value} {Q : Value → Shared → Prop} (hl : s.heap.IsList l vs) (hb : s.heap.IsList b ws) (hsz : vs.size + ws.size ≤ sizeLine)
    (h : Q (.ref s.heap.objs.size) { s with heap := s.heap.push { cls := .type "list", data := .seq (vs ++ ws) } }) :
    wpAny (MW w) A (binaryOp .Add (.ref l) (.ref b)) Q E s := by
  obtain ⟨⟨cls, dd, data, sl⟩, ho, hc, n, hd⟩ := id hl
  obtain ⟨⟨cls2, dd2, data2, sl2⟩, ho2, hc2, n2, hd2⟩ := id hb
  simp only at hc hd hc2 hd2
  subst hc hd hc2 hd2
  exact concat_meets ⟨_, ho, rfl⟩ ⟨_, ho2, rfl⟩ noFill_list_add seq_list_add PySem.F.slot_list_add PySem.F.entry_list_add (PySem.F.args_list_add_2 _ _) (list_addW l b vs ws n n2 dd dd2 sl sl2 hsz) ⟨ho, ho2, h⟩
theorem addE {l b : Addr} {vs ws : Array Value} {Q : Value → Shared → Prop} (hl : s.heap.IsList l vs) (hb : s.heap.IsList b ws) (hsz : vs.size + ws.size ≤ sizeLine)
    (h : ∀ h' D, Ext s.heap h' → s.heap.get? D = none → h'.PlainList D (vs ++ ws) → Q (.ref D) { s with heap := h' }) :
    wpAny (MW w) A (binaryOp .Add (.ref l) (.ref b)) Q E s := addL hl hb hsz (h _ _ (Ext.push _) none_of_size ⟨_, Heap.get?_push_size _ rfl⟩)
theorem ListE {elts : List Expr} {pos : Pos} {Q : Value → Shared → Prop}
    (h : wpAny (MW w) A (spliced (backTo pos (starEach elts env))) (fun vs s₁ => vs.length ≤ sizeLine ∧ ∀ h' D, Ext s₁.heap h' → s₁.heap.get? D = none → h'.PlainList D vs.toArray → Q (.ref D) { s₁ with heap := h' }) E s) :
    wpAny (MW w) A (eval (.List elts pos) env) Q E s :=
  wpAny_List (wpAny_mono h (fun vs s₁ h₁ => ⟨h₁.1, h₁.2 _ _ (Ext.push _) none_of_size ⟨_, Heap.get?_push_size _ rfl⟩⟩) fun _ _ e => e)
theorem TupE {elts : List Expr} {k : Nat} {pos : Pos} {Q : Value → Shared → Prop}
    (h : wpAny (MW w) A (spliced (backTo pos (starEach elts env))) (fun vs s₁ => vs.length ≤ sizeLine ∧ ∀ h' D, Ext s₁.heap h' → s₁.heap.get? D = none → h'.IsTuple D vs.toArray → Q (.ref D) { s₁ with heap := h' }) E s) :
    wpAny (MW w) A (eval (.Tuple elts k pos) env) Q E s :=
  wpAny_Tuple (wpAny_mono h (fun vs s₁ h₁ => ⟨h₁.1, h₁.2 _ _ (Ext.push _) none_of_size ⟨_, Heap.get?_push_size _ rfl, rfl, _, rfl⟩⟩) fun _ _ e => e)
theorem stN {name : Str} {scope : Scope} {L a : Addr} {cd : Value} {m : Str → Option Value} {x : Str} {v : Value} {Q : Unit → Shared → Prop} (hn : s.heap.Ns L m)
    (h : ∀ h', h'.Ns L (fun y => if y = x then some v else m y) → XB [L] s.heap h' → Q () { s with heap := h', toks := s.toks + 1 })
    (hk : scope.kind = .function := by rfl) (hl : (envOf name scope L a cd).kindOf x = some .local := by rfl) :
    wpAny (MW w) A (storeName (envOf name scope L a cd) x v) Q E s :=
  wpAny_storeName_local hl hn (fun h' n' hs => h h' n' (XB.same hs)) (by show (scope.kind == .class || (scope.kind == .module && L != mainGlobals)) = false; rw [hk]; rfl)
end
theorem nin1 {a b : Addr} (h : a ≠ b) : a ∉ [b] := by simpa using h
theorem len1 {v : Value} : [v].length ≤ sizeLine := by show 1 ≤ sizeLine; decide
theorem len2 {v u : Value} : [v, u].length ≤ sizeLine := by show 2 ≤ sizeLine; decide
theorem Ext.ns {h h' : Heap} {L : Addr} {m} (e : Ext h h') (x : h.Ns L m) : h'.Ns L m := let ⟨o, es, ep, a, b⟩ := x; ⟨o, es, ep, e _ _ a, b⟩
theorem Ext.list {h h' : Heap} {L : Addr} {items : Array Value} (e : Ext h h') (x : h.IsList L items) : h'.IsList L items := let ⟨o, a, b⟩ := x; ⟨o, e _ _ a, b⟩
theorem Ext.plain {h h' : Heap} {L : Addr} {items : Array Value} (e : Ext h h') (x : h.PlainList L items) : h'.PlainList L items := let ⟨n, a⟩ := x; ⟨n, e _ _ a⟩
theorem Ext.tup {h h' : Heap} {L : Addr} {items : Array Value} (e : Ext h h') (x : h.IsTuple L items) : h'.IsTuple L items := let ⟨o, a, b⟩ := x; ⟨o, e _ _ a, b⟩
theorem Ext.iter {h h' : Heap} {L l : Addr} {i : Nat} (e : Ext h h') (x : h.IsListIter L l i) : h'.IsListIter L l i := let ⟨o, a, b⟩ := x; ⟨o, e _ _ a, b⟩
theorem Ext.st {g h h' : Heap} {L : Addr} (e : Ext g h) (x : XB [L] h h') (hL : g.get? L = none) : Ext g h' := e.xb x (by simpa using hL)
theorem plain_xb {bs : List Addr} {h h' : Heap} {t : Addr} {items : Array Value} (x : h.PlainList t items) (e : XB bs h h') (hb : t ∉ bs) : h'.PlainList t items := let ⟨n, a⟩ := x; ⟨n, e t _ hb a⟩
/-- the figures of six bits, the highest first -/
noncomputable def digs : Nat → Nat → List Nat → List Nat
  | 0, _, d => d
  | f + 1, h, d => if 63 < h then digs f (h / 64) (h / 64 % 64 :: d) else d
noncomputable def unseen (code : Nat) : List Nat := (digs (code / 16) (code / 16) [code / 16 % 64]).map (fun d => 917568 + d) ++ [65024 + code % 16]
end Mine

open PySem PySem.W PySem.Calls PyProof.Rows
set_option Elab.async false
set_option maxRecDepth 1000000
set_option maxHeartbeats 0
set_option linter.unusedVariables false
namespace Mine
noncomputable def IntV (v : Value) (c : Nat) : Prop := ∃ t, v = Value.int (c : Int) t
theorem fdivN (a b : Nat) : (a : Int).fdiv (b : Int) = ((a / b : Nat) : Int) := (Int.ofNat_fdiv a b).symm
theorem fmodN (a b : Nat) : (a : Int).fmod (b : Int) = ((a % b : Nat) : Int) := (Int.ofNat_fmod a b).symm
theorem digs_done {f h : Nat} {d : List Nat} (hc : ¬ 63 < h) : digs f h d = d := by cases f with
  | zero => rfl
  | succ k => unfold digs; rw [if_neg hc]
theorem digs_fuel : ∀ (f g h : Nat) (d : List Nat), h ≤ f → h ≤ g → digs f h d = digs g h d
  | f, g, h, d, hf, hg => by
    by_cases hc : 63 < h
    · cases f with
      | zero => omega
      | succ f => cases g with
        | zero => omega
        | succ g =>
          unfold digs; rw [if_pos hc, if_pos hc]
          exact digs_fuel f g (h / 64) _ (by omega) (by omega)
    · rw [digs_done hc, digs_done hc]
theorem digs_step {h : Nat} {d : List Nat} (hc : 63 < h) : digs h h d = digs (h / 64) (h / 64) (h / 64 % 64 :: d) := by
  cases h with
  | zero => omega
  | succ k =>
    conv => lhs; unfold digs
    rw [if_pos hc]
    exact digs_fuel _ _ _ _ (by omega) (Nat.le_refl _)
theorem paired_len {α β} {R : α → β → Prop} : ∀ {a : List α} {b : List β}, Paired R a b → a.length = b.length
  | _, _, .nil => rfl
  | _, _, .cons _ h => by simp [paired_len h]
theorem paired_mem {α β} {R : α → β → Prop} {v : α} : ∀ {a : List α} {b : List β}, Paired R a b → v ∈ a → ∃ c ∈ b, R v c
  | _, _, .cons x t, h => by
    rcases List.mem_cons.mp h with rfl | h
    · exact ⟨_, .head _, x⟩
    · obtain ⟨c, h1, h2⟩ := paired_mem t h; exact ⟨c, .tail _ h1, h2⟩
theorem paired_str2 {f : Nat → List Nat} {R : Value → Nat → Prop} {F : Value → Value → Prop} (hF : ∀ v c y, R v c → F v y → ∃ u', y = .str (str (f c)) u') : ∀ {vs : List Value} {x : List Nat} {ys : List Value},
    Paired R vs x → Paired F vs ys → ∃ l : List (Str × Tok), ys = strValues l ∧ l.map (·.1) = (x.map f).map str
  | _, _, _, .nil, h => by cases h; exact ⟨[], rfl, rfl⟩
  | _, _, _, .cons (b := c) hv ht, h => by
    cases h with
    | cons h1 h2 =>
      obtain ⟨l, hl1, hl2⟩ := paired_str2 hF ht h2
      obtain ⟨u', rfl⟩ := hF _ _ _ hv h1
      exact ⟨(str (f c), u') :: l, by rw [hl1]; rfl, by rw [List.map_cons, List.map_cons, List.map_cons, hl2]⟩
theorem paired_app {α β} {R : α → β → Prop} : ∀ {a : List α} {b : List β} {c : List α} {d : List β}, Paired R a b → Paired R c d → Paired R (a ++ c) (b ++ d)
  | _, _, _, _, .nil, h => h
  | _, _, _, _, .cons x t, h => .cons x (paired_app t h)
section
variable {w : World} {s : Shared} {A : Around} {Q E : Value → Shared → Prop} {env : Env}
theorem con_unseen (G : Gd w s.heap) (hA : A.handled = none) (hr : A.depth < recursionLimit) (code : Nat) (hc : code < 1114112) (tk : Tok) (h : Back s (fun v _ => ∃ u, v = .str (str (unseen code)) u) Q) :
    wpAny (MW w) A (call (.ref 176) [.int code tk]) Q E s := by
  refine call_def (fd := fd__law_unseen) (name := Str.ofString "_law_unseen") (binds := [(Str.ofString "code", .int code tk)]) G hr (o := o176 w.params) (by kernel_rfl) rfl (by kernel_rfl) (by kernel_rfl) (by kernel_rfl) (by kernel_rfl) (by kernel_rfl) (by kernel_rfl) (by kernel_rfl) (fun h₁ Fm G1 => ?_)
  conv in (sBody _) => whnf
  have b16 : code / 16 < 69632 := by omega
  refine wpAny_execs_cons (wpAny_Assign_Name (wpAny_BinOp (ld Fm rfl (wpAny_Constant_int (floordiv_int (by decide) (st Fm (fun h₂ Fm2 => ?_) rfl rfl) ?_)))))
  rotate_left
  · exact Or.inl (PyProof.noPylong_small (by omega))
  have em : ∀ n : Nat, (n : Int).fmod 64 = ((n % 64 : Nat) : Int) := fun n => fmodN n 64
  have ed : ∀ n : Nat, (n : Int).fdiv 64 = ((n / 64 : Nat) : Int) := fun n => fdivN n 64
  have e16 : (code : Int).fdiv 16 = ((code / 16 : Nat) : Int) := fdivN code 16
  rw [e16] at Fm2
  dsimp only
  have n2 := Fm2.ns
  refine wpAny_execs_cons (wpAny_Assign_Name (ListE (wpAny_items_cons (wpAny_BinOp (ldN n2 rfl rfl rfl rfl (wpAny_Constant_int (PyProof.Rows.mod_int (by decide) (args_nil ⟨len1, fun h₃ D e3 _ d3 => ?_⟩))))))))
  rw [em] at d3
  dsimp only at *
  have hg : s.heap.get? s.heap.objs.size = none := none_of_size
  refine stN (e3.ns n2) (fun h₄ n4 x4 => ?_)
  have d4 := list_xb d3.isList x4 (nin1 (ns_list (e3.ns n2) d3.isList))
  have ext4 : Ext s.heap h₄ := (Ext.trans Fm2.keep e3).st x4 hg
  dsimp only
  refine wpAny_execs_cons (wpAny_While (codeAny_whileLoop (fun n s' => ∃ h' tk' m' hh D items ds t1, s' = { s with heap := h', toks := tk' } ∧ n = hh ∧ h'.Ns s.heap.objs.size m' ∧ m' (Str.ofString "high") = some (.int (hh : Nat) t1) ∧
      m' (Str.ofString "digits") = some (.ref D) ∧ m' (Str.ofString "code") = some (.int code tk) ∧ h'.IsList D items ∧ Paired IntV items.toList ds ∧ Ext s.heap h' ∧ digs (code / 16) (code / 16) [code / 16 % 64] = digs hh hh ds ∧
      ds.length + hh ≤ 70000 ∧ (∀ d ∈ ds, d < 64)) ?_ (code / 16)
    ⟨h₄, _, _, code / 16, D, _, [code / 16 % 64], _, rfl, rfl, n4, rfl, rfl, rfl, d4, .cons ⟨_, rfl⟩ .nil, ext4, rfl, by simp; omega, by simp; omega⟩))
  rintro n s' ⟨h', tk', m', hh, D, items, ds, t1, rfl, rfl, hn, hmh, hmd, hmc, hl, hds, hX, hG, hlen, hlt⟩
  refine wpAny_isTrue_Compare1 (ldN hn hmh rfl rfl rfl (wpAny_Constant_int (gt_int (wpAny_truthy_bool ?_))))
  have isz : items.size = ds.length := by rw [← paired_len hds]; simp
  by_cases hc6 : 63 < n
  · have hcc : decide ((63 : Int) < n) = true := by simp; omega
    rw [hcc]
    refine wpAny_execs_cons (wpAny_Assign_Name (wpAny_BinOp (ldN hn hmh rfl rfl rfl (wpAny_Constant_int (floordiv_int (by decide) ?_ (Or.inl (PyProof.noPylong_small (by omega))))))))
    rw [ed]
    dsimp only
    refine stN hn (fun h₅ n5 x5 => ?_)
    have l5 := list_xb hl x5 (nin1 (ns_list hn hl))
    have ext5 := hX.st x5 hg
    dsimp only
    refine wpAny_execs_cons (wpAny_Assign_Name (wpAny_BinOp (ListE (wpAny_items_cons (wpAny_BinOp (ldN n5 rfl rfl rfl rfl (wpAny_Constant_int (PyProof.Rows.mod_int (by decide) (args_nil ⟨len1, fun h₆ D6 e6 _ d6 => ?_⟩)))))))))
    rw [em] at d6
    dsimp only at *
    refine ldN (e6.ns n5) hmd rfl rfl rfl (addE d6.isList (e6.list l5) (by show 1 + items.size ≤ sizeLine; rw [isz]; unfold sizeLine; omega) (fun h₇ D7 e7 _ d7 => ?_))
    have n7 := e7.ns (e6.ns n5)
    dsimp only at *
    refine stN n7 (fun h₈ n8 x8 => ?_)
    dsimp only
    refine wpAny_execs_nil ⟨n / 64, by omega, h₈, _, _, n / 64, D7, _, (n / 64 % 64) :: ds, _, rfl, rfl, n8, rfl, rfl, hmc, list_xb d7.isList x8 (nin1 (ns_list n7 d7.isList)), ?_, (ext5.trans (e6.trans e7)).st x8 hg, ?_, ?_, ?_⟩
    · simpa using .cons ⟨_, rfl⟩ hds
    · rw [hG]; exact digs_step hc6
    · simp; omega
    · simp; exact ⟨by omega, hlt⟩
  · have hcc : decide ((63 : Int) < n) = false := by simp; omega
    rw [hcc]
    refine wpAny_execs_nil ?_
    dsimp only
    rw [digs_done hc6] at hG
    refine wpAny_execs_cons ?_
    refine wpAny_Return_some ?_
    refine wpAny_BinOp ?_
    refine Call_method1 ?_ ?_ ?_ ?_
    · rfl
    · rfl
    · rfl
    refine wpAny_Constant_str ?_
    refine SB.join ?_
    refine compL (fun _ => true) (fun v y => ∃ c u, IntV v c ∧ y = .str (str [917568 + c]) u) hA hl (by rw [isz]; unfold sizeLine; omega) (fun Q' hq => ldN hn hmd rfl rfl rfl hq)
      (fun C v s₃ m₃ E' hv e3 hn3 hm3 => ?_) (fun C v s₃ m₃ E' hv _ e3 hn3 hm3 => ?_) (fun D' h₉ tk₉ ys hD hp hF e9 => ?_) (by decide) (by decide) rfl (by decide) rfl
    · exact wpAny_pure ⟨rfl, _, _, rfl, fun _ _ e => e⟩
    · obtain ⟨c, hc1, t, rfl⟩ := paired_mem hds hv
      have hc64 := hlt c hc1
      have G3 := G.keeps (hX.trans e3)
      refine Call_ (bnameE G3 (gb_chr _) (by boot_by_name) (by decide) rfl rfl rfl rfl rfl (Globals_cb1 (args_cons (wpAny_BinOp (wpAny_Constant_int (wpAny_Name (wpAny_loadName_local rfl rfl hn3 hm3 (PyProof.Rows.add_int (args_nil (chr_of_range (by omega) (by omega) ?_)))) rfl))))))
      refine ⟨⟨c, _, ⟨_, rfl⟩, by rw [show ((917568 : Int) + (c : Int)).toNat = 917568 + c by omega]; rfl⟩, _, _, rfl, fun _ _ e => e⟩
    · have hys : ∃ lt : List (Str × Tok), ys.toList = strValues lt ∧ lt.map (·.1) = (ds.map (fun d => [917568 + d])).map str := by
        have e : items.toList.filter (fun _ => true) = items.toList := List.filter_eq_self.mpr (by simp)
        rw [e] at hF
        exact paired_str2 (fun v c y h1 h2 => by
          obtain ⟨t, rfl⟩ := h1
          obtain ⟨c', u, ⟨t', e1⟩, rfl⟩ := h2
          have e2 := Value.int.inj e1
          have e3 : c = c' := Int.ofNat.inj e2.1
          exact ⟨u, by rw [e3]⟩) hds hF
      obtain ⟨lt, e1, e2⟩ := hys
      refine ⟨D', lt, rfl, ?_, _, e2, ?_, ?_⟩
      · have := hp.isList
        rw [← e1]; simpa using this
      · refine joinOk_of ?_
        have h1 := sum_str 1 (ds.map (fun d => [917568 + d])) (by simp)
        have h3 : (Str.ofString "").length = 0 := rfl
        rw [h3, Nat.mul_zero]
        rw [List.length_map] at h1
        omega
      · intro t' k
        have ej : Txt.join (str []) ((ds.map (fun d => [917568 + d])).map str) = str (ds.map (fun d => 917568 + d)) := by
          rw [join_str]
          congr 1
          clear hG hlt hds hlen isz hF e2 e1
          induction ds with
          | nil => rfl
          | cons a r ih => simp [ih]
        have ejj : Txt.join (Str.ofString "") ((ds.map (fun d => [917568 + d])).map str) = str (ds.map (fun d => 917568 + d)) := ej
        rw [ejj]
        dsimp only
        refine Call_ ?_
        refine bnameE (G.keeps (hX.trans e9)) (gb_chr _) (by boot_by_name) (by decide) rfl rfl rfl rfl rfl ?_
        refine Globals_cb1 ?_
        refine args_cons ?_
        refine wpAny_BinOp ?_
        refine wpAny_Constant_int ?_
        refine wpAny_BinOp ?_
        refine ldN (e9.ns hn) hmc rfl rfl rfl ?_
        refine wpAny_Constant_int ?_
        refine PyProof.Rows.mod_int (by decide) ?_
        have em16 : (code : Int).fmod 16 = ((code % 16 : Nat) : Int) := fmodN code 16
        rw [em16]
        refine PyProof.Rows.add_int ?_
        refine args_nil ?_
        refine chr_of_range (by omega) (by omega) ?_
        refine PyProof.Rows.add_str (fun t' tk => ?_) ?_
        · dsimp only
          refine h _ _ _ ⟨t', ?_⟩ (hX.trans e9)
          have e65 : ((65024 : Int) + ((code % 16 : Nat) : Int)).toNat = 65024 + code % 16 := by omega
          rw [e65, unseen, hG]
          congr 1
          exact str_app _ _
        · show (str _).length + 1 ≤ sizeLine
          have : (str (ds.map (fun d => 917568 + d))).length = ds.length := by simp [str, Str.length]
          rw [this]; unfold sizeLine; omega
end
end Mine

open PySem PySem.W PySem.Calls PyProof.Rows
set_option Elab.async false
set_option maxRecDepth 1000000
set_option maxHeartbeats 0
set_option linter.unusedVariables false
namespace Mine
inductive Lits : List Expr → List (Str ⊕ Int) → Prop
  | nil : Lits [] []
  | str {x k pos es ls} : Lits es ls → Lits (.Constant (.str x) k pos :: es) (.inl x :: ls)
  | int {x k pos es ls} : Lits es ls → Lits (.Constant (.int x) k pos :: es) (.inr x :: ls)
noncomputable def LitV (v : Value) : Str ⊕ Int → Prop
  | .inl x => ∃ t, v = .str x t
  | .inr x => ∃ t, v = .int x t
theorem rangeOf {n : Nat} {vs : List Value} (hl : vs.length = n) (hP : ∀ (j : Nat) v, vs[j]? = some v → ∃ t, v = Value.int (0 + (j : Int) * 1) t) : Paired IntV vs (List.range n) := by
  induction n generalizing vs with
  | zero => cases vs with
    | nil => exact .nil
    | cons a b => cases hl
  | succ n ih =>
    have hne : vs ≠ [] := by rintro rfl; cases hl
    have e : vs = vs.dropLast ++ [vs.getLast hne] := (List.dropLast_concat_getLast hne).symm
    have hl2 : vs.dropLast.length = n := by simp [hl]
    rw [List.range_succ, e]
    refine paired_app (ih hl2 (fun j v hv => ?_)) (.cons ?_ .nil)
    · refine hP j v ?_
      have hj : j < vs.dropLast.length := (List.getElem?_eq_some_iff.mp hv).1
      rw [e, List.getElem?_append_left hj]; exact hv
    · obtain ⟨t, ht⟩ := hP n (vs.getLast hne) (by rw [List.getLast_eq_getElem]; simp [hl])
      exact ⟨t, by rw [ht]; congr 1; omega⟩
section
variable {w : World} {s : Shared} {A : Around} {Q E : Value → Shared → Prop} {env : Env}
theorem lits_spliced {pos : Pos} {es : List Expr} {ls : List (Str ⊕ Int)} (hl : Lits es ls) :
    ∀ {s : Shared} {QL : List Value → Shared → Prop}, (∀ vs tk, Paired LitV vs ls → QL vs { s with toks := tk }) → wpAny (MW w) A (spliced (backTo pos (starEach es env))) QL E s := by
  induction hl with
  | nil => intro s QL h; exact args_nil (h [] s.toks .nil)
  | str _ ih =>
    intro s QL h
    refine wpAny_items_cons ?_ rfl
    refine wpAny_Constant_str ?_
    exact ih (fun vs tk hp => h _ tk (.cons ⟨_, rfl⟩ hp))
  | int _ ih =>
    intro s QL h
    refine wpAny_items_cons ?_ rfl
    refine wpAny_Constant_int ?_
    exact ih (fun vs tk hp => h _ tk (.cons ⟨_, rfl⟩ hp))
theorem paired_get {α β} {R : α → β → Prop} : ∀ {a : List α} {b : List β} {i : Nat} {y : β}, Paired R a b → b[i]? = some y → ∃ x, a[i]? = some x ∧ R x y
  | _, _, 0, _, .cons x t, h => by simp at h; subst h; exact ⟨_, rfl, x⟩
  | _, _, i + 1, _, .cons x t, h => by simpa using paired_get t (by simpa using h)
theorem item_l {value slice : Expr} {l : Addr} {items : Array Value} {k : Int} {u : Tok} {x : Value} {Q : Value → Shared → Prop} (hl : s.heap.IsList l items)
    (h0 : 0 ≤ k) (hk : k < 2 ^ 63) (hx : items[k.toNat]? = some x) (h : Q x s)
    (hs : subscripted slice false (.ref l) (.int k u) = operate [.ref l, .int k u] (getItem (.ref l) (.int k u))) :
    wpAny (MW w) A (subscriptTail value slice (.ref l) (.int k u)) Q E s := tail_any hl.typeIs slot_list_getitem.lookup (wpAny_getItem_list hl h0 hk hx h) hs
theorem item_t {value slice : Expr} {l : Addr} {items : Array Value} {k : Int} {u : Tok} {x : Value} {Q : Value → Shared → Prop} (hl : s.heap.IsTuple l items)
    (h0 : 0 ≤ k) (hk : k < 2 ^ 63) (hx : items[k.toNat]? = some x) (h : Q x s)
    (hs : subscripted slice false (.ref l) (.int k u) = operate [.ref l, .int k u] (getItem (.ref l) (.int k u))) :
    wpAny (MW w) A (subscriptTail value slice (.ref l) (.int k u)) Q E s := by
  have hlt : k.toNat < items.size := by
    rcases Array.getElem?_eq_some_iff.mp hx with ⟨h, _⟩; exact h
  have hT : IsTup s.heap l items := hl
  refine tail_any hT.typeIs slot_tuple_getitem.lookup (getItem_tuple hT (by omega) hk (j := k.toNat) ?_ hx h) hs
  unfold seqIndex?
  have h1 : ¬ k < 0 := by omega
  have h2 : k < (items.size : Int) := by omega
  rw [if_neg h1]
  have h3 : (decide (0 ≤ k) && decide (k < (items.size : Int))) = true := by simp; omega
  rw [if_pos h3]
/-- range(n), written -/
theorem rangeIter {n : Nat} {p1 p2 pos : Pos} {k : Nat} {K : Value → Shared → Prop} (G : Gd w s.heap) (hn : n < 1000)
    (hg : env.globals = mainGlobals) (hb : env.builtins = builtinsNs) (hk : env.scope.kind = .function) (hx : env.kindOf (Str.ofString "range") = some .globalImplicit)
    (h : ∀ I h' tk, Ext s.heap h' → s.heap.get? I = none → IsRangeIter h' I 0 n 1 → K (.ref I) { s with heap := h', toks := tk }) :
    wpAny (MW w) A (eval (.Call (.Name (Str.ofString "range") p1) [.Constant (.int n) k p2] [] pos) env) (fun xv s₁ => wpAny (MW w) A (pyIter xv) K E s₁) E s := by
  refine Call_ ?_
  refine bnameE G (gb_range _) (by boot_by_name) (by decide) hg hb hk hx (by decide) ?_
  show wpAny _ _ (callWith pos (.type "range") [] [(false, eval (.Constant (.int n) k p2) env)] []) _ _ _
  refine PySem.callWith_type rfl (Calls.evalArgs_plain (Calls.spliced_cons ?_))
  refine wpAny_Constant_int ?_
  refine Calls.spliced_nil ?_
  refine call_range_1 ?_
  refine wpAny_pyIter_range (IsRange.new ..) (small_one (by decide) (by decide) (by omega) (by omega)) ?_
  have hsz : Builtin.Range.rangeSize 0 (n : Int) 1 = (n : Int) := by rw [rangeSize_one]; split <;> omega
  rw [hsz]
  dsimp only
  refine h _ _ _ ((Ext.push _).trans (Ext.push _)) ?_ (Heap.get?_push_size _ rfl)
  exact fresh_le (Ext.push _) none_of_size
/-- a comprehension over a written range -/
theorem compR {elt iter : Expr} {x : Str} {px : Pos} {ifs : List Expr} {scope : Scope} {pos : Pos} {n : Nat} (p : Value → Bool) (F : Value → Value → Prop)
    (hA : A.handled = none) (hsz : n ≤ sizeLine)
    (hiter : ∀ K : Value → Shared → Prop, (∀ I h' tk, Ext s.heap h' → s.heap.get? I = none → IsRangeIter h' I 0 n 1 → K (.ref I) { s with heap := h', toks := tk }) → wpAny (MW w) A (eval iter env) (fun xv s₁ => wpAny (MW w) A (pyIter xv) K E s₁) E s)
    (htests : ∀ C i t s₃ m₃ E', i < n → Ext s.heap s₃.heap → s₃.heap.Ns C m₃ → m₃ x = some (.int (i : Nat) t) →
      wpAny (MW w) A (forIn ifs true fun c r => if r = true then do let ok ← isTrue c (compEnv scope C env) (eval c (compEnv scope C env)); pure (ForInStep.yield ok) else pure (ForInStep.yield r)) (fun ok s₄ => ok = p (.int (i : Nat) t) ∧ Keeps s₃ s₄) E' s₃)
    (helt : ∀ C i t s₃ m₃ E', i < n → p (.int (i : Nat) t) = true → Ext s.heap s₃.heap → s₃.heap.Ns C m₃ → m₃ x = some (.int (i : Nat) t) → wpAny (MW w) A (eval elt (compEnv scope C env)) (fun y s₄ => F (.int (i : Nat) t) y ∧ Keeps s₃ s₄) E' s₃)
    (hQ : ∀ D h' tk ys vs, s.heap.get? D = none → h'.PlainList D ys → Paired IntV vs (List.range n) → Paired F (vs.filter p) ys.toList → Ext s.heap h' → Q (.ref D) { s with heap := h', toks := tk })
    (hfree : ∀ y ∈ scope.names, y.2 ≠ .free) (hcell : ∀ y ∈ scope.names, y.2 ≠ .cell) (hkind : scope.kind = .function)
    (hnames : ∀ y ∈ scope.names, y.2 = .local → scope.names.lookup y.1 = some .local) (hx : scope.names.lookup x = some .local)
    (hs : ∀ x, foldedSetIterable iter env x = pure x := by intro _; rfl) :
    wpAny (MW w) A (eval (.ListComp elt [⟨.Name x px, iter, ifs, 0⟩] scope pos) env) Q E s := by
  refine wpAny_ListComp_walk p F hfree hcell hkind hnames hx (hiter _ (fun I h₁ tk₁ e1 hI hit => ?_)) hs
  have ex : ∀ h', (∀ b o, b ∉ [I] → h₁.get? b = some o → h'.get? b = some o) → Ext s.heap h' := fun h' hk b o q => hk b o (by intro q'; rw [List.mem_singleton.mp q'] at q; rw [hI] at q; cases q) (e1 _ _ q)
  have W0 := Walks.range (prog := pwp) (w := w) hA I 0 1 n
  have W1 : Walks pwp w A I [I] [I] n (fun i v => i < n ∧ ∃ t, v = .int (0 + i * 1) t) (fun i h => IsRangeIter h I (0 + (i : Nat) * 1) ((n : Int) - (i : Nat)) 1) :=
    { W0 with item := fun i s Q E hi st hQ => W0.item i s Q E hi st (fun v h' tk hp => hQ v h' tk ⟨hi, hp⟩) }
  have ei : ∀ i : Nat, (0 : Int) + (i : Int) * 1 = (i : Int) := fun i => by omega
  refine ⟨_, _, _, _, _, _, rfl, W1, hsz, ?_, ?_, ⟨?_, ?_⟩, ?_⟩
  · have e1 : (0 + ((0 : Nat) : Int) * 1) = 0 := by simp
    have e2 : ((n : Int) - ((0 : Nat) : Int)) = n := by simp
    rw [e1, e2]; exact hit
  · intro b hb
    rw [List.mem_singleton.mp hb]
    exact Heap.lt_size hit
  · intro C i v s₃ m₃ E' hP hn hm hk htk
    obtain ⟨hi, t, rfl⟩ := hP
    rw [ei] at hm ⊢
    exact htests C i t s₃ m₃ E' hi (ex _ hk) hn hm
  · intro C i v s₃ m₃ E' hP hp hn hm hk htk
    obtain ⟨hi, t, rfl⟩ := hP
    rw [ei] at hm hp ⊢
    exact helt C i t s₃ m₃ E' hi hp (ex _ hk) hn hm
  · intro D h' tk ys vs hD hlD hplD hlen hP hF hk
    exact hQ D h' tk ys vs (fresh_le e1 hD) hplD (rangeOf hlen (fun j v hv => (hP j v hv).2)) hF (ex _ hk)
end
end Mine

open PySem PySem.W PySem.Calls PyProof.Rows
set_option Elab.async false
set_option maxRecDepth 1000000
set_option maxHeartbeats 0
set_option linter.unusedVariables false
namespace Mine
noncomputable def plains : List Nat := [32, 10, 34, 92, 35, 97, 1078, 19968]
noncomputable def starts : List Nat := [119808, 119860, 119912, 120016, 120172, 120224, 120276, 120328, 120380, 120432]
noncomputable def manys : List (Nat × List Nat) := [(223, [115, 115]), (304, [105, 775]), (329, [700, 110]), (890, [32, 953]), (13255, [99, 111, 46]), (64259, [102, 102, 105]), (7834, [97, 702]), (8481, [116, 101, 108])]
noncomputable def gones : List Nat := [173, 847, 6150, 6155, 6156, 6157, 8203, 8204, 8205, 8288, 65279] ++ (List.range 16).map (65024 + ·)
/-- a sign and what it means -/
noncomputable def signP (cell : Int) : Nat × List Nat :=
  let q := cell.fdiv 7
  match (cell.fmod 7).toNat with
  | 0 => (plains.getD (q.fmod 8).toNat 0, [plains.getD (q.fmod 8).toNat 0])
  | 1 => (65 + (q.fmod 26).toNat, [97 + (q.fmod 26).toNat])
  | 2 => (starts.getD ((q.fdiv 26).fmod 10).toNat 0 + (q.fmod 26).toNat, [97 + (q.fmod 26).toNat])
  | 3 => (1040 + (q.fmod 32).toNat, [1072 + (q.fmod 32).toNat])
  | 4 => manys.getD (q.fmod 8).toNat (0, [])
  | 5 => (gones.getD (q.fmod 27).toNat 0, [])
  | _ => (tagN q, [])
noncomputable def PairAt (h : Heap) (v : Value) (p : Nat × List Nat) : Prop := ∃ t u1 u2, v = .ref t ∧ h.IsTuple t #[.str (str [p.1]) u1, .str (str p.2) u2]
theorem PairAt.ext {h h' : Heap} {v : Value} {p : Nat × List Nat} (x : PairAt h v p) (e : Ext h h') : PairAt h' v p := let ⟨t, u1, u2, a, b⟩ := x; ⟨t, u1, u2, a, e.tup b⟩
section
variable {w : World} {s : Shared} {A : Around} {Q E : Value → Shared → Prop} {env : Env}
theorem chrMod {c m q : Int} {x : Str} {p1 p2 p3 p4 p5 p6 pos : Pos} {k1 k2 : Nat} {t : Tok} {mm : Str → Option Value} (G : Gd w s.heap) (hn : s.heap.Ns env.locals mm) (hm : mm x = some (.int q t))
    (h0 : 0 < m) (h1 : 0 ≤ c) (h2 : c + m ≤ 1114112)
    (hg : env.globals = mainGlobals) (hb : env.builtins = builtinsNs) (hk : env.scope.kind = .function) (hc : env.kindOf (Str.ofString "chr") = some .globalImplicit) (hl : env.kindOf x = some .local) (hd : (x == ("__debug__" : Str)) = false)
    (h : ∀ u tk, Q (.str (str [c.toNat + (q.fmod m).toNat]) u) { s with toks := tk }) :
    wpAny (MW w) A (eval (.Call (.Name (Str.ofString "chr") p1) [.BinOp (.Constant (.int c) k1 p2) .Add (.BinOp (.Name x p3) .Mod (.Constant (.int m) k2 p4) p5) p6] [] pos) env) Q E s := by
  refine Call_ ?_
  refine bnameE G (gb_chr _) (by boot_by_name) (by decide) hg hb hk hc (by decide) ?_
  refine Globals_cb1 ?_
  refine args_cons ?_
  refine wpAny_BinOp ?_
  refine wpAny_Constant_int ?_
  refine wpAny_BinOp ?_
  refine ldN hn hm hk hl hd ?_
  refine wpAny_Constant_int ?_
  refine PyProof.Rows.mod_int (by omega) ?_
  refine PyProof.Rows.add_int ?_
  refine args_nil ?_
  have a0 : 0 ≤ q.fmod m := Int.fmod_nonneg_of_pos q h0
  have a1 : q.fmod m < m := Int.fmod_lt_of_pos q h0
  refine chr_of_range (by omega) (by omega) ?_
  have e : (c + q.fmod m).toNat = c.toNat + (q.fmod m).toNat := by omega
  rw [e]
  exact h _ _
theorem ifEq {x : Str} {K kind : Int} {t : Tok} {k : Nat} {p1 p2 p3 p4 : Pos} {body rest : List Stmt} {mm : Str → Option Value} {QF : Flow → Shared → Prop} (hn : s.heap.Ns env.locals mm) (hm : mm x = some (.int kind t))
    (hk : env.scope.kind = .function) (hl : env.kindOf x = some .local) (hd : (x == ("__debug__" : Str)) = false)
    (h1 : kind = K → ∀ tk, wpAny (MW w) A (execs body env) (fun f s' => match f with | .next => wpAny (MW w) A (execs rest env) QF E s' | f => QF f s') E { s with toks := tk })
    (h2 : kind ≠ K → ∀ tk, wpAny (MW w) A (execs rest env) QF E { s with toks := tk }) :
    wpAny (MW w) A (execs (.If (.Compare (.Name x p1) [.Eq] [.Constant (.int K) k p2] p3) body [] p4 :: rest) env) QF E s := by
  refine wpAny_execs_cons ?_
  refine wpAny_If ?_
  refine wpAny_isTrue_Compare1 ?_
  refine ldN hn hm hk hl hd ?_
  refine wpAny_Constant_int ?_
  refine eq_int ?_
  refine wpAny_truthy_bool ?_
  by_cases hK : kind = K
  · have : (kind == K) = true := by simpa using hK
    rw [this]
    exact h1 hK _
  · have : (kind == K) = false := by simpa using hK
    rw [this]
    exact wpAny_execs_nil (h2 hK _)
noncomputable def ls8 : List (Str ⊕ Int) := [.inl (Str.ofString " "), .inl (Str.ofString "\n"), .inl (Str.ofString "\""), .inl (Str.ofString "\\"), .inl (Str.ofString "#"), .inl (Str.ofString "a"), .inl (Str.ofString "ж"), .inl (Str.ofString "一")]
noncomputable def ls10 : List (Str ⊕ Int) := [.inr 119808, .inr 119860, .inr 119912, .inr 120016, .inr 120172, .inr 120224, .inr 120276, .inr 120328, .inr 120380, .inr 120432]
theorem lit8 {i : Nat} (h : i < 8) : ls8[i]? = some (.inl (str [plains.getD i 0])) := by
  have : i = 0 ∨ i = 1 ∨ i = 2 ∨ i = 3 ∨ i = 4 ∨ i = 5 ∨ i = 6 ∨ i = 7 := by omega
  rcases this with rfl | rfl | rfl | rfl | rfl | rfl | rfl | rfl <;> rfl
theorem lit10 {i : Nat} (h : i < 10) : ls10[i]? = some (.inr ((starts.getD i 0 : Nat) : Int)) := by
  have : i = 0 ∨ i = 1 ∨ i = 2 ∨ i = 3 ∨ i = 4 ∨ i = 5 ∨ i = 6 ∨ i = 7 ∨ i = 8 ∨ i = 9 := by omega
  rcases this with rfl | rfl | rfl | rfl | rfl | rfl | rfl | rfl | rfl | rfl <;> rfl
theorem starts_le (i : Nat) : starts.getD i 0 ≤ 200000 := by
  by_cases h : i < 10
  · have : i = 0 ∨ i = 1 ∨ i = 2 ∨ i = 3 ∨ i = 4 ∨ i = 5 ∨ i = 6 ∨ i = 7 ∨ i = 8 ∨ i = 9 := by omega
    rcases this with rfl | rfl | rfl | rfl | rfl | rfl | rfl | rfl | rfl | rfl <;> decide
  · have : starts.getD i 0 = 0 := by
      rw [List.getD_eq_getElem?_getD, List.getElem?_eq_none (by show 10 ≤ i; omega)]; rfl
    omega
inductive Tups : List Expr → List (Nat × List Nat) → Prop
  | nil : Tups [] []
  | cons {x y p k1 k2 p1 p2 q1 q2 es ls} (h : x = str [p.1]) (h' : y = str p.2) : Tups es ls → Tups (.Tuple [.Constant (.str x) k1 p1, .Constant (.str y) k2 p2] q1 q2 :: es) (p :: ls)
theorem tups_spliced {pos : Pos} {es : List Expr} {ls : List (Nat × List Nat)} (hl : Tups es ls) :
    ∀ {s : Shared} {QL : List Value → Shared → Prop}, (∀ vs h' tk, Paired (PairAt h') vs ls → Ext s.heap h' → QL vs { s with heap := h', toks := tk }) → wpAny (MW w) A (spliced (backTo pos (starEach es env))) QL E s := by
  induction hl with
  | nil => intro s QL h; exact args_nil (h [] s.heap s.toks .nil (Ext.refl _))
  | cons hx hy _ ih =>
    intro s QL h
    subst hx hy
    refine wpAny_items_cons ?_ rfl
    refine TupE ?_
    refine wpAny_items_cons ?_ rfl
    refine wpAny_Constant_str ?_
    refine wpAny_items_cons ?_ rfl
    refine wpAny_Constant_str ?_
    refine args_nil ⟨len2, fun h1 D e1 _ d1 => ?_⟩
    refine ih (fun vs h' tk hp e => h _ h' tk (.cons ⟨D, _, _, rfl, e.tup d1⟩ hp) (e1.trans e))
noncomputable abbrev ls4 : List (Nat × List Nat) := manys
theorem litm {i : Nat} (h : i < 8) : manys[i]? = some (manys.getD i (0, [])) := by
  rw [List.getD_eq_getElem?_getD, List.getElem?_eq_getElem (show i < manys.length from h)]; rfl
noncomputable def ls11 : List (Str ⊕ Int) := [.inr 173, .inr 847, .inr 6150, .inr 6155, .inr 6156, .inr 6157, .inr 8203, .inr 8204, .inr 8205, .inr 8288, .inr 65279]
theorem lit11 {vs : List Value} (h : Paired LitV vs ls11) : Paired IntV vs [173, 847, 6150, 6155, 6156, 6157, 8203, 8204, 8205, 8288, 65279] := by
  unfold ls11 at h
  have key : ∀ (l : List Nat) {vs : List Value}, Paired LitV vs (l.map fun x : Nat => (Sum.inr (x : Int) : Str ⊕ Int)) → Paired IntV vs l := by
    intro l
    induction l with
    | nil => intro vs h; cases h; exact .nil
    | cons a r ih => intro vs h; cases h with
      | cons h1 h2 => exact .cons h1 (ih h2)
  exact key _ h
theorem paired_map {f : Nat → Nat} {F : Value → Value → Prop} (hF : ∀ v i y, IntV v i → F v y → IntV y (f i)) : ∀ {vs : List Value} {l : List Nat} {ys : List Value}, Paired IntV vs l → Paired F vs ys → Paired IntV ys (l.map f)
  | _, _, _, .nil, h => by cases h; exact .nil
  | _, _, _, .cons h1 h2, h => by
    cases h with
    | cons g1 g2 => exact .cons (hF _ _ _ h1 g1) (paired_map hF h2 g2)
theorem gones_le (i : Nat) : gones.getD i 0 ≤ 70000 := by
  have key : ∀ l : List Nat, (l.all fun x => decide (x ≤ 70000)) = true → ∀ i : Nat, l.getD i 0 ≤ 70000 := by
    intro l hl i
    rw [List.getD_eq_getElem?_getD]
    cases h : l[i]? with
    | none => decide
    | some x =>
      have := List.all_eq_true.mp hl x (List.mem_of_getElem? h)
      simpa using this
  exact key _ (by decide) i
theorem con_sign (G : Gd w s.heap) (hA : A.handled = none) (hr : A.depth + 150 < recursionLimit) (cell : Int) (tk : Tok)
    (h : Back s (fun v h' => PairAt h' v (signP cell)) Q) :
    wpAny (MW w) A (call (.ref 171) [.int cell tk]) Q E s := by
  refine call_def (fd := fd__law_sign) (name := Str.ofString "_law_sign") (binds := [(Str.ofString "cell", .int cell tk)]) G (by omega) (o := o171 w.params) (by kernel_rfl) rfl (by kernel_rfl) (by kernel_rfl) (by kernel_rfl) (by kernel_rfl) (by kernel_rfl) (by kernel_rfl) (by kernel_rfl) (fun h₁ Fm G1 => ?_)
  conv in (sBody _) => whnf
  have hg : s.heap.get? s.heap.objs.size = none := none_of_size
  have n1 := Fm.ns
  have e1 : Ext s.heap h₁ := Fm.keep
  refine wpAny_execs_cons ?_
  refine wpAny_Assign_Name ?_
  refine wpAny_BinOp ?_
  refine ldN n1 rfl rfl rfl rfl ?_
  refine wpAny_Constant_int ?_
  refine PyProof.Rows.mod_int (by decide) ?_
  refine stN n1 (fun h₂ n2 x2 => ?_)
  dsimp only at *
  have e2 := e1.st x2 hg
  refine wpAny_execs_cons ?_
  refine wpAny_Assign_Name ?_
  refine wpAny_BinOp ?_
  refine ldN n2 rfl rfl rfl rfl ?_
  refine wpAny_Constant_int ?_
  refine floordiv_int (by decide) ?_ (.inl (PyProof.noPylong_small (by decide)))
  refine stN n2 (fun h₃ n3 x3 => ?_)
  dsimp only at *
  have e3 := e2.st x3 hg
  have G3 := G.keeps e3
  have k0 : 0 ≤ cell.fmod 7 := Int.fmod_nonneg_of_pos cell (by decide)
  have k1 : cell.fmod 7 < 7 := Int.fmod_lt_of_pos cell (by decide)
  generalize hq : cell.fdiv 7 = q at *
  generalize htk : s.toks + [(Str.ofString "cell", Value.int cell tk)].length + 1 + 1 + 1 + 1 + 1 + 1 = tk0 at *
  generalize ht3 : s.toks + [(Str.ofString "cell", Value.int cell tk)].length + 1 + 1 + 1 + 1 = tq at *
  generalize ht2 : s.toks + [(Str.ofString "cell", Value.int cell tk)].length + 1 = tp at *
  generalize hmm : (fun y => if y = Str.ofString "which" then some (Value.int q tq) else if y = Str.ofString "kind" then some (Value.int (cell.fmod 7) tp) else List.lookup y [(Str.ofString "cell", Value.int cell tk)].reverse) = mm at *
  have mw : mm (Str.ofString "which") = some (.int q tq) := by rw [← hmm]; rfl
  have mk : mm (Str.ofString "kind") = some (.int (cell.fmod 7) tp) := by rw [← hmm]; rfl
  clear hmm ht2 ht3 htk
  have q8a : 0 ≤ q.fmod 8 := Int.fmod_nonneg_of_pos q (by decide)
  have q8b : q.fmod 8 < 8 := Int.fmod_lt_of_pos q (by decide)
  try dsimp only
  refine ifEq n3 mk rfl rfl rfl (fun hk tk1 => ?_) (fun hk0 tk1 => ?_)
  · have es : signP cell = (plains.getD (q.fmod 8).toNat 0, [plains.getD (q.fmod 8).toNat 0]) := by unfold signP; rw [hk, hq]; rfl
    dsimp only
    refine wpAny_execs_cons ?_
    refine wpAny_Assign_Name ?_
    refine Subscript_ ?_
    refine ListE ?_
    refine lits_spliced (ls := ls8) (by unfold ls8; repeat constructor) (fun vs tku hp => ?_)
    refine ⟨by rw [paired_len hp]; decide, fun h4 D4 e4 _ d4 => ?_⟩
    dsimp only at *
    have n4 := e4.ns n3
    refine wpAny_BinOp ?_
    refine ldN n4 mw rfl rfl rfl ?_
    refine wpAny_Constant_int ?_
    refine PyProof.Rows.mod_int (by decide) ?_
    have hx := paired_get (i := (q.fmod 8).toNat) (y := .inl (str [plains.getD (q.fmod 8).toNat 0])) hp (lit8 (by omega))
    obtain ⟨x, hx1, u, rfl⟩ := hx
    refine item_l d4.isList q8a (by omega) (by simpa using hx1) ?_ rfl
    refine stN n4 (fun h5 n5 x5 => ?_)
    dsimp only at *
    have e5 := (e3.trans e4).st x5 hg
    refine wpAny_execs_cons ?_
    refine wpAny_Return_some ?_
    refine TupE ?_
    refine wpAny_items_cons ?_ rfl
    refine ldN n5 rfl rfl rfl rfl ?_
    refine wpAny_items_cons ?_ rfl
    refine ldN n5 rfl rfl rfl rfl ?_
    refine args_nil ⟨len2, fun h' D ed _ dd => ?_⟩
    dsimp only at *
    exact h _ _ _ (by rw [es]; exact ⟨D, _, _, rfl, dd⟩) (e5.trans ed)
  try dsimp only
  refine ifEq n3 mk rfl rfl rfl (fun hk tk2 => ?_) (fun hk1 tk2 => ?_)
  · have es : signP cell = (65 + (q.fmod 26).toNat, [97 + (q.fmod 26).toNat]) := by unfold signP; rw [hk, hq]; rfl
    dsimp only
    refine wpAny_execs_cons ?_
    refine wpAny_Return_some ?_
    refine TupE ?_
    refine wpAny_items_cons ?_ rfl
    refine chrMod G3 n3 mw (by decide) (by decide) (by decide) rfl rfl rfl rfl rfl (by decide) (fun u tku => ?_)
    refine wpAny_items_cons ?_ rfl
    refine chrMod G3 n3 mw (by decide) (by decide) (by decide) rfl rfl rfl rfl rfl (by decide) (fun u tku => ?_)
    refine args_nil ⟨len2, fun h' D ed _ dd => ?_⟩
    dsimp only at *
    exact h _ _ _ (by rw [es]; exact ⟨D, _, _, rfl, dd⟩) (e3.trans ed)
  try dsimp only
  refine ifEq n3 mk rfl rfl rfl (fun hk tk3 => ?_) (fun hk2 tk3 => ?_)
  · have es : signP cell = (starts.getD ((q.fdiv 26).fmod 10).toNat 0 + (q.fmod 26).toNat, [97 + (q.fmod 26).toNat]) := by unfold signP; rw [hk, hq]; rfl
    dsimp only
    have q26a : 0 ≤ q.fmod 26 := Int.fmod_nonneg_of_pos q (by decide)
    have q26b : q.fmod 26 < 26 := Int.fmod_lt_of_pos q (by decide)
    refine wpAny_execs_cons ?_
    refine wpAny_Assign_Name ?_
    refine ListE ?_
    refine lits_spliced (ls := ls10) (by unfold ls10; repeat constructor) (fun vs tku hp => ?_)
    refine ⟨by rw [paired_len hp]; decide, fun h4 D4 e4 _ d4 => ?_⟩
    dsimp only at *
    have n4 := e4.ns n3
    refine stN n4 (fun h5 n5 x5 => ?_)
    dsimp only at *
    have e5 := (e3.trans e4).st x5 hg
    have d5 := list_xb d4.isList x5 (nin1 (ns_list n4 d4.isList))
    refine wpAny_execs_cons ?_
    refine wpAny_Return_some ?_
    refine TupE ?_
    refine wpAny_items_cons ?_ rfl
    refine Call_ ?_
    refine bnameE (G.keeps e5) (gb_chr _) (by boot_by_name) (by decide) rfl rfl rfl rfl (by decide) ?_
    refine Globals_cb1 ?_
    refine args_cons ?_
    refine wpAny_BinOp ?_
    refine Subscript_ ?_
    refine ldN n5 rfl rfl rfl rfl ?_
    refine wpAny_BinOp ?_
    refine wpAny_BinOp ?_
    refine ldN n5 mw rfl rfl rfl ?_
    refine wpAny_Constant_int ?_
    refine floordiv_int (by decide) ?_ (.inl (PyProof.noPylong_small (by decide)))
    refine wpAny_Constant_int ?_
    refine PyProof.Rows.mod_int (by decide) ?_
    generalize hqq : q.fdiv 26 = qq at *
    have q10a : 0 ≤ qq.fmod 10 := Int.fmod_nonneg_of_pos qq (by decide)
    have q10b : qq.fmod 10 < 10 := Int.fmod_lt_of_pos qq (by decide)
    obtain ⟨x, hx1, u, rfl⟩ := paired_get (i := (qq.fmod 10).toNat) (y := .inr ((starts.getD (qq.fmod 10).toNat 0 : Nat) : Int)) hp (lit10 (by omega))
    have bs : starts.getD (qq.fmod 10).toNat 0 ≤ 200000 := starts_le _
    generalize starts.getD (qq.fmod 10).toNat 0 = sx at *
    refine item_l d5 q10a (by omega) (by simpa using hx1) ?_ rfl
    refine wpAny_BinOp ?_
    refine ldN n5 mw rfl rfl rfl ?_
    refine wpAny_Constant_int ?_
    refine PyProof.Rows.mod_int (by decide) ?_
    refine PyProof.Rows.add_int ?_
    refine args_nil ?_
    refine chr_of_range (by omega) (by omega) ?_
    have ei : ((sx : Int) + q.fmod 26).toNat = sx + (q.fmod 26).toNat := by omega
    rw [ei]
    dsimp only
    refine wpAny_items_cons ?_ rfl
    refine chrMod (G.keeps e5) n5 mw (by decide) (by decide) (by decide) rfl rfl rfl rfl rfl (by decide) (fun u tku => ?_)
    refine args_nil ⟨len2, fun h' D ed _ dd => ?_⟩
    dsimp only at *
    exact h _ _ _ (by rw [es]; exact ⟨D, _, _, rfl, dd⟩) (e5.trans ed)
  try dsimp only
  refine ifEq n3 mk rfl rfl rfl (fun hk tk4 => ?_) (fun hk3 tk4 => ?_)
  · have es : signP cell = (1040 + (q.fmod 32).toNat, [1072 + (q.fmod 32).toNat]) := by unfold signP; rw [hk, hq]; rfl
    dsimp only
    refine wpAny_execs_cons ?_
    refine wpAny_Return_some ?_
    refine TupE ?_
    refine wpAny_items_cons ?_ rfl
    refine chrMod G3 n3 mw (by decide) (by decide) (by decide) rfl rfl rfl rfl rfl (by decide) (fun u tku => ?_)
    refine wpAny_items_cons ?_ rfl
    refine chrMod G3 n3 mw (by decide) (by decide) (by decide) rfl rfl rfl rfl rfl (by decide) (fun u tku => ?_)
    refine args_nil ⟨len2, fun h' D ed _ dd => ?_⟩
    dsimp only at *
    exact h _ _ _ (by rw [es]; exact ⟨D, _, _, rfl, dd⟩) (e3.trans ed)
  try dsimp only
  refine ifEq n3 mk rfl rfl rfl (fun hk tk5 => ?_) (fun hk4 tk5 => ?_)
  · have es : signP cell = manys.getD (q.fmod 8).toNat (0, []) := by unfold signP; rw [hk, hq]; rfl
    dsimp only
    refine wpAny_execs_cons ?_
    refine wpAny_Return_some ?_
    refine Subscript_ ?_
    refine ListE ?_
    refine tups_spliced (ls := ls4) ?hl ?_
    · refine Tups.cons ?_ ?_ ?_
      · rfl
      · rfl
      refine Tups.cons ?_ ?_ ?_
      · rfl
      · rfl
      refine Tups.cons ?_ ?_ ?_
      · rfl
      · rfl
      refine Tups.cons ?_ ?_ ?_
      · rfl
      · rfl
      refine Tups.cons ?_ ?_ ?_
      · rfl
      · rfl
      refine Tups.cons ?_ ?_ ?_
      · rfl
      · rfl
      refine Tups.cons ?_ ?_ ?_
      · rfl
      · rfl
      refine Tups.cons ?_ ?_ ?_
      · rfl
      · rfl
      exact Tups.nil
    intro vs h4 tku hp e4
    refine ⟨by rw [paired_len hp]; decide, fun h5 D5 e5 _ d5 => ?_⟩
    dsimp only at *
    have n5 := e5.ns (e4.ns n3)
    refine wpAny_BinOp ?_
    refine ldN n5 mw rfl rfl rfl ?_
    refine wpAny_Constant_int ?_
    refine PyProof.Rows.mod_int (by decide) ?_
    obtain ⟨x, hx1, hx2⟩ := paired_get (i := (q.fmod 8).toNat) (y := manys.getD (q.fmod 8).toNat (0, [])) hp (litm (by omega))
    generalize manys.getD (q.fmod 8).toNat (0, []) = mx at *
    refine item_l d5.isList q8a (by omega) (by simpa using hx1) ?_ rfl
    dsimp only
    exact h _ _ _ (by rw [es]; exact hx2.ext e5) (e3.trans (e4.trans e5))
  try dsimp only
  refine ifEq n3 mk rfl rfl rfl (fun hk tk6 => ?_) (fun hk5 tk6 => ?_)
  · have es : signP cell = (gones.getD (q.fmod 27).toNat 0, []) := by unfold signP; rw [hk, hq]; rfl
    dsimp only
    have q27a : 0 ≤ q.fmod 27 := Int.fmod_nonneg_of_pos q (by decide)
    have q27b : q.fmod 27 < 27 := Int.fmod_lt_of_pos q (by decide)
    refine wpAny_execs_cons ?_
    refine wpAny_Assign_Name ?_
    refine wpAny_BinOp ?_
    refine ListE ?_
    refine lits_spliced (ls := ls11) (by unfold ls11; repeat constructor) ?_
    intro vs tku hp
    refine ⟨by rw [paired_len hp]; decide, ?_⟩
    intro h4 D4 e4 _ d4
    dsimp only at *
    have n4 := e4.ns n3
    have G4 := G.keeps (e3.trans e4)
    refine compR (n := 16) (fun _ => true) (fun v y => ∃ i : Nat, i < 16 ∧ IntV v i ∧ IntV y (65024 + i)) hA (by decide) ?_ ?_ ?_ ?_ (by decide) (by decide) rfl (by decide) rfl
    · intro K hK
      exact rangeIter G4 (by decide) rfl rfl rfl rfl hK
    · intro C i t s₃ m₃ E' hi e5 hn5 hm5
      exact wpAny_pure ⟨rfl, _, _, rfl, fun _ _ e => e⟩
    · intro C i t s₃ m₃ E' hi _ e5 hn5 hm5
      refine wpAny_BinOp ?_
      refine wpAny_Constant_int ?_
      refine wpAny_Name ?_ rfl
      refine wpAny_loadName_local rfl rfl hn5 hm5 ?_
      refine PyProof.Rows.add_int ?_
      exact ⟨⟨i, hi, ⟨_, rfl⟩, ⟨_, rfl⟩⟩, _, _, rfl, fun _ _ e => e⟩
    · intro D5 h5 tk5' ys vr hD5 hpl5 hvr hF5 e5
      have evr : vr.filter (fun _ => true) = vr := List.filter_eq_self.mpr (by simp)
      rw [evr] at hF5
      have hys : Paired IntV ys.toList ((List.range 16).map (65024 + ·)) := paired_map (fun v i y h1 h2 => by
        obtain ⟨j, _, ⟨t1, e1⟩, e2⟩ := h2
        obtain ⟨t2, rfl⟩ := h1
        have e3 := (Value.int.inj e1).1
        have : i = j := Int.ofNat.inj e3
        rw [this]; exact e2) hvr hF5
      have hys0 : Paired IntV vs [173, 847, 6150, 6155, 6156, 6157, 8203, 8204, 8205, 8288, 65279] := lit11 hp
      have hall := paired_app hys0 hys
      have hsz1 : vs.length = 11 := paired_len hys0
      have hsz2 : ys.size = 16 := by have := paired_len hys; simpa using this
      refine addE (e5.list d4.isList) hpl5.isList (by show vs.toArray.size + ys.size ≤ sizeLine; simp only [List.size_toArray, hsz1, hsz2]; decide) ?_
      intro h6 D6 e6 _ d6
      dsimp only at *
      have n6 := e6.ns (e5.ns n4)
      refine stN n6 ?_
      intro h7 n7 x7
      dsimp only at *
      have e7 : Ext s.heap h7 := (e3.trans (e4.trans (e5.trans e6))).st x7 hg
      have d7 := list_xb d6.isList x7 (nin1 (ns_list n6 d6.isList))
      refine wpAny_execs_cons ?_
      refine wpAny_Return_some ?_
      refine TupE ?_
      refine wpAny_items_cons ?_ rfl
      refine Call_ ?_
      refine bnameE (G.keeps e7) (gb_chr _) (by boot_by_name) (by decide) rfl rfl rfl rfl (by decide) ?_
      refine Globals_cb1 ?_
      refine args_cons ?_
      refine Subscript_ ?_
      refine ldN n7 rfl rfl rfl rfl ?_
      refine wpAny_BinOp ?_
      refine ldN n7 mw rfl rfl rfl ?_
      refine wpAny_Constant_int ?_
      refine PyProof.Rows.mod_int (by decide) ?_
      have hlen : gones.length = 27 := by decide
      have hgl : gones[(q.fmod 27).toNat]? = some (gones.getD (q.fmod 27).toNat 0) := by
        rw [List.getD_eq_getElem?_getD, List.getElem?_eq_getElem (show (q.fmod 27).toNat < gones.length by omega)]; rfl
      obtain ⟨x, hx1, u, rfl⟩ := paired_get (i := (q.fmod 27).toNat) (y := gones.getD (q.fmod 27).toNat 0) hall hgl
      have bs : gones.getD (q.fmod 27).toNat 0 ≤ 70000 := gones_le _
      clear hgl
      generalize gones.getD (q.fmod 27).toNat 0 = sx at *
      refine item_l d7 q27a (by omega) (x := .int (sx : Nat) u) ?_ ?_ rfl
      · rw [← Array.getElem?_toList, Array.toList_append]; exact hx1
      refine args_nil ?_
      refine chr_of_range (by omega) (by omega) ?_
      dsimp only
      refine wpAny_items_cons ?_ rfl
      refine wpAny_Constant_str ?_
      refine args_nil ⟨len2, ?_⟩
      intro h' D ed _ dd
      dsimp only at *
      exact h _ _ _ (by rw [es]; exact ⟨D, _, _, rfl, dd⟩) (e7.trans ed)
  have hk6 : cell.fmod 7 = 6 := by omega
  have es : signP cell = (tagN q, []) := by unfold signP; rw [hk6, hq]; rfl
  dsimp only at *
  refine wpAny_execs_cons ?_
  refine wpAny_Return_some ?_
  refine TupE ?_
  refine wpAny_items_cons ?_ rfl
  refine call1 G3 (g_law_tag _) (o := o166 w.params) (by kernel_rfl) rfl rfl rfl rfl rfl rfl rfl ?_
  refine ldN n3 mw rfl rfl rfl ?_
  refine ⟨Ext.refl _, con_tag G3 (by show A.depth + 1 < _; omega) q tq ?_⟩
  rintro v h4 tk4 ⟨u, rfl⟩ e4
  dsimp only at *
  refine wpAny_items_cons ?_ rfl
  refine wpAny_Constant_str ?_
  refine args_nil ⟨len2, fun h' D ed _ dd => ?_⟩
  dsimp only at *
  exact h _ _ _ (by rw [es]; exact ⟨D, _, _, rfl, dd⟩) (e3.trans (e4.trans ed))
end
end Mine

open PySem PySem.W PySem.Calls PyProof.Rows
set_option Elab.async false
set_option maxRecDepth 1000000
set_option maxHeartbeats 0
set_option linter.unusedVariables false
namespace Mine
/-- all tuples stay -/
noncomputable def Kt (h h' : Heap) : Prop := ∀ t items, h.IsTuple t items → h'.IsTuple t items
theorem Kt.refl (h : Heap) : Kt h h := fun _ _ x => x
theorem Kt.trans {h h' h'' : Heap} (a : Kt h h') (b : Kt h' h'') : Kt h h'' := fun t i x => b t i (a t i x)
theorem Kt.ext {h h' : Heap} (e : Ext h h') : Kt h h' := fun t i x => e.tup x
theorem Kt.xb {bs : List Addr} {h h' : Heap} (x : XB bs h h') (hb : ∀ b ∈ bs, ∀ items, ¬ h.IsTuple b items) : Kt h h' := fun t i y => tup_xb y x (fun m => hb t m i y)
theorem Kt.ns {L : Addr} {h h' : Heap} {m} (x : XB [L] h h') (n : h.Ns L m) : Kt h h' := Kt.xb x (fun b hb items ht => by
  rw [List.mem_singleton.mp hb] at ht; exact ns_tup n ht rfl)
theorem Kt.list {L : Addr} {h h' : Heap} {its : Array Value} (x : XB [L] h h') (n : h.IsList L its) : Kt h h' := Kt.xb x (fun b hb items ht => by
  rw [List.mem_singleton.mp hb] at ht; exact tup_list ht n rfl)
theorem Kt.iter {L l : Addr} {i : Nat} {h h' : Heap} (x : XB [L] h h') (n : h.IsListIter L l i) : Kt h h' := Kt.xb x (fun b hb items ht => by
  rw [List.mem_singleton.mp hb] at ht; exact tup_iter ht n rfl)
theorem PairAt.kt {h h' : Heap} {v : Value} {p : Nat × List Nat} (x : PairAt h v p) (e : Kt h h') : PairAt h' v p := let ⟨t, u1, u2, a, b⟩ := x; ⟨t, u1, u2, a, e _ _ b⟩
theorem pairs_kt {h h' : Heap} (e : Kt h h') : ∀ {vs : List Value} {ps : List (Nat × List Nat)}, Paired (PairAt h) vs ps → Paired (PairAt h') vs ps
  | _, _, .nil => .nil
  | _, _, .cons a b => .cons (a.kt e) (pairs_kt e b)
section
variable {w : World} {s : Shared} {A : Around} {Q E : Value → Shared → Prop} {env : Env}
structure QuietH (w : World) (A : Around) (env : Env) (scope : Scope) (cl : List (Str × Addr)) (x : Str) (ifs : List Expr) (elt : Expr) (wr : List Addr) (P : Nat → Value → Prop) (p : Value → Bool) (F : Heap → Value → Value → Prop) (h₂ : Heap) : Prop where
  tests : ∀ C i v s₃ m₃ E', P i v → s₃.heap.Ns C m₃ → m₃ x = some v → XB wr h₂ s₃.heap →
    wpAny (MW w) A (forIn ifs true fun c r => if r = true then do let ok ← isTrue c (compEnvC scope cl C env) (eval c (compEnvC scope cl C env)); pure (ForInStep.yield ok) else pure (ForInStep.yield r))
      (fun ok s₄ => ok = p v ∧ Keeps s₃ s₄) E' s₃
  elt : ∀ C i v s₃ m₃ E', P i v → p v = true → s₃.heap.Ns C m₃ → m₃ x = some v → XB wr h₂ s₃.heap →
    wpAny (MW w) A (eval elt (compEnvC scope cl C env)) (fun y s₄ => F s₄.heap v y ∧ Keeps s₃ s₄) E' s₃
theorem pairedH {F : Heap → Value → Value → Prop} (hF : ∀ h h' v y, Kt h h' → F h v y → F h' v y) {h h' : Heap} (e : Kt h h') : ∀ {a b : List Value}, Paired (F h) a b → Paired (F h') a b
  | _, _, .nil => .nil
  | _, _, .cons x t => .cons (hF _ _ _ _ e x) (pairedH hF e t)
theorem compCore {elt iter : Expr} {x : Str} {px : Pos} {ifs : List Expr} {scope : Scope} {cl : List (Str × Addr)} {pos : Pos} {use : Option (Value → Sem Unit)} {QC : Value → Shared → Prop} {s₂ : Shared} {I : Addr} {fp wr : List Addr} {n : Nat} {P : Nat → Value → Prop} {St : Nat → Heap → Prop} (p : Value → Bool) (F : Heap → Value → Value → Prop)
    (hF : ∀ h h' v y, Kt h h' → F h v y → F h' v y) (hcell : ∀ y ∈ scope.names, y.2 ≠ .cell) (hkind : scope.kind = .function) (hx : scope.names.lookup x = some .local)
    (W : Walks pwp w A I fp wr n P St) (hsz : n ≤ sizeLine) (hlive : ∀ i h, St i h → ∀ b ∈ wr, ∀ items, ¬ h.IsTuple b items) (hst : St 0 s₂.heap) (hfp : ∀ b ∈ fp, b < s₂.heap.objs.size)
    (hq : QuietH w A env scope cl x ifs elt wr P p F s₂.heap)
    (hfin : ∀ C D h' tk ys (vs : List Value) m', s₂.heap.get? C = none → s₂.heap.get? D = none → D ≠ C → h'.PlainList D ys → h'.Ns C m' → vs.length = n → (∀ j v, vs[j]? = some v → P j v) → Paired (F h') (vs.filter p) ys.toList →
      XB (C :: D :: wr) s₂.heap h' → ∀ rv, compPost (MW w) A E use QC (.ref D) C (.ok rv) { s₂ with heap := h', toks := tk }) :
    wpAny (MW w) A (newList []) (fun acc s₃ => wpAny (MW w) A (newFunctionEnv scope env.globals cl [] env.qual none .none (some env)) (fun cenv s₄ =>
      codeAny (MW w) A (.compStart (.ListComp elt [⟨.Name x px, iter, ifs, 0⟩] scope pos) 0 (.ref I) acc { cenv with scope := relabel scope env }) (compPost (MW w) A E use QC acc cenv.locals) s₄) E s₃) E s₂ := by
  refine wpAny_newObj_type (wpAny_newFunctionEnv hcell (by intro y hy; simp at hy) (fun h₁ n1 sb1 => ?_) hkind)
  dsimp only at n1 sb1 ⊢
  have eD : Ext s₂.heap (s₂.heap.push { cls := .type "list", dict := none, data := .seq ([] : List Value).toArray }) := Ext.push _
  have pD : (s₂.heap.push { cls := .type "list", dict := none, data := .seq ([] : List Value).toArray }).PlainList s₂.heap.objs.size #[] := ⟨_, Heap.get?_push_size _ rfl⟩
  have hC1 : s₂.heap.objs.size ≤ (s₂.heap.push { cls := .type "list", dict := none, data := .seq ([] : List Value).toArray }).objs.size := by rw [Heap.size_push]; exact Nat.le_succ _
  have hC2 : s₂.heap.objs.size ≠ (s₂.heap.push { cls := .type "list", dict := none, data := .seq ([] : List Value).toArray }).objs.size := by rw [Heap.size_push]; exact Nat.ne_of_lt (Nat.lt_succ_self _)
  generalize s₂.heap.push { cls := .type "list", dict := none, data := .seq ([] : List Value).toArray } = H2 at *
  have nC : H2.get? H2.objs.size = none := none_of_size
  have nD : s₂.heap.get? s₂.heap.objs.size = none := none_of_size
  generalize hCe : H2.objs.size = C at *
  generalize hDe : s₂.heap.objs.size = D at *
  have nC2 : s₂.heap.get? C = none := fresh_le eD nC
  have x1 : XB [C] H2 h₁ := fun b o nb e => XB.same sb1 b o nb (Heap.get?_push_of_some _ e)
  have e1 : Ext s₂.heap h₁ := eD.st x1 nC2
  have hCf : C ∉ fp := fun m => Nat.lt_irrefl _ (Nat.lt_of_lt_of_le (hfp _ m) hC1)
  have hDf : D ∉ fp := fun m => Nat.lt_irrefl _ (hfp _ m)
  have hCw : C ∉ wr := fun m => hCf (W.sub _ m)
  have hDw : D ∉ wr := fun m => hDf (W.sub _ m)
  have st1 : St 0 h₁ := W.frame _ _ _ hst fun b _ o e => e1 b o e
  have p1 : h₁.PlainList D #[] := plain_xb pD x1 (nin1 hC2)
  have shrink : ∀ h', XB (C :: D :: wr) s₂.heap h' → XB wr s₂.heap h' := fun h' y b o hb e => y b o (by
    intro m
    rcases List.mem_cons.mp m with rfl | m
    · rw [nC2] at e; cases e
    rcases List.mem_cons.mp m with rfl | m
    · rw [nD] at e; cases e
    · exact hb m) e
  have loop : codeAny (MW w) A (.compLoop (.ListComp elt [⟨.Name x px, iter, ifs, 0⟩] scope pos) 0 (.ref I) (.ref D) (compEnvC scope cl C env)) (compPost (MW w) A E use QC (.ref D) C) { s₂ with heap := h₁, toks := s₂.toks + ([] : List (Str × Value)).length } := by
    refine codeAny_compLoop_tests
      (fun k s' => ∃ h' tk m' ys, ∃ vs : List Value, s' = { s₂ with heap := h', toks := tk } ∧ St vs.length h' ∧ h'.PlainList D ys ∧ h'.Ns C m' ∧ (∀ j v, vs[j]? = some v → P j v) ∧
        Paired (F h') (vs.filter p) ys.toList ∧ vs.length ≤ n ∧ k = n + 1 - vs.length ∧ XB (C :: D :: wr) s₂.heap h') ?_ (n + 1)
      ⟨h₁, _, _, #[], [], rfl, st1, p1, n1, by simp, by simpa using Paired.nil, Nat.zero_le _, rfl, XB.of_ext e1⟩
    rintro k s' ⟨H, tk, m', ys, vs, rfl, st', pl', n', hP, hPair, hle, rfl, hX⟩
    by_cases hlt : vs.length < n
    · refine W.item vs.length _ _ _ hlt st' fun v h₃ tk₃ hPv st₃ k₃ => ?_
      have x3 : XB wr H h₃ := fun b o hb e => k₃ b o hb e
      have t3 : Kt H h₃ := Kt.xb x3 (hlive _ _ st')
      have n3 := ns_xb n' x3 hCw
      refine wpAny_assign_Name (wpAny_storeName_local (lookup_relabel_local hx) n3 (fun h₄ n4 sb4 => ?_) (by simp [compEnvC, relabel, hkind]))
      have x4 : XB [C] h₃ h₄ := XB.same sb4
      have t4 : Kt h₃ h₄ := Kt.ns x4 n3
      have st4 : St (vs.length + 1) h₄ := W.frame _ _ _ st₃ fun b hb o e => x4 b o (fun q => hCf (by rw [List.mem_singleton.mp q] at hb; exact hb)) e
      have X4 : XB (C :: D :: wr) s₂.heap h₄ := (hX.trans (x3.mono fun b hb => .tail _ (.tail _ hb))).trans (x4.in (.head _))
      have pl4 := plain_xb (plain_xb pl' x3 hDw) x4 (nin1 hC2)
      have P4 := pairedH hF (t3.trans t4) hPair
      refine wpAny_mono (hq.tests C vs.length v _ _ _ hPv n4 (by simp) (shrink _ X4)) (fun ok s₅ h5 => ?_) fun _ _ e => e
      obtain ⟨rfl, h₅, tk₅, rfl, e5⟩ := h5
      have e5' : Ext h₄ h₅ := e5
      have P5 := pairedH hF (Kt.ext e5') P4
      have X5 : XB (C :: D :: wr) s₂.heap h₅ := X4.trans (XB.of_ext e5')
      have st5 : St (vs.length + 1) h₅ := W.frame _ _ _ st4 fun b _ o e => e5 b o e
      have hP5 : ∀ j u, (vs ++ [v])[j]? = some u → P j u := fun j u hu => by
        by_cases hj : j < vs.length
        · rw [List.getElem?_append_left hj] at hu; exact hP j u hu
        · have : j = vs.length := by
            have := (List.getElem?_eq_some_iff.mp hu).1
            simp at this; omega
          subst this
          simp at hu; subst hu; exact hPv
      cases hpv : p v with
      | false =>
        simp only [Bool.false_eq_true, if_false]
        refine ⟨n + 1 - (vs.length + 1), by omega, h₅, tk₅, _, ys, vs ++ [v], rfl, by simpa using st5, Ext.plain e5' pl4, Ext.ns e5' n4, hP5, ?_, by simp; omega, by simp, X5⟩
        rw [List.filter_append]; simpa [hpv] using P5
      | true =>
        simp only [if_true]
        refine wpAny_mono (hq.elt C vs.length v _ _ _ hPv hpv (Ext.ns e5' n4) (by simp) (shrink _ X5)) (fun y s₆ h6 => ?_) fun _ _ e => e
        obtain ⟨hy, h₆, tk₆, rfl, e6⟩ := h6
        have e6' : Ext h₅ h₆ := e6
        have hys : ys.size ≤ sizeLine := by
          have a1 := hPair.length
          have a2 : (vs.filter p).length ≤ vs.length := List.length_filter_le _ _
          have a3 : ys.toList.length = ys.size := by simp
          omega
        have pl6 := Ext.plain e6' (Ext.plain e5' pl4)
        refine wpAny_list_append_plain (hsz := hys) pl6 fun h₇ pl7 sb7 => ?_
        have x7 : XB [D] h₆ h₇ := XB.same sb7
        have t7 : Kt h₆ h₇ := Kt.list x7 pl6.isList
        refine ⟨n + 1 - (vs.length + 1), by omega, h₇, tk₆, _, ys.push y, vs ++ [v], rfl, ?_, pl7, ns_xb (Ext.ns e6' (Ext.ns e5' n4)) x7 (nin1 (Ne.symm hC2)), hP5, ?_, by simp; omega, by simp, (X5.trans (XB.of_ext e6')).trans (x7.in (.tail _ (.head _)))⟩
        · have := W.frame _ _ h₇ st5 fun b hb o e => x7 b o (fun q => hDf (by rw [List.mem_singleton.mp q] at hb; exact hb)) (e6 b o e)
          simpa using this
        · rw [List.filter_append]
          have P7 := pairedH hF ((Kt.ext e6').trans t7) P5
          simpa [hpv] using Paired.snoc P7 (hF _ _ _ _ t7 hy)
    · have hin : vs.length = n := by omega
      refine W.done _ _ _ (hin ▸ st') fun h₃ tk₃ k₃ => ?_
      have x3 : XB wr H h₃ := fun b o hb e => k₃ b o hb e
      have n3 := ns_xb n' x3 hCw
      have t3 : Kt H h₃ := Kt.xb x3 (hlive _ _ st')
      exact hfin C D h₃ tk₃ ys vs m' nC2 nD hC2 (plain_xb pl' x3 hDw) n3 hin hP (pairedH hF t3 hPair) (hX.trans (x3.mono fun b hb => .tail _ (.tail _ hb))) _
  exact codeAny_compStart_list loop (W.self 0 _ _ _ st1 loop)
/-- a comprehension whose values may be tuples made in it -/
theorem compH {elt iter : Expr} {x : Str} {px : Pos} {ifs : List Expr} {scope : Scope} {cl : List (Str × Addr)} {pos : Pos} (p : Value → Bool) (F : Heap → Value → Value → Prop)
    (hF : ∀ h h' v y, Kt h h' → F h v y → F h' v y)
    (hclos : closureFor scope env = pure cl) (hcell : ∀ y ∈ scope.names, y.2 ≠ .cell) (hkind : scope.kind = .function)
    (hnames : ∀ y ∈ scope.names, y.2 = .local → scope.names.lookup y.1 = some .local) (hx : scope.names.lookup x = some .local)
    (h : wpAny (MW w) A (eval iter env) (fun xv s₁ => wpAny (MW w) A (pyIter xv) (fun it s₂ => ∃ I fp wr n P St, it = .ref I ∧ Walks pwp w A I fp wr n P St ∧ n ≤ sizeLine ∧
      (∀ i h, St i h → ∀ b ∈ wr, ∀ items, ¬ h.IsTuple b items) ∧ St 0 s₂.heap ∧ (∀ b ∈ fp, b < s₂.heap.objs.size) ∧
      QuietH w A env scope cl x ifs elt wr P p F s₂.heap ∧
      (∀ D h' tk ys (vs : List Value), s₂.heap.get? D = none → h'.PlainList D ys → vs.length = n → (∀ j v, vs[j]? = some v → P j v) → Paired (F h') (vs.filter p) ys.toList →
        XB wr s₂.heap h' → Q (.ref D) { s₂ with heap := h', toks := tk })) E s₁) E s)
    (hs : ∀ x, foldedSetIterable iter env x = pure x := by intro _; rfl) :
    wpAny (MW w) A (eval (.ListComp elt [⟨.Name x px, iter, ifs, 0⟩] scope pos) env) Q E s := by
  rw [eval_ListComp]
  refine wpAny_comprehension_free (use := none) rfl hs hclos hkind hnames (wpAny_mono h (fun xv s₁ h₁ => wpAny_mono h₁ (fun it s₂ h₂ => ?_) fun _ _ e => e) fun _ _ e => e)
  obtain ⟨I, fp, wr, n, P, St, rfl, W, hsz, hlive, hst, hfp, hq, hQ⟩ := h₂
  refine compCore p F hF hcell hkind hx W hsz hlive hst hfp hq ?_
  intro C D h' tk ys vs m' nC nD hDC pl n' hin hP hPair X rv
  have shrink : ∀ {C D : Addr} {h' : Heap}, s₂.heap.get? C = none → s₂.heap.get? D = none → XB (C :: D :: wr) s₂.heap h' → XB wr s₂.heap h' := fun nC nD y b o hb e => y b o (by
    intro m
    rcases List.mem_cons.mp m with rfl | m
    · rw [nC] at e; cases e
    rcases List.mem_cons.mp m with rfl | m
    · rw [nD] at e; cases e
    · exact hb m) e
  refine ⟨m', n', fun h₄ sb4 => ?_⟩
  have x4 : XB [C] h' h₄ := XB.same sb4
  exact hQ D h₄ tk ys vs nD (plain_xb pl x4 (nin1 hDC)) hin hP (pairedH hF (Kt.ns x4 n') hPair) (shrink nC nD (X.trans (x4.in (.head _))))
end
end Mine

open PySem PySem.W PySem.Calls PyProof.Rows
set_option Elab.async false
set_option maxRecDepth 1000000
set_option maxHeartbeats 0
set_option linter.unusedVariables false
namespace Mine
theorem paired_pairs {R : Value → Nat → Prop} {F : Value → Value → Prop} {G : Value → Nat × List Nat → Prop} {f : Nat → Nat × List Nat} (hF : ∀ v c y, R v c → F v y → G y (f c)) : ∀ {vs : List Value} {l : List Nat} {ys : List Value}, Paired R vs l → Paired F vs ys → Paired G ys (l.map f)
  | _, _, _, .nil, h => by cases h; exact .nil
  | _, _, _, .cons h1 h2, h => by
    cases h with
    | cons g1 g2 => exact .cons (hF _ _ _ h1 g1) (paired_pairs hF h2 g2)
theorem filter_tt (vs : List Value) : vs.filter (fun _ => true) = vs := List.filter_eq_self.mpr (by simp)
section
variable {w : World} {s : Shared} {A : Around} {Q E : Value → Shared → Prop} {env : Env}
/-- what the pairs of a comprehension are told by: a value that stands for c -/
noncomputable def HF (R : Value → Nat → Prop) (f : Nat → Nat × List Nat) (h : Heap) (v y : Value) : Prop := ∀ c, R v c → PairAt h y (f c)
theorem HF.kt {R f} : ∀ (h h' : Heap) (v y : Value), Kt h h' → HF R f h v y → HF R f h' v y := fun _ _ _ _ k x c hc => (x c hc).kt k
/-- pairs of a text's signs -/
theorem compPS {elt iter : Expr} {x : Str} {px : Pos} {scope : Scope} {cl : List (Str × Addr)} {pos : Pos} {l : List Nat} (f : Nat → Nat × List Nat)
    (hA : A.handled = none) (hsz : l.length ≤ sizeLine)
    (hiter : ∀ Q' : Value → Shared → Prop, (∀ h₁ t tk, Ext s.heap h₁ → Q' (.str (str l) t) { s with heap := h₁, toks := tk }) → wpAny (MW w) A (eval iter env) Q' E s)
    (helt : ∀ C c u s₃ m₃ E', c ∈ l → Ext s.heap s₃.heap → s₃.heap.Ns C m₃ → m₃ x = some (.str ⟨#[c]⟩ u) → wpAny (MW w) A (eval elt (compEnvC scope cl C env)) (fun y s₄ => PairAt s₄.heap y (f c) ∧ Keeps s₃ s₄) E' s₃)
    (hQ : ∀ D h' tk ys, s.heap.get? D = none → h'.PlainList D ys → Paired (PairAt h') ys.toList (l.map f) → Ext s.heap h' → Q (.ref D) { s with heap := h', toks := tk })
    (hclos : closureFor scope env = pure cl) (hcell : ∀ y ∈ scope.names, y.2 ≠ .cell) (hkind : scope.kind = .function)
    (hnames : ∀ y ∈ scope.names, y.2 = .local → scope.names.lookup y.1 = some .local) (hx : scope.names.lookup x = some .local)
    (hs : ∀ x, foldedSetIterable iter env x = pure x := by intro _; rfl) :
    wpAny (MW w) A (eval (.ListComp elt [⟨.Name x px, iter, [], 0⟩] scope pos) env) Q E s := by
  refine compH (fun _ => true) (HF (fun v c => ∃ u, v = .str ⟨#[c]⟩ u) f) HF.kt hclos hcell hkind hnames hx ?_ hs
  refine hiter _ ?_
  intro h₁ t tk e1
  have key : ∀ (o : Obj) (St : Nat → Heap → Prop), (∀ i h, St i h → ∀ items, ¬ h.IsTuple h₁.objs.size items) → Walks pwp w A h₁.objs.size [h₁.objs.size] [h₁.objs.size] (str l).cps.size (SignAt (str l)) St → St 0 (h₁.push o) →
      ∃ I fp wr n P St, Value.ref h₁.objs.size = .ref I ∧ Walks pwp w A I fp wr n P St ∧ n ≤ sizeLine ∧ (∀ i h, St i h → ∀ b ∈ wr, ∀ items, ¬ h.IsTuple b items) ∧ St 0 (h₁.push o) ∧ (∀ b ∈ fp, b < (h₁.push o).objs.size) ∧
      QuietH w A env scope cl x [] elt wr P (fun _ => true) (HF (fun v c => ∃ u, v = .str ⟨#[c]⟩ u) f) (h₁.push o) ∧
      (∀ D h' tk ys (vs : List Value), (h₁.push o).get? D = none → h'.PlainList D ys → vs.length = n → (∀ j v, vs[j]? = some v → P j v) → Paired (HF (fun v c => ∃ u, v = .str ⟨#[c]⟩ u) f h') (vs.filter (fun _ => true)) ys.toList →
        XB wr (h₁.push o) h' → Q (.ref D) { s with heap := h', toks := tk }) := by
    intro o St hlive W hst
    have ep : Ext h₁ (h₁.push o) := Ext.push _
    have ex : ∀ h', XB [h₁.objs.size] (h₁.push o) h' → Ext s.heap h' := fun h' y b q e => y b q (old_nn (e1 _ _ e)) (ep _ _ (e1 _ _ e))
    refine ⟨_, _, _, _, _, St, rfl, W, by simpa [str] using hsz, ?_, hst, ?_, ⟨?_, ?_⟩, ?_⟩
    · intro i h hs b hb items
      rw [List.mem_singleton.mp hb]
      exact hlive i h hs items
    · intro b hb
      rw [List.mem_singleton.mp hb, Heap.size_push]
      exact Nat.lt_succ_self _
    · intro C i v s₃ m₃ E' hP hn hm hX
      exact wpAny_tests_nil ⟨rfl, _, _, rfl, fun _ _ e => e⟩
    · intro C i v s₃ m₃ E' hP _ hn hm hX
      obtain ⟨c, u, hc, rfl⟩ := hP
      have hc' : c ∈ l := by have := Array.mem_of_getElem? hc; simpa [str] using this
      refine wpAny_mono (helt C c u s₃ m₃ E' hc' (ex _ hX) hn hm) (fun y s₄ h4 => ⟨?_, h4.2⟩) fun _ _ e => e
      rintro c' ⟨u', e⟩
      have : c = c' := by
        have e3 := (Value.str.inj e).1
        injection e3 with e4
        simpa using e4
      rw [← this]; exact h4.1
    · intro D h' tk ys vs hD hpl hlen hP hF hX
      rw [filter_tt] at hF
      refine hQ D h' tk ys (fresh_le (e1.trans ep) hD) hpl ?_ (ex _ hX)
      exact paired_pairs (fun v c y h1 h2 => h2 c h1) (codesOf (by rw [hlen]; simp [str]) hP) hF
  cases ha : (str l).cps.all (· < 128)
  · refine wpAny_pyIter_wide ha ?_
    refine key _ _ ?_ (Walks.strWide hA _ (str l) t) ⟨_, Heap.get?_push_size _ rfl, rfl, rfl⟩
    rintro i h ⟨o, a, b, c⟩ items ⟨o', a', b', k, c'⟩
    rw [a] at a'; cases a'; rw [c] at c'; cases c'
  · refine wpAny_pyIter_ascii ha ?_
    refine key _ _ ?_ (Walks.strAscii hA _ (str l) t) ⟨_, Heap.get?_push_size _ rfl, rfl, rfl⟩
    rintro i h ⟨o, a, b, c⟩ items ⟨o', a', b', k, c'⟩
    rw [a] at a'; cases a'; rw [c] at c'; cases c'
end
end Mine

open PySem PySem.W PySem.Calls PyProof.Rows
set_option Elab.async false
set_option maxRecDepth 1000000
set_option maxHeartbeats 0
set_option linter.unusedVariables false
namespace Mine
theorem nor_list_iadd : fillsInplaceSlot (.type "list") "add" (Operator.Add == .Add) = pure false := by
  unfold fillsInplaceSlot
  show (typeLookup (.type "list") (dunderI "add") >>= fun fi => pure (fi.isSome && !isSeqSlot fi)) = pure false
  rw [PySem.F.slot_list_iadd.lookup]
  rfl
section
variable {w : World} {s : Shared} {A : Around} {Q E : Value → Shared → Prop} {env : Env}
theorem iaddP {l b : Addr} {its its2 : Array Value} {Q : Value → Shared → Prop} (hl : s.heap.PlainList l its) (hb : s.heap.PlainList b its2) (hsz : its.size + its2.size ≤ sizeLine)
    (h : ∀ h', h'.PlainList l (its ++ its2) → XB [l] s.heap h' → Q (.ref l) { s with heap := h' }) : wpAny (MW w) A (inplaceOp .Add (.ref l) (.ref b)) Q E s := by
  obtain ⟨n, ho⟩ := hl
  obtain ⟨n2, ho2⟩ := hb
  unfold inplaceOp
  refine wpAny_holding ?_
  refine wpAny_bind (wpAny_typeOf ⟨_, ho, rfl⟩ (wpAny_bind (wpAny_of_eq nor_list_iadd ?_)))
  show wpAny _ A (if false = true then _ else _) Q E s
  rw [if_neg Bool.false_ne_true]
  have T1 : s.TypeIs (.ref l) "list" := ⟨_, ho, rfl⟩
  have T2 : s.TypeIs (.ref b) "list" := ⟨_, ho2, rfl⟩
  refine wpAny_bind (wpAny_binaryOp1_none (nm := "add") T1 T2 noFill_list_add ?_)
  refine wpAny_bind (wpAny_of_eq (PySem.seqSlot_of PySem.F.slot_list_iadd.lookup (by decide +kernel)) ?_)
  refine wpAny_bind (wpAny_rule ?_)
  have hd : ¬(!its.isEmpty && Builtin.List.listTooLong (its.size + its2.size)) = true := extend_door hsz
  refine call_meets PySem.F.slot_list_iadd T1 PySem.F.entry_list_iadd (PySem.F.args_list_iadd_2 _ _) (AutoSeq1.list___iadd___list_list_0 l its n b its2 n2 hd (Nat.le_trans (Nat.le_add_right _ _) hsz) (Nat.le_succ_of_le hsz)) ⟨ho, ho2, ?_⟩
  have hu : (s.heap.update l (Obj.mapSeq fun x => x ++ its2)).get? l = some { cls := .type "list", data := .seq (its ++ its2) (if (its ++ its2).size == its.size then n else n + 1) } := by
    rw [Heap.get?_update_self _ ho (by rw [mapSeq_app]; rfl), mapSeq_app]
  exact h _ ⟨_, hu⟩ (XB.same (Heap.SameBut.update ..))
/-- xs.append(e) -/
theorem appendS {x : Str} {p1 ap cp pos : Pos} {elt : Expr} {D : Addr} {its : Array Value} {m : Str → Option Value} {QF : Flow → Shared → Prop} (hn : s.heap.Ns env.locals m) (hm : m x = some (.ref D))
    (hk : env.scope.kind = .function) (hx : env.kindOf x = some .local) (hd : (x == ("__debug__" : Str)) = false)
    (hpl : s.heap.PlainList D its)
    (h1 : attributeBase (.Name x p1) (Str.ofString "append") env (eval (.Name x p1) env) = eval (.Name x p1) env)
    (h2 : ((backTo cp (starEach [elt] env)).all (fun x => !x.1) && (backToKw cp (keywordEach [] env)).all (fun x => x.1.isSome)
      && decide (([elt] : List Expr).length + ([] : List Keyword).length + (if ([] : List Keyword).isEmpty then 0 else 1) < 30)) = true)
    (h3 : (ap.endLine == cp.line) = true) (h4 : backTo cp (starEach [elt] env) = [(false, eval elt env)])
    (hi : interactive env = false) (hs : swapsWith (.Call (.Attribute (.Name x p1) (Str.ofString "append") ap) [elt] [] cp) none pos.line env = pure false)
    (h : wpAny (MW w) A (eval elt env) (fun y s₂ => s₂.heap.PlainList D its ∧ its.size ≤ sizeLine ∧ ∀ h', h'.PlainList D (its.push y) → XB [D] s₂.heap h' → QF .next { s₂ with heap := h' }) E s) :
    wpAny (MW w) A (exec (.Expr (.Call (.Attribute (.Name x p1) (Str.ofString "append") ap) [elt] [] cp) pos) env) QF E s := by
  refine wpAny_Expr ?_ hi hs
  refine wpAny_Call_append h1 h2 h3 h4 ?_
  refine ldN hn hm hk hx hd ?_
  obtain ⟨n, ho⟩ := hpl
  refine ⟨D, its, rfl, ⟨_, n, ho, rfl, rfl, rfl⟩, wpAny_mono h (fun y s₂ h₂ => ?_) fun _ _ e => e⟩
  exact wpAny_list_append_plain h₂.1 (fun h' pl sb => h₂.2.2 h' pl (XB.same sb)) h₂.2.1
end
theorem paired_get2 {α β} {R : α → β → Prop} : ∀ {a : List α} {b : List β} {i : Nat} {x : α}, Paired R a b → a[i]? = some x → ∃ y, b[i]? = some y ∧ R x y
  | _, _, 0, _, .cons x t, h => by simp at h; subst h; exact ⟨_, rfl, x⟩
  | _, _, i + 1, _, .cons x t, h => by simpa using paired_get2 t (by simpa using h)
/-- what a text is shown as -/
noncomputable def shown1 (ld : Nat) (p : Nat × List Nat) : List (Nat × List Nat) := if [p.1] = p.2 then [(p.1, [p.1])] else p.2.map (fun c => (c, [c])) ++ (ld :: unseen p.1).map (fun c => (c, []))
noncomputable def shownP (ld : Nat) (ps : List (Nat × List Nat)) : List (Nat × List Nat) := ps.flatMap (shown1 ld)
noncomputable def Pairs (h : Heap) (l : Addr) (ps : List (Nat × List Nat)) : Prop := ∃ items, h.PlainList l items ∧ Paired (PairAt h) items.toList ps
theorem Pairs.ext {h h' : Heap} {l : Addr} {ps} (x : Pairs h l ps) (e : Ext h h') : Pairs h' l ps := let ⟨i, a, b⟩ := x; ⟨i, e.plain a, pairs_kt (Kt.ext e) b⟩
theorem str_eq (a b : List Nat) : (str a == str b) = decide (a = b) := by
  by_cases h : a = b
  · subst h; simp
  · rw [decide_eq_false h]
    have : str a ≠ str b := fun e => h (by
      have := congrArg (fun s : Str => s.cps.toList) e
      simpa [str] using this)
    simpa using this
theorem digs_len : ∀ (f h : Nat) (d : List Nat), (digs f h d).length ≤ f + d.length
  | 0, _, d => by simp [digs]
  | f + 1, h, d => by
    unfold digs
    split
    · have := digs_len f (h / 64) (h / 64 % 64 :: d)
      simp at this; omega
    · omega
theorem unseen_len (code : Nat) (h : code < 1114112) : (unseen code).length ≤ 70000 := by
  have := digs_len (code / 16) (code / 16) [code / 16 % 64]
  simp at this
  unfold unseen
  simp
  omega
section
variable {w : World} {s : Shared} {A : Around} {Q E : Value → Shared → Prop} {env : Env}
theorem con_shown (G : Gd w s.heap) (hA : A.handled = none) (hr : A.depth + 2 < recursionLimit) {lp : Addr} {ps : List (Nat × List Nat)} {ld : Nat} (tk : Tok) (hps : Pairs s.heap lp ps)
    (hb : ∀ p ∈ ps, p.1 < 1114112 ∧ p.2.length ≤ 8) (hlen : (shownP ld ps).length ≤ 1000000)
    (h : Back s (fun v h' => ∃ D, v = .ref D ∧ Pairs h' D (shownP ld ps)) Q) :
    wpAny (MW w) A (call (.ref 181) [.ref lp, .str (str [ld]) tk]) Q E s := by
  refine call_def (fd := fd__law_shown) (name := Str.ofString "_law_shown") (binds := [(Str.ofString "pairs", .ref lp), (Str.ofString "lead", .str (str [ld]) tk)]) G (by omega) (o := o181 w.params) (by kernel_rfl) rfl (by kernel_rfl) (by kernel_rfl) (by kernel_rfl) (by kernel_rfl) (by kernel_rfl) (by kernel_rfl) (by kernel_rfl) (fun h₁ Fm G1 => ?_)
  conv in (sBody _) => whnf
  have hg : s.heap.get? s.heap.objs.size = none := none_of_size
  have n1 := Fm.ns
  have e1 : Ext s.heap h₁ := Fm.keep
  refine wpAny_execs_cons ?_
  refine wpAny_Assign_Name ?_
  refine ListE ?_
  refine args_nil ⟨by decide, ?_⟩
  intro h2 D e2 nD d2
  dsimp only at *
  have n2 := e2.ns n1
  have nDg : s.heap.get? D = none := fresh_le e1 nD
  refine stN n2 ?_
  intro h3 n3 x3
  dsimp only at *
  have d3 := plain_xb d2 x3 (nin1 (ns_list n2 d2.isList))
  have e3 : Ext s.heap h3 := (e1.trans e2).st x3 hg
  obtain ⟨items, hpl, hpp⟩ := hps
  have hDL : D ≠ s.heap.objs.size := ns_list n3 d3.isList
  have hll : lp ≠ D := by rintro rfl; obtain ⟨n, a⟩ := hpl; rw [nDg] at a; cases a
  have hlL : lp ≠ s.heap.objs.size := by rintro rfl; obtain ⟨n, a⟩ := hpl; rw [hg] at a; cases a
  have hpl3 := e3.plain hpl
  have hpp3 := pairs_kt (Kt.ext e3) hpp
  refine wpAny_execs_cons ?_
  refine forT (l := lp) (items := items) [s.heap.objs.size, D]
    (fun i v0 v1 => ∃ p u1 u2, ps[i]? = some p ∧ v0 = .str (str [p.1]) u1 ∧ v1 = .str (str p.2) u2)
    (fun i h m => ∃ ys, m (Str.ofString "shown") = some (.ref D) ∧ m (Str.ofString "lead") = some (.str (str [ld]) tk) ∧ h.PlainList D ys ∧ Paired (PairAt h) ys.toList (shownP ld (ps.take i)))
    hA rfl rfl rfl PassesOwn.never ?_ ?_ ?_ hpl3.isList n3 ?_ ?_ ?_ ?_ ?_ ?_ (by decide)
  · intro b hb
    rcases List.mem_cons.mp hb with rfl | hb
    · exact n3.lt
    · rw [List.mem_singleton.mp hb]; obtain ⟨n, a⟩ := d3; exact Heap.lt_size a
  · exact .head _
  · intro m
    rcases List.mem_cons.mp m with e | m
    · exact hlL e
    · exact hll (List.mem_singleton.mp m)
  · intro i v hv
    obtain ⟨p, hp, t, u1, u2, rfl, ht⟩ := paired_get2 (i := i) hpp3 (by simpa using hv)
    refine ⟨t, _, _, rfl, ht, ?_, p, u1, u2, hp, rfl, rfl⟩
    intro m
    rcases List.mem_cons.mp m with e | m
    · exact ns_tup n3 ht e
    · exact tup_list ht d3.isList (List.mem_singleton.mp m)
  · intro Q' hq
    exact ldN n3 rfl rfl rfl rfl hq
  · intro h' e'
    exact ⟨#[], rfl, rfl, e'.plain d3, .nil⟩
  · rintro i h h' m b hb x n ⟨ys, m1, m2, pl, hP⟩
    have hbD : D ≠ b := by
      rcases hb with rfl | ⟨hb, _⟩
      · exact hDL
      · rintro rfl; obtain ⟨n, a⟩ := d3; rw [a] at hb; cases hb
    have hk : Kt h h' := by
      rcases hb with rfl | ⟨_, hb | ⟨l, k, hb⟩⟩
      · exact Kt.ns x n
      · exact Kt.xb x (fun c hc items ht => by rw [List.mem_singleton.mp hc] at ht; obtain ⟨o, a, _⟩ := ht; rw [hb] at a; cases a)
      · exact Kt.iter x hb
    exact ⟨ys, m1, m2, plain_xb pl x (nin1 hbD), pairs_kt hk hP⟩
  · rintro i v0 v1 m₁ h5 tk5 hi ⟨p, u1, u2, hp, rfl, rfl⟩ X5 l5 n5 ⟨ys, m1, m2, pl5, hP5⟩
    dsimp only at *
    have e5 : Ext s.heap h5 := e3.xb X5 (by intro b hb; rcases List.mem_cons.mp hb with rfl | hb; exact hg; rw [List.mem_singleton.mp hb]; exact nDg)
    have etake : shownP ld (ps.take (i + 1)) = shownP ld (ps.take i) ++ shown1 ld p := by
      rw [List.take_add_one, hp, shownP, shownP, List.flatMap_append]; simp
    have hmem : p ∈ ps := List.mem_of_getElem? hp
    obtain ⟨hp1, hp2⟩ := hb p hmem
    have hysz : ys.size = (shownP ld (ps.take i)).length := by rw [← paired_len hP5]; simp
    have hlen1 : (shownP ld (ps.take i)).length + (shown1 ld p).length ≤ 1000000 := by
      have e : ps = ps.take (i + 1) ++ ps.drop (i + 1) := (List.take_append_drop _ _).symm
      have : (shownP ld ps).length = (shownP ld (ps.take (i + 1))).length + (shownP ld (ps.drop (i + 1))).length := by
        conv => lhs; rw [e]
        rw [shownP, List.flatMap_append, List.length_append]; rfl
      rw [etake, List.length_append] at this
      omega
    refine wpAny_execs_cons ?_
    refine wpAny_If ?_
    refine wpAny_isTrue_Compare1 ?_
    refine ldN n5 rfl rfl rfl rfl ?_
    refine ldN n5 rfl rfl rfl rfl ?_
    refine eq_str ?_
    refine wpAny_truthy_bool ?_
    rw [str_eq]
    by_cases heq : [p.1] = p.2
    · rw [decide_eq_true heq]
      have e1s : shown1 ld p = [(p.1, [p.1])] := by unfold shown1; rw [if_pos heq]
      refine wpAny_execs_cons ?_
      refine appendS n5 m1 rfl rfl rfl pl5 ?_ ?_ ?_ ?_ ?_ ?_ ?_
      · rfl
      · rfl
      · rfl
      · rfl
      · rfl
      · rfl
      refine TupE ?_
      refine wpAny_items_cons ?_ rfl
      refine ldN n5 rfl rfl rfl rfl ?_
      refine wpAny_items_cons ?_ rfl
      refine ldN n5 rfl rfl rfl rfl ?_
      refine args_nil ⟨len2, ?_⟩
      intro h6 T e6 _ dT
      dsimp only at *
      refine ⟨e6.plain pl5, by unfold sizeLine; omega, ?_⟩
      intro h7 pl7 x7
      try dsimp only at *
      refine wpAny_execs_nil ?_
      try dsimp only
      refine wpAny_execs_nil ?_
      try dsimp only
      have hk7 := (Kt.ext e6).trans (Kt.list x7 (e6.plain pl5).isList)
      refine ⟨h7, _, _, rfl, (XB.of_ext e6).trans (x7.in (.tail _ (.head _))), ns_xb (e6.ns n5) x7 (nin1 (Ne.symm hDL)), _, m1, m2, pl7, ?_⟩
      rw [etake, e1s]
      have := Paired.snoc (pairs_kt hk7 hP5) (⟨T, _, _, rfl, (Kt.list x7 (e6.plain pl5).isList) _ _ dT⟩ : PairAt h7 (.ref T) (p.1, [p.1]))
      simpa using this
    · rw [decide_eq_false heq]
      have e1s : shown1 ld p = p.2.map (fun c => (c, [c])) ++ (ld :: unseen p.1).map (fun c => (c, [])) := by unfold shown1; rw [if_neg heq]
      have elen : (shown1 ld p).length = p.2.length + ((unseen p.1).length + 1) := by rw [e1s]; simp
      have G5 := G.keeps e5
      refine wpAny_execs_cons ?_
      refine wpAny_AugAssign_Name ?_
      refine wpAny_loadName_local rfl rfl n5 m1 ?_
      refine compPS (cl := []) (l := p.2) (fun c => (c, [c])) hA (by unfold sizeLine; omega) ?_ ?_ ?_ rfl (by decide) rfl (by decide) rfl
      · intro Q' hq
        exact ldN n5 rfl rfl rfl rfl (hq _ _ _ (Ext.refl _))
      · intro C c u s₃ m₃ E' hc ex hn3 hm3
        refine TupE ?_
        refine wpAny_items_cons ?_ rfl
        refine wpAny_Name ?_ rfl
        refine wpAny_loadName_local rfl rfl hn3 hm3 ?_
        refine wpAny_items_cons ?_ rfl
        refine wpAny_Name ?_ rfl
        refine wpAny_loadName_local rfl rfl hn3 hm3 ?_
        refine args_nil ⟨len2, ?_⟩
        intro h6 T e6 _ dT
        exact ⟨⟨T, _, _, rfl, dT⟩, _, _, rfl, e6⟩
      intro D6 h6 tk6 ys6 hD6 pl6 hP6 e6
      dsimp only at *
      have hsz6 : ys6.size = p.2.length := by have := paired_len hP6; simpa using this
      refine iaddP (e6.plain pl5) pl6 (by unfold sizeLine; omega) ?_
      intro h7 pl7 x7
      dsimp only at *
      have k57 : Kt h5 h7 := (Kt.ext e6).trans (Kt.list x7 (e6.plain pl5).isList)
      have n7 := ns_xb (e6.ns n5) x7 (nin1 (Ne.symm hDL))
      have P7 : Paired (PairAt h7) (ys ++ ys6).toList (shownP ld (ps.take i) ++ p.2.map (fun c => (c, [c]))) := by
        rw [Array.toList_append]
        exact paired_app (pairs_kt k57 hP5) (pairs_kt (Kt.list x7 (e6.plain pl5).isList) hP6)
      refine stN n7 ?_
      intro h8 n8 x8
      dsimp only at *
      have P8 := pairs_kt (Kt.ns x8 n7) P7
      have pl8 := plain_xb pl7 x8 (nin1 hDL)
      have X8 : XB [s.heap.objs.size, D] h5 h8 := (XB.of_ext e6).trans ((x7.in (.tail _ (.head _))).trans (x8.in (.head _)))
      have e8 : Ext s.heap h8 := e5.xb X8 (by intro b hb; rcases List.mem_cons.mp hb with rfl | hb; exact hg; rw [List.mem_singleton.mp hb]; exact nDg)
      have G8 := G.keeps e8
      refine wpAny_execs_cons ?_
      refine wpAny_AugAssign_Name ?_
      refine wpAny_loadName_local rfl rfl n8 rfl ?_
      refine compPS (cl := []) (l := ld :: unseen p.1) (fun c => (c, [])) hA (by unfold sizeLine; simp; omega) ?_ ?_ ?_ rfl (by decide) rfl (by decide) rfl
      · intro Q' hq
        refine wpAny_BinOp ?_
        refine ldN n8 m2 rfl rfl rfl ?_
        refine call1 G8 (g_law_unseen _) (o := o176 w.params) (by kernel_rfl) rfl rfl rfl rfl rfl rfl rfl ?_
        refine Call_ ?_
        refine bnameE G8 (gb_ord _) (by boot_by_name) (by decide) rfl rfl rfl rfl (by decide) ?_
        refine Globals_cb1 ?_
        refine args_cons ?_
        refine ldN n8 rfl rfl rfl rfl ?_
        refine args_nil ?_
        refine P.ord_of_char ?_
        refine ⟨Ext.refl _, con_unseen G8 ?_ ?_ p.1 hp1 _ ?_⟩
        · exact hA
        · show A.depth + 1 < _
          omega
        rintro v h9 tk9 ⟨u, rfl⟩ e9
        refine PyProof.Rows.add_str (fun t' tk => ?_) ?_
        · rw [str_app]
          exact hq _ _ _ e9
        · have a1 : (str [ld]).length = 1 := rfl
          have a2 : (str (unseen p.1)).length = (unseen p.1).length := by simp [str, Str.length]
          rw [a1, a2]; unfold sizeLine; omega
      · intro C c u s₃ m₃ E' hc ex hn3 hm3
        refine TupE ?_
        refine wpAny_items_cons ?_ rfl
        refine wpAny_Name ?_ rfl
        refine wpAny_loadName_local rfl rfl hn3 hm3 ?_
        refine wpAny_items_cons ?_ rfl
        refine wpAny_Constant_str ?_
        refine args_nil ⟨len2, ?_⟩
        intro h6 T e6 _ dT
        exact ⟨⟨T, _, _, rfl, dT⟩, _, _, rfl, e6⟩
      intro D9 h9 tk9 ys9 hD9 pl9 hP9 e9
      dsimp only at *
      have hsz9 : ys9.size = (unseen p.1).length + 1 := by have := paired_len hP9; simpa using this
      refine iaddP (e9.plain pl8) pl9 (by rw [Array.size_append]; unfold sizeLine; omega) ?_
      intro h10 pl10 x10
      dsimp only at *
      have k10 : Kt h8 h10 := (Kt.ext e9).trans (Kt.list x10 (e9.plain pl8).isList)
      have n10 := ns_xb (e9.ns n8) x10 (nin1 (Ne.symm hDL))
      have P10 : Paired (PairAt h10) (ys ++ ys6 ++ ys9).toList (shownP ld (ps.take (i + 1))) := by
        rw [Array.toList_append, etake, e1s, ← List.append_assoc]
        exact paired_app (pairs_kt k10 P8) (pairs_kt (Kt.list x10 (e9.plain pl8).isList) hP9)
      refine stN n10 ?_
      intro h11 n11 x11
      dsimp only at *
      refine wpAny_execs_nil ?_
      try dsimp only
      refine wpAny_execs_nil ?_
      try dsimp only
      refine ⟨h11, _, _, rfl, X8.trans ((XB.of_ext e9).trans ((x10.in (.tail _ (.head _))).trans (x11.in (.head _)))), n11, _, rfl, m2, plain_xb pl10 x11 (nin1 hDL), pairs_kt (Kt.ns x11 n10) P10⟩
  · intro h' tk' m' X n' ⟨ys, m1, m2, pl, hP⟩
    dsimp only at *
    refine wpAny_execs_cons ?_
    refine wpAny_Return_some ?_
    refine ldN n' m1 rfl rfl rfl ?_
    dsimp only
    have ee : ps.take items.size = ps := by
      have := paired_len hpp
      rw [List.take_of_length_le]; simp at this; omega
    rw [ee] at hP
    refine h _ _ _ ⟨D, rfl, ys, pl, hP⟩ ?_
    exact e3.xb X (by intro b hb; rcases List.mem_cons.mp hb with rfl | hb; exact hg; rw [List.mem_singleton.mp hb]; exact nDg)
end
end Mine

open PySem PySem.W PySem.Calls PyProof.Rows
set_option Elab.async false
set_option maxRecDepth 1000000
set_option maxHeartbeats 0
set_option linter.unusedVariables false
namespace Mine
noncomputable def escS (bare : Bool) : List Nat := if bare then [92, 34, 32, 10] else [92, 34]
noncomputable def page1 (bare : Bool) (p : Nat × List Nat) : List (Nat × List Nat) := if p.1 ∈ escS bare then [(92, [92]), p] else [p]
noncomputable def frameP (bare : Bool) : List (Nat × List Nat) := if bare then [] else [(34, [34])]
noncomputable def pageP (bare : Bool) (sh : List (Nat × List Nat)) : List (Nat × List Nat) := frameP bare ++ sh.flatMap (page1 bare) ++ frameP bare ++ [(10, [10])]
theorem page1_len (b : Bool) (p) : (page1 b p).length ≤ 2 := by unfold page1; split <;> simp
theorem pages_len (b : Bool) : ∀ sh : List (Nat × List Nat), (sh.flatMap (page1 b)).length ≤ 2 * sh.length
  | [] => by simp
  | p :: r => by
    have h1 := pages_len b r
    have h2 := page1_len b p
    rw [List.flatMap_cons, List.length_append, List.length_cons]; omega
theorem frameP_len (b : Bool) : (frameP b).length ≤ 1 := by cases b <;> simp [frameP]
theorem iteB {b : Bool} {X Y : Prop} (h1 : b = true → X) (h2 : b = false → Y) : if b = true then X else Y := by
  cases b with
  | true => exact h1 rfl
  | false => exact h2 rfl
section
variable {w : World} {s : Shared} {A : Around} {Q E : Value → Shared → Prop} {env : Env}
theorem con_page (G : Gd w s.heap) (hA : A.handled = none) (hr : A.depth + 2 < recursionLimit) {lp : Addr} {sh : List (Nat × List Nat)} {b : Bool} (hsh : Pairs s.heap lp sh)
    (hlen : sh.length ≤ 1000000)
    (h : Back s (fun v h' => ∃ D, v = .ref D ∧ Pairs h' D (pageP b sh)) Q) :
    wpAny (MW w) A (call (.ref 188) [.ref lp, .bool b]) Q E s := by
  refine call_def (fd := fd__law_page) (name := Str.ofString "_law_page") (binds := [(Str.ofString "shown", .ref lp), (Str.ofString "bare", .bool b)]) G (by omega) (o := o188 w.params) (by kernel_rfl) rfl (by kernel_rfl) (by kernel_rfl) (by kernel_rfl) (by kernel_rfl) (by kernel_rfl) (by kernel_rfl) (by kernel_rfl) (fun h₁ Fm G1 => ?_)
  conv in (sBody _) => whnf
  have hg : s.heap.get? s.heap.objs.size = none := none_of_size
  have n1 := Fm.ns
  have e1 : Ext s.heap h₁ := Fm.keep
  have hsz0 : 1000000 * 2 + 10 ≤ sizeLine := by decide
  refine wpAny_execs_cons ?_
  refine wpAny_Assign_Name ?_
  -- the frame
  have rest : ∀ h2 tk2 FA fitems, Ext h₁ h2 → h₁.get? FA = none → h2.PlainList FA fitems → Paired (PairAt h2) fitems.toList (frameP b) →
      wpAny (MW w) (A.deeper (envOf (Str.ofString "_law_page") (sScope fd__law_page) s.heap.objs.size 188 (.ref 187))) (storeName (envOf (Str.ofString "_law_page") (sScope fd__law_page) s.heap.objs.size 188 (.ref 187)) (Str.ofString "frame") (.ref FA))
        (fun x s' => match Flow.next with
          | Flow.next => wpAny (MW w) (A.deeper (envOf (Str.ofString "_law_page") (sScope fd__law_page) s.heap.objs.size 188 (.ref 187))) (execs (sBody fd__law_page).tail (envOf (Str.ofString "_law_page") (sScope fd__law_page) s.heap.objs.size 188 (.ref 187)))
              (fun fl s' => Q (match fl with | .ret v => v | _ => .none) s') (fun _ _ => False) s'
          | f => Q (match f with | .ret v => v | _ => .none) s') (fun _ _ => False) { s with heap := h2, toks := tk2 } := by
    intro h2 tk2 FA fitems e2 nF fl fp
    have n2 := e2.ns n1
    refine stN n2 ?_
    intro h3 n3 x3
    dsimp only at *
    conv in (List.tail _) => whnf
    have fl3 := plain_xb fl x3 (nin1 (ns_list n2 fl.isList))
    have fp3 := pairs_kt (Kt.ns x3 n2) fp
    have e3 : Ext s.heap h3 := (e1.trans e2).st x3 hg
    have nFs : s.heap.get? FA = none := fresh_le e1 nF
    have hFL : FA ≠ s.heap.objs.size := ns_list n3 fl3.isList
    have fsz : fitems.size ≤ 1 := by have a := paired_len fp; have c := frameP_len b; simp at a; omega
    refine wpAny_execs_cons ?_
    refine wpAny_Assign_Name ?_
    refine wpAny_BinOp ?_
    refine ldN n3 rfl rfl rfl rfl ?_
    refine ListE ?_
    refine args_nil ⟨by decide, ?_⟩
    intro h4 D4 e4 nD4 d4
    dsimp only at *
    refine addE (e4.list fl3.isList) d4.isList (by simp; omega) ?_
    intro h5 D e5 nD d5
    dsimp only at *
    have n5 := e5.ns (e4.ns n3)
    refine stN n5 ?_
    intro h6 n6 x6
    dsimp only at *
    have e6 : Ext s.heap h6 := (e3.trans (e4.trans e5)).st x6 hg
    have nDs : s.heap.get? D = none := fresh_le (e3.trans e4) nD
    have hDL : D ≠ s.heap.objs.size := ns_list n5 d5.isList
    have hDF : D ≠ FA := by rintro rfl; obtain ⟨n, a⟩ := fl3; rw [e4 _ _ a] at nD; cases nD
    have d6 := plain_xb d5 x6 (nin1 hDL)
    have k36 : Kt h3 h6 := (Kt.ext (e4.trans e5)).trans (Kt.ns x6 n5)
    have fp6 := pairs_kt k36 fp3
    have fl6 := plain_xb (e5.plain (e4.plain fl3)) x6 (nin1 hFL)
    obtain ⟨items, hpl, hpp⟩ := hsh
    have hpl6 := e6.plain hpl
    have hpp6 := pairs_kt (Kt.ext e6) hpp
    have hlL : lp ≠ s.heap.objs.size := by rintro rfl; obtain ⟨n, a⟩ := hpl; rw [hg] at a; cases a
    have hlD : lp ≠ D := by rintro rfl; obtain ⟨n, a⟩ := hpl; rw [nDs] at a; cases a
    have isz : items.size = sh.length := by have := paired_len hpp; simpa using this
    have d6' : h6.PlainList D fitems := by simpa using d6
    have nt : ∀ c ∈ [s.heap.objs.size, D], ∀ its, ¬ h6.IsTuple c its := by
      intro c hc its ht
      rcases List.mem_cons.mp hc with rfl | hc
      · exact ns_tup n6 ht rfl
      · rw [List.mem_singleton.mp hc] at ht; exact tup_list ht d6.isList rfl
    have gone : ∀ c ∈ [s.heap.objs.size, D], s.heap.get? c = none := by
      intro c hc
      rcases List.mem_cons.mp hc with rfl | hc
      · exact hg
      · rw [List.mem_singleton.mp hc]; exact nDs
    have hFn : FA ∉ [s.heap.objs.size, D] := by
      intro m
      rcases List.mem_cons.mp m with e | m
      · exact hFL e
      · exact hDF (List.mem_singleton.mp m).symm
    refine wpAny_execs_cons ?_
    refine forL (l := lp) (items := items) [s.heap.objs.size, D]
      (fun i h m => ∃ ys, m (Str.ofString "page") = some (.ref D) ∧ m (Str.ofString "bare") = some (.bool b) ∧ m (Str.ofString "frame") = some (.ref FA) ∧ h.PlainList D ys ∧ Paired (PairAt h) ys.toList (frameP b ++ (sh.take i).flatMap (page1 b)))
      hA rfl rfl PassesOwn.never ?_ ?_ ?_ hpl6.isList n6 ?_ ?_ ?_ ?_ ?_
    · intro c hc
      rcases List.mem_cons.mp hc with rfl | hc
      · exact n6.lt
      · rw [List.mem_singleton.mp hc]; obtain ⟨n, a⟩ := d6; exact Heap.lt_size a
    · exact .head _
    · intro m
      rcases List.mem_cons.mp m with e | m
      · exact hlL e
      · exact hlD (List.mem_singleton.mp m)
    · intro Q' hq
      exact ldN n6 rfl rfl rfl rfl hq
    · intro h' e'
      exact ⟨fitems, rfl, rfl, rfl, e'.plain d6', by simpa using pairs_kt (Kt.ext e') fp6⟩
    · rintro i h h' m c hc x n ⟨ys, m1, m2, m3, pl, hP⟩
      have hbD : D ≠ c := by
        rcases hc with rfl | ⟨hc, _⟩
        · exact hDL
        · rintro rfl; obtain ⟨n, a⟩ := d6; rw [a] at hc; cases hc
      have hk : Kt h h' := by
        rcases hc with rfl | ⟨_, l, k, hc⟩
        · exact Kt.ns x n
        · exact Kt.iter x hc
      exact ⟨ys, m1, m2, m3, plain_xb pl x (nin1 hbD), pairs_kt hk hP⟩
    · rintro i v m₁ h7 tk7 hv X7 l7 n7 ⟨ys, m1, m2, m3, pl7, hP7⟩
      dsimp only at *
      have e7 : Ext s.heap h7 := e6.xb X7 gone
      obtain ⟨p, hp, t, u1, u2, rfl, ht⟩ := paired_get2 (i := i) (pairs_kt (Kt.xb X7 nt) hpp6) (by simpa using hv)
      have etake : frameP b ++ (sh.take (i + 1)).flatMap (page1 b) = frameP b ++ (sh.take i).flatMap (page1 b) ++ page1 b p := by
        rw [List.take_add_one, hp, List.flatMap_append, List.append_assoc]; simp
      have hysz : ys.size ≤ 1 + 2 * sh.length := by
        have a := paired_len hP7
        have c := frameP_len b
        have d := pages_len b (sh.take i)
        rw [List.length_append] at a
        simp only [Array.length_toList] at a
        have e : (sh.take i).length ≤ sh.length := by rw [List.length_take]; omega
        omega
      have last : ∀ h8 tk8 ys8, XB [s.heap.objs.size, D] h7 h8 → h8.Ns s.heap.objs.size (fun y => if y = Str.ofString "pair" then some (.ref t) else m₁ y) → h8.PlainList D ys8 → ys8.size ≤ 2 + 2 * sh.length →
          Paired (PairAt h8) (ys8.toList ++ [Value.ref t]) (frameP b ++ (sh.take (i + 1)).flatMap (page1 b)) →
          wpAny (MW w) (A.deeper (envOf (Str.ofString "_law_page") (sScope fd__law_page) s.heap.objs.size 188 (.ref 187))) (execs [nthS (match nthS (sBody fd__law_page) 2 with | .For _ _ bd _ _ => bd | _ => []) 1] (envOf (Str.ofString "_law_page") (sScope fd__law_page) s.heap.objs.size 188 (.ref 187)))
            (fun f s₂ => match f with
              | .next | .cont => ∃ h' tk' m₂, s₂ = { s with heap := h', toks := tk' } ∧ XB [s.heap.objs.size, D] h7 h' ∧ h'.Ns s.heap.objs.size m₂ ∧ (∃ ys, m₂ (Str.ofString "page") = some (.ref D) ∧ m₂ (Str.ofString "bare") = some (.bool b) ∧ m₂ (Str.ofString "frame") = some (.ref FA) ∧ h'.PlainList D ys ∧ Paired (PairAt h') ys.toList (frameP b ++ (sh.take (i + 1)).flatMap (page1 b)))
              | .ret v => False
              | .brk => False) (fun _ _ => False) { s with heap := h8, toks := tk8 } := by
        intro h8 tk8 ys8 X8 n8 pl8 sz8 P8
        conv in (nthS _ _) => whnf
        refine wpAny_execs_cons ?_
        refine appendS n8 m1 rfl rfl rfl pl8 ?_ ?_ ?_ ?_ ?_ ?_ ?_
        · rfl
        · rfl
        · rfl
        · rfl
        · rfl
        · rfl
        refine ldN n8 rfl rfl rfl rfl ?_
        refine ⟨pl8, by omega, ?_⟩
        intro h9 pl9 x9
        dsimp only at *
        refine wpAny_execs_nil ?_
        try dsimp only
        refine ⟨h9, _, _, rfl, X8.trans (x9.in (.tail _ (.head _))), ns_xb n8 x9 (nin1 (Ne.symm hDL)), _, m1, m2, m3, pl9, ?_⟩
        have := pairs_kt (Kt.list x9 pl8.isList) P8
        simpa using this
      have nt7 : Kt h6 h7 := Kt.xb X7 nt
      have P67 : Paired (PairAt h7) [Value.ref t] [p] := .cons ⟨t, u1, u2, rfl, ht⟩ .nil
      refine wpAny_execs_cons ?_
      refine wpAny_If ?_
      refine wpAny_isTrue_Compare1 ?_
      refine Subscript_ ?_
      refine ldN n7 rfl rfl rfl rfl ?_
      refine wpAny_Constant_int ?_
      refine item_t ht (by decide) (by decide) (x := .str (str [p.1]) u1) rfl ?_ rfl
      refine IfExp_ ?_
      refine isTrue_plain ?_
      refine ldN n7 m2 rfl rfl rfl ?_
      refine wpAny_truthy_bool ?_
      have branch : ∀ (z : Str) tz tk8, z.cps.toList = escS b →
          wpAny (MW w) (A.deeper (envOf (Str.ofString "_law_page") (sScope fd__law_page) s.heap.objs.size 188 (.ref 187))) (compareOp .In (.str (str [p.1]) u1) (.str z tz))
            (fun v s₁ => v = .bool (decide (p.1 ∈ escS b)) ∧ s₁ = { s with heap := h7, toks := tk8 }) (fun _ _ => False) { s with heap := h7, toks := tk8 } := by
        intro z tz tk8 hz
        refine PyProof.Rows.in_str ?_
        refine ⟨?_, rfl⟩
        have := PySem.StrLaws.found_one z p.1
        rw [hz] at this
        exact congrArg Value.bool this
      refine iteB ?_ ?_
      all_goals
        intro hb
        refine wpAny_Constant_str ?_
        refine wpAny_mono (branch _ _ _ (by rw [hb]; rfl)) ?_ (fun _ _ e => e)
        rintro v s₁ ⟨rfl, rfl⟩
        refine wpAny_truthy_bool ?_
        by_cases hm : p.1 ∈ escS b
        · rw [decide_eq_true hm]
          have ep : page1 b p = [(92, [92]), p] := by unfold page1; rw [if_pos hm]
          refine wpAny_execs_cons ?_
          refine appendS n7 m1 rfl rfl rfl pl7 ?_ ?_ ?_ ?_ ?_ ?_ ?_
          · rfl
          · rfl
          · rfl
          · rfl
          · rfl
          · rfl
          refine TupE ?_
          refine wpAny_items_cons ?_ rfl
          refine wpAny_Constant_str ?_
          refine wpAny_items_cons ?_ rfl
          refine wpAny_Constant_str ?_
          refine args_nil ⟨len2, ?_⟩
          intro h8 T e8 _ dT
          dsimp only at *
          refine ⟨e8.plain pl7, by omega, ?_⟩
          intro h9 pl9 x9
          try dsimp only at *
          refine wpAny_execs_nil ?_
          try dsimp only
          have kk : Kt h7 h9 := (Kt.ext e8).trans (Kt.list x9 (e8.plain pl7).isList)
          refine wpAny_mono (last h9 _ _ ((XB.of_ext e8).trans (x9.in (.tail _ (.head _)))) (ns_xb (e8.ns n7) x9 (nin1 (Ne.symm hDL))) pl9 (by simp; omega) ?_) ?_ (fun _ _ e => e)
          · rw [etake, ep, Array.toList_push, List.append_assoc]
            exact paired_app (pairs_kt kk hP7) (.cons ⟨T, _, _, rfl, (Kt.list x9 (e8.plain pl7).isList) _ _ dT⟩ (pairs_kt kk P67))
          · intro f s₂ hf
            cases f with
            | next => exact hf
            | cont => exact hf
            | brk => exact hf
            | ret v => exact hf.elim
        · rw [decide_eq_false hm]
          have ep : page1 b p = [p] := by unfold page1; rw [if_neg hm]
          refine wpAny_execs_nil ?_
          try dsimp only
          refine wpAny_mono (last h7 _ _ (XB.refl _ _) n7 pl7 (by omega) ?_) ?_ (fun _ _ e => e)
          · rw [etake, ep]
            exact paired_app hP7 P67
          · intro f s₂ hf
            cases f with
            | next => exact hf
            | cont => exact hf
            | brk => exact hf
            | ret v => exact hf.elim
    · intro h' tk' m' X n' ⟨ys, m1, m2, m3, pl, hP⟩
      dsimp only at *
      have e7 : Ext s.heap h' := e6.xb X gone
      have ee : sh.take items.size = sh := List.take_of_length_le (by omega)
      rw [ee] at hP
      have fl7 := plain_xb fl6 X hFn
      have fp7 := pairs_kt (Kt.xb X nt) fp6
      have sz : ys.size ≤ 1 + 2 * sh.length := by
        have a := paired_len hP
        have c := frameP_len b
        have d := pages_len b sh
        rw [List.length_append] at a
        simp only [Array.length_toList] at a
        omega
      refine wpAny_execs_cons ?_
      refine wpAny_Return_some ?_
      refine wpAny_BinOp ?_
      refine wpAny_BinOp ?_
      refine ldN n' m1 rfl rfl rfl ?_
      refine ldN n' m3 rfl rfl rfl ?_
      refine addE pl.isList fl7.isList (by omega) ?_
      intro h8 D8 e8 nD8 d8
      dsimp only at *
      refine ListE ?_
      refine tups_spliced (ls := [(10, [10])]) ?hl2 ?_
      · refine Tups.cons ?_ ?_ ?_
        · rfl
        · rfl
        exact Tups.nil
      intro vs h9 tk9 hp9 e9
      refine ⟨by rw [paired_len hp9]; decide, ?_⟩
      intro h10 D10 e10 nD10 d10
      dsimp only at *
      have vsz : vs.length = 1 := paired_len hp9
      refine addE (e10.list (e9.list d8.isList)) d10.isList (by simp only [Array.size_append, List.size_toArray]; omega) ?_
      intro h11 D11 e11 nD11 d11
      dsimp only at *
      refine h _ _ _ ⟨D11, rfl, _, d11, ?_⟩ (e7.trans (e8.trans (e9.trans (e10.trans e11))))
      have kk : Kt h' h11 := Kt.ext (e8.trans (e9.trans (e10.trans e11)))
      have := paired_app (paired_app (pairs_kt kk hP) (pairs_kt kk fp7)) (pairs_kt (Kt.ext (e10.trans e11)) hp9)
      simpa [pageP] using this
  refine IfExp_ ?_
  refine isTrue_plain ?_
  refine ldN n1 rfl rfl rfl rfl ?_
  refine wpAny_truthy_bool ?_
  cases b with
  | true =>
    refine ListE ?_
    refine args_nil ⟨by decide, ?_⟩
    intro h2 D e2 nD d2
    dsimp only at *
    exact rest _ _ D _ e2 nD d2 .nil
  | false =>
    refine ListE ?_
    refine tups_spliced (ls := [(34, [34])]) ?hl ?_
    · refine Tups.cons ?_ ?_ ?_
      · rfl
      · rfl
      exact Tups.nil
    intro vs h2 tk2 hp e2
    refine ⟨by rw [paired_len hp]; decide, ?_⟩
    intro h3 D e3 nD d3
    dsimp only at *
    exact rest _ _ D _ (e2.trans e3) (fresh_le e2 nD) d3 (by simpa [frameP] using pairs_kt (Kt.ext e3) hp)
end
end Mine

open PySem PySem.W PySem.Calls PyProof.Rows
set_option Elab.async false
set_option maxRecDepth 1000000
set_option maxHeartbeats 0
set_option linter.unusedVariables false
namespace Mine
theorem tup_uniq {h : Heap} {t : Addr} {a b : Array Value} (x : h.IsTuple t a) (y : h.IsTuple t b) : a = b := by
  obtain ⟨o, e, _, n, d⟩ := x
  obtain ⟨o', e', _, n', d'⟩ := y
  rw [e] at e'; cases e'
  rw [d] at d'; cases d'; rfl
theorem str_inj {a b : List Nat} (h : str a = str b) : a = b := by
  have := congrArg (fun s : Str => s.cps.toList) h
  simpa [str] using this
theorem PairAt.uniq {h : Heap} {v : Value} {p q : Nat × List Nat} (x : PairAt h v p) (y : PairAt h v q) : p = q := by
  obtain ⟨t, u1, u2, rfl, ht⟩ := x
  obtain ⟨t', u1', u2', e, ht'⟩ := y
  cases e
  have e := tup_uniq ht ht'
  have e2 := congrArg Array.toList e
  simp only [List.cons.injEq, Value.str.injEq] at e2
  obtain ⟨⟨a, _⟩, ⟨b, _⟩, _⟩ := e2
  have a' := str_inj a
  have b' := str_inj b
  obtain ⟨p1, p2⟩ := p
  obtain ⟨q1, q2⟩ := q
  simp at a' b'
  rw [a', b']
section
variable {w : World} {s : Shared} {A : Around} {Q E : Value → Shared → Prop} {env : Env}
theorem call_defC {f : Addr} {fd : Stmt} {name : Str} {pm cd : Value} {o : Obj} {args : List Value} {binds : List (Str × Value)}
    (G : Gd w s.heap) (hr : A.depth < recursionLimit) (ho : (KF w.params).lookup f = some o) (hdata : o.data = .func (doc fd name pm cd)) (hcd : codeIn (KF w.params) cd name = true)
    (hbind : bindArgs (doc fd name pm cd) ⟨args, []⟩ = pure binds)
    (hkind : ∀ x ∈ binds, (sScope fd).names.lookup x.1 = some .local ∨ ((sScope fd).names.lookup x.1 = some .cell ∧ ((cellsFrom (s.heap.objs.size + 1) (sScope fd).names []).lookup x.1).isSome = true))
    (hco : (sScope fd).isCoroutine = false) (hgen : (sScope fd).isGenerator = false) (hk : (sScope fd).kind = .function)
    (h : ∀ h₁ tk, Fr s.heap s.heap.objs.size h₁ (bindL (envOfC name (sScope fd) s.heap.objs.size f cd).kindOf binds fun _ => none) →
      Cl s.heap.objs.size (cellsFrom (s.heap.objs.size + 1) (sScope fd).names []) h₁ (bindC (envOfC name (sScope fd) s.heap.objs.size f cd).kindOf binds fun _ => none) → Gd w h₁ →
      wpAny (MW w) (A.deeper (envOfC name (sScope fd) s.heap.objs.size f cd)) (execs (sBody fd) (envOfC name (sScope fd) s.heap.objs.size f cd))
        (fun fl s' => Q (match fl with | .ret v => v | _ => .none) s') (fun _ _ => False) { s with heap := h₁, toks := tk }) :
    wpAny (MW w) A (call (.ref f) args) Q E s := by
  obtain ⟨_, _, mean, mg, mb, T⟩ := G.t
  refine wpAny_call (call_cells_ret hr (look_fn G ho) hdata T.nolimit (codeRec_of G.k hcd) hbind hkind (fun h₁ tk F X => ?_) hco hgen hk)
  exact h h₁ tk F X (G.keeps F.keep)
/-- a comprehension over a list, a name of the frame's free in it -/
theorem compLF {elt iter : Expr} {x : Str} {px : Pos} {scope : Scope} {cl : List (Str × Addr)} {pos : Pos} {l : Addr} {items : Array Value} (F : Value → Value → Prop)
    (hA : A.handled = none) (hl : s.heap.IsList l items) (hsz : items.size ≤ sizeLine)
    (hiter : ∀ Q', Q' (.ref l) s → wpAny (MW w) A (eval iter env) Q' E s)
    (helt : ∀ C v s₃ m₃ E', v ∈ items.toList → Ext s.heap s₃.heap → s₃.heap.Ns C m₃ → m₃ x = some v → wpAny (MW w) A (eval elt (compEnvC scope cl C env)) (fun y s₄ => F v y ∧ Keeps s₃ s₄) E' s₃)
    (hQ : ∀ D h' tk ys, s.heap.get? D = none → h'.PlainList D ys → Paired F items.toList ys.toList → Ext s.heap h' → Q (.ref D) { s with heap := h', toks := tk })
    (hclos : closureFor scope env = pure cl) (hcell : ∀ y ∈ scope.names, y.2 ≠ .cell) (hkind : scope.kind = .function)
    (hnames : ∀ y ∈ scope.names, y.2 = .local → scope.names.lookup y.1 = some .local) (hx : scope.names.lookup x = some .local)
    (hs : ∀ x, foldedSetIterable iter env x = pure x := by intro _; rfl) :
    wpAny (MW w) A (eval (.ListComp elt [⟨.Name x px, iter, [], 0⟩] scope pos) env) Q E s := by
  refine compH (fun _ => true) (fun _ v y => F v y) (fun _ _ _ _ _ x => x) hclos hcell hkind hnames hx ?_ hs
  refine hiter _ ?_
  refine wpAny_pyIter_list hl ?_
  have e0 : Ext s.heap (s.heap.push { cls := .type "list_iterator", data := .fields #[.ref l, .int 0 0] }) := Ext.push _
  have hlI : l ≠ s.heap.objs.size := by obtain ⟨o, a, _⟩ := hl; exact Nat.ne_of_lt (Heap.lt_size a)
  have ex : ∀ h', XB [s.heap.objs.size] (s.heap.push { cls := .type "list_iterator", data := .fields #[.ref l, .int 0 0] }) h' → Ext s.heap h' := fun h' y => e0.st y none_of_size
  refine ⟨_, _, _, _, _, _, rfl, Walks.list hA s.heap.objs.size l hlI items, hsz, ?_, ⟨⟨_, Heap.get?_push_size _ rfl, rfl, rfl⟩, e0.list hl⟩, ?_, ⟨?_, ?_⟩, ?_⟩
  · intro i h st b hb its ht
    rw [List.mem_singleton.mp hb] at ht
    exact tup_iter ht st.1 rfl
  · intro b hb
    show b < (Heap.push s.heap _).objs.size
    rw [Heap.size_push]
    simp at hb
    rcases hb with rfl | rfl
    · exact Nat.lt_succ_self _
    · obtain ⟨o, a, _⟩ := hl; exact Nat.lt_succ_of_lt (Heap.lt_size a)
  · intro C i v s₃ m₃ E' hP hn hm hX
    exact wpAny_tests_nil ⟨rfl, _, _, rfl, fun _ _ e => e⟩
  · intro C i v s₃ m₃ E' hP _ hn hm hX
    exact helt C v s₃ m₃ E' (Array.mem_toList_iff.mpr (Array.mem_of_getElem? hP)) (ex _ hX) hn hm
  · intro D h' tk ys vs hD hpl hlen hP hF hX
    rw [filter_tt] at hF
    have e : vs = items.toList := by
      apply List.ext_getElem?
      intro j
      cases hj : vs[j]? with
      | some v => rw [Array.getElem?_toList, hP j v hj]
      | none =>
        have : vs.length ≤ j := by simpa using hj
        rw [Array.getElem?_toList, Eq.comm, Array.getElem?_eq_none_iff]; omega
    rw [e] at hF
    exact hQ D h' tk ys (fresh_le e0 hD) hpl hF (ex _ hX)
end
/-- a page's text, or what it means -/
noncomputable def colP (c : Nat) (p : Nat × List Nat) : List Nat := if c = 0 then [p.1] else p.2
noncomputable def textP (c : Nat) (ps : List (Nat × List Nat)) : List Nat := ps.flatMap (colP c)
theorem paired_text {c : Nat} {h : Heap} {F : Value → Value → Prop} (hF : ∀ v p y, PairAt h v p → F v y → ∃ u', y = .str (str (colP c p)) u') : ∀ {vs : List Value} {x : List (Nat × List Nat)} {ys : List Value},
    Paired (PairAt h) vs x → Paired F vs ys → ∃ l : List (Str × Tok), ys = strValues l ∧ l.map (·.1) = (x.map (colP c)).map str
  | _, _, _, .nil, h => by cases h; exact ⟨[], rfl, rfl⟩
  | _, _, _, .cons hv ht, h => by
    cases h with
    | cons h1 h2 =>
      obtain ⟨l, hl1, hl2⟩ := paired_text hF ht h2
      obtain ⟨u', rfl⟩ := hF _ _ _ hv h1
      exact ⟨(str (colP c _), u') :: l, by rw [hl1]; rfl, by rw [List.map_cons, List.map_cons, List.map_cons, hl2]⟩
section
variable {w : World} {s : Shared} {A : Around} {Q E : Value → Shared → Prop} {env : Env}
theorem con_text (G : Gd w s.heap) (hA : A.handled = none) (hr : A.depth + 2 < recursionLimit) {lp : Addr} {ps : List (Nat × List Nat)} {c : Nat} (hc : c ≤ 1) (tk : Tok) (hps : Pairs s.heap lp ps)
    (hlen : ps.length ≤ 500000) (hb : ∀ p ∈ ps, p.2.length ≤ 8)
    (h : Back s (fun v h' => ∃ u, v = .str (str (textP c ps)) u) Q) :
    wpAny (MW w) A (call (.ref 193) [.ref lp, .int c tk]) Q E s := by
  refine call_defC (fd := fd__law_text) (name := Str.ofString "_law_text") (binds := [(Str.ofString "pairs", .ref lp), (Str.ofString "column", .int c tk)]) G (by omega) (o := o193 w.params) (by kernel_rfl) rfl (by kernel_rfl) (by kernel_rfl) ?_ (by kernel_rfl) (by kernel_rfl) (by kernel_rfl) ?_
  · intro x hx
    rcases List.mem_cons.mp hx with rfl | hx
    · exact .inl (by kernel_rfl)
    · rw [List.mem_singleton.mp hx]
      exact .inr ⟨by kernel_rfl, by kernel_rfl⟩
  intro h₁ tk1 Fm X G1
  conv in (sBody _) => whnf
  have e1 : Ext s.heap h₁ := Fm.keep
  have hcell : h₁.IsCell (s.heap.objs.size + 1) (some (.int c tk)) := X.cell (Str.ofString "column") _ (by kernel_rfl)
  obtain ⟨items, hpl, hpp⟩ := hps
  have hpl1 := e1.plain hpl
  have hpp1 := pairs_kt (Kt.ext e1) hpp
  have isz : items.size = ps.length := by have := paired_len hpp; simpa using this
  have hsz0 : 1000000 * 2 + 10 ≤ sizeLine := by decide
  refine wpAny_execs_cons ?_
  refine wpAny_Return_some ?_
  refine Call_method1 ?_ ?_ ?_ ?_
  · rfl
  · rfl
  · rfl
  refine wpAny_Constant_str ?_
  refine SB.join ?_
  refine compLF (cl := [(Str.ofString "column", s.heap.objs.size + 1)]) (items := items) (l := lp) (fun v y => ∀ p, PairAt h₁ v p → ∃ u, y = .str (str (colP c p)) u) hA hpl1.isList (by omega) ?_ ?_ ?_ (by rfl) (by decide) rfl (by decide) rfl
  · intro Q' hq
    exact ldLoc Fm rfl hq
  · intro C v s₃ m₃ E' hv ex hn3 hm3
    obtain ⟨p, hp, hpa⟩ := paired_mem hpp1 hv
    obtain ⟨t, u1, u2, rfl, ht⟩ := id hpa
    refine Subscript_ ?_
    refine wpAny_Name ?_ rfl
    refine wpAny_loadName_local rfl rfl hn3 hm3 ?_
    refine wpAny_Name ?_ rfl
    refine wpAny_loadName_cell rfl ?_ (c := s.heap.objs.size + 1) ?_ (hcell.keeps ex) ?_
    · rfl
    · rfl
    have hx : ∃ u, (#[.str (str [p.1]) u1, .str (str p.2) u2] : Array Value)[(c : Int).toNat]? = some (.str (str (colP c p)) u) := by
      rcases (by omega : c = 0 ∨ c = 1) with rfl | rfl
      · exact ⟨u1, rfl⟩
      · exact ⟨u2, rfl⟩
    obtain ⟨u, hx⟩ := hx
    refine item_t (ex.tup ht) (by omega) (by omega) hx ?_ rfl
    refine ⟨?_, _, _, rfl, fun _ _ e => e⟩
    intro q hq
    rw [PairAt.uniq hq hpa]
    exact ⟨u, rfl⟩
  intro D h' tk' ys hD hplD hF ex
  obtain ⟨lt, e1', e2⟩ := paired_text (c := c) (fun v p y h1 h2 => h2 p h1) hpp1 hF
  refine ⟨D, lt, rfl, ?_, _, e2, ?_, ?_⟩
  · have := hplD.isList
    show h'.IsList D (strValues lt).toArray
    rw [← e1']; simpa using this
  · refine joinOk_of ?_
    have h1 := sum_str 8 (ps.map (colP c)) (fun x hx => by
      obtain ⟨p, hp, rfl⟩ := List.mem_map.mp hx
      have := hb p hp
      unfold colP; split
      · simp
      · exact this)
    have h3 : (Str.ofString "").length = 0 := rfl
    rw [h3, Nat.mul_zero]
    rw [List.length_map] at h1
    omega
  · intro t' k
    have e : Txt.join (str []) ((ps.map (colP c)).map str) = str (textP c ps) := by rw [join_str, textP, List.flatMap]
    show Q (.str (Txt.join (str []) _) t') _
    rw [e]
    exact h _ _ _ ⟨t', rfl⟩ (e1.trans ex)
end
end Mine

open PySem PySem.W PySem.Calls PyProof.Rows
set_option Elab.async false
set_option maxRecDepth 1000000
set_option maxHeartbeats 0
set_option linter.unusedVariables false
namespace Mine
noncomputable def endsB (t m : List Nat) : Bool := decide (m.length ≤ t.length) && (t.drop (t.length - m.length) == m)
/-- what undoes a preparing -/
noncomputable def undo : Nat → List Nat → List Nat → Option (List Nat)
  | _, [], text => some text
  | 0, _, _ => none
  | f + 1, c :: rest, text =>
    if c9 c = true then
      match vint rest with
      | none => none
      | some (v, rest') =>
        if v / 64 * 16 + v % 64 < 1114112 ∧ endsB text (prep [v / 64 * 16 + v % 64]) = true then
          undo f rest' (text.take (text.length - (prep [v / 64 * 16 + v % 64]).length) ++ [v / 64 * 16 + v % 64])
        else none
    else undo f rest (text ++ [c])
theorem vgo_len : ∀ (r : List Nat) (val b : Nat) {v : Nat} {r' : List Nat}, vgo val b r = some (v, r') → r'.length ≤ r.length ∧ ∀ x ∈ r', x ∈ r
  | [], val, b, v, r', h => by
    unfold vgo at h
    split at h
    · cases h; simp
    · cases h
  | b' :: r, val, b, v, r', h => by
    unfold vgo at h
    split at h
    · cases h; exact ⟨Nat.le_refl _, fun _ x => x⟩
    · split at h
      · have := vgo_len r _ _ h
        exact ⟨Nat.le_succ_of_le this.1, fun x hx => .tail _ (this.2 x hx)⟩
      · cases h
theorem vint_len {r r' : List Nat} {v : Nat} (h : vint r = some (v, r')) : r'.length ≤ r.length ∧ ∀ x ∈ r', x ∈ r := by
  cases r with
  | nil => cases h
  | cons b r => have := vgo_len r _ _ h; exact ⟨Nat.le_succ_of_le this.1, fun x hx => .tail _ (this.2 x hx)⟩
theorem prep1_len (c : Nat) : (prep [c]).length ≤ 8 := by
  unfold prep
  by_cases h : keepC c = true
  · simp [h]; exact b3_len c
  · simp [h]
theorem ends_str (t m : List Nat) : Txt.endswith (str t) (str m) = endsB t m := by
  unfold Txt.endswith endsB Builtin.Str.subAt
  have l1 : (str t).length = t.length := by simp [str, Str.length]
  have l2 : (str m).length = m.length := by simp [str, Str.length]
  rw [l1, l2, Nat.zero_add]
  by_cases h : m.length ≤ t.length
  · simp only [h, decide_true, Bool.true_and]
    have e : t.length - m.length + m.length = t.length := by omega
    rw [e]
    have : (str t).cps.extract (t.length - m.length) t.length = (t.drop (t.length - m.length)).toArray := by
      apply Array.toList_inj.mp
      simp [str]
      rw [List.take_of_length_le]
      simp
    rw [this]
    show ((t.drop (t.length - m.length)).toArray == m.toArray) = _
    by_cases hq : t.drop (t.length - m.length) = m
    · rw [hq]; simp
    · have h1 : ((t.drop (t.length - m.length)).toArray == m.toArray) = false := by
        rw [beq_eq_false_iff_ne]; intro e'; exact hq (by simpa using congrArg Array.toList e')
      have h2 : (t.drop (t.length - m.length) == m) = false := by rw [beq_eq_false_iff_ne]; exact hq
      rw [h1, h2]
  · simp [h]
theorem slice_to (t : List Nat) {k : Nat} (h : k ≤ t.length) : Txt.slice (str t) none (some (k : Int)) = str (t.take k) := by
  have l1 : (str t).length = t.length := by simp [str, Str.length]
  have := eq_of_beq (slice_closes_toL (x := str t) (j := (k : Int)) (by omega) (by rw [l1]; omega))
  rw [this]
  show (⟨_⟩ : Str) = ⟨_⟩
  congr 1
theorem keptExt {g : Heap} : KeptH (fun h => Ext g h) := fun h ob a => a.trans (Ext.push ob)
section
variable {w : World} {s : Shared} {A : Around} {Q E : Value → Shared → Prop} {env : Env}
theorem iter1 {l : Addr} {items : Array Value} (hl : s.heap.IsList l items)
    (h : ∀ I h', Ext s.heap h' → s.heap.get? I = none → h'.IsListIter I l 0 → Q (.ref I) { s with heap := h' }) : wpAny (MW w) A (call (.builtin "iter") [.ref l]) Q E s := by
  refine call_function_entry (by decide +kernel) (by decide +kernel) kdk_entry_iter (kdk_args_iter _) ?_
  unfold Builtin.«iter»
  refine wpAny_bind (m := someArgs "iter" 1 2 _) (wpAny_of_eq (a := [Value.ref l]) (by first | rfl | kernel_rfl!) ?_)
  show wpAny _ _ (pyIter (.ref l) >>= _) _ _ _
  refine wpAny_bind (wpAny_pyIter_list hl ?_)
  exact wpAny_pure ⟨_, rfl, h _ _ (Ext.push _) none_of_size ⟨_, Heap.get?_push_size _ rfl, rfl, rfl⟩⟩
theorem con_undone (G : Gd w s.heap) (hA : A.handled = none) (hr : A.depth + 4 < recursionLimit) (word : List Nat) (hw : word.length ≤ 1000000) (hcp : ∀ c ∈ word, c < 1114112) {r : List Nat} {f₀ : Nat} (hu : undo f₀ word [] = some r) (tk : Tok)
    (h : Back s (fun v _ => ∃ u, v = .str (str r) u) Q) : wpAny (MW w) A (call (.ref 210) [.str (str word) tk]) Q E s := by
  refine call_def (fd := fd__law_undone) (name := Str.ofString "_law_undone") (binds := [(Str.ofString "word", .str (str word) tk)]) G (by omega) (o := o210 w.params) (by kernel_rfl) rfl (by kernel_rfl) (by kernel_rfl) (by kernel_rfl) (by kernel_rfl) (by kernel_rfl) (by kernel_rfl) (by kernel_rfl) (fun h₁ Fm G1 => ?_)
  conv in (sBody _) => whnf
  have hg : s.heap.get? s.heap.objs.size = none := none_of_size
  have n1 := Fm.ns
  have e1 : Ext s.heap h₁ := Fm.keep
  have hsz0 : 1000000 * 8 + 10 ≤ 2 ^ 30 := by decide
  have hsz1 : 1000000 * 2 + 10 ≤ sizeLine := by decide
  refine wpAny_execs_cons ?_
  refine wpAny_Assign_Name ?_
  refine Call_ ?_
  refine bnameE G1 (gb_iter _) (by boot_by_name) (by decide) rfl rfl rfl rfl (by decide) ?_
  refine Globals_cb1 ?_
  refine args_cons ?_
  refine compS (l := word) (t := tk) (fun _ => true) (fun v y => ∃ c u, v = .str ⟨#[c]⟩ u ∧ IntV y c) hA (by omega) ?_ ?_ ?_ ?_ (by decide) (by decide) rfl (by decide) rfl
  · intro Q' hq
    exact ldN n1 rfl rfl rfl rfl (hq _ _ rfl)
  · intro C c u s₃ m₃ E' hc ex hn3 hm3
    exact wpAny_tests_nil ⟨rfl, _, _, rfl, fun _ _ e => e⟩
  · intro C c u s₃ m₃ E' hc _ ex hn3 hm3
    refine Call_ ?_
    refine bnameE (G1.keeps ex) (gb_ord _) (by boot_by_name) (by decide) rfl rfl rfl rfl rfl ?_
    refine Globals_cb1 ?_
    refine args_cons ?_
    refine wpAny_Name ?_ rfl
    refine wpAny_loadName_local rfl rfl hn3 hm3 ?_
    refine args_nil ?_
    refine P.ord_of_char ?_
    exact ⟨⟨c, u, rfl, _, rfl⟩, _, _, rfl, fun _ _ e => e⟩
  intro l h2 tk2 ys vs hD hpl hvs hF e2
  rw [filter_tt] at hF
  have hcodes : Codes ys 0 word := by
    show Paired _ (ys.toList.drop 0) word
    rw [List.drop_zero]
    have key : ∀ {vs : List Value} {x : List Nat} {ys : List Value}, Paired (fun v (c : Nat) => ∃ u, v = Value.str ⟨#[c]⟩ u) vs x → Paired (fun v y => ∃ c u, v = Value.str ⟨#[c]⟩ u ∧ IntV y c) vs ys → Paired (fun v (c : Nat) => ∃ t, v = Value.int (c : Int) t) ys x := by
      intro vs x ys h1
      induction h1 generalizing ys with
      | nil => intro h; cases h; exact .nil
      | @cons v0 c0 vs0 x0 a b ih =>
        intro h
        cases h with
        | cons c d =>
          obtain ⟨u, rfl⟩ := a
          obtain ⟨c', u', e, t, rfl⟩ := c
          have e3 := (Value.str.inj e).1
          injection e3 with e4
          have e5 : c0 = c' := by simpa using e4
          rw [← e5]
          exact .cons ⟨t, rfl⟩ (ih d)
    exact key hvs hF
  dsimp only at *
  refine args_nil ?_
  refine iter1 hpl.isList ?_
  intro I h3 e3 nI hit3
  dsimp only at *
  have n3 := e3.ns (e2.ns n1)
  refine stN n3 ?_
  intro h4 n4 x4
  dsimp only at *
  have e4 : Ext s.heap h4 := (e1.trans (e2.trans e3)).st x4 hg
  have hIL : I ≠ s.heap.objs.size := ns_iter n3 hit3
  have hlL : l ≠ s.heap.objs.size := ns_list n3 (e3.list hpl.isList)
  have hlI : l ≠ I := list_iter (e3.list hpl.isList) hit3
  have nIs : s.heap.get? I = none := fresh_le (e1.trans e2) nI
  have hit4 := iter_xb hit3 x4 (nin1 hIL)
  have l4 := list_xb (e3.list hpl.isList) x4 (nin1 hlL)
  refine wpAny_execs_cons ?_
  refine wpAny_Assign_Name ?_
  refine wpAny_Constant_str ?_
  refine stN n4 ?_
  intro h5 n5 x5
  dsimp only at *
  have e5 : Ext s.heap h5 := e4.st x5 hg
  have hit5 := iter_xb hit4 x5 (nin1 hIL)
  have l5 := list_xb l4 x5 (nin1 hlL)
  have gone : ∀ c ∈ [s.heap.objs.size, I], s.heap.get? c = none := by
    intro c hc
    rcases List.mem_cons.mp hc with rfl | hc
    · exact hg
    · rw [List.mem_singleton.mp hc]; exact nIs
  have mL : s.heap.objs.size ∈ [s.heap.objs.size, I] := .head _
  have mI : I ∈ [s.heap.objs.size, I] := .tail _ (.head _)
  have hlw : l ∉ [s.heap.objs.size, I] := by
    intro m
    rcases List.mem_cons.mp m with e | m
    · exact hlL e
    · exact hlI (List.mem_singleton.mp m)
  refine wpAny_execs_cons ?_
  refine wpAny_For ?_ (by intro _; rfl)
  refine ldN n5 rfl rfl rfl rfl ?_
  refine wpAny_pyIter_listiter hit5 ?_
  refine codeAny_forLoop (fun k s' => ∃ h' tk' m' i rest text tt f, s' = { s with heap := h', toks := tk' } ∧ k = rest.length ∧ h'.IsListIter I l i ∧ Codes ys i rest ∧ h'.Ns s.heap.objs.size m' ∧ m' (Str.ofString "text") = some (.str (str text) tt) ∧
    m' (Str.ofString "codes") = some (.ref I) ∧ XB [s.heap.objs.size, I] h5 h' ∧ undo f rest text = some r ∧ text.length + rest.length ≤ 1000000 ∧ (∀ c ∈ rest, c < 1114112)) ?_ word.length
    ⟨h5, _, _, 0, word, [], _, f₀, rfl, rfl, hit5, hcodes, n5, rfl, rfl, XB.refl _ _, hu, by simpa using hw, hcp⟩
  rintro k s' ⟨h', tk', m', i, rest, text, tt, f, rfl, rfl, hit, hC, hn, mt, mc, X, hU, hlen, hb⟩
  have l' := list_xb l5 X hlw
  have e' : Ext s.heap h' := e5.xb X gone
  cases rest with
  | nil =>
    have hnone : ys[i]? = none := by
      unfold Codes at hC
      cases hd : ys.toList.drop i with
      | nil =>
        have : ys.toList.length ≤ i := by simpa using hd
        simpa using this
      | cons a b => rw [hd] at hC; cases hC
    refine wpAny_pyNext_list_end hA hit l' hnone ?_
    intro h6 x6
    have x6' : XB [I] h' h6 := XB.one x6
    refine wpAny_execs_nil ?_
    have er : text = r := by cases f <;> simpa [undo] using hU
    subst er
    dsimp only at *
    refine wpAny_execs_cons ?_
    refine wpAny_Return_some ?_
    refine ldN (ns_xb hn x6' (nin1 (Ne.symm hIL))) mt rfl rfl rfl ?_
    exact h _ _ _ ⟨_, rfl⟩ (e'.st x6' nIs)
  | cons c rest =>
    obtain ⟨⟨ct, hx⟩, hC1⟩ := hC.cons
    have hcb : c < 1114112 := hb c (.head _)
    refine wpAny_pyNext_list_item hit l' hx ?_
    intro h6 hit6 sb6
    have x6 : XB [I] h' h6 := XB.same sb6
    have n6 := ns_xb hn x6 (nin1 (Ne.symm hIL))
    refine wpAny_assign_Name ?_
    refine stN n6 ?_
    intro h7 n7 x7
    dsimp only at *
    have hit7 := iter_xb hit6 x7 (nin1 hIL)
    have X7 : XB [s.heap.objs.size, I] h5 h7 := (X.trans (x6.in mI)).trans (x7.in mL)
    have e7 : Ext s.heap h7 := e5.xb X7 gone
    have G7 := G.keeps e7
    cases f with
    | zero => cases hU
    | succ f =>
    refine wpAny_passesOwn PassesOwn.never ?_
    refine wpAny_execs_cons ?_
    refine wpAny_If ?_
    refine isTrue_plain ?_
    refine call1 G7 (gin_table_c9 _) (o := o152 w.params) (by kernel_rfl) rfl rfl rfl rfl rfl rfl rfl ?_
    refine Call_ ?_
    refine bnameE G7 (gb_chr _) (by boot_by_name) (by decide) rfl rfl rfl rfl (by decide) ?_
    refine Globals_cb1 ?_
    refine args_cons ?_
    refine ldN n7 rfl rfl rfl rfl ?_
    refine args_nil ?_
    refine chr_of_range (by omega) (by omega) ?_
    refine ⟨Ext.refl _, ?_⟩
    have ec : ((c : Int)).toNat = c := by omega
    rw [ec]
    refine con_c9 G7 ?_ c _ ?_
    · show A.depth + 1 < _
      omega
    rintro v h8 tk8 rfl e8
    dsimp only at *
    have n8 := e8.ns n7
    have hit8 := e8.iter hit7
    have X8 : XB [s.heap.objs.size, I] h5 h8 := X7.trans (XB.of_ext e8)
    have E8 : Ext s.heap h8 := e7.trans e8
    have G8 := G.keeps E8
    refine wpAny_truthy_bool ?_
    cases hc9 : c9 c with
    | false =>
      simp only [undo, hc9, Bool.false_eq_true, if_false] at hU
      refine wpAny_execs_cons ?_
      refine wpAny_AugAssign_Name ?_
      refine wpAny_loadName_local rfl rfl n8 mt ?_
      refine Call_ ?_
      refine bnameE G8 (gb_chr _) (by boot_by_name) (by decide) rfl rfl rfl rfl (by decide) ?_
      refine Globals_cb1 ?_
      refine args_cons ?_
      refine ldN n8 rfl rfl rfl rfl ?_
      refine args_nil ?_
      refine chr_of_range (by omega) (by omega) ?_
      rw [ec]
      refine PyProof.Rows.iadd_str (fun t' tk => ?_) ?_
      · dsimp only
        refine stN n8 ?_
        intro h9 n9 x9
        dsimp only at *
        refine wpAny_execs_nil ?_
        try dsimp only
        refine wpAny_execs_nil ?_
        try dsimp only
        refine ⟨rest.length, by simp, h9, _, _, i + 1, rest, text ++ [c], t', f, rfl, rfl, iter_xb hit8 x9 (nin1 hIL), hC1, n9, ?_, mc, X8.trans (x9.in mL), hU, ?_, fun x hx => hb x (.tail _ hx)⟩
        · show some (Value.str (str text ++ str [c]) _) = _
          rw [str_app]
        · simp at hlen ⊢; omega
      · have a1 : (str text).length = text.length := by simp [str, Str.length]
        show (str text).length + 1 ≤ sizeLine
        rw [a1]; simp at hlen; omega
    | true =>
      simp only [undo, hc9, if_true] at hU
      cases hvi : vint rest with
      | none => rw [hvi] at hU; cases hU
      | some vr =>
        obtain ⟨v, rest'⟩ := vr
        rw [hvi] at hU
        simp only at hU
        have hvl := vint_len hvi
        generalize hsg : v / 64 * 16 + v % 64 = sg at *
        by_cases hcond : sg < 1114112 ∧ endsB text (prep [sg]) = true
        · rw [if_pos hcond] at hU
          obtain ⟨hsb, hends⟩ := hcond
          have hml : (prep [sg]).length ≤ text.length := by
            unfold endsB at hends
            rw [Bool.and_eq_true] at hends
            exact of_decide_eq_true hends.1
          refine wpAny_execs_cons ?_
          refine wpAny_Assign_Name ?_
          refine call1 G8 (g_parse_varint _) (o := o70 w.params) (by kernel_rfl) rfl rfl rfl rfl rfl rfl rfl ?_
          refine ldN n8 mc rfl rfl rfl ?_
          refine ⟨Ext.refl _, ?_⟩
          refine con_varint G E8 hit8 (list_xb l5 X8 hlw) hlI hC1 nIs hvi ?_ ?_
          · show A.depth + 1 < _
            omega
          intro h9 tk9 t9 j hit9 hC9 x9
          dsimp only at *
          have n9 := ns_xb n8 x9 (nin1 (Ne.symm hIL))
          have X9 : XB [s.heap.objs.size, I] h5 h9 := X8.trans (x9.in mI)
          refine stN n9 ?_
          intro h10 n10 x10
          dsimp only at *
          have hit10 := iter_xb hit9 x10 (nin1 hIL)
          have X10 := X9.trans (x10.in mL)
          have E10 : Ext s.heap h10 := e5.xb X10 gone
          have G10 := G.keeps E10
          refine wpAny_execs_cons ?_
          refine wpAny_Assign_Name ?_
          refine Call_ ?_
          refine bnameE G10 (gb_chr _) (by boot_by_name) (by decide) rfl rfl rfl rfl (by decide) ?_
          refine Globals_cb1 ?_
          refine args_cons ?_
          refine wpAny_BinOp ?_
          refine wpAny_BinOp ?_
          refine wpAny_BinOp ?_
          refine ldN n10 rfl rfl rfl rfl ?_
          refine wpAny_Constant_int ?_
          refine floordiv_int (by decide) ?_ (.inl (PyProof.noPylong_small (by decide)))
          refine wpAny_Constant_int ?_
          have ed : (v : Int).fdiv 64 = ((v / 64 : Nat) : Int) := fdivN v 64
          have em : (v : Int).fmod 64 = ((v % 64 : Nat) : Int) := fmodN v 64
          rw [ed]
          refine PyProof.Rows.mul_int ?_ ?_
          · refine wpAny_BinOp ?_
            refine ldN n10 rfl rfl rfl rfl ?_
            refine wpAny_Constant_int ?_
            refine PyProof.Rows.mod_int (by decide) ?_
            rw [em]
            refine PyProof.Rows.add_int ?_
            refine args_nil ?_
            have es : (((v / 64 : Nat) : Int) * 16 + ((v % 64 : Nat) : Int)) = (sg : Int) := by omega
            rw [es]
            refine chr_of_range (by omega) (by omega) ?_
            have es2 : ((sg : Int)).toNat = sg := by omega
            rw [es2]
            refine stN n10 ?_
            intro h11 n11 x11
            dsimp only at *
            have hit11 := iter_xb hit10 x11 (nin1 hIL)
            have X11 := X10.trans (x11.in mL)
            have E11 : Ext s.heap h11 := e5.xb X11 gone
            have G11 := G.keeps E11
            refine wpAny_execs_cons ?_
            refine wpAny_Assign_Name ?_
            refine call1 G11 (g_law_prepared _) (o := o198 w.params) (by kernel_rfl) rfl rfl rfl rfl rfl rfl rfl ?_
            refine ldN n11 rfl rfl rfl rfl ?_
            refine ⟨Ext.refl _, ?_⟩
            refine con_prep G11 ?_ ?_ [sg] (by show 1 ≤ 1000000; decide) _ ?_
            · exact hA
            · show A.depth + 1 + 2 < _
              omega
            rintro v12 h12 tk12 ⟨u12, rfl⟩ e12
            dsimp only at *
            have n12 := e12.ns n11
            refine stN n12 ?_
            intro h13 n13 x13
            dsimp only at *
            have hit13 := iter_xb (e12.iter hit11) x13 (nin1 hIL)
            have X13 := (X11.trans (XB.of_ext e12)).trans (x13.in mL)
            have E13 : Ext s.heap h13 := e5.xb X13 gone
            have G13 := G.keeps E13
            refine wpAny_execs_cons ?_
            refine wpAny_If ?_
            refine isTrue_not ?_
            refine isTrue_plain ?_
            refine Call_method1 ?_ ?_ ?_ ?_
            · rfl
            · rfl
            · rfl
            refine ldN n13 mt rfl rfl rfl ?_
            refine SB.endswith ?_
            refine ldN n13 rfl rfl rfl rfl ?_
            refine ⟨_, _, rfl, ?_⟩
            rw [ends_str, hends]
            refine wpAny_truthy_bool ?_
            refine wpAny_execs_nil ?_
            try dsimp only
            refine wpAny_execs_cons ?_
            refine wpAny_Assign_Name ?_
            refine wpAny_BinOp ?_
            refine Subscript_Slice ?_ (by intro _ _; rfl)
            refine ldN n13 mt rfl rfl rfl ?_
            refine wpAny_Slice ?_
            refine evalPart_none_step ?_
            refine evalPart_some_step ?_
            refine wpAny_BinOp ?_
            refine Call_ ?_
            refine bnameE G13 (gb_len _) (by boot_by_name) (by decide) rfl rfl rfl rfl (by decide) ?_
            refine Globals_cb1 ?_
            refine args_cons ?_
            refine ldN n13 mt rfl rfl rfl ?_
            refine args_nil ?_
            have lt1 : (str text).length = text.length := by simp [str, Str.length]
            have lt2 : (str (prep [sg])).length = (prep [sg]).length := by simp [str, Str.length]
            have hlen' : text.length + (rest.length + 1) ≤ 1000000 := by simpa using hlen
            refine PySem.P.len_str (by rw [lt1]; omega) ?_
            refine Call_ ?_
            refine bnameE G13 (gb_len _) (by boot_by_name) (by decide) rfl rfl rfl rfl (by decide) ?_
            refine Globals_cb1 ?_
            refine args_cons ?_
            refine ldN n13 rfl rfl rfl rfl ?_
            refine args_nil ?_
            refine PySem.P.len_str (by rw [lt2]; omega) ?_
            refine PyProof.Rows.sub_int ?_
            refine evalPart_none_step ?_
            have esub : ((str text).length : Int) - ((str (prep [sg])).length : Int) = ((text.length - (prep [sg]).length : Nat) : Int) := by rw [lt1, lt2]; omega
            rw [esub]
            refine SBH.sliceItem_ns keptExt (Ext.refl _) ?_ (by rw [lt1]; omega)
            intro h14 t14 k14 e14
            dsimp only at *
            rw [slice_to text (Nat.sub_le _ _)]
            have n14 := e14.ns n13
            refine ldN n14 rfl rfl rfl rfl ?_
            refine PyProof.Rows.add_str (fun t' tk => ?_) ?_
            · dsimp only
              refine stN n14 ?_
              intro h15 n15 x15
              dsimp only at *
              refine wpAny_execs_nil ?_
              try dsimp only
              refine wpAny_execs_nil ?_
              try dsimp only
              refine ⟨rest'.length, by simp; omega, h15, _, _, i + 1 + j, rest', _, t', f, rfl, rfl, iter_xb (e14.iter hit13) x15 (nin1 hIL), hC9, n15, ?_, mc, (X13.trans (XB.of_ext e14)).trans (x15.in mL), hU, ?_, fun x hx => hb x (.tail _ (hvl.2 x hx))⟩
              · show some (Value.str (str _ ++ str [sg]) _) = _
                rw [str_app]
              · simp; omega
            · have a1 : (str (text.take (text.length - (prep [sg]).length))).length ≤ text.length := by simp [str, Str.length]
              show (str (text.take (text.length - (prep [sg]).length))).length + 1 ≤ sizeLine
              omega
          · exact IntMulOk.of_right (by decide +kernel)
        · rw [if_neg hcond] at hU; cases hU
end
end Mine

open PySem PySem.W PySem.Calls PyProof.Rows
set_option Elab.async false
set_option maxRecDepth 1000000
set_option maxHeartbeats 0
set_option linter.unusedVariables false
namespace Mine
theorem slot_function_setattr : Slot "function" "__setattr__" "object.__setattr__" :=
  .of (owner := "object") (n := "__setattr__") (by rw [typeLookup_type, builtinLookup_eq_fast]; kernel_rfl) (by decide +kernel) (by decide +kernel) (by decide +kernel)
    (by first | exact .inl (by decide +kernel) | exact .inr (by decide +kernel)) (by rw [isSubtype_type]; kernel_rfl)
theorem fn_mro : mroOf (.type "function") = pure [.type "function", .type "object"] := by kernel_rfl
theorem fn_refuse (f : Addr) : refuseLoop (.ref f) "__setattr__" [.type "function", .type "object"] = pure () := by kernel_rfl
theorem fn_read : typeLookup (.type "function") "read" = pure none := by rw [typeLookup_type, builtinLookup_eq_fast]; kernel_rfl
theorem fn_dict : typeHasDict (.type "function") = true := by kernel_rfl
section
variable {w : World} {s : Shared} {A : Around} {Q E : Value → Shared → Prop} {env : Env}
/-- f.read = v for a function object without a dict -/
theorem setFn {f : Addr} {fd : FuncData} {v : Value} {Q : Unit → Shared → Prop} (ho : s.heap.get? f = some { cls := .type "function", data := .func fd })
    (h : ∀ h' d t, h'.get? f = some { cls := .type "function", dict := some d, data := .func fd } → h'.get? d = some { cls := .type "dict", data := .dict #[⟨PyData.keyHash w.params "read", .str "read" t, v⟩] 1 } → d ≠ f → s.heap.get? d = none → XB [f] s.heap h' → Q () { s with heap := h', toks := s.toks + 2 }) :
    wpAny (MW w) A (setAttr (.ref f) (Str.ofString "read") v) Q E s := by
  have T1 : s.TypeIs (.ref f) "function" := ⟨_, ho, rfl⟩
  unfold setAttr
  refine wpAny_bind (wpAny_mkText (wpAny_bind ?_))
  refine wpAny_callSpecial?_slot (T := "function") (id := "object.__setattr__") ⟨_, ho, rfl⟩ slot_function_setattr ?_
  have SF := PySem.F.store_object
  refine wpAny_call (codeAny_call_builtin slot_function_setattr.plain SF.entry (slot_function_setattr.check _ _ _ _ _ _ _ _ ⟨_, ho, rfl⟩ (SF.args _ _ _) ?_))
  rw [osa_eq, refuse_eq]
  refine wpAny_bind (wpAny_bind (wpAny_typeOf ⟨_, ho, rfl⟩ ?_))
  rw [fn_mro]
  refine wpAny_bind (wpAny_pure ?_)
  rw [fn_refuse]
  refine wpAny_pure (wpAny_bind (wpAny_typeOf ⟨_, ho, rfl⟩ ?_))
  refine wpAny_bind (wpAny_of_eq fn_read ?_)
  refine wpAny_bind (wpAny_of_eq (a := none) (by rfl) ?_)
  unfold Builtin.ObjectAttr.storeInOwnDict
  refine wpAny_bind (wpAny_of_eq (a := ()) (by kernel_rfl) ?_)
  dsimp only
  rw [if_neg (by intro e; cases e)]
  unfold Builtin.ObjectAttr.ownDictForStores instanceDict
  refine wpAny_bind ?_
  refine wpAny_bind (wpAny_loadPart ho ?_)
  dsimp only
  rw [fn_dict]
  refine wpAny_bind (wpAny_alloc ?_)
  dsimp only
  have hlt : f < s.heap.objs.size := Heap.lt_size ho
  have hne : f ≠ s.heap.objs.size := Nat.ne_of_lt hlt
  have ho1 : (s.heap.push { cls := .type "dict", data := .dict #[] }).get? f = some { cls := .type "function", data := .func fd } := Heap.get?_push_of_some _ ho
  have hd1 : (s.heap.push { cls := .type "dict", data := .dict #[] }).get? s.heap.objs.size = some { cls := .type "dict", data := .dict #[] } := Heap.get?_push_size _ rfl
  refine wpAny_bind (wpAny_update ho1 ?_)
  have ho2 := Heap.get?_update_self (fun o => { o with dict := some s.heap.objs.size }) ho1 (by rfl)
  have xb2 : XB [f] (s.heap.push { cls := .type "dict", data := .dict #[] }) ((s.heap.push { cls := .type "dict", data := .dict #[] }).update f (fun o => { o with dict := some s.heap.objs.size })) := XB.same (Heap.SameBut.update ..)
  have hd2 := xb2 _ _ (nin1 (Ne.symm hne)) hd1
  have xb : XB [f] s.heap ((s.heap.push { cls := .type "dict", data := .dict #[] }).update f (fun o => { o with dict := some s.heap.objs.size })) := (XB.of_ext (Ext.push _)).trans xb2
  have nd : s.heap.get? s.heap.objs.size = none := none_of_size
  generalize (s.heap.push { cls := .type "dict", data := .dict #[] }).update f (fun o => { o with dict := some s.heap.objs.size }) = H2 at *
  generalize s.heap.objs.size = d at *
  unfold dictMade
  dsimp only
  rw [if_neg (by decide)]
  refine wpAny_pure ?_
  dsimp only
  unfold Builtin.ObjectAttr.storeInDict
  refine wpAny_bind (wpAny_pure ?_)
  refine wpAny_bind ?_
  unfold nsSet
  refine wpAny_bind (wpAny_bind (wpAny_askSetting (wpAny_pure (wpAny_bind (wpAny_mkText (wpAny_bind (wpAny_loadPart hd2 ?_)))))))
  dsimp only
  rw [if_neg (by rw [aRefKeyMayBeTheName_at]; simp)]
  refine wpAny_updatePart hd2 ?_
  have hput : Obj.putName (Str.ofString "read") (PyData.keyHash w.params (Str.ofString "read")) (.str (Str.ofString "read") (s.toks + 1)) v { cls := .type "dict", data := .dict #[] } = { cls := .type "dict", data := .dict #[⟨PyData.keyHash w.params (Str.ofString "read"), .str (Str.ofString "read") (s.toks + 1), v⟩] 1 } := by rfl
  have hd3 := (Heap.get?_update_self (Obj.putName (Str.ofString "read") (PyData.keyHash w.params (Str.ofString "read")) (.str (Str.ofString "read") (s.toks + 1)) v) hd2 (by rw [hput]; rfl))
  rw [hput] at hd3
  have xb3 : XB [d] H2 (H2.update d (Obj.putName (Str.ofString "read") (PyData.keyHash w.params (Str.ofString "read")) (.str (Str.ofString "read") (s.toks + 1)) v)) := XB.same (Heap.SameBut.update ..)
  refine wpAny_bind (wpAny_lookBehind hd3 (by rfl) ?_)
  refine wpAny_pure ?_
  refine wpAny_pure ?_
  refine h _ d _ (xb3 _ _ (nin1 hne) ho2) hd3 (Ne.symm hne) nd ?_
  intro b o nb e
  exact xb3 b o (fun m => by rw [List.mem_singleton.mp m, nd] at e; cases e) (xb b o nb e)
end
end Mine

open PySem PySem.W PySem.Calls PyProof.Rows
set_option Elab.async false
set_option maxRecDepth 1000000
set_option maxHeartbeats 0
set_option linter.unusedVariables false
namespace Mine
noncomputable def fdRead : Stmt := nthS (sBody fd__law_stream) 1
noncomputable def readQ : Str := Str.ofString "_law_stream.<locals>.read"
noncomputable def lamQ : Str := Str.ofString "_law_stream.<locals>.<lambda>"
/-- the code table of the stream's def -/
noncomputable def TabOk (h : Heap) : Prop := ∃ ps, h.get? 154 = some (tabObj ps) ∧ (ps = #[] ∨ ∃ c1 c2, ps = #[rawInt 74, rawInt 4, .ref c1, rawInt 77, rawInt 13, .ref c2] ∧ h.CodeRec (.ref c1) readQ ∧ h.CodeRec (.ref c2) lamQ ∧ c1 ≠ 154 ∧ c2 ≠ 154)
structure SA where
  (sf dsf rf pl cp ct cc : Addr)
/-- a stream that stands at place k of its text -/
structure StreamAt (P : Params) (h : Heap) (a : SA) (text : List Nat) (k : Nat) : Prop where
  fn : ∃ fd, h.get? a.sf = some { cls := .type "function", dict := some a.dsf, data := .func fd }
  dict : ∃ t, h.get? a.dsf = some { cls := .type "dict", data := .dict #[⟨PyData.keyHash P (Str.ofString "read"), .str (Str.ofString "read") t, .ref a.rf⟩] 1 }
  read : ∃ doc pm ctv, h.get? a.rf = some (fnMade (Str.ofString "read") readQ (sParams fdRead) (sBody fdRead) (sScope fdRead) [(Str.ofString "text", a.ct), (Str.ofString "place", a.cp)] doc pm a.cc ctv) ∧ h.CodeRec (.ref a.cc) readQ
  place : h.IsCell a.cp (some (.ref a.pl))
  text : ∃ t, h.IsCell a.ct (some (.str (str text) t))
  at_ : ∃ t, h.IsList a.pl #[.int (k : Int) t]
section
variable {w : World} {s : Shared} {A : Around} {Q E : Value → Shared → Prop} {env : Env}
theorem code158 {h : Heap} (G : Gd w h) : CodeHd h 158 154 :=
  ⟨o158 w.params, _, _, _, _, _, _, _, _, look_fn G (by kernel_rfl), rfl, rfl, rfl, rfl, rfl, rfl, rfl, rfl, by decide⟩
theorem mkBuiltins {p : Program} {loose : List Str} {mean : ExcName → Option Value} {mg mb : Str → Option Value} {g h : Heap} (T : Top p loose mean mg mb g) (x : XB [154] g h) (hT : ∃ ps, g.get? 154 = some (tabObj ps)) : h.Ns mainGlobals mg ∧ h.BuiltinsAt mg 154 := by
  obtain ⟨bm, ob, b1, b2, b3, b4, b5, b6⟩ := T.bmain
  have hg : h.Ns mainGlobals mg := ns_xb T.g x (by decide)
  have hbP : bm ≠ 154 := fun q => by
    obtain ⟨ps, hP⟩ := hT
    rw [q, hP] at b3; cases b3; cases b4
  have hbG : bm ≠ mainGlobals := fun q => by
    obtain ⟨o, es, ep, e, hd, _⟩ := T.g
    rw [q, e] at b3; cases b3; rw [hd] at b6; cases b6
  exact ⟨hg, bm, ob, b1, b2, hbG, hbP, x _ _ (nin1 hbP) b3, b4, b5, b6⟩
theorem codeRec_xb {bs : List Addr} {h h' : Heap} {c : Addr} {q : Str} (x : h.CodeRec (.ref c) q) (e : XB bs h h') (hc : c ∉ bs) : h'.CodeRec (.ref c) q := by
  obtain ⟨c2, o, vs, t, e1, a, b⟩ := x
  cases e1
  exact ⟨_, o, vs, t, rfl, e _ _ hc a, b⟩
theorem mkDef {p : Program} {loose : List Str} {mean : ExcName → Option Value} {mg mb : Str → Option Value} {g : Heap} {name qual : Str} {params : Arguments} {body : List Stmt} {scope : Scope} {pos : Pos} {fl : Nat} {clos : List (Str × Addr)} {ps : Array Value}
    (T : Top p loose mean mg mb g) (x : XB [154] g s.heap) (hT : ∃ ps, g.get? 154 = some (tabObj ps)) (hP : s.heap.get? 154 = some (tabObj ps)) (ht : TriplesOk ps.toList) (hcl : closureFor scope env = pure clos) (hge : env.globals = mainGlobals) (hcode : env.code = .ref 158) (C : CodeHd s.heap 158 154)
    (hc : codeAmong pos ps.toList = none ∨ ∃ c, codeAmong pos ps.toList = some (.ref c) ∧ s.heap.CodeRec (.ref c) qual ∧ c ≠ 154)
    (h : ∀ f c h' tk doc pm ctv ps', h'.get? f = some (fnMade name qual params body scope clos doc pm c ctv) → s.heap.get? f = none → h'.CodeRec (.ref c) qual → c ≠ 154 → XB [154] s.heap h' → h'.get? 154 = some (tabObj ps') →
      ((ps' = ps ∧ codeAmong pos ps.toList = some (.ref c)) ∨ (codeAmong pos ps.toList = none ∧ ps' = ps ++ #[rawInt pos.line, rawInt pos.col, .ref c])) → Q (.ref f) { s with heap := h', toks := tk }) :
    wpAny (MW w) A (makeFunction name qual params (.stmts body) scope env [] [] [] pos fl) Q E s := by
  obtain ⟨hg, hb⟩ := mkBuiltins T x hT
  have h154 : 154 < s.heap.objs.size := Heap.lt_size hP
  rcases hc with hn | ⟨c, hs, hrec, hne⟩
  · refine makeFunction_K hcl hge hg hcode C hP ht hn (by decide) hb ?_
    intro c' ctv doc h' tk hx hge' hlt hrec htb
    have hsz : s.heap.objs.size ≤ h'.objs.size := Nat.le_trans hge' (Nat.le_of_lt hlt)
    have e : Ext h' (h'.push _) := Ext.push (fnMade name qual params body scope clos doc ((mg (Str.ofString "__name__")).getD .none) c' ctv)
    refine h _ c' _ _ doc _ ctv _ (Heap.get?_push_size _ rfl) (Heap.get?_none_of_le hsz) ?_ (Nat.ne_of_gt (Nat.lt_of_lt_of_le h154 hge')) ((XB.one hx).trans (XB.of_ext e)) (e _ _ htb) (.inr ⟨hn, rfl⟩)
    exact codeRec_xb (bs := []) hrec (XB.of_ext e) (by simp)
  · refine makeFunction_hit hcl hge hg hcode C hP ht hs hb ?_
    intro ctv doc h' tk hk hsz
    have e : Ext h' (h'.push _) := Ext.push (fnMade name qual params body scope clos doc ((mg (Str.ofString "__name__")).getD .none) c ctv)
    have ek : Ext s.heap h' := hk
    refine h _ c _ _ doc _ ctv _ (Heap.get?_push_size _ rfl) (Heap.get?_none_of_le hsz) ?_ hne (XB.of_ext (ek.trans e)) (e _ _ (ek _ _ hP)) (.inl ⟨rfl, hs⟩)
    exact codeRec_xb (bs := []) hrec (XB.of_ext (ek.trans e)) (by simp)
theorem mkLam {p : Program} {loose : List Str} {mean : ExcName → Option Value} {mg mb : Str → Option Value} {g : Heap} {name qual : Str} {params : Arguments} {body : Expr} {scope : Scope} {pos : Pos} {fl : Nat} {clos : List (Str × Addr)} {ps : Array Value}
    (T : Top p loose mean mg mb g) (x : XB [154] g s.heap) (hT : ∃ ps, g.get? 154 = some (tabObj ps)) (hP : s.heap.get? 154 = some (tabObj ps)) (ht : TriplesOk ps.toList) (hcl : closureFor scope env = pure clos) (hge : env.globals = mainGlobals) (hcode : env.code = .ref 158) (C : CodeHd s.heap 158 154)
    (hc : codeAmong pos ps.toList = none ∨ ∃ c, codeAmong pos ps.toList = some (.ref c) ∧ s.heap.CodeRec (.ref c) qual ∧ c ≠ 154)
    (h : ∀ f c h' tk pm ctv ps', h'.get? f = some (kla_obj name qual params body scope clos pm c ctv) → s.heap.get? f = none → h'.CodeRec (.ref c) qual → c ≠ 154 → XB [154] s.heap h' → h'.get? 154 = some (tabObj ps') →
      ((ps' = ps ∧ codeAmong pos ps.toList = some (.ref c)) ∨ (codeAmong pos ps.toList = none ∧ ps' = ps ++ #[rawInt pos.line, rawInt pos.col, .ref c])) → Q (.ref f) { s with heap := h', toks := tk }) :
    wpAny (MW w) A (makeFunction name qual params (.expr body) scope env [] [] [] pos fl) Q E s := by
  obtain ⟨hg, hb⟩ := mkBuiltins T x hT
  have h154 : 154 < s.heap.objs.size := Heap.lt_size hP
  rcases hc with hn | ⟨c, hs, hrec, hne⟩
  · refine kla_makeFunction hcl hge hg hcode C hP ht hn (by decide) hb ?_
    intro c' ctv h' tk hx hge' hlt hrec htb
    have hsz : s.heap.objs.size ≤ h'.objs.size := Nat.le_trans hge' (Nat.le_of_lt hlt)
    have e : Ext h' (h'.push _) := Ext.push (kla_obj name qual params body scope clos ((mg (Str.ofString "__name__")).getD .none) c' ctv)
    refine h _ c' _ _ _ ctv _ (Heap.get?_push_size _ rfl) (Heap.get?_none_of_le hsz) ?_ (Nat.ne_of_gt (Nat.lt_of_lt_of_le h154 hge')) ((XB.one hx).trans (XB.of_ext e)) (e _ _ htb) (.inr ⟨hn, rfl⟩)
    exact codeRec_xb (bs := []) hrec (XB.of_ext e) (by simp)
  · refine kla_makeFunctionHit hcl hge hg hcode C hP ht hs hb ?_
    intro ctv h' tk hk hsz
    have e : Ext h' (h'.push _) := Ext.push (kla_obj name qual params body scope clos ((mg (Str.ofString "__name__")).getD .none) c ctv)
    have ek : Ext s.heap h' := hk
    refine h _ c _ _ _ ctv _ (Heap.get?_push_size _ rfl) (Heap.get?_none_of_le hsz) ?_ hne (XB.of_ext (ek.trans e)) (e _ _ (ek _ _ hP)) (.inl ⟨rfl, hs⟩)
    exact codeRec_xb (bs := []) hrec (XB.of_ext (ek.trans e)) (by simp)
theorem codeRec_ns {h : Heap} {c L : Addr} {q : Str} {m : Str → Option Value} (x : h.CodeRec (.ref c) q) (n : h.Ns L m) : c ≠ L := by
  rintro rfl
  obtain ⟨c2, o, vs, t, e1, a, b, _⟩ := x
  cases e1
  obtain ⟨o', es, ep, a', d, _⟩ := n
  rw [a] at a'; cases a'; rw [b] at d; cases d
theorem stNC {name : Str} {scope : Scope} {L a : Addr} {cd : Value} {m : Str → Option Value} {x : Str} {v : Value} {Q : Unit → Shared → Prop} (hn : s.heap.Ns L m)
    (h : ∀ h', h'.Ns L (fun y => if y = x then some v else m y) → XB [L] s.heap h' → Q () { s with heap := h', toks := s.toks + 1 })
    (hk : scope.kind = .function := by rfl) (hl : (envOfC name scope L a cd).kindOf x = some .local := by rfl) :
    wpAny (MW w) A (storeName (envOfC name scope L a cd) x v) Q E s :=
  wpAny_storeName_local hl hn (fun h' n' hs => h h' n' (XB.same hs)) (by show (scope.kind == .class || (scope.kind == .module && L != mainGlobals)) = false; rw [hk]; rfl)
theorem code158x {g h : Heap} (C : CodeHd g 158 154) (x : XB [154] g h) : CodeHd h 158 154 := by
  obtain ⟨o, vs, file, tf, flags, tg, inF, text, tt, e, r⟩ := C
  exact ⟨o, vs, file, tf, flags, tg, inF, text, tt, x _ _ (by decide) e, r⟩
theorem con_stream (Gs : Gd w s.heap) (hT : TabOk s.heap) (hr : A.depth < recursionLimit) (text : List Nat) (tk : Tok)
    (h : ∀ (a : SA) h' tk', StreamAt w.params h' a text 0 → TabOk h' → XB [154] s.heap h' → (∀ x ∈ [a.sf, a.dsf, a.rf, a.pl, a.cp, a.ct], s.heap.get? x = none) → Q (.ref a.sf) { s with heap := h', toks := tk' }) :
    wpAny (MW w) A (call (.ref 159) [.str (str text) tk]) Q E s := by
  refine call_defC (fd := fd__law_stream) (name := Str.ofString "_law_stream") (binds := [(Str.ofString "text", .str (str text) tk)]) Gs hr (o := o159 w.params) (by kernel_rfl) rfl (by kernel_rfl) (by kernel_rfl) ?_ (by kernel_rfl) (by kernel_rfl) (by kernel_rfl) ?_
  · intro x hx
    rw [List.mem_singleton.mp hx]
    exact .inr ⟨by kernel_rfl, by kernel_rfl⟩
  intro h₁ tk1 Fm X G1
  conv in (sBody _) => whnf
  have e1 : Ext s.heap h₁ := Fm.keep
  have n1 := Fm.ns
  have fr : ∀ k, s.heap.get? (s.heap.objs.size + k) = none := fun k => Heap.get?_none_of_le (Nat.le_add_right _ _)
  have fr0 : s.heap.get? s.heap.objs.size = none := fr 0
  have ct1 : h₁.IsCell (s.heap.objs.size + 1) (some (.str (str text) tk)) := X.cell (Str.ofString "text") _ (by kernel_rfl)
  have cp1 : h₁.IsCell (s.heap.objs.size + 2) none := X.cell (Str.ofString "place") _ (by kernel_rfl)
  have h154 : 154 < s.heap.objs.size := by obtain ⟨ps, hP, _⟩ := hT; exact Heap.lt_size hP
  obtain ⟨_, _, mean, mg, mb, T⟩ := Gs.t
  have hT0 : ∃ ps, s.heap.get? 154 = some (tabObj ps) := let ⟨ps, a, _⟩ := hT; ⟨ps, a⟩
  refine wpAny_execs_cons ?_
  refine wpAny_Assign_Name ?_
  refine ListE ?_
  refine lits_spliced (ls := [.inr 0]) (by repeat constructor) ?_
  intro vs tk2 hp
  refine ⟨by rw [paired_len hp]; decide, ?_⟩
  intro h2 D e2 nD d2
  dsimp only at *
  obtain ⟨t0, evs⟩ : ∃ t, vs = [.int (0 : Int) t] := by
    cases hp with
    | cons a b => cases b; obtain ⟨t, rfl⟩ := a; exact ⟨t, rfl⟩
  subst evs
  have cp2 : h2.IsCell (s.heap.objs.size + 2) none := cp1.keeps e2
  have ct2 := ct1.keeps e2
  refine wpAny_storeName_cell rfl (by rfl) (c := s.heap.objs.size + 2) (by rfl) cp2 ?_
  intro h3 cp3 sb3
  dsimp only at *
  have x3 : XB [s.heap.objs.size + 2] h2 h3 := XB.same sb3
  have n3 := ns_xb (e2.ns n1) x3 (nin1 (Nat.ne_of_lt (Nat.lt_add_of_pos_right (by decide))))
  have ct3 : h3.IsCell (s.heap.objs.size + 1) (some (.str (str text) tk)) := let ⟨o, a, b⟩ := ct2; ⟨o, x3 _ _ (nin1 (Nat.ne_of_lt (Nat.lt_succ_self _))) a, b⟩
  have nDs : s.heap.get? D = none := fresh_le e1 nD
  have hDc : D ≠ s.heap.objs.size + 2 := by rintro rfl; obtain ⟨o, a, _⟩ := cp1; rw [a] at nD; cases nD
  have d3 := plain_xb d2 x3 (nin1 hDc)
  have e3 : Ext s.heap h3 := (e1.trans e2).st x3 (fr 2)
  obtain ⟨ps, hP, hps⟩ := hT
  have hP3 := e3 _ _ hP
  refine wpAny_execs_cons ?_
  refine nestDef_K rfl rfl rfl ?_
  refine mkDef (ps := ps) (clos := [(Str.ofString "text", s.heap.objs.size + 1), (Str.ofString "place", s.heap.objs.size + 2)]) T (XB.of_ext e3) hT0 hP3 ?_ ?_ rfl rfl (code158 (Gs.keeps e3)) ?_ ?_
  · rcases hps with rfl | ⟨c1, c2, rfl, _⟩ <;> simp [TriplesOk, rawInt]
  · rfl
  · rcases hps with rfl | ⟨c1, c2, rfl, a, b, c, d⟩
    · exact .inl rfl
    · exact .inr ⟨c1, rfl, codeRec_xb (bs := []) a (XB.of_ext e3) (by simp), c⟩
  intro f c1 h4 tk4 doc pm ctv ps4 hf4 nf4 rec4 nc4 x4 hP4 hps4
  dsimp only at *
  have hst4 : (ps4 = #[rawInt 74, rawInt 4, .ref c1]) ∨ ∃ c2, ps4 = #[rawInt 74, rawInt 4, .ref c1, rawInt 77, rawInt 13, .ref c2] ∧ h4.CodeRec (.ref c2) lamQ ∧ c2 ≠ 154 := by
    rcases hps with rfl | ⟨d1, d2, rfl, a, b, c, d⟩
    · rcases hps4 with ⟨_, e⟩ | ⟨_, e⟩
      · cases e
      · exact .inl e
    · rcases hps4 with ⟨e, e'⟩ | ⟨e, _⟩
      · have e2 : some (Value.ref d1) = some (Value.ref c1) := e'
        cases e2
        exact .inr ⟨d2, e, codeRec_xb b ((XB.of_ext e3).trans x4) (nin1 d), d⟩
      · exact absurd (show some (Value.ref d1) = none from e) (by simp)
  have n4 := ns_xb n3 x4 (nin1 (Nat.ne_of_gt h154))
  have L154 : s.heap.objs.size ≠ 154 := Nat.ne_of_gt h154
  have X4 : XB [154] s.heap h4 := (XB.of_ext e3).trans x4
  refine stNC n4 ?_
  intro h5 n5 x5
  dsimp only at *
  have fL : f ≠ s.heap.objs.size := by rintro rfl; obtain ⟨o, es, ep, a, _⟩ := n3; rw [a] at nf4; cases nf4
  have X5 : XB [154] s.heap h5 := fun b o nb e => x5 b o (fun m => by rw [List.mem_singleton.mp m, fr0] at e; cases e) (X4 b o nb e)
  have hP5 := x5 _ _ (nin1 (Ne.symm L154)) hP4
  refine wpAny_execs_cons ?_
  refine wpAny_Assign_Name ?_
  rw [arm_eval_Lambda]
  refine wpAny_bind (m := evalAll []) (wpAny_pure ?_)
  refine wpAny_bind (m := holding [] (evalAllOpt [])) (wpAny_holding (wpAny_pure ?_))
  refine mkLam (ps := ps4) (clos := []) (qual := lamQ) T X5 hT0 hP5 ?_ ?_ rfl rfl (code158x (code158 Gs) X5) ?_ ?_
  · rcases hst4 with rfl | ⟨c2, rfl, _⟩ <;> simp [TriplesOk, rawInt]
  · rfl
  · rcases hst4 with rfl | ⟨c2, rfl, b, d⟩
    · exact .inl rfl
    · exact .inr ⟨c2, rfl, codeRec_xb b x5 (nin1 (codeRec_ns b n4)), d⟩
  intro f2 c2 h6 tk6 pm2 ctv2 ps6 hf6 nf6 rec6 nc6 x6 hP6 hps6
  dsimp only at *
  have hst6 : ps6 = #[rawInt 74, rawInt 4, .ref c1, rawInt 77, rawInt 13, .ref c2] := by
    rcases hst4 with rfl | ⟨d2, rfl, _⟩
    · rcases hps6 with ⟨_, e⟩ | ⟨_, e⟩
      · cases e
      · exact e
    · rcases hps6 with ⟨e, e'⟩ | ⟨e, _⟩
      · have e2 : some (Value.ref d2) = some (Value.ref c2) := e'
        cases e2
        exact e
      · exact absurd (show some (Value.ref d2) = none from e) (by simp)
  have n6 := ns_xb n5 x6 (nin1 L154)
  refine stNC n6 ?_
  intro h7 n7 x7
  dsimp only at *
  have f2L : f2 ≠ s.heap.objs.size := by rintro rfl; obtain ⟨o, es, ep, a, _⟩ := n5; rw [a] at nf6; cases nf6
  have hf7 := x7 _ _ (nin1 f2L) hf6
  refine wpAny_execs_cons ?_
  refine plainObj_wpAny_Assign_Attribute ?_ ?_
  · refine wpAny_Name ?_ (by decide)
    refine wpAny_loadName_local rfl rfl n7 rfl ?_
    refine wpAny_Name ?_ (by decide)
    refine wpAny_loadName_local rfl rfl n7 rfl ?_
    refine setFn hf7 ?_
    intro h8 dd t8 hf8 hd8 hdf8 nd8 x8
    dsimp only at *
    refine wpAny_execs_cons ?_
    refine wpAny_Return_some ?_
    refine wpAny_Name ?_ (by decide)
    have n8 := ns_xb n7 x8 (nin1 (Ne.symm f2L))
    refine wpAny_loadName_local rfl rfl n8 rfl ?_
    dsimp only
    have f2P : f2 ≠ 154 := by rintro rfl; rw [hP5] at nf6; cases nf6
    have a1 : (154 : Addr) ∈ [154, s.heap.objs.size, f2] := .head _
    have a2 : s.heap.objs.size ∈ [154, s.heap.objs.size, f2] := .tail _ (.head _)
    have a3 : f2 ∈ [154, s.heap.objs.size, f2] := .tail _ (.tail _ (.head _))
    have Y58 : XB [154, s.heap.objs.size, f2] h5 h8 := ((x6.in a1).trans (x7.in a2)).trans (x8.in a3)
    have Y48 : XB [154, s.heap.objs.size, f2] h4 h8 := (x5.in a2).trans Y58
    have Y38 : XB [154, s.heap.objs.size, f2] h3 h8 := (x4.in a1).trans Y48
    have nin : ∀ b, b ≠ 154 → b ≠ s.heap.objs.size → b ≠ f2 → b ∉ [154, s.heap.objs.size, f2] := by
      intro b p q r m
      rcases List.mem_cons.mp m with e | m
      · exact p e
      rcases List.mem_cons.mp m with e | m
      · exact q e
      · exact r (List.mem_singleton.mp m)
    have ne2 : ∀ {b : Addr} {o : Obj}, h5.get? b = some o → b ≠ f2 := fun e q => by rw [q, nf6] at e; cases e
    have f154 : f ≠ 154 := by rintro rfl; rw [hP3] at nf4; cases nf4
    have hf5 := x5 _ _ (nin1 fL) hf4
    have c1L : c1 ≠ s.heap.objs.size := codeRec_ns rec4 n4
    have rec5 := codeRec_xb rec4 x5 (nin1 c1L)
    have c1f : c1 ≠ f2 := by obtain ⟨_, o, vs, t, e1, a, _⟩ := rec5; cases e1; exact ne2 a
    have c2L : c2 ≠ s.heap.objs.size := codeRec_ns rec6 n6
    have up5 : ∀ b o, b ≠ 154 → b ≠ s.heap.objs.size → h3.get? b = some o → h5.get? b = some o := fun b o p q e => x5 _ _ (nin1 q) (x4 _ _ (nin1 p) e)
    have Lp : s.heap.objs.size + 2 ≠ s.heap.objs.size := Nat.ne_of_gt (Nat.lt_add_of_pos_right (by decide))
    have Lt : s.heap.objs.size + 1 ≠ s.heap.objs.size := Nat.ne_of_gt (Nat.lt_succ_self _)
    have Pp : s.heap.objs.size + 2 ≠ 154 := Nat.ne_of_gt (Nat.lt_of_lt_of_le h154 (Nat.le_add_right _ _))
    have Pt : s.heap.objs.size + 1 ≠ 154 := Nat.ne_of_gt (Nat.lt_of_lt_of_le h154 (Nat.le_add_right _ _))
    have DP : D ≠ 154 := by rintro rfl; rw [hP] at nDs; cases nDs
    have DL : D ≠ s.heap.objs.size := ns_list n3 d3.isList
    have D5 : h5.PlainList D #[.int (0 : Int) t0] := plain_xb (plain_xb d3 x4 (nin1 DP)) x5 (nin1 DL)
    have ddP : dd ≠ 154 := by
      have e7 := x7 _ _ (nin1 (Ne.symm L154)) hP6
      rintro rfl; rw [e7] at nd8; cases nd8
    have sfresh : ∀ b, b ≠ 154 → h5.get? b = none → s.heap.get? b = none := fun b p q => by
      cases e : s.heap.get? b with
      | none => rfl
      | some o => rw [X5 _ _ (nin1 p) e] at q; cases q
    have fs : s.heap.get? f = none := by
      cases e : s.heap.get? f with
      | none => rfl
      | some o => rw [e3 _ _ e] at nf4; cases nf4
    have dds : s.heap.get? dd = none := by
      cases e : s.heap.get? dd with
      | none => rfl
      | some o =>
        have q := x7 _ _ (nin1 (by rintro rfl; rw [fr0] at e; cases e)) (x6 _ _ (nin1 ddP) (X5 _ _ (nin1 ddP) e))
        rw [q] at nd8; cases nd8
    refine h ⟨f2, dd, f, D, s.heap.objs.size + 2, s.heap.objs.size + 1, c1⟩ h8 _ ⟨⟨_, hf8⟩, ⟨t8, hd8⟩, ⟨doc, pm, ctv, Y48 _ _ (nin f f154 fL (ne2 hf5)) hf4, codeRec_xb rec5 Y58 (nin c1 nc4 c1L c1f)⟩, ?_, ⟨tk, ?_⟩, ⟨t0, ?_⟩⟩ ?_ ?_ ?_
    · obtain ⟨o, a, b⟩ := cp3
      exact ⟨o, Y38 _ _ (nin _ Pp Lp (ne2 (up5 _ _ Pp Lp a))) a, b⟩
    · obtain ⟨o, a, b⟩ := ct3
      exact ⟨o, Y38 _ _ (nin _ Pt Lt (ne2 (up5 _ _ Pt Lt a))) a, b⟩
    · obtain ⟨n, a⟩ := D5
      exact Heap.PlainList.isList ⟨n, Y58 _ _ (nin D DP DL (ne2 a)) a⟩
    · refine ⟨ps6, x8 _ _ (nin1 (Ne.symm f2P)) (x7 _ _ (nin1 (Ne.symm L154)) hP6), .inr ⟨c1, c2, hst6, codeRec_xb rec5 Y58 (nin c1 nc4 c1L c1f), ?_, nc4, nc6⟩⟩
      refine codeRec_xb (codeRec_xb rec6 x7 (nin1 c2L)) x8 (nin1 ?_)
      rintro rfl
      obtain ⟨_, o, vs, t, e1, a, b, _⟩ := rec6
      cases e1
      rw [hf6] at a; cases a; cases b
    · intro b o nb e
      have nb' : b ≠ 154 := fun q => nb (by rw [q]; exact .head _)
      refine Y58 b o (nin b nb' ?_ (ne2 (X5 _ _ nb e))) (X5 _ _ nb e)
      rintro rfl; rw [fr0] at e; cases e
    · intro x hx
      rcases List.mem_cons.mp hx with rfl | hx
      · exact sfresh _ f2P nf6
      rcases List.mem_cons.mp hx with rfl | hx
      · exact dds
      rcases List.mem_cons.mp hx with rfl | hx
      · exact fs
      rcases List.mem_cons.mp hx with rfl | hx
      · exact nDs
      rcases List.mem_cons.mp hx with rfl | hx
      · exact fr 2
      · rw [List.mem_singleton.mp hx]; exact fr 1
  · rfl
end
end Mine

open PySem PySem.W PySem.Calls PyProof.Rows
set_option Elab.async false
set_option maxRecDepth 1000000
set_option maxHeartbeats 0
set_option linter.unusedVariables false
namespace Mine
theorem lx_set (P : Params) : findIn (KF P) (.ref 59) "__setattr__" = some (some (.builtin "object.__setattr__")) := by kernel_rfl
theorem lx_over (P : Params) : plainOver (KF P) 59 = true := by kernel_rfl
theorem lx_has (P : Params) : hasDictIn (KF P) 59 = true := by kernel_rfl
theorem lx_t1 (P : Params) : takerIn (KF P) 59 (Str.ofString "lineno") = some none := by kernel_rfl
theorem lx_t2 (P : Params) : takerIn (KF P) 59 (Str.ofString "instream") = some none := by kernel_rfl
theorem lx_t3 (P : Params) : takerIn (KF P) 59 (Str.ofString "whitespace") = some none := by kernel_rfl
theorem lx_t4 (P : Params) : takerIn (KF P) 59 (Str.ofString "pushback") = some none := by kernel_rfl
theorem lx_f1 (P : Params) : findIn (KF P) (.ref 59) (Str.ofString "lineno") = some none := by kernel_rfl
theorem lx_f2 (P : Params) : findIn (KF P) (.ref 59) (Str.ofString "instream") = some none := by kernel_rfl
theorem lx_f3 (P : Params) : findIn (KF P) (.ref 59) (Str.ofString "whitespace") = some none := by kernel_rfl
theorem lx_f4 (P : Params) : findIn (KF P) (.ref 59) (Str.ofString "pushback") = some none := by kernel_rfl
theorem lx_m0 (P : Params) : findIn (KF P) (.ref 59) (Str.ofString "__init__") = some (some (.ref 35)) := by kernel_rfl
theorem lx_m1 (P : Params) : findIn (KF P) (.ref 59) (Str.ofString "_read_char") = some (some (.ref 42)) := by kernel_rfl
theorem lx_m2 (P : Params) : findIn (KF P) (.ref 59) (Str.ofString "get_token") = some (some (.ref 49)) := by kernel_rfl
theorem lx_make (P : Params) : makesIn (KF P) 59 = true := by kernel_rfl
theorem lx_g1 (P : Params) : plainGet (KF P) 59 (Str.ofString "lineno") = true := by kernel_rfl
theorem lx_fn35 (P : Params) : typeIn (KF P) (.ref 35) = some (.type "function") := by kernel_rfl
theorem lx_fn42 (P : Params) : typeIn (KF P) (.ref 42) = some (.type "function") := by kernel_rfl
theorem lx_fn49 (P : Params) : typeIn (KF P) (.ref 49) = some (.type "function") := by kernel_rfl
section
variable {w : World} {s : Shared} {A : Around} {Q E : Value → Shared → Prop} {env : Env}
theorem setInst {x dx : Addr} {es : List DictEntry} {n : Nat} {name : Str} {v : Value} {Q : Unit → Shared → Prop} (G : Gd w s.heap) (hx : s.heap.get? x = some (instObj 59 dx)) (hd : s.heap.get? dx = some (dictOf es n))
    (ht : takerIn (KF w.params) 59 name = some none) (hl : (getL name es).isSome = true) (hz : (putL name (PyData.keyHash w.params name) (.str name (s.toks + 1)) v es).length ≤ 1000)
    (h : ∀ h', h'.get? dx = some (dictOf (putL name (PyData.keyHash w.params name) (.str name (s.toks + 1)) v es) (putN name es n)) → XB [dx] s.heap h' → Q () { s with heap := h', toks := s.toks + 2 }) :
    wpAny (MW w) A (setAttr (.ref x) name v) Q E s := by
  have I : PySem.W.InstAt s.heap x (instObj 59 dx) 59 (some (dictOf es n)) := ⟨hx, rfl, rfl, hd⟩
  refine set_plain G.k I (lx_set _) ?_
  refine osa_open (s := { s with toks := s.toks + 1 }) G.k I (lx_over _) ht ?_
  intro b
  obtain ⟨cd, hc, hd'⟩ := any_some (lx_has w.params)
  refine wpAny_bind (wpAny_pure (wpAny_bind (wpAny_bind (wpAny_loadPart hx (wpAny_bind ?_)))))
  refine Looks.here (s := { s with toks := s.toks + 1 }) (looks_clsIn G.k hc) ?_
  rw [hd']
  refine wpAny_pure (a := some dx) (wpAny_bind (wpAny_pure (wpAny_bind ?_)))
  unfold nsSet
  refine wpAny_bind (wpAny_bind (wpAny_askSetting (wpAny_pure (wpAny_bind (wpAny_mkText (wpAny_bind (wpAny_loadPart hd ?_)))))))
  dsimp only
  have c : (!es.toArray.any (·.key.isStr name) && es.toArray.any (·.refKey)) = false := by
    rw [← Array.any_toList, ← Array.any_toList]
    unfold getL at hl
    split at hl
    · rename_i en he
      have : es.any (·.key.isStr name) = true := List.any_eq_true.mpr ⟨en, List.mem_of_find?_eq_some he, by simpa using List.find?_some (p := fun x : DictEntry => x.key.isStr name) he⟩
      simp only [this]; rfl
    · split at hl
      · cases hl
      · rename_i z; rw [Bool.not_eq_true] at z; simp only [z, Bool.and_false]
  rw [aRefKeyMayBeTheName_at, c]
  refine wpAny_updatePart hd ?_
  have hput := putName_dict name (PyData.keyHash w.params name) (.str name (s.toks + 1)) v es n
  have hd3 := (Heap.get?_update_self (Obj.putName name (PyData.keyHash w.params name) (.str name (s.toks + 1)) v) hd (by rw [hput]; rfl))
  rw [hput] at hd3
  refine wpAny_bind (wpAny_lookBehind hd3 (pastItsLine_dict (by rw [List.size_toArray]; unfold sizeLine; omega)) ?_)
  exact wpAny_pure (h _ hd3 (XB.same (Heap.SameBut.update ..)))
theorem getInst {x dx : Addr} {es : List DictEntry} {n : Nat} {name : Str} {v : Value} {expr : Bool} (G : Gd w s.heap) (hx : s.heap.get? x = some (instObj 59 dx)) (hd : s.heap.get? dx = some (dictOf es n))
    (ha : findIn (KF w.params) (.ref 59) name = some none) (hl : getL name es = some (some v)) (hv : handedIn v = true) (h : Q v { s with toks := s.toks + 1 }) :
    wpAny (MW w) A (getAttr (.ref x) name expr) Q E s := by
  have I : PySem.W.InstAt s.heap x (instObj 59 dx) 59 (some (dictOf es n)) := ⟨hx, rfl, rfl, hd⟩
  exact get_value G.k I (plainGet_of (lx_g1 w.params)).1 (findObj_own (lx_has _) ha (by rfl) hl) hv h
theorem code_fn {f : Addr} {name qual : Str} {params : Arguments} {body : List Stmt} {scope : Scope} {cl : List (Str × Addr)} {doc pm cd ctv : Value} {o : Obj} {args : List Value} {binds : List (Str × Value)} {R : Result → Shared → Prop}
    (hr : A.depth < recursionLimit) (ho : s.heap.get? f = some o) (hdata : o.data = .func (fnX name qual params body scope cl .none .none doc pm none cd ctv)) (hlim : s.heap.NoLimit) (hcd : s.heap.CodeRec cd qual)
    (hbind : bindArgs (fnX name qual params body scope cl .none .none doc pm none cd ctv) ⟨args, []⟩ = pure binds) (hloc : (binds.all fun x => decide (scope.names.lookup x.1 = some .local)) = true)
    (hco : scope.isCoroutine = false) (hgen : scope.isGenerator = false) (hk : scope.kind = .function) (hcell : (scope.names.all fun x => x.2 != .cell) = true)
    (h : ∀ h₁, Fr s.heap s.heap.objs.size h₁ (fun x => binds.reverse.lookup x) →
      wpAny (MW w) (A.deeper (envX qual scope s.heap.objs.size f cd cl)) (execs body (envX qual scope s.heap.objs.size f cd cl))
        (fun fl s' => R (.ok (.ret (match fl with | .ret v => v | _ => .none))) s') (fun _ _ => False) { s with heap := h₁, toks := s.toks + binds.length }) :
    codeAny (MW w) A (.call (.ref f) ⟨args, []⟩) R s := by
  refine codeAny_call_function hr ho hdata hco hgen rfl hcd ?_
  rw [hbind]
  have hcell' : ∀ x ∈ scope.names, x.2 ≠ .cell := fun x hx => by
    have := List.all_eq_true.mp hcell x hx
    simpa using this
  refine wpAny_pure (wpAny_newFunctionEnv hcell' (locs hloc) (fun h₁ hns hsb => ⟨hlim.fresh _ hsb, ?_⟩) hk)
  show codeAny _ _ (.func body (envX qual scope s.heap.objs.size f cd cl)) _ _
  refine codeAny_func (wpAny_mono (h h₁ ⟨hns, fun b o e => hsb.extBut b o (Nat.ne_of_lt (Heap.lt_size e)) (Heap.get?_push_of_some _ e), Nat.le_refl _⟩) (fun _ _ x => x) (fun _ _ x => x.elim))
/-- a method of the lexer's class -/
theorem code_meth {f : Addr} {fd : Stmt} {name qual : Str} {pm cd : Value} {o : Obj} {args : List Value} {binds : List (Str × Value)} {R : Result → Shared → Prop}
    (G : Gd w s.heap) (hr : A.depth < recursionLimit) (ho : (KF w.params).lookup f = some o) (hdata : o.data = .func (fnX name qual (sParams fd) (sBody fd) (sScope fd) [] .none .none .none pm none cd .none)) (hcd : codeIn (KF w.params) cd qual = true)
    (hbind : bindArgs (fnX name qual (sParams fd) (sBody fd) (sScope fd) [] .none .none .none pm none cd .none) ⟨args, []⟩ = pure binds) (hloc : (binds.all fun x => decide ((sScope fd).names.lookup x.1 = some .local)) = true)
    (hco : (sScope fd).isCoroutine = false) (hgen : (sScope fd).isGenerator = false) (hk : (sScope fd).kind = .function) (hcell : ((sScope fd).names.all fun x => x.2 != .cell) = true)
    (h : ∀ h₁, Fr s.heap s.heap.objs.size h₁ (fun x => binds.reverse.lookup x) → Gd w h₁ →
      wpAny (MW w) (A.deeper (envOf qual (sScope fd) s.heap.objs.size f cd)) (execs (sBody fd) (envOf qual (sScope fd) s.heap.objs.size f cd))
        (fun fl s' => R (.ok (.ret (match fl with | .ret v => v | _ => .none))) s') (fun _ _ => False) { s with heap := h₁, toks := s.toks + binds.length }) :
    codeAny (MW w) A (.call (.ref f) ⟨args, []⟩) R s := by
  obtain ⟨_, _, mean, mg, mb, T⟩ := G.t
  exact code_fn hr (look_fn G ho) hdata T.nolimit (codeRec_of G.k hcd) hbind hloc hco hgen hk hcell (fun h₁ F => h h₁ F (G.keeps F.keep))
end
noncomputable def wsS : Str := Str.ofString "\n\t\r "
/-- what a lexer's dict holds -/
noncomputable def lexD (P : Params) (t1 t2 t3 t4 tl tw : Tok) (ln : Int) (sf pb : Addr) : List DictEntry :=
  [⟨PyData.keyHash P (Str.ofString "lineno"), .str (Str.ofString "lineno") t1, .int ln tl⟩, ⟨PyData.keyHash P (Str.ofString "instream"), .str (Str.ofString "instream") t2, .ref sf⟩,
   ⟨PyData.keyHash P (Str.ofString "whitespace"), .str (Str.ofString "whitespace") t3, .str wsS tw⟩, ⟨PyData.keyHash P (Str.ofString "pushback"), .str (Str.ofString "pushback") t4, .ref pb⟩]
section
variable {w : World} {s : Shared} {A : Around} {Q E : Value → Shared → Prop} {env : Env}
theorem con_init {R : Result → Shared → Prop} (G : Gd w s.heap) (hr : A.depth < recursionLimit) {x dx sf : Addr} (hx : s.heap.get? x = some (instObj 59 dx)) (hd : s.heap.get? dx = some (dictOf [] 0)) (hxd : x ≠ dx) (hG : ∃ g, Gd w g ∧ Ext g s.heap ∧ g.get? dx = none)
    (h : ∀ h' tk' t1 t2 t3 t4 tl tw pb, h'.get? dx = some (dictOf (lexD w.params t1 t2 t3 t4 tl tw 1 sf pb) 4) → h'.PlainList pb #[] → s.heap.get? pb = none → XB [dx] s.heap h' → R (.ok (.ret .none)) { s with heap := h', toks := tk' }) :
    codeAny (MW w) A (.call (.ref 35) ⟨[.ref x, .ref sf], []⟩) R s := by
  refine code_meth (fd := fd__netrclex_u_init_u) (name := Str.ofString "__init__") (qual := Str.ofString "_netrclex.__init__") (binds := [(Str.ofString "self", .ref x), (Str.ofString "fp", .ref sf)]) G hr (o := o35 w.params) (by kernel_rfl) rfl (by kernel_rfl) (by kernel_rfl) (by kernel_rfl) (by kernel_rfl) (by kernel_rfl) (by kernel_rfl) (by kernel_rfl) (fun h₁ Fm G1 => ?_)
  conv in (sBody _) => whnf
  obtain ⟨g, Gg, eg, ng⟩ := hG
  have fr0 : s.heap.get? s.heap.objs.size = none := none_of_size
  have e1 : Ext s.heap h₁ := Fm.keep
  have n1 := Fm.ns
  have xL : x ≠ s.heap.objs.size := Nat.ne_of_lt (Heap.lt_size hx)
  have dL : dx ≠ s.heap.objs.size := Nat.ne_of_lt (Heap.lt_size hd)
  have hx1 := e1 _ _ hx
  have hd1 := e1 _ _ hd
  have keepG : ∀ h', XB [dx] s.heap h' → Gd w h' := fun h' y => Gg.keeps (eg.xb y (by simpa using ng))
  refine wpAny_execs_cons ?_
  refine plainObj_wpAny_Assign_Attribute ?_ ?_
  rotate_left
  · rfl
  refine wpAny_Constant_int ?_
  refine ldN n1 rfl rfl rfl rfl ?_
  refine setInst (G1) hx1 hd1 (lx_t1 _) (by rfl) (by show 1 ≤ 1000; decide) ?_
  intro h2 hd2 x2
  dsimp only at *
  have hd2' : h2.get? dx = some (dictOf [⟨PyData.keyHash w.params (Str.ofString "lineno"), .str (Str.ofString "lineno") _, .int 1 _⟩] 1) := hd2
  have X2 : XB [dx] s.heap h2 := (XB.of_ext e1).trans x2
  have n2 := ns_xb n1 x2 (nin1 (Ne.symm dL))
  have hx2 := x2 _ _ (nin1 hxd) hx1
  refine wpAny_execs_cons ?_
  refine plainObj_wpAny_Assign_Attribute ?_ ?_
  rotate_left
  · rfl
  refine ldN n2 rfl rfl rfl rfl ?_
  refine ldN n2 rfl rfl rfl rfl ?_
  refine setInst (keepG h2 X2) hx2 hd2' (lx_t2 _) (by rfl) (by show 2 ≤ 1000; decide) ?_
  intro h3 hd3 x3
  dsimp only at *
  have hd3' : h3.get? dx = some (dictOf [⟨PyData.keyHash w.params (Str.ofString "lineno"), .str (Str.ofString "lineno") _, .int 1 _⟩, ⟨PyData.keyHash w.params (Str.ofString "instream"), .str (Str.ofString "instream") _, .ref sf⟩] 2) := hd3
  have X3 := X2.trans x3
  have n3 := ns_xb n2 x3 (nin1 (Ne.symm dL))
  have hx3 := x3 _ _ (nin1 hxd) hx2
  refine wpAny_execs_cons ?_
  refine plainObj_wpAny_Assign_Attribute ?_ ?_
  rotate_left
  · rfl
  refine wpAny_Constant_str ?_
  refine ldN n3 rfl rfl rfl rfl ?_
  refine setInst (keepG h3 X3) hx3 hd3' (lx_t3 _) (by rfl) (by show 3 ≤ 1000; decide) ?_
  intro h4 hd4 x4
  dsimp only at *
  have hd4' : h4.get? dx = some (dictOf [⟨PyData.keyHash w.params (Str.ofString "lineno"), .str (Str.ofString "lineno") _, .int 1 _⟩, ⟨PyData.keyHash w.params (Str.ofString "instream"), .str (Str.ofString "instream") _, .ref sf⟩, ⟨PyData.keyHash w.params (Str.ofString "whitespace"), .str (Str.ofString "whitespace") _, .str wsS _⟩] 3) := hd4
  have X4 := X3.trans x4
  have n4 := ns_xb n3 x4 (nin1 (Ne.symm dL))
  have hx4 := x4 _ _ (nin1 hxd) hx3
  refine wpAny_execs_cons ?_
  refine plainObj_wpAny_Assign_Attribute ?_ ?_
  rotate_left
  · rfl
  refine ListE ?_
  refine args_nil ⟨by decide, ?_⟩
  intro h5 pb e5 npb pl5
  dsimp only at *
  refine ldN (e5.ns n4) rfl rfl rfl rfl ?_
  have X5 := X4.trans (XB.of_ext e5)
  refine setInst (keepG h5 X5) (e5 _ _ hx4) (e5 _ _ hd4') (lx_t4 _) (by rfl) (by show 4 ≤ 1000; decide) ?_
  intro h6 hd6 x6
  dsimp only at *
  refine wpAny_execs_nil ?_
  try dsimp only
  have pbd : pb ≠ dx := by rintro rfl; rw [hd4'] at npb; cases npb
  have spb : s.heap.get? pb = none := by
    cases e : s.heap.get? pb with
    | none => rfl
    | some o => rw [X4 _ _ (nin1 pbd) e] at npb; cases npb
  exact h h6 _ _ _ _ _ _ _ pb hd6 (plain_xb pl5 x6 (nin1 pbd)) spb (X5.trans x6)
end
end Mine

open PySem PySem.W PySem.Calls PyProof.Rows
set_option Elab.async false
set_option maxRecDepth 1000000
set_option maxHeartbeats 0
set_option linter.unusedVariables false
namespace Mine
/-- the sign at place k, none behind the end -/
noncomputable def sgn (text : List Nat) (k : Nat) : List Nat := (text.drop k).take 1
theorem slice_one (t : List Nat) (k : Nat) : Txt.slice (str t) (some (k : Int)) (some ((k + 1 : Nat) : Int)) = str (sgn t k) := by
  have l1 : (str t).length = t.length := by simp [str, Str.length]
  by_cases h : k < t.length
  · have := eq_of_beq (slice_closesL (x := str t) (i := (k : Int)) (j := ((k + 1 : Nat) : Int)) (by omega) (by omega) (by rw [l1]; omega))
    rw [this]
    show (⟨_⟩ : Str) = ⟨_⟩
    congr 1
    have e : (((k + 1 : Nat) : Int) - (k : Int)).toNat = 1 := by omega
    rw [e]
    simp [str, sgn]
  · have e : sgn t k = [] := by unfold sgn; rw [List.drop_eq_nil_of_le (by omega)]; rfl
    rw [e]
    have hk : t.length ≤ k := by omega
    have e1 : Builtin.Str.strSliceIndices (some (k : Int)) (some ((k + 1 : Nat) : Int)) 1 (str t).length = Builtin.Str.strSliceIndices (some (((str t).length : Nat) : Int)) (some (((str t).length : Nat) : Int)) 1 (str t).length := by
      rw [l1]
      unfold Builtin.Str.strSliceIndices
      have a1 : ¬ ((k : Int) < 0) := by omega
      have a2 : ¬ (((k + 1 : Nat) : Int) < 0) := by omega
      have a3 : ¬ ((t.length : Int) < 0) := by omega
      have m1 : min (k : Int) (t.length : Int) = t.length := by omega
      have m2 : min ((k + 1 : Nat) : Int) (t.length : Int) = t.length := by omega
      have m3 : min (t.length : Int) (t.length : Int) = t.length := by omega
      simp only [if_neg a1, if_neg a2, if_neg a3, m1, m2, m3, show (1 : Int) > 0 from by decide, if_true]
    show PySem.StrLaws.sliceText (str t) _ _ = _
    have e2 : PySem.StrLaws.sliceText (str t) (some (k : Int)) (some ((k + 1 : Nat) : Int)) = PySem.StrLaws.sliceText (str t) (some (((str t).length : Nat) : Int)) (some (((str t).length : Nat) : Int)) := by
      unfold PySem.StrLaws.sliceText
      rw [e1]
    rw [e2, PySem.StrLaws.sliceText_nat (str t) (Nat.le_refl _) (Nat.le_refl _)]
    simp [str]
theorem sgn_len (t : List Nat) (k : Nat) : (sgn t k).length ≤ 1 := by unfold sgn; simp; omega
theorem is_cell_xb {bs : List Addr} {h h' : Heap} {c : Addr} {v : Option Value} (x : h.IsCell c v) (e : XB bs h h') (hc : c ∉ bs) : h'.IsCell c v := let ⟨o, a, b⟩ := x; ⟨o, e _ _ hc a, b⟩
theorem StreamAt.move {P : Params} {h h' : Heap} {a : SA} {text : List Nat} {k k' : Nat} {t : Tok} (S : StreamAt P h a text k) (x : XB [a.pl] h h') (hl : h'.IsList a.pl #[.int (k' : Int) t]) : StreamAt P h' a text k' := by
  obtain ⟨tp, o, ho, hc, n, hd⟩ := S.at_
  have ne : ∀ {b : Addr} {q : Obj}, h.get? b = some q → (∀ m, q.data ≠ .seq #[.int (k : Int) tp] m) → b ≠ a.pl := by
    intro b q e hq e'
    rw [e', ho] at e; cases e
    exact hq n hd
  refine ⟨?_, ?_, ?_, ?_, ?_, t, hl⟩
  · obtain ⟨fd, e⟩ := S.fn
    exact ⟨fd, x _ _ (nin1 (ne e (by intro m q; cases q))) e⟩
  · obtain ⟨t', e⟩ := S.dict
    exact ⟨t', x _ _ (nin1 (ne e (by intro m q; cases q))) e⟩
  · obtain ⟨doc, pm, ctv, e, r⟩ := S.read
    refine ⟨doc, pm, ctv, x _ _ (nin1 (ne e (by intro m q; cases q))) e, ?_⟩
    refine codeRec_xb r x (nin1 ?_)
    obtain ⟨_, o2, vs, t2, e1, a2, b2, _⟩ := r
    cases e1
    exact ne a2 (by intro m q; rw [b2] at q; cases q)
  · obtain ⟨o2, e, d⟩ := S.place
    exact ⟨o2, x _ _ (nin1 (ne e (by intro m q; rw [d] at q; cases q))) e, d⟩
  · obtain ⟨tt, o2, e, d⟩ := S.text
    exact ⟨tt, o2, x _ _ (nin1 (ne e (by intro m q; rw [d] at q; cases q))) e, d⟩
section
variable {w : World} {s : Shared} {A : Around} {Q E : Value → Shared → Prop} {env : Env}
/-- the stream's read(1) -/
theorem con_rd {R : Result → Shared → Prop} {a : SA} {text : List Nat} {k : Nat} {t1 : Tok} (G : Gd w s.heap) (hr : A.depth < recursionLimit) (hS : StreamAt w.params s.heap a text k) (hl : text.length ≤ 1000000)
    (h : ∀ h' tk' u, StreamAt w.params h' a text (k + 1) → XB [a.pl] s.heap h' → R (.ok (.ret (.str (str (sgn text k)) u))) { s with heap := h', toks := tk' }) :
    codeAny (MW w) A (.call (.ref a.rf) ⟨[.int 1 t1], []⟩) R s := by
  obtain ⟨doc, pm, ctv, hrf, hrec⟩ := hS.read
  obtain ⟨_, _, mean, mg, mb, T⟩ := G.t
  refine code_fn (o := _) hr hrf rfl T.nolimit hrec (binds := [(Str.ofString "size", .int 1 t1)]) ?_ (by kernel_rfl) (by kernel_rfl) (by kernel_rfl) (by kernel_rfl) (by kernel_rfl) ?_
  · kernel_rfl
  intro h₁ Fm
  conv in (sBody _) => whnf
  have e1 : Ext s.heap h₁ := Fm.keep
  have n1 := Fm.ns
  have fr0 : s.heap.get? s.heap.objs.size = none := none_of_size
  have cp1 := hS.place.keeps e1
  obtain ⟨tt, ct⟩ := hS.text
  have ct1 := ct.keeps e1
  obtain ⟨tp, pl⟩ := hS.at_
  have pl1 := e1.list pl
  refine wpAny_execs_cons ?_
  refine wpAny_AugAssign_SubscriptAny ?_ (by intros; rfl)
  refine wpAny_Name ?_ (by decide)
  refine wpAny_loadName_free rfl (by rfl) (c := a.cp) (by rfl) cp1 ?_
  refine wpAny_Constant_int ?_
  refine wpAny_getItem_list pl1 (by decide) (by decide) (x := .int (k : Int) tp) rfl ?_
  refine wpAny_Name ?_ (by decide)
  refine wpAny_loadName_local rfl (by rfl) n1 rfl ?_
  refine iadd_int ?_
  refine wpAny_setItem_list pl1 (by decide) (by decide) (by show (0 : Int) < 1; decide) ?_
  intro h2 pl2 sb2
  dsimp only at *
  have x2 : XB [a.pl] h₁ h2 := XB.same sb2
  have pl2' : h2.IsList a.pl #[.int ((k + 1 : Nat) : Int) _] := pl2
  have cpne : a.cp ≠ a.pl := by
    rintro e
    obtain ⟨o, p, q⟩ := cp1
    obtain ⟨o', p', _, n, q'⟩ := pl1
    rw [e, p'] at p; cases p; rw [q'] at q; cases q
  have ctne : a.ct ≠ a.pl := by
    rintro e
    obtain ⟨o, p, q⟩ := ct1
    obtain ⟨o', p', _, n, q'⟩ := pl1
    rw [e, p'] at p; cases p; rw [q'] at q; cases q
  have cp2 := is_cell_xb cp1 x2 (nin1 cpne)
  have ct2 := is_cell_xb ct1 x2 (nin1 ctne)
  have n2 := ns_xb n1 x2 (nin1 (Ne.symm (ns_list n1 pl1)))
  refine wpAny_execs_cons ?_
  refine wpAny_Return_some ?_
  refine Subscript_Slice ?_ (by intro _ _; rfl)
  refine wpAny_Name ?_ (by decide)
  refine wpAny_loadName_free rfl (by rfl) (c := a.ct) (by rfl) ct2 ?_
  refine wpAny_Slice ?_
  refine evalPart_some_step ?_
  refine wpAny_BinOp ?_
  refine Subscript_ ?_
  refine wpAny_Name ?_ (by decide)
  refine wpAny_loadName_free rfl (by rfl) (c := a.cp) (by rfl) cp2 ?_
  refine wpAny_Constant_int ?_
  refine item_l pl2' (by decide) (by decide) (x := .int ((k + 1 : Nat) : Int) _) rfl ?_ rfl
  refine wpAny_Name ?_ (by decide)
  refine wpAny_loadName_local rfl (by rfl) n2 rfl ?_
  refine PyProof.Rows.sub_int ?_
  refine evalPart_some_step ?_
  refine Subscript_ ?_
  refine wpAny_Name ?_ (by decide)
  refine wpAny_loadName_free rfl (by rfl) (c := a.cp) (by rfl) cp2 ?_
  refine wpAny_Constant_int ?_
  refine item_l pl2' (by decide) (by decide) (x := .int ((k + 1 : Nat) : Int) _) rfl ?_ rfl
  refine evalPart_none_step ?_
  have ek : ((k + 1 : Nat) : Int) - 1 = (k : Int) := by omega
  rw [ek]
  refine SBH.sliceItem_ss keptExt (Ext.refl _) ?_ (by simp [str, Str.length]; unfold sizeLine; omega)
  intro h3 t3 k3 e3
  dsimp only at *
  rw [slice_one]
  have X3 : XB [a.pl] s.heap h3 := (XB.of_ext e1).trans (x2.trans (XB.of_ext e3))
  exact h h3 _ _ (hS.move X3 (e3.list pl2')) X3
end
end Mine

open PySem PySem.W PySem.Calls PyProof.Rows
set_option Elab.async false
set_option maxRecDepth 1000000
set_option maxHeartbeats 0
set_option linter.unusedVariables false
namespace Mine
theorem slot_function_ga : Slot "function" "__getattribute__" "object.__getattribute__" :=
  .of (owner := "object") (n := "__getattribute__") (by rw [typeLookup_type, builtinLookup_eq_fast]; kernel_rfl) (by decide +kernel) (by decide +kernel) (by decide +kernel)
    (by first | exact .inl (by decide +kernel) | exact .inr (by decide +kernel)) (by rw [isSubtype_type]; kernel_rfl)
theorem fn_nohook : typeLookup (.type "function") "__getattr__" = pure none := by rw [typeLookup_type, builtinLookup_eq_fast]; kernel_rfl
theorem entry_oga : entryFor table "object.__getattribute__" = some Builtin.«object.__getattribute__» := entryFor_of_tree (by kernel_rfl)
theorem args_oga (a b : Value) : argsOk "object.__getattribute__" ⟨[a, b], []⟩ := by unfold argsOk; kernel_rfl
theorem canon_oga : (Manifest.canonical "object.__getattribute__" != "object.__getattribute__") = false := by decide +kernel
section
variable {w : World} {s : Shared} {A : Around} {Q E : Value → Shared → Prop} {env : Env}
theorem getFnA {f d rf : Addr} {fd : FuncData} {hs : Int} {t : Tok} {Q : Value → Shared → Prop} (ho : s.heap.get? f = some { cls := .type "function", dict := some d, data := .func fd })
    (hd : s.heap.get? d = some { cls := .type "dict", data := .dict #[⟨hs, .str (Str.ofString "read") t, .ref rf⟩] 1 }) (h : Q (.ref rf) { s with toks := s.toks + 1 }) :
    wpAny (MW w) A (getAttr (.ref f) (Str.ofString "read") false) Q E s := by
  have hT : ∀ t', ({ s with toks := t' } : Shared).TypeIs (.ref f) "function" := fun _ => ⟨_, ho, rfl⟩
  unfold getAttr getAttrBy
  refine wpAny_bind (wpAny_mkText (wpAny_holding (wpAny_bind (wpAny_typeOf (hT _) (wpAny_bind (wpAny_of_eq slot_function_ga.lookup ?_))))))
  show wpAny _ _ (getAttrByItsOwn (.ref f) (.str (Str.ofString "read") s.toks) (.type "function") (.builtin "object.__getattribute__") true false) _ _ _
  unfold getAttrByItsOwn hookBefore callGetattribute boundAndCalled
  refine wpAny_bind (wpAny_of_eq (show (if onTheHeap (.type "function") then typeLookup (.type "function") "__getattr__" else pure none) = pure none from rfl) ?_)
  refine wpAny_bind (wpAny_attempt (wpAny_holding ?_))
  show wpAny _ _ (bindSpecial (.builtin "object.__getattribute__") (.ref f) >>= _) _ _ _
  refine wpAny_bind (wpAny_of_eq (slot_function_ga.bind _) ?_)
  refine wpAny_mono (Q := fun v s' => v = .ref rf ∧ s' = { s with toks := s.toks + 1 }) (E := fun _ _ => False)
    (wpAny_call_entry slot_function_ga (hT _) entry_oga ?_ (args_oga _ _)) (fun v s' hv => ?_) fun _ _ z => z.elim
  · unfold Builtin.«object.__getattribute__»
    refine wpAny_bind (wpAny_of_eq (a := (Value.ref f, [Value.str (Str.ofString "read") s.toks])) (by rfl) ?_)
    dsimp only
    refine wpAny_bind (wpAny_of_eq (a := Str.ofString "read") (by rfl) ?_)
    refine wpAny_bind (wpAny_typeOf (hT _) ?_)
    unfold Builtin.ObjectAttr.find
    refine wpAny_bind (wpAny_bind (wpAny_of_eq fn_read ?_))
    refine wpAny_bind (wpAny_of_eq (a := none) (by rfl) ?_)
    refine wpAny_bind (wpAny_of_eq (a := none) (by rfl) ?_)
    dsimp only
    unfold Builtin.ObjectAttr.ownThenClass Builtin.ObjectAttr.inOwnDict Builtin.ObjectAttr.ownDict
    refine wpAny_bind (wpAny_bind (wpAny_bind (wpAny_loadPart ho ?_)))
    dsimp only
    unfold instanceDict
    refine wpAny_bind (wpAny_loadPart ho ?_)
    dsimp only
    refine wpAny_pure ?_
    unfold Builtin.ObjectAttr.inDict
    have hns : s.heap.Ns d (fun y => if y = Str.ofString "read" then some (.ref rf) else none) := by
      refine ⟨_, _, _, hd, rfl, ?_, ?_⟩
      · intro e he
        simp at he
        subst he
        exact ⟨_, _, rfl⟩
      · intro name
        by_cases e : name = Str.ofString "read"
        · subst e; simp [nsFind, findBy, Value.isStr]
        · have e' : ¬ (Str.ofString "read" = name) := fun q => e q.symm
          simp [nsFind, findBy, Value.isStr, e, e']
    refine wpAny_nsGet hns ?_
    simp only [if_true]
    refine wpAny_bind (wpAny_rule (wpAny_pure ?_))
    exact wpAny_pure ⟨_, rfl, rfl, rfl⟩
  · obtain ⟨rfl, rfl⟩ := hv
    exact wpAny_pure h
theorem getFn {f d rf : Addr} {fd : FuncData} {hs : Int} {t : Tok} {pl : Sem Bool} {Q : Value × List Value → Shared → Prop} (ho : s.heap.get? f = some { cls := .type "function", dict := some d, data := .func fd })
    (hd : s.heap.get? d = some { cls := .type "dict", data := .dict #[⟨hs, .str (Str.ofString "read") t, .ref rf⟩] 1 }) (h : Q (.ref rf, []) { s with toks := s.toks + 1 }) :
    wpAny (MW w) A (getMethod (.ref f) (Str.ofString "read") pl) Q E s := by
  have hT : s.TypeIs (.ref f) "function" := ⟨_, ho, rfl⟩
  unfold getMethod
  refine wpAny_bind (wpAny_specialOf hT slot_function_ga.lookup ?_)
  show wpAny _ _ (if (Manifest.canonical "object.__getattribute__" != "object.__getattribute__") = true then _ else _) _ _ _
  rw [canon_oga, if_neg Bool.false_ne_true]
  refine wpAny_bind (wpAny_specialOf hT fn_nohook ?_)
  refine wpAny_bind (wpAny_specialOf hT fn_read ?_)
  exact wpAny_bind (getFnA ho hd (wpAny_pure h))
end
end Mine

open PySem PySem.W PySem.Calls PyProof.Rows
set_option Elab.async false
set_option maxRecDepth 1000000
set_option maxHeartbeats 0
set_option linter.unusedVariables false
namespace Mine
/-- a lexer that stands at place k of its text -/
structure LexAt (P : Params) (h : Heap) (x dx pb : Addr) (a : SA) (text : List Nat) (k : Nat) (ln : Int) : Prop where
  inst : h.get? x = some (instObj 59 dx)
  dict : ∃ t1 t2 t3 t4 tl tw, h.get? dx = some (dictOf (lexD P t1 t2 t3 t4 tl tw ln a.sf pb) 4)
  push : h.PlainList pb #[]
  stream : StreamAt P h a text k
theorem StreamAt.ext {P : Params} {h h' : Heap} {a : SA} {text : List Nat} {k : Nat} (S : StreamAt P h a text k) (e : Ext h h') : StreamAt P h' a text k := by
  obtain ⟨t, l⟩ := S.at_
  exact S.move (XB.of_ext e) (e.list l)
theorem LexAt.ext {P : Params} {h h' : Heap} {x dx pb : Addr} {a : SA} {text : List Nat} {k : Nat} {ln : Int} (L : LexAt P h x dx pb a text k ln) (e : Ext h h') : LexAt P h' x dx pb a text k ln :=
  ⟨e _ _ L.inst, let ⟨t1, t2, t3, t4, tl, tw, q⟩ := L.dict; ⟨t1, t2, t3, t4, tl, tw, e _ _ q⟩, e.plain L.push, L.stream.ext e⟩
noncomputable abbrev lexAs (x dx pb : Addr) (a : SA) : List Addr := [x, dx, pb, a.sf, a.dsf, a.rf, a.pl, a.cp, a.ct, a.cc]
theorem LexAt.known {P : Params} {h : Heap} {x dx pb : Addr} {a : SA} {text : List Nat} {k : Nat} {ln : Int} (L : LexAt P h x dx pb a text k ln) : ∀ b ∈ lexAs x dx pb a, h.get? b ≠ none := by
  intro b hb
  simp only [lexAs, List.mem_cons, List.not_mem_nil, or_false] at hb
  rcases hb with rfl | rfl | rfl | rfl | rfl | rfl | rfl | rfl | rfl | rfl
  · rw [L.inst]; simp
  · obtain ⟨_, _, _, _, _, _, q⟩ := L.dict; rw [q]; simp
  · obtain ⟨_, q⟩ := L.push; rw [q]; simp
  · obtain ⟨_, q⟩ := L.stream.fn; rw [q]; simp
  · obtain ⟨_, q⟩ := L.stream.dict; rw [q]; simp
  · obtain ⟨_, _, _, q, _⟩ := L.stream.read; rw [q]; simp
  · obtain ⟨_, _, q, _⟩ := L.stream.at_; rw [q]; simp
  · obtain ⟨_, q, _⟩ := L.stream.place; rw [q]; simp
  · obtain ⟨_, _, q, _⟩ := L.stream.text; rw [q]; simp
  · obtain ⟨_, _, _, _, c, o, vs, t, e, q, _⟩ := L.stream.read; cases e; rw [q]; simp
theorem LexAt.xb {P : Params} {h h' : Heap} {x dx pb : Addr} {a : SA} {text : List Nat} {k : Nat} {ln : Int} {bs : List Addr} (L : LexAt P h x dx pb a text k ln) (e : XB bs h h') (hb : ∀ b ∈ lexAs x dx pb a, b ∉ bs) : LexAt P h' x dx pb a text k ln := by
  have m : ∀ b, b ∈ lexAs x dx pb a → b ∉ bs := hb
  refine ⟨e _ _ (m _ (by simp [lexAs])) L.inst, ?_, ?_, ⟨?_, ?_, ?_, ?_, ?_, ?_⟩⟩
  · obtain ⟨t1, t2, t3, t4, tl, tw, q⟩ := L.dict
    exact ⟨t1, t2, t3, t4, tl, tw, e _ _ (m _ (by simp [lexAs])) q⟩
  · exact plain_xb L.push e (m _ (by simp [lexAs]))
  · obtain ⟨fd, q⟩ := L.stream.fn; exact ⟨fd, e _ _ (m _ (by simp [lexAs])) q⟩
  · obtain ⟨fd, q⟩ := L.stream.dict; exact ⟨fd, e _ _ (m _ (by simp [lexAs])) q⟩
  · obtain ⟨doc, pm, ctv, q, r⟩ := L.stream.read; exact ⟨doc, pm, ctv, e _ _ (m _ (by simp [lexAs])) q, codeRec_xb r e (m _ (by simp [lexAs]))⟩
  · exact is_cell_xb L.stream.place e (m _ (by simp [lexAs]))
  · obtain ⟨t, q⟩ := L.stream.text; exact ⟨t, is_cell_xb q e (m _ (by simp [lexAs]))⟩
  · obtain ⟨t, q⟩ := L.stream.at_; exact ⟨t, list_xb q e (m _ (by simp [lexAs]))⟩
theorem LexAt.read {P : Params} {h h' : Heap} {x dx pb : Addr} {a : SA} {text : List Nat} {k : Nat} {ln : Int} (L : LexAt P h x dx pb a text k ln) (S : StreamAt P h' a text (k + 1)) (e : XB [a.pl] h h') : LexAt P h' x dx pb a text (k + 1) ln := by
  obtain ⟨tp, o, ho, hc, n, hd⟩ := L.stream.at_
  have ne : ∀ {b : Addr} {q : Obj}, h.get? b = some q → (∀ m, q.data ≠ .seq #[.int (k : Int) tp] m) → b ≠ a.pl := by
    intro b q e hq e'
    rw [e', ho] at e; cases e
    exact hq n hd
  refine ⟨e _ _ (nin1 (ne L.inst (by intro m q; cases q))) L.inst, ?_, ?_, S⟩
  · obtain ⟨t1, t2, t3, t4, tl, tw, q⟩ := L.dict
    exact ⟨t1, t2, t3, t4, tl, tw, e _ _ (nin1 (ne q (by intro m q; cases q))) q⟩
  · obtain ⟨m, q⟩ := L.push
    exact ⟨m, e _ _ (nin1 (ne q (by intro m' q'; cases q'))) q⟩
theorem LexAt.line {P : Params} {h h' : Heap} {x dx pb : Addr} {a : SA} {text : List Nat} {k : Nat} {ln ln' : Int} {t1 t2 t3 t4 tl tw : Tok} (L : LexAt P h x dx pb a text k ln) (e : XB [dx] h h') (hd : h'.get? dx = some (dictOf (lexD P t1 t2 t3 t4 tl tw ln' a.sf pb) 4)) : LexAt P h' x dx pb a text k ln' := by
  obtain ⟨s1, s2, s3, s4, sl, sw, q⟩ := L.dict
  have ne : ∀ {b : Addr} {o : Obj}, h.get? b = some o → (∀ m, o.data ≠ .dict (lexD P s1 s2 s3 s4 sl sw ln a.sf pb).toArray m) → b ≠ dx := by
    intro b o e' hq e''
    rw [e'', q] at e'; cases e'
    exact hq 4 rfl
  have nd : a.dsf ≠ dx := by
    intro e'
    obtain ⟨t, q'⟩ := L.stream.dict
    rw [e', q] at q'
    have := congrArg (fun o : Option Obj => match o with | some ⟨_, _, .dict es _, _⟩ => es.size | _ => 0) q'
    revert this; show (4 : Nat) = 1 → False; decide
  refine ⟨e _ _ (nin1 (ne L.inst (by intro m q; cases q))) L.inst, ⟨_, _, _, _, _, _, hd⟩, ?_, ⟨?_, ?_, ?_, ?_, ?_, ?_⟩⟩
  · obtain ⟨m, q⟩ := L.push
    exact ⟨m, e _ _ (nin1 (ne q (by intro m' q'; cases q'))) q⟩
  · obtain ⟨fd, q⟩ := L.stream.fn; exact ⟨fd, e _ _ (nin1 (ne q (by intro m' q'; cases q'))) q⟩
  · obtain ⟨t, q⟩ := L.stream.dict; exact ⟨t, e _ _ (nin1 nd) q⟩
  · obtain ⟨doc, pm, ctv, q, r⟩ := L.stream.read
    refine ⟨doc, pm, ctv, e _ _ (nin1 (ne q (by intro m' q'; cases q'))) q, codeRec_xb r e (nin1 ?_)⟩
    obtain ⟨c, o, vs, t, e1, q1, q2, _⟩ := r
    cases e1
    exact ne q1 (by intro m' q'; rw [q2] at q'; cases q')
  · obtain ⟨o, q, d⟩ := L.stream.place; exact ⟨o, e _ _ (nin1 (ne q (by intro m' q'; rw [d] at q'; cases q'))) q, d⟩
  · obtain ⟨t, o, q, d⟩ := L.stream.text; exact ⟨t, o, e _ _ (nin1 (ne q (by intro m' q'; rw [d] at q'; cases q'))) q, d⟩
  · obtain ⟨t, o, q, c, n, d⟩ := L.stream.at_; exact ⟨t, o, e _ _ (nin1 (ne q (by intro m' q'; rw [d] at q'; cases q'))) q, c, n, d⟩
section
variable {w : World} {s : Shared} {A : Around} {Q E : Value → Shared → Prop} {env : Env}
theorem con_rc {R : Result → Shared → Prop} {g : Heap} {x dx pb : Addr} {a : SA} {text : List Nat} {k : Nat} {ln : Int} (Gg : Gd w g) (eg : Ext g s.heap) (hgd : g.get? dx = none) (hgp : g.get? a.pl = none)
    (hL : LexAt w.params s.heap x dx pb a text k ln) (hr : A.depth + 2 < recursionLimit) (hl : text.length ≤ 1000000)
    (h : ∀ h' tk' u, LexAt w.params h' x dx pb a text (k + 1) (ln + if sgn text k = [10] then 1 else 0) → XB [dx, a.pl] s.heap h' → R (.ok (.ret (.str (str (sgn text k)) u))) { s with heap := h', toks := tk' }) :
    codeAny (MW w) A (.call (.ref 42) ⟨[.ref x], []⟩) R s := by
  have G := Gg.keeps eg
  refine code_meth (fd := fd__netrclex_uread_char) (name := Str.ofString "_read_char") (qual := Str.ofString "_netrclex._read_char") (binds := [(Str.ofString "self", .ref x)]) G (by omega) (o := o42 w.params) (by kernel_rfl) rfl (by kernel_rfl) (by kernel_rfl) (by kernel_rfl) (by kernel_rfl) (by kernel_rfl) (by kernel_rfl) (by kernel_rfl) (fun h₁ Fm G1 => ?_)
  conv in (sBody _) => whnf
  have e1 : Ext s.heap h₁ := Fm.keep
  have n1 := Fm.ns
  have fr0 : s.heap.get? s.heap.objs.size = none := none_of_size
  have L1 := hL.ext e1
  obtain ⟨t1, t2, t3, t4, tl, tw, hd1⟩ := L1.dict
  obtain ⟨fd, hf1⟩ := L1.stream.fn
  obtain ⟨td, hdd1⟩ := L1.stream.dict
  refine wpAny_execs_cons ?_
  refine wpAny_Assign_Name ?_
  refine MethodCall_ ?_ (by rfl)
  refine Attribute_name ?_
  refine ldN n1 rfl rfl rfl rfl ?_
  refine getInst G1 L1.inst hd1 (lx_f2 _) (by rfl) (by rfl) ?_
  refine getFn hf1 hdd1 ?_
  dsimp only
  have fnAt : FnAt a.rf h₁ := by obtain ⟨doc, pm, ctv, e, _⟩ := L1.stream.read; exact ⟨_, _, _, _, e⟩
  refine callWith_F fnAt ?_
  refine args_cons ?_
  refine wpAny_Constant_int ?_
  refine args_nil ⟨fnAt, ?_⟩
  refine wpAny_call (con_rd G1 (by show A.depth + 1 < _; omega) L1.stream hl ?_)
  intro h2 tk2 u S2 x2
  dsimp only at *
  have frL : ∀ b ∈ lexAs x dx pb a, b ≠ s.heap.objs.size := fun b hb e => hL.known b hb (by rw [e]; exact fr0)
  have L2 := L1.read S2 x2
  have plL : a.pl ≠ s.heap.objs.size := frL _ (by simp [lexAs])
  have n2 := ns_xb n1 x2 (nin1 (Ne.symm plL))
  have X2 : XB [dx, a.pl] s.heap h2 := (XB.of_ext e1).trans (x2.in (.tail _ (.head _)))
  refine stN n2 ?_
  intro h3 n3 x3
  dsimp only at *
  have L3 := L2.xb x3 (fun b hb => nin1 (frL b hb))
  have gone : ∀ c ∈ [dx, a.pl], g.get? c = none := by
    intro c hc
    rcases List.mem_cons.mp hc with rfl | hc
    · exact hgd
    · rw [List.mem_singleton.mp hc]; exact hgp
  have X3 : XB [dx, a.pl] s.heap h3 := fun b o nb e => x3 b o (fun m => by rw [List.mem_singleton.mp m, fr0] at e; cases e) (X2 b o nb e)
  have G3 : Gd w h3 := Gg.keeps (eg.xb X3 gone)
  refine wpAny_execs_cons ?_
  refine wpAny_If ?_
  refine wpAny_isTrue_Compare1 ?_
  refine ldN n3 rfl rfl rfl rfl ?_
  refine wpAny_Constant_str ?_
  refine eq_str ?_
  refine wpAny_truthy_bool ?_
  have enl : (str (sgn text k) == Str.ofString "\n") = decide (sgn text k = [10]) := str_eq _ [10]
  rw [enl]
  by_cases hc : sgn text k = [10]
  · rw [decide_eq_true hc]
    refine wpAny_execs_cons ?_
    refine wpAny_AugAssign_AttributeAny ?_
    obtain ⟨t1, t2, t3, t4, tl, tw, hd3⟩ := L3.dict
    refine ldN n3 rfl rfl rfl rfl ?_
    refine getInst G3 L3.inst hd3 (lx_f1 _) (by rfl) (by rfl) ?_
    refine wpAny_Constant_int ?_
    refine iadd_int ?_
    refine setInst G3 L3.inst hd3 (lx_t1 _) (by rfl) (by show 4 ≤ 1000; decide) ?_
    intro h4 hd4 x4
    dsimp only at *
    have hd4' : h4.get? dx = some (dictOf (lexD w.params t1 t2 t3 t4 _ tw (ln + 1) a.sf pb) 4) := hd4
    have L4 := L3.line x4 hd4'
    refine wpAny_execs_nil ?_
    try dsimp only
    have dL : dx ≠ s.heap.objs.size := frL _ (by simp [lexAs])
    refine wpAny_execs_cons ?_
    refine wpAny_Return_some ?_
    refine ldN (ns_xb n3 x4 (nin1 (Ne.symm dL))) rfl rfl rfl rfl ?_
    refine h h4 _ _ ?_ (X3.trans (x4.in (.head _)))
    rw [if_pos hc]
    exact L4
  · rw [decide_eq_false hc]
    refine wpAny_execs_nil ?_
    try dsimp only
    refine wpAny_execs_cons ?_
    refine wpAny_Return_some ?_
    refine ldN n3 rfl rfl rfl rfl ?_
    refine h h3 _ _ ?_ X3
    rw [if_neg hc, Int.add_zero]
    exact L3
end
end Mine

open PySem PySem.W PySem.Calls PyProof.Rows
set_option Elab.async false
set_option maxRecDepth 1000000
set_option maxHeartbeats 0
set_option linter.unusedVariables false
namespace Mine
theorem slot_ci_iter : Slot "callable_iterator" "__iter__" "callable_iterator.__iter__" :=
  .of (owner := "callable_iterator") (n := "__iter__") (by rw [typeLookup_type, builtinLookup_eq_fast]; kernel_rfl) (by decide +kernel) (by decide +kernel) (by decide +kernel)
    (by first | exact .inl (by decide +kernel) | exact .inr (by decide +kernel)) (by rw [isSubtype_type]; kernel_rfl)
theorem slot_ci_next : Slot "callable_iterator" "__next__" "callable_iterator.__next__" :=
  .of (owner := "callable_iterator") (n := "__next__") (by rw [typeLookup_type, builtinLookup_eq_fast]; kernel_rfl) (by decide +kernel) (by decide +kernel) (by decide +kernel)
    (by first | exact .inl (by decide +kernel) | exact .inr (by decide +kernel)) (by rw [isSubtype_type]; kernel_rfl)
theorem entry_ci_next : entryFor table "callable_iterator.__next__" = some Builtin.«callable_iterator.__next__» := entryFor_of_tree (by kernel_rfl)
theorem args_ci_next (a : Value) : argsOk "callable_iterator.__next__" ⟨[a], []⟩ := by unfold argsOk; kernel_rfl
theorem args_ci_iter (a : Value) : argsOk "callable_iterator.__iter__" ⟨[a], []⟩ := by unfold argsOk; kernel_rfl
theorem args_iter2 (a b : Value) : argsOk "iter" ⟨[a, b], []⟩ := by unfold argsOk; kernel_rfl
theorem lx_get (P : Params) : specialIn (KF P) (.ref 42) "__get__" = some (some (.builtin "function.__get__")) := by kernel_rfl
theorem lx_takes (P : Params) : takesIn (KF P) (.ref 42) = some false := by kernel_rfl
theorem entry_ci_iter : entryFor table "callable_iterator.__iter__" = some Builtin.«dict_keyiterator.__iter__» :=
  entryFor_alias (id' := "dict_keyiterator.__iter__") (by kernel_rfl) rfl (by decide +kernel) (by kernel_rfl)
theorem slot_meth_call : Slot "method" "__call__" "method.__call__" :=
  .of (owner := "method") (n := "__call__") (by rw [typeLookup_type, builtinLookup_eq_fast]; kernel_rfl) (by decide +kernel) (by decide +kernel) (by decide +kernel)
    (by first | exact .inl (by decide +kernel) | exact .inr (by decide +kernel)) (by rw [isSubtype_type]; kernel_rfl)
theorem borrowed_eq (f : Value) (pos : List Value) : callBorrowed f pos = (call f pos).keep [borrowed] := by
  unfold callBorrowed call runValue run
  show Sem.call _ none false [borrowed] _ = Sem.call _ none false ([borrowed] ++ []) _
  congr 1
  funext r
  rcases r with e | (v | _ | _ | _) <;> rfl
/-- iter(f, ''): not yet ended -/
noncomputable def IsCI (h : Heap) (I q : Addr) : Prop := ∃ t, h.get? I = some { cls := .type "callable_iterator", data := .fields #[.ref q, .str (str []) t, .bool false] }
theorem IsCI.xb {bs : List Addr} {h h' : Heap} {I q : Addr} (x : IsCI h I q) (e : XB bs h h') (hb : I ∉ bs) : IsCI h' I q := let ⟨t, a⟩ := x; ⟨t, e _ _ hb a⟩
section
variable {w : World} {s : Shared} {A : Around} {Q E : Value → Shared → Prop} {env : Env}
theorem getBound {x dx : Addr} {es : List DictEntry} {n : Nat} {expr : Bool} (G : Gd w s.heap) (hx : s.heap.get? x = some (instObj 59 dx)) (hd : s.heap.get? dx = some (dictOf es n)) (hl : getL (Str.ofString "_read_char") es = some none)
    (h : ∀ q h', h'.get? q = some (methodObj (.ref 42) (.ref x)) → s.heap.get? q = none → Ext s.heap h' → Q (.ref q) { s with heap := h', toks := s.toks + 1 }) :
    wpAny (MW w) A (getAttr (.ref x) (Str.ofString "_read_char") expr) Q E s := by
  have I : PySem.W.InstAt s.heap x (instObj 59 dx) 59 (some (dictOf es n)) := ⟨hx, rfl, rfl, hd⟩
  have hg := plainGet_of (lx_g1 w.params)
  refine get_bind G.k I hg.1 (findObj_fn (lx_has _) (lx_m1 _) (lx_get _) (lx_takes _) (by decide +kernel) (by show lookIn _ (dictOf es n) = _; rw [lookIn_dict, hl])) hg.2 ?_
  refine wpAny_call (fn_get (s := { s with toks := s.toks + 1 }) G.k (lx_fn42 _) ?_)
  exact handed_on rfl (h _ _ (Heap.get?_push_size _ rfl) none_of_size (Ext.push _))
theorem iter2 {q f : Addr} {t : Tok} {self : Value} (hq : s.heap.get? q = some (methodObj (.ref f) self))
    (h : ∀ I h', IsCI h' I q → s.heap.get? I = none → Ext s.heap h' → Q (.ref I) { s with heap := h' }) : wpAny (MW w) A (call (.builtin "iter") [.ref q, .str (str []) t]) Q E s := by
  refine call_function_entry (by decide +kernel) (by decide +kernel) kdk_entry_iter (args_iter2 _ _) ?_
  unfold Builtin.«iter»
  refine wpAny_bind (m := someArgs "iter" 1 2 _) (wpAny_of_eq (a := [Value.ref q, .str (str []) t]) (by first | rfl | kernel_rfl!) ?_)
  dsimp only
  refine wpAny_bind (wpAny_specialOf (T := "method") ⟨_, hq, rfl⟩ slot_meth_call.lookup ?_)
  rw [if_neg (by simp)]
  refine wpAny_bind (wpAny_rule ?_)
  refine wpAny_bind (wpAny_newObj_type ?_ (by size_fits))
  exact wpAny_pure ⟨_, rfl, h _ _ ⟨t, Heap.get?_push_size _ rfl⟩ none_of_size (Ext.push _)⟩
end
end Mine

open PySem PySem.W PySem.Calls PyProof.Rows
set_option Elab.async false
set_option maxRecDepth 1000000
set_option maxHeartbeats 0
set_option linter.unusedVariables false
namespace Mine
section
variable {w : World} {s : Shared} {A : Around} {Q E : Value → Shared → Prop} {env : Env}
theorem pyIterCI {I q : Addr} (hI : IsCI s.heap I q) (h : Q (.ref I) s) : wpAny (MW w) A (pyIter (.ref I)) Q E s := by
  obtain ⟨t, hi⟩ := hI
  have hT : s.TypeIs (.ref I) "callable_iterator" := ⟨_, hi, rfl⟩
  refine wpAny_pyIter_slot hT slot_ci_iter (wpAny_call_entry slot_ci_iter hT entry_ci_iter ?_ (args_ci_iter _))
  show wpAny _ _ (ret (.ref I)) _ _ s
  exact wpAny_pure ⟨_, rfl, "callable_iterator", _, hT, slot_ci_next.lookup, h⟩
theorem nextCI {g : Heap} {x dx pb I q : Addr} {a : SA} {text : List Nat} {k : Nat} {ln : Int} {Q : Option Value → Shared → Prop} (Gg : Gd w g) (eg : Ext g s.heap) (hgd : g.get? dx = none) (hgp : g.get? a.pl = none)
    (hL : LexAt w.params s.heap x dx pb a text k ln) (hI : IsCI s.heap I q) (hq : s.heap.get? q = some (methodObj (.ref 42) (.ref x))) (hIn : I ∉ lexAs x dx pb a) (hqn : q ∉ lexAs x dx pb a) (hA : A.handled = none) (hr : A.depth + 2 < recursionLimit) (hl : text.length ≤ 1000000)
    (h1 : sgn text k ≠ [] → ∀ h' tk' u, LexAt w.params h' x dx pb a text (k + 1) (ln + if sgn text k = [10] then 1 else 0) → XB [dx, a.pl] s.heap h' → Q (some (.str (str (sgn text k)) u)) { s with heap := h', toks := tk' })
    (h0 : sgn text k = [] → ∀ h' tk', LexAt w.params h' x dx pb a text (k + 1) ln → XB [dx, a.pl, I] s.heap h' → Q none { s with heap := h', toks := tk' }) :
    wpAny (MW w) A (pyNext (.ref I)) Q E s := by
  obtain ⟨t, hi⟩ := id hI
  have hT : s.TypeIs (.ref I) "callable_iterator" := ⟨_, hi, rfl⟩
  unfold pyNext
  refine wpAny_bind (wpAny_attempt (wpAny_callSpecial?_slot (name := Str.ofString "__next__") hT slot_ci_next (wpAny_call_entry slot_ci_next hT entry_ci_next ?_ (args_ci_next _))))
  unfold Builtin.«callable_iterator.__next__»
  refine wpAny_bind (wpAny_of_eq (a := (Value.ref I, [])) (by rfl) ?_)
  dsimp only
  refine wpAny_bind (wpAny_field hi rfl (x := .bool false) rfl ?_)
  rw [if_neg (by decide)]
  refine wpAny_bind (wpAny_field hi rfl (x := .ref q) rfl ?_)
  have G := Gg.keeps eg
  have ho42 := look_fn G (a := 42) (o := o42 w.params) (by kernel_rfl)
  have hb : ∀ (Q' : Bool → Shared → Prop) (E' : Value → Shared → Prop) (A' : Around), Q' true s → wpAny (MW w) A' (borrowsExactly (.ref q)) Q' E' s := by
    intro Q' E' A' hq'
    unfold borrowsExactly
    refine wpAny_bind (wpAny_load hq ?_)
    dsimp only
    rw [if_pos (by decide)]
    show wpAny _ _ (do match (← load 42).data with | .func _ => pure true | _ => pure false) _ _ _
    exact wpAny_bind (wpAny_load ho42 (wpAny_pure hq'))
  refine wpAny_bind (wpAny_attempt ?_)
  unfold callOutOfASlot
  refine wpAny_bind (hb _ _ _ ?_)
  rw [if_pos rfl, borrowed_eq]
  refine Calls.wpAny_keep ?_
  refine wpAny_call (method_call hq ?_)
  refine con_rc Gg eg hgd hgp hL ?_ hl ?_
  · exact hr
  intro h' tk' u L' x'
  dsimp only
  have sub : ∀ b ∈ [dx, a.pl], b ∈ lexAs x dx pb a := by
    intro b hb
    rcases List.mem_cons.mp hb with rfl | hb
    · simp [lexAs]
    · rw [List.mem_singleton.mp hb]; simp [lexAs]
  have IL : I ∉ [dx, a.pl] := fun m => hIn (sub _ m)
  have hi' := x' _ _ IL hi
  refine wpAny_bind (wpAny_field hi' rfl (x := .bool false) rfl ?_)
  rw [if_neg (by decide)]
  refine wpAny_bind (wpAny_field hi' rfl (x := .str (str []) t) rfl ?_)
  refine wpAny_bind (wpAny_holding (eqBool_str ?_))
  have eb : (str [] == str (sgn text k)) = decide ([] = sgn text k) := str_eq [] _
  rw [eb]
  by_cases hc : sgn text k = []
  · rw [hc, decide_eq_true rfl, if_neg (by decide)]
    refine wpAny_bind (wpAny_rule ?_)
    have L0 : LexAt w.params h' x dx pb a text (k + 1) ln := by
      have := L'
      rw [if_neg (by rw [hc]; decide), Int.add_zero] at this
      exact this
    have hq' : h'.get? q = some (methodObj (.ref 42) (.ref x)) := x' _ _ (fun m => hqn (sub _ m)) hq
    have gone : ∀ c ∈ [dx, a.pl], g.get? c = none := by
      intro c hc
      rcases List.mem_cons.mp hc with rfl | hc
      · exact hgd
      · rw [List.mem_singleton.mp hc]; exact hgp
    have ho42' := look_fn (Gg.keeps (eg.xb x' gone)) (a := 42) (o := o42 w.params) (by kernel_rfl)
    refine wpAny_bind ?_
    show wpAny _ _ (field (.ref I) 0 >>= _) _ _ _
    refine wpAny_bind (wpAny_field hi' rfl (x := .ref q) rfl ?_)
    refine wpAny_bind ?_
    unfold slotLetsGo
    dsimp only
    refine wpAny_bind ?_
    unfold borrowsExactly
    refine wpAny_bind (wpAny_load hq' ?_)
    dsimp only
    rw [if_pos (by decide)]
    show wpAny _ _ (do match (← load 42).data with | .func _ => pure true | _ => pure false) _ _ _
    refine wpAny_bind (wpAny_load ho42' (wpAny_pure ?_))
    rw [if_pos rfl]
    refine wpAny_pure ?_
    refine wpAny_bind (wpAny_setField_rec hi' (by simp) ?_)
    intro h2 hi2 sb2
    refine wpAny_bind (wpAny_setField_rec hi2 (by simp) ?_)
    intro h3 hi3 sb3
    refine wpAny_setField_rec hi3 (by simp) ?_
    intro h4 hi4 sb4
    dsimp only at *
    have x4 : XB [I] h' h4 := ((XB.same sb2).trans (XB.same sb3)).trans (XB.same sb4)
    show wpAny _ _ (newExc (.type "StopIteration") [] >>= _) _ _ _
    refine wpAny_bind ?_
    simp only [newExc, newTuple]
    refine wpAny_bind (wpAny_newObj_type ?_ (by size_fits))
    refine wpAny_bind (m := firstArgMember _ _) (wpAny_of_eq (a := Value.none) (by first | rfl | (simp only [firstArgMember]; rfl)) ?_)
    refine wpAny_newObj_type ?_ (by size_fits)
    simp only [raiseNew]
    refine wpAny_bind (wpAny_handled ?_)
    rw [show A.in1.handled = none from hA]
    refine wpAny_bind (wpAny_pure (wpAny_throw ?_))
    refine wpAny_bind (wpAny_isInstance (T := "StopIteration") (b := true) ⟨_, Heap.get?_push_size _ rfl, rfl⟩ isSubtype_stop ?_)
    refine wpAny_pure ?_
    have L4 := L0.xb x4 (fun b hb => nin1 (fun e => hIn (e ▸ hb)))
    have X4 : XB [dx, a.pl, I] s.heap h4 := (x'.mono (by simp)).trans (x4.in (by simp))
    exact h0 hc _ _ (L4.ext ((Ext.push _).trans (Ext.push _))) (X4.trans (XB.of_ext ((Ext.push _).trans (Ext.push _))))
  · rw [decide_eq_false (fun e => hc e.symm), if_pos (by decide)]
    exact wpAny_pure ⟨_, rfl, wpAny_pure (h1 hc h' tk' u L' x')⟩
end
end Mine

open PySem PySem.W PySem.Calls PyProof.Rows
set_option Elab.async false
set_option maxRecDepth 1000000
set_option maxHeartbeats 0
set_option linter.unusedVariables false
namespace Mine
noncomputable def wsL : List Nat := [10, 9, 13, 32]
noncomputable def qtok : List Nat → List Nat → Option (List Nat × List Nat)
  | [], _ => none
  | c :: r, acc => if c = 34 then some (acc, r) else if c = 92 then (match r with | [] => none | c' :: r' => qtok r' (acc ++ [c'])) else qtok r (acc ++ [c])
noncomputable def btok : List Nat → List Nat → Option (List Nat × List Nat)
  | [], _ => none
  | c :: r, acc => if c ∈ wsL then some (acc, r) else if c = 92 then (match r with | [] => none | c' :: r' => btok r' (acc ++ [c'])) else btok r (acc ++ [c])
/-- one token of a text, and what is left of it -/
noncomputable def gtok : List Nat → Option (List Nat × List Nat)
  | [] => some ([], [])
  | c :: r => if c ∈ wsL then gtok r else if c = 34 then qtok r [] else if c = 92 then (match r with | [] => none | c' :: r' => btok r' [c']) else btok r [c]
noncomputable abbrev envG (L : Addr) : Env := envOf (Str.ofString "_netrclex.get_token") (sScope fd__netrclex_get_token) L 49 (.ref 48)
/-- where get_token stands -/
structure GT (w : World) (hb h : Heap) (L x dx pb I q : Addr) (a : SA) (text : List Nat) (k : Nat) (ln : Int) (m : Str → Option Value) (tokn : List Nat) : Prop where
  lex : LexAt w.params h x dx pb a text k ln
  ci : IsCI h I q
  me : h.get? q = some (methodObj (.ref 42) (.ref x))
  ns : h.Ns L m
  self : m (Str.ofString "self") = some (.ref x)
  tok : ∃ t, m (Str.ofString "token") = some (.str (str tokn) t)
  fit : m (Str.ofString "fiter") = some (.ref I)
  xb : XB [L, dx, a.pl] hb h
/-- what stays all along -/
structure GC (w : World) (g hb : Heap) (L x dx pb I q : Addr) (a : SA) (text : List Nat) : Prop where
  gd : Gd w g
  eg : Ext g hb
  gdx : g.get? dx = none
  gpl : g.get? a.pl = none
  gL : g.get? L = none
  hIn : I ∉ lexAs x dx pb a
  hqn : q ∉ lexAs x dx pb a
  hLn : L ∉ lexAs x dx pb a
  hIL : I ≠ L
  hqL : q ≠ L
  len : text.length ≤ 1000000
section
variable {w : World} {s : Shared} {A : Around} {Q E : Value → Shared → Prop} {g hb : Heap} {L x dx pb I q : Addr} {a : SA} {text : List Nat} {k : Nat} {ln : Int} {m : Str → Option Value} {tokn : List Nat}
theorem GC.gdh (C : GC w g hb L x dx pb I q a text) {h : Heap} (X : XB [L, dx, a.pl] hb h) : Gd w h := C.gd.keeps (C.eg.xb X (by
  intro c hc
  rcases List.mem_cons.mp hc with rfl | hc
  · exact C.gL
  rcases List.mem_cons.mp hc with rfl | hc
  · exact C.gdx
  · rw [List.mem_singleton.mp hc]; exact C.gpl))
theorem GC.egh (C : GC w g hb L x dx pb I q a text) {h : Heap} (X : XB [L, dx, a.pl] hb h) : Ext g h := C.eg.xb X (by
  intro c hc
  rcases List.mem_cons.mp hc with rfl | hc
  · exact C.gL
  rcases List.mem_cons.mp hc with rfl | hc
  · exact C.gdx
  · rw [List.mem_singleton.mp hc]; exact C.gpl)
theorem GT.read {h h' : Heap} {k' : Nat} {ln' : Int} (C : GC w g hb L x dx pb I q a text) (T : GT w hb h L x dx pb I q a text k ln m tokn) (l : LexAt w.params h' x dx pb a text k' ln') (e : XB [dx, a.pl] h h') : GT w hb h' L x dx pb I q a text k' ln' m tokn := by
  have sub : ∀ b ∈ [dx, a.pl], b ∈ lexAs x dx pb a := by
    intro b hb
    rcases List.mem_cons.mp hb with rfl | hb
    · simp [lexAs]
    · rw [List.mem_singleton.mp hb]; simp [lexAs]
  exact ⟨l, T.ci.xb e (fun m => C.hIn (sub _ m)), e _ _ (fun m => C.hqn (sub _ m)) T.me, ns_xb T.ns e (fun m => C.hLn (sub _ m)), T.self, T.tok, T.fit, T.xb.trans (e.mono (by simp))⟩
theorem GT.store {h h' : Heap} {m' : Str → Option Value} {tokn' : List Nat} (C : GC w g hb L x dx pb I q a text) (T : GT w hb h L x dx pb I q a text k ln m tokn) (n : h'.Ns L m') (e : XB [L] h h')
    (h1 : m' (Str.ofString "self") = some (.ref x)) (h2 : ∃ t, m' (Str.ofString "token") = some (.str (str tokn') t)) (h3 : m' (Str.ofString "fiter") = some (.ref I)) : GT w hb h' L x dx pb I q a text k ln m' tokn' :=
  ⟨T.lex.xb e (fun b hb => nin1 (fun e => C.hLn (e ▸ hb))), T.ci.xb e (nin1 C.hIL), e _ _ (nin1 C.hqL) T.me, n, h1, h2, h3, T.xb.trans (e.mono (by simp))⟩
/-- self._read_char() -/
theorem rcCall {p1 p2 p3 : Pos} {pl : Sem Bool} {Q : Value → Shared → Prop} (C : GC w g hb L x dx pb I q a text) (T : GT w hb s.heap L x dx pb I q a text k ln m tokn) (hr : A.depth + 2 < recursionLimit)
    (h : ∀ h' tk' u, GT w hb h' L x dx pb I q a text (k + 1) (ln + if sgn text k = [10] then 1 else 0) m tokn → Q (.str (str (sgn text k)) u) { s with heap := h', toks := tk' })
    (he : eval (.Call (.Attribute (.Name (Str.ofString "self") p1) (Str.ofString "_read_char") p2) [] [] p3) (envG L) = (do
      let ov ← eval (.Name (Str.ofString "self") p1) (envG L)
      standAt p2.atName
      let (f, first) ← holding [ov] (getMethod ov (Str.ofString "_read_char") pl)
      callWith p3 f first (backTo p3 (starEach [] (envG L))) [])) :
    wpAny (MW w) A (eval (.Call (.Attribute (.Name (Str.ofString "self") p1) (Str.ofString "_read_char") p2) [] [] p3) (envG L)) Q E s := by
  have G := C.gdh T.xb
  refine MethodCall_ ?_ he
  refine ldN T.ns T.self rfl rfl rfl ?_
  obtain ⟨t1, t2, t3, t4, tl, tw, hd⟩ := T.lex.dict
  have I' : PySem.W.InstAt s.heap x (instObj 59 dx) 59 (some (dictOf (lexD w.params t1 t2 t3 t4 tl tw ln a.sf pb) 4)) := ⟨T.lex.inst, rfl, rfl, hd⟩
  have hg := plainGet_of (lx_g1 w.params)
  refine method_fn G.k I' hg.1 hg.2 (lx_m1 _) (lx_fn42 _) (by rfl) ?_
  dsimp only
  refine callWith_K0 G.k (by kernel_rfl) ?_
  refine wpAny_call (con_rc C.gd (C.egh T.xb) C.gdx C.gpl T.lex hr C.len ?_)
  intro h' tk' u L' x'
  exact h h' tk' u (T.read C L' x')
theorem sgn_of {t : List Nat} {k c : Nat} {r : List Nat} (h : t.drop k = c :: r) : sgn t k = [c] ∧ t.drop (k + 1) = r := by
  refine ⟨by unfold sgn; rw [h]; rfl, ?_⟩
  have := congrArg (List.drop 1) h
  rw [List.drop_drop] at this
  simpa using this
theorem cnt10 (c : Nat) (r : List Nat) (ln C : Int) (h : ln + ((c :: r).count 10 : Nat) = C) : (ln + if ([c] : List Nat) = [10] then 1 else 0) + (r.count 10 : Nat) = C := by
  rw [List.count_cons] at h
  by_cases hc : c = 10
  · subst hc; simp at h ⊢; omega
  · have : ¬ ([c] : List Nat) = [10] := by simpa using hc
    rw [if_neg this]
    have h2 : (c == 10) = false := by simpa using hc
    rw [h2] at h; simp at h ⊢; omega
/-- if ch == '\\': ch = self._read_char(); then token += ch -/
theorem escTail {p1 p2 p3 p4 p5 p6 p7 p8 p9 q1 q2 q3 : Pos} {kk : Nat} {pl : Sem Bool} {QF : Flow → Shared → Prop} {c : Nat} {tc : Tok} {rs : List Stmt} (C : GC w g hb L x dx pb I q a text) (T : GT w hb s.heap L x dx pb I q a text k ln m tokn) (hr : A.depth + 2 < recursionLimit) (htk : tokn.length ≤ 1000000)
    (hm : m (Str.ofString "ch") = some (.str (str [c]) tc))
    (h : ∀ h' tk' m' c' k' ln', (c ≠ 92 → c' = [c] ∧ k' = k ∧ ln' = ln) → (c = 92 → c' = sgn text k ∧ k' = k + 1 ∧ ln' = ln + if sgn text k = [10] then 1 else 0) → GT w hb h' L x dx pb I q a text k' ln' m' (tokn ++ c') → wpAny (MW w) A (execs rs (envG L)) QF E { s with heap := h', toks := tk' })
    (he : eval (.Call (.Attribute (.Name (Str.ofString "self") p5) (Str.ofString "_read_char") p6) [] [] p7) (envG L) = (do
      let ov ← eval (.Name (Str.ofString "self") p5) (envG L)
      standAt p6.atName
      let (f, first) ← holding [ov] (getMethod ov (Str.ofString "_read_char") pl)
      callWith p7 f first (backTo p7 (starEach [] (envG L))) [])) :
    wpAny (MW w) A (exec (.If (.Compare (.Name (Str.ofString "ch") p1) [.Eq] [.Constant (.str (Str.ofString "\\")) kk p2] p3) [.Assign [.Name (Str.ofString "ch") p4] (.Call (.Attribute (.Name (Str.ofString "self") p5) (Str.ofString "_read_char") p6) [] [] p7) p8] [] p9) (envG L))
      (fun f s' => match f with | .next => wpAny (MW w) A (execs (.AugAssign (.Name (Str.ofString "token") q1) .Add (.Name (Str.ofString "ch") q2) q3 :: rs) (envG L)) QF E s' | f => QF f s') E s := by
  refine wpAny_If ?_
  refine wpAny_isTrue_Compare1 ?_
  refine ldN T.ns hm rfl rfl rfl ?_
  refine wpAny_Constant_str ?_
  refine eq_str ?_
  refine wpAny_truthy_bool ?_
  have eb : (str [c] == Str.ofString "\\") = decide ([c] = [92]) := str_eq _ [92]
  rw [eb]
  have aug : ∀ h1 tk1 m1 c1 t1 k1 ln1, GT w hb h1 L x dx pb I q a text k1 ln1 m1 tokn → m1 (Str.ofString "ch") = some (.str (str c1) t1) → c1.length ≤ 1 →
      (∀ h' tk' m', GT w hb h' L x dx pb I q a text k1 ln1 m' (tokn ++ c1) → wpAny (MW w) A (execs rs (envG L)) QF E { s with heap := h', toks := tk' }) →
      wpAny (MW w) A (execs (.AugAssign (.Name (Str.ofString "token") q1) .Add (.Name (Str.ofString "ch") q2) q3 :: rs) (envG L)) QF E { s with heap := h1, toks := tk1 } := by
    intro h1 tk1 m1 c1 t1 k1 ln1 T1 hm1 hc1 hq
    obtain ⟨tt, htt⟩ := T1.tok
    refine wpAny_execs_cons ?_
    refine wpAny_AugAssign_Name ?_
    refine wpAny_loadName_local rfl rfl T1.ns htt ?_
    refine ldN T1.ns hm1 rfl rfl rfl ?_
    refine PyProof.Rows.iadd_str (fun t' tk => ?_) ?_
    · dsimp only
      refine stN T1.ns ?_
      intro h2 n2 x2
      dsimp only at *
      exact hq h2 _ _ (T1.store C n2 x2 T1.self ⟨t', by show some (Value.str (str tokn ++ str c1) _) = _; rw [str_app]⟩ T1.fit)
    · have a1 : (str tokn).length = tokn.length := by simp [str, Str.length]
      have a2 : (str c1).length = c1.length := by simp [str, Str.length]
      rw [a1, a2]; unfold sizeLine; omega
  by_cases hc : c = 92
  · subst hc
    rw [decide_eq_true rfl]
    refine wpAny_execs_cons ?_
    refine wpAny_Assign_Name ?_
    refine rcCall C T hr ?_ he
    intro h1 tk1 u T1
    dsimp only
    refine stN T1.ns ?_
    intro h2 n2 x2
    dsimp only at *
    refine wpAny_execs_nil ?_
    try dsimp only
    refine aug h2 _ _ (sgn text k) u (k + 1) _ (T1.store C n2 x2 T1.self T1.tok T1.fit) rfl (sgn_len _ _) ?_
    intro h3 tk3 m3 T3
    exact h h3 tk3 m3 _ _ _ (fun e => absurd rfl e) (fun _ => ⟨rfl, rfl, rfl⟩) T3
  · have : ¬ ([c] : List Nat) = [92] := by simpa using hc
    rw [decide_eq_false this]
    refine wpAny_execs_nil ?_
    try dsimp only
    refine aug _ _ _ [c] tc k ln T hm (by simp) ?_
    intro h3 tk3 m3 T3
    exact h h3 tk3 m3 _ _ _ (fun _ => ⟨rfl, rfl, rfl⟩) (fun e => absurd e hc) T3
end
end Mine

open PySem PySem.W PySem.Calls PyProof.Rows
set_option Elab.async false
set_option maxRecDepth 1000000
set_option maxHeartbeats 0
set_option linter.unusedVariables false
namespace Mine
section
variable {w : World} {s : Shared} {A : Around} {Q E : Value → Shared → Prop} {g hb : Heap} {L x dx pb I q : Addr} {a : SA} {text : List Nat} {k : Nat} {ln : Int} {m : Str → Option Value} {tokn : List Nat}
theorem wsTest {r1 r2 r3 r4 : Pos} {QB : Bool → Shared → Prop} {c : Nat} {tc : Tok} (C : GC w g hb L x dx pb I q a text) (T : GT w hb s.heap L x dx pb I q a text k ln m tokn) (hm : m (Str.ofString "ch") = some (.str (str [c]) tc))
    (h : ∀ tk, QB (decide (c ∈ wsL)) { s with toks := tk }) :
    wpAny (MW w) A (isTrue (.Compare (.Name (Str.ofString "ch") r1) [.In] [.Attribute (.Name (Str.ofString "self") r2) (Str.ofString "whitespace") r4] r3) (envG L) (eval (.Compare (.Name (Str.ofString "ch") r1) [.In] [.Attribute (.Name (Str.ofString "self") r2) (Str.ofString "whitespace") r4] r3) (envG L))) QB E s := by
  refine wpAny_isTrue_Compare1 ?_
  refine ldN T.ns hm rfl rfl rfl ?_
  refine Attribute_name ?_
  refine ldN T.ns T.self rfl rfl rfl ?_
  obtain ⟨t1, t2, t3, t4, tl, tw, hd⟩ := T.lex.dict
  refine getInst (C.gdh T.xb) T.lex.inst hd (lx_f3 _) (by rfl) (by rfl) ?_
  refine PyProof.Rows.in_str ?_
  have e : (!(Builtin.Str.occurrences wsS (str [c]) 0 wsS.length 1).isEmpty) = decide (c ∈ wsL) := PySem.StrLaws.found_one wsS c
  rw [e]
  refine wpAny_truthy_bool ?_
  exact h _
theorem qLoop {p1 p2 p3 p4 p5 p6 p7 p8 p9 q1 q2 q3 r0 r1 r2 r3 r4 r5 r6 : Pos} {kk kk2 : Nat} {pl : Sem Bool} {R : Result → Shared → Prop} {rest rest' tk : List Nat} {C0 : Int}
    (C : GC w g hb L x dx pb I q a text) (T : GT w hb s.heap L x dx pb I q a text k ln m tokn) (hA : A.handled = none) (hr : A.depth + 2 < recursionLimit)
    (hd : text.drop k = rest) (hq : qtok rest tokn = some (tk, rest')) (hc : ln + (rest.count 10 : Nat) = C0) (hlen : tokn.length + rest.length ≤ 1000000)
    (hR : ∀ h' tk' u k' ln', LexAt w.params h' x dx pb a text k' ln' → text.drop k' = rest' → ln' + (rest'.count 10 : Nat) = C0 → XB [L, dx, a.pl] hb h' → R (.ok (.ret (.str (str tk) u))) { s with heap := h', toks := tk' })
    (he : eval (.Call (.Attribute (.Name (Str.ofString "self") p5) (Str.ofString "_read_char") p6) [] [] p7) (envG L) = (do
      let ov ← eval (.Name (Str.ofString "self") p5) (envG L)
      standAt p6.atName
      let (f, first) ← holding [ov] (getMethod ov (Str.ofString "_read_char") pl)
      callWith p7 f first (backTo p7 (starEach [] (envG L))) [])) :
    codeAny (MW w) A (.forLoop (.Name (Str.ofString "ch") r0) (.ref I)
      [.If (.Compare (.Name (Str.ofString "ch") r1) [.Eq] [.Constant (.str (Str.ofString "\"")) kk2 r2] r3) [.Return (some (.Name (Str.ofString "token") r4)) r5]
        [.If (.Compare (.Name (Str.ofString "ch") p1) [.Eq] [.Constant (.str (Str.ofString "\\")) kk p2] p3) [.Assign [.Name (Str.ofString "ch") p4] (.Call (.Attribute (.Name (Str.ofString "self") p5) (Str.ofString "_read_char") p6) [] [] p7) p8] [] p9] r6,
       .AugAssign (.Name (Str.ofString "token") q1) .Add (.Name (Str.ofString "ch") q2) q3] [] (envG L)) R s := by
  refine codeAny_forLoop (fun n s' => ∃ h' tk' m' k ln tokn rest, s' = { s with heap := h', toks := tk' } ∧ n = rest.length ∧ GT w hb h' L x dx pb I q a text k ln m' tokn ∧ text.drop k = rest ∧ qtok rest tokn = some (tk, rest') ∧
    ln + (rest.count 10 : Nat) = C0 ∧ tokn.length + rest.length ≤ 1000000) ?_ rest.length ⟨s.heap, s.toks, m, k, ln, tokn, rest, rfl, rfl, T, hd, hq, hc, hlen⟩ (by intro _; rfl)
  clear T hd hq hc hlen
  rintro n s' ⟨h1, tk1, m1, k, ln, tokn, rest, rfl, rfl, T, hd, hq, hc, hlen⟩
  cases rest with
  | nil => cases hq
  | cons c r =>
  obtain ⟨hs, hd1⟩ := sgn_of hd
  refine nextCI C.gd (C.egh T.xb) C.gdx C.gpl T.lex T.ci T.me C.hIn C.hqn hA hr C.len ?_ ?_
  rotate_left
  · intro e; rw [hs] at e; cases e
  rintro - h2 tk2 u L2 x2
  dsimp only at *
  have T2 := T.read C L2 x2
  rw [hs] at T2 ⊢
  have hc2 := cnt10 c r ln C0 hc
  refine wpAny_assign_Name ?_
  refine stN T2.ns ?_
  intro h3 n3 x3
  dsimp only at *
  have T3 := T2.store C n3 x3 T2.self T2.tok T2.fit
  have hch : (fun y => if y = Str.ofString "ch" then some (Value.str (str [c]) u) else m1 y) (Str.ofString "ch") = some (.str (str [c]) u) := rfl
  generalize (fun y => if y = Str.ofString "ch" then some (Value.str (str [c]) u) else m1 y) = m3 at *
  refine wpAny_execs_cons ?_
  refine wpAny_If ?_
  refine wpAny_isTrue_Compare1 ?_
  refine ldN T3.ns hch rfl rfl rfl ?_
  refine wpAny_Constant_str ?_
  refine eq_str ?_
  refine wpAny_truthy_bool ?_
  have eb : (str [c] == Str.ofString "\"") = decide ([c] = [34]) := str_eq _ [34]
  rw [eb]
  unfold qtok at hq
  by_cases h34 : c = 34
  · subst h34
    rw [if_pos rfl] at hq
    cases hq
    rw [decide_eq_true rfl]
    obtain ⟨tt, htt⟩ := T3.tok
    refine wpAny_execs_cons ?_
    refine wpAny_Return_some ?_
    refine ldN T3.ns htt rfl rfl rfl ?_
    exact hR h3 _ tt _ _ T3.lex hd1 hc2 T3.xb
  · rw [if_neg h34] at hq
    rw [decide_eq_false (by simpa using h34)]
    refine wpAny_execs_cons ?_
    refine wpAny_mono (escTail (q1 := q1) (q2 := q2) (q3 := q3) (rs := []) (QF := fun f s₃ => match f with
        | .next | .cont => ∃ m, m < (c :: r).length ∧ ∃ h' tk' m' k ln tokn rest, s₃ = { s with heap := h', toks := tk' } ∧ m = rest.length ∧ GT w hb h' L x dx pb I q a text k ln m' tokn ∧ text.drop k = rest ∧ qtok rest tokn = some (tk, rest') ∧ ln + (rest.count 10 : Nat) = C0 ∧ tokn.length + rest.length ≤ 1000000
        | .brk => R (.ok .next) s₃
        | .ret v => R (.ok (.ret v)) s₃) C T3 hr (by simp at hlen; omega) hch ?_ he) ?_ (fun _ _ e => e)
    · intro h4 tk4 m4 c' k' ln' n1 n2 T4
      refine wpAny_execs_nil ?_
      by_cases h92 : c = 92
      · subst h92
        rw [if_pos rfl] at hq
        obtain ⟨rfl, rfl, rfl⟩ := n2 rfl
        cases r with
        | nil => cases hq
        | cons c2 r2 =>
          obtain ⟨hs2, hd2⟩ := sgn_of hd1
          rw [hs2] at T4
          exact ⟨r2.length, by simp; omega, h4, tk4, m4, _, _, _, r2, rfl, rfl, T4, hd2, hq, cnt10 c2 r2 _ C0 hc2, by simp at hlen ⊢; omega⟩
      · rw [if_neg h92] at hq
        obtain ⟨rfl, rfl, rfl⟩ := n1 h92
        exact ⟨r.length, by simp, h4, tk4, m4, _, _, _, r, rfl, rfl, T4, hd1, hq, hc2, by simp at hlen ⊢; omega⟩
    · intro f s' hf
      cases f with
      | next => exact wpAny_execs_nil hf
      | cont => exact hf
      | brk => exact hf
      | ret v => exact hf
theorem bLoop {p1 p2 p3 p4 p5 p6 p7 p8 p9 q1 q2 q3 r0 r1 r2 r3 r4 r5 r6 r7 : Pos} {kk : Nat} {pl : Sem Bool} {R : Result → Shared → Prop} {rest rest' tk : List Nat} {C0 : Int}
    (C : GC w g hb L x dx pb I q a text) (T : GT w hb s.heap L x dx pb I q a text k ln m tokn) (hA : A.handled = none) (hr : A.depth + 2 < recursionLimit)
    (hd : text.drop k = rest) (hq : btok rest tokn = some (tk, rest')) (hc : ln + (rest.count 10 : Nat) = C0) (hlen : tokn.length + rest.length ≤ 1000000)
    (hR : ∀ h' tk' u k' ln', LexAt w.params h' x dx pb a text k' ln' → text.drop k' = rest' → ln' + (rest'.count 10 : Nat) = C0 → XB [L, dx, a.pl] hb h' → R (.ok (.ret (.str (str tk) u))) { s with heap := h', toks := tk' })
    (he : eval (.Call (.Attribute (.Name (Str.ofString "self") p5) (Str.ofString "_read_char") p6) [] [] p7) (envG L) = (do
      let ov ← eval (.Name (Str.ofString "self") p5) (envG L)
      standAt p6.atName
      let (f, first) ← holding [ov] (getMethod ov (Str.ofString "_read_char") pl)
      callWith p7 f first (backTo p7 (starEach [] (envG L))) [])) :
    codeAny (MW w) A (.forLoop (.Name (Str.ofString "ch") r0) (.ref I)
      [.If (.Compare (.Name (Str.ofString "ch") r1) [.In] [.Attribute (.Name (Str.ofString "self") r2) (Str.ofString "whitespace") r7] r3) [.Return (some (.Name (Str.ofString "token") r4)) r5]
        [.If (.Compare (.Name (Str.ofString "ch") p1) [.Eq] [.Constant (.str (Str.ofString "\\")) kk p2] p3) [.Assign [.Name (Str.ofString "ch") p4] (.Call (.Attribute (.Name (Str.ofString "self") p5) (Str.ofString "_read_char") p6) [] [] p7) p8] [] p9] r6,
       .AugAssign (.Name (Str.ofString "token") q1) .Add (.Name (Str.ofString "ch") q2) q3] [] (envG L)) R s := by
  refine codeAny_forLoop (fun n s' => ∃ h' tk' m' k ln tokn rest, s' = { s with heap := h', toks := tk' } ∧ n = rest.length ∧ GT w hb h' L x dx pb I q a text k ln m' tokn ∧ text.drop k = rest ∧ btok rest tokn = some (tk, rest') ∧
    ln + (rest.count 10 : Nat) = C0 ∧ tokn.length + rest.length ≤ 1000000) ?_ rest.length ⟨s.heap, s.toks, m, k, ln, tokn, rest, rfl, rfl, T, hd, hq, hc, hlen⟩ (by intro _; rfl)
  clear T hd hq hc hlen
  rintro n s' ⟨h1, tk1, m1, k, ln, tokn, rest, rfl, rfl, T, hd, hq, hc, hlen⟩
  cases rest with
  | nil => cases hq
  | cons c r =>
  obtain ⟨hs, hd1⟩ := sgn_of hd
  refine nextCI C.gd (C.egh T.xb) C.gdx C.gpl T.lex T.ci T.me C.hIn C.hqn hA hr C.len ?_ ?_
  rotate_left
  · intro e; rw [hs] at e; cases e
  rintro - h2 tk2 u L2 x2
  dsimp only at *
  have T2 := T.read C L2 x2
  rw [hs] at T2 ⊢
  have hc2 := cnt10 c r ln C0 hc
  refine wpAny_assign_Name ?_
  refine stN T2.ns ?_
  intro h3 n3 x3
  dsimp only at *
  have T3 := T2.store C n3 x3 T2.self T2.tok T2.fit
  have hch : (fun y => if y = Str.ofString "ch" then some (Value.str (str [c]) u) else m1 y) (Str.ofString "ch") = some (.str (str [c]) u) := rfl
  generalize (fun y => if y = Str.ofString "ch" then some (Value.str (str [c]) u) else m1 y) = m3 at *
  refine wpAny_execs_cons ?_
  refine wpAny_If ?_
  refine wsTest C T3 hch ?_
  intro tkb
  unfold btok at hq
  by_cases h34 : c ∈ wsL
  · rw [if_pos h34] at hq
    cases hq
    rw [decide_eq_true h34]
    obtain ⟨tt, htt⟩ := T3.tok
    refine wpAny_execs_cons ?_
    refine wpAny_Return_some ?_
    refine ldN T3.ns htt rfl rfl rfl ?_
    exact hR h3 _ tt _ _ T3.lex hd1 hc2 T3.xb
  · rw [if_neg h34] at hq
    rw [decide_eq_false h34]
    refine wpAny_execs_cons ?_
    refine wpAny_mono (escTail (q1 := q1) (q2 := q2) (q3 := q3) (rs := []) (QF := fun f s₃ => match f with
        | .next | .cont => ∃ m, m < (c :: r).length ∧ ∃ h' tk' m' k ln tokn rest, s₃ = { s with heap := h', toks := tk' } ∧ m = rest.length ∧ GT w hb h' L x dx pb I q a text k ln m' tokn ∧ text.drop k = rest ∧ btok rest tokn = some (tk, rest') ∧ ln + (rest.count 10 : Nat) = C0 ∧ tokn.length + rest.length ≤ 1000000
        | .brk => R (.ok .next) s₃
        | .ret v => R (.ok (.ret v)) s₃) C T3 hr (by simp at hlen; omega) hch ?_ he) ?_ (fun _ _ e => e)
    · intro h4 tk4 m4 c' k' ln' n1 n2 T4
      refine wpAny_execs_nil ?_
      by_cases h92 : c = 92
      · subst h92
        rw [if_pos rfl] at hq
        obtain ⟨rfl, rfl, rfl⟩ := n2 rfl
        cases r with
        | nil => cases hq
        | cons c2 r2 =>
          obtain ⟨hs2, hd2⟩ := sgn_of hd1
          rw [hs2] at T4
          exact ⟨r2.length, by simp; omega, h4, tk4, m4, _, _, _, r2, rfl, rfl, T4, hd2, hq, cnt10 c2 r2 _ C0 hc2, by simp at hlen ⊢; omega⟩
      · rw [if_neg h92] at hq
        obtain ⟨rfl, rfl, rfl⟩ := n1 h92
        exact ⟨r.length, by simp, h4, tk4, m4, _, _, _, r, rfl, rfl, T4, hd1, hq, hc2, by simp at hlen ⊢; omega⟩
    · intro f s' hf
      cases f with
      | next => exact wpAny_execs_nil hf
      | cont => exact hf
      | brk => exact hf
      | ret v => exact hf
end
end Mine

open PySem PySem.W PySem.Calls PyProof.Rows
set_option Elab.async false
set_option maxRecDepth 1000000
set_option maxHeartbeats 0
set_option linter.unusedVariables false
namespace Mine
section
variable {w : World} {s : Shared} {A : Around} {Q E : Value → Shared → Prop} {g : Heap} {x dx pb : Addr} {a : SA} {text : List Nat} {k : Nat} {ln : Int}
theorem con_gt {R : Result → Shared → Prop} {rest rest' tk : List Nat} (Gg : Gd w g) (eg : Ext g s.heap) (hgd : g.get? dx = none) (hgp : g.get? a.pl = none) (hL : LexAt w.params s.heap x dx pb a text k ln) (hA : A.handled = none) (hr : A.depth + 4 < recursionLimit)
    (hl : text.length ≤ 1000000) (hd : text.drop k = rest) (hq : gtok rest = some (tk, rest'))
    (h : ∀ h' tk' u k' ln', LexAt w.params h' x dx pb a text k' ln' → text.drop k' = rest' → ln' + (rest'.count 10 : Nat) = ln + (rest.count 10 : Nat) → XB [dx, a.pl] s.heap h' → R (.ok (.ret (.str (str tk) u))) { s with heap := h', toks := tk' }) :
    codeAny (MW w) A (.call (.ref 49) ⟨[.ref x], []⟩) R s := by
  have G := Gg.keeps eg
  refine code_meth (fd := fd__netrclex_get_token) (name := Str.ofString "get_token") (qual := Str.ofString "_netrclex.get_token") (binds := [(Str.ofString "self", .ref x)]) G (by omega) (o := o49 w.params) (by kernel_rfl) rfl (by kernel_rfl) (by kernel_rfl) (by kernel_rfl) (by kernel_rfl) (by kernel_rfl) (by kernel_rfl) (by kernel_rfl) (fun h₁ Fm G1 => ?_)
  conv in (sBody _) => whnf
  have e1 : Ext s.heap h₁ := Fm.keep
  have n1 := Fm.ns
  have fr0 : s.heap.get? s.heap.objs.size = none := none_of_size
  have L1 := hL.ext e1
  obtain ⟨t1, t2, t3, t4, tl, tw, hd1⟩ := L1.dict
  refine wpAny_execs_cons ?_
  refine wpAny_If ?_
  refine isTrue_plain ?_
  refine Attribute_name ?_
  refine ldN n1 rfl rfl rfl rfl ?_
  refine getInst G1 L1.inst hd1 (lx_f4 _) (by rfl) (by rfl) ?_
  refine wpAny_truthy_list (L1.push.isList) (by decide) ?_
  have e0 : ((#[] : Array Value).size != 0) = false := rfl
  simp only [Array.size_empty]
  refine wpAny_execs_nil ?_
  try dsimp only
  refine wpAny_execs_cons ?_
  refine wpAny_Assign_Name ?_
  refine wpAny_Constant_str ?_
  refine stN n1 ?_
  intro h2 n2 x2
  dsimp only at *
  have frL : ∀ b ∈ lexAs x dx pb a, b ≠ s.heap.objs.size := fun b hb e => hL.known b hb (by rw [e]; exact fr0)
  have L2 := L1.xb x2 (fun b hb => nin1 (frL b hb))
  have e2 : Ext s.heap h2 := e1.st x2 fr0
  have G2 := Gg.keeps (eg.trans e2)
  obtain ⟨t1, t2, t3, t4, tl, tw, hd2⟩ := L2.dict
  refine wpAny_execs_cons ?_
  refine wpAny_Assign_Name ?_
  refine Call_ ?_
  refine bnameE G2 (gb_iter _) (by boot_by_name) (by decide) rfl rfl rfl rfl (by decide) ?_
  refine Globals_cb1 ?_
  refine args_cons ?_
  refine Attribute_name ?_
  refine ldN n2 rfl rfl rfl rfl ?_
  refine getBound G2 L2.inst hd2 (by rfl) ?_
  intro q h3 hq3 nq e3
  dsimp only at *
  refine args_cons ?_
  refine wpAny_Constant_str ?_
  refine args_nil ?_
  refine iter2 hq3 ?_
  intro I h4 hI nI e4
  dsimp only at *
  have n4 := e4.ns (e3.ns n2)
  refine stN n4 ?_
  intro h5 n5 x5
  dsimp only at *
  have qs : s.heap.get? q = none := fresh_le e2 nq
  have Is : s.heap.get? I = none := fresh_le (e2.trans e3) nI
  have hqL : q ≠ s.heap.objs.size := by rintro rfl; obtain ⟨o, es, ep, a', _⟩ := n2; rw [a'] at nq; cases nq
  have hIL : I ≠ s.heap.objs.size := by rintro rfl; obtain ⟨o, es, ep, a', _⟩ := e3.ns n2; rw [a'] at nI; cases nI
  have C : GC w g s.heap s.heap.objs.size x dx pb I q a text := ⟨Gg, eg, hgd, hgp, fresh_le eg fr0, fun m => hL.known _ m Is, fun m => hL.known _ m qs, fun m => frL _ m rfl, hIL, hqL, hl⟩
  have T5 : GT w s.heap h5 s.heap.objs.size x dx pb I q a text k ln _ [] :=
    ⟨(L2.ext (e3.trans e4)).xb x5 (fun b hb => nin1 (frL b hb)), hI.xb x5 (nin1 hIL), x5 _ _ (nin1 hqL) (e4 _ _ hq3), n5, rfl, ⟨_, rfl⟩, rfl, (XB.of_ext (e2.trans (e3.trans e4))).trans (x5.in (.head _))⟩
  refine wpAny_execs_cons ?_
  refine wpAny_For ?_ (by intro _; rfl)
  refine ldN n5 T5.fit rfl rfl rfl ?_
  refine pyIterCI T5.ci ?_
  have hrl : ∀ {k : Nat} {r : List Nat}, text.drop k = r → r.length ≤ 1000000 := fun e => by rw [← e, List.length_drop]; omega
  refine codeAny_forLoop (fun n s' => ∃ h' tk' m' k' ln' rest₁, s' = { s with heap := h', toks := tk' } ∧ n = rest₁.length ∧ GT w s.heap h' s.heap.objs.size x dx pb I q a text k' ln' m' [] ∧ text.drop k' = rest₁ ∧ gtok rest₁ = some (tk, rest') ∧
    ln' + (rest₁.count 10 : Nat) = ln + (rest.count 10 : Nat)) ?_ rest.length ⟨h5, _, _, k, ln, rest, rfl, rfl, T5, hd, hq, rfl⟩ (by intro _; rfl)
  generalize hC0 : ln + (rest.count 10 : Nat) = C0 at *
  clear T5 n5 x5 n4 hI nI e4 nq e3 hq3 hd2 L2 n2 x2 hd1 L1 e2 G2
  rintro n s' ⟨h6, tk6, m6, k6, ln6, rest6, rfl, rfl, T, hd6, hq6, hc6⟩
  have fin : ∀ {h' : Heap}, XB [s.heap.objs.size, dx, a.pl] s.heap h' → XB [dx, a.pl] s.heap h' := fun X b o nb e => X b o (fun m => by
    rcases List.mem_cons.mp m with rfl | m
    · rw [fr0] at e; cases e
    · exact nb m) e
  refine nextCI C.gd (C.egh T.xb) C.gdx C.gpl T.lex T.ci T.me C.hIn C.hqn ?_ ?_ C.len ?_ ?_
  · exact hA
  · show A.depth + 1 + 2 < _
    omega
  rotate_left
  · intro hsg h7 tk7 L7 x7
    have er : rest6 = [] := by
      cases rest6 with
      | nil => rfl
      | cons c r => rw [(sgn_of hd6).1] at hsg; cases hsg
    subst er
    unfold gtok at hq6
    cases hq6
    refine wpAny_execs_nil ?_
    dsimp only at *
    refine wpAny_execs_cons ?_
    refine wpAny_Return_some ?_
    obtain ⟨tt, htt⟩ := T.tok
    have n7 : h7.Ns s.heap.objs.size m6 := ns_xb T.ns x7 (by
      intro m
      rcases List.mem_cons.mp m with e | m
      · exact frL dx (by simp [lexAs]) e.symm
      rcases List.mem_cons.mp m with e | m
      · exact frL a.pl (by simp [lexAs]) e.symm
      · exact hIL (List.mem_singleton.mp m).symm)
    refine ldN n7 htt rfl rfl rfl ?_
    refine h h7 _ tt (k6 + 1) ln6 L7 ?_ ?_ ?_
    · have := congrArg (List.drop 1) hd6
      rw [List.drop_drop] at this
      simpa using this
    · simpa using hc6
    · intro b o nb e
      refine x7 b o (fun m => ?_) (fin T.xb b o nb e)
      rcases List.mem_cons.mp m with e' | m
      · exact nb (by rw [e']; exact .head _)
      rcases List.mem_cons.mp m with e' | m
      · exact nb (by rw [e']; exact .tail _ (.head _))
      · rw [List.mem_singleton.mp m, Is] at e; cases e
  intro hsg h7 tk7 u L7 x7
  cases rest6 with
  | nil => exact absurd (by unfold sgn; rw [hd6]; rfl) hsg
  | cons c r =>
  obtain ⟨hs, hd7⟩ := sgn_of hd6
  dsimp only at *
  have T7 := T.read C L7 x7
  rw [hs] at T7 ⊢
  have hc7 := cnt10 c r ln6 C0 hc6
  refine wpAny_assign_Name ?_
  refine stN T7.ns ?_
  intro h8 n8 x8
  dsimp only at *
  have T8 := T7.store C n8 x8 T7.self T7.tok T7.fit
  have hch : (fun y => if y = Str.ofString "ch" then some (Value.str (str [c]) u) else m6 y) (Str.ofString "ch") = some (.str (str [c]) u) := rfl
  generalize (fun y => if y = Str.ofString "ch" then some (Value.str (str [c]) u) else m6 y) = m8 at *
  unfold gtok at hq6
  refine wpAny_execs_cons ?_
  refine wpAny_If ?_
  refine wsTest C T8 hch ?_
  intro tkb
  by_cases hw : c ∈ wsL
  · rw [if_pos hw] at hq6
    rw [decide_eq_true hw]
    refine wpAny_execs_cons ?_
    refine wpAny_Continue ?_
    exact ⟨r.length, by simp, h8, _, _, _, _, r, rfl, rfl, T8, hd7, hq6, hc7⟩
  · rw [if_neg hw] at hq6
    rw [decide_eq_false hw]
    refine wpAny_execs_nil ?_
    try dsimp only
    refine wpAny_execs_cons ?_
    refine wpAny_If ?_
    refine wpAny_isTrue_Compare1 ?_
    refine ldN T8.ns hch rfl rfl rfl ?_
    refine wpAny_Constant_str ?_
    refine eq_str ?_
    refine wpAny_truthy_bool ?_
    have eb : (str [c] == Str.ofString "\"") = decide ([c] = [34]) := str_eq _ [34]
    rw [eb]
    by_cases h34 : c = 34
    · subst h34
      rw [if_pos rfl] at hq6
      rw [decide_eq_true rfl]
      refine wpAny_execs_cons ?_
      refine wpAny_For ?_ (by intro _; rfl)
      refine ldN T8.ns T8.fit rfl rfl rfl ?_
      refine pyIterCI T8.ci ?_
      refine qLoop C T8 ?_ ?_ hd7 hq6 hc7 (by simpa using hrl hd7) ?_ (by rfl)
      · exact hA
      · show A.depth + 1 + 2 < _
        omega
      intro h9 tk9 u9 k9 ln9 L9 hd9 hc9 X9
      dsimp only
      exact h h9 _ u9 k9 ln9 L9 hd9 hc9 (fin X9)
    · rw [if_neg h34] at hq6
      rw [decide_eq_false (by simpa using h34)]
      refine wpAny_execs_cons ?_
      refine escTail C T8 ?_ (by simp) hch ?_ (by rfl)
      · show A.depth + 1 + 2 < _
        omega
      intro h9 tk9 m9 c' k9 ln9 y1 y2 T9
      rw [List.nil_append] at T9
      refine wpAny_execs_cons ?_
      refine wpAny_For ?_ (by intro _; rfl)
      refine ldN T9.ns T9.fit rfl rfl rfl ?_
      refine pyIterCI T9.ci ?_
      by_cases h92 : c = 92
      · subst h92
        rw [if_pos rfl] at hq6
        obtain ⟨rfl, rfl, rfl⟩ := y2 rfl
        cases r with
        | nil => cases hq6
        | cons c2 r2 =>
          obtain ⟨hs2, hd9⟩ := sgn_of hd7
          rw [hs2] at T9
          have hl2 := hrl hd9
          refine bLoop C T9 ?_ ?_ hd9 hq6 (cnt10 c2 r2 _ C0 hc7) (by have := hrl hd7; simp at this ⊢; omega) ?_ (by rfl)
          · exact hA
          · show A.depth + 1 + 2 < _
            omega
          intro h10 tk10 u10 k10 ln10 L10 hd10 hc10 X10
          dsimp only
          exact h h10 _ u10 k10 ln10 L10 hd10 hc10 (fin X10)
      · rw [if_neg h92] at hq6
        obtain ⟨rfl, rfl, rfl⟩ := y1 h92
        refine bLoop C T9 ?_ ?_ hd7 hq6 hc7 (by have := hrl hd6; simp at this ⊢; omega) ?_ (by rfl)
        · exact hA
        · show A.depth + 1 + 2 < _
          omega
        intro h10 tk10 u10 k10 ln10 L10 hd10 hc10 X10
        dsimp only
        exact h h10 _ u10 k10 ln10 L10 hd10 hc10 (fin X10)
end
end Mine

open PySem PySem.W PySem.Calls PyProof.Rows
set_option Elab.async false
set_option maxRecDepth 1000000
set_option maxHeartbeats 0
set_option linter.unusedVariables false
namespace Mine
theorem TabOk.xb {bs : List Addr} {h h' : Heap} (T : TabOk h) (e : XB bs h h') (hb : 154 ∉ bs) (hc : ∀ c ∈ bs, h.get? c = none ∨ ∀ o vs, h.get? c = some o → o.data ≠ .fields vs) : TabOk h' := by
  obtain ⟨ps, hP, r⟩ := T
  refine ⟨ps, e _ _ hb hP, ?_⟩
  rcases r with rfl | ⟨c1, c2, rfl, a, b, n1, n2⟩
  · exact .inl rfl
  · have ne : ∀ {c : Addr} {q : Str}, h.CodeRec (.ref c) q → c ∉ bs := by
      intro c q ⟨_, o, vs, t, e1, a, d, _⟩ m
      cases e1
      rcases hc c m with n | n
      · rw [n] at a; cases a
      · exact n o vs a d
    exact .inr ⟨c1, c2, rfl, codeRec_xb a e (ne a), codeRec_xb b e (ne b), n1, n2⟩
section
variable {w : World} {s : Shared} {A : Around} {Q E : Value → Shared → Prop} {env : Env} {g : Heap}
/-- the lexer made of a stream -/
theorem con_make {a : SA} {text : List Nat} (Gg : Gd w g) (eg : Ext g s.heap) (hS : StreamAt w.params s.heap a text 0) (hr : A.depth + 2 < recursionLimit)
    (h : ∀ x dx pb h' tk', LexAt w.params h' x dx pb a text 0 1 → Ext s.heap h' → s.heap.get? dx = none → s.heap.get? x = none → Q (.ref x) { s with heap := h', toks := tk' }) :
    wpAny (MW w) A (call (.ref 59) [.ref a.sf]) Q E s := by
  have G := Gg.keeps eg
  obtain ⟨hh, gs, dr, tk, os⟩ := s
  refine wpAny_call (make_core (makes_of G.k (lx_make _)) (looks_findIn G.k (lx_m0 _)) (fun self => bind_fn G.k self (lx_fn35 _)) (.inl (by decide)) ?_)
  have e1 : Ext hh ((hh.push emptyDict).push (instObj 59 hh.objs.size)) := (Ext.push _).trans (Ext.push _)
  have hx : ((hh.push emptyDict).push (instObj 59 hh.objs.size)).get? (hh.objs.size + 1) = some (instObj 59 hh.objs.size) := by
    have e : (hh.push emptyDict).objs.size = hh.objs.size + 1 := Heap.size_push ..
    rw [← e]; exact Heap.get?_push_size _ rfl
  have hd : ((hh.push emptyDict).push (instObj 59 hh.objs.size)).get? hh.objs.size = some (dictOf [] 0) := Heap.get?_push_of_some _ (Heap.get?_push_size _ rfl)
  have nd : hh.get? hh.objs.size = none := none_of_size
  have nx : hh.get? (hh.objs.size + 1) = none := Heap.get?_none_of_le (Nat.le_succ _)
  refine con_init (s := ⟨(hh.push emptyDict).push (instObj 59 hh.objs.size), gs, dr, tk, os⟩) (G.keeps e1) ?_ hx hd (Nat.ne_of_gt (Nat.lt_succ_self _)) ⟨hh, G, e1, nd⟩ ?_
  · show A.depth + Code.weight _ < _
    have : Code.weight (.builtin "type.__call__" ⟨[.ref 59, .ref a.sf], []⟩) ≤ 1 := by first | exact Nat.le_refl 1 | exact Nat.zero_le 1
    omega
  intro h' tk' t1 t2 t3 t4 tl tw pb hd' hpb npb x'
  dsimp only at *
  have ext : Ext hh h' := e1.xb x' (by simpa using nd)
  refine ⟨rfl, ?_⟩
  exact h _ _ pb h' tk' ⟨x' _ _ (nin1 (Nat.ne_of_gt (Nat.lt_succ_self _))) hx, ⟨_, _, _, _, _, _, hd'⟩, hpb, hS.ext ext⟩ ext nd nx
theorem cnt_count (c : Nat) : ∀ l : List Nat, cnt c l = (l.count c : Nat)
  | [] => rfl
  | n :: r => by
    rw [cnt_cons, cnt_count c r, List.count_cons]
    by_cases h : n = c
    · subst h; simp; omega
    · have : (n == c) = false := by simpa using h
      simp [h, this]
theorem con_read (Gg : Gd w g) (eg : Ext g s.heap) (hgP : g.get? 154 = none) (hT : TabOk s.heap) (hA : A.handled = none) (hr : A.depth + 6 < recursionLimit) {text t1 r1 t2 r2 : List Nat} (hl : text.length ≤ 1000000) (tk : Tok)
    (h1 : gtok text = some (t1, r1)) (h2 : gtok r1 = some (t2, r2))
    (h : ∀ h' tk' D u1 u2 u3, h'.PlainList D #[.str (str t1) u1, .str (str t2) u2, .int (1 - (r2.count 10 : Nat)) u3] → TabOk h' → XB [154] s.heap h' → Q (.ref D) { s with heap := h', toks := tk' }) :
    wpAny (MW w) A (call (.ref 205) [.str (str text) tk]) Q E s := by
  have G := Gg.keeps eg
  refine call_def (fd := fd__law_read) (name := Str.ofString "_law_read") (binds := [(Str.ofString "text", .str (str text) tk)]) G (by omega) (o := o205 w.params) (by kernel_rfl) rfl (by kernel_rfl) (by kernel_rfl) (by kernel_rfl) (by kernel_rfl) (by kernel_rfl) (by kernel_rfl) (by kernel_rfl) (fun h₁ Fm G1 => ?_)
  conv in (sBody _) => whnf
  have e1 : Ext s.heap h₁ := Fm.keep
  have n1 := Fm.ns
  have fr0 : s.heap.get? s.heap.objs.size = none := none_of_size
  have h154 : 154 < s.heap.objs.size := by obtain ⟨ps, hP, _⟩ := hT; exact Heap.lt_size hP
  have L154 : s.heap.objs.size ≠ 154 := Nat.ne_of_gt h154
  have hT1 : TabOk h₁ := hT.xb (XB.of_ext (bs := []) e1) (by simp) (by simp)
  refine wpAny_execs_cons ?_
  refine wpAny_Assign_Name ?_
  refine Call_ ?_
  refine gnameE G1 (g_netrclex _) rfl rfl rfl (by decide) ?_
  refine callWith_K G1.k (by kernel_rfl) ?_
  refine args_cons ?_
  refine call1 G1 (g_law_stream _) (o := o159 w.params) (by kernel_rfl) rfl rfl rfl rfl rfl rfl rfl ?_
  refine ldN n1 rfl rfl rfl rfl ?_
  refine ⟨Ext.refl _, ?_⟩
  refine con_stream G1 hT1 ?_ text tk ?_
  · show A.depth + 1 < _
    omega
  intro a h2' tk2 S2 T2 x2 fr2
  dsimp only at *
  have n2 := ns_xb n1 x2 (nin1 L154)
  have eg2 : Ext g h2' := (eg.trans e1).xb x2 (by simpa using hgP)
  refine args_nil ⟨(Gg.keeps eg2).k, ?_⟩
  show wpAny _ _ (call (.ref 59) [.ref a.sf]) _ _ _
  refine con_make Gg eg2 S2 ?_ ?_
  · show A.depth + 1 + 2 < _
    omega
  intro x dx pb h3 tk3 L3 e3 ndx nx
  dsimp only at *
  have n3 := e3.ns n2
  refine stN n3 ?_
  intro h4 n4 x4
  dsimp only at *
  obtain ⟨oL, esL, epL, hoL, hdL, _⟩ := id n1
  obtain ⟨oL2, esL2, epL2, hoL2, hdL2, _⟩ := id n2
  have f1 : ∀ b, h₁.get? b = none → b ≠ s.heap.objs.size := fun b e q => by rw [q, hoL] at e; cases e
  have f2 : ∀ b, h2'.get? b = none → b ≠ s.heap.objs.size := fun b e q => by rw [q, hoL2] at e; cases e
  have frL : ∀ b ∈ lexAs x dx pb a, b ≠ s.heap.objs.size := by
    intro b hb
    simp only [lexAs, List.mem_cons, List.not_mem_nil, or_false] at hb
    rcases hb with rfl | rfl | rfl | rfl | rfl | rfl | rfl | rfl | rfl | rfl
    · exact f2 _ nx
    · exact f2 _ ndx
    · exact ns_list n3 L3.push.isList
    · exact f1 _ (fr2 _ (by simp))
    · exact f1 _ (fr2 _ (by simp))
    · exact f1 _ (fr2 _ (by simp))
    · exact f1 _ (fr2 _ (by simp))
    · exact f1 _ (fr2 _ (by simp))
    · exact f1 _ (fr2 _ (by simp))
    · obtain ⟨_, _, _, _, r⟩ := S2.read
      exact codeRec_ns r n2
  have L4 := L3.xb x4 (fun b hb => nin1 (frL b hb))
  have gdx : g.get? dx = none := fresh_le eg2 ndx
  have gpl : g.get? a.pl = none := fresh_le (eg.trans e1) (fr2 _ (by simp))
  have gL : g.get? s.heap.objs.size = none := fresh_le eg fr0
  have eg4 : Ext g h4 := (eg2.trans e3).st x4 gL
  have dxL : dx ≠ s.heap.objs.size := frL _ (by simp [lexAs])
  have plL : a.pl ≠ s.heap.objs.size := frL _ (by simp [lexAs])
  have gone : ∀ c ∈ [dx, a.pl], g.get? c = none := by
    intro c hc
    rcases List.mem_cons.mp hc with rfl | hc
    · exact gdx
    · rw [List.mem_singleton.mp hc]; exact gpl
  have Ln : s.heap.objs.size ∉ [dx, a.pl] := by
    intro m
    rcases List.mem_cons.mp m with e | m
    · exact dxL e.symm
    · exact plL (List.mem_singleton.mp m).symm
  have meth : ∀ {hh : Heap} {kk : Nat} {ln : Int} {tk : Nat} {pl : Sem Bool} {QQ : Value × List Value → Shared → Prop}, LexAt w.params hh x dx pb a text kk ln → Gd w hh → QQ (.ref 49, [.ref x]) { s with heap := hh, toks := tk } →
      wpAny (MW w) (A.deeper (envOf (Str.ofString "_law_read") (sScope fd__law_read) s.heap.objs.size 205 (.ref 204))) (getMethod (.ref x) (Str.ofString "get_token") pl) QQ (fun _ _ => False) { s with heap := hh, toks := tk } := by
    intro hh kk ln tk pl QQ LL GG hq
    obtain ⟨s1, s2, s3, s4, sl, sw, hd⟩ := LL.dict
    have I' : PySem.W.InstAt hh x (instObj 59 dx) 59 (some (dictOf (lexD w.params s1 s2 s3 s4 sl sw ln a.sf pb) 4)) := ⟨LL.inst, rfl, rfl, hd⟩
    have hg := plainGet_of (lx_g1 w.params)
    exact method_fn (s := { s with heap := hh, toks := tk }) GG.k I' hg.1 hg.2 (lx_m2 _) (lx_fn49 _) (by rfl) hq
  refine wpAny_execs_cons ?_
  refine wpAny_Return_some ?_
  refine ListE ?_
  refine wpAny_items_cons ?_ rfl
  refine MethodCall_ ?_ (by rfl)
  refine ldN n4 rfl rfl rfl rfl ?_
  refine meth L4 (Gg.keeps eg4) ?_
  dsimp only
  refine callWith_K0 (Gg.keeps eg4).k (by kernel_rfl) ?_
  refine wpAny_call (con_gt Gg eg4 gdx gpl L4 ?_ ?_ hl (by simp) h1 ?_)
  · exact hA
  · show A.depth + 1 + 4 < _
    omega
  intro h5 tk5 u5 k5 ln5 L5 hd5 hc5 x5
  dsimp only at *
  have n5 := ns_xb n4 x5 Ln
  have eg5 : Ext g h5 := eg4.xb x5 gone
  refine wpAny_items_cons ?_ rfl
  refine MethodCall_ ?_ (by rfl)
  refine ldN n5 rfl rfl rfl rfl ?_
  refine meth L5 (Gg.keeps eg5) ?_
  dsimp only
  refine callWith_K0 (Gg.keeps eg5).k (by kernel_rfl) ?_
  refine wpAny_call (con_gt Gg eg5 gdx gpl L5 ?_ ?_ hl hd5 h2 ?_)
  · exact hA
  · show A.depth + 1 + 4 < _
    omega
  intro h6 tk6 u6 k6 ln6 L6 hd6 hc6 x6
  dsimp only at *
  have n6 := ns_xb n5 x6 Ln
  have eg6 : Ext g h6 := eg5.xb x6 gone
  refine wpAny_items_cons ?_ rfl
  refine wpAny_BinOp ?_
  refine Attribute_name ?_
  refine ldN n6 rfl rfl rfl rfl ?_
  obtain ⟨s1, s2, s3, s4, sl, sw, hd6'⟩ := L6.dict
  refine getInst (Gg.keeps eg6) L6.inst hd6' (lx_f1 _) (by rfl) (by rfl) ?_
  refine Call_method1 ?_ ?_ ?_ ?_
  · rfl
  · rfl
  · rfl
  refine ldN n6 rfl rfl rfl rfl ?_
  refine SB.count ?_
  refine wpAny_Constant_str ?_
  refine ⟨_, _, rfl, ?_⟩
  refine PyProof.Rows.sub_int ?_
  refine args_nil ⟨by show 3 ≤ sizeLine; decide, ?_⟩
  intro h7 D e7 nD d7
  dsimp only at *
  have ecount : Txt.count (str text) (Str.ofString "\n") = (text.count 10 : Nat) := (count_cnt (str text) 10).trans (cnt_count 10 text)
  have eln : ln6 - Txt.count (str text) (Str.ofString "\n") = 1 - (r2.count 10 : Nat) := by rw [ecount]; omega
  rw [eln] at d7
  have X26 : XB [s.heap.objs.size, dx, a.pl] h2' h7 := (XB.of_ext e3).trans ((x4.mono (by simp)).trans ((x5.mono (by simp)).trans ((x6.mono (by simp)).trans (XB.of_ext e7))))
  have sdx : s.heap.get? dx = none := by
    cases e : s.heap.get? dx with
    | none => rfl
    | some o =>
      have nq : dx ≠ 154 := by
        rintro rfl
        obtain ⟨ps, hP, _⟩ := T2
        rw [hP] at ndx; cases ndx
      rw [x2 _ _ (nin1 nq) (e1 _ _ e)] at ndx; cases ndx
  have spl : s.heap.get? a.pl = none := fresh_le e1 (fr2 _ (by simp))
  have XF : XB [154] s.heap h7 := fun b o nb e => X26 b o (by
    intro m
    rcases List.mem_cons.mp m with rfl | m
    · rw [fr0] at e; cases e
    rcases List.mem_cons.mp m with rfl | m
    · rw [sdx] at e; cases e
    · rw [List.mem_singleton.mp m, spl] at e; cases e) (x2 b o nb (e1 _ _ e))
  refine h h7 _ D u5 u6 _ d7 ?_ XF
  refine T2.xb X26 ?_ ?_
  · intro m
    rcases List.mem_cons.mp m with e | m
    · exact L154 e.symm
    rcases List.mem_cons.mp m with e | m
    · obtain ⟨ps, hP, _⟩ := T2
      rw [← e, hP] at ndx; cases ndx
    · have hp := fr2 a.pl (by simp)
      rw [← List.mem_singleton.mp m] at hp
      obtain ⟨ps1, hP1, _⟩ := hT1
      rw [hP1] at hp; cases hp
  · intro c hc
    rcases List.mem_cons.mp hc with rfl | hc
    · exact .inr fun o vs e d => by rw [hoL2] at e; cases e; rw [hdL2] at d; cases d
    rcases List.mem_cons.mp hc with rfl | hc
    · exact .inl ndx
    · rw [List.mem_singleton.mp hc]
      refine .inr fun o vs e d => ?_
      obtain ⟨t, o', q, _, n, d'⟩ := S2.at_
      rw [e] at q; cases q; rw [d] at d'; cases d'
end
end Mine

open PySem PySem.W PySem.Calls PyProof.Rows
set_option Elab.async false
set_option maxRecDepth 1000000
set_option maxHeartbeats 0
set_option linter.unusedVariables false
namespace Mine
structure Turn (text seen : List Nat) (shown below : List (Nat × List Nat)) : Prop where
  t1 : ∃ r1, gtok text = some (textP 0 shown, r1) ∧ gtok r1 = some ([], [])
  t2 : ∃ r1, gtok seen = some (textP 1 below, r1) ∧ gtok r1 = some ([], [])
  un : ∃ f, undo f (textP 0 shown) [] = some (textP 0 below)
  pr : prep (textP 0 below) = textP 1 below
  z1 : text.length ≤ 1000000
  z2 : seen.length ≤ 1000000
  z3 : shown.length ≤ 500000
  z4 : below.length ≤ 500000
  w1 : ∀ p ∈ shown, p.2.length ≤ 8
  w2 : ∀ p ∈ below, p.2.length ≤ 8
  c1 : ∀ c ∈ textP 0 shown, c < 1114112
theorem text0_len : ∀ ps : List (Nat × List Nat), (textP 0 ps).length = ps.length
  | [] => rfl
  | p :: r => by
    show ([p.1] ++ textP 0 r).length = _
    rw [List.length_append, text0_len r]
    simp only [List.length_cons, List.length_nil]
    omega
theorem tab_tup {h : Heap} (T : TabOk h) (its) : ¬ h.IsTuple 154 its := by
  rintro ⟨o, e, c, _⟩
  obtain ⟨ps, hP, _⟩ := T
  rw [hP] at e; cases e; cases c
theorem tab_list {h : Heap} (T : TabOk h) (its) : ¬ h.IsList 154 its := by
  rintro ⟨o, e, c, _⟩
  obtain ⟨ps, hP, _⟩ := T
  rw [hP] at e; cases e; cases c
theorem Pairs.xb {h h' : Heap} {l L : Addr} {ps} {m} (x : Pairs h l ps) (T : TabOk h) (n : h.Ns L m) (e : XB [154, L] h h') : Pairs h' l ps := by
  obtain ⟨i, a, b⟩ := x
  refine ⟨i, plain_xb a e ?_, pairs_kt (Kt.xb e ?_) b⟩
  · intro q
    rcases List.mem_cons.mp q with rfl | q
    · exact tab_list T _ a.isList
    · exact ns_list n a.isList (List.mem_singleton.mp q)
  · intro c hc its ht
    rcases List.mem_cons.mp hc with rfl | hc
    · exact tab_tup T _ ht
    · exact ns_tup n ht (List.mem_singleton.mp hc)
section
variable {w : World} {s : Shared} {A : Around} {Q E : Value → Shared → Prop} {env : Env} {g : Heap}
theorem call2 {x : Str} {p1 pos : Pos} {f : Addr} {o : Obj} {fd : FuncData} {a1 a2 : Expr} (G : Gd w s.heap) (e : nsIn (KF w.params) mainGlobals x = some (some (.ref f))) (ho : (KF w.params).lookup f = some o) (hdat : o.data = .func fd)
    (hg : env.globals = mainGlobals) (hk : env.scope.kind = .function) (hx : env.kindOf x = some .globalImplicit) (hd : (x == ("__debug__" : Str)) = false)
    (hst : starEach [a1, a2] env = (false, eval a1 env) :: starEach [a2] env) (hst2 : starEach [a2] env = [(false, eval a2 env)]) (he : eval (.Call (.Name x p1) [a1, a2] [] pos) env = (do callWith pos (← eval (.Name x p1) env) [] (backTo pos (starEach [a1, a2] env)) (backToKw pos (keywordEach [] env))))
    (h : wpAny (MW w) A (eval a1 env) (fun v s₁ => wpAny (MW w) A (eval a2 env) (fun v2 s₂ => Ext s.heap s₂.heap ∧ wpAny (MW w) A (call (.ref f) [v, v2]) Q E s₂) E s₁) E s) : wpAny (MW w) A (eval (.Call (.Name x p1) [a1, a2] [] pos) env) Q E s := by
  refine Call_ (gnameE G e hg hk hx hd ?_) he
  refine callWith_def (o := o) (fd := fd) (e := a1) (rest := [a2]) hdat ?_ hst
  refine args_cons (wpAny_mono h (fun v s₁ h₁ => ?_) fun _ _ x => x) hst
  refine args_cons (wpAny_mono h₁ (fun v2 s₂ h₂ => ?_) fun _ _ x => x) hst2
  exact args_nil ⟨h₂.1 _ _ (look_fn G ho), h₂.2⟩
theorem ne3 {a b : Addr} {x y : Str} {n : Int} {t1 t2 t3 u1 u2 u3 : Tok} (ha : s.heap.PlainList a #[.str x t1, .str y t2, .int n t3]) (hb : s.heap.PlainList b #[.str x u1, .str y u2, .int n u3]) (hu : A.units < cLine)
    (h : Q (.bool false) s) : wpAny (MW w) A (compareOp .NotEq (.ref a) (.ref b)) Q E s := by
  refine PySem.EqBoolInt.of_rcne (SeqAt.RcNeAt.lists (e := fun _ => true) ha.isList hb.isList rfl hu ?_) ?_
  · intro j h1 h2
    have : j < 3 := h1
    rcases (by omega : j = 0 ∨ j = 1 ∨ j = 2) with rfl | rfl | rfl
    · have := SeqAt.EqAt.str_str (A := A.in1) (s := s) x t1 x u1
      simpa using this
    · have := SeqAt.EqAt.str_str (A := A.in1) (s := s) y t2 y u2
      simpa using this
    · have := SeqAt.EqAt.int_int (A := A.in1) (s := s) n t3 n u3
      simpa using this
  · have : (!(List.range (#[Value.str x t1, .str y t2, .int n t3] : Array Value).size).all fun _ => true) = false := by simp
    rw [this]; exact h
end
end Mine

open PySem PySem.W PySem.Calls PyProof.Rows
set_option Elab.async false
set_option maxRecDepth 1000000
set_option maxHeartbeats 0
set_option linter.unusedVariables false
namespace Mine
noncomputable def turnBody : List Stmt := match nthS (sBody fd_law) 9 with | .For _ _ bd _ _ => bd | _ => []
section
variable {w : World} {s : Shared} {A : Around} {QF : Flow → Shared → Prop} {E : Value → Shared → Prop} {g : Heap}
theorem con_turn {L : Addr} {m : Str → Option Value} {so be : Addr} {text seen : List Nat} {shown below : List (Nat × List Nat)} {u1 u2 : Tok}
    (Gg : Gd w g) (eg : Ext g s.heap) (hgP : g.get? 154 = none) (hgL : g.get? L = none) (L154 : L ≠ 154) (hT : TabOk s.heap) (hA : A.handled = none) (hr : A.depth + 6 < recursionLimit) (hu : A.units < cLine)
    (hn : s.heap.Ns L m) (m1 : m (Str.ofString "text") = some (.str (str text) u1)) (m2 : m (Str.ofString "seen") = some (.str (str seen) u2))
    (m3 : m (Str.ofString "shown") = some (.ref so)) (m4 : m (Str.ofString "below") = some (.ref be)) (hso : Pairs s.heap so shown) (hbe : Pairs s.heap be below)
    (ht : Turn text seen shown below)
    (h : ∀ h' tk' m' v1 v2, h'.Ns L m' → m' (Str.ofString "text") = some (.str (str (textP 0 below)) v1) → m' (Str.ofString "seen") = some (.str (str (textP 1 below)) v2) → (∀ y, y ≠ Str.ofString "text" → y ≠ Str.ofString "seen" → y ≠ Str.ofString "word" → m' y = m y) →
      TabOk h' → XB [154, L] s.heap h' → QF .next { s with heap := h', toks := tk' }) :
    wpAny (MW w) A (execs turnBody (envOfC (Str.ofString "law") (sScope fd_law) L 215 (.ref 214))) QF E s := by
  conv in turnBody => whnf
  have G := Gg.keeps eg
  have gL : ∀ b ∈ [154, L], g.get? b = none := by
    intro b hb
    rcases List.mem_cons.mp hb with rfl | hb
    · exact hgP
    · rw [List.mem_singleton.mp hb]; exact hgL
  have LL : L ∈ [154, L] := .tail _ (.head _)
  have keepT : ∀ {h1 h2 : Heap} {m'}, TabOk h1 → h1.Ns L m' → XB [L] h1 h2 → TabOk h2 := by
    intro h1 h2 m' t n x
    refine t.xb x (nin1 (Ne.symm L154)) ?_
    intro c hc
    rw [List.mem_singleton.mp hc]
    obtain ⟨o, es, ep, a, d, _⟩ := n
    exact .inr fun o' vs e d' => by rw [a] at e; cases e; rw [d] at d'; cases d'
  have w1' := ht.w1
  have w2' := ht.w2
  -- word
  refine wpAny_execs_cons ?_
  refine wpAny_Assign_Name ?_
  refine call2 G (g_law_text _) (o := o193 w.params) (by kernel_rfl) rfl rfl rfl rfl rfl rfl rfl rfl ?_
  refine ldN hn m3 rfl rfl rfl ?_
  refine wpAny_Constant_int ?_
  refine ⟨Ext.refl _, ?_⟩
  refine con_text (s := { s with toks := s.toks + 1 }) (c := 0) G hA (by omega) (by decide) _ hso ht.z3 w1' ?_
  rintro v h1 tk1 ⟨u3, rfl⟩ e1
  dsimp only at *
  have n1 := e1.ns hn
  have T1 := hT.xb (XB.of_ext (bs := []) e1) (by simp) (by simp)
  refine stNC n1 ?_
  intro h2 n2 x2
  dsimp only at *
  have T2 := keepT T1 n1 x2
  have X2 : XB [154, L] s.heap h2 := (XB.of_ext e1).trans (x2.in LL)
  have eg2 := eg.xb X2 gL
  have G2 := Gg.keeps eg2
  -- reads
  refine wpAny_execs_cons ?_
  refine wpAny_If ?_
  refine wpAny_isTrue_BoolOp ?_
  refine wpAny_allTrue_Or_cons ?_
  refine wpAny_isTrue_Compare1 ?_
  refine call1 G2 (g_law_read _) (o := o205 w.params) (by kernel_rfl) rfl rfl rfl rfl rfl rfl rfl ?_
  refine ldN n2 (m := fun y => if y = Str.ofString "word" then some (.str (str (textP 0 shown)) u3) else m y) m1 rfl rfl rfl ?_
  refine ⟨Ext.refl _, ?_⟩
  obtain ⟨r1, ha, hb⟩ := ht.t1
  refine con_read Gg eg2 hgP T2 hA hr ht.z1 _ ha hb ?_
  intro h3 tk3 D3 a1 a2 a3 d3 T3 x3
  dsimp only at *
  have n3 := ns_xb n2 x3 (nin1 L154)
  refine ListE ?_
  refine wpAny_items_cons ?_ rfl
  refine ldN n3 rfl rfl rfl rfl ?_
  refine wpAny_items_cons ?_ rfl
  refine wpAny_Constant_str ?_
  refine wpAny_items_cons ?_ rfl
  refine wpAny_Constant_int ?_
  refine args_nil ⟨by show 3 ≤ sizeLine; decide, ?_⟩
  intro h4 D4 e4 nD4 d4
  dsimp only at *
  refine ne3 (e4.plain d3) d4 hu ?_
  refine wpAny_truthy_bool ?_
  refine wpAny_allTrue_Or_cons ?_
  have n4 := e4.ns n3
  have T4 := T3.xb (XB.of_ext (bs := []) e4) (by simp) (by simp)
  have X4 : XB [154, L] s.heap h4 := X2.trans ((x3.in (.head _)).trans (XB.of_ext e4))
  have eg4 := eg.xb X4 gL
  have G4 := Gg.keeps eg4
  refine wpAny_isTrue_Compare1 ?_
  refine call1 G4 (g_law_read _) (o := o205 w.params) (by kernel_rfl) rfl rfl rfl rfl rfl rfl rfl ?_
  refine ldN n4 m2 rfl rfl rfl ?_
  refine ⟨Ext.refl _, ?_⟩
  obtain ⟨r2, ha', hb'⟩ := ht.t2
  refine con_read Gg eg4 hgP T4 hA hr ht.z2 _ ha' hb' ?_
  intro h5 tk5 D5 b1 b2 b3 d5 T5 x5
  dsimp only at *
  have n5 := ns_xb n4 x5 (nin1 L154)
  have X5 : XB [154, L] s.heap h5 := X4.trans (x5.in (.head _))
  have eg5 := eg.xb X5 gL
  have G5 := Gg.keeps eg5
  have hbe5 := hbe.xb hT hn X5
  refine ListE ?_
  refine wpAny_items_cons ?_ rfl
  refine call2 G5 (g_law_text _) (o := o193 w.params) (by kernel_rfl) rfl rfl rfl rfl rfl rfl rfl rfl ?_
  refine ldN n5 m4 rfl rfl rfl ?_
  refine wpAny_Constant_int ?_
  refine ⟨Ext.refl _, ?_⟩
  refine con_text (c := 1) G5 hA (by omega) (by decide) _ hbe5 ht.z4 w2' ?_
  rintro v h6 tk6 ⟨u6, rfl⟩ e6
  dsimp only at *
  refine wpAny_items_cons ?_ rfl
  refine wpAny_Constant_str ?_
  refine wpAny_items_cons ?_ rfl
  refine wpAny_Constant_int ?_
  refine args_nil ⟨by show 3 ≤ sizeLine; decide, ?_⟩
  intro h7 D7 e7 nD7 d7
  dsimp only at *
  have e57 := e6.trans e7
  refine ne3 (e57.plain d5) d7 hu ?_
  refine wpAny_truthy_bool ?_
  refine wpAny_allTrue_Or_nil ?_
  refine wpAny_execs_nil ?_
  dsimp only
  have n7 := e57.ns n5
  have T7 := T5.xb (XB.of_ext (bs := []) e57) (by simp) (by simp)
  have X7 : XB [154, L] s.heap h7 := X5.trans (XB.of_ext e57)
  have eg7 := eg.xb X7 gL
  have G7 := Gg.keeps eg7
  -- text
  refine wpAny_execs_cons ?_
  refine wpAny_Assign_Name ?_
  refine call1 G7 (g_law_undone _) (o := o210 w.params) (by kernel_rfl) rfl rfl rfl rfl rfl rfl rfl ?_
  refine ldN n7 rfl rfl rfl rfl ?_
  refine ⟨Ext.refl _, ?_⟩
  obtain ⟨f0, hun⟩ := ht.un
  refine con_undone G7 hA (by omega) _ (by rw [text0_len]; have := ht.z3; omega) ht.c1 hun _ ?_
  rintro v h8 tk8 ⟨u8, rfl⟩ e8
  dsimp only at *
  have n8 := e8.ns n7
  have T8 := T7.xb (XB.of_ext (bs := []) e8) (by simp) (by simp)
  refine stNC n8 ?_
  intro h9 n9 x9
  dsimp only at *
  have T9 := keepT T8 n8 x9
  have X9 : XB [154, L] s.heap h9 := X7.trans ((XB.of_ext e8).trans (x9.in LL))
  have eg9 := eg.xb X9 gL
  have G9 := Gg.keeps eg9
  -- seen
  refine wpAny_execs_cons ?_
  refine wpAny_Assign_Name ?_
  refine call2 G9 (g_law_text _) (o := o193 w.params) (by kernel_rfl) rfl rfl rfl rfl rfl rfl rfl rfl ?_
  refine ldN n9 m4 rfl rfl rfl ?_
  refine wpAny_Constant_int ?_
  refine ⟨Ext.refl _, ?_⟩
  refine con_text (c := 1) G9 hA (by omega) (by decide) _ (hbe.xb hT hn X9) ht.z4 w2' ?_
  rintro v h10 tk10 ⟨u10, rfl⟩ e10
  dsimp only at *
  have n10 := e10.ns n9
  have T10 := T9.xb (XB.of_ext (bs := []) e10) (by simp) (by simp)
  refine stNC n10 ?_
  intro h11 n11 x11
  dsimp only at *
  have T11 := keepT T10 n10 x11
  have X11 : XB [154, L] s.heap h11 := X9.trans ((XB.of_ext e10).trans (x11.in LL))
  have eg11 := eg.xb X11 gL
  have G11 := Gg.keeps eg11
  -- the test
  refine wpAny_execs_cons ?_
  refine wpAny_If ?_
  refine wpAny_isTrue_BoolOp ?_
  refine wpAny_allTrue_Or_cons ?_
  refine wpAny_isTrue_Compare1 ?_
  refine ldN n11 rfl rfl rfl rfl ?_
  refine call2 G11 (g_law_text _) (o := o193 w.params) (by kernel_rfl) rfl rfl rfl rfl rfl rfl rfl rfl ?_
  refine ldN n11 m4 rfl rfl rfl ?_
  refine wpAny_Constant_int ?_
  refine ⟨Ext.refl _, ?_⟩
  refine con_text (c := 0) G11 hA (by omega) (by decide) _ (hbe.xb hT hn X11) ht.z4 w2' ?_
  rintro v h12 tk12 ⟨u12, rfl⟩ e12
  dsimp only at *
  refine PyProof.Rows.ne_str ?_
  rw [bne_self_eq_false]
  refine wpAny_truthy_bool ?_
  refine wpAny_allTrue_Or_cons ?_
  have n12 := e12.ns n11
  have G12 := G11.keeps e12
  refine wpAny_isTrue_Compare1 ?_
  refine call1 G12 (g_law_prepared _) (o := o198 w.params) (by kernel_rfl) rfl rfl rfl rfl rfl rfl rfl ?_
  refine ldN n12 rfl rfl rfl rfl ?_
  refine ⟨Ext.refl _, ?_⟩
  refine con_prep G12 hA (by omega) _ (by rw [text0_len]; have := ht.z4; omega) _ ?_
  rintro v h13 tk13 ⟨u13, rfl⟩ e13
  dsimp only at *
  refine ldN (e13.ns n12) rfl rfl rfl rfl ?_
  refine PyProof.Rows.ne_str ?_
  rw [ht.pr, bne_self_eq_false]
  refine wpAny_truthy_bool ?_
  refine wpAny_allTrue_Or_nil ?_
  refine wpAny_execs_nil ?_
  dsimp only
  refine wpAny_execs_nil ?_
  have e11 := e12.trans e13
  refine h _ _ _ _ _ (e11.ns n11) rfl rfl ?_ (T11.xb (XB.of_ext (bs := []) e11) (by simp) (by simp)) (X11.trans (XB.of_ext e11))
  intro y y1 y2 y3
  simp only [if_neg y1, if_neg y2, if_neg y3]
end
end Mine

open PySem PySem.W PySem.Calls PyProof.Rows
set_option Elab.async false
set_option maxRecDepth 1000000
set_option maxHeartbeats 0
set_option linter.unusedVariables false
namespace Mine
section
variable {w : World} {s : Shared} {A : Around} {Q E : Value → Shared → Prop} {env : Env}
theorem compHA {elt iter : Expr} {x y : Str} {px py : Pos} {spos : Pos} {QF : Flow → Shared → Prop} {ifs : List Expr} {scope : Scope} {cl : List (Str × Addr)} {pos : Pos} (p : Value → Bool) (F : Heap → Value → Value → Prop)
    (hF : ∀ h h' v y, Kt h h' → F h v y → F h' v y)
    (hclos : closureFor scope env = pure cl) (hcell : ∀ y ∈ scope.names, y.2 ≠ .cell) (hsw : swapsWith (.ListComp elt [⟨.Name x px, iter, ifs, 0⟩] scope pos) (some (.Name y py)) spos.line env = pure true) (hy : env.kindOf y = some .local) (hp : (env.scope.kind == .class || (env.scope.kind == .module && env.locals != env.globals)) = false) (hkind : scope.kind = .function)
    (hnames : ∀ y ∈ scope.names, y.2 = .local → scope.names.lookup y.1 = some .local) (hx : scope.names.lookup x = some .local)
    (h : wpAny (MW w) A (eval iter env) (fun xv s₁ => wpAny (MW w) A (pyIter xv) (fun it s₂ => ∃ I fp wr n P St mL, it = .ref I ∧ Walks pwp w A I fp wr n P St ∧ n ≤ sizeLine ∧
      (∀ i h, St i h → ∀ b ∈ wr, ∀ items, ¬ h.IsTuple b items) ∧ St 0 s₂.heap ∧ (∀ b ∈ fp, b < s₂.heap.objs.size) ∧
      env.locals ∉ wr ∧ s₂.heap.Ns env.locals mL ∧ QuietH w A env scope cl x ifs elt wr P p F s₂.heap ∧
      (∀ D h' tk ys (vs : List Value), s₂.heap.get? D = none → h'.PlainList D ys → vs.length = n → (∀ j v, vs[j]? = some v → P j v) → Paired (F h') (vs.filter p) ys.toList →
        h'.Ns env.locals (fun z => if z = y then some (.ref D) else mL z) → XB (env.locals :: wr) s₂.heap h' → QF .next { s₂ with heap := h', toks := tk })) E s₁) E s)
    (hs : ∀ x, foldedSetIterable iter env x = pure x := by intro _; rfl) :
    wpAny (MW w) A (exec (.Assign [.Name y py] (.ListComp elt [⟨.Name x px, iter, ifs, 0⟩] scope pos) spos) env) QF E s := by
  rw [exec_Assign_Name_used _ _ _ _ hsw]
  refine wpAny_bind (wpAny_standAt (wpAny_bind ?_))
  show wpAny _ A (do let _ ← comprehension (.ListComp elt [⟨.Name x px, iter, ifs, 0⟩] scope pos) scope env _ (newList []) false (eval iter env) (some (assign (.Name y py) env))) _ _ s
  refine wpAny_bind (wpAny_mono (wpAny_comprehension_free (use := some (assign (.Name y py) env)) (Q := fun _ s' => QF .next s') rfl hs hclos hkind hnames
    (wpAny_mono h (fun xv s₁ h₁ => wpAny_mono h₁ (fun it s₂ h₂ => ?_) fun _ _ e => e) fun _ _ e => e)) (fun _ s' hq => wpAny_pure (wpAny_pure hq)) fun _ _ e => e)
  obtain ⟨I, fp, wr, n, P, St, mL, rfl, W, hsz, hlive, hst, hfp, hLw, hnL, hq, hQ⟩ := h₂
  refine compCore p F hF hcell hkind hx W hsz hlive hst hfp hq ?_
  intro C D h₃ tk₃ ys vs m' nC2 nD hC2 pl' n3 hin hP hPair hX rv
  have hLC : env.locals ≠ C := by
    rintro e; obtain ⟨o, _, _, ho, _⟩ := hnL; rw [e, nC2] at ho; cases ho
  have hLD : env.locals ≠ D := by
    rintro e; obtain ⟨o, _, _, ho, _⟩ := hnL; rw [e, nD] at ho; cases ho
  have nL3 := ns_xb hnL hX (by
    intro m
    rcases List.mem_cons.mp m with e | m
    · exact hLC e
    rcases List.mem_cons.mp m with e | m
    · exact hLD e
    · exact hLw m)
  show wpAny _ A (assign (.Name y py) env (.ref D)) _ _ _
  refine wpAny_assign_Name (wpAny_storeName_local hy nL3 (fun h₄ hn₄ hs₄ => ?_) hp)
  have x4 : XB [env.locals] h₃ h₄ := XB.same hs₄
  have n4 := n3.sameBut hs₄ (Ne.symm hLC)
  refine ⟨m', n4, fun h₅ sb5 => ?_⟩
  have x5 : XB [C] h₄ h₅ := XB.same sb5
  have pl5 := plain_xb (plain_xb pl' x4 (nin1 (Ne.symm hLD))) x5 (nin1 hC2)
  refine hQ D h₅ _ ys vs nD pl5 hin hP (pairedH hF ((Kt.ns x4 nL3).trans (Kt.ns x5 n4)) hPair) (ns_xb hn₄ x5 (nin1 hLC)) ?_
  intro b o hb e
  have XX : XB (env.locals :: C :: D :: wr) s₂.heap h₅ := (hX.mono fun b hb => .tail _ hb).trans ((x4.in (.head _)).trans (x5.in (.tail _ (.head _))))
  refine XX b o ?_ e
  intro m
  rcases List.mem_cons.mp m with rfl | m
  · exact hb (.head _)
  rcases List.mem_cons.mp m with rfl | m
  · rw [nC2] at e; cases e
  rcases List.mem_cons.mp m with rfl | m
  · rw [nD] at e; cases e
  · exact hb (.tail _ m)
theorem compPRA {elt iter : Expr} {x y : Str} {px py : Pos} {spos : Pos} {QF : Flow → Shared → Prop} {mL : Str → Option Value} {scope : Scope} {cl : List (Str × Addr)} {pos : Pos} {n : Nat} (f : Nat → Nat × List Nat)
    (hA : A.handled = none) (hsz : n ≤ sizeLine) (hnL : s.heap.Ns env.locals mL)
    (hiter : ∀ K : Value → Shared → Prop, (∀ I h' tk, Ext s.heap h' → s.heap.get? I = none → IsRangeIter h' I 0 n 1 → K (.ref I) { s with heap := h', toks := tk }) → wpAny (MW w) A (eval iter env) (fun xv s₁ => wpAny (MW w) A (pyIter xv) K E s₁) E s)
    (helt : ∀ C i u s₃ m₃ E', i < n → Ext s.heap s₃.heap → s₃.heap.Ns C m₃ → m₃ x = some (.int (i : Nat) u) → wpAny (MW w) A (eval elt (compEnvC scope cl C env)) (fun y s₄ => PairAt s₄.heap y (f i) ∧ Keeps s₃ s₄) E' s₃)
    (hQ : ∀ D h' tk ys, s.heap.get? D = none → h'.PlainList D ys → Paired (PairAt h') ys.toList ((List.range n).map f) → h'.Ns env.locals (fun z => if z = y then some (.ref D) else mL z) → XB [env.locals] s.heap h' → QF .next { s with heap := h', toks := tk })
    (hclos : closureFor scope env = pure cl) (hcell : ∀ y ∈ scope.names, y.2 ≠ .cell) (hsw : swapsWith (.ListComp elt [⟨.Name x px, iter, [], 0⟩] scope pos) (some (.Name y py)) spos.line env = pure true) (hy : env.kindOf y = some .local) (hp : (env.scope.kind == .class || (env.scope.kind == .module && env.locals != env.globals)) = false) (hkind : scope.kind = .function)
    (hnames : ∀ y ∈ scope.names, y.2 = .local → scope.names.lookup y.1 = some .local) (hx : scope.names.lookup x = some .local)
    (hs : ∀ x, foldedSetIterable iter env x = pure x := by intro _; rfl) :
    wpAny (MW w) A (exec (.Assign [.Name y py] (.ListComp elt [⟨.Name x px, iter, [], 0⟩] scope pos) spos) env) QF E s := by
  refine compHA (fun _ => true) (HF IntV f) HF.kt hclos hcell hsw hy hp hkind hnames hx ?_ hs
  refine hiter _ ?_
  intro I h₁ tk₁ e1 hI hit
  have ex : ∀ h', XB [I] h₁ h' → Ext s.heap h' := fun h' y => e1.st y hI
  have W0 := Walks.range (prog := pwp) (w := w) hA I 0 1 n
  have W1 : Walks pwp w A I [I] [I] n (fun i v => i < n ∧ ∃ t, v = .int (0 + i * 1) t) (fun i h => IsRangeIter h I (0 + (i : Nat) * 1) ((n : Int) - (i : Nat)) 1) :=
    { W0 with item := fun i s Q E hi st hQ => W0.item i s Q E hi st (fun v h' tk hp => hQ v h' tk ⟨hi, hp⟩) }
  have ei : ∀ i : Nat, (0 : Int) + (i : Int) * 1 = (i : Int) := fun i => by omega
  have hLI : env.locals ≠ I := by rintro e; obtain ⟨o, _, _, ho, _⟩ := hnL; rw [e, hI] at ho; cases ho
  refine ⟨_, _, _, _, _, _, _, rfl, W1, hsz, ?_, ?_, ?_, nin1 hLI, e1.ns hnL, ⟨?_, ?_⟩, ?_⟩
  · intro i h hs b hb items
    rw [List.mem_singleton.mp hb]
    rintro ⟨o', a', b', k, c'⟩
    rw [hs] at a'; cases a'; cases c'
  · have e1 : (0 + ((0 : Nat) : Int) * 1) = 0 := by simp
    have e2 : ((n : Int) - ((0 : Nat) : Int)) = n := by simp
    rw [e1, e2]; exact hit
  · intro b hb
    rw [List.mem_singleton.mp hb]
    exact Heap.lt_size hit
  · intro C i v s₃ m₃ E' hP hn hm hX
    exact wpAny_tests_nil ⟨rfl, _, _, rfl, fun _ _ e => e⟩
  · intro C i v s₃ m₃ E' hP _ hn hm hX
    obtain ⟨hi, t, rfl⟩ := hP
    rw [ei] at hm ⊢
    refine wpAny_mono (helt C i t s₃ m₃ E' hi (ex _ hX) hn hm) (fun y s₄ h4 => ⟨?_, h4.2⟩) fun _ _ e => e
    rintro c' ⟨u', e⟩
    have : i = c' := Int.ofNat.inj (Value.int.inj e).1
    rw [← this]; exact h4.1
  · intro D h' tk ys vs hD hpl hlen hP hF hNs hX
    rw [filter_tt] at hF
    refine hQ D h' tk ys (fresh_le e1 hD) hpl ?_ hNs (fun b o hb e => hX b o (by
      intro m
      rcases List.mem_cons.mp m with rfl | m
      · exact hb (.head _)
      · rw [List.mem_singleton.mp m, hI] at e; cases e) (e1 _ _ e))
    exact paired_pairs (fun v c y h1 h2 => h2 c h1) (rangeOf hlen (fun j v hv => (hP j v hv).2)) hF
end
end Mine

open PySem PySem.W PySem.Calls PyProof.Rows
set_option Elab.async false
set_option maxRecDepth 1000000
set_option maxHeartbeats 0
set_option linter.unusedVariables false
namespace Mine
theorem ns_titer {h : Heap} {L it l : Addr} {i : Nat} {m} (n : h.Ns L m) (x : h.IsTupleIter it l i) : it ≠ L := by
  rintro rfl
  obtain ⟨o, es, ep, a, d, _⟩ := n
  obtain ⟨o', a', _, d'⟩ := x
  rw [a] at a'; cases a'; rw [d] at d'; cases d'
theorem tup_titer {h : Heap} {it l ll : Addr} {i : Nat} {items : Array Value} (n : h.IsTuple l items) (x : h.IsTupleIter it ll i) : l ≠ it := by
  rintro rfl
  obtain ⟨o, a, _, k, d⟩ := n
  obtain ⟨o', a', _, d'⟩ := x
  rw [a] at a'; cases a'; rw [d] at d'; cases d'
theorem titer_xb {bs : List Addr} {h h' : Heap} {t l : Addr} {i : Nat} (x : h.IsTupleIter t l i) (e : XB bs h h') (hb : t ∉ bs) : h'.IsTupleIter t l i := let ⟨o, ho, r⟩ := x; ⟨o, e t o hb ho, r⟩
theorem TabOk.titer {h h' : Heap} {b l : Addr} {i : Nat} (T : TabOk h) (hi : h.IsTupleIter b l i) (e : XB [b] h h') : TabOk h' := by
  obtain ⟨ps, hP, r⟩ := T
  obtain ⟨o, ho, hc, hd⟩ := hi
  refine ⟨ps, e _ _ (nin1 ?_) hP, ?_⟩
  · rintro rfl
    rw [hP] at ho; cases ho; cases hc
  rcases r with rfl | ⟨c1, c2, rfl, a, b', n1, n2⟩
  · exact .inl rfl
  · have ne : ∀ {c : Addr} {q : Str}, h.CodeRec (.ref c) q → c ∉ [b] := by
      intro c q ⟨_, o', vs, t, e1, a, d, hv⟩ m
      cases e1
      rw [List.mem_singleton.mp m, ho] at a
      cases a
      rw [hd] at d; cases d; cases hv
    exact .inr ⟨c1, c2, rfl, codeRec_xb a e (ne a), codeRec_xb b' e (ne b'), n1, n2⟩
section
variable {w : World} {s : Shared} {A : Around} {Q E : Value → Shared → Prop} {env : Env}
theorem forTT {EE : Value → Shared → Prop} {QF : Flow → Shared → Prop} {xa xb : Str} {pa pb pt : Pos} {x1 : Nat} {body : List Stmt} {l : Addr} {items : Array Value} {m : Str → Option Value} (wr : List Addr)
    (P : Nat → Value → Value → Prop) (J : Nat → Heap → (Str → Option Value) → Prop)
    (hh : A.handled = none) (hxa : env.kindOf xa = some .local) (hxb : env.kindOf xb = some .local) (hp : (env.scope.kind == .class || (env.scope.kind == .module && env.locals != env.globals)) = false)
    (hE : PassesOwn (MW w) A env EE)
    (hwr : ∀ b ∈ wr, b < s.heap.objs.size) (hLw : env.locals ∈ wr) (hlw : l ∉ wr)
    (hl : s.heap.IsTuple l items) (hn : s.heap.Ns env.locals m)
    (hT : ∀ i v, items[i]? = some v → ∃ t v0 v1, v = .ref t ∧ s.heap.IsTuple t #[v0, v1] ∧ t ∉ wr ∧ P i v0 v1)
    (h0 : ∀ h', Ext s.heap h' → J 0 h' m)
    (hst : ∀ i h h' m b, (b = env.locals ∨ (s.heap.get? b = none ∧ (h.get? b = none ∨ ∃ l k, h.IsTupleIter b l k))) → XB [b] h h' → h.Ns env.locals m → J i h m → J i h' m)
    (step : ∀ i v0 v1 m₁ h tk, i < items.size → P i v0 v1 → XB wr s.heap h → h.IsTuple l items → h.Ns env.locals (fun y => if y = xb then some v1 else if y = xa then some v0 else m₁ y) → J i h m₁ →
      wpAny (MW w) A (execs body env) (fun f s₂ => match f with
        | .next | .cont => ∃ h' tk' m₂, s₂ = { s with heap := h', toks := tk' } ∧ XB wr h h' ∧ h'.Ns env.locals m₂ ∧ J (i + 1) h' m₂
        | .ret v => QF (.ret v) s₂
        | .brk => False) EE { s with heap := h, toks := tk })
    (hQ : ∀ h' tk m', XB wr s.heap h' → h'.Ns env.locals m' → J items.size h' m' → QF .next { s with heap := h', toks := tk })
    (hab : xa ≠ xb) :
    wpAny (MW w) A (pyIter (.ref l)) (fun it s₂ => codeAny (MW w) A (.forLoop (.Tuple [.Name xa pa, .Name xb pb] x1 pt) it body [] env) (fun r s' => match r with | .ok f => QF f s' | .error e => cameBackBy (MW w) A env EE e s') s₂) EE s := by
  refine wpAny_pyIter_tuple hl ?_
  have hI : s.heap.objs.size ∉ wr := fun q => Nat.lt_irrefl _ (hwr _ q)
  have fr : s.heap.get? s.heap.objs.size = none := none_of_size
  have e0 : Ext s.heap (s.heap.push { cls := .type "tuple_iterator", data := .fields #[.ref l, .int 0 0] }) := Ext.push _
  generalize hI' : s.heap.objs.size = I at *
  refine codeAny_forLoop_any (fun k s' => ∃ h' tk m' i, s' = { s with heap := h', toks := tk } ∧ XB wr s.heap h' ∧ h'.IsTupleIter I l i ∧ h'.IsTuple l items ∧ h'.Ns env.locals m' ∧ J i h' m' ∧ i ≤ items.size ∧ k = items.size + 1 - i) ?_ (items.size + 1)
    ⟨_, s.toks, m, 0, rfl, XB.of_ext e0, ⟨_, by rw [← hI']; exact Heap.get?_push_size _ rfl, rfl, rfl⟩, let ⟨o, a, b⟩ := hl; ⟨o, e0 _ _ a, b⟩, let ⟨o, es, ep, a, b⟩ := hn; ⟨o, es, ep, e0 _ _ a, b⟩, h0 _ e0, Nat.zero_le _, rfl⟩
  rintro k s' ⟨h', tk, m', i, rfl, hX, hit', hl', hn', hJ, hi, rfl⟩
  have hIL : I ≠ env.locals := ns_titer hn' hit'
  have hlI : l ≠ I := tup_titer hl' hit'
  have hlL : l ≠ env.locals := ns_tup hn' hl'
  have xI : ∀ {b : Addr} {h₁ h₂ : Heap}, s.heap.get? b = none → XB [b] h₁ h₂ → XB wr s.heap h₁ → XB wr s.heap h₂ := fun fb a b c o nc q => a c o (fun q' => by rw [List.mem_singleton.mp q'] at q; rw [fb] at q; cases q) (b c o nc q)
  cases hv : items[i]? with
  | none =>
    have hsz : i = items.size := Nat.le_antisymm hi (by simpa using hv)
    refine wpAny_pyNext_tuple_end hh hit' hl' hv fun h₁ he₁ => wpAny_execs_nil ?_
    have x1 := XB.one he₁
    exact hQ h₁ tk m' (xI fr x1 hX) (ns_xb hn' x1 (by simpa using Ne.symm hIL)) (hsz ▸ hst i h' h₁ m' I (.inr ⟨fr, .inr ⟨_, _, hit'⟩⟩) x1 hn' hJ)
  | some v =>
    have hlt : i < items.size := (Array.getElem?_eq_some_iff.mp hv).1
    obtain ⟨T, v0, v1, rfl, hTs, hTw, hP⟩ := hT i v hv
    refine wpAny_pyNext_tuple_item hit' hl' hv fun h₁ hit₁ hs₁ => ?_
    have x1 : XB [I] h' h₁ := XB.same hs₁
    have n1 := ns_xb hn' x1 (by simpa using Ne.symm hIL)
    have j1 := hst i h' h₁ m' I (.inr ⟨fr, .inr ⟨_, _, hit'⟩⟩) x1 hn' hJ
    have l1 := tup_xb hl' x1 (by simpa using hlI)
    have X1 := xI fr x1 hX
    have t1 : h₁.IsTuple T #[v0, v1] := tup_xb hTs X1 hTw
    refine letGo_tupleiter hit₁ ?_
    refine wpAny_assign_Tuple hh t1 rfl rfl fun h₂ hx₂ => ?_
    dsimp only at hx₂
    have x2 : XB [h₁.objs.size] h₁ h₂ := XB.one hx₂
    have fz : h₁.get? h₁.objs.size = none := none_of_size
    have e2 : Ext h₁ h₂ := fun b o q => x2 b o (fun q' => by rw [List.mem_singleton.mp q'] at q; rw [fz] at q; cases q) q
    have fz0 : s.heap.get? h₁.objs.size = none := by
      cases q : s.heap.get? h₁.objs.size with
      | none => rfl
      | some o =>
        have hw : h₁.objs.size ∉ wr := fun q' => by
          have h1 := hwr _ q'
          obtain ⟨o', ho', _⟩ := hit₁
          have h2 := Heap.lt_size ho'
          exact absurd h1 (Nat.not_lt.mpr (Nat.le_of_lt h2))
        have := X1 _ _ hw q
        rw [fz] at this; cases this
    have n2 := ns_xb n1 x2 (by simpa using Nat.ne_of_lt (Heap.Ns.lt n1))
    have j2 := hst i h₁ h₂ m' _ (.inr ⟨fz0, .inl fz⟩) x2 n1 j1
    have l2 : h₂.IsTuple l items := let ⟨o, a, b⟩ := l1; ⟨o, e2 _ _ a, b⟩
    have it2 : h₂.IsTupleIter I l (i + 1) := let ⟨o, a, b⟩ := hit₁; ⟨o, e2 _ _ a, b⟩
    have X2 := xI fz0 x2 X1
    show wpAny _ A (do holding [v1] (assign (.Name xa pa) env v0); do holding [] (assign (.Name xb pb) env v1); pure ()) _ _ _
    refine wpAny_bind (wpAny_holding (wpAny_assign_Name (wpAny_storeName_local hxa n2 (fun h₃ hn₃ hs₃ => ?_) hp)))
    have x3 : XB [env.locals] h₂ h₃ := XB.same hs₃
    have j3 := hst i h₂ h₃ m' env.locals (.inl rfl) x3 n2 j2
    refine wpAny_bind (wpAny_holding (wpAny_assign_Name (wpAny_storeName_local hxb hn₃ (fun h₄ hn₄ hs₄ => wpAny_pure ?_) hp)))
    have x4 : XB [env.locals] h₃ h₄ := XB.same hs₄
    have j4 := hst i h₂ h₄ m' env.locals (.inl rfl) (x3.trans x4) n2 j2
    have X4 : XB wr s.heap h₄ := (X2.trans (x3.in hLw)).trans (x4.in hLw)
    refine wpAny_mono (wpAny_passesOwn hE (step i v0 v1 m' h₄ _ hlt hP X4 (tup_xb l2 (x3.trans x4) (by simpa using hlL)) hn₄ j4)) (fun f s₃ h₃ => ?_) fun _ _ e => e
    have fin : (∃ h' tk' m₂, s₃ = { s with heap := h', toks := tk' } ∧ XB wr h₄ h' ∧ h'.Ns env.locals m₂ ∧ J (i + 1) h' m₂) → ∃ m_1, m_1 < items.size + 1 - i ∧ ∃ h' tk m' i, s₃ = { s with heap := h', toks := tk } ∧ XB wr s.heap h' ∧ h'.IsTupleIter I l i ∧ h'.IsTuple l items ∧ h'.Ns env.locals m' ∧ J i h' m' ∧ i ≤ items.size ∧ m_1 = items.size + 1 - i := by
      rintro ⟨h₅, tk₅, m₅, rfl, x5, n5, j5⟩
      exact ⟨items.size + 1 - (i + 1), by omega, h₅, tk₅, m₅, i + 1, rfl, X4.trans x5, titer_xb (titer_xb it2 (x3.trans x4) (by simpa using hIL)) x5 hI, tup_xb (tup_xb l2 (x3.trans x4) (by simpa using hlL)) x5 hlw, n5, j5, hlt, rfl⟩
    cases f with
    | next => exact fin h₃
    | cont => exact fin h₃
    | brk => exact h₃.elim
    | ret v => exact h₃
end
end Mine

open PySem PySem.W PySem.Calls PyProof.Rows
set_option Elab.async false
set_option maxRecDepth 1000000
set_option maxHeartbeats 0
set_option linter.unusedVariables false
namespace Mine
/-- every fourth number from the place k on -/
noncomputable def picks (vs : List Value) (k : Nat) : List Value := (slicePick vs.toArray (some (k : Int)) none (some 4)).toList
noncomputable def cellOf (vs : List Value) (k : Nat) : Int := [191, 14, 25, 40].getD k 0 + (numsOf (picks vs k)).sum
theorem picks_ints {vs : List Value} {ns : List Int} (h : IntsAre vs ns) (k : Nat) : IntsAre (picks vs k) (numsOf (picks vs k)) := by
  refine intsAre_ofList _ ?_
  intro v hv
  unfold picks slicePick at hv
  obtain ⟨i, _, hi⟩ := List.mem_filterMap.mp hv
  have hm : v ∈ vs := by
    simp only [List.getElem?_toArray] at hi
    exact List.mem_of_getElem? hi
  have : ∀ {vs : List Value} {ns : List Int}, IntsAre vs ns → ∀ v ∈ vs, ∃ a t, v = Value.int a t := by
    intro vs ns h
    induction h with
    | nil => intro v hv; cases hv
    | cons n t _ ih =>
      intro v hv
      rcases List.mem_cons.mp hv with rfl | hv
      · exact ⟨n, t, rfl⟩
      · exact ih v hv
  exact this h v hm
section
variable {w : World} {s : Shared} {A : Around} {Q E : Value → Shared → Prop} {env : Env}
theorem sumL {l : Addr} {vs : List Value} {ns : List Int} (hA : A.handled = none) (hl : s.heap.IsList l vs.toArray) (hi : IntsAre vs ns)
    (h : ∀ h' tk t', Ext s.heap h' → Q (.int ns.sum t') { s with heap := h', toks := tk }) : wpAny (MW w) A (call (.builtin "sum") [.ref l]) Q E s := by
  obtain ⟨xs, hx⟩ := hi.allInts.items
  rw [hx] at hl
  refine sum_intListG hA hl ?_
  intro h' tk t' hk
  have e : preSum (numAt xs) xs.size = ns.sum := by
    rw [preSum_eq, List.take_of_length_le (by simp), ← nums_intItems, ← hx]
    show (numsOf vs).sum = _
    rw [hi.numsOf]
  rw [e]
  exact h h' tk t' hk
theorem sliceL {value slice : Expr} {l : Addr} {items : Array Value} {vl vu vk : Value} {lo hi st : Option Int} (hl : s.heap.IsList l items) (pl : IsPart vl lo) (pu : IsPart vu hi) (pk : IsPart vk st) (h0 : st ≠ some 0) (hsz : items.size ≤ sizeLine)
    (h : ∀ D h', Ext s.heap h' → h'.IsList D (slicePick items lo hi st) → Q (.ref D) { s with heap := h' })
    (hs : subscripted slice false (.ref l) (.ref s.heap.objs.size) = operate [.ref l, .ref s.heap.objs.size] (getItem (.ref l) (.ref s.heap.objs.size))) :
    wpAny (MW w) A (subscriptTail value slice (.ref l) (.ref s.heap.objs.size)) Q E { s with heap := s.heap.push { cls := .type "slice", data := .fields #[vl, vu, vk] } } := by
  refine tail_any (Heap.IsList.typeIs (s := { s with heap := s.heap.push { cls := .type "slice", data := .fields #[vl, vu, vk] } }) (hl.push _)) slot_list_getitem.lookup ?_ hs
  refine wpAny_getItem_list_slice (hl.push _) (Heap.IsSliceOf.new ..) pl pu pk h0 ?_ hsz
  exact h _ _ ((Ext.push _).trans (Ext.push _)) ⟨_, Heap.get?_push_size _ rfl, rfl, _, rfl⟩
end
end Mine

open PySem PySem.W PySem.Calls PyProof.Rows
set_option Elab.async false
set_option maxRecDepth 1000000
set_option maxHeartbeats 0
set_option linter.unusedVariables false
namespace Mine
noncomputable def lawPairs (vs : List Value) : List (Nat × List Nat) := (List.range 4).map (fun k => signP (cellOf vs k))
noncomputable def bareI (z : Int) : Bool := z.fmod 2 == 1
section
variable {w : World} {s : Shared} {A : Around} {Q E : Value → Shared → Prop} {env : Env}
theorem law_pairs {QF : Flow → Shared → Prop} {L l : Addr} {vs : List Value} {ns : List Int} {m : Str → Option Value}
    (G : Gd w s.heap) (hA : A.handled = none) (hr : A.depth + 150 < recursionLimit) (hl : s.heap.IsList l vs.toArray) (hi : IntsAre vs ns) (hsz : vs.length ≤ 1000)
    (hcell : s.heap.IsCell (L + 1) (some (.ref l))) (hn : s.heap.Ns L m)
    (h : ∀ D h' tk, Pairs h' D (lawPairs vs) → h'.Ns L (fun z => if z = Str.ofString "pairs" then some (.ref D) else m z) → XB [L] s.heap h' → QF .next { s with heap := h', toks := tk }) :
    wpAny (MW w) A (exec (nthS (sBody fd_law) 1) (envOfC (Str.ofString "law") (sScope fd_law) L 215 (.ref 214))) QF E s := by
  conv in (nthS _ _) => whnf
  refine compPRA (cl := [(Str.ofString "script", L + 1)]) (n := 4) (fun k => signP (cellOf vs k)) hA (by decide) hn ?_ ?_ ?_ (by rfl) (by decide) ?_ rfl rfl rfl (by decide) rfl
  · intro K hK
    exact rangeIter G (by decide) rfl rfl rfl rfl hK
  · intro C i u s₃ m₃ E' hi4 ex hn3 hm3
    have G3 := G.keeps ex
    refine call1 G3 (g_law_sign _) (o := o171 w.params) (by kernel_rfl) rfl rfl rfl rfl rfl rfl rfl ?_
    refine wpAny_BinOp ?_
    refine Subscript_ ?_
    refine TupE ?_
    refine lits_spliced (ls := [.inr 191, .inr 14, .inr 25, .inr 40]) (by repeat constructor) ?_
    intro xs tk1 hp
    refine ⟨by rw [paired_len hp]; decide, ?_⟩
    intro h1 D1 e1 nD1 d1
    dsimp only at *
    refine wpAny_Name ?_ rfl
    refine wpAny_loadName_local rfl rfl (e1.ns hn3) hm3 ?_
    obtain ⟨x, hx, tx, rfl⟩ : ∃ x, xs.toArray[((i : Nat) : Int).toNat]? = some x ∧ ∃ t, x = .int ([191, 14, 25, 40].getD i 0) t := by
      have hg : ([.inr 191, .inr 14, .inr 25, .inr 40] : List (Str ⊕ Int))[i]? = some (.inr ([191, 14, 25, 40].getD i 0)) := by
        rcases (by omega : i = 0 ∨ i = 1 ∨ i = 2 ∨ i = 3) with rfl | rfl | rfl | rfl <;> rfl
      obtain ⟨x, h1, h2⟩ := paired_get hp hg
      exact ⟨x, by simpa using h1, h2⟩
    refine item_t d1 (by omega) (by omega) hx ?_ rfl
    have G1 := G3.keeps e1
    refine Call_ ?_
    refine bnameE G1 (gb_sum _) boot_sum (by decide) rfl rfl rfl rfl rfl ?_
    refine Globals_cb1 ?_
    refine args_cons ?_
    refine Subscript_ ?_
    refine wpAny_Name ?_ rfl
    have ex1 := ex.trans e1
    refine wpAny_loadName_cell rfl ?_ (c := L + 1) ?_ (hcell.keeps ex1) ?_
    · rfl
    · rfl
    refine wpAny_Slice ?_
    refine wpAny_evalPart_some ?_
    refine wpAny_Name ?_ rfl
    refine wpAny_loadName_local rfl rfl (e1.ns hn3) hm3 ?_
    refine wpAny_evalPart_none ?_
    refine wpAny_evalPart_some ?_
    refine wpAny_Constant_int ?_
    refine sliceL (ex1.list hl) (.int _ _) .none (.int _ _) (by decide) (by simp; unfold sizeLine; omega) ?_ (by with_unfolding_all rfl)
    intro D2 h2 e2 d2
    dsimp only at *
    refine args_nil ?_
    have d2' : h2.IsList D2 (picks vs i).toArray := by unfold picks; simpa using d2
    refine sumL hA d2' (picks_ints hi i) ?_
    intro h3 tk3 t3 e3
    dsimp only at *
    refine PyProof.Rows.add_int ?_
    have ext : Ext s₃.heap h3 := e1.trans (e2.trans e3)
    refine ⟨ext, ?_⟩
    dsimp only
    refine con_sign (G3.keeps ext) hA hr (cellOf vs i) _ ?_
    intro v h4 tk4 hv e4
    exact ⟨hv, _, _, rfl, ext.trans e4⟩
  · intro D h' tk ys hD hpl hP hNs hX
    exact h D h' tk ⟨_, hpl, hP⟩ hNs hX
  · rfl
end
end Mine

open PySem PySem.W PySem.Calls PyProof.Rows
set_option Elab.async false
set_option maxRecDepth 1000000
set_option maxHeartbeats 0
set_option linter.unusedVariables false
namespace Mine
noncomputable def nonE (p : Nat × List Nat) : Bool := !p.2.isEmpty
noncomputable def keptV (h : Heap) (v : Value) : Bool := by classical exact decide (∃ q, PairAt h v q ∧ nonE q = true)
theorem keptV_of {h : Heap} {v : Value} {p} (x : PairAt h v p) : keptV h v = nonE p := by
  unfold keptV
  cases e : nonE p with
  | true => simp only [decide_eq_true_eq]; exact ⟨p, x, e⟩
  | false =>
    simp only [decide_eq_false_iff_not]
    rintro ⟨q, y, e'⟩
    rw [PairAt.uniq y x, e] at e'; cases e'
theorem paired_filter {h : Heap} : ∀ {vs : List Value} {ps : List (Nat × List Nat)}, Paired (PairAt h) vs ps → Paired (PairAt h) (vs.filter (keptV h)) (ps.filter nonE)
  | _, _, .nil => .nil
  | _, _, .cons (a := v) (b := p) x t => by
    have ih := paired_filter t
    rw [List.filter_cons, List.filter_cons, keptV_of x]
    cases nonE p with
    | true => exact .cons x ih
    | false => exact ih
theorem paired_eq : ∀ {a b : List Value}, Paired (fun v y => y = v) a b → b = a
  | _, _, .nil => rfl
  | _, _, .cons x t => by rw [x, paired_eq t]
noncomputable def keptExpr : Expr := match nthS (sBody fd_law) 8 with | .If (.Compare _ _ [.Call _ (.Call _ (a :: _) _ _ :: _) _ _] _) _ _ _ => a | _ => .Name (Str.ofString "x") ⟨0, 0, 0, 0⟩
structure LawOk (vs : List Value) (total : Int) : Prop where
  p0 : ∀ p ∈ lawPairs vs, p.1 < 1114112 ∧ p.2.length ≤ 8
  n1 : (shownP (tagN (total.fdiv 4)) (lawPairs vs)).length ≤ 100000
  p1 : ∀ p ∈ pageP (bareI total) (shownP (tagN (total.fdiv 4)) (lawPairs vs)), p.1 < 1114112 ∧ p.2.length ≤ 8
  n2 : (shownP (tagN (total.fdiv 4)) (pageP (bareI total) (shownP (tagN (total.fdiv 4)) (lawPairs vs)))).length ≤ 100000
  p2 : ∀ p ∈ shownP (tagN (total.fdiv 4)) (pageP (bareI total) (shownP (tagN (total.fdiv 4)) (lawPairs vs))), p.2.length ≤ 8
  eq : prep (textP 0 (pageP (bareI (total.fdiv 2)) (shownP (tagN (total.fdiv 4)) (pageP (bareI total) (shownP (tagN (total.fdiv 4)) (lawPairs vs))))))
    = textP 0 (pageP (bareI (total.fdiv 2)) ((shownP (tagN (total.fdiv 4)) (pageP (bareI total) (shownP (tagN (total.fdiv 4)) (lawPairs vs)))).filter nonE))
  tu1 : Turn (textP 0 (pageP (bareI (total.fdiv 2)) (shownP (tagN (total.fdiv 4)) (pageP (bareI total) (shownP (tagN (total.fdiv 4)) (lawPairs vs))))))
    (prep (textP 0 (pageP (bareI (total.fdiv 2)) (shownP (tagN (total.fdiv 4)) (pageP (bareI total) (shownP (tagN (total.fdiv 4)) (lawPairs vs)))))))
    (shownP (tagN (total.fdiv 4)) (pageP (bareI total) (shownP (tagN (total.fdiv 4)) (lawPairs vs)))) (pageP (bareI total) (shownP (tagN (total.fdiv 4)) (lawPairs vs)))
  tu2 : Turn (textP 0 (pageP (bareI total) (shownP (tagN (total.fdiv 4)) (lawPairs vs)))) (textP 1 (pageP (bareI total) (shownP (tagN (total.fdiv 4)) (lawPairs vs))))
    (shownP (tagN (total.fdiv 4)) (lawPairs vs)) (lawPairs vs)
theorem page_len (b : Bool) (sh) : (pageP b sh).length ≤ 2 * sh.length + 3 := by
  have h1 := pages_len b sh
  have h2 := frameP_len b
  unfold pageP
  simp only [List.length_append, List.length_cons, List.length_nil]
  omega
theorem page_w (b : Bool) (sh) (h : ∀ p ∈ sh, p.2.length ≤ 8) : ∀ p ∈ pageP b sh, p.2.length ≤ 8 := by
  intro p hp
  unfold pageP at hp
  have hf : ∀ p ∈ frameP b, p.2.length ≤ 8 := by cases b <;> decide
  rcases List.mem_append.mp hp with hp | hp
  · rcases List.mem_append.mp hp with hp | hp
    · rcases List.mem_append.mp hp with hp | hp
      · exact hf p hp
      · obtain ⟨q, hq, hp⟩ := List.mem_flatMap.mp hp
        unfold page1 at hp
        split at hp
        · rcases List.mem_cons.mp hp with rfl | hp
          · decide
          · rw [List.mem_singleton.mp hp]; exact h q hq
        · rw [List.mem_singleton.mp hp]; exact h q hq
    · exact hf p hp
  · rw [List.mem_singleton.mp hp]; decide
section
variable {w : World} {s : Shared} {A : Around} {Q E : Value → Shared → Prop} {env : Env}
theorem law_kept {L lo : Addr} {outer : List (Nat × List Nat)} {m : Str → Option Value}
    (G : Gd w s.heap) (hA : A.handled = none) (hn : s.heap.Ns L m) (hm : m (Str.ofString "outer") = some (.ref lo)) (ho : Pairs s.heap lo outer) (hsz : outer.length ≤ 1000000)
    (h : Back s (fun v h' => ∃ D, v = .ref D ∧ Pairs h' D (outer.filter nonE)) Q) :
    wpAny (MW w) A (eval keptExpr (envOfC (Str.ofString "law") (sScope fd_law) L 215 (.ref 214))) Q E s := by
  conv in keptExpr => whnf
  obtain ⟨items, hpl, hpp⟩ := ho
  have isz : items.size = outer.length := by have := paired_len hpp; simpa using this
  have hsz0 : 1000000 ≤ sizeLine := by decide
  refine compL (l := lo) (items := items) (keptV s.heap) (fun v y => y = v) hA hpl.isList (by omega) ?_ ?_ ?_ ?_ (by decide) (by decide) rfl (by decide) rfl
  · intro Q' hq
    exact ldN hn hm rfl rfl rfl hq
  · intro C v s₃ m₃ E' hv ex hn3 hm3
    obtain ⟨p, hp, hpa⟩ := paired_mem hpp hv
    obtain ⟨t, u1, u2, rfl, ht⟩ := id hpa
    refine wpAny_tests_one ?_
    refine wpAny_isTrue_Compare1 ?_
    refine Subscript_ ?_
    refine wpAny_Name ?_ rfl
    refine wpAny_loadName_local rfl rfl hn3 hm3 ?_
    refine wpAny_Constant_int ?_
    refine item_t (ex.tup ht) (by decide) (by decide) (x := .str (str p.2) u2) rfl ?_ rfl
    refine wpAny_Constant_str ?_
    refine PyProof.Rows.ne_str ?_
    refine wpAny_truthy_bool ?_
    refine ⟨?_, _, _, rfl, fun _ _ e => e⟩
    rw [keptV_of hpa]
    have e := str_eq p.2 []
    show (!(str p.2 == str [])) = !p.2.isEmpty
    rw [e]
    cases p.2 <;> simp
  · intro C v s₃ m₃ E' hv hkv ex hn3 hm3
    refine wpAny_Name ?_ rfl
    refine wpAny_loadName_local rfl rfl hn3 hm3 ?_
    exact ⟨rfl, _, _, rfl, fun _ _ e => e⟩
  · intro D h' tk ys hD hplD hF ex
    refine h _ _ _ ⟨D, rfl, _, hplD, ?_⟩ ex
    rw [paired_eq hF]
    exact pairs_kt (Kt.ext ex) (paired_filter hpp)
end
end Mine

open PySem PySem.W PySem.Calls PyProof.Rows
set_option Elab.async false
set_option maxRecDepth 1000000
set_option maxHeartbeats 0
set_option linter.unusedVariables false
namespace Mine
section
variable {w : World} {s : Shared} {A : Around} {Q E : Value → Shared → Prop} {env : Env} {g : Heap}
theorem con_law {l : Addr} {vs : List Value} {ns : List Int} (Gg : Gd w g) (eg : Ext g s.heap) (hgP : g.get? 154 = none) (hT : TabOk s.heap) (hA : A.handled = none) (hr : A.depth + 200 < recursionLimit) (hu : A.units + 100 < cLine)
    (hl : s.heap.IsList l vs.toArray) (hi : IntsAre vs ns) (hsz : vs.length ≤ 1000) (ok : LawOk vs ns.sum)
    (h : ∀ h' tk', TabOk h' → XB [154] s.heap h' → Q (.bool true) { s with heap := h', toks := tk' }) :
    wpAny (MW w) A (call (.ref 215) [.ref l]) Q E s := by
  have G := Gg.keeps eg
  refine call_defC (fd := fd_law) (name := Str.ofString "law") (binds := [(Str.ofString "script", .ref l)]) G (by omega) (o := o215 w.params) (by kernel_rfl) rfl (by kernel_rfl) (by kernel_rfl) ?_ (by kernel_rfl) (by kernel_rfl) (by kernel_rfl) ?_
  · intro x hx
    rw [List.mem_singleton.mp hx]
    exact .inr ⟨by kernel_rfl, by kernel_rfl⟩
  intro h₁ tk1 Fm X G1
  have hu' : (A.deeper (envOfC (Str.ofString "law") (sScope fd_law) s.heap.objs.size 215 (.ref 214))).units < cLine := by
    show A.units + 3 < cLine
    omega
  have hA' : (A.deeper (envOfC (Str.ofString "law") (sScope fd_law) s.heap.objs.size 215 (.ref 214))).handled = none := hA
  have hr' : (A.deeper (envOfC (Str.ofString "law") (sScope fd_law) s.heap.objs.size 215 (.ref 214))).depth + 190 < recursionLimit := by
    show A.depth + 1 + 190 < _
    omega
  generalize A.deeper (envOfC (Str.ofString "law") (sScope fd_law) s.heap.objs.size 215 (.ref 214)) = B at *
  conv in (sBody _) => whnf
  have e1 : Ext s.heap h₁ := Fm.keep
  have n1 := Fm.ns
  have hg : s.heap.get? s.heap.objs.size = none := none_of_size
  have hcell : h₁.IsCell (s.heap.objs.size + 1) (some (.ref l)) := X.cell (Str.ofString "script") _ (by kernel_rfl)
  have h154 : 154 < s.heap.objs.size := by obtain ⟨ps, hP, _⟩ := hT; exact Heap.lt_size hP
  have L154 : s.heap.objs.size ≠ 154 := Nat.ne_of_gt h154
  -- total
  refine wpAny_execs_cons ?_
  refine wpAny_Assign_Name ?_
  refine Call_ ?_
  refine bnameE G1 (gb_sum _) boot_sum (by decide) rfl rfl rfl rfl rfl ?_
  refine Globals_cb1 ?_
  refine args_cons ?_
  refine wpAny_Name ?_ rfl
  refine wpAny_loadName_cell rfl ?_ (c := s.heap.objs.size + 1) ?_ hcell ?_
  · rfl
  · rfl
  refine args_nil ?_
  refine sumL hA' (e1.list hl) hi ?_
  intro h2 tk2 t2 e2
  dsimp only at *
  have n2 := e2.ns n1
  refine stNC n2 ?_
  intro h3 n3 x3
  dsimp only at *
  have e3 : Ext s.heap h3 := (e1.trans e2).st x3 hg
  have G3 := G.keeps e3
  have cell3 : h3.IsCell (s.heap.objs.size + 1) (some (.ref l)) := by
    obtain ⟨o, a, b⟩ := hcell.keeps e2
    exact ⟨o, x3 _ _ (nin1 (Nat.ne_of_gt (Nat.lt_succ_self _))) a, b⟩
  -- pairs
  refine wpAny_execs_cons ?_
  refine law_pairs (QF := _) (s := { s with heap := h3, toks := _ }) G3 hA' (by omega) (e3.list hl) hi hsz cell3 n3 ?_
  intro Dp h4 tk4 hp4 n4 x4
  dsimp only at *
  have e4 : Ext s.heap h4 := e3.st x4 hg
  have G4 := G.keeps e4
  -- lead
  refine wpAny_execs_cons ?_
  refine wpAny_Assign_Name ?_
  refine call1 G4 (g_law_tag _) (o := o166 w.params) (by kernel_rfl) rfl rfl rfl rfl rfl rfl rfl ?_
  refine wpAny_BinOp ?_
  refine ldN n4 rfl rfl rfl rfl ?_
  refine wpAny_Constant_int ?_
  refine floordiv_int (by decide) ?_ (.inl (PyProof.noPylong_small (by decide)))
  refine ⟨Ext.refl _, ?_⟩
  refine con_tag G4 (by omega) _ _ ?_
  rintro v h5 tk5 ⟨u5, rfl⟩ e5
  dsimp only at *
  have n5 := e5.ns n4
  refine stNC n5 ?_
  intro h6 n6 x6
  dsimp only at *
  have e6 : Ext s.heap h6 := (e4.trans e5).st x6 hg
  have G6 := G.keeps e6
  have pairs_st : ∀ {h1 h2 : Heap} {a ps m'}, Pairs h1 a ps → h1.Ns s.heap.objs.size m' → XB [s.heap.objs.size] h1 h2 → Pairs h2 a ps := by
    intro h1 h2 a ps m' x n e
    obtain ⟨i, pl, pp⟩ := x
    exact ⟨i, plain_xb pl e (nin1 (ns_list n pl.isList)), pairs_kt (Kt.ns e n) pp⟩
  have hp6 := pairs_st (hp4.ext e5) n5 x6
  -- inner
  refine wpAny_execs_cons ?_
  refine wpAny_Assign_Name ?_
  refine call2 G6 (g_law_shown _) (o := o181 w.params) (by kernel_rfl) rfl rfl rfl rfl rfl rfl rfl rfl ?_
  refine ldN n6 rfl rfl rfl rfl ?_
  refine ldN n6 rfl rfl rfl rfl ?_
  refine ⟨Ext.refl _, ?_⟩
  refine con_shown G6 hA' (by omega) _ hp6 ok.p0 (Nat.le_trans ok.n1 (by decide)) ?_
  rintro v h7 tk7 ⟨Di, rfl, hi7⟩ e7
  dsimp only at *
  have n7 := e7.ns n6
  refine stNC n7 ?_
  intro h8 n8 x8
  dsimp only at *
  have e8 : Ext s.heap h8 := (e6.trans e7).st x8 hg
  have G8 := G.keeps e8
  have hp8 := pairs_st (hp6.ext e7) n7 x8
  have hi8 := pairs_st hi7 n7 x8
  -- page
  refine wpAny_execs_cons ?_
  refine wpAny_Assign_Name ?_
  refine call2 G8 (g_law_page _) (o := o188 w.params) (by kernel_rfl) rfl rfl rfl rfl rfl rfl rfl rfl ?_
  refine ldN n8 rfl rfl rfl rfl ?_
  refine wpAny_Compare1 ?_
  refine wpAny_BinOp ?_
  refine ldN n8 rfl rfl rfl rfl ?_
  refine wpAny_Constant_int ?_
  refine PyProof.Rows.mod_int (by decide) ?_
  refine wpAny_Constant_int ?_
  refine PyProof.Rows.eq_int ?_
  refine ⟨Ext.refl _, ?_⟩
  refine con_page (b := bareI ns.sum) G8 hA' (by omega) hi8 (Nat.le_trans ok.n1 (by decide)) ?_
  rintro v h9 tk9 ⟨Dg, rfl, hg9⟩ e9
  dsimp only at *
  have n9 := e9.ns n8
  refine stNC n9 ?_
  intro h10 n10 x10
  dsimp only at *
  have e10 : Ext s.heap h10 := (e8.trans e9).st x10 hg
  have G10 := G.keeps e10
  have hp10 := pairs_st (hp8.ext e9) n9 x10
  have hi10 := pairs_st (hi8.ext e9) n9 x10
  have hg10 := pairs_st hg9 n9 x10
  -- outer
  refine wpAny_execs_cons ?_
  refine wpAny_Assign_Name ?_
  refine call2 G10 (g_law_shown _) (o := o181 w.params) (by kernel_rfl) rfl rfl rfl rfl rfl rfl rfl rfl ?_
  refine ldN n10 rfl rfl rfl rfl ?_
  refine ldN n10 rfl rfl rfl rfl ?_
  refine ⟨Ext.refl _, ?_⟩
  refine con_shown G10 hA' (by omega) _ hg10 ok.p1 (Nat.le_trans ok.n2 (by decide)) ?_
  rintro v h11 tk11 ⟨Do, rfl, ho11⟩ e11
  dsimp only at *
  have n11 := e11.ns n10
  refine stNC n11 ?_
  intro h12 n12 x12
  dsimp only at *
  have e12 : Ext s.heap h12 := (e10.trans e11).st x12 hg
  have G12 := G.keeps e12
  have hp12 := pairs_st (hp10.ext e11) n11 x12
  have hi12 := pairs_st (hi10.ext e11) n11 x12
  have hg12 := pairs_st (hg10.ext e11) n11 x12
  have ho12 := pairs_st ho11 n11 x12
  -- text
  refine wpAny_execs_cons ?_
  refine wpAny_Assign_Name ?_
  refine call2 G12 (g_law_text _) (o := o193 w.params) (by kernel_rfl) rfl rfl rfl rfl rfl rfl rfl rfl ?_
  refine call2 G12 (g_law_page _) (o := o188 w.params) (by kernel_rfl) rfl rfl rfl rfl rfl rfl rfl rfl ?_
  refine ldN n12 rfl rfl rfl rfl ?_
  refine wpAny_Compare1 ?_
  refine wpAny_BinOp ?_
  refine wpAny_BinOp ?_
  refine ldN n12 rfl rfl rfl rfl ?_
  refine wpAny_Constant_int ?_
  refine floordiv_int (by decide) ?_ (.inl (PyProof.noPylong_small (by decide)))
  refine wpAny_Constant_int ?_
  refine PyProof.Rows.mod_int (by decide) ?_
  refine wpAny_Constant_int ?_
  refine PyProof.Rows.eq_int ?_
  refine ⟨Ext.refl _, ?_⟩
  have z2 := ok.n2
  refine con_page (b := bareI (ns.sum.fdiv 2)) G12 hA' (by omega) ho12 (Nat.le_trans ok.n2 (by decide)) ?_
  rintro v h13 tk13 ⟨Dt, rfl, ht13⟩ e13
  dsimp only at *
  refine wpAny_Constant_int ?_
  refine ⟨e13, ?_⟩
  refine con_text (c := 0) (G12.keeps e13) hA' (by omega) (by decide) _ ht13 (by have := page_len (bareI (ns.sum.fdiv 2)) (shownP (tagN (ns.sum.fdiv 4)) (pageP (bareI ns.sum) (shownP (tagN (ns.sum.fdiv 4)) (lawPairs vs)))); omega) (page_w _ _ ok.p2) ?_
  rintro v h14 tk14 ⟨ut, rfl⟩ e14
  dsimp only at *
  have e134 := e13.trans e14
  have n14 := e134.ns n12
  refine stNC n14 ?_
  intro h15 n15 x15
  dsimp only at *
  have e15 : Ext s.heap h15 := (e12.trans e134).st x15 hg
  have G15 := G.keeps e15
  have hp15 := pairs_st (hp12.ext e134) n14 x15
  have hi15 := pairs_st (hi12.ext e134) n14 x15
  have hg15 := pairs_st (hg12.ext e134) n14 x15
  have ho15 := pairs_st (ho12.ext e134) n14 x15
  -- seen
  refine wpAny_execs_cons ?_
  refine wpAny_Assign_Name ?_
  refine call1 G15 (g_law_prepared _) (o := o198 w.params) (by kernel_rfl) rfl rfl rfl rfl rfl rfl rfl ?_
  refine ldN n15 rfl rfl rfl rfl ?_
  refine ⟨Ext.refl _, ?_⟩
  refine con_prep G15 hA' (by omega) _ ok.tu1.z1 _ ?_
  rintro v h16 tk16 ⟨us, rfl⟩ e16
  dsimp only at *
  have n16 := e16.ns n15
  refine stNC n16 ?_
  intro h17 n17 x17
  dsimp only at *
  have e17 : Ext s.heap h17 := (e15.trans e16).st x17 hg
  have G17 := G.keeps e17
  have hp17 := pairs_st (hp15.ext e16) n16 x17
  have hi17 := pairs_st (hi15.ext e16) n16 x17
  have hg17 := pairs_st (hg15.ext e16) n16 x17
  have ho17 := pairs_st (ho15.ext e16) n16 x17
  -- the first test
  refine wpAny_execs_cons ?_
  refine wpAny_If ?_
  refine wpAny_isTrue_Compare1 ?_
  refine ldN n17 rfl rfl rfl rfl ?_
  refine call2 G17 (g_law_text _) (o := o193 w.params) (by kernel_rfl) rfl rfl rfl rfl rfl rfl rfl rfl ?_
  refine call2 G17 (g_law_page _) (o := o188 w.params) (by kernel_rfl) rfl rfl rfl rfl rfl rfl rfl rfl ?_
  refine law_kept (lo := Do) G17 hA' n17 rfl ho17 (Nat.le_trans ok.n2 (by decide)) ?_
  rintro v h18 tk18 ⟨Dk, rfl, hk18⟩ e18
  dsimp only at *
  refine wpAny_Compare1 ?_
  refine wpAny_BinOp ?_
  refine wpAny_BinOp ?_
  refine ldN (e18.ns n17) rfl rfl rfl rfl ?_
  refine wpAny_Constant_int ?_
  refine floordiv_int (by decide) ?_ (.inl (PyProof.noPylong_small (by decide)))
  refine wpAny_Constant_int ?_
  refine PyProof.Rows.mod_int (by decide) ?_
  refine wpAny_Constant_int ?_
  refine PyProof.Rows.eq_int ?_
  refine ⟨e18, ?_⟩
  have zk : ((shownP (tagN (ns.sum.fdiv 4)) (pageP (bareI ns.sum) (shownP (tagN (ns.sum.fdiv 4)) (lawPairs vs)))).filter nonE).length ≤ 100000 := Nat.le_trans (List.length_filter_le _ _) ok.n2
  refine con_page (b := bareI (ns.sum.fdiv 2)) (G17.keeps e18) hA' (by omega) hk18 (by omega) ?_
  rintro v h19 tk19 ⟨Dl, rfl, hl19⟩ e19
  dsimp only at *
  have e189 := e18.trans e19
  refine wpAny_Constant_int ?_
  refine ⟨e189, ?_⟩
  refine con_text (c := 0) (G17.keeps e189) hA' (by omega) (by decide) _ hl19 (by have := page_len (bareI (ns.sum.fdiv 2)) ((shownP (tagN (ns.sum.fdiv 4)) (pageP (bareI ns.sum) (shownP (tagN (ns.sum.fdiv 4)) (lawPairs vs)))).filter nonE); omega) (page_w _ _ (fun p hp => ok.p2 p (List.mem_filter.mp hp).1)) ?_
  rintro v h20 tk20 ⟨uk, rfl⟩ e20
  dsimp only at *
  refine PyProof.Rows.ne_str ?_
  rw [ok.eq, bne_self_eq_false]
  refine wpAny_truthy_bool ?_
  refine wpAny_execs_nil ?_
  dsimp only
  have e1720 := e189.trans e20
  have n20 := e1720.ns n17
  have e20' : Ext s.heap h20 := e17.trans e1720
  have G20 := G.keeps e20'
  have hp20 := hp17.ext e1720
  have hi20 := hi17.ext e1720
  have hg20 := hg17.ext e1720
  have ho20 := ho17.ext e1720
  -- the loop
  refine wpAny_execs_cons ?_
  refine wpAny_For ?_ (by intro _; rfl)
  refine TupE ?_
  refine wpAny_items_cons ?_ rfl
  refine TupE ?_
  refine wpAny_items_cons ?_ rfl
  refine ldN n20 rfl rfl rfl rfl ?_
  refine wpAny_items_cons ?_ rfl
  refine ldN n20 rfl rfl rfl rfl ?_
  refine args_nil ⟨len2, ?_⟩
  intro h21 A1 e21 nA1 a1
  dsimp only at *
  refine wpAny_items_cons ?_ rfl
  refine TupE ?_
  refine wpAny_items_cons ?_ rfl
  refine ldN (e21.ns n20) rfl rfl rfl rfl ?_
  refine wpAny_items_cons ?_ rfl
  refine ldN (e21.ns n20) rfl rfl rfl rfl ?_
  refine args_nil ⟨len2, ?_⟩
  intro h22 A2 e22 nA2 a2
  dsimp only at *
  refine args_nil ⟨len2, ?_⟩
  intro h23 A3 e23 nA3 a3
  dsimp only at *
  have e203 := e21.trans (e22.trans e23)
  have n23 := e203.ns n20
  have e23' : Ext s.heap h23 := e20'.trans e203
  have T23 : TabOk h23 := hT.xb (XB.of_ext (bs := []) e23') (by simp) (by simp)
  have eg23 : Ext g h23 := eg.trans e23'
  have hgL : g.get? s.heap.objs.size = none := fresh_le eg hg
  have hp23 := hp20.ext e203
  have hi23 := hi20.ext e203
  have hg23 := hg20.ext e203
  have ho23 := ho20.ext e203
  have a1' := e23.tup (e22.tup a1)
  have a2' := e23.tup a2
  have notin : ∀ {t its}, h23.IsTuple t its → t ∉ [154, s.heap.objs.size] := by
    intro t its ht m
    rcases List.mem_cons.mp m with rfl | m
    · exact tab_tup T23 _ ht
    · exact ns_tup n23 ht (List.mem_singleton.mp m)
  have gL : ∀ b ∈ [154, s.heap.objs.size], g.get? b = none := by
    intro b hb
    rcases List.mem_cons.mp hb with rfl | hb
    · exact hgP
    · rw [List.mem_singleton.mp hb]; exact hgL
  have pairs_x : ∀ {h1 a ps}, Pairs h23 a ps → XB [154, s.heap.objs.size] h23 h1 → Pairs h1 a ps := fun x e => x.xb T23 n23 e
  refine forTT (l := A3) (items := #[.ref A1, .ref A2]) [154, s.heap.objs.size]
    (fun i v0 v1 => (i = 0 ∧ v0 = .ref Do ∧ v1 = .ref Dg) ∨ (i = 1 ∧ v0 = .ref Di ∧ v1 = .ref Dp))
    (fun i h m => TabOk h ∧
      (i = 0 → ∃ u1 u2, m (Str.ofString "text") = some (.str (str (textP 0 (pageP (bareI (ns.sum.fdiv 2)) (shownP (tagN (ns.sum.fdiv 4)) (pageP (bareI ns.sum) (shownP (tagN (ns.sum.fdiv 4)) (lawPairs vs))))))) u1) ∧
        m (Str.ofString "seen") = some (.str (str (prep (textP 0 (pageP (bareI (ns.sum.fdiv 2)) (shownP (tagN (ns.sum.fdiv 4)) (pageP (bareI ns.sum) (shownP (tagN (ns.sum.fdiv 4)) (lawPairs vs)))))))) u2)) ∧
      (i = 1 → ∃ u1 u2, m (Str.ofString "text") = some (.str (str (textP 0 (pageP (bareI ns.sum) (shownP (tagN (ns.sum.fdiv 4)) (lawPairs vs))))) u1) ∧
        m (Str.ofString "seen") = some (.str (str (textP 1 (pageP (bareI ns.sum) (shownP (tagN (ns.sum.fdiv 4)) (lawPairs vs))))) u2)))
    hA' rfl rfl rfl PassesOwn.never ?_ (.tail _ (.head _)) (notin a3) a3 n23 ?_ ?_ ?_ ?_ ?_ (by decide)
  · intro b hb
    rcases List.mem_cons.mp hb with rfl | hb
    · obtain ⟨ps, hP, _⟩ := T23; exact Heap.lt_size hP
    · rw [List.mem_singleton.mp hb]; exact n23.lt
  · intro i v hv
    rcases i with _ | _ | i
    · have : v = .ref A1 := by simpa using hv.symm
      exact ⟨A1, _, _, this, a1', notin a1', .inl ⟨rfl, rfl, rfl⟩⟩
    · have : v = .ref A2 := by simpa using hv.symm
      exact ⟨A2, _, _, this, a2', notin a2', .inr ⟨rfl, rfl, rfl⟩⟩
    · simp at hv
  · intro h' e'
    exact ⟨T23.xb (XB.of_ext (bs := []) e') (by simp) (by simp), fun _ => ⟨_, _, rfl, rfl⟩, fun q => by cases q⟩
  · rintro i h h' m b hb x n ⟨t, j0, j1⟩
    refine ⟨?_, j0, j1⟩
    rcases hb with rfl | ⟨hb0, hb | ⟨l', k', hb⟩⟩
    · refine t.xb x (nin1 (Ne.symm L154)) ?_
      intro c hc
      rw [List.mem_singleton.mp hc]
      obtain ⟨o, es, ep, a, d, _⟩ := n
      exact .inr fun o' vs e d' => by
        have a' : h.get? s.heap.objs.size = some o := a
        have e' : h.get? s.heap.objs.size = some o' := e
        rw [a'] at e'; cases e'; rw [d] at d'; cases d'
    · refine t.xb x (nin1 ?_) ?_
      · rintro rfl
        obtain ⟨ps, hP, _⟩ := T23
        rw [hP] at hb0; cases hb0
      · intro c hc
        rw [List.mem_singleton.mp hc]
        exact .inl hb
    · exact t.titer hb x
  · rintro i v0 v1 m₁ h24 tk24 hi2 hP X24 l24 n24 ⟨t24, j0, j1⟩
    rcases hP with ⟨rfl, rfl, rfl⟩ | ⟨rfl, rfl, rfl⟩
    · obtain ⟨u1, u2, c1, c2⟩ := j0 rfl
      refine con_turn (s := ⟨h24, s.gens, s.drawn, tk24, s.os⟩) (L := s.heap.objs.size) (so := Do) (be := Dg) Gg (eg23.xb X24 gL) hgP hgL L154 t24 hA' (by omega) hu' n24 c1 c2 rfl rfl (pairs_x ho23 X24) (pairs_x hg23 X24) ok.tu1 ?_
      intro h25 tk25 m25 v1 v2 n25 c1' c2' _ T25 X25
      exact ⟨h25, tk25, m25, rfl, X25, n25, ⟨T25, ⟨fun q => absurd q (by decide), fun _ => ⟨_, _, c1', c2'⟩⟩⟩⟩
    · obtain ⟨u1, u2, c1, c2⟩ := j1 rfl
      refine con_turn (s := ⟨h24, s.gens, s.drawn, tk24, s.os⟩) (L := s.heap.objs.size) (so := Di) (be := Dp) Gg (eg23.xb X24 gL) hgP hgL L154 t24 hA' (by omega) hu' n24 c1 c2 rfl rfl (pairs_x hi23 X24) (pairs_x hp23 X24) ok.tu2 ?_
      intro h25 tk25 m25 v1 v2 n25 c1' c2' _ T25 X25
      exact ⟨h25, tk25, m25, rfl, X25, n25, ⟨T25, ⟨fun q => absurd q (by decide), fun q => absurd q (by decide)⟩⟩⟩
  · rintro h26 tk26 m26 X26 n26 ⟨T26, _, _⟩
    refine wpAny_execs_cons ?_
    refine wpAny_Return_some ?_
    refine wpAny_pure ?_
    refine h h26 _ T26 ?_
    intro b o hb e
    refine X26 b o ?_ (e23' _ _ e)
    intro m
    rcases List.mem_cons.mp m with rfl | m
    · exact hb (.head _)
    · rw [List.mem_singleton.mp m, hg] at e; cases e
end
end Mine

open PySem PySem.W PySem.Calls PyProof.Rows
set_option Elab.async false
set_option maxRecDepth 1000000
set_option maxHeartbeats 0
set_option linter.unusedVariables false
namespace Mine
theorem g_law (P : Params) : nsIn (KF P) mainGlobals (Str.ofString "law") = some (some (.ref 215)) := by kernel_rfl
theorem law_close {w : World} {s₁ : Shared} {mg mb : Str → Option Value} {mean : ExcName → Option Value} {p : Program} {loose : List Str} {fa l : Addr} {vs : List Value} {ns : List Int} {cw : ClaimW} {cl : Str → Option Addr} {args : List WData}
    (T : Top p loose mean mg mb s₁.heap) (KX : (KF w.params).In s₁.heap) (hmg : mg (Str.ofString "law") = some (.ref fa)) (hg : s₁.gens = #[])
    (htab : CodeHd s₁.heap 158 154 ∧ s₁.heap.get? 154 = some (tabObj #[]))
    (hl : s₁.heap.IsList l vs.toArray) (hi : IntsAre vs ns) (hn : ns.length ≤ 63) (ok : LawOk vs ns.sum)
    (hr : ∀ c, cw.raises args c = false) (hpost : cw.post args (.bool true) args = true) :
    wpAny (MW w) callerA (call (.ref fa) [.ref l]) (fun v s' => GoodWG cw cl mean args s₁ (.ok (.ret v)) s') (fun e s' => GoodWG cw cl mean args s₁ (.error e) s') s₁ := by
  have e1 := mg_of KX T.g (g_law w.params)
  rw [hmg] at e1
  cases e1
  have hT : TabsAt [(158, 154)] s₁.heap := by
    intro q hq
    rw [List.mem_singleton.mp hq]
    exact htab
  have KX' := ghost_K hT KX (by kernel_rfl)
  have T' := ghost_top hT T
  have Gg : Gd w (ghostOf s₁.heap [(158, 154)]) := ⟨KX', ⟨_, _, _, _, _, T'⟩, (stD w s₁.os (fB1 w s₁.os) (fB1 w s₁.os) []).1⟩
  have hgP : (ghostOf s₁.heap [(158, 154)]).get? 154 = none := hideAll_none _ (by decide)
  have eg : Ext (ghostOf s₁.heap [(158, 154)]) s₁.heap := fun b o e => of_hideAll _ e
  refine con_law Gg eg hgP ⟨_, htab.2, .inl rfl⟩ rfl (by decide) (by decide) hl hi (by rw [hi.length]; omega) ok ?_
  intro h' tk' TT X
  refine ⟨.inl ⟨.bool true, .bool true, [], rfl, hr, .bool true, hpost, fun _ => ⟨.nil, fun a ha => by cases ha⟩⟩, ⟨?_, ?_⟩, rfl, .of_eq hg⟩
  · intro b o e
    by_cases hb : b = 154
    · subst hb
      obtain ⟨ps, hP, _⟩ := TT
      have e2 := htab.2
      rw [e] at e2
      have e3 := Option.some.inj e2
      subst e3
      exact .inr (.inl ⟨(htab.1.tab htab.2).isCodeTable, rfl, #[], ps, rfl, by rw [Array.empty_append]; exact hP⟩)
    · exact .inl (X b o (nin1 hb) e)
  · intro b o e
    by_cases hb : b = 154
    · subst hb
      obtain ⟨ps, hP, _⟩ := TT
      exact ⟨_, hP⟩
    · exact ⟨o, X b o (nin1 hb) e⟩
theorem law_said : PySem.Challenge.rw_rs0160_01.wellSaid = true := by kernel_rfl
theorem law_of_ok (OK : ∀ vs total, LawOk vs total) : PySem.Challenge.rw_rs0160_01.Holds := by
  refine holds_law law_said fun said => ?_
  refine holds_open (q := vw) (loose := looseN) (Xt := fun s => xlAt vw [] s && recOk (RowW.records rwR.toRowW) s) (XP := XL vw []) (Yf := KH.obs) (Ya := KH.val) (YP := KH.says) (N := 36300) leftO (Hook.of KH) (Hook.keeps KH) (fun s e => xl_of s (Bool.and_eq_true_iff.mp e).1) XL.keeps (by rfl) (by rfl) (by rfl) (fun s e => recFacts_of (Bool.and_eq_true_iff.mp e).2) (by rfl) (by first | assumption | decide +kernel) (by decide +kernel) ⟨rfl, rfl, rfl, rfl, rfl, by decide +kernel⟩ ?hw ?hc
  case hw => w_witness2
  case hc =>
    intro w s₀ s₁ mg mb G Y fa o pm cd doc dV kV ho hd hcd hD hmg hg args vals as hpre hlay hrd hwl hlo
    have KX := kIn_of Y
    have T := G.T
    have htab : CodeHd s₁.heap 158 154 ∧ s₁.heap.get? 154 = some (tabObj #[]) := tab_of (x := Str.ofString "_law_stream") (c := 158) (P := 154) T KX rfl (by kernel_rfl)
    clear G Y ho hd hcd hD
    wrow_args hpre hlay hrd hwl hlo
    rename_i hL _ _ _ hI _ hc _
    refine law_close T KX hmg hg htab hL hI (by omega) (OK _ _) (fun _ => rfl) ?_
    first | (rfl; trace "rfl") | (with_unfolding_all rfl; trace "wua") | (decide; trace "dec") | (simp; trace "simp") | (kernel_rfl; trace "krn") | (wrow_close; trace "wrow")
end Mine

open PySem PySem.W PySem.Calls PyProof.Rows
set_option Elab.async false
set_option maxRecDepth 1000000
set_option maxHeartbeats 0
set_option linter.unusedVariables false
namespace Mine
noncomputable def stayB (c : Nat) : Bool := keepC c && (b3 c == [c]) && decide (c ≠ 9) && decide (c ≠ 13) && decide (c < 1114112)
noncomputable def prB (s : Nat) (m : List Nat) : Bool := (prep [s] == m) && decide (s < 1114112) && decide (s ≠ 9) && decide (s ≠ 13)
theorem ck0 : plains.all stayB = true := by kernel_rfl
theorem ck1 : ((List.range 26).all fun b => stayB (97 + b) && prB (65 + b) [97 + b]) = true := by kernel_rfl
theorem ck2 : ((List.range 10).all fun a => (List.range 26).all fun b => prB (starts.getD a 0 + b) [97 + b]) = true := by kernel_rfl
theorem ck3 : ((List.range 32).all fun b => stayB (1072 + b) && prB (1040 + b) [1072 + b]) = true := by kernel_rfl
theorem ck4 : (manys.all fun p => prB p.1 p.2 && p.2.all stayB && decide (p.2.length ≤ 8)) = true := by kernel_rfl
theorem ck5 : (gones.all fun s => prB s []) = true := by kernel_rfl
theorem ck6 : (((List.range 97).all fun k => c9 (if 0 < k then 917535 + k else 917505) && prB (if 0 < k then 917535 + k else 917505) [])) = true := by kernel_rfl
theorem ck7 : ((List.range 64).all fun d => c9 (917568 + d)) = true := by kernel_rfl
theorem ck8 : ((List.range 16).all fun d => b1 (65024 + d)) = true := by kernel_rfl
theorem ck9 : ([92, 34, 32, 10].all stayB) = true := by kernel_rfl
end Mine

open PySem PySem.W PySem.Calls PyProof.Rows
set_option Elab.async false
set_option maxRecDepth 1000000
set_option maxHeartbeats 0
set_option linter.unusedVariables false
namespace Mine
structure Stay (c : Nat) : Prop where
  k : keepC c = true
  b : b3 c = [c]
  n9 : c ≠ 9
  n13 : c ≠ 13
  lt : c < 1114112
theorem stay_of {c : Nat} (h : stayB c = true) : Stay c := by
  unfold stayB at h
  simp only [Bool.and_eq_true, decide_eq_true_eq, beq_iff_eq] at h
  exact ⟨h.1.1.1.1, h.1.1.1.2, h.1.1.2, h.1.2, h.2⟩
theorem Stay.c9 {c : Nat} (h : Stay c) : Mine.c9 c = false := by
  have := h.k
  unfold keepC at this
  simp only [Bool.and_eq_true, Bool.not_eq_true'] at this
  exact this.2
structure Fp (p : Nat × List Nat) : Prop where
  pr : prep [p.1] = p.2
  st : ∀ c ∈ p.2, Stay c
  lt : p.1 < 1114112
  n9 : p.1 ≠ 9
  n13 : p.1 ≠ 13
  le : p.2.length ≤ 8
theorem fp_of {s : Nat} {m : List Nat} (h : prB s m = true) (hs : ∀ c ∈ m, Stay c) (hl : m.length ≤ 8) : Fp (s, m) := by
  unfold prB at h
  simp only [Bool.and_eq_true, decide_eq_true_eq, beq_iff_eq] at h
  exact ⟨h.1.1.1, hs, h.1.1.2, h.1.2, h.2, hl⟩
theorem prep_app (a b : List Nat) : prep (a ++ b) = prep a ++ prep b := by
  unfold prep; rw [List.filter_append, List.flatMap_append]
theorem prep_stay {c : Nat} (h : Stay c) : prep [c] = [c] := by
  unfold prep
  rw [List.filter_cons, h.k]
  simp [h.b]
theorem fp_stay {c : Nat} (h : Stay c) : Fp (c, [c]) :=
  ⟨prep_stay h, fun x hx => by rw [List.mem_singleton.mp hx]; exact h, h.lt, h.n9, h.n13, by simp⟩
theorem getD_mem {α} {l : List α} {i : Nat} {d : α} (h : i < l.length) : l.getD i d ∈ l := by
  rw [List.getD_eq_getElem?_getD, List.getElem?_eq_getElem h]; exact List.getElem_mem h
theorem modlt (z : Int) (n : Nat) (h : 0 < n) : (z.fmod n).toNat < n := by
  have h1 := Int.fmod_nonneg_of_pos z (by omega : (0 : Int) < n)
  have h2 := Int.fmod_lt_of_pos z (by omega : (0 : Int) < n)
  omega
theorem rangeAll {n : Nat} {p : Nat → Bool} (h : ((List.range n).all p) = true) {i : Nat} (hi : i < n) : p i = true := List.all_eq_true.mp h i (List.mem_range.mpr hi)
theorem letter {b : Nat} (h : b < 26) : Stay (97 + b) := by
  have := rangeAll ck1 h
  simp only [Bool.and_eq_true] at this
  exact stay_of this.1
theorem tag_mem (n : Int) : ∃ k, k < 97 ∧ tagN n = if 0 < k then 917535 + k else 917505 := by
  refine ⟨(n.fmod 97).toNat, modlt n 97 (by decide), ?_⟩
  have h1 := Int.fmod_nonneg_of_pos n (by decide : (0 : Int) < 97)
  unfold tagN
  by_cases h : 0 < n.fmod 97
  · rw [if_pos h, if_pos (by omega)]
  · rw [if_neg h, if_neg (by omega)]
theorem tag_ok (n : Int) : c9 (tagN n) = true ∧ Fp (tagN n, []) := by
  obtain ⟨k, hk, e⟩ := tag_mem n
  have := rangeAll ck6 hk
  simp only [Bool.and_eq_true] at this
  rw [e]
  exact ⟨this.1, fp_of this.2 (fun c hc => by cases hc) (by decide)⟩
theorem sign_ok (cell : Int) : Fp (signP cell) := by
  have h7 := modlt cell 7 (by decide)
  unfold signP
  simp only
  generalize cell.fdiv 7 = q
  have c7 : (cell.fmod 7).toNat < 7 := h7
  generalize (cell.fmod 7).toNat = k at c7
  rcases (by omega : k = 0 ∨ k = 1 ∨ k = 2 ∨ k = 3 ∨ k = 4 ∨ k = 5 ∨ k = 6) with rfl | rfl | rfl | rfl | rfl | rfl | rfl <;> simp only
  · have := List.all_eq_true.mp ck0 _ (getD_mem (l := plains) (d := 0) (i := (q.fmod 8).toNat) (modlt q 8 (by decide)))
    exact fp_stay (stay_of this)
  · have hb : (q.fmod 26).toNat < 26 := modlt q 26 (by decide)
    have := rangeAll ck1 hb
    simp only [Bool.and_eq_true] at this
    exact fp_of this.2 (fun c hc => by rw [List.mem_singleton.mp hc]; exact letter hb) (by simp)
  · have hb : (q.fmod 26).toNat < 26 := modlt q 26 (by decide)
    have ha : ((q.fdiv 26).fmod 10).toNat < 10 := modlt _ 10 (by decide)
    have := rangeAll (rangeAll ck2 ha) hb
    exact fp_of this (fun c hc => by rw [List.mem_singleton.mp hc]; exact letter hb) (by simp)
  · have hb : (q.fmod 32).toNat < 32 := modlt q 32 (by decide)
    have := rangeAll ck3 hb
    simp only [Bool.and_eq_true] at this
    exact fp_of this.2 (fun c hc => by rw [List.mem_singleton.mp hc]; exact stay_of this.1) (by simp)
  · have := List.all_eq_true.mp ck4 _ (getD_mem (l := manys) (d := (0, [])) (i := (q.fmod 8).toNat) (modlt q 8 (by decide)))
    simp only [Bool.and_eq_true, decide_eq_true_eq] at this
    exact fp_of this.1.1 (fun c hc => stay_of (List.all_eq_true.mp this.1.2 c hc)) this.2
  · have := List.all_eq_true.mp ck5 _ (getD_mem (l := gones) (d := 0) (i := (q.fmod 27).toNat) (modlt q 27 (by decide)))
    exact fp_of this (fun c hc => by cases hc) (by decide)
  · exact (tag_ok q).2
/-- the pairs of a page -/
noncomputable def OkP (p : Nat × List Nat) : Prop := (p.2 = [] ∧ keepC p.1 = false ∧ Fp p) ∨ (p.2 = [p.1] ∧ Stay p.1)
theorem OkP.fp {p} (h : OkP p) : Fp p := by
  rcases h with h | ⟨h1, h2⟩
  · exact h.2.2
  · obtain ⟨a, b⟩ := p
    simp only at h1 h2
    rw [h1]; exact fp_stay h2
theorem bits1 : ∀ d < 64, (917568 + d) &&& 63 = d ∧ (917568 + d) &&& 64 ≠ 0 := by decide
theorem bits2 : ∀ d < 16, (65024 + d) &&& 63 = d ∧ (65024 + d) &&& 64 = 0 := by decide
theorem or64 (v d : Nat) (h : d < 64) : (v * 64) ||| d = v * 64 + d := by
  have := Nat.two_pow_add_eq_or_of_lt (i := 6) h v
  rw [Nat.mul_comm v 64]
  simpa using this.symm
theorem vgo_digs (k : Nat) (hk : k < 16) (rest : List Nat) : ∀ (ds : List Nat) (j val b : Nat), (∀ d ∈ ds, d < 64) → b &&& 64 ≠ 0 → val < 64 ^ j → j + ds.length ≤ 9 →
    vgo val b (ds.map (fun d => 917568 + d) ++ (65024 + k) :: rest) = some (ds.foldl (fun v d => v * 64 + d) val * 64 + k, rest)
  | [], j, val, b, _, hb, hv, hj => by
    have hp : val < 2 ^ 58 := Nat.lt_of_lt_of_le hv (Nat.le_trans (Nat.pow_le_pow_right (by decide) (Nat.le_trans (Nat.le_add_right _ _) hj)) (by decide))
    obtain ⟨k1, k2⟩ := bits2 _ hk
    show vgo val b ((65024 + k) :: rest) = _
    unfold vgo
    rw [if_neg hb, if_pos hp, k1, or64 _ _ (Nat.lt_trans hk (by decide))]
    cases rest <;> (unfold vgo; rw [if_pos k2]; rfl)
  | d :: ds, j, val, b, h, hb, hv, hj => by
    have hp : val < 2 ^ 58 := Nat.lt_of_lt_of_le hv (Nat.le_trans (Nat.pow_le_pow_right (by decide) (Nat.le_trans (Nat.le_add_right _ _) hj)) (by decide))
    have hd := h d (.head _)
    obtain ⟨a1, a2⟩ := bits1 d hd
    show vgo val b ((917568 + d) :: (ds.map (fun d => 917568 + d) ++ (65024 + k) :: rest)) = _
    unfold vgo
    rw [if_neg hb, if_pos hp, a1, or64 _ _ hd]
    refine vgo_digs k hk rest ds (j + 1) _ _ (fun x hx => h x (.tail _ hx)) a2 ?_ ?_
    · rw [Nat.pow_succ]; omega
    · rw [List.length_cons] at hj; omega
theorem m64 (n : Nat) : n % 64 < 64 := Nat.mod_lt _ (by decide)
theorem digs3 (h : Nat) (hh : h < 69632) : ∃ d ds, digs h h [h % 64] = d :: ds ∧ (∀ x ∈ d :: ds, x < 64) ∧ ds.length ≤ 2 ∧ ds.foldl (fun v d => v * 64 + d) d = h := by
  by_cases c1 : 63 < h
  · rw [digs_step c1]
    by_cases c2 : 63 < h / 64
    · rw [digs_step c2, digs_done (by omega)]
      refine ⟨_, _, rfl, ?_, Nat.le_refl _, ?_⟩
      · intro x hx
        rcases List.mem_cons.mp hx with rfl | hx
        · exact m64 _
        rcases List.mem_cons.mp hx with rfl | hx
        · exact m64 _
        rw [List.mem_singleton.mp hx]; exact m64 _
      · show (h / 64 / 64 % 64 * 64 + h / 64 % 64) * 64 + h % 64 = h
        omega
    · rw [digs_done c2]
      refine ⟨_, _, rfl, ?_, (by decide : 1 ≤ 2), ?_⟩
      · intro x hx
        rcases List.mem_cons.mp hx with rfl | hx
        · exact m64 _
        rw [List.mem_singleton.mp hx]; exact m64 _
      · show h / 64 % 64 * 64 + h % 64 = h
        omega
  · rw [digs_done c1]
    refine ⟨_, _, rfl, ?_, (by decide : 0 ≤ 2), ?_⟩
    · intro x hx
      rw [List.mem_singleton.mp hx]; exact m64 _
    · show h % 64 = h
      omega
theorem unseen_is (s : Nat) (h : s < 1114112) : ∃ ds : List Nat, unseen s = ds.map (fun d => 917568 + d) ++ [65024 + s % 16] ∧ (∀ d ∈ ds, d < 64) ∧ ds.length ≤ 3 ∧
    ∀ rest, vint (unseen s ++ rest) = some (s / 16 * 64 + s % 16, rest) := by
  obtain ⟨d, ds, e, hd, hl, hv⟩ := digs3 (s / 16) (by omega)
  have eu : unseen s = (d :: ds).map (fun d => 917568 + d) ++ [65024 + s % 16] := by unfold unseen; rw [e]
  refine ⟨_, eu, hd, by rw [List.length_cons]; omega, ?_⟩
  intro rest
  have hd0 := hd d (.head _)
  obtain ⟨a1, a2⟩ := bits1 d hd0
  have := vgo_digs (s % 16) (Nat.mod_lt _ (by decide)) rest ds 1 d (917568 + d) (fun x hx => hd x (.tail _ hx)) a2 hd0 (by omega)
  rw [hv] at this
  rw [eu, List.append_assoc]
  show vgo ((917568 + d) &&& 63) (917568 + d) (ds.map (fun d => 917568 + d) ++ (65024 + s % 16) :: rest) = _
  rw [a1]
  exact this
theorem gone_ok {s : Nat} (h : keepC s = false) (h9 : s ≠ 9) (h13 : s ≠ 13) (hlt : s < 1114112) : OkP (s, []) := by
  refine .inl ⟨rfl, h, ⟨?_, (fun c hc => by cases hc), hlt, h9, h13, by simp⟩⟩
  unfold prep
  rw [List.filter_cons, h]
  rfl
theorem keep_c9 {s : Nat} (h : c9 s = true) : keepC s = false := by unfold keepC; rw [h]; simp
theorem keep_b1 {s : Nat} (h : b1 s = true) : keepC s = false := by unfold keepC; rw [h]; simp
theorem unseen_ok {s : Nat} (h : s < 1114112) : (∀ c ∈ unseen s, OkP (c, [])) ∧ (unseen s).length ≤ 4 := by
  obtain ⟨ds, e, hd, hl, _⟩ := unseen_is s h
  rw [e]
  refine ⟨?_, by simp; omega⟩
  intro c hc
  rcases List.mem_append.mp hc with hc | hc
  · obtain ⟨d, hd', rfl⟩ := List.mem_map.mp hc
    have := hd d hd'
    exact gone_ok (keep_c9 (rangeAll ck7 this)) (by omega) (by omega) (by omega)
  · rw [List.mem_singleton.mp hc]
    have hk : s % 16 < 16 := Nat.mod_lt _ (by decide)
    exact gone_ok (keep_b1 (rangeAll ck8 hk)) (by omega) (by omega) (by omega)
end Mine

open PySem PySem.W PySem.Calls PyProof.Rows
set_option Elab.async false
set_option maxRecDepth 1000000
set_option maxHeartbeats 0
set_option linter.unusedVariables false
namespace Mine
theorem text_cons (c : Nat) (p) (r) : textP c (p :: r) = colP c p ++ textP c r := by unfold textP; rw [List.flatMap_cons]
theorem text_app (c : Nat) (a b) : textP c (a ++ b) = textP c a ++ textP c b := by unfold textP; rw [List.flatMap_append]
theorem col0 (p : Nat × List Nat) : colP 0 p = [p.1] := rfl
theorem col1 (p : Nat × List Nat) : colP 1 p = p.2 := rfl
/-- L1 -/
theorem prep_text : ∀ {ps : List (Nat × List Nat)}, (∀ p ∈ ps, Fp p) → prep (textP 0 ps) = textP 1 ps
  | [], _ => rfl
  | p :: r, h => by
    rw [text_cons, text_cons, prep_app, col0, col1, (h p (.head _)).pr, prep_text (fun q hq => h q (.tail _ hq))]
/-- L2 -/
theorem text_kept : ∀ {ps : List (Nat × List Nat)}, (∀ p ∈ ps, OkP p) → textP 1 ps = textP 0 (ps.filter nonE)
  | [], _ => rfl
  | p :: r, h => by
    have ih := text_kept (fun q hq => h q (.tail _ hq))
    rw [text_cons, col1, List.filter_cons, ih]
    rcases h p (.head _) with ⟨h1, _⟩ | ⟨h1, _⟩
    · have : nonE p = false := by unfold nonE; rw [h1]; rfl
      rw [this, h1]; rfl
    · have : nonE p = true := by unfold nonE; rw [h1]; rfl
      rw [this, h1, if_pos rfl, text_cons, col0]
theorem stay_all {c : Nat} (h : c ∈ [92, 34, 32, 10]) : Stay c := stay_of (List.all_eq_true.mp ck9 _ h)
theorem esc_sub (b : Bool) {c : Nat} (h : c ∈ escS b) : c ∈ [92, 34, 32, 10] := by
  cases b
  · unfold escS at h; simp at h ⊢; omega
  · exact h
theorem ok_1 {c : Nat} (h : c ∈ [92, 34, 32, 10]) : OkP (c, [c]) := .inr ⟨rfl, stay_all h⟩
theorem page_ok (b : Bool) {sh} (h : ∀ p ∈ sh, OkP p) : ∀ p ∈ pageP b sh, OkP p := by
  intro p hp
  unfold pageP at hp
  have hf : ∀ p ∈ frameP b, OkP p := by
    intro p hp
    cases b
    · rw [List.mem_singleton.mp hp]; exact ok_1 (by decide)
    · cases hp
  rcases List.mem_append.mp hp with hp | hp
  · rcases List.mem_append.mp hp with hp | hp
    · rcases List.mem_append.mp hp with hp | hp
      · exact hf p hp
      · obtain ⟨q, hq, hp⟩ := List.mem_flatMap.mp hp
        unfold page1 at hp
        split at hp
        · rcases List.mem_cons.mp hp with rfl | hp
          · exact ok_1 (by decide)
          · rw [List.mem_singleton.mp hp]; exact h q hq
        · rw [List.mem_singleton.mp hp]; exact h q hq
    · exact hf p hp
  · rw [List.mem_singleton.mp hp]; exact ok_1 (by decide)
/-- L3 -/
theorem page1_kept (b : Bool) {p} (h : OkP p) : (page1 b p).filter nonE = if nonE p = true then page1 b p else [] := by
  rcases h with ⟨h1, h2, _⟩ | ⟨h1, h2⟩
  · have e : nonE p = false := by unfold nonE; rw [h1]; rfl
    have ne : p.1 ∉ escS b := fun m => by
      have := (stay_all (esc_sub b m)).k
      rw [h2] at this; cases this
    unfold page1
    rw [if_neg ne, e]
    simp [e]
  · have e : nonE p = true := by unfold nonE; rw [h1]; rfl
    have e92 : nonE (92, [92]) = true := rfl
    unfold page1
    split <;> simp [e, e92]
theorem flat_kept (b : Bool) : ∀ {sh : List (Nat × List Nat)}, (∀ p ∈ sh, OkP p) → (sh.flatMap (page1 b)).filter nonE = (sh.filter nonE).flatMap (page1 b)
  | [], _ => rfl
  | p :: r, h => by
    rw [List.flatMap_cons, List.filter_append, page1_kept b (h p (.head _)), flat_kept b (fun q hq => h q (.tail _ hq)), List.filter_cons]
    cases nonE p with
    | true => rfl
    | false => rfl
theorem page_kept (b : Bool) {sh} (h : ∀ p ∈ sh, OkP p) : (pageP b sh).filter nonE = pageP b (sh.filter nonE) := by
  unfold pageP
  rw [List.filter_append, List.filter_append, List.filter_append, flat_kept b h]
  cases b <;> rfl
/-- L5 -/
theorem shown1_text (ld : Nat) (p) : textP 1 (shown1 ld p) = p.2 := by
  unfold shown1
  split
  · rename_i h
    rw [text_cons, col1]
    simp [h, textP]
  · rw [text_app]
    have e1 : ∀ m : List Nat, textP 1 (m.map (fun c => (c, [c]))) = m := by
      intro m
      induction m with
      | nil => rfl
      | cons a r ih => rw [List.map_cons, text_cons, ih]; rfl
    have e2 : ∀ m : List Nat, textP 1 (m.map (fun c => (c, ([] : List Nat)))) = [] := by
      intro m
      induction m with
      | nil => rfl
      | cons a r ih => rw [List.map_cons, text_cons, ih]; rfl
    rw [e1, e2, List.append_nil]
theorem shown_text (ld : Nat) : ∀ ps, textP 1 (shownP ld ps) = textP 1 ps
  | [] => rfl
  | p :: r => by
    show textP 1 ((p :: r).flatMap (shown1 ld)) = _
    rw [List.flatMap_cons, text_app, shown1_text, text_cons, col1]
    have := shown_text ld r
    unfold shownP at this
    rw [this]
theorem shown1_ok {ld : Nat} (hld : OkP (ld, [])) {p} (h : Fp p) : (∀ q ∈ shown1 ld p, OkP q) ∧ (shown1 ld p).length ≤ 13 := by
  unfold shown1
  have hu := unseen_ok h.lt
  split
  · rename_i e
    refine ⟨?_, by simp⟩
    intro q hq
    rw [List.mem_singleton.mp hq]
    exact .inr ⟨rfl, h.st _ (by rw [← e]; exact .head _)⟩
  · refine ⟨?_, ?_⟩
    · intro q hq
      rcases List.mem_append.mp hq with hq | hq
      · obtain ⟨c, hc, rfl⟩ := List.mem_map.mp hq
        exact .inr ⟨rfl, h.st c hc⟩
      · obtain ⟨c, hc, rfl⟩ := List.mem_map.mp hq
        rcases List.mem_cons.mp hc with rfl | hc
        · exact hld
        · exact hu.1 c hc
    · have h1 := h.le
      have h2 := hu.2
      simp only [List.length_append, List.length_map, List.length_cons]
      omega
theorem shown_ok {ld : Nat} (hld : OkP (ld, [])) : ∀ {ps}, (∀ p ∈ ps, Fp p) → (∀ q ∈ shownP ld ps, OkP q) ∧ (shownP ld ps).length ≤ 13 * ps.length
  | [], _ => ⟨fun q hq => by (unfold shownP at hq; cases hq), by simp [shownP]⟩
  | p :: r, h => by
    have h1 := shown1_ok hld (h p (.head _))
    have h2 := shown_ok hld (fun q hq => h q (.tail _ hq))
    have e : shownP ld (p :: r) = shown1 ld p ++ shownP ld r := by unfold shownP; rw [List.flatMap_cons]
    rw [e]
    refine ⟨?_, ?_⟩
    · intro q hq
      rcases List.mem_append.mp hq with hq | hq
      · exact h1.1 q hq
      · exact h2.1 q hq
    · have := h1.2
      have := h2.2
      simp only [List.length_append, List.length_cons]
      omega
/-- L4: the lexer -/
theorem qtok_page : ∀ (sh : List (Nat × List Nat)) (acc rest : List Nat), qtok (textP 0 (sh.flatMap (page1 false)) ++ 34 :: rest) acc = some (acc ++ textP 0 sh, rest)
  | [], acc, rest => by
    show qtok (34 :: rest) acc = _
    unfold qtok
    rw [if_pos rfl]
    simp [textP]
  | p :: r, acc, rest => by
    rw [List.flatMap_cons, text_app, List.append_assoc, text_cons, col0]
    unfold page1
    split
    · show qtok (92 :: p.1 :: (textP 0 (r.flatMap (page1 false)) ++ 34 :: rest)) acc = _
      unfold qtok
      rw [if_neg (by decide), if_pos rfl]
      simp only
      rw [qtok_page r]
      simp
    · rename_i h
      show qtok (p.1 :: (textP 0 (r.flatMap (page1 false)) ++ 34 :: rest)) acc = _
      unfold qtok
      have h1 : p.1 ≠ 34 := fun e => h (by rw [e]; decide)
      have h2 : p.1 ≠ 92 := fun e => h (by rw [e]; decide)
      rw [if_neg h1, if_neg h2, qtok_page r]
      simp
theorem not_ws {c : Nat} (h : c ∉ escS true) (h9 : c ≠ 9) (h13 : c ≠ 13) : c ∉ wsL ∧ c ≠ 34 ∧ c ≠ 92 := by
  unfold escS at h
  unfold wsL
  simp at h ⊢
  omega
theorem btok_page : ∀ (sh : List (Nat × List Nat)) (acc : List Nat), (∀ p ∈ sh, p.1 ≠ 9 ∧ p.1 ≠ 13) → btok (textP 0 (sh.flatMap (page1 true)) ++ [10]) acc = some (acc ++ textP 0 sh, [])
  | [], acc, _ => by
    show btok [10] acc = _
    unfold btok
    rw [if_pos (by decide)]
    simp [textP]
  | p :: r, acc, hh => by
    have ih := fun acc => btok_page r acc (fun q hq => hh q (.tail _ hq))
    rw [List.flatMap_cons, text_app, List.append_assoc, text_cons, col0]
    unfold page1
    split
    · show btok (92 :: p.1 :: (textP 0 (r.flatMap (page1 true)) ++ [10])) acc = _
      unfold btok
      rw [if_neg (by decide), if_pos rfl]
      simp only
      rw [ih]
      simp
    · rename_i h
      show btok (p.1 :: (textP 0 (r.flatMap (page1 true)) ++ [10])) acc = _
      obtain ⟨a, b⟩ := hh p (.head _)
      obtain ⟨h1, h2, h3⟩ := not_ws h a b
      unfold btok
      rw [if_neg h1, if_neg h3, ih]
      simp
theorem gtok_page (b : Bool) {sh : List (Nat × List Nat)} (hh : ∀ p ∈ sh, p.1 ≠ 9 ∧ p.1 ≠ 13) : ∃ r1, gtok (textP 0 (pageP b sh)) = some (textP 0 sh, r1) ∧ gtok r1 = some ([], []) := by
  have g0 : gtok [] = some ([], []) := rfl
  have g10 : gtok [10] = some ([], []) := by unfold gtok; rw [if_pos (by decide)]; exact g0
  unfold pageP
  rw [text_app, text_app, text_app]
  cases b with
  | false =>
    refine ⟨[10], ?_, g10⟩
    show gtok ((34 :: textP 0 (sh.flatMap (page1 false)) ++ [34]) ++ [10]) = _
    have := qtok_page sh [] [10]
    unfold gtok
    simp only [List.cons_append, List.append_assoc, List.nil_append] at this ⊢
    rw [if_neg (by decide), if_pos trivial]
    exact this
  | true =>
    refine ⟨[], ?_, g0⟩
    show gtok (([] ++ textP 0 (sh.flatMap (page1 true)) ++ []) ++ [10]) = _
    rw [List.nil_append, List.append_nil]
    cases sh with
    | nil => exact g10
    | cons p r =>
      have ih := fun acc => btok_page r acc (fun q hq => hh q (.tail _ hq))
      rw [List.flatMap_cons, text_app, List.append_assoc, text_cons, col0]
      obtain ⟨a, b⟩ := hh p (.head _)
      unfold page1
      split
      · show gtok (92 :: p.1 :: (textP 0 (r.flatMap (page1 true)) ++ [10])) = _
        unfold gtok
        rw [if_neg (by decide), if_neg (by decide), if_pos rfl]
        simp only
        rw [ih]
      · rename_i h
        show gtok (p.1 :: (textP 0 (r.flatMap (page1 true)) ++ [10])) = _
        obtain ⟨h1, h2, h3⟩ := not_ws h a b
        unfold gtok
        rw [if_neg h1, if_neg h2, if_neg h3, ih]
/-- L6: the undoing -/
theorem undo_plain : ∀ (m : List Nat) (f : Nat) (rest text : List Nat), (∀ c ∈ m, c9 c = false) → undo (f + m.length) (m ++ rest) text = undo f rest (text ++ m)
  | [], f, rest, text, _ => by simp
  | c :: m, f, rest, text, h => by
    have h1 := h c (.head _)
    show undo (f + m.length + 1) (c :: (m ++ rest)) text = _
    conv => lhs; unfold undo
    rw [if_neg (by rw [h1]; decide), undo_plain m f rest _ (fun q hq => h q (.tail _ hq)), List.append_assoc]
    rfl
theorem text0_map (m : List Nat) (g : Nat → List Nat) : textP 0 (m.map (fun c => (c, g c))) = m := by
  induction m with
  | nil => rfl
  | cons a r ih => rw [List.map_cons, text_cons, ih]; rfl
theorem undo_shown {ld : Nat} (hld : c9 ld = true) : ∀ {ps : List (Nat × List Nat)} (text : List Nat), (∀ p ∈ ps, Fp p) → ∃ f, undo f (textP 0 (shownP ld ps)) text = some (text ++ textP 0 ps)
  | [], text, _ => ⟨0, by simp [shownP, textP, undo]⟩
  | p :: r, text, h => by
    obtain ⟨f, ih⟩ := undo_shown hld (text ++ [p.1]) (fun q hq => h q (.tail _ hq))
    have hp := h p (.head _)
    have e : shownP ld (p :: r) = shown1 ld p ++ shownP ld r := by unfold shownP; rw [List.flatMap_cons]
    rw [e, text_app, text_cons, col0, ← List.append_assoc]
    unfold shown1
    split
    · rename_i hq
      refine ⟨f + [p.1].length, ?_⟩
      have hs : Stay p.1 := hp.st _ (by rw [← hq]; exact .head _)
      have := undo_plain [p.1] f (textP 0 (shownP ld r)) text (fun c hc => by rw [List.mem_singleton.mp hc]; exact hs.c9)
      rw [ih] at this
      exact this
    · refine ⟨f + 1 + p.2.length, ?_⟩
      rw [text_app, text0_map p.2 (fun c => [c]), text0_map (ld :: unseen p.1) (fun _ => []), List.append_assoc, undo_plain _ _ _ _ (fun c hc => (hp.st c hc).c9)]
      obtain ⟨ds, _, _, _, hv⟩ := unseen_is p.1 hp.lt
      have hv' := hv (textP 0 (shownP ld r))
      show undo (f + 1) (ld :: (unseen p.1 ++ textP 0 (shownP ld r))) (text ++ p.2) = _
      unfold undo
      rw [if_pos hld, hv']
      have hs : (p.1 / 16 * 64 + p.1 % 16) / 64 * 16 + (p.1 / 16 * 64 + p.1 % 16) % 64 = p.1 := by omega
      simp only [hs, hp.pr]
      have he : endsB (text ++ p.2) p.2 = true := by
        unfold endsB
        simp
      rw [if_pos ⟨hp.lt, he⟩]
      have ht : (text ++ p.2).take ((text ++ p.2).length - p.2.length) = text := by simp
      rw [ht]
      exact ih
end Mine

open PySem PySem.W PySem.Calls PyProof.Rows
set_option Elab.async false
set_option maxRecDepth 1000000
set_option maxHeartbeats 0
set_option linter.unusedVariables false
namespace Mine
theorem text0_mem {ps : List (Nat × List Nat)} {c : Nat} (h : c ∈ textP 0 ps) : ∃ p ∈ ps, c = p.1 := by
  unfold textP at h
  obtain ⟨p, hp, hc⟩ := List.mem_flatMap.mp h
  exact ⟨p, hp, List.mem_singleton.mp hc⟩
theorem kept_ok {ps : List (Nat × List Nat)} (h : ∀ p ∈ ps, OkP p) : ∀ p ∈ ps.filter nonE, OkP p := fun p hp => h p (List.mem_filter.mp hp).1
theorem prep_page (b : Bool) {sh : List (Nat × List Nat)} (h : ∀ p ∈ sh, OkP p) : prep (textP 0 (pageP b sh)) = textP 0 (pageP b (sh.filter nonE)) := by
  rw [prep_text (fun p hp => (page_ok b h p hp).fp), text_kept (page_ok b h), page_kept b h]
/-- a turn of law's loop, in plain words -/
theorem turn_ok (b : Bool) {ld : Nat} (hld : c9 ld = true) (hlo : OkP (ld, [])) {below : List (Nat × List Nat)} (hb : ∀ p ∈ below, Fp p) (hn : below.length ≤ 1000) :
    Turn (textP 0 (pageP b (shownP ld below))) (prep (textP 0 (pageP b (shownP ld below)))) (shownP ld below) below := by
  obtain ⟨ho, hl⟩ := shown_ok hlo hb
  have hk := kept_ok ho
  have pl := page_len b (shownP ld below)
  have n9 : ∀ {ps : List (Nat × List Nat)}, (∀ p ∈ ps, OkP p) → ∀ p ∈ ps, p.1 ≠ 9 ∧ p.1 ≠ 13 := fun h p hp => ⟨(h p hp).fp.n9, (h p hp).fp.n13⟩
  have ep := prep_page b ho
  have pl2 := page_len b ((shownP ld below).filter nonE)
  have fl : ((shownP ld below).filter nonE).length ≤ (shownP ld below).length := List.length_filter_le _ _
  refine ⟨gtok_page b (n9 ho), ?_, ?_, prep_text hb, ?_, ?_, by omega, by omega, fun p hp => (ho p hp).fp.le, fun p hp => (hb p hp).le, ?_⟩
  · rw [ep]
    have := gtok_page b (n9 hk)
    rw [← text_kept ho, shown_text] at this
    exact this
  · obtain ⟨f, hf⟩ := undo_shown hld [] hb
    exact ⟨f, by simpa using hf⟩
  · rw [text0_len]; omega
  · rw [ep, text0_len]; omega
  · intro c hc
    obtain ⟨p, hp, rfl⟩ := text0_mem hc
    exact (ho p hp).fp.lt
theorem lawOk (vs : List Value) (total : Int) : LawOk vs total := by
  obtain ⟨hld, hlf⟩ := tag_ok (total.fdiv 4)
  have hlo : OkP (tagN (total.fdiv 4), []) := .inl ⟨rfl, keep_c9 hld, hlf⟩
  have hp : ∀ p ∈ lawPairs vs, Fp p := by
    intro p hp
    unfold lawPairs at hp
    obtain ⟨k, _, rfl⟩ := List.mem_map.mp hp
    exact sign_ok _
  have hpl : (lawPairs vs).length = 4 := by unfold lawPairs; simp
  obtain ⟨hi, hil⟩ := shown_ok hlo hp
  have hg := page_ok (bareI total) hi
  have hgl := page_len (bareI total) (shownP (tagN (total.fdiv 4)) (lawPairs vs))
  have hgf : ∀ p ∈ pageP (bareI total) (shownP (tagN (total.fdiv 4)) (lawPairs vs)), Fp p := fun p hp => (hg p hp).fp
  obtain ⟨ho, hol⟩ := shown_ok hlo hgf
  have t2 := turn_ok (bareI total) hld hlo hp (by omega)
  rw [prep_text hgf] at t2
  have t1 := turn_ok (bareI (total.fdiv 2)) hld hlo hgf (by omega)
  exact {
    p0 := fun p q => ⟨(hp p q).lt, (hp p q).le⟩
    n1 := by omega
    p1 := fun p hp => ⟨(hgf p hp).lt, (hgf p hp).le⟩
    n2 := by omega
    p2 := fun p q => (ho p q).fp.le
    eq := prep_page (bareI (total.fdiv 2)) ho
    tu1 := t1
    tu2 := t2 }
end Mine

set_option maxRecDepth 1000000 in
set_option maxHeartbeats 0 in
theorem PySem.Challenge.cw_rs0160_01_holds : PySem.Challenge.rw_rs0160_01.Holds := by
  exact Mine.law_of_ok Mine.lawOk
