import PyProof.Rows.All
import Wide.All
import Open.Line
import OpenK.KMore
import PyProof.Rows.SortStr
import PyProof.DictItemsLoops
import Lean
import PySem.Challenge.RW_tc0040_02
set_option bootstrap.genMatcherCode false
section
set_option Elab.async false
set_option maxRecDepth 100000
set_option linter.unusedVariables false
namespace Mine
open PySem PySem.Calls PySem.W PyProof.Rows
noncomputable abbrev P2 := PySem.Challenge.pw_tc0040_02
noncomputable def at1 (p : Program) (i : Nat) : Option Stmt := p.main.body[i]?
noncomputable def at2 (p : Program) (i j : Nat) : Option Stmt := match p.main.body[i]? with
  | some (.ClassDef _ _ _ b ..) => b[j]?
  | _ => none
noncomputable def defB : Option Stmt → List Stmt
  | some (.FunctionDef _ _ b ..) => b
  | _ => []
noncomputable def defA : Option Stmt → Arguments
  | some (.FunctionDef _ a ..) => a
  | _ => default
noncomputable def defS : Option Stmt → Scope
  | some (.FunctionDef _ _ _ _ _ _ sc ..) => sc
  | _ => default
noncomputable abbrev sv (x : String) (t : Tok) : Value := .str (Str.ofString x) t
noncomputable def en (P : Params) (x : String) (t : Tok) (v : Value) : DictEntry := ⟨PyData.keyHash P (Str.ofString x), sv x t, v⟩
noncomputable def fd38 : FuncData := { name := (Str.ofString "_wall"), qualname := (Str.ofString "_wall"), params := (defA (at1 P2 1)), body := .stmts (defB (at1 P2 1)), scope := (defS (at1 P2 1)), globals := 3, closure := [], defaults := .none, kwdefaults := .none, doc := .none, pyModule := (sv "__main__" 164), annotations := none, code := (.ref 37), closureTuple := .none, builtins := 0 }
noncomputable def fd52 : FuncData := { name := (Str.ofString "__init__"), qualname := (Str.ofString "_netrclex.__init__"), params := (defA (at2 P2 3 0)), body := .stmts (defB (at2 P2 3 0)), scope := (defS (at2 P2 3 0)), globals := 3, closure := [], defaults := .none, kwdefaults := .none, doc := .none, pyModule := (sv "cpy313.netrc" 289), annotations := none, code := (.ref 51), closureTuple := .none, builtins := 0 }
noncomputable def fd59 : FuncData := { name := (Str.ofString "_read_char"), qualname := (Str.ofString "_netrclex._read_char"), params := (defA (at2 P2 3 1)), body := .stmts (defB (at2 P2 3 1)), scope := (defS (at2 P2 3 1)), globals := 3, closure := [], defaults := .none, kwdefaults := .none, doc := .none, pyModule := (sv "cpy313.netrc" 289), annotations := none, code := (.ref 58), closureTuple := .none, builtins := 0 }
noncomputable def fd66 : FuncData := { name := (Str.ofString "get_token"), qualname := (Str.ofString "_netrclex.get_token"), params := (defA (at2 P2 3 2)), body := .stmts (defB (at2 P2 3 2)), scope := (defS (at2 P2 3 2)), globals := 3, closure := [], defaults := .none, kwdefaults := .none, doc := .none, pyModule := (sv "cpy313.netrc" 289), annotations := none, code := (.ref 65), closureTuple := .none, builtins := 0 }
noncomputable def fd73 : FuncData := { name := (Str.ofString "push_token"), qualname := (Str.ofString "_netrclex.push_token"), params := (defA (at2 P2 3 3)), body := .stmts (defB (at2 P2 3 3)), scope := (defS (at2 P2 3 3)), globals := 3, closure := [], defaults := .none, kwdefaults := .none, doc := .none, pyModule := (sv "cpy313.netrc" 289), annotations := none, code := (.ref 72), closureTuple := .none, builtins := 0 }
noncomputable def fd97 : FuncData := { name := (Str.ofString "__init__"), qualname := (Str.ofString "_Accumulator.__init__"), params := (defA (at2 P2 6 0)), body := .stmts (defB (at2 P2 6 0)), scope := (defS (at2 P2 6 0)), globals := 3, closure := [((Str.ofString "__class__"), 84)], defaults := (.ref 89), kwdefaults := .none, doc := .none, pyModule := (sv "cpy313.email.header" 349), annotations := none, code := (.ref 96), closureTuple := (.ref 90), builtins := 0 }
noncomputable def fd104 : FuncData := { name := (Str.ofString "push"), qualname := (Str.ofString "_Accumulator.push"), params := (defA (at2 P2 6 1)), body := .stmts (defB (at2 P2 6 1)), scope := (defS (at2 P2 6 1)), globals := 3, closure := [], defaults := .none, kwdefaults := .none, doc := .none, pyModule := (sv "cpy313.email.header" 349), annotations := none, code := (.ref 103), closureTuple := .none, builtins := 0 }
noncomputable def fd112 : FuncData := { name := (Str.ofString "pop_from"), qualname := (Str.ofString "_Accumulator.pop_from"), params := (defA (at2 P2 6 2)), body := .stmts (defB (at2 P2 6 2)), scope := (defS (at2 P2 6 2)), globals := 3, closure := [], defaults := (.ref 105), kwdefaults := .none, doc := .none, pyModule := (sv "cpy313.email.header" 349), annotations := none, code := (.ref 111), closureTuple := .none, builtins := 0 }
noncomputable def fd120 : FuncData := { name := (Str.ofString "pop"), qualname := (Str.ofString "_Accumulator.pop"), params := (defA (at2 P2 6 3)), body := .stmts (defB (at2 P2 6 3)), scope := (defS (at2 P2 6 3)), globals := 3, closure := [((Str.ofString "__class__"), 84)], defaults := .none, kwdefaults := .none, doc := .none, pyModule := (sv "cpy313.email.header" 349), annotations := none, code := (.ref 119), closureTuple := (.ref 113), builtins := 0 }
noncomputable def fd127 : FuncData := { name := (Str.ofString "__len__"), qualname := (Str.ofString "_Accumulator.__len__"), params := (defA (at2 P2 6 4)), body := .stmts (defB (at2 P2 6 4)), scope := (defS (at2 P2 6 4)), globals := 3, closure := [], defaults := .none, kwdefaults := .none, doc := .none, pyModule := (sv "cpy313.email.header" 349), annotations := none, code := (.ref 126), closureTuple := .none, builtins := 0 }
noncomputable def fd134 : FuncData := { name := (Str.ofString "__str__"), qualname := (Str.ofString "_Accumulator.__str__"), params := (defA (at2 P2 6 5)), body := .stmts (defB (at2 P2 6 5)), scope := (defS (at2 P2 6 5)), globals := 3, closure := [], defaults := .none, kwdefaults := .none, doc := .none, pyModule := (sv "cpy313.email.header" 349), annotations := none, code := (.ref 133), closureTuple := .none, builtins := 0 }
noncomputable def fd142 : FuncData := { name := (Str.ofString "reset"), qualname := (Str.ofString "_Accumulator.reset"), params := (defA (at2 P2 6 6)), body := .stmts (defB (at2 P2 6 6)), scope := (defS (at2 P2 6 6)), globals := 3, closure := [], defaults := (.ref 135), kwdefaults := .none, doc := .none, pyModule := (sv "cpy313.email.header" 349), annotations := none, code := (.ref 141), closureTuple := .none, builtins := 0 }
noncomputable def fd149 : FuncData := { name := (Str.ofString "is_onlyws"), qualname := (Str.ofString "_Accumulator.is_onlyws"), params := (defA (at2 P2 6 7)), body := .stmts (defB (at2 P2 6 7)), scope := (defS (at2 P2 6 7)), globals := 3, closure := [], defaults := .none, kwdefaults := .none, doc := .none, pyModule := (sv "cpy313.email.header" 349), annotations := none, code := (.ref 148), closureTuple := .none, builtins := 0 }
noncomputable def fd157 : FuncData := { name := (Str.ofString "part_count"), qualname := (Str.ofString "_Accumulator.part_count"), params := (defA (at2 P2 6 8)), body := .stmts (defB (at2 P2 6 8)), scope := (defS (at2 P2 6 8)), globals := 3, closure := [((Str.ofString "__class__"), 84)], defaults := .none, kwdefaults := .none, doc := .none, pyModule := (sv "cpy313.email.header" 349), annotations := none, code := (.ref 156), closureTuple := (.ref 150), builtins := 0 }
noncomputable def fd187 : FuncData := { name := (Str.ofString "_formatparam"), qualname := (Str.ofString "_formatparam"), params := (defA (at1 P2 11)), body := .stmts (defB (at1 P2 11)), scope := (defS (at1 P2 11)), globals := 3, closure := [], defaults := (.ref 180), kwdefaults := .none, doc := .none, pyModule := (sv "cpy313.wsgiref.headers" 448), annotations := none, code := (.ref 186), closureTuple := .none, builtins := 0 }
noncomputable def fd202 : FuncData := { name := (Str.ofString "__init__"), qualname := (Str.ofString "Headers.__init__"), params := (defA (at2 P2 12 0)), body := .stmts (defB (at2 P2 12 0)), scope := (defS (at2 P2 12 0)), globals := 3, closure := [], defaults := (.ref 195), kwdefaults := .none, doc := .none, pyModule := (sv "cpy313.wsgiref.headers" 448), annotations := none, code := (.ref 201), closureTuple := .none, builtins := 0 }
noncomputable def fd209 : FuncData := { name := (Str.ofString "_convert_string_type"), qualname := (Str.ofString "Headers._convert_string_type"), params := (defA (at2 P2 12 1)), body := .stmts (defB (at2 P2 12 1)), scope := (defS (at2 P2 12 1)), globals := 3, closure := [], defaults := .none, kwdefaults := .none, doc := .none, pyModule := (sv "cpy313.wsgiref.headers" 448), annotations := none, code := (.ref 208), closureTuple := .none, builtins := 0 }
noncomputable def fd216 : FuncData := { name := (Str.ofString "__len__"), qualname := (Str.ofString "Headers.__len__"), params := (defA (at2 P2 12 2)), body := .stmts (defB (at2 P2 12 2)), scope := (defS (at2 P2 12 2)), globals := 3, closure := [], defaults := .none, kwdefaults := .none, doc := .none, pyModule := (sv "cpy313.wsgiref.headers" 448), annotations := none, code := (.ref 215), closureTuple := .none, builtins := 0 }
noncomputable def fd223 : FuncData := { name := (Str.ofString "__setitem__"), qualname := (Str.ofString "Headers.__setitem__"), params := (defA (at2 P2 12 3)), body := .stmts (defB (at2 P2 12 3)), scope := (defS (at2 P2 12 3)), globals := 3, closure := [], defaults := .none, kwdefaults := .none, doc := .none, pyModule := (sv "cpy313.wsgiref.headers" 448), annotations := none, code := (.ref 222), closureTuple := .none, builtins := 0 }
noncomputable def fd228 : FuncData := { name := (Str.ofString "__delitem__"), qualname := (Str.ofString "Headers.__delitem__"), params := (defA (at2 P2 12 4)), body := .stmts (defB (at2 P2 12 4)), scope := (defS (at2 P2 12 4)), globals := 3, closure := [], defaults := .none, kwdefaults := .none, doc := .none, pyModule := (sv "cpy313.wsgiref.headers" 448), annotations := none, code := (.ref 227), closureTuple := .none, builtins := 0 }
noncomputable def fd235 : FuncData := { name := (Str.ofString "__getitem__"), qualname := (Str.ofString "Headers.__getitem__"), params := (defA (at2 P2 12 5)), body := .stmts (defB (at2 P2 12 5)), scope := (defS (at2 P2 12 5)), globals := 3, closure := [], defaults := .none, kwdefaults := .none, doc := .none, pyModule := (sv "cpy313.wsgiref.headers" 448), annotations := none, code := (.ref 234), closureTuple := .none, builtins := 0 }
noncomputable def fd242 : FuncData := { name := (Str.ofString "__contains__"), qualname := (Str.ofString "Headers.__contains__"), params := (defA (at2 P2 12 6)), body := .stmts (defB (at2 P2 12 6)), scope := (defS (at2 P2 12 6)), globals := 3, closure := [], defaults := .none, kwdefaults := .none, doc := .none, pyModule := (sv "cpy313.wsgiref.headers" 448), annotations := none, code := (.ref 241), closureTuple := .none, builtins := 0 }
noncomputable def fd247 : FuncData := { name := (Str.ofString "get_all"), qualname := (Str.ofString "Headers.get_all"), params := (defA (at2 P2 12 7)), body := .stmts (defB (at2 P2 12 7)), scope := (defS (at2 P2 12 7)), globals := 3, closure := [], defaults := .none, kwdefaults := .none, doc := .none, pyModule := (sv "cpy313.wsgiref.headers" 448), annotations := none, code := (.ref 246), closureTuple := .none, builtins := 0 }
noncomputable def fd255 : FuncData := { name := (Str.ofString "get"), qualname := (Str.ofString "Headers.get"), params := (defA (at2 P2 12 8)), body := .stmts (defB (at2 P2 12 8)), scope := (defS (at2 P2 12 8)), globals := 3, closure := [], defaults := (.ref 248), kwdefaults := .none, doc := .none, pyModule := (sv "cpy313.wsgiref.headers" 448), annotations := none, code := (.ref 254), closureTuple := .none, builtins := 0 }
noncomputable def fd260 : FuncData := { name := (Str.ofString "keys"), qualname := (Str.ofString "Headers.keys"), params := (defA (at2 P2 12 9)), body := .stmts (defB (at2 P2 12 9)), scope := (defS (at2 P2 12 9)), globals := 3, closure := [], defaults := .none, kwdefaults := .none, doc := .none, pyModule := (sv "cpy313.wsgiref.headers" 448), annotations := none, code := (.ref 259), closureTuple := .none, builtins := 0 }
noncomputable def fd265 : FuncData := { name := (Str.ofString "values"), qualname := (Str.ofString "Headers.values"), params := (defA (at2 P2 12 10)), body := .stmts (defB (at2 P2 12 10)), scope := (defS (at2 P2 12 10)), globals := 3, closure := [], defaults := .none, kwdefaults := .none, doc := .none, pyModule := (sv "cpy313.wsgiref.headers" 448), annotations := none, code := (.ref 264), closureTuple := .none, builtins := 0 }
noncomputable def fd272 : FuncData := { name := (Str.ofString "items"), qualname := (Str.ofString "Headers.items"), params := (defA (at2 P2 12 11)), body := .stmts (defB (at2 P2 12 11)), scope := (defS (at2 P2 12 11)), globals := 3, closure := [], defaults := .none, kwdefaults := .none, doc := .none, pyModule := (sv "cpy313.wsgiref.headers" 448), annotations := none, code := (.ref 271), closureTuple := .none, builtins := 0 }
noncomputable def fd279 : FuncData := { name := (Str.ofString "__repr__"), qualname := (Str.ofString "Headers.__repr__"), params := (defA (at2 P2 12 12)), body := .stmts (defB (at2 P2 12 12)), scope := (defS (at2 P2 12 12)), globals := 3, closure := [], defaults := .none, kwdefaults := .none, doc := .none, pyModule := (sv "cpy313.wsgiref.headers" 448), annotations := none, code := (.ref 278), closureTuple := .none, builtins := 0 }
noncomputable def fd284 : FuncData := { name := (Str.ofString "__str__"), qualname := (Str.ofString "Headers.__str__"), params := (defA (at2 P2 12 13)), body := .stmts (defB (at2 P2 12 13)), scope := (defS (at2 P2 12 13)), globals := 3, closure := [], defaults := .none, kwdefaults := .none, doc := .none, pyModule := (sv "cpy313.wsgiref.headers" 448), annotations := none, code := (.ref 283), closureTuple := .none, builtins := 0 }
noncomputable def fd291 : FuncData := { name := (Str.ofString "__bytes__"), qualname := (Str.ofString "Headers.__bytes__"), params := (defA (at2 P2 12 14)), body := .stmts (defB (at2 P2 12 14)), scope := (defS (at2 P2 12 14)), globals := 3, closure := [], defaults := .none, kwdefaults := .none, doc := .none, pyModule := (sv "cpy313.wsgiref.headers" 448), annotations := none, code := (.ref 290), closureTuple := .none, builtins := 0 }
noncomputable def fd298 : FuncData := { name := (Str.ofString "setdefault"), qualname := (Str.ofString "Headers.setdefault"), params := (defA (at2 P2 12 15)), body := .stmts (defB (at2 P2 12 15)), scope := (defS (at2 P2 12 15)), globals := 3, closure := [], defaults := .none, kwdefaults := .none, doc := .none, pyModule := (sv "cpy313.wsgiref.headers" 448), annotations := none, code := (.ref 297), closureTuple := .none, builtins := 0 }
noncomputable def fd305 : FuncData := { name := (Str.ofString "add_header"), qualname := (Str.ofString "Headers.add_header"), params := (defA (at2 P2 12 16)), body := .stmts (defB (at2 P2 12 16)), scope := (defS (at2 P2 12 16)), globals := 3, closure := [], defaults := .none, kwdefaults := .none, doc := .none, pyModule := (sv "cpy313.wsgiref.headers" 448), annotations := none, code := (.ref 304), closureTuple := .none, builtins := 0 }
noncomputable def fd319 : FuncData := { name := (Str.ofString "_law_lexer"), qualname := (Str.ofString "_law_lexer"), params := (defA (at1 P2 14)), body := .stmts (defB (at1 P2 14)), scope := (defS (at1 P2 14)), globals := 3, closure := [], defaults := .none, kwdefaults := .none, doc := .none, pyModule := (sv "law_tc0040_02" 711), annotations := none, code := (.ref 318), closureTuple := .none, builtins := 0 }
noncomputable def fd326 : FuncData := { name := (Str.ofString "_law_names"), qualname := (Str.ofString "_law_names"), params := (defA (at1 P2 15)), body := .stmts (defB (at1 P2 15)), scope := (defS (at1 P2 15)), globals := 3, closure := [], defaults := .none, kwdefaults := .none, doc := .none, pyModule := (sv "law_tc0040_02" 711), annotations := none, code := (.ref 325), closureTuple := .none, builtins := 0 }
noncomputable def fd333 : FuncData := { name := (Str.ofString "_law_ties"), qualname := (Str.ofString "_law_ties"), params := (defA (at1 P2 16)), body := .stmts (defB (at1 P2 16)), scope := (defS (at1 P2 16)), globals := 3, closure := [], defaults := .none, kwdefaults := .none, doc := .none, pyModule := (sv "law_tc0040_02" 711), annotations := none, code := (.ref 332), closureTuple := .none, builtins := 0 }
noncomputable def fd338 : FuncData := { name := (Str.ofString "_law_order"), qualname := (Str.ofString "_law_order"), params := (defA (at1 P2 17)), body := .stmts (defB (at1 P2 17)), scope := (defS (at1 P2 17)), globals := 3, closure := [], defaults := .none, kwdefaults := .none, doc := .none, pyModule := (sv "law_tc0040_02" 711), annotations := none, code := (.ref 337), closureTuple := .none, builtins := 0 }
noncomputable def fd343 : FuncData := { name := (Str.ofString "_law_kept"), qualname := (Str.ofString "_law_kept"), params := (defA (at1 P2 18)), body := .stmts (defB (at1 P2 18)), scope := (defS (at1 P2 18)), globals := 3, closure := [], defaults := .none, kwdefaults := .none, doc := .none, pyModule := (sv "law_tc0040_02" 711), annotations := none, code := (.ref 342), closureTuple := .none, builtins := 0 }
noncomputable def fd350 : FuncData := { name := (Str.ofString "_law_crossed"), qualname := (Str.ofString "_law_crossed"), params := (defA (at1 P2 19)), body := .stmts (defB (at1 P2 19)), scope := (defS (at1 P2 19)), globals := 3, closure := [], defaults := .none, kwdefaults := .none, doc := .none, pyModule := (sv "law_tc0040_02" 711), annotations := none, code := (.ref 349), closureTuple := .none, builtins := 0 }
noncomputable def fd357 : FuncData := { name := (Str.ofString "_law_drawn"), qualname := (Str.ofString "_law_drawn"), params := (defA (at1 P2 20)), body := .stmts (defB (at1 P2 20)), scope := (defS (at1 P2 20)), globals := 3, closure := [], defaults := .none, kwdefaults := .none, doc := .none, pyModule := (sv "law_tc0040_02" 711), annotations := none, code := (.ref 356), closureTuple := .none, builtins := 0 }
noncomputable def fd362 : FuncData := { name := (Str.ofString "_law_gone"), qualname := (Str.ofString "_law_gone"), params := (defA (at1 P2 21)), body := .stmts (defB (at1 P2 21)), scope := (defS (at1 P2 21)), globals := 3, closure := [], defaults := .none, kwdefaults := .none, doc := .none, pyModule := (sv "law_tc0040_02" 711), annotations := none, code := (.ref 361), closureTuple := .none, builtins := 0 }
noncomputable def fd367 : FuncData := { name := (Str.ofString "_law_back"), qualname := (Str.ofString "_law_back"), params := (defA (at1 P2 22)), body := .stmts (defB (at1 P2 22)), scope := (defS (at1 P2 22)), globals := 3, closure := [], defaults := .none, kwdefaults := .none, doc := .none, pyModule := (sv "law_tc0040_02" 711), annotations := none, code := (.ref 366), closureTuple := .none, builtins := 0 }
noncomputable def fd372 : FuncData := { name := (Str.ofString "law"), qualname := (Str.ofString "law"), params := (defA (at1 P2 23)), body := .stmts (defB (at1 P2 23)), scope := (defS (at1 P2 23)), globals := 3, closure := [], defaults := .none, kwdefaults := .none, doc := .none, pyModule := (sv "law_tc0040_02" 711), annotations := none, code := (.ref 371), closureTuple := .none, builtins := 0 }
noncomputable def kFrag (P : Params) : Frag := [
  (0, ⟨(.type "dict"), none, (.dict [en P "__name__" 1 (sv "builtins" 160), en P "__doc__" 2 (.builtin "builtins.__doc__:str#opaque"), en P "__package__" 3 (.builtin "builtins.__package__:str#opaque"), en P "__loader__" 4 (.builtin "builtins.__loader__:shared#opaque"), en P "__spec__" 5 (.builtin "builtins.__spec__#opaque"), en P "__build_class__" 6 (.builtin "__build_class__"), en P "__import__" 7 (.builtin "__import__"), en P "abs" 8 (.builtin "abs"), en P "all" 9 (.builtin "all"), en P "any" 10 (.builtin "any"), en P "ascii" 11 (.builtin "ascii"), en P "bin" 12 (.builtin "bin"), en P "breakpoint" 13 (.builtin "breakpoint"), en P "callable" 14 (.builtin "callable"), en P "chr" 15 (.builtin "chr"), en P "compile" 16 (.builtin "compile"), en P "delattr" 17 (.builtin "delattr"), en P "dir" 18 (.builtin "dir"), en P "divmod" 19 (.builtin "divmod"), en P "eval" 20 (.builtin "eval"), en P "exec" 21 (.builtin "exec"), en P "format" 22 (.builtin "format"), en P "getattr" 23 (.builtin "getattr"), en P "globals" 24 (.builtin "globals"), en P "hasattr" 25 (.builtin "hasattr"), en P "hash" 26 (.builtin "hash"), en P "hex" 27 (.builtin "hex"), en P "id" 28 (.builtin "id"), en P "input" 29 (.builtin "input"), en P "isinstance" 30 (.builtin "isinstance"), en P "issubclass" 31 (.builtin "issubclass"), en P "iter" 32 (.builtin "iter"), en P "aiter" 33 (.builtin "aiter"), en P "len" 34 (.builtin "len"), en P "locals" 35 (.builtin "locals"), en P "max" 36 (.builtin "max"), en P "min" 37 (.builtin "min"), en P "next" 38 (.builtin "next"), en P "anext" 39 (.builtin "anext"), en P "oct" 40 (.builtin "oct"), en P "ord" 41 (.builtin "ord"), en P "pow" 42 (.builtin "pow"), en P "print" 43 (.builtin "print"), en P "repr" 44 (.builtin "repr"), en P "round" 45 (.builtin "round"), en P "setattr" 46 (.builtin "setattr"), en P "sorted" 47 (.builtin "sorted"), en P "sum" 48 (.builtin "sum"), en P "vars" 49 (.builtin "vars"), en P "None" 50 .none, en P "Ellipsis" 51 .ellipsis, en P "NotImplemented" 52 .notImplemented, en P "False" 53 (.bool false), en P "True" 54 (.bool true), en P "bool" 55 (.type "bool"), en P "memoryview" 56 (.type "memoryview"), en P "bytearray" 57 (.type "bytearray"), en P "bytes" 58 (.type "bytes"), en P "classmethod" 59 (.type "classmethod"), en P "complex" 60 (.type "complex"), en P "dict" 61 (.type "dict"), en P "enumerate" 62 (.type "enumerate"), en P "filter" 63 (.type "filter"), en P "float" 64 (.type "float"), en P "frozenset" 65 (.type "frozenset"), en P "property" 66 (.type "property"), en P "int" 67 (.type "int"), en P "list" 68 (.type "list"), en P "map" 69 (.type "map"), en P "object" 70 (.type "object"), en P "range" 71 (.type "range"), en P "reversed" 72 (.type "reversed"), en P "set" 73 (.type "set"), en P "slice" 74 (.type "slice"), en P "staticmethod" 75 (.type "staticmethod"), en P "str" 76 (.type "str"), en P "super" 77 (.type "super"), en P "tuple" 78 (.type "tuple"), en P "type" 79 (.type "type"), en P "zip" 80 (.type "zip"), en P "__debug__" 81 (.bool true), en P "BaseException" 82 (.type "BaseException"), en P "BaseExceptionGroup" 83 (.type "BaseExceptionGroup"), en P "Exception" 84 (.type "Exception"), en P "GeneratorExit" 85 (.type "GeneratorExit"), en P "KeyboardInterrupt" 86 (.type "KeyboardInterrupt"), en P "SystemExit" 87 (.type "SystemExit"), en P "ArithmeticError" 88 (.type "ArithmeticError"), en P "AssertionError" 89 (.type "AssertionError"), en P "AttributeError" 90 (.type "AttributeError"), en P "BufferError" 91 (.type "BufferError"), en P "EOFError" 92 (.type "EOFError"), en P "ImportError" 93 (.type "ImportError"), en P "LookupError" 94 (.type "LookupError"), en P "MemoryError" 95 (.type "MemoryError"), en P "NameError" 96 (.type "NameError"), en P "OSError" 97 (.type "OSError"), en P "ReferenceError" 98 (.type "ReferenceError"), en P "RuntimeError" 99 (.type "RuntimeError"), en P "StopAsyncIteration" 100 (.type "StopAsyncIteration"), en P "StopIteration" 101 (.type "StopIteration"), en P "SyntaxError" 102 (.type "SyntaxError"), en P "SystemError" 103 (.type "SystemError"), en P "TypeError" 104 (.type "TypeError"), en P "ValueError" 105 (.type "ValueError"), en P "Warning" 106 (.type "Warning"), en P "FloatingPointError" 107 (.type "FloatingPointError"), en P "OverflowError" 108 (.type "OverflowError"), en P "ZeroDivisionError" 109 (.type "ZeroDivisionError"), en P "BytesWarning" 110 (.type "BytesWarning"), en P "DeprecationWarning" 111 (.type "DeprecationWarning"), en P "EncodingWarning" 112 (.type "EncodingWarning"), en P "FutureWarning" 113 (.type "FutureWarning"), en P "ImportWarning" 114 (.type "ImportWarning"), en P "PendingDeprecationWarning" 115 (.type "PendingDeprecationWarning"), en P "ResourceWarning" 116 (.type "ResourceWarning"), en P "RuntimeWarning" 117 (.type "RuntimeWarning"), en P "SyntaxWarning" 118 (.type "SyntaxWarning"), en P "UnicodeWarning" 119 (.type "UnicodeWarning"), en P "UserWarning" 120 (.type "UserWarning"), en P "BlockingIOError" 121 (.type "BlockingIOError"), en P "ChildProcessError" 122 (.type "ChildProcessError"), en P "ConnectionError" 123 (.type "ConnectionError"), en P "FileExistsError" 124 (.type "FileExistsError"), en P "FileNotFoundError" 125 (.type "FileNotFoundError"), en P "InterruptedError" 126 (.type "InterruptedError"), en P "IsADirectoryError" 127 (.type "IsADirectoryError"), en P "NotADirectoryError" 128 (.type "NotADirectoryError"), en P "PermissionError" 129 (.type "PermissionError"), en P "ProcessLookupError" 130 (.type "ProcessLookupError"), en P "TimeoutError" 131 (.type "TimeoutError"), en P "IndentationError" 132 (.type "IndentationError"), en P "_IncompleteInputError" 133 (.type "_IncompleteInputError"), en P "IndexError" 134 (.type "IndexError"), en P "KeyError" 135 (.type "KeyError"), en P "ModuleNotFoundError" 136 (.type "ModuleNotFoundError"), en P "NotImplementedError" 137 (.type "NotImplementedError"), en P "PythonFinalizationError" 138 (.type "PythonFinalizationError"), en P "RecursionError" 139 (.type "RecursionError"), en P "UnboundLocalError" 140 (.type "UnboundLocalError"), en P "UnicodeError" 141 (.type "UnicodeError"), en P "BrokenPipeError" 142 (.type "BrokenPipeError"), en P "ConnectionAbortedError" 143 (.type "ConnectionAbortedError"), en P "ConnectionRefusedError" 144 (.type "ConnectionRefusedError"), en P "ConnectionResetError" 145 (.type "ConnectionResetError"), en P "TabError" 146 (.type "TabError"), en P "UnicodeDecodeError" 147 (.type "UnicodeDecodeError"), en P "UnicodeEncodeError" 148 (.type "UnicodeEncodeError"), en P "UnicodeTranslateError" 149 (.type "UnicodeTranslateError"), en P "ExceptionGroup" 150 (.type "ExceptionGroup"), en P "EnvironmentError" 151 (.type "OSError"), en P "IOError" 152 (.type "OSError"), en P "open" 153 (.builtin "open"), en P "quit" 154 (.builtin "builtins.quit#opaque"), en P "exit" 155 (.builtin "builtins.exit#opaque"), en P "copyright" 156 (.builtin "builtins.copyright#opaque"), en P "credits" 157 (.builtin "builtins.credits#opaque"), en P "license" 158 (.builtin "builtins.license#opaque"), en P "help" 159 (.builtin "builtins.help#opaque")].toArray 159), [].toArray⟩),
  (1, ⟨(.type "dict"), none, (.dict [en P "builtins" 162 (.ref 4), en P "__main__" 163 (.ref 5), en P "_sre" 244 (.ref 12)].toArray 3), [].toArray⟩),
  (2, ⟨.none, none, (.dict [en P "\x69mport.loaded._sre" 183 (.bool true), en P "class._frozen_importlib.BuiltinImporter" 185 (.ref 14), en P "watched.\x69mport" 206 (.ref 18), en P "class._frozen_importlib.ModuleSpec" 216 (.ref 22), en P "sys.modules.booked-epoch" 245 (.int (3) 0), en P "\x69mport.later-laid._sre" 270 (.bool true), en P "watched.library" 272 (.ref 27), en P "watched.library-objects" 0 (sv "\x0c" 0), en P "watched.library-deep._sre" 273 (sv "\x04\x00\x00\x0b\x04\x00\x00\x0b\x04\x00\x00\x03\x04\x00\x00\x0b\x08\x04dict\x02" 0)].toArray 9), [].toArray⟩),
  (3, ⟨(.type "dict"), none, (.dict [en P "__name__" 165 (sv "law_tc0040_02" 711), en P "__doc__" 166 .none, en P "__package__" 167 .none, en P "__loader__" 168 (.builtin "__main__.__loader__#opaque"), en P "__spec__" 169 .none, en P "__annotations__" 170 (.ref 6), en P "__builtins__" 171 (.ref 4), en P "__file__" 173 (sv "/claim/cut.py" 172), en P "__cached__" 174 .none, en P "_sre" 275 (.ref 12), en P "_wall" 288 (.ref 38), en P "_netrclex" 348 (.ref 76), en P "EMPTYSTRING" 352 (sv "" 351), en P "_Accumulator" 447 (.ref 160), en P "tspecials" 483 (.ref 169), en P "_name_disallowed_re" 509 (.ref 174), en P "_value_disallowed_re" 543 (.ref 179), en P "_formatparam" 553 (.ref 187), en P "Headers" 710 (.ref 308), en P "_law_lexer" 723 (.ref 319), en P "_law_names" 729 (.ref 326), en P "_law_ties" 741 (.ref 333), en P "_law_order" 747 (.ref 338), en P "_law_kept" 753 (.ref 343), en P "_law_crossed" 763 (.ref 350), en P "_law_drawn" 776 (.ref 357), en P "_law_gone" 782 (.ref 362), en P "_law_back" 788 (.ref 367), en P "law" 794 (.ref 372)].toArray 29), [].toArray⟩),
  (4, ⟨(.type "module"), (some 0), .plain, [].toArray⟩),
  (5, ⟨(.type "module"), (some 3), .plain, [].toArray⟩),
  (7, ⟨(.type "tuple"), none, (.seq [].toArray 0), [].toArray⟩),
  (9, ⟨(.type "code"), none, (.fields [(sv "<module>" 176), (sv "<module>" 177), (sv "/claim/cut.py" 178), (.int (1) 0), (.int (0) 0), (.int (0) 0), (.int (0) 0), (.int (0) 0), (.ref 7), (.bool false), (.int (175) 0), (.ref 8), .none, .none, .none, .none, (.int (179) 0), (.int (1) 0), (sv "/claim/cut.py" 180)].toArray), [].toArray⟩),
  (32, ⟨(.type "tuple"), none, (.seq [].toArray 0), [].toArray⟩),
  (34, ⟨(.type "tuple"), none, (.seq [(sv "k" 285)].toArray 0), [].toArray⟩),
  (35, ⟨(.type "tuple"), none, (.seq [].toArray 0), [].toArray⟩),
  (37, ⟨(.type "code"), none, (.fields [(sv "_wall" 282), (sv "_wall" 283), (sv "/claim/cut.py" 284), (.int (2) 0), (.int (1) 0), (.int (0) 0), (.int (0) 0), (.int (3) 0), (.ref 32), (.bool true), (.int (276) 0), (.ref 33), .none, (.ref 34), (.ref 35), (.ref 36), (.int (286) 0), (.int (2) 0), (sv "/claim/cut.py" 287)].toArray), [].toArray⟩),
  (38, ⟨(.type "function"), none, (.func fd38), [].toArray⟩),
  (46, ⟨(.type "tuple"), none, (.seq [].toArray 0), [].toArray⟩),
  (48, ⟨(.type "tuple"), none, (.seq [(sv "self" 306), (sv "fp" 307)].toArray 0), [].toArray⟩),
  (49, ⟨(.type "tuple"), none, (.seq [].toArray 0), [].toArray⟩),
  (51, ⟨(.type "code"), none, (.fields [(sv "__init__" 303), (sv "_netrclex.__init__" 304), (sv "/claim/cut.py" 305), (.int (8) 0), (.int (2) 0), (.int (0) 0), (.int (0) 0), (.int (3) 0), (.ref 46), (.bool true), (.int (276) 0), (.ref 47), .none, (.ref 48), (.ref 49), (.ref 50), (.int (308) 0), (.int (8) 0), (sv "/claim/cut.py" 309)].toArray), [].toArray⟩),
  (52, ⟨(.type "function"), none, (.func fd52), [].toArray⟩),
  (53, ⟨(.type "tuple"), none, (.seq [].toArray 0), [].toArray⟩),
  (55, ⟨(.type "tuple"), none, (.seq [(sv "self" 314), (sv "ch" 315)].toArray 0), [].toArray⟩),
  (56, ⟨(.type "tuple"), none, (.seq [].toArray 0), [].toArray⟩),
  (58, ⟨(.type "code"), none, (.fields [(sv "_read_char" 311), (sv "_netrclex._read_char" 312), (sv "/claim/cut.py" 313), (.int (14) 0), (.int (1) 0), (.int (0) 0), (.int (0) 0), (.int (3) 0), (.ref 53), (.bool true), (.int (276) 0), (.ref 54), .none, (.ref 55), (.ref 56), (.ref 57), (.int (316) 0), (.int (14) 0), (sv "/claim/cut.py" 317)].toArray), [].toArray⟩),
  (59, ⟨(.type "function"), none, (.func fd59), [].toArray⟩),
  (60, ⟨(.type "tuple"), none, (.seq [].toArray 0), [].toArray⟩),
  (62, ⟨(.type "tuple"), none, (.seq [(sv "self" 322), (sv "token" 323), (sv "fiter" 324), (sv "ch" 325)].toArray 0), [].toArray⟩),
  (63, ⟨(.type "tuple"), none, (.seq [].toArray 0), [].toArray⟩),
  (65, ⟨(.type "code"), none, (.fields [(sv "get_token" 319), (sv "_netrclex.get_token" 320), (sv "/claim/cut.py" 321), (.int (20) 0), (.int (1) 0), (.int (0) 0), (.int (0) 0), (.int (3) 0), (.ref 60), (.bool true), (.int (276) 0), (.ref 61), .none, (.ref 62), (.ref 63), (.ref 64), (.int (326) 0), (.int (20) 0), (sv "/claim/cut.py" 327)].toArray), [].toArray⟩),
  (66, ⟨(.type "function"), none, (.func fd66), [].toArray⟩),
  (67, ⟨(.type "tuple"), none, (.seq [].toArray 0), [].toArray⟩),
  (69, ⟨(.type "tuple"), none, (.seq [(sv "self" 332), (sv "token" 333)].toArray 0), [].toArray⟩),
  (70, ⟨(.type "tuple"), none, (.seq [].toArray 0), [].toArray⟩),
  (72, ⟨(.type "code"), none, (.fields [(sv "push_token" 329), (sv "_netrclex.push_token" 330), (sv "/claim/cut.py" 331), (.int (47) 0), (.int (2) 0), (.int (0) 0), (.int (0) 0), (.int (3) 0), (.ref 67), (.bool true), (.int (276) 0), (.ref 68), .none, (.ref 69), (.ref 70), (.ref 71), (.int (334) 0), (.int (47) 0), (sv "/claim/cut.py" 335)].toArray), [].toArray⟩),
  (73, ⟨(.type "function"), none, (.func fd73), [].toArray⟩),
  (74, ⟨(.type "tuple"), none, (.seq [(sv "instream" 337), (sv "lineno" 338), (sv "pushback" 339), (sv "whitespace" 340)].toArray 0), [].toArray⟩),
  (75, ⟨(.type "dict"), none, (.dict [en P "__module__" 298 (sv "cpy313.netrc" 289), en P "__firstlineno__" 302 (.int (6) 301), en P "__init__" 310 (.ref 52), en P "_read_char" 318 (.ref 59), en P "get_token" 328 (.ref 66), en P "push_token" 336 (.ref 73), en P "__static_attributes__" 341 (.ref 74), en P "__dict__" 343 (.ref 77), en P "__weakref__" 345 (.ref 78), en P "__doc__" 346 .none].toArray 4), [].toArray⟩),
  (76, ⟨(.type "type"), none, (.cls { name := (Str.ofString "_netrclex"), bases := [(.type "object")], mro := [(.ref 76), (.type "object")], ns := 75, qualname := (Str.ofString "_netrclex"), hasDict := true, slotNames := [], subclasses := [], abstract := false, collection := none, hasDel := false }), [none, none, (some (sv "_netrclex" 291)), (some (sv "_netrclex" 299)), (some (.builtin "object.__new__")), (some (.bool true))].toArray⟩),
  (81, ⟨(.type "tuple"), none, (.seq [(.type "list")].toArray 0), [].toArray⟩),
  (84, ⟨(.type "cell"), none, (.cell (some (.ref 160))), [].toArray⟩),
  (89, ⟨(.type "tuple"), none, (.seq [(.int (0) 365)].toArray 0), [].toArray⟩),
  (90, ⟨(.type "tuple"), none, (.seq [(.ref 84)].toArray 0), [].toArray⟩),
  (91, ⟨(.type "tuple"), none, (.seq [(sv "__class__" 369)].toArray 0), [].toArray⟩),
  (93, ⟨(.type "tuple"), none, (.seq [(sv "self" 370), (sv "initial_size" 371)].toArray 0), [].toArray⟩),
  (94, ⟨(.type "tuple"), none, (.seq [].toArray 0), [].toArray⟩),
  (96, ⟨(.type "code"), none, (.fields [(sv "__init__" 366), (sv "_Accumulator.__init__" 367), (sv "/claim/cut.py" 368), (.int (53) 0), (.int (2) 0), (.int (0) 0), (.int (0) 0), (.int (3) 0), (.ref 91), (.bool true), (.int (276) 0), (.ref 92), .none, (.ref 93), (.ref 94), (.ref 95), (.int (372) 0), (.int (53) 0), (sv "/claim/cut.py" 373)].toArray), [].toArray⟩),
  (97, ⟨(.type "function"), none, (.func fd97), [].toArray⟩),
  (98, ⟨(.type "tuple"), none, (.seq [].toArray 0), [].toArray⟩),
  (100, ⟨(.type "tuple"), none, (.seq [(sv "self" 378), (sv "fws" 379), (sv "string" 380)].toArray 0), [].toArray⟩),
  (101, ⟨(.type "tuple"), none, (.seq [].toArray 0), [].toArray⟩),
  (103, ⟨(.type "code"), none, (.fields [(sv "push" 375), (sv "_Accumulator.push" 376), (sv "/claim/cut.py" 377), (.int (57) 0), (.int (3) 0), (.int (0) 0), (.int (0) 0), (.int (3) 0), (.ref 98), (.bool true), (.int (276) 0), (.ref 99), .none, (.ref 100), (.ref 101), (.ref 102), (.int (381) 0), (.int (57) 0), (sv "/claim/cut.py" 382)].toArray), [].toArray⟩),
  (104, ⟨(.type "function"), none, (.func fd104), [].toArray⟩),
  (105, ⟨(.type "tuple"), none, (.seq [(.int (0) 384)].toArray 0), [].toArray⟩),
  (106, ⟨(.type "tuple"), none, (.seq [].toArray 0), [].toArray⟩),
  (108, ⟨(.type "tuple"), none, (.seq [(sv "self" 388), (sv "i" 389)].toArray 0), [].toArray⟩),
  (109, ⟨(.type "tuple"), none, (.seq [].toArray 0), [].toArray⟩),
  (111, ⟨(.type "code"), none, (.fields [(sv "pop_from" 385), (sv "_Accumulator.pop_from" 386), (sv "/claim/cut.py" 387), (.int (60) 0), (.int (2) 0), (.int (0) 0), (.int (0) 0), (.int (3) 0), (.ref 106), (.bool true), (.int (276) 0), (.ref 107), .none, (.ref 108), (.ref 109), (.ref 110), (.int (390) 0), (.int (60) 0), (sv "/claim/cut.py" 391)].toArray), [].toArray⟩),
  (112, ⟨(.type "function"), none, (.func fd112), [].toArray⟩),
  (113, ⟨(.type "tuple"), none, (.seq [(.ref 84)].toArray 0), [].toArray⟩),
  (114, ⟨(.type "tuple"), none, (.seq [(sv "__class__" 396)].toArray 0), [].toArray⟩),
  (116, ⟨(.type "tuple"), none, (.seq [(sv "self" 397)].toArray 0), [].toArray⟩),
  (117, ⟨(.type "tuple"), none, (.seq [].toArray 0), [].toArray⟩),
  (119, ⟨(.type "code"), none, (.fields [(sv "pop" 393), (sv "_Accumulator.pop" 394), (sv "/claim/cut.py" 395), (.int (63) 0), (.int (1) 0), (.int (0) 0), (.int (0) 0), (.int (3) 0), (.ref 114), (.bool true), (.int (276) 0), (.ref 115), .none, (.ref 116), (.ref 117), (.ref 118), (.int (398) 0), (.int (63) 0), (sv "/claim/cut.py" 399)].toArray), [].toArray⟩),
  (120, ⟨(.type "function"), none, (.func fd120), [].toArray⟩),
  (121, ⟨(.type "tuple"), none, (.seq [].toArray 0), [].toArray⟩),
  (123, ⟨(.type "tuple"), none, (.seq [(sv "self" 404)].toArray 0), [].toArray⟩),
  (124, ⟨(.type "tuple"), none, (.seq [].toArray 0), [].toArray⟩),
  (126, ⟨(.type "code"), none, (.fields [(sv "__len__" 401), (sv "_Accumulator.__len__" 402), (sv "/claim/cut.py" 403), (.int (68) 0), (.int (1) 0), (.int (0) 0), (.int (0) 0), (.int (3) 0), (.ref 121), (.bool true), (.int (276) 0), (.ref 122), .none, (.ref 123), (.ref 124), (.ref 125), (.int (405) 0), (.int (68) 0), (sv "/claim/cut.py" 406)].toArray), [].toArray⟩),
  (127, ⟨(.type "function"), none, (.func fd127), [].toArray⟩),
  (128, ⟨(.type "tuple"), none, (.seq [].toArray 0), [].toArray⟩),
  (130, ⟨(.type "tuple"), none, (.seq [(sv "self" 411)].toArray 0), [].toArray⟩),
  (131, ⟨(.type "tuple"), none, (.seq [].toArray 0), [].toArray⟩),
  (133, ⟨(.type "code"), none, (.fields [(sv "__str__" 408), (sv "_Accumulator.__str__" 409), (sv "/claim/cut.py" 410), (.int (71) 0), (.int (1) 0), (.int (0) 0), (.int (0) 0), (.int (3) 0), (.ref 128), (.bool true), (.int (276) 0), (.ref 129), .none, (.ref 130), (.ref 131), (.ref 132), (.int (412) 0), (.int (71) 0), (sv "/claim/cut.py" 413)].toArray), [].toArray⟩),
  (134, ⟨(.type "function"), none, (.func fd134), [].toArray⟩),
  (135, ⟨(.type "tuple"), none, (.seq [.none].toArray 0), [].toArray⟩),
  (136, ⟨(.type "tuple"), none, (.seq [].toArray 0), [].toArray⟩),
  (138, ⟨(.type "tuple"), none, (.seq [(sv "self" 418), (sv "startval" 419)].toArray 0), [].toArray⟩),
  (139, ⟨(.type "tuple"), none, (.seq [].toArray 0), [].toArray⟩),
  (141, ⟨(.type "code"), none, (.fields [(sv "reset" 415), (sv "_Accumulator.reset" 416), (sv "/claim/cut.py" 417), (.int (74) 0), (.int (2) 0), (.int (0) 0), (.int (0) 0), (.int (3) 0), (.ref 136), (.bool true), (.int (276) 0), (.ref 137), .none, (.ref 138), (.ref 139), (.ref 140), (.int (420) 0), (.int (74) 0), (sv "/claim/cut.py" 421)].toArray), [].toArray⟩),
  (142, ⟨(.type "function"), none, (.func fd142), [].toArray⟩),
  (143, ⟨(.type "tuple"), none, (.seq [].toArray 0), [].toArray⟩),
  (145, ⟨(.type "tuple"), none, (.seq [(sv "self" 426)].toArray 0), [].toArray⟩),
  (146, ⟨(.type "tuple"), none, (.seq [].toArray 0), [].toArray⟩),
  (148, ⟨(.type "code"), none, (.fields [(sv "is_onlyws" 423), (sv "_Accumulator.is_onlyws" 424), (sv "/claim/cut.py" 425), (.int (77) 0), (.int (1) 0), (.int (0) 0), (.int (0) 0), (.int (3) 0), (.ref 143), (.bool true), (.int (276) 0), (.ref 144), .none, (.ref 145), (.ref 146), (.ref 147), (.int (427) 0), (.int (77) 0), (sv "/claim/cut.py" 428)].toArray), [].toArray⟩),
  (149, ⟨(.type "function"), none, (.func fd149), [].toArray⟩),
  (150, ⟨(.type "tuple"), none, (.seq [(.ref 84)].toArray 0), [].toArray⟩),
  (151, ⟨(.type "tuple"), none, (.seq [(sv "__class__" 433)].toArray 0), [].toArray⟩),
  (153, ⟨(.type "tuple"), none, (.seq [(sv "self" 434)].toArray 0), [].toArray⟩),
  (154, ⟨(.type "tuple"), none, (.seq [].toArray 0), [].toArray⟩),
  (156, ⟨(.type "code"), none, (.fields [(sv "part_count" 430), (sv "_Accumulator.part_count" 431), (sv "/claim/cut.py" 432), (.int (80) 0), (.int (1) 0), (.int (0) 0), (.int (0) 0), (.int (3) 0), (.ref 151), (.bool true), (.int (276) 0), (.ref 152), .none, (.ref 153), (.ref 154), (.ref 155), (.int (435) 0), (.int (80) 0), (sv "/claim/cut.py" 436)].toArray), [].toArray⟩),
  (157, ⟨(.type "function"), none, (.func fd157), [].toArray⟩),
  (158, ⟨(.type "tuple"), none, (.seq [(sv "_initial_size" 438)].toArray 0), [].toArray⟩),
  (159, ⟨(.type "dict"), none, (.dict [en P "__module__" 360 (sv "cpy313.email.header" 349), en P "__firstlineno__" 364 (.int (51) 363), en P "__init__" 374 (.ref 97), en P "push" 383 (.ref 104), en P "pop_from" 392 (.ref 112), en P "pop" 400 (.ref 120), en P "__len__" 407 (.ref 127), en P "__str__" 414 (.ref 134), en P "reset" 422 (.ref 142), en P "is_onlyws" 429 (.ref 149), en P "part_count" 437 (.ref 157), en P "__static_attributes__" 439 (.ref 158), en P "__dict__" 442 (.ref 161), en P "__weakref__" 444 (.ref 162), en P "__doc__" 445 .none].toArray 5), [].toArray⟩),
  (160, ⟨(.type "type"), none, (.cls { name := (Str.ofString "_Accumulator"), bases := [(.type "list")], mro := [(.ref 160), (.type "list"), (.type "object")], ns := 159, qualname := (Str.ofString "_Accumulator"), hasDict := true, slotNames := [], subclasses := [], abstract := false, collection := none, hasDel := false }), [(some (.ref 81)), none, (some (sv "_Accumulator" 353)), (some (sv "_Accumulator" 361)), (some (.builtin "list.__new__")), (some (.bool true))].toArray⟩),
  (168, ⟨(.type "tuple"), none, (.seq [(.int (14) 0), (.int (14) 0), (.int (4) 0), (.int (1) 0), (.int (1) 0), (.int (9) 0), (.int (0) 0), (.int (4227896069) 0), (.int (939524097) 0), (.int (0) 0), (.int (0) 0), (.int (0) 0), (.int (0) 0), (.int (0) 0), (.int (0) 0), (.int (13) 0), (.int (11) 0), (.int (9) 0), (.int (0) 0), (.int (4227896069) 0), (.int (939524097) 0), (.int (0) 0), (.int (0) 0), (.int (0) 0), (.int (0) 0), (.int (0) 0), (.int (0) 0), (.int (1) 0)].toArray 0), [].toArray⟩),
  (169, ⟨(.type "re.Pattern"), none, (.fields [(sv "[ \\(\\)<>@,;:\\\\\"/\\[\\]\\?=]" 451), (.int (32) 482), (.int (0) 0), .none, .none, (.ref 168), (.int (0) 0)].toArray), [].toArray⟩),
  (173, ⟨(.type "tuple"), none, (.seq [(.int (14) 0), (.int (10) 0), (.int (4) 0), (.int (1) 0), (.int (1) 0), (.int (22) 0), (.int (0) 0), (.int (31) 0), (.int (16) 0), (.int (127) 0), (.int (0) 0), (.int (13) 0), (.int (7) 0), (.int (22) 0), (.int (0) 0), (.int (31) 0), (.int (16) 0), (.int (127) 0), (.int (0) 0), (.int (1) 0)].toArray 0), [].toArray⟩),
  (174, ⟨(.type "re.Pattern"), none, (.fields [(sv "[\\x00-\\x1F\\x7F]" 485), (.int (32) 508), (.int (0) 0), .none, .none, (.ref 173), (.int (0) 0)].toArray), [].toArray⟩),
  (178, ⟨(.type "tuple"), none, (.seq [(.int (14) 0), (.int (14) 0), (.int (4) 0), (.int (1) 0), (.int (1) 0), (.int (9) 0), (.int (4294966783) 0), (.int (0) 0), (.int (0) 0), (.int (2147483648) 0), (.int (0) 0), (.int (0) 0), (.int (0) 0), (.int (0) 0), (.int (0) 0), (.int (13) 0), (.int (11) 0), (.int (9) 0), (.int (4294966783) 0), (.int (0) 0), (.int (0) 0), (.int (2147483648) 0), (.int (0) 0), (.int (0) 0), (.int (0) 0), (.int (0) 0), (.int (0) 0), (.int (1) 0)].toArray 0), [].toArray⟩),
  (179, ⟨(.type "re.Pattern"), none, (.fields [(sv "[\\x00-\\x08\\x0A-\\x1F\\x7F]" 511), (.int (32) 542), (.int (0) 0), .none, .none, (.ref 178), (.int (0) 0)].toArray), [].toArray⟩),
  (180, ⟨(.type "tuple"), none, (.seq [.none, (.int (1) 544)].toArray 0), [].toArray⟩),
  (181, ⟨(.type "tuple"), none, (.seq [].toArray 0), [].toArray⟩),
  (183, ⟨(.type "tuple"), none, (.seq [(sv "param" 548), (sv "value" 549), (sv "quote" 550)].toArray 0), [].toArray⟩),
  (184, ⟨(.type "tuple"), none, (.seq [].toArray 0), [].toArray⟩),
  (186, ⟨(.type "code"), none, (.fields [(sv "_formatparam" 545), (sv "_formatparam" 546), (sv "/claim/cut.py" 547), (.int (86) 0), (.int (3) 0), (.int (0) 0), (.int (0) 0), (.int (3) 0), (.ref 181), (.bool true), (.int (276) 0), (.ref 182), .none, (.ref 183), (.ref 184), (.ref 185), (.int (551) 0), (.int (86) 0), (sv "/claim/cut.py" 552)].toArray), [].toArray⟩),
  (187, ⟨(.type "function"), none, (.func fd187), [].toArray⟩),
  (195, ⟨(.type "tuple"), none, (.seq [.none].toArray 0), [].toArray⟩),
  (196, ⟨(.type "tuple"), none, (.seq [].toArray 0), [].toArray⟩),
  (198, ⟨(.type "tuple"), none, (.seq [(sv "self" 569), (sv "headers" 570), (sv "k" 571), (sv "v" 572)].toArray 0), [].toArray⟩),
  (199, ⟨(.type "tuple"), none, (.seq [].toArray 0), [].toArray⟩),
  (201, ⟨(.type "code"), none, (.fields [(sv "__init__" 566), (sv "Headers.__init__" 567), (sv "/claim/cut.py" 568), (.int (97) 0), (.int (2) 0), (.int (0) 0), (.int (0) 0), (.int (3) 0), (.ref 196), (.bool true), (.int (276) 0), (.ref 197), .none, (.ref 198), (.ref 199), (.ref 200), (.int (573) 0), (.int (97) 0), (sv "/claim/cut.py" 574)].toArray), [].toArray⟩),
  (202, ⟨(.type "function"), none, (.func fd202), [].toArray⟩),
  (203, ⟨(.type "tuple"), none, (.seq [].toArray 0), [].toArray⟩),
  (205, ⟨(.type "tuple"), none, (.seq [(sv "self" 579), (sv "value" 580), (sv "name" 581), (sv "regex" 582)].toArray 0), [].toArray⟩),
  (206, ⟨(.type "tuple"), none, (.seq [].toArray 0), [].toArray⟩),
  (208, ⟨(.type "code"), none, (.fields [(sv "_convert_string_type" 576), (sv "Headers._convert_string_type" 577), (sv "/claim/cut.py" 578), (.int (107) 0), (.int (2) 0), (.int (0) 0), (.int (1) 0), (.int (3) 0), (.ref 203), (.bool true), (.int (276) 0), (.ref 204), .none, (.ref 205), (.ref 206), (.ref 207), (.int (583) 0), (.int (107) 0), (sv "/claim/cut.py" 584)].toArray), [].toArray⟩),
  (209, ⟨(.type "function"), none, (.func fd209), [].toArray⟩),
  (210, ⟨(.type "tuple"), none, (.seq [].toArray 0), [].toArray⟩),
  (212, ⟨(.type "tuple"), none, (.seq [(sv "self" 589)].toArray 0), [].toArray⟩),
  (213, ⟨(.type "tuple"), none, (.seq [].toArray 0), [].toArray⟩),
  (215, ⟨(.type "code"), none, (.fields [(sv "__len__" 586), (sv "Headers.__len__" 587), (sv "/claim/cut.py" 588), (.int (115) 0), (.int (1) 0), (.int (0) 0), (.int (0) 0), (.int (3) 0), (.ref 210), (.bool true), (.int (276) 0), (.ref 211), .none, (.ref 212), (.ref 213), (.ref 214), (.int (590) 0), (.int (115) 0), (sv "/claim/cut.py" 591)].toArray), [].toArray⟩),
  (216, ⟨(.type "function"), none, (.func fd216), [].toArray⟩),
  (217, ⟨(.type "tuple"), none, (.seq [].toArray 0), [].toArray⟩),
  (219, ⟨(.type "tuple"), none, (.seq [(sv "self" 596), (sv "name" 597), (sv "val" 598)].toArray 0), [].toArray⟩),
  (220, ⟨(.type "tuple"), none, (.seq [].toArray 0), [].toArray⟩),
  (222, ⟨(.type "code"), none, (.fields [(sv "__setitem__" 593), (sv "Headers.__setitem__" 594), (sv "/claim/cut.py" 595), (.int (118) 0), (.int (3) 0), (.int (0) 0), (.int (0) 0), (.int (3) 0), (.ref 217), (.bool true), (.int (276) 0), (.ref 218), .none, (.ref 219), (.ref 220), (.ref 221), (.int (599) 0), (.int (118) 0), (sv "/claim/cut.py" 600)].toArray), [].toArray⟩),
  (223, ⟨(.type "function"), none, (.func fd223), [].toArray⟩),
  (224, ⟨(.type "tuple"), none, (.seq [].toArray 0), [].toArray⟩),
  (227, ⟨(.type "code"), none, (.fields [(sv "__delitem__" 602), (sv "Headers.__delitem__" 603), (sv "/claim/cut.py" 604), (.int (122) 0), (.int (2) 0), (.int (0) 0), (.int (0) 0), (.int (3) 0), (.ref 224), (.bool true), (.int (276) 0), (.ref 225), .none, .none, .none, (.ref 226), (.int (605) 0), (.int (122) 0), (sv "/claim/cut.py" 606)].toArray), [].toArray⟩),
  (228, ⟨(.type "function"), none, (.func fd228), [].toArray⟩),
  (229, ⟨(.type "tuple"), none, (.seq [].toArray 0), [].toArray⟩),
  (231, ⟨(.type "tuple"), none, (.seq [(sv "self" 611), (sv "name" 612)].toArray 0), [].toArray⟩),
  (232, ⟨(.type "tuple"), none, (.seq [].toArray 0), [].toArray⟩),
  (234, ⟨(.type "code"), none, (.fields [(sv "__getitem__" 608), (sv "Headers.__getitem__" 609), (sv "/claim/cut.py" 610), (.int (126) 0), (.int (2) 0), (.int (0) 0), (.int (0) 0), (.int (3) 0), (.ref 229), (.bool true), (.int (276) 0), (.ref 230), .none, (.ref 231), (.ref 232), (.ref 233), (.int (613) 0), (.int (126) 0), (sv "/claim/cut.py" 614)].toArray), [].toArray⟩),
  (235, ⟨(.type "function"), none, (.func fd235), [].toArray⟩),
  (236, ⟨(.type "tuple"), none, (.seq [].toArray 0), [].toArray⟩),
  (238, ⟨(.type "tuple"), none, (.seq [(sv "self" 619), (sv "name" 620)].toArray 0), [].toArray⟩),
  (239, ⟨(.type "tuple"), none, (.seq [].toArray 0), [].toArray⟩),
  (241, ⟨(.type "code"), none, (.fields [(sv "__contains__" 616), (sv "Headers.__contains__" 617), (sv "/claim/cut.py" 618), (.int (129) 0), (.int (2) 0), (.int (0) 0), (.int (0) 0), (.int (3) 0), (.ref 236), (.bool true), (.int (276) 0), (.ref 237), .none, (.ref 238), (.ref 239), (.ref 240), (.int (621) 0), (.int (129) 0), (sv "/claim/cut.py" 622)].toArray), [].toArray⟩),
  (242, ⟨(.type "function"), none, (.func fd242), [].toArray⟩),
  (243, ⟨(.type "tuple"), none, (.seq [].toArray 0), [].toArray⟩),
  (246, ⟨(.type "code"), none, (.fields [(sv "get_all" 624), (sv "Headers.get_all" 625), (sv "/claim/cut.py" 626), (.int (132) 0), (.int (2) 0), (.int (0) 0), (.int (0) 0), (.int (3) 0), (.ref 243), (.bool true), (.int (276) 0), (.ref 244), .none, .none, .none, (.ref 245), (.int (627) 0), (.int (132) 0), (sv "/claim/cut.py" 628)].toArray), [].toArray⟩),
  (247, ⟨(.type "function"), none, (.func fd247), [].toArray⟩),
  (248, ⟨(.type "tuple"), none, (.seq [.none].toArray 0), [].toArray⟩),
  (249, ⟨(.type "tuple"), none, (.seq [].toArray 0), [].toArray⟩),
  (251, ⟨(.type "tuple"), none, (.seq [(sv "self" 633), (sv "name" 634), (sv "default" 635), (sv "k" 636), (sv "v" 637)].toArray 0), [].toArray⟩),
  (252, ⟨(.type "tuple"), none, (.seq [].toArray 0), [].toArray⟩),
  (254, ⟨(.type "code"), none, (.fields [(sv "get" 630), (sv "Headers.get" 631), (sv "/claim/cut.py" 632), (.int (136) 0), (.int (3) 0), (.int (0) 0), (.int (0) 0), (.int (3) 0), (.ref 249), (.bool true), (.int (276) 0), (.ref 250), .none, (.ref 251), (.ref 252), (.ref 253), (.int (638) 0), (.int (136) 0), (sv "/claim/cut.py" 639)].toArray), [].toArray⟩),
  (255, ⟨(.type "function"), none, (.func fd255), [].toArray⟩),
  (256, ⟨(.type "tuple"), none, (.seq [].toArray 0), [].toArray⟩),
  (259, ⟨(.type "code"), none, (.fields [(sv "keys" 641), (sv "Headers.keys" 642), (sv "/claim/cut.py" 643), (.int (143) 0), (.int (1) 0), (.int (0) 0), (.int (0) 0), (.int (3) 0), (.ref 256), (.bool true), (.int (276) 0), (.ref 257), .none, .none, .none, (.ref 258), (.int (644) 0), (.int (143) 0), (sv "/claim/cut.py" 645)].toArray), [].toArray⟩),
  (260, ⟨(.type "function"), none, (.func fd260), [].toArray⟩),
  (261, ⟨(.type "tuple"), none, (.seq [].toArray 0), [].toArray⟩),
  (264, ⟨(.type "code"), none, (.fields [(sv "values" 647), (sv "Headers.values" 648), (sv "/claim/cut.py" 649), (.int (146) 0), (.int (1) 0), (.int (0) 0), (.int (0) 0), (.int (3) 0), (.ref 261), (.bool true), (.int (276) 0), (.ref 262), .none, .none, .none, (.ref 263), (.int (650) 0), (.int (146) 0), (sv "/claim/cut.py" 651)].toArray), [].toArray⟩),
  (265, ⟨(.type "function"), none, (.func fd265), [].toArray⟩),
  (266, ⟨(.type "tuple"), none, (.seq [].toArray 0), [].toArray⟩),
  (268, ⟨(.type "tuple"), none, (.seq [(sv "self" 656)].toArray 0), [].toArray⟩),
  (269, ⟨(.type "tuple"), none, (.seq [].toArray 0), [].toArray⟩),
  (271, ⟨(.type "code"), none, (.fields [(sv "items" 653), (sv "Headers.items" 654), (sv "/claim/cut.py" 655), (.int (149) 0), (.int (1) 0), (.int (0) 0), (.int (0) 0), (.int (3) 0), (.ref 266), (.bool true), (.int (276) 0), (.ref 267), .none, (.ref 268), (.ref 269), (.ref 270), (.int (657) 0), (.int (149) 0), (sv "/claim/cut.py" 658)].toArray), [].toArray⟩),
  (272, ⟨(.type "function"), none, (.func fd272), [].toArray⟩),
  (273, ⟨(.type "tuple"), none, (.seq [].toArray 0), [].toArray⟩),
  (275, ⟨(.type "tuple"), none, (.seq [(sv "self" 663)].toArray 0), [].toArray⟩),
  (276, ⟨(.type "tuple"), none, (.seq [].toArray 0), [].toArray⟩),
  (278, ⟨(.type "code"), none, (.fields [(sv "__repr__" 660), (sv "Headers.__repr__" 661), (sv "/claim/cut.py" 662), (.int (152) 0), (.int (1) 0), (.int (0) 0), (.int (0) 0), (.int (3) 0), (.ref 273), (.bool true), (.int (276) 0), (.ref 274), .none, (.ref 275), (.ref 276), (.ref 277), (.int (664) 0), (.int (152) 0), (sv "/claim/cut.py" 665)].toArray), [].toArray⟩),
  (279, ⟨(.type "function"), none, (.func fd279), [].toArray⟩),
  (280, ⟨(.type "tuple"), none, (.seq [].toArray 0), [].toArray⟩),
  (283, ⟨(.type "code"), none, (.fields [(sv "__str__" 667), (sv "Headers.__str__" 668), (sv "/claim/cut.py" 669), (.int (155) 0), (.int (1) 0), (.int (0) 0), (.int (0) 0), (.int (3) 0), (.ref 280), (.bool true), (.int (276) 0), (.ref 281), .none, .none, .none, (.ref 282), (.int (670) 0), (.int (155) 0), (sv "/claim/cut.py" 671)].toArray), [].toArray⟩),
  (284, ⟨(.type "function"), none, (.func fd284), [].toArray⟩),
  (285, ⟨(.type "tuple"), none, (.seq [].toArray 0), [].toArray⟩),
  (287, ⟨(.type "tuple"), none, (.seq [(sv "self" 676)].toArray 0), [].toArray⟩),
  (288, ⟨(.type "tuple"), none, (.seq [].toArray 0), [].toArray⟩),
  (290, ⟨(.type "code"), none, (.fields [(sv "__bytes__" 673), (sv "Headers.__bytes__" 674), (sv "/claim/cut.py" 675), (.int (158) 0), (.int (1) 0), (.int (0) 0), (.int (0) 0), (.int (3) 0), (.ref 285), (.bool true), (.int (276) 0), (.ref 286), .none, (.ref 287), (.ref 288), (.ref 289), (.int (677) 0), (.int (158) 0), (sv "/claim/cut.py" 678)].toArray), [].toArray⟩),
  (291, ⟨(.type "function"), none, (.func fd291), [].toArray⟩),
  (292, ⟨(.type "tuple"), none, (.seq [].toArray 0), [].toArray⟩),
  (294, ⟨(.type "tuple"), none, (.seq [(sv "self" 683), (sv "name" 684), (sv "value" 685)].toArray 0), [].toArray⟩),
  (295, ⟨(.type "tuple"), none, (.seq [].toArray 0), [].toArray⟩),
  (297, ⟨(.type "code"), none, (.fields [(sv "setdefault" 680), (sv "Headers.setdefault" 681), (sv "/claim/cut.py" 682), (.int (161) 0), (.int (3) 0), (.int (0) 0), (.int (0) 0), (.int (3) 0), (.ref 292), (.bool true), (.int (276) 0), (.ref 293), .none, (.ref 294), (.ref 295), (.ref 296), (.int (686) 0), (.int (161) 0), (sv "/claim/cut.py" 687)].toArray), [].toArray⟩),
  (298, ⟨(.type "function"), none, (.func fd298), [].toArray⟩),
  (299, ⟨(.type "tuple"), none, (.seq [].toArray 0), [].toArray⟩),
  (301, ⟨(.type "tuple"), none, (.seq [(sv "self" 692), (sv "_name" 693), (sv "_value" 694), (sv "_params" 695), (sv "parts" 696), (sv "k" 697), (sv "v" 698)].toArray 0), [].toArray⟩),
  (302, ⟨(.type "tuple"), none, (.seq [].toArray 0), [].toArray⟩),
  (304, ⟨(.type "code"), none, (.fields [(sv "add_header" 689), (sv "Headers.add_header" 690), (sv "/claim/cut.py" 691), (.int (164) 0), (.int (3) 0), (.int (0) 0), (.int (0) 0), (.int (11) 0), (.ref 299), (.bool true), (.int (276) 0), (.ref 300), .none, (.ref 301), (.ref 302), (.ref 303), (.int (699) 0), (.int (164) 0), (sv "/claim/cut.py" 700)].toArray), [].toArray⟩),
  (305, ⟨(.type "function"), none, (.func fd305), [].toArray⟩),
  (306, ⟨(.type "tuple"), none, (.seq [(sv "_headers" 702)].toArray 0), [].toArray⟩),
  (307, ⟨(.type "dict"), none, (.dict [en P "__module__" 561 (sv "cpy313.wsgiref.headers" 448), en P "__firstlineno__" 565 (.int (95) 564), en P "__init__" 575 (.ref 202), en P "_convert_string_type" 585 (.ref 209), en P "__len__" 592 (.ref 216), en P "__setitem__" 601 (.ref 223), en P "__delitem__" 607 (.ref 228), en P "__getitem__" 615 (.ref 235), en P "__contains__" 623 (.ref 242), en P "get_all" 629 (.ref 247), en P "get" 640 (.ref 255), en P "keys" 646 (.ref 260), en P "values" 652 (.ref 265), en P "items" 659 (.ref 272), en P "__repr__" 666 (.ref 279), en P "__str__" 672 (.ref 284), en P "__bytes__" 679 (.ref 291), en P "setdefault" 688 (.ref 298), en P "add_header" 701 (.ref 305), en P "__static_attributes__" 703 (.ref 306), en P "__dict__" 705 (.ref 309), en P "__weakref__" 707 (.ref 310), en P "__doc__" 708 .none].toArray 4), [].toArray⟩),
  (308, ⟨(.type "type"), none, (.cls { name := (Str.ofString "Headers"), bases := [(.type "object")], mro := [(.ref 308), (.type "object")], ns := 307, qualname := (Str.ofString "Headers"), hasDict := true, slotNames := [], subclasses := [], abstract := false, collection := none, hasDel := false }), [none, none, (some (sv "Headers" 554)), (some (sv "Headers" 562)), (some (.builtin "object.__new__")), (some (.bool true))].toArray⟩),
  (313, ⟨(.type "tuple"), none, (.seq [].toArray 0), [].toArray⟩),
  (315, ⟨(.type "tuple"), none, (.seq [(sv "text" 716), (sv "stream" 717), (sv "_law_piece" 718)].toArray 0), [].toArray⟩),
  (316, ⟨(.type "tuple"), none, (.seq [(sv "text" 719), (sv "gone" 720)].toArray 0), [].toArray⟩),
  (318, ⟨(.type "code"), none, (.fields [(sv "_law_lexer" 713), (sv "_law_lexer" 714), (sv "/claim/cut.py" 715), (.int (178) 0), (.int (1) 0), (.int (0) 0), (.int (0) 0), (.int (3) 0), (.ref 313), (.bool true), (.int (276) 0), (.ref 314), .none, (.ref 315), (.ref 316), (.ref 317), (.int (721) 0), (.int (178) 0), (sv "/claim/cut.py" 722)].toArray), [].toArray⟩),
  (319, ⟨(.type "function"), none, (.func fd319), [].toArray⟩),
  (320, ⟨(.type "tuple"), none, (.seq [].toArray 0), [].toArray⟩),
  (322, ⟨(.type "tuple"), none, (.seq [].toArray 0), [].toArray⟩),
  (323, ⟨(.type "tuple"), none, (.seq [].toArray 0), [].toArray⟩),
  (325, ⟨(.type "code"), none, (.fields [(sv "_law_names" 724), (sv "_law_names" 725), (sv "/claim/cut.py" 726), (.int (188) 0), (.int (0) 0), (.int (0) 0), (.int (0) 0), (.int (3) 0), (.ref 320), (.bool true), (.int (276) 0), (.ref 321), .none, (.ref 322), (.ref 323), (.ref 324), (.int (727) 0), (.int (188) 0), (sv "/claim/cut.py" 728)].toArray), [].toArray⟩),
  (326, ⟨(.type "function"), none, (.func fd326), [].toArray⟩),
  (327, ⟨(.type "tuple"), none, (.seq [].toArray 0), [].toArray⟩),
  (329, ⟨(.type "tuple"), none, (.seq [(sv "bits" 733), (sv "names" 734), (sv "ties" 735), (sv "tied" 736), (sv "one" 737), (sv "two" 738)].toArray 0), [].toArray⟩),
  (330, ⟨(.type "tuple"), none, (.seq [].toArray 0), [].toArray⟩),
  (332, ⟨(.type "code"), none, (.fields [(sv "_law_ties" 730), (sv "_law_ties" 731), (sv "/claim/cut.py" 732), (.int (190) 0), (.int (1) 0), (.int (0) 0), (.int (0) 0), (.int (3) 0), (.ref 327), (.bool true), (.int (276) 0), (.ref 328), .none, (.ref 329), (.ref 330), (.ref 331), (.int (739) 0), (.int (190) 0), (sv "/claim/cut.py" 740)].toArray), [].toArray⟩),
  (333, ⟨(.type "function"), none, (.func fd333), [].toArray⟩),
  (334, ⟨(.type "tuple"), none, (.seq [].toArray 0), [].toArray⟩),
  (337, ⟨(.type "code"), none, (.fields [(sv "_law_order" 742), (sv "_law_order" 743), (sv "/claim/cut.py" 744), (.int (201) 0), (.int (1) 0), (.int (0) 0), (.int (0) 0), (.int (3) 0), (.ref 334), (.bool true), (.int (276) 0), (.ref 335), .none, .none, .none, (.ref 336), (.int (745) 0), (.int (201) 0), (sv "/claim/cut.py" 746)].toArray), [].toArray⟩),
  (338, ⟨(.type "function"), none, (.func fd338), [].toArray⟩),
  (339, ⟨(.type "tuple"), none, (.seq [].toArray 0), [].toArray⟩),
  (342, ⟨(.type "code"), none, (.fields [(sv "_law_kept" 748), (sv "_law_kept" 749), (sv "/claim/cut.py" 750), (.int (208) 0), (.int (1) 0), (.int (0) 0), (.int (0) 0), (.int (3) 0), (.ref 339), (.bool true), (.int (276) 0), (.ref 340), .none, .none, .none, (.ref 341), (.int (751) 0), (.int (208) 0), (sv "/claim/cut.py" 752)].toArray), [].toArray⟩),
  (343, ⟨(.type "function"), none, (.func fd343), [].toArray⟩),
  (344, ⟨(.type "tuple"), none, (.seq [].toArray 0), [].toArray⟩),
  (346, ⟨(.type "tuple"), none, (.seq [(sv "tied" 757), (sv "one" 758), (sv "two" 759), (sv "both" 760)].toArray 0), [].toArray⟩),
  (347, ⟨(.type "tuple"), none, (.seq [].toArray 0), [].toArray⟩),
  (349, ⟨(.type "code"), none, (.fields [(sv "_law_crossed" 754), (sv "_law_crossed" 755), (sv "/claim/cut.py" 756), (.int (215) 0), (.int (1) 0), (.int (0) 0), (.int (0) 0), (.int (3) 0), (.ref 344), (.bool true), (.int (276) 0), (.ref 345), .none, (.ref 346), (.ref 347), (.ref 348), (.int (761) 0), (.int (215) 0), (sv "/claim/cut.py" 762)].toArray), [].toArray⟩),
  (350, ⟨(.type "function"), none, (.func fd350), [].toArray⟩),
  (351, ⟨(.type "tuple"), none, (.seq [].toArray 0), [].toArray⟩),
  (353, ⟨(.type "tuple"), none, (.seq [(sv "tied" 767), (sv "kept" 768), (sv "names" 769), (sv "pairs" 770), (sv "one" 771), (sv "two" 772), (sv "waiting" 773)].toArray 0), [].toArray⟩),
  (354, ⟨(.type "tuple"), none, (.seq [].toArray 0), [].toArray⟩),
  (356, ⟨(.type "code"), none, (.fields [(sv "_law_drawn" 764), (sv "_law_drawn" 765), (sv "/claim/cut.py" 766), (.int (222) 0), (.int (2) 0), (.int (0) 0), (.int (0) 0), (.int (3) 0), (.ref 351), (.bool true), (.int (276) 0), (.ref 352), .none, (.ref 353), (.ref 354), (.ref 355), (.int (774) 0), (.int (222) 0), (sv "/claim/cut.py" 775)].toArray), [].toArray⟩),
  (357, ⟨(.type "function"), none, (.func fd357), [].toArray⟩),
  (358, ⟨(.type "tuple"), none, (.seq [].toArray 0), [].toArray⟩),
  (361, ⟨(.type "code"), none, (.fields [(sv "_law_gone" 777), (sv "_law_gone" 778), (sv "/claim/cut.py" 779), (.int (230) 0), (.int (2) 0), (.int (0) 0), (.int (0) 0), (.int (3) 0), (.ref 358), (.bool true), (.int (276) 0), (.ref 359), .none, .none, .none, (.ref 360), (.int (780) 0), (.int (230) 0), (sv "/claim/cut.py" 781)].toArray), [].toArray⟩),
  (362, ⟨(.type "function"), none, (.func fd362), [].toArray⟩),
  (363, ⟨(.type "tuple"), none, (.seq [].toArray 0), [].toArray⟩),
  (366, ⟨(.type "code"), none, (.fields [(sv "_law_back" 783), (sv "_law_back" 784), (sv "/claim/cut.py" 785), (.int (242) 0), (.int (2) 0), (.int (0) 0), (.int (0) 0), (.int (3) 0), (.ref 363), (.bool true), (.int (276) 0), (.ref 364), .none, .none, .none, (.ref 365), (.int (786) 0), (.int (242) 0), (sv "/claim/cut.py" 787)].toArray), [].toArray⟩),
  (367, ⟨(.type "function"), none, (.func fd367), [].toArray⟩),
  (368, ⟨(.type "tuple"), none, (.seq [].toArray 0), [].toArray⟩),
  (371, ⟨(.type "code"), none, (.fields [(sv "law" 789), (sv "law" 790), (sv "/claim/cut.py" 791), (.int (251) 0), (.int (1) 0), (.int (0) 0), (.int (0) 0), (.int (3) 0), (.ref 368), (.bool true), (.int (276) 0), (.ref 369), .none, .none, .none, (.ref 370), (.int (792) 0), (.int (251) 0), (sv "/claim/cut.py" 793)].toArray), [].toArray⟩),
  (372, ⟨(.type "function"), none, (.func fd372), [].toArray⟩)]
noncomputable def kAddrs : List Addr := [0, 1, 2, 3, 4, 5, 7, 9, 32, 34, 35, 37, 38, 46, 48, 49, 51, 52, 53, 55, 56, 58, 59, 60, 62, 63, 65, 66, 67, 69, 70, 72, 73, 74, 75, 76, 81, 84, 89, 90, 91, 93, 94, 96, 97, 98, 100, 101, 103, 104, 105, 106, 108, 109, 111, 112, 113, 114, 116, 117, 119, 120, 121, 123, 124, 126, 127, 128, 130, 131, 133, 134, 135, 136, 138, 139, 141, 142, 143, 145, 146, 148, 149, 150, 151, 153, 154, 156, 157, 158, 159, 160, 168, 169, 173, 174, 178, 179, 180, 181, 183, 184, 186, 187, 195, 196, 198, 199, 201, 202, 203, 205, 206, 208, 209, 210, 212, 213, 215, 216, 217, 219, 220, 222, 223, 224, 227, 228, 229, 231, 232, 234, 235, 236, 238, 239, 241, 242, 243, 246, 247, 248, 249, 251, 252, 254, 255, 256, 259, 260, 261, 264, 265, 266, 268, 269, 271, 272, 273, 275, 276, 278, 279, 280, 283, 284, 285, 287, 288, 290, 291, 292, 294, 295, 297, 298, 299, 301, 302, 304, 305, 306, 307, 308, 313, 315, 316, 318, 319, 320, 322, 323, 325, 326, 327, 329, 330, 332, 333, 334, 337, 338, 339, 342, 343, 344, 346, 347, 349, 350, 351, 353, 354, 356, 357, 358, 361, 362, 363, 366, 367, 368, 371, 372]
theorem kAddrs_ok (P : Params) : kAddrs = (kFrag P).map (·.1) := by kernel_rfl
noncomputable def kFrag2 (P : Params) : Frag := (314, ⟨.none, none, .fields #[], #[]⟩) :: kFrag P
noncomputable def kAddrs2 : List Addr := 314 :: kAddrs
theorem kAddrs2_ok (P : Params) : kAddrs2 = (kFrag2 P).map (·.1) := by
  show 314 :: kAddrs = 314 :: (kFrag P).map (·.1)
  rw [kAddrs_ok P]
theorem no_tab (P : Params) : (kFrag P).lookup 314 = none := by kernel_rfl
theorem in_rest {P : Params} {h : Heap} (Y : (kFrag2 P).In h) : (kFrag P).In h := by
  intro a o e
  refine Y a o ?_
  unfold kFrag2
  rw [List.lookup_cons]
  cases q : a == 314 with
  | true =>
    have := beq_iff_eq.mp q
    subst this
    rw [no_tab] at e
    cases e
  | false => exact e
theorem gn_law (w : World) : nsIn (kFrag w.params) mainGlobals (Str.ofString "law") = some (some (.ref 372)) := by kernel_rfl
noncomputable def Walk : Prop := ∀ (w : World) (s₀ s₁ : Shared) (args : List WData) (vals : List Value), (kFrag2 w.params).In s₁.heap → s₁.heap.NoLimit → s₁.gens = #[] → PySem.Challenge.rw_tc0040_02.row.claim.pre args = true → WellAll w.params s₁.heap vals args →
    wpAny (model PySem.Challenge.rw_tc0040_02.row.prog w) callerA (call (.ref 372) vals)
      (fun v s' => GoodWG PySem.Challenge.rw_tc0040_02.row.claim (classAt s₀.heap) (ExcName.means s₀.heap) args s₁ (Except.ok (Flow.ret v)) s')
      (fun e s' => GoodWG PySem.Challenge.rw_tc0040_02.row.claim (classAt s₀.heap) (ExcName.means s₀.heap) args s₁ (Except.error e) s') s₁
noncomputable def hdView : Program := { PySem.Challenge.pw_tc0040_02 with main := { PySem.Challenge.pw_tc0040_02.main with body := [0, 1, 2, 3, 4, 5, 7, 12, 13, 14, 15, 16, 17, 18, 19, 20, 21, 22, 23].filterMap fun i => PySem.Challenge.pw_tc0040_02.main.body[i]? } }
noncomputable def hdLoose : List Str := [Str.ofString "_Accumulator", Str.ofString "tspecials", Str.ofString "_name_disallowed_re", Str.ofString "_value_disallowed_re", Str.ofString "_formatparam"]
noncomputable abbrev hdHook : Hook := kHook kFrag2 kAddrs2 kAddrs2_ok
set_option maxHeartbeats 0 in
theorem hdLeftA : ∀ w, (openEnds treeTable PySem.Challenge.rw_tc0040_02.row.prog w 4474).map (openSeen hdView hdLoose (importedModules PySem.Challenge.rw_tc0040_02.row.prog.main.body) (fun s => xlAt hdView [] s && recOk (RowW.records PySem.Challenge.rw_tc0040_02.row.toRowW) s) true) = some (openGood hdView hdLoose) := by
  intro w
  kernel_rfl
set_option maxHeartbeats 0 in
theorem hdLeftB : ∀ w, (openEnds treeTable PySem.Challenge.rw_tc0040_02.row.prog w 4474).map (Hook.obs hdHook) = some (Hook.val hdHook w) := by
  intro w
  kernel_rfl
theorem map_two {α β γ : Type} {o : Option α} {f : α → β} {g : α → γ} {x : β} {y : γ} (a : o.map f = some x) (b : o.map g = some y) : o.map (fun s => (f s, g s)) = some (x, y) := by
  obtain ⟨s, rfl, rfl⟩ := Option.map_eq_some_iff.mp a
  rw [Option.map_some, Option.some.inj b]
theorem hdLeft : LeftO PySem.Challenge.rw_tc0040_02.row.prog hdView hdLoose (fun s => xlAt hdView [] s && recOk (RowW.records PySem.Challenge.rw_tc0040_02.row.toRowW) s) (Hook.obs hdHook) (Hook.val hdHook) 4474 := fun w => map_two (hdLeftA w) (hdLeftB w)
set_option maxHeartbeats 0 in
theorem hdMain (walk : Walk) : PySem.Challenge.rw_tc0040_02.Holds := by
  refine holds_law (by decide +kernel) fun said => ?_
  refine holds_open (q := hdView) (loose := hdLoose) (Xt := fun s => xlAt hdView [] s && recOk (RowW.records PySem.Challenge.rw_tc0040_02.row.toRowW) s) (XP := XL hdView []) (Yf := Hook.obs hdHook) (Ya := Hook.val hdHook) (YP := Hook.says hdHook) (N := 4474) hdLeft (Hook.of hdHook) (Hook.keeps hdHook) (fun s e => xl_of s (Bool.and_eq_true_iff.mp e).1) XL.keeps (by rfl) (by rfl) (by rfl) (fun s e => recFacts_of (Bool.and_eq_true_iff.mp e).2) (by rfl) (by first | assumption | decide +kernel) (by decide +kernel) ⟨rfl, rfl, rfl, rfl, rfl, by decide +kernel⟩ ⟨[.list [.int 3, .int 1]], by decide +kernel, by decide +kernel⟩ ?hc
  intro w s₀ s₁ mg mb G Y fa o pm cd doc dV kV ho hd hcd hD hmg hg args vals as hpre hlay hrd hwl hlo
  have KX := kIn_of Y
  have hfa : mg (Str.ofString "law") = some (.ref 372) := mg_of (in_rest KX) G.T.g (gn_law w)
  have hfa' : fa = 372 := Value.ref.inj (Option.some.inj (hmg.symm.trans hfa))
  subst hfa'
  exact walk w s₀ s₁ args vals KX G.T.nolimit hg hpre hwl
end Mine
end
section
set_option Elab.async false
set_option maxRecDepth 100000
set_option linter.unusedVariables false
set_option linter.unusedSimpArgs false
namespace Mine
open PySem PySem.Calls PySem.W PyProof.Rows
inductive P3 (p1 p2 p3 : Prop) : Prop
  | mk : p1 → p2 → p3 → P3 p1 p2 p3
inductive P4 (p1 p2 p3 p4 : Prop) : Prop
  | mk : p1 → p2 → p3 → p4 → P4 p1 p2 p3 p4
inductive P5 (p1 p2 p3 p4 p5 : Prop) : Prop
  | mk : p1 → p2 → p3 → p4 → p5 → P5 p1 p2 p3 p4 p5
inductive P6 (p1 p2 p3 p4 p5 p6 : Prop) : Prop
  | mk : p1 → p2 → p3 → p4 → p5 → p6 → P6 p1 p2 p3 p4 p5 p6
inductive P7 (p1 p2 p3 p4 p5 p6 p7 : Prop) : Prop
  | mk : p1 → p2 → p3 → p4 → p5 → p6 → p7 → P7 p1 p2 p3 p4 p5 p6 p7
inductive P8 (p1 p2 p3 p4 p5 p6 p7 p8 : Prop) : Prop
  | mk : p1 → p2 → p3 → p4 → p5 → p6 → p7 → p8 → P8 p1 p2 p3 p4 p5 p6 p7 p8
inductive PV where
  | none
  | bool (b : Bool)
  | int (i : Int)
  | str (s : Str)
  | ref (i : Nat)
  | tup (xs : List PV)
  | lst (xs : List PV)
  | raw (v : Value)
structure Rho where
  ents : List (List Addr)
  rsv : List Addr
noncomputable def Rho.flatten (ρ : Rho) : List Addr := ρ.ents.flatten
noncomputable def Rho.own (ρ : Rho) : List Addr := ρ.ents.flatten ++ ρ.rsv
noncomputable def headAt (ρ : Rho) (i : Nat) : Option Addr := match ρ.ents[i]? with
  | some (a :: _) => some a
  | _ => none
mutual
inductive RV (h : Heap) (ρ : Rho) : Value → PV → Prop
  | none : RV h ρ .none .none
  | bool (b : Bool) : RV h ρ (.bool b) (.bool b)
  | int (i : Int) (t : Tok) : RV h ρ (.int i t) (.int i)
  | str (s : Str) (t : Tok) : RV h ρ (.str s t) (.str s)
  | ref {a : Addr} {i : Nat} : headAt ρ i = some a → RV h ρ (.ref a) (.ref i)
  | tup {a : Addr} {vs : List Value} {xs : List PV} : a ∉ ρ.own → h.IsTuple a vs.toArray → RVs h ρ vs xs → RV h ρ (.ref a) (.tup xs)
  | lst {a : Addr} {vs : List Value} {xs : List PV} : a ∉ ρ.own → h.PlainList a vs.toArray → RVs h ρ vs xs → RV h ρ (.ref a) (.lst xs)
  | raw (v : Value) : RV h ρ v (.raw v)
inductive RVs (h : Heap) (ρ : Rho) : List Value → List PV → Prop
  | nil : RVs h ρ [] []
  | cons {v : Value} {p : PV} {vs : List Value} {ps : List PV} : RV h ρ v p → RVs h ρ vs ps → RVs h ρ (v :: vs) (p :: ps)
end
theorem spr {α β : Type} {a c : α} {b d : β} (e : some (a, b) = some (c, d)) : a = c ∧ b = d := Prod.mk.inj (Option.some.inj e)
theorem nos {α : Type} {a : α} (e : none = some a) : False := nomatch e
noncomputable def RVI (h : Heap) (ρ : Rho) (v : Value) : PV → Prop
  | .none => ∃ _ : Unit, v = .none
  | .bool b => ∃ _ : Unit, v = .bool b
  | .int i => ∃ t, v = .int i t
  | .str x => ∃ t, v = .str x t
  | .ref i => ∃ a, headAt ρ i = some a ∧ v = .ref a
  | .tup xs => ∃ a vs, P4 (a ∉ ρ.own) (h.IsTuple a vs.toArray) (RVs h ρ vs xs) (v = .ref a)
  | .lst xs => ∃ a vs, P4 (a ∉ ρ.own) (h.PlainList a vs.toArray) (RVs h ρ vs xs) (v = .ref a)
  | .raw w => ∃ _ : Unit, v = w
theorem RV.inv {h : Heap} {ρ : Rho} : ∀ {v : Value} {p : PV}, RV h ρ v p → RVI h ρ v p
  | _, _, .none => ⟨(), rfl⟩
  | _, _, .bool _ => ⟨(), rfl⟩
  | _, _, .int _ t => ⟨t, rfl⟩
  | _, _, .str _ t => ⟨t, rfl⟩
  | _, _, .ref hd => ⟨_, hd, rfl⟩
  | _, _, .tup a b c => ⟨_, _, a, b, c, rfl⟩
  | _, _, .lst a b c => ⟨_, _, a, b, c, rfl⟩
  | _, _, .raw _ => ⟨(), rfl⟩
noncomputable def RVsI (h : Heap) (ρ : Rho) (vs : List Value) : List PV → Prop
  | [] => vs = []
  | p :: ps => ∃ v vs', P3 (vs = v :: vs') (RV h ρ v p) (RVs h ρ vs' ps)
theorem RVs.inv {h : Heap} {ρ : Rho} : ∀ {vs : List Value} {ps : List PV}, RVs h ρ vs ps → RVsI h ρ vs ps
  | _, _, .nil => rfl
  | _, _, .cons a b => ⟨_, _, rfl, a, b⟩
inductive RVo (h : Heap) (ρ : Rho) : Option Value → Option PV → Prop
  | none : RVo h ρ .none .none
  | some {v : Value} {p : PV} : RV h ρ v p → RVo h ρ (.some v) (.some p)
structure Carry (h : Heap) (ρ : Rho) (h' : Heap) (ρ' : Rho) : Prop where
  keep : ∀ a o, h.get? a = some o → a ∉ ρ.own → h'.get? a = some o ∧ a ∉ ρ'.own
  head : ∀ i a, headAt ρ i = some a → headAt ρ' i = some a
theorem RV.carry {ρ ρ' : Rho} {h h' : Heap} (g : Carry h ρ h' ρ') {v : Value} {p : PV} (r : RV h ρ v p) : RV h' ρ' v p :=
  RV.rec (motive_1 := fun v p _ => RV h' ρ' v p) (motive_2 := fun vs ps _ => RVs h' ρ' vs ps) .none (fun b => .bool b) (fun i t => .int i t) (fun s t => .str s t) (fun e => .ref (g.head _ _ e))
    (fun na e _ r => .tup (g.keep _ _ e.choose_spec.1 na).2 ⟨e.choose, (g.keep _ _ e.choose_spec.1 na).1, e.choose_spec.2⟩ r) (fun na e _ r => .lst (g.keep _ _ e.choose_spec na).2 ⟨e.choose, (g.keep _ _ e.choose_spec na).1⟩ r) (fun v => .raw v) .nil (fun _ _ x y => .cons x y) r
theorem RVs.carry {ρ ρ' : Rho} {h h' : Heap} (g : Carry h ρ h' ρ') {vs : List Value} {ps : List PV} (r : RVs h ρ vs ps) : RVs h' ρ' vs ps := by
  induction ps generalizing vs with
  | nil => obtain rfl := r.inv; exact .nil
  | cons p ps ih => obtain ⟨_, _, rfl, x, y⟩ := r.inv; exact .cons (x.carry g) (ih y)
theorem RVo.carry {ρ ρ' : Rho} {h h' : Heap} (g : Carry h ρ h' ρ') {v : Option Value} {p : Option PV} : RVo h ρ v p → RVo h' ρ' v p
  | .none => .none
  | .some x => .some (x.carry g)
structure Grow (fr : List Addr) (ρ : Rho) (h : Heap) (ρ' : Rho) (h' : Heap) : Prop where
  keep : ∀ a o, h.get? a = some o → a ∉ fr → a ∉ ρ.flatten → h'.get? a = some o
  pre : ρ.ents <+: ρ'.ents
  rsv : ρ'.rsv = ρ.rsv
  new : ∀ a ∈ ρ'.flatten, a ∈ ρ.flatten ∨ a ∈ fr ∨ h.get? a = none
theorem Grow.refl {fr : List Addr} {ρ : Rho} {h : Heap} : Grow fr ρ h ρ h := ⟨fun _ _ e _ _ => e, List.prefix_rfl, rfl, fun _ m => .inl m⟩
theorem Grow.trans {fr : List Addr} {ρ ρ₁ ρ₂ : Rho} {h h₁ h₂ : Heap} (x : Grow fr ρ h ρ₁ h₁) (y : Grow fr ρ₁ h₁ ρ₂ h₂) : Grow fr ρ h ρ₂ h₂ := by
  refine ⟨fun a o e nf nr => ?_, x.pre.trans y.pre, y.rsv.trans x.rsv, fun a m => ?_⟩
  · have e1 := x.keep a o e nf nr
    refine y.keep a o e1 nf fun m => ?_
    rcases x.new a m with m | m | m
    · exact nr m
    · exact nf m
    · rw [e] at m; cases m
  · rcases y.new a m with m | m | m
    · exact x.new a m
    · exact .inr (.inl m)
    · by_cases hf : a ∈ fr
      · exact .inr (.inl hf)
      by_cases hr : a ∈ ρ.flatten
      · exact .inl hr
      refine .inr (.inr ?_)
      cases q : h.get? a with
      | none => rfl
      | some o => rw [x.keep a o q hf hr] at m; cases m
theorem Grow.through {fr fr' wr : List Addr} {ρ ρ₁ ρ₂ ρ₃ : Rho} {h h₁ h₂ h₃ h₄ : Heap} (g₁ : Grow fr ρ h ρ₁ h₁) (k : ∀ a o, h₁.get? a = some o → h₂.get? a = some o) (e2 : ρ₂.ents = ρ₁.ents) (g : Grow fr' ρ₂ h₂ ρ₃ h₃)
    (sub : ∀ a ∈ fr', a ∈ fr ∨ h.get? a = none) (kp : ∀ a o, h₃.get? a = some o → a ∉ wr → h₄.get? a = some o) (wsub : ∀ a ∈ wr, h.get? a = none) : Grow fr ρ h ⟨ρ₃.ents, ρ.rsv⟩ h₄ := by
  have f2 : ρ₂.flatten = ρ₁.flatten := by unfold Rho.flatten; rw [e2]
  refine ⟨fun a o e nf nr => ?_, g₁.pre.trans (by rw [← e2]; exact g.pre), rfl, fun a m => ?_⟩
  · have e1 := g₁.keep a o e nf nr
    refine kp a o (g.keep a o (k a o e1) (fun m => ?_) fun m => ?_) fun m => ?_
    · rcases sub a m with m | m
      · exact nf m
      · rw [e] at m; cases m
    · rw [f2] at m
      rcases g₁.new a m with z | z | z
      · exact nr z
      · exact nf z
      · rw [e] at z; cases z
    · rw [wsub a m] at e; cases e
  · replace m : a ∈ ρ₃.flatten := m
    rcases g.new a m with z | z | z
    · rw [f2] at z; exact g₁.new a z
    · rcases sub a z with z | z
      · exact .inr (.inl z)
      · exact .inr (.inr z)
    · by_cases hf : a ∈ fr
      · exact .inr (.inl hf)
      by_cases hr : a ∈ ρ.flatten
      · exact .inl hr
      refine .inr (.inr ?_)
      cases q : h.get? a with
      | none => rfl
      | some o => rw [k a o (g₁.keep a o q hf hr)] at z; cases z
theorem Grow.wider {fr fr' : List Addr} {ρ ρ' : Rho} {h h' : Heap} (x : Grow fr ρ h ρ' h') (s : ∀ a ∈ fr, a ∈ fr') : Grow fr' ρ h ρ' h' :=
  ⟨fun a o e nf nr => x.keep a o e (fun m => nf (s a m)) nr, x.pre, x.rsv, fun a m => (x.new a m).imp id fun z => z.imp (s a) id⟩
theorem headAt_prefix {ρ ρ' : Rho} {i : Nat} {a : Addr} (p : ρ.ents <+: ρ'.ents) (e : headAt ρ i = some a) : headAt ρ' i = some a := by
  obtain ⟨t, p⟩ := p
  unfold headAt at e ⊢
  rw [← p]
  by_cases hi : i < ρ.ents.length
  · rw [List.getElem?_append_left hi]; exact e
  · rw [List.getElem?_eq_none (Nat.le_of_not_lt hi)] at e; cases e
theorem Grow.carry {fr : List Addr} {ρ ρ' : Rho} {h h' : Heap} (g : Grow fr ρ h ρ' h') (L : ∀ a ∈ fr, a ∈ ρ.rsv) : Carry h ρ h' ρ' := by
  refine ⟨fun a o e na => ?_, fun i a e => headAt_prefix g.pre e⟩
  have n1 : a ∉ ρ.flatten := fun m => na (List.mem_append_left _ m)
  have n2 : a ∉ ρ.rsv := fun m => na (List.mem_append_right _ m)
  refine ⟨g.keep a o e (fun m => n2 (L a m)) n1, fun m => ?_⟩
  rcases List.mem_append.mp m with m | m
  · rcases g.new a m with m | m | m
    · exact n1 m
    · exact n2 (L a m)
    · rw [e] at m; cases m
  · rw [g.rsv] at m; exact n2 m
theorem RV.grow {fr : List Addr} {ρ ρ' : Rho} {h h' : Heap} (g : Grow fr ρ h ρ' h') (L : ∀ a ∈ fr, a ∈ ρ.rsv) {v : Value} {p : PV} (r : RV h ρ v p) : RV h' ρ' v p := r.carry (g.carry L)
theorem RVs.grow {fr : List Addr} {ρ ρ' : Rho} {h h' : Heap} (g : Grow fr ρ h ρ' h') (L : ∀ a ∈ fr, a ∈ ρ.rsv) {v : List Value} {p : List PV} (r : RVs h ρ v p) : RVs h' ρ' v p := r.carry (g.carry L)
theorem RVo.grow {fr : List Addr} {ρ ρ' : Rho} {h h' : Heap} (g : Grow fr ρ h ρ' h') (L : ∀ a ∈ fr, a ∈ ρ.rsv) {v : Option Value} {p : Option PV} (r : RVo h ρ v p) : RVo h' ρ' v p := r.carry (g.carry L)
theorem RVs.length {h : Heap} {ρ : Rho} {vs : List Value} {ps : List PV} (r : RVs h ρ vs ps) : vs.length = ps.length := by
  induction vs generalizing ps with
  | nil => cases r; rfl
  | cons v vs ih => cases r with | cons _ y => simp [ih y]
theorem RVs.get {h : Heap} {ρ : Rho} {vs : List Value} {ps : List PV} (r : RVs h ρ vs ps) {i : Nat} {p : PV} (e : ps[i]? = some p) : ∃ v, vs[i]? = some v ∧ RV h ρ v p := by
  induction vs generalizing ps i with
  | nil => cases r; simp at e
  | cons v vs ih =>
    cases r with
    | cons x y =>
      cases i with
      | zero => simp at e; subst e; exact ⟨v, by simp, x⟩
      | succ i => simp at e; obtain ⟨u, a, b⟩ := ih y e; exact ⟨u, by simpa using a, b⟩
theorem RVs.append {h : Heap} {ρ : Rho} {vs ws : List Value} {ps qs : List PV} (r : RVs h ρ vs ps) (q : RVs h ρ ws qs) : RVs h ρ (vs ++ ws) (ps ++ qs) := by
  induction vs generalizing ps with
  | nil => cases r; exact q
  | cons v vs ih => cases r with | cons x y => exact .cons x (ih y)
theorem RVs.set {h : Heap} {ρ : Rho} {vs : List Value} {ps : List PV} (r : RVs h ρ vs ps) {i : Nat} {v : Value} {p : PV} (x : RV h ρ v p) : RVs h ρ (vs.set i v) (ps.set i p) := by
  induction vs generalizing ps i with
  | nil => cases r; exact .nil
  | cons u vs ih => cases r with | cons a y => cases i with | zero => exact .cons x y | succ n => exact .cons a (ih y)
inductive AO where
  | list (xs : List PV)
  | inst (C : Addr) (kvs : List (Str × PV))
  | linst (C : Addr) (kvs : List (Str × PV)) (xs : List PV)
  | cell (v : Option PV)
  | meth (f : Value) (self : PV)
  | clo (tm : FuncData) (names : List Str) (vals : List (Option PV))
  | fn (tm : FuncData) (cl : List (Str × Addr))
  | tab (P : Addr) (pos : Pos) (q : Str)
  | citer (m z : PV)
  | cdone
  | edict
  | junk
noncomputable def NsRel (h : Heap) (ρ : Rho) (d : Addr) (names : List Str) (vals : List (Option PV)) : Prop :=
  ∃ m, P3 (h.Ns d m) ((∀ (i : Nat) (x : Str), names[i]? = some x → RVo h ρ (m x) ((vals[i]?).join))) ((∀ x, x ∉ names → m x = none))
theorem NsRel.carry {ρ ρ' : Rho} {h h' : Heap} (g : Carry h ρ h' ρ') {d : Addr} {names : List Str} {vals : List (Option PV)} (x : NsRel h ρ d names vals)
    (e : ∀ o, h.get? d = some o → h'.get? d = some o) : NsRel h' ρ' d names vals := by
  obtain ⟨m, a, b, c⟩ := x
  exact ⟨m, a.at' e, fun i y z => (b i y z).carry g, c⟩
inductive EntsR (h : Heap) (ρ : Rho) : List DictEntry → List (Str × PV) → Prop
  | nil : EntsR h ρ [] []
  | cons {hs : Int} {x : Str} {t : Tok} {v : Value} {p : PV} {es : List DictEntry} {kvs : List (Str × PV)} : RV h ρ v p → EntsR h ρ es kvs → EntsR h ρ (⟨hs, .str x t, v⟩ :: es) ((x, p) :: kvs)
theorem EntsR.carry {ρ ρ' : Rho} {h h' : Heap} (g : Carry h ρ h' ρ') {es : List DictEntry} {kvs : List (Str × PV)} (r : EntsR h ρ es kvs) : EntsR h' ρ' es kvs := by
  induction r with
  | nil => exact .nil
  | cons x _ ih => exact .cons (x.carry g) ih
noncomputable def FnObj (h : Heap) (ρ : Rho) (f : Addr) (tm : FuncData) (cl : List (Str × Addr)) : Prop :=
  ∃ T c' oc vc q, P5 (h.get? f = some { cls := .type "function", data := .func { tm with closure := cl, closureTuple := T, code := .ref c' } }) (c' ∉ ρ.own) (h.get? c' = some oc) (oc.data = .fields vc) (vc[1]? = some (.str tm.qualname q))
theorem FnObj.carry {ρ ρ' : Rho} {h h' : Heap} (g : Carry h ρ h' ρ') {f : Addr} {tm : FuncData} {cl : List (Str × Addr)} (x : FnObj h ρ f tm cl) (e : ∀ o, h.get? f = some o → h'.get? f = some o) : FnObj h' ρ' f tm cl := by
  obtain ⟨T, c', oc, vc, q, x1, y1, y2, y3, y4⟩ := x
  exact ⟨T, c', oc, vc, q, e _ x1, (g.keep _ _ y2 y1).2, (g.keep _ _ y2 y1).1, y3, y4⟩
noncomputable def RO (h : Heap) (ρ : Rho) (as : List Addr) : AO → Prop
  | .list xs => ∃ a vs n, P3 (as = [a]) (h.get? a = some { cls := .type "list", data := .seq vs n }) (RVs h ρ vs.toList xs)
  | .inst C kvs => ∃ a d es n, P4 (as = [a, d]) (h.get? a = some { cls := .ref C, dict := some d, data := .plain }) (h.get? d = some (W.dictOf es n)) (EntsR h ρ es kvs)
  | .linst C kvs xs => ∃ a d vs m es n, P5 (as = [a, d]) (h.get? a = some { cls := .ref C, dict := some d, data := .seq vs m }) (RVs h ρ vs.toList xs) (h.get? d = some (W.dictOf es n)) (EntsR h ρ es kvs)
  | .cell v => ∃ a o u, P4 (as = [a]) (h.get? a = some o) (o.data = .cell u) (RVo h ρ u v)
  | .meth f self => ∃ a u, P3 (as = [a]) (h.get? a = some { cls := .type "method", data := .fields #[f, u] }) (RV h ρ u self)
  | .clo tm names vals => ∃ f cs, as = f :: cs ∧ (cs.length = names.length ∧ vals.length = names.length) ∧ FnObj h ρ f tm (names.zip cs) ∧ ∀ (i : Nat) (d : Addr), cs[i]? = some d → ∃ o u, P3 (h.get? d = some o) (o.data = .cell u) (RVo h ρ u ((vals[i]?).join))
  | .fn tm cl => ∃ f, as = [f] ∧ FnObj h ρ f tm cl
  | .tab P pos q => ∃ ps, P4 (as = [P]) (h.get? P = some { cls := .none, data := .fields ps }) (TriplesOk ps.toList) ((codeAmong pos ps.toList = none ∨ ∃ c' oc vc t, c' ∉ ρ.own ∧ codeAmong pos ps.toList = some (.ref c') ∧
      h.get? c' = some oc ∧ oc.data = .fields vc ∧ vc[1]? = some (.str q t)))
  | .citer m z => ∃ a u v, P4 (as = [a]) (h.get? a = some { cls := .type "callable_iterator", data := .fields #[u, v, .bool false] }) (RV h ρ u m) (RV h ρ v z)
  | .cdone => ∃ a u v, as = [a] ∧ h.get? a = some { cls := .type "callable_iterator", data := .fields #[u, v, .bool true] }
  | .edict => ∃ a, as = [a] ∧ h.get? a = some { cls := .type "dict", data := .dict #[] }
  | .junk => True
theorem RO.carry {ρ ρ' : Rho} {h h' : Heap} (g : Carry h ρ h' ρ') {as : List Addr} (e : ∀ a ∈ as, ∀ o, h.get? a = some o → h'.get? a = some o) : ∀ {ao : AO}, RO h ρ as ao → RO h' ρ' as ao
  | .list xs, x => by
    obtain ⟨a, vs, n, rfl, x, y⟩ := x
    exact ⟨a, vs, n, rfl, e a (by simp) _ x, y.carry g⟩
  | .inst C kvs, x => by
    obtain ⟨a, d, es, n, rfl, x, y, z⟩ := x
    exact ⟨a, d, es, n, rfl, e a (by simp) _ x, e d (by simp) _ y, z.carry g⟩
  | .linst C kvs xs, x => by
    obtain ⟨a, d, vs, m, es, n, rfl, x, y, z, w⟩ := x
    exact ⟨a, d, vs, m, es, n, rfl, e a (by simp) _ x, y.carry g, e d (by simp) _ z, w.carry g⟩
  | .cell v, x => by
    obtain ⟨a, o, u, rfl, x, y, z⟩ := x
    exact ⟨a, o, u, rfl, e a (by simp) _ x, y, z.carry g⟩
  | .meth f self, x => by
    obtain ⟨a, u, rfl, x, y⟩ := x
    exact ⟨a, u, rfl, e a (by simp) _ x, y.carry g⟩
  | .clo tm names vals, x => by
    obtain ⟨f, cs, rfl, l, x, y⟩ := x
    refine ⟨f, cs, rfl, l, x.carry g (e f (by simp)), fun i d hd => ?_⟩
    obtain ⟨o, u, a, b, c⟩ := y i d hd
    exact ⟨o, u, e d (List.mem_cons_of_mem _ (List.mem_of_getElem? hd)) _ a, b, c.carry g⟩
  | .fn tm cl, x => by
    obtain ⟨f, rfl, x⟩ := x
    exact ⟨f, rfl, x.carry g (e f (by simp))⟩
  | .tab P pos q, x => by
    obtain ⟨ps, rfl, x, y, z⟩ := x
    refine ⟨ps, rfl, e P (by simp) _ x, y, z.imp id ?_⟩
    rintro ⟨c', oc, vc, t, n, a, b, c, d⟩
    exact ⟨c', oc, vc, t, (g.keep _ _ b n).2, a, (g.keep _ _ b n).1, c, d⟩
  | .citer m z, x => by
    obtain ⟨a, u, v, rfl, x, y, z⟩ := x
    exact ⟨a, u, v, rfl, e a (by simp) _ x, y.carry g, z.carry g⟩
  | .cdone, x => by
    obtain ⟨a, u, v, rfl, x⟩ := x
    exact ⟨a, u, v, rfl, e a (by simp) _ x⟩
  | .edict, x => by
    obtain ⟨a, rfl, x⟩ := x
    exact ⟨a, rfl, e a (by simp) _ x⟩
  | .junk, _ => trivial
structure RelS (K : Frag) (ρ : Rho) (st : List AO) (h : Heap) : Prop where
  len : ρ.ents.length = st.length
  objs : ∀ (i : Nat) (as : List Addr) (ao : AO), ρ.ents[i]? = some as → st[i]? = some ao → RO h ρ as ao
  nodup : ρ.own.Nodup
  apart : ∀ a ∈ ρ.own, K.lookup a = none ∧ a ≠ cStatics ∧ ∃ o, h.get? a = some o
  top : K.In h
  nolim : h.NoLimit
theorem mem_flatten_at {ρ : Rho} {i : Nat} {as : List Addr} (e : ρ.ents[i]? = some as) : ∀ a ∈ as, a ∈ ρ.flatten := fun a m => List.mem_flatten.mpr ⟨as, List.mem_of_getElem? e, m⟩
theorem mem_own {ρ : Rho} {a : Addr} (m : a ∈ ρ.flatten) : a ∈ ρ.own := List.mem_append_left _ m
theorem mem_own' {ρ : Rho} {a : Addr} (m : a ∈ ρ.rsv) : a ∈ ρ.own := List.mem_append_right _ m
theorem apart_at {ρ : Rho} (n : ρ.own.Nodup) {i j : Nat} {as bs : List Addr} (e : ρ.ents[i]? = some as) (e' : ρ.ents[j]? = some bs) (ne : i ≠ j) : ∀ a ∈ as, a ∉ bs := by
  intro a ma mb
  replace n := (List.nodup_append.mp n).1
  rw [List.nodup_iff_pairwise_ne, List.pairwise_flatten] at n
  obtain ⟨-, q⟩ := n
  have hi : i < ρ.ents.length := (List.getElem?_eq_some_iff.mp e).1
  have hj : j < ρ.ents.length := (List.getElem?_eq_some_iff.mp e').1
  have ei := (List.getElem?_eq_some_iff.mp e).2
  have ej := (List.getElem?_eq_some_iff.mp e').2
  rw [List.pairwise_iff_getElem] at q
  rcases Nat.lt_or_gt_of_ne ne with l | l
  · exact q i j hi hj l a (ei ▸ ma) a (ej ▸ mb) rfl
  · exact q j i hj hi l a (ej ▸ mb) a (ei ▸ ma) rfl
theorem rsv_apart {ρ : Rho} (n : ρ.own.Nodup) {a : Addr} (m : a ∈ ρ.rsv) : a ∉ ρ.flatten := fun q => (List.nodup_append.mp n).2.2 a q a m rfl
section
variable {K : Frag} {ρ ρ' : Rho} {st : List AO} {h h' : Heap}
theorem RelS.notK (R : RelS K ρ st h) {a : Addr} {o : Obj} (e : K.lookup a = some o) : a ∉ ρ.own := fun m => by
  have := (R.apart a m).1
  rw [e] at this; cases this
theorem RelS.statics (R : RelS K ρ st h) : cStatics ∉ ρ.own := fun m => (R.apart _ m).2.1 rfl
theorem noFr {ρ : Rho} : ∀ a ∈ ([] : List Addr), a ∈ ρ.rsv := fun _ m => nomatch m
theorem RelS.wrote (R : RelS K ρ st h) {wr : List Addr} (sub : ∀ a ∈ wr, a ∈ ρ.rsv) (k : ∀ a o, h.get? a = some o → a ∉ wr → h'.get? a = some o) (lv : ∀ a ∈ wr, ∃ o, h'.get? a = some o) : RelS K ρ st h' ∧ Grow wr ρ h ρ h' := by
  have g : Grow wr ρ h ρ h' := ⟨fun a o e n _ => k a o e n, List.prefix_rfl, rfl, fun _ m => .inl m⟩
  refine ⟨⟨R.len, fun i as ao e e' => (R.objs i as ao e e').carry (g.carry sub) fun a m o q => k a o q fun z => rsv_apart R.nodup (sub a z) (mem_flatten_at e a m), R.nodup, fun a m => ?_, fun a o e => k a o (R.top a o e) fun z => R.notK e (mem_own' (sub a z)), ?_⟩, g⟩
  · obtain ⟨x, y, o, z⟩ := R.apart a m
    refine ⟨x, y, ?_⟩
    by_cases m' : a ∈ wr
    · exact lv a m'
    · exact ⟨o, k a o z m'⟩
  · obtain ⟨mc, p, q⟩ := R.nolim
    exact ⟨mc, p.at' fun o z => k _ o z fun m => R.statics (mem_own' (sub _ m)), q⟩
theorem RelS.ext (R : RelS K ρ st h) (k : ∀ a o, h.get? a = some o → h'.get? a = some o) : RelS K ρ st h' ∧ Grow [] ρ h ρ h' :=
  R.wrote noFr (fun a o e _ => k a o e) fun _ m => nomatch m
noncomputable def Rho.enter (ρ : Rho) (wr : List Addr) : Rho := ⟨ρ.ents, wr ++ ρ.rsv⟩
theorem RelS.enter (R : RelS K ρ st h) {wr : List Addr} (k : ∀ a o, h.get? a = some o → h'.get? a = some o) (fresh : ∀ a ∈ wr, h.get? a = none) (lv : ∀ a ∈ wr, ∃ o, h'.get? a = some o) (nd : wr.Nodup) :
    RelS K (ρ.enter wr) st h' ∧ Carry h ρ h' (ρ.enter wr) := by
  have nn : ∀ a ∈ wr, a ∉ ρ.own := fun a m q => by obtain ⟨_, _, o, z⟩ := R.apart a q; rw [fresh a m] at z; cases z
  have mem : ∀ a, a ∈ (ρ.enter wr).own → a ∈ wr ∨ a ∈ ρ.own := fun a m => by
    rcases List.mem_append.mp m with m | m
    · exact .inr (mem_own m)
    · rcases List.mem_append.mp m with m | m
      · exact .inl m
      · exact .inr (mem_own' m)
  have g : Carry h ρ h' (ρ.enter wr) := ⟨fun a o e na => ⟨k a o e, fun m => (mem a m).elim (fun m => by rw [fresh a m] at e; cases e) na⟩, fun i a e => e⟩
  refine ⟨⟨R.len, fun i as ao e e' => (R.objs i as ao e e').carry g fun a _ o q => k a o q, ?_, fun a m => ?_, R.top.keeps k, R.nolim.keeps k⟩, g⟩
  · have n := R.nodup
    unfold Rho.own at n
    rw [List.nodup_append] at n
    show (ρ.ents.flatten ++ (wr ++ ρ.rsv)).Nodup
    rw [List.nodup_append, List.nodup_append]
    refine ⟨n.1, ⟨nd, n.2.1, fun a m b m' q => nn a m (q ▸ mem_own' m')⟩, fun a m b m' q => ?_⟩
    rcases List.mem_append.mp m' with m' | m'
    · exact nn b m' (q ▸ mem_own m)
    · exact n.2.2 a m b m' q
  · rcases mem a m with m | m
    · refine ⟨?_, ?_, lv a m⟩
      · cases q : K.lookup a with
        | none => rfl
        | some o => have := R.top a o q; rw [fresh a m] at this; cases this
      · rintro rfl
        obtain ⟨mc, ⟨o, _, _, z, _⟩, _⟩ := R.nolim
        rw [fresh _ m] at z; cases z
    · obtain ⟨x, y, o, z⟩ := R.apart a m
      exact ⟨x, y, o, k a o z⟩
theorem RelS.drop (R : RelS K ρ st h) {r' wr : List Addr} (nd : r'.Nodup) (sub : ∀ a ∈ r', a ∈ ρ.rsv) (wsub : ∀ a ∈ wr, a ∈ ρ.rsv ∧ a ∉ r') (k : ∀ a o, h.get? a = some o → a ∉ wr → h'.get? a = some o) :
    RelS K ⟨ρ.ents, r'⟩ st h' ∧ Carry h ρ h' ⟨ρ.ents, r'⟩ := by
  have up : ∀ a, a ∈ (⟨ρ.ents, r'⟩ : Rho).own → a ∈ ρ.own := fun a m => by
    rcases List.mem_append.mp m with m | m
    · exact mem_own (ρ := ρ) m
    · exact mem_own' (sub a m)
  have n := R.nodup
  unfold Rho.own at n
  rw [List.nodup_append] at n
  have apart : ∀ a ∈ (⟨ρ.ents, r'⟩ : Rho).own, a ∉ wr := fun a m q => by
    rcases List.mem_append.mp m with m | m
    · exact n.2.2 a m a (wsub a q).1 rfl
    · exact (wsub a q).2 m
  have g : Carry h ρ h' ⟨ρ.ents, r'⟩ := ⟨fun a o e na => ⟨k a o e fun m => na (mem_own' (wsub a m).1), fun m => na (up a m)⟩, fun i a e => e⟩
  refine ⟨⟨R.len, fun i as ao e e' => (R.objs i as ao e e').carry g fun a m o q => k a o q (apart a (mem_own (ρ := ⟨ρ.ents, r'⟩) (mem_flatten_at (ρ := ⟨ρ.ents, r'⟩) e a m))), ?_, fun a m => ?_, fun a o e => k a o (R.top a o e) fun z => R.notK e (mem_own' (wsub a z).1), ?_⟩, g⟩
  · unfold Rho.own
    rw [List.nodup_append]
    exact ⟨n.1, nd, fun a m b m' q => n.2.2 a m b (sub b m') q⟩
  · obtain ⟨x, y, o, z⟩ := R.apart a (up a m)
    exact ⟨x, y, o, k a o z (apart a m)⟩
  · obtain ⟨mc, p, q⟩ := R.nolim
    exact ⟨mc, p.at' fun o z => k _ o z fun m => R.statics (mem_own' (wsub _ m).1), q⟩
theorem RelS.leave {wr : List Addr} (R : RelS K (ρ.enter wr) st h) (k : ∀ a o, h.get? a = some o → a ∉ wr → h'.get? a = some o) : RelS K ρ st h' ∧ Carry h (ρ.enter wr) h' ρ := by
  have up : ∀ a, a ∈ ρ.own → a ∈ (ρ.enter wr).own := fun a m => by
    rcases List.mem_append.mp m with m | m
    · exact mem_own (ρ := ρ.enter wr) m
    · exact mem_own' (ρ := ρ.enter wr) (List.mem_append_right _ m)
  have inw : ∀ a ∈ wr, a ∈ (ρ.enter wr).rsv := fun a m => List.mem_append_left _ m
  have n := R.nodup
  unfold Rho.own at n
  rw [List.nodup_append] at n
  have n2 : (wr ++ ρ.rsv).Nodup := n.2.1
  rw [List.nodup_append] at n2
  have apart : ∀ a ∈ ρ.own, a ∉ wr := fun a m q => by
    rcases List.mem_append.mp m with m | m
    · exact n.2.2 a m a (inw a q) rfl
    · exact n2.2.2 a q a m rfl
  have g : Carry h (ρ.enter wr) h' ρ := ⟨fun a o e na => ⟨k a o e fun m => na (mem_own' (inw a m)), fun m => na (up a m)⟩, fun i a e => e⟩
  refine ⟨⟨R.len, fun i as ao e e' => (R.objs i as ao e e').carry g fun a m o q => k a o q (apart a (mem_own (mem_flatten_at e a m))), ?_, fun a m => ?_, fun a o e => k a o (R.top a o e) fun z => R.notK e (mem_own' (inw a z)), ?_⟩, g⟩
  · unfold Rho.own
    rw [List.nodup_append]
    exact ⟨n.1, n2.2.1, fun a m b m' q => n.2.2 a m b (List.mem_append_right _ m') q⟩
  · obtain ⟨x, y, o, z⟩ := R.apart a (up a m)
    exact ⟨x, y, o, k a o z (apart a m)⟩
  · obtain ⟨mc, p, q⟩ := R.nolim
    exact ⟨mc, p.at' fun o z => k _ o z fun m => R.statics (mem_own' (inw _ m)), q⟩
theorem RelS.put (R : RelS K ρ st h) {i : Nat} {as : List Addr} {ao' : AO} (e : ρ.ents[i]? = some as) (k : ∀ a o, h.get? a = some o → a ∉ as → h'.get? a = some o) (lv : ∀ a ∈ as, ∃ o, h'.get? a = some o)
    (n : Grow [] ρ h ρ h' → RO h' ρ as ao') : RelS K ρ (st.set i ao') h' ∧ Grow [] ρ h ρ h' := by
  have sub := mem_flatten_at e
  have g : Grow [] ρ h ρ h' := ⟨fun a o e _ nr => k a o e fun m => nr (sub a m), List.prefix_rfl, rfl, fun _ m => .inl m⟩
  refine ⟨⟨by rw [List.length_set]; exact R.len, fun j bs ao ej ej' => ?_, R.nodup, fun a m => ?_, fun a o q => k a o (R.top a o q) fun m => R.notK q (mem_own (sub a m)), ?_⟩, g⟩
  · by_cases hij : i = j
    · subst hij
      rw [e] at ej; cases ej
      rw [List.getElem?_set] at ej'
      simp only [if_true] at ej'
      split at ej'
      · cases ej'; exact n g
      · cases ej'
    · rw [List.getElem?_set_ne hij] at ej'
      exact (R.objs j bs ao ej ej').carry (g.carry noFr) fun a m o q => k a o q (apart_at R.nodup ej e (Ne.symm hij) a m)
  · obtain ⟨x, y, o, z⟩ := R.apart a m
    refine ⟨x, y, ?_⟩
    by_cases m' : a ∈ as
    · exact lv a m'
    · exact ⟨o, k a o z m'⟩
  · obtain ⟨mc, p, q⟩ := R.nolim
    exact ⟨mc, p.at' fun o z => k _ o z fun m => R.statics (mem_own (sub _ m)), q⟩
noncomputable def Rho.push (ρ : Rho) (as : List Addr) : Rho := ⟨ρ.ents ++ [as], ρ.rsv⟩
theorem RelS.push (R : RelS K ρ st h) {as : List Addr} {ao : AO} (k : ∀ a o, h.get? a = some o → h'.get? a = some o) (fresh : ∀ a ∈ as, h.get? a = none) (lv : ∀ a ∈ as, ∃ o, h'.get? a = some o) (nd : as.Nodup)
    (n : Grow [] ρ h (ρ.push as) h' → RO h' (ρ.push as) as ao) : RelS K (ρ.push as) (st ++ [ao]) h' ∧ Grow [] ρ h (ρ.push as) h' := by
  have fl : (ρ.push as).flatten = ρ.flatten ++ as := by unfold Rho.push Rho.flatten; simp
  have g : Grow [] ρ h (ρ.push as) h' := ⟨fun a o e _ _ => k a o e, List.prefix_append .., rfl, fun a m => by
    rw [fl] at m
    rcases List.mem_append.mp m with m | m
    · exact .inl m
    · exact .inr (.inr (fresh a m))⟩
  have nn : ∀ a ∈ as, a ∉ ρ.own := fun a m q => by obtain ⟨_, _, o, z⟩ := R.apart a q; rw [fresh a m] at z; cases z
  have no := R.nodup
  unfold Rho.own at no
  rw [List.nodup_append] at no
  refine ⟨⟨by simp [Rho.push, R.len], fun i bs ao' e e' => ?_, ?_, fun a m => ?_, R.top.keeps k, R.nolim.keeps k⟩, g⟩
  · replace e : (ρ.ents ++ [as])[i]? = some bs := e
    by_cases hi : i < ρ.ents.length
    · rw [List.getElem?_append_left hi] at e
      rw [List.getElem?_append_left (R.len ▸ hi)] at e'
      exact (R.objs i bs ao' e e').carry (g.carry noFr) fun a _ o q => k a o q
    · rw [List.getElem?_append_right (Nat.le_of_not_lt hi)] at e
      rw [List.getElem?_append_right (by rw [← R.len]; exact Nat.le_of_not_lt hi)] at e'
      have hz : i - ρ.ents.length = 0 := by
        cases q : i - ρ.ents.length with
        | zero => rfl
        | succ n => rw [q] at e; simp at e
      rw [← R.len, hz] at e'
      rw [hz] at e
      simp at e e'
      subst e e'
      exact n g
  · show ((ρ.push as).flatten ++ ρ.rsv).Nodup
    rw [fl, List.nodup_append, List.nodup_append]
    refine ⟨⟨no.1, nd, fun a m b m' q => nn b m' (q ▸ mem_own m)⟩, no.2.1, fun a m b m' q => ?_⟩
    rcases List.mem_append.mp m with m | m
    · exact no.2.2 a m b m' q
    · exact nn a m (q ▸ mem_own' m')
  · replace m : a ∈ (ρ.push as).flatten ++ ρ.rsv := m
    rw [fl] at m
    have m : a ∈ ρ.own ∨ a ∈ as := by
      rcases List.mem_append.mp m with m | m
      · rcases List.mem_append.mp m with m | m
        · exact .inl (mem_own m)
        · exact .inr m
      · exact .inl (mem_own' m)
    rcases m with m | m
    · obtain ⟨x, y, o, z⟩ := R.apart a m
      exact ⟨x, y, o, k a o z⟩
    · refine ⟨?_, ?_, lv a m⟩
      · cases q : K.lookup a with
        | none => rfl
        | some o => have := R.top a o q; rw [fresh a m] at this; cases this
      · rintro rfl
        obtain ⟨mc, ⟨o, _, _, z, _⟩, _⟩ := R.nolim
        rw [fresh _ m] at z; cases z
end
structure FI where
  env : Env
  ln : List Str
  cn : List (Str × Addr)
noncomputable def FI.fr (f : FI) : List Addr := f.env.locals :: f.cn.map (·.2)
structure ES where
  loc : List (Option PV)
  cel : List (Option PV)
  st : List AO
structure FI.Ok (f : FI) : Prop where
  kind : f.env.scope.kind = .function
  glob : f.env.globals = mainGlobals
  blt : f.env.builtins = builtinsNs
  loc : ∀ x ∈ f.ln, f.env.kindOf x = some .local
  nodup : f.ln.Nodup
structure RelF (K : Frag) (f : FI) (ρ : Rho) (es : ES) (h : Heap) : Prop where
  s : RelS K ρ es.st h
  l : NsRel h ρ f.env.locals f.ln es.loc
  c : ∀ (i : Nat) (x : Str) (a : Addr), f.cn[i]? = some (x, a) → ∃ u, h.IsCell a u ∧ RVo h ρ u ((es.cel[i]?).join)
  like : ∀ a ∈ f.fr, a ∈ ρ.rsv
  nd : f.fr.Nodup
theorem mem_cells {f : FI} {i : Nat} {x : Str} {a : Addr} (e : f.cn[i]? = some (x, a)) : a ∈ f.fr := List.mem_cons_of_mem _ (List.mem_map.mpr ⟨(x, a), List.mem_of_getElem? e, rfl⟩)
theorem RelF.carry {K : Frag} {f : FI} {ρ ρ' : Rho} {es : ES} {h h' : Heap} {st' : List AO} (R : RelF K f ρ es h) (S : RelS K ρ' st' h') (g : Carry h ρ h' ρ') (kf : ∀ a ∈ f.fr, ∀ o, h.get? a = some o → h'.get? a = some o)
    (like : ∀ a ∈ f.fr, a ∈ ρ'.rsv) : RelF K f ρ' { es with st := st' } h' := by
  refine ⟨S, R.l.carry g (kf _ (.head _)), fun i x a e => ?_, like, R.nd⟩
  obtain ⟨u, ⟨o, p, q⟩, r⟩ := R.c i x a e
  exact ⟨u, ⟨o, kf a (mem_cells e) o p, q⟩, r.carry g⟩
theorem RelF.ofS {K : Frag} {f : FI} {ρ ρ' : Rho} {es : ES} {h h' : Heap} {st' : List AO} (R : RelF K f ρ es h) (S : RelS K ρ' st' h') (g : Grow [] ρ h ρ' h') : RelF K f ρ' { es with st := st' } h' :=
  R.carry S (g.carry noFr) (fun a m o e => g.keep a o e (by simp) (rsv_apart R.s.nodup (R.like a m))) fun a m => g.rsv ▸ R.like a m
noncomputable def Same (s s' : Shared) : Prop := s'.gens = s.gens ∧ s'.drawn = s.drawn ∧ s'.os = s.os
theorem Same.refl {s : Shared} : Same s s := ⟨rfl, rfl, rfl⟩
theorem Same.trans {s s₁ s₂ : Shared} (x : Same s s₁) (y : Same s₁ s₂) : Same s s₂ := ⟨y.1.trans x.1, y.2.1.trans x.2.1, y.2.2.trans x.2.2⟩
noncomputable abbrev noE : Value → Shared → Prop := fun _ _ => False
structure AOk (b : Nat) (A : Around) : Prop where
  handled : A.handled = none
  depth : A.depth + 2 * b ≤ 900
  units : A.units + 20 * b ≤ 9000
theorem AOk.le {b b' : Nat} {A : Around} (x : AOk b A) (l : b' ≤ b) : AOk b' A := ⟨x.handled, by have := x.depth; omega, by have := x.units; omega⟩
noncomputable abbrev FM (β : Type) := ES → Option (β × ES)
noncomputable def bindE {β γ : Type} (m : FM β) (k : β → FM γ) : FM γ := fun es => match m es with
  | none => none
  | some (y, es') => k y es'
noncomputable def pureE {β : Type} (y : β) : FM β := fun es => some (y, es)
noncomputable def failE {β : Type} : FM β := fun _ => none
inductive Ends (K : Frag) (f : FI) {α β : Type} (RA : Heap → Rho → α → β → Prop) (ρ : Rho) (s : Shared) (y : β) (es' : ES) (x : α) (s' : Shared) : Prop
  | mk (ρ' : Rho) : RelF K f ρ' es' s'.heap → Grow f.fr ρ s.heap ρ' s'.heap → Same s s' → RA s'.heap ρ' x y → Ends K f RA ρ s y es' x s'
theorem Ends.tk {K : Frag} {f : FI} {α β : Type} {RA : Heap → Rho → α → β → Prop} {ρ : Rho} {s : Shared} {k : Nat} {y : β} {es' : ES} {x : α} {s' : Shared} (z : Ends K f RA ρ { s with toks := k } y es' x s') : Ends K f RA ρ s y es' x s' := by
  obtain ⟨ρ', a, b, c, d⟩ := z
  exact ⟨ρ', a, b, c, d⟩
structure Ctx0 where
  prog : Program
  w : World
  K : Frag
structure Den (c : Ctx0) (b : Nat) (f : FI) {α β : Type} (RA : Heap → Rho → α → β → Prop) (t : Sem α) (F : FM β) : Prop where
  run : ∀ A, AOk b A → ∀ ρ s es y es', F es = some (y, es') → RelF c.K f ρ es s.heap → wpAny (model c.prog c.w) A t (Ends c.K f RA ρ s y es') noE s
structure DenK (c : Ctx0) (b : Nat) (f : FI) {α β γ δ : Type} (RX : Heap → Rho → γ → δ → Prop) (RA : Heap → Rho → α → β → Prop) (t : γ → Sem α) (F : δ → FM β) : Prop where
  run : ∀ A, AOk b A → ∀ ρ s es x z y es', F z es = some (y, es') → RX s.heap ρ x z → RelF c.K f ρ es s.heap → wpAny (model c.prog c.w) A (t x) (Ends c.K f RA ρ s y es') noE s
theorem Ends.after {K : Frag} {f : FI} {α β : Type} {RA : Heap → Rho → α → β → Prop} {ρ ρ₁ : Rho} {s s₁ s₂ : Shared} {y : β} {es' : ES} {x : α}
    (g : Grow f.fr ρ s.heap ρ₁ s₁.heap) (q : Same s s₁) (z : Ends K f RA ρ₁ s₁ y es' x s₂) : Ends K f RA ρ s y es' x s₂ := by
  obtain ⟨ρ', R, g', q', r⟩ := z
  exact ⟨ρ', R, g.trans g', q.trans q', r⟩
inductive BindS {β γ : Type} (m : FM β) (k : β → FM γ) (es : ES) (r : γ × ES) : Prop
  | mk (y : β) (es' : ES) : m es = some (y, es') → k y es' = some r → BindS m k es r
theorem bindE_some {β γ : Type} {m : FM β} {k : β → FM γ} {es : ES} {r : γ × ES} (e : bindE m k es = some r) : BindS m k es r := by
  unfold bindE at e
  split at e
  · cases e
  · rename_i y es' q; exact ⟨y, es', q, e⟩
end Mine
end
section
set_option Elab.async false
set_option maxRecDepth 100000
set_option linter.unusedVariables false
set_option linter.unusedSimpArgs false
namespace Mine
open PySem PySem.Calls PySem.W PyProof.Rows
noncomputable abbrev SM (β : Type) := List AO → Option (β × List AO)
noncomputable def liftS {β : Type} (g : SM β) : FM β := fun es => match g es.st with
  | none => none
  | some (y, st) => some (y, { es with st := st })
theorem liftS_some {β : Type} {g : SM β} {es es' : ES} {y : β} (e : liftS g es = some (y, es')) : ∃ st', g es.st = some (y, st') ∧ es' = { es with st := st' } := by
  unfold liftS at e
  split at e
  · cases e
  · rename_i y' st q; cases e; exact ⟨st, q, rfl⟩
noncomputable def guardE {β : Type} (P : List AO → Bool) (m : FM β) : FM β := fun es => if P es.st then m es else none
theorem guardE_some {β : Type} {P : List AO → Bool} {m : FM β} {es : ES} {r : β × ES} (e : guardE P m es = some r) : P es.st = true ∧ m es = some r := by
  unfold guardE at e
  split at e
  · exact ⟨‹_›, e⟩
  · cases e
inductive EndsS (K : Frag) {α β : Type} (RA : Heap → Rho → α → β → Prop) (ρ : Rho) (s : Shared) (y : β) (st' : List AO) (x : α) (s' : Shared) : Prop
  | mk (ρ' : Rho) : RelS K ρ' st' s'.heap → Grow [] ρ s.heap ρ' s'.heap → Same s s' → RA s'.heap ρ' x y → EndsS K RA ρ s y st' x s'
theorem EndsS.toF {K : Frag} {f : FI} {α β : Type} {RA : Heap → Rho → α → β → Prop} {ρ : Rho} {s : Shared} {y : β} {st' : List AO} {x : α} {s' : Shared} {es : ES} (R : RelF K f ρ es s.heap)
    (z : EndsS K RA ρ s y st' x s') : Ends K f RA ρ s y { es with st := st' } x s' := by
  obtain ⟨ρ', S, g, q, r⟩ := z
  exact ⟨ρ', R.ofS S g, g.wider (by simp), q, r⟩
theorem EndsS.after {K : Frag} {α β : Type} {RA : Heap → Rho → α → β → Prop} {ρ ρ₁ : Rho} {s s₁ s₂ : Shared} {y : β} {st' : List AO} {x : α}
    (g : Grow [] ρ s.heap ρ₁ s₁.heap) (q : Same s s₁) (z : EndsS K RA ρ₁ s₁ y st' x s₂) : EndsS K RA ρ s y st' x s₂ := by
  obtain ⟨ρ', R, g', q', r⟩ := z
  exact ⟨ρ', R, g.trans g', q.trans q', r⟩
structure Op1 (c : Ctx0) (b : Nat) {α β γ δ : Type} (RX : Heap → Rho → γ → δ → Prop) (RA : Heap → Rho → α → β → Prop) (t : γ → Sem α) (G : δ → SM β) : Prop where
  run : ∀ A, AOk b A → ∀ ρ s st x z y st', G z st = some (y, st') → RX s.heap ρ x z → RelS c.K ρ st s.heap → wpAny (model c.prog c.w) A (t x) (EndsS c.K RA ρ s y st') noE s
structure Op2 (c : Ctx0) (b : Nat) {α β : Type} (RA : Heap → Rho → α → β → Prop) (t : Value → Value → Sem α) (G : PV → PV → SM β) : Prop where
  run : ∀ A, AOk b A → ∀ ρ s st x₁ z₁ x₂ z₂ y st', G z₁ z₂ st = some (y, st') → RV s.heap ρ x₁ z₁ → RV s.heap ρ x₂ z₂ → RelS c.K ρ st s.heap → wpAny (model c.prog c.w) A (t x₁ x₂) (EndsS c.K RA ρ s y st') noE s
structure Op3 (c : Ctx0) (b : Nat) {α β : Type} (RA : Heap → Rho → α → β → Prop) (t : Value → Value → Value → Sem α) (G : PV → PV → PV → SM β) : Prop where
  run : ∀ A, AOk b A → ∀ ρ s st x₁ z₁ x₂ z₂ x₃ z₃ y st', G z₁ z₂ z₃ st = some (y, st') → RV s.heap ρ x₁ z₁ → RV s.heap ρ x₂ z₂ → RV s.heap ρ x₃ z₃ → RelS c.K ρ st s.heap →
    wpAny (model c.prog c.w) A (t x₁ x₂ x₃) (EndsS c.K RA ρ s y st') noE s
noncomputable abbrev RB (_ : Heap) (_ : Rho) (x y : Bool) : Prop := x = y
noncomputable abbrev RU (_ : Heap) (_ : Rho) (_ : Unit) (_ : Unit) : Prop := True
theorem Op1.k {c : Ctx0} {b : Nat} {f : FI} {α β γ δ : Type} {RX : Heap → Rho → γ → δ → Prop} {RA : Heap → Rho → α → β → Prop} {t : γ → Sem α} {G : δ → SM β} (o : Op1 c b RX RA t G) : DenK c b f RX RA t fun z => liftS (G z) := by
  constructor
  intro A hA ρ s es x z y es' e r R
  obtain ⟨st', e', rfl⟩ := liftS_some e
  exact wpAny_mono (o.run A hA ρ s es.st x z y st' e' r R.s) (fun _ _ q => q.toF R) fun _ _ q => q
section
variable {c : Ctx0} {b : Nat} {f : FI}
noncomputable def getL (i : Nat) : FM PV := fun es => match (es.loc[i]?).join with
  | some v => some (v, es)
  | none => none
noncomputable def getC (i : Nat) : FM PV := fun es => match (es.cel[i]?).join with
  | some v => some (v, es)
  | none => none
theorem rvo_some {h : Heap} {ρ : Rho} {u : Option Value} {p : PV} (r : RVo h ρ u (some p)) : ∃ v, u = some v ∧ RV h ρ v p := by cases r; exact ⟨_, rfl, ‹_›⟩
theorem Ends.here {K : Frag} {α β : Type} {RA : Heap → Rho → α → β → Prop} {ρ : Rho} {s : Shared} {es : ES} {x : α} {y : β} (R : RelF K f ρ es s.heap) (r : RA s.heap ρ x y) : Ends K f RA ρ s y es x s :=
  ⟨ρ, R, .refl, .refl, r⟩
theorem Ends.tok {K : Frag} {α β : Type} {RA : Heap → Rho → α → β → Prop} {ρ : Rho} {s : Shared} {es : ES} {x : α} {y : β} {tk : Nat} (R : RelF K f ρ es s.heap) (r : RA s.heap ρ x y) : Ends K f RA ρ s y es x { s with toks := tk } :=
  ⟨ρ, R, .refl, ⟨rfl, rfl, rfl⟩, r⟩
theorem EndsS.here {K : Frag} {α β : Type} {RA : Heap → Rho → α → β → Prop} {ρ : Rho} {s : Shared} {st : List AO} {x : α} {y : β} (R : RelS K ρ st s.heap) (r : RA s.heap ρ x y) : EndsS K RA ρ s y st x s :=
  ⟨ρ, R, .refl, .refl, r⟩
theorem EndsS.tok {K : Frag} {α β : Type} {RA : Heap → Rho → α → β → Prop} {ρ : Rho} {s : Shared} {st : List AO} {x : α} {y : β} {tk : Nat} (R : RelS K ρ st s.heap) (r : RA s.heap ρ x y) : EndsS K RA ρ s y st x { s with toks := tk } :=
  ⟨ρ, R, .refl, ⟨rfl, rfl, rfl⟩, r⟩
theorem den_local {x : Str} {pos : Pos} {i : Nat} (ok : f.Ok) (hx : f.ln[i]? = some x) (hd : (x == ("__debug__" : Str)) = false := by decide) : Den c b f RV (eval (.Name x pos) f.env) (getL i) := by
  constructor
  intro A hA ρ s es y es' e R
  unfold getL at e
  split at e
  · rename_i v q
    cases e
    obtain ⟨m, n, l, _⟩ := R.l
    have := l i x hx
    rw [q] at this
    obtain ⟨u, hu, r⟩ := rvo_some this
    exact wpAny_Name (wpAny_loadName_local ok.kind (ok.loc x (List.mem_of_getElem? hx)) n hu (Ends.here R r)) hd
  · cases e
theorem den_cell {x : Str} {pos : Pos} {i : Nat} {a : Addr} (ok : f.Ok) (hx : f.cn[i]? = some (x, a)) (hc : f.env.cells.lookup x = some a) (hk : f.env.kindOf x = some .cell ∨ f.env.kindOf x = some .free) (hd : (x == ("__debug__" : Str)) = false := by decide)
    (hn : (x == ("__classdict__" : Str)) = false := by decide) : Den c b f RV (eval (.Name x pos) f.env) (getC i) := by
  constructor
  intro A hA ρ s es y es' e R
  unfold getC at e
  split at e
  · rename_i v q
    cases e
    obtain ⟨u, hu, r⟩ := R.c i x a hx
    rw [q] at r
    obtain ⟨u, rfl, r'⟩ := rvo_some r
    refine wpAny_Name ?_ hd
    rcases hk with hk | hk
    · exact wpAny_loadName_cell ok.kind hk hc hu (Ends.here R r')
    · exact wpAny_loadName_free ok.kind hk hc hu (Ends.here R r') hn
  · cases e
theorem loads_global {A : Around} {s : Shared} {x : Str} {v : Value} {Q : Value → Shared → Prop} (ok : f.Ok) (X : c.K.In s.heap) (hx : f.env.kindOf x = some .globalImplicit) (hv : nsIn c.K mainGlobals x = some (some v)) (h : Q v s) {E : Value → Shared → Prop} :
    wpAny (model c.prog c.w) A (loadName f.env x) Q E s := by
  unfold loadName
  have hk := ok.kind
  simp only [Env.blockKind, hk, hx, ScopeKind.isAnnotationScope, Bool.false_and, Bool.false_eq_true, if_false]
  unfold loadGlobal
  rw [ok.glob]
  exact wpAny_bind ((looks_nsIn X hv).here (wpAny_pure h))
theorem loads_builtin {A : Around} {s : Shared} {x : Str} {v : Value} {Q : Value → Shared → Prop} (ok : f.Ok) (X : c.K.In s.heap) (hx : f.env.kindOf x = some .globalImplicit) (hn : nsIn c.K mainGlobals x = some none)
    (hv : nsIn c.K builtinsNs x = some (some v)) (h : Q v s) {E : Value → Shared → Prop} : wpAny (model c.prog c.w) A (loadName f.env x) Q E s := by
  unfold loadName
  have hk := ok.kind
  simp only [Env.blockKind, hk, hx, ScopeKind.isAnnotationScope, Bool.false_and, Bool.false_eq_true, if_false]
  unfold loadGlobal
  rw [ok.glob, ok.blt]
  exact wpAny_bind ((looks_nsIn X hn).here (wpAny_bind ((looks_nsIn X hv).here (wpAny_pure h))))
theorem den_global {x : Str} {pos : Pos} {v : Value} (ok : f.Ok) (hx : f.env.kindOf x = some .globalImplicit) (hv : nsIn c.K mainGlobals x = some (some v)) (hd : (x == ("__debug__" : Str)) = false := by decide) :
    Den c b f RV (eval (.Name x pos) f.env) (pureE (.raw v)) := by
  constructor
  intro A hA ρ s es y es' e R
  cases e
  exact wpAny_Name (loads_global ok R.s.top hx hv (Ends.here R (.raw v))) hd
theorem den_builtin {x : Str} {pos : Pos} {v : Value} (ok : f.Ok) (hx : f.env.kindOf x = some .globalImplicit) (hn : nsIn c.K mainGlobals x = some none) (hv : nsIn c.K builtinsNs x = some (some v)) (hd : (x == ("__debug__" : Str)) = false := by decide) :
    Den c b f RV (eval (.Name x pos) f.env) (pureE (.raw v)) := by
  constructor
  intro A hA ρ s es y es' e R
  cases e
  exact wpAny_Name (loads_builtin ok R.s.top hx hn hv (Ends.here R (.raw v))) hd
theorem den_none {k : Nat} {pos : Pos} : Den c b f RV (eval (.Constant .none k pos) f.env) (pureE .none) := by
  constructor
  intro A hA ρ s es y es' e R
  cases e
  exact wpAny_pure (Ends.here R .none)
theorem den_bool {v : Bool} {k : Nat} {pos : Pos} : Den c b f RV (eval (.Constant (.bool v) k pos) f.env) (pureE (.bool v)) := by
  constructor
  intro A hA ρ s es y es' e R
  cases e
  exact wpAny_pure (Ends.here R (.bool v))
theorem den_int {v : Int} {k : Nat} {pos : Pos} : Den c b f RV (eval (.Constant (.int v) k pos) f.env) (pureE (.int v)) := by
  constructor
  intro A hA ρ s es y es' e R
  cases e
  exact wpAny_Constant_int (Ends.tok R (.int v _))
theorem den_str {v : Str} {k : Nat} {pos : Pos} : Den c b f RV (eval (.Constant (.str v) k pos) f.env) (pureE (.str v)) := by
  constructor
  intro A hA ρ s es y es' e R
  cases e
  exact wpAny_Constant_str (Ends.tok R (.str v _))
theorem two_then {α β : Type} {RA : Heap → Rho → α → β → Prop} {t₁ t₂ : Sem Value} {F₁ F₂ : FM PV} {op : Value → Value → Sem α} {G : PV → PV → SM β} (d₁ : Den c b f RV t₁ F₁) (d₂ : Den c b f RV t₂ F₂) (o : Op2 c b RA op G)
    {A : Around} (hA : AOk b A) {ρ : Rho} {s : Shared} {es es' : ES} {y : β} (e : bindE F₁ (fun p => bindE F₂ fun q => liftS (G p q)) es = some (y, es')) (R : RelF c.K f ρ es s.heap) :
    wpAny (model c.prog c.w) A t₁ (fun a s₁ => wpAny (model c.prog c.w) A t₂ (fun v s₂ => wpAny (model c.prog c.w) A (op a v) (Ends c.K f RA ρ s y es') noE s₂) noE s₁) noE s := by
  obtain ⟨p, es₁, e1, e⟩ := bindE_some e
  obtain ⟨q, es₂, e2, e⟩ := bindE_some e
  obtain ⟨st', e3, rfl⟩ := liftS_some e
  refine wpAny_mono (d₁.run A hA ρ s es p es₁ e1 R) (fun a s₁ z => ?_) fun _ _ z => z
  obtain ⟨ρ₁, R₁, g₁, q₁, r₁⟩ := z
  refine wpAny_mono (d₂.run A hA ρ₁ s₁ es₁ q es₂ e2 R₁) (fun v s₂ z => ?_) fun _ _ z => z
  obtain ⟨ρ₂, R₂, g₂, q₂, r₂⟩ := z
  refine wpAny_mono (o.run A hA ρ₂ s₂ es₂.st a p v q y st' e3 (r₁.grow g₂ R₁.like) r₂ R₂.s) (fun x s₃ z => ?_) fun _ _ z => z
  exact ((z.toF R₂).after g₂ q₂).after g₁ q₁
theorem den_binop {l r : Expr} {op : Operator} {pos : Pos} {F₁ F₂ : FM PV} {G : PV → PV → SM PV} (d₁ : Den c b f RV (eval l f.env) F₁) (d₂ : Den c b f RV (eval r f.env) F₂) (o : Op2 c b RV (binaryOp op) G) :
    Den c b f RV (eval (.BinOp l op r pos) f.env) (bindE F₁ fun p => bindE F₂ fun q => liftS (G p q)) :=
  ⟨fun A hA ρ s es y es' e R => wpAny_BinOp (two_then d₁ d₂ o hA e R)⟩
theorem den_compare {l r : Expr} {op : CmpOp} {pos : Pos} {F₁ F₂ : FM PV} {G : PV → PV → SM PV} (d₁ : Den c b f RV (eval l f.env) F₁) (d₂ : Den c b f RV (eval r f.env) F₂) (o : Op2 c b RV (compareOp op) G)
    (hm : behindInMarks op r = false := by with_unfolding_all rfl) :
    Den c b f RV (eval (.Compare l [op] [r] pos) f.env) (bindE F₁ fun p => bindE F₂ fun q => liftS (G p q)) :=
  ⟨fun A hA ρ s es y es' e R => wpAny_Compare1 (two_then d₁ d₂ o hA e R) hm⟩
theorem den_unary {x : Expr} {op : UnaryOp} {pos : Pos} {F : FM PV} {G : PV → SM PV} (d : Den c b f RV (eval x f.env) F) (o : Op1 c b RV RV (unaryOp op) G) : Den c b f RV (eval (.UnaryOp op x pos) f.env) (bindE F fun p => liftS (G p)) := by
  constructor
  intro A hA ρ s es y es' e R
  obtain ⟨p, es₁, e1, e⟩ := bindE_some e
  refine wpAny_UnaryOp (wpAny_mono (d.run A hA ρ s es p es₁ e1 R) (fun a s₁ z => ?_) fun _ _ z => z)
  obtain ⟨ρ₁, R₁, g₁, q₁, r₁⟩ := z
  exact wpAny_mono ((Op1.k o).run A hA ρ₁ s₁ es₁ a p y es' e r₁ R₁) (fun _ _ z => z.after g₁ q₁) fun _ _ z => z
end
end Mine
end
section
set_option Elab.async false
set_option maxRecDepth 100000
set_option linter.unusedVariables false
set_option linter.unusedSimpArgs false
namespace Mine
open PySem PySem.Calls PySem.W PyProof.Rows
section
variable {c : Ctx0} {b : Nat} {f : FI}
noncomputable def subI (p q : PV) : SM PV := fun st => match p, q with | .int i, .int j => some (.int (i - j), st) | _, _ => none
noncomputable def divI (p q : PV) : SM PV := fun st => match p, q with | .int i, .int j => if j ≠ 0 ∧ j.natAbs < 1000000000 then some (.int (i.fdiv j), st) else none | _, _ => none
noncomputable def modI (p q : PV) : SM PV := fun st => match p, q with | .int i, .int j => if j ≠ 0 then some (.int (i.fmod j), st) else none | _, _ => none
noncomputable def powI (p q : PV) : SM PV := fun st => match p, q with | .int i, .int j => if 0 ≤ j ∧ j ≤ 1000000 ∧ i.natAbs < 2 ^ 64 then some (.int (i ^ j.toNat), st) else none | _, _ => none
noncomputable def andI (p q : PV) : SM PV := fun st => match p, q with | .int i, .int j => some (.int (Builtin.bitAnd i j), st) | _, _ => none
noncomputable def orI (p q : PV) : SM PV := fun st => match p, q with | .int i, .int j => some (.int (Builtin.bitOr i j), st) | _, _ => none
noncomputable def xorI (p q : PV) : SM PV := fun st => match p, q with | .int i, .int j => some (.int (Builtin.bitXor i j), st) | _, _ => none
noncomputable def negI (p : PV) : SM PV := fun st => match p with | .int i => some (.int (-i), st) | _ => none
theorem op_subI : Op2 c b RV (binaryOp .Sub) subI := by
  constructor
  intro A hA ρ s st x z x' z' y st' e r r' R
  unfold subI at e; split at e <;> (first | obtain ⟨rfl, rfl⟩ := spr e | exact (nos e).elim | obtain rfl := Option.some.inj e | cases e)
  obtain ⟨_, rfl⟩ := r.inv; obtain ⟨_, rfl⟩ := r'.inv
  exact PyProof.Rows.sub_int (EndsS.tok R (.int _ _))
theorem op_divI : Op2 c b RV (binaryOp .FloorDiv) divI := by
  constructor
  intro A hA ρ s st x z x' z' y st' e r r' R
  unfold divI at e; split at e <;> try (first | obtain ⟨rfl, rfl⟩ := spr e | exact (nos e).elim | obtain rfl := Option.some.inj e | cases e)
  split at e <;> (first | obtain ⟨rfl, rfl⟩ := spr e | exact (nos e).elim | obtain rfl := Option.some.inj e | cases e)
  rename_i hb
  obtain ⟨_, rfl⟩ := r.inv; obtain ⟨_, rfl⟩ := r'.inv
  exact PyProof.Rows.floordiv_int hb.1 (EndsS.tok R (.int _ _)) (.inl (PyProof.noPylong_small (by omega)))
theorem op_modI : Op2 c b RV (binaryOp .Mod) modI := by
  constructor
  intro A hA ρ s st x z x' z' y st' e r r' R
  unfold modI at e; split at e <;> try (first | obtain ⟨rfl, rfl⟩ := spr e | exact (nos e).elim | obtain rfl := Option.some.inj e | cases e)
  split at e <;> (first | obtain ⟨rfl, rfl⟩ := spr e | exact (nos e).elim | obtain rfl := Option.some.inj e | cases e)
  rename_i hb
  obtain ⟨_, rfl⟩ := r.inv; obtain ⟨_, rfl⟩ := r'.inv
  exact PyProof.Rows.mod_int' hb (EndsS.tok R (.int _ _))
theorem op_powI : Op2 c b RV (binaryOp .Pow) powI := by
  constructor
  intro A hA ρ s st x z x' z' y st' e r r' R
  unfold powI at e; split at e <;> try (first | obtain ⟨rfl, rfl⟩ := spr e | exact (nos e).elim | obtain rfl := Option.some.inj e | cases e)
  split at e <;> (first | obtain ⟨rfl, rfl⟩ := spr e | exact (nos e).elim | obtain rfl := Option.some.inj e | cases e)
  rename_i hb
  obtain ⟨_, rfl⟩ := r.inv; obtain ⟨_, rfl⟩ := r'.inv
  exact PyProof.Rows.pow_int_small hb.1 hb.2.1 hb.2.2 (EndsS.tok R (.int _ _))
theorem op_andI : Op2 c b RV (binaryOp .BitAnd) andI := by
  constructor
  intro A hA ρ s st x z x' z' y st' e r r' R
  unfold andI at e; split at e <;> (first | obtain ⟨rfl, rfl⟩ := spr e | exact (nos e).elim | obtain rfl := Option.some.inj e | cases e)
  obtain ⟨_, rfl⟩ := r.inv; obtain ⟨_, rfl⟩ := r'.inv
  exact PyProof.Rows.and_int (EndsS.tok R (.int _ _))
theorem op_negI : Op1 c b RV RV (unaryOp .USub) negI := by
  constructor
  intro A hA ρ s st x z y st' e r R
  unfold negI at e; split at e <;> (first | obtain ⟨rfl, rfl⟩ := spr e | exact (nos e).elim | obtain rfl := Option.some.inj e | cases e)
  cases r
  exact PyProof.Rows.neg_int (EndsS.tok R (.int _ _))
noncomputable def gtI (p q : PV) : SM PV := fun st => match p, q with | .int i, .int j => some (.bool (decide (j < i)), st) | _, _ => none
theorem op_gtI : Op2 c b RV (compareOp .Gt) gtI := by
  constructor
  intro A hA ρ s st x z x' z' y st' e r r' R
  unfold gtI at e; split at e <;> (first | obtain ⟨rfl, rfl⟩ := spr e | exact (nos e).elim | obtain rfl := Option.some.inj e | cases e)
  obtain ⟨_, rfl⟩ := r.inv; obtain ⟨_, rfl⟩ := r'.inv
  exact PyProof.Rows.gt_int (EndsS.here R (.bool _))
noncomputable def eqS (p q : PV) : SM PV := fun st => match p, q with | .str i, .str j => some (.bool (i == j), st) | _, _ => none
theorem op_eqS : Op2 c b RV (compareOp .Eq) eqS := by
  constructor
  intro A hA ρ s st x z x' z' y st' e r r' R
  unfold eqS at e; split at e <;> (first | obtain ⟨rfl, rfl⟩ := spr e | exact (nos e).elim | obtain rfl := Option.some.inj e | cases e)
  obtain ⟨_, rfl⟩ := r.inv; obtain ⟨_, rfl⟩ := r'.inv
  exact PyProof.Rows.eq_str (EndsS.here R (.bool _))
noncomputable def inS (p q : PV) : SM PV := fun st => match p, q with | .str y, .str x => some (.bool !(Builtin.Str.occurrences x y 0 x.length 1).isEmpty, st) | _, _ => none
theorem op_inS : Op2 c b RV (compareOp .In) inS := by
  constructor
  intro A hA ρ s st x z x' z' y st' e r r' R
  unfold inS at e; split at e <;> (first | obtain ⟨rfl, rfl⟩ := spr e | exact (nos e).elim | obtain rfl := Option.some.inj e | cases e)
  obtain ⟨_, rfl⟩ := r.inv; obtain ⟨_, rfl⟩ := r'.inv
  exact PyProof.Rows.in_str (EndsS.here R (.bool _))
noncomputable def isNoneP : PV → Option Bool
  | .none => some true
  | .raw _ => none
  | _ => some false
noncomputable def isNotNone (p q : PV) : SM PV := fun st => match isNoneP p, q with | some t, .none => some (.bool !t, st) | _, _ => none
theorem isNoneP_of {h : Heap} {ρ : Rho} {v : Value} {p : PV} {t : Bool} (r : RV h ρ v p) (e : isNoneP p = some t) : (v == Value.none) = t := by
  cases r <;> cases e <;> rfl
theorem op_isNotNone : Op2 c b RV (compareOp .IsNot) isNotNone := by
  constructor
  intro A hA ρ s st x z x' z' y st' e r r' R
  unfold isNotNone at e; split at e <;> (first | obtain ⟨rfl, rfl⟩ := spr e | exact (nos e).elim | obtain rfl := Option.some.inj e | cases e)
  rename_i t q
  (first | obtain ⟨_, rfl⟩ := r'.inv | cases r')
  refine PySem.isNot_none ?_
  rw [isNoneP_of r q]
  exact EndsS.here R (.bool _)
noncomputable def truthG (p : PV) : SM Bool := fun st => match p with
  | .none => some (false, st)
  | .bool t => some (t, st)
  | .int i => some (i != 0, st)
  | .str x => if x.length ≤ sizeLine then some ((x.length : Int) != 0, st) else none
  | .ref i => (match st[i]? with
    | some (.list xs) => if xs.length ≤ sizeLine then some (!xs.isEmpty, st) else none
    | _ => none)
  | .lst xs => if xs.length ≤ sizeLine then some (!xs.isEmpty, st) else none
  | _ => none
noncomputable def items? (st : List AO) (p : PV) : Option (List PV) := match p with
  | .lst xs => some xs
  | .ref i => (match st[i]? with
    | some (.list xs) => some xs
    | _ => none)
  | _ => none
theorem headAt_some {ρ : Rho} {i : Nat} {a : Addr} (e : headAt ρ i = some a) : ∃ r, ρ.ents[i]? = some (a :: r) := by
  unfold headAt at e
  split at e
  · rename_i x y q; (first | obtain ⟨rfl, rfl⟩ := spr e | exact (nos e).elim | obtain rfl := Option.some.inj e | cases e); exact ⟨y, q⟩
  · (first | obtain ⟨rfl, rfl⟩ := spr e | exact (nos e).elim | obtain rfl := Option.some.inj e | cases e)
theorem isList_of {h : Heap} {a : Addr} {vs : Array Value} {n : Nat} (e : h.get? a = some { cls := .type "list", data := .seq vs n }) : h.IsList a vs := ⟨_, e, rfl, n, rfl⟩
theorem isL {h : Heap} {a : Addr} {vs : Array Value} (p : h.PlainList a vs) : h.IsList a vs := by obtain ⟨n, e⟩ := p; exact ⟨_, e, rfl, n, rfl⟩
theorem items_of {K : Frag} {ρ : Rho} {st : List AO} {h : Heap} (R : RelS K ρ st h) {v : Value} {p : PV} {xs : List PV} (r : RV h ρ v p) (e : items? st p = some xs) :
    ∃ a vs, P3 (v = .ref a) (h.PlainList a vs) (RVs h ρ vs.toList xs) := by
  unfold items? at e
  split at e
  · (first | obtain ⟨rfl, rfl⟩ := spr e | exact (nos e).elim | obtain rfl := Option.some.inj e | cases e); cases r with | lst na q z => exact ⟨_, _, rfl, q, by simpa using z⟩
  · rename_i i
    split at e
    · rename_i ys q
      (first | obtain ⟨rfl, rfl⟩ := spr e | exact (nos e).elim | obtain rfl := Option.some.inj e | cases e)
      cases r with
      | ref z =>
        obtain ⟨r, hr⟩ := headAt_some z
        obtain ⟨a', vs, n, e1, e2, e3⟩ := R.objs i _ _ hr q
        (first | obtain ⟨rfl, rfl⟩ := spr e1 | exact (nos e1).elim | obtain rfl := Option.some.inj e1 | cases e1)
        exact ⟨_, vs, rfl, ⟨n, e2⟩, e3⟩
    · (first | obtain ⟨rfl, rfl⟩ := spr e | exact (nos e).elim | obtain rfl := Option.some.inj e | cases e)
  · (first | obtain ⟨rfl, rfl⟩ := spr e | exact (nos e).elim | obtain rfl := Option.some.inj e | cases e)
theorem isEmpty_of {vs : Array Value} {xs : List PV} (h : vs.size = xs.length) : vs.isEmpty = xs.isEmpty := by
  rw [Bool.eq_iff_iff, Array.isEmpty_iff_size_eq_zero, List.isEmpty_iff_length_eq_zero, h]
theorem op_truth : Op1 c b RV RB truthy truthG := by
  constructor
  intro A hA ρ s st x z y st' e r R
  have L : ∀ xs, items? st z = some xs → (if xs.length ≤ sizeLine then some (!xs.isEmpty, st) else none) = some (y, st') → wpAny (model c.prog c.w) A (truthy x) (EndsS c.K RB ρ s y st') noE s := by
    intro xs hx e
    obtain ⟨a, vs, rfl, e1, e2⟩ := items_of R r hx
    split at e
    · rename_i hz
      (first | obtain ⟨rfl, rfl⟩ := spr e | exact (nos e).elim | obtain rfl := Option.some.inj e | cases e)
      have hl := e2.length
      rw [Array.length_toList] at hl
      refine wpAny_truthy_list (isL e1) (by rw [hl]; rw [sizeLine_eq] at hz; omega) ?_
      rw [isEmpty_of hl]
      exact EndsS.tok R rfl
    · (first | obtain ⟨rfl, rfl⟩ := spr e | exact (nos e).elim | obtain rfl := Option.some.inj e | cases e)
  unfold truthG at e
  split at e
  · (first | obtain ⟨rfl, rfl⟩ := spr e | exact (nos e).elim | obtain rfl := Option.some.inj e | cases e); obtain ⟨_, rfl⟩ := r.inv; exact PyProof.Rows.truthy_none (EndsS.here R rfl)
  · (first | obtain ⟨rfl, rfl⟩ := spr e | exact (nos e).elim | obtain rfl := Option.some.inj e | cases e); obtain ⟨_, rfl⟩ := r.inv; exact wpAny_truthy_bool (EndsS.here R rfl)
  · (first | obtain ⟨rfl, rfl⟩ := spr e | exact (nos e).elim | obtain rfl := Option.some.inj e | cases e); obtain ⟨_, rfl⟩ := r.inv; exact PyProof.Rows.truthy_int (EndsS.here R rfl)
  · split at e
    · rename_i hz
      (first | obtain ⟨rfl, rfl⟩ := spr e | exact (nos e).elim | obtain rfl := Option.some.inj e | cases e); cases r
      refine PySem.P.truthy_str (by rw [sizeLine_eq] at hz; omega) (EndsS.tok R rfl)
    · (first | obtain ⟨rfl, rfl⟩ := spr e | exact (nos e).elim | obtain rfl := Option.some.inj e | cases e)
  · rename_i i
    split at e
    · rename_i xs q
      exact L xs (by simp [items?, q]) e
    · (first | obtain ⟨rfl, rfl⟩ := spr e | exact (nos e).elim | obtain rfl := Option.some.inj e | cases e)
  · exact L _ rfl e
  · (first | obtain ⟨rfl, rfl⟩ := spr e | exact (nos e).elim | obtain rfl := Option.some.inj e | cases e)
end
end Mine
end
section
set_option Elab.async false
set_option maxRecDepth 100000
set_option linter.unusedVariables false
set_option linter.unusedSimpArgs false
namespace Mine
open PySem PySem.Calls PySem.W PyProof.Rows
inductive PF where
  | next | brk | cont
  | ret (p : PV)
inductive RFl (h : Heap) (ρ : Rho) : Flow → PF → Prop
  | next : RFl h ρ .next .next
  | brk : RFl h ρ .brk .brk
  | cont : RFl h ρ .cont .cont
  | ret {v : Value} {p : PV} : RV h ρ v p → RFl h ρ (.ret v) (.ret p)
section
variable {c : Ctx0} {b : Nat} {f : FI}
noncomputable def notStarred : Expr → Bool
  | .Starred .. => false
  | _ => true
theorem starEach_of {x : Expr} {rest : List Expr} {env : Env} (h : notStarred x = true) : starEach (x :: rest) env = (false, eval x env) :: starEach rest env := by
  cases x <;> first | rfl | cases h
theorem starEach_plain {env : Env} {pos : Pos} : ∀ {args : List Expr}, args.all notStarred = true → (backTo pos (starEach args env)).all (fun x => !x.1) = true
  | [], _ => rfl
  | x :: r, h => by
    rw [List.all_cons, Bool.and_eq_true] at h
    rw [starEach_of h.1]
    show ((!false) && (backTo pos (starEach r env)).all (fun x => !x.1)) = true
    rw [starEach_plain h.2]; rfl
noncomputable def notSuper : Expr → Bool
  | .Call (.Name id _) [] [] _ => id != ("super" : Str)
  | _ => true
theorem attributeBase_of {o : Expr} {name : Str} {env : Env} {whole : Sem Value} (h : notSuper o = true) : attributeBase o name env whole = whole := by
  unfold attributeBase
  split
  · rename_i id _ pos
    have : (id != ("super" : Str)) = true := h
    rw [if_pos (by simp only [this, Bool.true_or])]
  · rfl
noncomputable def iteE {β : Type} (m : FM Bool) (x y : FM β) : FM β := bindE m fun t => if t then x else y
theorem iteE_some {β : Type} {m : FM Bool} {x y : FM β} {es : ES} {r : β × ES} (e : iteE m x y es = some r) : BindS m (fun t => if t then x else y) es r := bindE_some e
noncomputable def plainTest : Expr → Bool
  | .UnaryOp .Not _ _ | .BoolOp .. | .IfExp .. | .Compare .. => false
  | _ => true
theorem isTrue_of_plain {e : Expr} (h : plainTest e = true) {env : Env} {whole : Sem Value} : isTrue e env whole = (do let v ← whole; standAt e.pos; holding [v] (truthy v)) := by
  cases e <;> first | rfl | cases h | skip
  rename_i op x pos
  cases op <;> first | rfl | cases h
theorem dent_value {e : Expr} {F : FM PV} (d : Den c b f RV (eval e f.env) F) (he : plainTest e = true := by rfl) :
    Den c b f RB (isTrue e f.env (eval e f.env)) (bindE F fun p => liftS (truthG p)) := by
  constructor
  intro A hA ρ s es y es' e' R
  obtain ⟨p, es₁, e1, e2⟩ := bindE_some e'
  refine wpAny_isTrue_value (wpAny_mono (d.run A hA ρ s es p es₁ e1 R) (fun v s₁ z => ?_) fun _ _ z => z) (isTrue_of_plain he)
  obtain ⟨ρ₁, R₁, g₁, q₁, r₁⟩ := z
  exact wpAny_mono ((Op1.k op_truth).run A hA ρ₁ s₁ es₁ v p y es' e2 r₁ R₁) (fun _ _ z => z.after g₁ q₁) fun _ _ z => z
theorem dent_not {x : Expr} {pos : Pos} {F : FM Bool} (d : Den c b f RB (isTrue x f.env (eval x f.env)) F) : Den c b f RB (isTrue (.UnaryOp .Not x pos) f.env (eval (.UnaryOp .Not x pos) f.env)) (bindE F fun t => pureE !t) := by
  constructor
  intro A hA ρ s es y es' e R
  obtain ⟨p, es₁, e1, e2⟩ := bindE_some e
  cases e2
  refine wpAny_isTrue_Not (wpAny_mono (d.run A hA ρ s es p es' e1 R) (fun v s₁ z => ?_) fun _ _ z => z)
  obtain ⟨ρ₁, R₁, g₁, q₁, rfl⟩ := z
  exact ⟨ρ₁, R₁, g₁, q₁, rfl⟩
theorem dent_compare {l r : Expr} {op : CmpOp} {pos : Pos} {F₁ F₂ : FM PV} {G : PV → PV → SM PV} (d₁ : Den c b f RV (eval l f.env) F₁) (d₂ : Den c b f RV (eval r f.env) F₂) (o : Op2 c b RV (compareOp op) G)
    (hm : behindInMarks op r = false := by rfl) :
    Den c b f RB (isTrue (.Compare l [op] [r] pos) f.env (eval (.Compare l [op] [r] pos) f.env)) (bindE (bindE F₁ fun p => bindE F₂ fun q => liftS (G p q)) fun p => liftS (truthG p)) := by
  constructor
  intro A hA ρ s es y es' e R
  obtain ⟨p, es₁, e1, e2⟩ := bindE_some e
  refine wpAny_isTrue_Compare1 ?_ hm
  refine wpAny_mono (two_then d₁ d₂ o hA e1 R) (fun a s₁ z => wpAny_mono z (fun v s₂ z => wpAny_mono z (fun r s₃ z => ?_) fun _ _ z => z) fun _ _ z => z) fun _ _ z => z
  obtain ⟨ρ₁, R₁, g₁, q₁, r₁⟩ := z
  exact wpAny_mono ((Op1.k op_truth).run A hA ρ₁ s₃ es₁ r p y es' e2 r₁ R₁) (fun _ _ z => z.after g₁ q₁) fun _ _ z => z
theorem dent_all_nil {op : BoolOp} : Den c b f RB (allTrue op [] f.env) (pureE (op == .And)) := by
  constructor
  intro A hA ρ s es y es' e R
  (first | obtain ⟨rfl, rfl⟩ := spr e | exact (nos e).elim | obtain rfl := Option.some.inj e | cases e)
  exact wpAny_pure (Ends.here R rfl)
theorem dent_and_cons {x : Expr} {rest : List Expr} {F G : FM Bool} (d : Den c b f RB (isTrue x f.env (eval x f.env)) F) (d' : Den c b f RB (allTrue .And rest f.env) G) : Den c b f RB (allTrue .And (x :: rest) f.env) (iteE F G (pureE false)) := by
  constructor
  intro A hA ρ s es y es' e R
  obtain ⟨t, es₁, e1, e2⟩ := iteE_some e
  refine wpAny_allTrue_And_cons (wpAny_mono (d.run A hA ρ s es t es₁ e1 R) (fun v s₁ z => ?_) fun _ _ z => z)
  obtain ⟨ρ₁, R₁, g₁, q₁, rfl⟩ := z
  cases v with
  | true => exact wpAny_mono (d'.run A hA ρ₁ s₁ es₁ y es' e2 R₁) (fun _ _ z => z.after g₁ q₁) fun _ _ z => z
  | false => (first | obtain ⟨rfl, rfl⟩ := spr e2 | exact (nos e2).elim | obtain rfl := Option.some.inj e2 | cases e2); exact ⟨ρ₁, R₁, g₁, q₁, rfl⟩
theorem dent_boolop {op : BoolOp} {values : List Expr} {pos : Pos} {F : FM Bool} (d : Den c b f RB (allTrue op values f.env) F) : Den c b f RB (isTrue (.BoolOp op values pos) f.env (eval (.BoolOp op values pos) f.env)) F :=
  ⟨fun A hA ρ s es y es' e R => wpAny_isTrue_BoolOp (d.run A hA ρ s es y es' e R)⟩
theorem den_ifexp {t x y : Expr} {pos : Pos} {T : FM Bool} {X Y : FM PV} (dt : Den c b f RB (isTrue t f.env (eval t f.env)) T) (dx : Den c b f RV (eval x f.env) X) (dy : Den c b f RV (eval y f.env) Y) :
    Den c b f RV (eval (.IfExp t x y pos) f.env) (iteE T X Y) := by
  constructor
  intro A hA ρ s es r es' e R
  obtain ⟨t, es₁, e1, e2⟩ := iteE_some e
  refine wpAny_IfExp (wpAny_mono (dt.run A hA ρ s es t es₁ e1 R) (fun v s₁ z => ?_) fun _ _ z => z)
  obtain ⟨ρ₁, R₁, g₁, q₁, rfl⟩ := z
  cases v with
  | true => exact wpAny_mono (dx.run A hA ρ₁ s₁ es₁ r es' e2 R₁) (fun _ _ z => z.after g₁ q₁) fun _ _ z => z
  | false => exact wpAny_mono (dy.run A hA ρ₁ s₁ es₁ r es' e2 R₁) (fun _ _ z => z.after g₁ q₁) fun _ _ z => z
noncomputable def andE (X Y : FM PV) : FM PV := bindE X fun p => bindE (liftS (truthG p)) fun t => if t then Y else pureE p
theorem den_and2 {x y : Expr} {pos : Pos} {X Y : FM PV} (dx : Den c b f RV (eval x f.env) X) (dy : Den c b f RV (eval y f.env) Y) : Den c b f RV (eval (.BoolOp .And [x, y] pos) f.env) (andE X Y) := by
  constructor
  intro A hA ρ s es r es' e R
  obtain ⟨p, es₁, e1, e⟩ := bindE_some e
  obtain ⟨t, es₂, e2, e3⟩ := bindE_some e
  refine wpAny_And2 (wpAny_mono (dx.run A hA ρ s es p es₁ e1 R) (fun v s₁ z => ?_) fun _ _ z => z)
  obtain ⟨ρ₁, R₁, g₁, q₁, r₁⟩ := z
  refine wpAny_mono ((Op1.k op_truth).run A hA ρ₁ s₁ es₁ v p t es₂ e2 r₁ R₁) (fun u s₂ z => ?_) fun _ _ z => z
  obtain ⟨ρ₂, R₂, g₂, q₂, rfl⟩ := z
  cases u with
  | true => exact wpAny_mono (dy.run A hA ρ₂ s₂ es₂ r es' e3 R₂) (fun _ _ z => (z.after g₂ q₂).after g₁ q₁) fun _ _ z => z
  | false => (first | obtain ⟨rfl, rfl⟩ := spr e3 | exact (nos e3).elim | obtain rfl := Option.some.inj e3 | cases e3); exact ⟨ρ₂, R₂, g₁.trans g₂, q₁.trans q₂, r₁.grow g₂ R₁.like⟩
noncomputable def seqE (x y : FM PF) : FM PF := bindE x fun r => match r with
  | .next => y
  | r => pureE r
theorem dens_nil : Den c b f RFl (execs [] f.env) (pureE .next) := by
  constructor
  intro A hA ρ s es y es' e R
  (first | obtain ⟨rfl, rfl⟩ := spr e | exact (nos e).elim | obtain rfl := Option.some.inj e | cases e)
  exact wpAny_execs_nil (Ends.here R .next)
theorem dens_cons {st : Stmt} {rest : List Stmt} {F G : FM PF} (d : Den c b f RFl (exec st f.env) F) (d' : Den c b f RFl (execs rest f.env) G) : Den c b f RFl (execs (st :: rest) f.env) (seqE F G) := by
  constructor
  intro A hA ρ s es y es' e R
  obtain ⟨t, es₁, e1, e2⟩ := bindE_some e
  refine wpAny_execs_cons (wpAny_mono (d.run A hA ρ s es t es₁ e1 R) (fun v s₁ z => ?_) fun _ _ z => z)
  obtain ⟨ρ₁, R₁, g₁, q₁, r₁⟩ := z
  cases r₁ with
  | next => exact wpAny_mono (d'.run A hA ρ₁ s₁ es₁ y es' e2 R₁) (fun _ _ z => z.after g₁ q₁) fun _ _ z => z
  | brk => (first | obtain ⟨rfl, rfl⟩ := spr e2 | exact (nos e2).elim | obtain rfl := Option.some.inj e2 | cases e2); exact ⟨ρ₁, R₁, g₁, q₁, .brk⟩
  | cont => (first | obtain ⟨rfl, rfl⟩ := spr e2 | exact (nos e2).elim | obtain rfl := Option.some.inj e2 | cases e2); exact ⟨ρ₁, R₁, g₁, q₁, .cont⟩
  | ret r => (first | obtain ⟨rfl, rfl⟩ := spr e2 | exact (nos e2).elim | obtain rfl := Option.some.inj e2 | cases e2); exact ⟨ρ₁, R₁, g₁, q₁, .ret r⟩
theorem den_if {t : Expr} {x y : List Stmt} {pos : Pos} {T : FM Bool} {X Y : FM PF} (dt : Den c b f RB (isTrue t f.env (eval t f.env)) T) (dx : Den c b f RFl (execs x f.env) X) (dy : Den c b f RFl (execs y f.env) Y) :
    Den c b f RFl (exec (.If t x y pos) f.env) (iteE T X Y) := by
  constructor
  intro A hA ρ s es r es' e R
  obtain ⟨t, es₁, e1, e2⟩ := iteE_some e
  refine wpAny_If (wpAny_mono (dt.run A hA ρ s es t es₁ e1 R) (fun v s₁ z => ?_) fun _ _ z => z)
  obtain ⟨ρ₁, R₁, g₁, q₁, rfl⟩ := z
  cases v with
  | true => exact wpAny_mono (dx.run A hA ρ₁ s₁ es₁ r es' e2 R₁) (fun _ _ z => z.after g₁ q₁) fun _ _ z => z
  | false => exact wpAny_mono (dy.run A hA ρ₁ s₁ es₁ r es' e2 R₁) (fun _ _ z => z.after g₁ q₁) fun _ _ z => z
theorem den_return {x : Expr} {pos : Pos} {X : FM PV} (dx : Den c b f RV (eval x f.env) X) : Den c b f RFl (exec (.Return (some x) pos) f.env) (bindE X fun p => pureE (.ret p)) := by
  constructor
  intro A hA ρ s es r es' e R
  obtain ⟨p, es₁, e1, e2⟩ := bindE_some e
  cases e2
  refine wpAny_Return_some (wpAny_mono (dx.run A hA ρ s es p es' e1 R) (fun v s₁ z => ?_) fun _ _ z => z)
  obtain ⟨ρ₁, R₁, g₁, q₁, r₁⟩ := z
  exact ⟨ρ₁, R₁, g₁, q₁, .ret r₁⟩
theorem den_continue {pos : Pos} : Den c b f RFl (exec (.Continue pos) f.env) (pureE .cont) := by
  constructor
  intro A hA ρ s es y es' e R
  (first | obtain ⟨rfl, rfl⟩ := spr e | exact (nos e).elim | obtain rfl := Option.some.inj e | cases e)
  exact wpAny_Continue (Ends.here R .cont)
theorem den_expr {x : Expr} {pos : Pos} {X : FM PV} (dx : Den c b f RV (eval x f.env) X) (hi : interactive f.env = false) (hs : swapsWith x none pos.line f.env = pure false := by rfl) :
    Den c b f RFl (exec (.Expr x pos) f.env) (bindE X fun _ => pureE .next) := by
  constructor
  intro A hA ρ s es r es' e R
  obtain ⟨p, es₁, e1, e2⟩ := bindE_some e
  cases e2
  refine wpAny_Expr_any (wpAny_mono (dx.run A hA ρ s es p es' e1 R) (fun v s₁ z => ?_) fun _ _ z => z) hi hs
  obtain ⟨ρ₁, R₁, g₁, q₁, r₁⟩ := z
  exact ⟨ρ₁, R₁, g₁, q₁, .next⟩
noncomputable def setL (i : Nat) (p : PV) : FM Unit := fun es => if i < es.loc.length then some ((), { es with loc := es.loc.set i (some p) }) else none
noncomputable def setC (i : Nat) (p : PV) : FM Unit := fun es => if i < es.cel.length then some ((), { es with cel := es.cel.set i (some p) }) else none
theorem RelF.wrote {c : Ctx0} {f : FI} {ρ : Rho} {es : ES} {h h' : Heap} (R : RelF c.K f ρ es h) {a : Addr} (m : a ∈ f.fr) (hs : Heap.SameBut a h h') (lv : ∃ o, h'.get? a = some o) : RelS c.K ρ es.st h' ∧ Grow f.fr ρ h ρ h' := by
  obtain ⟨S, g⟩ := R.s.wrote (wr := [a]) (h' := h') (fun x q => by rw [List.mem_singleton.mp q]; exact R.like a m) (fun x o e n => (hs.2 x fun q => n (q ▸ List.mem_singleton.mpr rfl)).trans e) (fun x q => by rw [List.mem_singleton.mp q]; exact lv)
  exact ⟨S, g.wider fun x q => by rw [List.mem_singleton.mp q]; exact m⟩
theorem store_local {A : Around} {ρ : Rho} {s : Shared} {es : ES} {x : Str} {i : Nat} {v : Value} {p : PV} (ok : f.Ok) (hx : f.ln[i]? = some x) (R : RelF c.K f ρ es s.heap) (r : RV s.heap ρ v p) (hi : i < es.loc.length) {E : Value → Shared → Prop} :
    wpAny (model c.prog c.w) A (storeName f.env x v) (Ends c.K f RU ρ s () { es with loc := es.loc.set i (some p) }) E s := by
  obtain ⟨m, n, l, nm⟩ := R.l
  refine wpAny_storeName_local (ok.loc x (List.mem_of_getElem? hx)) n (fun h' n' hs => ?_) (by rw [ok.kind]; rfl)
  have mL : f.env.locals ∈ f.fr := List.mem_cons_self
  obtain ⟨S, g⟩ := R.wrote mL hs (by obtain ⟨o, _, _, e, _⟩ := n'; exact ⟨o, e⟩)
  refine ⟨ρ, ⟨S, ⟨_, n', fun j y e => ?_, fun y hy => ?_⟩, fun j y a e => ?_, R.like, R.nd⟩, g, ⟨rfl, rfl, rfl⟩, trivial⟩
  · by_cases hj : i = j
    · subst hj
      rw [hx] at e; (first | obtain ⟨rfl, rfl⟩ := spr e | exact (nos e).elim | obtain rfl := Option.some.inj e | cases e)
      have : (es.loc.set i (some p))[i]? = some (some p) := by rw [List.getElem?_set_self hi]
      rw [this]
      simp only [if_true, Option.join]
      exact .some (r.grow g R.like)
    · have hne : y ≠ x := by
        rintro rfl
        have h1 := (List.getElem?_eq_some_iff.mp hx)
        have h2 := (List.getElem?_eq_some_iff.mp e)
        exact hj ((List.getElem_inj ok.nodup).mp (h1.2.trans h2.2.symm))
      rw [if_neg hne, List.getElem?_set_ne hj]
      exact (l j y e).grow g R.like
  · have hne : y ≠ x := by rintro rfl; exact hy (List.mem_of_getElem? hx)
    rw [if_neg hne]; exact nm y hy
  · obtain ⟨u, w, z⟩ := R.c j y a e
    have hne : a ≠ f.env.locals := by
      rintro rfl
      have := R.nd
      unfold FI.fr at this
      rw [List.nodup_cons] at this
      exact this.1 (List.mem_map.mpr ⟨(y, _), List.mem_of_getElem? e, rfl⟩)
    exact ⟨u, w.sameBut hs hne, z.grow g R.like⟩
theorem store_cell {A : Around} {ρ : Rho} {s : Shared} {es : ES} {x : Str} {i : Nat} {a : Addr} {v : Value} {p : PV} (ok : f.Ok) (hx : f.cn[i]? = some (x, a)) (hc : f.env.cells.lookup x = some a) (hk : f.env.kindOf x = some .cell) (R : RelF c.K f ρ es s.heap) (r : RV s.heap ρ v p)
    (hi : i < es.cel.length) {E : Value → Shared → Prop} :
    wpAny (model c.prog c.w) A (storeName f.env x v) (Ends c.K f RU ρ s () { es with cel := es.cel.set i (some p) }) E s := by
  obtain ⟨u, hu, ru⟩ := R.c i x a hx
  refine wpAny_storeName_cell ok.kind hk hc hu (fun h' n' hs => ?_)
  have mA : a ∈ f.fr := mem_cells hx
  obtain ⟨S, g⟩ := R.wrote mA hs (by obtain ⟨o, e, _⟩ := n'; exact ⟨o, e⟩)
  have fr := R.nd
  unfold FI.fr at fr
  rw [List.nodup_cons] at fr
  have hL : f.env.locals ≠ a := fun q => fr.1 (q ▸ List.mem_map.mpr ⟨(x, a), List.mem_of_getElem? hx, rfl⟩)
  refine ⟨ρ, ⟨S, R.l.carry (g.carry R.like) fun o e => (hs.2 _ hL).trans e, fun j y a' e => ?_, R.like, R.nd⟩, g, ⟨rfl, rfl, rfl⟩, trivial⟩
  by_cases hj : i = j
  · subst hj
    rw [hx] at e; (first | obtain ⟨rfl, rfl⟩ := spr e | exact (nos e).elim | obtain rfl := Option.some.inj e | cases e)
    refine ⟨_, n', ?_⟩
    rw [List.getElem?_set_self hi]
    exact .some (r.grow g R.like)
  · obtain ⟨u', w, z⟩ := R.c j y a' e
    have hne : a' ≠ a := by
      rintro rfl
      have h1 : (f.cn.map (·.2))[i]? = some a' := by rw [List.getElem?_map, hx]; rfl
      have h2 : (f.cn.map (·.2))[j]? = some a' := by rw [List.getElem?_map, e]; rfl
      have h1' := (List.getElem?_eq_some_iff.mp h1)
      have h2' := (List.getElem?_eq_some_iff.mp h2)
      exact hj ((List.getElem_inj fr.2).mp (h1'.2.trans h2'.2.symm))
    refine ⟨u', w.sameBut hs hne, ?_⟩
    rw [List.getElem?_set_ne hj]
    exact z.grow g R.like
noncomputable abbrev DenA (c : Ctx0) (b : Nat) (f : FI) (t : Expr) (F : PV → FM Unit) : Prop := DenK c b f RV RU (assign t f.env) F
theorem dena_local {x : Str} {pos : Pos} {i : Nat} (ok : f.Ok) (hx : f.ln[i]? = some x) : DenA c b f (.Name x pos) (setL i) := by
  constructor
  intro A hA ρ s es v p y es' e r R
  unfold setL at e
  split at e <;> (first | obtain ⟨rfl, rfl⟩ := spr e | exact (nos e).elim | obtain rfl := Option.some.inj e | cases e)
  exact wpAny_assign_Name (store_local ok hx R r ‹_›)
theorem dena_cell {x : Str} {pos : Pos} {i : Nat} {a : Addr} (ok : f.Ok) (hx : f.cn[i]? = some (x, a)) (hc : f.env.cells.lookup x = some a) (hk : f.env.kindOf x = some .cell) : DenA c b f (.Name x pos) (setC i) := by
  constructor
  intro A hA ρ s es v p y es' e r R
  unfold setC at e
  split at e <;> (first | obtain ⟨rfl, rfl⟩ := spr e | exact (nos e).elim | obtain rfl := Option.some.inj e | cases e)
  exact wpAny_assign_Name (store_cell ok hx hc hk R r ‹_›)
theorem den_assign {t value : Expr} {pos : Pos} {X : FM PV} {S : PV → FM Unit} (dx : Den c b f RV (eval value f.env) X) (ds : DenA c b f t S) (hs : swapsWithSole [t] value pos.line f.env = pure false := by rfl)
    (hw : swappedStores [t] value f.env = pure none := by rfl) (hst : assignEach [t] f.env = [(false, assign t f.env)] := by rfl) : Den c b f RFl (exec (.Assign [t] value pos) f.env) (bindE X fun p => bindE (S p) fun _ => pureE .next) := by
  constructor
  intro A hA ρ s es r es' e R
  obtain ⟨p, es₁, e1, e⟩ := bindE_some e
  obtain ⟨_, es₂, e2, e3⟩ := bindE_some e
  cases e3
  refine wpAny_Assign_stores (wpAny_mono (dx.run A hA ρ s es p es₁ e1 R) (fun v s₁ z => ?_) fun _ _ z => z) hs hw
  obtain ⟨ρ₁, R₁, g₁, q₁, r₁⟩ := z
  rw [hst]
  show wpAny _ _ (assign t f.env v) _ _ _
  refine wpAny_mono (ds.run A hA ρ₁ s₁ es₁ v p () es' e2 r₁ R₁) (fun _ s₂ z => ?_) fun _ _ z => z
  obtain ⟨ρ₂, R₂, g₂, q₂, r₂⟩ := z
  exact ⟨ρ₂, R₂, g₁.trans g₂, q₁.trans q₂, .next⟩
end
end Mine
end
section
set_option Elab.async false
set_option maxRecDepth 100000
set_option linter.unusedVariables false
set_option linter.unusedSimpArgs false
namespace Mine
open PySem PySem.Calls PySem.W PyProof.Rows
structure OpL (c : Ctx0) (b : Nat) (t : List Value → Sem Value) (G : List PV → SM PV) : Prop where
  run : ∀ A, AOk b A → ∀ ρ s st vs ps y st', G ps st = some (y, st') → RVs s.heap ρ vs ps → RelS c.K ρ st s.heap → wpAny (model c.prog c.w) A (t vs) (EndsS c.K RV ρ s y st') noE s
noncomputable abbrev FunOk (c : Ctx0) (b : Nat) (fv : Value) (G : List PV → SM PV) : Prop := OpL c b (fun vs => call fv vs) G
noncomputable def retOf : PF → PV
  | .ret p => p
  | _ => .none
section
variable {c : Ctx0} {b : Nat}
theorem rvs_zip_lookup {h : Heap} {ρ : Rho} {names : List Str} {vs : List Value} {ps : List PV} (r : RVs h ρ vs ps) (hl : names.length = vs.length) (x : Str) :
    RVo h ρ ((names.zip vs).lookup x) ((names.idxOf? x).bind fun i => ps[i]?) := by
  induction names generalizing vs ps with
  | nil => simp [List.idxOf?]; exact .none
  | cons n names ih =>
    cases vs with
    | nil => simp at hl
    | cons v vs =>
      cases r with
      | @cons _ p _ ps rv rr =>
        rw [List.zip_cons_cons, List.lookup_cons, List.idxOf?_cons]
        by_cases hx : x == n
        · rw [hx]
          have : (n == x) = true := by rw [beq_iff_eq] at hx ⊢; exact hx.symm
          simp [this]; exact .some rv
        · have h1 : (x == n) = false := by simpa using hx
          have h2 : (n == x) = false := by
            cases q : n == x with
            | false => rfl
            | true => rw [beq_iff_eq] at q; rw [q] at h1; simp at h1
          rw [h1, h2]
          have := ih rr (by simpa using hl)
          cases q : names.idxOf? x with
          | none => rw [q] at this; simpa using this
          | some i => rw [q] at this; simpa using this
theorem lookup_none_of {β : Type} {l : List (Str × β)} {x : Str} (h : ∀ p ∈ l, p.1 ≠ x) : l.lookup x = none := by
  rw [List.lookup_eq_none_iff]
  intro p hp
  have := h p hp
  simp only [bne_iff_ne, ne_eq]
  exact fun e => this e.symm
theorem lookup_reverse {β : Type} {l : List (Str × β)} (nd : (l.map (·.1)).Nodup) (x : Str) : l.reverse.lookup x = l.lookup x := by
  induction l with
  | nil => rfl
  | cons p r ih =>
    obtain ⟨k, v⟩ := p
    rw [List.map_cons, List.nodup_cons] at nd
    rw [List.reverse_cons, List.lookup_append, ih nd.2, List.lookup_cons]
    cases q : x == k with
    | true =>
      rw [beq_iff_eq] at q; subst q
      rw [lookup_none_of fun p hp z => nd.1 (List.mem_map.mpr ⟨p, hp, z⟩)]; simp [List.lookup_cons]
    | false => cases z : r.lookup x <;> simp [List.lookup_cons, q, z]
theorem zip_names {names : List Str} {vs : List Value} (hl : names.length = vs.length) : (names.zip vs).map (·.1) = names := by
  rw [List.map_fst_zip]; omega
structure DefAt (K : Frag) (a : Addr) (fd : FuncData) (body : List Stmt) : Prop where
  at_ : ∃ oc od sl, K.lookup a = some ⟨oc, od, .func fd, sl⟩
  code : codeIn K fd.code fd.qualname = true
  body : fd.body = .stmts body
  co : fd.scope.isCoroutine = false
  gen : fd.scope.isGenerator = false
  kind : fd.scope.kind = .function
theorem get_ge {h : Heap} {a : Addr} (l : h.objs.size ≤ a) : h.get? a = none := by
  cases e : h.get? a with
  | none => rfl
  | some o => exact absurd (Heap.lt_size e) (Nat.not_lt.mpr l)
theorem RelS.left {K : Frag} {ρ ρ' : Rho} {st st' : List AO} {s s' : Shared} {h₀ : Heap} {tk : Nat} {wr : List Addr} {v : Value} {p : PV} (R : RelS K ρ st s.heap) (k : ∀ a o, s.heap.get? a = some o → h₀.get? a = some o) (fresh : ∀ a ∈ wr, s.heap.get? a = none)
    (R' : RelS K ρ' st' s'.heap) {fr : List Addr} (g : Grow fr (ρ.enter wr) h₀ ρ' s'.heap) (sub : ∀ a ∈ fr, a ∈ wr) (sm : Same { s with heap := h₀, toks := tk } s') (r : RV s'.heap ρ' v p) : EndsS K RV ρ s p st' v s' := by
  obtain ⟨e', r'⟩ := ρ'
  have hr : r' = wr ++ ρ.rsv := g.rsv
  subst hr
  obtain ⟨S, cy⟩ := RelS.leave (ρ := ⟨e', ρ.rsv⟩) (wr := wr) (h' := s'.heap) R' fun a o e _ => e
  refine ⟨⟨e', ρ.rsv⟩, S, ⟨fun a o e _ nr => g.keep a o (k a o e) (fun m => by rw [fresh a (sub a m)] at e; (first | obtain ⟨rfl, rfl⟩ := spr e | exact (nos e).elim | obtain rfl := Option.some.inj e | cases e)) nr, g.pre, rfl, fun a m => ?_⟩, ⟨sm.1, sm.2.1, sm.2.2⟩, r.carry cy⟩
  rcases g.new a m with z | z | z
  · exact .inl z
  · exact .inr (.inr (fresh a (sub a z)))
  · refine .inr (.inr ?_)
    cases q : s.heap.get? a with
    | none => rfl
    | some o => rw [k a o q] at z; cases z
noncomputable abbrev DenArgs (c : Ctx0) (b : Nat) (f : FI) (pos : Pos) (args : List Expr) (F : FM (List PV)) : Prop := Den c b f RVs (spliced (backTo pos (starEach args f.env))) F
variable {f : FI}
theorem denl_nil {pos : Pos} : DenArgs c b f pos [] (pureE []) := by
  constructor
  intro A hA ρ s es y es' e R
  (first | obtain ⟨rfl, rfl⟩ := spr e | exact (nos e).elim | obtain rfl := Option.some.inj e | cases e)
  exact Calls.spliced_nil (Ends.here R .nil)
noncomputable def consE (X : FM PV) (Y : FM (List PV)) : FM (List PV) := bindE X fun p => bindE Y fun ps => pureE (p :: ps)
theorem denl_cons {pos : Pos} {x : Expr} {rest : List Expr} {X : FM PV} {Y : FM (List PV)} (dx : Den c b f RV (eval x f.env) X) (dy : DenArgs c b f pos rest Y)
    (hx : notStarred x = true := by rfl) : DenArgs c b f pos (x :: rest) (consE X Y) := by
  constructor
  intro A hA ρ s es y es' e R
  obtain ⟨p, es₁, e1, e⟩ := bindE_some e
  obtain ⟨ps, es₂, e2, e3⟩ := bindE_some e
  (first | obtain ⟨rfl, rfl⟩ := spr e3 | exact (nos e3).elim | obtain rfl := Option.some.inj e3 | cases e3)
  rw [starEach_of hx]
  refine Calls.spliced_cons (wpAny_mono (dx.run A hA ρ s es p es₁ e1 R) (fun v s₁ z => ?_) fun _ _ z => z)
  obtain ⟨ρ₁, R₁, g₁, q₁, r₁⟩ := z
  refine wpAny_mono (dy.run A hA ρ₁ s₁ es₁ ps _ e2 R₁) (fun vs s₂ z => ?_) fun _ _ z => z
  obtain ⟨ρ₂, R₂, g₂, q₂, r₂⟩ := z
  exact ⟨ρ₂, R₂, g₁.trans g₂, q₁.trans q₂, .cons (r₁.grow g₂ R₁.like) r₂⟩
noncomputable def KeepOk (K : Frag) (fv : Value) : Prop := ∀ (M : Model) (h : Heap), K.In h → ∃ k, (k = Keeper.frame ∨ k = Keeper.machine ∨ k = Keeper.boundFrame) ∧ Looks M h (keeperOf fv) k
theorem keepOk_ref {K : Frag} {a : Addr} (h : keepIn K (.ref a) = true) : KeepOk K (.ref a) := fun M hp X => by
  obtain ⟨k, x, y⟩ := looks_keep (M := M) h X
  exact ⟨k, x.elim .inl (fun e => .inr (.inl e)), y⟩
theorem keepOk_builtin {K : Frag} {id : String} : KeepOk K (.builtin id) := fun M hp X => ⟨.machine, .inr (.inl rfl), Looks.of_pure rfl⟩
theorem keepOk_type {K : Frag} {id : String} : KeepOk K (.type id) := fun M hp X => ⟨.machine, .inr (.inl rfl), Looks.of_pure rfl⟩
theorem evalArgs_spliced {M : Model} {A : Around} {E : Value → Shared → Prop} {s : Shared} {fv : Value} {pos : Pos} {args : List Expr} {env : Env} {Q : Args → Shared → Prop} (hst : (backTo pos (starEach args env)).all (fun x => !x.1) = true)
    (h : wpAny M A (spliced (backTo pos (starEach args env))) (fun vs s' => Q ⟨vs, []⟩ s') E s) : wpAny M A (evalArgs fv true (backTo pos (starEach args env)) []) Q E s := by
  cases hb : backTo pos (starEach args env) with
  | nil =>
    rw [hb] at h
    unfold evalArgs
    show wpAny M A (spliced [] >>= _) Q E s
    refine wpAny_bind (wpAny_mono h (fun vs s' h' => ?_) fun _ _ x => x)
    refine wpAny_holding ?_
    exact wpAny_bind (wpAny_pure (wpAny_bind (wpAny_pure (wpAny_pure h'))))
  | cons x r =>
    obtain ⟨b, t⟩ := x
    rw [hb] at h hst
    have : b = false := by
      rw [List.all_cons, Bool.and_eq_true] at hst
      simpa using hst.1
    subst this
    exact Calls.evalArgs_plain h
theorem den_callWith {pos : Pos} {fv : Value} {args : List Expr} {FA : FM (List PV)} {G : List PV → SM PV} (hk : KeepOk c.K fv) (da : DenArgs c b f pos args FA) (o : OpL c b (fun vs => call fv vs) G)
    (ha : args.all notStarred = true := by rfl) :
    Den c b f RV (callWith pos fv [] (backTo pos (starEach args f.env)) []) (bindE FA fun ps => liftS (G ps)) := by
  constructor
  intro A hA ρ s es y es' e R
  obtain ⟨ps, es₁, e1, e⟩ := bindE_some e
  obtain ⟨st', e2, rfl⟩ := liftS_some e
  have hst := starEach_plain (env := f.env) (pos := pos) ha
  refine callWith_of (P := c.K.In) ?_ (hk _) (evalArgs_spliced hst (wpAny_mono (da.run A hA ρ s es ps es₁ e1 R) (fun vs s₁ z => ?_) fun _ _ z => z))
  · rw [List.any_nil, Bool.or_false, List.any_eq_not_all_not, Bool.not_eq_false']
    simpa using hst
  · obtain ⟨ρ₁, R₁, g₁, q₁, r₁⟩ := z
    refine ⟨R₁.s.top, wpAny_mono (o.run A hA ρ₁ s₁ es₁.st vs ps y st' e2 r₁ R₁.s) (fun _ _ z => (z.toF R₁).after g₁ q₁) fun _ _ z => z⟩
theorem den_call {x : Str} {np pos : Pos} {fv : Value} {args : List Expr} {FA : FM (List PV)} {G : List PV → SM PV} (dn : Den c b f RV (eval (.Name x np) f.env) (pureE (.raw fv))) (hk : KeepOk c.K fv)
    (da : DenArgs c b f pos args FA) (o : OpL c b (fun vs => call fv vs) G) (ha : args.all notStarred = true := by rfl) :
    Den c b f RV (eval (.Call (.Name x np) args [] pos) f.env) (bindE FA fun ps => liftS (G ps)) := by
  constructor
  intro A hA ρ s es y es' e R
  refine wpAny_Call_NameR (wpAny_mono (dn.run A hA ρ s es _ es rfl R) (fun v s₁ z => ?_) fun _ _ z => z)
  obtain ⟨ρ₁, R₁, g₁, q₁, r₁⟩ := z
  (first | obtain ⟨_, rfl⟩ := r₁.inv | cases r₁)
  exact wpAny_mono ((den_callWith hk da o ha).run A hA ρ₁ s₁ es y es' e R₁) (fun _ _ z => z.after g₁ q₁) fun _ _ z => z
end
end Mine
end
section
set_option Elab.async false
set_option maxRecDepth 100000
set_option linter.unusedVariables false
set_option linter.unusedSimpArgs false
namespace Mine
open PySem PySem.Calls PySem.W PyProof.Rows
section
variable {c : Ctx0} {b : Nat} {f : FI}
structure MethAt (c : Ctx0) (name : Str) (P : PV → List AO → Bool) (fv : Value) : Prop where
  run : ∀ A pl ρ s st v p Q, P p st = true → RV s.heap ρ v p → RelS c.K ρ st s.heap → Q (fv, [v]) s → wpAny (model c.prog c.w) A (getMethod v name pl) Q noE s
theorem den_method {o : Expr} {name : Str} {apos pos : Pos} {args : List Expr} {fv : Value} {P : PV → List AO → Bool} {FO : FM PV} {FA : FM (List PV)} {G : List PV → SM PV}
    (dO : Den c b f RV (eval o f.env) FO) (m : MethAt c name P fv) (hk : KeepOk c.K fv) (da : DenArgs c b f pos args FA) (op : OpL c b (fun vs => call fv vs) G)
    (hbase : notSuper o = true := by rfl) (hline : (apos.endLine == pos.line) = true := by rfl) (ha : (args.all notStarred && decide (args.length < 29)) = true := by rfl) :
    Den c b f RV (eval (.Call (.Attribute o name apos) args [] pos) f.env) (bindE FO fun p => guardE (P p) (bindE FA fun ps => liftS (G (p :: ps)))) := by
  constructor
  intro A hA ρ s es y es' e R
  obtain ⟨p, es₁, e1, e⟩ := bindE_some e
  unfold guardE at e
  split at e <;> try (first | obtain ⟨rfl, rfl⟩ := spr e | exact (nos e).elim | obtain rfl := Option.some.inj e | cases e)
  rename_i hP
  obtain ⟨ps, es₂, e2, e⟩ := bindE_some e
  obtain ⟨st', e3, rfl⟩ := liftS_some e
  rw [Bool.and_eq_true] at ha
  have hst := starEach_plain (env := f.env) (pos := pos) ha.1
  have hlen : args.length < 29 := by simpa using ha.2
  have hfew : methodCallForm (args.length + ([] : List Keyword).length) (backTo pos (starEach args f.env)) (backToKw pos (keywordEach [] f.env)) = true := by
    unfold methodCallForm
    rw [hst]
    show (true && true && decide (args.length + 0 + 0 < 30)) = true
    simp; omega
  rw [arm_eval_Call, attributeBase_of hbase]
  refine wpAny_bind (wpAny_mono (dO.run A hA ρ s es p es₁ e1 R) (fun v s₁ z => ?_) fun _ _ z => z)
  obtain ⟨ρ₁, R₁, g₁, q₁, r₁⟩ := z
  refine wpAny_bind (wpAny_standAt ?_)
  have hpos : methodCallPos true o f.env apos pos = pure pos := by unfold methodCallPos; simp [hline]
  unfold methodCall
  rw [hfew]
  refine wpAny_bind (wpAny_holding (m.run A _ ρ₁ s₁ es₁.st v p _ hP r₁ R₁.s ?_))
  refine wpAny_bind (wpAny_of_eq hpos ?_)
  refine callWith_of (P := c.K.In) ?_ (hk _) (evalArgs_spliced hst (wpAny_mono (da.run A hA ρ₁ s₁ es₁ ps es₂ e2 R₁) (fun vs s₂ z => ?_) fun _ _ z => z))
  · rw [show (backToKw pos (keywordEach [] f.env)) = [] from rfl, List.any_nil, Bool.or_false, List.any_eq_not_all_not, Bool.not_eq_false']
    simpa using hst
  · obtain ⟨ρ₂, R₂, g₂, q₂, r₂⟩ := z
    refine ⟨R₂.s.top, wpAny_mono (op.run A hA ρ₂ s₂ es₂.st (v :: vs) (p :: ps) y st' e3 (.cons (r₁.grow g₂ R₁.like) r₂) R₂.s) (fun _ _ z => ((z.toF R₂).after g₂ q₂).after g₁ q₁) fun _ _ z => z⟩
noncomputable def isStr (p : PV) (_ : List AO) : Bool := match p with | .str _ => true | _ => false
theorem meth_str {name : Str} {id : String} (slot : Slot "str" name id) (hty : typeOf (.builtin id) = pure (.type "method_descriptor")) : MethAt c name isStr (.builtin id) := by
  constructor
  intro A pl ρ s st v p Q hP r R h
  cases r <;> first | cases hP | skip
  exact getMethod_builtin (typeIs_str _ _ _) F.plainAttrs_str slot hty (fun _ e => nomatch e) h
noncomputable def str1 (g : Str → Str) (ps : List PV) : SM PV := fun st => match ps with | [.str x] => if (g x).length ≤ sizeLine then some (.str (g x), st) else none | _ => none
theorem notLong {n : Nat} (h : n ≤ sizeLine) : Builtin.Str.tooLong n = false := by
  unfold Builtin.Str.tooLong
  simp only [decide_eq_false_iff_not, gt_iff_lt, Nat.not_lt]
  exact h
theorem op_lower : OpL c b (fun vs => call (.builtin "str.lower") vs) (str1 Txt.lower) := by
  constructor
  intro A hA ρ s st vs ps y st' e r R
  unfold str1 at e; split at e <;> try (first | obtain ⟨rfl, rfl⟩ := spr e | exact (nos e).elim | obtain rfl := Option.some.inj e | cases e)
  split at e <;> (first | obtain ⟨rfl, rfl⟩ := spr e | exact (nos e).elim | obtain rfl := Option.some.inj e | cases e)
  rename_i hz
  obtain ⟨_, _, rfl, ra, rr⟩ := r.inv; obtain rfl := rr.inv; obtain ⟨_, rfl⟩ := ra.inv; exact SC.lower (notLong hz) (EndsS.tok R (.str _ _))
theorem op_upper : OpL c b (fun vs => call (.builtin "str.upper") vs) (str1 Txt.upper) := by
  constructor
  intro A hA ρ s st vs ps y st' e r R
  unfold str1 at e; split at e <;> try (first | obtain ⟨rfl, rfl⟩ := spr e | exact (nos e).elim | obtain rfl := Option.some.inj e | cases e)
  split at e <;> (first | obtain ⟨rfl, rfl⟩ := spr e | exact (nos e).elim | obtain rfl := Option.some.inj e | cases e)
  rename_i hz
  obtain ⟨_, _, rfl, ra, rr⟩ := r.inv; obtain rfl := rr.inv; obtain ⟨_, rfl⟩ := ra.inv; exact SC.upper (notLong hz) (EndsS.tok R (.str _ _))
theorem op_swapcase : OpL c b (fun vs => call (.builtin "str.swapcase") vs) (str1 Txt.swapcase) := by
  constructor
  intro A hA ρ s st vs ps y st' e r R
  unfold str1 at e; split at e <;> try (first | obtain ⟨rfl, rfl⟩ := spr e | exact (nos e).elim | obtain rfl := Option.some.inj e | cases e)
  split at e <;> (first | obtain ⟨rfl, rfl⟩ := spr e | exact (nos e).elim | obtain rfl := Option.some.inj e | cases e)
  rename_i hz
  obtain ⟨_, _, rfl, ra, rr⟩ := r.inv; obtain rfl := rr.inv; obtain ⟨_, rfl⟩ := ra.inv; exact SC.swapcase (notLong hz) (EndsS.tok R (.str _ _))
noncomputable def getI (p q : PV) : SM PV := fun st => match q with
  | .int i => if 0 ≤ i ∧ i < 2 ^ 62 then (match p with
    | .str x => (match x.cps[i.toNat]? with
      | some u => some (.str ⟨#[u]⟩, st)
      | none => none)
    | .tup xs => (match xs[i.toNat]? with
      | some u => some (u, st)
      | none => none)
    | p => (match items? st p with
      | some xs => (match xs[i.toNat]? with
        | some u => some (u, st)
        | none => none)
      | none => none)) else none
  | _ => none
theorem seqIndex_of {i : Int} {n : Nat} (h0 : 0 ≤ i) (h : i.toNat < n) : seqIndex? i n = some i.toNat := by
  unfold seqIndex?
  have h1 : ¬ i < 0 := by omega
  have h2 : i < n := by omega
  simp only [h1, if_false]
  simp [h0, h2]
theorem RVs.getAt {h : Heap} {ρ : Rho} {vs : Array Value} {ps : List PV} (r : RVs h ρ vs.toList ps) {i : Nat} {p : PV} (e : ps[i]? = some p) : ∃ v, vs[i]? = some v ∧ RV h ρ v p := by
  obtain ⟨v, a, b⟩ := r.get e
  exact ⟨v, by simpa using a, b⟩
theorem op_subscript {value slice : Expr} (hs : ∀ o i, subscripted slice false o i = operate [o, i] (getItem o i) := by intro _ _; rfl) : Op2 c b RV (fun o i => subscriptTail value slice o i) getI := by
  constructor
  intro A hA ρ s st x z x' z' y st' e r r' R
  unfold getI at e
  split at e <;> try (first | obtain ⟨rfl, rfl⟩ := spr e | exact (nos e).elim | obtain rfl := Option.some.inj e | cases e)
  rename_i i
  split at e <;> try (first | obtain ⟨rfl, rfl⟩ := spr e | exact (nos e).elim | obtain rfl := Option.some.inj e | cases e)
  rename_i hi
  obtain ⟨tk, rfl⟩ := r'.inv
  split at e
  · rename_i u
    split at e <;> (first | obtain ⟨rfl, rfl⟩ := spr e | exact (nos e).elim | obtain rfl := Option.some.inj e | cases e)
    rename_i cp hc
    obtain ⟨t, rfl⟩ := r.inv
    have hlt : i.toNat < u.length := (Array.getElem?_eq_some_iff.mp hc).1
    exact tail_any (typeIs_str _ _ _) slot_str_getitem.lookup (PyProof.Rows.getItem_str (by simp; omega) (by rw [seqIndex_of hi.1 hlt]; exact hc) (EndsS.tok R (.str _ _))) (hs _ _)
  · rename_i xs
    split at e <;> (first | obtain ⟨rfl, rfl⟩ := spr e | exact (nos e).elim | obtain rfl := Option.some.inj e | cases e)
    rename_i hx
    obtain ⟨a, vs, na, q, rr, rfl⟩ := r.inv
    obtain ⟨v, hv, rv⟩ := rr.get hx
    have ht : IsTup s.heap a vs.toArray := q
    have hlt : i.toNat < vs.length := (List.getElem?_eq_some_iff.mp hv).1
    exact tail_any ht.typeIs slot_tuple_getitem.lookup (getItem_tuple ht (by omega) (by omega) (by rw [List.size_toArray]; exact seqIndex_of hi.1 hlt) (by simpa using hv) (EndsS.here R rv)) (hs _ _)
  · split at e <;> try (first | obtain ⟨rfl, rfl⟩ := spr e | exact (nos e).elim | obtain rfl := Option.some.inj e | cases e)
    rename_i xs hxs
    split at e <;> (first | obtain ⟨rfl, rfl⟩ := spr e | exact (nos e).elim | obtain rfl := Option.some.inj e | cases e)
    rename_i hx
    obtain ⟨a, vs, rfl, hl, rr⟩ := items_of R r hxs
    replace hl := isL hl
    obtain ⟨v, hv, rv⟩ := rr.getAt hx
    exact tail_any hl.typeIs slot_list_getitem.lookup (wpAny_getItem_list hl hi.1 (by omega) hv (EndsS.here R rv)) (hs _ _)
theorem den_subscript {value slice : Expr} {pos : Pos} {F₁ F₂ : FM PV} (d₁ : Den c b f RV (eval value f.env) F₁) (d₂ : Den c b f RV (eval slice f.env) F₂)
    (hs : ∀ o i, subscripted slice false o i = operate [o, i] (getItem o i) := by intro _ _; rfl) :
    Den c b f RV (eval (.Subscript value slice pos) f.env) (bindE F₁ fun p => bindE F₂ fun q => liftS (getI p q)) :=
  ⟨fun A hA ρ s es y es' e R => Subscript_ (two_then d₁ d₂ (op_subscript hs) hA e R)⟩
end
end Mine
end
section
set_option Elab.async false
set_option maxRecDepth 100000
set_option linter.unusedVariables false
set_option linter.unusedSimpArgs false
namespace Mine
open PySem PySem.Calls PySem.W PyProof.Rows
noncomputable def Kept (wr : List Addr) (h h' : Heap) : Prop := ∀ a o, h.get? a = some o → a ∉ wr → h'.get? a = some o
theorem Kept.refl {wr : List Addr} {h : Heap} : Kept wr h h := fun _ _ e _ => e
theorem Kept.of_same {h h' : Heap} {wr : List Addr} {a : Addr} (m : a ∈ wr) (hs : Heap.SameBut a h h') : Kept wr h h' := fun x o e n => (hs.2 x fun q => n (q ▸ m)).trans e
theorem Kept.of_extBut {h h' : Heap} {wr : List Addr} {a : Addr} (m : a ∈ wr) (hs : Heap.ExtBut a h h') : Kept wr h h' := fun x o e n => hs x o (fun q => n (q ▸ m)) e
structure Src (c : Ctx0) (A : Around) (target : Expr) (it : Value) (wr : List Addr) (chk : List AO → Bool) (items : List PV) (pos : Nat → Heap → Rho → Prop) : Prop where
  stable : ∀ k h ρ h' ρ', pos k h ρ → Carry h ρ h' ρ' → (∀ a ∈ wr, ∀ o, h.get? a = some o → h'.get? a = some o) → pos k h' ρ'
  live : ∀ k h ρ, pos k h ρ → ∀ a ∈ wr, ∃ o, h.get? a = some o
  next : ∀ ρ st k s x, items[k]? = some x → pos k s.heap ρ → RelS c.K ρ st s.heap → chk st = true → (∀ a ∈ wr, a ∈ ρ.rsv) →
    wpAny (model c.prog c.w) A (pyNext it) (fun r s₁ => ∃ u, r = some u ∧ wpAny (model c.prog c.w) A (letOwnedTupleGo target it u)
      (fun _ s₂ => RV s₂.heap ρ u x ∧ pos (k + 1) s₂.heap ρ ∧ Kept wr s.heap s₂.heap ∧ Same s s₂) noE s₁) noE s
  done : ∀ ρ st s, pos items.length s.heap ρ → RelS c.K ρ st s.heap → chk st = true → (∀ a ∈ wr, a ∈ ρ.rsv) →
    wpAny (model c.prog c.w) A (pyNext it) (fun r s₁ => r = none ∧ Kept wr s.heap s₁.heap ∧ Same s s₁) noE s
  self : ∀ k s ρ (Q : Value → Shared → Prop), pos k s.heap ρ → Q it s → wpAny (model c.prog c.w) A (pyIter it) Q noE s
noncomputable def loopK (rest : FM PF) : PF → FM PF
  | .next | .cont => rest
  | .brk => pureE .next
  | .ret p => pureE (.ret p)
noncomputable def forItems (chk : List AO → Bool) (S : PV → FM Unit) (B : FM PF) : List PV → FM PF
  | [] => guardE chk (pureE .next)
  | x :: r => guardE chk (bindE (S x) fun _ => bindE B (loopK (forItems chk S B r)))
section
variable {c : Ctx0} {b : Nat} {f : FI}
structure RelL (K : Frag) (f : FI) (wr : List Addr) (ρ : Rho) (es : ES) (h : Heap) : Prop where
  r : RelF K f ρ es h
  hw : ∀ a ∈ wr, a ∈ ρ.rsv
  hd : ∀ a ∈ wr, a ∉ f.fr
theorem RelL.kept {K : Frag} {wr : List Addr} {ρ : Rho} {es : ES} {h h' : Heap} (R : RelL K f wr ρ es h) (k : Kept wr h h') (lv : ∀ a ∈ wr, ∃ o, h'.get? a = some o) : RelL K f wr ρ es h' ∧ Grow wr ρ h ρ h' := by
  obtain ⟨S, g⟩ := R.r.s.wrote R.hw k lv
  exact ⟨⟨R.r.carry S (g.carry R.hw) (fun a m o e => k a o e fun z => R.hd a z m) R.r.like, R.hw, R.hd⟩, g⟩
theorem RelL.step {K : Frag} {wr : List Addr} {ρ ρ' : Rho} {es es' : ES} {h h' : Heap} (R : RelL K f wr ρ es h) (R' : RelF K f ρ' es' h') (g : Grow f.fr ρ h ρ' h') : RelL K f wr ρ' es' h' ∧ (∀ a ∈ wr, ∀ o, h.get? a = some o → h'.get? a = some o) :=
  ⟨⟨R', fun a m => g.rsv ▸ R.hw a m, R.hd⟩, fun a m o e => g.keep a o e (R.hd a m) (rsv_apart R.r.s.nodup (R.hw a m))⟩
theorem for_run {A : Around} {target : Expr} {it : Value} {wr : List Addr} {chk : List AO → Bool} {items : List PV} {pos : Nat → Heap → Rho → Prop} {body : List Stmt} {S : PV → FM Unit} {B : FM PF}
    (src : Src c A target it wr chk items pos) (hA : AOk b A) (ds : DenA c b f target S) (db : Den c b f RFl (execs body f.env) B) {ρ₀ : Rho} {s₀ : Shared} {es₀ es' : ES} {y : PF}
    (e : forItems chk S B items es₀ = some (y, es')) (R₀ : RelL c.K f wr ρ₀ es₀ s₀.heap) (hp : pos 0 s₀.heap ρ₀) :
    codeAny (model c.prog c.w) A (.forLoop target it body [] f.env) (fun r s' => match r with
      | .ok fl => ∃ ρ' h', P5 (RelL c.K f wr ρ' es' h') (Kept wr h' s'.heap) (Grow (f.fr ++ wr) ρ₀ s₀.heap ρ' h') (Same s₀ s') (RFl h' ρ' fl y)
      | .error _ => False) s₀ := by
  refine codeAny_forLoop_any (fun n s => ∃ k ρ es, P7 (n = items.length - k) (k ≤ items.length) (forItems chk S B (items.drop k) es = some (y, es')) (RelL c.K f wr ρ es s.heap) (pos k s.heap ρ) (Grow (f.fr ++ wr) ρ₀ s₀.heap ρ s.heap) (Same s₀ s)) ?_ items.length ⟨0, ρ₀, es₀, by simp, Nat.zero_le _, by simpa using e, R₀, hp, .refl, .refl⟩
  rintro n s ⟨k, ρ, es, rfl, hk, e, R, hp, g, sm⟩
  by_cases hlt : k < items.length
  · have hx : items[k]? = some items[k] := by simp [hlt]
    rw [List.drop_eq_getElem_cons hlt] at e
    obtain ⟨hc, e⟩ := guardE_some e
    obtain ⟨_, es₁, e1, e⟩ := bindE_some e
    obtain ⟨fl, es₂, e2, e3⟩ := bindE_some e
    refine wpAny_mono (src.next ρ es.st k s _ hx hp R.r.s hc R.hw) (fun r s₁ z => ?_) fun _ _ z => z.elim
    obtain ⟨u, rfl, z⟩ := z
    refine wpAny_mono z (fun _ s₂ z => ?_) fun _ _ z => z.elim
    obtain ⟨ru, hp₂, ad, sm₂⟩ := z
    obtain ⟨R₂, g₂⟩ := R.kept ad (src.live _ _ _ hp₂)
    have ga : Grow (f.fr ++ wr) ρ₀ s₀.heap ρ s₂.heap := g.trans (g₂.wider fun a m => List.mem_append_right _ m)
    refine wpAny_mono (ds.run A hA ρ s₂ es u _ _ es₁ e1 ru R₂.r) (fun _ s₃ z => ?_) fun _ _ z => z.elim
    obtain ⟨ρ₃, R₃, g₃, q₃, _⟩ := z
    refine wpAny_mono (db.run A hA ρ₃ s₃ es₁ fl es₂ e2 R₃) (fun flv s₄ z => ?_) fun _ _ z => z.elim
    obtain ⟨ρ₄, R₄, g₄, q₄, rf⟩ := z
    have g34 := g₃.trans g₄
    have sm4 : Same s₀ s₄ := sm.trans (sm₂.trans (q₃.trans q₄))
    have gt : Grow (f.fr ++ wr) ρ₀ s₀.heap ρ₄ s₄.heap := ga.trans (g34.wider fun a m => List.mem_append_left _ m)
    obtain ⟨RL, kw⟩ := R₂.step R₄ g34
    have again : forItems chk S B (items.drop (k + 1)) es₂ = some (y, es') → ∃ m, m < items.length - k ∧ ∃ k ρ es, P7 (m = items.length - k) (k ≤ items.length) (forItems chk S B (items.drop k) es = some (y, es')) (RelL c.K f wr ρ es s₄.heap) (pos k s₄.heap ρ) (Grow (f.fr ++ wr) ρ₀ s₀.heap ρ s₄.heap) (Same s₀ s₄):= fun e =>
      ⟨items.length - (k + 1), by omega, k + 1, ρ₄, es₂, rfl, hlt, e, RL, src.stable _ _ _ _ _ hp₂ (g34.carry R₂.r.like) kw, gt, sm4⟩
    cases rf with
    | next => exact again e3
    | cont => exact again e3
    | brk => (first | obtain ⟨rfl, rfl⟩ := spr e3 | exact (nos e3).elim | obtain rfl := Option.some.inj e3 | cases e3); exact ⟨ρ₄, _, RL, .refl, gt, sm4, .next⟩
    | ret r => (first | obtain ⟨rfl, rfl⟩ := spr e3 | exact (nos e3).elim | obtain rfl := Option.some.inj e3 | cases e3); exact ⟨ρ₄, _, RL, .refl, gt, sm4, .ret r⟩
  · have hk' : k = items.length := by omega
    subst hk'
    rw [List.drop_length] at e
    obtain ⟨hc, e⟩ := guardE_some e
    (first | obtain ⟨rfl, rfl⟩ := spr e | exact (nos e).elim | obtain rfl := Option.some.inj e | cases e)
    refine wpAny_mono (src.done ρ _ s hp R.r.s hc R.hw) (fun r s₁ z => ?_) fun _ _ z => z.elim
    obtain ⟨rfl, ad, sm₁⟩ := z
    exact wpAny_execs_nil ⟨ρ, _, R, ad, g, sm.trans sm₁, .next⟩
noncomputable abbrev Its := List PV × (List AO → Bool)
structure DenIt (c : Ctx0) (b : Nat) (f : FI) (target iter : Expr) (F : FM Its) : Prop where
  run : ∀ A, AOk b A → ∀ ρ s es y es', F es = some (y, es') → RelF c.K f ρ es s.heap → wpAny (model c.prog c.w) A (eval iter f.env) (fun v s₁ => wpAny (model c.prog c.w) A (pyIter v) (fun it s₂ =>
    ∃ ρ' wr pos, P6 (RelF c.K f (ρ'.enter wr) es' s₂.heap) (Grow f.fr ρ s.heap ρ' s₂.heap) (Same s s₂) (Src c A target it wr y.2 y.1 pos) (pos 0 s₂.heap (ρ'.enter wr)) ((∀ a ∈ wr, s.heap.get? a = none))) noE s₁) noE s
theorem RelL.left {K : Frag} {wr : List Addr} {ρ ρ₀ ρ₁ : Rho} {es : ES} {h₀ h₁ h₂ h' : Heap} (R : RelL K f wr ρ es h₂) (kp : Kept wr h₂ h') (g₁ : Grow f.fr ρ₀ h₀ ρ₁ h₁) (g : Grow (f.fr ++ wr) (ρ₁.enter wr) h₁ ρ h₂) (fresh : ∀ a ∈ wr, h₀.get? a = none)
    (like : ∀ a ∈ f.fr, a ∈ ρ₁.rsv) : ∃ ρ', P3 (RelF K f ρ' es h') (Grow f.fr ρ₀ h₀ ρ' h') (Carry h₂ ρ h' ρ') := by
  obtain ⟨e', r'⟩ := ρ
  have hr : r' = wr ++ ρ₁.rsv := g.rsv
  subst hr
  obtain ⟨S, cy⟩ := RelS.leave (ρ := ⟨e', ρ₁.rsv⟩) (wr := wr) (h' := h') R.r.s kp
  refine ⟨⟨e', ρ₁.rsv⟩, R.r.carry S cy (fun a m o e => kp a o e fun z => R.hd a z m) like, ?_, cy⟩
  refine ⟨fun a o e nf nr => ?_, g₁.pre.trans g.pre, g₁.rsv, fun a m => ?_⟩
  · have nw : a ∉ wr := fun m => by rw [fresh a m] at e; (first | obtain ⟨rfl, rfl⟩ := spr e | exact (nos e).elim | obtain rfl := Option.some.inj e | cases e)
    have e1 := g₁.keep a o e nf nr
    refine kp a o (g.keep a o e1 (fun m => (List.mem_append.mp m).elim nf nw) fun m => ?_) nw
    rcases g₁.new a m with z | z | z
    · exact nr z
    · exact nf z
    · rw [e] at z; cases z
  · have old : a ∈ ρ₁.flatten → a ∈ ρ₀.flatten ∨ a ∈ f.fr ∨ h₀.get? a = none := g₁.new a
    rcases g.new a m with z | z | z
    · exact old z
    · rcases List.mem_append.mp z with z | z
      · exact .inr (.inl z)
      · exact .inr (.inr (fresh a z))
    · by_cases hf : a ∈ f.fr
      · exact .inr (.inl hf)
      by_cases hr : a ∈ ρ₀.flatten
      · exact .inl hr
      refine .inr (.inr ?_)
      cases q : h₀.get? a with
      | none => rfl
      | some o => rw [g₁.keep a o q hf hr] at z; cases z
theorem RelF.enters {K : Frag} {wr : List Addr} {ρ ρ' : Rho} {es : ES} {h h' h₀ : Heap} (R : RelF K f (ρ'.enter wr) es h') (like : ∀ a ∈ f.fr, a ∈ ρ'.rsv) : RelL K f wr (ρ'.enter wr) es h' :=
  ⟨R, fun a m => List.mem_append_left _ m, fun a m q => by
    have n := (List.nodup_append.mp R.s.nodup).2.1
    exact (List.nodup_append.mp n).2.2 a m a (like a q) rfl⟩
noncomputable def forE (I : FM Its) (S : PV → FM Unit) (B : FM PF) : FM PF := bindE I fun p => forItems p.2 S B p.1
theorem den_for {target iter : Expr} {body : List Stmt} {ps : Pos} {I : FM Its} {S : PV → FM Unit} {B : FM PF}
    (di : DenIt c b f target iter I) (ds : DenA c b f target S) (db : Den c b f RFl (execs body f.env) B)
    (hs : ∀ x, foldedSetIterable iter f.env x = pure x := by intro _; rfl) : Den c b f RFl (exec (.For target iter body [] ps) f.env) (forE I S B) := by
  constructor
  intro A hA ρ s es y es' e R
  obtain ⟨p, es₁, e1, e⟩ := bindE_some e
  refine wpAny_For (wpAny_mono (di.run A hA ρ s es p es₁ e1 R) (fun v s₁ z => wpAny_mono z (fun it s₂ z => ?_) fun _ _ z => z) fun _ _ z => z) hs
  obtain ⟨ρ₁, wr, pos, R₁, g₁, q₁, src, hp, fresh⟩ := z
  have like : ∀ a ∈ f.fr, a ∈ ρ₁.rsv := fun a m => g₁.rsv ▸ R.like a m
  refine codeAny_mono (for_run src hA ds db e (R₁.enters (h := s.heap) (h₀ := s.heap) (ρ := ρ) like) hp) fun r s₃ z => ?_
  cases r with
  | error e => exact z.elim
  | ok fl =>
    obtain ⟨ρ₂, h₂, RL, kp, g₂, q₂, rf⟩ := z
    obtain ⟨ρ', R', g', cy⟩ := RL.left kp g₁ g₂ fresh like
    refine ⟨ρ', R', g', q₁.trans q₂, ?_⟩
    cases rf with
    | next => exact .next
    | brk => exact .brk
    | cont => exact .cont
    | ret r => exact .ret (r.carry cy)
end
end Mine
end
section
set_option Elab.async false
set_option maxRecDepth 100000
set_option linter.unusedVariables false
set_option linter.unusedSimpArgs false
namespace Mine
open PySem PySem.Calls PySem.W PyProof.Rows
section
variable {c : Ctx0} {b : Nat} {f : FI}
theorem Kept.grow {wr : List Addr} {ρ : Rho} {h h' : Heap} (x : Kept wr h h') : Grow wr ρ h ρ h' := ⟨fun a o e n _ => x a o e n, List.prefix_rfl, rfl, fun _ m => .inl m⟩
theorem src_walks {A : Around} {target : Expr} {I : Addr} {fp wr wr' : List Addr} {n : Nat} {P : Nat → Value → Prop} {St : Nat → Heap → Prop} {items : List PV} (W : Walks c.prog c.w A I fp wr n P St) (hn : items.length = n) (hsub : ∀ a ∈ wr, a ∈ wr')
    (live : ∀ k h, St k h → ∀ a ∈ wr', ∃ o, h.get? a = some o) (go : ∀ k s u Q, St k s.heap → Q () s → wpAny (model c.prog c.w) A (letOwnedTupleGo target (.ref I) u) Q noE s) :
    Src c A target (.ref I) wr' (fun _ => true) items (fun k h ρ => St k h ∧ (∀ a ∈ fp, a ∉ wr' → a ∉ ρ.own ∧ ∃ o, h.get? a = some o) ∧ (∀ i x, items[i]? = some x → ∀ u, P i u → RV h ρ u x)) where
  stable := fun k h ρ h' ρ' p g kw => by
    obtain ⟨st, q, r⟩ := p
    refine ⟨W.frame k h h' st fun a m o e => ?_, fun a m nw => ?_, fun i x e u z => (r i x e u z).carry g⟩
    · by_cases mw : a ∈ wr'
      · exact kw a mw o e
      · exact (g.keep a o e (q a m mw).1).1
    · obtain ⟨na, o, e⟩ := q a m nw
      exact ⟨(g.keep a o e na).2, o, (g.keep a o e na).1⟩
  live := fun k h ρ p => live k h p.1
  next := fun ρ st k s x hx p R _ hw => by
    obtain ⟨stt, q, r⟩ := p
    refine W.item k s _ _ (by rw [← hn]; exact (List.getElem?_eq_some_iff.mp hx).1) stt fun v h' tk hv st' kp => ?_
    have kp' : Kept wr' s.heap h' := fun a o e na => kp a o (fun m => na (hsub a m)) e
    have cy : Carry s.heap ρ h' ρ := kp'.grow.carry hw
    refine ⟨v, rfl, go (k + 1) _ v _ st' ⟨(r k x hx v hv).carry cy, ⟨st', fun a m nw => ?_, fun i x e u z => (r i x e u z).carry cy⟩, kp', ⟨rfl, rfl, rfl⟩⟩⟩
    obtain ⟨na, o, e⟩ := q a m nw
    exact ⟨na, o, kp' a o e nw⟩
  done := fun ρ st s p R _ hw => by
    obtain ⟨stt, q, r⟩ := p
    rw [hn] at stt
    exact W.done s _ _ stt fun h' tk kp => ⟨rfl, fun a o e na => kp a o (fun m => na (hsub a m)) e, ⟨rfl, rfl, rfl⟩⟩
  self := fun k s ρ Q p h => W.self k s Q _ p.1 h
noncomputable def ItEnds (c : Ctx0) (A : Around) (target : Expr) (ρ : Rho) (s : Shared) (y : Its) (it : Value) (s₂ : Shared) : Prop :=
  ∃ wr pos, P7 (Src c A target it wr y.2 y.1 pos) ((∀ a o, s.heap.get? a = some o → s₂.heap.get? a = some o)) ((∀ a ∈ wr, s.heap.get? a = none)) (wr.Nodup) ((Carry s.heap ρ s₂.heap (ρ.enter wr) → pos 0 s₂.heap (ρ.enter wr))) ((∀ a ∈ wr, ∃ o, s₂.heap.get? a = some o)) (Same s s₂)
structure Makes (c : Ctx0) (b : Nat) (target : Expr) (p : PV) (st : List AO) (y : Its) : Prop where
  run : ∀ A, AOk b A → ∀ ρ s v, RelS c.K ρ st s.heap → RV s.heap ρ v p → wpAny (model c.prog c.w) A (pyIter v) (ItEnds c A target ρ s y) noE s
theorem ItEnds.toF {A : Around} {target : Expr} {ρ ρ₁ : Rho} {s s₁ s₂ : Shared} {y : Its} {it : Value} {es es' : ES} (R₁ : RelF c.K f ρ₁ es' s₁.heap) (g : Grow f.fr ρ s.heap ρ₁ s₁.heap) (q : Same s s₁) (like : ∀ a ∈ f.fr, a ∈ ρ.rsv)
    (S : RelS c.K ρ es.st s.heap) (z : ItEnds c A target ρ₁ s₁ y it s₂) :
    ∃ ρ' wr pos, P6 (RelF c.K f (ρ'.enter wr) es' s₂.heap) (Grow f.fr ρ s.heap ρ' s₂.heap) (Same s s₂) (Src c A target it wr y.2 y.1 pos) (pos 0 s₂.heap (ρ'.enter wr)) ((∀ a ∈ wr, s.heap.get? a = none)) := by
  obtain ⟨wr, pos, src, k, fresh, nd, hp, lv, sm⟩ := z
  obtain ⟨S', cy⟩ := R₁.s.enter k fresh lv nd
  refine ⟨ρ₁, wr, pos, R₁.carry S' cy (fun a _ o e => k a o e) (fun a m => List.mem_append_right _ (R₁.like a m)), ?_, q.trans sm, src, hp cy, fun a m => ?_⟩
  · exact g.trans ⟨fun a o e _ _ => k a o e, List.prefix_rfl, rfl, fun _ m => .inl m⟩
  · cases e : s.heap.get? a with
    | none => rfl
    | some o =>
      by_cases mf : a ∈ f.fr
      · obtain ⟨_, _, o', e'⟩ := R₁.s.apart a (mem_own' (R₁.like a mf))
        rw [fresh a m] at e'; (first | obtain ⟨rfl, rfl⟩ := spr e' | exact (nos e').elim | obtain rfl := Option.some.inj e' | cases e')
      by_cases mo : a ∈ ρ.flatten
      · have : a ∈ ρ₁.flatten := by
          obtain ⟨t, p⟩ := g.pre
          unfold Rho.flatten; rw [← p, List.flatten_append]; exact List.mem_append_left _ mo
        obtain ⟨_, _, o', e'⟩ := R₁.s.apart a (mem_own this)
        rw [fresh a m] at e'; (first | obtain ⟨rfl, rfl⟩ := spr e' | exact (nos e').elim | obtain rfl := Option.some.inj e' | cases e')
      · have := g.keep a o e mf mo
        rw [fresh a m] at this; cases this
noncomputable def itsE (G : PV → List AO → Option Its) (p : PV) : FM Its := fun es => (G p es.st).map fun y => (y, es)
theorem denit_of {target iter : Expr} {F : FM PV} {G : PV → List AO → Option Its} (d : Den c b f RV (eval iter f.env) F) (mk : ∀ p st y, G p st = some y → Makes c b target p st y) : DenIt c b f target iter (bindE F (itsE G)) := by
  constructor
  intro A hA ρ s es y es' e R
  obtain ⟨p, es₁, e1, e⟩ := bindE_some e
  unfold itsE at e
  obtain ⟨y', hg, e⟩ := Option.map_eq_some_iff.mp e
  (first | obtain ⟨rfl, rfl⟩ := spr e | exact (nos e).elim | obtain rfl := Option.some.inj e | cases e)
  refine wpAny_mono (d.run A hA ρ s es p es' e1 R) (fun v s₁ z => ?_) fun _ _ z => z
  obtain ⟨ρ₁, R₁, g, q, r⟩ := z
  refine wpAny_mono ((mk p es'.st y hg).run A hA ρ₁ s₁ v R₁.s r) (fun it s₂ z => z.toF (es := es) R₁ g q R.like R.s) fun _ _ z => z
theorem go_fields {A : Around} {target : Expr} {I : Addr} {u : Value} {Q : Unit → Shared → Prop} {s : Shared} {ty : String} {o : Obj} {vs : Array Value} (ho : s.heap.get? I = some o) (hc : o.cls = .type ty) (hd : o.data = .fields vs)
    (hn : (["enumerate", "zip", "dict_itemiterator", "dict_reverseitemiterator", "odict_iterator", "itertools.zip_longest", "itertools.pairwise"].contains ty) = false) (h : Q () s) :
    wpAny (model c.prog c.w) A (letOwnedTupleGo target (.ref I) u) Q noE s := by
  have key : ∀ a, wpAny (model c.prog c.w) A (do
      let o ← load I
      match o.cls, o.data with
      | .type n, .fields vs =>
        if ["enumerate", "zip", "dict_itemiterator", "dict_reverseitemiterator", "odict_iterator", "itertools.zip_longest", "itertools.pairwise"].contains n && vs[0]? == some (rawInt a) then
          rule "for.unpacks-the-owned-tuple"
          updateField I 0 .none
      | _, _ => pure () : Sem Unit) Q noE s := fun a => by
    refine wpAny_bind (wpAny_load ho ?_)
    rw [hc, hd]
    dsimp only
    rw [hn, Bool.false_and, if_neg (by simp)]
    exact wpAny_pure h
  unfold letOwnedTupleGo
  split
  · cases u <;> first | exact wpAny_pure h | exact key _
  · cases u <;> first | exact wpAny_pure h | exact key _
  · exact wpAny_pure h
theorem rvs_of {h : Heap} {ρ : Rho} {vs : Array Value} {xs : List PV} (r : RVs h ρ vs.toList xs) {i : Nat} {x : PV} {u : Value} (e : xs[i]? = some x) (hu : vs[i]? = some u) : RV h ρ u x := by
  obtain ⟨v, a, z⟩ := r.get e
  rw [Array.getElem?_toList, hu] at a
  cases a; exact z
theorem makes_lst {target : Expr} {xs : List PV} {st : List AO} : Makes c b target (.lst xs) st (xs, fun _ => true) := by
  constructor
  intro A hA ρ s v R r
  obtain ⟨a, vs, na, q, rr, rfl⟩ := r.inv
  replace q := isL q
  have hne : a ≠ s.heap.objs.size := by obtain ⟨o, e, _⟩ := q; exact Nat.ne_of_lt (Heap.lt_size e)
  have hl : xs.length = vs.toArray.size := by rw [List.size_toArray]; exact rr.length.symm
  refine wpAny_pyIter_list q ?_
  refine ⟨[s.heap.objs.size], _, src_walks (items := xs) (wr' := [s.heap.objs.size]) (Walks.list hA.handled s.heap.objs.size a hne vs.toArray) hl (fun _ m => m) (fun k h p x m => ?_) (fun k s' u Q p h => ?_), fun x o e => Heap.get?_push_of_some _ e, fun x m => by rw [List.mem_singleton.mp m]; exact get_ge (Nat.le_refl _), by simp, fun cy => ?_, fun x m => ?_, ⟨rfl, rfl, rfl⟩⟩
  · obtain ⟨⟨o, e, _⟩, _⟩ := p; rw [List.mem_singleton.mp m]; exact ⟨o, e⟩
  · obtain ⟨⟨o, e, ec, ed⟩, _⟩ := p; exact go_fields e ec ed (by decide) h
  · obtain ⟨o, e, z⟩ := q
    refine ⟨⟨⟨_, Heap.get?_push_size _ rfl, rfl, rfl⟩, ⟨o, Heap.get?_push_of_some _ e, z⟩⟩, fun x m nw => ?_, fun i x e u hu => (rvs_of (by simpa using rr) e hu).carry cy⟩
    simp at m nw
    rcases m with m | m
    · exact absurd m nw
    · subst m; exact ⟨(cy.keep _ o e na).2, o, Heap.get?_push_of_some _ e⟩
  · rw [List.mem_singleton.mp m]; exact ⟨_, Heap.get?_push_size _ rfl⟩
theorem makes_tup {target : Expr} {xs : List PV} {st : List AO} : Makes c b target (.tup xs) st (xs, fun _ => true) := by
  constructor
  intro A hA ρ s v R r
  obtain ⟨a, vs, na, q, rr, rfl⟩ := r.inv
  have hne : a ≠ s.heap.objs.size := by obtain ⟨o, e, _⟩ := q; exact Nat.ne_of_lt (Heap.lt_size e)
  have hl : xs.length = vs.toArray.size := by rw [List.size_toArray]; exact rr.length.symm
  refine wpAny_pyIter_tuple q ?_
  refine ⟨[s.heap.objs.size], _, src_walks (items := xs) (wr' := [s.heap.objs.size]) (Walks.tuple hA.handled s.heap.objs.size a hne vs.toArray) hl (fun _ m => m) (fun k h p x m => ?_) (fun k s' u Q p h => ?_), fun x o e => Heap.get?_push_of_some _ e, fun x m => by rw [List.mem_singleton.mp m]; exact get_ge (Nat.le_refl _), by simp, fun cy => ?_, fun x m => ?_, ⟨rfl, rfl, rfl⟩⟩
  · obtain ⟨⟨o, e, _⟩, _⟩ := p; rw [List.mem_singleton.mp m]; exact ⟨o, e⟩
  · obtain ⟨⟨o, e, ec, ed⟩, _⟩ := p; exact go_fields e ec ed (by decide) h
  · obtain ⟨o, e, z⟩ := q
    refine ⟨⟨⟨_, Heap.get?_push_size _ rfl, rfl, rfl⟩, ⟨o, Heap.get?_push_of_some _ e, z⟩⟩, fun x m nw => ?_, fun i x e u hu => (rvs_of (by simpa using rr) e hu).carry cy⟩
    simp at m nw
    rcases m with m | m
    · exact absurd m nw
    · subst m; exact ⟨(cy.keep _ o e na).2, o, Heap.get?_push_of_some _ e⟩
  · rw [List.mem_singleton.mp m]; exact ⟨_, Heap.get?_push_size _ rfl⟩
noncomputable def charsOf (x : Str) : List PV := x.cps.toList.map fun u => .str ⟨#[u]⟩
theorem makes_str {target : Expr} {x : Str} {st : List AO} (ha : x.cps.all (· < 128) = true) : Makes c b target (.str x) st (charsOf x, fun _ => true) := by
  constructor
  intro A hA ρ s v R r
  obtain ⟨t, rfl⟩ := r.inv
  refine wpAny_pyIter_ascii ha ?_
  refine ⟨[s.heap.objs.size], _, src_walks (items := charsOf x) (wr' := [s.heap.objs.size]) (Walks.strAscii hA.handled s.heap.objs.size x t) (by simp [charsOf]) (fun _ m => m) (fun k h p x m => ?_) (fun k s' u Q p h => ?_), fun x o e => Heap.get?_push_of_some _ e, fun x m => by rw [List.mem_singleton.mp m]; exact get_ge (Nat.le_refl _), by simp, fun cy => ?_, fun x m => ?_, ⟨rfl, rfl, rfl⟩⟩
  · obtain ⟨o, e, _⟩ := p; rw [List.mem_singleton.mp m]; exact ⟨o, e⟩
  · obtain ⟨o, e, ec, ed⟩ := p; exact go_fields e ec ed (by decide) h
  · refine ⟨⟨_, Heap.get?_push_size _ rfl, rfl, rfl⟩, fun x m nw => absurd m nw, fun i y e u hu => ?_⟩
    obtain ⟨cp, t', hc, rfl⟩ := hu
    unfold charsOf at e
    rw [List.getElem?_map, Array.getElem?_toList, hc] at e
    (first | obtain ⟨rfl, rfl⟩ := spr e | exact (nos e).elim | obtain rfl := Option.some.inj e | cases e); exact .str _ _
  · rw [List.mem_singleton.mp m]; exact ⟨_, Heap.get?_push_size _ rfl⟩
noncomputable def chkL (i : Nat) (xs : List PV) (st : List AO) : Bool := @decide (st[i]? = some (.list xs)) (Classical.propDecidable _)
theorem chkL_some {i : Nat} {xs : List PV} {st : List AO} (h : chkL i xs st = true) : st[i]? = some (.list xs) := @of_decide_eq_true _ (Classical.propDecidable _) h
theorem RelS.listAt {K : Frag} {ρ : Rho} {st : List AO} {h : Heap} (R : RelS K ρ st h) {i : Nat} {a : Addr} {xs : List PV} (e : headAt ρ i = some a) (q : st[i]? = some (.list xs)) : ∃ vs n, P3 (h.get? a = some { cls := .type "list", data := .seq vs n }) (RVs h ρ vs.toList xs) (ρ.ents[i]? = some [a]) := by
  obtain ⟨r, hr⟩ := headAt_some e
  obtain ⟨a', vs, n, e1, e2, e3⟩ := R.objs i _ _ hr q
  (first | obtain ⟨rfl, rfl⟩ := spr e1 | exact (nos e1).elim | obtain rfl := Option.some.inj e1 | cases e1)
  exact ⟨vs, n, e2, e3, hr⟩
theorem makes_ref {target : Expr} {i : Nat} {xs : List PV} {st : List AO} (q : st[i]? = some (.list xs)) : Makes c b target (.ref i) st (xs, chkL i xs) := by
  constructor
  intro A hA ρ s v R r
  obtain ⟨a, hd, rfl⟩ := r.inv
  obtain ⟨vs, n, e0, _, _⟩ := R.listAt hd q
  have alt : a < s.heap.objs.size := Heap.lt_size e0
  refine wpAny_pyIter_list (isList_of e0) ?_
  refine ⟨[s.heap.objs.size], fun k h ρ => h.IsListIter s.heap.objs.size a k ∧ headAt ρ i = some a, ⟨fun k h ρ h' ρ' p g kw => ⟨p.1.at fun o e => kw _ (by simp) o e, g.head _ _ p.2⟩, fun k h ρ p x m => ?_, fun ρ st k s' x hx p R hc hw => ?_, fun ρ st s' p R hc hw => ?_, fun k s' ρ Q p h => wpAny_pyIter_listiter p.1 h⟩, fun x o e => Heap.get?_push_of_some _ e, fun x m => by rw [List.mem_singleton.mp m]; exact get_ge (Nat.le_refl _), by simp, fun cy => ⟨⟨_, Heap.get?_push_size _ rfl, rfl, rfl⟩, cy.head _ _ hd⟩, fun x m => ?_, ⟨rfl, rfl, rfl⟩⟩
  · obtain ⟨⟨o, e, _⟩, _⟩ := p; rw [List.mem_singleton.mp m]; exact ⟨o, e⟩
  · obtain ⟨hit, hd'⟩ := p
    obtain ⟨vs, n, e1, rr, _⟩ := R.listAt hd' (chkL_some hc)
    obtain ⟨u, hu, ru⟩ := rr.getAt hx
    refine wpAny_pyNext_list_item hit (isList_of e1) hu fun h' hit' hs => ?_
    have kp : Kept [s.heap.objs.size] s'.heap h' := .of_same (by simp) hs
    refine ⟨u, rfl, ?_⟩
    obtain ⟨o, e, ec, ed⟩ := id hit'
    exact go_fields e ec ed (by decide) ⟨ru.carry (kp.grow.carry hw), ⟨hit', hd'⟩, kp, ⟨rfl, rfl, rfl⟩⟩
  · obtain ⟨hit, hd'⟩ := p
    obtain ⟨vs, n, e1, rr, _⟩ := R.listAt hd' (chkL_some hc)
    have hl := rr.length
    rw [Array.length_toList] at hl
    refine wpAny_pyNext_list_end hA.handled hit (isList_of e1) (by rw [Array.getElem?_eq_none_iff, hl]; exact Nat.le_refl _) fun h' hx => ?_
    exact ⟨rfl, .of_extBut (by simp) hx, ⟨rfl, rfl, rfl⟩⟩
  · rw [List.mem_singleton.mp m]; exact ⟨_, Heap.get?_push_size _ rfl⟩
noncomputable def itsV (p : PV) (st : List AO) : Option Its := match p with
  | .lst xs => some (xs, fun _ => true)
  | .tup xs => some (xs, fun _ => true)
  | .str x => if x.cps.all (· < 128) = true then some (charsOf x, fun _ => true) else none
  | .ref i => (match st[i]? with
    | some (.list xs) => some (xs, chkL i xs)
    | _ => none)
  | _ => none
theorem makes_v {target : Expr} {p : PV} {st : List AO} {y : Its} (e : itsV p st = some y) : Makes c b target p st y := by
  unfold itsV at e
  split at e
  · (first | obtain ⟨rfl, rfl⟩ := spr e | exact (nos e).elim | obtain rfl := Option.some.inj e | cases e); exact makes_lst
  · (first | obtain ⟨rfl, rfl⟩ := spr e | exact (nos e).elim | obtain rfl := Option.some.inj e | cases e); exact makes_tup
  · split at e <;> (first | obtain ⟨rfl, rfl⟩ := spr e | exact (nos e).elim | obtain rfl := Option.some.inj e | cases e)
    exact makes_str ‹_›
  · split at e <;> (first | obtain ⟨rfl, rfl⟩ := spr e | exact (nos e).elim | obtain rfl := Option.some.inj e | cases e)
    exact makes_ref ‹_›
  · (first | obtain ⟨rfl, rfl⟩ := spr e | exact (nos e).elim | obtain rfl := Option.some.inj e | cases e)
theorem denit_v {target iter : Expr} {F : FM PV} (d : Den c b f RV (eval iter f.env) F) : DenIt c b f target iter (bindE F (itsE itsV)) := denit_of d fun _ _ _ => makes_v
end
end Mine
end
section
set_option Elab.async false
set_option maxRecDepth 100000
set_option linter.unusedVariables false
set_option linter.unusedSimpArgs false
namespace Mine
open PySem PySem.Calls PySem.W PyProof.Rows
section
variable {c : Ctx0} {b : Nat} {f : FI}
structure OpIt (c : Ctx0) (b : Nat) (target : Expr) (fv : Value) (G : List PV → List AO → Option Its) : Prop where
  run : ∀ A, AOk b A → ∀ ρ s st vs ps y, G ps st = some y → RVs s.heap ρ vs ps → RelS c.K ρ st s.heap → wpAny (model c.prog c.w) A (call fv vs) (fun v s₁ => wpAny (model c.prog c.w) A (pyIter v) (ItEnds c A target ρ s y) noE s₁) noE s
noncomputable def itsEs (G : List PV → List AO → Option Its) (p : List PV) : FM Its := fun es => (G p es.st).map fun y => (y, es)
theorem denit_call {target : Expr} {x : Str} {np pos : Pos} {fv : Value} {args : List Expr} {FA : FM (List PV)} {G : List PV → List AO → Option Its} (dn : Den c b f RV (eval (.Name x np) f.env) (pureE (.raw fv))) (hk : KeepOk c.K fv)
    (da : DenArgs c b f pos args FA) (o : OpIt c b target fv G) (ha : args.all notStarred = true := by rfl) : DenIt c b f target (.Call (.Name x np) args [] pos) (bindE FA (itsEs G)) := by
  constructor
  intro A hA ρ s es y es' e R
  obtain ⟨ps, es₁, e1, e⟩ := bindE_some e
  unfold itsEs at e
  obtain ⟨y', hg, e⟩ := Option.map_eq_some_iff.mp e
  (first | obtain ⟨rfl, rfl⟩ := spr e | exact (nos e).elim | obtain rfl := Option.some.inj e | cases e)
  refine wpAny_Call_NameR (wpAny_mono (dn.run A hA ρ s es _ es rfl R) (fun v s₁ z => ?_) fun _ _ z => z)
  obtain ⟨ρ₁, R₁, g₁, q₁, r₁⟩ := z
  (first | obtain ⟨_, rfl⟩ := r₁.inv | cases r₁)
  have hst := starEach_plain (env := f.env) (pos := pos) ha
  refine callWith_of (P := c.K.In) ?_ (hk _) (evalArgs_spliced hst (wpAny_mono (da.run A hA ρ₁ s₁ es ps es' e1 R₁) (fun vs s₂ z => ?_) fun _ _ z => z))
  · rw [List.any_nil, Bool.or_false, List.any_eq_not_all_not, Bool.not_eq_false']
    simpa using hst
  · obtain ⟨ρ₂, R₂, g₂, q₂, r₂⟩ := z
    refine ⟨R₂.s.top, wpAny_mono (o.run A hA ρ₂ s₂ es'.st vs ps y hg r₂ R₂.s) (fun v s₃ z => wpAny_mono z (fun it s₄ z => ?_) fun _ _ z => z) fun _ _ z => z⟩
    exact z.toF (es := es) R₂ (g₁.trans g₂) (q₁.trans q₂) R.like R.s
noncomputable def rangeP (x y z : Int) : List PV := (List.range (Builtin.Range.rangeSize x y z).toNat).map fun i : Nat => .int (x + (i : Int) * z)
noncomputable def itsRange (ps : List PV) (_ : List AO) : Option Its := match ps with
  | [.int y] => if Builtin.Range.small 0 y 1 = true then some (rangeP 0 y 1, fun _ => true) else none
  | _ => none
theorem rangeSize_nonneg (x y z : Int) : ((Builtin.Range.rangeSize x y z).toNat : Int) = Builtin.Range.rangeSize x y z := (PyProof.Rows.rangeSize_toNat x y z).symm
theorem range_iter {A : Around} (hA : AOk b A) {target : Expr} {ρ : Rho} {s s₁ : Shared} {r : Addr} {x y z : Int} {t u v : Tok} (k : ∀ a o, s.heap.get? a = some o → s₁.heap.get? a = some o) (sm : Same s s₁) (hr : IsRange s₁.heap r x y z t u v) (hs : Builtin.Range.small x y z = true) :
    wpAny (model c.prog c.w) A (pyIter (.ref r)) (ItEnds c A target ρ s (rangeP x y z, fun _ => true)) noE s₁ := by
  refine wpAny_pyIter_range hr hs ?_
  have W : Walks c.prog c.w A s₁.heap.objs.size [s₁.heap.objs.size] [s₁.heap.objs.size] _ _ _ := Walks.range hA.handled s₁.heap.objs.size x z (Builtin.Range.rangeSize x y z).toNat
  refine ⟨[s₁.heap.objs.size], _, src_walks (items := rangeP x y z) (wr' := [s₁.heap.objs.size]) W (by simp [rangeP]) (fun _ m => m) (fun k h p x m => ?_) (fun k s' u Q p h => ?_), fun x o e => Heap.get?_push_of_some _ (k x o e), fun x m => ?_, by simp, fun cy => ?_, fun x m => ?_, ⟨sm.1, sm.2.1, sm.2.2⟩⟩
  · rw [List.mem_singleton.mp m]; exact ⟨_, p⟩
  · exact go_fields p rfl rfl (by decide) h
  · rw [List.mem_singleton.mp m]
    cases e : s.heap.get? s₁.heap.objs.size with
    | none => rfl
    | some o => exact absurd (Heap.lt_size (k _ _ e)) (Nat.lt_irrefl _)
  · refine ⟨?_, fun x m nw => absurd m nw, fun i w e uu hu => ?_⟩
    · rw [rangeSize_nonneg]
      show Heap.get? _ _ = _
      rw [Heap.get?_push_size _ rfl]
      simp
    · obtain ⟨t', rfl⟩ := hu
      unfold rangeP at e
      rw [List.getElem?_map] at e
      by_cases hi : i < (Builtin.Range.rangeSize x y z).toNat
      · rw [List.getElem?_range hi] at e; (first | obtain ⟨rfl, rfl⟩ := spr e | exact (nos e).elim | obtain rfl := Option.some.inj e | cases e); exact .int _ _
      · rw [List.getElem?_eq_none (by simpa using hi)] at e; (first | obtain ⟨rfl, rfl⟩ := spr e | exact (nos e).elim | obtain rfl := Option.some.inj e | cases e)
  · rw [List.mem_singleton.mp m]; exact ⟨_, Heap.get?_push_size _ rfl⟩
theorem opit_range {target : Expr} : OpIt c b target (.type "range") itsRange := by
  constructor
  intro A hA ρ s st vs ps y e r R
  unfold itsRange at e
  split at e
  · split at e <;> (first | obtain ⟨rfl, rfl⟩ := spr e | exact (nos e).elim | obtain rfl := Option.some.inj e | cases e)
    rename_i n hs
    obtain ⟨_, _, rfl, ra, rr⟩ := r.inv; obtain rfl := rr.inv; obtain ⟨t, rfl⟩ := ra.inv; exact call_range_1 (range_iter hA (fun _ _ e => Heap.get?_push_of_some _ e) ⟨rfl, rfl, rfl⟩ (IsRange.new ..) hs)
  · (first | obtain ⟨rfl, rfl⟩ := spr e | exact (nos e).elim | obtain rfl := Option.some.inj e | cases e)
noncomputable abbrev DenAs (c : Ctx0) (b : Nat) (f : FI) (elts : List Expr) (F : List PV → FM Unit) : Prop := DenK c b f RVs RU (fun vs => assignInOrder ((assignEach elts f.env).map (·.2)) vs) F
noncomputable def asNil (ps : List PV) : FM Unit := match ps with | [] => pureE () | _ => failE
noncomputable def asCons (S : PV → FM Unit) (T : List PV → FM Unit) (ps : List PV) : FM Unit := match ps with
  | p :: r => bindE (S p) fun _ => T r
  | [] => failE
theorem assignEach_of {x : Expr} {rest : List Expr} {env : Env} (h : notStarred x = true) : assignEach (x :: rest) env = (false, assign x env) :: assignEach rest env := by
  cases x <;> first | rfl | cases h
theorem denas_nil : DenAs c b f [] asNil := by
  constructor
  intro A hA ρ s es vs ps y es' e r R
  unfold asNil at e
  split at e <;> (first | obtain ⟨rfl, rfl⟩ := spr e | exact (nos e).elim | obtain rfl := Option.some.inj e | cases e)
  cases r
  exact wpAny_pure (Ends.here R trivial)
theorem denas_cons {x : Expr} {rest : List Expr} {S : PV → FM Unit} {T : List PV → FM Unit} (ds : DenA c b f x S) (dt : DenAs c b f rest T) (hx : notStarred x = true := by rfl) : DenAs c b f (x :: rest) (asCons S T) := by
  constructor
  intro A hA ρ s es vs ps y es' e r R
  unfold asCons at e
  split at e
  · obtain ⟨_, es₁, e1, e2⟩ := bindE_some e
    obtain ⟨_, _, rfl, rv, rr⟩ := r.inv
    rw [assignEach_of hx]
    show wpAny _ _ (holding _ (assign x f.env _) >>= fun _ => assignInOrder ((assignEach rest f.env).map (·.2)) _) _ _ _
    refine wpAny_bind (wpAny_holding (wpAny_mono (ds.run A hA ρ s es _ _ _ es₁ e1 rv R) (fun _ s₁ z => ?_) fun _ _ z => z))
    obtain ⟨ρ₁, R₁, g₁, q₁, _⟩ := z
    exact wpAny_mono (dt.run A hA ρ₁ s₁ es₁ _ _ _ es' e2 (rr.grow g₁ R.like) R₁) (fun _ _ z => z.after g₁ q₁) fun _ _ z => z
  · (first | obtain ⟨rfl, rfl⟩ := spr e | exact (nos e).elim | obtain rfl := Option.some.inj e | cases e)
theorem assignEach_all {env : Env} : ∀ {elts : List Expr}, elts.all notStarred = true → (assignEach elts env).length = elts.length ∧ (assignEach elts env).findIdx? (·.1) = none
  | [], _ => ⟨rfl, rfl⟩
  | x :: r, h => by
    rw [List.all_cons, Bool.and_eq_true] at h
    rw [assignEach_of h.1]
    obtain ⟨a, b⟩ := assignEach_all (env := env) h.2
    exact ⟨by simp [a], by rw [List.findIdx?_cons, b]; rfl⟩
noncomputable def unpackE (n : Nat) (T : List PV → FM Unit) (p : PV) : FM Unit := match p with
  | .tup xs => if xs.length = n then T xs else failE
  | _ => failE
theorem dena_tuple {elts : List Expr} {k : Nat} {pos : Pos} {T : List PV → FM Unit} (dt : DenAs c b f elts T) (he : elts.all notStarred = true := by rfl) : DenA c b f (.Tuple elts k pos) (unpackE elts.length T) := by
  constructor
  intro A hA ρ s es v p y es' e r R
  unfold unpackE at e
  split at e
  · split at e
    · rename_i xs hl
      obtain ⟨a, vs, na, q, rr, rfl⟩ := r.inv
      obtain ⟨h1, h2⟩ := assignEach_all (env := f.env) he
      refine wpAny_assign_Tuple hA.handled q (by rw [h1, List.size_toArray, rr.length, hl]) h2 fun h' hx => ?_
      have k : ∀ a o, s.heap.get? a = some o → h'.get? a = some o := fun a o e => hx a o (Nat.ne_of_lt (Heap.lt_size e)) e
      obtain ⟨S, g⟩ := R.s.ext k
      have := dt.run A hA ρ { s with heap := h' } es vs xs y es' e (rr.grow g noFr) (R.ofS S g)
      exact wpAny_mono this (fun _ _ z => Ends.after (s₁ := { s with heap := h' }) (g.wider (fun _ m => nomatch m)) ⟨rfl, rfl, rfl⟩ z) fun _ _ z => z
    · (first | obtain ⟨rfl, rfl⟩ := spr e | exact (nos e).elim | obtain rfl := Option.some.inj e | cases e)
  · (first | obtain ⟨rfl, rfl⟩ := spr e | exact (nos e).elim | obtain rfl := Option.some.inj e | cases e)
end
end Mine
end
section
set_option Elab.async false
set_option maxRecDepth 100000
set_option linter.unusedVariables false
set_option linter.unusedSimpArgs false
namespace Mine
open PySem PySem.Calls PySem.W PyProof.Rows
section
variable {c : Ctx0} {b : Nat} {f : FI}
structure RelD (K : Frag) (f : FI) (D : Addr) (ρ : Rho) (es : ES) (zs : List PV) (h : Heap) : Prop where
  r : RelF K f ρ es h
  dw : D ∈ ρ.rsv
  dn : D ∉ f.fr
  acc : ∃ vs, h.PlainList D vs ∧ RVs h ρ vs.toList zs
theorem RelD.step {K : Frag} {D : Addr} {ρ ρ' : Rho} {es es' : ES} {zs : List PV} {h h' : Heap} (R : RelD K f D ρ es zs h) (R' : RelF K f ρ' es' h') (g : Grow f.fr ρ h ρ' h') : RelD K f D ρ' es' zs h' := by
  obtain ⟨vs, ⟨n, e⟩, rr⟩ := R.acc
  exact ⟨R', g.rsv ▸ R.dw, R.dn, vs, ⟨n, g.keep D _ e R.dn (rsv_apart R.r.s.nodup R.dw)⟩, rr.grow g R.r.like⟩
theorem RelD.kept {K : Frag} {D : Addr} {wr : List Addr} {ρ : Rho} {es : ES} {zs : List PV} {h h' : Heap} (R : RelD K f D ρ es zs h) (hw : ∀ a ∈ wr, a ∈ ρ.rsv) (hd : ∀ a ∈ wr, a ∉ f.fr ∧ a ≠ D) (k : Kept wr h h') (lv : ∀ a ∈ wr, ∃ o, h'.get? a = some o) : RelD K f D ρ es zs h' := by
  obtain ⟨S, g⟩ := R.r.s.wrote hw k lv
  obtain ⟨vs, ⟨n, e⟩, rr⟩ := R.acc
  exact ⟨R.r.carry S (g.carry hw) (fun a m o e => k a o e fun z => (hd a z).1 m) R.r.like, R.dw, R.dn, vs, ⟨n, k D _ e fun m => (hd D m).2 rfl⟩, rr.grow g hw⟩
structure DenD (c : Ctx0) (b : Nat) (f : FI) (T : Value → Sem Unit) (F : List PV → FM (List PV)) : Prop where
  run : ∀ A, AOk b A → ∀ D ρ s es zs zs' es', F zs es = some (zs', es') → RelD c.K f D ρ es zs s.heap →
    wpAny (model c.prog c.w) A (T (.ref D)) (fun _ s' => ∃ ρ', P3 (RelD c.K f D ρ' es' zs' s'.heap) (Grow (D :: f.fr) ρ s.heap ρ' s'.heap) (Same s s')) noE s
noncomputable def emitE (X : FM PV) (zs : List PV) : FM (List PV) := bindE X fun p => if zs.length ≤ sizeLine then pureE (zs ++ [p]) else failE
theorem dend_emit {elt : Expr} {X : FM PV} (dx : Den c b f RV (eval elt f.env) X) : DenD c b f (fun acc => do let _ ← call (.builtin "list.append") [acc, ← eval elt f.env]) (emitE X) := by
  constructor
  intro A hA D ρ s es zs zs' es' e R
  obtain ⟨p, es₁, e1, e⟩ := bindE_some e
  split at e <;> cases e
  rename_i hz
  refine wpAny_bind (wpAny_mono (dx.run A hA ρ s es p es' e1 R.r) (fun v s₁ z => ?_) fun _ _ z => z)
  obtain ⟨ρ₁, R₁, g₁, q₁, r₁⟩ := z
  have RD := R.step R₁ g₁
  obtain ⟨vs, il, rr⟩ := RD.acc
  have hl := rr.length
  rw [Array.length_toList] at hl
  refine wpAny_bind (wpAny_list_append_plain il (fun h' il' hs => ?_) (by rw [hl]; exact hz))
  obtain ⟨S, g⟩ := R₁.s.wrote (wr := [D]) (h' := h') (fun a m => by rw [List.mem_singleton.mp m]; exact RD.dw) (Kept.of_same (by simp) hs) (fun a m => by rw [List.mem_singleton.mp m]; obtain ⟨n, e⟩ := il'; exact ⟨_, e⟩)
  have hw : ∀ a ∈ [D], a ∈ ρ₁.rsv := fun a m => by rw [List.mem_singleton.mp m]; exact RD.dw
  refine wpAny_pure ⟨ρ₁, ⟨R₁.carry S (g.carry hw) (fun a m o e => (hs.2 a fun q => RD.dn (q ▸ m)).trans e) R₁.like, RD.dw, RD.dn, _, il', ?_⟩, ?_, q₁.trans ⟨rfl, rfl, rfl⟩⟩
  · rw [Array.toList_push]
    exact (rr.grow g hw).append (.cons (r₁.grow g hw) .nil)
  · exact (g₁.wider fun a m => List.mem_cons_of_mem _ m).trans (g.wider fun a m => by rw [List.mem_singleton.mp m]; exact List.mem_cons_self)
noncomputable abbrev DenTs (c : Ctx0) (b : Nat) (f : FI) (ifs : List Expr) (F : FM Bool) : Prop :=
  Den c b f RB (forIn ifs true fun x r => if r = true then do let ok ← isTrue x f.env (eval x f.env); pure (ForInStep.yield ok) else pure (ForInStep.yield r)) F
theorem dents_nil : DenTs c b f [] (pureE true) := by
  constructor
  intro A hA ρ s es y es' e R
  (first | obtain ⟨rfl, rfl⟩ := spr e | exact (nos e).elim | obtain rfl := Option.some.inj e | cases e)
  exact wpAny_tests_nil (Ends.here R rfl)
theorem dents_one {x : Expr} {F : FM Bool} (d : Den c b f RB (isTrue x f.env (eval x f.env)) F) : DenTs c b f [x] F := by
  constructor
  intro A hA ρ s es y es' e R
  exact wpAny_tests_one (d.run A hA ρ s es y es' e R)
noncomputable def compItems (chk : List AO → Bool) (S : PV → FM Unit) (T : FM Bool) (B : List PV → FM (List PV)) : List PV → List PV → FM (List PV)
  | [], zs => guardE chk (pureE zs)
  | x :: r, zs => guardE chk (bindE (S x) fun _ => bindE T fun t => if t then bindE (B zs) fun zs' => compItems chk S T B r zs' else compItems chk S T B r zs)
theorem comp_run {A : Around} {elt₀ : Expr} {gens : List Comprehension} {scope : Scope} {epos : Pos} {d : Nat} {target : Expr} {p : Pos} {ifs : List Expr} {it : Value} {wr : List Addr} {chk : List AO → Bool} {items : List PV} {pos : Nat → Heap → Rho → Prop} {S : PV → FM Unit} {T : FM Bool} {TT : Value → Sem Unit} {B : List PV → FM (List PV)} {D : Addr}
    (heq : ∀ acc, compTurn (.ListComp elt₀ gens scope epos) d it acc f.env = (standAt p >>= fun _ => pyNext it >>= fun r => match r with
      | none => pure (.done .next)
      | some v => letOwnedTupleGo target it v >>= fun _ => assign target f.env v >>= fun _ =>
        (forIn ifs true fun x r => if r = true then do let ok ← isTrue x f.env (eval x f.env); pure (ForInStep.yield ok) else pure (ForInStep.yield r)) >>= fun ok =>
          if ok = true then TT acc >>= fun _ => again (.compLoop (.ListComp elt₀ gens scope epos) d it acc f.env) else again (.compLoop (.ListComp elt₀ gens scope epos) d it acc f.env)))
    (src : Src c A target it wr chk items pos) (hA : AOk b A) (ds : DenA c b f target S) (dt : DenTs c b f ifs T) (db : DenD c b f TT B) {ρ₀ : Rho} {s₀ : Shared} {es₀ es' : ES} {zs₀ zs' : List PV}
    (ev : compItems chk S T B items zs₀ es₀ = some (zs', es')) (R₀ : RelD c.K f D ρ₀ es₀ zs₀ s₀.heap) (hw : ∀ a ∈ wr, a ∈ ρ₀.rsv) (hd : ∀ a ∈ wr, a ∉ f.fr ∧ a ≠ D) (hp : pos 0 s₀.heap ρ₀) :
    codeAny (model c.prog c.w) A (.compLoop (.ListComp elt₀ gens scope epos) d it (.ref D) f.env) (fun r s' => match r with
      | .ok fl => fl = .next ∧ ∃ ρ' h', P4 (RelD c.K f D ρ' es' zs' h') (Kept wr h' s'.heap) (Grow (D :: f.fr ++ wr) ρ₀ s₀.heap ρ' h') (Same s₀ s')
      | .error _ => False) s₀ := by
  refine codeAny_loop rfl (fun n s => ∃ k ρ es zs, P8 (n = items.length - k) (k ≤ items.length) (compItems chk S T B (items.drop k) zs es = some (zs', es')) (RelD c.K f D ρ es zs s.heap) ((∀ a ∈ wr, a ∈ ρ.rsv)) (pos k s.heap ρ) (Grow (D :: f.fr ++ wr) ρ₀ s₀.heap ρ s.heap) (Same s₀ s)) ?_ items.length ⟨0, ρ₀, es₀, zs₀, by simp, Nat.zero_le _, by simpa using ev, R₀, hw, hp, .refl, .refl⟩
  rintro n s ⟨k, ρ, es, zs, rfl, hk, e1, R, hw, hp, g, sm⟩
  show wpAny _ A ((compTurn (.ListComp elt₀ gens scope epos) d it (.ref D) f.env).onRaise (fun x => do noteFrame x f.env; theTreesLotGoes x)) _ _ s
  refine wpAny_noted ?_
  rw [heq]
  refine wpAny_bind (wpAny_standAt (wpAny_bind ?_))
  by_cases hlt : k < items.length
  · have hx : items[k]? = some items[k] := by simp [hlt]
    rw [List.drop_eq_getElem_cons hlt] at e1
    obtain ⟨hc, e1⟩ := guardE_some e1
    obtain ⟨_, es₁, e2, e1⟩ := bindE_some e1
    obtain ⟨t, es₂, e3, e1⟩ := bindE_some e1
    refine wpAny_mono (src.next ρ es.st k s _ hx hp R.r.s hc hw) (fun r s₁ z => ?_) fun _ _ z => z.elim
    obtain ⟨u, rfl, z⟩ := z
    refine wpAny_bind (wpAny_mono z (fun _ s₂ z => ?_) fun _ _ z => z.elim)
    obtain ⟨ru, hp₂, ad, sm₂⟩ := z
    have lv := src.live _ _ _ hp₂
    have R₂ := R.kept hw hd ad lv
    have g₂ := (R.r.s.wrote hw ad lv).2
    have ga : Grow (D :: f.fr ++ wr) ρ₀ s₀.heap ρ s₂.heap := g.trans (g₂.wider fun a m => List.mem_append_right _ m)
    refine wpAny_bind (wpAny_mono (ds.run A hA ρ s₂ es u _ _ es₁ e2 ru R₂.r) (fun _ s₃ z => ?_) fun _ _ z => z.elim)
    obtain ⟨ρ₃, R₃, g₃, q₃, _⟩ := z
    refine wpAny_bind (wpAny_mono (dt.run A hA ρ₃ s₃ es₁ t es₂ e3 R₃) (fun ok s₄ z => ?_) fun _ _ z => z.elim)
    obtain ⟨ρ₄, R₄, g₄, q₄, rfl⟩ := z
    have g34 := g₃.trans g₄
    have RD := R₂.step R₄ g34
    have sm4 : Same s₀ s₄ := sm.trans (sm₂.trans (q₃.trans q₄))
    have gt : Grow (D :: f.fr ++ wr) ρ₀ s₀.heap ρ₄ s₄.heap := ga.trans (g34.wider fun a m => List.mem_append_left _ (List.mem_cons_of_mem _ m))
    have hw4 : ∀ a ∈ wr, a ∈ ρ₄.rsv := fun a m => g34.rsv ▸ hw a m
    have kw : ∀ a ∈ wr, ∀ o, s₂.heap.get? a = some o → s₄.heap.get? a = some o := fun a m o e => g34.keep a o e (hd a m).1 (rsv_apart R₂.r.s.nodup (hw a m))
    have hp4 : pos (k + 1) s₄.heap ρ₄ := src.stable _ _ _ _ _ hp₂ (g34.carry R₂.r.like) kw
    have again_ : ∀ s₅ ρ₅ es₅ zs₅, compItems chk S T B (items.drop (k + 1)) zs₅ es₅ = some (zs', es') → RelD c.K f D ρ₅ es₅ zs₅ s₅.heap → (∀ a ∈ wr, a ∈ ρ₅.rsv) → pos (k + 1) s₅.heap ρ₅ → Grow (D :: f.fr ++ wr) ρ₀ s₀.heap ρ₅ s₅.heap → Same s₀ s₅ →
        ∃ m, m < items.length - k ∧ ∃ k ρ es zs, P8 (m = items.length - k) (k ≤ items.length) (compItems chk S T B (items.drop k) zs es = some (zs', es')) (RelD c.K f D ρ es zs s₅.heap) ((∀ a ∈ wr, a ∈ ρ.rsv)) (pos k s₅.heap ρ) (Grow (D :: f.fr ++ wr) ρ₀ s₀.heap ρ s₅.heap) (Same s₀ s₅):= fun s₅ ρ₅ es₅ zs₅ e R hw hp g sm =>
      ⟨items.length - (k + 1), by omega, k + 1, ρ₅, es₅, zs₅, rfl, hlt, e, R, hw, hp, g, sm⟩
    cases ok with
    | false => exact wpAny_pure ⟨rfl, again_ _ _ _ _ e1 RD hw4 hp4 gt sm4⟩
    | true =>
      rw [if_pos rfl] at e1
      obtain ⟨zs₅, es₅, e4, e5⟩ := bindE_some e1
      rw [if_pos rfl]
      refine wpAny_bind (wpAny_mono (db.run A hA D ρ₄ s₄ es₂ zs zs₅ es₅ e4 RD) (fun _ s₅ z => ?_) fun _ _ z => z.elim)
      obtain ⟨ρ₅, R₅, g₅, q₅⟩ := z
      have like5 : ∀ a ∈ D :: f.fr, a ∈ ρ₄.rsv := fun a m => (List.mem_cons.mp m).elim (fun q => q ▸ RD.dw) (RD.r.like a)
      refine wpAny_pure ⟨rfl, again_ _ _ _ _ e5 R₅ (fun a m => g₅.rsv ▸ hw4 a m) (src.stable _ _ _ _ _ hp4 (g₅.carry like5) fun a m o e => g₅.keep a o e (fun q => ?_) (rsv_apart RD.r.s.nodup (hw4 a m))) (gt.trans (g₅.wider fun a m => List.mem_append_left _ m)) (sm4.trans q₅)⟩
      rcases List.mem_cons.mp q with q | q
      · exact (hd a m).2 q
      · exact (hd a m).1 q
  · have hk' : k = items.length := by omega
    subst hk'
    rw [List.drop_length] at e1
    obtain ⟨hc, e1⟩ := guardE_some e1
    (first | obtain ⟨rfl, rfl⟩ := spr e1 | exact (nos e1).elim | obtain rfl := Option.some.inj e1 | cases e1)
    refine wpAny_mono (src.done ρ _ s hp R.r.s hc hw) (fun r s₁ z => ?_) fun _ _ z => z.elim
    obtain ⟨rfl, ad, sm₁⟩ := z
    exact wpAny_pure ⟨rfl, ρ, _, R, ad, g, sm.trans sm₁⟩
end
end Mine
end
section
set_option Elab.async false
set_option maxRecDepth 100000
set_option linter.unusedVariables false
set_option linter.unusedSimpArgs false
namespace Mine
open PySem PySem.Calls PySem.W PyProof.Rows
section
variable {c : Ctx0} {b : Nat} {f : FI}
theorem compStart_run {A : Around} {elt : Expr} {gens : List Comprehension} {scope : Scope} {pos : Pos} {d : Nat} {target iter : Expr} {ifs : List Expr} {it acc : Value} {env : Env} {R : Result → Shared → Prop} {s : Shared} (hg : gens[d]? = some ⟨target, iter, ifs, 0⟩)
    (h0 : codeAny (model c.prog c.w) A (.compLoop (.ListComp elt gens scope pos) d it acc env) R s)
    (h : wpAny (model c.prog c.w) A (pyIter it) (fun it' s' => codeAny (model c.prog c.w) A (.compLoop (.ListComp elt gens scope pos) d it' acc env) R s') noE s) :
    codeAny (model c.prog c.w) A (.compStart (.ListComp elt gens scope pos) d it acc env) R s := by
  refine codeAny_of_tree ?_
  show wpAny _ _ ((compStart (.ListComp elt gens scope pos) d it acc env).onRaise (fun x => do noteFrame x env; standAt theWindowsPlace)) _ _ s
  refine wpAny_notedAt ?_
  unfold compStart
  rw [show (clausesOf (.ListComp elt gens scope pos))[d]? = some ⟨target, iter, ifs, 0⟩ from hg]
  show wpAny _ _ (ask >>= _) _ _ s
  refine wpAny_bind (wpAny_askSetting (wpAny_ite ?_))
  split
  · first
      | exact wpAny_bind (wpAny_pure (wpAny_pure (And.intro rfl h0)))
      | exact wpAny_pure (And.intro rfl h0)
  · first
      | exact wpAny_bind (wpAny_rule (wpAny_bind (wpAny_standAt (wpAny_bind (wpAny_mono h (fun it' s' h' => wpAny_pure (And.intro rfl h')) fun _ _ x => x.elim)))))
      | (refine wpAny_bind (wpAny_rule ?_); show wpAny _ _ (standAt iter.pos >>= _) _ _ s; exact wpAny_bind (wpAny_standAt (wpAny_bind (wpAny_mono h (fun it' s' h' => wpAny_pure (And.intro rfl h')) fun _ _ x => x.elim))))
noncomputable def FI.comp (f : FI) (scope : Scope) (cl : List (Str × Addr)) (ln : List Str) (C : Addr) : FI := ⟨compEnvC scope cl C f.env, ln, f.cn⟩
noncomputable def compE (n : Nat) (I : FM Its) (S : PV → FM Unit) (T : FM Bool) (B : List PV → FM (List PV)) : FM (List PV) := fun es => match I es with
  | none => none
  | some (y, es₁) => (match compItems y.2 S T B y.1 [] ⟨List.replicate n none, es₁.cel, es₁.st⟩ with
    | none => none
    | some (zs, es₂) => some (zs, ⟨es₁.loc, es₂.cel, es₂.st⟩))
theorem comp_core {A : Around} {elt₀ : Expr} {gens : List Comprehension} {scope : Scope} {epos : Pos} {target iter : Expr} {p : Pos} {ifs : List Expr} {cl : List (Str × Addr)} {ln : List Str} {I : FM Its} {S : PV → FM Unit} {T : FM Bool} {TT : Addr → Value → Sem Unit}
    {B : List PV → FM (List PV)} (hg : gens[0]? = some ⟨target, iter, ifs, 0⟩)
    (heq : ∀ C it acc, compTurn (.ListComp elt₀ gens scope epos) 0 it acc (f.comp scope cl ln C).env = (standAt p >>= fun _ => pyNext it >>= fun r => match r with
      | none => pure (.done .next)
      | some v => letOwnedTupleGo target it v >>= fun _ => assign target (f.comp scope cl ln C).env v >>= fun _ =>
        (forIn ifs true fun x r => if r = true then do let ok ← isTrue x (f.comp scope cl ln C).env (eval x (f.comp scope cl ln C).env); pure (ForInStep.yield ok) else pure (ForInStep.yield r)) >>= fun ok =>
          if ok = true then TT C acc >>= fun _ => again (.compLoop (.ListComp elt₀ gens scope epos) 0 it acc (f.comp scope cl ln C).env) else again (.compLoop (.ListComp elt₀ gens scope epos) 0 it acc (f.comp scope cl ln C).env)))
    (hcell : ∀ x ∈ scope.names, x.2 ≠ .cell) (hkind : scope.kind = .function) (hA : AOk b A)
    (di : DenIt c b f target iter I) (ds : ∀ C, DenA c b (f.comp scope cl ln C) target S) (dt : ∀ C, DenTs c b (f.comp scope cl ln C) ifs T) (db : ∀ C, DenD c b (f.comp scope cl ln C) (TT C) B)
    {ρ : Rho} {s : Shared} {es es' : ES} {zs : List PV} (e : compE ln.length I S T B es = some (zs, es')) (R : RelF c.K f ρ es s.heap) {RR : Value → Addr → Result → Shared → Prop}
    (hRR : ∀ D C ρ' s' m, RelF c.K f (ρ'.enter [C]) es' s'.heap → Grow f.fr ρ s.heap ρ' s'.heap → Same s s' → s.heap.get? C = none → C ∉ f.fr → s'.heap.Ns C m → RV s'.heap (ρ'.enter [C]) (.ref D) (.lst zs) → RR (.ref D) C (.ok .next) s') :
    wpAny (model c.prog c.w) A (eval iter f.env) (fun x s₁ => wpAny (model c.prog c.w) A (pyIter x) (fun it s₂ => wpAny (model c.prog c.w) A (newList []) (fun acc s₃ =>
      wpAny (model c.prog c.w) A (newFunctionEnv scope f.env.globals cl [] f.env.qual none .none (some f.env)) (fun cenv s₄ =>
        codeAny (model c.prog c.w) A (.compStart (.ListComp elt₀ gens scope epos) 0 it acc { cenv with scope := relabel scope f.env }) (RR acc cenv.locals) s₄) noE s₃) noE s₂) noE s₁) noE s := by
  unfold compE at e
  split at e
  · (first | obtain ⟨rfl, rfl⟩ := spr e | exact (nos e).elim | obtain rfl := Option.some.inj e | cases e)
  rename_i y es₁ e1
  split at e <;> (first | obtain ⟨rfl, rfl⟩ := spr e | exact (nos e).elim | obtain rfl := Option.some.inj e | cases e)
  rename_i es₂ e2
  refine wpAny_mono (di.run A hA ρ s es y es₁ e1 R) (fun x s₁ z => wpAny_mono z (fun it s₂ z => ?_) fun _ _ z => z) fun _ _ z => z
  obtain ⟨ρ₁, wr, pos, R₁, g₁, sm, src, hp, fresh⟩ := z
  refine wpAny_newObj_type (wpAny_newFunctionEnv hcell (by intro y hy; simp at hy) (fun h₁ hns hsb => ?_) hkind)
  dsimp only at hns hsb ⊢
  generalize hH : s₂.heap.push { cls := .type "list", dict := none, data := .seq ([] : List Value).toArray } = H at hns hsb ⊢
  have hC : H.objs.size = s₂.heap.objs.size + 1 := by rw [← hH, Heap.size_push]
  have kH : ∀ a o, s₂.heap.get? a = some o → H.get? a = some o := fun a o e => by rw [← hH]; exact Heap.get?_push_of_some _ e
  have k1 : ∀ a o, s₂.heap.get? a = some o → h₁.get? a = some o := fun a o e => hsb.extBut a o (Nat.ne_of_lt (Nat.lt_of_lt_of_le (Heap.lt_size e) (by rw [hC]; exact Nat.le_succ _))) (Heap.get?_push_of_some _ (kH a o e))
  have hDC : s₂.heap.objs.size ≠ H.objs.size := by rw [hC]; exact Nat.ne_of_lt (Nat.lt_succ_self _)
  have hD : h₁.get? s₂.heap.objs.size = some { cls := .type "list", dict := none, data := .seq ([] : List Value).toArray } := hsb.extBut _ _ hDC (Heap.get?_push_of_some _ (by rw [← hH]; exact Heap.get?_push_size _ rfl))
  have fC : s₂.heap.get? H.objs.size = none := get_ge (by rw [hC]; exact Nat.le_succ _)
  have fD : s₂.heap.get? s₂.heap.objs.size = none := get_ge (Nat.le_refl _)
  generalize hHo : H.objs.size = C at *
  generalize hDo : s₂.heap.objs.size = D at *
  have mem2 : ∀ a ∈ [C, D], a = C ∨ a = D := fun a m => by simpa using m
  obtain ⟨S₂, cy₂⟩ := R₁.s.enter (wr := [C, D]) (h' := h₁) k1 (fun a m => (mem2 a m).elim (fun q => q ▸ fC) (fun q => q ▸ fD)) (fun a m => (mem2 a m).elim (fun q => by obtain ⟨o, _, _, e, _⟩ := hns; exact ⟨o, q ▸ e⟩) (fun q => ⟨_, q ▸ hD⟩)) (by simp; exact fun q => hDC q.symm)
  have like₁ : ∀ a ∈ f.fr, a ∈ ρ₁.rsv := fun a m => g₁.rsv ▸ R.like a m
  have aliveF : ∀ a ∈ f.fr, ∃ o, s₂.heap.get? a = some o := fun a m => (R₁.s.apart a (mem_own' (List.mem_append_right _ (like₁ a m)))).2.2
  have nCf : C ∉ f.fr := fun m => by obtain ⟨o, e⟩ := aliveF C m; rw [fC] at e; (first | obtain ⟨rfl, rfl⟩ := spr e | exact (nos e).elim | obtain rfl := Option.some.inj e | cases e)
  have nDf : D ∉ f.fr := fun m => by obtain ⟨o, e⟩ := aliveF D m; rw [fD] at e; (first | obtain ⟨rfl, rfl⟩ := spr e | exact (nos e).elim | obtain rfl := Option.some.inj e | cases e)
  have RF : RelF c.K (f.comp scope cl ln C) ((ρ₁.enter wr).enter [C, D]) ⟨List.replicate ln.length none, es₁.cel, es₁.st⟩ h₁ := by
    refine ⟨S₂, ⟨_, hns, fun i x hx => ?_, fun x _ => rfl⟩, fun i x a e => ?_, fun a m => ?_, ?_⟩
    · have : ((List.replicate ln.length (none : Option PV))[i]?).join = none := by
        rw [List.getElem?_replicate]; split <;> rfl
      rw [this]; exact .none
    · obtain ⟨u, ⟨o, p, q⟩, r⟩ := R₁.c i x a e
      exact ⟨u, ⟨o, k1 a o p, q⟩, r.carry cy₂⟩
    · rcases List.mem_cons.mp m with rfl | m
      · exact List.mem_append_left _ List.mem_cons_self
      · exact List.mem_append_right _ (List.mem_append_right _ (like₁ a (List.mem_cons_of_mem _ m)))
    · exact List.nodup_cons.mpr ⟨fun m => nCf (List.mem_cons_of_mem _ m), (List.nodup_cons.mp R.nd).2⟩
  have RD : RelD c.K (f.comp scope cl ln C) D ((ρ₁.enter wr).enter [C, D]) ⟨List.replicate ln.length none, es₁.cel, es₁.st⟩ [] h₁ :=
    ⟨RF, List.mem_append_left _ (List.mem_cons_of_mem _ List.mem_cons_self), fun m => (List.mem_cons.mp m).elim hDC fun m => nDf (List.mem_cons_of_mem _ m), #[], ⟨_, hD⟩, .nil⟩
  have aw : ∀ a ∈ wr, ∃ o, s₂.heap.get? a = some o := fun a m => (R₁.s.apart a (mem_own' (List.mem_append_left _ m))).2.2
  have hw : ∀ a ∈ wr, a ∈ ((ρ₁.enter wr).enter [C, D]).rsv := fun a m => List.mem_append_right _ (List.mem_append_left _ m)
  have RL := R₁.enters (h := s.heap) (h₀ := s.heap) (ρ := ρ) like₁
  have hd : ∀ a ∈ wr, a ∉ (f.comp scope cl ln C).fr ∧ a ≠ D := fun a m => by
    obtain ⟨o, e⟩ := aw a m
    refine ⟨fun q => ?_, fun q => by rw [q, fD] at e; cases e⟩
    rcases List.mem_cons.mp q with q | q
    · replace q : a = C := q
      rw [q, fC] at e; (first | obtain ⟨rfl, rfl⟩ := spr e | exact (nos e).elim | obtain rfl := Option.some.inj e | cases e)
    · exact RL.hd a m (List.mem_cons_of_mem _ q)
  have hp₂ : pos 0 h₁ ((ρ₁.enter wr).enter [C, D]) := src.stable _ _ _ _ _ hp cy₂ fun a _ o e => k1 a o e
  have sfC : s.heap.get? C = none := by
    cases q : s.heap.get? C with
    | none => rfl
    | some o =>
      have : C ∉ ρ.flatten := fun m => by
        have m' : C ∈ ρ₁.flatten := by
          obtain ⟨t, p⟩ := g₁.pre
          unfold Rho.flatten; rw [← p, List.flatten_append]; exact List.mem_append_left _ m
        obtain ⟨_, _, o', e'⟩ := R₁.s.apart C (mem_own m')
        rw [fC] at e'; (first | obtain ⟨rfl, rfl⟩ := spr e' | exact (nos e').elim | obtain rfl := Option.some.inj e' | cases e')
      rw [g₁.keep C o q nCf this] at fC; cases fC
  have sfD : s.heap.get? D = none := by
    cases q : s.heap.get? D with
    | none => rfl
    | some o =>
      have : D ∉ ρ.flatten := fun m => by
        have m' : D ∈ ρ₁.flatten := by
          obtain ⟨t, p⟩ := g₁.pre
          unfold Rho.flatten; rw [← p, List.flatten_append]; exact List.mem_append_left _ m
        obtain ⟨_, _, o', e'⟩ := R₁.s.apart D (mem_own m')
        rw [fD] at e'; (first | obtain ⟨rfl, rfl⟩ := spr e' | exact (nos e').elim | obtain rfl := Option.some.inj e' | cases e')
      rw [g₁.keep D o q nDf this] at fD; cases fD
  have loop : codeAny (model c.prog c.w) A (.compLoop (.ListComp elt₀ gens scope epos) 0 it (.ref D) (f.comp scope cl ln C).env) (RR (.ref D) C) { s₂ with heap := h₁, toks := s₂.toks + ([] : List (Str × Value)).length } := by
    refine codeAny_mono (comp_run (f := f.comp scope cl ln C) (heq C it) src hA (ds C) (dt C) (db C) e2 RD hw hd hp₂) fun r s₃ z => ?_
    cases r with
    | error e => exact z.elim
    | ok fl =>
      obtain ⟨rfl, ρ₃, h₃, R₃, kp, g₃, q₃⟩ := z
      have hr : ρ₃.rsv = [C, D] ++ (wr ++ ρ.rsv) := by rw [g₃.rsv]; show [C, D] ++ (wr ++ ρ₁.rsv) = _; rw [g₁.rsv]
      have n3 := (List.nodup_append.mp R₃.r.s.nodup).2.1
      rw [hr] at n3
      have n3' : (C :: D :: (wr ++ ρ.rsv)).Nodup := n3
      rw [List.nodup_cons, List.nodup_cons, List.nodup_append] at n3'
      obtain ⟨nC, nD, nw, nr, nwr⟩ := n3'
      have nCr : C ∉ ρ.rsv := fun m => nC (List.mem_cons_of_mem _ (List.mem_append_right _ m))
      have nDr : D ∉ ρ.rsv := fun m => nD (List.mem_append_right _ m)
      have nCw : C ∉ wr := fun m => nC (List.mem_cons_of_mem _ (List.mem_append_left _ m))
      obtain ⟨S₃, cy₃⟩ := R₃.r.s.drop (r' := C :: ρ.rsv) (wr := wr) (h' := s₃.heap) (List.nodup_cons.mpr ⟨nCr, nr⟩)
        (fun a m => by rw [hr]; rcases List.mem_cons.mp m with rfl | m; exact List.mem_append_left _ List.mem_cons_self; exact List.mem_append_right _ (List.mem_append_right _ m))
        (fun a m => ⟨by rw [hr]; exact List.mem_append_right _ (List.mem_append_left _ m), fun q => by
          rcases List.mem_cons.mp q with rfl | q
          · exact nCw m
          · exact nwr a m a q rfl⟩) kp
      have gT : Grow f.fr ρ s.heap ⟨ρ₃.ents, ρ.rsv⟩ s₃.heap := Grow.through (ρ₂ := (ρ₁.enter wr).enter [C, D]) g₁ k1 rfl g₃ (fun a m => by
        rcases List.mem_append.mp m with m | m
        · rcases List.mem_cons.mp m with rfl | m
          · exact .inr sfD
          · rcases List.mem_cons.mp m with rfl | m
            · exact .inr sfC
            · exact .inl (List.mem_cons_of_mem _ m)
        · exact .inr (fresh a m)) kp fresh
      have kf : ∀ a ∈ f.fr, a ∉ (f.comp scope cl ln C).fr → ∀ o, h₁.get? a = some o → s₃.heap.get? a = some o := fun a m nm o e => by
        have nw : a ∉ wr := fun q => RL.hd a q m
        refine kp a o (g₃.keep a o e (fun q => ?_) (rsv_apart S₂.nodup (List.mem_append_right _ (List.mem_append_right _ (like₁ a m))))) nw
        rcases List.mem_append.mp q with q | q
        · rcases List.mem_cons.mp q with rfl | q
          · exact nDf m
          · exact nm q
        · exact nw q
      have cyA : Carry h₁ ((ρ₁.enter wr).enter [C, D]) s₃.heap ⟨ρ₃.ents, C :: ρ.rsv⟩ := by
        have c1 := g₃.carry (fun a m => by
          rcases List.mem_append.mp m with m | m
          · rcases List.mem_cons.mp m with rfl | m
            · exact RD.dw
            · exact RF.like a m
          · exact hw a m)
        exact ⟨fun a o e na => by obtain ⟨x, y⟩ := c1.keep a o e na; exact cy₃.keep a o x y, fun i a e => cy₃.head i a (c1.head i a e)⟩
      have RFin : RelF c.K f ((⟨ρ₃.ents, ρ.rsv⟩ : Rho).enter [C]) ⟨es₁.loc, es₂.cel, es₂.st⟩ s₃.heap := by
        refine ⟨S₃, ?_, fun i x a e => ?_, fun a m => List.mem_cons_of_mem _ (R.like a m), R.nd⟩
        · refine (R₁.l.carry cy₂ fun o e => k1 _ o e).carry cyA fun o e => kf _ List.mem_cons_self (fun q => ?_) o e
          rcases List.mem_cons.mp q with q | q
          · replace q : f.env.locals = C := q
            exact nCf (by rw [← q]; exact List.mem_cons_self)
          · exact (List.nodup_cons.mp R.nd).1 q
        · obtain ⟨u, ⟨o, p, q⟩, r⟩ := R₃.r.c i x a e
          exact ⟨u, ⟨o, kp a o p fun m => RL.hd a m (mem_cells e), q⟩, r.carry cy₃⟩
      obtain ⟨m, hm, _, _⟩ := R₃.r.l
      obtain ⟨vs, ⟨n, eo⟩, rr⟩ := R₃.acc
      have nDw : D ∉ wr := fun m => (hd D m).2 rfl
      refine hRR D C ⟨ρ₃.ents, ρ.rsv⟩ s₃ m RFin gT (sm.trans q₃) sfC nCf (hm.at' fun o e => kp _ o e nCw) (.lst (fun q => ?_) ⟨n, by rw [Array.toArray_toList]; exact kp D _ eo nDw⟩ (rr.carry cy₃))
      rcases List.mem_append.mp q with q | q
      · exact rsv_apart R₃.r.s.nodup R₃.dw q
      · rcases List.mem_cons.mp q with q | q
        · exact hDC q
        · exact nDr q
  refine compStart_run hg ?_ (src.self 0 { s₂ with heap := h₁, toks := s₂.toks + ([] : List (Str × Value)).length } _ _ hp₂ ?_)
  · exact loop
  · exact loop
end
end Mine
end
section
set_option Elab.async false
set_option maxRecDepth 100000
set_option linter.unusedVariables false
set_option linter.unusedSimpArgs false
namespace Mine
open PySem PySem.Calls PySem.W PyProof.Rows
section
variable {c : Ctx0} {b : Nat} {f : FI}
noncomputable abbrev emitT (elt : Expr) (env : Env) (acc : Value) : Sem Unit := do let _ ← call (.builtin "list.append") [acc, ← eval elt env]
theorem turn1 (elt target iter : Expr) (ifs : List Expr) (scope : Scope) (pos : Pos) (it acc : Value) (env : Env) :
    compTurn (.ListComp elt [⟨target, iter, ifs, 0⟩] scope pos) 0 it acc env = (standAt iter.pos >>= fun _ => pyNext it >>= fun r => match r with
      | none => pure (.done .next)
      | some v => letOwnedTupleGo target it v >>= fun _ => assign target env v >>= fun _ =>
        (forIn ifs true fun x r => if r = true then do let ok ← isTrue x env (eval x env); pure (ForInStep.yield ok) else pure (ForInStep.yield r)) >>= fun ok =>
          if ok = true then emitT elt env acc >>= fun _ => again (.compLoop (.ListComp elt [⟨target, iter, ifs, 0⟩] scope pos) 0 it acc env) else again (.compLoop (.ListComp elt [⟨target, iter, ifs, 0⟩] scope pos) 0 it acc env)) := by rfl
structure CompOk (f : FI) (scope : Scope) (cl : List (Str × Addr)) : Prop where
  clos : closureFor scope f.env = pure cl
  cell : ∀ x ∈ scope.names, x.2 ≠ .cell
  kind : scope.kind = .function
  names : ∀ x ∈ scope.names, x.2 = .local → scope.names.lookup x.1 = some .local
structure DenC (c : Ctx0) (b : Nat) (f : FI) (elt iter : Expr) (gens : List Comprehension) (scope : Scope) (epos : Pos) (cl : List (Str × Addr)) (F : FM (List PV)) : Prop where
  run : ∀ A, AOk b A → ∀ ρ s es es' zs, F es = some (zs, es') → RelF c.K f ρ es s.heap → ∀ (RR : Value → Addr → Result → Shared → Prop),
    (∀ D C ρ' s' m, RelF c.K f (ρ'.enter [C]) es' s'.heap → Grow f.fr ρ s.heap ρ' s'.heap → Same s s' → s.heap.get? C = none → C ∉ f.fr → s'.heap.Ns C m → RV s'.heap (ρ'.enter [C]) (.ref D) (.lst zs) → RR (.ref D) C (.ok .next) s') →
    wpAny (model c.prog c.w) A (eval iter f.env) (fun x s₁ => wpAny (model c.prog c.w) A (pyIter x) (fun it s₂ => wpAny (model c.prog c.w) A (newList []) (fun acc s₃ =>
      wpAny (model c.prog c.w) A (newFunctionEnv scope f.env.globals cl [] f.env.qual none .none (some f.env)) (fun cenv s₄ =>
        codeAny (model c.prog c.w) A (.compStart (.ListComp elt gens scope epos) 0 it acc { cenv with scope := relabel scope f.env }) (RR acc cenv.locals) s₄) noE s₃) noE s₂) noE s₁) noE s
theorem denc_one {elt target iter : Expr} {ifs : List Expr} {scope : Scope} {epos : Pos} {cl : List (Str × Addr)} {ln : List Str} {I : FM Its} {S : PV → FM Unit} {T : FM Bool} {X : FM PV} (ok : CompOk f scope cl)
    (di : DenIt c b f target iter I) (ds : ∀ C, DenA c b (f.comp scope cl ln C) target S) (dt : ∀ C, DenTs c b (f.comp scope cl ln C) ifs T) (dx : ∀ C, Den c b (f.comp scope cl ln C) RV (eval elt (f.comp scope cl ln C).env) X) :
    DenC c b f elt iter [⟨target, iter, ifs, 0⟩] scope epos cl (compE ln.length I S T (emitE X)) :=
  ⟨fun A hA ρ s es es' zs e R RR h => comp_core (TT := fun C acc => emitT elt (f.comp scope cl ln C).env acc) rfl (fun C it acc => turn1 ..) ok.cell ok.kind hA di ds dt (fun C => dend_emit (dx C)) e R h⟩
theorem left_comp {ρ ρ' : Rho} {es' : ES} {h h₂ h' : Heap} {C : Addr} (R : RelF c.K f (ρ'.enter [C]) es' h₂) (nC : C ∉ f.fr) (g : Grow f.fr ρ h ρ' h₂) (fC : h.get? C = none) (hs : Heap.SameBut C h₂ h') (L : ∀ a ∈ f.fr, a ∈ ρ.rsv) :
    RelF c.K f ρ' es' h' ∧ Grow f.fr ρ h ρ' h' ∧ Carry h₂ (ρ'.enter [C]) h' ρ' := by
  obtain ⟨S, cy⟩ := RelS.leave (ρ := ρ') (wr := [C]) (h' := h') R.s (Kept.of_same (by simp) hs)
  refine ⟨R.carry S cy (fun a m o e => (hs.2 a fun q => nC (q ▸ m)).trans e) (fun a m => g.rsv ▸ L a m), ⟨fun a o e nf nr => ?_, g.pre, g.rsv, g.new⟩, cy⟩
  exact (hs.2 a fun q => by rw [← q, e] at fC; cases fC).trans (g.keep a o e nf nr)
theorem den_listcomp {elt iter : Expr} {g : Comprehension} {gs : List Comprehension} {scope : Scope} {epos : Pos} {cl : List (Str × Addr)} {F : FM (List PV)} (ok : CompOk f scope cl) (hit : g.iter = iter) (ha : g.is_async = 0) (d : DenC c b f elt iter (g :: gs) scope epos cl F)
    (hs : ∀ x, foldedSetIterable iter f.env x = pure x := by intro _; rfl) :
    Den c b f RV (eval (.ListComp elt (g :: gs) scope epos) f.env) (bindE F fun zs => pureE (.lst zs)) := by
  constructor
  intro A hA ρ s es y es' e R
  obtain ⟨zs, es₁, e1, e2⟩ := bindE_some e
  cases e2
  subst hit
  obtain ⟨target, iter, ifs, ia⟩ := g
  replace ha : ia = 0 := ha
  subst ha
  rw [eval_ListComp]
  refine wpAny_comprehension_free (use := none) rfl hs ok.clos ok.kind ok.names (d.run A hA ρ s es es' zs e1 R (fun acc C => compPost (model c.prog c.w) A noE none (Ends c.K f RV ρ s (.lst zs) es') acc C) ?_)
  intro D C ρ' s' m R' g sm fC nC hm rv
  refine ⟨m, hm, fun h' hs => ?_⟩
  obtain ⟨RF, gg, cy⟩ := left_comp R' nC g fC hs R.like
  exact ⟨ρ', RF, gg, sm, rv.carry cy⟩
theorem den_assign_comp {elt iter : Expr} {y : Str} {py spos : Pos} {g : Comprehension} {gs : List Comprehension} {scope : Scope} {epos : Pos} {cl : List (Str × Addr)} {F : FM (List PV)} {S : PV → FM Unit} (ok : CompOk f scope cl) (hit : g.iter = iter) (ha : g.is_async = 0)
    (d : DenC c b f elt iter (g :: gs) scope epos cl F) (ds : DenA c b f (.Name y py) S)
    (hsw : swapsWith (.ListComp elt (g :: gs) scope epos) (some (.Name y py)) spos.line f.env = pure true) (hs : ∀ x, foldedSetIterable iter f.env x = pure x := by intro _; rfl) :
    Den c b f RFl (exec (.Assign [.Name y py] (.ListComp elt (g :: gs) scope epos) spos) f.env) (bindE (bindE F fun zs => pureE (.lst zs)) fun p => bindE (S p) fun _ => pureE .next) := by
  constructor
  intro A hA ρ s es r es' e R
  obtain ⟨p, es₁, e1, e⟩ := bindE_some e
  obtain ⟨zs, es₀, e0, e1⟩ := bindE_some e1
  cases e1
  obtain ⟨_, es₂, e2, e3⟩ := bindE_some e
  cases e3
  subst hit
  obtain ⟨target, iter, ifs, ia⟩ := g
  replace ha : ia = 0 := ha
  subst ha
  rw [exec_Assign_Name_used _ _ _ _ hsw]
  refine wpAny_bind (wpAny_standAt (wpAny_bind ?_))
  show wpAny _ A (do let _ ← comprehension (.ListComp elt (⟨target, iter, ifs, 0⟩ :: gs) scope epos) scope f.env _ (newList []) false (eval iter f.env) (some (assign (.Name y py) f.env))) _ _ s
  refine wpAny_bind (wpAny_mono (wpAny_comprehension_free (use := some (assign (.Name y py) f.env)) (Q := fun _ s' => Ends c.K f RFl ρ s .next es' .next s') rfl hs ok.clos ok.kind ok.names
    (d.run A hA ρ s es es₁ zs e0 R (fun acc C => compPost (model c.prog c.w) A noE (some (assign (.Name y py) f.env)) (fun _ s' => Ends c.K f RFl ρ s .next es' .next s') acc C) ?_)) (fun _ s' hq => wpAny_pure (wpAny_pure hq)) fun _ _ e => e)
  intro D C ρ' s' m R' g sm fC nC hm rv
  show wpAny _ A (assign (.Name y py) f.env (.ref D)) _ _ _
  refine wpAny_mono (ds.run A hA (ρ'.enter [C]) s' es₁ (.ref D) (.lst zs) () es' e2 rv R') (fun _ s'' z => ?_) fun _ _ z => z
  obtain ⟨ρ₂, R₂, g₂, q₂, _⟩ := z
  have hC : C ∈ (ρ'.enter [C]).rsv := List.mem_append_left _ List.mem_cons_self
  refine ⟨m, hm.at' fun o e => g₂.keep _ o e nC (rsv_apart R'.s.nodup hC), fun h' hs => ?_⟩
  obtain ⟨e', r'⟩ := ρ₂
  have hr : r' = [C] ++ ρ'.rsv := g₂.rsv
  subst hr
  have gg : Grow f.fr ρ s.heap ⟨e', ρ'.rsv⟩ s''.heap := by
    have := Grow.through (ρ₂ := ρ'.enter [C]) (wr := []) (h₄ := s''.heap) g (fun _ _ e => e) rfl g₂ (fun a m => .inl m) (fun _ _ e _ => e) (fun _ m => nomatch m)
    rw [← g.rsv] at this
    exact this
  obtain ⟨RF, gg', cy⟩ := left_comp (ρ' := ⟨e', ρ'.rsv⟩) R₂ nC gg fC hs R.like
  exact ⟨_, RF, gg', sm.trans q₂, .next⟩
end
end Mine
end
section
set_option Elab.async false
set_option maxRecDepth 100000
set_option linter.unusedVariables false
set_option linter.unusedSimpArgs false
namespace Mine
open PySem PySem.Calls PySem.W PyProof.Rows
section
variable {c : Ctx0} {b : Nat} {f : FI}
theorem rvs0 {h : Heap} {ρ : Rho} {vs : List Value} (r : RVs h ρ vs []) : vs = [] := by cases r; rfl
theorem rvs1 {h : Heap} {ρ : Rho} {vs : List Value} {p : PV} (r : RVs h ρ vs [p]) : ∃ v, vs = [v] ∧ RV h ρ v p := by
  cases r with | cons x y => cases rvs0 y; exact ⟨_, rfl, x⟩
theorem rvs2 {h : Heap} {ρ : Rho} {vs : List Value} {p q : PV} (r : RVs h ρ vs [p, q]) : ∃ v u, P3 (vs = [v, u]) (RV h ρ v p) (RV h ρ u q) := by
  cases r with | cons x y => obtain ⟨u, rfl, z⟩ := rvs1 y; exact ⟨_, _, rfl, x, z⟩
theorem RelS.pushObj {K : Frag} {ρ : Rho} {st : List AO} {h : Heap} (R : RelS K ρ st h) (o : Obj) : RelS K ρ st (h.push o) ∧ Grow [] ρ h ρ (h.push o) := R.ext fun _ _ e => Heap.get?_push_of_some _ e
theorem RelS.newOff {K : Frag} {ρ : Rho} {st : List AO} {h : Heap} (R : RelS K ρ st h) : h.objs.size ∉ ρ.own := fun m => by
  obtain ⟨_, _, o, e⟩ := R.apart _ m
  rw [get_ge (Nat.le_refl _)] at e; (first | obtain ⟨rfl, rfl⟩ := spr e | exact (nos e).elim | obtain rfl := Option.some.inj e | cases e)
theorem ends_lst {ρ : Rho} {st : List AO} {s : Shared} {vs : List Value} {ps : List PV} {tk : Nat} (R : RelS c.K ρ st s.heap) (rr : RVs s.heap ρ vs ps) :
    EndsS c.K RV ρ s (.lst ps) st (.ref s.heap.objs.size) { s with heap := s.heap.push { cls := .type "list", data := .seq vs.toArray }, toks := tk } := by
  obtain ⟨S, g⟩ := R.pushObj { cls := .type "list", data := .seq vs.toArray }
  exact ⟨ρ, S, g, ⟨rfl, rfl, rfl⟩, .lst R.newOff ⟨_, Heap.get?_push_size _ rfl⟩ (rr.grow g noFr)⟩
theorem ends_tup {ρ : Rho} {st : List AO} {s : Shared} {vs : List Value} {ps : List PV} {tk : Nat} (R : RelS c.K ρ st s.heap) (rr : RVs s.heap ρ vs ps) :
    EndsS c.K RV ρ s (.tup ps) st (.ref s.heap.objs.size) { s with heap := s.heap.push { cls := .type "tuple", data := .seq vs.toArray }, toks := tk } := by
  obtain ⟨S, g⟩ := R.pushObj { cls := .type "tuple", data := .seq vs.toArray }
  exact ⟨ρ, S, g, ⟨rfl, rfl, rfl⟩, .tup R.newOff ⟨_, Heap.get?_push_size _ rfl, rfl, _, rfl⟩ (rr.grow g noFr)⟩
theorem headAt_push {ρ : Rho} {a : Addr} {r : List Addr} : headAt (ρ.push (a :: r)) ρ.ents.length = some a := by
  unfold headAt Rho.push
  rw [List.getElem?_append_right (Nat.le_refl _), Nat.sub_self]; rfl
theorem ends_new {ρ : Rho} {st : List AO} {s : Shared} {vs : List Value} {ps : List PV} {tk : Nat} (R : RelS c.K ρ st s.heap) (rr : RVs s.heap ρ vs ps) :
    EndsS c.K RV ρ s (.ref st.length) (st ++ [.list ps]) (.ref s.heap.objs.size) { s with heap := s.heap.push { cls := .type "list", data := .seq vs.toArray }, toks := tk } := by
  obtain ⟨S, g⟩ := R.push (as := [s.heap.objs.size]) (ao := .list ps) (h' := s.heap.push { cls := .type "list", data := .seq vs.toArray }) (fun _ _ e => Heap.get?_push_of_some _ e)
    (fun a m => by rw [List.mem_singleton.mp m]; exact get_ge (Nat.le_refl _)) (fun a m => by rw [List.mem_singleton.mp m]; exact ⟨_, Heap.get?_push_size _ rfl⟩) (by simp)
    (fun g => ⟨_, _, _, rfl, Heap.get?_push_size _ rfl, by simpa using rr.grow g noFr⟩)
  refine ⟨_, S, g, ⟨rfl, rfl, rfl⟩, .ref ?_⟩
  rw [← R.len]; exact headAt_push
noncomputable def lstE (ps : List PV) : FM PV := if ps.length ≤ sizeLine then pureE (.lst ps) else failE
noncomputable def tupE (ps : List PV) : FM PV := if ps.length ≤ sizeLine then pureE (.tup ps) else failE
noncomputable def newE (ps : List PV) : FM PV := fun es => if ps.length ≤ sizeLine then some (.ref es.st.length, { es with st := es.st ++ [.list ps] }) else none
theorem den_list {elts : List Expr} {pos : Pos} {FA : FM (List PV)} (d : DenArgs c b f pos elts FA) : Den c b f RV (eval (.List elts pos) f.env) (bindE FA lstE) := by
  constructor
  intro A hA ρ s es y es' e R
  obtain ⟨ps, es₁, e1, e⟩ := bindE_some e
  unfold lstE at e
  split at e <;> cases e
  refine wpAny_List_spliced (wpAny_mono (d.run A hA ρ s es ps es' e1 R) (fun vs s₁ z => ?_) fun _ _ z => z)
  obtain ⟨ρ₁, R₁, g₁, q₁, rr⟩ := z
  exact ⟨by rw [rr.length]; assumption, ((ends_lst (tk := s₁.toks) R₁.s rr).toF R₁).after g₁ q₁⟩
theorem den_list_new {elts : List Expr} {pos : Pos} {FA : FM (List PV)} (d : DenArgs c b f pos elts FA) : Den c b f RV (eval (.List elts pos) f.env) (bindE FA newE) := by
  constructor
  intro A hA ρ s es y es' e R
  obtain ⟨ps, es₁, e1, e⟩ := bindE_some e
  unfold newE at e
  split at e <;> (first | obtain ⟨rfl, rfl⟩ := spr e | exact (nos e).elim | obtain rfl := Option.some.inj e | cases e)
  refine wpAny_List_spliced (wpAny_mono (d.run A hA ρ s es ps es₁ e1 R) (fun vs s₁ z => ?_) fun _ _ z => z)
  obtain ⟨ρ₁, R₁, g₁, q₁, rr⟩ := z
  exact ⟨by rw [rr.length]; assumption, ((ends_new (tk := s₁.toks) R₁.s rr).toF R₁).after g₁ q₁⟩
theorem den_tuple {elts : List Expr} {k : Nat} {pos : Pos} {FA : FM (List PV)} (d : DenArgs c b f pos elts FA) : Den c b f RV (eval (.Tuple elts k pos) f.env) (bindE FA tupE) := by
  constructor
  intro A hA ρ s es y es' e R
  obtain ⟨ps, es₁, e1, e⟩ := bindE_some e
  unfold tupE at e
  split at e <;> cases e
  refine wpAny_Tuple_spliced (wpAny_mono (d.run A hA ρ s es ps es' e1 R) (fun vs s₁ z => ?_) fun _ _ z => z)
  obtain ⟨ρ₁, R₁, g₁, q₁, rr⟩ := z
  exact ⟨by rw [rr.length]; assumption, ((ends_tup (tk := s₁.toks) R₁.s rr).toF R₁).after g₁ q₁⟩
noncomputable def isLst (p : PV) (st : List AO) : Bool := (items? st p).isSome
theorem meth_list {name : Str} {id : String} (slot : Slot "list" name id) (hty : typeOf (.builtin id) = pure (.type "method_descriptor")) : MethAt c name isLst (.builtin id) := by
  constructor
  intro A pl ρ s st v p Q hP r R h
  unfold isLst at hP
  obtain ⟨xs, hx⟩ := Option.isSome_iff_exists.mp hP
  obtain ⟨a, vs, rfl, ⟨n, e⟩, _⟩ := items_of R r hx
  exact getMethod_builtin ⟨_, e, rfl⟩ F.plainAttrs_list slot hty (fun a' q => by cases q; exact ⟨_, e, rfl⟩) h
theorem RelS.listPut {K : Frag} {ρ : Rho} {st : List AO} {h h' : Heap} (R : RelS K ρ st h) {i : Nat} {a : Addr} {xs xs' : List PV} {vs' : Array Value} (hd : headAt ρ i = some a) (q : st[i]? = some (.list xs)) (hs : Heap.SameBut a h h') (p : h'.PlainList a vs')
    (rr : RVs h ρ vs'.toList xs') : RelS K ρ (st.set i (.list xs')) h' ∧ Grow [] ρ h ρ h' := by
  obtain ⟨vs, n, e, _, hr⟩ := R.listAt hd q
  obtain ⟨n', e'⟩ := p
  exact R.put hr (fun x o ex nx => (hs.2 x fun q => nx (q ▸ List.mem_singleton.mpr rfl)).trans ex) (fun x m => by rw [List.mem_singleton.mp m]; exact ⟨_, e'⟩) fun g => ⟨a, vs', n', rfl, e', rr.grow g noFr⟩
noncomputable def appendG (ps : List PV) : SM PV := fun st => match ps with
  | [.ref i, p] => (match st[i]? with
    | some (.list xs) => if xs.length ≤ sizeLine then some (.none, st.set i (.list (xs ++ [p]))) else none
    | _ => none)
  | _ => none
theorem op_append : OpL c b (fun vs => call (.builtin "list.append") vs) appendG := by
  constructor
  intro A hA ρ s st vs ps y st' e r R
  unfold appendG at e
  split at e <;> try (first | obtain ⟨rfl, rfl⟩ := spr e | exact (nos e).elim | obtain rfl := Option.some.inj e | cases e)
  split at e <;> try (first | obtain ⟨rfl, rfl⟩ := spr e | exact (nos e).elim | obtain rfl := Option.some.inj e | cases e)
  rename_i q
  split at e <;> (first | obtain ⟨rfl, rfl⟩ := spr e | exact (nos e).elim | obtain rfl := Option.some.inj e | cases e)
  rename_i hz
  obtain ⟨_, _, rfl, r1, r2⟩ := rvs2 r
  obtain ⟨_, hd, rfl⟩ := r1.inv
  obtain ⟨vs, n, e0, rs, hr⟩ := R.listAt hd q
  have hl := rs.length
  rw [Array.length_toList] at hl
  refine wpAny_list_append_plain ⟨n, e0⟩ (fun h' p hs => ?_) (by rw [hl]; exact hz)
  obtain ⟨S, g⟩ := R.listPut hd q hs p (by rw [Array.toList_push]; exact rs.append (.cons r2 .nil))
  exact ⟨ρ, S, g, ⟨rfl, rfl, rfl⟩, .none⟩
noncomputable def extendG (ps : List PV) : SM PV := fun st => match ps with
  | [.ref i, p] => (match st[i]?, items? st p with
    | some (.list xs), some ys => if xs.length + ys.length ≤ sizeLine then some (.none, st.set i (.list (xs ++ ys))) else none
    | _, _ => none)
  | _ => none
theorem op_extend : OpL c b (fun vs => call (.builtin "list.extend") vs) extendG := by
  constructor
  intro A hA ρ s st vs ps y st' e r R
  unfold extendG at e
  split at e <;> try (first | obtain ⟨rfl, rfl⟩ := spr e | exact (nos e).elim | obtain rfl := Option.some.inj e | cases e)
  split at e <;> try (first | obtain ⟨rfl, rfl⟩ := spr e | exact (nos e).elim | obtain rfl := Option.some.inj e | cases e)
  rename_i q q'
  split at e <;> (first | obtain ⟨rfl, rfl⟩ := spr e | exact (nos e).elim | obtain rfl := Option.some.inj e | cases e)
  rename_i hz
  obtain ⟨_, _, rfl, r1, r2⟩ := rvs2 r
  obtain ⟨_, hd, rfl⟩ := r1.inv
  obtain ⟨vs, n, e0, rs, hr⟩ := R.listAt hd q
  obtain ⟨a', vs', rfl, ⟨n', e0'⟩, rs'⟩ := items_of R r2 q'
  have hl := rs.length
  have hl' := rs'.length
  rw [Array.length_toList] at hl hl'
  refine call_meets F.slot_list_extend ⟨_, e0, rfl⟩ F.entry_list_extend (F.args_list_extend_2 _ _) (AutoSeq1.list_extend_list_list_0 _ vs n _ vs' n' (extend_door (by omega)) (by omega) (by omega)) ⟨e0, e0', ?_⟩
  show EndsS _ _ _ _ _ _ _ _
  obtain ⟨S, g⟩ := R.listPut hd q (h' := s.heap.update _ (Obj.mapSeq fun x => x ++ vs')) (Heap.SameBut.update ..) (vs' := vs ++ vs') ⟨_, by rw [Heap.get?_update_self _ e0 (by rw [mapSeq_app]; rfl), mapSeq_app]⟩ (by rw [Array.toList_append]; exact rs.append rs')
  exact ⟨ρ, S, g, ⟨rfl, rfl, rfl⟩, .none⟩
theorem RVs.erase {h : Heap} {ρ : Rho} {vs : List Value} {ps : List PV} (r : RVs h ρ vs ps) : ∀ k : Nat, RVs h ρ (vs.eraseIdx k) (ps.eraseIdx k) := by
  induction vs generalizing ps with
  | nil => intro k; cases r; simp; exact .nil
  | cons v vs ih =>
    intro k
    cases r with | cons x y => cases k with | zero => exact y | succ k => exact .cons x (ih y k)
noncomputable def popG (ps : List PV) : SM PV := fun st => match ps with
  | [.ref i] => (match st[i]? with
    | some (.list xs) => (match xs[xs.length - 1]? with
      | some y => if xs.length ≤ sizeLine then some (y, st.set i (.list (xs.eraseIdx (xs.length - 1)))) else none
      | none => none)
    | _ => none)
  | [.ref i, .int 0] => (match st[i]? with
    | some (.list (y :: xs)) => if xs.length + 1 ≤ sizeLine then some (y, st.set i (.list xs)) else none
    | _ => none)
  | _ => none
theorem op_pop : OpL c b (fun vs => call (.builtin "list.pop") vs) popG := by
  constructor
  intro A hA ρ s st vs ps y st' e r R
  unfold popG at e
  split at e
  · split at e <;> try (first | obtain ⟨rfl, rfl⟩ := spr e | exact (nos e).elim | obtain rfl := Option.some.inj e | cases e)
    rename_i q
    split at e <;> try (first | obtain ⟨rfl, rfl⟩ := spr e | exact (nos e).elim | obtain rfl := Option.some.inj e | cases e)
    rename_i hy
    split at e <;> (first | obtain ⟨rfl, rfl⟩ := spr e | exact (nos e).elim | obtain rfl := Option.some.inj e | cases e)
    rename_i hz
    obtain ⟨_, rfl, r1⟩ := rvs1 r
    obtain ⟨_, hd, rfl⟩ := r1.inv
    obtain ⟨vs, n, e0, rs, hr⟩ := R.listAt hd q
    have hl := rs.length
    rw [Array.length_toList] at hl
    obtain ⟨v, hv, rv⟩ := rs.getAt hy
    rw [← hl] at hv
    have hlt : vs.size - 1 < vs.size := (Array.getElem?_eq_some_iff.mp hv).1
    refine call_meets F.slot_list_pop ⟨_, e0, rfl⟩ F.entry_list_pop (F.args_list_pop_1 _) (MeetsSeq.list_pop_last _ vs n v hv (by rw [hl]; exact hz)) ⟨e0, ?_⟩
    show EndsS _ _ _ _ _ _ _ _
    obtain ⟨S, g⟩ := R.listPut hd q (h' := s.heap.update _ (Obj.mapSeq fun xs => xs.eraseIdxIfInBounds (vs.size - 1))) (Heap.SameBut.update ..) (vs' := (vs.toList.eraseIdx (vs.size - 1)).toArray)
      ⟨_, by rw [Heap.get?_update_self _ e0 (by rw [mapSeq_erase _ _ _ hlt]; rfl), mapSeq_erase _ _ _ hlt]⟩ (by simpa [hl] using rs.erase _)
    exact ⟨ρ, S, g, ⟨rfl, rfl, rfl⟩, rv.grow g noFr⟩
  · split at e <;> try (first | obtain ⟨rfl, rfl⟩ := spr e | exact (nos e).elim | obtain rfl := Option.some.inj e | cases e)
    rename_i q
    split at e <;> (first | obtain ⟨rfl, rfl⟩ := spr e | exact (nos e).elim | obtain rfl := Option.some.inj e | cases e)
    rename_i hz
    obtain ⟨_, _, rfl, r1, r2⟩ := rvs2 r
    obtain ⟨_, hd, rfl⟩ := r1.inv
    obtain ⟨t, rfl⟩ := r2.inv
    obtain ⟨vs, n, e0, rs, hr⟩ := R.listAt hd q
    have hl := rs.length
    rw [Array.length_toList] at hl
    simp at hl
    obtain ⟨v, hv, rv⟩ := rs.getAt (i := 0) rfl
    have hlt : 0 < vs.size := by omega
    refine call_meets F.slot_list_pop ⟨_, e0, rfl⟩ F.entry_list_pop (F.args_list_pop_2 _ _) (MeetsSeq.list_pop_at _ vs n 0 t 0 v (by decide) (seqIndex_of (i := 0) (by decide) hlt) hv (by rw [hl]; exact hz)) ⟨e0, ?_⟩
    show EndsS _ _ _ _ _ _ _ _
    obtain ⟨S, g⟩ := R.listPut hd q (h' := s.heap.update _ (Obj.mapSeq fun xs => xs.eraseIdxIfInBounds 0)) (Heap.SameBut.update ..) (vs' := (vs.toList.eraseIdx 0).toArray)
      ⟨_, by rw [Heap.get?_update_self _ e0 (by rw [mapSeq_erase _ _ _ hlt]; rfl), mapSeq_erase _ _ _ hlt]⟩ (by simpa using rs.erase 0)
    exact ⟨ρ, S, g, ⟨rfl, rfl, rfl⟩, rv.grow g noFr⟩
  · (first | obtain ⟨rfl, rfl⟩ := spr e | exact (nos e).elim | obtain rfl := Option.some.inj e | cases e)
end
end Mine
end
section
set_option Elab.async false
set_option maxRecDepth 100000
set_option linter.unusedVariables false
set_option linter.unusedSimpArgs false
namespace Mine
open PySem PySem.Calls PySem.W PyProof.Rows
section
variable {c : Ctx0} {b : Nat} {f : FI}
noncomputable def dat : Nat → PV → Option PyData
  | _, .none => some .none
  | _, .bool t => some (.bool t)
  | _, .int i => some (.int i)
  | _, .str x => if PyData.strOk x = true then some (.str x) else none
  | n + 1, .tup xs => (xs.mapM (dat n)).map .tuple
  | n + 1, .lst xs => (xs.mapM (dat n)).map .list
  | _, _ => none
noncomputable def datS (st : List AO) (p : PV) : Option PyData := match p with
  | .ref i => (match st[i]? with
    | some (.list xs) => (xs.mapM (dat 5)).map .list
    | _ => none)
  | p => dat 6 p
theorem depthAll_le {n : Nat} : ∀ {ds : List PyData}, (∀ d ∈ ds, d.depth ≤ n) → PyData.depthAll ds ≤ n
  | [], _ => Nat.zero_le _
  | d :: ds, h => Nat.max_le.mpr ⟨h d (.head _), depthAll_le fun x m => h x (.tail _ m)⟩
theorem canLayAll_of {ds : List PyData} (h : ∀ d ∈ ds, d.canLay0 = true) : PyData.canLayAll0 ds = true := by
  induction ds with
  | nil => rfl
  | cons d ds ih => simp only [PyData.canLayAll0, h d (.head _), ih fun x m => h x (.tail _ m), Bool.and_self]
structure DatOk (h : Heap) (v : Value) (n : Nat) (d : PyData) : Prop where
  reads : ∃ as, Reads h v d as
  lay : d.canLay0 = true
  depth : d.depth ≤ n
theorem datAll {h : Heap} {ρ : Rho} {n : Nat} (ih : ∀ {v p d}, RV h ρ v p → dat n p = some d → DatOk h v n d) {vs : List Value} {xs : List PV} {ds : List PyData} (r : RVs h ρ vs xs) (e : xs.mapM (dat n) = some ds) : (∃ as, ReadsAll h vs ds as) ∧ (∀ d ∈ ds, d.canLay0 = true) ∧ ∀ d ∈ ds, d.depth ≤ n := by
  induction xs generalizing vs ds with
  | nil => obtain rfl := r.inv; obtain rfl := Option.some.inj e; exact ⟨⟨_, .nil⟩, by simp, by simp⟩
  | cons p xs hx =>
    obtain ⟨u, us, rfl, r1, rr⟩ := r.inv
    rw [List.mapM_cons] at e
    obtain ⟨d, e1, e⟩ := Option.bind_eq_some_iff.mp e
    obtain ⟨ds', e2, e3⟩ := Option.bind_eq_some_iff.mp e
    obtain rfl := Option.some.inj e3
    obtain ⟨⟨as, ra⟩, l, dp⟩ := ih r1 e1
    obtain ⟨⟨bs, rb⟩, ls, dps⟩ := hx rr e2
    exact ⟨⟨_, .cons ra rb⟩, fun x m => (List.mem_cons.mp m).elim (fun q => q ▸ l) (ls x), fun x m => (List.mem_cons.mp m).elim (fun q => q ▸ dp) (dps x)⟩
theorem dat_ok {h : Heap} {ρ : Rho} : ∀ (n : Nat) {v : Value} {p : PV} {d : PyData}, RV h ρ v p → dat n p = some d → DatOk h v n d := by
  intro n
  induction n with
  | zero =>
    intro v p d r e
    cases r <;> simp only [dat] at e <;> try (first | obtain ⟨rfl, rfl⟩ := spr e | exact (nos e).elim | obtain rfl := Option.some.inj e | cases e)
    · exact ⟨⟨_, .none⟩, rfl, Nat.le_refl _⟩
    · exact ⟨⟨_, .bool _⟩, rfl, Nat.le_refl _⟩
    · exact ⟨⟨_, .int _ _⟩, rfl, Nat.le_refl _⟩
    · split at e <;> (first | obtain ⟨rfl, rfl⟩ := spr e | exact (nos e).elim | obtain rfl := Option.some.inj e | cases e)
      rename_i hs
      exact ⟨⟨_, .str _ _⟩, by simpa [PyData.canLay0] using hs, Nat.le_refl _⟩
  | succ n ih =>
    intro v p d r e
    cases r <;> simp only [dat] at e <;> try (first | obtain ⟨rfl, rfl⟩ := spr e | exact (nos e).elim | obtain rfl := Option.some.inj e | cases e)
    · exact ⟨⟨_, .none⟩, rfl, Nat.zero_le _⟩
    · exact ⟨⟨_, .bool _⟩, rfl, Nat.zero_le _⟩
    · exact ⟨⟨_, .int _ _⟩, rfl, Nat.zero_le _⟩
    · split at e <;> (first | obtain ⟨rfl, rfl⟩ := spr e | exact (nos e).elim | obtain rfl := Option.some.inj e | cases e)
      rename_i hs
      exact ⟨⟨_, .str _ _⟩, by simpa [PyData.canLay0] using hs, Nat.zero_le _⟩
    · rename_i a vs xs na q rr
      obtain ⟨ds, e1, rfl⟩ := Option.map_eq_some_iff.mp e
      obtain ⟨⟨as, ra⟩, l, dp⟩ := datAll ih rr e1
      obtain ⟨o, eo, ec, k, ed⟩ := q
      exact ⟨⟨_, .tuple eo ec ed (by simpa using ra)⟩, by simpa [PyData.canLay0] using canLayAll_of l, Nat.succ_le_succ (depthAll_le dp)⟩
    · rename_i a vs xs na q rr
      obtain ⟨ds, e1, rfl⟩ := Option.map_eq_some_iff.mp e
      obtain ⟨⟨as, ra⟩, l, dp⟩ := datAll ih rr e1
      obtain ⟨k, eo⟩ := q
      exact ⟨⟨_, .list eo rfl rfl (by simpa using ra)⟩, by simpa [PyData.canLay0] using canLayAll_of l, Nat.succ_le_succ (depthAll_le dp)⟩
theorem datS_ok {K : Frag} {ρ : Rho} {st : List AO} {h : Heap} (R : RelS K ρ st h) {v : Value} {p : PV} {d : PyData} (r : RV h ρ v p) (e : datS st p = some d) : DatOk h v 6 d := by
  unfold datS at e
  split at e
  · split at e <;> try (first | obtain ⟨rfl, rfl⟩ := spr e | exact (nos e).elim | obtain rfl := Option.some.inj e | cases e)
    rename_i q
    obtain ⟨ds, e1, rfl⟩ := Option.map_eq_some_iff.mp e
    obtain ⟨_, hd, rfl⟩ := r.inv
    obtain ⟨vs, k, e0, rs, _⟩ := R.listAt hd q
    obtain ⟨⟨as, ra⟩, l, dp⟩ := datAll (n := 5) (fun r e => dat_ok 5 r e) rs e1
    exact ⟨⟨_, .list e0 rfl rfl ra⟩, by simpa [PyData.canLay0] using canLayAll_of l, Nat.succ_le_succ (depthAll_le dp)⟩
  · exact dat_ok 6 r e
noncomputable def eqG (p q : PV) : SM PV := fun st => match datS st p, datS st q with | some x, some y => some (.bool (PyData.eqv x y), st) | _, _ => none
noncomputable def neG (p q : PV) : SM PV := fun st => match datS st p, datS st q with | some x, some y => some (.bool (!PyData.eqv x y), st) | _, _ => none
theorem units_ok {A : Around} (hA : AOk b A) : A.units ≤ 9000 := by have := hA.units; omega
theorem op_eqG : Op2 c b RV (compareOp .Eq) eqG := by
  constructor
  intro A hA ρ s st x z x' z' y st' e r r' R
  unfold eqG at e; split at e <;> (first | obtain ⟨rfl, rfl⟩ := spr e | exact (nos e).elim | obtain rfl := Option.some.inj e | cases e)
  rename_i e1 e2
  obtain ⟨⟨as, ra⟩, l, dp⟩ := datS_ok R r e1
  obtain ⟨⟨bs, rb⟩, l', dp'⟩ := datS_ok R r' e2
  have hu := units_ok hA
  refine SeqAt.compareEq_reads ra rb l l' ?_ (EndsS.here R (.bool _))
  show _ < 9900
  exact Nat.lt_of_le_of_lt (Nat.add_le_add hu (Nat.le_trans (Nat.min_le_left _ _) dp)) (by decide)
theorem op_neG : Op2 c b RV (compareOp .NotEq) neG := by
  constructor
  intro A hA ρ s st x z x' z' y st' e r r' R
  unfold neG at e; split at e <;> (first | obtain ⟨rfl, rfl⟩ := spr e | exact (nos e).elim | obtain rfl := Option.some.inj e | cases e)
  rename_i e1 e2
  obtain ⟨⟨as, ra⟩, l, dp⟩ := datS_ok R r e1
  obtain ⟨⟨bs, rb⟩, l', dp'⟩ := datS_ok R r' e2
  have hu := units_ok hA
  refine SeqAt.compareNe_reads ra rb l l' ?_ (EndsS.here R (.bool _))
  show _ < 9900
  exact Nat.lt_of_le_of_lt (Nat.add_le_add hu (Nat.le_trans (Nat.min_le_left _ _) dp)) (by decide)
noncomputable def anyG (p q : PV) (st : List AO) : Option Bool := match datS st p, datS st q with
  | some x, some (.list ds) => some (ds.any fun y => PyData.eqv y x)
  | some x, some (.tuple ds) => some (ds.any fun y => PyData.eqv y x)
  | _, _ => (match p, q with
    | .str y, .str x => some (!(Builtin.Str.occurrences x y 0 x.length 1).isEmpty)
    | _, _ => none)
noncomputable def inG (p q : PV) : SM PV := fun st => (anyG p q st).map fun t => (.bool t, st)
noncomputable def notInG (p q : PV) : SM PV := fun st => (anyG p q st).map fun t => (.bool !t, st)
theorem canLay_list {ds : List PyData} (h : (PyData.list ds).canLay0 = true) : PyData.canLayAll0 ds = true := by simpa [PyData.canLay0] using h
theorem canLay_tuple {ds : List PyData} (h : (PyData.tuple ds).canLay0 = true) : PyData.canLayAll0 ds = true := by simpa [PyData.canLay0] using h
theorem room_in {A : Around} (hA : AOk b A) {d : PyData} {m : Nat} (dp : d.depth ≤ 6) : A.units + 1 + min m d.depth < cLine := by
  have hu := units_ok hA
  show _ < 9900
  exact Nat.lt_of_le_of_lt (Nat.add_le_add (Nat.add_le_add_right hu 1) (Nat.le_trans (Nat.min_le_right _ _) dp)) (by decide)
theorem op_inG : Op2 c b RV (compareOp .In) inG := by
  constructor
  intro A hA ρ s st x z x' z' y st' e r r' R
  unfold inG at e
  obtain ⟨t, e, q⟩ := Option.map_eq_some_iff.mp e
  cases q
  unfold anyG at e
  split at e
  · rename_i e1 e2
    (first | obtain ⟨rfl, rfl⟩ := spr e | exact (nos e).elim | obtain rfl := Option.some.inj e | cases e)
    obtain ⟨⟨as, ra⟩, l, dp⟩ := datS_ok R r e1
    obtain ⟨⟨bs, rb⟩, l', dp'⟩ := datS_ok R r' e2
    exact SeqAt.in_list_reads rb ra (canLay_list l') l (room_in hA dp) (EndsS.here R (.bool _))
  · rename_i e1 e2
    (first | obtain ⟨rfl, rfl⟩ := spr e | exact (nos e).elim | obtain rfl := Option.some.inj e | cases e)
    obtain ⟨⟨as, ra⟩, l, dp⟩ := datS_ok R r e1
    obtain ⟨⟨bs, rb⟩, l', dp'⟩ := datS_ok R r' e2
    exact SeqAt.in_tuple_reads rb ra (canLay_tuple l') l (room_in hA dp) (EndsS.here R (.bool _))
  · split at e <;> (first | obtain ⟨rfl, rfl⟩ := spr e | exact (nos e).elim | obtain rfl := Option.some.inj e | cases e)
    obtain ⟨_, rfl⟩ := r.inv; obtain ⟨_, rfl⟩ := r'.inv
    exact PyProof.Rows.in_str (EndsS.here R (.bool _))
theorem op_notInG : Op2 c b RV (compareOp .NotIn) notInG := by
  constructor
  intro A hA ρ s st x z x' z' y st' e r r' R
  unfold notInG at e
  obtain ⟨t, e, q⟩ := Option.map_eq_some_iff.mp e
  unfold anyG at e
  split at e
  · rename_i e1 e2
    (first | obtain ⟨rfl, rfl⟩ := spr e | exact (nos e).elim | obtain rfl := Option.some.inj e | cases e); cases q
    obtain ⟨⟨as, ra⟩, l, dp⟩ := datS_ok R r e1
    obtain ⟨⟨bs, rb⟩, l', dp'⟩ := datS_ok R r' e2
    exact SeqAt.notIn_list_reads rb ra (canLay_list l') l (room_in hA dp) (EndsS.here R (.bool _))
  · rename_i e1 e2
    (first | obtain ⟨rfl, rfl⟩ := spr e | exact (nos e).elim | obtain rfl := Option.some.inj e | cases e); cases q
    obtain ⟨⟨as, ra⟩, l, dp⟩ := datS_ok R r e1
    obtain ⟨⟨bs, rb⟩, l', dp'⟩ := datS_ok R r' e2
    exact SeqAt.notIn_tuple_reads rb ra (canLay_tuple l') l (room_in hA dp) (EndsS.here R (.bool _))
  · split at e <;> (first | obtain ⟨rfl, rfl⟩ := spr e | exact (nos e).elim | obtain rfl := Option.some.inj e | cases e)
    cases q; cases r; (first | obtain ⟨_, rfl⟩ := r'.inv | cases r')
    exact P.notIn_str (EndsS.here R (.bool _))
noncomputable def addG (p q : PV) : SM PV := fun st => match p, q with
  | .int i, .int j => some (.int (i + j), st)
  | .str x, .str y => if x.length + y.length ≤ sizeLine then some (.str (x ++ y), st) else none
  | p, q => (match items? st p, items? st q with
    | some xs, some ys => if xs.length + ys.length ≤ sizeLine then some (.lst (xs ++ ys), st) else none
    | _, _ => none)
theorem op_addG : Op2 c b RV (binaryOp .Add) addG := by
  constructor
  intro A hA ρ s st x z x' z' y st' e r r' R
  unfold addG at e; split at e
  · (first | obtain ⟨rfl, rfl⟩ := spr e | exact (nos e).elim | obtain rfl := Option.some.inj e | cases e); obtain ⟨_, rfl⟩ := r.inv; obtain ⟨_, rfl⟩ := r'.inv
    exact PyProof.Rows.add_int (EndsS.tok R (.int _ _))
  · split at e <;> (first | obtain ⟨rfl, rfl⟩ := spr e | exact (nos e).elim | obtain rfl := Option.some.inj e | cases e)
    rename_i hb
    obtain ⟨_, rfl⟩ := r.inv; obtain ⟨_, rfl⟩ := r'.inv
    exact PyProof.Rows.add_str (fun t' tk => EndsS.tok R (.str _ _)) hb
  · split at e <;> try (first | obtain ⟨rfl, rfl⟩ := spr e | exact (nos e).elim | obtain rfl := Option.some.inj e | cases e)
    rename_i h1 h2
    split at e <;> (first | obtain ⟨rfl, rfl⟩ := spr e | exact (nos e).elim | obtain rfl := Option.some.inj e | cases e)
    rename_i hb
    obtain ⟨a, vs, rfl, ⟨n, q⟩, rs⟩ := items_of R r h1
    obtain ⟨a', vs', rfl, ⟨n', q'⟩, rs'⟩ := items_of R r' h2
    have hl := rs.length
    have hl' := rs'.length
    rw [Array.length_toList] at hl hl'
    refine P.add_list q q' ?_ (by rw [hl, hl']; exact hb)
    have := ends_lst (c := c) (s := s) (tk := s.toks) R (rs.append rs')
    rwa [show (vs.toList ++ vs'.toList).toArray = vs ++ vs' from by rw [← Array.toList_append, Array.toArray_toList]] at this
noncomputable def iaddG (p q : PV) : SM PV := fun st => match p, q with
  | .int i, .int j => some (.int (i + j), st)
  | .str x, .str y => if x.length + y.length ≤ sizeLine then some (.str (x ++ y), st) else none
  | _, _ => none
theorem op_iaddG : Op2 c b RV (inplaceOp .Add) iaddG := by
  constructor
  intro A hA ρ s st x z x' z' y st' e r r' R
  unfold iaddG at e; split at e
  · (first | obtain ⟨rfl, rfl⟩ := spr e | exact (nos e).elim | obtain rfl := Option.some.inj e | cases e); obtain ⟨_, rfl⟩ := r.inv; obtain ⟨_, rfl⟩ := r'.inv
    exact PyProof.Rows.iadd_int (EndsS.tok R (.int _ _))
  · split at e <;> (first | obtain ⟨rfl, rfl⟩ := spr e | exact (nos e).elim | obtain rfl := Option.some.inj e | cases e)
    rename_i hb
    obtain ⟨_, rfl⟩ := r.inv; obtain ⟨_, rfl⟩ := r'.inv
    exact PyProof.Rows.iadd_str (fun t' tk => EndsS.tok R (.str _ _)) hb
  · (first | obtain ⟨rfl, rfl⟩ := spr e | exact (nos e).elim | obtain rfl := Option.some.inj e | cases e)
theorem op_idivI : Op2 c b RV (inplaceOp .FloorDiv) divI := by
  constructor
  intro A hA ρ s st x z x' z' y st' e r r' R
  unfold divI at e; split at e <;> try (first | obtain ⟨rfl, rfl⟩ := spr e | exact (nos e).elim | obtain rfl := Option.some.inj e | cases e)
  split at e <;> (first | obtain ⟨rfl, rfl⟩ := spr e | exact (nos e).elim | obtain rfl := Option.some.inj e | cases e)
  rename_i hb
  obtain ⟨_, rfl⟩ := r.inv; obtain ⟨_, rfl⟩ := r'.inv
  exact PyProof.Rows.ifloordiv_int hb.1 (EndsS.tok R (.int _ _)) (.inl (PyProof.noPylong_small (by omega)))
theorem op_iorI : Op2 c b RV (inplaceOp .BitOr) orI := by
  constructor
  intro A hA ρ s st x z x' z' y st' e r r' R
  unfold orI at e; split at e <;> (first | obtain ⟨rfl, rfl⟩ := spr e | exact (nos e).elim | obtain rfl := Option.some.inj e | cases e)
  obtain ⟨_, rfl⟩ := r.inv; obtain ⟨_, rfl⟩ := r'.inv
  exact PyProof.Rows.ior_int (EndsS.tok R (.int _ _))
theorem op_ixorI : Op2 c b RV (inplaceOp .BitXor) xorI := by
  constructor
  intro A hA ρ s st x z x' z' y st' e r r' R
  unfold xorI at e; split at e <;> (first | obtain ⟨rfl, rfl⟩ := spr e | exact (nos e).elim | obtain rfl := Option.some.inj e | cases e)
  obtain ⟨_, rfl⟩ := r.inv; obtain ⟨_, rfl⟩ := r'.inv
  exact PyProof.Rows.ixor_int (EndsS.tok R (.int _ _))
noncomputable def lenG (ps : List PV) : SM PV := fun st => match ps with
  | [.str x] => if x.length ≤ sizeLine then some (.int x.length, st) else none
  | [.tup xs] => if xs.length ≤ sizeLine then some (.int xs.length, st) else none
  | [p] => (match items? st p with
    | some xs => if xs.length ≤ sizeLine then some (.int xs.length, st) else none
    | none => none)
  | _ => none
theorem op_len : OpL c b (fun vs => call (.builtin "len") vs) lenG := by
  constructor
  intro A hA ρ s st vs ps y st' e r R
  unfold lenG at e; split at e
  · split at e <;> (first | obtain ⟨rfl, rfl⟩ := spr e | exact (nos e).elim | obtain rfl := Option.some.inj e | cases e)
    rename_i hz
    obtain ⟨_, rfl, r1⟩ := rvs1 r
    rw [sizeLine_eq] at hz
    (first | obtain ⟨_, rfl⟩ := r1.inv | cases r1); exact PyProof.Rows.len_str (by omega) (EndsS.tok R (.int _ _))
  · split at e <;> (first | obtain ⟨rfl, rfl⟩ := spr e | exact (nos e).elim | obtain rfl := Option.some.inj e | cases e)
    rename_i hz
    obtain ⟨_, rfl, r1⟩ := rvs1 r
    rw [sizeLine_eq] at hz
    obtain ⟨_, _, na, q, rr, rfl⟩ := r1.inv
    have hl := rr.length
    refine PyProof.Rows.len_tuple q (by rw [List.size_toArray]; omega) ?_
    rw [List.size_toArray, hl]
    exact EndsS.tok R (.int _ _)
  · split at e <;> try (first | obtain ⟨rfl, rfl⟩ := spr e | exact (nos e).elim | obtain rfl := Option.some.inj e | cases e)
    rename_i hx
    split at e <;> (first | obtain ⟨rfl, rfl⟩ := spr e | exact (nos e).elim | obtain rfl := Option.some.inj e | cases e)
    rename_i hz
    obtain ⟨_, rfl, r1⟩ := rvs1 r
    obtain ⟨a, vs, rfl, q, rs⟩ := items_of R r1 hx
    have hl := rs.length
    rw [Array.length_toList] at hl
    rw [sizeLine_eq] at hz
    refine PyProof.Rows.len_list (isL q) (by omega) ?_
    rw [hl]
    exact EndsS.tok R (.int _ _)
  · (first | obtain ⟨rfl, rfl⟩ := spr e | exact (nos e).elim | obtain rfl := Option.some.inj e | cases e)
noncomputable def augE (old X : FM PV) (G : PV → PV → SM PV) (S : PV → FM Unit) : FM PF := bindE (bindE old fun p => bindE X fun q => liftS (G p q)) fun r => bindE (S r) fun _ => pureE .next
theorem load_local {x : Str} {i : Nat} (ok : f.Ok) (hx : f.ln[i]? = some x) : Den c b f RV (loadName f.env x) (getL i) := by
  constructor
  intro A hA ρ s es y es' e R
  unfold getL at e
  split at e
  · rename_i v q
    (first | obtain ⟨rfl, rfl⟩ := spr e | exact (nos e).elim | obtain rfl := Option.some.inj e | cases e)
    obtain ⟨m, n, l, _⟩ := R.l
    have := l i x hx
    rw [q] at this
    obtain ⟨u, hu, r⟩ := rvo_some this
    exact wpAny_loadName_local ok.kind (ok.loc x (List.mem_of_getElem? hx)) n hu (Ends.here R r)
  · (first | obtain ⟨rfl, rfl⟩ := spr e | exact (nos e).elim | obtain rfl := Option.some.inj e | cases e)
theorem den_aug {x : Str} {p' pos : Pos} {op : Operator} {value : Expr} {old X : FM PV} {G : PV → PV → SM PV} {S : PV → FM Unit} (dl : Den c b f RV (loadName f.env x) old) (dx : Den c b f RV (eval value f.env) X) (o : Op2 c b RV (inplaceOp op) G)
    (ds : DenK c b f RV RU (storeName f.env x) S) : Den c b f RFl (exec (.AugAssign (.Name x p') op value pos) f.env) (augE old X G S) := by
  constructor
  intro A hA ρ s es y es' e R
  obtain ⟨r, es₁, e1, e⟩ := bindE_some e
  obtain ⟨_, es₂, e2, e3⟩ := bindE_some e
  cases e3
  refine wpAny_AugAssign_Name (wpAny_mono (two_then dl dx o hA e1 R) (fun a s₁ z => wpAny_mono z (fun v s₂ z => wpAny_mono z (fun u s₃ z => ?_) fun _ _ z => z) fun _ _ z => z) fun _ _ z => z)
  obtain ⟨ρ₁, R₁, g₁, q₁, r₁⟩ := z
  refine wpAny_mono (ds.run A hA ρ₁ s₃ es₁ u r () es' e2 r₁ R₁) (fun _ s₄ z => ?_) fun _ _ z => z
  obtain ⟨ρ₂, R₂, g₂, q₂, _⟩ := z
  exact ⟨ρ₂, R₂, g₁.trans g₂, q₁.trans q₂, .next⟩
theorem denst_local {x : Str} {i : Nat} (ok : f.Ok) (hx : f.ln[i]? = some x) : DenK c b f RV RU (storeName f.env x) (setL i) := by
  constructor
  intro A hA ρ s es v p y es' e r R
  unfold setL at e
  split at e <;> (first | obtain ⟨rfl, rfl⟩ := spr e | exact (nos e).elim | obtain rfl := Option.some.inj e | cases e)
  exact store_local ok hx R r ‹_›
theorem den_aug_local {x : Str} {p' pos : Pos} {op : Operator} {value : Expr} {X : FM PV} {G : PV → PV → SM PV} {i : Nat} (ok : f.Ok) (hx : f.ln[i]? = some x) (dx : Den c b f RV (eval value f.env) X) (o : Op2 c b RV (inplaceOp op) G) :
    Den c b f RFl (exec (.AugAssign (.Name x p') op value pos) f.env) (augE (getL i) X G (setL i)) := den_aug (load_local ok hx) dx o (denst_local ok hx)
end
end Mine
end
section
set_option Elab.async false
set_option maxRecDepth 100000
set_option linter.unusedVariables false
set_option linter.unusedSimpArgs false
namespace Mine
open PySem PySem.Calls PySem.W PyProof.Rows
section
variable {c : Ctx0} {b : Nat} {f : FI}
theorem ite_some {α : Type} {p : Prop} [Decidable p] {a b : α} (e : (if p then some a else none) = some b) : p ∧ a = b := by
  split at e
  · (first | obtain ⟨rfl, rfl⟩ := spr e | exact (nos e).elim | obtain rfl := Option.some.inj e | cases e); exact ⟨‹_›, rfl⟩
  · (first | obtain ⟨rfl, rfl⟩ := spr e | exact (nos e).elim | obtain rfl := Option.some.inj e | cases e)
noncomputable def part? : PV → Option (Option Int)
  | .none => some none
  | .int i => some (some i)
  | _ => none
theorem part_of {h : Heap} {ρ : Rho} {v : Value} {p : PV} {o : Option Int} (r : RV h ρ v p) (e : part? p = some o) : IsPart v o ∧ ∃ q : Option (Int × Tok), v = partValue q ∧ q.map (·.1) = o := by
  cases r <;> (first | obtain ⟨rfl, rfl⟩ := spr e | exact (nos e).elim | obtain rfl := Option.some.inj e | cases e)
  · exact ⟨.none, none, rfl, rfl⟩
  · rename_i i t; exact ⟨.int i t, some (i, t), rfl, rfl⟩
noncomputable def pick {α : Type} (idx : List Nat) (xs : List α) : List α := idx.filterMap (xs[·]?)
theorem RVs.pick {h : Heap} {ρ : Rho} {vs : List Value} {xs : List PV} (r : RVs h ρ vs xs) (idx : List Nat) : RVs h ρ (pick idx vs) (pick idx xs) := by
  induction idx with
  | nil => exact .nil
  | cons i idx ih =>
    unfold Mine.pick at ih ⊢
    by_cases hi : i < xs.length
    · obtain ⟨v, hv, rv⟩ := r.get (i := i) (p := xs[i]) (by simp [hi])
      rw [List.filterMap_cons, List.filterMap_cons, hv, List.getElem?_eq_getElem hi]
      exact .cons rv ih
    · have h1 : xs[i]? = none := by rw [List.getElem?_eq_none_iff]; omega
      have h2 : vs[i]? = none := by rw [List.getElem?_eq_none_iff, r.length]; omega
      rw [List.filterMap_cons, List.filterMap_cons, h1, h2]
      exact ih
noncomputable def sliceL (n : Nat) (lo hi st : Option Int) : List Nat := sliceRange (sliceBounds lo hi st n).1 (sliceBounds lo hi st n).2.1 (sliceBounds lo hi st n).2.2
noncomputable def sliceS (x : Str) (lo hi st : Option Int) : Str :=
  if (st.getD 1 == 1 && (Builtin.Str.strSliceIndices lo hi (st.getD 1) x.length).length == x.length) = true then x else ⟨((Builtin.Str.strSliceIndices lo hi (st.getD 1) x.length).filterMap (x.cps[·]?)).toArray⟩
noncomputable def sliceG (p lo hi st : PV) : SM PV := fun s => match part? lo, part? hi, part? st with
  | some l, some u, some k => if k ≠ some 0 then (match p with
    | .str x => if (sliceS x l u k).length ≤ sizeLine then some (.str (sliceS x l u k), s) else none
    | p => (match items? s p with
      | some xs => if xs.length ≤ sizeLine then some (.lst (pick (sliceL xs.length l u k) xs), s) else none
      | none => none)) else none
  | _, _, _ => none
theorem subscripted_slice (lo up st : Option Expr) (p : Pos) (o i : Value) : ∃ ops, subscripted (.Slice lo up st p) false o i = operate ops (getItem o i) := by
  cases st with
  | none => exact ⟨[i, o], rfl⟩
  | some e => exact ⟨[o, i], rfl⟩
noncomputable abbrev DenP (c : Ctx0) (b : Nat) (f : FI) (x : Option Expr) (F : FM PV) : Prop := Den c b f RV (evalPart x f.env) F
theorem denp_none : DenP c b f none (pureE .none) := by
  constructor
  intro A hA ρ s es y es' e R
  (first | obtain ⟨rfl, rfl⟩ := spr e | exact (nos e).elim | obtain rfl := Option.some.inj e | cases e)
  rw [evalPart_none]
  exact wpAny_pure (Ends.here R .none)
theorem denp_some {x : Expr} {F : FM PV} (d : Den c b f RV (eval x f.env) F) : DenP c b f (some x) F := by
  constructor
  rw [evalPart_some]
  exact d.run
theorem strMade_post {x : Str} {t : Tok} {l u k : Option (Int × Tok)} {Q : Value → Shared → Prop} {s : Shared} (hz : (sliceS x (l.map (·.1)) (u.map (·.1)) (k.map (·.1))).length ≤ sizeLine)
    (h : ∀ t' tk, Q (.str (sliceS x (l.map (·.1)) (u.map (·.1)) (k.map (·.1))) t') { s with toks := tk }) : (sliceMade x t l u k).post Q s := by
  unfold sliceMade slicePicked
  unfold sliceS at h hz
  split
  · rename_i hc
    rw [if_pos hc] at h
    exact h t s.toks
  · rename_i hc
    rw [if_neg hc] at h hz
    exact ⟨hz, h _ _⟩
theorem den_slice {value : Expr} {lo up st : Option Expr} {p pos : Pos} {V L U S : FM PV} (dv : Den c b f RV (eval value f.env) V) (dl : DenP c b f lo L) (du : DenP c b f up U) (ds : DenP c b f st S) :
    Den c b f RV (eval (.Subscript value (.Slice lo up st p) pos) f.env) (bindE V fun v => bindE L fun l => bindE U fun u => bindE S fun k => liftS (sliceG v l u k)) := by
  constructor
  intro A hA ρ s es y es' e R
  obtain ⟨pv, es₁, e1, e⟩ := bindE_some e
  obtain ⟨pl, es₂, e2, e⟩ := bindE_some e
  obtain ⟨pu, es₃, e3, e⟩ := bindE_some e
  obtain ⟨pk, es₄, e4, e⟩ := bindE_some e
  obtain ⟨st', e5, rfl⟩ := liftS_some e
  refine Subscript_ (wpAny_mono (dv.run A hA ρ s es pv es₁ e1 R) (fun v s₁ z => ?_) fun _ _ z => z)
  obtain ⟨ρ₁, R₁, g₁, q₁, r₁⟩ := z
  refine wpAny_Slice (wpAny_mono (dl.run A hA ρ₁ s₁ es₁ pl es₂ e2 R₁) (fun l s₂ z => ?_) fun _ _ z => z)
  obtain ⟨ρ₂, R₂, g₂, q₂, r₂⟩ := z
  refine wpAny_mono (du.run A hA ρ₂ s₂ es₂ pu es₃ e3 R₂) (fun u s₃ z => ?_) fun _ _ z => z
  obtain ⟨ρ₃, R₃, g₃, q₃, r₃⟩ := z
  refine wpAny_mono (ds.run A hA ρ₃ s₃ es₃ pk es₄ e4 R₃) (fun k s₄ z => ?_) fun _ _ z => z
  obtain ⟨ρ₄, R₄, g₄, q₄, r₄⟩ := z
  have rv := (((r₁.grow g₂ R₁.like).grow g₃ R₂.like).grow g₄ R₃.like)
  have rl := ((r₂.grow g₃ R₂.like).grow g₄ R₃.like)
  have ru := (r₃.grow g₄ R₃.like)
  have gg := ((g₁.trans g₂).trans g₃).trans g₄
  have qq := ((q₁.trans q₂).trans q₃).trans q₄
  have hp := R₄.s.pushObj { cls := .type "slice", data := .fields #[l, u, k] }
  obtain ⟨S₅, g₅⟩ := hp
  have R₅ := R₄.ofS S₅ g₅
  have fin : ∀ {x : Value} {s' : Shared}, EndsS c.K RV ρ₄ { s₄ with heap := s₄.heap.push { cls := .type "slice", data := .fields #[l, u, k] } } y st' x s' → Ends c.K f RV ρ s y { es₄ with st := st' } x s' := fun z =>
    ((EndsS.after (s := s₄) (s₁ := { s₄ with heap := s₄.heap.push { cls := .type "slice", data := .fields #[l, u, k] } }) g₅ ⟨rfl, rfl, rfl⟩ z).toF R₄).after gg qq
  obtain ⟨ops, hs⟩ := subscripted_slice lo up st p v (.ref s₄.heap.objs.size)
  have rv5 := rv.grow g₅ noFr
  unfold sliceG at e5
  split at e5 <;> try (first | obtain ⟨rfl, rfl⟩ := spr e5 | exact (nos e5).elim | obtain rfl := Option.some.inj e5 | cases e5)
  rename_i ol ou ok h1 h2 h3
  obtain ⟨il, ql, hl, hl'⟩ := part_of rl h1
  obtain ⟨iu, qu, hu, hu'⟩ := part_of ru h2
  obtain ⟨ik, qk, hk, hk'⟩ := part_of r₄ h3
  split at e5 <;> try (first | obtain ⟨rfl, rfl⟩ := spr e5 | exact (nos e5).elim | obtain rfl := Option.some.inj e5 | cases e5)
  rename_i hk0
  split at e5
  · rename_i x
    obtain ⟨hz, e6⟩ := ite_some e5
    (first | obtain ⟨rfl, rfl⟩ := spr e6 | exact (nos e6).elim | obtain rfl := Option.some.inj e6 | cases e6)
    generalize hH : s₄.heap.push { cls := .type "slice", data := .fields #[l, u, k] } = H at *
    obtain ⟨t, rfl⟩ := rv5.inv
    rw [hl, hu, hk] at hH
    rw [← hl', ← hu', ← hk'] at hz
    refine tail_any (typeIs_str _ _ _) slot_str_getitem.lookup (wpAny_getItem_str_slice (l := ql) (u := qu) (st := qk) ⟨_, by rw [← hH]; exact Heap.get?_push_size _ rfl, rfl, rfl⟩ ?_ (strMade_post hz fun t' tk => by rw [hl', hu', hk']; exact fin (EndsS.tok S₅ (.str _ _)))) hs
    rw [hk']
    cases ok with
    | none => rfl
    | some i =>
      show (i == 0) = false
      rw [beq_eq_false_iff_ne]
      exact fun q => hk0 (by rw [q])
  · split at e5 <;> try (first | obtain ⟨rfl, rfl⟩ := spr e5 | exact (nos e5).elim | obtain rfl := Option.some.inj e5 | cases e5)
    rename_i xs hx
    obtain ⟨hz, e6⟩ := ite_some e5
    (first | obtain ⟨rfl, rfl⟩ := spr e6 | exact (nos e6).elim | obtain rfl := Option.some.inj e6 | cases e6)
    obtain ⟨a, vs, rfl, pl, rr⟩ := items_of S₅ rv5 hx
    have hlen := rr.length
    rw [Array.length_toList] at hlen
    refine tail_any (isL pl).typeIs slot_list_getitem.lookup (wpAny_getItem_list_slice (isL pl) (Heap.IsSliceOf.new ..) il iu ik hk0 (fin ?_) (by rw [hlen]; exact hz)) hs
    have e := rr.pick (sliceL xs.length ol ou ok)
    have e' : (slicePick vs ol ou ok) = (pick (sliceL xs.length ol ou ok) vs.toList).toArray := by
      unfold slicePick pick sliceL
      rw [hlen]
      congr 1
      congr 1
      funext i
      simp
    rw [e']
    exact ends_lst (s := { s₄ with heap := s₄.heap.push { cls := .type "slice", data := .fields #[l, u, k] } }) (tk := s₄.toks) S₅ e
noncomputable def mulG (p q : PV) : SM PV := fun st => match p, q with
  | p, .int n => (match items? st p with
    | some xs => if xs.length * n.toNat ≤ 2 ^ 24 ∧ -1000 < n ∧ n < 2 ^ 24 then some (.ref st.length, st ++ [.list (List.replicate n.toNat xs).flatten]) else none
    | none => none)
  | _, _ => none
end
end Mine
end
section
set_option Elab.async false
set_option maxRecDepth 100000
set_option linter.unusedVariables false
set_option linter.unusedSimpArgs false
namespace Mine
open PySem PySem.Calls PySem.W PyProof.Rows
section
variable {c : Ctx0} {b : Nat} {f : FI}
theorem mulList {A : Around} {s : Shared} {l : Addr} {items : Array Value} {k : Nat} {x : Int} {u : Tok} {Q : Value → Shared → Prop} {E : Value → Shared → Prop} (hl : s.heap.get? l = some { cls := .type "list", data := .seq items k })
    (hlo : -(2 ^ 63 : Int) ≤ x) (hhi : x < 2 ^ 63) (hsz : items.size * x.toNat ≤ 2 ^ 24)
    (h : Q (.ref s.heap.objs.size) { s with heap := s.heap.push { cls := .type "list", data := .seq (List.foldl (fun x1 x2 => x1 ++ x2) #[] (List.replicate (if items.isEmpty = true then 0 else x.toNat) items)) } }) :
    wpAny (model c.prog c.w) A (binaryOp .Mult (.ref l) (.int x u)) Q E s :=
  wpAny_binaryOp_repeat_ref (T := "list") (U := "int") (by decide) ⟨_, hl, rfl⟩ (fun s' => typeIs_int s' x u) noFill_list_mul F.fills_int_mul F.slot_int_rmul repeat_list F.slot_int_index.lookup
    (call_meets F.slot_int_rmul (typeIs_int s x u) F.entry_int_rmul (F.args_int_rmul_2 _ _) (int___rmul___int_list x u l items k)
      ⟨hl, rfl, ⟨_, hl, rfl⟩, call_meets F.slot_list_mul ⟨_, hl, rfl⟩ F.entry_list_mul (F.args_list_mul_2 _ _)
        (AutoListH.list___mul___list_int_3 l items k x u (by simp [Builtin.List.listFitsIndex]; omega) (by omega) (by unfold Builtin.List.listTooLong sizeLine; rw [decide_eq_true_eq]; omega))
        ⟨hl, h⟩⟩)
theorem foldl_toList {α : Type} (xs : List (Array α)) (acc : Array α) : (xs.foldl (fun x1 x2 => x1 ++ x2) acc).toList = acc.toList ++ (xs.map Array.toList).flatten := by
  induction xs generalizing acc with
  | nil => simp
  | cons x xs ih => rw [List.foldl_cons, ih]; simp
theorem RVs.reps {h : Heap} {ρ : Rho} {vs : List Value} {xs : List PV} (r : RVs h ρ vs xs) : ∀ n : Nat, RVs h ρ (List.replicate n vs).flatten (List.replicate n xs).flatten
  | 0 => .nil
  | n + 1 => by rw [List.replicate_succ, List.replicate_succ, List.flatten_cons, List.flatten_cons]; exact r.append (r.reps n)
theorem op_mulG : Op2 c b RV (binaryOp .Mult) mulG := by
  constructor
  intro A hA ρ s st x z x' z' y st' e r r' R
  unfold mulG at e; split at e
  · rename_i n
    split at e
    · rename_i xs hx
      obtain ⟨hb, e⟩ := ite_some e
      (first | obtain ⟨rfl, rfl⟩ := spr e | exact (nos e).elim | obtain rfl := Option.some.inj e | cases e); (first | obtain ⟨_, rfl⟩ := r'.inv | cases r')
      obtain ⟨a, vs, rfl, ⟨k, q⟩, rr⟩ := items_of R r hx
      have hl := rr.length
      rw [Array.length_toList] at hl
      refine mulList q (by omega) (by omega) (by rw [hl]; exact hb.1) ?_
      have e2 : (List.foldl (fun x1 x2 => x1 ++ x2) #[] (List.replicate (if vs.isEmpty = true then 0 else n.toNat) vs)) = ((List.replicate n.toNat vs.toList).flatten).toArray := by
        apply Array.toList_inj.mp
        rw [foldl_toList]
        by_cases hv : vs.isEmpty = true
        · rw [if_pos hv]
          have : vs = #[] := by simpa using hv
          subst this; simp
        · rw [if_neg hv]; simp
      rw [e2]
      exact ends_new R (rr.reps _)
    · (first | obtain ⟨rfl, rfl⟩ := spr e | exact (nos e).elim | obtain rfl := Option.some.inj e | cases e)
  · (first | obtain ⟨rfl, rfl⟩ := spr e | exact (nos e).elim | obtain rfl := Option.some.inj e | cases e)
theorem setItem_plain {A : Around} {s : Shared} {l : Addr} {items : Array Value} {k : Int} {t : Tok} {v : Value} {Q : Unit → Shared → Prop} {E : Value → Shared → Prop} (pl : s.heap.PlainList l items)
    (h0 : 0 ≤ k) (hfit : k < 2 ^ 63) (hn : k < items.size)
    (hQ : ∀ h', h'.PlainList l (items.setIfInBounds k.toNat v) → Heap.SameBut l s.heap h' → Q () { s with heap := h' }) :
    wpAny (model c.prog c.w) A (setItem (.ref l) (.int k t) v) Q E s := by
  obtain ⟨ne, ho⟩ := pl
  have hl := isList_of ho
  unfold setItem
  try with_reducible refine wpAny_holding ?_
  first | refine wpAny_bind (wpAny_pure ?_) | skip
  refine wpAny_bind (wpAny_sequenceKey hl.typeIs (by decide) ?_)
  refine wpAny_bind (wpAny_callSpecial?_slot (name := Str.ofString "__setitem__") hl.typeIs slot_list_setitem
    (wpAny_call_entry slot_list_setitem hl.typeIs entry_list_setitem ?_ (args_list_setitem _ _ _)))
  show wpAny _ _ (Builtin.List.listSubscript? (.int k t) >>= _) _ _ s
  refine wpAny_bind (wpAny_listSubscript_int (fitsIndex_of h0 hfit) ?_)
  clear hfit
  obtain ⟨j, rfl⟩ := Int.eq_ofNat_of_zero_le h0
  have hj : j < items.size := by omega
  have hx' : items[j]? = some items[j] := Array.getElem?_eq_getElem hj
  show wpAny _ _ ((seqItemAt l j >>= fun r => pure (r.map (j, ·))) >>= _) _ _ s
  refine wpAny_bind (wpAny_bind (wpAny_seqItemAt ho rfl (wpAny_pure ?_)))
  rw [hx']
  show wpAny _ _ (setSeqItemAt l j v >>= _) _ _ s
  have hfin : (s.heap.update l (Obj.mapSeq (·.setIfInBounds j v))).PlainList l (items.setIfInBounds j v) := ⟨_, Heap.get?_update_self _ ho rfl⟩
  refine wpAny_bind (wpAny_setSeqItemAt ho rfl ?_)
  first
    | exact wpAny_bind (wpAny_pure (wpAny_pure ⟨.none, rfl, wpAny_pure (hQ _ hfin (Heap.SameBut.update ..))⟩))
    | exact wpAny_pure ⟨.none, rfl, wpAny_pure (hQ _ hfin (Heap.SameBut.update ..))⟩
noncomputable def setI (p q v : PV) : SM Unit := fun st => match p, q with
  | .ref i, .int k => (match st[i]? with
    | some (.list xs) => if 0 ≤ k ∧ k < 2 ^ 62 ∧ k.toNat < xs.length then some ((), st.set i (.list (xs.set k.toNat v))) else none
    | _ => none)
  | _, _ => none
theorem op_setI : Op3 c b RU (fun o i v => setItem o i v) setI := by
  constructor
  intro A hA ρ s st x₁ z₁ x₂ z₂ x₃ z₃ y st' e r r' r'' R
  unfold setI at e; split at e
  · rename_i i k
    split at e
    · rename_i xs q
      obtain ⟨hb, e⟩ := ite_some e
      (first | obtain ⟨rfl, rfl⟩ := spr e | exact (nos e).elim | obtain rfl := Option.some.inj e | cases e); (first | obtain ⟨_, rfl⟩ := r'.inv | cases r')
      obtain ⟨_, hd, rfl⟩ := r.inv
      obtain ⟨vs, n, e0, rs, hr⟩ := R.listAt hd q
      have hl := rs.length
      rw [Array.length_toList] at hl
      refine setItem_plain ⟨n, e0⟩ hb.1 (by omega) (by omega) fun h' p hs => ?_
      obtain ⟨S, g⟩ := R.listPut hd q hs p (xs' := xs.set k.toNat z₃) (by simpa using rs.set r'')
      exact ⟨ρ, S, g, ⟨rfl, rfl, rfl⟩, trivial⟩
    · (first | obtain ⟨rfl, rfl⟩ := spr e | exact (nos e).elim | obtain rfl := Option.some.inj e | cases e)
  · (first | obtain ⟨rfl, rfl⟩ := spr e | exact (nos e).elim | obtain rfl := Option.some.inj e | cases e)
theorem op_getI : Op2 c b RV (fun o i => getItem o i) getI := by
  constructor
  intro A hA ρ s st x z x' z' y st' e r r' R
  unfold getI at e
  split at e <;> try (first | obtain ⟨rfl, rfl⟩ := spr e | exact (nos e).elim | obtain rfl := Option.some.inj e | cases e)
  rename_i i
  split at e <;> try (first | obtain ⟨rfl, rfl⟩ := spr e | exact (nos e).elim | obtain rfl := Option.some.inj e | cases e)
  rename_i hi
  obtain ⟨tk, rfl⟩ := r'.inv
  split at e
  · rename_i u
    split at e <;> (first | obtain ⟨rfl, rfl⟩ := spr e | exact (nos e).elim | obtain rfl := Option.some.inj e | cases e)
    rename_i cp hc
    obtain ⟨t, rfl⟩ := r.inv
    have hlt : i.toNat < u.length := (Array.getElem?_eq_some_iff.mp hc).1
    exact PyProof.Rows.getItem_str (by simp; omega) (by rw [seqIndex_of hi.1 hlt]; exact hc) (EndsS.tok R (.str _ _))
  · rename_i xs
    split at e <;> (first | obtain ⟨rfl, rfl⟩ := spr e | exact (nos e).elim | obtain rfl := Option.some.inj e | cases e)
    rename_i hx
    obtain ⟨a, vs, na, q, rr, rfl⟩ := r.inv
    obtain ⟨v, hv, rv⟩ := rr.get hx
    have ht : IsTup s.heap a vs.toArray := q
    have hlt : i.toNat < vs.length := (List.getElem?_eq_some_iff.mp hv).1
    exact getItem_tuple ht (by omega) (by omega) (by rw [List.size_toArray]; exact seqIndex_of hi.1 hlt) (by simpa using hv) (EndsS.here R rv)
  · split at e <;> try (first | obtain ⟨rfl, rfl⟩ := spr e | exact (nos e).elim | obtain rfl := Option.some.inj e | cases e)
    rename_i xs hxs
    split at e <;> (first | obtain ⟨rfl, rfl⟩ := spr e | exact (nos e).elim | obtain rfl := Option.some.inj e | cases e)
    rename_i hx
    obtain ⟨a, vs, rfl, hl, rr⟩ := items_of R r hxs
    obtain ⟨v, hv, rv⟩ := rr.getAt hx
    exact wpAny_getItem_list (isL hl) hi.1 (by omega) hv (EndsS.here R rv)
theorem den_aug_item {o i value : Expr} {tpos pos : Pos} {op : Operator} {X O I : FM PV} {G : PV → PV → SM PV} (dO : Den c b f RV (eval o f.env) O) (dI : Den c b f RV (eval i f.env) I) (dx : Den c b f RV (eval value f.env) X) (op2 : Op2 c b RV (inplaceOp op) G)
    (hi : ∀ ov iv new, augStore i ov iv new = (do holding [new, ov, iv] (setItem ov iv new); release [new, ov, iv] []; pure .next) := by intros; rfl) :
    Den c b f RFl (exec (.AugAssign (.Subscript o i tpos) op value pos) f.env) (bindE O fun p => bindE I fun q => bindE (liftS (getI p q)) fun old => bindE X fun v => bindE (liftS (G old v)) fun new => bindE (liftS (setI p q new)) fun _ => pureE .next) := by
  constructor
  intro A hA ρ s es y es' e R
  obtain ⟨po, es₁, e1, e⟩ := bindE_some e
  obtain ⟨pi, es₂, e2, e⟩ := bindE_some e
  obtain ⟨old, es₃, e3, e⟩ := bindE_some e
  obtain ⟨st₃, e3', rfl⟩ := liftS_some e3
  obtain ⟨pv, es₄, e4, e⟩ := bindE_some e
  obtain ⟨new, es₅, e5, e⟩ := bindE_some e
  obtain ⟨st₅, e5', rfl⟩ := liftS_some e5
  obtain ⟨_, es₆, e6, e7⟩ := bindE_some e
  obtain ⟨st₆, e6', rfl⟩ := liftS_some e6
  (first | obtain ⟨rfl, rfl⟩ := spr e7 | exact (nos e7).elim | obtain rfl := Option.some.inj e7 | cases e7)
  refine wpAny_AugAssign_SubscriptAny (wpAny_mono (dO.run A hA ρ s es po es₁ e1 R) (fun l s₁ z => ?_) fun _ _ z => z) hi
  obtain ⟨ρ₁, R₁, g₁, q₁, r₁⟩ := z
  refine wpAny_mono (dI.run A hA ρ₁ s₁ es₁ pi es₂ e2 R₁) (fun u s₂ z => ?_) fun _ _ z => z
  obtain ⟨ρ₂, R₂, g₂, q₂, r₂⟩ := z
  refine wpAny_mono (op_getI.run A hA ρ₂ s₂ es₂.st l po u pi old st₃ e3' (r₁.grow g₂ R₁.like) r₂ R₂.s) (fun w s₃ z => ?_) fun _ _ z => z
  obtain ⟨ρ₃, S₃, g₃, q₃, r₃⟩ := z
  have R₃ := R₂.ofS S₃ g₃
  refine wpAny_mono (dx.run A hA ρ₃ s₃ _ pv es₄ e4 R₃) (fun v s₄ z => ?_) fun _ _ z => z
  obtain ⟨ρ₄, R₄, g₄, q₄, r₄⟩ := z
  refine wpAny_mono (op2.run A hA ρ₄ s₄ es₄.st w old v pv new st₅ e5' (r₃.grow g₄ R₃.like) r₄ R₄.s) (fun n s₅ z => ?_) fun _ _ z => z
  obtain ⟨ρ₅, S₅, g₅, q₅, r₅⟩ := z
  have R₅ := R₄.ofS S₅ g₅
  have rl := ((((r₁.grow g₂ R₁.like).grow g₃ noFr).grow g₄ R₃.like).grow g₅ noFr)
  have ru := ((r₂.grow g₃ noFr).grow g₄ R₃.like).grow g₅ noFr
  refine wpAny_mono (op_setI.run A hA ρ₅ s₅ st₅ l po u pi n new () st₆ e6' rl ru r₅ S₅) (fun _ s₆ z => ?_) fun _ _ z => z
  obtain ⟨ρ₆, S₆, g₆, q₆, _⟩ := z
  have w : ∀ {ρ ρ' : Rho} {h h' : Heap}, Grow [] ρ h ρ' h' → Grow f.fr ρ h ρ' h' := fun g => g.wider (by simp)
  exact ⟨ρ₆, R₅.ofS S₆ g₆, ((((g₁.trans g₂).trans (w g₃)).trans g₄).trans (w g₅)).trans (w g₆), ((((q₁.trans q₂).trans q₃).trans q₄).trans q₅).trans q₆, .next⟩
end
end Mine
end
section
set_option Elab.async false
set_option maxRecDepth 100000
set_option linter.unusedVariables false
set_option linter.unusedSimpArgs false
namespace Mine
open PySem PySem.Calls PySem.W PyProof.Rows
section
variable {c : Ctx0} {b : Nat} {f : FI}
noncomputable def kvGet : List (Str × PV) → Str → Option PV
  | [], _ => none
  | (k, p) :: r, x => if k == x then some p else kvGet r x
noncomputable def kvPut : List (Str × PV) → Str → PV → List (Str × PV)
  | [], x, p => [(x, p)]
  | (k, q) :: r, x, p => if k == x then (k, p) :: r else (k, q) :: kvPut r x p
theorem ents_norefs {h : Heap} {ρ : Rho} {es : List DictEntry} {kvs : List (Str × PV)} (r : EntsR h ρ es kvs) : es.any (·.refKey) = false := by
  induction r with
  | nil => rfl
  | cons x _ ih => rw [List.any_cons, ih]; rfl
theorem ents_find {h : Heap} {ρ : Rho} {es : List DictEntry} {kvs : List (Str × PV)} (r : EntsR h ρ es kvs) (x : Str) :
    (∀ p, kvGet kvs x = some p → ∃ e, es.find? (·.key.isStr x) = some e ∧ RV h ρ e.val p) ∧ (kvGet kvs x = none → es.find? (·.key.isStr x) = none) := by
  induction r with
  | nil => exact ⟨fun p e => (by (first | obtain ⟨rfl, rfl⟩ := spr e | exact (nos e).elim | obtain rfl := Option.some.inj e | cases e)), fun _ => rfl⟩
  | @cons hs k t v p es kvs rv rr ih =>
    unfold kvGet
    rw [List.find?_cons]
    show (∀ p', (if (k == x) = true then some p else kvGet kvs x) = some p' → ∃ e, (match (k == x) with | true => some _ | false => _) = some e ∧ _) ∧ ((if (k == x) = true then some p else kvGet kvs x) = none → (match (k == x) with | true => some _ | false => _) = none)
    cases q : k == x with
    | true => exact ⟨fun p' e => (by (first | obtain ⟨rfl, rfl⟩ := spr e | exact (nos e).elim | obtain rfl := Option.some.inj e | cases e); exact ⟨_, rfl, rv⟩), fun e => (by (first | obtain ⟨rfl, rfl⟩ := spr e | exact (nos e).elim | obtain rfl := Option.some.inj e | cases e))⟩
    | false => exact ih
theorem ents_get {h : Heap} {ρ : Rho} {es : List DictEntry} {kvs : List (Str × PV)} (r : EntsR h ρ es kvs) {x : Str} {p : PV} (e : kvGet kvs x = some p) : ∃ v, W.getL x es = some (some v) ∧ RV h ρ v p := by
  obtain ⟨en, a, rv⟩ := (ents_find r x).1 p e
  unfold W.getL
  rw [a]
  exact ⟨_, rfl, rv⟩
theorem ents_none {h : Heap} {ρ : Rho} {es : List DictEntry} {kvs : List (Str × PV)} (r : EntsR h ρ es kvs) {x : Str} (e : kvGet kvs x = none) : W.getL x es = some none := by
  unfold W.getL
  rw [(ents_find r x).2 e, ents_norefs r]; rfl
theorem ents_put {h : Heap} {ρ : Rho} {es : List DictEntry} {kvs : List (Str × PV)} (r : EntsR h ρ es kvs) {x : Str} {v : Value} {p : PV} (rv : RV h ρ v p) (hs : Int) (t : Tok) : EntsR h ρ (putL x hs (.str x t) v es) (kvPut kvs x p) := by
  induction r with
  | nil => exact .cons rv .nil
  | @cons hs' k t' v' p' es kvs rv' rr ih =>
    unfold putL kvPut
    show EntsR h ρ (if (k == x) = true then _ else _) _
    cases q : k == x with
    | true => rw [if_pos rfl, if_pos rfl]; exact .cons rv rr
    | false => rw [if_neg (by decide), if_neg (by decide)]; exact .cons rv' ih
theorem ents_length {h : Heap} {ρ : Rho} {es : List DictEntry} {kvs : List (Str × PV)} (r : EntsR h ρ es kvs) : es.length = kvs.length := by
  induction r with
  | nil => rfl
  | cons _ _ ih => simp [ih]
theorem putL_len (x : Str) (hs : Int) (k v : Value) : ∀ es : List DictEntry, (putL x hs k v es).length ≤ es.length + 1
  | [] => Nat.le_refl _
  | e :: r => by
    unfold putL
    split
    · simp
    · simp; exact putL_len x hs k v r
noncomputable def instOf (st : List AO) (p : PV) : Option (Addr × List (Str × PV)) := match p with
  | .ref i => (match st[i]? with
    | some (.inst C kvs) => some (C, kvs)
    | some (.linst C kvs _) => some (C, kvs)
    | _ => none)
  | _ => none
theorem RelS.instAt {K : Frag} {ρ : Rho} {st : List AO} {h : Heap} (R : RelS K ρ st h) {v : Value} {p : PV} {C : Addr} {kvs : List (Str × PV)} (r : RV h ρ v p) (e : instOf st p = some (C, kvs)) :
    ∃ i a d es n ox, P7 (p = .ref i) (v = .ref a) (ρ.ents[i]? = some [a, d]) (InstAt h a ox C (some (W.dictOf es n))) (ox.dict = some d) (h.get? d = some (W.dictOf es n)) (EntsR h ρ es kvs) := by
  unfold instOf at e
  split at e
  · rename_i i
    obtain ⟨_, hd, rfl⟩ := r.inv
    obtain ⟨rr, hr⟩ := headAt_some hd
    split at e <;> (first | obtain ⟨rfl, rfl⟩ := spr e | exact (nos e).elim | obtain rfl := Option.some.inj e | cases e)
    · rename_i q
      obtain ⟨a, d, es, n, e1, e2, e3, e4⟩ := R.objs i _ _ hr q
      (first | obtain ⟨rfl, rfl⟩ := spr e1 | exact (nos e1).elim | obtain rfl := Option.some.inj e1 | cases e1)
      exact ⟨i, _, _, es, n, _, rfl, rfl, hr, ⟨e2, rfl, rfl, e3⟩, rfl, e3, e4⟩
    · rename_i q
      obtain ⟨a, d, vs, m, es, n, e1, e2, e3, e4, e5⟩ := R.objs i _ _ hr q
      (first | obtain ⟨rfl, rfl⟩ := spr e1 | exact (nos e1).elim | obtain rfl := Option.some.inj e1 | cases e1)
      exact ⟨i, _, _, es, n, _, rfl, rfl, hr, ⟨e2, rfl, rfl, e4⟩, rfl, e4, e5⟩
  · (first | obtain ⟨rfl, rfl⟩ := spr e | exact (nos e).elim | obtain rfl := Option.some.inj e | cases e)
noncomputable def attrOk (K : Frag) (C : Addr) (name : Str) : Bool := (clsIn K C).any (·.hasDict) && findIn K (.ref C) "__getattribute__" == some (some (.builtin "object.__getattribute__")) && findIn K (.ref C) name == some none
noncomputable def notRaw : PV → Bool
  | .raw v => handedIn v
  | _ => true
theorem handed_of {h : Heap} {ρ : Rho} {v : Value} {p : PV} (r : RV h ρ v p) (e : notRaw p = true) : handedIn v = true := by
  cases r <;> first | rfl | exact e
noncomputable def getA (K : Frag) (name : Str) (p : PV) : SM PV := fun st => match instOf st p with
  | some (C, kvs) => if attrOk K C name = true then (match kvGet kvs name with
    | some q => if notRaw q = true then some (q, st) else none
    | none => none) else none
  | none => none
theorem op_getA {name : Str} {expr : Bool} : Op1 c b RV RV (fun o => getAttr o name expr) (getA c.K name) := by
  constructor
  intro A hA ρ s st x z y st' e r R
  unfold getA at e
  split at e <;> try (first | obtain ⟨rfl, rfl⟩ := spr e | exact (nos e).elim | obtain rfl := Option.some.inj e | cases e)
  rename_i C kvs hi
  split at e <;> try (first | obtain ⟨rfl, rfl⟩ := spr e | exact (nos e).elim | obtain rfl := Option.some.inj e | cases e)
  rename_i hk
  split at e <;> try (first | obtain ⟨rfl, rfl⟩ := spr e | exact (nos e).elim | obtain rfl := Option.some.inj e | cases e)
  rename_i q hq
  obtain ⟨hn, e⟩ := ite_some e
  (first | obtain ⟨rfl, rfl⟩ := spr e | exact (nos e).elim | obtain rfl := Option.some.inj e | cases e)
  obtain ⟨i, a, d, es, n, ox, rfl, rfl, hr, I, hd, hD, er⟩ := R.instAt r hi
  obtain ⟨v, hv, rv⟩ := ents_get er hq
  simp only [attrOk, Bool.and_eq_true, beq_iff_eq] at hk
  obtain ⟨⟨h1, h2⟩, h3⟩ := hk
  obtain ⟨cd, hc, hcd⟩ := any_some h1
  have hf : findObj c.K C (some (W.dictOf es n)) name = some (.value v) := by
    unfold findObj
    rw [hc, h3]
    simp only [Option.bind_some]
    unfold W.ownOf
    rw [if_pos hcd]
    show ((lookIn name (W.dictOf es n)).bind _) = _
    rw [lookIn_dict, hv]
    rfl
  exact get_value R.top I h2 hf (handed_of rv hn) (EndsS.tok R rv)
theorem den_attr {o : Expr} {name : Str} {pos : Pos} {F : FM PV} (d : Den c b f RV (eval o f.env) F) (hb : notSuper o = true := by rfl) : Den c b f RV (eval (.Attribute o name pos) f.env) (bindE F fun p => liftS (getA c.K name p)) := by
  constructor
  intro A hA ρ s es y es' e R
  obtain ⟨p, es₁, e1, e⟩ := bindE_some e
  rw [arm_eval_Attribute, attributeBase_of hb]
  refine wpAny_bind (wpAny_mono (d.run A hA ρ s es p es₁ e1 R) (fun v s₁ z => ?_) fun _ _ z => z)
  obtain ⟨ρ₁, R₁, g₁, q₁, r₁⟩ := z
  refine wpAny_bind (wpAny_standAt (wpAny_bind (wpAny_holding (wpAny_mono ((Op1.k op_getA).run A hA ρ₁ s₁ es₁ v p y es' e r₁ R₁) (fun u s₂ z => ?_) fun _ _ z => z))))
  exact wpAny_bind (wpAny_letTemporaryGo (wpAny_pure (z.after g₁ q₁)))
noncomputable def methOk (K : Frag) (C : Addr) (name : Str) (fa : Addr) : Bool := findIn K (.ref C) "__getattribute__" == some (some (.builtin "object.__getattribute__")) && findIn K (.ref C) "__getattr__" == some none && findIn K (.ref C) name == some (some (.ref fa)) && typeIn K (.ref fa) == some (.type "function")
noncomputable def isInst (C : Addr) (name : Str) (p : PV) (st : List AO) : Bool := match instOf st p with
  | some (D, kvs) => D == C && (kvGet kvs name).isNone
  | none => false
theorem meth_inst {C fa : Addr} {name : Str} (hk : methOk c.K C name fa = true) : MethAt c name (isInst C name) (.ref fa) := by
  constructor
  intro A pl ρ s st v p Q hP r R h
  unfold isInst at hP
  split at hP
  · rename_i D kvs hi
    rw [Bool.and_eq_true, beq_iff_eq, Option.isNone_iff_eq_none] at hP
    obtain ⟨rfl, hn⟩ := hP
    obtain ⟨i, a, d, es, n, ox, rfl, rfl, hr, I, hd, hD, er⟩ := R.instAt r hi
    simp only [methOk, Bool.and_eq_true, beq_iff_eq] at hk
    obtain ⟨⟨⟨h1, h2⟩, h3⟩, h4⟩ := hk
    exact method_fn R.top I h1 h2 h3 h4 (by show (lookIn name (W.dictOf es n)).map _ = _; rw [lookIn_dict, ents_none er hn]; rfl) h
  · cases hP
noncomputable def setOk (K : Frag) (C : Addr) (name : Str) : Bool := (clsIn K C).any (·.hasDict) && findIn K (.ref C) "__setattr__" == some (some (.builtin "object.__setattr__")) && plainOver K C && takerIn K C name == some none
theorem osa_own {A : Around} {s : Shared} {x C dx : Addr} {ox : Obj} {name : Str} {tk : Tok} {v : Value} {es : List DictEntry} {n : Nat} {R : Result → Shared → Prop} (X : c.K.In s.heap)
    (I : InstAt s.heap x ox C (some (W.dictOf es n))) (hd : ox.dict = some dx) (hp : plainOver c.K C = true) (ht : takerIn c.K C name = some none) (hh : (clsIn c.K C).any (·.hasDict) = true)
    (hl : (W.getL name es).isSome = true) (hz : (putL name (PyData.keyHash c.w.params name) (.str name s.toks) v es).length ≤ 1000)
    (h : R (.ok (.ret .none)) { s with heap := s.heap.update dx (Obj.putName name (PyData.keyHash c.w.params name) (.str name s.toks) v), toks := s.toks + 1 }) :
    codeAny (model c.prog c.w) A (.call (.builtin "object.__setattr__") ⟨[.ref x, .str name tk, v], []⟩) R s := by
  refine osa_open X I hp ht fun b => ?_
  obtain ⟨cd, hc, hd'⟩ := any_some hh
  have D : s.heap.get? dx = some (W.dictOf es n) := by have := I.dict; rw [hd] at this; exact this
  have D' : (s.heap.update dx (Obj.putName name (PyData.keyHash c.w.params name) (.str name s.toks) v)).get? dx = some (W.dictOf (putL name (PyData.keyHash c.w.params name) (.str name s.toks) v es) (putN name es n)) := by
    rw [Heap.get?_update_self _ D (by rw [putName_dict]; rfl), putName_dict]
  obtain ⟨hx, hcl, hn, -⟩ := I
  obtain ⟨oc, odi, oda, osl⟩ := ox
  dsimp only at hcl hd
  subst hcl hd
  refine wpAny_bind (wpAny_pure (wpAny_bind (wpAny_bind (wpAny_loadPart hx (wpAny_bind ((looks_clsIn X hc).here ?_))))))
  rw [hd']
  refine wpAny_pure (a := some dx) (wpAny_bind (wpAny_pure (wpAny_bind ?_)))
  unfold nsSet
  refine wpAny_bind (wpAny_bind (wpAny_askSetting (wpAny_pure (wpAny_bind (wpAny_mkText (wpAny_bind (wpAny_loadPart D ?_)))))))
  dsimp only
  have cc : (!es.toArray.any (·.key.isStr name) && es.toArray.any (·.refKey)) = false := by
    rw [← Array.any_toList, ← Array.any_toList]
    unfold W.getL at hl
    dsimp only
    split at hl
    · rename_i en he
      rw [List.any_eq_true.mpr ⟨en, List.mem_of_find?_eq_some he, List.find?_some he⟩]; rfl
    · split at hl
      · cases hl
      · rename_i z; rw [Bool.not_eq_true] at z; rw [z, Bool.and_false]
  rw [aRefKeyMayBeTheName_at, cc]
  refine wpAny_updatePart D ?_
  refine wpAny_bind (wpAny_lookBehind D' (pastItsLine_dict (by rw [List.size_toArray, sizeLine_eq]; omega)) ?_)
  exact wpAny_pure h
noncomputable def setA (K : Frag) (name : Str) (p q : PV) : SM Unit := fun st => match p with
  | .ref i => (match st[i]? with
    | some (.inst C kvs) => if setOk K C name = true ∧ kvs.length ≤ 900 then some ((), st.set i (.inst C (kvPut kvs name q))) else none
    | _ => none)
  | _ => none
theorem op_setA {name : Str} : Op2 c b RU (fun o v => setAttr o name v) (setA c.K name) := by
  constructor
  intro A hA ρ s st x z x' z' y st' e r r' R
  unfold setA at e
  split at e
  · rename_i i
    split at e
    · rename_i C kvs q
      obtain ⟨⟨hk, hz⟩, e⟩ := ite_some e
      (first | obtain ⟨rfl, rfl⟩ := spr e | exact (nos e).elim | obtain rfl := Option.some.inj e | cases e)
      obtain ⟨i', a, d, es, n, ox, e1, rfl, hr, I, hd, hD, er⟩ := R.instAt (C := C) (kvs := kvs) r (by show (match st[i]? with | some (AO.inst C kvs) => some (C, kvs) | some (AO.linst C kvs xs) => some (C, kvs) | x => none) = _; rw [q])
      (first | obtain ⟨rfl, rfl⟩ := spr e1 | exact (nos e1).elim | obtain rfl := Option.some.inj e1 | cases e1)
      have ho : s.heap.get? a = some { cls := .ref C, dict := some d, data := .plain } := by
        obtain ⟨a', d', es', n', e1, e2, _⟩ := R.objs i _ _ hr q
        (first | obtain ⟨rfl, rfl⟩ := spr e1 | exact (nos e1).elim | obtain rfl := Option.some.inj e1 | cases e1); exact e2
      simp only [setOk, Bool.and_eq_true, beq_iff_eq] at hk
      obtain ⟨⟨⟨h1, h2⟩, h3⟩, h4⟩ := hk
      have hl : (W.getL name es).isSome = true := by
        cases q : kvGet kvs name with
        | none => rw [ents_none er q]; rfl
        | some p => obtain ⟨v, hv, _⟩ := ents_get er q; rw [hv]; rfl
      have hlen := ents_length er
      have had : a ≠ d := fun q => by rw [q, hD] at ho; cases ho
      refine set_plain R.top I h2 (osa_own (s := { s with toks := s.toks + 1 }) R.top I hd h3 h4 h1 hl (Nat.le_trans (putL_len ..) (by omega)) ?_)
      have D' : (s.heap.update d (Obj.putName name (PyData.keyHash c.w.params name) (.str name (s.toks + 1)) x')).get? d = some (W.dictOf (putL name (PyData.keyHash c.w.params name) (.str name (s.toks + 1)) x' es) (putN name es n)) := by
        rw [Heap.get?_update_self _ hD (by rw [putName_dict]; rfl), putName_dict]
      have hs : Heap.SameBut d s.heap (s.heap.update d (Obj.putName name (PyData.keyHash c.w.params name) (.str name (s.toks + 1)) x')) := Heap.SameBut.update ..
      have ha' := (hs.2 a had).trans ho
      obtain ⟨S, g⟩ := R.put (i := i) (ao' := .inst C (kvPut kvs name z')) hr (h' := s.heap.update d (Obj.putName name (PyData.keyHash c.w.params name) (.str name (s.toks + 1)) x'))
        (fun b o eb nb => (hs.2 b fun q => nb (by rw [q]; simp)).trans eb) (fun b m => by
          simp at m; rcases m with rfl | rfl
          · exact ⟨_, ha'⟩
          · exact ⟨_, D'⟩) fun g => ⟨a, d, _, _, rfl, ha', D', ents_put (er.carry (g.carry noFr)) (r'.grow g noFr) _ _⟩
      exact ⟨ρ, S, g, ⟨rfl, rfl, rfl⟩, trivial⟩
    · (first | obtain ⟨rfl, rfl⟩ := spr e | exact (nos e).elim | obtain rfl := Option.some.inj e | cases e)
  · (first | obtain ⟨rfl, rfl⟩ := spr e | exact (nos e).elim | obtain rfl := Option.some.inj e | cases e)
theorem dena_attr {o : Expr} {name : Str} {pos : Pos} {F : FM PV} (d : Den c b f RV (eval o f.env) F) : DenA c b f (.Attribute o name pos) (fun v => bindE F fun p => liftS (setA c.K name p v)) := by
  constructor
  intro A hA ρ s es v p y es' e r R
  obtain ⟨po, es₁, e1, e⟩ := bindE_some e
  obtain ⟨st', e2, rfl⟩ := liftS_some e
  rw [assign_Attribute]
  refine wpAny_bind (wpAny_holding (wpAny_mono (d.run A hA ρ s es po es₁ e1 R) (fun o s₁ z => ?_) fun _ _ z => z))
  obtain ⟨ρ₁, R₁, g₁, q₁, r₁⟩ := z
  refine wpAny_bind (wpAny_standAt (wpAny_bind (wpAny_holding (wpAny_mono (op_setA.run A hA ρ₁ s₁ es₁.st o po v p () st' e2 r₁ (r.grow g₁ R.like) R₁.s) (fun _ s₂ z => ?_) fun _ _ z => z))))
  exact wpAny_release ((z.toF R₁).after g₁ q₁)
end
end Mine
end
section
set_option Elab.async false
set_option maxRecDepth 100000
set_option linter.unusedVariables false
set_option linter.unusedSimpArgs false
namespace Mine
open PySem PySem.Calls PySem.W PyProof.Rows
theorem ln0 {α : Type} : ∀ {l : List α}, l.length = 0 → l = []
  | [], _ => rfl
theorem ln1 {α : Type} {l : List α} (h : l.length = 1) : ∃ a, l = [a] := by
  cases l with
  | nil => cases h
  | cons a t => exact ⟨a, by rw [ln0 (Nat.succ.inj h)]⟩
theorem ln2 {α : Type} {l : List α} (h : l.length = 2) : ∃ a b, l = [a, b] := by
  cases l with
  | nil => cases h
  | cons a t =>
    obtain ⟨b, rfl⟩ := ln1 (Nat.succ.inj h)
    exact ⟨a, b, rfl⟩
theorem ln3 {α : Type} {l : List α} (h : l.length = 3) : ∃ a b c, l = [a, b, c] := by
  cases l with
  | nil => cases h
  | cons a t =>
    obtain ⟨b, c, rfl⟩ := ln2 (Nat.succ.inj h)
    exact ⟨a, b, c, rfl⟩
theorem ln4 {α : Type} {l : List α} (h : l.length = 4) : ∃ a b c d, l = [a, b, c, d] := by
  cases l with
  | nil => cases h
  | cons a t =>
    obtain ⟨b, c, d, rfl⟩ := ln3 (Nat.succ.inj h)
    exact ⟨a, b, c, d, rfl⟩
structure FunK (c : Ctx0) (b : Nat) (fv : Value) (np : Nat) (kn : List Str) (G : List PV → SM PV) : Prop where
  len : ∀ ps st r, G ps st = some r → ps.length = np + kn.length
  run : ∀ A, AOk b A → ∀ ρ s st vs ps y st', G ps st = some (y, st') → RVs s.heap ρ vs ps → RelS c.K ρ st s.heap →
    codeAny (model c.prog c.w) A (.call fv ⟨vs.take np, kn.zip (vs.drop np)⟩) (fun r s' => match r with
      | .ok (.ret v) => EndsS c.K RV ρ s y st' v s'
      | _ => False) s
noncomputable def runK (n : Nat) (dps : List PV) (li ci : List (Option Nat)) (F : FM PF) (ps : List PV) : SM PV := fun st =>
  if ps.length = n then (match F ⟨li.map fun o => o.bind fun i => (ps ++ dps)[i]?, ci.map fun o => o.bind fun i => (ps ++ dps)[i]?, st⟩ with
    | some (r, es) => some (retOf r, es.st)
    | none => none) else none
section
variable {c : Ctx0} {b : Nat}
theorem FunK.ok {fv : Value} {np : Nat} {G : List PV → SM PV} (o : FunK c b fv np [] G) : FunOk c b fv G := by
  constructor
  intro A hA ρ s st vs ps y st' e r R
  have hl := o.len _ _ _ e
  have := o.run A hA ρ s st vs ps y st' e r R
  rw [List.take_of_length_le (by rw [r.length, hl]; simp), List.zip_nil_left] at this
  exact wpAny_call (codeAny_mono this fun r s' z => by
    rcases r with e | (v | _ | _ | _) <;> first | exact z | exact z.elim)
theorem bindL_at {kindOf : Str → Option NameKind} {x : Str} : ∀ {binds : List (Str × Value)} {m : Str → Option Value}, (binds.map (·.1)).Nodup →
    bindL kindOf binds m x = if kindOf x = some .local then (match binds.lookup x with | some v => some v | none => m x) else m x
  | [], m, _ => by simp [bindL]
  | (n, v) :: r, m, nd => by
    rw [List.map_cons, List.nodup_cons] at nd
    rw [bindL, bindL_at nd.2, List.lookup_cons]
    cases q : x == n with
    | true =>
      rw [beq_iff_eq] at q; subst q
      have : r.lookup x = none := lookup_none_of fun p hp z => nd.1 (List.mem_map.mpr ⟨p, hp, z⟩)
      rw [this]
      by_cases h : kindOf x = some .local <;> simp [h]
    | false =>
      have hne : x ≠ n := by intro z; rw [z] at q; simp at q
      by_cases h : kindOf n = some .local <;> simp [h, hne]
theorem bindC_at {kindOf : Str → Option NameKind} {x : Str} : ∀ {binds : List (Str × Value)} {m : Str → Option Value}, (binds.map (·.1)).Nodup →
    bindC kindOf binds m x = if kindOf x = some .local then m x else (match binds.lookup x with | some v => some v | none => m x)
  | [], m, _ => by simp [bindC]
  | (n, v) :: r, m, nd => by
    rw [List.map_cons, List.nodup_cons] at nd
    rw [bindC, bindC_at nd.2, List.lookup_cons]
    cases q : x == n with
    | true =>
      rw [beq_iff_eq] at q; subst q
      have : r.lookup x = none := lookup_none_of fun p hp z => nd.1 (List.mem_map.mpr ⟨p, hp, z⟩)
      rw [this]
      by_cases h : kindOf x = some .local <;> simp [h]
    | false =>
      have hne : x ≠ n := by intro z; rw [z] at q; simp at q
      by_cases h : kindOf n = some .local <;> simp [h, hne]
theorem bindL_loc {kindOf : Str → Option NameKind} {x : Str} {binds : List (Str × Value)} (nd : (binds.map (·.1)).Nodup) (hk : kindOf x = some .local) : bindL kindOf binds (fun _ => none) x = binds.lookup x := by
  rw [bindL_at nd, if_pos hk]; cases binds.lookup x <;> rfl
theorem bindL_out {kindOf : Str → Option NameKind} {x : Str} {binds : List (Str × Value)} (nd : (binds.map (·.1)).Nodup) (h : kindOf x = some .local → binds.lookup x = none) : bindL kindOf binds (fun _ => none) x = none := by
  rw [bindL_at nd]
  split
  · rename_i hk; rw [h hk]
  · rfl
theorem bindC_cel {kindOf : Str → Option NameKind} {x : Str} {binds : List (Str × Value)} (nd : (binds.map (·.1)).Nodup) (hk : kindOf x = some .cell) : bindC kindOf binds (fun _ => none) x = binds.lookup x := by
  rw [bindC_at nd, if_neg (by rw [hk]; simp)]; cases binds.lookup x <;> rfl
noncomputable def cnAt (cns : List (Str × Nat)) (L : Addr) : List (Str × Addr) := cns.map fun p => (p.1, L + p.2)
noncomputable def FI.fn (fd : FuncData) (a : Addr) (ln : List Str) (cns : List (Str × Nat)) (L : Addr) : FI := ⟨callEnvC fd L a, ln, cnAt cns L⟩
structure DefK (K : Frag) (a : Addr) (fd : FuncData) (body : List Stmt) (names ln : List Str) (cns : List (Str × Nat)) : Prop extends DefAt K a fd body where
  clo : fd.closure = []
  cells : ∀ L, cellsFrom (L + 1) fd.scope.names [] = cnAt cns L
  cnd : (cns.map (·.1)).Nodup
  nd : names.Nodup
  par : ∀ x ∈ names, fd.scope.names.lookup x = some .local ∧ x ∈ ln ∨ fd.scope.names.lookup x = some .cell ∧ x ∈ cns.map (·.1)
  loc : ∀ x ∈ ln, fd.scope.names.lookup x = some .local
  cel : ∀ p ∈ cns, fd.scope.names.lookup p.1 = some .cell
theorem lookup_of_nodup {α : Type} {l : List (Str × α)} (nd : (l.map (·.1)).Nodup) {i : Nat} {x : Str} {y : α} (e : l[i]? = some (x, y)) : l.lookup x = some y := by
  induction l generalizing i with
  | nil => simp at e
  | cons p r ih =>
    obtain ⟨k, v⟩ := p
    rw [List.map_cons, List.nodup_cons] at nd
    cases i with
    | zero => simp at e; obtain ⟨rfl, rfl⟩ := e; simp [List.lookup_cons]
    | succ i =>
      simp at e
      rw [List.lookup_cons]
      have hne : (x == k) = false := by
        rw [beq_eq_false_iff_ne]; rintro rfl
        exact nd.1 (List.mem_map.mpr ⟨(x, y), List.mem_of_getElem? e, rfl⟩)
      rw [hne]; exact ih nd.2 e
theorem fun_defK {a : Addr} {fd : FuncData} {body : List Stmt} {names ln : List Str} {cns : List (Str × Nat)} {np : Nat} {kn : List Str} {dvs : List Value} {dps : List PV} {li ci : List (Option Nat)} {F : FM PF}
    (X : DefK c.K a fd body names ln cns) (hdp : ∀ h ρ, RVs h ρ dvs dps) (hn : names.length = np + kn.length + dvs.length)
    (hli : ln.map names.idxOf? = li) (hci : (cns.map (·.1)).map names.idxOf? = ci)
    (hbind : ∀ s vs ws, vs.length = np → ws.length = kn.length → c.K.In s.heap → BindsTo s fd ⟨vs, kn.zip ws⟩ (names.zip (vs ++ ws ++ dvs)))
    (D : ∀ L, Den c b (FI.fn fd a ln cns L) RFl (execs body (callEnvC fd L a)) F) : FunK c (b + 1) (.ref a) np kn (runK (np + kn.length) dps li ci F) := by
  constructor
  · intro ps st r e
    unfold runK at e
    split at e
    · assumption
    · (first | obtain ⟨rfl, rfl⟩ := spr e | exact (nos e).elim | obtain rfl := Option.some.inj e | cases e)
  intro A hA ρ s st vs ps y st' e r R
  unfold runK at e
  split at e <;> try (first | obtain ⟨rfl, rfl⟩ := spr e | exact (nos e).elim | obtain rfl := Option.some.inj e | cases e)
  rename_i hlen
  split at e <;> (first | obtain ⟨rfl, rfl⟩ := spr e | exact (nos e).elim | obtain rfl := Option.some.inj e | cases e)
  rename_i fl es q
  have hvl := r.length
  have r' : RVs s.heap ρ (vs ++ dvs) (ps ++ dps) := r.append (hdp _ _)
  have hvs : names.length = (vs ++ dvs).length := by rw [List.length_append, hvl, hlen, hn]
  have hz : vs.take np ++ vs.drop np ++ dvs = vs ++ dvs := by rw [List.take_append_drop]
  have hb := hbind s (vs.take np) (vs.drop np) (by rw [List.length_take, hvl, hlen]; omega) (by rw [List.length_drop, hvl, hlen]; omega) R.top
  rw [hz] at hb
  obtain ⟨oc, od, sl, ho⟩ := X.at_
  have hnm := zip_names hvs
  have ndb : ((names.zip (vs ++ dvs)).map (·.1)).Nodup := by rw [hnm]; exact X.nd
  refine codeAny_call_function (fd := fd) (body := body) (by have := hA.depth; have : recursionLimit = 1000 := rfl; omega) (R.top _ _ ho) rfl X.co X.gen X.body (codeRec_of R.top X.code) (hb _ _ _ _ ?_)
  rw [X.clo]
  refine wpAny_newFunctionEnv_cells X.kind (fun x m => ?_) fun env he s₁ x => ?_
  · have mx := (List.of_mem_zip m).1
    rcases X.par x.1 mx with h | h
    · exact .inl h.1
    · refine .inr ⟨h.1, ?_⟩
      rw [X.cells]
      obtain ⟨p, hp, hpx⟩ := List.mem_map.mp h.2
      have : ((cnAt cns s.heap.objs.size).map (·.1)) = cns.map (·.1) := by unfold cnAt; rw [List.map_map]; rfl
      obtain ⟨i, hi⟩ := List.mem_iff_getElem?.mp hp
      have hi' : (cnAt cns s.heap.objs.size)[i]? = some (x.1, s.heap.objs.size + p.2) := by unfold cnAt; rw [List.getElem?_map, hi, ← hpx]; rfl
      rw [lookup_of_nodup (by rw [this]; exact X.cnd) hi']; rfl
  subst he
  refine ⟨R.nolim.keeps x.toInCall.keep, codeAny_func ?_⟩
  have hcells : (callEnvC fd s.heap.objs.size a).cells = cnAt cns s.heap.objs.size := X.cells _
  have ndc : ((cnAt cns s.heap.objs.size).map (·.1)).Nodup := by
    have : ((cnAt cns s.heap.objs.size).map (·.1)) = cns.map (·.1) := by unfold cnAt; rw [List.map_map]; rfl
    rw [this]; exact X.cnd
  have hcell : ∀ i y d, (cnAt cns s.heap.objs.size)[i]? = some (y, d) → s₁.heap.IsCell d (bindC (callEnvC fd s.heap.objs.size a).kindOf (names.zip (vs ++ dvs)) (fun _ => none) y) := fun i y d hy =>
    x.cell y d (by rw [show (newEnv fd.scope s.heap.objs.size fd.globals (cellsFrom (s.heap.objs.size + 1) fd.scope.names []) (fd.qualname ++ ".<locals>.") (some a) fd.code none fd.builtins).cells = cnAt cns s.heap.objs.size from X.cells _]; exact lookup_of_nodup ndc hy)
  have habove : ∀ p ∈ cnAt cns s.heap.objs.size, s.heap.objs.size < p.2 := fun p hp => x.above p.1 p.2 (by rw [show (newEnv fd.scope s.heap.objs.size fd.globals (cellsFrom (s.heap.objs.size + 1) fd.scope.names []) (fd.qualname ++ ".<locals>.") (some a) fd.code none fd.builtins).cells = cnAt cns s.heap.objs.size from X.cells _]; exact hp)
  have hapart : (cnAt cns s.heap.objs.size).Pairwise fun x y => x.2 ≠ y.2 := by
    have := x.apart
    rw [show (newEnv fd.scope s.heap.objs.size fd.globals (cellsFrom (s.heap.objs.size + 1) fd.scope.names []) (fd.qualname ++ ".<locals>.") (some a) fd.code none fd.builtins).cells = cnAt cns s.heap.objs.size from X.cells _] at this
    exact this
  have hns := x.toInCall.ns
  have nd : (s.heap.objs.size :: (cnAt cns s.heap.objs.size).map (·.2)).Nodup := by
    rw [List.nodup_cons]
    refine ⟨fun m => ?_, ?_⟩
    · obtain ⟨p, hp, hq⟩ := List.mem_map.mp m
      have := habove p hp
      rw [hq] at this
      exact absurd this (Nat.lt_irrefl _)
    · rw [List.nodup_iff_pairwise_ne, List.pairwise_map]; exact hapart
  have fresh : ∀ d ∈ s.heap.objs.size :: (cnAt cns s.heap.objs.size).map (·.2), s.heap.get? d = none := fun d m => by
    rcases List.mem_cons.mp m with rfl | m
    · exact get_ge (Nat.le_refl _)
    · obtain ⟨p, hp, rfl⟩ := List.mem_map.mp m
      exact get_ge (Nat.le_of_lt (habove p hp))
  obtain ⟨S, g₀⟩ := R.enter (wr := s.heap.objs.size :: (cnAt cns s.heap.objs.size).map (·.2)) (h' := s₁.heap) x.toInCall.keep fresh (fun d m => by
    rcases List.mem_cons.mp m with rfl | m
    · obtain ⟨o, _, _, e, _⟩ := hns; exact ⟨o, e⟩
    · obtain ⟨p, hp, rfl⟩ := List.mem_map.mp m
      obtain ⟨i, hi⟩ := List.mem_iff_getElem?.mp hp
      obtain ⟨o, e, _⟩ := hcell i p.1 p.2 hi
      exact ⟨o, e⟩) nd
  have kLoc : ∀ y, (callEnvC fd s.heap.objs.size a).kindOf y = fd.scope.names.lookup y := fun y => rfl
  have hA' : AOk b (A.deeper (callEnvC fd s.heap.objs.size a)) := ⟨hA.handled, by have := hA.depth; show A.depth + 1 + 2 * b ≤ 900; omega, by have := hA.units; show A.units + 3 + 20 * b ≤ 9000; omega⟩
  have RF : RelF c.K (FI.fn fd a ln cns s.heap.objs.size) (ρ.enter (s.heap.objs.size :: (cnAt cns s.heap.objs.size).map (·.2))) ⟨li.map fun o => o.bind fun i => (ps ++ dps)[i]?, ci.map fun o => o.bind fun i => (ps ++ dps)[i]?, st⟩ s₁.heap := by
    refine ⟨S, ⟨_, hns, fun i y hy => ?_, fun y hy => ?_⟩, fun i y d hy => ?_, fun d m => List.mem_append_left _ m, nd⟩
    · replace hy : ln[i]? = some y := hy
      have hk := X.loc y (List.mem_of_getElem? hy)
      have : (li.map fun o => o.bind fun i => (ps ++ dps)[i]?)[i]? = some ((names.idxOf? y).bind fun i => (ps ++ dps)[i]?) := by
        rw [List.getElem?_map, ← hli, List.getElem?_map, hy]; rfl
      rw [this]
      rw [show bindL _ _ _ y = _ from bindL_loc ndb hk]
      exact (rvs_zip_lookup r' hvs y).carry g₀
    · refine bindL_out ndb fun hk => ?_
      rw [lookup_none_of]
      rintro ⟨p1, p2⟩ hp rfl
      rcases X.par p1 (List.of_mem_zip hp).1 with h | h
      · exact hy h.2
      · have hk' : fd.scope.names.lookup p1 = some .local := hk
        rw [h.1] at hk'; cases hk'
    · have hc := hcell i y d hy
      have hy' : ∃ k, cns[i]? = some (y, k) := by
        replace hy : (cnAt cns s.heap.objs.size)[i]? = some (y, d) := hy
        unfold cnAt at hy
        rw [List.getElem?_map] at hy
        obtain ⟨p, e1, e2⟩ := Option.map_eq_some_iff.mp hy
        obtain ⟨p1, p2⟩ := p
        (first | obtain ⟨rfl, rfl⟩ := spr e2 | exact (nos e2).elim | obtain rfl := Option.some.inj e2 | cases e2)
        exact ⟨p2, e1⟩
      obtain ⟨k, hy'⟩ := hy'
      have hk := X.cel _ (List.mem_of_getElem? hy')
      refine ⟨_, hc, ?_⟩
      have : (ci.map fun o => o.bind fun i => (ps ++ dps)[i]?)[i]? = some ((names.idxOf? y).bind fun i => (ps ++ dps)[i]?) := by
        rw [List.getElem?_map, ← hci, List.getElem?_map, List.getElem?_map, hy']; rfl
      rw [this, show bindC _ _ _ y = _ from bindC_cel ndb hk]
      exact (rvs_zip_lookup r' hvs y).carry g₀
  have kk := x.toInCall.keep
  obtain ⟨h₁, tk, rfl⟩ := x.toInCall.same
  refine wpAny_mono ((D s.heap.objs.size).run _ hA' _ _ _ fl es q RF) (fun fv' s' z => ?_) fun _ _ z => z.elim
  obtain ⟨ρ', R', g, sm, rf⟩ := z
  refine R.left kk fresh R'.s g (fun a' m => m) sm ?_
  cases rf with
  | next => exact .none
  | brk => exact .none
  | cont => exact .none
  | ret r => exact r
end
end Mine
end
section
set_option Elab.async false
set_option maxRecDepth 100000
set_option linter.unusedVariables false
set_option linter.unusedSimpArgs false
namespace Mine
open PySem PySem.Calls PySem.W PyProof.Rows
section
variable {c : Ctx0} {b : Nat} {f : FI}
theorem FunK.code {fv : Value} {np : Nat} {G : List PV → SM PV} (o : FunK c b fv np [] G) {A : Around} (hA : AOk b A) {ρ : Rho} {s : Shared} {st st' : List AO} {vs : List Value} {ps : List PV} {y : PV} (e : G ps st = some (y, st')) (r : RVs s.heap ρ vs ps) (R : RelS c.K ρ st s.heap) :
    codeAny (model c.prog c.w) A (.call fv ⟨vs, []⟩) (fun r s' => match r with
      | .ok (.ret v) => EndsS c.K RV ρ s y st' v s'
      | _ => False) s := by
  have hl := o.len _ _ _ e
  have := o.run A hA ρ s st vs ps y st' e r R
  rwa [List.take_of_length_le (by rw [r.length, hl]; simp), List.zip_nil_left] at this
noncomputable def makeG (C : Addr) (G : List PV → SM PV) (ps : List PV) : SM PV := fun st => match G (.ref st.length :: ps) (st ++ [.inst C []]) with
  | some (.none, st') => some (.ref st.length, st')
  | _ => none
theorem op_make {C fI : Addr} {np : Nat} {G : List PV → SM PV} (hm : makesIn c.K C = true) (hi : findIn c.K (.ref C) "__init__" = some (some (.ref fI))) (hf : typeIn c.K (.ref fI) = some (.type "function")) (oI : FunK c b (.ref fI) np [] G) :
    OpL c (b + 1) (fun vs => call (.ref C) vs) (makeG C G) := by
  constructor
  intro A hA ρ s st vs ps y st' e r R
  unfold makeG at e
  split at e <;> cases e
  rename_i e
  obtain ⟨h, g, d, t, os⟩ := s
  replace R : RelS c.K ρ st h := R
  refine wpAny_call (make_core (makes_of R.top hm) (looks_findIn R.top hi) (fun self => bind_fn R.top self hf) (.inl (by rfl)) ?_)
  have k : ∀ b o, h.get? b = some o → ((h.push emptyDict).push (instObj C h.objs.size)).get? b = some o := fun b o e => Heap.get?_push_of_some _ (Heap.get?_push_of_some _ e)
  have hs1 : (h.push emptyDict).objs.size = h.objs.size + 1 := Heap.size_push ..
  have hx : ((h.push emptyDict).push (instObj C h.objs.size)).get? (h.objs.size + 1) = some (instObj C h.objs.size) := by rw [← hs1]; exact Heap.get?_push_size _ rfl
  have hd : ((h.push emptyDict).push (instObj C h.objs.size)).get? h.objs.size = some emptyDict := Heap.get?_push_of_some _ (Heap.get?_push_size _ rfl)
  have hne : h.objs.size + 1 ≠ h.objs.size := Nat.succ_ne_self _
  obtain ⟨S, g₁⟩ := R.push (as := [h.objs.size + 1, h.objs.size]) (ao := .inst C []) (h' := (h.push emptyDict).push (instObj C h.objs.size)) k
    (fun a m => by
      simp only [List.mem_cons, List.not_mem_nil, or_false] at m
      rcases m with rfl | rfl
      · exact get_ge (Nat.le_succ _)
      · exact get_ge (Nat.le_refl _))
    (fun a m => by
      simp only [List.mem_cons, List.not_mem_nil, or_false] at m
      rcases m with rfl | rfl
      · exact ⟨_, hx⟩
      · exact ⟨_, hd⟩) (by simp) (fun _ => ⟨_, _, [], _, rfl, hx, hd, .nil⟩)
  have hA' : AOk b (A.under (.builtin "type.__call__" ⟨.ref C :: vs, []⟩)) := ⟨hA.handled, by have := hA.depth; show A.depth + 1 + 2 * b ≤ 900; omega, by have := hA.units; show A.units + 1 + 20 * b ≤ 9000; omega⟩
  have rself : RV ((h.push emptyDict).push (instObj C h.objs.size)) (ρ.push [h.objs.size + 1, h.objs.size]) (.ref (h.objs.size + 1)) (.ref st.length) := .ref (by rw [← R.len]; exact headAt_push)
  refine codeAny_mono (oI.code hA' (s := ⟨(h.push emptyDict).push (instObj C h.objs.size), g, d, t, os⟩) e (.cons rself (r.grow g₁ noFr)) S) fun r s' z => ?_
  rcases r with e | (v | _ | _ | _) <;> first | exact z.elim | skip
  obtain ⟨ρ', S', g', q', rv⟩ := z
  cases rv
  refine ⟨rfl, ρ', S', g₁.trans g', q', ?_⟩
  exact (RV.grow g' noFr rself)
end
mutual
inductive Fz (n : Nat) (st : List AO) : PV → PV → Prop
  | none : Fz n st .none .none
  | bool (t : Bool) : Fz n st (.bool t) (.bool t)
  | int (i : Int) : Fz n st (.int i) (.int i)
  | str (x : Str) : Fz n st (.str x) (.str x)
  | old {i : Nat} : i < n → Fz n st (.ref i) (.ref i)
  | new {i : Nat} {xs ys : List PV} : n ≤ i → st[i]? = some (.list xs) → Fzs n st xs ys → Fz n st (.ref i) (.lst ys)
  | tup {xs ys : List PV} : Fzs n st xs ys → Fz n st (.tup xs) (.tup ys)
  | lst {xs ys : List PV} : Fzs n st xs ys → Fz n st (.lst xs) (.lst ys)
  | raw (v : Value) : Fz n st (.raw v) (.raw v)
inductive Fzs (n : Nat) (st : List AO) : List PV → List PV → Prop
  | nil : Fzs n st [] []
  | cons {p q : PV} {ps qs : List PV} : Fz n st p q → Fzs n st ps qs → Fzs n st (p :: ps) (q :: qs)
end
mutual
noncomputable def PV.clean (n : Nat) : PV → Bool
  | .ref i => decide (i < n)
  | .tup xs => PVs.clean n xs
  | .lst xs => PVs.clean n xs
  | _ => true
noncomputable def PVs.clean (n : Nat) : List PV → Bool
  | [] => true
  | x :: xs => PV.clean n x && PVs.clean n xs
end
noncomputable def AO.clean (n : Nat) : AO → Bool
  | .list xs => PVs.clean n xs
  | .inst _ kvs => kvs.all fun x => PV.clean n x.2
  | .linst _ kvs xs => (kvs.all fun x => PV.clean n x.2) && PVs.clean n xs
  | .cell v => v.all fun p => PV.clean n p
  | .meth _ p => PV.clean n p
  | .citer p q => PV.clean n p && PV.clean n q
  | .clo _ _ vals => vals.all fun v => v.all fun p => PV.clean n p
  | .fn .. | .tab .. | .cdone | .edict => true
  | .junk => true
noncomputable def Rho.cut (ρ : Rho) (n : Nat) : Rho := ⟨ρ.ents.take n, ρ.rsv⟩
theorem headAt_lt {ρ : Rho} {i : Nat} {a : Addr} (e : headAt ρ i = some a) : i < ρ.ents.length := by
  obtain ⟨r, hr⟩ := headAt_some e
  exact (List.getElem?_eq_some_iff.mp hr).1
theorem headAt_cut {ρ : Rho} {n i : Nat} {a : Addr} (e : headAt ρ i = some a) (l : i < n) : headAt (ρ.cut n) i = some a := by
  unfold headAt Rho.cut at *
  rw [List.getElem?_take_of_lt l]; exact e
theorem cut_own {ρ : Rho} {n : Nat} {a : Addr} (m : a ∈ (ρ.cut n).own) : a ∈ ρ.own := by
  rcases List.mem_append.mp m with m | m
  · obtain ⟨l, hl, ha⟩ := List.mem_flatten.mp m
    exact mem_own (List.mem_flatten.mpr ⟨l, List.mem_of_mem_take hl, ha⟩)
  · exact mem_own' m
theorem RV.isClean {h : Heap} {ρ : Rho} {n : Nat} (l : ρ.ents.length ≤ n) {v : Value} {p : PV} (r : RV h ρ v p) : PV.clean n p = true :=
  RV.rec (motive_1 := fun _ p _ => PV.clean n p = true) (motive_2 := fun _ ps _ => PVs.clean n ps = true) rfl (fun _ => rfl) (fun _ _ => rfl) (fun _ _ => rfl) (fun e => by simp only [PV.clean, decide_eq_true_eq]; exact Nat.lt_of_lt_of_le (headAt_lt e) l)
    (fun _ _ _ r => by rw [PV.clean]; exact r) (fun _ _ _ r => by rw [PV.clean]; exact r) (fun _ => rfl) rfl (fun _ _ x y => by rw [PVs.clean, x, y]; rfl) r
theorem RVs.isClean {h : Heap} {ρ : Rho} {n : Nat} (l : ρ.ents.length ≤ n) {vs : List Value} {ps : List PV} (r : RVs h ρ vs ps) : PVs.clean n ps = true := by
  induction ps generalizing vs with
  | nil => rfl
  | cons p ps ih => obtain ⟨_, _, rfl, x, y⟩ := r.inv; rw [PVs.clean, x.isClean l, ih y]; rfl
theorem RV.cut {h : Heap} {ρ : Rho} {n : Nat} {v : Value} {p : PV} (r : RV h ρ v p) : PV.clean n p = true → RV h (ρ.cut n) v p :=
  RV.rec (motive_1 := fun v p _ => PV.clean n p = true → RV h (ρ.cut n) v p) (motive_2 := fun vs ps _ => PVs.clean n ps = true → RVs h (ρ.cut n) vs ps) (fun _ => .none) (fun b _ => .bool b) (fun i t _ => .int i t) (fun s t _ => .str s t) (fun e c => .ref (headAt_cut e (by simpa [PV.clean] using c)))
    (fun na e _ r c => .tup (fun m => na (cut_own m)) e (r (by rw [PV.clean] at c; exact c))) (fun na e _ r c => .lst (fun m => na (cut_own m)) e (r (by rw [PV.clean] at c; exact c))) (fun v _ => .raw v) (fun _ => .nil) (fun _ _ x y c => by rw [PVs.clean, Bool.and_eq_true] at c; exact .cons (x c.1) (y c.2)) r
theorem RVs.cut {h : Heap} {ρ : Rho} {n : Nat} {vs : List Value} {ps : List PV} (r : RVs h ρ vs ps) (c : PVs.clean n ps = true) : RVs h (ρ.cut n) vs ps := by
  induction ps generalizing vs with
  | nil => obtain rfl := r.inv; exact .nil
  | cons p ps ih =>
    obtain ⟨_, _, rfl, x, y⟩ := r.inv
    rw [PVs.clean, Bool.and_eq_true] at c
    exact .cons (x.cut c.1) (ih y c.2)
theorem ents_clean {h : Heap} {ρ : Rho} {n : Nat} (l : ρ.ents.length ≤ n) {es : List DictEntry} {kvs : List (Str × PV)} (r : EntsR h ρ es kvs) : (kvs.all fun x => PV.clean n x.2) = true := by
  induction r with
  | nil => rfl
  | cons x _ ih => rw [List.all_cons, x.isClean l, ih]; rfl
theorem ents_cut {h : Heap} {ρ : Rho} {n : Nat} {es : List DictEntry} {kvs : List (Str × PV)} (r : EntsR h ρ es kvs) (c : (kvs.all fun x => PV.clean n x.2) = true) : EntsR h (ρ.cut n) es kvs := by
  induction r with
  | nil => exact .nil
  | cons x _ ih =>
    rw [List.all_cons, Bool.and_eq_true] at c
    exact .cons (x.cut c.1) (ih c.2)
theorem RO.isClean {h : Heap} {ρ : Rho} {n : Nat} (l : ρ.ents.length ≤ n) {as : List Addr} : ∀ {ao : AO}, RO h ρ as ao → AO.clean n ao = true
  | .list _, x => by obtain ⟨_, _, _, _, _, r⟩ := x; exact r.isClean l
  | .inst _ _, x => by obtain ⟨_, _, _, _, _, _, _, r⟩ := x; exact ents_clean l r
  | .linst _ _ _, x => by obtain ⟨_, _, _, _, _, _, _, _, r, _, r'⟩ := x; show ((List.all _ fun x : Str × PV => PV.clean n x.2) && PVs.clean n _) = true; rw [ents_clean l r', r.isClean l]; rfl
  | .cell v, x => by
    obtain ⟨_, _, _, _, _, _, r⟩ := x
    cases r with
    | none => rfl
    | some r => exact r.isClean l
  | .meth _ _, x => by obtain ⟨_, _, _, _, r⟩ := x; exact r.isClean l
  | .citer _ _, x => by obtain ⟨_, _, _, _, _, r, r'⟩ := x; show (PV.clean n _ && PV.clean n _) = true; rw [r.isClean l, r'.isClean l]; rfl
  | .clo _ _ vals, x => by
    obtain ⟨_, cs, _, ⟨l1, l2⟩, _, r⟩ := x
    show (vals.all fun v => v.all fun p => PV.clean n p) = true
    rw [List.all_eq_true]
    intro w hw
    obtain ⟨i, hi⟩ := List.mem_iff_getElem?.mp hw
    have hlt : i < cs.length := by rw [l1, ← l2]; exact (List.getElem?_eq_some_iff.mp hi).1
    obtain ⟨o, u, _, _, r⟩ := r i cs[i] (List.getElem?_eq_getElem hlt)
    rw [hi] at r
    cases w with
    | none => rfl
    | some p => cases r with | some r => exact r.isClean l
  | .fn .., _ => rfl
  | .tab .., _ => rfl
  | .cdone, _ => rfl
  | .edict, _ => rfl
  | .junk, _ => rfl
theorem RO.cut {h : Heap} {ρ : Rho} {n : Nat} {as : List Addr} : ∀ {ao : AO}, RO h ρ as ao → AO.clean n ao = true → RO h (ρ.cut n) as ao
  | .list _, x, c => by obtain ⟨a, b, k, e, q, r⟩ := x; exact ⟨a, b, k, e, q, r.cut c⟩
  | .inst _ _, x, c => by obtain ⟨a, b, k, m, e, q, q', r⟩ := x; exact ⟨a, b, k, m, e, q, q', ents_cut r c⟩
  | .linst _ _ _, x, c => by
    obtain ⟨a, b, k, m, m1, m2, e, q, r, q', r'⟩ := x
    replace c : ((List.all _ fun x : Str × PV => PV.clean n x.2) && PVs.clean n _) = true := c
    rw [Bool.and_eq_true] at c
    exact ⟨a, b, k, m, m1, m2, e, q, r.cut c.2, q', ents_cut r' c.1⟩
  | .cell v, x, c => by
    obtain ⟨a, b, k, e, q, q', r⟩ := x
    refine ⟨a, b, k, e, q, q', ?_⟩
    cases r with
    | none => exact .none
    | some r => exact .some (r.cut c)
  | .meth _ _, x, c => by obtain ⟨a, u, e, q, r⟩ := x; exact ⟨a, u, e, q, r.cut c⟩
  | .citer _ _, x, c => by
    obtain ⟨a, u, v, e, q, r, r'⟩ := x
    replace c : (PV.clean n _ && PV.clean n _) = true := c
    rw [Bool.and_eq_true] at c
    exact ⟨a, u, v, e, q, r.cut c.1, r'.cut c.2⟩
  | .clo _ _ vals, x, c => by
    obtain ⟨f, cs, e0, l, ⟨T, c', oc, vc, q, x1, y1, y2, y3, y4⟩, y⟩ := x
    refine ⟨f, cs, e0, l, ⟨T, c', oc, vc, q, x1, fun m => y1 (cut_own m), y2, y3, y4⟩, fun i d hd => ?_⟩
    obtain ⟨o, u, a, b, r⟩ := y i d hd
    refine ⟨o, u, a, b, ?_⟩
    replace c : (vals.all fun v => v.all fun p => PV.clean n p) = true := c
    rw [List.all_eq_true] at c
    cases q : vals[i]? with
    | none => rw [q] at r; cases r; exact .none
    | some w =>
      rw [q] at r
      have := c w (List.mem_of_getElem? q)
      cases w with
      | none => cases r; exact .none
      | some p => cases r with | some r => exact .some (r.cut this)
  | .fn .., x, _ => by
    obtain ⟨f, e0, ⟨T, c', oc, vc, q, x1, y1, y2, y3, y4⟩⟩ := x
    exact ⟨f, e0, ⟨T, c', oc, vc, q, x1, fun m => y1 (cut_own m), y2, y3, y4⟩⟩
  | .tab .., x, _ => by
    obtain ⟨ps, e0, x, y, z⟩ := x
    refine ⟨ps, e0, x, y, z.imp id ?_⟩
    rintro ⟨c', oc, vc, t, n, a, b, c, d⟩
    exact ⟨c', oc, vc, t, fun m => n (cut_own m), a, b, c, d⟩
  | .cdone, x, _ => x
  | .edict, x, _ => x
  | .junk, _, _ => trivial
theorem RelS.cut {K : Frag} {ρ : Rho} {st ext : List AO} {h : Heap} (R : RelS K ρ (st ++ ext) h) (cl : ∀ (i : Nat) ao, st[i]? = some ao → AO.clean st.length ao = true) : RelS K (ρ.cut st.length) st h := by
  have hl : (ρ.cut st.length).ents.length = st.length := by
    have := R.len
    rw [List.length_append] at this
    show (ρ.ents.take st.length).length = _
    rw [List.length_take]; omega
  refine ⟨hl, fun i as ao e e' => ?_, ?_, fun a m => R.apart a (cut_own m), R.top, R.nolim⟩
  · have hi : i < st.length := (List.getElem?_eq_some_iff.mp e').1
    replace e : (ρ.ents.take st.length)[i]? = some as := e
    rw [List.getElem?_take_of_lt hi] at e
    exact (R.objs i as ao e (by rw [List.getElem?_append_left hi]; exact e')).cut (cl i ao e')
  · have n := R.nodup
    unfold Rho.own at n ⊢
    rw [List.nodup_append] at n ⊢
    refine ⟨?_, n.2.1, fun a m b m' => ?_⟩
    · have : ρ.ents.flatten = (ρ.ents.take st.length).flatten ++ (ρ.ents.drop st.length).flatten := by rw [← List.flatten_append, List.take_append_drop]
      rw [this, List.nodup_append] at n
      exact n.1.1
    · obtain ⟨l, hl, ha⟩ := List.mem_flatten.mp m
      exact n.2.2 a (List.mem_flatten.mpr ⟨l, List.mem_of_mem_take hl, ha⟩) b m'
theorem RV.fz {K : Frag} {ρ : Rho} {st : List AO} {n : Nat} {h : Heap} (R : RelS K ρ st h) {v : Value} {p q : PV} (r : RV h ρ v p) (f : Fz n st p q) : RV h (ρ.cut n) v q := by
  refine Fz.rec (motive_1 := fun p q _ => ∀ v, RV h ρ v p → RV h (ρ.cut n) v q) (motive_2 := fun p q _ => ∀ v, RVs h ρ v p → RVs h (ρ.cut n) v q)
    (fun v r => by obtain ⟨_, rfl⟩ := r.inv; exact .none) (fun _ v r => by obtain ⟨_, rfl⟩ := r.inv; exact .bool _) (fun _ v r => by obtain ⟨_, rfl⟩ := r.inv; exact .int _ _) (fun _ v r => by obtain ⟨_, rfl⟩ := r.inv; exact .str _ _)
    (fun l v r => by obtain ⟨_, e, rfl⟩ := r.inv; exact .ref (headAt_cut e l)) (fun {i xs ys} l q _ ih v r => ?_)
    (fun _ ih v r => by obtain ⟨_, _, na, e, r', rfl⟩ := r.inv; exact .tup (fun m => na (cut_own m)) e (ih _ r')) (fun _ ih v r => by obtain ⟨_, _, na, e, r', rfl⟩ := r.inv; exact .lst (fun m => na (cut_own m)) e (ih _ r')) (fun _ v r => by obtain ⟨_, rfl⟩ := r.inv; exact .raw _)
    (fun v r => by obtain rfl := r.inv; exact .nil) (fun _ _ x y v r => by obtain ⟨_, _, rfl, a, b⟩ := r.inv; exact .cons (x _ a) (y _ b)) f v r
  obtain ⟨a, e, rfl⟩ := r.inv
  obtain ⟨vs, k, e0, rr, hr⟩ := R.listAt e q
  refine .lst (vs := vs.toList) (fun m => ?_) ⟨k, by rw [Array.toArray_toList]; exact e0⟩ (ih _ rr)
  have no := R.nodup
  rcases List.mem_append.mp m with m | m
  · obtain ⟨as, hl, ha⟩ := List.mem_flatten.mp m
    obtain ⟨j, hj⟩ := List.mem_iff_getElem?.mp hl
    replace hj : (ρ.ents.take n)[j]? = some as := hj
    have hjn : j < n := by
      by_cases z : j < n
      · exact z
      · rw [List.getElem?_take_eq_none (by omega)] at hj; cases hj
    rw [List.getElem?_take_of_lt hjn] at hj
    exact apart_at no hr hj (by omega) a (by simp) ha
  · exact rsv_apart no m (mem_flatten_at hr a (by simp))
structure Spec (G : List PV → SM PV) (ps : List PV) (st : List AO) (y : PV) (st' : List AO) : Prop where
  ex : ∃ p ext, G ps st = some (p, st' ++ ext) ∧ Fz st'.length (st' ++ ext) p y
  len : st.length ≤ st'.length
  same : ∀ (i : Nat) ao, st'[i]? = some ao → st[i]? = some ao ∨ AO.clean st'.length ao = true
section
variable {c : Ctx0} {b : Nat}
theorem EndsS.spec {ρ : Rho} {s s' : Shared} {st st' ext : List AO} {p y : PV} {v : Value} (R : RelS c.K ρ st s.heap) (z : EndsS c.K RV ρ s p (st' ++ ext) v s') (fz : Fz st'.length (st' ++ ext) p y) (len : st.length ≤ st'.length)
    (same : ∀ (i : Nat) ao, st'[i]? = some ao → st[i]? = some ao ∨ AO.clean st'.length ao = true) : EndsS c.K RV ρ s y st' v s' := by
  obtain ⟨ρ', S, g, q, rv⟩ := z
  refine ⟨ρ'.cut st'.length, S.cut fun i ao e => ?_, ⟨g.keep, ?_, g.rsv, fun a m => ?_⟩, q, rv.fz S fz⟩
  · rcases same i ao e with h | h
    · have hi : i < ρ.ents.length := by rw [R.len]; exact (List.getElem?_eq_some_iff.mp h).1
      exact (R.objs i _ ao (List.getElem?_eq_getElem hi) h).isClean (by rw [R.len]; exact len)
    · exact h
  · obtain ⟨t, ht⟩ := g.pre
    show ρ.ents <+: ρ'.ents.take st'.length
    have hn : ρ.ents.length ≤ st'.length := by rw [R.len]; exact len
    rw [← ht, List.take_append, List.take_of_length_le hn]
    exact List.prefix_append ..
  · obtain ⟨l, hl, ha⟩ := List.mem_flatten.mp m
    exact g.new a (List.mem_flatten.mpr ⟨l, List.mem_of_mem_take hl, ha⟩)
theorem FunK.spec {fv : Value} {np : Nat} {kn : List Str} {G G' : List PV → SM PV} (o : FunK c b fv np kn G) (h : ∀ ps st y st', G' ps st = some (y, st') → Spec G ps st y st') : FunK c b fv np kn G' := by
  constructor
  · intro ps st r e
    obtain ⟨y, st'⟩ := r
    obtain ⟨⟨p, ext, e', _⟩, _, _⟩ := h ps st y st' e
    exact o.len _ _ _ e'
  · intro A hA ρ s st vs ps y st' e r R
    obtain ⟨⟨p, ext, e', fz⟩, len, same⟩ := h ps st y st' e
    refine codeAny_mono (o.run A hA ρ s st vs ps p _ e' r R) fun r s' z => ?_
    rcases r with e | (v | _ | _ | _) <;> first | exact z.elim | exact z.spec R fz len same
theorem OpL.weak {t : List Value → Sem Value} {G : List PV → SM PV} {b' : Nat} (o : OpL c b t G) (l : b ≤ b') : OpL c b' t G := ⟨fun A hA => o.run A (hA.le l)⟩
theorem FunK.weak {fv : Value} {np : Nat} {kn : List Str} {G : List PV → SM PV} {b' : Nat} (o : FunK c b fv np kn G) (l : b ≤ b') : FunK c b' fv np kn G := ⟨o.len, fun A hA => o.run A (hA.le l)⟩
end
end Mine
end
section
set_option Elab.async false
set_option maxRecDepth 100000
set_option linter.unusedVariables false
set_option linter.unusedSimpArgs false
namespace Mine
open PySem PySem.Calls PySem.W PyProof.Rows
section
variable {c : Ctx0} {b : Nat} {f : FI}
theorem den_method_kw {o a0 kwe : Expr} {name kw : Str} {apos pos kwp : Pos} {args : List Expr} {fv : Value} {P : PV → List AO → Bool} {FO FK : FM PV} {FA : FM (List PV)} {np : Nat} {G : List PV → SM PV}
    (dO : Den c b f RV (eval o f.env) FO) (m : MethAt c name P fv) (hk : KeepOk c.K fv) (da : DenArgs c b f pos (a0 :: args) FA) (dk : Den c b f RV (eval kwe f.env) FK) (op : FunK c b fv np [kw] G)
    (hbase : notSuper o = true := by rfl) (hline : (apos.endLine == pos.line) = true := by rfl) (ha : ((a0 :: args).all notStarred && decide (args.length < 26)) = true := by rfl) :
    Den c b f RV (eval (.Call (.Attribute o name apos) (a0 :: args) [⟨some kw, kwe, kwp⟩] pos) f.env) (bindE FO fun p => guardE (P p) (bindE FA fun ps => bindE FK fun q => liftS (G (p :: (ps ++ [q]))))) := by
  constructor
  intro A hA ρ s es y es' e R
  obtain ⟨p, es₁, e1, e⟩ := bindE_some e
  unfold guardE at e
  split at e <;> try (first | obtain ⟨rfl, rfl⟩ := spr e | exact (nos e).elim | obtain rfl := Option.some.inj e | cases e)
  rename_i hP
  obtain ⟨ps, es₂, e2, e⟩ := bindE_some e
  obtain ⟨q, es₃, e3, e⟩ := bindE_some e
  obtain ⟨st', e4, rfl⟩ := liftS_some e
  have hl := op.len _ _ _ e4
  rw [Bool.and_eq_true] at ha
  have hst := starEach_plain (env := f.env) (pos := pos) ha.1
  have hlen : args.length < 26 := by simpa using ha.2
  have hfew : methodCallForm ((a0 :: args).length + ([⟨some kw, kwe, kwp⟩] : List Keyword).length) (backTo pos (starEach (a0 :: args) f.env)) (backToKw pos (keywordEach [⟨some kw, kwe, kwp⟩] f.env)) = true := by
    unfold methodCallForm
    rw [hst]
    show (true && true && decide (args.length + 1 + 1 + 1 < 30)) = true
    simp; omega
  rw [arm_eval_Call, attributeBase_of hbase]
  refine wpAny_bind (wpAny_mono (dO.run A hA ρ s es p es₁ e1 R) (fun v s₁ z => ?_) fun _ _ z => z)
  obtain ⟨ρ₁, R₁, g₁, q₁, r₁⟩ := z
  refine wpAny_bind (wpAny_standAt ?_)
  have hpos : methodCallPos true o f.env apos pos = pure pos := by unfold methodCallPos; simp [hline]
  unfold methodCall
  rw [hfew]
  refine wpAny_bind (wpAny_holding (m.run A _ ρ₁ s₁ es₁.st v p _ hP r₁ R₁.s ?_))
  refine wpAny_bind (wpAny_of_eq hpos ?_)
  rw [List.all_cons, Bool.and_eq_true] at ha
  refine callWith_of (P := c.K.In) ?_ (hk _) (evalArgs_kw2 rfl (wpAny_mono (da.run A hA ρ₁ s₁ es₁ ps es₂ e2 R₁) (fun vs s₂ z => ?_) fun _ _ z => z) (starEach_of ha.1.1))
  · rw [show (backToKw pos (keywordEach [⟨some kw, kwe, kwp⟩] f.env)).any (·.1.isNone) = false from rfl, Bool.or_false, List.any_eq_not_all_not, Bool.not_eq_false']
    simpa using hst
  · obtain ⟨ρ₂, R₂, g₂, q₂, r₂⟩ := z
    show wpAny _ _ (evalAll [do let v ← eval kwe f.env; standAt pos; pure v]) _ _ _
    refine wpAny_evalAll_cons (wpAny_bind (wpAny_mono (dk.run A hA ρ₂ s₂ es₂ q es₃ e3 R₂) (fun k s₃ z => ?_) fun _ _ z => z))
    obtain ⟨ρ₃, R₃, g₃, q₃, r₃⟩ := z
    refine wpAny_bind (wpAny_standAt (wpAny_pure (wpAny_evalAll_nil ⟨R₃.s.top, ?_⟩)))
    have rr : RVs s₃.heap ρ₃ (v :: (vs ++ [k])) (p :: (ps ++ [q])) := .cons ((r₁.grow g₂ R₁.like).grow g₃ R₂.like) ((r₂.grow g₃ R₂.like).append (.cons r₃ .nil))
    have hvl := r₂.length
    have hnp : np = vs.length + 1 := by simp at hl; omega
    have := op.run A hA ρ₃ s₃ es₃.st (v :: (vs ++ [k])) (p :: (ps ++ [q])) y st' e4 rr R₃.s
    rw [hnp, List.take_succ_cons, List.take_left', List.drop_succ_cons, List.drop_left'] at this
    · exact wpAny_call (codeAny_mono this fun r s' z => by
        rcases r with e | (v | _ | _ | _) <;> first | exact ((((EndsS.toF R₃ z).after g₃ q₃).after g₂ q₂).after g₁ q₁) | exact z.elim)
    · rfl
    · rfl
noncomputable def whileE (n : Nat) (T : FM Bool) (B : FM PF) : FM PF := match n with
  | 0 => failE
  | n + 1 => bindE T fun t => if t then bindE B (loopK (whileE n T B)) else pureE .next
theorem den_while {test : Expr} {body : List Stmt} {pos : Pos} {T : FM Bool} {B : FM PF} {N : ES → Nat} (dt : Den c b f RB (isTrue test f.env (eval test f.env)) T) (db : Den c b f RFl (execs body f.env) B) :
    Den c b f RFl (exec (.While test body [] pos) f.env) (fun es => whileE (N es) T B es) := by
  constructor
  intro A hA ρ₀ s₀ es₀ y es' e R₀
  refine wpAny_While (codeAny_whileLoop (R := fun r s' => match r with | .ok fl => Ends c.K f RFl ρ₀ s₀ y es' fl s' | .error e => cameBackBy _ A f.env noE e s')
    (fun n s => ∃ ρ es, P4 (whileE n T B es = some (y, es')) (RelF c.K f ρ es s.heap) (Grow f.fr ρ₀ s₀.heap ρ s.heap) (Same s₀ s)) ?_ (N es₀) ⟨ρ₀, es₀, e, R₀, .refl, .refl⟩)
  rintro n s ⟨ρ, es, e, R, g, sm⟩
  cases n with
  | zero => (first | obtain ⟨rfl, rfl⟩ := spr e | exact (nos e).elim | obtain rfl := Option.some.inj e | cases e)
  | succ n =>
    obtain ⟨t, es₁, e1, e2⟩ := bindE_some e
    refine wpAny_mono (dt.run A hA ρ s es t es₁ e1 R) (fun v s₁ z => ?_) fun _ _ z => z.elim
    obtain ⟨ρ₁, R₁, g₁, q₁, rfl⟩ := z
    cases v with
    | false => (first | obtain ⟨rfl, rfl⟩ := spr e2 | exact (nos e2).elim | obtain rfl := Option.some.inj e2 | cases e2); exact wpAny_execs_nil ⟨ρ₁, R₁, g.trans g₁, sm.trans q₁, .next⟩
    | true =>
      rw [if_pos rfl] at e2 ⊢
      obtain ⟨fl, es₂, e3, e4⟩ := bindE_some e2
      refine wpAny_mono (db.run A hA ρ₁ s₁ es₁ fl es₂ e3 R₁) (fun flv s₂ z => ?_) fun _ _ z => z.elim
      obtain ⟨ρ₂, R₂, g₂, q₂, rf⟩ := z
      have gg := (g.trans g₁).trans g₂
      have qq := (sm.trans q₁).trans q₂
      cases rf with
      | next => exact ⟨n, Nat.lt_succ_self _, ρ₂, es₂, e4, R₂, gg, qq⟩
      | cont => exact ⟨n, Nat.lt_succ_self _, ρ₂, es₂, e4, R₂, gg, qq⟩
      | brk => (first | obtain ⟨rfl, rfl⟩ := spr e4 | exact (nos e4).elim | obtain rfl := Option.some.inj e4 | cases e4); exact ⟨ρ₂, R₂, gg, qq, .next⟩
      | ret r => (first | obtain ⟨rfl, rfl⟩ := spr e4 | exact (nos e4).elim | obtain rfl := Option.some.inj e4 | cases e4); exact ⟨ρ₂, R₂, gg, qq, .ret r⟩
theorem den_aug_attr {o value : Expr} {name : Str} {tpos pos : Pos} {op : Operator} {X O : FM PV} {G : PV → PV → SM PV} (dO : Den c b f RV (eval o f.env) O) (dx : Den c b f RV (eval value f.env) X) (op2 : Op2 c b RV (inplaceOp op) G) :
    Den c b f RFl (exec (.AugAssign (.Attribute o name tpos) op value pos) f.env) (bindE O fun p => bindE (liftS (getA c.K name p)) fun old => bindE X fun v => bindE (liftS (G old v)) fun new => bindE (liftS (setA c.K name p new)) fun _ => pureE .next) := by
  constructor
  intro A hA ρ s es y es' e R
  obtain ⟨po, es₁, e1, e⟩ := bindE_some e
  obtain ⟨old, es₃, e3, e⟩ := bindE_some e
  obtain ⟨st₃, e3', rfl⟩ := liftS_some e3
  obtain ⟨pv, es₄, e4, e⟩ := bindE_some e
  obtain ⟨new, es₅, e5, e⟩ := bindE_some e
  obtain ⟨st₅, e5', rfl⟩ := liftS_some e5
  obtain ⟨_, es₆, e6, e7⟩ := bindE_some e
  obtain ⟨st₆, e6', rfl⟩ := liftS_some e6
  (first | obtain ⟨rfl, rfl⟩ := spr e7 | exact (nos e7).elim | obtain rfl := Option.some.inj e7 | cases e7)
  refine wpAny_AugAssign_AttributeAny (wpAny_mono (dO.run A hA ρ s es po es₁ e1 R) (fun l s₁ z => ?_) fun _ _ z => z)
  obtain ⟨ρ₁, R₁, g₁, q₁, r₁⟩ := z
  refine wpAny_mono (op_getA.run A hA ρ₁ s₁ es₁.st l po old st₃ e3' r₁ R₁.s) (fun w s₃ z => ?_) fun _ _ z => z
  obtain ⟨ρ₃, S₃, g₃, q₃, r₃⟩ := z
  have R₃ := R₁.ofS S₃ g₃
  refine wpAny_mono (dx.run A hA ρ₃ s₃ _ pv es₄ e4 R₃) (fun v s₄ z => ?_) fun _ _ z => z
  obtain ⟨ρ₄, R₄, g₄, q₄, r₄⟩ := z
  refine wpAny_mono (op2.run A hA ρ₄ s₄ es₄.st w old v pv new st₅ e5' (r₃.grow g₄ R₃.like) r₄ R₄.s) (fun n s₅ z => ?_) fun _ _ z => z
  obtain ⟨ρ₅, S₅, g₅, q₅, r₅⟩ := z
  have R₅ := R₄.ofS S₅ g₅
  have rl := ((r₁.grow g₃ noFr).grow g₄ R₃.like).grow g₅ noFr
  refine wpAny_mono (op_setA.run A hA ρ₅ s₅ st₅ l po n new () st₆ e6' rl r₅ S₅) (fun _ s₆ z => ?_) fun _ _ z => z
  obtain ⟨ρ₆, S₆, g₆, q₆, _⟩ := z
  have w : ∀ {ρ ρ' : Rho} {h h' : Heap}, Grow [] ρ h ρ' h' → Grow f.fr ρ h ρ' h' := fun g => g.wider (by simp)
  exact ⟨ρ₆, R₅.ofS S₆ g₆, (((g₁.trans (w g₃)).trans g₄).trans (w g₅)).trans (w g₆), (((q₁.trans q₃).trans q₄).trans q₅).trans q₆, .next⟩
end
end Mine
end
section
set_option Elab.async false
set_option maxRecDepth 100000
set_option linter.unusedVariables false
set_option linter.unusedSimpArgs false
namespace Mine
open PySem PySem.Calls PySem.W PyProof.Rows
section
variable {c : Ctx0} {b : Nat} {f : FI}
noncomputable def intG (ps : List PV) : SM PV := fun st => match ps with | [.int i] => some (.int i, st) | _ => none
theorem op_int : OpL c b (fun vs => call (.type "int") vs) intG := by
  constructor
  intro A hA ρ s st vs ps y st' e r R
  unfold intG at e; split at e <;> (first | obtain ⟨rfl, rfl⟩ := spr e | exact (nos e).elim | obtain rfl := Option.some.inj e | cases e)
  obtain ⟨_, rfl, r1⟩ := rvs1 r
  (first | obtain ⟨_, rfl⟩ := r1.inv | cases r1)
  exact call_int_int (EndsS.here R (.int _ _))
noncomputable def seq? (st : List AO) (p : PV) : Option (List PV) := match p with
  | .tup xs => some xs
  | p => items? st p
theorem seq_of {K : Frag} {ρ : Rho} {st : List AO} {h : Heap} (R : RelS K ρ st h) {v : Value} {p : PV} {xs : List PV} (r : RV h ρ v p) (e : seq? st p = some xs) :
    ∃ a T o vs n, P6 (v = .ref a) ((T = "list" ∨ T = "tuple")) (h.get? a = some o) (o.cls = .type T) (o.data = .seq vs n) (RVs h ρ vs.toList xs) := by
  unfold seq? at e
  split at e
  · (first | obtain ⟨rfl, rfl⟩ := spr e | exact (nos e).elim | obtain rfl := Option.some.inj e | cases e)
    obtain ⟨_, _, na, q, rr, rfl⟩ := r.inv
    obtain ⟨o, e1, e2, n, e3⟩ := q
    exact ⟨_, "tuple", o, _, n, rfl, .inr rfl, e1, e2, e3, by simpa using rr⟩
  · obtain ⟨a, vs, rfl, ⟨n, e1⟩, rr⟩ := items_of R r e
    exact ⟨a, "list", _, vs, n, rfl, .inl rfl, e1, rfl, rfl, rr⟩
noncomputable def listG (ps : List PV) : SM PV := fun st => match ps with
  | [p] => (match seq? st p with
    | some xs => if xs.length ≤ sizeLine then some (.lst xs, st) else none
    | none => none)
  | _ => none
theorem op_list : OpL c b (fun vs => call (.type "list") vs) listG := by
  constructor
  intro A hA ρ s st vs ps y st' e r R
  unfold listG at e; split at e
  · rename_i p
    split at e
    · rename_i xs hx
      obtain ⟨hz, e⟩ := ite_some e
      (first | obtain ⟨rfl, rfl⟩ := spr e | exact (nos e).elim | obtain rfl := Option.some.inj e | cases e)
      obtain ⟨_, rfl, r1⟩ := rvs1 r
      obtain ⟨a, T, o, us, n, rfl, hT, ho, hc, hd, rr⟩ := seq_of R r1 hx
      have hl := rr.length
      rw [Array.length_toList] at hl
      refine call_list_seq a hT ho hc hd (fun h' c' k e => ?_) (by rw [hl]; exact hz)
      obtain ⟨S, g⟩ := R.ext k
      exact ⟨ρ, S, g, ⟨rfl, rfl, rfl⟩, .lst R.newOff ⟨c', by rw [Array.toArray_toList]; exact e⟩ (rr.grow g noFr)⟩
    · (first | obtain ⟨rfl, rfl⟩ := spr e | exact (nos e).elim | obtain rfl := Option.some.inj e | cases e)
  · (first | obtain ⟨rfl, rfl⟩ := spr e | exact (nos e).elim | obtain rfl := Option.some.inj e | cases e)
noncomputable def listNewG (ps : List PV) : SM PV := fun st => match ps with
  | [p] => (match seq? st p with
    | some xs => if xs.length ≤ sizeLine then some (.ref st.length, st ++ [.list xs]) else none
    | none => none)
  | _ => none
theorem op_list_new : OpL c b (fun vs => call (.type "list") vs) listNewG := by
  constructor
  intro A hA ρ s st vs ps y st' e r R
  unfold listNewG at e; split at e
  · rename_i p
    split at e
    · rename_i xs hx
      obtain ⟨hz, e⟩ := ite_some e
      (first | obtain ⟨rfl, rfl⟩ := spr e | exact (nos e).elim | obtain rfl := Option.some.inj e | cases e)
      obtain ⟨_, rfl, r1⟩ := rvs1 r
      obtain ⟨a, T, o, us, n, rfl, hT, ho, hc, hd, rr⟩ := seq_of R r1 hx
      have hl := rr.length
      rw [Array.length_toList] at hl
      refine call_list_seq a hT ho hc hd (fun h' c' k e => ?_) (by rw [hl]; exact hz)
      obtain ⟨S, g⟩ := R.push (as := [s.heap.objs.size]) (ao := .list xs) (h' := h') k
        (fun a m => by rw [List.mem_singleton.mp m]; exact get_ge (Nat.le_refl _)) (fun a m => by rw [List.mem_singleton.mp m]; exact ⟨_, e⟩) (by simp)
        (fun g => ⟨_, _, _, rfl, e, rr.grow g noFr⟩)
      refine ⟨_, S, g, ⟨rfl, rfl, rfl⟩, .ref ?_⟩
      rw [← R.len]; exact headAt_push
    · (first | obtain ⟨rfl, rfl⟩ := spr e | exact (nos e).elim | obtain rfl := Option.some.inj e | cases e)
  · (first | obtain ⟨rfl, rfl⟩ := spr e | exact (nos e).elim | obtain rfl := Option.some.inj e | cases e)
noncomputable def texts? (xs : List PV) : Option (List Str) := xs.mapM fun | .str x => some x | _ => none
theorem texts_of {h : Heap} {ρ : Rho} {vs : List Value} {xs : List PV} {ts : List Str} (r : RVs h ρ vs xs) (e : texts? xs = some ts) : ∃ l : List (Str × Tok), vs = strValues l ∧ l.map (·.1) = ts := by
  induction xs generalizing vs ts with
  | nil => obtain rfl := r.inv; obtain rfl := Option.some.inj e; exact ⟨[], rfl, rfl⟩
  | cons p xs ih =>
    obtain ⟨u, us, rfl, r1, rr⟩ := r.inv
    unfold texts? at e
    rw [List.mapM_cons] at e
    obtain ⟨x, e1, e⟩ := Option.bind_eq_some_iff.mp e
    obtain ⟨ts', e2, e3⟩ := Option.bind_eq_some_iff.mp e
    obtain rfl := Option.some.inj e3
    obtain ⟨l, rfl, rfl⟩ := ih rr e2
    cases p with
    | str y =>
      obtain rfl := Option.some.inj e1
      obtain ⟨t, rfl⟩ := r1.inv
      exact ⟨(y, t) :: l, rfl, rfl⟩
    | _ => exact (nos e1).elim
noncomputable def joinG (ps : List PV) : SM PV := fun st => match ps with
  | [.str x, p] => (match (items? st p).bind texts? with
    | some ts => if JoinOk x ts = true then some (.str (Txt.join x ts), st) else none
    | none => none)
  | _ => none
theorem op_join : OpL c b (fun vs => call (.builtin "str.join") vs) joinG := by
  constructor
  intro A hA ρ s st vs ps y st' e r R
  unfold joinG at e; split at e
  · rename_i x p
    split at e
    · rename_i ts hts
      obtain ⟨hz, e⟩ := ite_some e
      (first | obtain ⟨rfl, rfl⟩ := spr e | exact (nos e).elim | obtain rfl := Option.some.inj e | cases e)
      obtain ⟨xs, hx, ht⟩ := Option.bind_eq_some_iff.mp hts
      obtain ⟨_, _, rfl, r1, r2⟩ := rvs2 r
      obtain ⟨t, rfl⟩ := r1.inv
      obtain ⟨a, us, rfl, pl, rr⟩ := items_of R r2 hx
      obtain ⟨l, hl, rfl⟩ := texts_of rr ht
      have hl' : us = (strValues l).toArray := by rw [← hl, Array.toArray_toList]
      rw [hl'] at pl
      exact SC.join (isL pl) rfl hz fun t' k => EndsS.tok R (.str _ _)
    · (first | obtain ⟨rfl, rfl⟩ := spr e | exact (nos e).elim | obtain rfl := Option.some.inj e | cases e)
  · (first | obtain ⟨rfl, rfl⟩ := spr e | exact (nos e).elim | obtain rfl := Option.some.inj e | cases e)
noncomputable def ints? (xs : List PV) : Option (List Int) := xs.mapM fun | .int x => some x | _ => none
theorem ints_len : ∀ {xs : List PV} {ns : List Int}, ints? xs = some ns → ns.length = xs.length
  | [], ns, e => by unfold ints? at e; simp at e; subst e; rfl
  | x :: r, ns, e => by
    unfold ints? at e
    rw [List.mapM_cons] at e
    obtain ⟨i, e1, e⟩ := Option.bind_eq_some_iff.mp e
    obtain ⟨ns', e2, e3⟩ := Option.bind_eq_some_iff.mp e
    (first | obtain ⟨rfl, rfl⟩ := spr e3 | exact (nos e3).elim | obtain rfl := Option.some.inj e3 | cases e3)
    simp [ints_len e2]
theorem ints_get {h : Heap} {ρ : Rho} {vs : List Value} {xs : List PV} {ns : List Int} (r : RVs h ρ vs xs) (e : ints? xs = some ns) {i : Nat} {v : Value} (hv : vs[i]? = some v) : ∃ t, v = .int (ns.getD i 0) t := by
  induction xs generalizing vs ns i with
  | nil => obtain rfl := r.inv; exact (nos hv).elim
  | cons p xs ih =>
    obtain ⟨u, us, rfl, r1, rr⟩ := r.inv
    unfold ints? at e
    rw [List.mapM_cons] at e
    obtain ⟨x, e1, e⟩ := Option.bind_eq_some_iff.mp e
    obtain ⟨ns', e2, e3⟩ := Option.bind_eq_some_iff.mp e
    obtain rfl := Option.some.inj e3
    cases i with
    | zero =>
      obtain rfl := Option.some.inj hv
      cases p with
      | int j => obtain rfl := Option.some.inj e1; exact r1.inv
      | _ => exact (nos e1).elim
    | succ i => exact ih rr e2 hv
theorem preSum_take (ns : List Int) : ∀ k, k ≤ ns.length → preSum (fun i => ns.getD i 0) k = (ns.take k).sum
  | 0, _ => rfl
  | k + 1, h => by
    show preSum _ k + ns.getD k 0 = _
    rw [preSum_take ns k (by omega), List.take_add_one, List.sum_append, List.getD_eq_getElem?_getD]
    rw [List.getElem?_eq_getElem (by omega : k < ns.length)]
    simp
noncomputable def sumG (ps : List PV) : SM PV := fun st => match ps with
  | [p] => (match (items? st p).bind ints? with
    | some ns => some (.int ns.sum, st)
    | none => none)
  | _ => none
theorem op_sum : OpL c b (fun vs => call (.builtin "sum") vs) sumG := by
  constructor
  intro A hA ρ s st vs ps y st' e r R
  unfold sumG at e; split at e
  · rename_i p
    split at e <;> (first | obtain ⟨rfl, rfl⟩ := spr e | exact (nos e).elim | obtain rfl := Option.some.inj e | cases e)
    rename_i ns hns
    obtain ⟨xs, hx, hn⟩ := Option.bind_eq_some_iff.mp hns
    obtain ⟨_, rfl, r1⟩ := rvs1 r
    obtain ⟨a, us, rfl, pl, rr⟩ := items_of R r1 hx
    have hl := rr.length
    rw [Array.length_toList] at hl
    have hln := ints_len hn
    have alt : a ≠ s.heap.objs.size := by obtain ⟨n, e⟩ := pl; exact Nat.ne_of_lt (Heap.lt_size e)
    refine call_sum_walkG (wpAny_pyIter_list (isL pl) ?_)
    refine ⟨s.heap.objs.size, _, _, us.size, _, _, fun i => ns.getD i 0, rfl, Walks.list (by exact hA.handled) s.heap.objs.size a alt us, ⟨⟨_, Heap.get?_push_size _ rfl, rfl, rfl⟩, ?_⟩, fun x m => ?_, fun i v hv => ?_, fun h' tk t' k => ?_⟩
    · obtain ⟨n, e⟩ := pl; exact ⟨_, Heap.get?_push_of_some _ e, rfl, n, rfl⟩
    · simp only [List.mem_cons, List.not_mem_nil, or_false] at m
      rw [show ({ s with heap := s.heap.push _ } : Shared).heap.objs.size = s.heap.objs.size + 1 from Heap.size_push ..]
      rcases m with rfl | rfl
      · exact Nat.lt_succ_self _
      · obtain ⟨n, e⟩ := pl; exact Nat.lt_succ_of_lt (Heap.lt_size e)
    · exact ints_get rr hn (by simpa using hv)
    · obtain ⟨S, g⟩ := R.ext (h' := h') fun x o e => k x o (fun m => by rw [List.mem_singleton.mp m, get_ge (Nat.le_refl _)] at e; (first | obtain ⟨rfl, rfl⟩ := spr e | exact (nos e).elim | obtain rfl := Option.some.inj e | cases e)) (Heap.get?_push_of_some _ e)
      rw [preSum_take ns _ (by omega), List.take_of_length_le (by omega)]
      exact ⟨ρ, S, g, ⟨rfl, rfl, rfl⟩, .int _ _⟩
  · (first | obtain ⟨rfl, rfl⟩ := spr e | exact (nos e).elim | obtain rfl := Option.some.inj e | cases e)
end
end Mine
end
section
set_option Elab.async false
set_option maxRecDepth 100000
set_option linter.unusedVariables false
set_option linter.unusedSimpArgs false
namespace Mine
open PySem PySem.Calls PySem.W PyProof.Rows
section
variable {c : Ctx0} {b : Nat} {f : FI}
noncomputable abbrev DenBs (c : Ctx0) (b : Nat) (f : FI) (names : List Str) (F : List PV → FM Unit) : Prop := DenK c b f RVs RU (fun vs => assignInOrder (names.map fun n => bindName f.env n) vs) F
theorem denbs_nil : DenBs c b f [] asNil := by
  constructor
  intro A hA ρ s es vs ps y es' e r R
  unfold asNil at e
  split at e <;> (first | obtain ⟨rfl, rfl⟩ := spr e | exact (nos e).elim | obtain rfl := Option.some.inj e | cases e)
  cases r
  exact wpAny_pure (Ends.here R trivial)
theorem denbs_cons {x : Str} {rest : List Str} {S : PV → FM Unit} {T : List PV → FM Unit} (ds : DenK c b f RV RU (storeName f.env x) S) (dt : DenBs c b f rest T) : DenBs c b f (x :: rest) (asCons S T) := by
  constructor
  intro A hA ρ s es vs ps y es' e r R
  unfold asCons at e
  split at e
  · obtain ⟨_, es₁, e1, e2⟩ := bindE_some e
    obtain ⟨_, _, rfl, rv, rr⟩ := r.inv
    show wpAny _ _ (holding _ (bindName f.env x _) >>= fun _ => assignInOrder (rest.map fun n => bindName f.env n) _) _ _ _
    refine wpAny_bind (wpAny_holding (wpAny_bindName (wpAny_mono (ds.run A hA ρ s es _ _ _ es₁ e1 rv R) (fun _ s₁ z => ?_) fun _ _ z => z)))
    obtain ⟨ρ₁, R₁, g₁, q₁, _⟩ := z
    exact wpAny_mono (dt.run A hA ρ₁ s₁ es₁ _ _ _ es' e2 (rr.grow g₁ R.like) R₁) (fun _ _ z => z.after g₁ q₁) fun _ _ z => z
  · (first | obtain ⟨rfl, rfl⟩ := spr e | exact (nos e).elim | obtain rfl := Option.some.inj e | cases e)
noncomputable def unpackRevE (n : Nat) (T : List PV → FM Unit) (p : PV) : FM Unit := match p with
  | .tup xs => if xs.length = n then T xs.reverse else failE
  | _ => failE
theorem RVs.rev {h : Heap} {ρ : Rho} {vs : List Value} {xs : List PV} (r : RVs h ρ vs xs) : RVs h ρ vs.reverse xs.reverse := by
  induction vs generalizing xs with
  | nil => cases r; exact .nil
  | cons v vs ih => cases r with | cons x y => rw [List.reverse_cons, List.reverse_cons]; exact (ih y).append (.cons x .nil)
theorem den_swap {elts : List Expr} {k : Nat} {tpos pos : Pos} {value : Expr} {names : List Str} {X : FM PV} {T : List PV → FM Unit} (dx : Den c b f RV (eval value f.env) X) (dt : DenBs c b f names.reverse T)
    (hw : swappedStores [.Tuple elts k tpos] value f.env = pure (some names)) (hs : swapsWithSole [.Tuple elts k tpos] value pos.line f.env = pure false := by rfl) :
    Den c b f RFl (exec (.Assign [.Tuple elts k tpos] value pos) f.env) (bindE X fun p => bindE (unpackRevE names.length T p) fun _ => pureE .next) := by
  constructor
  intro A hA ρ s es r es' e R
  obtain ⟨p, es₁, e1, e⟩ := bindE_some e
  obtain ⟨_, es₂, e2, e3⟩ := bindE_some e
  cases e3
  refine Assign_Tuple_swapped (wpAny_mono (dx.run A hA ρ s es p es₁ e1 R) (fun v s₁ z => ?_) fun _ _ z => z) hs hw
  obtain ⟨ρ₁, R₁, g₁, q₁, r₁⟩ := z
  unfold unpackRevE at e2
  split at e2
  · rename_i xs
    split at e2
    · rename_i hl
      obtain ⟨a, vs, na, q, rr, rfl⟩ := r₁.inv
      have hn : names.length = vs.toArray.size := by rw [List.size_toArray, rr.length, hl]
      rw [hn]
      refine wpAny_unpackItems_tuple hA.handled q fun h' hx => ?_
      have kk : ∀ a o, s₁.heap.get? a = some o → h'.get? a = some o := fun a o e => hx a o (Nat.ne_of_lt (Heap.lt_size e)) e
      obtain ⟨S, g⟩ := R₁.s.ext kk
      have := dt.run A hA ρ₁ { s₁ with heap := h' } es₁ vs.reverse xs.reverse () es' e2 (rr.rev.grow g noFr) (R₁.ofS S g)
      refine wpAny_mono this (fun _ s₂ z => ?_) fun _ _ z => z
      obtain ⟨ρ₂, R₂, g₂, q₂, _⟩ := z
      exact ⟨ρ₂, R₂, g₁.trans ((g.wider (fun _ m => nomatch m)).trans g₂), q₁.trans ⟨q₂.1, q₂.2.1, q₂.2.2⟩, .next⟩
    · cases e2
  · cases e2
end
end Mine
end
section
set_option Elab.async false
set_option maxRecDepth 100000
set_option linter.unusedVariables false
set_option linter.unusedSimpArgs false
namespace Mine
open PySem PySem.Calls PySem.W PyProof.Rows
section
variable {c : Ctx0} {b : Nat} {f : FI}
theorem den_never {α β : Type} {RA : Heap → Rho → α → β → Prop} {t : Sem α} : Den c b f RA t failE := ⟨fun A hA ρ s es y es' e R => nomatch e⟩
noncomputable def typeG (ps : List PV) : SM PV := fun st => match ps with
  | [.str _] => some (.raw (.type "str"), st)
  | [p] => if (items? st p).isSome = true then some (.raw (.type "list"), st) else none
  | _ => none
theorem op_type : OpL c b (fun vs => call (.type "type") vs) typeG := by
  constructor
  intro A hA ρ s st vs ps y st' e r R
  unfold typeG at e; split at e
  · (first | obtain ⟨rfl, rfl⟩ := spr e | exact (nos e).elim | obtain rfl := Option.some.inj e | cases e)
    obtain ⟨_, rfl, r1⟩ := rvs1 r
    (first | obtain ⟨_, rfl⟩ := r1.inv | cases r1)
    exact call_type_of (typeIs_str _ _ _) (by decide) (EndsS.here R (.raw _))
  · obtain ⟨hs, e⟩ := ite_some e
    (first | obtain ⟨rfl, rfl⟩ := spr e | exact (nos e).elim | obtain rfl := Option.some.inj e | cases e)
    obtain ⟨_, rfl, r1⟩ := rvs1 r
    obtain ⟨xs, hx⟩ := Option.isSome_iff_exists.mp hs
    obtain ⟨a, us, rfl, pl, _⟩ := items_of R r1 hx
    exact call_type_of (isL pl).typeIs (by decide) (EndsS.here R (.raw _))
  · (first | obtain ⟨rfl, rfl⟩ := spr e | exact (nos e).elim | obtain rfl := Option.some.inj e | cases e)
noncomputable def isT (p q : PV) : SM PV := fun st => match p, q with | .raw (.type x), .raw (.type y) => some (.bool (Value.type x == Value.type y), st) | _, _ => none
noncomputable def isNotT (p q : PV) : SM PV := fun st => match p, q with | .raw (.type x), .raw (.type y) => some (.bool (!(Value.type x == Value.type y)), st) | _, _ => none
theorem op_isT : Op2 c b RV (compareOp .Is) isT := by
  constructor
  intro A hA ρ s st x z x' z' y st' e r r' R
  unfold isT at e; split at e <;> (first | obtain ⟨rfl, rfl⟩ := spr e | exact (nos e).elim | obtain rfl := Option.some.inj e | cases e)
  cases r; (first | obtain ⟨_, rfl⟩ := r'.inv | cases r')
  show wpAny _ A (do return Value.bool (← isSame _ _)) _ _ s
  exact wpAny_bind (wpAny_pure (wpAny_pure (EndsS.here R (.bool _))))
theorem op_isNotT : Op2 c b RV (compareOp .IsNot) isNotT := by
  constructor
  intro A hA ρ s st x z x' z' y st' e r r' R
  unfold isNotT at e; split at e <;> (first | obtain ⟨rfl, rfl⟩ := spr e | exact (nos e).elim | obtain rfl := Option.some.inj e | cases e)
  cases r; (first | obtain ⟨_, rfl⟩ := r'.inv | cases r')
  show wpAny _ A (do return Value.bool (!(← isSame _ _))) _ _ s
  exact wpAny_bind (wpAny_pure (wpAny_pure (EndsS.here R (.bool _))))
end
end Mine
end
section
set_option Elab.async false
set_option maxRecDepth 100000
set_option linter.unusedVariables false
set_option linter.unusedSimpArgs false
namespace Mine
open PySem PySem.Calls PySem.W PyProof.Rows
theorem plainAttrs_re : PlainAttrs "re.Pattern" :=
  ⟨⟨"object.__getattribute__", by rw [typeLookup_type, builtinLookup_eq_fast]; kernel_rfl, by decide +kernel⟩, by rw [typeLookup_type, builtinLookup_eq_fast]; kernel_rfl⟩
theorem slot_re : Slot "re.Pattern" "search" "re.Pattern.search" :=
  .of (owner := "re.Pattern") (n := "search") (by rw [typeLookup_type, builtinLookup_eq_fast]; kernel_rfl) (by decide +kernel) (by decide +kernel) (by decide +kernel)
    (by first | exact .inl (by decide +kernel) | exact .inr (by decide +kernel)) (by rw [isSubtype_type]; kernel_rfl)
theorem type_re : typeOf (.builtin "re.Pattern.search") = pure (.type "method_descriptor") := by show builtinType _ = _; rw [builtinType_eq_fast]; kernel_rfl
theorem entry_re : entryFor table "re.Pattern.search" = some Builtin.«re.Pattern.search» := entryFor_of_tree (by kernel_rfl)
theorem args_re (a b : Value) : argsOk "re.Pattern.search" ⟨[a, b], []⟩ := by unfold argsOk; kernel_rfl
theorem admitted_none {m : Sre.M} {t : Nat → Bool} (h : ∀ u seen, ∃ seen', Sre.inSet m.code u m.code.size 5 true seen = .ok (t u, seen')) : ∀ (fuel s : Nat) (seen : Sre.Seen), (∀ k, s ≤ k → k < m.lim → t (m.text.getD k 0) = false) → ∃ seen', Sre.M.admitted m fuel s seen = .ok (none, seen')
  | 0, s, seen, _ => ⟨seen, rfl⟩
  | fuel + 1, s, seen, hn => by
    unfold Sre.M.admitted
    by_cases hs : s ≥ m.lim
    · exact ⟨seen, by rw [if_pos hs]⟩
    · rw [if_neg hs]
      obtain ⟨seen', e⟩ := h (m.text.getD s 0) seen
      rw [e, hn s (Nat.le_refl _) (by omega)]
      exact admitted_none h fuel (s + 1) seen' fun k hk hl => hn k (by omega) hl
end Mine
end
section
set_option Elab.async false
set_option maxRecDepth 100000
set_option linter.unusedVariables false
set_option linter.unusedSimpArgs false
namespace Mine
open PySem PySem.Calls PySem.W PyProof.Rows
open PySem.Builtin.Re
theorem reNamed_one (v : Value) : reNamed "re.Pattern.search" "search" ["string", "pos", "endpos"] 1 [v] [] = pure [some v, none, none] := by rfl
theorem reText_str (x : Str) (t : Tok) : reTextOf (.str x t) = pure (x.cps, 0) := by rfl
theorem reNoColl (v : Value) : reNoCollectionInside v 0 = pure () := by rfl
theorem rules_told {M : Model} {A : Around} {E : Value → Shared → Prop} {s : Shared} {Q : PUnit → Shared → Prop} (p : Nat → Bool) (n : Nat → String) (h : Q ⟨⟩ s) : ∀ l : List Nat,
    wpAny M A (forIn l PUnit.unit fun i _ => do
      if p i = true then rule (n i)
      pure (ForInStep.yield PUnit.unit)) Q E s
  | [] => wpAny_pure h
  | i :: l => by
    rw [List.forIn_cons]
    refine wpAny_bind ?_
    cases q : p i with
    | true => exact wpAny_bind (wpAny_rule (wpAny_pure (rules_told p n h l)))
    | false => exact wpAny_pure (rules_told p n h l)
structure CodeOk (code : Array Nat) (t : Nat → Bool) : Prop where
  hdr : ∃ b, Sre.header code = (1, b)
  info : (match Sre.ops[code.getD 0 0]? with | some .INFO => true | _ => false) = true
  flag : code.getD 2 0 = 4
  set5 : ∀ u seen, ∃ seen', Sre.inSet code u code.size 5 true seen = .ok (t u, seen')
theorem adm_none {code text : Array Nat} {t : Nat → Bool} {m : Sre.M} {fuel s : Nat} {seen : Sre.Seen} {r : Except String (Option Nat × Sre.Seen)} (hc : m.code = code) (ht : m.text = text) (hl : m.lim = text.size)
    (h5 : ∀ u seen, ∃ seen', Sre.inSet code u code.size 5 true seen = .ok (t u, seen')) (hn : ∀ k, k < text.size → t (text.getD k 0) = false) (e : Sre.M.admitted m fuel s seen = r) : ∃ seen', r = .ok (none, seen') := by
  subst hc ht
  obtain ⟨seen', e'⟩ := admitted_none (m := m) h5 fuel s seen (fun k _ hk => hn k (by rw [← hl]; exact hk))
  exact ⟨seen', e.symm.trans e'⟩
theorem search_fail {code text : Array Nat} {t : Nat → Bool} (ok : CodeOk code t) (hn : ∀ k, k < text.size → t (text.getD k 0) = false) :
    ((Sre.forSearch code text 0 0 text.size false).runFor 4).outcome = some .failed := by
  obtain ⟨b, hb⟩ := ok.hdr
  unfold Sre.forSearch
  dsimp only
  split
  · rfl
  · unfold Sre.M.attemptFrom
    rw [if_neg (by
      unfold Sre.M.hasFirstSet
      show ¬ (!((match Sre.ops[code.getD 0 0]? with | some .INFO => true | _ => false) && code.getD 2 0 == 4)) = true
      rw [ok.info, ok.flag]; decide)]
    split
    · rename_i e
      obtain ⟨_, e'⟩ := adm_none rfl rfl rfl ok.set5 hn e
      (first | obtain ⟨rfl, rfl⟩ := spr e' | exact (nos e').elim | obtain rfl := Option.some.inj e' | cases e')
    · rfl
    · rename_i e
      obtain ⟨_, e'⟩ := adm_none rfl rfl rfl ok.set5 hn e
      (first | obtain ⟨rfl, rfl⟩ := spr e' | exact (nos e').elim | obtain rfl := Option.some.inj e' | cases e')
end Mine
end
section
set_option Elab.async false
set_option maxRecDepth 100000
set_option linter.unusedVariables false
set_option linter.unusedSimpArgs false
namespace Mine
open PySem PySem.Calls PySem.W PyProof.Rows
open PySem.Builtin.Re
structure PatOk (K : Frag) (pa : Addr) (code : Array Nat) (t : Nat → Bool) : Prop extends CodeOk code t where
  obj : ∃ sl src fl ta g, K.lookup pa = some ⟨.type "re.Pattern", none, .fields #[src, fl, .int 0 g, .none, .none, .ref ta, .int 0 g], sl⟩ ∧ ∃ oc od' items n sl', K.lookup ta = some ⟨oc, od', .seq items n, sl'⟩ ∧ (items.map reRawOf).map (·.toNat) = code
theorem reDrive_one {M : Model} {A : Around} {E : Value → Shared → Prop} {s : Shared} {Q : Sre.M → Shared → Prop} {m : Sre.M} {o : Sre.Outcome} (h : (m.runFor 4).outcome = some o) (q : Q (m.runFor 4) s) (n : Nat) : wpAny M A (reDrive (n + 1) m) Q E s := by
  rw [reDrive]
  show wpAny M A (if (m.runFor 4).outcome.isSome = true then pure (m.runFor 4) else _) Q E s
  rw [h]
  exact wpAny_pure q
theorem reRun_failed {M : Model} {A : Around} {E : Value → Shared → Prop} {s : Shared} {Q : Option Sre.M → Shared → Prop} {m : Sre.M} (h : (m.runFor 4).outcome = some .failed) (q : Q none s) : wpAny M A (reRunToEnd m) Q E s := by
  unfold reRunToEnd
  have e : (2 ^ 64 : Nat) = (2 ^ 64 - 1) + 1 := by decide
  rw [e]
  refine wpAny_bind (reDrive_one h ?_ _)
  refine wpAny_bind (rules_told _ _ ?_ _)
  rw [h]
  exact wpAny_pure q
section
variable {c : Ctx0} {b : Nat} {f : FI}
noncomputable def searchG (pa : Addr) (t : Nat → Bool) (ps : List PV) : SM PV := fun st => match ps with
  | [.raw (.ref a), .str x] => if a = pa ∧ x.cps.all (fun u => !t u) = true ∧ x.cps.size ≤ 16777216 then some (.none, st) else none
  | _ => none
theorem op_search {pa : Addr} {code : Array Nat} {t : Nat → Bool} (ok : PatOk c.K pa code t) : OpL c b (fun vs => call (.builtin "re.Pattern.search") vs) (searchG pa t) := by
  constructor
  intro A hA ρ s st vs ps y st' e r R
  unfold searchG at e; split at e
  · rename_i a x
    obtain ⟨⟨hpa, hn, hsz⟩, e1⟩ := ite_some e
    clear e
    subst hpa
    (first | obtain ⟨rfl, rfl⟩ := spr e1 | exact (nos e1).elim | obtain rfl := Option.some.inj e1 | cases e1)
    obtain ⟨_, _, rfl, r1, r2⟩ := rvs2 r
    (first | obtain ⟨_, rfl⟩ := r1.inv | cases r1)
    obtain ⟨tk, rfl⟩ := r2.inv
    obtain ⟨sl, src, fl, ta, g, hp, oc, od', items, n, sl', ht, hcode⟩ := ok.obj
    have ho := R.top _ _ hp
    have ho' := R.top _ _ ht
    refine wpAny_call_entry slot_re ⟨_, ho, rfl⟩ entry_re ?_ (args_re _ _)
    unfold Builtin.«re.Pattern.search»
    have target : ∀ (Q : ReTarget → Shared → Prop), Q ⟨.ref a, .str x tk, code, x.cps, 0, 0, 0, x.cps.size⟩ s → wpAny (model c.prog c.w) A.in1 (reTarget "re.Pattern.search" "search" ⟨[.ref a, .str x tk], []⟩) Q noE s := by
      intro Q h
      unfold reTarget
      dsimp only
      rw [reNamed_one]
      refine wpAny_bind (wpAny_pure ?_)
      refine wpAny_bind (wpAny_pure (wpAny_bind (wpAny_pure ?_)))
      refine wpAny_bind (wpAny_fieldsOf ho rfl ?_)
      rw [reText_str]
      refine wpAny_bind (wpAny_pure ?_)
      dsimp only
      rw [if_neg (by simp [reRawNat]), if_neg (by simp [reRawNat]), reNoColl]
      refine wpAny_bind (wpAny_pure ?_)
      refine wpAny_bind ?_
      unfold reRawItems
      refine wpAny_bind (wpAny_seqItems ho' rfl ?_)
      refine wpAny_pure (wpAny_pure ?_)
      have e1 : min (Int.toNat 0) x.cps.size = 0 := by simp
      have e2 : min (2 ^ 63 - 1 : Int).toNat x.cps.size = x.cps.size := by
        rw [Nat.min_eq_right]
        have : (2 ^ 63 - 1 : Int).toNat = 9223372036854775807 := by decide
        omega
      rw [e1, e2]
      show Q ⟨.ref a, .str x tk, (items.map reRawOf).map (·.toNat), x.cps, 0, 0, 0, x.cps.size⟩ s
      rw [hcode]
      exact h
    refine wpAny_bind (target _ ?_)
    unfold reAnswer
    refine wpAny_bind (reRun_failed (search_fail ok.toCodeOk fun k hk => ?_) ?_)
    · have := Array.all_eq_true.mp hn k hk
      rw [Array.getD_eq_getD_getElem?, Array.getElem?_eq_getElem hk]
      simpa using this
    · exact wpAny_pure ⟨_, rfl, EndsS.here R .none⟩
  · (first | obtain ⟨rfl, rfl⟩ := spr e | exact (nos e).elim | obtain rfl := Option.some.inj e | cases e)
noncomputable def isPat (pa : Addr) (p : PV) (_ : List AO) : Bool := match p with | .raw (.ref a) => a == pa | _ => false
theorem meth_search {pa : Addr} {code : Array Nat} {t : Nat → Bool} (ok : PatOk c.K pa code t) : MethAt c "search" (isPat pa) (.builtin "re.Pattern.search") := by
  constructor
  intro A pl ρ s st v p Q hP r R h
  unfold isPat at hP
  split at hP
  · rename_i a
    cases r
    rw [beq_iff_eq] at hP
    subst hP
    obtain ⟨sl, src, fl, ta, g, hp, _⟩ := ok.obj
    have ho := R.top _ _ hp
    exact getMethod_builtin ⟨_, ho, rfl⟩ plainAttrs_re slot_re type_re (fun a' q => by cases q; exact ⟨_, ho, rfl⟩) h
  · cases hP
end
end Mine
end
section
set_option Elab.async false
set_option maxRecDepth 100000
set_option linter.unusedVariables false
set_option linter.unusedSimpArgs false
namespace Mine
open PySem PySem.Calls PySem.W PyProof.Rows
noncomputable abbrev codeN : Array Nat := #[14, 10, 4, 1, 1, 22, 0, 31, 16, 127, 0, 13, 7, 22, 0, 31, 16, 127, 0, 1]
noncomputable def ctlN (u : Nat) : Bool := (0 ≤ u && u ≤ 31) || u == 127
theorem code_names : CodeOk codeN ctlN where
  hdr := ⟨11, rfl⟩
  info := rfl
  flag := rfl
  set5 := fun u seen => by
    have e : Sre.inSet codeN u codeN.size 5 true seen = (if (0 ≤ u && u ≤ 31) = true then .ok (true, seen.add 22) else if (u == 127) = true then .ok (true, (seen.add 22).add 16) else .ok (false, ((seen.add 22).add 16).add 0)) := rfl
    rw [e]
    unfold ctlN
    by_cases h1 : (0 ≤ u && u ≤ 31) = true
    · exact ⟨_, by rw [if_pos h1, h1]; rfl⟩
    · rw [if_neg h1]
      have h1' : (0 ≤ u && u ≤ 31) = false := by simpa using h1
      by_cases h2 : (u == 127) = true
      · exact ⟨_, by rw [if_pos h2, h1', h2]; rfl⟩
      · have h2' : (u == 127) = false := by simpa using h2
        exact ⟨_, by rw [if_neg h2, h1', h2']; rfl⟩
noncomputable abbrev codeC (w0 w1 w2 w3 w4 w5 w6 w7 : Nat) : Array Nat := #[14, 14, 4, 1, 1, 9, w0, w1, w2, w3, w4, w5, w6, w7, 0, 13, 11, 9, w0, w1, w2, w3, w4, w5, w6, w7, 0, 1]
noncomputable def inWords (w0 w1 w2 w3 w4 w5 w6 w7 u : Nat) : Bool := u < 256 && ((codeC w0 w1 w2 w3 w4 w5 w6 w7).getD (5 + (1 + u / 32)) 0).testBit (u % 32)
theorem code_words (w0 w1 w2 w3 w4 w5 w6 w7 : Nat) : CodeOk (codeC w0 w1 w2 w3 w4 w5 w6 w7) (inWords w0 w1 w2 w3 w4 w5 w6 w7) where
  hdr := ⟨15, rfl⟩
  info := rfl
  flag := rfl
  set5 := fun u seen => by
    have e : Sre.inSet (codeC w0 w1 w2 w3 w4 w5 w6 w7) u (codeC w0 w1 w2 w3 w4 w5 w6 w7).size 5 true seen = (if inWords w0 w1 w2 w3 w4 w5 w6 w7 u = true then .ok (true, seen.add 9) else .ok (false, (seen.add 9).add 0)) := rfl
    rw [e]
    cases inWords w0 w1 w2 w3 w4 w5 w6 w7 u with
    | true => exact ⟨_, rfl⟩
    | false => exact ⟨_, rfl⟩
end Mine
end
section
set_option Elab.async false
set_option maxRecDepth 100000
set_option linter.unusedVariables false
set_option linter.unusedSimpArgs false
namespace Mine
open PySem PySem.Calls PySem.W PyProof.Rows
theorem slot_ci_next : Slot "callable_iterator" "__next__" "callable_iterator.__next__" :=
  .of (owner := "callable_iterator") (n := "__next__") (by rw [typeLookup_type, builtinLookup_eq_fast]; kernel_rfl) (by decide +kernel) (by decide +kernel) (by decide +kernel)
    (by first | exact .inl (by decide +kernel) | exact .inr (by decide +kernel)) (by rw [isSubtype_type]; kernel_rfl)
theorem slot_ci_iter : Slot "callable_iterator" "__iter__" "callable_iterator.__iter__" :=
  .of (owner := "callable_iterator") (n := "__iter__") (by rw [typeLookup_type, builtinLookup_eq_fast]; kernel_rfl) (by decide +kernel) (by decide +kernel) (by decide +kernel)
    (by first | exact .inl (by decide +kernel) | exact .inr (by decide +kernel)) (by rw [isSubtype_type]; kernel_rfl)
theorem entry_ci_next : entryFor table "callable_iterator.__next__" = some Builtin.«callable_iterator.__next__» := entryFor_of_tree (by kernel_rfl)
theorem entry_ci_iter : entryFor table "callable_iterator.__iter__" = some Builtin.«dict_keyiterator.__iter__» :=
  entryFor_alias (id' := "dict_keyiterator.__iter__") (by kernel_rfl) rfl (by decide +kernel) (by kernel_rfl)
theorem args_ci_next (a : Value) : argsOk "callable_iterator.__next__" ⟨[a], []⟩ := by unfold argsOk; kernel_rfl
theorem args_ci_iter (a : Value) : argsOk "callable_iterator.__iter__" ⟨[a], []⟩ := by unfold argsOk; kernel_rfl
theorem entry_iter : entryFor table "iter" = some Builtin.«iter» := entryFor_of_tree (by kernel_rfl)
theorem plain_iter : plainId "iter" = true := by decide +kernel
theorem check_iter (a b : Value) : checkBuiltinCall "iter" ⟨[a, b], []⟩ = pure () := by kernel_rfl
theorem look_method_call : typeLookup (.type "method") "__call__" = pure (some (.builtin "method.__call__")) := by rw [typeLookup_type, builtinLookup_eq_fast]; kernel_rfl
theorem wpAny_callBorrowed {M : Model} {A : Around} {E : Value → Shared → Prop} {s : Shared} {f : Value} {pos : List Value} {Q : Value → Shared → Prop}
    (hc : codeAny M A (.call f ⟨pos, []⟩) (fun r s' => match r with | .ok (.ret v) => Q v s' | .ok _ => False | .error e => E e s') s) : wpAny M A (callBorrowed f pos) Q E s := fun Γ p hΓ => by
  unfold callBorrowed
  show wpCode M (Γ.enter (.call f ⟨pos, []⟩) none p) _ p s
  refine wpCode_mono (fun r s' h => ?_) (hc _ p rfl (hΓ.enter _ none p (by intro x; cases x)))
  rcases r with e | (v | _ | _ | _) <;> exact h
theorem codeAny_bound {prog : Program} {w : World} {A : Around} {s : Shared} {b fa : Addr} {x : Value} {a : Args} {R : Result → Shared → Prop} (hb : s.heap.get? b = some { cls := .type "method", data := .fields #[.ref fa, x] })
    (hq : codeAny (model prog w) A (.call (.ref fa) { a with pos := x :: a.pos }) R s) : codeAny (model prog w) A (.call (.ref b) a) R s := by
  refine codeAny_of_tree ?_
  show wpAny _ A.in1 (callAny (.ref b) a) _ _ _
  unfold callAny
  refine wpAny_bind (wpAny_load hb ?_)
  exact wpAny_pure ⟨rfl, hq⟩
theorem wpAny_borrows {M : Model} {A : Around} {E : Value → Shared → Prop} {s : Shared} {b fa : Addr} {x : Value} {of : Obj} {fd : FuncData} {Q : Bool → Shared → Prop} (hb : s.heap.get? b = some { cls := .type "method", data := .fields #[.ref fa, x] })
    (hf : s.heap.get? fa = some of) (hd : of.data = .func fd) (h : Q true s) : wpAny M A (borrowsExactly (.ref b)) Q E s := by
  unfold borrowsExactly
  refine wpAny_bind (wpAny_load hb ?_)
  show wpAny _ _ (load fa >>= _) _ _ _
  refine wpAny_bind (wpAny_load hf ?_)
  rw [hd]
  exact wpAny_pure h
theorem wpAny_slotLetsGo {M : Model} {A : Around} {E : Value → Shared → Prop} {s : Shared} {who : String} {busy : Code → Bool} {b fa : Addr} {x : Value} {of : Obj} {fd : FuncData} {Q : Unit → Shared → Prop} (hb : s.heap.get? b = some { cls := .type "method", data := .fields #[.ref fa, x] })
    (hf : s.heap.get? fa = some of) (hd : of.data = .func fd) (h : Q () s) : wpAny M A (slotLetsGo who (.ref b) busy) Q E s := by
  unfold slotLetsGo
  refine wpAny_bind (wpAny_borrows hb hf hd ?_)
  exact wpAny_pure h
theorem wpAny_stopIteration {prog : Program} {w : World} {A : Around} {α : Type} {s : Shared} {E : Value → Shared → Prop} {Q : α → Shared → Prop} (hh : A.handled = none)
    (h : ∀ e h', (∀ a o, s.heap.get? a = some o → h'.get? a = some o) → (∃ o, h'.get? e = some o ∧ o.cls = .type "StopIteration") → E (.ref e) { s with heap := h' }) : wpAny (model prog w) A (Builtin.SmallTypes.stopIteration : Sem α) Q E s := by
  unfold Builtin.SmallTypes.stopIteration
  refine wpAny_bind ?_
  simp only [newExc, newTuple]
  refine wpAny_bind (wpAny_newObj_type ?_ (by size_fits))
  refine wpAny_bind (m := firstArgMember _ _) (wpAny_of_eq (a := Value.none) (by first | rfl | (simp only [firstArgMember]; rfl)) ?_)
  refine wpAny_newObj_type ?_ (by size_fits)
  simp only [raiseNew]
  refine wpAny_bind (wpAny_handled ?_)
  rw [hh]
  refine wpAny_bind (wpAny_pure (wpAny_throw ?_))
  exact h _ _ (fun a o e => Heap.get?_push_of_some _ (Heap.get?_push_of_some _ e)) ⟨_, Heap.get?_push_size _ rfl, rfl⟩
section
variable {c : Ctx0} {b : Nat} {f : FI}
theorem ite_then {α : Type} {p : Prop} [Decidable p] {x : Option α} {y : α} (e : (if p then x else none) = some y) : p ∧ x = some y := by
  by_cases h : p
  · rw [if_pos h] at e; exact ⟨h, e⟩
  · rw [if_neg h] at e; (first | obtain ⟨rfl, rfl⟩ := spr e | exact (nos e).elim | obtain rfl := Option.some.inj e | cases e)
noncomputable def fnIn (K : Frag) (fa : Addr) : Prop := ∃ of fd, K.lookup fa = some of ∧ of.data = .func fd
theorem RelS.methAt {K : Frag} {ρ : Rho} {st : List AO} {h : Heap} (R : RelS K ρ st h) {j : Nat} {a : Addr} {fv : Value} {self : PV} (e : headAt ρ j = some a) (q : st[j]? = some (.meth fv self)) :
    ∃ u, P3 (h.get? a = some { cls := .type "method", data := .fields #[fv, u] }) (RV h ρ u self) (ρ.ents[j]? = some [a]) := by
  obtain ⟨r, hr⟩ := headAt_some e
  obtain ⟨a', u, e1, e2, e3⟩ := R.objs j _ _ hr q
  (first | obtain ⟨rfl, rfl⟩ := spr e1 | exact (nos e1).elim | obtain rfl := Option.some.inj e1 | cases e1)
  exact ⟨u, e2, e3, hr⟩
theorem RelS.citerAt {K : Frag} {ρ : Rho} {st : List AO} {h : Heap} (R : RelS K ρ st h) {j : Nat} {a : Addr} {m z : PV} (e : headAt ρ j = some a) (q : st[j]? = some (.citer m z)) :
    ∃ u v, P4 (h.get? a = some { cls := .type "callable_iterator", data := .fields #[u, v, .bool false] }) (RV h ρ u m) (RV h ρ v z) (ρ.ents[j]? = some [a]) := by
  obtain ⟨r, hr⟩ := headAt_some e
  obtain ⟨a', u, v, e1, e2, e3, e4⟩ := R.objs j _ _ hr q
  (first | obtain ⟨rfl, rfl⟩ := spr e1 | exact (nos e1).elim | obtain rfl := Option.some.inj e1 | cases e1)
  exact ⟨u, v, e2, e3, e4, hr⟩
theorem RelS.cdoneAt {K : Frag} {ρ : Rho} {st : List AO} {h : Heap} (R : RelS K ρ st h) {j : Nat} {a : Addr} (e : headAt ρ j = some a) (q : st[j]? = some .cdone) :
    ∃ u v, h.get? a = some { cls := .type "callable_iterator", data := .fields #[u, v, .bool true] } ∧ ρ.ents[j]? = some [a] := by
  obtain ⟨r, hr⟩ := headAt_some e
  obtain ⟨a', u, v, e1, e2⟩ := R.objs j _ _ hr q
  (first | obtain ⟨rfl, rfl⟩ := spr e1 | exact (nos e1).elim | obtain rfl := Option.some.inj e1 | cases e1)
  exact ⟨u, v, e2, hr⟩
noncomputable def nextC (fa : Addr) (G : List PV → SM PV) (p : PV) : SM (Option PV) := fun st => match p with
  | .ref i => (match st[i]? with
    | some (.citer (.ref j) (.str z)) => (match st[j]? with
      | some (.meth (.ref fb) self) => if fb = fa then (match G [self] st with
        | some (.str x, st') => (match st'[i]?, st'[j]? with
          | some (.citer (.ref j') (.str z')), some (.meth (.ref fc) _) => if j' = j ∧ z' = z ∧ fc = fa then (if (z == x) = true then some (none, st'.set i .cdone) else some (some (.str x), st')) else none
          | _, _ => none)
        | _ => none) else none
      | _ => none)
    | some .cdone => some (none, st)
    | _ => none)
  | _ => none
theorem get_upd {h : Heap} {a : Addr} {o o' : Obj} {f : Obj → Obj} (e : h.get? a = some o) (hf : f o = o') (nf : o'.isFreed = false := by rfl) : (h.update a f).get? a = some o' := by
  rw [Heap.get?_update_self _ e (by rw [hf]; exact nf), hf]
theorem op_nextC {fa : Addr} {G : List PV → SM PV} (hfn : fnIn c.K fa) (o : FunK c b (.ref fa) 1 [] G) : Op1 c (b + 1) RV RVo pyNext (nextC fa G) := by
  constructor
  intro A hA ρ s st x p y st' e r R
  unfold nextC at e
  split at e
  rotate_left
  · (first | obtain ⟨rfl, rfl⟩ := spr e | exact (nos e).elim | obtain rfl := Option.some.inj e | cases e)
  rename_i i
  obtain ⟨a, hd, rfl⟩ := r.inv
  split at e
  · rename_i j z q
    split at e
    rotate_left
    · (first | obtain ⟨rfl, rfl⟩ := spr e | exact (nos e).elim | obtain rfl := Option.some.inj e | cases e)
    rename_i fb self qm
    have e' := ite_then e
    clear e
    obtain ⟨e0, e⟩ := e'
    subst e0
    split at e
    rotate_left
    · (first | obtain ⟨rfl, rfl⟩ := spr e | exact (nos e).elim | obtain rfl := Option.some.inj e | cases e)
    rename_i x st₁ eG
    split at e
    rotate_left
    · (first | obtain ⟨rfl, rfl⟩ := spr e | exact (nos e).elim | obtain rfl := Option.some.inj e | cases e)
    rename_i j' z' fc w' q1 qm1
    have e' := ite_then e
    clear e
    obtain ⟨⟨r1, r2, r3⟩, e⟩ := e'
    subst r1 r2 r3
    obtain ⟨u, v, h0, ru, rv, he⟩ := R.citerAt hd q
    obtain ⟨m, hm, rfl⟩ := ru.inv
    obtain ⟨tz, rfl⟩ := rv.inv
    obtain ⟨us, hm0, rs, _⟩ := R.methAt hm qm
    obtain ⟨of, fd, hof, hfd⟩ := hfn
    have hof' := R.top _ _ hof
    have hT : s.TypeIs (.ref a) "callable_iterator" := ⟨_, h0, rfl⟩
    unfold pyNext
    refine wpAny_bind (wpAny_attempt (wpAny_callSpecial?_slot (name := Str.ofString "__next__") hT slot_ci_next (wpAny_call_entry slot_ci_next hT entry_ci_next ?_ (args_ci_next _))))
    unfold Builtin.«callable_iterator.__next__»
    show wpAny _ _ (field (.ref a) 2 >>= _) _ _ s
    refine wpAny_bind (wpAny_field h0 rfl (x := .bool false) rfl ?_)
    show wpAny _ _ (field (.ref a) 0 >>= _) _ _ s
    refine wpAny_bind (wpAny_field h0 rfl (x := .ref m) rfl ?_)
    refine wpAny_bind (wpAny_attempt ?_)
    unfold callOutOfASlot
    refine wpAny_bind (wpAny_borrows hm0 hof' hfd ?_)
    rw [if_pos rfl]
    refine wpAny_callBorrowed (codeAny_bound hm0 ?_)
    have hA1 : AOk b A.in1 := ⟨hA.handled, by have := hA.depth; show A.depth + 2 * b ≤ 900; omega, by have := hA.units; show A.units + 1 + 20 * b ≤ 9000; omega⟩
    refine codeAny_mono (o.code (hA1.le (Nat.le_refl _)) eG (.cons rs .nil) R) fun r s₁ z => ?_
    rcases r with e | (v | _ | _ | _) <;> first | exact z.elim | skip
    obtain ⟨ρ₁, S₁, g₁, sm₁, rx⟩ := z
    obtain ⟨tx, rfl⟩ := rx.inv
    have hd1 : headAt ρ₁ i = some a := headAt_prefix g₁.pre hd
    obtain ⟨u', v', h1, ru1, rv1, he1⟩ := S₁.citerAt hd1 q1
    obtain ⟨m1, hm1, rfl⟩ := ru1.inv
    obtain ⟨tz1, rfl⟩ := rv1.inv
    obtain ⟨us1, hm10, _, _⟩ := S₁.methAt hm1 qm1
    have hof1 := S₁.top _ _ hof
    refine wpAny_bind (wpAny_field h1 rfl (x := .bool false) rfl ?_)
    refine wpAny_bind (wpAny_field h1 rfl (x := .str z' tz1) rfl ?_)
    refine wpAny_bind (wpAny_holding (eqBool_str ?_))
    cases hzx : z' == x with
    | false =>
      rw [hzx, if_neg (by decide)] at e
      (first | obtain ⟨rfl, rfl⟩ := spr e | exact (nos e).elim | obtain rfl := Option.some.inj e | cases e)
      exact wpAny_pure ⟨_, rfl, wpAny_pure ⟨ρ₁, S₁, g₁, sm₁, .some (.str _ _)⟩⟩
    | true =>
      rw [hzx, if_pos rfl] at e
      (first | obtain ⟨rfl, rfl⟩ := spr e | exact (nos e).elim | obtain rfl := Option.some.inj e | cases e)
      refine wpAny_bind (wpAny_rule ?_)
      show wpAny _ _ ((field (.ref a) 0 >>= fun v => slotLetsGo _ v _ >>= fun _ => setField (.ref a) 0 .none >>= fun _ => setField (.ref a) 1 .none >>= fun _ => setField (.ref a) 2 (.bool true)) >>= _) _ _ _
      refine wpAny_bind (wpAny_bind (wpAny_field h1 rfl (x := .ref m1) rfl ?_))
      refine wpAny_bind (wpAny_slotLetsGo hm10 hof1 hfd ?_)
      refine wpAny_bind (wpAny_setField h1 rfl (by simp) ?_)
      have h2 := get_upd (f := Obj.mapFields (·.setIfInBounds 0 .none)) h1 rfl
      refine wpAny_bind (wpAny_setField h2 rfl (by simp) ?_)
      have h3 := get_upd (f := Obj.mapFields (·.setIfInBounds 1 .none)) h2 rfl
      refine wpAny_setField h3 rfl (by simp) ?_
      have h4 := get_upd (f := Obj.mapFields (·.setIfInBounds 2 (.bool true))) h3 rfl
      have hs : ∀ b o, s₁.heap.get? b = some o → b ≠ a → (((s₁.heap.update a (Obj.mapFields (·.setIfInBounds 0 .none))).update a (Obj.mapFields (·.setIfInBounds 1 .none))).update a (Obj.mapFields (·.setIfInBounds 2 (.bool true)))).get? b = some o := fun b o e nb =>
        (((Heap.SameBut.update ..).2 b nb).trans (((Heap.SameBut.update ..).2 b nb).trans ((Heap.SameBut.update ..).2 b nb))).trans e
      refine wpAny_stopIteration hA.handled fun ev h' hk he => ?_
      obtain ⟨oe, hoe, hoc⟩ := he
      refine wpAny_bind (wpAny_isInstance (T := "StopIteration") (b := true) ⟨_, hoe, hoc⟩ isSubtype_stop ?_)
      obtain ⟨S₂, g₂⟩ := S₁.put (i := i) (ao' := .cdone) (h' := h') he1 (fun b o e nb => hk b o (hs b o e (by simpa using nb))) (fun b m => by rw [List.mem_singleton.mp m]; exact ⟨_, hk _ _ h4⟩) fun _ => ⟨a, _, _, rfl, hk _ _ h4⟩
      exact wpAny_pure ⟨ρ₁, S₂, g₁.trans g₂, sm₁.trans ⟨rfl, rfl, rfl⟩, .none⟩
  · rename_i q
    (first | obtain ⟨rfl, rfl⟩ := spr e | exact (nos e).elim | obtain rfl := Option.some.inj e | cases e)
    obtain ⟨u, v, h0, he⟩ := R.cdoneAt hd q
    have hT : s.TypeIs (.ref a) "callable_iterator" := ⟨_, h0, rfl⟩
    unfold pyNext
    refine wpAny_bind (wpAny_attempt (wpAny_callSpecial?_slot (name := Str.ofString "__next__") hT slot_ci_next (wpAny_call_entry slot_ci_next hT entry_ci_next ?_ (args_ci_next _))))
    unfold Builtin.«callable_iterator.__next__»
    show wpAny _ _ (field (.ref a) 2 >>= _) _ _ s
    refine wpAny_bind (wpAny_field h0 rfl (x := .bool true) rfl ?_)
    refine wpAny_bind (wpAny_rule ?_)
    refine wpAny_bind (wpAny_stopIteration hA.handled fun ev h' hk he => ?_)
    obtain ⟨oe, hoe, hoc⟩ := he
    refine wpAny_bind (wpAny_isInstance (T := "StopIteration") (b := true) ⟨_, hoe, hoc⟩ isSubtype_stop ?_)
    obtain ⟨S₂, g₂⟩ := R.ext hk
    exact wpAny_pure ⟨ρ, S₂, g₂, ⟨rfl, rfl, rfl⟩, .none⟩
  · (first | obtain ⟨rfl, rfl⟩ := spr e | exact (nos e).elim | obtain rfl := Option.some.inj e | cases e)
noncomputable def isMeth (st : List AO) (p : PV) : Bool := match p with
  | .ref j => (match st[j]? with | some (.meth (.ref _) _) => true | _ => false)
  | _ => false
noncomputable def iterG (ps : List PV) : SM PV := fun st => match ps with
  | [p, z] => if isMeth st p = true then some (.ref st.length, st ++ [.citer p z]) else none
  | _ => none
theorem op_iter : OpL c b (fun vs => call (.builtin "iter") vs) iterG := by
  constructor
  intro A hA ρ s st vs ps y st' e r R
  unfold iterG at e
  split at e
  rotate_left
  · cases e
  rename_i p z
  obtain ⟨hm, e⟩ := ite_then e
  cases e
  obtain ⟨v, u, rfl, r1, r2⟩ := rvs2 r
  unfold isMeth at hm
  split at hm
  rotate_left
  · cases hm
  rename_i j
  split at hm
  rotate_left
  · cases hm
  rename_i fa self q
  cases r1 with | @ref m _ hd => ?_
  obtain ⟨us, hm0, rs, _⟩ := R.methAt hd q
  have hT : s.TypeIs (.ref m) "method" := ⟨_, hm0, rfl⟩
  refine wpAny_call (codeAny_call_builtin plain_iter entry_iter (wpAny_of_eq (check_iter _ _) ?_))
  unfold Builtin.«iter»
  refine wpAny_bind (m := someArgs "iter" 1 2 ⟨[.ref m, u], []⟩) (wpAny_of_eq (a := [.ref m, u]) rfl ?_)
  refine wpAny_bind (wpAny_specialOf hT look_method_call ?_)
  refine wpAny_bind (wpAny_rule ?_)
  refine wpAny_bind (wpAny_newObj_type (wpAny_pure ?_))
  have k : ∀ a o, s.heap.get? a = some o → (s.heap.push { cls := .type "callable_iterator", data := .fields [.ref m, u, .bool false].toArray }).get? a = some o := fun a o e => Heap.get?_push_of_some _ e
  have hget : (s.heap.push { cls := .type "callable_iterator", data := .fields [.ref m, u, .bool false].toArray }).get? s.heap.objs.size = some { cls := .type "callable_iterator", data := .fields #[.ref m, u, .bool false] } := Heap.get?_push_size _ rfl
  obtain ⟨S, g⟩ := R.push (as := [s.heap.objs.size]) (ao := .citer (.ref j) z) k (fun a m => by rw [List.mem_singleton.mp m]; exact get_ge (Nat.le_refl _)) (fun a m => by rw [List.mem_singleton.mp m]; exact ⟨_, hget⟩) (List.nodup_cons.mpr ⟨by simp, List.nodup_nil⟩)
    fun g => ⟨_, _, _, rfl, hget, (RV.ref hd).grow g noFr, r2.grow g noFr⟩
  exact ⟨_, S, g, ⟨rfl, rfl, rfl⟩, .ref (by rw [← R.len]; exact headAt_push)⟩
noncomputable def isCiter (st : List AO) (p : PV) : Bool := match p with
  | .ref j => (match st[j]? with | some (.citer _ _) | some .cdone => true | _ => false)
  | _ => false
noncomputable def stepE (n : Nat) (N : SM (Option PV)) (S : PV → FM Unit) (B : FM PF) : FM PF := match n with
  | 0 => failE
  | n + 1 => bindE (liftS N) fun o => match o with
    | none => pureE .next
    | some x => bindE (S x) fun _ => bindE B (loopK (stepE n N S B))
theorem citer_self {A : Around} {ρ : Rho} {st : List AO} {s : Shared} {v : Value} {p : PV} {E : Value → Shared → Prop} {Q : Value → Shared → Prop} (R : RelS c.K ρ st s.heap) (r : RV s.heap ρ v p) (h : isCiter st p = true) (q : Q v s) : wpAny (model c.prog c.w) A (pyIter v) Q E s := by
  unfold isCiter at h
  split at h
  rotate_left
  · cases h
  rename_i j
  obtain ⟨a, hd, rfl⟩ := r.inv
  have hT : s.TypeIs (.ref a) "callable_iterator" := by
    split at h
    · rename_i z; obtain ⟨u, v, h0, _⟩ := R.citerAt hd z; exact ⟨_, h0, rfl⟩
    · rename_i z; obtain ⟨u, v, h0, _⟩ := R.cdoneAt hd z; exact ⟨_, h0, rfl⟩
    · cases h
  refine wpAny_pyIter_slot hT slot_ci_iter (wpAny_call_entry slot_ci_iter hT entry_ci_iter ?_ (args_ci_iter _))
  show wpAny _ _ (ret (.ref a)) _ _ s
  exact wpAny_pure ⟨_, rfl, "callable_iterator", _, hT, slot_ci_next.lookup, q⟩
theorem den_for_step {x : Str} {px ps : Pos} {iter : Expr} {body : List Stmt} {I : FM PV} {G : PV → SM (Option PV)} {S : PV → FM Unit} {B : FM PF} {N : Nat}
    (di : Den c b f RV (eval iter f.env) I) (dn : Op1 c b RV RVo pyNext G) (ds : DenA c b f (.Name x px) S) (db : Den c b f RFl (execs body f.env) B)
    (hs : ∀ x, foldedSetIterable iter f.env x = pure x := by intro _; rfl) : Den c b f RFl (exec (.For (.Name x px) iter body [] ps) f.env) (bindE I fun p => guardE (fun st => isCiter st p) (stepE N (G p) S B)) := by
  constructor
  intro A hA ρ s es y es' e R
  obtain ⟨p, es₁, e1, e⟩ := bindE_some e
  obtain ⟨hc, e⟩ := guardE_some e
  refine wpAny_For (wpAny_mono (di.run A hA ρ s es p es₁ e1 R) (fun v s₁ z => ?_) fun _ _ z => z) hs
  obtain ⟨ρ₁, R₁, g₁, q₁, r₁⟩ := z
  refine citer_self R₁.s r₁ hc ?_
  refine codeAny_forLoop_any (R := fun r s' => match r with | .ok fl => Ends c.K f RFl ρ s y es' fl s' | .error e => cameBackBy _ A f.env noE e s')
    (fun n s₂ => ∃ ρ₂ es₂, P4 (stepE n (G p) S B es₂ = some (y, es')) (RelF c.K f ρ₂ es₂ s₂.heap) (Grow f.fr ρ₁ s₁.heap ρ₂ s₂.heap) (Same s₁ s₂)) ?_ N ⟨ρ₁, es₁, e, R₁, .refl, .refl⟩
  rintro n s₂ ⟨ρ₂, es₂, e2, R₂, g₂, q₂⟩
  cases n with
  | zero => (first | obtain ⟨rfl, rfl⟩ := spr e2 | exact (nos e2).elim | obtain rfl := Option.some.inj e2 | cases e2)
  | succ n =>
    obtain ⟨o, es₃, e3, e4⟩ := bindE_some e2
    obtain ⟨st₃, e3', rfl⟩ := liftS_some e3
    refine wpAny_mono (dn.run A hA ρ₂ s₂ es₂.st v p o st₃ e3' (r₁.grow g₂ R₁.like) R₂.s) (fun u s₃ z => ?_) fun _ _ z => z.elim
    obtain ⟨ρ₃, S₃, g₃, q₃, ru⟩ := z
    have R₃ := R₂.ofS S₃ g₃
    have g13 := g₂.trans (g₃.wider (fr' := f.fr) (by simp))
    have q13 := q₂.trans q₃
    cases ru with
    | none => (first | obtain ⟨rfl, rfl⟩ := spr e4 | exact (nos e4).elim | obtain rfl := Option.some.inj e4 | cases e4); exact wpAny_execs_nil ⟨ρ₃, R₃, g₁.trans g13, q₁.trans q13, .next⟩
    | some ru =>
      obtain ⟨_, es₄, e5, e6⟩ := bindE_some e4
      obtain ⟨fl, es₅, e7, e8⟩ := bindE_some e6
      refine (show wpAny (model c.prog c.w) A (letOwnedTupleGo (.Name x px) v _) _ _ _ from wpAny_pure ?_)
      refine wpAny_mono (ds.run A hA ρ₃ s₃ _ _ _ () es₄ e5 ru R₃) (fun _ s₄ z => ?_) fun _ _ z => z.elim
      obtain ⟨ρ₄, R₄, g₄, q₄, _⟩ := z
      refine wpAny_mono (db.run A hA ρ₄ s₄ es₄ fl es₅ e7 R₄) (fun flv s₅ z => ?_) fun _ _ z => z.elim
      obtain ⟨ρ₅, R₅, g₅, q₅, rf⟩ := z
      have gg := g13.trans (g₄.trans g₅)
      have qq := q13.trans (q₄.trans q₅)
      cases rf with
      | next => exact ⟨n, Nat.lt_succ_self _, ρ₅, es₅, e8, R₅, gg, qq⟩
      | cont => exact ⟨n, Nat.lt_succ_self _, ρ₅, es₅, e8, R₅, gg, qq⟩
      | brk => (first | obtain ⟨rfl, rfl⟩ := spr e8 | exact (nos e8).elim | obtain rfl := Option.some.inj e8 | cases e8); exact ⟨ρ₅, R₅, g₁.trans gg, q₁.trans qq, .next⟩
      | ret r => (first | obtain ⟨rfl, rfl⟩ := spr e8 | exact (nos e8).elim | obtain rfl := Option.some.inj e8 | cases e8); exact ⟨ρ₅, R₅, g₁.trans gg, q₁.trans qq, .ret r⟩
end
end Mine
end
section
set_option Elab.async false
set_option maxRecDepth 100000
set_option linter.unusedVariables false
set_option linter.unusedSimpArgs false
namespace Mine
open PySem PySem.Calls PySem.W PyProof.Rows
section
variable {c : Ctx0} {b : Nat} {f : FI}
noncomputable def bindOk (K : Frag) (C : Addr) (name : Str) (fa : Addr) : Bool :=
  findIn K (.ref C) "__getattribute__" == some (some (.builtin "object.__getattribute__")) && findIn K (.ref C) "__getattr__" == some none && findIn K (.ref C) name == some (some (.ref fa)) &&
  specialIn K (.ref fa) "__get__" == some (some (.builtin "function.__get__")) && takesIn K (.ref fa) == some false && typeIn K (.ref fa) == some (.type "function") && (clsIn K C).isSome && !copiedNames.contains name
noncomputable def getB (C : Addr) (name : Str) (fa : Addr) (p : PV) : SM PV := fun st => match p with
  | .ref i => (match instOf st (.ref i) with
    | some (D, kvs) => if D = C ∧ (kvGet kvs name).isNone = true then some (.ref st.length, st ++ [.meth (.ref fa) (.ref i)]) else none
    | none => none)
  | _ => none
theorem op_getB {C fa : Addr} {name : Str} {expr : Bool} (hk : bindOk c.K C name fa = true) : Op1 c b RV RV (fun o => getAttr o name expr) (getB C name fa) := by
  constructor
  intro A hA ρ s st x z y st' e r R
  unfold getB at e
  split at e
  rotate_left
  · (first | obtain ⟨rfl, rfl⟩ := spr e | exact (nos e).elim | obtain rfl := Option.some.inj e | cases e)
  rename_i i
  split at e
  rotate_left
  · (first | obtain ⟨rfl, rfl⟩ := spr e | exact (nos e).elim | obtain rfl := Option.some.inj e | cases e)
  rename_i D kvs hi
  obtain ⟨⟨r1, hn⟩, e⟩ := ite_then e
  (first | obtain ⟨rfl, rfl⟩ := spr e | exact (nos e).elim | obtain rfl := Option.some.inj e | cases e)
  subst r1
  rw [Option.isNone_iff_eq_none] at hn
  obtain ⟨i', a, d, es, n, ox, e1, rfl, hr, I, hd, hD, er⟩ := R.instAt r hi
  (first | obtain ⟨rfl, rfl⟩ := spr e1 | exact (nos e1).elim | obtain rfl := Option.some.inj e1 | cases e1)
  simp only [bindOk, Bool.and_eq_true, beq_iff_eq, Bool.not_eq_true', Option.isSome_iff_exists] at hk
  obtain ⟨⟨⟨⟨⟨⟨⟨h1, h2⟩, h3⟩, h4⟩, h5⟩, h6⟩, ⟨cd, h7⟩⟩, h8⟩ := hk
  have hf : findObj c.K D (some (W.dictOf es n)) name = some (.bind (.builtin "function.__get__") (.ref fa)) := by
    unfold findObj
    rw [h7, h3]
    simp only [Option.bind_some]
    rw [h4]
    simp only [Option.bind_some]
    rw [h5]
    simp only [Option.bind_some]
    have : W.ownOf cd (some (W.dictOf es n)) name = some none := by
      unfold W.ownOf
      split
      · show lookIn name (W.dictOf es n) = some none
        rw [lookIn_dict, ents_none er hn]
      · rfl
    rw [this]
    simp only [Option.bind_some]
    rw [h8]
    rfl
  refine get_bind R.top I h1 hf h2 (wpAny_call (fn_get R.top h6 ?_))
  refine wpAny_of_eq (handedOut_of rfl) ?_
  have k : ∀ b o, s.heap.get? b = some o → (s.heap.push (methodObj (.ref fa) (.ref a))).get? b = some o := fun b o e => Heap.get?_push_of_some _ e
  have hget : (s.heap.push (methodObj (.ref fa) (.ref a))).get? s.heap.objs.size = some (methodObj (.ref fa) (.ref a)) := Heap.get?_push_size _ rfl
  obtain ⟨S, g⟩ := R.push (as := [s.heap.objs.size]) (ao := .meth (.ref fa) (.ref i)) k (fun a m => by rw [List.mem_singleton.mp m]; exact get_ge (Nat.le_refl _)) (fun a m => by rw [List.mem_singleton.mp m]; exact ⟨_, hget⟩) (List.nodup_cons.mpr ⟨by simp, List.nodup_nil⟩)
    fun g => ⟨_, _, rfl, hget, r.grow g noFr⟩
  exact ⟨_, S, g, ⟨rfl, rfl, rfl⟩, .ref (by rw [← R.len]; exact headAt_push)⟩
theorem den_attr_meth {o : Expr} {name : Str} {pos : Pos} {F : FM PV} {C fa : Addr} (d : Den c b f RV (eval o f.env) F) (hk : bindOk c.K C name fa = true) (hb : notSuper o = true := by rfl) :
    Den c b f RV (eval (.Attribute o name pos) f.env) (bindE F fun p => liftS (getB C name fa p)) := by
  constructor
  intro A hA ρ s es y es' e R
  obtain ⟨p, es₁, e1, e⟩ := bindE_some e
  rw [arm_eval_Attribute, attributeBase_of hb]
  refine wpAny_bind (wpAny_mono (d.run A hA ρ s es p es₁ e1 R) (fun v s₁ z => ?_) fun _ _ z => z)
  obtain ⟨ρ₁, R₁, g₁, q₁, r₁⟩ := z
  refine wpAny_bind (wpAny_standAt (wpAny_bind (wpAny_holding (wpAny_mono ((Op1.k (op_getB hk)).run A hA ρ₁ s₁ es₁ v p y es' e r₁ R₁) (fun u s₂ z => ?_) fun _ _ z => z))))
  exact wpAny_bind (wpAny_letTemporaryGo (wpAny_pure (z.after g₁ q₁)))
noncomputable def ownMethOk (K : Frag) (C : Addr) (name : Str) : Bool := attrOk K C name && findIn K (.ref C) "__getattr__" == some none
noncomputable def ownClo (K : Frag) (C : Addr) (name : Str) (p : PV) (st : List AO) : Option PV := match instOf st p with
  | some (D, kvs) => if D = C then (match kvGet kvs name with
    | some (.ref i) => (match st[i]? with
      | some (.clo ..) => some (.ref i)
      | _ => none)
    | _ => none) else none
  | none => none
noncomputable def isClo (p : PV) (st : List AO) : Bool := match p with
  | .ref i => (match st[i]? with | some (.clo ..) => true | _ => false)
  | _ => false
theorem getMethod_own {A : Around} {pl : Sem Bool} {C : Addr} {name : Str} {ρ : Rho} {s : Shared} {st : List AO} {v : Value} {p q : PV} {Q : Value × List Value → Shared → Prop} {E : Value → Shared → Prop} (hk : ownMethOk c.K C name = true) (e : ownClo c.K C name p st = some q) (r : RV s.heap ρ v p) (R : RelS c.K ρ st s.heap)
    (h : ∀ u, RV s.heap ρ u q → Q (u, []) { s with toks := s.toks + 1 }) : wpAny (model c.prog c.w) A (getMethod v name pl) Q E s := by
  unfold ownClo at e
  split at e
  rotate_left
  · (first | obtain ⟨rfl, rfl⟩ := spr e | exact (nos e).elim | obtain rfl := Option.some.inj e | cases e)
  rename_i D kvs hi
  have e' := ite_then e
  clear e
  obtain ⟨r1, e⟩ := e'
  subst r1
  split at e
  rotate_left
  · (first | obtain ⟨rfl, rfl⟩ := spr e | exact (nos e).elim | obtain rfl := Option.some.inj e | cases e)
  rename_i i hq
  obtain ⟨i', a, d, es, n, ox, e1, rfl, hr, I, hd, hD, er⟩ := R.instAt r hi
  obtain ⟨u, hu, ru⟩ := ents_get er hq
  simp only [ownMethOk, attrOk, Bool.and_eq_true, beq_iff_eq] at hk
  obtain ⟨⟨⟨h1, h2⟩, h3⟩, h4⟩ := hk
  obtain ⟨cd, hc, hcd⟩ := any_some h1
  have hf : findObj c.K D (some (W.dictOf es n)) name = some (.value u) := by
    unfold findObj
    rw [hc, h3]
    simp only [Option.bind_some]
    unfold W.ownOf
    rw [if_pos hcd]
    show ((lookIn name (W.dictOf es n)).bind _) = _
    rw [lookIn_dict, hu]
    rfl
  have hqe : q = .ref i := by
    split at e
    · (first | obtain ⟨rfl, rfl⟩ := spr e | exact (nos e).elim | obtain rfl := Option.some.inj e | cases e); rfl
    · (first | obtain ⟨rfl, rfl⟩ := spr e | exact (nos e).elim | obtain rfl := Option.some.inj e | cases e)
  subst hqe
  unfold getMethod specialOf
  refine wpAny_bind (wpAny_bind (I.type.here ((looks_findIn R.top h2).here ?_)))
  dsimp only
  rw [PySem.F.canon_object_ga, if_neg (by decide)]
  refine wpAny_bind (wpAny_bind (I.type.here ((looks_findIn R.top h4).here ?_)))
  refine wpAny_bind (wpAny_bind (I.type.here ((looks_findIn R.top h3).here ?_)))
  show wpAny _ _ (getAttr (.ref a) name >>= _) _ _ _
  exact wpAny_bind (get_value R.top I h2 hf (handed_of ru rfl) (wpAny_pure (h u ru)))
structure OpV (c : Ctx0) (b : Nat) (G : PV → List PV → SM PV) : Prop where
  run : ∀ A, AOk b A → ∀ ρ s st v p vs ps y st', G p ps st = some (y, st') → RV s.heap ρ v p → RVs s.heap ρ vs ps → RelS c.K ρ st s.heap → wpAny (model c.prog c.w) A (call v vs) (EndsS c.K RV ρ s y st') noE s
theorem isClo_obj {ρ : Rho} {st : List AO} {h : Heap} {v : Value} {p : PV} (R : RelS c.K ρ st h) (r : RV h ρ v p) (e : isClo p st = true) : ∃ a o fd, P3 (v = .ref a) (h.get? a = some o) (o.data = .func fd) := by
  unfold isClo at e
  split at e
  rotate_left
  · (first | obtain ⟨rfl, rfl⟩ := spr e | exact (nos e).elim | obtain rfl := Option.some.inj e | cases e)
  rename_i i
  split at e
  rotate_left
  · (first | obtain ⟨rfl, rfl⟩ := spr e | exact (nos e).elim | obtain rfl := Option.some.inj e | cases e)
  rename_i tm names vals q
  obtain ⟨a, hd, rfl⟩ := r.inv
  obtain ⟨r, hr⟩ := headAt_some hd
  obtain ⟨f, cs, e1, _, ⟨T, c', oc, vc, qq, x1, _⟩, _⟩ := R.objs i _ _ hr q
  (first | obtain ⟨rfl, rfl⟩ := spr e1 | exact (nos e1).elim | obtain rfl := Option.some.inj e1 | cases e1)
  exact ⟨_, _, _, rfl, x1, rfl⟩
theorem den_method_own {o : Expr} {name : Str} {apos pos : Pos} {args : List Expr} {C : Addr} {FO : FM PV} {FA : FM (List PV)} {G : PV → List PV → SM PV}
    (dO : Den c b f RV (eval o f.env) FO) (hk : ownMethOk c.K C name = true) (da : DenArgs c b f pos args FA) (op : OpV c b G)
    (hbase : notSuper o = true := by rfl) (hline : (apos.endLine == pos.line) = true := by rfl) (ha : (args.all notStarred && decide (args.length < 29)) = true := by rfl) :
    Den c b f RV (eval (.Call (.Attribute o name apos) args [] pos) f.env) (bindE FO fun p => bindE (fun es => (ownClo c.K C name p es.st).map fun q => (q, es)) fun q => bindE FA fun ps => guardE (isClo q) (liftS (G q ps))) := by
  constructor
  intro A hA ρ s es y es' e R
  obtain ⟨p, es₁, e1, e⟩ := bindE_some e
  obtain ⟨q, es₁', e2, e⟩ := bindE_some e
  obtain ⟨q', hq, e2⟩ := Option.map_eq_some_iff.mp e2
  (first | obtain ⟨rfl, rfl⟩ := spr e2 | exact (nos e2).elim | obtain rfl := Option.some.inj e2 | cases e2)
  obtain ⟨ps, es₂, e3, e⟩ := bindE_some e
  obtain ⟨hcl, e⟩ := guardE_some e
  obtain ⟨st', e4, rfl⟩ := liftS_some e
  rw [Bool.and_eq_true] at ha
  have hst := starEach_plain (env := f.env) (pos := pos) ha.1
  have hlen : args.length < 29 := by simpa using ha.2
  have hfew : methodCallForm (args.length + ([] : List Keyword).length) (backTo pos (starEach args f.env)) (backToKw pos (keywordEach [] f.env)) = true := by
    unfold methodCallForm
    rw [hst]
    show (true && true && decide (args.length + 0 + 0 < 30)) = true
    simp; omega
  rw [arm_eval_Call, attributeBase_of hbase]
  refine wpAny_bind (wpAny_mono (dO.run A hA ρ s es p es₁ e1 R) (fun v s₁ z => ?_) fun _ _ z => z)
  obtain ⟨ρ₁, R₁, g₁, q₁, r₁⟩ := z
  refine wpAny_bind (wpAny_standAt ?_)
  have hpos : methodCallPos true o f.env apos pos = pure pos := by unfold methodCallPos; simp [hline]
  unfold methodCall
  rw [hfew]
  refine wpAny_bind (wpAny_holding (getMethod_own hk hq r₁ R₁.s fun u ru => ?_))
  refine wpAny_bind (wpAny_of_eq hpos ?_)
  have RT : RelF c.K f ρ₁ es₁ ({ s₁ with toks := s₁.toks + 1 } : Shared).heap := R₁
  refine callWith_of (P := fun h => ∃ a o fd, P3 (u = .ref a) (h.get? a = some o) (o.data = .func fd)) ?_ (fun h hP => ?_) (evalArgs_spliced hst (wpAny_mono (da.run A hA ρ₁ _ es₁ ps es₂ e3 RT) (fun vs s₂ z => ?_) fun _ _ z => z))
  · rw [show (backToKw pos (keywordEach [] f.env)) = [] from rfl, List.any_nil, Bool.or_false, List.any_eq_not_all_not, Bool.not_eq_false']
    simpa using hst
  · obtain ⟨a, o, fd, rfl, ho, hd⟩ := hP
    refine ⟨.frame, .inl rfl, fun A Q E s k q => ?_⟩
    unfold keeperOf
    refine wpAny_bind (wpAny_load (k _ _ ho) ?_)
    rw [hd]
    exact wpAny_pure q
  · obtain ⟨ρ₂, R₂, g₂, q₂, r₂⟩ := z
    have ru2 := ru.grow g₂ R₁.like
    refine ⟨isClo_obj R₂.s ru2 hcl, wpAny_mono (op.run A hA ρ₂ s₂ es₂.st u q vs ps y st' e4 ru2 r₂ R₂.s) (fun _ _ z => ?_) fun _ _ z => z⟩
    have := (z.toF R₂).after g₂ q₂
    exact this.tk.after g₁ ⟨q₁.1, q₁.2.1, q₁.2.2⟩
end
end Mine
end
section
set_option Elab.async false
set_option maxRecDepth 100000
set_option linter.unusedVariables false
set_option linter.unusedSimpArgs false
namespace Mine
open PySem PySem.Calls PySem.W PyProof.Rows
theorem flatten_set {α : Type} {l : List (List α)} {i : Nat} {as bs : List α} (e : l[i]? = some as) : ∃ p q, l.flatten = p ++ (as ++ q) ∧ (l.set i bs).flatten = p ++ (bs ++ q) := by
  induction l generalizing i with
  | nil => (first | obtain ⟨rfl, rfl⟩ := spr e | exact (nos e).elim | obtain rfl := Option.some.inj e | cases e)
  | cons x l ih =>
    cases i with
    | zero => (first | obtain ⟨rfl, rfl⟩ := spr e | exact (nos e).elim | obtain rfl := Option.some.inj e | cases e); exact ⟨[], l.flatten, by simp, by simp⟩
    | succ i =>
      obtain ⟨p, q, h1, h2⟩ := ih (i := i) (by simpa using e)
      exact ⟨x ++ p, q, by simp [h1], by simp [h2]⟩
section
variable {K : Frag} {ρ ρ' : Rho} {st st' : List AO} {h : Heap}
theorem RelS.rearr (R : RelS K ρ st h) (len : ρ'.ents.length = st'.length) (perm : ρ'.own.Perm ρ.own) (head : ∀ i a, headAt ρ i = some a → headAt ρ' i = some a)
    (objs : Carry h ρ h ρ' → ∀ (i : Nat) (as : List Addr) (ao : AO), ρ'.ents[i]? = some as → st'[i]? = some ao → RO h ρ' as ao) : RelS K ρ' st' h ∧ Carry h ρ h ρ' := by
  have g : Carry h ρ h ρ' := ⟨fun a o e na => ⟨e, fun m => na (perm.mem_iff.mp m)⟩, head⟩
  exact ⟨⟨len, objs g, perm.nodup_iff.mpr R.nodup, fun a m => R.apart a (perm.mem_iff.mp m), R.top, R.nolim⟩, g⟩
noncomputable def Rho.open1 (ρ : Rho) (i : Nat) (f : Addr) (cs : List Addr) : Rho := ⟨ρ.ents.set i [f], cs ++ ρ.rsv⟩
theorem headAt_set {l : List (List Addr)} {r r' : List Addr} {i j : Nat} {f a : Addr} {as bs : List Addr} (e : l[i]? = some (f :: as)) : headAt ⟨l.set i (f :: bs), r⟩ j = some a ↔ headAt ⟨l, r'⟩ j = some a := by
  unfold headAt
  have hi : i < l.length := (List.getElem?_eq_some_iff.mp e).1
  by_cases q : i = j
  · subst q
    show (match (l.set i (f :: bs))[i]? with | some (a :: _) => some a | _ => none) = _ ↔ (match l[i]? with | some (a :: _) => some a | _ => none) = _
    rw [List.getElem?_set_self hi, e]
  · show (match (l.set i (f :: bs))[j]? with | some (a :: _) => some a | _ => none) = _ ↔ (match l[j]? with | some (a :: _) => some a | _ => none) = _
    rw [List.getElem?_set_ne q]
theorem perm_open {i : Nat} {f : Addr} {cs : List Addr} (e : ρ.ents[i]? = some (f :: cs)) : (ρ.open1 i f cs).own.Perm ρ.own := by
  obtain ⟨p, q, h1, h2⟩ := flatten_set (bs := [f]) e
  show ((ρ.ents.set i [f]).flatten ++ (cs ++ ρ.rsv)).Perm (ρ.ents.flatten ++ ρ.rsv)
  rw [h1, h2]
  simp only [List.append_assoc, List.cons_append, List.nil_append]
  refine List.Perm.append_left _ (List.Perm.cons _ ?_)
  rw [← List.append_assoc, ← List.append_assoc]
  exact List.Perm.append_right _ List.perm_append_comm
theorem RelS.openClo (R : RelS K ρ st h) {i : Nat} {f : Addr} {tm : FuncData} {names : List Str} {vals : List (Option PV)} (hd : headAt ρ i = some f) (q : st[i]? = some (.clo tm names vals)) :
    ∃ cs, ρ.ents[i]? = some (f :: cs) ∧ (cs.length = names.length ∧ vals.length = names.length) ∧ FnObj h ρ f tm (names.zip cs) ∧ RelS K (ρ.open1 i f cs) (st.set i (.fn tm (names.zip cs))) h ∧ Carry h ρ h (ρ.open1 i f cs) ∧
      ∀ (j : Nat) (d : Addr), cs[j]? = some d → ∃ u, h.IsCell d u ∧ RVo h (ρ.open1 i f cs) u ((vals[j]?).join) := by
  obtain ⟨cs, hr⟩ := headAt_some hd
  obtain ⟨f', cs', e1, l, x, y⟩ := R.objs i _ _ hr q
  (first | obtain ⟨rfl, rfl⟩ := spr e1 | exact (nos e1).elim | obtain rfl := Option.some.inj e1 | cases e1)
  have hi : i < ρ.ents.length := (List.getElem?_eq_some_iff.mp hr).1
  obtain ⟨S, g⟩ := R.rearr (ρ' := ρ.open1 i f cs) (st' := st.set i (.fn tm (names.zip cs))) (by show (ρ.ents.set i [f]).length = _; rw [List.length_set, List.length_set, R.len]) (perm_open hr)
    (fun j a e => (headAt_set (as := cs) (bs := []) hr).mpr e) fun g j as ao e e' => by
      by_cases hj : i = j
      · subst hj
        replace e : (ρ.ents.set i [f])[i]? = some as := e
        rw [List.getElem?_set_self hi] at e
        rw [List.getElem?_set_self (R.len ▸ hi)] at e'
        (first | obtain ⟨rfl, rfl⟩ := spr e | exact (nos e).elim | obtain rfl := Option.some.inj e | cases e); (first | obtain ⟨rfl, rfl⟩ := spr e' | exact (nos e').elim | obtain rfl := Option.some.inj e' | cases e')
        exact ⟨f, rfl, x.carry g fun _ e => e⟩
      · replace e : (ρ.ents.set i [f])[j]? = some as := e
        rw [List.getElem?_set_ne hj] at e
        rw [List.getElem?_set_ne hj] at e'
        exact (R.objs j as ao e e').carry g fun _ _ _ e => e
  refine ⟨cs, hr, l, x, S, g, fun j d hd => ?_⟩
  obtain ⟨o, u, a, b, c⟩ := y j d hd
  exact ⟨u, ⟨o, a, b⟩, c.carry g⟩
theorem RelS.closeClo {i : Nat} {f : Addr} {cs r : List Addr} {tm : FuncData} {names : List Str} {vals : List (Option PV)} (R : RelS K ρ st h) (hr : ρ.rsv.Perm (cs ++ r)) (q : st[i]? = some (.fn tm (names.zip cs))) (he : ρ.ents[i]? = some [f])
    (l : cs.length = names.length ∧ vals.length = names.length) (y : ∀ (j : Nat) (d : Addr), cs[j]? = some d → ∃ u, h.IsCell d u ∧ RVo h ρ u ((vals[j]?).join)) :
    RelS K ⟨ρ.ents.set i (f :: cs), r⟩ (st.set i (.clo tm names vals)) h ∧ Carry h ρ h ⟨ρ.ents.set i (f :: cs), r⟩ := by
  have hi : i < ρ.ents.length := (List.getElem?_eq_some_iff.mp he).1
  refine R.rearr (by show (ρ.ents.set i (f :: cs)).length = _; rw [List.length_set, List.length_set, R.len]) ?_ (fun j a e => (headAt_set (as := []) (bs := cs) he).mpr e) fun g j as ao e e' => ?_
  · obtain ⟨p, q, h1, h2⟩ := flatten_set (bs := f :: cs) he
    show ((ρ.ents.set i (f :: cs)).flatten ++ r).Perm (ρ.ents.flatten ++ ρ.rsv)
    rw [h1, h2]
    refine List.Perm.trans ?_ (List.Perm.append_left _ hr.symm)
    simp only [List.append_assoc, List.cons_append, List.nil_append]
    refine List.Perm.append_left _ (List.Perm.cons _ ?_)
    rw [← List.append_assoc, ← List.append_assoc]
    exact List.Perm.append_right _ List.perm_append_comm
  · by_cases hj : i = j
    · subst hj
      replace e : (ρ.ents.set i (f :: cs))[i]? = some as := e
      rw [List.getElem?_set_self hi] at e
      rw [List.getElem?_set_self (R.len ▸ hi)] at e'
      (first | obtain ⟨rfl, rfl⟩ := spr e | exact (nos e).elim | obtain rfl := Option.some.inj e | cases e); (first | obtain ⟨rfl, rfl⟩ := spr e' | exact (nos e').elim | obtain rfl := Option.some.inj e' | cases e')
      obtain ⟨f', e1, x⟩ := R.objs i _ _ he q
      (first | obtain ⟨rfl, rfl⟩ := spr e1 | exact (nos e1).elim | obtain rfl := Option.some.inj e1 | cases e1)
      refine ⟨f, cs, rfl, l, x.carry g fun _ e => e, fun j d hd => ?_⟩
      obtain ⟨u, ⟨o, a, b⟩, c⟩ := y j d hd
      exact ⟨o, u, a, b, c.carry g⟩
    · replace e : (ρ.ents.set i (f :: cs))[j]? = some as := e
      rw [List.getElem?_set_ne hj] at e
      rw [List.getElem?_set_ne hj] at e'
      exact (R.objs j as ao e e').carry g fun _ _ _ e => e
end
noncomputable def cloFd (tm : FuncData) (cl : List (Str × Addr)) (T : Value) (c' : Addr) : FuncData := { tm with closure := cl, closureTuple := T, code := .ref c' }
structure TmOk (tm : FuncData) (body : List Stmt) (pn ln : List Str) : Prop where
  body : tm.body = .stmts body
  co : tm.scope.isCoroutine = false
  gen : tm.scope.isGenerator = false
  kind : tm.scope.kind = .function
  glob : tm.globals = mainGlobals
  blt : tm.builtins = builtinsNs
  cell : ∀ x ∈ tm.scope.names, x.2 ≠ .cell
  par : ∀ x ∈ pn, tm.scope.names.lookup x = some .local
  nd : pn.Nodup
  sub : ∀ x ∈ pn, x ∈ ln
  bind : ∀ cl T c' s vs, vs.length = pn.length → BindsTo s (cloFd tm cl T c') ⟨vs, []⟩ (pn.zip vs)
section
variable {c : Ctx0} {b : Nat}
theorem op_clo {tm : FuncData} {body : List Stmt} {pn ln names : List Str} {li : List (Option Nat)} {F : FM PF} {G : PV → List PV → SM PV} (X : TmOk tm body pn ln) (hli : ln.map pn.idxOf? = li)
    (D : ∀ cs T c' L f, cs.length = names.length → Den c b ⟨callEnv (cloFd tm (names.zip cs) T c') L f, ln, names.zip cs⟩ RFl (execs body (callEnv (cloFd tm (names.zip cs) T c') L f)) F)
    (hG : ∀ p ps st y st', G p ps st = some (y, st') → ∃ i vals, p = .ref i ∧ st[i]? = some (.clo tm names vals) ∧ ps.length = pn.length ∧ ∀ cl, ∃ r es, P5 (F ⟨li.map fun o => o.bind fun i => ps[i]?, vals, st.set i (.fn tm cl)⟩ = some (r, es)) (es.st[i]? = some (.fn tm cl)) (retOf r = y) (es.cel.length = vals.length) (st' = es.st.set i (.clo tm names es.cel))) : OpV c (b + 1) G := by
  constructor
  intro A hA ρ s st v p vs ps y st' e r rr R
  obtain ⟨i, vals, rfl, q, hlen, hF⟩ := hG p ps st y st' e
  obtain ⟨f, hd, rfl⟩ := r.inv
  obtain ⟨cs, hr, l, ⟨T, c', oc, vc, tq, x1, y1, y2, y3, y4⟩, S, cy, cells⟩ := R.openClo hd q
  obtain ⟨fl, es, hFl, hq2, rfl, hcl, rfl⟩ := hF (names.zip cs)
  have hvs : pn.length = vs.length := by rw [rr.length, hlen]
  have hn := zip_names (vs := vs) hvs
  have hzc : (names.zip cs).map (·.2) = cs := by rw [List.map_snd_zip]; omega
  refine wpAny_call (codeAny_call_def (fd := cloFd tm (names.zip cs) T c') (body := body) (binds := pn.zip vs) (by have := hA.depth; have : recursionLimit = 1000 := rfl; omega) x1 rfl R.nolim ⟨c', oc, vc, tq, rfl, y2, y3, y4⟩ X.body (X.bind _ _ _ s vs hvs.symm) X.cell
    (fun x m => X.par x.1 (List.of_mem_zip m).1) (fun h₀ hns hk => ?_) X.co X.gen X.kind)
  have fresh : s.heap.get? s.heap.objs.size = none := get_ge (Nat.le_refl _)
  obtain ⟨S₀, g₀⟩ := S.enter (wr := [s.heap.objs.size]) (h' := h₀) hk (fun a' m => by rw [List.mem_singleton.mp m]; exact fresh) (fun a' m => by rw [List.mem_singleton.mp m]; obtain ⟨o, _, _, e, _⟩ := hns; exact ⟨o, e⟩) (List.nodup_cons.mpr ⟨by simp, List.nodup_nil⟩)
  have hA' : AOk b (A.deeper (callEnv (cloFd tm (names.zip cs) T c') s.heap.objs.size f)) := ⟨hA.handled, by have := hA.depth; show A.depth + 1 + 2 * b ≤ 900; omega, by have := hA.units; show A.units + 3 + 20 * b ≤ 9000; omega⟩
  have csOwn : ∀ d ∈ cs, d ∈ ρ.flatten := fun d m => mem_flatten_at hr d (List.mem_cons_of_mem _ m)
  have csLive : ∀ d ∈ cs, ∃ o, s.heap.get? d = some o := fun d m => (R.apart d (mem_own (csOwn d m))).2.2
  have csNd : cs.Nodup := by
    have n := S.nodup
    have n2 := (List.nodup_append.mp n).2.1
    exact (List.nodup_append.mp n2).1
  have RF : RelF c.K ⟨callEnv (cloFd tm (names.zip cs) T c') s.heap.objs.size f, ln, names.zip cs⟩ ((ρ.open1 i f cs).enter [s.heap.objs.size]) ⟨li.map fun o => o.bind fun i => ps[i]?, vals, st.set i (.fn tm (names.zip cs))⟩ h₀ := by
    refine ⟨S₀, ⟨_, hns, fun j x hx => ?_, fun x hx => ?_⟩, fun j x a' e => ?_, fun a' m => ?_, ?_⟩
    · rw [lookup_reverse (by rw [hn]; exact X.nd)]
      have : (li.map fun o => o.bind fun i => ps[i]?)[j]? = some ((pn.idxOf? x).bind fun i => ps[i]?) := by
        rw [List.getElem?_map, ← hli, List.getElem?_map, hx]; rfl
      rw [this]
      exact ((rvs_zip_lookup rr hvs x).carry cy).carry g₀
    · rw [lookup_reverse (by rw [hn]; exact X.nd), lookup_none_of (by rintro ⟨p1, p2⟩ hp rfl; exact hx (X.sub _ (List.of_mem_zip hp).1))]
    · have hcj : cs[j]? = some a' := by
        replace e : (names.zip cs)[j]? = some (x, a') := e
        have := congrArg (Option.map (·.2)) e
        rw [← List.getElem?_map, hzc] at this
        exact this
      obtain ⟨u, ic, rv⟩ := cells j a' hcj
      exact ⟨u, ic.keeps hk, rv.carry g₀⟩
    · replace m : a' ∈ s.heap.objs.size :: (names.zip cs).map (·.2) := m
      rw [hzc] at m
      show a' ∈ [s.heap.objs.size] ++ (cs ++ ρ.rsv)
      rcases List.mem_cons.mp m with rfl | m
      · exact List.mem_cons_self
      · exact List.mem_append_right _ (List.mem_append_left _ m)
    · show (s.heap.objs.size :: (names.zip cs).map (·.2)).Nodup
      rw [hzc, List.nodup_cons]
      refine ⟨fun m => ?_, csNd⟩
      obtain ⟨o, e⟩ := csLive _ m
      rw [fresh] at e; (first | obtain ⟨rfl, rfl⟩ := spr e | exact (nos e).elim | obtain rfl := Option.some.inj e | cases e)
  refine wpAny_mono ((D cs T c' s.heap.objs.size f l.1).run _ hA' _ { s with heap := h₀, toks := s.toks + (pn.zip vs).length } _ fl es hFl RF) (fun x s' z => ?_) fun _ _ z => z.elim
  obtain ⟨ρ₂, R₂, g₂, sm, rf⟩ := z
  obtain ⟨e₂, r₂⟩ := ρ₂
  have hr2 : r₂ = [s.heap.objs.size] ++ (cs ++ ρ.rsv) := g₂.rsv
  subst hr2
  obtain ⟨S₃, cy₃⟩ := RelS.leave (ρ := ⟨e₂, cs ++ ρ.rsv⟩) (wr := [s.heap.objs.size]) (h' := s'.heap) R₂.s fun a o e _ => e
  have hi : i < ρ.ents.length := (List.getElem?_eq_some_iff.mp hr).1
  obtain ⟨t, ht⟩ := g₂.pre
  replace ht : ρ.ents.set i [f] ++ t = e₂ := ht
  have he2 : e₂[i]? = some [f] := by
    rw [← ht, List.getElem?_append_left (by rw [List.length_set]; exact hi), List.getElem?_set_self hi]
  obtain ⟨S₄, cy₄⟩ := S₃.closeClo (r := ρ.rsv) (vals := es.cel) (List.Perm.refl _) hq2 he2 ⟨l.1, by rw [hcl]; exact l.2⟩ fun j d hd => by
    have hx : ∃ x, (names.zip cs)[j]? = some (x, d) := by
      have hj : j < cs.length := (List.getElem?_eq_some_iff.mp hd).1
      refine ⟨names[j]'(by omega), ?_⟩
      rw [List.getElem?_zip_eq_some]
      exact ⟨List.getElem?_eq_getElem (by omega), hd⟩
    obtain ⟨x, hx⟩ := hx
    obtain ⟨u, ic, rv⟩ := R₂.c j x d hx
    exact ⟨u, ic, rv.carry cy₃⟩
  have hset : e₂.set i (f :: cs) = ρ.ents ++ t := by
    rw [← ht, List.set_append_left _ _ (by rw [List.length_set]; exact hi), List.set_set]
    congr 1
    apply List.ext_getElem?
    intro j
    by_cases hj : i = j
    · subst hj; rw [List.getElem?_set_self hi, hr]
    · rw [List.getElem?_set_ne hj]
  have sameFlat : ∀ a, a ∈ (ρ.ents.set i [f]).flatten → a ∈ ρ.flatten := fun a m => by
    obtain ⟨p, q, h1, h2⟩ := flatten_set (bs := [f]) hr
    rw [h2] at m
    show a ∈ ρ.ents.flatten
    rw [h1]
    simp only [List.mem_append, List.mem_cons, List.not_mem_nil, or_false] at m ⊢
    rcases m with m | m | m
    · exact .inl m
    · exact .inr (.inl (.inl m))
    · exact .inr (.inr m)
  refine ⟨⟨e₂.set i (f :: cs), ρ.rsv⟩, S₄, ⟨fun a o e _ nr => ?_, ?_, rfl, fun a m => ?_⟩, ⟨sm.1, sm.2.1, sm.2.2⟩, ?_⟩
  · refine g₂.keep a o (hk a o e) (fun m => ?_) fun m => nr (sameFlat a m)
    replace m : a ∈ s.heap.objs.size :: (names.zip cs).map (·.2) := m
    rw [hzc] at m
    rcases List.mem_cons.mp m with rfl | m
    · rw [fresh] at e; (first | obtain ⟨rfl, rfl⟩ := spr e | exact (nos e).elim | obtain rfl := Option.some.inj e | cases e)
    · exact nr (csOwn a m)
  · show ρ.ents <+: e₂.set i (f :: cs)
    rw [hset]; exact List.prefix_append ..
  · have hm : a ∈ ρ.flatten ∨ a ∈ e₂.flatten := by
      replace m : a ∈ (e₂.set i (f :: cs)).flatten := m
      rw [hset, List.flatten_append] at m
      rcases List.mem_append.mp m with m | m
      · exact .inl m
      · right; rw [← ht, List.flatten_append]; exact List.mem_append_right _ m
    rcases hm with m | m
    · exact .inl m
    · rcases g₂.new a m with z | z | z
      · exact .inl (sameFlat a z)
      · replace z : a ∈ s.heap.objs.size :: (names.zip cs).map (·.2) := z
        rw [hzc] at z
        rcases List.mem_cons.mp z with rfl | z
        · exact .inr (.inr fresh)
        · exact .inl (csOwn a z)
      · refine .inr (.inr ?_)
        cases q : s.heap.get? a with
        | none => rfl
        | some o =>
          have z' : h₀.get? a = none := z
          rw [hk a o q] at z'; cases z'
  · cases rf with
    | next => exact .none
    | brk => exact .none
    | cont => exact .none
    | ret r => exact (r.carry cy₃).carry cy₄
end
end Mine
end
section
set_option Elab.async false
set_option maxRecDepth 100000
set_option linter.unusedVariables false
set_option linter.unusedSimpArgs false
namespace Mine
open PySem PySem.Calls PySem.W PyProof.Rows
structure CodeAt (K : Frag) (cc P : Addr) : Prop where
  ex : ∃ o vs file tf flags tg inF text tt, P8 (K.lookup cc = some o) (o.cls = .type "code") (o.data = .fields vs) (vs[11]? = some (.ref P)) (vs[18]? = some (.str file tf)) (vs[7]? = some (.int flags tg)) (vs[9]? = some (.bool inF)) (vs[10]? = some (.int text tt))
  ne : cc ≠ P
theorem getD_of {vs : Array Value} {i : Nat} {v : Value} (h : vs[i]? = some v) : vs.getD i .none = v := by
  rw [Array.getD_eq_getD_getElem?, h]; rfl
theorem CodeAt.at {K : Frag} {cc P : Addr} {h : Heap} {ps : Array Value} (X : CodeAt K cc P) (k : K.In h) (hp : h.get? P = some { cls := .none, data := .fields ps }) (t : TriplesOk ps.toList) : h.IsCode cc P ps ∧ h.TableAt cc P ps := by
  obtain ⟨⟨o, vs, file, tf, flags, tg, inF, text, tt, e0, e1, e2, e3, e4, e5, e6, e7⟩, ne⟩ := X
  exact ⟨⟨o, vs, file, tf, flags, tg, inF, text, tt, _, k _ _ e0, e2, getD_of e3, getD_of e4, getD_of e5, getD_of e6, getD_of e7, hp, rfl, t, ne⟩, ⟨o, vs, k _ _ e0, e1, e2, e3⟩, hp⟩
noncomputable def tmOf (name q : Str) (args : Arguments) (body : List Stmt) (scope : Scope) (pm : Value) : FuncData :=
  { name := name, qualname := q, params := args, body := .stmts body, scope := scope, globals := mainGlobals, closure := [], defaults := .none, kwdefaults := .none, pyModule := pm, builtins := builtinsNs }
section
variable {c : Ctx0} {b : Nat} {f : FI}
open Classical in
noncomputable def defE (j it : Nat) (P : Addr) (pos : Pos) (q : Str) (tm : FuncData) (cl : List (Str × Addr)) : FM PF := fun es => match es.st[it]? with
  | some (.tab P' pos' q') => if P' = P ∧ pos' = pos ∧ q' = q then (bindE (setL j (.ref es.st.length)) fun _ => pureE .next) { es with st := es.st ++ [.fn tm cl] } else none
  | _ => none
theorem den_fundef {name q : Str} {args : Arguments} {body : List Stmt} {scope : Scope} {pos : Pos} {j it : Nat} {P cc : Addr} {cl : List (Str × Addr)} {pm : Value} (ok : f.Ok) (hx : f.ln[j]? = some name)
    (h1 : args.defaults = []) (h2 : args.kw_defaults = []) (h3 : args.kwonlyargs = []) (h4 : annTrees args none f.env = []) (hq : qualnameIn f.env name name = q) (hcl : closureFor scope f.env = pure cl) (hne : cl.isEmpty = false)
    (hcode : f.env.code = .ref cc) (X : CodeAt c.K cc P) (hpm : nsIn c.K mainGlobals "__name__" = some (some pm)) (hb : ∀ M h, c.K.In h → Looks M h (builtinsFor mainGlobals builtinsNs) builtinsNs) (hdoc : docOf body = none) :
    Den c b f RFl (exec (.FunctionDef name args body [] none [] scope none name pos) f.env) (defE j it P pos q (tmOf name q args body scope pm) cl) := by
  constructor
  intro A hA ρ s es y es' e R
  unfold defE at e
  split at e
  rotate_left
  · cases e
  rename_i P' pos' q' qt
  have e' := ite_then e
  clear e
  obtain ⟨⟨r1, r2, r3⟩, e⟩ := e'
  subst r1 r2 r3
  obtain ⟨_, es₁, e1, e2⟩ := bindE_some e
  cases e2
  have hit : it < ρ.ents.length := by rw [R.s.len]; exact (List.getElem?_eq_some_iff.mp qt).1
  obtain ⟨as, has⟩ : ∃ as, ρ.ents[it]? = some as := ⟨_, List.getElem?_eq_getElem hit⟩
  obtain ⟨ps, rfl, hP, tri, hor⟩ := R.s.objs it _ _ has qt
  rw [exec_def, hq, defaultsOf_eq, h1, h2, h4]
  refine wpAny_bind (wpAny_standAt (wpAny_bind (wpAny_holding ?_)))
  refine wpAny_bind (wpAny_pure ?_)
  refine wpAny_bind (wpAny_holding (wpAny_pure ?_))
  refine wpAny_holding ?_
  refine wpAny_bind (wpAny_pure ?_)
  rw [makeFunction_eq, h3]
  refine wpAny_bind (wpAny_pure ?_)
  refine wpAny_bind (wpAny_pure ?_)
  refine wpAny_bind (wpAny_pure ?_)
  unfold makeTail
  rw [hcl]
  refine wpAny_bind (wpAny_pure ?_)
  rw [hne]
  refine wpAny_bind (wpAny_newTextTuple ?_)
  rw [ok.glob, ok.blt]
  dsimp only
  rw [hdoc]
  dsimp only
  have kT : ∀ (o : Obj) a o', s.heap.get? a = some o' → (s.heap.push o).get? a = some o' := fun o a o' e => Heap.get?_push_of_some _ e
  have fin : ∀ (c' : Addr) (oc : Obj) (vc : Array Value) (t : Tok) (s₂ : Shared) (T : Value) (Q : Flow → Shared → Prop), c' ∉ ρ.own → s₂.heap.get? c' = some oc → oc.data = .fields vc → vc[1]? = some (.str q' t) → RelS c.K ρ es.st s₂.heap → Grow [] ρ s.heap ρ s₂.heap → Same s s₂ →
      wpAny (model c.prog c.w) A (do
        let bl ← builtinsFor mainGlobals builtinsNs
        let mo ← nsGet mainGlobals "__name__"
        let doc ← (pure .none : Sem Value)
        newObj (.type "function") (.func { name := name, qualname := q', params := args, body := .stmts body, scope := scope, globals := mainGlobals, closure := cl, closureTuple := T, code := .ref c', builtins := bl, defaults := .none, kwdefaults := .none, annotations := none, pyModule := mo.getD .none, doc := doc })) (fun fv s₃ => wpAny (model c.prog c.w) A (do standAt pos'; bindName f.env name fv; pure Flow.next) (Ends c.K f RFl ρ s .next es') noE s₃) noE s₂ := by
    intro c' oc vc t s₂ T Q nc hc1 hc2 hc3 S g sm
    refine wpAny_bind ((hb _ _ S.top).here ?_)
    refine wpAny_bind ((looks_nsIn S.top hpm).here ?_)
    refine wpAny_bind (wpAny_pure (wpAny_newObj_type ?_ (by size_fits)))
    have k : ∀ (o : Obj) a o', s₂.heap.get? a = some o' → (s₂.heap.push o).get? a = some o' := fun o a o' e => Heap.get?_push_of_some _ e
    have hget : ∀ o : Obj, o.isFreed = false → (s₂.heap.push o).get? s₂.heap.objs.size = some o := fun o h => Heap.get?_push_size _ h
    obtain ⟨S₃, g₃⟩ := S.push (as := [s₂.heap.objs.size]) (ao := .fn (tmOf name q' args body scope pm) cl) (k _) (fun a m => by rw [List.mem_singleton.mp m]; exact get_ge (Nat.le_refl _)) (fun a m => by rw [List.mem_singleton.mp m]; exact ⟨_, hget _ rfl⟩) (List.nodup_cons.mpr ⟨by simp, List.nodup_nil⟩)
      fun g => ⟨_, rfl, T, c', oc, vc, t, hget _ rfl, (g.carry noFr).keep _ _ hc1 nc |>.2, k _ _ _ hc1, hc2, hc3⟩
    have gg := g.trans g₃
    have R₃ := R.ofS S₃ gg
    refine wpAny_bind (wpAny_standAt (wpAny_bind (wpAny_bindName ?_)))
    refine wpAny_mono ((denst_local (c := c) (b := b) ok hx).run A hA _ _ _ (.ref s₂.heap.objs.size) (.ref es.st.length) () _ e1 (.ref (by rw [← S.len]; exact headAt_push)) R₃) (fun _ s₄ z => ?_) fun _ _ z => z
    obtain ⟨ρ₄, R₄, g₄, q₄, _⟩ := z
    exact wpAny_pure ⟨ρ₄, R₄, (gg.wider (by simp)).trans g₄, sm.trans (⟨q₄.1, q₄.2.1, q₄.2.2⟩), .next⟩
  have own_lt : ∀ a ∈ ρ.own, a < s.heap.objs.size := fun a m => by obtain ⟨_, _, o, e⟩ := R.s.apart a m; exact Heap.lt_size e
  rcases hor with hnone | ⟨c', oc, vc, t, nc, ham, hc1, hc2, hc3⟩
  · obtain ⟨S₁, g₁⟩ := R.s.ext (kT { cls := .type "tuple", data := .seq ((cl.mergeSort fun a b => a.1.cps.toList ≤ b.1.cps.toList).map (.ref ·.2)).toArray })
    obtain ⟨ic, it'⟩ := X.at S₁.top (kT _ _ _ hP) tri
    refine wpAny_bind (wpAny_functionCodeX (pos := pos') hcode ic it' hnone fun c' h' tk hx' hge hlt ic' cr tb _ => ?_)
    obtain ⟨c2, oc, vc, t, ec, hc1, hc2, hc3⟩ := cr
    cases ec
    have hge' : s.heap.objs.size ≤ c' := by
      have := hge
      rw [show ({ s with heap := s.heap.push _ } : Shared).heap.objs.size = s.heap.objs.size + 1 from Heap.size_push ..] at this
      exact Nat.le_of_succ_le this
    have nc : c' ∉ ρ.own := fun m => absurd (own_lt _ m) (Nat.not_lt.mpr hge')
    obtain ⟨S₂, g₂⟩ := S₁.put (i := it) (ao' := .tab P' pos' q') (h' := h') has (fun a o e na => hx' a o (by simpa using na) e) (fun a m => by rw [List.mem_singleton.mp m]; exact ⟨_, tb.2⟩) fun g =>
      ⟨_, rfl, tb.2, by
        obtain ⟨o, vs, file, tf, flags, tg, inF, text, tt, op, a, r1, r2, r3, r4, r5, r6, bb, bd, tr, _⟩ := ic'
        exact tr, .inr ⟨c', oc, vc, t, nc, by
        rw [show (ps ++ #[rawInt pos'.line, rawInt pos'.col, Value.ref c']).toList = ps.toList ++ [rawInt pos'.line, rawInt pos'.col, .ref c'] by simp, codeAmong_snoc _ tri hnone], hc1, hc2, hc3⟩⟩
    have hst : es.st.set it (.tab P' pos' q') = es.st := by
      apply List.ext_getElem?
      intro k
      by_cases hk : it = k
      · subst hk; rw [List.getElem?_set_self (R.s.len ▸ hit), qt]
      · rw [List.getElem?_set_ne hk]
    rw [hst] at S₂
    exact fin c' oc vc t { s with heap := h', toks := tk } _ (fun _ _ => True) nc hc1 hc2 hc3 S₂ (g₁.trans g₂) ⟨rfl, rfl, rfl⟩
  · obtain ⟨S₁, g₁⟩ := R.s.ext (kT { cls := .type "tuple", data := .seq ((cl.mergeSort fun a b => a.1.cps.toList ≤ b.1.cps.toList).map (.ref ·.2)).toArray })
    obtain ⟨ic, _⟩ := X.at S₁.top (kT _ _ _ hP) tri
    refine wpAny_bind (wpAny_functionCode_hit (pos := pos') hcode ic ham ?_)
    exact fin c' oc vc t _ _ (fun _ _ => True) nc (kT _ _ _ hc1) hc2 hc3 S₁ g₁ ⟨rfl, rfl, rfl⟩
end
end Mine
end
section
set_option Elab.async false
set_option maxRecDepth 100000
set_option linter.unusedVariables false
set_option linter.unusedSimpArgs false
namespace Mine
open PySem PySem.Calls PySem.W PyProof.Rows
section
variable {c : Ctx0} {b : Nat}
theorem fun_defC {a : Addr} {fd : FuncData} {body : List Stmt} {names ln : List Str} {cns : List (Str × Nat)} {np : Nat} {kn : List Str} {dvs : List Value} {dps : List PV} {li ci : List (Option Nat)} {F : Addr → FM PF} {tm : FuncData} {G : List PV → SM PV}
    (X : DefK c.K a fd body names ln cns) (hdp : ∀ h ρ, RVs h ρ dvs dps) (hn : names.length = np + kn.length + dvs.length)
    (hli : ln.map names.idxOf? = li) (hci : (cns.map (·.1)).map names.idxOf? = ci)
    (hbind : ∀ s vs ws, vs.length = np → ws.length = kn.length → c.K.In s.heap → BindsTo s fd ⟨vs, kn.zip ws⟩ (names.zip (vs ++ ws ++ dvs)))
    (D : ∀ L, Den c b (FI.fn fd a ln cns L) RFl (execs body (callEnvC fd L a)) (F L))
    (hG : ∀ ps st y st', G ps st = some (y, st') → ps.length = np + kn.length ∧ ∃ ic vals, st.length ≤ ic ∧ vals.length = cns.length ∧ ∀ L, ∃ r es, P5 (F L ⟨li.map fun o => o.bind fun i => (ps ++ dps)[i]?, ci.map fun o => o.bind fun i => (ps ++ dps)[i]?, st⟩ = some (r, es)) (retOf r = y) (es.st[ic]? = some (.fn tm (cnAt cns L).reverse)) (es.cel = vals) (st' = es.st.set ic (.clo tm (cns.map (·.1)).reverse vals.reverse))) : FunK c (b + 1) (.ref a) np kn G := by
  constructor
  · intro ps st r e
    obtain ⟨y, st'⟩ := r
    exact (hG ps st y st' e).1
  intro A hA ρ s st vs ps y st' e r R
  obtain ⟨hlen, ic, vals, hic, hvals, hF⟩ := hG ps st y st' e
  obtain ⟨fl, es, q, rfl, hfn, rfl, rfl⟩ := hF s.heap.objs.size
  have hvl := r.length
  have r' : RVs s.heap ρ (vs ++ dvs) (ps ++ dps) := r.append (hdp _ _)
  have hvs : names.length = (vs ++ dvs).length := by rw [List.length_append, hvl, hlen, hn]
  have hz : vs.take np ++ vs.drop np ++ dvs = vs ++ dvs := by rw [List.take_append_drop]
  have hb := hbind s (vs.take np) (vs.drop np) (by rw [List.length_take, hvl, hlen]; omega) (by rw [List.length_drop, hvl, hlen]; omega) R.top
  rw [hz] at hb
  obtain ⟨oc, od, sl, ho⟩ := X.at_
  have hnm := zip_names hvs
  have ndb : ((names.zip (vs ++ dvs)).map (·.1)).Nodup := by rw [hnm]; exact X.nd
  refine codeAny_call_function (fd := fd) (body := body) (by have := hA.depth; have : recursionLimit = 1000 := rfl; omega) (R.top _ _ ho) rfl X.co X.gen X.body (codeRec_of R.top X.code) (hb _ _ _ _ ?_)
  rw [X.clo]
  refine wpAny_newFunctionEnv_cells X.kind (fun x m => ?_) fun env he s₁ x => ?_
  · have mx := (List.of_mem_zip m).1
    rcases X.par x.1 mx with h | h
    · exact .inl h.1
    · refine .inr ⟨h.1, ?_⟩
      rw [X.cells]
      obtain ⟨p, hp, hpx⟩ := List.mem_map.mp h.2
      have : ((cnAt cns s.heap.objs.size).map (·.1)) = cns.map (·.1) := by unfold cnAt; rw [List.map_map]; rfl
      obtain ⟨i, hi⟩ := List.mem_iff_getElem?.mp hp
      have hi' : (cnAt cns s.heap.objs.size)[i]? = some (x.1, s.heap.objs.size + p.2) := by unfold cnAt; rw [List.getElem?_map, hi, ← hpx]; rfl
      rw [lookup_of_nodup (by rw [this]; exact X.cnd) hi']; rfl
  subst he
  refine ⟨R.nolim.keeps x.toInCall.keep, codeAny_func ?_⟩
  have hcells : (callEnvC fd s.heap.objs.size a).cells = cnAt cns s.heap.objs.size := X.cells _
  have ndc : ((cnAt cns s.heap.objs.size).map (·.1)).Nodup := by
    have : ((cnAt cns s.heap.objs.size).map (·.1)) = cns.map (·.1) := by unfold cnAt; rw [List.map_map]; rfl
    rw [this]; exact X.cnd
  have hcell : ∀ i y d, (cnAt cns s.heap.objs.size)[i]? = some (y, d) → s₁.heap.IsCell d (bindC (callEnvC fd s.heap.objs.size a).kindOf (names.zip (vs ++ dvs)) (fun _ => none) y) := fun i y d hy =>
    x.cell y d (by rw [show (newEnv fd.scope s.heap.objs.size fd.globals (cellsFrom (s.heap.objs.size + 1) fd.scope.names []) (fd.qualname ++ ".<locals>.") (some a) fd.code none fd.builtins).cells = cnAt cns s.heap.objs.size from X.cells _]; exact lookup_of_nodup ndc hy)
  have habove : ∀ p ∈ cnAt cns s.heap.objs.size, s.heap.objs.size < p.2 := fun p hp => x.above p.1 p.2 (by rw [show (newEnv fd.scope s.heap.objs.size fd.globals (cellsFrom (s.heap.objs.size + 1) fd.scope.names []) (fd.qualname ++ ".<locals>.") (some a) fd.code none fd.builtins).cells = cnAt cns s.heap.objs.size from X.cells _]; exact hp)
  have hapart : (cnAt cns s.heap.objs.size).Pairwise fun x y => x.2 ≠ y.2 := by
    have := x.apart
    rw [show (newEnv fd.scope s.heap.objs.size fd.globals (cellsFrom (s.heap.objs.size + 1) fd.scope.names []) (fd.qualname ++ ".<locals>.") (some a) fd.code none fd.builtins).cells = cnAt cns s.heap.objs.size from X.cells _] at this
    exact this
  have hns := x.toInCall.ns
  have nd : (s.heap.objs.size :: (cnAt cns s.heap.objs.size).map (·.2)).Nodup := by
    rw [List.nodup_cons]
    refine ⟨fun m => ?_, ?_⟩
    · obtain ⟨p, hp, hq⟩ := List.mem_map.mp m
      have := habove p hp
      rw [hq] at this
      exact absurd this (Nat.lt_irrefl _)
    · rw [List.nodup_iff_pairwise_ne, List.pairwise_map]; exact hapart
  have fresh : ∀ d ∈ s.heap.objs.size :: (cnAt cns s.heap.objs.size).map (·.2), s.heap.get? d = none := fun d m => by
    rcases List.mem_cons.mp m with rfl | m
    · exact get_ge (Nat.le_refl _)
    · obtain ⟨p, hp, rfl⟩ := List.mem_map.mp m
      exact get_ge (Nat.le_of_lt (habove p hp))
  obtain ⟨S, g₀⟩ := R.enter (wr := s.heap.objs.size :: (cnAt cns s.heap.objs.size).map (·.2)) (h' := s₁.heap) x.toInCall.keep fresh (fun d m => by
    rcases List.mem_cons.mp m with rfl | m
    · obtain ⟨o, _, _, e, _⟩ := hns; exact ⟨o, e⟩
    · obtain ⟨p, hp, rfl⟩ := List.mem_map.mp m
      obtain ⟨i, hi⟩ := List.mem_iff_getElem?.mp hp
      obtain ⟨o, e, _⟩ := hcell i p.1 p.2 hi
      exact ⟨o, e⟩) nd
  have kLoc : ∀ y, (callEnvC fd s.heap.objs.size a).kindOf y = fd.scope.names.lookup y := fun y => rfl
  have hA' : AOk b (A.deeper (callEnvC fd s.heap.objs.size a)) := ⟨hA.handled, by have := hA.depth; show A.depth + 1 + 2 * b ≤ 900; omega, by have := hA.units; show A.units + 3 + 20 * b ≤ 9000; omega⟩
  have RF : RelF c.K (FI.fn fd a ln cns s.heap.objs.size) (ρ.enter (s.heap.objs.size :: (cnAt cns s.heap.objs.size).map (·.2))) ⟨li.map fun o => o.bind fun i => (ps ++ dps)[i]?, ci.map fun o => o.bind fun i => (ps ++ dps)[i]?, st⟩ s₁.heap := by
    refine ⟨S, ⟨_, hns, fun i y hy => ?_, fun y hy => ?_⟩, fun i y d hy => ?_, fun d m => List.mem_append_left _ m, nd⟩
    · replace hy : ln[i]? = some y := hy
      have hk := X.loc y (List.mem_of_getElem? hy)
      have : (li.map fun o => o.bind fun i => (ps ++ dps)[i]?)[i]? = some ((names.idxOf? y).bind fun i => (ps ++ dps)[i]?) := by
        rw [List.getElem?_map, ← hli, List.getElem?_map, hy]; rfl
      rw [this]
      rw [show bindL _ _ _ y = _ from bindL_loc ndb hk]
      exact (rvs_zip_lookup r' hvs y).carry g₀
    · refine bindL_out ndb fun hk => ?_
      rw [lookup_none_of]
      rintro ⟨p1, p2⟩ hp rfl
      rcases X.par p1 (List.of_mem_zip hp).1 with h | h
      · exact hy h.2
      · have hk' : fd.scope.names.lookup p1 = some .local := hk
        rw [h.1] at hk'; cases hk'
    · have hc := hcell i y d hy
      have hy' : ∃ k, cns[i]? = some (y, k) := by
        replace hy : (cnAt cns s.heap.objs.size)[i]? = some (y, d) := hy
        unfold cnAt at hy
        rw [List.getElem?_map] at hy
        obtain ⟨p, e1, e2⟩ := Option.map_eq_some_iff.mp hy
        obtain ⟨p1, p2⟩ := p
        (first | obtain ⟨rfl, rfl⟩ := spr e2 | exact (nos e2).elim | obtain rfl := Option.some.inj e2 | cases e2)
        exact ⟨p2, e1⟩
      obtain ⟨k, hy'⟩ := hy'
      have hk := X.cel _ (List.mem_of_getElem? hy')
      refine ⟨_, hc, ?_⟩
      have : (ci.map fun o => o.bind fun i => (ps ++ dps)[i]?)[i]? = some ((names.idxOf? y).bind fun i => (ps ++ dps)[i]?) := by
        rw [List.getElem?_map, ← hci, List.getElem?_map, List.getElem?_map, hy']; rfl
      rw [this, show bindC _ _ _ y = _ from bindC_cel ndb hk]
      exact (rvs_zip_lookup r' hvs y).carry g₀
  have kk := x.toInCall.keep
  obtain ⟨h₁, tk, rfl⟩ := x.toInCall.same
  refine wpAny_mono ((D s.heap.objs.size).run _ hA' _ _ _ fl es q RF) (fun fv' s' z => ?_) fun _ _ z => z.elim
  obtain ⟨ρ', R', g, sm, rf⟩ := z
  obtain ⟨e₂, r₂⟩ := ρ'
  have hr2 : r₂ = s.heap.objs.size :: (cnAt cns s.heap.objs.size).map (·.2) ++ ρ.rsv := g.rsv
  subst hr2
  obtain ⟨S₃, cy₃⟩ := RelS.leave (ρ := ⟨e₂, (cnAt cns s.heap.objs.size).map (·.2) ++ ρ.rsv⟩) (wr := [s.heap.objs.size]) (h' := s'.heap) R'.s fun a o e _ => e
  obtain ⟨t, ht⟩ := g.pre
  replace ht : ρ.ents ++ t = e₂ := ht
  have hie : ic < e₂.length := by
    have := R'.s.len
    rw [show e₂.length = es.st.length from this]
    exact (List.getElem?_eq_some_iff.mp hfn).1
  obtain ⟨as, has⟩ : ∃ as, e₂[ic]? = some as := ⟨_, List.getElem?_eq_getElem hie⟩
  obtain ⟨f, rfl, fo⟩ := S₃.objs ic _ _ has hfn
  have hzip : (cns.map (·.1)).reverse.zip ((cnAt cns s.heap.objs.size).map (·.2)).reverse = (cnAt cns s.heap.objs.size).reverse := by
    unfold cnAt
    rw [List.map_map, ← List.map_reverse, ← List.map_reverse, ← List.map_reverse, List.zip_map']
    rfl
  obtain ⟨S₄, cy₄⟩ := S₃.closeClo (tm := tm) (names := (cns.map (·.1)).reverse) (cs := ((cnAt cns s.heap.objs.size).map (·.2)).reverse) (r := ρ.rsv) (vals := es.cel.reverse) (List.Perm.append_right _ (List.reverse_perm _).symm) (by rw [hzip]; exact hfn) has ⟨by simp [cnAt], by simp [hvals]⟩ fun j d hd => by
    have hj : j < ((cnAt cns s.heap.objs.size).map (·.2)).length := by
      have := (List.getElem?_eq_some_iff.mp hd).1
      simpa using this
    rw [List.getElem?_reverse hj, List.getElem?_map] at hd
    obtain ⟨p, hp, hpd⟩ := Option.map_eq_some_iff.mp hd
    obtain ⟨x, d'⟩ := p
    cases hpd
    obtain ⟨u, ic', rv⟩ := R'.c _ x d' hp
    refine ⟨u, ic', ?_⟩
    have hl : ((cnAt cns s.heap.objs.size).map (·.2)).length = es.cel.length := by rw [hvals]; simp [cnAt]
    rw [List.getElem?_reverse (by rw [← hl]; exact hj), ← hl]
    exact rv.carry cy₃
  have hicρ : ρ.ents.length ≤ ic := by rw [R.len]; exact hic
  have flat : ∀ a, a ∈ (e₂.set ic (f :: ((cnAt cns s.heap.objs.size).map (·.2)).reverse)).flatten → a ∈ e₂.flatten ∨ a ∈ (cnAt cns s.heap.objs.size).map (·.2) := fun a m => by
    obtain ⟨p, q, h1, h2⟩ := flatten_set (bs := f :: ((cnAt cns s.heap.objs.size).map (·.2)).reverse) has
    rw [h2] at m
    rw [h1]
    simp only [List.mem_append, List.mem_cons, List.not_mem_nil, or_false] at m ⊢
    rcases m with m | (m | m) | m
    · exact .inl (.inl m)
    · exact .inl (.inr (.inl m))
    · exact .inr (List.mem_reverse.mp m)
    · exact .inl (.inr (.inr m))
  refine ⟨⟨e₂.set ic (f :: ((cnAt cns s.heap.objs.size).map (·.2)).reverse), ρ.rsv⟩, S₄, ⟨fun a o e _ nr => g.keep a o (kk a o e) (fun m => by rw [fresh a m] at e; (first | obtain ⟨rfl, rfl⟩ := spr e | exact (nos e).elim | obtain rfl := Option.some.inj e | cases e)) nr, ?_, rfl, fun a m => ?_⟩, ⟨sm.1, sm.2.1, sm.2.2⟩, ?_⟩
  · show ρ.ents <+: e₂.set ic _
    rw [← ht, List.set_append_right _ _ hicρ]
    exact List.prefix_append ..
  · rcases flat a m with z | z
    · rcases g.new a z with z | z | z
      · exact .inl z
      · exact .inr (.inr (fresh a z))
      · refine .inr (.inr ?_)
        cases q : s.heap.get? a with
        | none => rfl
        | some o =>
          have z' : h₁.get? a = none := z
          rw [kk a o q] at z'; cases z'
    · exact .inr (.inr (fresh a (List.mem_cons_of_mem _ z)))
  · cases rf with
    | next => exact .none
    | brk => exact .none
    | cont => exact .none
    | ret r => exact (r.carry cy₃).carry cy₄
end
end Mine
end
section
set_option Elab.async false
set_option maxRecDepth 100000
set_option linter.unusedVariables false
set_option linter.unusedSimpArgs false
namespace Mine
open PySem PySem.Calls PySem.W PyProof.Rows
theorem sup_mro : mroOf (.type "super") = pure [.type "super", .type "object"] := by rw [mroOf_type]; kernel_rfl
theorem sup_new : typeLookup (.type "super") "__new__" = pure (some (.builtin "super.__new__")) := by rw [typeLookup_type, builtinLookup_eq_fast]; kernel_rfl
theorem sup_init : Slot "super" "__init__" "super.__init__" := .of (owner := "super") (n := "__init__") (by rw [typeLookup_type, builtinLookup_eq_fast]; kernel_rfl) (by decide +kernel) (by decide +kernel) (by decide +kernel)
  (by first | exact .inl (by decide +kernel) | exact .inr (by decide +kernel)) (by rw [isSubtype_type]; kernel_rfl)
theorem sup_get : Slot "super" "__getattribute__" "super.__getattribute__" := .of (owner := "super") (n := "__getattribute__") (by rw [typeLookup_type, builtinLookup_eq_fast]; kernel_rfl) (by decide +kernel) (by decide +kernel) (by decide +kernel)
  (by first | exact .inl (by decide +kernel) | exact .inr (by decide +kernel)) (by rw [isSubtype_type]; kernel_rfl)
theorem sup_called : TypeCalled "super" "super.__new__" "super.__init__" :=
  { notType := by decide +kernel, canCreate := by decide +kernel, mro := ⟨_, _, sup_mro⟩, made := madeBy_type sup_mro sup_new (by decide +kernel), plain := by decide +kernel, sub := by rw [isSubtype_type]; kernel_rfl, init := sup_init }
theorem sup_newOk (a b : Value) : checkBuiltinCall "super.__new__" ⟨[.type "super", a, b], []⟩ = pure () := by kernel_rfl
theorem sup_initOk (o a b : Value) : argsOk "super.__init__" ⟨[o, a, b], []⟩ := by unfold argsOk; kernel_rfl
theorem sup_getOk (o a : Value) : argsOk "super.__getattribute__" ⟨[o, a], []⟩ := by unfold argsOk; kernel_rfl
theorem sup_newE : entryFor table "super.__new__" = some Builtin.«super.__new__» := entryFor_of_tree (by kernel_rfl)
theorem sup_initE : entryFor table "super.__init__" = some Builtin.«super.__init__» := entryFor_of_tree (by kernel_rfl)
theorem sup_getE : entryFor table "super.__getattribute__" = some Builtin.«super.__getattribute__» := entryFor_of_tree (by kernel_rfl)
theorem sup_newP : plainId "super.__new__" = true := by decide +kernel
theorem sup_getC : (Manifest.canonical "super.__getattribute__" != "object.__getattribute__") = true := by decide +kernel
noncomputable abbrev supObj (D x C : Addr) : Obj := { cls := .type "super", data := .fields #[.ref D, .ref x, .ref C] }
section
variable {prog : Program} {w : World} {A : Around} {E : Value → Shared → Prop} {s : Shared} {K : Frag} {D x C : Addr} {cdD : ClassData} {ox : Obj}
theorem isType_K {Q : Bool → Shared → Prop} (X : K.In s.heap) (hc : clsIn K D = some cdD) (h : Q true s) : wpAny (model prog w) A (isType (.ref D)) Q E s := by
  unfold clsIn at hc
  split at hc
  · rename_i oc od cd sl ho
    unfold isType loadHead
    refine wpAny_bind (wpAny_loadPart (X _ _ ho) ?_)
    exact wpAny_pure h
  · cases hc
theorem isType_not {Q : Bool → Shared → Prop} (hx : s.heap.get? x = some ox) (hn : notCls ox = true) (h : Q false s) : wpAny (model prog w) A (isType (.ref x)) Q E s := by
  unfold isType loadHead
  refine wpAny_bind (wpAny_loadPart hx ?_)
  obtain ⟨a, b, dt, d⟩ := ox
  cases dt <;> first | exact wpAny_pure h | cases hn
theorem sup_init_run {so : Addr} {Q : Fin → Shared → Prop} (X : K.In s.heap) (hc : clsIn K D = some cdD) (hx : s.heap.get? x = some ox) (hxc : ox.cls = .ref C) (hn : notCls ox = true) (hs : mroIn K C (.ref D) = some true)
    (h0 : s.heap.get? so = some { cls := .type "super", data := .fields #[.none, .none, .none] })
    (h : ∀ h', h'.get? so = some (supObj D x C) → (∀ a o, a ≠ so → s.heap.get? a = some o → h'.get? a = some o) → Q (.done (.ret .none)) { s with heap := h' }) : wpAny (model prog w) A (Builtin.«super.__init__» ⟨[.ref so, .ref D, .ref x], []⟩) Q E s := by
  unfold Builtin.«super.__init__»
  refine wpAny_bind (m := noKeywords "super" _) (wpAny_of_eq (a := ()) rfl ?_)
  refine wpAny_bind (wpAny_pure ?_)
  refine wpAny_bind (isType_K X hc ?_)
  refine wpAny_bind ?_
  refine wpAny_bind (isType_not hx hn ?_)
  have ht : wpAny (model prog w) A (typeOf (.ref x)) (fun v s' => v = .ref C ∧ s' = s) E s := by
    simp only [typeOf]
    exact wpAny_bind (wpAny_load hx (wpAny_pure ⟨hxc, rfl⟩))
  refine wpAny_bind (wpAny_mono ht (fun v s' z => ?_) fun _ _ z => z)
  obtain ⟨rfl, rfl⟩ := z
  refine wpAny_bind ((looks_mroIn X hs).here ?_)
  refine wpAny_pure ?_
  refine wpAny_bind (wpAny_setField h0 rfl (by simp) ?_)
  have h1 := get_upd (f := Obj.mapFields (·.setIfInBounds 0 (.ref D))) h0 rfl
  refine wpAny_bind (wpAny_setField h1 rfl (by simp) ?_)
  have h2 := get_upd (f := Obj.mapFields (·.setIfInBounds 1 (.ref x))) h1 rfl
  refine wpAny_bind (wpAny_setField h2 rfl (by simp) ?_)
  have h3 := get_upd (f := Obj.mapFields (·.setIfInBounds 2 (.ref C))) h2 rfl
  refine wpAny_pure (h _ h3 fun a o na e => ?_)
  exact (((Heap.SameBut.update ..).2 a na).trans (((Heap.SameBut.update ..).2 a na).trans ((Heap.SameBut.update ..).2 a na))).trans e
theorem made_by_type {T newId initId : String} {Bi : Builtin} {as : List Value} {Mid Q : Value → Shared → Prop} (tc : TypeCalled T newId initId) (entry : entryFor table initId = some Bi)
    (test : ∀ {Q' : Unit → Shared → Prop} {E' : Value → Shared → Prop}, Q' () s → wpAny (model prog w) A.in1 (checkTypeCall T ⟨as, []⟩) Q' E' s)
    (first : codeAny (model prog w) A.in1 (.call (.builtin newId) ⟨.type T :: as, []⟩) (wants Mid E) s)
    (second : ∀ v s₁, Mid v s₁ → s₁.TypeIs v T ∧ argsOk initId ⟨v :: as, []⟩ ∧ wpAny (model prog w) A.in1.in1 (Bi ⟨v :: as, []⟩) (fun fin s' => fin = .done (.ret .none) ∧ Q v s') E s₁) :
    wpAny (model prog w) A (call (.type T) as) Q E s := by
  have a1 := tc.notType
  have a2 := tc.canCreate
  have a3 := tc.made
  have a4 := tc.sub
  obtain ⟨top, rest, a5⟩ := tc.mro
  refine wpAny_call (codeAny_of_tree ?_)
  show wpAny _ _ (callAny (.type T) _) _ _ _
  refine wpAny_pure ⟨Code.quiet_builtin _ (by decide +kernel), codeAny_builtin F.entry_type_call ?_⟩
  rw [Around.under_plain (weight_type_call_type T as []) (units_type_call_type T as [])]
  repeat (any_goals (first | assumption | (with_reducible refine test ?_) | wp_step))
  refine codeAny_mono first fun r s₁ z => ?_
  cases r with
  | error e => exact z
  | ok fl => ?_
  cases fl with
  | next => exact z.elim
  | brk => exact z.elim
  | cont => exact z.elim
  | ret v => ?_
  obtain ⟨b1, b2, b3⟩ := second _ _ z
  have b4 := tc.init.lookup
  have b5 := tc.init.bind v
  repeat (any_goals (first | assumption | wp_step))
  refine codeAny_mono (codeAny_call_builtin (R := wants (fun r s₂ => r = .none ∧ Q v s₂) E) tc.init.plain entry (tc.init.check _ _ _ _ _ _ _ _ b1 b2 (wpAny_mono b3 (fun fin s' z => ?_) fun _ _ z => z))) fun r₂ s₂ z₂ => ?_
  · obtain ⟨rfl, z⟩ := z
    exact ⟨rfl, z⟩
  · rcases r₂ with e | (v₂ | _ | _ | _) <;> first | exact z₂ | exact z₂.elim | skip
    obtain ⟨rfl, z₃⟩ := z₂
    repeat (any_goals (first | assumption | wp_step))
theorem sup_made {Q : Value → Shared → Prop} (X : K.In s.heap) (hc : clsIn K D = some cdD) (hx : s.heap.get? x = some ox) (hxc : ox.cls = .ref C) (hn : notCls ox = true) (hs : mroIn K C (.ref D) = some true)
    (h : ∀ h', h'.get? s.heap.objs.size = some (supObj D x C) → (∀ a o, s.heap.get? a = some o → h'.get? a = some o) → Q (.ref s.heap.objs.size) { s with heap := h' }) : wpAny (model prog w) A (call (.type "super") [.ref D, .ref x]) Q E s := by
  obtain ⟨hp, g, d, tk, os⟩ := s
  have up : ∀ a o, hp.get? a = some o → (hp.push { cls := .type "super", data := .fields #[.none, .none, .none] }).get? a = some o := fun a o e => Heap.get?_push_of_some _ e
  have h0 : (hp.push { cls := .type "super", data := .fields #[.none, .none, .none] }).get? hp.objs.size = some { cls := .type "super", data := .fields #[.none, .none, .none] } := Heap.get?_push_size _ rfl
  refine made_by_type (Mid := fun v s₁ => v = .ref hp.objs.size ∧ s₁ = ⟨hp.push { cls := .type "super", data := .fields #[.none, .none, .none] }, g, d, tk, os⟩) sup_called sup_initE (fun hq => ?_) (codeAny_call_builtin sup_newP sup_newE (wpAny_of_eq (sup_newOk _ _) ?_)) fun v s₁ z => ?_
  · unfold checkTypeCall
    refine wpAny_bind (isType_K X hc ?_)
    exact wpAny_of_eq (a := ()) (by kernel_rfl) hq
  · unfold Builtin.«super.__new__» newFields
    exact wpAny_bind (wpAny_newObj_type (wpAny_pure ⟨rfl, rfl⟩))
  · obtain ⟨rfl, rfl⟩ := z
    exact ⟨⟨_, h0, rfl⟩, sup_initOk _ _ _, sup_init_run (Frag.In.keeps X up) hc (up _ _ hx) hxc hn hs h0 fun h' e k => ⟨rfl, h h' e fun a o ea => k a o (Nat.ne_of_lt (Heap.lt_size ea)) (up a o ea)⟩⟩
end
end Mine
end
section
set_option Elab.async false
set_option maxRecDepth 100000
set_option linter.unusedVariables false
set_option linter.unusedSimpArgs false
namespace Mine
open PySem PySem.Calls PySem.W PyProof.Rows
theorem md_get : Slot "method_descriptor" "__get__" "method_descriptor.__get__" := .of (owner := "method_descriptor") (n := "__get__") (by rw [typeLookup_type, builtinLookup_eq_fast]; kernel_rfl) (by decide +kernel) (by decide +kernel) (by decide +kernel)
  (by first | exact .inl (by decide +kernel) | exact .inr (by decide +kernel)) (by rw [isSubtype_type]; kernel_rfl)
theorem wd_get : Slot "wrapper_descriptor" "__get__" "wrapper_descriptor.__get__" := .of (owner := "wrapper_descriptor") (n := "__get__") (by rw [typeLookup_type, builtinLookup_eq_fast]; kernel_rfl) (by decide +kernel) (by decide +kernel) (by decide +kernel)
  (by first | exact .inl (by decide +kernel) | exact .inr (by decide +kernel)) (by rw [isSubtype_type]; kernel_rfl)
theorem md_getE : entryFor table "method_descriptor.__get__" = some Builtin.«method_descriptor.__get__» := entryFor_of_tree (by kernel_rfl)
theorem wd_getE : entryFor table "wrapper_descriptor.__get__" = some Builtin.«wrapper_descriptor.__get__» := entryFor_of_tree (by kernel_rfl)
theorem md_getOk (a b c : Value) : argsOk "method_descriptor.__get__" ⟨[a, b, c], []⟩ := by unfold argsOk; kernel_rfl
theorem wd_getOk (a b c : Value) : argsOk "wrapper_descriptor.__get__" ⟨[a, b, c], []⟩ := by unfold argsOk; kernel_rfl
theorem ty_pop : typeOf (.builtin "list.pop") = pure (.type "method_descriptor") := by show builtinType _ = _; rw [builtinType_eq_fast]; kernel_rfl
theorem ty_len : typeOf (.builtin "list.__len__") = pure (.type "wrapper_descriptor") := by show builtinType _ = _; rw [builtinType_eq_fast]; kernel_rfl
theorem ty_init : typeOf (.builtin "list.__init__") = pure (.type "wrapper_descriptor") := by show builtinType _ = _; rw [builtinType_eq_fast]; kernel_rfl
section
variable {prog : Program} {w : World} {A : Around} {s : Shared} {K : Frag} {D x C : Addr} {ox : Obj} {od : Option Obj}
noncomputable abbrev boundObj (T id : String) (x : Addr) : Obj := { cls := .type T, data := .fields #[.builtin id, .ref x] }
structure Binds (id T DT : String) : Prop where
  ty : typeOf (.builtin id) = pure (.type DT)
  get : ∃ g, typeLookup (.type DT) "__get__" = pure (some g) ∧ ∀ (prog : Program) (w : World) (A : Around) (s : Shared) (E : Value → Shared → Prop) (x C : Addr) (ox : Obj) (Q : Value → Shared → Prop), s.heap.get? x = some ox → ox.cls = .ref C → Looks (model prog w) s.heap (isSubtype (.ref C) (.type "list")) true →
    Q (.ref s.heap.objs.size) { s with heap := s.heap.push (boundObj T id x) } → wpAny (model prog w) A (call g [.builtin id, .ref x, .ref C]) Q E s
theorem isInst_list {M : Model} {A : Around} {E : Value → Shared → Prop} {Q : Bool → Shared → Prop} {s : Shared} {x C : Addr} {ox : Obj} (hx : s.heap.get? x = some ox) (hc : ox.cls = .ref C) (hs : Looks M s.heap (isSubtype (.ref C) (.type "list")) true) (h : Q true s) : wpAny M A (isInstance (.ref x) (.type "list")) Q E s := by
  unfold isInstance
  refine wpAny_bind ?_
  simp only [typeOf]
  refine wpAny_bind (wpAny_load hx (wpAny_pure ?_))
  rw [hc]
  exact hs.here h
theorem binds_pop : Binds "list.pop" "builtin_function_or_method" "method_descriptor" := by
  refine ⟨ty_pop, _, md_get.lookup, fun prog w A s E x C ox Q hx hc hs h => ?_⟩
  refine wpAny_call_entry md_get ty_pop md_getE ?_ (md_getOk _ _ _)
  unfold Builtin.«method_descriptor.__get__»
  refine wpAny_bind (wpAny_of_eq (a := (.builtin "list.pop", some (.ref x), some (.ref C))) (by kernel_rfl) ?_)
  dsimp only
  rw [if_neg (by decide +kernel)]
  refine wpAny_bind (wpAny_bind (wpAny_of_eq (a := (Str.ofString "pop", .type "list")) (by kernel_rfl) ?_))
  refine wpAny_bind (isInst_list hx hc hs ?_)
  refine wpAny_pure ?_
  exact wpAny_bind (wpAny_newObj_type (wpAny_pure ⟨_, rfl, h⟩))
theorem binds_len : Binds "list.__len__" "method-wrapper" "wrapper_descriptor" := by
  refine ⟨ty_len, _, wd_get.lookup, fun prog w A s E x C ox Q hx hc hs h => ?_⟩
  refine wpAny_call_entry wd_get ty_len wd_getE ?_ (wd_getOk _ _ _)
  unfold Builtin.«wrapper_descriptor.__get__»
  refine wpAny_bind (wpAny_of_eq (a := (.builtin "list.__len__", some (.ref x), some (.ref C))) (by kernel_rfl) ?_)
  refine wpAny_bind (wpAny_bind (wpAny_of_eq (a := (Str.ofString "__len__", .type "list")) (by kernel_rfl) ?_))
  refine wpAny_bind (isInst_list hx hc hs ?_)
  refine wpAny_pure ?_
  exact wpAny_bind (wpAny_newObj_type (wpAny_pure ⟨_, rfl, h⟩))
theorem binds_init : Binds "list.__init__" "method-wrapper" "wrapper_descriptor" := by
  refine ⟨ty_init, _, wd_get.lookup, fun prog w A s E x C ox Q hx hc hs h => ?_⟩
  refine wpAny_call_entry wd_get ty_init wd_getE ?_ (wd_getOk _ _ _)
  unfold Builtin.«wrapper_descriptor.__get__»
  refine wpAny_bind (wpAny_of_eq (a := (.builtin "list.__init__", some (.ref x), some (.ref C))) (by kernel_rfl) ?_)
  refine wpAny_bind (wpAny_bind (wpAny_of_eq (a := (Str.ofString "__init__", .type "list")) (by kernel_rfl) ?_))
  refine wpAny_bind (isInst_list hx hc hs ?_)
  refine wpAny_pure ?_
  exact wpAny_bind (wpAny_newObj_type (wpAny_pure ⟨_, rfl, h⟩))
theorem sup_getattr {so : Addr} {name : Str} {id T DT : String} {cd : ClassData} {rest : List Value} {tk : Tok} {Q : Fin → Shared → Prop} {E : Value → Shared → Prop} (X : K.In s.heap) (hso : s.heap.get? so = some (supObj C x C)) (hx : s.heap.get? x = some ox) (hc : ox.cls = .ref C) (hxC : x ≠ C)
    (hno : nsIn K cStatics "thirdparty.any" = some none) (hcd : clsIn K C = some cd) (hm : cd.mro = .ref C :: .type "list" :: rest) (hown : fastBuiltinOwn "list" name = some (.builtin id)) (b : Binds id T DT) (hn : (name == ("__class__" : Str)) = false)
    (h : Q (.done (.ret (.ref s.heap.objs.size))) { s with heap := s.heap.push (boundObj T id x) }) : wpAny (model prog w) A (Builtin.«super.__getattribute__» ⟨[.ref so, .str name tk], []⟩) Q E s := by
  obtain ⟨g, hg, hb⟩ := b.get
  unfold Builtin.«super.__getattribute__»
  refine wpAny_bind (wpAny_of_eq (a := some name) rfl ?_)
  refine wpAny_bind (wpAny_pure ?_)
  dsimp only
  refine wpAny_bind (wpAny_field hso rfl (x := .ref C) rfl ?_)
  refine wpAny_bind (wpAny_field hso rfl (x := .ref x) rfl ?_)
  refine wpAny_bind (wpAny_field hso rfl (x := .ref C) rfl ?_)
  rw [hn, if_neg (by simp)]
  refine wpAny_bind ?_
  unfold notOfAnOpaqueClass
  refine wpAny_bind ((looks_opaque X hno).here (wpAny_pure ?_))
  rw [if_neg (by simp)]
  have hmro : Looks (model prog w) s.heap (mroOf (.ref C)) cd.mro := (looks_clsIn X hcd).andThen .now
  refine wpAny_bind (hmro.here ?_)
  have hl : (cd.mro.dropWhile (· != .ref C)).drop 1 = .type "list" :: rest := by
    rw [hm, List.dropWhile_cons_of_neg (by simp)]; rfl
  rw [hl, List.forIn_cons]
  refine wpAny_bind (wpAny_bind (wpAny_bind ((looks_ownIn X (c := .type "list") (name := name) rfl).here ?_)))
  rw [hown]
  dsimp only
  refine wpAny_bind (wpAny_of_eq b.ty ?_)
  refine wpAny_bind (wpAny_of_eq hg ?_)
  dsimp only
  have hne : (Value.ref x == Value.ref C) = false := by simp [hxC]
  rw [hne, if_neg (by decide)]
  have hsub : Looks (model prog w) s.heap (isSubtype (.ref C) (.type "list")) true := looks_mroIn X (by unfold mroIn; rw [hcd, Option.bind_some, hm]; rfl)
  refine wpAny_bind (wpAny_holding (hb prog w A s _ x C ox _ hx hc hsub ?_))
  exact wpAny_bind (wpAny_pure (wpAny_pure (wpAny_pure (wpAny_pure h))))
theorem sup_method {so : Addr} {name : Str} {id T DT : String} {cd : ClassData} {rest : List Value} {pl : Sem Bool} {Q : Value × List Value → Shared → Prop} {E : Value → Shared → Prop} (X : K.In s.heap) (hso : s.heap.get? so = some (supObj C x C)) (hx : s.heap.get? x = some ox) (hc : ox.cls = .ref C) (hxC : x ≠ C)
    (hno : nsIn K cStatics "thirdparty.any" = some none) (hcd : clsIn K C = some cd) (hm : cd.mro = .ref C :: .type "list" :: rest) (hown : fastBuiltinOwn "list" name = some (.builtin id)) (b : Binds id T DT) (hn : (name == ("__class__" : Str)) = false)
    (h : Q (.ref s.heap.objs.size, []) { s with heap := s.heap.push (boundObj T id x), toks := s.toks + 1 }) : wpAny (model prog w) A (getMethod (.ref so) name pl) Q E s := by
  have hlk := sup_get.lookup
  have hT : ∀ t', ({ s with toks := t' } : Shared).TypeIs (.ref so) "super" := fun _ => ⟨_, hso, rfl⟩
  unfold getMethod
  refine wpAny_bind (wpAny_specialOf (hT s.toks) hlk ?_)
  show wpAny _ _ (if (Manifest.canonical "super.__getattribute__" != "object.__getattribute__") = true then _ else _) _ _ _
  rw [if_pos sup_getC]
  unfold getAttr getAttrBy
  refine wpAny_bind (wpAny_bind (wpAny_mkText (wpAny_holding (wpAny_bind (wpAny_typeOf (hT _) (wpAny_bind (wpAny_of_eq hlk ?_)))))))
  show wpAny _ _ (getAttrByItsOwn (.ref so) (.str name s.toks) (.type "super") (.builtin "super.__getattribute__") true false) _ _ _
  unfold getAttrByItsOwn hookBefore callGetattribute boundAndCalled
  refine wpAny_bind (wpAny_of_eq (show (if onTheHeap (.type "super") then typeLookup (.type "super") "__getattr__" else pure none) = pure none from rfl) ?_)
  refine wpAny_bind (wpAny_attempt (wpAny_holding ?_))
  show wpAny _ _ (bindSpecial (.builtin "super.__getattribute__") (.ref so) >>= _) _ _ _
  refine wpAny_bind (wpAny_of_eq (sup_get.bind _) ?_)
  refine wpAny_mono (Q := fun v s' => v = .ref s.heap.objs.size ∧ s' = { s with heap := s.heap.push (boundObj T id x), toks := s.toks + 1 }) (E := fun _ _ => False)
    (wpAny_call_entry sup_get (hT _) sup_getE (sup_getattr X hso hx hc hxC hno hcd hm hown b hn ⟨_, rfl, rfl, rfl⟩) (sup_getOk _ _)) (fun v s' hv => ?_) fun _ _ z => z.elim
  obtain ⟨rfl, rfl⟩ := hv
  exact wpAny_pure (wpAny_pure h)
theorem bound_builtin {bo : Addr} {T id : String} {v : Value} {as : List Value} {R : Result → Shared → Prop} (hb : s.heap.get? bo = some { cls := .type T, data := .fields #[.builtin id, v] }) (hT : T = "builtin_function_or_method" ∨ T = "method-wrapper") (hq : (Code.builtin id ⟨v :: as, []⟩).quiet = true)
    (hck : wpAny (model prog w) A.in1 (checkBoundCall id ⟨v :: as, []⟩) (fun _ s' => s' = s) (fun _ _ => False) s)
    (h : codeAny (model prog w) A (.builtin id ⟨v :: as, []⟩) R s) : codeAny (model prog w) A (.call (.ref bo) ⟨as, []⟩) R s := by
  refine codeAny_of_tree ?_
  show wpAny _ A.in1 (callAny (.ref bo) _) _ _ _
  unfold callAny
  refine wpAny_bind (wpAny_load hb ?_)
  rcases hT with rfl | rfl
  · refine wpAny_bind (wpAny_mono hck (fun _ s' z => ?_) fun _ _ z => z.elim)
    subst z
    exact wpAny_pure ⟨hq, h⟩
  · refine wpAny_bind (wpAny_mono hck (fun _ s' z => ?_) fun _ _ z => z.elim)
    subst z
    exact wpAny_pure ⟨hq, h⟩
theorem bound_keeper {bo : Addr} {T id : String} {x : Addr} {h : Heap} {M : Model} (hT : T = "builtin_function_or_method" ∨ T = "method-wrapper") (hb : h.get? bo = some (boundObj T id x)) : Looks M h (keeperOf (.ref bo)) .machine := fun A Q E s k q => by
  unfold keeperOf
  refine wpAny_bind (wpAny_load (k _ _ hb) ?_)
  rcases hT with rfl | rfl
  · exact wpAny_pure q
  · exact wpAny_pure q
end
end Mine
end
section
set_option Elab.async false
set_option maxRecDepth 100000
set_option linter.unusedVariables false
set_option linter.unusedSimpArgs false
namespace Mine
open PySem PySem.Calls PySem.W PyProof.Rows
section
variable {prog : Program} {w : World} {A : Around} {s : Shared} {K : Frag} {x C : Addr} {d : Option Addr} {vs : Array Value} {m : Nat} {R : Result → Shared → Prop}
noncomputable abbrev linstObj (C : Addr) (d : Option Addr) (vs : Array Value) (m : Nat) : Obj := { cls := .ref C, dict := d, data := .seq vs m }
theorem entry_list_init : entryFor table "list.__init__" = some Builtin.«list.__init__» := entryFor_of_tree (by kernel_rfl)
theorem wpAny_listItems {M : Model} {E : Value → Shared → Prop} {o : Obj} {Q : Array Value → Shared → Prop} (hx : s.heap.get? x = some o) (hd : o.data = .seq vs m) (h : Q vs s) : wpAny M A (Builtin.List.listItems (.ref x)) Q E s := by
  unfold Builtin.List.listItems
  exact wpAny_bind (wpAny_seqItems hx hd (wpAny_pure h))
theorem code_pop {v : Value} (hx : s.heap.get? x = some (linstObj C d vs m)) (hv : vs[vs.size - 1]? = some v) (hz : vs.size ≤ sizeLine)
    (h : R (.ok (.ret v)) { s with heap := s.heap.update x (Obj.mapSeq (·.eraseIdxIfInBounds (vs.size - 1))) }) : codeAny (model prog w) A (.builtin "list.pop" ⟨[.ref x], []⟩) R s := by
  have hlt : vs.size - 1 < vs.size := (Array.getElem?_eq_some_iff.mp hv).1
  refine codeAny_builtin F.entry_list_pop ?_
  unfold Builtin.«list.pop»
  refine wpAny_bind (wpAny_of_eq (a := (.ref x, [])) rfl ?_)
  refine wpAny_bind (wpAny_pure ?_)
  dsimp only
  rw [if_neg (by decide +kernel)]
  refine wpAny_bind (wpAny_listItems hx rfl ?_)
  have he : vs.isEmpty = false := by
    cases q : vs.isEmpty with
    | false => rfl
    | true => rw [Array.isEmpty_iff_size_eq_zero] at q; omega
  rw [he, if_neg (by decide)]
  have hs : seqIndex? (-1) vs.size = some (vs.size - 1) := by
    unfold seqIndex?
    simp
    omega
  rw [hs]
  simp only [Option.bind_some, hv, Option.map_some]
  show wpAny _ _ (updateSeq x _ >>= _) _ _ _
  exact wpAny_bind (wpAny_updateSeq hx rfl (wpAny_pure h) hz (by simp [Array.eraseIdxIfInBounds, hlt]; omega))
theorem code_len (hx : s.heap.get? x = some (linstObj C d vs m)) (h : ∀ tk, R (.ok (.ret (.int vs.size tk))) { s with toks := s.toks + 1 }) : codeAny (model prog w) A (.builtin "list.__len__" ⟨[.ref x], []⟩) R s := by
  refine codeAny_builtin F.entry_list_len ?_
  unfold Builtin.«list.__len__»
  refine wpAny_bind (wpAny_of_eq (a := (.ref x, [])) rfl ?_)
  dsimp only
  refine wpAny_bind ?_
  unfold seqSize
  refine wpAny_bind (wpAny_loadPart hx ?_)
  refine wpAny_pure ?_
  unfold retInt
  exact wpAny_bind (wpAny_mkInt (wpAny_pure (h _)))
theorem code_init (hx : s.heap.get? x = some (linstObj C d vs m)) (hz : vs.size ≤ sizeLine)
    (h : R (.ok (.ret .none)) { s with heap := s.heap.update x (Obj.mapSeq fun _ => #[]) }) : codeAny (model prog w) A (.builtin "list.__init__" ⟨[.ref x], []⟩) R s := by
  refine codeAny_builtin entry_list_init ?_
  unfold Builtin.«list.__init__»
  dsimp only
  refine wpAny_bind (wpAny_listItems hx rfl ?_)
  show wpAny _ _ (updateSeq x _ >>= _) _ _ _
  exact wpAny_bind (wpAny_updateSeq hx rfl (wpAny_bind (wpAny_letGo (wpAny_pure h))) hz (Nat.zero_le _))
theorem bk_append : builtinKind "list.append" = some .method := by decide +kernel
theorem si_append : splitId "list.append" = some ("list", "append") := by decide +kernel
theorem code_append {v : Value} (hx : s.heap.get? x = some (linstObj C d vs m)) (hs : Looks (model prog w) s.heap (isSubtype (.ref C) (.type "list")) true) (hz : vs.size ≤ sizeLine)
    (h : R (.ok (.ret .none)) { s with heap := s.heap.update x (Obj.mapSeq (·.push v)) }) : codeAny (model prog w) A (.call (.builtin "list.append") ⟨[.ref x, v], []⟩) R s := by
  refine codeAny_call_builtin (by decide +kernel) F.entry_list_append ?_
  unfold checkBuiltinCall
  rw [bk_append, si_append]
  dsimp only
  refine wpAny_bind (isInst_list hx rfl hs ?_)
  refine wpAny_of_eq (a := ()) (by kernel_rfl) ?_
  unfold Builtin.«list.append»
  refine wpAny_bind (wpAny_of_eq (a := (.ref x, v)) rfl ?_)
  show wpAny _ _ (updateSeq x _ >>= _) _ _ _
  exact wpAny_bind (wpAny_updateSeq hx rfl (wpAny_pure h) hz (by simp; omega))
theorem isInst_module {M : Model} {E : Value → Shared → Prop} {o : Obj} {Q : Bool → Shared → Prop} (hx : s.heap.get? x = some o) (hc : o.cls = .ref C) (hs : Looks M s.heap (isSubtype (.ref C) (.type "module")) false) (h : Q false s) : wpAny M A (isInstance (.ref x) (.type "module")) Q E s := by
  unfold isInstance
  refine wpAny_bind ?_
  simp only [typeOf]
  refine wpAny_bind (wpAny_load hx (wpAny_pure ?_))
  rw [hc]
  exact hs.here h
theorem bk_pop : builtinKind "list.pop" = some .method := by decide +kernel
theorem bound_pop {o : Obj} {cd : ClassData} (hq : cd.qualname = Str.ofString "_Accumulator") (X : K.In s.heap) (hx : s.heap.get? x = some o) (hc : o.cls = .ref C) (hn : notCls o = true) (hcd : clsIn K C = some cd) (hm : mroIn K C (.type "module") = some false) (ht : typeIn K (.ref C) = some (.type "type")) :
    wpAny (model prog w) A (checkBoundCall "list.pop" ⟨[.ref x], []⟩) (fun _ s' => s' = s) (fun _ _ => False) s := by
  have key : ((Manifest.signature? "list.pop").map fun sig => Bind.checkArgs "list.pop" { sig with full := toString (Str.ofString "_Accumulator").toString ++ toString "." ++ toString (Bind.lastOf "list.pop") } ⟨[.ref x], []⟩) = some (pure ()) := by kernel_rfl
  unfold checkBoundCall
  cases hsig : Manifest.signature? "list.pop" with
  | none => exact wpAny_pure rfl
  | some sig =>
    rw [bk_pop]
    dsimp only
    rw [if_neg (by decide)]
    refine wpAny_bind (isInst_module hx hc (looks_mroIn X hm) ?_)
    rw [if_neg (by decide +kernel)]
    refine wpAny_bind (isType_not hx hn ?_)
    have htx : wpAny (model prog w) A (typeOf (.ref x)) (fun v s' => v = .ref C ∧ s' = s) (fun _ _ => False) s := by
      simp only [typeOf]
      exact wpAny_bind (wpAny_load hx (wpAny_pure ⟨hc, rfl⟩))
    rw [if_neg (by simp)]
    refine wpAny_bind (wpAny_mono htx (fun v s' z => ?_) fun _ _ z => z)
    obtain ⟨rfl, rfl⟩ := z
    dsimp only
    refine wpAny_bind ((looks_clsIn X hcd).here ?_)
    refine wpAny_bind ((looks_typeIn X ht).here ?_)
    rw [if_pos (by decide)]
    rw [hsig, Option.map_some] at key
    rw [hq]
    exact wpAny_of_eq (Option.some.inj key) rfl
theorem bound_len : wpAny (model prog w) A (checkBoundCall "list.__len__" ⟨[.ref x], []⟩) (fun _ s' => s' = s) (fun _ _ => False) s := wpAny_of_eq (a := ()) (by kernel_rfl) rfl
theorem bound_init : wpAny (model prog w) A (checkBoundCall "list.__init__" ⟨[.ref x], []⟩) (fun _ s' => s' = s) (fun _ _ => False) s := wpAny_of_eq (a := ()) (by kernel_rfl) rfl
end
end Mine
end
section
set_option Elab.async false
set_option maxRecDepth 100000
set_option linter.unusedVariables false
set_option linter.unusedSimpArgs false
namespace Mine
open PySem PySem.Calls PySem.W PyProof.Rows
structure LMakes (K : Frag) (C : Addr) (cd : ClassData) : Prop where
  cls : clsIn K C = some cd
  abs : cd.abstract = false
  del : cd.hasDel = false
  mro : ∃ rest, cd.mro = .ref C :: .type "list" :: rest
  made : ∀ M h, K.In h → Looks M h (Bind.madeBy (.ref C)) (some "list.__new__")
  base : ∀ M h, K.In h → Looks M h (Bind.staticBase (.ref C)) (.ref C)
  call : specialIn K (.ref C) "__call__" = some (some (.builtin "type.__call__"))
  typ : instIn K (.ref C) (.type "type") = some true
theorem bk_lnew : builtinKind "list.__new__" = some .builtinFn := by decide +kernel
theorem si_lnew : splitId "list.__new__" = some ("list", "__new__") := by decide +kernel
theorem quiet_lnew (a : Args) : (Code.builtin "list.__new__" a).quiet = true := Code.quiet_builtin _ (by decide +kernel)
theorem entry_lnew : entryFor table "list.__new__" = some Builtin.«list.__new__» := entryFor_of_tree (by kernel_rfl)
theorem own_lnew : ("list.__new__".splitOn ".__new__").headD "" = "list" := by simp +decide [String.splitOn, String.splitOnAux]
section
variable {prog : Program} {w : World} {A : Around} {s : Shared} {K : Frag} {C : Addr} {cd : ClassData}
theorem lnew_code {R : Result → Shared → Prop} (X : K.In s.heap) (L : LMakes K C cd)
    (h : R (.ok (.ret (.ref (s.heap.objs.size + 1)))) { s with heap := (s.heap.push emptyDict).push (linstObj C (some s.heap.objs.size) #[] 0) }) : codeAny (model prog w) A (.call (.builtin "list.__new__") ⟨[.ref C], []⟩) R s := by
  obtain ⟨rest, hm⟩ := L.mro
  have hsub : Looks (model prog w) s.heap (isSubtype (.ref C) (.type "list")) true := looks_mroIn X (by unfold mroIn; rw [L.cls, Option.bind_some, hm]; rfl)
  refine codeAny_call_builtin_code (quiet_lnew _) ?_
  unfold checkBuiltinCall
  rw [bk_lnew, si_lnew]
  dsimp only
  rw [if_pos (by decide)]
  refine wpAny_bind (isType_K X L.cls ?_)
  rw [if_neg (by decide)]
  refine wpAny_bind (hsub.here ?_)
  rw [if_neg (by decide)]
  refine wpAny_bind ((L.base _ _ X).here ?_)
  refine wpAny_bind ((L.made _ _ X).here ?_)
  dsimp only
  rw [if_neg (by decide +kernel)]
  refine wpAny_of_eq (a := ()) (by kernel_rfl) ?_
  refine PySem.codeAny_builtinAt entry_lnew ?_
  unfold Builtin.«list.__new__»
  refine PySem.wpAt_bind (PySem.wpAt_stack fun p below => ?_)
  dsimp only
  refine PySem.wpAt_of_wpAny ?_
  refine wpAny_bind (isType_K X L.cls ?_)
  rw [if_neg (by decide)]
  rw [own_lnew]
  refine wpAny_bind (hsub.here ?_)
  rw [if_neg (by decide)]
  refine wpAny_bind (wpAny_pure ?_)
  rw [if_neg (by simp [typeHasDict])]
  unfold newDict
  refine wpAny_bind (wpAny_newObj_type ?_ (by size_fits))
  dsimp only
  refine wpAny_bind ?_
  show wpAny _ _ (newObjAsIs _ _ _) _ _ _
  unfold newObjAsIs classHasDel
  refine wpAny_bind (wpAny_alloc ?_)
  have hc := L.cls
  unfold clsIn at hc
  split at hc
  rotate_left
  · cases hc
  rename_i oc od cd' sl ho
  cases hc
  dsimp only
  refine wpAny_bind (wpAny_bind (wpAny_load (Heap.get?_push_of_some _ (Heap.get?_push_of_some _ (X _ _ ho))) (wpAny_pure ?_)))
  rw [L.del]
  refine wpAny_pure (wpAny_pure ?_)
  show R _ _
  rw [Heap.size_push]
  exact h
theorem lmake_core {R : Result → Shared → Prop} {fI : Addr} {rest : List Value} (X : K.In s.heap) (L : LMakes K C cd) (hi : findIn K (.ref C) "__init__" = some (some (.ref fI))) (hf : typeIn K (.ref fI) = some (.type "function")) (hr : rest = [])
    (hq : codeAny (model prog w) (A.under (.builtin "type.__call__" ⟨.ref C :: rest, []⟩)) (.call (.ref fI) ⟨.ref (s.heap.objs.size + 1) :: rest, []⟩) (InitBack (s.heap.objs.size + 1) R) { s with heap := (s.heap.push emptyDict).push (linstObj C (some s.heap.objs.size) #[] 0) }) :
    codeAny (model prog w) A (.call (.ref C) ⟨rest, []⟩) R s := by
  subst hr
  obtain ⟨mr, hm⟩ := L.mro
  have hc := L.cls
  unfold clsIn at hc
  split at hc
  rotate_left
  · cases hc
  rename_i oc od cd' sl ho
  cases hc
  obtain ⟨hp, g, d, tk, os⟩ := s
  have hC := X _ _ ho
  have hcall : Looks (model prog w) hp (specialOf (.ref C) "__call__") (some (.builtin "type.__call__")) := looks_specialIn X L.call
  have htyp : Looks (model prog w) hp (isInstance (.ref C) (.type "type")) true := looks_instIn X L.typ
  have hmro : Looks (model prog w) hp (mroOf (.ref C)) cd.mro := (looks_clsIn X L.cls).andThen .now
  refine codeAny_of_tree ?_
  show wpAny _ _ (callAny (.ref C) _) _ _ _
  unfold callAny
  refine wpAny_bind (wpAny_load hC ?_)
  show wpAny _ _ (callAny.viaDunder (.ref C) _) _ _ _
  unfold callAny.viaDunder
  refine wpAny_bind (hcall.at ?_)
  dsimp only
  rw [tc_bind]
  refine wpAny_bind (wpAny_pure (wpAny_bind (wpAny_pure ?_)))
  refine wpAny_pure (a := Fin.again (.call (.builtin "type.__call__") ⟨[.ref C], []⟩)) (And.intro rfl ?_)
  refine codeAny_call_builtin_at (Code.quiet_builtin _ (by decide +kernel)) entry_typeCall (check_slot tc_kind tc_split htyp (tc_args _ _ _) ?_)
  unfold Builtin.«type.__call__»
  refine wpAny_bind (hmro.at ?_)
  rw [hm, if_neg (by simp)]
  refine wpAny_bind ((L.made _ _ X).at ?_)
  dsimp only
  refine wpAny_bind (wpAny_pure ?_)
  refine wpAny_bind (wpAny_holding (wpAny_call (lnew_code (s := ⟨hp, g, d, tk, os⟩) X L ?_)))
  have k : ∀ b o, hp.get? b = some o → ((hp.push emptyDict).push (linstObj C (some hp.objs.size) #[] 0)).get? b = some o := fun b o e => Heap.get?_push_of_some _ (Heap.get?_push_of_some _ e)
  have hx : ((hp.push emptyDict).push (linstObj C (some hp.objs.size) #[] 0)).get? (hp.objs.size + 1) = some (linstObj C (some hp.objs.size) #[] 0) := by
    rw [show hp.objs.size + 1 = (hp.push emptyDict).objs.size from (Heap.size_push ..).symm]; exact Heap.get?_push_size _ rfl
  have X' : K.In ((hp.push emptyDict).push (linstObj C (some hp.objs.size) #[] 0)) := Frag.In.keeps X k
  have t1 : Looks (model prog w) ((hp.push emptyDict).push (linstObj C (some hp.objs.size) #[] 0)) (typeOf (.ref (hp.objs.size + 1))) (.ref C) := (Looks.ld hx).andThen .now
  have s1 : Looks (model prog w) ((hp.push emptyDict).push (linstObj C (some hp.objs.size) #[] 0)) (isSubtype (.ref C) (.ref C)) true := looks_mroIn X' (by unfold mroIn; rw [L.cls, Option.bind_some, hm]; simp)
  unfold isInstance
  refine wpAny_bind (wpAny_bind (t1.at (s1.at ?_)))
  rw [if_neg (by decide)]
  refine wpAny_bind (wpAny_holding ?_)
  unfold callSpecial? specialOf
  refine wpAny_bind (wpAny_bind (t1.at ((looks_findIn X' hi).at ?_)))
  refine wpAny_holding ?_
  refine wpAny_bind ((bind_fn X' _ hf).at ?_)
  refine wpAny_bind (wpAny_call (codeAny_mono hq fun r s' z => ?_))
  rcases r with e | (v | _ | _ | _) <;> first | exact z | exact z.elim | skip
  obtain ⟨rfl, z⟩ := z
  exact wpAny_pure (wpAny_pure z)
end
end Mine
end
section
set_option Elab.async false
set_option maxRecDepth 100000
set_option linter.unusedVariables false
set_option linter.unusedSimpArgs false
namespace Mine
open PySem PySem.Calls PySem.W PyProof.Rows Builtin.ObjectAttr
section
variable {c : Ctx0} {b : Nat} {f : FI}
theorem refuse_list (self : Value) : refuseLoop self "__setattr__" [.type "list", .type "object"] = pure () := by kernel_rfl
theorem osa_open2 {prog : Program} {w : World} {A : Around} {s : Shared} {K : Frag} {x C : Addr} {R : Result → Shared → Prop} {ox : Obj} {od : Option Obj} {name : Str} {tk : Tok} {v : Value} {r : Option Value} {cd : ClassData} (X : K.In s.heap) (I : InstAt s.heap x ox C od)
    (hc : clsIn K C = some cd) (hp : cd.mro = [.ref C, .type "list", .type "object"]) (ht : takerIn K C name = some r)
    (h : ∀ b, wpAny (model prog w) A.in1 (match r with | some a => setByDescriptor a (.ref x) v | none => storeInOwnDict (.ref x) (.ref C) (.str name tk) name v b)
      (fun fin s' => match fin with | .done f => R (.ok f) s' | .again c' => c'.quiet = true ∧ codeAny (model prog w) A c' R s') (fun e s' => R (.error e) s') s) :
    codeAny (model prog w) A (.call (.builtin "object.__setattr__") ⟨[.ref x, .str name tk, v], []⟩) R s := by
  have SF := PySem.F.store_object
  have sub : Looks (model prog w) s.heap (isInstance (.ref x) (.type "object")) true := I.type.andThen (looks_mroIn X (by unfold mroIn; rw [hc, Option.bind_some, hp]; rfl))
  refine codeAny_call_builtin SF.slot.plain SF.entry (@check_slot (model prog w) _ _ s "object.__setattr__" "object" "__setattr__" (.ref x) [.str name tk, v] [] _ SF.kind SF.split sub (SF.args (.ref x) (.str name tk) v) ?_)
  obtain ⟨attr, ha, hr⟩ := Option.bind_eq_some_iff.mp ht
  have hm : Looks (model prog w) s.heap (mroOf (.ref C)) cd.mro := (looks_clsIn X hc).andThen .now
  have L3 : Looks (model prog w) s.heap (storeTaker? attr) r := by
    cases attr with
    | none => cases hr; exact .now
    | some a =>
      obtain ⟨b, hb, rfl⟩ := Option.map_eq_some_iff.mp hr
      refine (looks_takesIn X hb).andThen ?_
      cases b <;> exact .now
  rw [osa_eq, refuse_eq]
  refine wpAny_bind (wpAny_bind (I.type.here (wpAny_bind (hm.here ?_))))
  rw [hp, refuseLoop_ref, refuse_list]
  exact wpAny_pure (wpAny_bind (I.type.here (wpAny_bind ((looks_findIn X ha).here (wpAny_bind (L3.here (h _)))))))
theorem osa_own2 {A : Around} {s : Shared} {x C dx : Addr} {ox : Obj} {name : Str} {tk : Tok} {v : Value} {es : List DictEntry} {n : Nat} {R : Result → Shared → Prop} (X : c.K.In s.heap)
    (I : InstAt s.heap x ox C (some (W.dictOf es n))) (hd : ox.dict = some dx) {cd0 : ClassData} (hcl : clsIn c.K C = some cd0) (hp : cd0.mro = [.ref C, .type "list", .type "object"]) (ht : takerIn c.K C name = some none) (hh : (clsIn c.K C).any (·.hasDict) = true)
    (hl : (W.getL name es).isSome = true) (hz : (putL name (PyData.keyHash c.w.params name) (.str name s.toks) v es).length ≤ 1000)
    (h : R (.ok (.ret .none)) { s with heap := s.heap.update dx (Obj.putName name (PyData.keyHash c.w.params name) (.str name s.toks) v), toks := s.toks + 1 }) :
    codeAny (model c.prog c.w) A (.call (.builtin "object.__setattr__") ⟨[.ref x, .str name tk, v], []⟩) R s := by
  refine osa_open2 X I hcl hp ht fun b => ?_
  obtain ⟨cd, hc, hd'⟩ := any_some hh
  have D : s.heap.get? dx = some (W.dictOf es n) := by have := I.dict; rw [hd] at this; exact this
  have D' : (s.heap.update dx (Obj.putName name (PyData.keyHash c.w.params name) (.str name s.toks) v)).get? dx = some (W.dictOf (putL name (PyData.keyHash c.w.params name) (.str name s.toks) v es) (putN name es n)) := by
    rw [Heap.get?_update_self _ D (by rw [putName_dict]; rfl), putName_dict]
  obtain ⟨hx, hcl, hn, -⟩ := I
  obtain ⟨oc, odi, oda, osl⟩ := ox
  dsimp only at hcl hd
  subst hcl hd
  refine wpAny_bind (wpAny_pure (wpAny_bind (wpAny_bind (wpAny_loadPart hx (wpAny_bind ((looks_clsIn X hc).here ?_))))))
  rw [hd']
  refine wpAny_pure (a := some dx) (wpAny_bind (wpAny_pure (wpAny_bind ?_)))
  unfold nsSet
  refine wpAny_bind (wpAny_bind (wpAny_askSetting (wpAny_pure (wpAny_bind (wpAny_mkText (wpAny_bind (wpAny_loadPart D ?_)))))))
  dsimp only
  have cc : (!es.toArray.any (·.key.isStr name) && es.toArray.any (·.refKey)) = false := by
    rw [← Array.any_toList, ← Array.any_toList]
    unfold W.getL at hl
    dsimp only
    split at hl
    · rename_i en he
      rw [List.any_eq_true.mpr ⟨en, List.mem_of_find?_eq_some he, List.find?_some he⟩]; rfl
    · split at hl
      · cases hl
      · rename_i z; rw [Bool.not_eq_true] at z; rw [z, Bool.and_false]
  rw [aRefKeyMayBeTheName_at, cc]
  refine wpAny_updatePart D ?_
  refine wpAny_bind (wpAny_lookBehind D' (pastItsLine_dict (by rw [List.size_toArray, sizeLine_eq]; omega)) ?_)
  exact wpAny_pure h
noncomputable def setLst (C : Addr) (name : Str) (p q : PV) : SM Unit := fun st => match p with
  | .ref i => (match st[i]? with
    | some (.linst D kvs xs) => if D = C ∧ kvs.length ≤ 900 then some ((), st.set i (.linst D (kvPut kvs name q) xs)) else none
    | _ => none)
  | _ => none
theorem RelS.linstAt {K : Frag} {ρ : Rho} {st : List AO} {h : Heap} (R : RelS K ρ st h) {i : Nat} {a C : Addr} {kvs : List (Str × PV)} {xs : List PV} (e : headAt ρ i = some a) (q : st[i]? = some (.linst C kvs xs)) :
    ∃ d vs m es n, P6 (ρ.ents[i]? = some [a, d]) (h.get? a = some (linstObj C (some d) vs m)) (RVs h ρ vs.toList xs) (h.get? d = some (W.dictOf es n)) (EntsR h ρ es kvs) (InstAt h a (linstObj C (some d) vs m) C (some (W.dictOf es n))) := by
  obtain ⟨r, hr⟩ := headAt_some e
  obtain ⟨a', d, vs, m, es, n, e1, e2, e3, e4, e5⟩ := R.objs i _ _ hr q
  (first | obtain ⟨rfl, rfl⟩ := spr e1 | exact (nos e1).elim | obtain rfl := Option.some.inj e1 | cases e1)
  exact ⟨d, vs, m, es, n, hr, e2, e3, e4, e5, ⟨e2, rfl, rfl, e4⟩⟩
theorem op_setLst {C : Addr} {name : Str} {cd : ClassData} (hcl : clsIn c.K C = some cd) (hp : cd.mro = [.ref C, .type "list", .type "object"]) (hd : cd.hasDict = true) (hs : findIn c.K (.ref C) "__setattr__" = some (some (.builtin "object.__setattr__"))) (ht : takerIn c.K C name = some none) :
    Op2 c b RU (fun o v => setAttr o name v) (setLst C name) := by
  constructor
  intro A hA ρ s st x z x' z' y st' e r r' R
  unfold setLst at e
  split at e
  rotate_left
  · (first | obtain ⟨rfl, rfl⟩ := spr e | exact (nos e).elim | obtain rfl := Option.some.inj e | cases e)
  rename_i i
  split at e
  rotate_left
  · (first | obtain ⟨rfl, rfl⟩ := spr e | exact (nos e).elim | obtain rfl := Option.some.inj e | cases e)
  rename_i D kvs xs q
  obtain ⟨⟨rD, hz⟩, e⟩ := ite_some e
  (first | obtain ⟨rfl, rfl⟩ := spr e | exact (nos e).elim | obtain rfl := Option.some.inj e | cases e)
  subst rD
  obtain ⟨a, ha, rfl⟩ := r.inv
  obtain ⟨d, vs, m, es, n, hr, ho, rx, hD, er, I⟩ := R.linstAt ha q
  have hl : (W.getL name es).isSome = true := by
    cases q : kvGet kvs name with
    | none => rw [ents_none er q]; rfl
    | some p => obtain ⟨v, hv, _⟩ := ents_get er q; rw [hv]; rfl
  have hlen := ents_length er
  have had : a ≠ d := fun q => by rw [q, hD] at ho; cases ho
  refine set_plain R.top I hs (osa_own2 (s := { s with toks := s.toks + 1 }) R.top I rfl hcl hp ht (by rw [hcl]; exact hd) hl (Nat.le_trans (putL_len ..) (by omega)) ?_)
  have D' : (s.heap.update d (Obj.putName name (PyData.keyHash c.w.params name) (.str name (s.toks + 1)) x')).get? d = some (W.dictOf (putL name (PyData.keyHash c.w.params name) (.str name (s.toks + 1)) x' es) (putN name es n)) := by
    rw [Heap.get?_update_self _ hD (by rw [putName_dict]; rfl), putName_dict]
  have hs : Heap.SameBut d s.heap (s.heap.update d (Obj.putName name (PyData.keyHash c.w.params name) (.str name (s.toks + 1)) x')) := Heap.SameBut.update ..
  have ha' := (hs.2 a had).trans ho
  obtain ⟨S, g⟩ := R.put (i := i) (ao' := .linst D (kvPut kvs name z') xs) hr (h' := s.heap.update d (Obj.putName name (PyData.keyHash c.w.params name) (.str name (s.toks + 1)) x'))
    (fun b o eb nb => (hs.2 b fun q => nb (by rw [q]; simp)).trans eb) (fun b m => by
      simp at m; rcases m with rfl | rfl
      · exact ⟨_, ha'⟩
      · exact ⟨_, D'⟩) fun g => ⟨a, d, _, _, _, _, rfl, ha', rx.carry (g.carry noFr), D', ents_put (er.carry (g.carry noFr)) (r'.grow g noFr) _ _⟩
  exact ⟨ρ, S, g, ⟨rfl, rfl, rfl⟩, trivial⟩
theorem RelS.linstPut {K : Frag} {ρ : Rho} {st : List AO} {h h' : Heap} (R : RelS K ρ st h) {i : Nat} {a d C : Addr} {kvs : List (Str × PV)} {xs' : List PV} {vs vs' : Array Value} {m m' : Nat} {es : List DictEntry} {n : Nat} (hr : ρ.ents[i]? = some [a, d]) (ho : h.get? a = some (linstObj C (some d) vs m))
    (hD : h.get? d = some (W.dictOf es n)) (er : EntsR h ρ es kvs) (hs : Heap.SameBut a h h') (e : h'.get? a = some (linstObj C (some d) vs' m')) (rx : RVs h ρ vs'.toList xs') :
    RelS K ρ (st.set i (.linst C kvs xs')) h' ∧ Grow [] ρ h ρ h' := by
  have had : d ≠ a := fun q => by rw [q, ho] at hD; cases hD
  have hD' := (hs.2 d had).trans hD
  exact R.put (i := i) (ao' := .linst C kvs xs') hr (fun b o eb nb => (hs.2 b fun q => nb (by rw [q]; simp)).trans eb) (fun b m => by
      simp at m; rcases m with rfl | rfl
      · exact ⟨_, e⟩
      · exact ⟨_, hD'⟩) fun g => ⟨a, d, _, _, _, _, rfl, e, rx.carry (g.carry noFr), hD', er.carry (g.carry noFr)⟩
structure OpB (c : Ctx0) (b : Nat) (id : String) (G : List PV → SM PV) : Prop where
  run : ∀ A, AOk b A → ∀ ρ s st vs ps y st', G ps st = some (y, st') → RVs s.heap ρ vs ps → RelS c.K ρ st s.heap → codeAny (model c.prog c.w) A (.builtin id ⟨vs, []⟩) (fun r s' => match r with
      | .ok (.ret v) => EndsS c.K RV ρ s y st' v s'
      | _ => False) s
noncomputable def lpopG (C : Addr) (ps : List PV) : SM PV := fun st => match ps with
  | [.ref i] => (match st[i]? with
    | some (.linst D kvs xs) => if D = C ∧ xs.length ≤ sizeLine then (match xs[xs.length - 1]? with
      | some y => some (y, st.set i (.linst D kvs (xs.eraseIdx (xs.length - 1))))
      | none => none) else none
    | _ => none)
  | _ => none
noncomputable def llenG (C : Addr) (ps : List PV) : SM PV := fun st => match ps with
  | [.ref i] => (match st[i]? with
    | some (.linst D kvs xs) => if D = C then some (.int xs.length, st) else none
    | _ => none)
  | _ => none
noncomputable def linitG (C : Addr) (ps : List PV) : SM PV := fun st => match ps with
  | [.ref i] => (match st[i]? with
    | some (.linst D kvs xs) => if D = C ∧ xs.length ≤ sizeLine then some (.none, st.set i (.linst D kvs [])) else none
    | _ => none)
  | _ => none
theorem upd_seq {h : Heap} {a C : Addr} {d : Option Addr} {vs : Array Value} {m : Nat} {f : Array Value → Array Value} (e : h.get? a = some (linstObj C d vs m)) : ∃ m', (h.update a (Obj.mapSeq f)).get? a = some (linstObj C d (f vs) m') := by
  exact ⟨if (f vs).size == vs.size then m else m + 1, by rw [Heap.get?_update_self _ e (by unfold Obj.mapSeq; rfl)]; rfl⟩
theorem op_lpop {C : Addr} : OpB c b "list.pop" (lpopG C) := by
  constructor
  intro A hA ρ s st vs ps y st' e r R
  unfold lpopG at e
  split at e
  rotate_left
  · (first | obtain ⟨rfl, rfl⟩ := spr e | exact (nos e).elim | obtain rfl := Option.some.inj e | cases e)
  rename_i i
  split at e
  rotate_left
  · (first | obtain ⟨rfl, rfl⟩ := spr e | exact (nos e).elim | obtain rfl := Option.some.inj e | cases e)
  rename_i D kvs xs q
  have e' := ite_then e
  clear e
  obtain ⟨⟨rD, hz⟩, e⟩ := e'
  subst rD
  split at e
  rotate_left
  · (first | obtain ⟨rfl, rfl⟩ := spr e | exact (nos e).elim | obtain rfl := Option.some.inj e | cases e)
  rename_i y hy
  (first | obtain ⟨rfl, rfl⟩ := spr e | exact (nos e).elim | obtain rfl := Option.some.inj e | cases e)
  obtain ⟨_, rfl, r1⟩ := rvs1 r
  obtain ⟨a, ha, rfl⟩ := r1.inv
  obtain ⟨d, us, m, es, n, hr, ho, rx, hD, er, I⟩ := R.linstAt ha q
  have hl := rx.length
  rw [Array.length_toList] at hl
  obtain ⟨v, hv, rv⟩ := rx.getAt hy
  rw [← hl] at hv
  have hlt : us.size - 1 < us.size := (Array.getElem?_eq_some_iff.mp hv).1
  refine code_pop ho hv (by rw [hl]; exact hz) ?_
  obtain ⟨m', hm'⟩ := upd_seq (f := (·.eraseIdxIfInBounds (us.size - 1))) ho
  obtain ⟨S, g⟩ := R.linstPut hr ho hD er (Heap.SameBut.update ..) hm' (xs' := xs.eraseIdx (xs.length - 1)) (by
    have hE : (us.eraseIdxIfInBounds (us.size - 1)).toList = us.toList.eraseIdx (us.size - 1) := by simp [Array.eraseIdxIfInBounds, hlt]
    rw [hE, hl]
    exact rx.erase _)
  exact ⟨ρ, S, g, ⟨rfl, rfl, rfl⟩, rv.grow g noFr⟩
theorem op_llen {C : Addr} : OpB c b "list.__len__" (llenG C) := by
  constructor
  intro A hA ρ s st vs ps y st' e r R
  unfold llenG at e
  split at e
  rotate_left
  · (first | obtain ⟨rfl, rfl⟩ := spr e | exact (nos e).elim | obtain rfl := Option.some.inj e | cases e)
  rename_i i
  split at e
  rotate_left
  · (first | obtain ⟨rfl, rfl⟩ := spr e | exact (nos e).elim | obtain rfl := Option.some.inj e | cases e)
  rename_i D kvs xs q
  have e' := ite_then e
  clear e
  obtain ⟨rD, e⟩ := e'
  subst rD
  (first | obtain ⟨rfl, rfl⟩ := spr e | exact (nos e).elim | obtain rfl := Option.some.inj e | cases e)
  obtain ⟨_, rfl, r1⟩ := rvs1 r
  obtain ⟨a, ha, rfl⟩ := r1.inv
  obtain ⟨d, us, m, es, n, hr, ho, rx, hD, er, I⟩ := R.linstAt ha q
  have hl := rx.length
  rw [Array.length_toList] at hl
  refine code_len ho fun tk => ?_
  rw [hl]
  exact EndsS.tok R (.int _ _)
theorem op_linit {C : Addr} : OpB c b "list.__init__" (linitG C) := by
  constructor
  intro A hA ρ s st vs ps y st' e r R
  unfold linitG at e
  split at e
  rotate_left
  · (first | obtain ⟨rfl, rfl⟩ := spr e | exact (nos e).elim | obtain rfl := Option.some.inj e | cases e)
  rename_i i
  split at e
  rotate_left
  · (first | obtain ⟨rfl, rfl⟩ := spr e | exact (nos e).elim | obtain rfl := Option.some.inj e | cases e)
  rename_i D kvs xs q
  have e' := ite_then e
  clear e
  obtain ⟨⟨rD, hz⟩, e⟩ := e'
  subst rD
  (first | obtain ⟨rfl, rfl⟩ := spr e | exact (nos e).elim | obtain rfl := Option.some.inj e | cases e)
  obtain ⟨_, rfl, r1⟩ := rvs1 r
  obtain ⟨a, ha, rfl⟩ := r1.inv
  obtain ⟨d, us, m, es, n, hr, ho, rx, hD, er, I⟩ := R.linstAt ha q
  have hl := rx.length
  rw [Array.length_toList] at hl
  refine code_init ho (by rw [hl]; exact hz) ?_
  obtain ⟨m', hm'⟩ := upd_seq (f := fun _ => #[]) ho
  obtain ⟨S, g⟩ := R.linstPut hr ho hD er (Heap.SameBut.update ..) hm' (xs' := []) .nil
  exact ⟨ρ, S, g, ⟨rfl, rfl, rfl⟩, .none⟩
noncomputable def lappendG (C : Addr) (ps : List PV) : SM PV := fun st => match ps with
  | [.ref i, p] => (match st[i]? with
    | some (.linst D kvs xs) => if D = C ∧ xs.length ≤ sizeLine then some (.none, st.set i (.linst D kvs (xs ++ [p]))) else none
    | _ => none)
  | _ => none
theorem op_lappend {C : Addr} (hs : mroIn c.K C (.type "list") = some true) : OpL c b (fun vs => call (.builtin "list.append") vs) (lappendG C) := by
  constructor
  intro A hA ρ s st vs ps y st' e r R
  unfold lappendG at e
  split at e
  rotate_left
  · (first | obtain ⟨rfl, rfl⟩ := spr e | exact (nos e).elim | obtain rfl := Option.some.inj e | cases e)
  rename_i i p
  split at e
  rotate_left
  · (first | obtain ⟨rfl, rfl⟩ := spr e | exact (nos e).elim | obtain rfl := Option.some.inj e | cases e)
  rename_i D kvs xs q
  have e' := ite_then e
  clear e
  obtain ⟨⟨rD, hz⟩, e⟩ := e'
  subst rD
  (first | obtain ⟨rfl, rfl⟩ := spr e | exact (nos e).elim | obtain rfl := Option.some.inj e | cases e)
  obtain ⟨_, v, rfl, r1, r2⟩ := rvs2 r
  obtain ⟨a, ha, rfl⟩ := r1.inv
  obtain ⟨d, us, m, es, n, hr, ho, rx, hD, er, I⟩ := R.linstAt ha q
  have hl := rx.length
  rw [Array.length_toList] at hl
  refine wpAny_call (code_append ho (looks_mroIn R.top hs) (by rw [hl]; exact hz) ?_)
  obtain ⟨m', hm'⟩ := upd_seq (f := (·.push v)) ho
  obtain ⟨S, g⟩ := R.linstPut hr ho hD er (Heap.SameBut.update ..) hm' (xs' := xs ++ [p]) (by rw [Array.toList_push]; exact rx.append (.cons r2 .nil))
  exact ⟨ρ, S, g, ⟨rfl, rfl, rfl⟩, .none⟩
noncomputable def lmethOk (K : Frag) (C : Addr) (name : Str) (fv : Value) (ty : String) : Bool := findIn K (.ref C) "__getattribute__" == some (some (.builtin "list.__getattribute__")) && findIn K (.ref C) "__getattr__" == some none && findIn K (.ref C) name == some (some fv) && typeIn K fv == some (.type ty) &&
  (ty == "function" || ty == "method_descriptor")
noncomputable def isLinst (C : Addr) (name : Str) (p : PV) (st : List AO) : Bool := match p with
  | .ref i => (match st[i]? with
    | some (.linst D kvs _) => D == C && (kvGet kvs name).isNone
    | _ => false)
  | _ => false
theorem can_lget : (Manifest.canonical "list.__getattribute__" != "object.__getattribute__") = false := by decide +kernel
theorem meth_linst {C : Addr} {name : Str} {fv : Value} {ty : String} (hk : lmethOk c.K C name fv ty = true) : MethAt c name (isLinst C name) fv := by
  constructor
  intro A pl ρ s st v p Q hP r R h
  unfold isLinst at hP
  split at hP
  rotate_left
  · cases hP
  rename_i i
  split at hP
  rotate_left
  · cases hP
  rename_i D kvs xs q
  rw [Bool.and_eq_true, beq_iff_eq, Option.isNone_iff_eq_none] at hP
  obtain ⟨rD, hn⟩ := hP
  subst rD
  obtain ⟨a, ha, rfl⟩ := r.inv
  obtain ⟨d, us, m, es, n, hr, ho, rx, hD, er, I⟩ := R.linstAt ha q
  simp only [lmethOk, Bool.and_eq_true, beq_iff_eq, Bool.or_eq_true] at hk
  obtain ⟨⟨⟨⟨h1, h2⟩, h3⟩, h4⟩, h5⟩ := hk
  unfold getMethod specialOf
  refine wpAny_bind (wpAny_bind (I.type.here ((looks_findIn R.top h1).here ?_)))
  dsimp only
  rw [can_lget, if_neg (by decide)]
  refine wpAny_bind (wpAny_bind (I.type.here ((looks_findIn R.top h2).here ?_)))
  refine wpAny_bind (wpAny_bind (I.type.here ((looks_findIn R.top h3).here (wpAny_bind ((looks_typeIn R.top h4).here ?_)))))
  have hns : Looks (model c.prog c.w) s.heap (nsGet d name) none := by
    intro A Q E s' k q
    unfold nsGet
    refine wpAny_bind (wpAny_loadPart (k _ _ hD) ?_)
    rw [nsLook_of (r := none) (by rw [lookIn_dict, ents_none er hn])]
    exact wpAny_pure q
  rcases h5 with h5 | h5
  · subst h5
    rw [if_neg (by decide +kernel)]
    refine wpAny_bind (wpAny_loadPart ho ?_)
    dsimp only
    refine wpAny_bind (hns.here ?_)
    rw [if_neg (by simp)]
    exact wpAny_bind (wpAny_rule (wpAny_pure h))
  · subst h5
    rw [if_neg (by decide +kernel)]
    refine wpAny_bind (wpAny_loadPart ho ?_)
    dsimp only
    refine wpAny_bind (hns.here ?_)
    rw [if_neg (by simp)]
    exact wpAny_bind (wpAny_rule (wpAny_pure h))
end
end Mine
end
section
set_option Elab.async false
set_option maxRecDepth 100000
set_option linter.unusedVariables false
set_option linter.unusedSimpArgs false
namespace Mine
open PySem PySem.Calls PySem.W PyProof.Rows
structure DenX (c : Ctx0) (b : Nat) (f : FI) (body : List Stmt) {α β : Type} (RA : Heap → Rho → α → β → Prop) (t : Sem α) (F : FM β) : Prop where
  run : ∀ A, AOk b A → ∀ ρ s es y es', F es = some (y, es') → RelF c.K f ρ es s.heap → PySem.wpAt (model c.prog c.w) A (.func body f.env) t (Ends c.K f RA ρ s y es') noE s
section
variable {c : Ctx0} {b : Nat} {f : FI} {body : List Stmt}
theorem Den.x {α β : Type} {RA : Heap → Rho → α → β → Prop} {t : Sem α} {F : FM β} (d : Den c b f RA t F) : DenX c b f body RA t F := ⟨fun A hA ρ s es y es' e R => PySem.wpAt_of_wpAny (d.run A hA ρ s es y es' e R)⟩
theorem denx_cons {st : Stmt} {rest : List Stmt} {F G : FM PF} (d : DenX c b f body RFl (exec st f.env) F) (d' : DenX c b f body RFl (execs rest f.env) G) : DenX c b f body RFl (execs (st :: rest) f.env) (seqE F G) := by
  constructor
  intro A hA ρ s es y es' e R
  obtain ⟨fl, es₁, e1, e2⟩ := bindE_some e
  rw [execs_cons]
  refine PySem.wpAt_bind (PySem.wpAt_mono (d.run A hA ρ s es fl es₁ e1 R) (fun flv s₁ z => ?_) fun _ _ z => z)
  obtain ⟨ρ₁, R₁, g₁, q₁, rf⟩ := z
  cases rf with
  | next => exact PySem.wpAt_mono (d'.run A hA ρ₁ s₁ es₁ y es' e2 R₁) (fun _ _ z => z.after g₁ q₁) fun _ _ z => z
  | brk => (first | obtain ⟨rfl, rfl⟩ := spr e2 | exact (nos e2).elim | obtain rfl := Option.some.inj e2 | (first | obtain ⟨rfl, rfl⟩ := spr e2 | exact (nos e2).elim | obtain rfl := Option.some.inj e2 | cases e2)); exact PySem.wpAt_of_wpAny (wpAny_pure ⟨ρ₁, R₁, g₁, q₁, .brk⟩)
  | cont => (first | obtain ⟨rfl, rfl⟩ := spr e2 | exact (nos e2).elim | obtain rfl := Option.some.inj e2 | (first | obtain ⟨rfl, rfl⟩ := spr e2 | exact (nos e2).elim | obtain rfl := Option.some.inj e2 | cases e2)); exact PySem.wpAt_of_wpAny (wpAny_pure ⟨ρ₁, R₁, g₁, q₁, .cont⟩)
  | ret r => (first | obtain ⟨rfl, rfl⟩ := spr e2 | exact (nos e2).elim | obtain rfl := Option.some.inj e2 | (first | obtain ⟨rfl, rfl⟩ := spr e2 | exact (nos e2).elim | obtain rfl := Option.some.inj e2 | cases e2)); exact PySem.wpAt_of_wpAny (wpAny_pure ⟨ρ₁, R₁, g₁, q₁, .ret r⟩)
theorem denx_return {x : Expr} {pos : Pos} {X : FM PV} (dx : DenX c b f body RV (eval x f.env) X) : DenX c b f body RFl (exec (.Return (some x) pos) f.env) (bindE X fun p => pureE (.ret p)) := by
  constructor
  intro A hA ρ s es y es' e R
  obtain ⟨p, es₁, e1, e2⟩ := bindE_some e
  (first | obtain ⟨rfl, rfl⟩ := spr e2 | exact (nos e2).elim | obtain rfl := Option.some.inj e2 | (first | obtain ⟨rfl, rfl⟩ := spr e2 | exact (nos e2).elim | obtain rfl := Option.some.inj e2 | cases e2))
  rw [exec_Return_some]
  refine PySem.wpAt_bind (PySem.wpAt_of_wpAny (wpAny_standAt ?_))
  refine PySem.wpAt_bind (PySem.wpAt_mono (dx.run A hA ρ s es p _ e1 R) (fun v s₁ z => ?_) fun _ _ z => z)
  obtain ⟨ρ₁, R₁, g₁, q₁, r₁⟩ := z
  exact PySem.wpAt_of_wpAny (wpAny_pure ⟨ρ₁, R₁, g₁, q₁, .ret r₁⟩)
theorem denx_expr {x : Expr} {pos : Pos} {X : FM PV} (dx : DenX c b f body RV (eval x f.env) X) (hi : interactive f.env = false) (hs : swapsWith x none pos.line f.env = pure false := by rfl) :
    DenX c b f body RFl (exec (.Expr x pos) f.env) (bindE X fun _ => pureE .next) := by
  constructor
  intro A hA ρ s es r es' e R
  obtain ⟨p, es₁, e1, e2⟩ := bindE_some e
  cases e2
  rw [exec_Expr _ _ _ hi hs]
  refine PySem.wpAt_bind (PySem.wpAt_of_wpAny (wpAny_standAt ?_))
  refine PySem.wpAt_bind (PySem.wpAt_mono (dx.run A hA ρ s es p es' e1 R) (fun v s₁ z => ?_) fun _ _ z => z)
  obtain ⟨ρ₁, R₁, g₁, q₁, r₁⟩ := z
  exact PySem.wpAt_of_wpAny (wpAny_dropValue ⟨ρ₁, R₁, g₁, q₁, .next⟩)
structure SupOk (c : Ctx0) (f : FI) (C cc cda fa : Addr) (slf : Str) (cd : ClassData) : Prop where
  sup : f.env.kindOf "super" = some .globalImplicit
  cls : f.env.kindOf "__class__" = some .free
  cell : f.env.cells.lookup ("__class__" : Str) = some cc
  func : f.env.func = some fa
  code : f.env.code = .ref cda
  fst : ∃ oc od fd osl ar, P3 (c.K.lookup fa = some ⟨oc, od, .func fd, osl⟩) ((fd.params.posonlyargs ++ fd.params.args).head? = some ar) (ar.arg = slf)
  cellIs : ∃ oc od osl, c.K.lookup cc = some ⟨oc, od, .cell (some (.ref C)), osl⟩
  file : ∃ oc od vs osl file tf, P3 (c.K.lookup cda = some ⟨oc, od, .fields vs, osl⟩) (vs[2]? = some (.str file tf)) (((c.prog.main.file : Str) == file) = true)
  top : (c.prog.main.scope.names.lookup ("super" : Str)).isSome = false
  glob : nsIn c.K mainGlobals "super" = some none
  blt : nsIn c.K builtinsNs "super" = some (some (.type "super"))
  any : nsIn c.K cStatics "thirdparty.any" = some none
  hcd : clsIn c.K C = some cd
  mro : cd.mro = [.ref C, .type "list", .type "object"]
theorem wpAt_noComps {M : Model} {A : Around} {E : Value → Shared → Prop} {s : Shared} {env : Env} {Q : List Env → Shared → Prop} (h : Q [] s) : PySem.wpAt M A (.func body env) comprehensionsAround Q E s := by
  unfold comprehensionsAround callersCodes
  refine PySem.wpAt_bind (PySem.wpAt_bind (PySem.wpAt_stack fun p below => ?_))
  dsimp only
  split
  · rename_i hc
    exact absurd (show (some env.frame != some env.frame) = true from hc) (by simp)
  · refine PySem.wpAt_of_wpAny (wpAny_pure (PySem.wpAt_of_wpAny (wpAny_pure ?_)))
    have e : pastTheWaiting ((.func body env, p) :: below) = (.func body env, p) :: pastTheWaiting.go false (some (.func body env)) below := rfl
    rw [e]
    exact h
noncomputable def isLinstC (C : Addr) (p : PV) (st : List AO) : Bool := match p with
  | .ref i => (match st[i]? with
    | some (.linst D _ _) => D == C
    | _ => false)
  | _ => false
theorem denx_super {id T DT : String} {name : Str} {p0 p1 apos pos : Pos} {C cc cda fa : Addr} {self : Str} {cd : ClassData} {i : Nat} {G : List PV → SM PV} (ok : f.Ok) (X : SupOk c f C cc cda fa self cd) (hx : f.ln[i]? = some self)
    (op : OpB c b id G) (bd : Binds id T DT) (hT : T = "builtin_function_or_method" ∨ T = "method-wrapper") (hown : fastBuiltinOwn "list" name = some (.builtin id)) (hn : (name == ("__class__" : Str)) = false)
    (hq : ∀ as, (Code.builtin id as).quiet = true)
    (hck : ∀ A s x, c.K.In s.heap → (∃ d vs m, s.heap.get? x = some (linstObj C d vs m)) → wpAny (model c.prog c.w) A (checkBoundCall id ⟨[.ref x], []⟩) (fun _ s' => s' = s) (fun _ _ => False) s)
    (hline : (apos.endLine == pos.line) = true := by rfl) :
    DenX c b f body RV (eval (.Call (.Attribute (.Call (.Name "super" p0) [] [] p1) name apos) [] [] pos) f.env) (bindE (getL i) fun p => guardE (isLinstC C p) (liftS (G [p]))) := by
  constructor
  intro A hA ρ s es y es' e R
  obtain ⟨p, es₁, e1, e⟩ := bindE_some e
  obtain ⟨hp, e⟩ := guardE_some e
  obtain ⟨st', e2, rfl⟩ := liftS_some e
  unfold getL at e1
  split at e1
  rotate_left
  · (first | obtain ⟨rfl, rfl⟩ := spr e1 | exact (nos e1).elim | obtain rfl := Option.some.inj e1 | (first | obtain ⟨rfl, rfl⟩ := spr e1 | exact (nos e1).elim | obtain rfl := Option.some.inj e1 | cases e1))
  rename_i p' hg
  (first | obtain ⟨rfl, rfl⟩ := spr e1 | exact (nos e1).elim | obtain rfl := Option.some.inj e1 | (first | obtain ⟨rfl, rfl⟩ := spr e1 | exact (nos e1).elim | obtain rfl := Option.some.inj e1 | cases e1))
  obtain ⟨m, ns, nl, _⟩ := R.l
  have hself := nl i self hx
  rw [hg] at hself
  obtain ⟨v, hv, rv⟩ := rvo_some hself
  unfold isLinstC at hp
  split at hp
  rotate_left
  · cases hp
  rename_i j _
  split at hp
  rotate_left
  · cases hp
  rename_i D kvs xs qj
  rw [beq_iff_eq] at hp
  subst hp
  obtain ⟨x, ha, rfl⟩ := rv.inv
  obtain ⟨d, us, mm, des, dn, hr, ho, rx, hD, er, I⟩ := R.s.linstAt ha qj
  have K := R.s.top
  obtain ⟨oc, od, fd, osl, ar, hfa, har, har2⟩ := X.fst
  obtain ⟨oc2, od2, osl2, hcc⟩ := X.cellIs
  obtain ⟨oc3, od3, vs3, osl3, file, tf, hcda, hvs, hfile⟩ := X.file
  have hxD : x ≠ D := by
    rintro rfl
    have hc := X.hcd
    unfold clsIn at hc
    split at hc
    · rename_i q
      have := K _ _ q
      rw [ho] at this
      cases this
    · cases hc
  have hsub : mroIn c.K D (.ref D) = some true := by unfold mroIn; rw [X.hcd, Option.bind_some, X.mro]; simp
  rw [arm_eval_Call]
  refine PySem.wpAt_bind ?_
  have k1 := X.sup
  have k2 := X.cls
  have k3 := X.func
  have k4 := X.code
  unfold attributeBase
  simp only [bne_self_eq_false, hn, k1, k2, k3, k4, Bool.or_false, Bool.or_self, Bool.false_eq_true, if_false, Option.isSome_some, if_true, pure_bind]
  unfold funcData
  refine PySem.wpAt_bind (PySem.wpAt_of_wpAny (wpAny_bind (wpAny_load (K _ _ hfa) ?_)))
  refine wpAny_pure ?_
  simp only [har]
  refine PySem.wpAt_bind (PySem.wpAt_of_wpAny (wpAny_askSetting ?_))
  refine PySem.wpAt_bind (PySem.wpAt_of_wpAny (wpAny_field (K _ _ hcda) rfl hvs ?_))
  have hfile' : ((model c.prog c.w).prog.main.file == file) = true := hfile
  have htop' : (List.lookup (Str.ofString "super") (model c.prog c.w).prog.main.scope.names).isSome = false := X.top
  simp only [hfile', htop', if_true, Bool.false_eq_true, if_false]
  refine PySem.wpAt_bind (PySem.wpAt_of_wpAny (wpAny_rule ?_))
  refine PySem.wpAt_bind (PySem.wpAt_of_wpAny (wpAny_standAt ?_))
  refine PySem.wpAt_bind (PySem.wpAt_of_wpAny (loads_builtin ok K k1 X.glob X.blt ?_))
  refine PySem.wpAt_bind (PySem.wpAt_of_wpAny (wpAny_loadName_free ok.kind k2 X.cell ⟨_, K _ _ hcc, rfl⟩ ?_))
  refine PySem.wpAt_bind (wpAt_noComps ?_)
  show PySem.wpAt _ _ _ (loadName f.env ar.arg >>= _) _ _ _
  rw [har2]
  refine PySem.wpAt_bind (PySem.wpAt_of_wpAny (wpAny_loadName_local ok.kind (ok.loc self (List.mem_of_getElem? hx)) ns hv ?_))
  refine PySem.wpAt_bind (PySem.wpAt_of_wpAny (isType_K K X.hcd ?_))
  refine PySem.wpAt_of_wpAny ?_
  show wpAny _ _ (call (.type "super") [.ref D, .ref x]) _ _ _
  refine sup_made K X.hcd ho rfl rfl hsub fun h₁ hso k => ?_
  obtain ⟨S₁, g₁⟩ := R.s.ext k
  refine PySem.wpAt_of_wpAny ?_
  refine wpAny_bind (wpAny_standAt ?_)
  have hpos : methodCallPos true (.Call (.Name "super" p0) [] [] p1) f.env apos pos = pure pos := by unfold methodCallPos; simp [hline]
  unfold methodCall
  have hfew : methodCallForm (([] : List Expr).length + ([] : List Keyword).length) (backTo pos (starEach [] f.env)) (backToKw pos (keywordEach [] f.env)) = true := rfl
  rw [hfew]
  refine wpAny_bind (wpAny_holding (sup_method (s := { s with heap := h₁ }) S₁.top hso (k _ _ ho) rfl hxD X.any X.hcd X.mro hown bd hn ?_))
  obtain ⟨S₂, g₂⟩ := S₁.pushObj (boundObj T id x)
  have hbo : (h₁.push (boundObj T id x)).get? h₁.objs.size = some (boundObj T id x) := Heap.get?_push_size _ rfl
  refine wpAny_bind (wpAny_of_eq hpos ?_)
  refine callWith_of (P := fun h => h.get? h₁.objs.size = some (boundObj T id x)) rfl (fun h hP => ⟨.machine, .inr (.inl rfl), bound_keeper hT hP⟩) (evalArgs_spliced rfl (Calls.spliced_nil ⟨hbo, ?_⟩))
  have ho2 : (h₁.push (boundObj T id x)).get? x = some (linstObj D (some d) us mm) := Heap.get?_push_of_some _ (k _ _ ho)
  refine wpAny_call (bound_builtin hbo hT (hq _) (hck _ _ _ S₂.top ⟨_, _, _, ho2⟩) ?_)
  have gg := g₁.trans g₂
  have rr : RVs (h₁.push (boundObj T id x)) ρ [.ref x] [.ref j] := .cons (.ref ha) .nil
  refine codeAny_mono (op.run A hA ρ { s with heap := h₁.push (boundObj T id x), toks := s.toks + 1 } es.st [.ref x] [.ref j] y st' e2 rr S₂) fun r s' z => ?_
  rcases r with e | (v | _ | _ | _) <;> first | exact z.elim | skip
  obtain ⟨ρ', S', g', q', rv'⟩ := z
  have g3 := gg.trans g'
  exact ⟨ρ', R.ofS S' g3, g3.wider (by simp), ⟨q'.1, q'.2.1, q'.2.2⟩, rv'⟩
end
end Mine
end
section
set_option Elab.async false
set_option maxRecDepth 100000
set_option linter.unusedVariables false
set_option linter.unusedSimpArgs false
namespace Mine
open PySem PySem.Calls PySem.W PyProof.Rows
section
variable {c : Ctx0} {b : Nat}
theorem codeAny_funcX {prog : Program} {w : World} {A : Around} {s : Shared} {body : List Stmt} {env : Env} {R : Result → Shared → Prop}
    (h : PySem.wpAt (model prog w) (A.deeper env) (.func body env) (execs body env) (fun f s' => R (.ok (.ret (match f with | .ret v => v | _ => .none))) s') noE s) : codeAny (model prog w) A (.func body env) R s := by
  refine PySem.codeAny_of_treeAt ?_
  show PySem.wpAt _ (A.deeper env) _ (do point; match ← (execs body env).onRaise (leaving env) with | .ret v => ret v | _ => ret .none) _ _ s
  refine PySem.wpAt_bind (PySem.wpAt_of_wpAny (wpAny_point (PySem.wpAt_bind ?_)))
  intro Γ p hc hΓ
  rw [Sem.wp_onRaise]
  refine Sem.wp_mono _ Γ _ (fun f p' s' z => ?_) (fun e p' s' z => z.elim) p s (h Γ p hc hΓ)
  cases f <;> exact PySem.wpAt_of_wpAny (wpAny_pure z)
theorem fun_defX {a : Addr} {fd : FuncData} {body : List Stmt} {names ln : List Str} {np : Nat} {dvs : List Value} {dps : List PV} {li : List (Option Nat)} {F : FM PF} (X : DefAt c.K a fd body)
    (hcell : ∀ x ∈ fd.scope.names, x.2 ≠ .cell) (hloc : ∀ x ∈ names, fd.scope.names.lookup x = some .local) (nd : names.Nodup)
    (hln : ∀ x ∈ names, x ∈ ln) (hli : ln.map names.idxOf? = li) (hdp : ∀ h ρ, RVs h ρ dvs dps) (hn : names.length = np + dvs.length)
    (hbind : ∀ s vs, vs.length = np → c.K.In s.heap → BindsTo s fd ⟨vs, []⟩ (names.zip (vs ++ dvs)))
    (D : ∀ L, DenX c b ⟨callEnv fd L a, ln, []⟩ body RFl (execs body (callEnv fd L a)) F) : FunK c (b + 1) (.ref a) np [] (runK np dps li [] F) := by
  constructor
  · intro ps st r e
    unfold runK at e
    split at e
    · assumption
    · (first | obtain ⟨rfl, rfl⟩ := spr e | exact (nos e).elim | obtain rfl := Option.some.inj e | (first | obtain ⟨rfl, rfl⟩ := spr e | exact (nos e).elim | obtain rfl := Option.some.inj e | cases e))
  intro A hA ρ s st vs ps y st' e r R
  unfold runK at e
  split at e <;> try (first | obtain ⟨rfl, rfl⟩ := spr e | exact (nos e).elim | obtain rfl := Option.some.inj e | (first | obtain ⟨rfl, rfl⟩ := spr e | exact (nos e).elim | obtain rfl := Option.some.inj e | cases e))
  rename_i hlen
  split at e <;> (first | obtain ⟨rfl, rfl⟩ := spr e | exact (nos e).elim | obtain rfl := Option.some.inj e | (first | obtain ⟨rfl, rfl⟩ := spr e | exact (nos e).elim | obtain rfl := Option.some.inj e | cases e))
  rename_i fl es q
  have hvl := r.length
  have r' : RVs s.heap ρ (vs ++ dvs) (ps ++ dps) := r.append (hdp _ _)
  have hvs : names.length = (vs ++ dvs).length := by rw [List.length_append, hvl, hlen, hn]
  obtain ⟨oc, od, sl, ho⟩ := X.at_
  have hnm := zip_names (vs := vs ++ dvs) hvs
  rw [List.take_of_length_le (by rw [hvl, hlen]; exact Nat.le_refl _), List.zip_nil_left]
  refine codeAny_call_function (fd := fd) (body := body) (by have := hA.depth; have : recursionLimit = 1000 := rfl; omega) (R.top _ _ ho) rfl X.co X.gen X.body (codeRec_of R.top X.code) (hbind s vs (by rw [hvl, hlen]) R.top _ _ _ _ ?_)
  refine wpAny_newFunctionEnv hcell (fun x m => hloc x.1 (List.of_mem_zip m).1) (fun h₀ hns hsb => ?_) X.kind
  have hk : ∀ b o, s.heap.get? b = some o → h₀.get? b = some o := fun b o e => hsb.extBut b o (Nat.ne_of_lt (Heap.lt_size e)) (Heap.get?_push_of_some _ e)
  refine ⟨R.nolim.keeps hk, codeAny_funcX ?_⟩
  have fresh : s.heap.get? s.heap.objs.size = none := get_ge (Nat.le_refl _)
  obtain ⟨S, g₀⟩ := R.enter (wr := [s.heap.objs.size]) (h' := h₀) hk (fun a' m => by rw [List.mem_singleton.mp m]; exact fresh) (fun a' m => by rw [List.mem_singleton.mp m]; obtain ⟨o, _, _, e, _⟩ := hns; exact ⟨o, e⟩) (List.nodup_cons.mpr ⟨by simp, List.nodup_nil⟩)
  have hA' : AOk b (A.deeper (callEnv fd s.heap.objs.size a)) := ⟨hA.handled, by have := hA.depth; show A.depth + 1 + 2 * b ≤ 900; omega, by have := hA.units; show A.units + 3 + 20 * b ≤ 9000; omega⟩
  have RF : RelF c.K ⟨callEnv fd s.heap.objs.size a, ln, []⟩ (ρ.enter [s.heap.objs.size]) ⟨li.map fun o => o.bind fun i => (ps ++ dps)[i]?, [], st⟩ h₀ := by
    refine ⟨S, ⟨_, hns, fun i x hx => ?_, fun x hx => ?_⟩, fun i x a' e => by simp at e, fun a' m => ?_, List.nodup_cons.mpr ⟨by simp, List.nodup_nil⟩⟩
    · rw [lookup_reverse (by rw [hnm]; exact nd)]
      have : (li.map fun o => o.bind fun i => (ps ++ dps)[i]?)[i]? = some ((names.idxOf? x).bind fun i => (ps ++ dps)[i]?) := by
        rw [List.getElem?_map, ← hli, List.getElem?_map, hx]; rfl
      rw [this]
      exact (rvs_zip_lookup r' hvs x).carry g₀
    · rw [lookup_reverse (by rw [hnm]; exact nd), lookup_none_of (by rintro ⟨p1, p2⟩ hp rfl; exact hx (hln _ (List.of_mem_zip hp).1))]
    · have : a' = s.heap.objs.size := by simp only [FI.fr, List.map_nil, List.mem_singleton] at m; exact m
      subst this; exact List.mem_append_left _ (List.mem_singleton.mpr rfl)
  refine PySem.wpAt_mono ((D s.heap.objs.size).run _ hA' (ρ.enter [s.heap.objs.size]) { s with heap := h₀, toks := s.toks + (names.zip (vs ++ dvs)).length } _ fl es q RF) (fun x s' z => ?_) fun _ _ z => z
  obtain ⟨ρ', R', g, sm, rf⟩ := z
  exact R.left hk (fun a' m => by rw [List.mem_singleton.mp m]; exact fresh) R'.s g (fun a' m => m) sm (by
    cases rf with
    | next => exact .none
    | brk => exact .none
    | cont => exact .none
    | ret r => exact r)
noncomputable def lmakeG (C : Addr) (G : List PV → SM PV) (ps : List PV) : SM PV := fun st => match ps with
  | [] => (match G [.ref st.length] (st ++ [.linst C [] []]) with
    | some (.none, st') => some (.ref st.length, st')
    | _ => none)
  | _ => none
theorem op_lmake {C fI : Addr} {cd : ClassData} {np : Nat} {G : List PV → SM PV} (L : LMakes c.K C cd) (hi : findIn c.K (.ref C) "__init__" = some (some (.ref fI))) (hf : typeIn c.K (.ref fI) = some (.type "function")) (oI : FunK c b (.ref fI) np [] G) :
    OpL c (b + 1) (fun vs => call (.ref C) vs) (lmakeG C G) := by
  constructor
  intro A hA ρ s st vs ps y st' e r R
  unfold lmakeG at e
  split at e
  rotate_left
  · cases e
  split at e <;> cases e
  rename_i e
  obtain rfl := rvs0 r
  obtain ⟨h, g, d, t, os⟩ := s
  replace R : RelS c.K ρ st h := R
  refine wpAny_call (lmake_core (s := ⟨h, g, d, t, os⟩) R.top L hi hf rfl ?_)
  have k : ∀ b o, h.get? b = some o → ((h.push emptyDict).push (linstObj C (some h.objs.size) #[] 0)).get? b = some o := fun b o e => Heap.get?_push_of_some _ (Heap.get?_push_of_some _ e)
  have hs1 : (h.push emptyDict).objs.size = h.objs.size + 1 := Heap.size_push ..
  have hx : ((h.push emptyDict).push (linstObj C (some h.objs.size) #[] 0)).get? (h.objs.size + 1) = some (linstObj C (some h.objs.size) #[] 0) := by rw [← hs1]; exact Heap.get?_push_size _ rfl
  have hd : ((h.push emptyDict).push (linstObj C (some h.objs.size) #[] 0)).get? h.objs.size = some emptyDict := Heap.get?_push_of_some _ (Heap.get?_push_size _ rfl)
  have hne : h.objs.size + 1 ≠ h.objs.size := Nat.succ_ne_self _
  obtain ⟨S, g₁⟩ := R.push (as := [h.objs.size + 1, h.objs.size]) (ao := .linst C [] []) (h' := (h.push emptyDict).push (linstObj C (some h.objs.size) #[] 0)) k
    (fun a m => by
      simp only [List.mem_cons, List.not_mem_nil, or_false] at m
      rcases m with rfl | rfl
      · exact get_ge (Nat.le_succ _)
      · exact get_ge (Nat.le_refl _))
    (fun a m => by
      simp only [List.mem_cons, List.not_mem_nil, or_false] at m
      rcases m with rfl | rfl
      · exact ⟨_, hx⟩
      · exact ⟨_, hd⟩) (by simp) (fun _ => ⟨_, _, #[], 0, [], _, rfl, hx, .nil, hd, .nil⟩)
  have hA' : AOk b (A.under (.builtin "type.__call__" ⟨[.ref C], []⟩)) := ⟨hA.handled, by have := hA.depth; show A.depth + 1 + 2 * b ≤ 900; omega, by have := hA.units; show A.units + 1 + 20 * b ≤ 9000; omega⟩
  have rself : RV ((h.push emptyDict).push (linstObj C (some h.objs.size) #[] 0)) (ρ.push [h.objs.size + 1, h.objs.size]) (.ref (h.objs.size + 1)) (.ref st.length) := .ref (by rw [← R.len]; exact headAt_push)
  refine codeAny_mono (oI.code hA' (s := ⟨(h.push emptyDict).push (linstObj C (some h.objs.size) #[] 0), g, d, t, os⟩) e (.cons rself .nil) S) fun r s' z => ?_
  rcases r with e | (v | _ | _ | _) <;> first | exact z.elim | skip
  obtain ⟨ρ', S', g', q', rv⟩ := z
  cases rv
  exact ⟨rfl, ρ', S', g₁.trans g', q', RV.grow g' noFr rself⟩
end
end Mine
end
section
set_option Elab.async false
set_option maxRecDepth 100000
set_option linter.unusedVariables false
set_option linter.unusedSimpArgs false
namespace Mine
open PySem PySem.Calls PySem.W PyProof.Rows PySem.Spec
noncomputable def leS (a b : Str) : Bool := !ltCps b.cps.toList a.cps.toList
noncomputable def insS (x : Str) : List Str → List Str
  | [] => [x]
  | y :: r => if leS x y then x :: y :: r else y :: insS x r
noncomputable def sortS : List Str → List Str
  | [] => []
  | x :: r => insS x (sortS r)
theorem leS_total (a b : Str) : leS a b = true ∨ leS b a = true := by
  unfold leS
  rw [ltCps_eq, ltCps_eq]
  by_cases h : b.cps.toList < a.cps.toList
  · right
    have := List.lt_asymm h
    simp [this]
  · left
    simp [h]
theorem leS_anti {a b : Str} (h : leS a b = true) (h' : leS b a = true) : a = b := by
  unfold leS at h h'
  rw [ltCps_eq] at h h'
  simp at h h'
  have := List.le_antisymm h h'
  obtain ⟨x⟩ := a
  obtain ⟨y⟩ := b
  congr 1
  exact Array.toList_inj.mp this
theorem leS_trans {a b d : Str} (h : leS a b = true) (h' : leS b d = true) : leS a d = true := by
  unfold leS at *
  rw [ltCps_eq] at *
  simp at *
  exact List.le_trans h h'
theorem insS_perm (x : Str) : ∀ l, (insS x l).Perm (x :: l)
  | [] => .refl _
  | y :: r => by
    unfold insS
    split
    · exact .refl _
    · exact ((insS_perm x r).cons y).trans (List.Perm.swap x y r)
theorem sortS_perm : ∀ l, (sortS l).Perm l
  | [] => .refl _
  | x :: r => (insS_perm x _).trans ((sortS_perm r).cons x)
theorem insS_sorted (x : Str) : ∀ {l : List Str}, l.Pairwise (fun a b => leS a b = true) → (insS x l).Pairwise (fun a b => leS a b = true)
  | [], _ => by simp [insS]
  | y :: r, h => by
    unfold insS
    obtain ⟨h1, h2⟩ := List.pairwise_cons.mp h
    split
    · rename_i q
      refine List.pairwise_cons.mpr ⟨fun z hz => ?_, h⟩
      rcases List.mem_cons.mp hz with rfl | hz
      · exact q
      · exact leS_trans q (h1 z hz)
    · rename_i q
      have q' : leS y x = true := (leS_total x y).resolve_left q
      refine List.pairwise_cons.mpr ⟨fun z hz => ?_, insS_sorted x h2⟩
      rcases List.mem_cons.mp ((insS_perm x r).mem_iff.mp hz) with rfl | hz
      · exact q'
      · exact h1 z hz
theorem sortS_sorted : ∀ l, (sortS l).Pairwise (fun a b => leS a b = true)
  | [] => .nil
  | x :: r => insS_sorted x (sortS_sorted r)
theorem sorted_unique : ∀ {l l' : List Str}, l.Pairwise (fun a b => leS a b = true) → l'.Pairwise (fun a b => leS a b = true) → l.Perm l' → l = l'
  | [], l', _, _, p => (List.nil_perm.mp p).symm ▸ rfl
  | a :: t, [], _, _, p => by cases List.perm_nil.mp p
  | a :: t, b :: t', h, h', p => by
    obtain ⟨h1, h2⟩ := List.pairwise_cons.mp h
    obtain ⟨h1', h2'⟩ := List.pairwise_cons.mp h'
    have e : a = b := by
      rcases List.mem_cons.mp (p.mem_iff.mp (List.mem_cons_self (a := a) (l := t))) with q | q
      · exact q
      · rcases List.mem_cons.mp (p.mem_iff.mpr (List.mem_cons_self (a := b) (l := t'))) with q' | q'
        · exact q'.symm
        · exact leS_anti (h1 b q') (h1' a q)
    subst e
    rw [sorted_unique h2 h2' (List.Perm.cons_inv p)]
theorem rising_pairwise : ∀ (p : Str) (l : List Str), risingS p l = true → (∀ x ∈ l, leS p x = true) ∧ l.Pairwise (fun a b => leS a b = true)
  | p, [], _ => ⟨fun x m => (nomatch m), .nil⟩
  | p, x :: r, h => by
    have h0 : (!ltCps x.cps.toList p.cps.toList && risingS x r) = true := h
    rw [Bool.and_eq_true] at h0
    obtain ⟨h1, h2⟩ := rising_pairwise x r h0.2
    refine ⟨fun z hz => ?_, List.pairwise_cons.mpr ⟨h1, h2⟩⟩
    rcases List.mem_cons.mp hz with rfl | hz
    · exact h0.1
    · exact leS_trans (b := x) h0.1 (h1 z hz)
theorem sortedS_pairwise : ∀ {l : List Str}, sortedS l = true → l.Pairwise (fun a b => leS a b = true)
  | [], _ => .nil
  | x :: r, h => List.pairwise_cons.mpr (rising_pairwise x r h)
section
variable {c : Ctx0} {b : Nat}
noncomputable def sortG (ps : List PV) : SM PV := fun st => match ps with
  | [p] => (match items? st p with
    | some xs => (match texts? xs with
      | some ts => if ts.length < 64 then some (.lst ((sortS ts).map .str), st) else none
      | none => none)
    | none => none)
  | _ => none
theorem strs_of {l : List (Str × Tok)} : StrsAre (strValues l) (l.map (·.1)) := by
  induction l with
  | nil => exact .nil
  | cons p r ih => exact .cons p.1 p.2 ih
theorem rvs_strs {h : Heap} {ρ : Rho} {vs : List Value} {ts : List Str} (s : StrsAre vs ts) : RVs h ρ vs (ts.map .str) := by
  induction s with
  | nil => exact .nil
  | cons y t _ ih => exact .cons (.str y t) ih
theorem strs_len {vs : List Value} {ts : List Str} (s : StrsAre vs ts) : vs.length = ts.length := by
  induction s with
  | nil => rfl
  | cons y t _ ih => simp [ih]
theorem op_sorted : OpL c b (fun vs => call (.builtin "sorted") vs) sortG := by
  constructor
  intro A hA ρ s st vs ps y st' e r R
  unfold sortG at e
  split at e
  rotate_left
  · (first | obtain ⟨rfl, rfl⟩ := spr e | exact (nos e).elim | obtain rfl := Option.some.inj e | (first | obtain ⟨rfl, rfl⟩ := spr e | exact (nos e).elim | obtain rfl := Option.some.inj e | cases e))
  split at e
  rotate_left
  · (first | obtain ⟨rfl, rfl⟩ := spr e | exact (nos e).elim | obtain rfl := Option.some.inj e | (first | obtain ⟨rfl, rfl⟩ := spr e | exact (nos e).elim | obtain rfl := Option.some.inj e | cases e))
  rename_i xs hx
  split at e
  rotate_left
  · (first | obtain ⟨rfl, rfl⟩ := spr e | exact (nos e).elim | obtain rfl := Option.some.inj e | (first | obtain ⟨rfl, rfl⟩ := spr e | exact (nos e).elim | obtain rfl := Option.some.inj e | cases e))
  rename_i ts ht
  obtain ⟨hz, e⟩ := ite_some e
  (first | obtain ⟨rfl, rfl⟩ := spr e | exact (nos e).elim | obtain rfl := Option.some.inj e | (first | obtain ⟨rfl, rfl⟩ := spr e | exact (nos e).elim | obtain rfl := Option.some.inj e | cases e))
  obtain ⟨_, rfl, r1⟩ := rvs1 r
  obtain ⟨a, vs, rfl, q, rs⟩ := items_of R r1 hx
  obtain ⟨l, hv, hl⟩ := texts_of rs ht
  have hS : StrsAre vs.toList ts := by rw [hv, ← hl]; exact strs_of
  refine sorted_strs (vs := vs.toList) (by rw [Array.toArray_toList]; exact isL q) hS (by rw [strs_len hS]; exact hz) fun out ss' h1 h2 h3 => ?_
  have hss : ss' = sortS ts := sorted_unique (sortedS_pairwise h3) (sortS_sorted ts) (h2.trans (sortS_perm ts).symm)
  subst hss
  obtain ⟨S, g⟩ := R.ext fun b o e => sortedAll_old (vs := vs.toList) (out := out) e
  obtain ⟨en, he⟩ := sortedAll_at s.heap vs.toList out
  refine ⟨ρ, S, g, ⟨rfl, rfl, rfl⟩, .lst (vs := out.toList) (fun m => ?_) ⟨en, by rw [Array.toArray_toList]; exact he⟩ (rvs_strs h1)⟩
  obtain ⟨_, _, o, e⟩ := R.apart _ m
  exact absurd (Heap.lt_size e) (Nat.not_lt.mpr (Nat.le_succ _))
end
end Mine
end
section
set_option Elab.async false
set_option maxRecDepth 100000
set_option linter.unusedVariables false
set_option linter.unusedSimpArgs false
namespace Mine
open PySem PySem.Calls PySem.W PyProof.Rows
section
variable {c : Ctx0} {b : Nat} {f : FI}
noncomputable def isEdict (p : PV) (st : List AO) : Bool := match p with
  | .ref i => (match st[i]? with | some .edict => true | _ => false)
  | _ => false
theorem RelS.edictAt {K : Frag} {ρ : Rho} {st : List AO} {h : Heap} (R : RelS K ρ st h) {i : Nat} {a : Addr} (e : headAt ρ i = some a) (q : st[i]? = some .edict) : h.get? a = some { cls := .type "dict", data := .dict #[] } ∧ a ∈ ρ.own := by
  obtain ⟨r, hr⟩ := headAt_some e
  obtain ⟨a', e1, e2⟩ := R.objs i _ _ hr q
  (first | obtain ⟨rfl, rfl⟩ := spr e1 | exact (nos e1).elim | obtain rfl := Option.some.inj e1 | (first | obtain ⟨rfl, rfl⟩ := spr e1 | exact (nos e1).elim | obtain rfl := Option.some.inj e1 | cases e1))
  exact ⟨e2, mem_own (mem_flatten_at hr a (by simp))⟩
theorem edict_at {prog : Program} {w : World} {h : Heap} {a : Addr} (e : h.get? a = some { cls := .type "dict", data := .dict #[] }) : h.DictAt (PySem.strKind prog w) a [] 0 :=
  ⟨_, #[], e, ⟨rfl, rfl, rfl⟩, rfl, by intro i hi; simp at hi, by constructor, by simp⟩
theorem den_for_noitems {x : Str} {px apos cpos ps : Pos} {target : Expr} {body : List Stmt} {i : Nat} (ok : f.Ok) (hx : f.ln[i]? = some x) (hsm : ∃ o, c.K.lookup sysModules = some o) (hd : (x == ("__debug__" : Str)) = false := by decide) (hline : (apos.endLine == cpos.line) = true := by rfl)
    (hs : ∀ v, foldedSetIterable (.Call (.Attribute (.Name x px) "items" apos) [] [] cpos) f.env v = pure v := by intro _; rfl) :
    Den c b f RFl (exec (.For target (.Call (.Attribute (.Name x px) "items" apos) [] [] cpos) body [] ps) f.env) (bindE (getL i) fun p => guardE (isEdict p) (pureE .next)) := by
  constructor
  intro A hA ρ s es y es' e R
  obtain ⟨p, es₁, e1, e⟩ := bindE_some e
  obtain ⟨hp, e⟩ := guardE_some e
  (first | obtain ⟨rfl, rfl⟩ := spr e | exact (nos e).elim | obtain rfl := Option.some.inj e | (first | obtain ⟨rfl, rfl⟩ := spr e | exact (nos e).elim | obtain rfl := Option.some.inj e | cases e))
  unfold getL at e1
  split at e1
  rotate_left
  · (first | obtain ⟨rfl, rfl⟩ := spr e1 | exact (nos e1).elim | obtain rfl := Option.some.inj e1 | (first | obtain ⟨rfl, rfl⟩ := spr e1 | exact (nos e1).elim | obtain rfl := Option.some.inj e1 | cases e1))
  rename_i p' hg
  (first | obtain ⟨rfl, rfl⟩ := spr e1 | exact (nos e1).elim | obtain rfl := Option.some.inj e1 | (first | obtain ⟨rfl, rfl⟩ := spr e1 | exact (nos e1).elim | obtain rfl := Option.some.inj e1 | cases e1))
  obtain ⟨m, ns, nl, _⟩ := R.l
  have hself := nl i x hx
  rw [hg] at hself
  obtain ⟨v, hv, rv⟩ := rvo_some hself
  unfold isEdict at hp
  split at hp
  rotate_left
  · cases hp
  split at hp
  rotate_left
  · cases hp
  rename_i q
  obtain ⟨d, ha, rfl⟩ := rv.inv
  obtain ⟨hd0, hown⟩ := R.s.edictAt ha q
  have hdS : (d == sysModules) = false := by
    rw [beq_eq_false_iff_ne]
    rintro rfl
    obtain ⟨o, ho⟩ := hsm
    exact R.s.notK ho hown
  have hm := edict_at (prog := c.prog) (w := c.w) hd0
  have hof : s.heap.DictOf (PySem.strKind c.prog c.w) d [] := by
    obtain ⟨o, es, r⟩ := hm; exact ⟨o, es, 0, r⟩
  refine wpAny_For (wpAny_Call_items hdS hof rfl hline (fun Q' h => wpAny_Name (wpAny_loadName_local ok.kind (ok.loc x (List.mem_of_getElem? hx)) ns hv h) hd) ?_) hs
  have k1 : ∀ a o, s.heap.get? a = some o → (s.heap.push { cls := .type "dict_items", data := .fields #[.ref d] }).get? a = some o := fun a o e => Heap.get?_push_of_some _ e
  have hv1 : (s.heap.push { cls := .type "dict_items", data := .fields #[.ref d] }).IsItemsView s.heap.objs.size d := ⟨_, Heap.get?_push_size _ rfl, rfl, rfl⟩
  refine wpAny_pyIter_items hv1 (edict_at (k1 _ _ hd0)) ?_
  refine codeAny_forLoop_any (R := fun r s' => match r with | .ok fl => Ends c.K f RFl ρ s .next es fl s' | .error e => cameBackBy _ A f.env noE e s')
    (fun n s₂ => ∃ it, P4 ((∀ a o, s.heap.get? a = some o → s₂.heap.get? a = some o ∧ a ≠ it)) (it = (s.heap.push { cls := .type "dict_items", data := .fields #[.ref d] }).objs.size) (IsItemIter s₂.heap it d 0 0 0 .none .none) (Same s s₂)) ?_ 0 ?_
  · rintro n s₂ ⟨it, k2, rfl, hit, sm⟩
    refine wpAny_pyNext_items_end hA.handled hit (edict_at (prog := c.prog) (w := c.w) (k2 _ _ hd0).1) rfl fun h' hx' => ?_
    obtain ⟨S, g⟩ := R.s.ext (h' := h') fun a o e => hx' a o (k2 a o e).2 (k2 a o e).1
    exact wpAny_execs_nil ⟨ρ, R.ofS S g, g.wider (by simp), ⟨sm.1, sm.2.1, sm.2.2⟩, .next⟩
  · refine ⟨_, fun a o e => ⟨Heap.get?_push_of_some _ (k1 a o e), Nat.ne_of_lt (Heap.lt_size (k1 a o e))⟩, rfl, ?_, ⟨rfl, rfl, rfl⟩⟩
    exact Heap.get?_push_size _ rfl
theorem fun_defD {a : Addr} {fd : FuncData} {body : List Stmt} {names ln : List Str} {np : Nat} {li : List (Option Nat)} {F : FM PF} (X : DefAt c.K a fd body)
    (hcell : ∀ x ∈ fd.scope.names, x.2 ≠ .cell) (hloc : ∀ x ∈ names, fd.scope.names.lookup x = some .local) (nd : names.Nodup)
    (hln : ∀ x ∈ names, x ∈ ln) (hli : ln.map names.idxOf? = li) (hn : names.length = np + 1)
    (hbind : ∀ (M : Model) (A : Around) (E : Value → Shared → Prop) (s : Shared) (vs : List Value) (Q : List (Str × Value) → Shared → Prop), vs.length = np →
      Q (names.zip (vs ++ [.ref s.heap.objs.size])) { s with heap := s.heap.push { cls := .type "dict", data := .dict #[] } } → wpAny M A (bindArgs fd ⟨vs, []⟩) Q E s)
    (D : ∀ L, Den c b ⟨callEnv fd L a, ln, []⟩ RFl (execs body (callEnv fd L a)) F) : FunK c (b + 1) (.ref a) np [] (fun ps st => runK np [.ref st.length] li [] F ps (st ++ [.edict])) := by
  constructor
  · intro ps st r e
    unfold runK at e
    split at e
    · assumption
    · (first | obtain ⟨rfl, rfl⟩ := spr e | exact (nos e).elim | obtain rfl := Option.some.inj e | (first | obtain ⟨rfl, rfl⟩ := spr e | exact (nos e).elim | obtain rfl := Option.some.inj e | cases e))
  intro A hA ρ s st vs ps y st' e r R
  unfold runK at e
  split at e <;> try (first | obtain ⟨rfl, rfl⟩ := spr e | exact (nos e).elim | obtain rfl := Option.some.inj e | (first | obtain ⟨rfl, rfl⟩ := spr e | exact (nos e).elim | obtain rfl := Option.some.inj e | cases e))
  rename_i hlen
  split at e <;> (first | obtain ⟨rfl, rfl⟩ := spr e | exact (nos e).elim | obtain rfl := Option.some.inj e | (first | obtain ⟨rfl, rfl⟩ := spr e | exact (nos e).elim | obtain rfl := Option.some.inj e | cases e))
  rename_i fl es q
  have hvl := r.length
  have k0 : ∀ a o, s.heap.get? a = some o → (s.heap.push { cls := .type "dict", data := .dict #[] }).get? a = some o := fun a o e => Heap.get?_push_of_some _ e
  have hget : (s.heap.push { cls := .type "dict", data := .dict #[] }).get? s.heap.objs.size = some { cls := .type "dict", data := .dict #[] } := Heap.get?_push_size _ rfl
  obtain ⟨R₁, g₁⟩ := R.push (as := [s.heap.objs.size]) (ao := .edict) k0 (fun a m => by rw [List.mem_singleton.mp m]; exact get_ge (Nat.le_refl _)) (fun a m => by rw [List.mem_singleton.mp m]; exact ⟨_, hget⟩) (List.nodup_cons.mpr ⟨by simp, List.nodup_nil⟩) fun _ => ⟨_, rfl, hget⟩
  have r' : RVs (s.heap.push { cls := .type "dict", data := .dict #[] }) (ρ.push [s.heap.objs.size]) (vs ++ [.ref s.heap.objs.size]) (ps ++ [.ref st.length]) := (r.grow g₁ noFr).append (.cons (.ref (by rw [← R.len]; exact headAt_push)) .nil)
  have hvs : names.length = (vs ++ [Value.ref s.heap.objs.size]).length := by rw [List.length_append, hvl, hlen, hn]; rfl
  obtain ⟨oc, od, sl, ho⟩ := X.at_
  have hnm := zip_names (vs := vs ++ [Value.ref s.heap.objs.size]) hvs
  rw [List.take_of_length_le (by rw [hvl, hlen]; exact Nat.le_refl _), List.zip_nil_left]
  refine codeAny_call_function (fd := fd) (body := body) (by have := hA.depth; have : recursionLimit = 1000 := rfl; omega) (R.top _ _ ho) rfl X.co X.gen X.body (codeRec_of R.top X.code) (hbind _ _ _ s vs _ (by rw [hvl, hlen]) ?_)
  generalize hs₁ : ({ s with heap := s.heap.push { cls := .type "dict", data := .dict #[] } } : Shared) = s₁
  have hh1 : s₁.heap = s.heap.push { cls := .type "dict", data := .dict #[] } := by rw [← hs₁]
  rw [← hh1] at R₁ g₁ r' k0
  refine wpAny_newFunctionEnv hcell (fun x m => hloc x.1 (List.of_mem_zip m).1) (fun h₀ hns hsb => ?_) X.kind
  have hk : ∀ b o, s₁.heap.get? b = some o → h₀.get? b = some o := fun b o e => hsb.extBut b o (Nat.ne_of_lt (Heap.lt_size e)) (Heap.get?_push_of_some _ e)
  refine ⟨R₁.nolim.keeps hk, codeAny_func ?_⟩
  have fresh : s₁.heap.get? s₁.heap.objs.size = none := get_ge (Nat.le_refl _)
  obtain ⟨S, g₀⟩ := R₁.enter (wr := [s₁.heap.objs.size]) (h' := h₀) hk (fun a' m => by rw [List.mem_singleton.mp m]; exact fresh) (fun a' m => by rw [List.mem_singleton.mp m]; obtain ⟨o, _, _, e, _⟩ := hns; exact ⟨o, e⟩) (List.nodup_cons.mpr ⟨by simp, List.nodup_nil⟩)
  have hA' : AOk b (A.deeper (callEnv fd s₁.heap.objs.size a)) := ⟨hA.handled, by have := hA.depth; show A.depth + 1 + 2 * b ≤ 900; omega, by have := hA.units; show A.units + 3 + 20 * b ≤ 9000; omega⟩
  have RF : RelF c.K ⟨callEnv fd s₁.heap.objs.size a, ln, []⟩ ((ρ.push [s.heap.objs.size]).enter [s₁.heap.objs.size]) ⟨li.map fun o => o.bind fun i => (ps ++ [.ref st.length])[i]?, [], st ++ [.edict]⟩ h₀ := by
    refine ⟨S, ⟨_, hns, fun i x hx => ?_, fun x hx => ?_⟩, fun i x a' e => by simp at e, fun a' m => ?_, List.nodup_cons.mpr ⟨by simp, List.nodup_nil⟩⟩
    · rw [lookup_reverse (by rw [hnm]; exact nd)]
      have : (li.map fun o => o.bind fun i => (ps ++ [PV.ref st.length])[i]?)[i]? = some ((names.idxOf? x).bind fun i => (ps ++ [PV.ref st.length])[i]?) := by
        rw [List.getElem?_map, ← hli, List.getElem?_map, hx]; rfl
      rw [this]
      exact (rvs_zip_lookup r' hvs x).carry g₀
    · rw [lookup_reverse (by rw [hnm]; exact nd), lookup_none_of (by rintro ⟨p1, p2⟩ hp rfl; exact hx (hln _ (List.of_mem_zip hp).1))]
    · have : a' = s₁.heap.objs.size := by simp only [FI.fr, List.map_nil, List.mem_singleton] at m; exact m
      subst this; exact List.mem_append_left _ (List.mem_singleton.mpr rfl)
  refine wpAny_mono ((D s₁.heap.objs.size).run _ hA' _ { s₁ with heap := h₀, toks := s₁.toks + (names.zip (vs ++ [Value.ref s.heap.objs.size])).length } _ fl es q RF) (fun x s' z => ?_) fun _ _ z => z.elim
  obtain ⟨ρ', R', g, sm, rf⟩ := z
  have fin : ∀ v p, RV s'.heap ρ' v p → EndsS c.K RV ρ s p es.st v s' := fun v p rv => by
    obtain ⟨ρ₂, S₂, g₂, q₂, r₂⟩ := R₁.left hk (fun a' m => by rw [List.mem_singleton.mp m]; exact fresh) R'.s g (fun a' m => m) sm rv
    subst hs₁
    exact ⟨ρ₂, S₂, g₁.trans g₂, ⟨q₂.1, q₂.2.1, q₂.2.2⟩, r₂⟩
  cases rf with
  | next => exact fin _ _ .none
  | brk => exact fin _ _ .none
  | cont => exact fin _ _ .none
  | ret r => exact fin _ _ r
end
end Mine
end
section
set_option Elab.async false
set_option maxRecDepth 100000
set_option linter.unusedVariables false
set_option linter.unusedSimpArgs false
namespace Mine
open PySem PySem.Calls PySem.W PyProof.Rows
theorem loc_nil {P : Str → Prop} : ∀ x ∈ ([] : List Str), P x := fun _ m => nomatch m
theorem loc_cons {P : Str → Prop} {a : Str} {l : List Str} (h : P a) (t : ∀ x ∈ l, P x) : ∀ x ∈ a :: l, P x := fun x m => by
  rcases List.mem_cons.mp m with rfl | m
  · exact h
  · exact t x m
theorem ok_fn {fd : FuncData} {L a : Addr} {ln : List Str} {cns : List (Str × Nat)} (hk : fd.scope.kind = .function) (hg : fd.globals = mainGlobals) (hb : fd.builtins = builtinsNs) (hl : ∀ x ∈ ln, fd.scope.names.lookup x = some .local) (nd : ln.Nodup) : FI.Ok (FI.fn fd a ln cns L) :=
  ⟨hk, hg, hb, hl, nd⟩
theorem ok_call {fd : FuncData} {L a : Addr} {ln : List Str} {cn : List (Str × Addr)} (hk : fd.scope.kind = .function) (hg : fd.globals = mainGlobals) (hb : fd.builtins = builtinsNs) (hl : ∀ x ∈ ln, fd.scope.names.lookup x = some .local) (nd : ln.Nodup) : FI.Ok ⟨callEnv fd L a, ln, cn⟩ :=
  ⟨hk, hg, hb, hl, nd⟩
theorem ok_comp {f : FI} {scope : Scope} {cl : List (Str × Addr)} {ln : List Str} {C : Addr} (ok : f.Ok) (hk : scope.kind = .function) (hl : ∀ x ∈ ln, (compEnvC scope cl C f.env).kindOf x = some .local) (nd : ln.Nodup) : (f.comp scope cl ln C).Ok :=
  ⟨hk, ok.glob, ok.blt, hl, nd⟩
section
variable {c : Ctx0} {b : Nat} {f : FI}
theorem meth_or {name : Str} {P Q : PV → List AO → Bool} {fv : Value} (x : MethAt c name P fv) (y : MethAt c name Q fv) : MethAt c name (fun p st => P p st || Q p st) fv := by
  constructor
  intro A pl ρ s st v p K h r R q
  rw [Bool.or_eq_true] at h
  rcases h with h | h
  · exact x.run A pl ρ s st v p K h r R q
  · exact y.run A pl ρ s st v p K h r R q
noncomputable def orG (G G' : List PV → SM PV) (ps : List PV) : SM PV := fun st => match G ps st with
  | some r => some r
  | none => G' ps st
theorem op_or {t : List Value → Sem Value} {G G' : List PV → SM PV} (x : OpL c b t G) (y : OpL c b t G') : OpL c b t (orG G G') := by
  constructor
  intro A hA ρ s st vs ps y' st' e r R
  unfold orG at e
  split at e
  · rename_i q; (first | obtain ⟨rfl, rfl⟩ := spr e | exact (nos e).elim | obtain rfl := Option.some.inj e | (first | obtain ⟨rfl, rfl⟩ := spr e | exact (nos e).elim | obtain rfl := Option.some.inj e | cases e)); exact x.run A hA ρ s st vs ps _ _ q r R
  · exact y.run A hA ρ s st vs ps _ _ e r R
structure LstOk (K : Frag) (C : Addr) (name : Str) : Prop where
  ex : ∃ cd, P3 (clsIn K C = some cd) (cd.mro = [.ref C, .type "list", .type "object"]) (cd.hasDict = true)
  set : findIn K (.ref C) "__setattr__" = some (some (.builtin "object.__setattr__"))
  tk : takerIn K C name = some none
theorem dena_lst {o : Expr} {name : Str} {pos : Pos} {C : Addr} {F : FM PV} (d : Den c b f RV (eval o f.env) F) (ok : LstOk c.K C name) : DenA c b f (.Attribute o name pos) (fun v => bindE F fun p => liftS (setLst C name p v)) := by
  obtain ⟨cd, h1, h2, h3⟩ := ok.ex
  constructor
  intro A hA ρ s es v p y es' e r R
  obtain ⟨po, es₁, e1, e⟩ := bindE_some e
  obtain ⟨st', e2, rfl⟩ := liftS_some e
  rw [assign_Attribute]
  refine wpAny_bind (wpAny_holding (wpAny_mono (d.run A hA ρ s es po es₁ e1 R) (fun o s₁ z => ?_) fun _ _ z => z))
  obtain ⟨ρ₁, R₁, g₁, q₁, r₁⟩ := z
  refine wpAny_bind (wpAny_standAt (wpAny_bind (wpAny_holding (wpAny_mono ((op_setLst (b := b) h1 h2 h3 ok.set ok.tk).run A hA ρ₁ s₁ es₁.st o po v p () st' e2 r₁ (r.grow g₁ R.like) R₁.s) (fun _ s₂ z => ?_) fun _ _ z => z))))
  exact wpAny_release ((z.toF R₁).after g₁ q₁)
end
end Mine
end
section
set_option Elab.async false
set_option maxRecDepth 100000
set_option linter.unusedVariables false
set_option linter.unusedSimpArgs false
namespace Mine
open PySem PySem.Calls PySem.W PyProof.Rows
theorem hint_str (x : Str) (t : Tok) : Builtin.List.listLengthHint (.str x t) = pure false := by kernel_rfl
theorem type_str' (x : Str) (t : Tok) : typeOf (.str x t) = pure (.type "str") := rfl
section
variable {prog : Program} {w : World} {A : Around} {R : Result → Shared → Prop} {I S : Addr} {fp wr : List Addr} {n : Nat} {P : Nat → Value → Prop} {St : Nat → Heap → Prop}
theorem ext_loop (W : Walks prog w A.in1 I fp wr n P St) (hS : S ∉ fp) : ∀ (k i : Nat) (s : Shared) (acc : Array Value) (m : Nat), n - i = k → i ≤ n → St i s.heap → s.heap.get? S = some { cls := .type "list", data := .seq acc m } → acc.size + (n - i) ≤ sizeLine →
    (∀ s' (us : List Value) (m' : Nat), us.length = n - i → (∀ (j : Nat) v, us[j]? = some v → P (i + j) v) → s'.heap.get? S = some { cls := .type "list", data := .seq (acc ++ us.toArray) m' } → (∀ a o, a ∉ wr → a ≠ S → s.heap.get? a = some o → s'.heap.get? a = some o) → Same s s' → R (.ok (.ret .none)) s') →
    codeAny (model prog w) A (.builtin "list.extend.loop" ⟨[.ref S, .ref I, .none], []⟩) R s := by
  intro k
  induction k with
  | zero =>
    intro i s acc m hk hi hst hs hz h
    have hin : i = n := Nat.le_antisymm hi (Nat.le_of_sub_eq_zero hk)
    subst hin
    refine codeAny_builtin F.entry_extend_loop ?_
    rw [Around.under_plainId F.plain_extend_loop _]
    show wpAny _ A.in1 (pyNext (.ref I) >>= _) _ _ s
    refine wpAny_bind (W.done s _ _ hst fun h' tk kp => ?_)
    have hSw : S ∉ wr := fun q => hS (W.sub _ q)
    exact wpAny_pure (h _ [] m (by simp) (fun j v e => by simp at e) (by simpa using kp S _ hSw hs) (fun a o na _ e => kp a o na e) ⟨rfl, rfl, rfl⟩)
  | succ k ih =>
    intro i s acc m hk hi hst hs hz h
    have hlt : i < n := Nat.lt_of_sub_pos (hk ▸ Nat.succ_pos k)
    have hSw : S ∉ wr := fun q => hS (W.sub _ q)
    refine codeAny_builtin F.entry_extend_loop ?_
    rw [Around.under_plainId F.plain_extend_loop _]
    show wpAny _ A.in1 (pyNext (.ref I) >>= _) _ _ s
    refine wpAny_bind (W.item i s _ _ hlt hst fun v h' tk hv st' kp => ?_)
    have hs' := kp S _ hSw hs
    have hni : n - i = n - (i + 1) + 1 := by rw [← Nat.sub_sub, Nat.sub_add_cancel (Nat.sub_pos_of_lt hlt)]
    have hz1 : acc.size + 1 + (n - (i + 1)) ≤ sizeLine := by rw [hni] at hz; rw [Nat.add_assoc, Nat.add_comm 1]; exact hz
    have hz0 : acc.size ≤ sizeLine := Nat.le_trans (Nat.le_add_right _ _) hz
    show wpAny _ A.in1 (updateSeq S (·.push v) >>= _) _ _ _
    refine wpAny_bind (wpAny_updateSeq hs' rfl (wpAny_pure ⟨plainId_quiet F.plain_extend_loop _, ?_⟩) hz0 (by show (acc.push v).size ≤ sizeLine + 1; rw [Array.size_push]; exact Nat.succ_le_succ hz0))
    have hs2 : (h'.update S (Obj.mapSeq (·.push v))).get? S = some { cls := .type "list", data := .seq (acc.push v) (if (acc.push v).size == acc.size then m else m + 1) } := by
      rw [Heap.get?_update_self _ hs' (by unfold Obj.mapSeq; rfl)]; rfl
    refine ih (i + 1) _ (acc.push v) _ (Nat.succ.inj (hni.symm.trans hk)) hlt (W.frame _ h' _ st' fun b hb o e => (Heap.get?_update_other _ _ (fun q : S = b => hS (q ▸ hb))).trans e) hs2 (by rw [Array.size_push]; exact hz1) fun s'' us m' hl hp hs3 kk sm => ?_
    refine h s'' (v :: us) m' (by rw [List.length_cons, hl, hni]) (fun j u e => ?_) (by rw [hs3]; simp) (fun a o na nS e => kk a o na nS ((Heap.get?_update_other _ _ (Ne.symm nS)).trans (kp a o na e))) ⟨sm.1, sm.2.1, sm.2.2⟩
    cases j with
    | zero => simp at e; subst e; exact hv
    | succ j => simp at e; have := hp j u e; rwa [Nat.add_right_comm] at this
end
section
variable {c : Ctx0} {b : Nat}
noncomputable def extendS (ps : List PV) : SM PV := fun st => match ps with
  | [.ref i, .str x] => (match st[i]? with
    | some (.list xs) => if x.cps.all (· < 128) = true ∧ xs.length + x.cps.size ≤ sizeLine then some (.none, st.set i (.list (xs ++ charsOf x))) else none
    | _ => none)
  | _ => none
theorem op_extendS : OpL c b (fun vs => call (.builtin "list.extend") vs) extendS := by
  constructor
  intro A hA ρ s st vs ps y st' e r R
  unfold extendS at e
  split at e
  rotate_left
  · (first | obtain ⟨rfl, rfl⟩ := spr e | exact (nos e).elim | obtain rfl := Option.some.inj e | (first | obtain ⟨rfl, rfl⟩ := spr e | exact (nos e).elim | obtain rfl := Option.some.inj e | cases e))
  rename_i i x
  split at e
  rotate_left
  · (first | obtain ⟨rfl, rfl⟩ := spr e | exact (nos e).elim | obtain rfl := Option.some.inj e | (first | obtain ⟨rfl, rfl⟩ := spr e | exact (nos e).elim | obtain rfl := Option.some.inj e | cases e))
  rename_i xs q
  obtain ⟨⟨ha, hz⟩, e⟩ := ite_some e
  (first | obtain ⟨rfl, rfl⟩ := spr e | exact (nos e).elim | obtain rfl := Option.some.inj e | (first | obtain ⟨rfl, rfl⟩ := spr e | exact (nos e).elim | obtain rfl := Option.some.inj e | cases e))
  obtain ⟨_, _, rfl, r1, r2⟩ := rvs2 r
  obtain ⟨a, hd, rfl⟩ := r1.inv
  obtain ⟨t, rfl⟩ := r2.inv
  obtain ⟨us, n, e0, rs, hr⟩ := R.listAt hd q
  have hl := rs.length
  rw [Array.length_toList] at hl
  have hT : s.TypeIs (.ref a) "list" := ⟨_, e0, rfl⟩
  refine wpAny_call (codeAny_call_builtin F.slot_list_extend.plain F.entry_list_extend (F.slot_list_extend.check _ _ _ _ _ _ _ _ hT (F.args_list_extend_2 _ _) ?_))
  unfold Builtin.«list.extend»
  refine wpAny_bind (wpAny_of_eq (a := (.ref a, .str x t)) rfl ?_)
  unfold Builtin.List.listExtendWith
  refine wpAny_bind (wpAny_of_eq (type_str' x t) ?_)
  rw [if_neg (by simp [Builtin.List.listSameRef])]
  refine wpAny_bind (wpAny_pyIter_ascii ha ?_)
  refine wpAny_bind (wpAny_holding (wpAny_of_eq (hint_str x t) ?_))
  rw [if_neg (by decide)]
  refine wpAny_pure ⟨plainId_quiet F.plain_extend_loop _, ?_⟩
  have k0 : ∀ a o, s.heap.get? a = some o → (s.heap.push { cls := .type "str_ascii_iterator", data := .fields #[.str x t, .int 0 0] }).get? a = some o := fun a o e => Heap.get?_push_of_some _ e
  have hne : a ≠ s.heap.objs.size := Nat.ne_of_lt (Heap.lt_size e0)
  refine ext_loop (Walks.strAscii (A := A.in1) hA.handled s.heap.objs.size x t) (by simpa using hne) x.cps.size 0 _ us n (by simp) (Nat.zero_le _) ⟨_, Heap.get?_push_size _ rfl, rfl, rfl⟩ (k0 _ _ e0) (by rw [hl]; omega) fun s' vs m' hvl hv hs' kk sm => ?_
  have rn : RVs s'.heap ρ vs (charsOf x) := by
    have hlen : vs.length = (charsOf x).length := by rw [hvl]; simp [charsOf]
    have : ∀ (us : List Value) (ps : List PV), us.length = ps.length → (∀ (j : Nat) u p, us[j]? = some u → ps[j]? = some p → RV s'.heap ρ u p) → RVs s'.heap ρ us ps := by
      intro us
      induction us with
      | nil => intro ps h _; cases ps with | nil => exact .nil | cons _ _ => cases h
      | cons u us ih =>
        intro ps h hh
        cases ps with
        | nil => cases h
        | cons p ps => exact .cons (hh 0 u p rfl rfl) (ih ps (by simpa using h) fun j u' p' h1 h2 => hh (j + 1) u' p' (by simpa using h1) (by simpa using h2))
    refine this _ _ hlen fun j u p h1 h2 => ?_
    obtain ⟨cp, t', hc, rfl⟩ := hv j u h1
    unfold charsOf at h2
    rw [Nat.zero_add] at hc
    rw [List.getElem?_map, Array.getElem?_toList, hc] at h2
    cases h2; exact .str _ _
  obtain ⟨S, g⟩ := R.put (i := i) (ao' := .list (xs ++ charsOf x)) (h' := s'.heap) hr (fun b o eb nb => by
      have hb : b ≠ a := by simpa using nb
      exact kk b o (by simpa using Nat.ne_of_lt (Heap.lt_size eb)) hb (k0 _ _ eb)) (fun b m => by rw [List.mem_singleton.mp m]; exact ⟨_, hs'⟩)
    fun g => ⟨a, us ++ vs.toArray, m', rfl, hs', by rw [Array.toList_append]; exact (rs.carry (g.carry noFr)).append rn⟩
  exact ⟨ρ, S, g, ⟨sm.1, sm.2.1, sm.2.2⟩, .none⟩
end
end Mine
end
section
set_option Elab.async false
set_option maxRecDepth 100000
set_option linter.unusedVariables false
namespace Mine
open PySem PySem.Calls PySem.W PyProof.Rows
noncomputable abbrev C2 (w : World) : Ctx0 := ⟨PySem.Challenge.rw_tc0040_02.row.prog, w, kFrag w.params⟩
end Mine
end
section
set_option Elab.async false
set_option maxRecDepth 100000
set_option linter.unusedVariables false
set_option linter.unusedSimpArgs false
namespace Mine
open PySem PySem.Calls PySem.W PyProof.Rows
theorem two_sz : (2 : Nat) ≤ sizeLine := by rw [sizeLine_eq]; omega
theorem five_sz {n : Nat} (h : n ≤ 100) : n ≤ sizeLine := by rw [sizeLine_eq]; omega
section
variable {β γ : Type} {es es₁ es₂ : ES}
theorem e_bind {m : FM β} {k : β → FM γ} {y : β} {r : Option (γ × ES)} (h1 : m es = some (y, es₁)) (h2 : k y es₁ = r) : bindE m k es = r := by
  unfold bindE; rw [h1]; exact h2
theorem e_bin {F₁ F₂ : FM PV} {G : PV → PV → SM PV} {p q r : PV} {st' : List AO} (h1 : F₁ es = some (p, es₁)) (h2 : F₂ es₁ = some (q, es₂)) (h3 : G p q es₂.st = some (r, st')) : (bindE F₁ fun p => bindE F₂ fun q => liftS (G p q)) es = some (r, ⟨es₂.loc, es₂.cel, st'⟩) :=
  e_bind h1 (e_bind h2 (by unfold liftS; rw [h3]))
theorem e_lift {F : FM PV} {G : PV → SM γ} {p : PV} {r : γ} {st' : List AO} (h1 : F es = some (p, es₁)) (h3 : G p es₁.st = some (r, st')) : (bindE F fun p => liftS (G p)) es = some (r, ⟨es₁.loc, es₁.cel, st'⟩) :=
  e_bind h1 (by unfold liftS; rw [h3])
theorem e_seq {x y : FM PF} {r : Option (PF × ES)} (h1 : x es = some (.next, es₁)) (h2 : y es₁ = r) : seqE x y es = r := by
  unfold seqE; exact e_bind h1 h2
theorem e_asg {X : FM PV} {S : PV → FM Unit} {p : PV} (h1 : X es = some (p, es₁)) (h2 : S p es₁ = some ((), es₂)) : (bindE X fun p => bindE (S p) fun _ => pureE PF.next) es = some (PF.next, es₂) :=
  e_bind h1 (e_bind h2 rfl)
theorem e_ite {m : FM Bool} {x y : FM β} {t : Bool} {r : Option (β × ES)} (h1 : m es = some (t, es₁)) (h2 : (if t then x else y) es₁ = r) : iteE m x y es = r := e_bind h1 h2
theorem e_cons {X : FM PV} {Y : FM (List PV)} {p : PV} {ps : List PV} (h1 : X es = some (p, es₁)) (h2 : Y es₁ = some (ps, es₂)) : consE X Y es = some (p :: ps, es₂) := by
  unfold consE; exact e_bind h1 (e_bind h2 rfl)
theorem e_aug {old X : FM PV} {G : PV → PV → SM PV} {S : PV → FM Unit} {p q r : PV} {st' : List AO} {es₃ : ES} (h1 : old es = some (p, es₁)) (h2 : X es₁ = some (q, es₂)) (h3 : G p q es₂.st = some (r, st')) (h4 : S r ⟨es₂.loc, es₂.cel, st'⟩ = some ((), es₃)) : augE old X G S es = some (.next, es₃) := by
  unfold augE; exact e_bind (e_bin h1 h2 h3) (e_bind h4 rfl)
theorem e_tup {Y : FM (List PV)} {ps : List PV} (h1 : Y es = some (ps, es₁)) (hz : ps.length ≤ sizeLine) : bindE Y tupE es = some (.tup ps, es₁) :=
  e_bind h1 (by unfold tupE; rw [if_pos hz]; rfl)
theorem e_lst {Y : FM (List PV)} {ps : List PV} (h1 : Y es = some (ps, es₁)) : (bindE Y fun zs => pureE (PV.lst zs)) es = some (PV.lst ps, es₁) := e_bind h1 rfl
end
section
variable {γ : Type} {es : ES}
theorem p_bin {F₁ F₂ : FM PV} {G : PV → PV → SM PV} {p q r : PV} (h1 : F₁ es = some (p, es)) (h2 : F₂ es = some (q, es)) (h3 : G p q es.st = some (r, es.st)) : (bindE F₁ fun p => bindE F₂ fun q => liftS (G p q)) es = some (r, es) := e_bin h1 h2 h3
theorem p_lift {F : FM PV} {G : PV → SM γ} {p : PV} {r : γ} (h1 : F es = some (p, es)) (h3 : G p es.st = some (r, es.st)) : (bindE F fun p => liftS (G p)) es = some (r, es) := e_lift h1 h3
theorem p_cons {X : FM PV} {Y : FM (List PV)} {p : PV} {ps : List PV} (h1 : X es = some (p, es)) (h2 : Y es = some (ps, es)) : consE X Y es = some (p :: ps, es) := e_cons h1 h2
theorem p_tup2 {X Y : FM PV} {p q : PV} (h1 : X es = some (p, es)) (h2 : Y es = some (q, es)) : bindE (consE X (consE Y (pureE []))) tupE es = some (.tup [p, q], es) := e_tup (p_cons h1 (p_cons h2 rfl)) two_sz
end
theorem p_call {FA : FM (List PV)} {G : List PV → SM PV} {ps : List PV} {r : PV} {es : ES} (h1 : FA es = some (ps, es)) (h2 : G ps es.st = some (r, es.st)) : (bindE FA fun ps => liftS (G ps)) es = some (r, es) := e_bind h1 (by unfold liftS; rw [h2])
section
variable {es es₁ es₂ : ES}
theorem e_meth {F : FM PV} {A : FM (List PV)} {P : PV → List AO → Bool} {G : List PV → SM PV} {p r : PV} {ps : List PV} {st' : List AO} (h1 : F es = some (p, es₁)) (hg : P p es₁.st = true) (h2 : A es₁ = some (ps, es₂)) (h3 : G (p :: ps) es₂.st = some (r, st')) :
    (bindE F fun p => guardE (P p) (bindE A fun ps => liftS (G (p :: ps)))) es = some (r, ⟨es₂.loc, es₂.cel, st'⟩) :=
  e_bind h1 (by unfold guardE; rw [if_pos hg]; exact e_bind h2 (by unfold liftS; rw [h3]))
theorem p_meth {F : FM PV} {A : FM (List PV)} {P : PV → List AO → Bool} {G : List PV → SM PV} {p r : PV} {ps : List PV} (h1 : F es = some (p, es)) (hg : P p es.st = true) (h2 : A es = some (ps, es)) (h3 : G (p :: ps) es.st = some (r, es.st)) :
    (bindE F fun p => guardE (P p) (bindE A fun ps => liftS (G (p :: ps)))) es = some (r, es) := e_meth h1 hg h2 h3
theorem e_expr {X : FM PV} {p : PV} (h1 : X es = some (p, es₁)) : (bindE X fun _ => pureE PF.next) es = some (PF.next, es₁) := e_bind h1 rfl
theorem p_lst2 {X Y : FM PV} {p q : PV} (h1 : X es = some (p, es)) (h2 : Y es = some (q, es)) : bindE (consE X (consE Y (pureE []))) lstE es = some (.lst [p, q], es) :=
  e_bind (p_cons h1 (p_cons h2 rfl)) (by unfold lstE; rw [if_pos (show [p, q].length ≤ sizeLine from two_sz)]; rfl)
end
theorem isInst_of {st : List AO} {i C : Nat} {kvs : List (Str × PV)} {name : Str} (h : st[i]? = some (.inst C kvs)) (hn : kvGet kvs name = none) : isInst C name (.ref i) st = true := by
  have e : instOf st (.ref i) = some (C, kvs) := by
    unfold instOf
    dsimp only
    rw [h]
  unfold isInst
  rw [e]
  dsimp only
  rw [hn]
  simp
theorem truth_ref {st : List AO} {i : Nat} {xs : List PV} (hi : st[i]? = some (.list xs)) (h : xs.length ≤ 100) : truthG (.ref i) st = some (!xs.isEmpty, st) := by
  unfold truthG
  dsimp only
  rw [hi]
  dsimp only
  rw [if_pos (five_sz h)]
theorem truth_bool (t : Bool) (st : List AO) : truthG (.bool t) st = some (t, st) := rfl
theorem append_ref {st : List AO} {i : Nat} {xs : List PV} {p : PV} (h : st[i]? = some (.list xs)) (hz : xs.length ≤ 100) : appendG [.ref i, p] st = some (.none, st.set i (.list (xs ++ [p]))) := by
  unfold appendG
  dsimp only
  rw [h]
  dsimp only
  rw [if_pos (five_sz hz)]
theorem isLst_ref {st : List AO} {i : Nat} {xs : List PV} (h : st[i]? = some (.list xs)) : isLst (.ref i) st = true := by
  unfold isLst items?
  dsimp only
  rw [h]
  rfl
end Mine
end
section
set_option Elab.async false
set_option maxRecDepth 100000
set_option linter.unusedVariables false
namespace Mine
open PySem PySem.Calls PySem.W PyProof.Rows
theorem gn__netrclex (w : World) : nsIn (C2 w).K mainGlobals (Str.ofString "_netrclex") = some (some (.ref 76)) := by kernel_rfl
theorem gn__Accumulator (w : World) : nsIn (C2 w).K mainGlobals (Str.ofString "_Accumulator") = some (some (.ref 160)) := by kernel_rfl
theorem gn_Headers (w : World) : nsIn (C2 w).K mainGlobals (Str.ofString "Headers") = some (some (.ref 308)) := by kernel_rfl
theorem gn__name_disallowed_re (w : World) : nsIn (C2 w).K mainGlobals (Str.ofString "_name_disallowed_re") = some (some (.ref 174)) := by kernel_rfl
theorem gn__value_disallowed_re (w : World) : nsIn (C2 w).K mainGlobals (Str.ofString "_value_disallowed_re") = some (some (.ref 179)) := by kernel_rfl
theorem gn__law_lexer (w : World) : nsIn (C2 w).K mainGlobals (Str.ofString "_law_lexer") = some (some (.ref 319)) := by kernel_rfl
theorem gn__law_names (w : World) : nsIn (C2 w).K mainGlobals (Str.ofString "_law_names") = some (some (.ref 326)) := by kernel_rfl
theorem gn__law_ties (w : World) : nsIn (C2 w).K mainGlobals (Str.ofString "_law_ties") = some (some (.ref 333)) := by kernel_rfl
theorem gn__law_order (w : World) : nsIn (C2 w).K mainGlobals (Str.ofString "_law_order") = some (some (.ref 338)) := by kernel_rfl
theorem gn__law_kept (w : World) : nsIn (C2 w).K mainGlobals (Str.ofString "_law_kept") = some (some (.ref 343)) := by kernel_rfl
theorem gn__law_crossed (w : World) : nsIn (C2 w).K mainGlobals (Str.ofString "_law_crossed") = some (some (.ref 350)) := by kernel_rfl
theorem gn__law_drawn (w : World) : nsIn (C2 w).K mainGlobals (Str.ofString "_law_drawn") = some (some (.ref 357)) := by kernel_rfl
theorem gn__law_gone (w : World) : nsIn (C2 w).K mainGlobals (Str.ofString "_law_gone") = some (some (.ref 362)) := by kernel_rfl
theorem gn__law_back (w : World) : nsIn (C2 w).K mainGlobals (Str.ofString "_law_back") = some (some (.ref 367)) := by kernel_rfl
theorem gn_range (w : World) : nsIn (C2 w).K mainGlobals (Str.ofString "range") = some none := by kernel_rfl
theorem bn_range (w : World) : nsIn (C2 w).K builtinsNs (Str.ofString "range") = some (some (.type "range")) := by kernel_rfl
theorem gn_int (w : World) : nsIn (C2 w).K mainGlobals (Str.ofString "int") = some none := by kernel_rfl
theorem bn_int (w : World) : nsIn (C2 w).K builtinsNs (Str.ofString "int") = some (some (.type "int")) := by kernel_rfl
theorem gn_sum (w : World) : nsIn (C2 w).K mainGlobals (Str.ofString "sum") = some none := by kernel_rfl
theorem bn_sum (w : World) : nsIn (C2 w).K builtinsNs (Str.ofString "sum") = some (some (.builtin "sum")) := by kernel_rfl
theorem gn_list (w : World) : nsIn (C2 w).K mainGlobals (Str.ofString "list") = some none := by kernel_rfl
theorem bn_list (w : World) : nsIn (C2 w).K builtinsNs (Str.ofString "list") = some (some (.type "list")) := by kernel_rfl
theorem gn_len (w : World) : nsIn (C2 w).K mainGlobals (Str.ofString "len") = some none := by kernel_rfl
theorem bn_len (w : World) : nsIn (C2 w).K builtinsNs (Str.ofString "len") = some (some (.builtin "len")) := by kernel_rfl
theorem gn_sorted (w : World) : nsIn (C2 w).K mainGlobals (Str.ofString "sorted") = some none := by kernel_rfl
theorem bn_sorted (w : World) : nsIn (C2 w).K builtinsNs (Str.ofString "sorted") = some (some (.builtin "sorted")) := by kernel_rfl
theorem gn_iter (w : World) : nsIn (C2 w).K mainGlobals (Str.ofString "iter") = some none := by kernel_rfl
theorem bn_iter (w : World) : nsIn (C2 w).K builtinsNs (Str.ofString "iter") = some (some (.builtin "iter")) := by kernel_rfl
theorem gn_type (w : World) : nsIn (C2 w).K mainGlobals (Str.ofString "type") = some none := by kernel_rfl
theorem bn_type (w : World) : nsIn (C2 w).K builtinsNs (Str.ofString "type") = some (some (.type "type")) := by kernel_rfl
theorem gn_str (w : World) : nsIn (C2 w).K mainGlobals (Str.ofString "str") = some none := by kernel_rfl
theorem bn_str (w : World) : nsIn (C2 w).K builtinsNs (Str.ofString "str") = some (some (.type "str")) := by kernel_rfl
theorem sysm (w : World) : ∃ o, (C2 w).K.lookup sysModules = some o := ⟨_, rfl⟩
theorem fn_read (w : World) : Mine.fnIn (C2 w).K 59 := ⟨_, _, rfl, rfl⟩
theorem lst_ok (w : World) : LstOk (C2 w).K 160 (Str.ofString "_initial_size") := ⟨⟨_, rfl, rfl, rfl⟩, by kernel_rfl, by kernel_rfl⟩
theorem pat_n (w : World) : PatOk (C2 w).K 174 codeN ctlN := ⟨code_names, ⟨_, _, _, _, _, rfl, _, _, _, _, _, rfl, by kernel_rfl⟩⟩
theorem pat_v (w : World) : PatOk (C2 w).K 179 (codeC 4294966783 0 0 2147483648 0 0 0 0) (inWords 4294966783 0 0 2147483648 0 0 0 0) := ⟨code_words .., ⟨_, _, _, _, _, rfl, _, _, _, _, _, rfl, by kernel_rfl⟩⟩
end Mine
end
section
set_option Elab.async false
set_option maxRecDepth 100000
set_option linter.unusedVariables false
namespace Mine
open PySem PySem.Calls PySem.W PyProof.Rows
noncomputable abbrev ln_conv : List Str := [Str.ofString "self", Str.ofString "value", Str.ofString "name", Str.ofString "regex"]
noncomputable abbrev cn_conv : List (Str × Nat) := []
theorem loc_conv : ∀ x ∈ ln_conv, (defS (at2 P2 12 1)).names.lookup x = some .local := by decide +kernel
theorem nd_conv : ln_conv.Nodup := by decide +kernel
noncomputable def b_conv : { b : List Stmt // defB (at2 P2 12 1) = b } := ⟨[_, _], rfl⟩
noncomputable def s_conv (w : World) : { F : FM PF // ∀ L, Den (C2 w) 1 (FI.fn fd209 209 ln_conv cn_conv L) RFl (execs (defB (at2 P2 12 1)) (callEnvC fd209 L 209)) F } := ⟨_, fun L => by
  have ok : FI.Ok (FI.fn fd209 209 ln_conv cn_conv L) := ok_fn (fd := fd209) rfl rfl rfl loc_conv nd_conv
  rw [b_conv.2]
  exact (dens_cons (den_if (dent_compare (den_call (den_builtin ok (by kernel_rfl) (gn_type w) (bn_type w)) keepOk_type (denl_cons (den_local (i := 1) ok rfl) denl_nil) op_type) (den_builtin ok (by kernel_rfl) (gn_str w) (bn_str w)) op_isT)
      (dens_cons (den_assign (den_ifexp (dent_value (den_local (i := 2) ok rfl)) (den_global ok (by kernel_rfl) (gn__name_disallowed_re w)) (den_global ok (by kernel_rfl) (gn__value_disallowed_re w))) (dena_local (i := 3) ok rfl))
    (dens_cons (den_if (dent_value (den_method (den_local (i := 3) ok rfl) (meth_or (meth_search (pat_n w)) (meth_search (pat_v w))) keepOk_builtin (denl_cons (den_local (i := 1) ok rfl) denl_nil) (op_or (op_search (pat_n w)) (op_search (pat_v w)))))
      (dens_cons den_never
    dens_nil)
      dens_nil)
    (dens_cons (den_return (den_local (i := 1) ok rfl))
    dens_nil)))
      dens_nil)
    (dens_cons den_never
    dens_nil))⟩
theorem x_conv (w : World) : DefK (C2 w).K 209 fd209 (defB (at2 P2 12 1)) [Str.ofString "self", Str.ofString "value", Str.ofString "name"] ln_conv cn_conv := ⟨⟨⟨_, _, _, rfl⟩, by kernel_rfl, rfl, rfl, rfl, rfl⟩, rfl, fun L => rfl, by decide +kernel, by decide +kernel, by decide +kernel, loc_conv, by decide +kernel⟩
theorem r_conv (w : World) : FunK (C2 w) 2 (.ref 209) 2 [Str.ofString "name"] (runK (2 + 1) [] [some 0, some 1, some 2, none] [] (s_conv w).1) := fun_defK (x_conv w) (dvs := []) (fun _ _ => .nil) rfl (by decide +kernel) (by decide +kernel) (fun s vs ws h1 h2 X => by
  obtain ⟨v0, v1, rfl⟩ := ln2 h1
  obtain ⟨u0, rfl⟩ := ln1 h2
  exact BindsTo.of_eq (by kernel_rfl)) (s_conv w).2
noncomputable abbrev ln_names : List Str := []
noncomputable abbrev cn_names : List (Str × Nat) := []
theorem loc_names : ∀ x ∈ ln_names, (defS (at1 P2 15)).names.lookup x = some .local := by decide +kernel
theorem nd_names : ln_names.Nodup := by decide +kernel
noncomputable def b_names : { b : List Stmt // defB (at1 P2 15) = b } := ⟨[_], rfl⟩
noncomputable def s_names (w : World) : { F : FM PF // ∀ L, Den (C2 w) 1 (FI.fn fd326 326 ln_names cn_names L) RFl (execs (defB (at1 P2 15)) (callEnvC fd326 L 326)) F } := ⟨_, fun L => by
  have ok : FI.Ok (FI.fn fd326 326 ln_names cn_names L) := ok_fn (fd := fd326) rfl rfl rfl loc_names nd_names
  rw [b_names.2]
  exact (dens_cons (den_return den_str)
    dens_nil)⟩
theorem x_names (w : World) : DefK (C2 w).K 326 fd326 (defB (at1 P2 15)) [] ln_names cn_names := ⟨⟨⟨_, _, _, rfl⟩, by kernel_rfl, rfl, rfl, rfl, rfl⟩, rfl, fun L => rfl, by decide +kernel, by decide +kernel, by decide +kernel, loc_names, by decide +kernel⟩
theorem r_names (w : World) : FunK (C2 w) 2 (.ref 326) 0 [] (runK (0 + 0) [] [] [] (s_names w).1) := fun_defK (x_names w) (dvs := []) (fun _ _ => .nil) rfl (by decide +kernel) (by decide +kernel) (fun s vs ws h1 h2 X => by
  obtain rfl := ln0 h1
  obtain rfl := ln0 h2
  exact BindsTo.of_eq (by kernel_rfl)) (s_names w).2
noncomputable abbrev ln_init76 : List Str := [Str.ofString "self", Str.ofString "fp"]
noncomputable abbrev cn_init76 : List (Str × Nat) := []
theorem loc_init76 : ∀ x ∈ ln_init76, (defS (at2 P2 3 0)).names.lookup x = some .local := by decide +kernel
theorem nd_init76 : ln_init76.Nodup := by decide +kernel
noncomputable def b_init76 : { b : List Stmt // defB (at2 P2 3 0) = b } := ⟨[_, _, _, _], rfl⟩
noncomputable def s_init76 (w : World) : { F : FM PF // ∀ L, Den (C2 w) 1 (FI.fn fd52 52 ln_init76 cn_init76 L) RFl (execs (defB (at2 P2 3 0)) (callEnvC fd52 L 52)) F } := ⟨_, fun L => by
  have ok : FI.Ok (FI.fn fd52 52 ln_init76 cn_init76 L) := ok_fn (fd := fd52) rfl rfl rfl loc_init76 nd_init76
  rw [b_init76.2]
  exact (dens_cons (den_assign den_int (dena_attr (den_local (i := 0) ok rfl)))
    (dens_cons (den_assign (den_local (i := 1) ok rfl) (dena_attr (den_local (i := 0) ok rfl)))
    (dens_cons (den_assign den_str (dena_attr (den_local (i := 0) ok rfl)))
    (dens_cons (den_assign (den_list_new denl_nil) (dena_attr (den_local (i := 0) ok rfl)))
    dens_nil))))⟩
theorem x_init76 (w : World) : DefK (C2 w).K 52 fd52 (defB (at2 P2 3 0)) [Str.ofString "self", Str.ofString "fp"] ln_init76 cn_init76 := ⟨⟨⟨_, _, _, rfl⟩, by kernel_rfl, rfl, rfl, rfl, rfl⟩, rfl, fun L => rfl, by decide +kernel, by decide +kernel, by decide +kernel, loc_init76, by decide +kernel⟩
theorem r_init76 (w : World) : FunK (C2 w) 2 (.ref 52) 2 [] (runK (2 + 0) [] [some 0, some 1] [] (s_init76 w).1) := fun_defK (x_init76 w) (dvs := []) (fun _ _ => .nil) rfl (by decide +kernel) (by decide +kernel) (fun s vs ws h1 h2 X => by
  obtain ⟨v0, v1, rfl⟩ := ln2 h1
  obtain rfl := ln0 h2
  exact BindsTo.of_eq (by kernel_rfl)) (s_init76 w).2
noncomputable abbrev ln_ptoken : List Str := [Str.ofString "self", Str.ofString "token"]
noncomputable abbrev cn_ptoken : List (Str × Nat) := []
theorem loc_ptoken : ∀ x ∈ ln_ptoken, (defS (at2 P2 3 3)).names.lookup x = some .local := by decide +kernel
theorem nd_ptoken : ln_ptoken.Nodup := by decide +kernel
noncomputable def b_ptoken : { b : List Stmt // defB (at2 P2 3 3) = b } := ⟨[_], rfl⟩
noncomputable def s_ptoken (w : World) : { F : FM PF // ∀ L, Den (C2 w) 1 (FI.fn fd73 73 ln_ptoken cn_ptoken L) RFl (execs (defB (at2 P2 3 3)) (callEnvC fd73 L 73)) F } := ⟨_, fun L => by
  have ok : FI.Ok (FI.fn fd73 73 ln_ptoken cn_ptoken L) := ok_fn (fd := fd73) rfl rfl rfl loc_ptoken nd_ptoken
  rw [b_ptoken.2]
  exact (dens_cons (den_expr (den_method (den_attr (den_local (i := 0) ok rfl)) (meth_list F.slot_list_append F.type_list_append) keepOk_builtin (denl_cons (den_local (i := 1) ok rfl) denl_nil) op_append) (by kernel_rfl))
    dens_nil)⟩
theorem x_ptoken (w : World) : DefK (C2 w).K 73 fd73 (defB (at2 P2 3 3)) [Str.ofString "self", Str.ofString "token"] ln_ptoken cn_ptoken := ⟨⟨⟨_, _, _, rfl⟩, by kernel_rfl, rfl, rfl, rfl, rfl⟩, rfl, fun L => rfl, by decide +kernel, by decide +kernel, by decide +kernel, loc_ptoken, by decide +kernel⟩
theorem r_ptoken (w : World) : FunK (C2 w) 2 (.ref 73) 2 [] (runK (2 + 0) [] [some 0, some 1] [] (s_ptoken w).1) := fun_defK (x_ptoken w) (dvs := []) (fun _ _ => .nil) rfl (by decide +kernel) (by decide +kernel) (fun s vs ws h1 h2 X => by
  obtain ⟨v0, v1, rfl⟩ := ln2 h1
  obtain rfl := ln0 h2
  exact BindsTo.of_eq (by kernel_rfl)) (s_ptoken w).2
end Mine
end
section
set_option Elab.async false
set_option maxRecDepth 100000
set_option linter.unusedVariables false
set_option linter.unusedSimpArgs false
namespace Mine
open PySem PySem.Calls PySem.W PyProof.Rows
theorem FunK.sub {c : Ctx0} {b np : Nat} {fv : Value} {kn : List Str} {G G' : List PV → SM PV} (o : FunK c b fv np kn G) (h : ∀ ps st r, G' ps st = some r → G ps st = some r) : FunK c b fv np kn G' :=
  ⟨fun ps st r e => o.len ps st r (h ps st r e), fun A hA ρ s st vs ps y st' e r R => o.run A hA ρ s st vs ps y st' (h ps st _ e) r R⟩
noncomputable def plainTxt (x : Str) : Bool := x.cps.all (fun u => decide (32 ≤ u ∧ u < 127)) && decide (x.cps.size ≤ 1000)
theorem plain_n : ∀ u, 32 ≤ u → u < 127 → ctlN u = false := by
  intro u h1 h2
  have : ∀ u : Fin 127, 32 ≤ u.val → ctlN u.val = false := by decide +kernel
  exact this ⟨u, h2⟩ h1
theorem plain_v : ∀ u, 32 ≤ u → u < 127 → inWords 4294966783 0 0 2147483648 0 0 0 0 u = false := by
  intro u h1 h2
  have : ∀ u : Fin 127, 32 ≤ u.val → inWords 4294966783 0 0 2147483648 0 0 0 0 u.val = false := by decide +kernel
  exact this ⟨u, h2⟩ h1
theorem plainTxt_all {x : Str} (h : plainTxt x = true) : x.cps.all (fun u => !ctlN u) = true ∧ x.cps.all (fun u => !inWords 4294966783 0 0 2147483648 0 0 0 0 u) = true ∧ x.cps.size ≤ 16777216 := by
  simp only [plainTxt, Bool.and_eq_true, decide_eq_true_eq] at h
  obtain ⟨h1, h2⟩ := h
  rw [Array.all_eq_true] at h1
  refine ⟨?_, ?_, by omega⟩
  · rw [Array.all_eq_true]
    intro i hi
    have := of_decide_eq_true (h1 i hi)
    rw [plain_n _ this.1 this.2]; rfl
  · rw [Array.all_eq_true]
    intro i hi
    have := of_decide_eq_true (h1 i hi)
    rw [plain_v _ this.1 this.2]; rfl
noncomputable def convG (ps : List PV) : SM PV := fun st => match ps with
  | [_, .str x, .bool _] => if plainTxt x = true then some (.str x, st) else none
  | _ => none
theorem v_conv (w : World) : ∀ ps st r, convG ps st = some r → runK (2 + 1) [] [some 0, some 1, some 2, none] [] (s_conv w).1 ps st = some r := by
  intro ps st r e
  unfold convG at e
  split at e
  · rename_i p x n
    obtain ⟨h, e⟩ := ite_then e
    (first | obtain ⟨rfl, rfl⟩ := spr e | exact (nos e).elim | obtain rfl := Option.some.inj e | cases e)
    obtain ⟨h1, h2, h3⟩ := plainTxt_all h
    cases n <;> simp [runK, s_conv, seqE, bindE, pureE, failE, iteE, liftS, guardE, getL, setL, consE, typeG, isT, truthG, isPat, orG, searchG, retOf, h1, h2, h3]
  · (first | obtain ⟨rfl, rfl⟩ := spr e | exact (nos e).elim | obtain rfl := Option.some.inj e | cases e)
theorem k_conv (w : World) : FunK (C2 w) 2 (.ref 209) 2 [Str.ofString "name"] convG := (r_conv w).sub (v_conv w)
end Mine
end
section
set_option Elab.async false
set_option maxRecDepth 100000
set_option linter.unusedVariables false
set_option linter.unusedSimpArgs false
namespace Mine
open PySem PySem.Calls PySem.W PyProof.Rows
noncomputable abbrev pcS : Option Stmt := (defB (at1 P2 14))[2]?
noncomputable abbrev qP : Str := Str.ofString "_law_lexer.<locals>._law_piece"
noncomputable abbrev tmP : FuncData := tmOf (Str.ofString "_law_piece") qP (defA pcS) (defB pcS) (defS pcS) (sv "law_tc0040_02" 711)
noncomputable abbrev ln_piece : List Str := [Str.ofString "count", Str.ofString "piece"]
noncomputable abbrev cnP : List Str := [Str.ofString "text", Str.ofString "gone"]
theorem loc_piece : ∀ x ∈ ln_piece, (defS pcS).names.lookup x = some .local := by decide +kernel
theorem nd_piece : ln_piece.Nodup := by decide +kernel
theorem tm_piece : TmOk tmP (defB pcS) [Str.ofString "count"] ln_piece :=
  { body := rfl, co := rfl, gen := rfl, kind := rfl, glob := rfl, blt := rfl, cell := by decide +kernel, par := by decide +kernel, nd := by decide +kernel, sub := by decide +kernel,
    bind := fun cl T c' s vs h => by
      match vs, h with
      | [v], _ => exact BindsTo.of_eq (by kernel_rfl) }
noncomputable def b_piece : { b : List Stmt // defB pcS = b } := ⟨[_, _, _], rfl⟩
noncomputable def s_piece (w : World) : { F : FM PF // ∀ cs T c' L f, cs.length = cnP.length → Den (C2 w) 1 ⟨callEnv (cloFd tmP (cnP.zip cs) T c') L f, ln_piece, cnP.zip cs⟩ RFl (execs (defB pcS) (callEnv (cloFd tmP (cnP.zip cs) T c') L f)) F } := ⟨_, fun cs T c' L f h => by
  match cs, h with
  | [c1, c2], _ =>
    have ok : FI.Ok ⟨callEnv (cloFd tmP (cnP.zip [c1, c2]) T c') L f, ln_piece, cnP.zip [c1, c2]⟩ := ok_call (fd := cloFd tmP (cnP.zip [c1, c2]) T c') rfl rfl rfl loc_piece nd_piece
    rw [b_piece.2]
    exact (dens_cons (den_assign (den_slice (den_cell (i := 0) ok rfl (by kernel_rfl) (.inr (by kernel_rfl))) (denp_some (den_call (den_builtin ok (by kernel_rfl) (gn_len w) (bn_len w)) keepOk_builtin (denl_cons (den_cell (i := 1) ok rfl (by kernel_rfl) (.inr (by kernel_rfl))) denl_nil) op_len)) (denp_some (den_binop (den_call (den_builtin ok (by kernel_rfl) (gn_len w) (bn_len w)) keepOk_builtin (denl_cons (den_cell (i := 1) ok rfl (by kernel_rfl) (.inr (by kernel_rfl))) denl_nil) op_len) (den_local (i := 0) ok rfl) op_addG)) denp_none) (dena_local (i := 1) ok rfl))
      (dens_cons (den_expr (den_method (den_cell (i := 1) ok rfl (by kernel_rfl) (.inr (by kernel_rfl))) (meth_list F.slot_list_extend F.type_list_extend) keepOk_builtin (denl_cons (den_local (i := 1) ok rfl) denl_nil) op_extendS) (by kernel_rfl))
      (dens_cons (den_return (den_local (i := 1) ok rfl)) dens_nil)))⟩
end Mine
end
section
set_option Elab.async false
set_option maxRecDepth 100000
set_option linter.unusedVariables false
set_option linter.unusedSimpArgs false
namespace Mine
open PySem PySem.Calls PySem.W PyProof.Rows
noncomputable def pieceAt (text : Str) (n : Nat) : Str := match text.cps[n]? with
  | some u => ⟨#[u]⟩
  | none => Str.empty
theorem range_one {a : Nat} : sliceRange (a : Int) ((a : Int) + 1) 1 = [a] := by
  unfold sliceRange
  have h1 : ((a : Int) < a + 1) := by omega
  have h2 : ((a : Int) + 1 - a + 1 - 1) / 1 = 1 := by omega
  simp only [h1, if_true, h2, Int.toNat_one]
  simp [List.range_succ]
theorem range_none {a : Int} : sliceRange a a 1 = [] := by
  unfold sliceRange; simp
theorem indices_one (n len : Nat) : Builtin.Str.strSliceIndices (some (n : Int)) (some ((n : Int) + 1)) 1 len = if n < len then [n] else [] := by
  unfold Builtin.Str.strSliceIndices
  have n0 : (0 : Int) ≤ (n : Int) := Int.natCast_nonneg n
  have n1 : (0 : Int) ≤ (n : Int) + 1 := Int.natCast_nonneg (n + 1)
  have h0 : ¬ ((n : Int) < 0) := Int.not_lt.mpr n0
  have h1 : ¬ ((n : Int) + 1 < 0) := Int.not_lt.mpr n1
  have hp : (1 : Int) > 0 := by decide
  simp only [h0, h1, if_false, hp, if_true]
  by_cases h : n < len
  · rw [if_pos h, Int.min_eq_left (Int.ofNat_le.mpr (Nat.le_of_lt h)), Int.max_eq_right n0, Int.min_eq_left (a := (n : Int) + 1) (Int.ofNat_le.mpr h), Int.max_eq_right n1]
    exact range_one
  · have h' : len ≤ n := Nat.le_of_not_lt h
    rw [if_neg h, Int.min_eq_right (Int.ofNat_le.mpr h'), Int.max_eq_right (Int.natCast_nonneg len), Int.min_eq_right (a := (n : Int) + 1) (Int.ofNat_le.mpr (Nat.le_succ_of_le h')), Int.max_eq_right (Int.natCast_nonneg len)]
    exact range_none
theorem str_one {x : Str} (h : x.cps.size = 1) : ∃ u, x = ⟨#[u]⟩ ∧ x.cps[0]? = some u := by
  obtain ⟨⟨l⟩⟩ := x
  match l, h with
  | [u], _ => exact ⟨u, rfl, rfl⟩
theorem slice_piece (text : Str) (n : Nat) : sliceS text (some (n : Int)) (some ((n : Int) + 1)) none = pieceAt text n := by
  unfold sliceS pieceAt
  simp only [Option.getD_none, indices_one]
  show (if ((1 : Int) == 1 && (if n < text.length then [n] else []).length == text.length) = true then text else _) = _
  by_cases h : n < text.length
  · rw [if_pos h]
    have hg : text.cps[n]? = some text.cps[n] := Array.getElem?_eq_getElem h
    by_cases h1 : text.cps.size = 1
    · have hn : n = 0 := by have : n < text.cps.size := h; omega
      subst hn
      obtain ⟨u, hu, hu2⟩ := str_one h1
      have : ((1 : Int) == 1 && [0].length == text.length) = true := by
        have : text.length = 1 := h1
        rw [this]; rfl
      rw [if_pos this, hu2]
      exact hu
    · have : ¬ (((1 : Int) == 1 && [n].length == text.length) = true) := by
        simp
        intro q; exact h1 q.symm
      rw [if_neg this, List.filterMap_cons, hg]
      rfl
  · rw [if_neg h]
    have hg : text.cps[n]? = none := Array.getElem?_eq_none (Nat.le_of_not_lt h)
    rw [hg]
    by_cases h0 : text.length = 0
    · rw [h0]
      simp
      obtain ⟨⟨l⟩⟩ := text
      cases l with
      | nil => rfl
      | cons a l => cases h0
    · have : ¬ (((1 : Int) == 1 && ([] : List Nat).length == text.length) = true) := by
        simp
        intro q; exact h0 q.symm
      rw [if_neg this]
      rfl
end Mine
end
section
set_option Elab.async false
set_option maxRecDepth 100000
set_option linter.unusedVariables false
set_option linter.unusedSimpArgs false
namespace Mine
open PySem PySem.Calls PySem.W PyProof.Rows
theorem pieceAt_len (text : Str) (n : Nat) : (pieceAt text n).cps.size ≤ 1 := by
  unfold pieceAt
  split
  · exact Nat.le_refl _
  · exact Nat.zero_le _
theorem pieceAt_ascii {text : Str} (h : text.cps.all (· < 128) = true) (n : Nat) : (pieceAt text n).cps.all (· < 128) = true := by
  unfold pieceAt
  cases hq : text.cps[n]? with
  | none => exact Array.all_eq_true.mpr fun i hi => absurd hi (Nat.not_lt_zero i)
  | some u =>
    have hu := hq
    rw [Array.all_eq_true] at h
    obtain ⟨hi, he⟩ := Array.getElem?_eq_some_iff.mp hu
    have := h n hi
    rw [he] at this
    simpa using this
open Classical in
noncomputable def pieceG (p : PV) (ps : List PV) : SM PV := fun st => match p, ps with
  | .ref i, [.int 1] => (match st[i]? with
    | some (.clo tm names [some (.str text), some (.ref g)]) => if tm = tmP ∧ names = cnP ∧ text.cps.all (· < 128) = true ∧ text.cps.size ≤ 1000 then (match st[g]? with
      | some (.list xs) => if xs.length ≤ 2000 then some (.str (pieceAt text xs.length), st.set g (.list (xs ++ charsOf (pieceAt text xs.length)))) else none
      | _ => none) else none
    | _ => none)
  | _, _ => none
theorem set_set_back {st : List AO} {i g : Nat} {x y z : AO} (e : st[i]? = some z) (ne : i ≠ g) : ((st.set i x).set g y).set i z = st.set g y := by
  apply List.ext_getElem?
  intro k
  by_cases h1 : i = k
  · subst h1
    have hi : i < st.length := (List.getElem?_eq_some_iff.mp e).1
    rw [List.getElem?_set_self (by simpa using hi), List.getElem?_set_ne (Ne.symm ne), e]
  · rw [List.getElem?_set_ne h1]
    by_cases h2 : g = k
    · subst h2
      by_cases hg : g < st.length
      · rw [List.getElem?_set_self (by simpa using hg), List.getElem?_set_self hg]
      · rw [List.getElem?_eq_none (by simpa using hg), List.getElem?_eq_none (by simpa using hg)]
    · rw [List.getElem?_set_ne h2, List.getElem?_set_ne h2, List.getElem?_set_ne h1]
theorem k_piece (w : World) : OpV (C2 w) 2 pieceG := by
  refine op_clo (li := [some 0, none]) tm_piece (by decide +kernel) (s_piece w).2 fun p ps st y st' e => ?_
  unfold pieceG at e
  split at e
  rotate_left
  · (first | obtain ⟨rfl, rfl⟩ := spr e | exact (nos e).elim | obtain rfl := Option.some.inj e | cases e)
  rename_i i
  split at e
  rotate_left
  · (first | obtain ⟨rfl, rfl⟩ := spr e | exact (nos e).elim | obtain rfl := Option.some.inj e | cases e)
  rename_i tm names text g q
  have e' := by classical exact ite_then e
  clear e
  obtain ⟨⟨r1, r2, ha, hz⟩, e⟩ := e'
  subst r1 r2
  split at e
  rotate_left
  · (first | obtain ⟨rfl, rfl⟩ := spr e | exact (nos e).elim | obtain rfl := Option.some.inj e | cases e)
  rename_i xs qg
  obtain ⟨hx, e⟩ := ite_some e
  (first | obtain ⟨rfl, rfl⟩ := spr e | exact (nos e).elim | obtain rfl := Option.some.inj e | cases e)
  have hne : i ≠ g := by rintro rfl; rw [q] at qg; cases qg
  refine ⟨i, _, rfl, q, rfl, fun cl => ?_⟩
  have hi : i < st.length := (List.getElem?_eq_some_iff.mp q).1
  have hg : g < st.length := (List.getElem?_eq_some_iff.mp qg).1
  have h1 : (st.set i (.fn tmP cl))[g]? = some (.list xs) := by rw [List.getElem?_set_ne hne]; exact qg
  have hs1 : xs.length ≤ sizeLine := by rw [sizeLine_eq]; omega
  have hs2 : (pieceAt text xs.length).length ≤ sizeLine := by rw [sizeLine_eq]; have := pieceAt_len text xs.length; show (pieceAt text xs.length).cps.size ≤ _; omega
  have hs3 : xs.length + (pieceAt text xs.length).cps.size ≤ sizeLine := by rw [sizeLine_eq]; have := pieceAt_len text xs.length; omega
  refine ⟨.ret (.str (pieceAt text xs.length)), ⟨[some (.int 1), some (.str (pieceAt text xs.length))], [some (.str text), some (.ref g)], (st.set i (.fn tmP cl)).set g (.list (xs ++ charsOf (pieceAt text xs.length)))⟩, ?_, ?_, rfl, rfl, ?_⟩
  · have hl : (List.map (fun o => o.bind fun i => ([PV.int 1] : List PV)[i]?) [some 0, none]) = [some (.int 1), none] := rfl
    rw [hl]
    simp [s_piece, seqE, bindE, pureE, liftS, guardE, getL, setL, getC, consE, lenG, items?, h1, hs1, addG, sliceG, part?, slice_piece, hs2, isLst, extendS, pieceAt_ascii ha, hs3]
  · rw [List.getElem?_set_ne (Ne.symm hne), List.getElem?_set_self hi]
  · exact (set_set_back q hne).symm
end Mine
end
section
set_option Elab.async false
set_option maxRecDepth 100000
set_option linter.unusedVariables false
set_option linter.unusedSimpArgs false
namespace Mine
open PySem PySem.Calls PySem.W PyProof.Rows
theorem OpL.sub {c : Ctx0} {b : Nat} {t : List Value → Sem Value} {G G' : List PV → SM PV} (o : OpL c b t G) (h : ∀ ps st r, G' ps st = some r → G ps st = some r) : OpL c b t G' :=
  ⟨fun A hA ρ s st vs ps y st' e r R => o.run A hA ρ s st vs ps y st' (h ps st _ e) r R⟩
theorem get_app {α : Type} (st l : List α) (k : Nat) : (st ++ l)[st.length + k]? = l[k]? := by
  rw [List.getElem?_append_right (Nat.le_add_right _ _), Nat.add_sub_cancel_left]
theorem get_app0 {α : Type} (st l : List α) : (st ++ l)[st.length]? = l[0]? := get_app st l 0
theorem set_app {α : Type} (st l : List α) (k : Nat) (y : α) : (st ++ l).set (st.length + k) y = st ++ l.set k y := by
  rw [List.set_append_right _ _ (Nat.le_add_right _ _), Nat.add_sub_cancel_left]
theorem set_app0 {α : Type} (st l : List α) (y : α) : (st ++ l).set st.length y = st ++ l.set 0 y := set_app st l 0 y
noncomputable abbrev nLine : Str := Str.ofString "lineno"
noncomputable abbrev nIn : Str := Str.ofString "instream"
noncomputable abbrev nWs : Str := Str.ofString "whitespace"
noncomputable abbrev nPb : Str := Str.ofString "pushback"
noncomputable abbrev nRd : Str := Str.ofString "read"
noncomputable abbrev wsS : Str := Str.ofString "\n\t\r "
noncomputable abbrev kv76 (n : Int) (p : PV) (j : Nat) : List (Str × PV) := [(nLine, .int n), (nIn, p), (nWs, .str wsS), (nPb, .ref j)]
theorem so_line (w : World) : setOk (kFrag w.params) 76 nLine = true := by kernel_rfl
theorem so_in (w : World) : setOk (kFrag w.params) 76 nIn = true := by kernel_rfl
theorem so_ws (w : World) : setOk (kFrag w.params) 76 nWs = true := by kernel_rfl
theorem so_pb (w : World) : setOk (kFrag w.params) 76 nPb = true := by kernel_rfl
theorem so_rd (w : World) : setOk (kFrag w.params) 76 nRd = true := by kernel_rfl
theorem put0 (x : Str) (p : PV) : kvPut [] x p = [(x, p)] := rfl
theorem put1 (p q : PV) : kvPut [(nLine, p)] nIn q = [(nLine, p), (nIn, q)] := by kernel_rfl
theorem put2 (p q r : PV) : kvPut [(nLine, p), (nIn, q)] nWs r = [(nLine, p), (nIn, q), (nWs, r)] := by kernel_rfl
theorem put3 (p q r t : PV) : kvPut [(nLine, p), (nIn, q), (nWs, r)] nPb t = [(nLine, p), (nIn, q), (nWs, r), (nPb, t)] := by kernel_rfl
theorem put4 (p q r t u : PV) : kvPut [(nLine, p), (nIn, q), (nWs, r), (nPb, t)] nRd u = [(nLine, p), (nIn, q), (nWs, r), (nPb, t), (nRd, u)] := by kernel_rfl
theorem getL2 (p q : PV) (l : List (Str × PV)) : kvGet ((nLine, p) :: (nIn, q) :: l) nIn = some q := by kernel_rfl
theorem getL3 (p q r : PV) (l : List (Str × PV)) : kvGet ((nLine, p) :: (nIn, q) :: (nWs, r) :: l) nWs = some r := by kernel_rfl
theorem getL4 (p q r t : PV) (l : List (Str × PV)) : kvGet ((nLine, p) :: (nIn, q) :: (nWs, r) :: (nPb, t) :: l) nPb = some t := by kernel_rfl
theorem getL5 (p q r t u : PV) : kvGet [(nLine, p), (nIn, q), (nWs, r), (nPb, t), (nRd, u)] nRd = some u := by kernel_rfl
noncomputable def make76G (ps : List PV) : SM PV := fun st => match ps with
  | [p] => some (.ref st.length, st ++ [.inst 76 (kv76 1 p (st.length + 1)), .list []])
  | _ => none
theorem sl0 : (0 : Nat) ≤ sizeLine := Nat.zero_le _
theorem k_make76 (w : World) : OpL (C2 w) 3 (fun vs => call (.ref 76) vs) make76G := by
  refine (op_make (C := 76) (fI := 52) (by kernel_rfl) (by kernel_rfl) (by kernel_rfl) (r_init76 w)).sub fun ps st r e => ?_
  unfold make76G at e
  split at e
  · rename_i p
    (first | obtain ⟨rfl, rfl⟩ := spr e | exact (nos e).elim | obtain rfl := Option.some.inj e | cases e)
    simp [makeG, runK, s_init76, seqE, bindE, pureE, liftS, getL, consE, newE, setA, so_line, so_in, so_ws, so_pb, get_app0, set_app0, put0, put1, put2, put3, retOf, sl0]
  · (first | obtain ⟨rfl, rfl⟩ := spr e | exact (nos e).elim | obtain rfl := Option.some.inj e | cases e)
end Mine
end
section
set_option Elab.async false
set_option maxRecDepth 100000
set_option linter.unusedVariables false
namespace Mine
open PySem PySem.Calls PySem.W PyProof.Rows
theorem code_lexer (w : World) : CodeAt (C2 w).K 318 314 := ⟨⟨_, _, _, _, _, _, _, _, _, rfl, rfl, rfl, rfl, rfl, rfl, rfl, rfl⟩, by decide⟩
theorem pm_lexer (w : World) : nsIn (C2 w).K mainGlobals "__name__" = some (some (sv "law_tc0040_02" 711)) := by kernel_rfl
theorem blt_lexer (w : World) : ∀ M h, (C2 w).K.In h → Looks M h (builtinsFor mainGlobals builtinsNs) builtinsNs := fun M h X => Looks.of_peek X (by kernel_rfl)
noncomputable abbrev ln_read : List Str := [Str.ofString "self", Str.ofString "ch"]
noncomputable abbrev cn_read : List (Str × Nat) := []
theorem loc_read : ∀ x ∈ ln_read, (defS (at2 P2 3 1)).names.lookup x = some .local := by decide +kernel
theorem nd_read : ln_read.Nodup := by decide +kernel
noncomputable def b_read : { b : List Stmt // defB (at2 P2 3 1) = b } := ⟨[_, _, _], rfl⟩
noncomputable def s_read (w : World) : { F : FM PF // ∀ L, Den (C2 w) 2 (FI.fn fd59 59 ln_read cn_read L) RFl (execs (defB (at2 P2 3 1)) (callEnvC fd59 L 59)) F } := ⟨_, fun L => by
  have ok : FI.Ok (FI.fn fd59 59 ln_read cn_read L) := ok_fn (fd := fd59) rfl rfl rfl loc_read nd_read
  rw [b_read.2]
  exact (dens_cons (den_assign (den_method_own (den_attr (den_local (i := 0) ok rfl)) (C := 76) (by kernel_rfl) (denl_cons den_int denl_nil) (k_piece w)) (dena_local (i := 1) ok rfl))
    (dens_cons (den_if (dent_compare (den_local (i := 1) ok rfl) den_str op_eqS)
      (dens_cons (den_aug_attr (den_local (i := 0) ok rfl) den_int op_iaddG)
    dens_nil)
      dens_nil)
    (dens_cons (den_return (den_local (i := 1) ok rfl))
    dens_nil)))⟩
theorem x_read (w : World) : DefK (C2 w).K 59 fd59 (defB (at2 P2 3 1)) [Str.ofString "self"] ln_read cn_read := ⟨⟨⟨_, _, _, rfl⟩, by kernel_rfl, rfl, rfl, rfl, rfl⟩, rfl, fun L => rfl, by decide +kernel, by decide +kernel, by decide +kernel, loc_read, by decide +kernel⟩
theorem r_read (w : World) : FunK (C2 w) 3 (.ref 59) 1 [] (runK (1 + 0) [] [some 0, none] [] (s_read w).1) := fun_defK (x_read w) (dvs := []) (fun _ _ => .nil) rfl (by decide +kernel) (by decide +kernel) (fun s vs ws h1 h2 X => by
  obtain ⟨v0, rfl⟩ := ln1 h1
  obtain rfl := ln0 h2
  exact BindsTo.of_eq (by kernel_rfl)) (s_read w).2
noncomputable abbrev ln_lexer : List Str := [Str.ofString "stream", Str.ofString "_law_piece"]
noncomputable abbrev cn_lexer : List (Str × Nat) := [(Str.ofString "gone", 2), (Str.ofString "text", 1)]
theorem loc_lexer : ∀ x ∈ ln_lexer, (defS (at1 P2 14)).names.lookup x = some .local := by decide +kernel
theorem nd_lexer : ln_lexer.Nodup := by decide +kernel
noncomputable def b_lexer : { b : List Stmt // defB (at1 P2 14) = b } := ⟨[_, _, _, _, _], rfl⟩
noncomputable def s_lexer (w : World) : { F : Addr → FM PF // ∀ L, Den (C2 w) 3 (FI.fn fd319 319 ln_lexer cn_lexer L) RFl (execs (defB (at1 P2 14)) (callEnvC fd319 L 319)) (F L) } := ⟨_, fun L => by
  have ok : FI.Ok (FI.fn fd319 319 ln_lexer cn_lexer L) := ok_fn (fd := fd319) rfl rfl rfl loc_lexer nd_lexer
  rw [b_lexer.2]
  exact (dens_cons (den_assign (den_call (den_global ok (by kernel_rfl) (gn__netrclex w)) (keepOk_ref (a := 76) (by kernel_rfl)) (denl_cons den_none denl_nil) ((k_make76 w).weak (by decide))) (dena_local (i := 0) ok rfl))
    (dens_cons (den_assign (den_list_new denl_nil) (dena_cell (i := 0) ok rfl (by kernel_rfl) (by kernel_rfl)))
    (dens_cons (den_fundef (q := qP) (j := 1) (it := 0) (P := 314) (cc := 318) (cl := (cnAt cn_lexer L).reverse) ok rfl rfl rfl rfl rfl (by kernel_rfl) (by kernel_rfl) rfl rfl (code_lexer w) (pm_lexer w) (blt_lexer w) rfl)
    (dens_cons (den_assign (den_local (i := 1) ok rfl) (dena_attr (den_local (i := 0) ok rfl)))
    (dens_cons (den_return (den_call (den_global ok (by kernel_rfl) (gn__netrclex w)) (keepOk_ref (a := 76) (by kernel_rfl)) (denl_cons (den_local (i := 0) ok rfl) denl_nil) ((k_make76 w).weak (by decide))))
    dens_nil)))))⟩
end Mine
end
section
set_option Elab.async false
set_option maxRecDepth 100000
set_option linter.unusedVariables false
set_option linter.unusedSimpArgs false
namespace Mine
open PySem PySem.Calls PySem.W PyProof.Rows
noncomputable abbrev kvW (n : Int) (p : PV) (ws : Str) (j : Nat) : List (Str × PV) := [(nLine, .int n), (nIn, p), (nWs, .str ws), (nPb, .ref j)]
structure Lex (st : List AO) (i k j r g : Nat) (n : Int) (ws : Str) (j2 : Nat) (text : Str) (gone xs : List PV) : Prop where
  lx : st[i]? = some (.inst 76 (kvW n (.ref k) ws j))
  sm : st[k]? = some (.inst 76 [(nLine, .int 1), (nIn, .none), (nWs, .str wsS), (nPb, .ref j2), (nRd, .ref r)])
  rd : st[r]? = some (.clo tmP cnP [some (.str text), some (.ref g)])
  gn : st[g]? = some (.list gone)
  pb : st[j]? = some (.list xs)
  jg : j ≠ g
  ha : text.cps.all (· < 128) = true
  hz : text.cps.size ≤ 1000
noncomputable def readR (w : World) : List PV → SM PV := runK (1 + 0) [] [some 0, none] [] (s_read w).1
theorem k_read (w : World) : FunK (C2 w) 3 (.ref 59) 1 [] (readR w) := r_read w
theorem ao_in (w : World) : attrOk (kFrag w.params) 76 nIn = true := by kernel_rfl
theorem ao_ws (w : World) : attrOk (kFrag w.params) 76 nWs = true := by kernel_rfl
theorem ao_pb (w : World) : attrOk (kFrag w.params) 76 nPb = true := by kernel_rfl
theorem read_run (w : World) {st : List AO} {i k j r g : Nat} {n : Int} {ws : Str} {j2 : Nat} {text : Str} {gone xs : List PV} (L : Lex st i k j r g n ws j2 text gone xs) (hg : gone.length ≤ 2000) (hn : (pieceAt text gone.length == Str.ofString "\n") = false) :
    readR w [.ref i] st = some (.str (pieceAt text gone.length), st.set g (.list (gone ++ charsOf (pieceAt text gone.length)))) := by
  have h1 := L.lx
  have h2 := L.sm
  have h3 := L.rd
  have h4 := L.gn
  simp [readR, runK, s_read, seqE, bindE, pureE, iteE, liftS, guardE, getL, setL, consE, getA, instOf, h1, h2, h3, h4, ao_in, getL2, getL5, notRaw, ownClo, isClo, pieceG, L.ha, L.hz, hg, eqS, hn, truthG, retOf]
noncomputable abbrev posP : Pos := { line := 182, col := 4, endLine := 185, endCol := 20 }
noncomputable abbrev lexNew (n : Nat) (text : Str) : List AO := [.inst 76 [(nLine, .int 1), (nIn, .none), (nWs, .str wsS), (nPb, .ref (n + 1)), (nRd, .ref (n + 3))], .list [], .list [], .clo tmP cnP [some (.str text), some (.ref (n + 2))], .inst 76 (kvW 1 (.ref n) wsS (n + 5)), .list []]
open Classical in
noncomputable def lexerG (ps : List PV) : SM PV := fun (st : List AO) => match ps, (st[0]? : Option AO) with
  | [.str text], some (AO.tab P pos q) => if P = 314 ∧ pos = posP ∧ q = qP then some (.ref (st.length + 4), st ++ lexNew st.length text) else none
  | _, _ => none
theorem x_lexer (w : World) : DefK (C2 w).K 319 fd319 (defB (at1 P2 14)) [Str.ofString "text"] ln_lexer cn_lexer := ⟨⟨⟨_, _, _, rfl⟩, by kernel_rfl, rfl, rfl, rfl, rfl⟩, rfl, fun L => rfl, by decide +kernel, by decide +kernel, by decide +kernel, loc_lexer, by decide +kernel⟩
theorem k_lexer (w : World) : FunK (C2 w) 4 (.ref 319) 1 [] lexerG := by
  refine fun_defC (kn := []) (dvs := []) (dps := []) (li := [none, none]) (ci := [none, some 0]) (tm := tmP) (x_lexer w) (fun _ _ => .nil) rfl (by decide +kernel) (by decide +kernel) (fun s vs ws h1 h2 X => ?_) (s_lexer w).2 fun ps st y st' e => ?_
  obtain ⟨v, rfl⟩ := ln1 h1
  obtain rfl := ln0 h2
  exact BindsTo.of_eq (by kernel_rfl)
  unfold lexerG at e
  split at e
  rotate_left
  · (first | obtain ⟨rfl, rfl⟩ := spr e | exact (nos e).elim | obtain rfl := Option.some.inj e | cases e)
  rename_i text P pos q h0
  have e' := by classical exact ite_then e
  clear e
  obtain ⟨⟨r1, r2, r3⟩, e⟩ := e'
  subst r1 r2 r3
  (first | obtain ⟨rfl, rfl⟩ := spr e | exact (nos e).elim | obtain rfl := Option.some.inj e | cases e)
  have h0' : ∀ l, (st ++ l)[0]? = some (AO.tab 314 posP qP) := fun l => by
    rw [List.getElem?_append_left (List.getElem?_eq_some_iff.mp h0).1]; exact h0
  have h0g : ∀ l h, (st ++ l)[0]'h = AO.tab 314 posP qP := fun l h => by
    have := h0' l
    rw [List.getElem?_eq_getElem h] at this
    exact Option.some.inj this
  refine ⟨rfl, st.length + 3, [some (.ref (st.length + 2)), some (.str text)], Nat.le_add_right _ _, rfl, fun L => ⟨.ret (.ref (st.length + 4)), ⟨[some (.ref st.length), some (.ref (st.length + 3))], [some (.ref (st.length + 2)), some (.str text)],
    st ++ [.inst 76 [(nLine, .int 1), (nIn, .none), (nWs, .str wsS), (nPb, .ref (st.length + 1)), (nRd, .ref (st.length + 3))], .list [], .list [], .fn tmP (cnAt cn_lexer L).reverse, .inst 76 (kvW 1 (.ref st.length) wsS (st.length + 5)), .list []]⟩, ?_, rfl, ?_, rfl, ?_⟩⟩
  · simp [s_lexer, seqE, bindE, pureE, liftS, getL, setL, getC, setC, consE, newE, setA, make76G, so_rd, get_app0, set_app0, get_app, put4, defE, h0g, sl0]
    rfl
  · rw [get_app]; rfl
  · rw [set_app]; rfl
end Mine
end
section
set_option Elab.async false
set_option maxRecDepth 100000
set_option linter.unusedVariables false
namespace Mine
open PySem PySem.Calls PySem.W PyProof.Rows
noncomputable abbrev ln_token : List Str := [Str.ofString "self", Str.ofString "token", Str.ofString "fiter", Str.ofString "ch"]
noncomputable abbrev cn_token : List (Str × Nat) := []
theorem loc_token : ∀ x ∈ ln_token, (defS (at2 P2 3 2)).names.lookup x = some .local := by decide +kernel
theorem nd_token : ln_token.Nodup := by decide +kernel
noncomputable def b_token : { b : List Stmt // defB (at2 P2 3 2) = b } := ⟨[_, _, _, _, _], rfl⟩
noncomputable def s_token (w : World) : { F : FM PF // ∀ L, Den (C2 w) 4 (FI.fn fd66 66 ln_token cn_token L) RFl (execs (defB (at2 P2 3 2)) (callEnvC fd66 L 66)) F } := ⟨_, fun L => by
  have ok : FI.Ok (FI.fn fd66 66 ln_token cn_token L) := ok_fn (fd := fd66) rfl rfl rfl loc_token nd_token
  rw [b_token.2]
  exact (dens_cons (den_if (dent_value (den_attr (den_local (i := 0) ok rfl)))
      (dens_cons (den_return (den_method (den_attr (den_local (i := 0) ok rfl)) (meth_list F.slot_list_pop F.type_list_pop) keepOk_builtin (denl_cons den_int denl_nil) op_pop))
    dens_nil)
      dens_nil)
    (dens_cons (den_assign den_str (dena_local (i := 1) ok rfl))
    (dens_cons (den_assign (den_call (den_builtin ok (by kernel_rfl) (gn_iter w) (bn_iter w)) keepOk_builtin (denl_cons (den_attr_meth (den_local (i := 0) ok rfl) (C := 76) (fa := 59) (by kernel_rfl)) (denl_cons den_str denl_nil)) op_iter) (dena_local (i := 2) ok rfl))
    (dens_cons (den_for_step (N := 20) (den_local (i := 2) ok rfl) (op_nextC (fn_read w) ((k_read w).weak (by decide))) (dena_local (i := 3) ok rfl)
      (dens_cons (den_if (dent_compare (den_local (i := 3) ok rfl) (den_attr (den_local (i := 0) ok rfl)) op_inS)
      (dens_cons den_continue
    dens_nil)
      dens_nil)
    (dens_cons (den_if (dent_compare (den_local (i := 3) ok rfl) den_str op_eqS)
      (dens_cons (den_for_step (N := 20) (den_local (i := 2) ok rfl) (op_nextC (fn_read w) ((k_read w).weak (by decide))) (dena_local (i := 3) ok rfl)
      (dens_cons (den_if (dent_compare (den_local (i := 3) ok rfl) den_str op_eqS)
      (dens_cons (den_return (den_local (i := 1) ok rfl))
    dens_nil)
      (dens_cons (den_if (dent_compare (den_local (i := 3) ok rfl) den_str op_eqS)
      (dens_cons (den_assign (den_method (den_local (i := 0) ok rfl) (meth_inst (C := 76) (fa := 59) (by kernel_rfl)) (keepOk_ref (a := 59) (by kernel_rfl)) denl_nil ((k_read w).ok.weak (by decide))) (dena_local (i := 3) ok rfl))
    dens_nil)
      dens_nil)
    dens_nil))
    (dens_cons (den_aug_local (i := 1) ok rfl (den_local (i := 3) ok rfl) op_iaddG)
    dens_nil)))
    dens_nil)
      (dens_cons (den_if (dent_compare (den_local (i := 3) ok rfl) den_str op_eqS)
      (dens_cons (den_assign (den_method (den_local (i := 0) ok rfl) (meth_inst (C := 76) (fa := 59) (by kernel_rfl)) (keepOk_ref (a := 59) (by kernel_rfl)) denl_nil ((k_read w).ok.weak (by decide))) (dena_local (i := 3) ok rfl))
    dens_nil)
      dens_nil)
    (dens_cons (den_aug_local (i := 1) ok rfl (den_local (i := 3) ok rfl) op_iaddG)
    (dens_cons (den_for_step (N := 20) (den_local (i := 2) ok rfl) (op_nextC (fn_read w) ((k_read w).weak (by decide))) (dena_local (i := 3) ok rfl)
      (dens_cons (den_if (dent_compare (den_local (i := 3) ok rfl) (den_attr (den_local (i := 0) ok rfl)) op_inS)
      (dens_cons (den_return (den_local (i := 1) ok rfl))
    dens_nil)
      (dens_cons (den_if (dent_compare (den_local (i := 3) ok rfl) den_str op_eqS)
      (dens_cons (den_assign (den_method (den_local (i := 0) ok rfl) (meth_inst (C := 76) (fa := 59) (by kernel_rfl)) (keepOk_ref (a := 59) (by kernel_rfl)) denl_nil ((k_read w).ok.weak (by decide))) (dena_local (i := 3) ok rfl))
    dens_nil)
      dens_nil)
    dens_nil))
    (dens_cons (den_aug_local (i := 1) ok rfl (den_local (i := 3) ok rfl) op_iaddG)
    dens_nil)))
    dens_nil))))
    dens_nil)))
    (dens_cons (den_return (den_local (i := 1) ok rfl))
    dens_nil)))))⟩
theorem x_token (w : World) : DefK (C2 w).K 66 fd66 (defB (at2 P2 3 2)) [Str.ofString "self"] ln_token cn_token := ⟨⟨⟨_, _, _, rfl⟩, by kernel_rfl, rfl, rfl, rfl, rfl⟩, rfl, fun L => rfl, by decide +kernel, by decide +kernel, by decide +kernel, loc_token, by decide +kernel⟩
theorem r_token (w : World) : FunK (C2 w) 5 (.ref 66) 1 [] (runK (1 + 0) [] [some 0, none, none, none] [] (s_token w).1) := fun_defK (x_token w) (dvs := []) (fun _ _ => .nil) rfl (by decide +kernel) (by decide +kernel) (fun s vs ws h1 h2 X => by
  obtain ⟨v0, rfl⟩ := ln1 h1
  obtain rfl := ln0 h2
  exact BindsTo.of_eq (by kernel_rfl)) (s_token w).2
end Mine
end
section
set_option Elab.async false
set_option maxRecDepth 100000
set_option linter.unusedVariables false
set_option linter.unusedSimpArgs false
namespace Mine
open PySem PySem.Calls PySem.W PyProof.Rows
noncomputable def tokenR (w : World) : List PV → SM PV := runK (1 + 0) [] [some 0, none, none, none] [] (s_token w).1
theorem k_token (w : World) : FunK (C2 w) 5 (.ref 66) 1 [] (tokenR w) := r_token w
section
variable {st : List AO} {i k j r g : Nat} {n : Int} {ws : Str} {j2 : Nat} {text : Str} {gone xs : List PV}
theorem Lex.i_ne (L : Lex st i k j r g n ws j2 text gone xs) : i ≠ g ∧ k ≠ g ∧ r ≠ g ∧ i ≠ j := by
  refine ⟨?_, ?_, ?_, ?_⟩ <;> rintro rfl
  · have := L.lx.symm.trans L.gn; cases this
  · have := L.sm.symm.trans L.gn; cases this
  · have := L.rd.symm.trans L.gn; cases this
  · have := L.lx.symm.trans L.pb; cases this
theorem lt_of {x : AO} (h : st[i]? = some x) : i < st.length := (List.getElem?_eq_some_iff.mp h).1
theorem Lex.ext (L : Lex st i k j r g n ws j2 text gone xs) (gone' : List PV) (l : List AO) : Lex (st.set g (.list gone') ++ l) i k j r g n ws j2 text gone' xs := by
  obtain ⟨h1, h2, h3, h4⟩ := L.i_ne
  have key : ∀ {q : Nat} {x : AO}, st[q]? = some x → q ≠ g → (st.set g (.list gone') ++ l)[q]? = some x := fun h ne => by
    rw [List.getElem?_append_left (by simpa using lt_of h), List.getElem?_set_ne (Ne.symm ne)]; exact h
  refine ⟨key L.lx h1, key L.sm h2, key L.rd h3, ?_, key L.pb L.jg, L.jg, L.ha, L.hz⟩
  rw [List.getElem?_append_left (by simpa using lt_of L.gn), List.getElem?_set_self (lt_of L.gn)]
theorem set_same {x : AO} (h : st[i]? = some x) : st.set i x = st := by
  apply List.ext_getElem?
  intro q
  by_cases hq : i = q
  · subst hq; rw [List.getElem?_set_self (lt_of h), h]
  · rw [List.getElem?_set_ne hq]
theorem Lex.app (L : Lex st i k j r g n ws j2 text gone xs) (l : List AO) : Lex (st ++ l) i k j r g n ws j2 text gone xs := by
  have := L.ext gone l
  rwa [set_same L.gn] at this
theorem next_run (w : World) {S : List AO} {q m : Nat} (L : Lex S i k j r g n ws j2 text gone xs) (hg : gone.length ≤ 2000) (hn : (pieceAt text gone.length == Str.ofString "\n") = false) (hq : S[q]? = some (.citer (.ref m) (.str (Str.ofString "")))) (hm : S[m]? = some (.meth (.ref 59) (.ref i)))
    (he : (Str.ofString "" == pieceAt text gone.length) = false) : nextC 59 (readR w) (.ref q) S = some (some (.str (pieceAt text gone.length)), S.set g (.list (gone ++ charsOf (pieceAt text gone.length)))) := by
  have h1 : q ≠ g := by rintro rfl; have := hq.symm.trans L.gn; cases this
  have h2 : m ≠ g := by rintro rfl; have := hm.symm.trans L.gn; cases this
  have hr := read_run w L hg hn
  simp [nextC, hq, hm, hr, List.getElem?_set_ne (Ne.symm h1), List.getElem?_set_ne (Ne.symm h2), he]
theorem next_end (w : World) {S : List AO} {q m : Nat} (L : Lex S i k j r g n ws j2 text gone xs) (hg : gone.length ≤ 2000) (hq : S[q]? = some (.citer (.ref m) (.str (Str.ofString "")))) (hm : S[m]? = some (.meth (.ref 59) (.ref i)))
    (he : pieceAt text gone.length = Str.ofString "") : nextC 59 (readR w) (.ref q) S = some (none, S.set q .cdone) := by
  have h1 : q ≠ g := by rintro rfl; have := hq.symm.trans L.gn; cases this
  have h2 : m ≠ g := by rintro rfl; have := hm.symm.trans L.gn; cases this
  have hn : (pieceAt text gone.length == Str.ofString "\n") = false := by rw [he]; decide +kernel
  have hr := read_run w L hg hn
  have hc : gone ++ charsOf (Str.ofString "") = gone := by rw [show charsOf (Str.ofString "") = [] by decide +kernel]; simp
  rw [he, hc, set_same L.gn] at hr
  have hb : (Str.ofString "" == Str.ofString "") = true := by decide +kernel
  simp [nextC, hq, hm, hr]
end
theorem token_wait (w : World) {st : List AO} {i j : Nat} {n : Int} {p : PV} {ws : Str} {x : PV} {xs : List PV} (h1 : st[i]? = some (.inst 76 (kvW n p ws j))) (h2 : st[j]? = some (.list (x :: xs))) (hz : xs.length + 1 ≤ sizeLine) :
    tokenR w [.ref i] st = some (x, st.set j (.list xs)) := by
  simp [tokenR, runK, s_token, seqE, bindE, pureE, iteE, liftS, guardE, getL, setL, consE, getA, instOf, h1, h2, ao_pb, getL4, notRaw, truthG, hz, isLst, items?, popG, retOf]
end Mine
end
section
set_option Elab.async false
set_option maxRecDepth 100000
set_option linter.unusedVariables false
set_option linter.unusedSimpArgs false
namespace Mine
open PySem PySem.Calls PySem.W PyProof.Rows
noncomputable abbrev bsS : Str := Str.ofString "\\"
noncomputable abbrev spS : Str := Str.ofString " "
theorem chars_one (u : Nat) : charsOf ⟨#[u]⟩ = [.str ⟨#[u]⟩] := rfl
theorem in_bs : (Builtin.Str.occurrences wsS bsS 0 wsS.length 1).isEmpty = true := by decide +kernel
theorem in_sp : (Builtin.Str.occurrences wsS spS 0 wsS.length 1).isEmpty = false := by decide +kernel
theorem nil_app (x : Str) : Str.ofString "" ++ x = x := by
  obtain ⟨c⟩ := x
  show (⟨#[] ++ c⟩ : Str) = _
  simp
theorem get_rc (n : Int) (p : PV) (ws : Str) (j : Nat) : kvGet (kvW n p ws j) (Str.ofString "_read_char") = none := by kernel_rfl
theorem beq_bs1 : (bsS == Str.ofString "\n") = false := by decide +kernel
theorem beq_bs2 : (bsS == Str.ofString "\"") = false := by decide +kernel
theorem beq_bs3 : (bsS == Str.ofString "\\") = true := by decide +kernel
theorem beq_sp1 : (spS == Str.ofString "\n") = false := by decide +kernel
theorem beq_e1 : (Str.ofString "" == bsS) = false := by decide +kernel
theorem beq_e2 : (Str.ofString "" == spS) = false := by decide +kernel
theorem one_len (u : Nat) : (Str.ofString "").length + (⟨#[u]⟩ : Str).length ≤ sizeLine := by
  rw [sizeLine_eq, show (Str.ofString "").length = 0 by decide +kernel]
  show 0 + 1 ≤ _
  omega
theorem aug_one (u : Nat) (st : List AO) : iaddG (.str (Str.ofString "")) (.str ⟨#[u]⟩) st = some (.str ⟨#[u]⟩, st) := by
  show (if (Str.ofString "").length + (⟨#[u]⟩ : Str).length ≤ sizeLine then some (PV.str (Str.ofString "" ++ ⟨#[u]⟩), st) else none) = _
  rw [if_pos (one_len u), nil_app]
theorem getA_pb (w : World) {st : List AO} {i j : Nat} {n : Int} {p : PV} {ws : Str} (h1 : st[i]? = some (.inst 76 (kvW n p ws j))) : getA (kFrag w.params) (Str.ofString "pushback") (.ref i) st = some (.ref j, st) := by
  have e : instOf st (.ref i) = some (76, kvW n p ws j) := by
    unfold instOf
    dsimp only
    rw [h1]
  unfold getA
  rw [e]
  dsimp only
  rw [if_pos (ao_pb w), getL4]
  rfl
theorem getA_ws (w : World) {st : List AO} {i j : Nat} {n : Int} {p : PV} {ws : Str} (h1 : st[i]? = some (.inst 76 (kvW n p ws j))) : getA (kFrag w.params) (Str.ofString "whitespace") (.ref i) st = some (.str ws, st) := by
  have e : instOf st (.ref i) = some (76, kvW n p ws j) := by
    unfold instOf
    dsimp only
    rw [h1]
  unfold getA
  rw [e]
  dsimp only
  rw [if_pos (ao_ws w), getL3]
  rfl
theorem inS_bs (st : List AO) : inS (.str bsS) (.str wsS) st = some (.bool false, st) := by
  show some (PV.bool (!(Builtin.Str.occurrences wsS bsS 0 wsS.length 1).isEmpty), st) = _
  rw [in_bs]; rfl
theorem inS_sp (st : List AO) : inS (.str spS) (.str wsS) st = some (.bool true, st) := by
  show some (PV.bool (!(Builtin.Str.occurrences wsS spS 0 wsS.length 1).isEmpty), st) = _
  rw [in_sp]; rfl
theorem eqS_1 (st : List AO) : eqS (.str bsS) (.str (Str.ofString "\"")) st = some (.bool false, st) := by
  show some (PV.bool (bsS == Str.ofString "\""), st) = _
  rw [beq_bs2]
theorem eqS_2 (st : List AO) : eqS (.str bsS) (.str (Str.ofString "\\")) st = some (.bool true, st) := by
  show some (PV.bool (bsS == Str.ofString "\\"), st) = _
  rw [beq_bs3]
theorem getB_of {st : List AO} {i C : Nat} {kvs : List (Str × PV)} {name : Str} {fa : Addr} (h : st[i]? = some (.inst C kvs)) (hn : kvGet kvs name = none) : getB C name fa (.ref i) st = some (.ref st.length, st ++ [.meth (.ref fa) (.ref i)]) := by
  have e : instOf st (.ref i) = some (C, kvs) := by
    unfold instOf
    dsimp only
    rw [h]
  unfold getB
  dsimp only
  rw [e]
  dsimp only
  rw [if_pos ⟨rfl, by rw [hn]; rfl⟩]
theorem iter_of {st : List AO} {f : Addr} {p z : PV} : iterG [.ref st.length, z] (st ++ [.meth (.ref f) p]) = some (.ref (st.length + 1), st ++ [.meth (.ref f) p, .citer (.ref st.length) z]) := by
  have e : isMeth (st ++ [.meth (.ref f) p]) (.ref st.length) = true := by
    unfold isMeth
    dsimp only
    rw [get_app0]
    rfl
  unfold iterG
  dsimp only
  rw [if_pos e, List.append_assoc, List.length_append]
  rfl
theorem citer_of {st : List AO} {q : Nat} {m z : PV} (h : st[q]? = some (.citer m z)) : isCiter st (.ref q) = true := by
  unfold isCiter
  dsimp only
  rw [h]
section
variable {st : List AO} {i k j r g : Nat} {n : Int} {j2 : Nat} {text : Str} {gone : List PV}
theorem token_read (w : World) {u : Nat} (L : Lex st i k j r g n wsS j2 text gone []) (hg : gone.length ≤ 1000) (c0 : pieceAt text gone.length = bsS) (c1 : pieceAt text (gone.length + 1) = ⟨#[u]⟩) (hu : ((⟨#[u]⟩ : Str) == Str.ofString "\n") = false) (c2 : pieceAt text (gone.length + 2) = spS) :
    tokenR w [.ref i] st = some (.str ⟨#[u]⟩, st.set g (.list (gone ++ [.str bsS, .str ⟨#[u]⟩, .str spS])) ++ [.meth (.ref 59) (.ref i), .citer (.ref st.length) (.str (Str.ofString ""))]) := by
  have hi := lt_of L.lx
  have hgl := lt_of L.gn
  have hne := L.i_ne
  let M : AO := .meth (.ref 59) (.ref i)
  let C : AO := .citer (.ref st.length) (.str (Str.ofString ""))
  have e1 := L.app [M, C]
  have hq : ∀ gs, (st.set g (.list gs) ++ [M, C])[st.length + 1]? = some C := fun gs => by
    have : (st.set g (.list gs)).length = st.length := by simp
    rw [← this]; exact get_app _ _ 1
  have hm : ∀ gs, (st.set g (.list gs) ++ [M, C])[st.length]? = some M := fun gs => by
    have : (st.set g (.list gs)).length = st.length := by simp
    conv => lhs; rw [← this]
    exact get_app _ _ 0
  have sets : ∀ gs gs', (st.set g (.list gs) ++ [M, C]).set g (.list gs') = st.set g (.list gs') ++ [M, C] := fun gs gs' => by
    rw [List.set_append_left _ _ (by simpa using hgl), List.set_set]
  have base : st ++ [M, C] = st.set g (.list gone) ++ [M, C] := by rw [set_same L.gn]
  have l0 := L.ext gone [M, C]
  have l1 := L.ext (gone ++ [.str bsS]) [M, C]
  have l2 := L.ext (gone ++ [.str bsS, .str ⟨#[u]⟩]) [M, C]
  have hA := next_run w l0 (by omega) (by rw [c0]; exact beq_bs1) (hq _) (hm _) (by rw [c0]; exact beq_e1)
  rw [c0, sets, show charsOf bsS = [.str bsS] by kernel_rfl] at hA
  have hB := read_run w l1 (by simp; omega) (by simp; rw [c1]; simpa using hu)
  simp only [List.length_append, List.length_cons, List.length_nil] at hB
  rw [show gone.length + (0 + 1) = gone.length + 1 by omega, c1, chars_one, sets, List.append_assoc] at hB
  have hC := next_run w l2 (by simp; omega) (by simp; rw [c2]; simpa using beq_sp1) (hq _) (hm _) (by simp; rw [c2]; simpa using beq_e2)
  simp only [List.length_append, List.length_cons, List.length_nil] at hC
  rw [show gone.length + (0 + 1 + 1) = gone.length + 2 by omega, c2, sets, show charsOf spS = [.str spS] by kernel_rfl, List.append_assoc] at hC
  rw [← base] at hA
  have hi1 : ∀ gs, (st.set g (.list gs) ++ [M, C])[i]? = some (.inst 76 (kvW n (.ref k) wsS j)) := fun gs => (L.ext gs [M, C]).lx
  let E (l1 l2 l3 : Option PV) (S : List AO) : ES := ⟨[some (.ref i), l1, l2, l3], [], S⟩
  let X1 := st.set g (.list (gone ++ [.str bsS])) ++ [M, C]
  let X2 := st.set g (.list (gone ++ [.str bsS, .str ⟨#[u]⟩])) ++ [M, C]
  let X3 := st.set g (.list (gone ++ [.str bsS, .str ⟨#[u]⟩, .str spS])) ++ [M, C]
  let t0 := some (PV.str (Str.ofString ""))
  let q := some (PV.ref (st.length + 1))
  let bs := some (PV.str bsS)
  let uc := some (PV.str ⟨#[u]⟩)
  let sp := some (PV.str spS)
  have run : (s_token w).1 (E none none none st) = some (.ret (.str ⟨#[u]⟩), E uc q sp X3) := by
    simp only [s_token]
    refine e_seq (es₁ := E none none none st) (e_ite (t := false) (es₁ := E none none none st) (p_lift (p := .ref j) (p_lift (p := .ref i) rfl (getA_pb w L.lx)) (truth_ref L.pb (by decide))) rfl) ?_
    refine e_seq (es₁ := E t0 none none st) rfl ?_
    refine e_seq (es₁ := E t0 q none (st ++ [M, C])) (e_asg (p := .ref (st.length + 1)) (es₁ := E t0 none none (st ++ [M, C])) ?_ rfl) ?_
    · refine e_bind (y := [.ref st.length, .str (Str.ofString "")]) (es₁ := E t0 none none (st ++ [M])) (e_cons (es₁ := E t0 none none (st ++ [M])) (e_lift (p := .ref i) (es₁ := E t0 none none st) rfl (getB_of L.lx (get_rc _ _ _ _))) (p_cons rfl rfl)) ?_
      unfold liftS
      rw [show (E t0 none none (st ++ [M])).st = st ++ [M] from rfl, iter_of]
    refine e_bind (y := .ret (.str ⟨#[u]⟩)) (es₁ := E uc q sp X3) ?_ rfl
    refine e_bind (y := .ref (st.length + 1)) (es₁ := E t0 q none (st ++ [M, C])) rfl ?_
    unfold guardE
    rw [if_pos (citer_of (get_app st [M, C] 1))]
    refine e_bind (y := some (.str bsS)) (es₁ := E t0 q none X1) ?_ ?_
    · unfold liftS
      rw [hA]
    refine e_bind (y := ()) (es₁ := E t0 q bs X1) rfl ?_
    refine e_bind (y := .ret (.str ⟨#[u]⟩)) (es₁ := E uc q sp X3) ?_ rfl
    refine e_seq (es₁ := E t0 q bs X1) (e_ite (t := false) (es₁ := E t0 q bs X1) (p_lift (p := .bool false) (p_bin (p := .str bsS) (q := .str wsS) rfl (p_lift (p := .ref i) rfl (getA_ws w (hi1 _))) (inS_bs _)) rfl) rfl) ?_
    refine e_bind (y := .ret (.str ⟨#[u]⟩)) (es₁ := E uc q sp X3) ?_ rfl
    refine e_ite (t := false) (es₁ := E t0 q bs X1) (p_lift (p := .bool false) (p_bin (p := .str bsS) (q := .str (Str.ofString "\"")) rfl rfl (eqS_1 _)) rfl) ?_
    refine e_seq (es₁ := E t0 q uc X2) (e_ite (t := true) (es₁ := E t0 q bs X1) (p_lift (p := .bool true) (p_bin (p := .str bsS) (q := .str (Str.ofString "\\")) rfl rfl (eqS_2 _)) rfl) ?_) ?_
    · refine e_seq (es₁ := E t0 q uc X2) (e_asg (p := .str ⟨#[u]⟩) (es₁ := E t0 q bs X2) ?_ rfl) rfl
      exact e_meth (p := .ref i) (es₁ := E t0 q bs X1) (es₂ := E t0 q bs X1) (ps := []) rfl (isInst_of (hi1 _) (get_rc _ _ _ _)) rfl hB
    refine e_seq (es₁ := E uc q uc X2) (e_aug (p := .str (Str.ofString "")) (q := .str ⟨#[u]⟩) (es₁ := E t0 q uc X2) (es₂ := E t0 q uc X2) rfl rfl (aug_one u _) rfl) ?_
    refine e_bind (y := .ret (.str ⟨#[u]⟩)) (es₁ := E uc q sp X3) ?_ rfl
    refine e_bind (y := .ref (st.length + 1)) (es₁ := E uc q uc X2) rfl ?_
    rw [if_pos (citer_of (hq _))]
    refine e_bind (y := some (.str spS)) (es₁ := E uc q uc X3) ?_ ?_
    · unfold liftS
      rw [hC]
      rfl
    refine e_bind (y := ()) (es₁ := E uc q sp X3) rfl ?_
    refine e_bind (y := .ret (.str ⟨#[u]⟩)) (es₁ := E uc q sp X3) ?_ rfl
    refine e_bind (y := .ret (.str ⟨#[u]⟩)) (es₁ := E uc q sp X3) ?_ rfl
    exact e_ite (t := true) (es₁ := E uc q sp X3) (p_lift (p := .bool true) (p_bin (p := .str spS) (q := .str wsS) rfl (p_lift (p := .ref i) rfl (getA_ws w (hi1 _))) (inS_sp _)) rfl) rfl
  unfold tokenR runK
  rw [if_pos (show [PV.ref i].length = 1 + 0 from rfl)]
  show (match (s_token w).1 (E none none none st) with | some (r, es) => some (retOf r, es.st) | none => none) = _
  rw [run]
  rfl
theorem token_end (w : World) (L : Lex st i k j r g n wsS j2 text gone []) (hg : gone.length ≤ 1000) (c0 : pieceAt text gone.length = Str.ofString "") :
    tokenR w [.ref i] st = some (.str (Str.ofString ""), st ++ [.meth (.ref 59) (.ref i), .cdone]) := by
  have hi := lt_of L.lx
  let M : AO := .meth (.ref 59) (.ref i)
  let C : AO := .citer (.ref st.length) (.str (Str.ofString ""))
  have l0 := L.app [M, C]
  have hA := next_end w (q := st.length + 1) (m := st.length) l0 (by omega) (get_app _ _ 1) (get_app0 _ _) c0
  rw [set_app] at hA
  let E (l1 l2 l3 : Option PV) (S : List AO) : ES := ⟨[some (.ref i), l1, l2, l3], [], S⟩
  have run : (s_token w).1 (E none none none st) = some (.ret (.str (Str.ofString "")), E (some (.str (Str.ofString ""))) (some (.ref (st.length + 1))) none (st ++ [M, .cdone])) := by
    simp only [s_token]
    refine e_seq (es₁ := E none none none st) (e_ite (t := false) (es₁ := E none none none st) (p_lift (p := .ref j) (p_lift (p := .ref i) rfl (getA_pb w L.lx)) (truth_ref L.pb (by decide))) rfl) ?_
    refine e_seq (es₁ := E (some (.str (Str.ofString ""))) none none st) rfl ?_
    refine e_seq (es₁ := E (some (.str (Str.ofString ""))) (some (.ref (st.length + 1))) none (st ++ [M, C])) (e_asg (p := .ref (st.length + 1)) (es₁ := E (some (.str (Str.ofString ""))) none none (st ++ [M, C])) ?_ rfl) ?_
    · refine e_bind (y := [.ref st.length, .str (Str.ofString "")]) (es₁ := E (some (.str (Str.ofString ""))) none none (st ++ [M])) (e_cons (es₁ := E (some (.str (Str.ofString ""))) none none (st ++ [M])) (e_lift (p := .ref i) (es₁ := E (some (.str (Str.ofString ""))) none none st) rfl (getB_of L.lx (get_rc _ _ _ _))) (p_cons rfl rfl)) ?_
      unfold liftS
      rw [show (E (some (.str (Str.ofString ""))) none none (st ++ [M])).st = st ++ [M] from rfl, iter_of]
    refine e_seq (es₁ := E (some (.str (Str.ofString ""))) (some (.ref (st.length + 1))) none (st ++ [M, .cdone])) ?_ rfl
    refine e_bind (y := .ref (st.length + 1)) (es₁ := E (some (.str (Str.ofString ""))) (some (.ref (st.length + 1))) none (st ++ [M, C])) rfl ?_
    unfold guardE
    rw [if_pos (citer_of (get_app st [M, C] 1))]
    refine e_bind (y := none) (es₁ := E (some (.str (Str.ofString ""))) (some (.ref (st.length + 1))) none (st ++ [M, .cdone])) ?_ rfl
    unfold liftS
    rw [hA]
    rfl
  unfold tokenR runK
  rw [if_pos (show [PV.ref i].length = 1 + 0 from rfl)]
  show (match (s_token w).1 (E none none none st) with | some (r, es) => some (retOf r, es.st) | none => none) = _
  rw [run]
  rfl
end
end Mine
end
section
set_option Elab.async false
set_option maxRecDepth 100000
set_option linter.unusedVariables false
namespace Mine
open PySem PySem.Calls PySem.W PyProof.Rows
noncomputable def cd160 : ClassData := { name := Str.ofString "_Accumulator", bases := [.type "list"], mro := [.ref 160, .type "list", .type "object"], ns := 159, qualname := Str.ofString "_Accumulator", hasDict := true, slotNames := [], subclasses := [], abstract := false, collection := none, hasDel := false }
theorem cls160 (w : World) : clsIn (C2 w).K 160 = some cd160 := by kernel_rfl
theorem lmakes160 (w : World) : LMakes (C2 w).K 160 cd160 :=
  { cls := cls160 w, abs := rfl, del := rfl, mro := ⟨_, rfl⟩, made := fun M h X => Looks.of_peek X (by kernel_rfl), base := fun M h X => Looks.of_peek X (by kernel_rfl), call := by kernel_rfl, typ := by kernel_rfl }
theorem sup_ok (w : World) {fa cda L : Nat} {fd : FuncData} {ln : List Str} {f : FI} (hf : f = ⟨callEnv fd L fa, ln, []⟩) (h1 : fd.scope.names.lookup ("super" : Str) = some .globalImplicit) (h2 : fd.scope.names.lookup ("__class__" : Str) = some .free)
    (h3 : fd.closure = [(Str.ofString "__class__", 84)]) (h4 : fd.code = .ref cda) (h5 : ∃ oc od osl ar, P3 ((C2 w).K.lookup fa = some ⟨oc, od, .func fd, osl⟩) ((fd.params.posonlyargs ++ fd.params.args).head? = some ar) (ar.arg = Str.ofString "self"))
    (h6 : ∃ oc od vs osl file tf, P3 ((C2 w).K.lookup cda = some ⟨oc, od, .fields vs, osl⟩) (vs[2]? = some (.str file tf)) ((((C2 w).prog.main.file : Str) == file) = true)) : SupOk (C2 w) f 160 84 cda fa (Str.ofString "self") cd160 := by
  subst hf
  obtain ⟨oc, od, osl, ar, a, b, d⟩ := h5
  exact ⟨h1, h2, (by show fd.closure.lookup _ = _; rw [h3]; rfl), rfl, h4, ⟨oc, od, fd, osl, ar, a, b, d⟩, ⟨_, _, _, rfl⟩, h6, by kernel_rfl, by kernel_rfl, by kernel_rfl, by kernel_rfl, cls160 w, rfl⟩
noncomputable abbrev ln_count : List Str := [Str.ofString "self"]
theorem loc_count : ∀ x ∈ ln_count, (defS (at2 P2 6 8)).names.lookup x = some .local := by decide +kernel
theorem nd_count : ln_count.Nodup := by decide +kernel
noncomputable def b_count : { b : List Stmt // defB (at2 P2 6 8) = b } := ⟨[_], rfl⟩
noncomputable def s_count (w : World) : { F : FM PF // ∀ L, DenX (C2 w) 1 ⟨callEnv fd157 L 157, ln_count, []⟩ (defB (at2 P2 6 8)) RFl (execs (defB (at2 P2 6 8)) (callEnv fd157 L 157)) F } := ⟨_, fun L => by
  have ok : FI.Ok ⟨callEnv fd157 L 157, ln_count, []⟩ := ok_call (fd := fd157) rfl rfl rfl loc_count nd_count
  rw [b_count.2]
  exact by
    have X0 : SupOk (C2 w) ⟨callEnv fd157 L 157, ln_count, []⟩ 160 84 156 157 (Str.ofString "self") cd160 := sup_ok w rfl (by kernel_rfl) (by kernel_rfl) rfl rfl ⟨_, _, _, _, rfl, rfl, rfl⟩ ⟨_, _, _, _, _, _, rfl, rfl, by kernel_rfl⟩
    exact (denx_cons (denx_return (denx_super (i := 0) (C := 160) (cc := 84) (cda := 156) (fa := 157) (self := Str.ofString "self") ok X0 rfl (op_llen (C := 160)) binds_len (.inr rfl) (by kernel_rfl) (by decide +kernel) (fun as => Code.quiet_builtin _ (by decide +kernel)) (fun A s x X h => bound_len))) (Den.x dens_nil))⟩
theorem r_count (w : World) : FunK (C2 w) 2 (.ref 157) 1 [] (runK 1 [] [some 0] [] (s_count w).1) := fun_defX (names := [Str.ofString "self"]) (dvs := []) ⟨⟨_, _, _, rfl⟩, by kernel_rfl, rfl, rfl, rfl, rfl⟩ (by decide +kernel) (by decide +kernel) (by decide +kernel) (by decide +kernel) (by decide +kernel) (fun _ _ => .nil) rfl (fun s vs h X => by
  obtain ⟨v0, rfl⟩ := ln1 h
  exact BindsTo.of_eq (by kernel_rfl)) (s_count w).2
noncomputable def countR (w : World) : List PV → SM PV := runK 1 [] [some 0] [] (s_count w).1
theorem k_count (w : World) : FunK (C2 w) 2 (.ref 157) 1 [] (countR w) := r_count w
noncomputable abbrev ln_ppop : List Str := [Str.ofString "self"]
theorem loc_ppop : ∀ x ∈ ln_ppop, (defS (at2 P2 6 3)).names.lookup x = some .local := by decide +kernel
theorem nd_ppop : ln_ppop.Nodup := by decide +kernel
noncomputable def b_ppop : { b : List Stmt // defB (at2 P2 6 3) = b } := ⟨[_, _], rfl⟩
noncomputable def s_ppop (w : World) : { F : FM PF // ∀ L, DenX (C2 w) 2 ⟨callEnv fd120 L 120, ln_ppop, []⟩ (defB (at2 P2 6 3)) RFl (execs (defB (at2 P2 6 3)) (callEnv fd120 L 120)) F } := ⟨_, fun L => by
  have ok : FI.Ok ⟨callEnv fd120 L 120, ln_ppop, []⟩ := ok_call (fd := fd120) rfl rfl rfl loc_ppop nd_ppop
  rw [b_ppop.2]
  exact by
    have X0 : SupOk (C2 w) ⟨callEnv fd120 L 120, ln_ppop, []⟩ 160 84 119 120 (Str.ofString "self") cd160 := sup_ok w rfl (by kernel_rfl) (by kernel_rfl) rfl rfl ⟨_, _, _, _, rfl, rfl, rfl⟩ ⟨_, _, _, _, _, _, rfl, rfl, by kernel_rfl⟩
    exact (denx_cons (Den.x (den_if (dent_compare (den_method (den_local (i := 0) ok rfl) (meth_linst (C := 160) (fv := .ref 157) (ty := "function") (by kernel_rfl)) (keepOk_ref (a := 157) (by kernel_rfl)) denl_nil ((k_count w).ok.weak (by decide))) den_int op_eqG)
      (dens_cons (den_return (den_tuple (denl_cons den_str (denl_cons den_str denl_nil))))
    dens_nil)
      dens_nil)) (denx_cons (denx_return (denx_super (i := 0) (C := 160) (cc := 84) (cda := 119) (fa := 120) (self := Str.ofString "self") ok X0 rfl (op_lpop (C := 160)) binds_pop (.inl rfl) (by kernel_rfl) (by decide +kernel) (fun as => Code.quiet_builtin _ (by decide +kernel)) (fun A s x X h => by
      obtain ⟨d, vs, m, h⟩ := h
      exact bound_pop (C := 160) (cd := cd160) rfl X h rfl rfl (cls160 w) (by kernel_rfl) (by kernel_rfl)))) (Den.x dens_nil)))⟩
theorem r_ppop (w : World) : FunK (C2 w) 3 (.ref 120) 1 [] (runK 1 [] [some 0] [] (s_ppop w).1) := fun_defX (names := [Str.ofString "self"]) (dvs := []) ⟨⟨_, _, _, rfl⟩, by kernel_rfl, rfl, rfl, rfl, rfl⟩ (by decide +kernel) (by decide +kernel) (by decide +kernel) (by decide +kernel) (by decide +kernel) (fun _ _ => .nil) rfl (fun s vs h X => by
  obtain ⟨v0, rfl⟩ := ln1 h
  exact BindsTo.of_eq (by kernel_rfl)) (s_ppop w).2
noncomputable abbrev ln_init160 : List Str := [Str.ofString "self", Str.ofString "initial_size"]
theorem loc_init160 : ∀ x ∈ ln_init160, (defS (at2 P2 6 0)).names.lookup x = some .local := by decide +kernel
theorem nd_init160 : ln_init160.Nodup := by decide +kernel
noncomputable def b_init160 : { b : List Stmt // defB (at2 P2 6 0) = b } := ⟨[_, _], rfl⟩
noncomputable def s_init160 (w : World) : { F : FM PF // ∀ L, DenX (C2 w) 1 ⟨callEnv fd97 L 97, ln_init160, []⟩ (defB (at2 P2 6 0)) RFl (execs (defB (at2 P2 6 0)) (callEnv fd97 L 97)) F } := ⟨_, fun L => by
  have ok : FI.Ok ⟨callEnv fd97 L 97, ln_init160, []⟩ := ok_call (fd := fd97) rfl rfl rfl loc_init160 nd_init160
  rw [b_init160.2]
  exact by
    have X0 : SupOk (C2 w) ⟨callEnv fd97 L 97, ln_init160, []⟩ 160 84 96 97 (Str.ofString "self") cd160 := sup_ok w rfl (by kernel_rfl) (by kernel_rfl) rfl rfl ⟨_, _, _, _, rfl, rfl, rfl⟩ ⟨_, _, _, _, _, _, rfl, rfl, by kernel_rfl⟩
    exact (denx_cons (Den.x (den_assign (den_local (i := 1) ok rfl) (dena_lst (den_local (i := 0) ok rfl) (lst_ok w)))) (denx_cons (denx_expr (denx_super (i := 0) (C := 160) (cc := 84) (cda := 96) (fa := 97) (self := Str.ofString "self") ok X0 rfl (op_linit (C := 160)) binds_init (.inr rfl) (by kernel_rfl) (by decide +kernel) (fun as => Code.quiet_builtin _ (by decide +kernel)) (fun A s x X h => bound_init)) (by kernel_rfl)) (Den.x dens_nil)))⟩
theorem r_init160 (w : World) : FunK (C2 w) 2 (.ref 97) 1 [] (runK 1 [.int 0] [some 0, some 1] [] (s_init160 w).1) := fun_defX (names := [Str.ofString "self", Str.ofString "initial_size"]) (dvs := [.int 0 365]) ⟨⟨_, _, _, rfl⟩, by kernel_rfl, rfl, rfl, rfl, rfl⟩ (by decide +kernel) (by decide +kernel) (by decide +kernel) (by decide +kernel) (by decide +kernel) (fun _ _ => .cons (.int _ _) .nil) rfl (fun s vs h X => by
  obtain ⟨v0, rfl⟩ := ln1 h
  exact BindsTo.of_defaults (T := 89) rfl (X _ _ rfl) rfl (by rfl) (by rfl)) (s_init160 w).2
noncomputable abbrev ln_ppush : List Str := [Str.ofString "self", Str.ofString "fws", Str.ofString "string"]
noncomputable abbrev cn_ppush : List (Str × Nat) := []
theorem loc_ppush : ∀ x ∈ ln_ppush, (defS (at2 P2 6 1)).names.lookup x = some .local := by decide +kernel
theorem nd_ppush : ln_ppush.Nodup := by decide +kernel
noncomputable def b_ppush : { b : List Stmt // defB (at2 P2 6 1) = b } := ⟨[_], rfl⟩
noncomputable def s_ppush (w : World) : { F : FM PF // ∀ L, Den (C2 w) 1 (FI.fn fd104 104 ln_ppush cn_ppush L) RFl (execs (defB (at2 P2 6 1)) (callEnvC fd104 L 104)) F } := ⟨_, fun L => by
  have ok : FI.Ok (FI.fn fd104 104 ln_ppush cn_ppush L) := ok_fn (fd := fd104) rfl rfl rfl loc_ppush nd_ppush
  rw [b_ppush.2]
  exact (dens_cons (den_expr (den_method (den_local (i := 0) ok rfl) (meth_linst (C := 160) (fv := .builtin "list.append") (ty := "method_descriptor") (by kernel_rfl)) keepOk_builtin (denl_cons (den_tuple (denl_cons (den_local (i := 1) ok rfl) (denl_cons (den_local (i := 2) ok rfl) denl_nil))) denl_nil) (op_lappend (C := 160) (by kernel_rfl))) (by kernel_rfl))
    dens_nil)⟩
theorem x_ppush (w : World) : DefK (C2 w).K 104 fd104 (defB (at2 P2 6 1)) [Str.ofString "self", Str.ofString "fws", Str.ofString "string"] ln_ppush cn_ppush := ⟨⟨⟨_, _, _, rfl⟩, by kernel_rfl, rfl, rfl, rfl, rfl⟩, rfl, fun L => rfl, by decide +kernel, by decide +kernel, by decide +kernel, loc_ppush, by decide +kernel⟩
theorem r_ppush (w : World) : FunK (C2 w) 2 (.ref 104) 3 [] (runK (3 + 0) [] [some 0, some 1, some 2] [] (s_ppush w).1) := fun_defK (x_ppush w) (dvs := []) (fun _ _ => .nil) rfl (by decide +kernel) (by decide +kernel) (fun s vs ws h1 h2 X => by
  obtain ⟨v0, v1, v2, rfl⟩ := ln3 h1
  obtain rfl := ln0 h2
  exact BindsTo.of_eq (by kernel_rfl)) (s_ppush w).2
end Mine
end
section
set_option Elab.async false
set_option maxRecDepth 100000
set_option linter.unusedVariables false
namespace Mine
open PySem PySem.Calls PySem.W PyProof.Rows
noncomputable abbrev ln_init308 : List Str := [Str.ofString "self", Str.ofString "headers", Str.ofString "k", Str.ofString "v"]
noncomputable abbrev cn_init308 : List (Str × Nat) := []
theorem loc_init308 : ∀ x ∈ ln_init308, (defS (at2 P2 12 0)).names.lookup x = some .local := by decide +kernel
theorem nd_init308 : ln_init308.Nodup := by decide +kernel
noncomputable def b_init308 : { b : List Stmt // defB (at2 P2 12 0) = b } := ⟨[_, _, _, _], rfl⟩
noncomputable def s_init308 (w : World) : { F : FM PF // ∀ L, Den (C2 w) 1 (FI.fn fd202 202 ln_init308 cn_init308 L) RFl (execs (defB (at2 P2 12 0)) (callEnvC fd202 L 202)) F } := ⟨_, fun L => by
  have ok : FI.Ok (FI.fn fd202 202 ln_init308 cn_init308 L) := ok_fn (fd := fd202) rfl rfl rfl loc_init308 nd_init308
  rw [b_init308.2]
  exact (dens_cons (den_assign (den_ifexp (dent_compare (den_local (i := 1) ok rfl) den_none op_isNotNone) (den_local (i := 1) ok rfl) (den_list_new denl_nil)) (dena_local (i := 1) ok rfl))
    (dens_cons (den_if (dent_compare (den_call (den_builtin ok (by kernel_rfl) (gn_type w) (bn_type w)) keepOk_type (denl_cons (den_local (i := 1) ok rfl) denl_nil) op_type) (den_builtin ok (by kernel_rfl) (gn_list w) (bn_list w)) op_isNotT)
      (dens_cons den_never
    dens_nil)
      dens_nil)
    (dens_cons (den_assign (den_local (i := 1) ok rfl) (dena_attr (den_local (i := 0) ok rfl)))
    (dens_cons (den_if (dent_value den_bool)
      (dens_cons (den_for (denit_v (den_local (i := 1) ok rfl)) (dena_tuple (denas_cons (dena_local (i := 2) ok rfl) (denas_cons (dena_local (i := 3) ok rfl) denas_nil)))
      (dens_cons den_never
    (dens_cons den_never
    dens_nil)))
    dens_nil)
      dens_nil)
    dens_nil))))⟩
theorem x_init308 (w : World) : DefK (C2 w).K 202 fd202 (defB (at2 P2 12 0)) [Str.ofString "self", Str.ofString "headers"] ln_init308 cn_init308 := ⟨⟨⟨_, _, _, rfl⟩, by kernel_rfl, rfl, rfl, rfl, rfl⟩, rfl, fun L => rfl, by decide +kernel, by decide +kernel, by decide +kernel, loc_init308, by decide +kernel⟩
theorem r_init308 (w : World) : FunK (C2 w) 2 (.ref 202) 2 [] (runK (2 + 0) [] [some 0, some 1, none, none] [] (s_init308 w).1) := fun_defK (x_init308 w) (dvs := []) (fun _ _ => .nil) rfl (by decide +kernel) (by decide +kernel) (fun s vs ws h1 h2 X => by
  obtain ⟨v0, v1, rfl⟩ := ln2 h1
  obtain rfl := ln0 h2
  exact BindsTo.of_defaults (T := 195) rfl (X _ _ rfl) rfl (by rfl) (by rfl)) (s_init308 w).2
noncomputable abbrev ln_getall : List Str := [Str.ofString "self"]
noncomputable abbrev cn_getall : List (Str × Nat) := [(Str.ofString "name", 1)]
theorem loc_getall : ∀ x ∈ ln_getall, (defS (at2 P2 12 7)).names.lookup x = some .local := by decide +kernel
theorem nd_getall : ln_getall.Nodup := by decide +kernel
noncomputable def b_getall : { b : List Stmt // defB (at2 P2 12 7) = b } := ⟨[_, _], rfl⟩
noncomputable def s_getall (w : World) : { F : FM PF // ∀ L, Den (C2 w) 2 (FI.fn fd247 247 ln_getall cn_getall L) RFl (execs (defB (at2 P2 12 7)) (callEnvC fd247 L 247)) F } := ⟨_, fun L => by
  have ok : FI.Ok (FI.fn fd247 247 ln_getall cn_getall L) := ok_fn (fd := fd247) rfl rfl rfl loc_getall nd_getall
  rw [b_getall.2]
  exact (dens_cons (den_assign (den_method_kw (den_local (i := 0) ok rfl) (meth_inst (C := 308) (fa := 209) (by kernel_rfl)) (keepOk_ref (a := 209) (by kernel_rfl)) (denl_cons (den_method (den_cell (i := 0) ok rfl (by kernel_rfl) (.inl (by kernel_rfl))) (meth_str F.slot_str_lower F.type_str_lower) keepOk_builtin denl_nil op_lower) denl_nil) den_bool ((k_conv w).weak (by decide))) (dena_cell (i := 0) ok rfl (by kernel_rfl) (by kernel_rfl)))
    (dens_cons (den_return (den_listcomp (cl := [(Str.ofString "name", L + 1)]) ⟨by kernel_rfl, by decide +kernel, rfl, by decide +kernel⟩ rfl rfl (denc_one (cl := [(Str.ofString "name", L + 1)]) (ln := [Str.ofString "kv"]) ⟨by kernel_rfl, by decide +kernel, rfl, by decide +kernel⟩ (denit_v (den_attr (den_local (i := 0) ok rfl))) (fun C => (dena_local (i := 0) (ok_comp ok rfl (loc_cons (by kernel_rfl) loc_nil) (by decide +kernel)) rfl)) (fun C => (dents_one (dent_compare (den_method (den_subscript (den_local (i := 0) (ok_comp ok rfl (loc_cons (by kernel_rfl) loc_nil) (by decide +kernel)) rfl) den_int) (meth_str F.slot_str_lower F.type_str_lower) keepOk_builtin denl_nil op_lower) (den_cell (i := 0) (ok_comp ok rfl (loc_cons (by kernel_rfl) loc_nil) (by decide +kernel)) rfl (by kernel_rfl) (.inl (by kernel_rfl))) op_eqG))) (fun C => (den_subscript (den_local (i := 0) (ok_comp ok rfl (loc_cons (by kernel_rfl) loc_nil) (by decide +kernel)) rfl) den_int)))))
    dens_nil))⟩
theorem x_getall (w : World) : DefK (C2 w).K 247 fd247 (defB (at2 P2 12 7)) [Str.ofString "self", Str.ofString "name"] ln_getall cn_getall := ⟨⟨⟨_, _, _, rfl⟩, by kernel_rfl, rfl, rfl, rfl, rfl⟩, rfl, fun L => rfl, by decide +kernel, by decide +kernel, by decide +kernel, loc_getall, by decide +kernel⟩
theorem r_getall (w : World) : FunK (C2 w) 3 (.ref 247) 2 [] (runK (2 + 0) [] [some 0] [some 1] (s_getall w).1) := fun_defK (x_getall w) (dvs := []) (fun _ _ => .nil) rfl (by decide +kernel) (by decide +kernel) (fun s vs ws h1 h2 X => by
  obtain ⟨v0, v1, rfl⟩ := ln2 h1
  obtain rfl := ln0 h2
  exact BindsTo.of_eq (by kernel_rfl)) (s_getall w).2
noncomputable abbrev ln_addh : List Str := [Str.ofString "self", Str.ofString "_name", Str.ofString "_value", Str.ofString "_params", Str.ofString "parts", Str.ofString "k", Str.ofString "v"]
theorem loc_addh : ∀ x ∈ ln_addh, (defS (at2 P2 12 16)).names.lookup x = some .local := by decide +kernel
theorem nd_addh : ln_addh.Nodup := by decide +kernel
noncomputable def b_addh : { b : List Stmt // defB (at2 P2 12 16) = b } := ⟨[_, _, _, _], rfl⟩
noncomputable def s_addh (w : World) : { F : FM PF // ∀ L, Den (C2 w) 2 ⟨callEnv fd305 L 305, ln_addh, []⟩ RFl (execs (defB (at2 P2 12 16)) (callEnv fd305 L 305)) F } := ⟨_, fun L => by
  have ok : FI.Ok ⟨callEnv fd305 L 305, ln_addh, []⟩ := ok_call (fd := fd305) rfl rfl rfl loc_addh nd_addh
  rw [b_addh.2]
  exact (dens_cons (den_assign (den_list_new denl_nil) (dena_local (i := 4) ok rfl))
    (dens_cons (den_if (dent_compare (den_local (i := 2) ok rfl) den_none op_isNotNone)
      (dens_cons (den_assign (den_method_kw (den_local (i := 0) ok rfl) (meth_inst (C := 308) (fa := 209) (by kernel_rfl)) (keepOk_ref (a := 209) (by kernel_rfl)) (denl_cons (den_local (i := 2) ok rfl) denl_nil) den_bool ((k_conv w).weak (by decide))) (dena_local (i := 2) ok rfl))
    (dens_cons (den_expr (den_method (den_local (i := 4) ok rfl) (meth_list F.slot_list_append F.type_list_append) keepOk_builtin (denl_cons (den_local (i := 2) ok rfl) denl_nil) op_append) (by kernel_rfl))
    dens_nil))
      dens_nil)
    (dens_cons (den_for_noitems (i := 3) ok rfl (sysm w))
    (dens_cons (den_expr (den_method (den_attr (den_local (i := 0) ok rfl)) (meth_list F.slot_list_append F.type_list_append) keepOk_builtin (denl_cons (den_tuple (denl_cons (den_method_kw (den_local (i := 0) ok rfl) (meth_inst (C := 308) (fa := 209) (by kernel_rfl)) (keepOk_ref (a := 209) (by kernel_rfl)) (denl_cons (den_local (i := 1) ok rfl) denl_nil) den_bool ((k_conv w).weak (by decide))) (denl_cons (den_method den_str (meth_str F.slot_str_join F.type_str_join) keepOk_builtin (denl_cons (den_local (i := 4) ok rfl) denl_nil) op_join) denl_nil))) denl_nil) op_append) (by kernel_rfl))
    dens_nil))))⟩
theorem r_addh (w : World) : FunK (C2 w) 3 (.ref 305) 3 [] (fun ps st => runK 3 [.ref st.length] [some 0, some 1, some 2, some 3, none, none, none] [] (s_addh w).1 ps (st ++ [.edict])) :=
  fun_defD (names := [Str.ofString "self", Str.ofString "_name", Str.ofString "_value", Str.ofString "_params"]) ⟨⟨_, _, _, rfl⟩, by kernel_rfl, rfl, rfl, rfl, rfl⟩ (by decide +kernel) (by decide +kernel) (by decide +kernel) (by decide +kernel) (by decide +kernel) rfl (fun M A E s vs Q h q => by
    obtain ⟨a, b, d, rfl⟩ := ln3 h
    have e : bindArgs fd305 ⟨[a, b, d], []⟩ = (alloc { cls := .type "dict", data := .dict #[] } >>= fun x => pure ([Str.ofString "self", Str.ofString "_name", Str.ofString "_value", Str.ofString "_params"].zip ([a, b, d] ++ [.ref x]))) := by kernel_rfl
    rw [e]
    exact wpAny_bind (wpAny_alloc (wpAny_pure q))) (s_addh w).2
end Mine
end
section
set_option Elab.async false
set_option maxRecDepth 100000
set_option linter.unusedVariables false
set_option linter.unusedSimpArgs false
namespace Mine
open PySem PySem.Calls PySem.W PyProof.Rows
noncomputable def ptokR (w : World) : List PV → SM PV := runK (2 + 0) [] [some 0, some 1] [] (s_ptoken w).1
theorem k_ptoken (w : World) : FunK (C2 w) 2 (.ref 73) 2 [] (ptokR w) := r_ptoken w
theorem ptok_run (w : World) {st : List AO} {i j : Nat} {n : Int} {p : PV} {ws : Str} {x : PV} {xs : List PV} (h1 : st[i]? = some (.inst 76 (kvW n p ws j))) (h2 : st[j]? = some (.list xs)) (hz : xs.length ≤ sizeLine) :
    ptokR w [.ref i, x] st = some (.none, st.set j (.list (xs ++ [x]))) := by
  simp [ptokR, runK, s_ptoken, seqE, bindE, pureE, liftS, guardE, getL, consE, getA, instOf, h1, h2, ao_pb, getL4, notRaw, isLst, items?, appendG, hz, retOf]
noncomputable abbrev nSz : Str := Str.ofString "_initial_size"
noncomputable abbrev kvA : List (Str × PV) := [(nSz, .int 0)]
theorem a_app : kvGet kvA (Str.ofString "append") = none := by kernel_rfl
theorem a_cnt : kvGet kvA (Str.ofString "part_count") = none := by kernel_rfl
theorem putA (p : PV) : kvPut [] nSz p = [(nSz, p)] := rfl
theorem count_run (w : World) {st : List AO} {i : Nat} {kvs : List (Str × PV)} {xs : List PV} (h : st[i]? = some (.linst 160 kvs xs)) : countR w [.ref i] st = some (.int xs.length, st) := by
  simp [countR, runK, s_count, seqE, bindE, pureE, liftS, guardE, getL, isLinstC, llenG, h, retOf]
noncomputable def pushR (w : World) : List PV → SM PV := runK (3 + 0) [] [some 0, some 1, some 2] [] (s_ppush w).1
theorem k_ppush (w : World) : FunK (C2 w) 2 (.ref 104) 3 [] (pushR w) := r_ppush w
theorem push_run (w : World) {st : List AO} {i : Nat} {a b : PV} {xs : List PV} (h : st[i]? = some (.linst 160 kvA xs)) (hz : xs.length ≤ sizeLine) : pushR w [.ref i, a, b] st = some (.none, st.set i (.linst 160 kvA (xs ++ [.tup [a, b]]))) := by
  have h2 : (2 : Nat) ≤ sizeLine := by rw [sizeLine_eq]; omega
  simp [pushR, runK, s_ppush, seqE, bindE, pureE, liftS, guardE, getL, consE, tupE, isLinst, a_app, lappendG, h, hz, h2, retOf]
noncomputable def popR (w : World) : List PV → SM PV := runK 1 [] [some 0] [] (s_ppop w).1
theorem k_ppop (w : World) : FunK (C2 w) 3 (.ref 120) 1 [] (popR w) := r_ppop w
theorem pop_none (w : World) {st : List AO} {i : Nat} (h : st[i]? = some (.linst 160 kvA [])) : popR w [.ref i] st = some (.tup [.str (Str.ofString ""), .str (Str.ofString "")], st) := by
  have h2 : (2 : Nat) ≤ sizeLine := by rw [sizeLine_eq]; omega
  simp [popR, runK, s_ppop, seqE, bindE, pureE, iteE, liftS, guardE, getL, consE, tupE, isLinst, a_cnt, count_run w h, h, h2, eqG, datS, dat, truthG, retOf, PyData.eqv]
theorem pop_some (w : World) {st : List AO} {i : Nat} {xs : List PV} {y : PV} (h : st[i]? = some (.linst 160 kvA (xs ++ [y]))) (hz : xs.length + 1 ≤ sizeLine) : popR w [.ref i] st = some (y, st.set i (.linst 160 kvA xs)) := by
  have e1 : (xs ++ [y])[xs.length]? = some y := get_app0 _ _
  have e2 : (xs ++ [y]).eraseIdx xs.length = xs := by
    rw [List.eraseIdx_append_of_length_le (Nat.le_refl _)]; simp
  have e3 : ((xs.length : Int) + 1 == 0) = false := by rw [beq_eq_false_iff_ne]; omega
  simp [popR, runK, s_ppop, seqE, bindE, pureE, iteE, liftS, guardE, getL, consE, tupE, isLinst, isLinstC, a_cnt, count_run w h, h, eqG, datS, dat, truthG, retOf, PyData.eqv, e3, lpopG, hz, e1, e2]
end Mine
end
section
set_option Elab.async false
set_option maxRecDepth 100000
set_option linter.unusedVariables false
set_option linter.unusedSimpArgs false
namespace Mine
open PySem PySem.Calls PySem.W PyProof.Rows
noncomputable def make160G (ps : List PV) : SM PV := fun st => match ps with
  | [] => some (.ref st.length, st ++ [.linst 160 kvA []])
  | _ => none
theorem k_make160 (w : World) : OpL (C2 w) 3 (fun vs => call (.ref 160) vs) make160G := by
  refine (op_lmake (C := 160) (fI := 97) (lmakes160 w) (by kernel_rfl) (by kernel_rfl) (r_init160 w)).sub fun ps st r e => ?_
  unfold make160G at e
  split at e
  · (first | obtain ⟨rfl, rfl⟩ := spr e | exact (nos e).elim | obtain rfl := Option.some.inj e | cases e)
    simp [lmakeG, runK, s_init160, seqE, bindE, pureE, liftS, guardE, getL, setLst, isLinstC, linitG, get_app0, set_app0, putA, retOf, sl0]
  · (first | obtain ⟨rfl, rfl⟩ := spr e | exact (nos e).elim | obtain rfl := Option.some.inj e | cases e)
noncomputable abbrev nHd : Str := Str.ofString "_headers"
noncomputable abbrev kvH (h : Nat) : List (Str × PV) := [(nHd, .ref h)]
theorem putH (p : PV) : kvPut [] nHd p = [(nHd, p)] := rfl
theorem getH (p : PV) (l : List (Str × PV)) : kvGet ((nHd, p) :: l) nHd = some p := by kernel_rfl
theorem so_hd (w : World) : setOk (kFrag w.params) 308 nHd = true := by kernel_rfl
theorem ao_hd (w : World) : attrOk (kFrag w.params) 308 nHd = true := by kernel_rfl
theorem get_cv (h : Nat) : kvGet (kvH h) (Str.ofString "_convert_string_type") = none := by kernel_rfl
noncomputable def make308G (ps : List PV) : SM PV := fun st => match ps with
  | [.ref h] => (match st[h]? with
    | some (.list []) => some (.ref st.length, st ++ [.inst 308 (kvH h)])
    | _ => none)
  | _ => none
theorem k_make308 (w : World) : OpL (C2 w) 3 (fun vs => call (.ref 308) vs) make308G := by
  refine (op_make (C := 308) (fI := 202) (by kernel_rfl) (by kernel_rfl) (by kernel_rfl) (r_init308 w)).sub fun ps st r e => ?_
  unfold make308G at e
  split at e
  rotate_left
  · (first | obtain ⟨rfl, rfl⟩ := spr e | exact (nos e).elim | obtain rfl := Option.some.inj e | cases e)
  split at e
  rotate_left
  · (first | obtain ⟨rfl, rfl⟩ := spr e | exact (nos e).elim | obtain rfl := Option.some.inj e | cases e)
  rename_i h _ q
  (first | obtain ⟨rfl, rfl⟩ := spr e | exact (nos e).elim | obtain rfl := Option.some.inj e | cases e)
  have hl : ∀ l, (st ++ l)[h]? = some (.list []) := fun l => by rw [List.getElem?_append_left (lt_of q)]; exact q
  simp [makeG, runK, s_init308, seqE, bindE, pureE, iteE, liftS, guardE, getL, setL, consE, isNotNone, isNoneP, typeG, isNotT, truthG, items?, hl, setA, so_hd, get_app0, set_app0, putH, forE, itsE, itsV, forItems, chkL, retOf]
theorem join_single (x y : Str) : Txt.join x [y] = y := by first | rfl | (unfold Txt.join; rfl) | (simp [Txt.join])
theorem joinOk_single {y : Str} (h : y.length ≤ 1000) : JoinOk (Str.ofString "; ") [y] = true := by
  unfold JoinOk
  have h2 : (Str.ofString "; ").length = 2 := by decide +kernel
  have : ([y].toArray.foldl (· + ·.length + (Str.ofString "; ").length) 0) = 0 + y.length + 2 := by rw [h2]; rfl
  rw [this, notLong (by rw [sizeLine_eq]; omega)]; rfl
noncomputable def addhR (w : World) : List PV → SM PV := fun ps st => runK 3 [.ref st.length] [some 0, some 1, some 2, some 3, none, none, none] [] (s_addh w).1 ps (st ++ [.edict])
theorem k_addh (w : World) : FunK (C2 w) 3 (.ref 305) 3 [] (addhR w) := r_addh w
theorem getA_hd (w : World) {st : List AO} {i h : Nat} (h1 : st[i]? = some (.inst 308 (kvH h))) : getA (kFrag w.params) (Str.ofString "_headers") (.ref i) st = some (.ref h, st) := by
  have e : instOf st (.ref i) = some (308, kvH h) := by
    unfold instOf
    dsimp only
    rw [h1]
  unfold getA
  rw [e]
  dsimp only
  rw [if_pos (ao_hd w), getH]
  rfl
theorem conv_of {p : PV} {x : Str} {t : Bool} (h : plainTxt x = true) (st : List AO) : convG [p, .str x, .bool t] st = some (.str x, st) := by
  unfold convG
  dsimp only
  rw [if_pos h]
theorem addh_run (w : World) {st : List AO} {i h : Nat} {x y : Str} {hs : List PV} (h1 : st[i]? = some (.inst 308 (kvH h))) (h2 : st[h]? = some (.list hs)) (hx : plainTxt x = true) (hy : plainTxt y = true) (hz : hs.length ≤ 1000) :
    addhR w [.ref i, .str x, .str y] st = some (.none, st.set h (.list (hs ++ [.tup [.str x, .str y]])) ++ [.edict, .list [.str y]]) := by
  have g1 : ∀ l, (st ++ l)[i]? = some (.inst 308 (kvH h)) := fun l => by rw [List.getElem?_append_left (lt_of h1)]; exact h1
  have g2 : ∀ l, (st ++ l)[h]? = some (.list hs) := fun l => by rw [List.getElem?_append_left (lt_of h2)]; exact h2
  have hl : y.length ≤ 1000 := by
    simp only [plainTxt, Bool.and_eq_true, decide_eq_true_eq] at hy
    exact hy.2
  have hs3 : hs.length ≤ sizeLine := by rw [sizeLine_eq]; exact Nat.le_trans hz (by decide)
  let E (l4 : Option PV) (S : List AO) : ES := ⟨[some (.ref i), some (.str x), some (.str y), some (.ref st.length), l4, none, none], [], S⟩
  let S1 : List AO := st ++ [.edict, .list []]
  let S2 : List AO := st ++ [.edict, .list [.str y]]
  let q := some (PV.ref (st.length + 1))
  have hj : joinG [.str (Str.ofString "; "), .ref (st.length + 1)] S2 = some (.str y, S2) := by
    have e : (items? S2 (.ref (st.length + 1))).bind texts? = some [y] := by
      have : items? S2 (.ref (st.length + 1)) = some [.str y] := by
        show (match (st ++ [AO.edict, .list [.str y]])[st.length + 1]? with | some (.list xs) => some xs | _ => none) = _
        rw [get_app]; rfl
      rw [this]; rfl
    unfold joinG
    dsimp only
    rw [e]
    dsimp only
    rw [if_pos (joinOk_single hl), join_single]
  have run : (s_addh w).1 (E none (st ++ [.edict])) = some (.next, E q (st.set h (.list (hs ++ [.tup [.str x, .str y]])) ++ [.edict, .list [.str y]])) := by
    simp only [s_addh]
    refine e_seq (es₁ := E q S1) (e_asg (p := .ref (st.length + 1)) (es₁ := E none S1) ?_ rfl) ?_
    · refine e_bind (y := []) (es₁ := E none (st ++ [.edict])) rfl ?_
      unfold newE
      refine (if_pos (Nat.zero_le _)).trans ?_
      show some (PV.ref (st ++ [AO.edict]).length, (⟨_, _, (st ++ [AO.edict]) ++ [AO.list []]⟩ : ES)) = _
      rw [List.length_append, List.append_assoc]
      rfl
    refine e_seq (es₁ := E q S2) (e_ite (t := true) (es₁ := E q S1) (p_lift (p := .bool true) (p_bin (p := .str y) (q := .none) rfl rfl rfl) rfl) ?_) ?_
    · refine e_seq (es₁ := E q S1) (e_asg (p := .str y) (es₁ := E q S1) (e_bind (y := .ref i) (es₁ := E q S1) rfl ?_) rfl) ?_
      · unfold guardE
        rw [if_pos (isInst_of (g1 _) (get_cv h))]
        refine e_bind (y := [.str y]) (es₁ := E q S1) (p_cons rfl rfl) (e_bind (y := .bool false) (es₁ := E q S1) rfl ?_)
        unfold liftS
        dsimp only [List.cons_append, List.nil_append]
        rw [conv_of hy]
      refine e_seq (es₁ := E q S2) (e_expr (p := .none) ?_) rfl
      refine e_meth (p := .ref (st.length + 1)) (es₁ := E q S1) (es₂ := E q S1) (ps := [.str y]) rfl (isLst_ref (get_app st [.edict, .list []] 1)) (p_cons rfl rfl) ?_
      rw [append_ref (get_app st [.edict, .list []] 1) (by decide), set_app]
      rfl
    refine e_seq (es₁ := E q S2) ?_ ?_
    · refine e_bind (y := .ref st.length) (es₁ := E q S2) rfl ?_
      have hd : isEdict (.ref st.length) S2 = true := by
        unfold isEdict
        dsimp only
        rw [get_app0]
        rfl
      unfold guardE
      rw [if_pos hd]
      rfl
    refine e_seq (e_expr (p := .none) ?_) rfl
    refine e_meth (p := .ref h) (es₁ := E q S2) (es₂ := E q S2) (ps := [.tup [.str x, .str y]]) (p_lift (p := .ref i) rfl (getA_hd w (g1 _))) (isLst_ref (g2 _)) (p_cons (p_tup2 (e_bind (y := .ref i) (es₁ := E q S2) rfl ?_) (p_meth (p := .str (Str.ofString "; ")) (ps := [.ref (st.length + 1)]) rfl rfl (p_cons rfl rfl) hj)) rfl) ?_
    · unfold guardE
      rw [if_pos (isInst_of (g1 _) (get_cv h))]
      refine e_bind (y := [.str x]) (es₁ := E q S2) (p_cons rfl rfl) (e_bind (y := .bool true) (es₁ := E q S2) rfl ?_)
      unfold liftS
      dsimp only [List.cons_append, List.nil_append]
      rw [conv_of hx]
    · unfold appendG
      dsimp only
      rw [g2]
      dsimp only
      rw [if_pos hs3, List.set_append_left _ _ (lt_of h2)]
  unfold addhR runK
  rw [if_pos (show [PV.ref i, .str x, .str y].length = 3 from rfl)]
  show (match (s_addh w).1 (E none (st ++ [.edict])) with | some (r, es) => some (retOf r, es.st) | none => none) = _
  rw [run]
  rfl
end Mine
end
section
set_option Elab.async false
set_option maxRecDepth 100000
set_option linter.unusedVariables false
set_option linter.unusedSimpArgs false
namespace Mine
open PySem PySem.Calls PySem.W PyProof.Rows
noncomputable abbrev namesS : Str := Str.ofString "aB\"\\ "
noncomputable def namesG (ps : List PV) : SM PV := fun st => match ps with
  | [] => some (.str namesS, st)
  | _ => none
theorem k_names (w : World) : FunK (C2 w) 2 (.ref 326) 0 [] namesG := (r_names w).sub fun ps st r e => by
  unfold namesG at e
  split at e
  · cases e
    simp [runK, s_names, seqE, bindE, pureE, retOf]
  · cases e
noncomputable def getallR (w : World) : List PV → SM PV := runK (2 + 0) [] [some 0] [some 1] (s_getall w).1
theorem k_getall (w : World) : FunK (C2 w) 3 (.ref 247) 2 [] (getallR w) := r_getall w
noncomputable abbrev ln_ties : List Str := [Str.ofString "bits", Str.ofString "names", Str.ofString "ties", Str.ofString "tied", Str.ofString "one", Str.ofString "two"]
noncomputable abbrev cn_ties : List (Str × Nat) := []
theorem loc_ties : ∀ x ∈ ln_ties, (defS (at1 P2 16)).names.lookup x = some .local := by decide +kernel
theorem nd_ties : ln_ties.Nodup := by decide +kernel
noncomputable def b_ties : { b : List Stmt // defB (at1 P2 16) = b } := ⟨[_, _, _], rfl⟩
noncomputable def s_ties (w : World) : { F : FM PF // ∀ L, Den (C2 w) 3 (FI.fn fd333 333 ln_ties cn_ties L) RFl (execs (defB (at1 P2 16)) (callEnvC fd333 L 333)) F } := ⟨_, fun L => by
  have ok : FI.Ok (FI.fn fd333 333 ln_ties cn_ties L) := ok_fn (fd := fd333) rfl rfl rfl loc_ties nd_ties
  rw [b_ties.2]
  exact (dens_cons (den_swap (names := [Str.ofString "names", Str.ofString "ties", Str.ofString "tied"]) (den_tuple (denl_cons (den_call (den_global ok (by kernel_rfl) (gn__law_names w)) (keepOk_ref (a := 326) (by kernel_rfl)) denl_nil ((k_names w).ok.weak (by decide))) (denl_cons (den_call (den_global ok (by kernel_rfl) (gn_Headers w)) (keepOk_ref (a := 308) (by kernel_rfl)) (denl_cons (den_list_new denl_nil) denl_nil) ((k_make308 w).weak (by decide))) (denl_cons (den_binop (den_list (denl_cons den_int denl_nil)) den_int op_mulG) denl_nil)))) (denbs_cons (denst_local (i := 3) ok rfl) (denbs_cons (denst_local (i := 2) ok rfl) (denbs_cons (denst_local (i := 1) ok rfl) denbs_nil))) (by kernel_rfl))
    (dens_cons (den_for (denit_call (den_builtin ok (by kernel_rfl) (gn_range w) (bn_range w)) keepOk_type (denl_cons den_int denl_nil) opit_range) (dena_local (i := 4) ok rfl)
      (dens_cons (den_for (denit_call (den_builtin ok (by kernel_rfl) (gn_range w) (bn_range w)) keepOk_type (denl_cons (den_local (i := 4) ok rfl) denl_nil) opit_range) (dena_local (i := 5) ok rfl)
      (dens_cons (den_if (dent_value (den_binop (den_local (i := 0) ok rfl) den_int op_modI))
      (dens_cons (den_expr (den_method (den_local (i := 2) ok rfl) (meth_inst (C := 308) (fa := 305) (by kernel_rfl)) (keepOk_ref (a := 305) (by kernel_rfl)) (denl_cons (den_method (den_subscript (den_local (i := 1) ok rfl) (den_local (i := 4) ok rfl)) (meth_str F.slot_str_upper F.type_str_upper) keepOk_builtin denl_nil op_upper) (denl_cons (den_subscript (den_local (i := 1) ok rfl) (den_local (i := 5) ok rfl)) denl_nil)) ((k_addh w).ok.weak (by decide))) (by kernel_rfl))
    (dens_cons (den_expr (den_method (den_local (i := 2) ok rfl) (meth_inst (C := 308) (fa := 305) (by kernel_rfl)) (keepOk_ref (a := 305) (by kernel_rfl)) (denl_cons (den_method (den_subscript (den_local (i := 1) ok rfl) (den_local (i := 5) ok rfl)) (meth_str F.slot_str_swapcase F.type_str_swapcase) keepOk_builtin denl_nil op_swapcase) (denl_cons (den_subscript (den_local (i := 1) ok rfl) (den_local (i := 4) ok rfl)) denl_nil)) ((k_addh w).ok.weak (by decide))) (by kernel_rfl))
    (dens_cons (den_aug_item (den_local (i := 3) ok rfl) (den_local (i := 4) ok rfl) (den_binop den_int (den_local (i := 5) ok rfl) op_powI) op_iaddG)
    (dens_cons (den_aug_item (den_local (i := 3) ok rfl) (den_local (i := 5) ok rfl) (den_binop den_int (den_local (i := 4) ok rfl) op_powI) op_iaddG)
    dens_nil))))
      dens_nil)
    (dens_cons (den_aug_local (i := 0) ok rfl den_int op_idivI)
    dens_nil)))
    dens_nil))
    (dens_cons (den_return (den_tuple (denl_cons (den_local (i := 2) ok rfl) (denl_cons (den_local (i := 3) ok rfl) denl_nil))))
    dens_nil)))⟩
theorem x_ties (w : World) : DefK (C2 w).K 333 fd333 (defB (at1 P2 16)) [Str.ofString "bits"] ln_ties cn_ties := ⟨⟨⟨_, _, _, rfl⟩, by kernel_rfl, rfl, rfl, rfl, rfl⟩, rfl, fun L => rfl, by decide +kernel, by decide +kernel, by decide +kernel, loc_ties, by decide +kernel⟩
theorem r_ties (w : World) : FunK (C2 w) 4 (.ref 333) 1 [] (runK (1 + 0) [] [some 0, none, none, none, none, none] [] (s_ties w).1) := fun_defK (x_ties w) (dvs := []) (fun _ _ => .nil) rfl (by decide +kernel) (by decide +kernel) (fun s vs ws h1 h2 X => by
  obtain ⟨v0, rfl⟩ := ln1 h1
  obtain rfl := ln0 h2
  exact BindsTo.of_eq (by kernel_rfl)) (s_ties w).2
noncomputable abbrev ln_order : List Str := [Str.ofString "number", Str.ofString "order", Str.ofString "place", Str.ofString "spot"]
noncomputable abbrev cn_order : List (Str × Nat) := []
theorem loc_order : ∀ x ∈ ln_order, (defS (at1 P2 17)).names.lookup x = some .local := by decide +kernel
theorem nd_order : ln_order.Nodup := by decide +kernel
noncomputable def b_order : { b : List Stmt // defB (at1 P2 17) = b } := ⟨[_, _, _], rfl⟩
noncomputable def s_order (w : World) : { F : FM PF // ∀ L, Den (C2 w) 2 (FI.fn fd338 338 ln_order cn_order L) RFl (execs (defB (at1 P2 17)) (callEnvC fd338 L 338)) F } := ⟨_, fun L => by
  have ok : FI.Ok (FI.fn fd338 338 ln_order cn_order L) := ok_fn (fd := fd338) rfl rfl rfl loc_order nd_order
  rw [b_order.2]
  exact (dens_cons (den_assign (den_list_new denl_nil) (dena_local (i := 1) ok rfl))
    (dens_cons (den_for (denit_call (den_builtin ok (by kernel_rfl) (gn_range w) (bn_range w)) keepOk_type (denl_cons den_int denl_nil) opit_range) (dena_local (i := 2) ok rfl)
      (dens_cons (den_assign (den_binop (den_local (i := 0) ok rfl) (den_binop (den_local (i := 2) ok rfl) den_int op_addG) op_modI) (dena_local (i := 3) ok rfl))
    (dens_cons (den_assign (den_binop (den_binop (den_slice (den_local (i := 1) ok rfl) denp_none (denp_some (den_local (i := 3) ok rfl)) denp_none) (den_list (denl_cons (den_local (i := 2) ok rfl) denl_nil)) op_addG) (den_slice (den_local (i := 1) ok rfl) (denp_some (den_local (i := 3) ok rfl)) denp_none denp_none) op_addG) (dena_local (i := 1) ok rfl))
    (dens_cons (den_aug_local (i := 0) ok rfl (den_binop (den_local (i := 2) ok rfl) den_int op_addG) op_idivI)
    dens_nil))))
    (dens_cons (den_return (den_listcomp (cl := []) ⟨by kernel_rfl, by decide +kernel, rfl, by decide +kernel⟩ rfl rfl (denc_one (cl := []) (ln := [Str.ofString "place"]) ⟨by kernel_rfl, by decide +kernel, rfl, by decide +kernel⟩ (denit_v (den_local (i := 1) ok rfl)) (fun C => (dena_local (i := 0) (ok_comp ok rfl (loc_cons (by kernel_rfl) loc_nil) (by decide +kernel)) rfl)) (fun C => dents_nil) (fun C => (den_subscript (den_call (den_global (ok_comp ok rfl (loc_cons (by kernel_rfl) loc_nil) (by decide +kernel)) (by kernel_rfl) (gn__law_names w)) (keepOk_ref (a := 326) (by kernel_rfl)) denl_nil ((k_names w).ok.weak (by decide))) (den_local (i := 0) (ok_comp ok rfl (loc_cons (by kernel_rfl) loc_nil) (by decide +kernel)) rfl))))))
    dens_nil)))⟩
theorem x_order (w : World) : DefK (C2 w).K 338 fd338 (defB (at1 P2 17)) [Str.ofString "number"] ln_order cn_order := ⟨⟨⟨_, _, _, rfl⟩, by kernel_rfl, rfl, rfl, rfl, rfl⟩, rfl, fun L => rfl, by decide +kernel, by decide +kernel, by decide +kernel, loc_order, by decide +kernel⟩
theorem r_order (w : World) : FunK (C2 w) 3 (.ref 338) 1 [] (runK (1 + 0) [] [some 0, none, none, none] [] (s_order w).1) := fun_defK (x_order w) (dvs := []) (fun _ _ => .nil) rfl (by decide +kernel) (by decide +kernel) (fun s vs ws h1 h2 X => by
  obtain ⟨v0, rfl⟩ := ln1 h1
  obtain rfl := ln0 h2
  exact BindsTo.of_eq (by kernel_rfl)) (s_order w).2
noncomputable abbrev ln_kept : List Str := [Str.ofString "kept", Str.ofString "inside"]
noncomputable abbrev cn_kept : List (Str × Nat) := [(Str.ofString "choice", 2), (Str.ofString "tied", 1)]
theorem loc_kept : ∀ x ∈ ln_kept, (defS (at1 P2 18)).names.lookup x = some .local := by decide +kernel
theorem nd_kept : ln_kept.Nodup := by decide +kernel
noncomputable def b_kept : { b : List Stmt // defB (at1 P2 18) = b } := ⟨[_, _, _], rfl⟩
noncomputable def s_kept (w : World) : { F : FM PF // ∀ L, Den (C2 w) 1 (FI.fn fd343 343 ln_kept cn_kept L) RFl (execs (defB (at1 P2 18)) (callEnvC fd343 L 343)) F } := ⟨_, fun L => by
  have ok : FI.Ok (FI.fn fd343 343 ln_kept cn_kept L) := ok_fn (fd := fd343) rfl rfl rfl loc_kept nd_kept
  rw [b_kept.2]
  exact (dens_cons (den_assign den_int (dena_local (i := 0) ok rfl))
    (dens_cons (den_for (denit_call (den_builtin ok (by kernel_rfl) (gn_range w) (bn_range w)) keepOk_type (denl_cons den_int denl_nil) opit_range) (dena_cell (i := 0) ok rfl (by kernel_rfl) (by kernel_rfl))
      (dens_cons (den_assign_comp (cl := [(Str.ofString "choice", L + 2)]) ⟨by kernel_rfl, by decide +kernel, rfl, by decide +kernel⟩ rfl rfl (denc_one (cl := [(Str.ofString "choice", L + 2)]) (ln := [Str.ofString "one"]) ⟨by kernel_rfl, by decide +kernel, rfl, by decide +kernel⟩ (denit_call (den_builtin ok (by kernel_rfl) (gn_range w) (bn_range w)) keepOk_type (denl_cons den_int denl_nil) opit_range) (fun C => (dena_local (i := 0) (ok_comp ok rfl (loc_cons (by kernel_rfl) loc_nil) (by decide +kernel)) rfl)) (fun C => (dents_one (dent_value (den_binop (den_binop (den_cell (i := 0) (ok_comp ok rfl (loc_cons (by kernel_rfl) loc_nil) (by decide +kernel)) rfl (by kernel_rfl) (.inl (by kernel_rfl))) (den_binop den_int (den_local (i := 0) (ok_comp ok rfl (loc_cons (by kernel_rfl) loc_nil) (by decide +kernel)) rfl) op_powI) op_divI) den_int op_modI)))) (fun C => (den_local (i := 0) (ok_comp ok rfl (loc_cons (by kernel_rfl) loc_nil) (by decide +kernel)) rfl))) (dena_local (i := 1) ok rfl) (by kernel_rfl))
    (dens_cons (den_if (dent_compare den_bool (den_listcomp (cl := [(Str.ofString "tied", L + 1), (Str.ofString "choice", L + 2)]) ⟨by kernel_rfl, by decide +kernel, rfl, by decide +kernel⟩ rfl rfl (denc_one (cl := [(Str.ofString "tied", L + 1), (Str.ofString "choice", L + 2)]) (ln := [Str.ofString "one"]) ⟨by kernel_rfl, by decide +kernel, rfl, by decide +kernel⟩ (denit_v (den_local (i := 1) ok rfl)) (fun C => (dena_local (i := 0) (ok_comp ok rfl (loc_cons (by kernel_rfl) loc_nil) (by decide +kernel)) rfl)) (fun C => dents_nil) (fun C => (den_compare (den_binop (den_subscript (den_cell (i := 1) (ok_comp ok rfl (loc_cons (by kernel_rfl) loc_nil) (by decide +kernel)) rfl (by kernel_rfl) (.inl (by kernel_rfl))) (den_local (i := 0) (ok_comp ok rfl (loc_cons (by kernel_rfl) loc_nil) (by decide +kernel)) rfl)) (den_cell (i := 0) (ok_comp ok rfl (loc_cons (by kernel_rfl) loc_nil) (by decide +kernel)) rfl (by kernel_rfl) (.inl (by kernel_rfl))) op_andI) (den_tuple (denl_cons den_int (denl_cons (den_binop (den_cell (i := 0) (ok_comp ok rfl (loc_cons (by kernel_rfl) loc_nil) (by decide +kernel)) rfl (by kernel_rfl) (.inl (by kernel_rfl))) (den_binop den_int (den_local (i := 0) (ok_comp ok rfl (loc_cons (by kernel_rfl) loc_nil) (by decide +kernel)) rfl) op_powI) op_subI) denl_nil))) op_notInG)))) op_notInG)
      (dens_cons (den_aug_local (i := 0) ok rfl (den_cell (i := 0) ok rfl (by kernel_rfl) (.inl (by kernel_rfl))) op_iorI)
    dens_nil)
      dens_nil)
    dens_nil)))
    (dens_cons (den_return (den_local (i := 0) ok rfl))
    dens_nil)))⟩
theorem x_kept (w : World) : DefK (C2 w).K 343 fd343 (defB (at1 P2 18)) [Str.ofString "tied"] ln_kept cn_kept := ⟨⟨⟨_, _, _, rfl⟩, by kernel_rfl, rfl, rfl, rfl, rfl⟩, rfl, fun L => rfl, by decide +kernel, by decide +kernel, by decide +kernel, loc_kept, by decide +kernel⟩
theorem r_kept (w : World) : FunK (C2 w) 2 (.ref 343) 1 [] (runK (1 + 0) [] [none, none] [none, some 0] (s_kept w).1) := fun_defK (x_kept w) (dvs := []) (fun _ _ => .nil) rfl (by decide +kernel) (by decide +kernel) (fun s vs ws h1 h2 X => by
  obtain ⟨v0, rfl⟩ := ln1 h1
  obtain rfl := ln0 h2
  exact BindsTo.of_eq (by kernel_rfl)) (s_kept w).2
noncomputable abbrev ln_crossed : List Str := [Str.ofString "tied", Str.ofString "one", Str.ofString "two", Str.ofString "both"]
noncomputable abbrev cn_crossed : List (Str × Nat) := []
theorem loc_crossed : ∀ x ∈ ln_crossed, (defS (at1 P2 19)).names.lookup x = some .local := by decide +kernel
theorem nd_crossed : ln_crossed.Nodup := by decide +kernel
noncomputable def b_crossed : { b : List Stmt // defB (at1 P2 19) = b } := ⟨[_, _], rfl⟩
noncomputable def s_crossed (w : World) : { F : FM PF // ∀ L, Den (C2 w) 1 (FI.fn fd350 350 ln_crossed cn_crossed L) RFl (execs (defB (at1 P2 19)) (callEnvC fd350 L 350)) F } := ⟨_, fun L => by
  have ok : FI.Ok (FI.fn fd350 350 ln_crossed cn_crossed L) := ok_fn (fd := fd350) rfl rfl rfl loc_crossed nd_crossed
  rw [b_crossed.2]
  exact (dens_cons (den_for (denit_call (den_builtin ok (by kernel_rfl) (gn_range w) (bn_range w)) keepOk_type (denl_cons den_int denl_nil) opit_range) (dena_local (i := 1) ok rfl)
      (dens_cons (den_for (denit_call (den_builtin ok (by kernel_rfl) (gn_range w) (bn_range w)) keepOk_type (denl_cons (den_local (i := 1) ok rfl) denl_nil) opit_range) (dena_local (i := 2) ok rfl)
      (dens_cons (den_assign (den_binop (den_subscript (den_local (i := 0) ok rfl) (den_local (i := 1) ok rfl)) (den_subscript (den_local (i := 0) ok rfl) (den_local (i := 2) ok rfl)) op_andI) (dena_local (i := 3) ok rfl))
    (dens_cons (den_if (dent_boolop (dent_and_cons (dent_compare (den_binop (den_subscript (den_local (i := 0) ok rfl) (den_local (i := 1) ok rfl)) (den_local (i := 3) ok rfl) op_subI) (den_tuple (denl_cons den_int (denl_cons (den_binop den_int (den_local (i := 2) ok rfl) op_powI) denl_nil))) op_notInG) (dent_and_cons (dent_compare (den_binop (den_subscript (den_local (i := 0) ok rfl) (den_local (i := 2) ok rfl)) (den_local (i := 3) ok rfl) op_subI) (den_tuple (denl_cons den_int (denl_cons (den_binop den_int (den_local (i := 1) ok rfl) op_powI) denl_nil))) op_notInG) dent_all_nil)))
      (dens_cons (den_return den_bool)
    dens_nil)
      dens_nil)
    dens_nil)))
    dens_nil))
    (dens_cons (den_return den_bool)
    dens_nil))⟩
theorem x_crossed (w : World) : DefK (C2 w).K 350 fd350 (defB (at1 P2 19)) [Str.ofString "tied"] ln_crossed cn_crossed := ⟨⟨⟨_, _, _, rfl⟩, by kernel_rfl, rfl, rfl, rfl, rfl⟩, rfl, fun L => rfl, by decide +kernel, by decide +kernel, by decide +kernel, loc_crossed, by decide +kernel⟩
theorem r_crossed (w : World) : FunK (C2 w) 2 (.ref 350) 1 [] (runK (1 + 0) [] [some 0, none, none, none] [] (s_crossed w).1) := fun_defK (x_crossed w) (dvs := []) (fun _ _ => .nil) rfl (by decide +kernel) (by decide +kernel) (fun s vs ws h1 h2 X => by
  obtain ⟨v0, rfl⟩ := ln1 h1
  obtain rfl := ln0 h2
  exact BindsTo.of_eq (by kernel_rfl)) (s_crossed w).2
noncomputable abbrev ln_drawn : List Str := [Str.ofString "tied", Str.ofString "kept", Str.ofString "names", Str.ofString "pairs", Str.ofString "one", Str.ofString "two", Str.ofString "waiting"]
noncomputable abbrev cn_drawn : List (Str × Nat) := []
theorem loc_drawn : ∀ x ∈ ln_drawn, (defS (at1 P2 20)).names.lookup x = some .local := by decide +kernel
theorem nd_drawn : ln_drawn.Nodup := by decide +kernel
noncomputable def b_drawn : { b : List Stmt // defB (at1 P2 20) = b } := ⟨[_, _, _], rfl⟩
noncomputable def s_drawn (w : World) : { F : FM PF // ∀ L, Den (C2 w) 2 (FI.fn fd357 357 ln_drawn cn_drawn L) RFl (execs (defB (at1 P2 20)) (callEnvC fd357 L 357)) F } := ⟨_, fun L => by
  have ok : FI.Ok (FI.fn fd357 357 ln_drawn cn_drawn L) := ok_fn (fd := fd357) rfl rfl rfl loc_drawn nd_drawn
  rw [b_drawn.2]
  exact (dens_cons (den_swap (names := [Str.ofString "names", Str.ofString "pairs"]) (den_tuple (denl_cons (den_call (den_global ok (by kernel_rfl) (gn__law_names w)) (keepOk_ref (a := 326) (by kernel_rfl)) denl_nil ((k_names w).ok.weak (by decide))) (denl_cons (den_list_new denl_nil) denl_nil))) (denbs_cons (denst_local (i := 3) ok rfl) (denbs_cons (denst_local (i := 2) ok rfl) denbs_nil)) (by kernel_rfl))
    (dens_cons (den_for (denit_call (den_builtin ok (by kernel_rfl) (gn_range w) (bn_range w)) keepOk_type (denl_cons den_int denl_nil) opit_range) (dena_local (i := 4) ok rfl)
      (dens_cons (den_for (denit_call (den_builtin ok (by kernel_rfl) (gn_range w) (bn_range w)) keepOk_type (denl_cons (den_local (i := 4) ok rfl) denl_nil) opit_range) (dena_local (i := 5) ok rfl)
      (dens_cons (den_assign (den_and2 (den_binop (den_binop (den_local (i := 1) ok rfl) (den_binop den_int (den_local (i := 4) ok rfl) op_powI) op_divI) den_int op_modI) (den_binop (den_binop (den_local (i := 1) ok rfl) (den_binop den_int (den_local (i := 5) ok rfl) op_powI) op_divI) den_int op_modI)) (dena_local (i := 6) ok rfl))
    (dens_cons (den_if (dent_boolop (dent_and_cons (dent_value (den_binop (den_binop (den_subscript (den_local (i := 0) ok rfl) (den_local (i := 4) ok rfl)) (den_binop den_int (den_local (i := 5) ok rfl) op_powI) op_divI) den_int op_modI)) (dent_and_cons (dent_not (dent_value (den_local (i := 6) ok rfl))) dent_all_nil)))
      (dens_cons (den_expr (den_method (den_local (i := 3) ok rfl) (meth_list F.slot_list_append F.type_list_append) keepOk_builtin (denl_cons (den_method den_str (meth_str F.slot_str_join F.type_str_join) keepOk_builtin (denl_cons (den_call (den_builtin ok (by kernel_rfl) (gn_sorted w) (bn_sorted w)) keepOk_builtin (denl_cons (den_list (denl_cons (den_subscript (den_local (i := 2) ok rfl) (den_local (i := 4) ok rfl)) (denl_cons (den_subscript (den_local (i := 2) ok rfl) (den_local (i := 5) ok rfl)) denl_nil))) denl_nil) op_sorted) denl_nil) op_join) denl_nil) op_append) (by kernel_rfl))
    dens_nil)
      dens_nil)
    dens_nil)))
    dens_nil))
    (dens_cons (den_return (den_call (den_builtin ok (by kernel_rfl) (gn_sorted w) (bn_sorted w)) keepOk_builtin (denl_cons (den_local (i := 3) ok rfl) denl_nil) op_sorted))
    dens_nil)))⟩
theorem x_drawn (w : World) : DefK (C2 w).K 357 fd357 (defB (at1 P2 20)) [Str.ofString "tied", Str.ofString "kept"] ln_drawn cn_drawn := ⟨⟨⟨_, _, _, rfl⟩, by kernel_rfl, rfl, rfl, rfl, rfl⟩, rfl, fun L => rfl, by decide +kernel, by decide +kernel, by decide +kernel, loc_drawn, by decide +kernel⟩
theorem r_drawn (w : World) : FunK (C2 w) 3 (.ref 357) 2 [] (runK (2 + 0) [] [some 0, some 1, none, none, none, none, none] [] (s_drawn w).1) := fun_defK (x_drawn w) (dvs := []) (fun _ _ => .nil) rfl (by decide +kernel) (by decide +kernel) (fun s vs ws h1 h2 X => by
  obtain ⟨v0, v1, rfl⟩ := ln2 h1
  obtain rfl := ln0 h2
  exact BindsTo.of_eq (by kernel_rfl)) (s_drawn w).2
noncomputable abbrev ln_gone : List Str := [Str.ofString "ties", Str.ofString "line", Str.ofString "pile", Str.ofString "turn", Str.ofString "point", Str.ofString "near"]
noncomputable abbrev cn_gone : List (Str × Nat) := [(Str.ofString "others", 1)]
theorem loc_gone : ∀ x ∈ ln_gone, (defS (at1 P2 21)).names.lookup x = some .local := by decide +kernel
theorem nd_gone : ln_gone.Nodup := by decide +kernel
noncomputable def b_gone : { b : List Stmt // defB (at1 P2 21) = b } := ⟨[_, _, _], rfl⟩
noncomputable def s_gone (w : World) : { F : FM PF // ∀ L, Den (C2 w) 5 (FI.fn fd362 362 ln_gone cn_gone L) RFl (execs (defB (at1 P2 21)) (callEnvC fd362 L 362)) F } := ⟨_, fun L => by
  have ok : FI.Ok (FI.fn fd362 362 ln_gone cn_gone L) := ok_fn (fd := fd362) rfl rfl rfl loc_gone nd_gone
  rw [b_gone.2]
  exact (dens_cons (den_assign (den_call (den_global ok (by kernel_rfl) (gn__Accumulator w)) (keepOk_ref (a := 160) (by kernel_rfl)) denl_nil ((k_make160 w).weak (by decide))) (dena_local (i := 2) ok rfl))
    (dens_cons (den_for (denit_call (den_builtin ok (by kernel_rfl) (gn_range w) (bn_range w)) keepOk_type (denl_cons den_int denl_nil) opit_range) (dena_local (i := 3) ok rfl)
      (dens_cons (den_if (dent_value (den_attr (den_local (i := 1) ok rfl)))
      (dens_cons (den_assign (den_method (den_local (i := 1) ok rfl) (meth_inst (C := 76) (fa := 66) (by kernel_rfl)) (keepOk_ref (a := 66) (by kernel_rfl)) denl_nil ((k_token w).ok.weak (by decide))) (dena_local (i := 4) ok rfl))
    (dens_cons (den_assign (den_call (den_builtin ok (by kernel_rfl) (gn_list w) (bn_list w)) keepOk_type (denl_cons (den_attr (den_local (i := 1) ok rfl)) denl_nil) op_list) (dena_cell (i := 0) ok rfl (by kernel_rfl) (by kernel_rfl)))
    (dens_cons (den_assign_comp (cl := [(Str.ofString "others", L + 1)]) ⟨by kernel_rfl, by decide +kernel, rfl, by decide +kernel⟩ rfl rfl (denc_one (cl := [(Str.ofString "others", L + 1)]) (ln := [Str.ofString "other"]) ⟨by kernel_rfl, by decide +kernel, rfl, by decide +kernel⟩ (denit_v (den_method (den_local (i := 0) ok rfl) (meth_inst (C := 308) (fa := 247) (by kernel_rfl)) (keepOk_ref (a := 247) (by kernel_rfl)) (denl_cons (den_local (i := 4) ok rfl) denl_nil) ((k_getall w).ok.weak (by decide)))) (fun C => (dena_local (i := 0) (ok_comp ok rfl (loc_cons (by kernel_rfl) loc_nil) (by decide +kernel)) rfl)) (fun C => (dents_one (dent_compare (den_local (i := 0) (ok_comp ok rfl (loc_cons (by kernel_rfl) loc_nil) (by decide +kernel)) rfl) (den_cell (i := 0) (ok_comp ok rfl (loc_cons (by kernel_rfl) loc_nil) (by decide +kernel)) rfl (by kernel_rfl) (.inl (by kernel_rfl))) op_inG))) (fun C => (den_local (i := 0) (ok_comp ok rfl (loc_cons (by kernel_rfl) loc_nil) (by decide +kernel)) rfl))) (dena_local (i := 5) ok rfl) (by kernel_rfl))
    (dens_cons (den_if (dent_compare (den_call (den_builtin ok (by kernel_rfl) (gn_len w) (bn_len w)) keepOk_builtin (denl_cons (den_local (i := 5) ok rfl) denl_nil) op_len) (den_tuple (denl_cons den_int (denl_cons (den_call (den_builtin ok (by kernel_rfl) (gn_len w) (bn_len w)) keepOk_builtin (denl_cons (den_cell (i := 0) ok rfl (by kernel_rfl) (.inl (by kernel_rfl))) denl_nil) op_len) denl_nil))) op_inG)
      (dens_cons (den_expr (den_method (den_local (i := 2) ok rfl) (meth_linst (C := 160) (fv := .ref 104) (ty := "function") (by kernel_rfl)) (keepOk_ref (a := 104) (by kernel_rfl)) (denl_cons (den_ifexp (dent_value (den_local (i := 5) ok rfl)) den_str den_str) (denl_cons (den_local (i := 4) ok rfl) denl_nil)) ((k_ppush w).ok.weak (by decide))) (by kernel_rfl))
    dens_nil)
      (dens_cons (den_expr (den_method (den_local (i := 1) ok rfl) (meth_inst (C := 76) (fa := 73) (by kernel_rfl)) (keepOk_ref (a := 73) (by kernel_rfl)) (denl_cons (den_local (i := 4) ok rfl) denl_nil) ((k_ptoken w).ok.weak (by decide))) (by kernel_rfl))
    dens_nil))
    dens_nil))))
      dens_nil)
    dens_nil))
    (dens_cons (den_return (den_local (i := 2) ok rfl))
    dens_nil)))⟩
theorem x_gone (w : World) : DefK (C2 w).K 362 fd362 (defB (at1 P2 21)) [Str.ofString "ties", Str.ofString "line"] ln_gone cn_gone := ⟨⟨⟨_, _, _, rfl⟩, by kernel_rfl, rfl, rfl, rfl, rfl⟩, rfl, fun L => rfl, by decide +kernel, by decide +kernel, by decide +kernel, loc_gone, by decide +kernel⟩
theorem r_gone (w : World) : FunK (C2 w) 6 (.ref 362) 2 [] (runK (2 + 0) [] [some 0, some 1, none, none, none, none] [none] (s_gone w).1) := fun_defK (x_gone w) (dvs := []) (fun _ _ => .nil) rfl (by decide +kernel) (by decide +kernel) (fun s vs ws h1 h2 X => by
  obtain ⟨v0, v1, rfl⟩ := ln2 h1
  obtain rfl := ln0 h2
  exact BindsTo.of_eq (by kernel_rfl)) (s_gone w).2
noncomputable abbrev ln_back : List Str := [Str.ofString "pile", Str.ofString "waiting", Str.ofString "marks", Str.ofString "pairs", Str.ofString "here"]
noncomputable abbrev cn_back : List (Str × Nat) := [(Str.ofString "point", 2), (Str.ofString "mark", 1)]
theorem loc_back : ∀ x ∈ ln_back, (defS (at1 P2 22)).names.lookup x = some .local := by decide +kernel
theorem nd_back : ln_back.Nodup := by decide +kernel
noncomputable def b_back : { b : List Stmt // defB (at1 P2 22) = b } := ⟨[_, _, _, _], rfl⟩
noncomputable def s_back (w : World) : { F : FM PF // ∀ L, Den (C2 w) 3 (FI.fn fd367 367 ln_back cn_back L) RFl (execs (defB (at1 P2 22)) (callEnvC fd367 L 367)) F } := ⟨_, fun L => by
  have ok : FI.Ok (FI.fn fd367 367 ln_back cn_back L) := ok_fn (fd := fd367) rfl rfl rfl loc_back nd_back
  rw [b_back.2]
  exact (dens_cons (den_swap (names := [Str.ofString "marks", Str.ofString "pairs", Str.ofString "here"]) (den_tuple (denl_cons den_str (denl_cons (den_list_new denl_nil) (denl_cons (den_call (den_builtin ok (by kernel_rfl) (gn_list w) (bn_list w)) keepOk_type (denl_cons (den_local (i := 1) ok rfl) denl_nil) op_list_new) denl_nil)))) (denbs_cons (denst_local (i := 4) ok rfl) (denbs_cons (denst_local (i := 3) ok rfl) (denbs_cons (denst_local (i := 2) ok rfl) denbs_nil))) (by kernel_rfl))
    (dens_cons (den_assign (den_method (den_local (i := 0) ok rfl) (meth_linst (C := 160) (fv := .ref 120) (ty := "function") (by kernel_rfl)) (keepOk_ref (a := 120) (by kernel_rfl)) denl_nil ((k_ppop w).ok.weak (by decide))) (dena_tuple (denas_cons (dena_cell (i := 1) ok rfl (by kernel_rfl) (by kernel_rfl)) (denas_cons (dena_cell (i := 0) ok rfl (by kernel_rfl) (by kernel_rfl)) denas_nil))))
    (dens_cons (den_while (N := fun _ => 20) (dent_value (den_cell (i := 0) ok rfl (by kernel_rfl) (.inl (by kernel_rfl))))
      (dens_cons (den_assign (den_binop (den_cell (i := 1) ok rfl (by kernel_rfl) (.inl (by kernel_rfl))) (den_local (i := 2) ok rfl) op_addG) (dena_local (i := 2) ok rfl))
    (dens_cons (den_expr (den_method (den_local (i := 3) ok rfl) (meth_list F.slot_list_extend F.type_list_extend) keepOk_builtin (denl_cons (den_listcomp (cl := [(Str.ofString "point", L + 2), (Str.ofString "mark", L + 1)]) ⟨by kernel_rfl, by decide +kernel, rfl, by decide +kernel⟩ rfl rfl (denc_one (cl := [(Str.ofString "point", L + 2), (Str.ofString "mark", L + 1)]) (ln := [Str.ofString "other"]) ⟨by kernel_rfl, by decide +kernel, rfl, by decide +kernel⟩ (denit_v (den_local (i := 4) ok rfl)) (fun C => (dena_local (i := 0) (ok_comp ok rfl (loc_cons (by kernel_rfl) loc_nil) (by decide +kernel)) rfl)) (fun C => (dents_one (dent_compare (den_cell (i := 1) (ok_comp ok rfl (loc_cons (by kernel_rfl) loc_nil) (by decide +kernel)) rfl (by kernel_rfl) (.inl (by kernel_rfl))) den_str op_eqG))) (fun C => (den_method den_str (meth_str F.slot_str_join F.type_str_join) keepOk_builtin (denl_cons (den_call (den_builtin (ok_comp ok rfl (loc_cons (by kernel_rfl) loc_nil) (by decide +kernel)) (by kernel_rfl) (gn_sorted w) (bn_sorted w)) keepOk_builtin (denl_cons (den_list (denl_cons (den_cell (i := 0) (ok_comp ok rfl (loc_cons (by kernel_rfl) loc_nil) (by decide +kernel)) rfl (by kernel_rfl) (.inl (by kernel_rfl))) (denl_cons (den_local (i := 0) (ok_comp ok rfl (loc_cons (by kernel_rfl) loc_nil) (by decide +kernel)) rfl) denl_nil))) denl_nil) op_sorted) denl_nil) op_join)))) denl_nil) op_extend) (by kernel_rfl))
    (dens_cons (den_expr (den_method (den_local (i := 4) ok rfl) (meth_list F.slot_list_append F.type_list_append) keepOk_builtin (denl_cons (den_cell (i := 0) ok rfl (by kernel_rfl) (.inl (by kernel_rfl))) denl_nil) op_append) (by kernel_rfl))
    (dens_cons (den_assign (den_method (den_local (i := 0) ok rfl) (meth_linst (C := 160) (fv := .ref 120) (ty := "function") (by kernel_rfl)) (keepOk_ref (a := 120) (by kernel_rfl)) denl_nil ((k_ppop w).ok.weak (by decide))) (dena_tuple (denas_cons (dena_cell (i := 1) ok rfl (by kernel_rfl) (by kernel_rfl)) (denas_cons (dena_cell (i := 0) ok rfl (by kernel_rfl) (by kernel_rfl)) denas_nil))))
    dens_nil)))))
    (dens_cons (den_return (den_tuple (denl_cons (den_local (i := 2) ok rfl) (denl_cons (den_call (den_builtin ok (by kernel_rfl) (gn_sorted w) (bn_sorted w)) keepOk_builtin (denl_cons (den_local (i := 3) ok rfl) denl_nil) op_sorted) denl_nil))))
    dens_nil))))⟩
theorem x_back (w : World) : DefK (C2 w).K 367 fd367 (defB (at1 P2 22)) [Str.ofString "pile", Str.ofString "waiting"] ln_back cn_back := ⟨⟨⟨_, _, _, rfl⟩, by kernel_rfl, rfl, rfl, rfl, rfl⟩, rfl, fun L => rfl, by decide +kernel, by decide +kernel, by decide +kernel, loc_back, by decide +kernel⟩
theorem r_back (w : World) : FunK (C2 w) 4 (.ref 367) 2 [] (runK (2 + 0) [] [some 0, some 1, none, none, none] [none, none] (s_back w).1) := fun_defK (x_back w) (dvs := []) (fun _ _ => .nil) rfl (by decide +kernel) (by decide +kernel) (fun s vs ws h1 h2 X => by
  obtain ⟨v0, v1, rfl⟩ := ln2 h1
  obtain rfl := ln0 h2
  exact BindsTo.of_eq (by kernel_rfl)) (s_back w).2
end Mine
end
section
set_option Elab.async false
set_option maxRecDepth 100000
set_option linter.unusedVariables false
set_option linter.unusedSimpArgs false
namespace Mine
open PySem PySem.Calls PySem.W PyProof.Rows
noncomputable def nm (v : Nat) : Str := ⟨#[namesS.cps.getD v 0]⟩
noncomputable def prs : List (Nat × Nat) := [(1, 0), (2, 0), (2, 1), (3, 0), (3, 1), (3, 2), (4, 0), (4, 1), (4, 2), (4, 3)]
noncomputable def drawnR : List (Nat × Nat) → Nat → List (Nat × Nat)
  | [], _ => []
  | p :: r, b => if b % 2 = 0 then drawnR r (b / 2) else p :: drawnR r (b / 2)
noncomputable def drawnP (bits : Nat) : List (Nat × Nat) := drawnR prs bits
noncomputable def addT (tl : List Nat) (p : Nat × Nat) : List Nat := (tl.set p.1 (tl.getD p.1 0 + 2 ^ p.2)).set p.2 ((tl.set p.1 (tl.getD p.1 0 + 2 ^ p.2)).getD p.2 0 + 2 ^ p.1)
noncomputable def tiedL (bits : Nat) : List Nat := (drawnP bits).foldl addT [0, 0, 0, 0, 0]
noncomputable def hsOf (p : Nat × Nat) : List PV := [.tup [.str (Txt.upper (nm p.1)), .str (nm p.2)], .tup [.str (Txt.swapcase (nm p.2)), .str (nm p.1)]]
noncomputable def hsL (bits : Nat) : List PV := (drawnP bits).flatMap hsOf
noncomputable def tiesG (ps : List PV) : SM PV := fun st => match ps with
  | [.int bits] => if 0 ≤ bits ∧ bits < 1024 then some (.tup [.ref (st.length + 1), .lst ((tiedL bits.toNat).map fun n : Nat => .int (n : Int))], st ++ [.list (hsL bits.toNat), .inst 308 (kvH st.length)]) else none
  | _ => none
noncomputable def orderN (number : Nat) : List Nat :=
  (((List.range 5).foldl (fun (s : List Nat × Nat) place => (s.1.take (s.2 % (place + 1)) ++ [place] ++ s.1.drop (s.2 % (place + 1)), s.2 / (place + 1))) ([], number))).1
noncomputable def orderG (ps : List PV) : SM PV := fun st => match ps with
  | [.int n] => if 0 ≤ n then some (.lst ((orderN n.toNat).map fun v => .str (nm v)), st) else none
  | _ => none
noncomputable def natsOf (xs : List PV) : Option (List Nat) := xs.mapM fun | .int i => if 0 ≤ i ∧ i < 32 then some i.toNat else none | _ => none
noncomputable def mixed (tied : List Nat) (choice : Nat) : Bool := (List.range 5).all fun v => !choice.testBit v || (tied.getD v 0 &&& choice != 0 && tied.getD v 0 &&& choice != choice - 2 ^ v)
noncomputable def keptN (tied : List Nat) : Nat := (List.range 32).foldl (fun k choice => if mixed tied choice then k ||| choice else k) 0
noncomputable def keptG (ps : List PV) : SM PV := fun st => match ps with
  | [.lst xs] => (match natsOf xs with
    | some tied => if tied.length = 5 then some (.int (keptN tied), st) else none
    | none => none)
  | _ => none
noncomputable def crossedN (tied : List Nat) : Bool := prs.any fun p =>
  let both := tied.getD p.1 0 &&& tied.getD p.2 0
  (tied.getD p.1 0 - both != 0 && tied.getD p.1 0 - both != 2 ^ p.2) && (tied.getD p.2 0 - both != 0 && tied.getD p.2 0 - both != 2 ^ p.1)
noncomputable def crossedG (ps : List PV) : SM PV := fun st => match ps with
  | [.lst xs] => (match natsOf xs with
    | some tied => if tied.length = 5 then some (.bool (crossedN tied), st) else none
    | none => none)
  | _ => none
noncomputable def pairS (a b : Nat) : Str := (sortS [nm a, nm b]).foldr (fun x r => x ++ r) Str.empty
noncomputable def drawnN (tied : List Nat) (kept : Nat) : List Str := sortS ((prs.filter fun p => (tied.getD p.1 0).testBit p.2 && !(kept.testBit p.1 && kept.testBit p.2)).map fun p => pairS p.1 p.2)
noncomputable def drawnG (ps : List PV) : SM PV := fun st => match ps with
  | [.lst xs, .int k] => (match natsOf xs with
    | some tied => if tied.length = 5 ∧ 0 ≤ k ∧ k < 32 then some (.lst ((drawnN tied k.toNat).map .str), st) else none
    | none => none)
  | _ => none
end Mine
end
section
set_option Elab.async false
set_option maxRecDepth 100000
set_option linter.unusedVariables false
set_option linter.unusedSimpArgs false
namespace Mine
open PySem PySem.Calls PySem.W PyProof.Rows
noncomputable def Ev {β : Type} (F : FM β) (es : ES) (P : β → ES → Prop) : Prop := ∃ y es', F es = some (y, es') ∧ P y es'
theorem ev_eq {β : Type} {F : FM β} {es es' : ES} {y : β} {P : β → ES → Prop} (e : F es = some (y, es')) (p : P y es') : Ev F es P := ⟨y, es', e, p⟩
theorem ev_mono {β : Type} {F : FM β} {es : ES} {P Q : β → ES → Prop} (h : Ev F es P) (k : ∀ y es', P y es' → Q y es') : Ev F es Q := by
  obtain ⟨y, es', e, p⟩ := h; exact ⟨y, es', e, k y es' p⟩
theorem ev_bind {β γ : Type} {m : FM β} {k : β → FM γ} {es : ES} {P : γ → ES → Prop} (h : Ev m es fun y es' => Ev (k y) es' P) : Ev (bindE m k) es P := by
  obtain ⟨y, es', e, z, es'', e', p⟩ := h
  exact ⟨z, es'', by unfold bindE; rw [e]; exact e', p⟩
theorem ev_seq {x y : FM PF} {es : ES} {P : PF → ES → Prop} (h : Ev x es fun r es' => r = .next ∧ Ev y es' P) : Ev (seqE x y) es P :=
  ev_bind (ev_mono h fun r es' q => by obtain ⟨rfl, q⟩ := q; exact q)
theorem ev_seqr {x y : FM PF} {es : ES} {P : PF → ES → Prop} (h : Ev x es fun r es' => (r = .next → Ev y es' P) ∧ (∀ p, r = .ret p → P r es') ∧ (r = .next ∨ ∃ p, r = .ret p)) : Ev (seqE x y) es P :=
  ev_bind (ev_mono h fun r es' q => by
    obtain ⟨q1, q2, q3 | ⟨p, q3⟩⟩ := q
    · subst q3; exact q1 rfl
    · subst q3; exact ⟨_, es', rfl, q2 p rfl⟩)
theorem ev_last {x : FM PF} {es : ES} {P : PF → ES → Prop} (h : Ev x es P) : Ev (seqE x (pureE .next)) es P := by
  obtain ⟨r, es', e, p⟩ := h
  refine ⟨r, es', ?_, p⟩
  unfold seqE bindE
  rw [e]
  cases r <;> rfl
theorem ev_ite {β : Type} {m : FM Bool} {x y : FM β} {es : ES} {P : β → ES → Prop} (h : Ev m es fun t es' => Ev (if t then x else y) es' P) : Ev (iteE m x y) es P := ev_bind h
theorem ev_items {α : Type} {f : α → PV} {chk : List AO → Bool} {S : PV → FM Unit} {B : FM PF} {Q : List α → ES → Prop}
    (h : ∀ x r es, Q (x :: r) es → chk es.st = true ∧ Ev (bindE (S (f x)) fun _ => B) es fun y es' => (y = .next ∨ y = .cont) ∧ Q r es') (h0 : ∀ es, Q [] es → chk es.st = true) :
    ∀ items es, Q items es → Ev (forItems chk S B (items.map f)) es fun y es' => y = .next ∧ Q [] es' := by
  intro items
  induction items with
  | nil => intro es q; exact ⟨.next, es, by simp [forItems, guardE, h0 es q, pureE], rfl, q⟩
  | cons x r ih =>
    intro es q
    obtain ⟨h1, y, es', h2, h3, h4⟩ := h x r es q
    obtain ⟨z, es'', h5, h6⟩ := ih es' h4
    refine ⟨z, es'', ?_, h6⟩
    simp only [List.map_cons, forItems, guardE, h1, if_true]
    unfold bindE at h2 ⊢
    revert h2
    cases S (f x) es with
    | none => intro h2; cases h2
    | some y =>
      obtain ⟨_, e1⟩ := y
      intro h2
      show bindE B _ e1 = _
      unfold bindE
      have h2' : B e1 = some (_, es') := h2
      rw [h2']
      rcases h3 with rfl | rfl <;> exact h5
theorem ev_find {α : Type} {f : α → PV} {t : α → Bool} {p : PV} {chk : List AO → Bool} {S : PV → FM Unit} {B : FM PF} {Q : ES → Prop} (h0 : ∀ es, Q es → chk es.st = true) : ∀ (ns : List α),
    (∀ x ∈ ns, ∀ es, Q es → Ev (bindE (S (f x)) fun _ => B) es fun y es' => y = (if t x then .ret p else .next) ∧ Q es') → 
    ∀ es, Q es → Ev (forItems chk S B (ns.map f)) es fun y es' => y = (if ns.any t then .ret p else .next) ∧ Q es' := by
  intro ns
  induction ns with
  | nil => intro h es q; exact ⟨.next, es, by simp [forItems, guardE, h0 es q, pureE], by simp, q⟩
  | cons x r ih =>
    intro h es q
    obtain ⟨y, es', h2, rfl, q'⟩ := h x (.head _) es q
    obtain ⟨z, es'', h4, rfl, q''⟩ := ih (fun y m => h y (.tail _ m)) es' q'
    have key : forItems chk S B ((x :: r).map f) es = loopK (forItems chk S B (r.map f)) (if t x then .ret p else .next) es' := by
      simp only [List.map_cons, forItems, guardE, h0 es q, if_true]
      unfold bindE at h2 ⊢
      revert h2
      cases S (f x) es with
      | none => intro h2; cases h2
      | some y =>
        obtain ⟨_, e1⟩ := y
        intro h2
        show bindE B _ e1 = _
        unfold bindE
        have h2' : B e1 = some (if t x then .ret p else .next, es') := h2
        rw [h2']
    cases ht : t x with
    | true => exact ⟨.ret p, es', by rw [key, ht]; simp [loopK, pureE], by simp [ht], q'⟩
    | false => exact ⟨_, es'', by rw [key, ht]; simp only [loopK, Bool.false_eq_true, if_false]; exact h4, by simp [ht], q''⟩
theorem ev_for {α : Type} {f : α → PV} {ns : List α} {I : FM Its} {chk : List AO → Bool} {S : PV → FM Unit} {B : FM PF} {es es₁ : ES} {P : PF → ES → Prop} (hi : I es = some ((ns.map f, chk), es₁)) (h : Ev (forItems chk S B (ns.map f)) es₁ P) : Ev (forE I S B) es P := by
  unfold forE
  exact ev_bind (ev_eq hi h)
theorem runK_ev {n : Nat} {li ci : List (Option Nat)} {F : FM PF} {ps : List PV} {st : List AO} {P : PV → List AO → Prop} (hn : ps.length = n)
    (h : Ev F ⟨li.map fun o => o.bind fun i => (ps ++ [])[i]?, ci.map fun o => o.bind fun i => (ps ++ [])[i]?, st⟩ fun r es' => P (retOf r) es'.st) : ∃ y st', runK n [] li ci F ps st = some (y, st') ∧ P y st' := by
  obtain ⟨r, es', e, p⟩ := h
  refine ⟨retOf r, es'.st, ?_, p⟩
  unfold runK
  simp only [hn] at *
  simp only [e, if_true]
theorem compItems_pure {α : Type} (f : α → PV) (t : α → Bool) (v : α → PV) {chk : List AO → Bool} {T : FM Bool} {X : FM PV} {cel : List (Option PV)} {st : List AO} (hc : chk st = true) :
    ∀ (ns : List α) (zs : List PV) (o : Option PV), (∀ a ∈ ns, T ⟨[some (f a)], cel, st⟩ = some (t a, ⟨[some (f a)], cel, st⟩)) → (∀ a ∈ ns, t a = true → X ⟨[some (f a)], cel, st⟩ = some (v a, ⟨[some (f a)], cel, st⟩)) → zs.length + ns.length ≤ sizeLine →
    ∃ o', compItems chk (setL 0) T (emitE X) (ns.map f) zs ⟨[o], cel, st⟩ = some (zs ++ (ns.filter t).map v, ⟨[o'], cel, st⟩) := by
  intro ns
  induction ns with
  | nil => intro zs o _ _ _; exact ⟨o, by simp [compItems, guardE, hc, pureE]⟩
  | cons a ns ih =>
    intro zs o hT hX hz
    have h1 := hT a (.head _)
    have hz' : zs.length ≤ sizeLine := by simp only [List.length_cons] at hz; omega
    cases ht : t a with
    | false =>
      obtain ⟨o', h⟩ := ih zs (some (f a)) (fun b m => hT b (.tail _ m)) (fun b m => hX b (.tail _ m)) (by simp only [List.length_cons] at hz; omega)
      refine ⟨o', ?_⟩
      rw [ht] at h1
      simp [compItems, guardE, hc, bindE, setL, h1, h, ht]
    | true =>
      have h2 := hX a (.head _) ht
      obtain ⟨o', h⟩ := ih (zs ++ [v a]) (some (f a)) (fun b m => hT b (.tail _ m)) (fun b m => hX b (.tail _ m)) (by simp only [List.length_cons, List.length_append, List.length_nil] at hz ⊢; omega)
      refine ⟨o', ?_⟩
      rw [ht] at h1
      simp [compItems, guardE, hc, bindE, setL, h1, h2, h, ht, emitE, hz', pureE]
theorem compE_pure {α : Type} (f : α → PV) (t : α → Bool) (v : α → PV) (ns : List α) {chk : List AO → Bool} {I : FM Its} {T : FM Bool} {X : FM PV} {es : ES} (hi : I es = some ((ns.map f, chk), es)) (hc : chk es.st = true)
    (hT : ∀ a ∈ ns, T ⟨[some (f a)], es.cel, es.st⟩ = some (t a, ⟨[some (f a)], es.cel, es.st⟩)) (hX : ∀ a ∈ ns, t a = true → X ⟨[some (f a)], es.cel, es.st⟩ = some (v a, ⟨[some (f a)], es.cel, es.st⟩)) (hz : ns.length ≤ sizeLine) :
    compE 1 I (setL 0) T (emitE X) es = some ((ns.filter t).map v, es) := by
  obtain ⟨o', h⟩ := compItems_pure f t v hc ns [] none hT hX (by simpa using hz)
  unfold compE
  rw [hi]
  simp only [List.replicate_one] at h ⊢
  rw [h]
  simp
theorem natsOf_eq {xs : List PV} {ns : List Nat} (e : natsOf xs = some ns) : xs = ns.map (fun n : Nat => .int (n : Int)) ∧ ∀ n ∈ ns, n < 32 := by
  induction xs generalizing ns with
  | nil => simp [natsOf] at e; subst e; simp
  | cons x xs ih =>
    unfold natsOf at e
    rw [List.mapM_cons] at e
    simp only [Option.bind_eq_bind, Option.bind_eq_some_iff] at e
    obtain ⟨a, ha, bs, hb, e⟩ := e
    cases e
    obtain ⟨r1, r2⟩ := ih hb
    split at ha
    · rename_i i
      split at ha
      · rename_i hi
        cases ha
        refine ⟨?_, fun n m => ?_⟩
        · rw [List.map_cons, ← r1, Int.toNat_of_nonneg hi.1]
        · rcases List.mem_cons.mp m with rfl | m
          · omega
          · exact r2 n m
      · cases ha
    · cases ha
theorem five {α : Type} {l : List α} (h : l.length = 5) : ∃ a b c d e, l = [a, b, c, d, e] := by
  cases l with
  | nil => cases h
  | cons a t =>
    obtain ⟨b, c, d, e, rfl⟩ := ln4 (Nat.succ.inj h)
    exact ⟨a, b, c, d, e, rfl⟩
theorem bitAnd_nat (a b : Nat) : Builtin.bitAnd (a : Int) (b : Int) = ((a &&& b : Nat) : Int) := by
  unfold Builtin.bitAnd
  simp
end Mine
end
section
set_option Elab.async false
set_option maxRecDepth 100000
set_option linter.unusedVariables false
set_option linter.unusedSimpArgs false
namespace Mine
open PySem PySem.Calls PySem.W PyProof.Rows
theorem notIn2 (x y z : Int) (st : List AO) : notInG (.int x) (.tup [.int y, .int z]) st = some (.bool (!(x == y || x == z)), st) := by
  have h1 : (y == x) = (x == y) := by rw [Bool.eq_iff_iff]; simp; exact ⟨Eq.symm, Eq.symm⟩
  have h2 : (z == x) = (x == z) := by rw [Bool.eq_iff_iff]; simp; exact ⟨Eq.symm, Eq.symm⟩
  simp [notInG, anyG, datS, dat, PyData.eqv, h1, h2]
noncomputable abbrev inP (n : Nat) : PV := .int (n : Int)
theorem rg_fin : ∀ n < 41, Builtin.Range.small 0 ((n : Nat) : Int) 1 = true ∧ (Builtin.Range.rangeSize 0 ((n : Nat) : Int) 1).toNat = n := by decide +kernel
theorem rgN (n : Nat) (h : n < 41) : rangeP 0 (n : Int) 1 = (List.range n).map inP := by
  unfold rangeP
  rw [(rg_fin n h).2]
  refine List.map_congr_left fun i _ => ?_
  show PV.int (0 + (i : Int) * 1) = PV.int i
  rw [Int.mul_one, Int.zero_add]
theorem its_range (n : Nat) (h : n < 41) (st : List AO) : itsRange [inP n] st = some ((List.range n).map inP, fun _ => true) := by
  have h1 := (rg_fin n h).1
  have h2 := rgN n h
  unfold itsRange
  simp only [h1, h2, if_true]
theorem its_one {X : FM PV} {n : Nat} {es : ES} (hx : X es = some (inP n, es)) (h : n < 41) : bindE (consE X (pureE [])) (itsEs itsRange) es = some (((List.range n).map inP, fun _ => true), es) := by
  have e : consE X (pureE []) es = some ([inP n], es) := by
    unfold consE bindE
    rw [hx]; rfl
  unfold bindE
  rw [e]
  show (itsRange [inP n] es.st).map _ = _
  rw [its_range n h]; rfl
theorem getL_at {i : Nat} {p : PV} {es : ES} (h : es.loc[i]? = some (some p)) : getL i es = some (p, es) := by
  unfold getL; rw [h]; rfl
theorem getI_nats {ns : List Nat} {i : Nat} (h : i < ns.length) (h' : i < 2 ^ 62) (st : List AO) : getI (.lst (ns.map inP)) (inP i) st = some (inP (ns.getD i 0), st) := by
  have e : (ns.map inP)[i]? = some (inP (ns.getD i 0)) := by
    rw [List.getElem?_map, List.getElem?_eq_getElem h]
    simp [List.getD, h]
  have c : (0 : Int) ≤ (i : Int) ∧ (i : Int) < 2 ^ 62 := ⟨by omega, by omega⟩
  simp only [getI, items?, if_pos c, Int.toNat_natCast, e]
theorem pow_nat {i : Nat} (h : i ≤ 1000) (st : List AO) : powI (.int 2) (inP i) st = some (inP (2 ^ i), st) := by
  have c : (0 : Int) ≤ (i : Int) ∧ (i : Int) ≤ 1000000 ∧ (2 : Int).natAbs < 2 ^ 64 := ⟨by omega, by omega, by decide⟩
  simp only [powI, if_pos c, Int.toNat_natCast]
  norm_cast
theorem and_nat (a b : Nat) (st : List AO) : andI (inP a) (inP b) st = some (inP (a &&& b), st) := by
  show some (PV.int (Builtin.bitAnd (a : Int) (b : Int)), st) = _
  rw [bitAnd_nat]
theorem sub_both (a b : Nat) (st : List AO) : subI (inP a) (inP (a &&& b)) st = some (inP (a - (a &&& b)), st) := by
  have := @Nat.and_le_left a b
  show some (PV.int ((a : Int) - ((a &&& b : Nat) : Int)), st) = _
  rw [← Int.ofNat_sub this]
theorem sub_both' (a b : Nat) (st : List AO) : subI (inP b) (inP (a &&& b)) st = some (inP (b - (a &&& b)), st) := by
  rw [Nat.and_comm]; exact sub_both b a st
theorem notIn2N (x y : Nat) (st : List AO) : notInG (inP x) (.tup [.int 0, inP y]) st = some (.bool (x != 0 && x != y), st) := by
  rw [notIn2]
  have h1 : ((x : Int) == 0) = (x == 0) := by rw [Bool.eq_iff_iff]; simp
  have h2 : ((x : Int) == (y : Int)) = (x == y) := by rw [Bool.eq_iff_iff]; simp; omega
  rw [h1, h2]
  simp [bne, Bool.not_or]
noncomputable def crossP (tied : List Nat) (one two : Nat) : Bool :=
  let both := tied.getD one 0 &&& tied.getD two 0
  (tied.getD one 0 - both != 0 && tied.getD one 0 - both != 2 ^ two) && (tied.getD two 0 - both != 0 && tied.getD two 0 - both != 2 ^ one)
theorem crossedN_eq (tied : List Nat) : crossedN tied = (List.range 5).any fun one => (List.range one).any fun two => crossP tied one two := by
  have r1 : List.range 1 = [0] := rfl
  have r2 : List.range 2 = [0, 1] := rfl
  have r3 : List.range 3 = [0, 1, 2] := rfl
  have r4 : List.range 4 = [0, 1, 2, 3] := rfl
  have r5 : List.range 5 = [0, 1, 2, 3, 4] := rfl
  have r0 : List.range 0 = [] := rfl
  rw [r5]
  simp only [List.any_cons, List.any_nil, r0, r1, r2, r3, r4, Bool.or_false, Bool.false_or]
  show prs.any (fun p => crossP tied p.1 p.2) = _
  simp only [prs, List.any_cons, List.any_nil, Bool.or_assoc, Bool.or_false]
theorem k_crossed (w : World) : FunK (C2 w) 2 (.ref 350) 1 [] crossedG := (r_crossed w).sub fun ps st r e => by
  unfold crossedG at e
  split at e
  rotate_left
  · (first | obtain ⟨rfl, rfl⟩ := spr e | exact (nos e).elim | obtain rfl := Option.some.inj e | cases e)
  rename_i xs
  split at e
  rotate_left
  · (first | obtain ⟨rfl, rfl⟩ := spr e | exact (nos e).elim | obtain rfl := Option.some.inj e | cases e)
  rename_i tied q
  have e' := ite_then e
  clear e
  obtain ⟨h5, e⟩ := e'
  (first | obtain ⟨rfl, rfl⟩ := spr e | exact (nos e).elim | obtain rfl := Option.some.inj e | cases e)
  obtain ⟨rfl, hb⟩ := natsOf_eq q
  suffices h : ∃ y st', runK (1 + 0) [] [some 0, none, none, none] [] (s_crossed w).1 [.lst (tied.map inP)] st = some (y, st') ∧ (y = .bool (crossedN tied) ∧ st' = st) by
    obtain ⟨_, _, e, rfl, rfl⟩ := h; exact e
  refine runK_ev rfl ?_
  let QQ : ES → Prop := fun es => ∃ o1 o2 o3, es = ⟨[some (.lst (tied.map inP)), o1, o2, o3], [], st⟩
  simp only [s_crossed, List.map, Option.bind, List.append_nil, List.getElem?_cons_zero]
  refine ev_seqr (ev_for (f := inP) (ns := List.range 5) (chk := fun _ => true) (es₁ := ⟨[some (.lst (tied.map inP)), none, none, none], [], st⟩) ?_ (ev_mono (ev_find (t := fun one => (List.range one).any (crossP tied one)) (p := .bool true) (Q := QQ) (fun _ _ => rfl) _ ?_ _ ⟨_, _, _, rfl⟩) ?_))
  · exact its_one (n := 5) rfl (by decide)
  · rintro one ho _ ⟨o1, o2, o3, rfl⟩
    replace ho : one < 5 := List.mem_range.mp ho
    refine ev_bind (ev_eq (y := ()) (es' := ⟨[some (.lst (tied.map inP)), some (inP one), o2, o3], [], st⟩) rfl ?_)
    refine ev_last (ev_for (f := inP) (ns := List.range one) (chk := fun _ => true) (es₁ := ⟨[some (.lst (tied.map inP)), some (inP one), o2, o3], [], st⟩) ?_ (ev_mono (ev_find (t := crossP tied one) (p := .bool true) (Q := fun es => ∃ o2 o3, es = ⟨[some (.lst (tied.map inP)), some (inP one), o2, o3], [], st⟩) (fun _ _ => rfl) _ ?_ _ ⟨_, _, rfl⟩) ?_))
    · exact its_one (getL_at rfl) (by omega)
    · rintro two ht _ ⟨o2, o3, rfl⟩
      replace ht : two < one := List.mem_range.mp ht
      refine ev_bind (ev_eq (y := ()) (es' := ⟨[some (.lst (tied.map inP)), some (inP one), some (inP two), o3], [], st⟩) rfl ?_)
      have g1 := getI_nats (ns := tied) (i := one) (by omega) (by omega) st
      have g2 := getI_nats (ns := tied) (i := two) (by omega) (by omega) st
      refine ev_eq (y := if crossP tied one two then .ret (.bool true) else .next) (es' := ⟨[some (.lst (tied.map inP)), some (inP one), some (inP two), some (inP (tied.getD one 0 &&& tied.getD two 0))], [], st⟩) ?_ ⟨rfl, _, _, rfl⟩
      have a1 := and_nat (tied.getD one 0) (tied.getD two 0) st
      have s1 := sub_both (tied.getD one 0) (tied.getD two 0) st
      have s2 := sub_both' (tied.getD one 0) (tied.getD two 0) st
      have p1 := pow_nat (i := one) (by omega) st
      have p2 := pow_nat (i := two) (by omega) st
      have n1 := notIn2N (tied.getD one 0 - (tied.getD one 0 &&& tied.getD two 0)) (2 ^ two) st
      have n2 := notIn2N (tied.getD two 0 - (tied.getD one 0 &&& tied.getD two 0)) (2 ^ one) st
      have hsz := two_sz
      have cp : crossP tied one two = ((tied.getD one 0 - (tied.getD one 0 &&& tied.getD two 0) != 0 && tied.getD one 0 - (tied.getD one 0 &&& tied.getD two 0) != 2 ^ two) && (tied.getD two 0 - (tied.getD one 0 &&& tied.getD two 0) != 0 && tied.getD two 0 - (tied.getD one 0 &&& tied.getD two 0) != 2 ^ one)) := rfl
      rw [cp]
      clear cp
      generalize (tied.getD one 0 - (tied.getD one 0 &&& tied.getD two 0) != 0 && tied.getD one 0 - (tied.getD one 0 &&& tied.getD two 0) != 2 ^ two) = c1 at n1 ⊢
      generalize (tied.getD two 0 - (tied.getD one 0 &&& tied.getD two 0) != 0 && tied.getD two 0 - (tied.getD one 0 &&& tied.getD two 0) != 2 ^ one) = c2 at n2 ⊢
      generalize tied.getD one 0 = A at g1 a1 s1 s2 n1 n2 ⊢
      generalize tied.getD two 0 = B at g2 a1 s1 s2 n1 n2 ⊢
      obtain ⟨G, hG⟩ : ∃ g, g = getI := ⟨_, rfl⟩
      rw [← hG] at g1 g2 ⊢
      cases c1 <;> cases c2 <;> simp [seqE, bindE, pureE, iteE, liftS, getL, setL, consE, tupE, g1, g2, a1, s1, s2, p1, p2, n1, n2, hsz, truthG]
    · rintro _ es ⟨rfl, o2, o3, rfl⟩
      exact ⟨rfl, _, _, _, rfl⟩
  · rintro _ es ⟨rfl, o1, o2, o3, rfl⟩
    rw [← crossedN_eq]
    refine ⟨fun h => ?_, fun p h => ?_, ?_⟩
    · cases hc : crossedN tied with
      | true => rw [hc] at h; cases h
      | false => exact ev_eq (y := .ret (.bool false)) rfl ⟨rfl, rfl⟩
    · cases hc : crossedN tied with
      | true => exact ⟨rfl, rfl⟩
      | false => rw [hc] at h; cases h
    · cases hc : crossedN tied with
      | true => exact .inr ⟨_, rfl⟩
      | false => exact .inl rfl
end Mine
end
section
set_option Elab.async false
set_option maxRecDepth 100000
set_option linter.unusedVariables false
set_option linter.unusedSimpArgs false
namespace Mine
open PySem PySem.Calls PySem.W PyProof.Rows
theorem getC_at {i : Nat} {p : PV} {es : ES} (h : es.cel[i]? = some (some p)) : getC i es = some (p, es) := by
  unfold getC; rw [h]; rfl
theorem div_nat {a b : Nat} (h : 0 < b) (h' : b < 1000000000) (st : List AO) : divI (inP a) (inP b) st = some (inP (a / b), st) := by
  have c : (b : Int) ≠ 0 ∧ (b : Int).natAbs < 1000000000 := ⟨by omega, by simpa using h'⟩
  show (if (b : Int) ≠ 0 ∧ (b : Int).natAbs < 1000000000 then some (PV.int ((a : Int).fdiv (b : Int)), st) else none) = _
  rw [if_pos c, Int.fdiv_eq_ediv_of_nonneg _ (by omega)]
  rfl
theorem mod_nat {a b : Nat} (h : 0 < b) (st : List AO) : modI (inP a) (inP b) st = some (inP (a % b), st) := by
  have c : (b : Int) ≠ 0 := by omega
  show (if (b : Int) ≠ 0 then some (PV.int ((a : Int).fmod (b : Int)), st) else none) = _
  rw [if_pos c, Int.fmod_eq_emod_of_nonneg _ (by omega)]
  rfl
theorem truth_nat (a : Nat) (st : List AO) : truthG (inP a) st = some (a != 0, st) := by
  show some (((a : Int) != 0), st) = _
  have : ((a : Int) != 0) = (a != 0) := by rw [Bool.eq_iff_iff]; simp
  rw [this]
theorem bit_ne (c a : Nat) : (c / 2 ^ a % 2 != 0) = c.testBit a := by
  rw [Nat.testBit_eq_decide_div_mod_eq, Bool.eq_iff_iff]
  simp
theorem pow_pos2 (a : Nat) : 0 < 2 ^ a := Nat.two_pow_pos a
theorem pow_small {a : Nat} (h : a ≤ 20) : 2 ^ a < 1000000000 := Nat.lt_of_le_of_lt (Nat.pow_le_pow_right (by decide) h) (by decide)
theorem e_bit {X Y : FM PV} {es : ES} {c a : Nat} (hx : X es = some (inP c, es)) (hy : Y es = some (inP a, es)) (h : a ≤ 20) :
    (bindE (bindE X fun p => bindE (bindE (pureE (.int 2)) fun p => bindE Y fun q => liftS (powI p q)) fun q => liftS (divI p q)) fun p => bindE (pureE (.int 2)) fun q => liftS (modI p q)) es = some (inP (c / 2 ^ a % 2), es) :=
  e_bin (e_bin hx (e_bin (es₁ := es) rfl hy (pow_nat (by omega) _)) (div_nat (pow_pos2 a) (pow_small h) _)) rfl (mod_nat (b := 2) (by decide) _)
theorem or_nat {a b : Nat} (ha : a < 32) (hb : b < 32) (st : List AO) : orI (inP a) (inP b) st = some (inP (a ||| b), st) := by
  have : ∀ a < 32, ∀ b < 32, Builtin.bitOr ((a : Nat) : Int) ((b : Nat) : Int) = ((a ||| b : Nat) : Int) := by decide +kernel
  show some (PV.int (Builtin.bitOr (a : Int) (b : Int)), st) = _
  rw [this a ha b hb]
theorem sub_nat {a b : Nat} (h : b ≤ a) (st : List AO) : subI (inP a) (inP b) st = some (inP (a - b), st) := by
  show some (PV.int ((a : Int) - (b : Int)), st) = _
  rw [← Int.ofNat_sub h]
theorem mapM_dat {α : Type} (n : Nat) (f : α → PV) (g : α → PyData) (h : ∀ a, dat n (f a) = some (g a)) : ∀ l : List α, (l.map f).mapM (dat n) = some (l.map g)
  | [] => rfl
  | a :: l => by
    rw [List.map_cons, List.mapM_cons, h a, mapM_dat n f g h l]; rfl
theorem notIn_all {α : Type} (l : List α) (b : α → Bool) (st : List AO) : notInG (.bool false) (.lst (l.map fun v => .bool (b v))) st = some (.bool (l.all b), st) := by
  have e : datS st (.lst (l.map fun v => .bool (b v))) = some (.list (l.map fun v => .bool (b v))) := by
    show ((l.map fun v => PV.bool (b v)).mapM (dat 5)).map PyData.list = _
    rw [mapM_dat 5 (fun v => PV.bool (b v)) (fun v => PyData.bool (b v)) (fun _ => rfl)]; rfl
  unfold notInG anyG
  rw [e]
  show some (PV.bool (!List.any _ _), st) = _
  congr 3
  clear e
  induction l with
  | nil => rfl
  | cons a l ih =>
    rw [List.map_cons, List.any_cons, List.all_cons, Bool.not_or, ih]
    cases b a <;> rfl
theorem mixed_lt {c : Nat} (h : c < 32) (k : Nat) (hk : k < 32) : k ||| c < 32 := Nat.or_lt_two_pow (n := 5) hk h
noncomputable def keptS (tied : List Nat) (k choice : Nat) : Nat := if mixed tied choice then k ||| choice else k
theorem le_of_testBit {c a : Nat} (h : c.testBit a = true) : 2 ^ a ≤ c := Nat.ge_two_pow_of_testBit h
theorem k_kept (w : World) : FunK (C2 w) 2 (.ref 343) 1 [] keptG := (r_kept w).sub fun ps st r e => by
  unfold keptG at e
  split at e
  rotate_left
  · (first | obtain ⟨rfl, rfl⟩ := spr e | exact (nos e).elim | obtain rfl := Option.some.inj e | cases e)
  rename_i xs
  split at e
  rotate_left
  · (first | obtain ⟨rfl, rfl⟩ := spr e | exact (nos e).elim | obtain rfl := Option.some.inj e | cases e)
  rename_i tied q
  have e' := ite_then e
  clear e
  obtain ⟨h5, e⟩ := e'
  (first | obtain ⟨rfl, rfl⟩ := spr e | exact (nos e).elim | obtain rfl := Option.some.inj e | cases e)
  obtain ⟨rfl, hb⟩ := natsOf_eq q
  suffices h : ∃ y st', runK (1 + 0) [] [none, none] [none, some 0] (s_kept w).1 [.lst (tied.map inP)] st = some (y, st') ∧ (y = inP (keptN tied) ∧ st' = st) by
    obtain ⟨_, _, e, rfl, rfl⟩ := h; exact e
  refine runK_ev rfl ?_
  let Q : List Nat → ES → Prop := fun ns es => ∃ (k : Nat) (o c : Option PV), P4 (es = ⟨[some (inP k), o], [c, some (.lst (tied.map inP))], st⟩) (k < 32) ((∀ n ∈ ns, n < 32)) (ns.foldl (keptS tied) k = keptN tied)
  simp only [s_kept, List.map, Option.bind, List.append_nil, List.getElem?_cons_zero]
  refine ev_seq (ev_eq (y := .next) (es' := ⟨[some (inP 0), none], [none, some (.lst (tied.map inP))], st⟩) rfl ⟨rfl, ?_⟩)
  refine ev_seq (ev_for (f := inP) (ns := List.range 32) (chk := fun _ => true) (its_one (n := 32) rfl (by omega)) (ev_mono (ev_items (Q := Q) ?_ (fun _ _ => rfl) _ _ ⟨0, none, none, rfl, by decide, fun n m => List.mem_range.mp m, rfl⟩) ?_))
  rotate_left
  · rintro _ es ⟨rfl, k, o, c, rfl, hk, _, h⟩
    replace h : k = keptN tied := h
    subst h
    exact ⟨rfl, ev_eq (y := .ret (inP (keptN tied))) rfl ⟨rfl, rfl⟩⟩
  rintro choice r _ ⟨k, o, c, rfl, hk, hn, hf⟩
  have hc : choice < 32 := hn _ (.head _)
  refine ⟨rfl, ev_bind (ev_eq (y := ()) (es' := ⟨[some (inP k), o], [some (inP choice), some (.lst (tied.map inP))], st⟩) rfl ?_)⟩
  let ins := (List.range 5).filter fun v => choice.testBit v
  refine ev_seq (ev_eq (y := .next) (es' := ⟨[some (inP k), some (.lst (ins.map inP))], [some (inP choice), some (.lst (tied.map inP))], st⟩) ?_ ⟨rfl, ?_⟩)
  · refine e_asg (e_lst (compE_pure inP (fun v => choice.testBit v) inP (List.range 5) (its_one (n := 5) rfl (by decide)) rfl (fun a ha => ?_) (fun a ha _ => ?_) (five_sz (by decide)))) rfl
    · have h5 := List.mem_range.mp ha
      refine (e_lift (e_bit (c := choice) (a := a) rfl rfl (by omega)) (truth_nat _ _)).trans ?_
      rw [bit_ne]
    · rfl
  have hmix : ((ins.all fun v => (tied.getD v 0 &&& choice) != 0 && (tied.getD v 0 &&& choice) != choice - 2 ^ v)) = mixed tied choice := by
    unfold mixed
    rw [List.all_filter]
  refine ev_last (ev_eq (y := .next) (es' := ⟨[some (inP (keptS tied k choice)), some (.lst (ins.map inP))], [some (inP choice), some (.lst (tied.map inP))], st⟩) ?_ ⟨.inl rfl, keptS tied k choice, _, _, rfl, ?_, fun n m => hn n (.tail _ m), hf⟩)
  · refine e_ite (t := mixed tied choice) (es₁ := ⟨[some (inP k), some (.lst (ins.map inP))], [some (inP choice), some (.lst (tied.map inP))], st⟩) (e_lift (p := .bool (mixed tied choice)) (e_bin rfl (e_lst (compE_pure (es := ⟨[some (inP k), some (.lst (ins.map inP))], [some (inP choice), some (.lst (tied.map inP))], st⟩) inP (fun _ => true) (fun v => .bool ((tied.getD v 0 &&& choice) != 0 && (tied.getD v 0 &&& choice) != choice - 2 ^ v)) ins rfl rfl (fun a ha => rfl) (fun a ha _ => ?_) ?_)) ?_) rfl) ?_
    · obtain ⟨ha, hbit⟩ := List.mem_filter.mp ha
      replace ha := List.mem_range.mp ha
      replace hbit : choice.testBit a = true := hbit
      exact p_bin (p_bin (p_bin rfl rfl (getI_nats (ns := tied) (i := a) (by omega) (by omega) _)) rfl (and_nat _ _ _)) (p_tup2 (p := inP 0) rfl (p_bin rfl (p_bin rfl rfl (pow_nat (by omega) _)) (sub_nat (le_of_testBit hbit) _))) (notIn2N _ _ _)
    · exact five_sz (Nat.le_trans (List.length_filter_le ..) (by decide))
    · rw [List.filter_eq_self.mpr (fun _ _ => rfl), notIn_all, hmix]
    · unfold keptS
      cases mixed tied choice with
      | false => rfl
      | true => exact e_seq (e_aug rfl rfl (or_nat hk hc _) rfl) rfl
  · unfold keptS
    split
    · exact mixed_lt hc k hk
    · exact hk
end Mine
end
section
set_option Elab.async false
set_option maxRecDepth 100000
set_option linter.unusedVariables false
set_option linter.unusedSimpArgs false
namespace Mine
open PySem PySem.Calls PySem.W PyProof.Rows
theorem p_slice {V L U S : FM PV} {v l u k r : PV} {es : ES} (h1 : V es = some (v, es)) (h2 : L es = some (l, es)) (h3 : U es = some (u, es)) (h4 : S es = some (k, es)) (h5 : sliceG v l u k es.st = some (r, es.st)) : (bindE V fun v => bindE L fun l => bindE U fun u => bindE S fun k => liftS (sliceG v l u k)) es = some (r, es) :=
  e_bind h1 (e_bind h2 (e_bind h3 (e_bind h4 (by unfold liftS; rw [h5]))))
theorem pick_take {α : Type} : ∀ (xs : List α) (s : Nat), xs.length ≤ 5 → s ≤ xs.length → pick (sliceL xs.length none (some (s : Int)) none) xs = xs.take s := by
  have h : ∀ n ≤ 5, ∀ s ≤ n, sliceL n none (some ((s : Nat) : Int)) none = List.range s := by decide +kernel
  intro xs s h1 h2
  rw [h _ h1 _ h2]
  clear h h1
  induction s with
  | zero => simp [pick]
  | succ s ih =>
    have := ih (by omega)
    unfold pick at this ⊢
    rw [List.range_succ, List.filterMap_append, this, List.take_add_one]
    congr 1
theorem pick_drop {α : Type} : ∀ (xs : List α) (s : Nat), xs.length ≤ 5 → s ≤ xs.length → pick (sliceL xs.length (some (s : Int)) none none) xs = xs.drop s := by
  have h : ∀ n ≤ 5, ∀ s ≤ n, sliceL n (some ((s : Nat) : Int)) none none = (List.range (n - s)).map (s + ·) := by decide +kernel
  intro xs s h1 h2
  rw [h _ h1 _ h2]
  clear h h1
  unfold pick
  rw [List.filterMap_map]
  apply List.ext_getElem?
  intro i
  have hf : ∀ m, m + s ≤ xs.length → List.filterMap ((fun x => xs[x]?) ∘ fun x => s + x) (List.range m) = (xs.drop s).take m := by
    intro m
    induction m with
    | zero => intro _; simp
    | succ m ih =>
      intro hm
      rw [List.range_succ, List.filterMap_append, ih (by omega), List.take_add_one]
      congr 1
      rw [List.getElem?_drop, List.getElem?_eq_getElem (by omega : s + m < xs.length)]
      simp [List.getElem?_eq_getElem (by omega : s + m < xs.length)]
  rw [hf _ (by omega), List.take_of_length_le (by simp)]
theorem slice_to {st : List AO} {p : PV} {xs : List PV} {s : Nat} (h : items? st p = some xs) (hs : ∀ x, p ≠ .str x) (h1 : xs.length ≤ 5) (h2 : s ≤ xs.length) : sliceG p .none (inP s) .none st = some (.lst (xs.take s), st) := by
  cases p with
  | str x => exact absurd rfl (hs x)
  | _ =>
    unfold sliceG
    simp only [part?, h]
    rw [if_pos (by simp), if_pos (five_sz (by omega)), pick_take xs s h1 h2]
theorem slice_from {st : List AO} {p : PV} {xs : List PV} {s : Nat} (h : items? st p = some xs) (hs : ∀ x, p ≠ .str x) (h1 : xs.length ≤ 5) (h2 : s ≤ xs.length) : sliceG p (inP s) .none .none st = some (.lst (xs.drop s), st) := by
  cases p with
  | str x => exact absurd rfl (hs x)
  | _ =>
    unfold sliceG
    simp only [part?, h]
    rw [if_pos (by simp), if_pos (five_sz (by omega)), pick_drop xs s h1 h2]
theorem add_lsts {xs ys : List PV} {st : List AO} (h : xs.length + ys.length ≤ 100) : addG (.lst xs) (.lst ys) st = some (.lst (xs ++ ys), st) := by
  show (if xs.length + ys.length ≤ sizeLine then some (PV.lst (xs ++ ys), st) else none) = _
  rw [if_pos (five_sz h)]
theorem names_at {a : Nat} (h : a < 5) (st : List AO) : getI (.str namesS) (inP a) st = some (.str (nm a), st) := by
  match a, h with
  | 0, _ => kernel_rfl
  | 1, _ => kernel_rfl
  | 2, _ => kernel_rfl
  | 3, _ => kernel_rfl
  | 4, _ => kernel_rfl
theorem fz_strs {α : Type} (f : α → Str) (n : Nat) (st : List AO) : ∀ l : List α, Fzs n st (l.map fun a => .str (f a)) (l.map fun a => .str (f a))
  | [] => .nil
  | a :: l => .cons (.str _) (fz_strs f n st l)
noncomputable def orderS (s : List Nat × Nat) (place : Nat) : List Nat × Nat := (s.1.take (s.2 % (place + 1)) ++ [place] ++ s.1.drop (s.2 % (place + 1)), s.2 / (place + 1))
theorem itsV_of {X : FM PV} {p : PV} {es : ES} {xs : List PV} {chk : List AO → Bool} (h1 : X es = some (p, es)) (h2 : itsV p es.st = some (xs, chk)) : bindE X (itsE itsV) es = some ((xs, chk), es) :=
  e_bind h1 (by unfold itsE; rw [h2]; rfl)
theorem order_run (w : World) {n : Nat} {st : List AO} : ∃ y st', runK (1 + 0) [] [some 0, none, none, none] [] (s_order w).1 [inP n] st = some (y, st') ∧ (y = .lst ((orderN n).map fun v => .str (nm v)) ∧ st' = st ++ [.list []]) := by
  refine runK_ev rfl ?_
  let S : List AO := st ++ [.list []]
  let Q : List Nat → ES → Prop := fun ns es => ∃ (o : PV) (items : List Nat) (num : Nat) (l2 l3 : Option PV), P7 (es = ⟨[some (inP num), some o, l2, l3], [], S⟩) (items? S o = some (items.map inP)) ((∀ x, o ≠ .str x)) ((∀ i ∈ items, i < 5)) ((∃ k, ns = (List.range 5).drop k ∧ items.length = k ∧ k ≤ 5)) (ns.foldl orderS (items, num) = (List.range 5).foldl orderS ([], n)) ((ns = [] → o = .lst (items.map inP)))
  simp only [s_order, List.map, Option.bind, List.append_nil, List.getElem?_cons_zero]
  refine ev_seq (ev_eq (y := .next) (es' := ⟨[some (inP n), some (.ref st.length), none, none], [], S⟩) rfl ⟨rfl, ?_⟩)
  refine ev_seq (ev_for (f := inP) (ns := List.range 5) (chk := fun _ => true) (its_one (n := 5) rfl (by decide)) (ev_mono (ev_items (Q := Q) ?_ (fun _ _ => rfl) _ _ ⟨.ref st.length, [], n, none, none, rfl, ?_, (fun x h => nomatch h), (fun _ m => nomatch m), ⟨0, rfl, rfl, by decide⟩, rfl, (fun h => nomatch h)⟩) ?_))
  · rintro place r _ ⟨o, items, num, l2, l3, rfl, hi, hs, hb, ⟨k, hk, hl, hk5'⟩, hf, _⟩
    have hk5 : k < 5 := by
      rcases Nat.lt_or_ge k 5 with h | h
      · exact h
      · rw [List.drop_eq_nil_of_le (by simpa using h)] at hk; cases hk
    rw [List.drop_eq_getElem_cons (by simpa using hk5)] at hk
    obtain ⟨h1, h2⟩ := List.cons.inj hk
    have hp : place = k := by rw [h1]; simp
    have hlt : num % (place + 1) ≤ items.length := by rw [hl, ← hp]; exact Nat.le_of_lt_succ (Nat.mod_lt num (Nat.succ_pos _))
    refine ⟨rfl, ev_bind (ev_eq (y := ()) (es' := ⟨[some (inP num), some o, some (inP place), l3], [], S⟩) rfl ?_)⟩
    let sp := num % (place + 1)
    have hadd : ∀ st, addG (inP place) (.int 1) st = some (inP (place + 1), st) := fun _ => rfl
    refine ev_seq (ev_eq (y := .next) (es' := ⟨[some (inP num), some o, some (inP place), some (inP sp)], [], S⟩) (e_asg (p_bin rfl (p_bin rfl rfl (hadd _)) (mod_nat (Nat.succ_pos _) _)) rfl) ⟨rfl, ?_⟩)
    have g1 := slice_to (st := S) (s := sp) hi hs (by rw [List.length_map, hl]; exact Nat.le_of_lt hk5) (by rw [List.length_map]; exact hlt)
    have g2 := slice_from (st := S) (s := sp) hi hs (by rw [List.length_map, hl]; exact Nat.le_of_lt hk5) (by rw [List.length_map]; exact hlt)
    let new := items.take sp ++ [place] ++ items.drop sp
    have hnew : new.length = k + 1 := by
      show (items.take sp ++ [place] ++ items.drop sp).length = _
      rw [List.length_append, List.length_append, List.length_take, List.length_drop, Nat.min_eq_left hlt, List.length_singleton, Nat.add_right_comm, Nat.add_sub_cancel' hlt, hl]
    refine ev_seq (ev_eq (y := .next) (es' := ⟨[some (inP num), some (.lst (new.map inP)), some (inP place), some (inP sp)], [], S⟩) (e_asg (p := .lst (new.map inP)) (p_bin (p_bin (p := .lst ((items.map inP).take sp)) (q := .lst [inP place]) (p_slice rfl rfl rfl rfl g1) ?_ (add_lsts ?_)) (p_slice rfl rfl rfl rfl g2) ?_) rfl) ⟨rfl, ?_⟩)
    · rfl
    · rw [List.length_take, List.length_map, hl]
      exact Nat.le_trans (Nat.add_le_add_right (Nat.le_trans (Nat.min_le_right _ _) (Nat.le_of_lt hk5)) 1) (by decide)
    · rw [add_lsts (by simp; omega)]
      simp [new, List.map_take, List.map_drop]
    refine ev_last (ev_eq (y := .next) (es' := ⟨[some (inP (num / (place + 1))), some (.lst (new.map inP)), some (inP place), some (inP sp)], [], S⟩) (e_aug (es₁ := ⟨[some (inP num), some (.lst (new.map inP)), some (inP place), some (inP sp)], [], S⟩) (es₂ := ⟨[some (inP num), some (.lst (new.map inP)), some (inP place), some (inP sp)], [], S⟩) rfl (p_bin rfl rfl (hadd _)) (div_nat (Nat.succ_pos _) (by omega) _) rfl) ⟨.inl rfl, .lst (new.map inP), new, num / (place + 1), _, _, rfl, rfl, (fun x h => nomatch h), ?_, ⟨k + 1, h2, hnew, hk5⟩, hf, fun _ => rfl⟩)
    intro i m
    rcases List.mem_append.mp m with m | m
    · rcases List.mem_append.mp m with m | m
      · exact hb i (List.mem_of_mem_take m)
      · rw [List.mem_singleton.mp m, hp]; exact hk5
    · exact hb i (List.mem_of_mem_drop m)
  · show (match S[st.length]? with | some (.list xs) => some xs | _ => none) = _
    rw [get_app0]; rfl
  · rintro _ es ⟨rfl, o, items, num, l2, l3, rfl, hi, hs, hb, ⟨k, hk, hl, hk5'⟩, hf, ho⟩
    rw [ho rfl]
    have he : items = orderN n := congrArg Prod.fst hf
    refine ⟨rfl, ev_last (ev_eq (y := .ret (.lst ((orderN n).map fun v => .str (nm v)))) (es' := ⟨[some (inP num), some (.lst (items.map inP)), l2, l3], [], S⟩) (e_bind (e_lst (compE_pure (es := ⟨[some (inP num), some (.lst (items.map inP)), l2, l3], [], S⟩) inP (fun _ => true) (fun v => .str (nm v)) items rfl rfl (fun _ _ => rfl) (fun a ha _ => ?_) (five_sz (by omega)))) ?_) ⟨rfl, rfl⟩)⟩
    · exact p_bin (p_call rfl rfl) rfl (names_at (hb a ha) _)
    · rw [List.filter_eq_self.mpr (fun _ _ => rfl), he]; rfl
theorem k_order (w : World) : FunK (C2 w) 3 (.ref 338) 1 [] orderG := (r_order w).spec fun ps st y st' e => by
  unfold orderG at e
  split at e
  rotate_left
  · (first | obtain ⟨rfl, rfl⟩ := spr e | exact (nos e).elim | obtain rfl := Option.some.inj e | cases e)
  have e' := ite_then e
  clear e
  obtain ⟨h0, e⟩ := e'
  (first | obtain ⟨rfl, rfl⟩ := spr e | exact (nos e).elim | obtain rfl := Option.some.inj e | cases e)
  rename_i n
  obtain ⟨_, _, e, rfl, rfl⟩ := order_run w (n := n.toNat) (st := st)
  rw [show inP n.toNat = .int n by simp [Int.toNat_of_nonneg h0]] at e
  exact ⟨⟨_, _, e, .lst (fz_strs _ _ _ _)⟩, Nat.le_refl _, fun i ao h => .inl h⟩
end Mine
end
section
set_option Elab.async false
set_option maxRecDepth 100000
set_option linter.unusedVariables false
set_option linter.unusedSimpArgs false
namespace Mine
open PySem PySem.Calls PySem.W PyProof.Rows
theorem ev_nest {i j : Nat} {B : FM PF} {Q : List (Nat × Nat) → ES → Prop}
    (hset : ∀ ns es v, Q ns es → ∃ es', P3 (setL i (inP v) es = some ((), es')) (es'.loc[i]? = some (some (inP v))) (Q ns es'))
    (hB : ∀ one two r es, one < 5 → two < one → es.loc[i]? = some (some (inP one)) → Q ((one, two) :: r) es → Ev (bindE (setL j (inP two)) fun _ => B) es fun y es' => y = .next ∧ es'.loc[i]? = some (some (inP one)) ∧ Q r es')
    (es : ES) (h0 : Q prs es) : Ev (forE (bindE (consE (pureE (.int 5)) (pureE [])) (itsEs itsRange)) (setL i) (seqE (forE (bindE (consE (getL i) (pureE [])) (itsEs itsRange)) (setL j) B) (pureE .next))) es fun y es' => y = .next ∧ Q [] es' := by
  let fl : List Nat → List (Nat × Nat) := fun ns => ns.flatMap fun one => (List.range one).map fun two => (one, two)
  have e0 : prs = fl (List.range 5) := by decide
  rw [e0] at h0
  refine ev_for (f := inP) (ns := List.range 5) (chk := fun _ => true) (its_one (n := 5) rfl (by decide)) (ev_mono (ev_items (Q := fun ns es => (∀ n ∈ ns, n < 5) ∧ Q (fl ns) es) ?_ (fun _ _ => rfl) _ _ ⟨fun n m => List.mem_range.mp m, h0⟩) (fun y es' h => ⟨h.1, h.2.2⟩))
  rintro one r es ⟨hn, q⟩
  have h5 : one < 5 := hn _ (.head _)
  obtain ⟨es₁, e1, g1, q1⟩ := hset _ _ one q
  refine ⟨rfl, ev_bind (ev_eq e1 ?_)⟩
  refine ev_last (ev_for (f := inP) (ns := List.range one) (chk := fun _ => true) (its_one (getL_at g1) (Nat.lt_trans h5 (by decide))) (ev_mono (ev_items (Q := fun ms es => es.loc[i]? = some (some (inP one)) ∧ (∀ m ∈ ms, m < one) ∧ Q (ms.map (fun two => (one, two)) ++ fl r) es) ?_ (fun _ _ => rfl) _ _ ⟨g1, fun n m => List.mem_range.mp m, q1⟩) (fun y es' h => ⟨.inl h.1, fun n m => hn n (.tail _ m), h.2.2.2⟩)))
  rintro two r' es ⟨g, hm, q⟩
  refine ⟨rfl, ev_mono (hB one two _ es h5 (hm _ (.head _)) g q) fun y es' h => ⟨.inl h.1, h.2.1, fun m mm => hm m (.tail _ mm), h.2.2⟩⟩
theorem texts_strs : ∀ l : List Str, texts? (l.map .str) = some l
  | [] => rfl
  | x :: l => by
    have := texts_strs l
    simp [texts?] at this ⊢
    rw [this]; rfl
theorem lt5 {P : Nat → Prop} (h0 : P 0) (h1 : P 1) (h2 : P 2) (h3 : P 3) (h4 : P 4) (a : Nat) (h : a < 5) : P a := by
  rcases Nat.lt_or_ge a 1 with q | q
  · rw [Nat.lt_one_iff.mp q]; exact h0
  rcases Nat.lt_or_ge a 2 with r | r
  · rw [Nat.le_antisymm (Nat.le_of_lt_succ r) q]; exact h1
  rcases Nat.lt_or_ge a 3 with q | q
  · rw [Nat.le_antisymm (Nat.le_of_lt_succ q) r]; exact h2
  rcases Nat.lt_or_ge a 4 with r | r
  · rw [Nat.le_antisymm (Nat.le_of_lt_succ r) q]; exact h3
  · rw [Nat.le_antisymm (Nat.le_of_lt_succ h) r]; exact h4
theorem join5 : ∀ a, a < 5 → ∀ b, b < 5 → ∀ st, joinG [.str (Str.ofString ""), .lst ((sortS [nm a, nm b]).map .str)] st = some (.str (pairS a b), st) :=
  lt5 (lt5 (fun _ => by kernel_rfl) (fun _ => by kernel_rfl) (fun _ => by kernel_rfl) (fun _ => by kernel_rfl) (fun _ => by kernel_rfl)) (lt5 (fun _ => by kernel_rfl) (fun _ => by kernel_rfl) (fun _ => by kernel_rfl) (fun _ => by kernel_rfl) (fun _ => by kernel_rfl)) (lt5 (fun _ => by kernel_rfl) (fun _ => by kernel_rfl) (fun _ => by kernel_rfl) (fun _ => by kernel_rfl) (fun _ => by kernel_rfl)) (lt5 (fun _ => by kernel_rfl) (fun _ => by kernel_rfl) (fun _ => by kernel_rfl) (fun _ => by kernel_rfl) (fun _ => by kernel_rfl)) (lt5 (fun _ => by kernel_rfl) (fun _ => by kernel_rfl) (fun _ => by kernel_rfl) (fun _ => by kernel_rfl) (fun _ => by kernel_rfl))
theorem join_pair {a b : Nat} (ha : a < 5) (hb : b < a) (st : List AO) : joinG [.str (Str.ofString ""), .lst ((sortS [nm a, nm b]).map .str)] st = some (.str (pairS a b), st) := join5 a ha b (Nat.lt_trans hb ha) st
noncomputable def drawT (tied : List Nat) (kept : Nat) (p : Nat × Nat) : Bool := (tied.getD p.1 0).testBit p.2 && !(kept.testBit p.1 && kept.testBit p.2)
theorem drawn_run (w : World) {tied : List Nat} {kept : Nat} (h5 : tied.length = 5) {st : List AO} : ∃ y st', runK (2 + 0) [] [some 0, some 1, none, none, none, none, none] [] (s_drawn w).1 [.lst (tied.map inP), inP kept] st = some (y, st') ∧ (y = .lst ((drawnN tied kept).map .str) ∧ ∃ x, st' = st ++ [x]) := by
  refine runK_ev rfl ?_
  let Q : List (Nat × Nat) → ES → Prop := fun ns es => ∃ (l4 l5 l6 : Option PV) (ps : List Str), es = ⟨[some (.lst (tied.map inP)), some (inP kept), some (.str namesS), some (.ref st.length), l4, l5, l6], [], st ++ [.list (ps.map .str)]⟩ ∧ ps ++ (ns.filter (drawT tied kept)).map (fun p => pairS p.1 p.2) = (prs.filter (drawT tied kept)).map (fun p => pairS p.1 p.2)
  simp only [s_drawn, List.map, Option.bind, List.append_nil, List.getElem?_cons_zero]
  refine ev_seq (ev_eq (y := .next) (es' := ⟨[some (.lst (tied.map inP)), some (inP kept), some (.str namesS), some (.ref st.length), none, none, none], [], st ++ [.list []]⟩) rfl ⟨rfl, ?_⟩)
  refine ev_seq (ev_mono (ev_nest (Q := Q) ?_ ?_ _ ⟨none, none, none, [], rfl, rfl⟩) ?_)
  · rintro ns _ v ⟨l4, l5, l6, ps, rfl, h⟩
    exact ⟨_, rfl, rfl, _, _, _, ps, rfl, h⟩
  · rintro one two r _ ho ht hl ⟨l4, l5, l6, ps, rfl, h⟩
    obtain rfl : l4 = some (inP one) := Option.some.inj hl
    have h25 : two < 5 := Nat.lt_trans ht ho
    have h1' : one ≤ 20 := Nat.le_trans (Nat.le_of_lt ho) (by decide)
    have h2' : two ≤ 20 := Nat.le_trans (Nat.le_of_lt h25) (by decide)
    refine ev_bind (ev_eq (y := ()) rfl ?_)
    have hw : ∃ v, (andE (bindE (bindE (getL 1) fun p => bindE (bindE (pureE (.int 2)) fun p => bindE (getL 4) fun q => liftS (powI p q)) fun q => liftS (divI p q)) fun p => bindE (pureE (.int 2)) fun q => liftS (modI p q)) (bindE (bindE (getL 1) fun p => bindE (bindE (pureE (.int 2)) fun p => bindE (getL 5) fun q => liftS (powI p q)) fun q => liftS (divI p q)) fun p => bindE (pureE (.int 2)) fun q => liftS (modI p q)))
      ⟨[some (.lst (tied.map inP)), some (inP kept), some (.str namesS), some (.ref st.length), some (inP one), some (inP two), l6], [], st ++ [.list (ps.map .str)]⟩ = some (inP v, ⟨[some (.lst (tied.map inP)), some (inP kept), some (.str namesS), some (.ref st.length), some (inP one), some (inP two), l6], [], st ++ [.list (ps.map .str)]⟩) ∧ (v != 0) = (kept.testBit one && kept.testBit two) := by
      refine ⟨if kept.testBit one then kept / 2 ^ two % 2 else kept / 2 ^ one % 2, ?_, ?_⟩
      · unfold andE
        refine e_bind (e_bit (c := kept) (a := one) rfl rfl h1') (e_bind (y := kept.testBit one) (es₁ := ⟨[some (.lst (tied.map inP)), some (inP kept), some (.str namesS), some (.ref st.length), some (inP one), some (inP two), l6], [], st ++ [.list (ps.map .str)]⟩) ?_ ?_)
        · unfold liftS
          rw [truth_nat, bit_ne]
        · cases kept.testBit one with
          | false => rfl
          | true => exact e_bit (c := kept) (a := two) rfl rfl h2'
      · cases hb : kept.testBit one with
        | false => rw [if_neg (by simp), bit_ne, hb]; rfl
        | true => rw [if_pos rfl, bit_ne]; rfl
    obtain ⟨v, hv, hv2⟩ := hw
    refine ev_seq (ev_eq (y := .next) (e_asg hv rfl) ⟨rfl, ?_⟩)
    let E : ES := ⟨[some (.lst (tied.map inP)), some (inP kept), some (.str namesS), some (.ref st.length), some (inP one), some (inP two), some (inP v)], [], st ++ [.list (ps.map .str)]⟩
    refine ev_last (ev_ite (ev_eq (y := drawT tied kept (one, two)) (es' := E) ?_ ?_))
    · refine e_ite (es₁ := E) (p_lift (e_bit (p_bin rfl rfl (getI_nats (ns := tied) (i := one) (h5.symm ▸ ho) (Nat.lt_trans ho (by decide)) _)) (a := two) rfl h2') (truth_nat _ _)) ?_
      rw [bit_ne]
      unfold drawT
      cases (tied.getD one 0).testBit two with
      | false => rfl
      | true =>
        refine e_ite (es₁ := E) (e_bind (p_lift (p := inP v) rfl (truth_nat _ _)) (r := some (!(v != 0), E)) rfl) ?_
        rw [hv2]
        cases kept.testBit one && kept.testBit two <;> rfl
    · cases hd : drawT tied kept (one, two) with
      | false =>
        refine ev_eq (y := .next) rfl ⟨rfl, rfl, _, _, _, ps, rfl, ?_⟩
        rw [← h]; simp [hd]
      | true =>
        refine ev_eq (y := .next) (es' := ⟨[some (.lst (tied.map inP)), some (inP kept), some (.str namesS), some (.ref st.length), some (inP one), some (inP two), some (inP v)], [], st ++ [.list ((ps ++ [pairS one two]).map .str)]⟩) ?_ ⟨rfl, rfl, _, _, _, ps ++ [pairS one two], rfl, ?_⟩
        · have hlen : ps.length ≤ 10 := by
            have := congrArg List.length h
            have h2 := List.length_filter_le (drawT tied kept) prs
            have h3 : prs.length = 10 := rfl
            simp only [List.length_append, List.length_map] at this
            omega
          have hap : appendG [.ref st.length, .str (pairS one two)] (st ++ [.list (ps.map .str)]) = some (.none, st ++ [.list ((ps ++ [pairS one two]).map .str)]) := by
            simp [appendG, get_app0, set_app0, five_sz (show ps.length ≤ 100 by omega)]
          refine e_seq (e_expr (e_meth (es₁ := E) (es₂ := E) rfl (by simp [isLst, items?, E, get_app0]) (p_cons (p_meth (p := .str (Str.ofString "")) rfl rfl (p_cons (p_call (p_cons (p_lst2 (p_bin rfl rfl (names_at ho _)) (p_bin rfl rfl (names_at h25 _))) rfl) rfl) rfl) (join_pair ho ht _)) rfl) hap)) rfl
        · rw [← h]; simp [hd]
  · rintro _ es ⟨rfl, l4, l5, l6, ps, rfl, h⟩
    simp only [List.filter_nil, List.map_nil, List.append_nil] at h
    refine ⟨rfl, ev_last (ev_eq (y := .ret (.lst ((drawnN tied kept).map .str))) (es' := ⟨[some (.lst (tied.map inP)), some (inP kept), some (.str namesS), some (.ref st.length), l4, l5, l6], [], st ++ [.list (ps.map .str)]⟩) (e_bind (p_call (p_cons (p := .ref st.length) rfl rfl) ?_) rfl) ⟨rfl, _, rfl⟩)⟩
    have hlen : ps.length < 64 := by
      have h2 := List.length_filter_le (drawT tied kept) prs
      have h3 : prs.length = 10 := rfl
      rw [h, List.length_map]
      omega
    have hd : drawnN tied kept = sortS ps := by rw [h]; rfl
    rw [hd]
    simp only [sortG, items?, get_app0, List.getElem?_cons_zero, texts_strs, if_pos hlen]
theorem k_drawn (w : World) : FunK (C2 w) 3 (.ref 357) 2 [] drawnG := (r_drawn w).spec fun ps st y st' e => by
  unfold drawnG at e
  split at e
  rotate_left
  · (first | obtain ⟨rfl, rfl⟩ := spr e | exact (nos e).elim | obtain rfl := Option.some.inj e | cases e)
  rename_i xs k
  split at e
  rotate_left
  · (first | obtain ⟨rfl, rfl⟩ := spr e | exact (nos e).elim | obtain rfl := Option.some.inj e | cases e)
  rename_i tied q
  have e' := ite_then e
  clear e
  obtain ⟨⟨h5, h0, h1⟩, e⟩ := e'
  (first | obtain ⟨rfl, rfl⟩ := spr e | exact (nos e).elim | obtain rfl := Option.some.inj e | cases e)
  obtain ⟨rfl, hb⟩ := natsOf_eq q
  obtain ⟨_, _, e, rfl, x, rfl⟩ := drawn_run w (tied := tied) (kept := k.toNat) h5 (st := st)
  rw [show inP k.toNat = .int k by simp [Int.toNat_of_nonneg h0]] at e
  exact ⟨⟨_, _, e, .lst (fz_strs _ _ _ _)⟩, Nat.le_refl _, fun i ao h => .inl h⟩
end Mine
end
section
set_option Elab.async false
set_option maxRecDepth 100000
set_option linter.unusedVariables false
set_option linter.unusedSimpArgs false
namespace Mine
open PySem PySem.Calls PySem.W PyProof.Rows
theorem upper_nm : ∀ {v : Nat}, v < 5 → ∀ st, str1 Txt.upper [.str (nm v)] st = some (.str (Txt.upper (nm v)), st) := by
  have h : ∀ v < 5, (Txt.upper (nm v)).length ≤ 100 := by decide +kernel
  intro v hv st
  show (if (Txt.upper (nm v)).length ≤ sizeLine then _ else _) = _
  rw [if_pos (five_sz (h v hv))]
theorem swap_nm : ∀ {v : Nat}, v < 5 → ∀ st, str1 Txt.swapcase [.str (nm v)] st = some (.str (Txt.swapcase (nm v)), st) := by
  have h : ∀ v < 5, (Txt.swapcase (nm v)).length ≤ 100 := by decide +kernel
  intro v hv st
  show (if (Txt.swapcase (nm v)).length ≤ sizeLine then _ else _) = _
  rw [if_pos (five_sz (h v hv))]
theorem plain_nm : ∀ v < 5, plainTxt (nm v) = true ∧ plainTxt (Txt.upper (nm v)) = true ∧ plainTxt (Txt.swapcase (nm v)) = true := by decide +kernel
theorem getI_ref {j : Nat} {xs : List PV} {k : Int} {u : PV} {st : List AO} (c : 0 ≤ k ∧ k < 2 ^ 62) (h : st[j]? = some (.list xs)) (e : xs[k.toNat]? = some u) : getI (.ref j) (.int k) st = some (u, st) := by
  have i2 : items? st (.ref j) = some xs := by
    show (match st[j]? with | some (.list xs) => some xs | _ => none) = _
    rw [h]
  unfold getI
  dsimp only
  rw [if_pos c, i2]
  dsimp only
  rw [e]
theorem setI_ref {j : Nat} {xs : List PV} {k : Int} {v : PV} {st : List AO} (h : st[j]? = some (.list xs)) (c : 0 ≤ k ∧ k < 2 ^ 62 ∧ k.toNat < xs.length) : setI (.ref j) (.int k) v st = some ((), st.set j (.list (xs.set k.toNat v))) := by
  unfold setI
  dsimp only
  rw [h]
  dsimp only
  rw [if_pos c]
noncomputable abbrev SS (st : List AO) (hs : List PV) (tl : List Nat) (J : List AO) : List AO := st ++ ([.list hs, .inst 308 (kvH st.length), .list (tl.map inP)] ++ J)
section
variable {st : List AO} {hs : List PV} {tl : List Nat} {J : List AO}
theorem SS0 : (SS st hs tl J)[st.length]? = some (.list hs) := get_app0 _ _
theorem SS1 : (SS st hs tl J)[st.length + 1]? = some (.inst 308 (kvH st.length)) := get_app _ _ 1
theorem SS2 : (SS st hs tl J)[st.length + 2]? = some (.list (tl.map inP)) := get_app _ _ 2
theorem SSa (w : World) {x y : Str} (hx : plainTxt x = true) (hy : plainTxt y = true) (hz : hs.length ≤ 1000) : addhR w [.ref (st.length + 1), .str x, .str y] (SS st hs tl J) = some (.none, SS st (hs ++ [.tup [.str x, .str y]]) tl (J ++ [.edict, .list [.str y]])) := by
  rw [addh_run w SS1 SS0 hx hy hz]
  simp only [SS, set_app0, List.append_assoc]
  rfl
theorem SSg (w : World) {a : Nat} (h : a < tl.length) (h' : a < 2 ^ 62) : getI (.ref (st.length + 2)) (inP a) (SS st hs tl J) = some (inP (tl.getD a 0), SS st hs tl J) := by
  refine getI_ref ⟨by omega, by omega⟩ SS2 ?_
  rw [Int.toNat_natCast, List.getElem?_map, List.getElem?_eq_getElem h]
  simp [List.getD, h]
theorem SSs {a v : Nat} (h : a < tl.length) (h' : a < 2 ^ 62) : setI (.ref (st.length + 2)) (inP a) (inP v) (SS st hs tl J) = some ((), SS st hs (tl.set a v) J) := by
  rw [setI_ref SS2 ⟨by omega, by omega, by simpa using h⟩, Int.toNat_natCast, set_app, ← List.map_set]
  rfl
end
theorem iadd_nat (a b : Nat) (st : List AO) : iaddG (inP a) (inP b) st = some (inP (a + b), st) := by
  show some (PV.int ((a : Int) + (b : Int)), st) = _
  rw [← Int.natCast_add]
section
variable {es es₁ es₂ es₃ : ES}
theorem e_aug_item {O I X : FM PV} {G : PV → PV → SM PV} {p q old v new : PV} {st₃ : List AO} (h1 : O es = some (p, es)) (h2 : I es = some (q, es)) (h3 : getI p q es.st = some (old, es.st)) (h4 : X es = some (v, es)) (h5 : G old v es.st = some (new, es.st)) (h6 : setI p q new es.st = some ((), st₃)) :
    (bindE O fun p => bindE I fun q => bindE (liftS (getI p q)) fun old => bindE X fun v => bindE (liftS (G old v)) fun new => bindE (liftS (setI p q new)) fun _ => pureE PF.next) es = some (.next, ⟨es.loc, es.cel, st₃⟩) :=
  e_bind h1 (e_bind h2 (e_bind (es₁ := es) (by unfold liftS; rw [h3]) (e_bind h4 (e_bind (es₁ := es) (by unfold liftS; rw [h5]) (e_bind (es₁ := ⟨es.loc, es.cel, st₃⟩) (y := ()) (by unfold liftS; rw [h6]) rfl)))))
end
theorem fzs_ints (n : Nat) (st : List AO) : ∀ l : List Nat, Fzs n st (l.map inP) (l.map inP)
  | [] => .nil
  | a :: l => .cons (.int _) (fzs_ints n st l)
theorem get_ah (h : Nat) : kvGet (kvH h) (Str.ofString "add_header") = none := by kernel_rfl
theorem drawnR_len : ∀ (ns : List (Nat × Nat)) (b : Nat), (drawnR ns b).length ≤ ns.length
  | [], b => Nat.le_refl _
  | p :: r, b => by
    unfold drawnR
    have := drawnR_len r (b / 2)
    split <;> simp only [List.length_cons] <;> omega
set_option maxHeartbeats 4000000 in
theorem ties_run (w : World) (bits : Nat) (hb : bits < 1024) (st : List AO) : ∃ y st', runK (1 + 0) [] [some 0, none, none, none, none, none] [] (s_ties w).1 [inP bits] st = some (y, st') ∧ (y = .tup [.ref (st.length + 1), .ref (st.length + 2)] ∧ ∃ J, st' = SS st (hsL bits) (tiedL bits) J) := by
  refine runK_ev rfl ?_
  let Q : List (Nat × Nat) → ES → Prop := fun ns es => ∃ (b : Nat) (l4 l5 : Option PV) (tl : List Nat) (hs : List PV) (J : List AO), es = ⟨[some (inP b), some (.str namesS), some (.ref (st.length + 1)), some (.ref (st.length + 2)), l4, l5], [], SS st hs tl J⟩ ∧ tl.length = 5 ∧ (drawnR ns b).foldl addT tl = tiedL bits ∧ hs ++ (drawnR ns b).flatMap hsOf = hsL bits
  simp only [s_ties, List.map, Option.bind, List.append_nil, List.getElem?_cons_zero]
  refine ev_seq (ev_eq (y := .next) (es' := ⟨[some (inP bits), some (.str namesS), some (.ref (st.length + 1)), some (.ref (st.length + 2)), none, none], [], SS st [] [0, 0, 0, 0, 0] []⟩) ?_ ⟨rfl, ?_⟩)
  · have z : (0 : Nat) ≤ sizeLine := Nat.zero_le _
    have e0 : (bindE (pureE []) fun ps => liftS (namesG ps)) ⟨[some (inP bits), none, none, none, none, none], [], st⟩ = some (.str namesS, ⟨[some (inP bits), none, none, none, none, none], [], st⟩) := rfl
    have e1 : (bindE (pureE []) newE) ⟨[some (inP bits), none, none, none, none, none], [], st⟩ = some (.ref st.length, ⟨[some (inP bits), none, none, none, none, none], [], st ++ [.list []]⟩) := e_bind (y := []) (es₁ := ⟨[some (inP bits), none, none, none, none, none], [], st⟩) rfl (by unfold newE; exact if_pos z)
    have e2 : make308G [.ref st.length] (st ++ [.list []]) = some (.ref (st.length + 1), st ++ [.list [], .inst 308 (kvH st.length)]) := by
      unfold make308G
      dsimp only
      rw [get_app0]
      simp
    have e3 : (bindE (consE (bindE (pureE []) newE) (pureE [])) fun ps => liftS (make308G ps)) ⟨[some (inP bits), none, none, none, none, none], [], st⟩ = some (.ref (st.length + 1), ⟨[some (inP bits), none, none, none, none, none], [], st ++ [.list [], .inst 308 (kvH st.length)]⟩) :=
      e_bind (e_cons e1 rfl) (by unfold liftS; rw [e2])
    have e4 : mulG (.lst [.int 0]) (.int 5) (st ++ [.list [], .inst 308 (kvH st.length)]) = some (.ref (st.length + 2), SS st [] [0, 0, 0, 0, 0] []) := by
      have c : ([PV.int 0] : List PV).length * (5 : Int).toNat ≤ 2 ^ 24 ∧ -1000 < (5 : Int) ∧ (5 : Int) < 2 ^ 24 := by decide
      have l : (st ++ [AO.list [], .inst 308 (kvH st.length)]).length = st.length + 2 := by simp
      unfold mulG
      dsimp only [items?]
      rw [if_pos c, l, List.append_assoc]
      rfl
    have e5 : (bindE (bindE (consE (pureE (PV.int 0)) (pureE [])) lstE) fun p => bindE (pureE (PV.int 5)) fun q => liftS (mulG p q)) ⟨[some (inP bits), none, none, none, none, none], [], st ++ [.list [], .inst 308 (kvH st.length)]⟩ = some (.ref (st.length + 2), ⟨[some (inP bits), none, none, none, none, none], [], SS st [] [0, 0, 0, 0, 0] []⟩) := by
      refine e_bind (y := .lst [.int 0]) (es₁ := ⟨[some (inP bits), none, none, none, none, none], [], st ++ [.list [], .inst 308 (kvH st.length)]⟩) ?_ (e_bind (y := .int 5) (es₁ := ⟨[some (inP bits), none, none, none, none, none], [], st ++ [.list [], .inst 308 (kvH st.length)]⟩) rfl (by unfold liftS; rw [e4]))
      exact e_bind (p_cons rfl rfl) (by unfold lstE; rw [if_pos (five_sz (by simp))]; rfl)
    exact e_bind (e_tup (e_cons e0 (e_cons e3 (e_cons e5 rfl))) (five_sz (by simp))) rfl
  refine ev_seq (ev_mono (ev_nest (Q := Q) ?_ ?_ _ ⟨bits, none, none, _, [], [], rfl, rfl, rfl, rfl⟩) ?_)
  · rintro ns _ v ⟨b, l4, l5, tl, hs, J, rfl, h⟩
    exact ⟨_, rfl, rfl, b, _, l5, tl, hs, J, rfl, h⟩
  · rintro one two r _ ho ht hl ⟨b, l4, l5, tl, hs, J, rfl, h5, h1, h2⟩
    obtain rfl : l4 = some (inP one) := Option.some.inj hl
    refine ev_bind (ev_eq (y := ()) rfl ?_)
    have hhs : hs.length ≤ 100 := by
      have := congrArg List.length h2
      have h3 : (hsL bits).length ≤ 20 := by
        unfold hsL drawnP
        have h4 := drawnR_len prs bits
        have h5 : prs.length = 10 := rfl
        have : ∀ l : List (Nat × Nat), (l.flatMap hsOf).length = 2 * l.length := fun l => by
          induction l with
          | nil => rfl
          | cons p l ih => rw [List.flatMap_cons, List.length_append, ih]; simp only [hsOf, List.length_cons, List.length_nil]; omega
        rw [this]; omega
      rw [List.length_append] at this
      omega
    refine ev_seq (ev_ite (ev_eq (y := b % 2 != 0) (es' := ⟨[some (inP b), some (.str namesS), some (.ref (st.length + 1)), some (.ref (st.length + 2)), some (inP one), some (inP two)], [], SS st hs tl J⟩) (p_lift (p_bin rfl rfl (mod_nat (b := 2) (by decide) _)) (truth_nat _ _)) ?_))
    have fin : ∀ tl hs J, tl.length = 5 → (drawnR r (b / 2)).foldl addT tl = tiedL bits → hs ++ (drawnR r (b / 2)).flatMap hsOf = hsL bits → Ev (seqE (augE (getL 0) (pureE (.int 2)) divI (setL 0)) (pureE .next)) ⟨[some (inP b), some (.str namesS), some (.ref (st.length + 1)), some (.ref (st.length + 2)), some (inP one), some (inP two)], [], SS st hs tl J⟩ fun y es' => y = .next ∧ es'.loc[4]? = some (some (inP one)) ∧ Q r es' := fun tl hs J q1 q2 q3 =>
      ev_last (ev_eq (y := .next) (es' := ⟨[some (inP (b / 2)), some (.str namesS), some (.ref (st.length + 1)), some (.ref (st.length + 2)), some (inP one), some (inP two)], [], SS st hs tl J⟩) (e_aug rfl rfl (div_nat (a := b) (b := 2) (by decide) (by omega) _) rfl) ⟨rfl, rfl, _, _, _, _, _, _, rfl, q1, q2, q3⟩)
    cases hm : (b % 2 != 0) with
    | false =>
      have hm : b % 2 = 0 := by simpa using hm
      have e : drawnR ((one, two) :: r) b = drawnR r (b / 2) := by rw [drawnR, if_pos hm]
      rw [e] at h1 h2
      exact ev_eq (y := .next) rfl ⟨rfl, fin _ _ _ h5 h1 h2⟩
    | true =>
      have hm : ¬ b % 2 = 0 := by simpa using hm
      have e : drawnR ((one, two) :: r) b = (one, two) :: drawnR r (b / 2) := by rw [drawnR, if_neg hm]
      rw [e, List.foldl_cons] at h1
      rw [e, List.flatMap_cons, ← List.append_assoc] at h2
      have p1 := plain_nm one ho
      have h25 : two < 5 := Nat.lt_trans ht ho
      have p2 := plain_nm two h25
      have g1 := names_at (a := one) ho
      have g2 := names_at (a := two) h25
      have b1 : ∀ hs tl J, isInst 308 (Str.ofString "add_header") (.ref (st.length + 1)) (SS st hs tl J) = true := fun hs tl J => isInst_of SS1 (get_ah _)
      have hl1 : (tl.set one (tl.getD one 0 + 2 ^ two)).length = 5 := by rw [List.length_set]; exact h5
      have A1 : ∀ (hs : List PV) (tl : List Nat) (J : List AO), tl.length = 5 → (bindE (getL 3) fun p => bindE (getL 4) fun q => bindE (liftS (getI p q)) fun old => bindE (bindE (pureE (PV.int 2)) fun p => bindE (getL 5) fun q => liftS (powI p q)) fun v => bindE (liftS (iaddG old v)) fun new => bindE (liftS (setI p q new)) fun x => pureE PF.next) ⟨[some (inP b), some (.str namesS), some (.ref (st.length + 1)), some (.ref (st.length + 2)), some (inP one), some (inP two)], [], SS st hs tl J⟩ = some (.next, ⟨[some (inP b), some (.str namesS), some (.ref (st.length + 1)), some (.ref (st.length + 2)), some (inP one), some (inP two)], [], SS st hs (tl.set one (tl.getD one 0 + 2 ^ two)) J⟩) := fun hs tl J h5 =>
        e_aug_item (p := .ref (st.length + 2)) (q := inP one) (old := inP (tl.getD one 0)) (v := inP (2 ^ two)) rfl rfl (SSg w (h5.symm ▸ ho) (Nat.lt_trans ho (by decide))) (p_bin rfl rfl (pow_nat (Nat.le_trans (Nat.le_of_lt h25) (by decide)) _)) (iadd_nat _ _ _) (SSs (h5.symm ▸ ho) (Nat.lt_trans ho (by decide)))
      have A2 : ∀ (hs : List PV) (tl : List Nat) (J : List AO), tl.length = 5 → (bindE (getL 3) fun p => bindE (getL 5) fun q => bindE (liftS (getI p q)) fun old => bindE (bindE (pureE (PV.int 2)) fun p => bindE (getL 4) fun q => liftS (powI p q)) fun v => bindE (liftS (iaddG old v)) fun new => bindE (liftS (setI p q new)) fun x => pureE PF.next) ⟨[some (inP b), some (.str namesS), some (.ref (st.length + 1)), some (.ref (st.length + 2)), some (inP one), some (inP two)], [], SS st hs tl J⟩ = some (.next, ⟨[some (inP b), some (.str namesS), some (.ref (st.length + 1)), some (.ref (st.length + 2)), some (inP one), some (inP two)], [], SS st hs (tl.set two (tl.getD two 0 + 2 ^ one)) J⟩) := fun hs tl J h5 =>
        e_aug_item (p := .ref (st.length + 2)) (q := inP two) (old := inP (tl.getD two 0)) (v := inP (2 ^ one)) rfl rfl (SSg w (h5.symm ▸ h25) (Nat.lt_trans h25 (by decide))) (p_bin rfl rfl (pow_nat (Nat.le_trans (Nat.le_of_lt ho) (by decide)) _)) (iadd_nat _ _ _) (SSs (h5.symm ▸ h25) (Nat.lt_trans h25 (by decide)))
      refine ev_eq (y := .next) (es' := ⟨[some (inP b), some (.str namesS), some (.ref (st.length + 1)), some (.ref (st.length + 2)), some (inP one), some (inP two)], [], SS st ((hs ++ [.tup [.str (Txt.upper (nm one)), .str (nm two)]]) ++ [.tup [.str (Txt.swapcase (nm two)), .str (nm one)]]) ((tl.set one (tl.getD one 0 + 2 ^ two)).set two ((tl.set one (tl.getD one 0 + 2 ^ two)).getD two 0 + 2 ^ one)) ((J ++ [.edict, .list [.str (nm two)]]) ++ [.edict, .list [.str (nm one)]])⟩)
        (e_seq (e_expr (e_meth (es₂ := ⟨[some (inP b), some (.str namesS), some (.ref (st.length + 1)), some (.ref (st.length + 2)), some (inP one), some (inP two)], [], SS st hs tl J⟩) (p := .ref (st.length + 1)) rfl (b1 _ _ _) (p_cons (p_meth (p_bin rfl rfl (g1 _)) rfl rfl (upper_nm ho _)) (p_cons (p_bin rfl rfl (g2 _)) rfl)) (SSa w p1.2.1 p2.1 (Nat.le_trans hhs (by decide)))))
        (e_seq (e_expr (e_meth (es₂ := ⟨[some (inP b), some (.str namesS), some (.ref (st.length + 1)), some (.ref (st.length + 2)), some (inP one), some (inP two)], [], SS st (hs ++ [.tup [.str (Txt.upper (nm one)), .str (nm two)]]) tl (J ++ [.edict, .list [.str (nm two)]])⟩) (p := .ref (st.length + 1)) rfl (b1 _ _ _) (p_cons (p_meth (p_bin rfl rfl (g2 _)) rfl rfl (swap_nm h25 _)) (p_cons (p_bin rfl rfl (g1 _)) rfl)) (SSa w p2.2.2 p1.1 (by rw [List.length_append, List.length_cons, List.length_nil]; omega))))
        (e_seq (A1 _ _ _ h5)
        (e_seq (A2 _ _ _ hl1)
        rfl)))) ⟨rfl, fin _ _ _ (by rw [List.length_set]; exact hl1) h1 (by rw [← h2]; simp [hsOf])⟩
  · rintro _ es ⟨rfl, b, l4, l5, tl, hs, J, rfl, h5, h1, h2⟩
    have h1 : tl = tiedL bits := h1
    have h2 : hs = hsL bits := by rw [← h2]; exact (List.append_nil _).symm
    subst h1 h2
    refine ⟨rfl, ev_last (ev_eq (y := .ret (.tup [.ref (st.length + 1), .ref (st.length + 2)])) (es' := ⟨[some (inP b), some (.str namesS), some (.ref (st.length + 1)), some (.ref (st.length + 2)), l4, l5], [], SS st _ _ J⟩) (e_bind (p_tup2 rfl rfl) rfl) ⟨rfl, J, rfl⟩)⟩
theorem cleans_app (n : Nat) : ∀ a b : List PV, PVs.clean n (a ++ b) = (PVs.clean n a && PVs.clean n b)
  | [], b => by simp [PVs.clean]
  | x :: a, b => by simp [PVs.clean, cleans_app n a b, Bool.and_assoc]
theorem clean_hs (n : Nat) (l : List (Nat × Nat)) : PVs.clean n (l.flatMap hsOf) = true := by
  induction l with
  | nil => rfl
  | cons p l ih => rw [List.flatMap_cons, cleans_app, ih, Bool.and_true]; rfl
theorem inN_nat {i : Int} (h : 0 ≤ i) : inP i.toNat = .int i := by simp [Int.toNat_of_nonneg h]
theorem k_ties (w : World) : FunK (C2 w) 4 (.ref 333) 1 [] tiesG := (r_ties w).spec fun ps st y st' e => by
  unfold tiesG at e
  split at e
  rotate_left
  · (first | obtain ⟨rfl, rfl⟩ := spr e | exact (nos e).elim | obtain rfl := Option.some.inj e | cases e)
  rename_i bits
  have e' := ite_then e
  clear e
  obtain ⟨⟨h0, h1⟩, e⟩ := e'
  (first | obtain ⟨rfl, rfl⟩ := spr e | exact (nos e).elim | obtain rfl := Option.some.inj e | cases e)
  obtain ⟨_, _, e, rfl, J, rfl⟩ := ties_run w bits.toNat (by omega) st
  rw [inN_nat h0] at e
  refine ⟨⟨_, .list ((tiedL bits.toNat).map inP) :: J, by rw [e, List.append_assoc]; rfl, ?_⟩, by simp, fun i ao h => ?_⟩
  · refine .tup (.cons (.old (by simp)) (.cons (.new (xs := (tiedL bits.toNat).map inP) (by simp) ?_ ?_) .nil))
    · rw [List.append_assoc]; exact SS2 (J := J)
    · exact fzs_ints _ _ _
  · rcases Nat.lt_or_ge i st.length with q | q
    · rw [List.getElem?_append_left q] at h; exact .inl h
    · obtain ⟨k, rfl⟩ := Nat.exists_eq_add_of_le q
      rw [get_app] at h
      match k, h with
      | 0, h => cases h; exact .inr (clean_hs _ _)
      | 1, h => cases h; exact .inr (by simp [AO.clean, PV.clean])
      | k + 2, h => cases h
end Mine
end
section
set_option Elab.async false
set_option maxRecDepth 100000
set_option linter.unusedVariables false
set_option linter.unusedSimpArgs false
namespace Mine
open PySem PySem.Calls PySem.W PyProof.Rows
noncomputable def goneR (w : World) : List PV → SM PV := runK (2 + 0) [] [some 0, some 1, none, none, none, none] [none] (s_gone w).1
theorem k_gone (w : World) : FunK (C2 w) 6 (.ref 362) 2 [] (goneR w) := r_gone w
noncomputable def backR (w : World) : List PV → SM PV := runK (2 + 0) [] [some 0, some 1, none, none, none] [none, none] (s_back w).1
theorem k_back (w : World) : FunK (C2 w) 4 (.ref 367) 2 [] (backR w) := r_back w
noncomputable abbrev ln_law : List Str := [Str.ofString "script", Str.ofString "cell", Str.ofString "drawn", Str.ofString "bits", Str.ofString "ties", Str.ofString "tied", Str.ofString "crossed", Str.ofString "points", Str.ofString "rows", Str.ofString "row", Str.ofString "point", Str.ofString "read", Str.ofString "pile", Str.ofString "waiting", Str.ofString "marks", Str.ofString "pairs"]
noncomputable abbrev cn_law : List (Str × Nat) := [(Str.ofString "line", 2), (Str.ofString "kept", 1)]
theorem loc_law : ∀ x ∈ ln_law, (defS (at1 P2 23)).names.lookup x = some .local := by decide +kernel
theorem nd_law : ln_law.Nodup := by decide +kernel
noncomputable def b_law : { b : List Stmt // defB (at1 P2 23) = b } := ⟨[_, _, _, _, _, _, _, _, _], rfl⟩
noncomputable def s_law (w : World) : { F : FM PF // ∀ L, Den (C2 w) 6 (FI.fn fd372 372 ln_law cn_law L) RFl (execs (defB (at1 P2 23)) (callEnvC fd372 L 372)) F } := ⟨_, fun L => by
  have ok : FI.Ok (FI.fn fd372 372 ln_law cn_law L) := ok_fn (fd := fd372) rfl rfl rfl loc_law nd_law
  rw [b_law.2]
  exact (dens_cons (den_assign_comp (cl := []) ⟨by kernel_rfl, by decide +kernel, rfl, by decide +kernel⟩ rfl rfl (denc_one (cl := []) (ln := [Str.ofString "cell"]) ⟨by kernel_rfl, by decide +kernel, rfl, by decide +kernel⟩ (denit_v (den_slice (den_local (i := 0) ok rfl) denp_none (denp_some den_int) denp_none)) (fun C => (dena_local (i := 0) (ok_comp ok rfl (loc_cons (by kernel_rfl) loc_nil) (by decide +kernel)) rfl)) (fun C => dents_nil) (fun C => (den_binop (den_call (den_builtin (ok_comp ok rfl (loc_cons (by kernel_rfl) loc_nil) (by decide +kernel)) (by kernel_rfl) (gn_int w) (bn_int w)) keepOk_type (denl_cons (den_local (i := 0) (ok_comp ok rfl (loc_cons (by kernel_rfl) loc_nil) (by decide +kernel)) rfl) denl_nil) op_int) (den_binop den_int den_int op_powI) op_modI))) (dena_local (i := 2) ok rfl) (by kernel_rfl))
    (dens_cons (den_assign den_int (dena_local (i := 3) ok rfl))
    (dens_cons (den_for (denit_v (den_local (i := 2) ok rfl)) (dena_local (i := 1) ok rfl)
      (dens_cons (den_aug_local (i := 3) ok rfl (den_binop den_int (den_binop (den_local (i := 1) ok rfl) den_int op_modI) op_powI) op_ixorI)
    dens_nil))
    (dens_cons (den_assign (den_call (den_global ok (by kernel_rfl) (gn__law_ties w)) (keepOk_ref (a := 333) (by kernel_rfl)) (denl_cons (den_local (i := 3) ok rfl) denl_nil) ((k_ties w).ok.weak (by decide))) (dena_tuple (denas_cons (dena_local (i := 4) ok rfl) (denas_cons (dena_local (i := 5) ok rfl) denas_nil))))
    (dens_cons (den_assign (den_tuple (denl_cons (den_call (den_global ok (by kernel_rfl) (gn__law_kept w)) (keepOk_ref (a := 343) (by kernel_rfl)) (denl_cons (den_local (i := 5) ok rfl) denl_nil) ((k_kept w).ok.weak (by decide))) (denl_cons (den_call (den_global ok (by kernel_rfl) (gn__law_crossed w)) (keepOk_ref (a := 350) (by kernel_rfl)) (denl_cons (den_local (i := 5) ok rfl) denl_nil) ((k_crossed w).ok.weak (by decide))) denl_nil))) (dena_tuple (denas_cons (dena_cell (i := 1) ok rfl (by kernel_rfl) (by kernel_rfl)) (denas_cons (dena_local (i := 6) ok rfl) denas_nil))))
    (dens_cons (den_assign (den_call (den_global ok (by kernel_rfl) (gn__law_order w)) (keepOk_ref (a := 338) (by kernel_rfl)) (denl_cons (den_binop (den_call (den_builtin ok (by kernel_rfl) (gn_sum w) (bn_sum w)) keepOk_builtin (denl_cons (den_local (i := 2) ok rfl) denl_nil) op_sum) den_int op_divI) denl_nil) ((k_order w).ok.weak (by decide))) (dena_local (i := 7) ok rfl))
    (dens_cons (den_assign (den_list_new denl_nil) (dena_local (i := 8) ok rfl))
    (dens_cons (den_for (denit_v (den_tuple (denl_cons (den_local (i := 7) ok rfl) (denl_cons (den_slice (den_local (i := 7) ok rfl) denp_none denp_none (denp_some (den_unary den_int op_negI))) denl_nil)))) (dena_local (i := 9) ok rfl)
      (dens_cons (den_assign (den_call (den_global ok (by kernel_rfl) (gn__law_lexer w)) (keepOk_ref (a := 319) (by kernel_rfl)) (denl_cons (den_method den_str (meth_str F.slot_str_join F.type_str_join) keepOk_builtin (denl_cons (den_listcomp (cl := []) ⟨by kernel_rfl, by decide +kernel, rfl, by decide +kernel⟩ rfl rfl (denc_one (cl := []) (ln := [Str.ofString "point"]) ⟨by kernel_rfl, by decide +kernel, rfl, by decide +kernel⟩ (denit_v (den_local (i := 9) ok rfl)) (fun C => (dena_local (i := 0) (ok_comp ok rfl (loc_cons (by kernel_rfl) loc_nil) (by decide +kernel)) rfl)) (fun C => dents_nil) (fun C => (den_binop (den_binop den_str (den_local (i := 0) (ok_comp ok rfl (loc_cons (by kernel_rfl) loc_nil) (by decide +kernel)) rfl) op_addG) den_str op_addG)))) denl_nil) op_join) denl_nil) ((k_lexer w).ok.weak (by decide))) (dena_cell (i := 0) ok rfl (by kernel_rfl) (by kernel_rfl)))
    (dens_cons (den_assign_comp (cl := [(Str.ofString "line", L + 2)]) ⟨by kernel_rfl, by decide +kernel, rfl, by decide +kernel⟩ rfl rfl (denc_one (cl := [(Str.ofString "line", L + 2)]) (ln := [Str.ofString "turn"]) ⟨by kernel_rfl, by decide +kernel, rfl, by decide +kernel⟩ (denit_call (den_builtin ok (by kernel_rfl) (gn_range w) (bn_range w)) keepOk_type (denl_cons den_int denl_nil) opit_range) (fun C => (dena_local (i := 0) (ok_comp ok rfl (loc_cons (by kernel_rfl) loc_nil) (by decide +kernel)) rfl)) (fun C => dents_nil) (fun C => (den_method (den_cell (i := 0) (ok_comp ok rfl (loc_cons (by kernel_rfl) loc_nil) (by decide +kernel)) rfl (by kernel_rfl) (.inl (by kernel_rfl))) (meth_inst (C := 76) (fa := 66) (by kernel_rfl)) (keepOk_ref (a := 66) (by kernel_rfl)) denl_nil ((k_token w).ok.weak (by decide))))) (dena_local (i := 11) ok rfl) (by kernel_rfl))
    (dens_cons (den_if (dent_compare (den_local (i := 11) ok rfl) (den_binop (den_local (i := 9) ok rfl) (den_list (denl_cons den_str denl_nil)) op_addG) op_neG)
      (dens_cons (den_return den_bool)
    dens_nil)
      dens_nil)
    (dens_cons (den_for (denit_v (den_binop (den_local (i := 11) ok rfl) (den_local (i := 9) ok rfl) op_addG)) (dena_local (i := 10) ok rfl)
      (dens_cons (den_expr (den_method (den_cell (i := 0) ok rfl (by kernel_rfl) (.inl (by kernel_rfl))) (meth_inst (C := 76) (fa := 73) (by kernel_rfl)) (keepOk_ref (a := 73) (by kernel_rfl)) (denl_cons (den_local (i := 10) ok rfl) denl_nil) ((k_ptoken w).ok.weak (by decide))) (by kernel_rfl))
    dens_nil))
    (dens_cons (den_if (dent_compare (den_listcomp (cl := [(Str.ofString "line", L + 2)]) ⟨by kernel_rfl, by decide +kernel, rfl, by decide +kernel⟩ rfl rfl (denc_one (cl := [(Str.ofString "line", L + 2)]) (ln := [Str.ofString "turn"]) ⟨by kernel_rfl, by decide +kernel, rfl, by decide +kernel⟩ (denit_call (den_builtin ok (by kernel_rfl) (gn_range w) (bn_range w)) keepOk_type (denl_cons den_int denl_nil) opit_range) (fun C => (dena_local (i := 0) (ok_comp ok rfl (loc_cons (by kernel_rfl) loc_nil) (by decide +kernel)) rfl)) (fun C => dents_nil) (fun C => (den_method (den_cell (i := 0) (ok_comp ok rfl (loc_cons (by kernel_rfl) loc_nil) (by decide +kernel)) rfl (by kernel_rfl) (.inl (by kernel_rfl))) (meth_inst (C := 76) (fa := 66) (by kernel_rfl)) (keepOk_ref (a := 66) (by kernel_rfl)) denl_nil ((k_token w).ok.weak (by decide)))))) (den_local (i := 11) ok rfl) op_neG)
      (dens_cons (den_return den_bool)
    dens_nil)
      dens_nil)
    (dens_cons (den_assign (den_call (den_global ok (by kernel_rfl) (gn__law_gone w)) (keepOk_ref (a := 362) (by kernel_rfl)) (denl_cons (den_local (i := 4) ok rfl) (denl_cons (den_cell (i := 0) ok rfl (by kernel_rfl) (.inl (by kernel_rfl))) denl_nil)) ((k_gone w).ok.weak (by decide))) (dena_local (i := 12) ok rfl))
    (dens_cons (den_assign (den_call (den_builtin ok (by kernel_rfl) (gn_list w) (bn_list w)) keepOk_type (denl_cons (den_attr (den_cell (i := 0) ok rfl (by kernel_rfl) (.inl (by kernel_rfl)))) denl_nil) op_list) (dena_local (i := 13) ok rfl))
    (dens_cons (den_if (dent_compare (den_compare (den_call (den_builtin ok (by kernel_rfl) (gn_len w) (bn_len w)) keepOk_builtin (denl_cons (den_local (i := 13) ok rfl) denl_nil) op_len) den_int op_gtI) (den_local (i := 6) ok rfl) op_neG)
      (dens_cons (den_return den_bool)
    dens_nil)
      dens_nil)
    (dens_cons (den_if (dent_compare (den_call (den_builtin ok (by kernel_rfl) (gn_sorted w) (bn_sorted w)) keepOk_builtin (denl_cons (den_local (i := 13) ok rfl) denl_nil) op_sorted) (den_call (den_builtin ok (by kernel_rfl) (gn_sorted w) (bn_sorted w)) keepOk_builtin (denl_cons (den_listcomp (cl := [(Str.ofString "kept", L + 1)]) ⟨by kernel_rfl, by decide +kernel, rfl, by decide +kernel⟩ rfl rfl (denc_one (cl := [(Str.ofString "kept", L + 1)]) (ln := [Str.ofString "one"]) ⟨by kernel_rfl, by decide +kernel, rfl, by decide +kernel⟩ (denit_call (den_builtin ok (by kernel_rfl) (gn_range w) (bn_range w)) keepOk_type (denl_cons den_int denl_nil) opit_range) (fun C => (dena_local (i := 0) (ok_comp ok rfl (loc_cons (by kernel_rfl) loc_nil) (by decide +kernel)) rfl)) (fun C => (dents_one (dent_value (den_binop (den_binop (den_cell (i := 1) (ok_comp ok rfl (loc_cons (by kernel_rfl) loc_nil) (by decide +kernel)) rfl (by kernel_rfl) (.inl (by kernel_rfl))) (den_binop den_int (den_local (i := 0) (ok_comp ok rfl (loc_cons (by kernel_rfl) loc_nil) (by decide +kernel)) rfl) op_powI) op_divI) den_int op_modI)))) (fun C => (den_subscript (den_call (den_global (ok_comp ok rfl (loc_cons (by kernel_rfl) loc_nil) (by decide +kernel)) (by kernel_rfl) (gn__law_names w)) (keepOk_ref (a := 326) (by kernel_rfl)) denl_nil ((k_names w).ok.weak (by decide))) (den_local (i := 0) (ok_comp ok rfl (loc_cons (by kernel_rfl) loc_nil) (by decide +kernel)) rfl))))) denl_nil) op_sorted) op_neG)
      (dens_cons (den_return den_bool)
    dens_nil)
      dens_nil)
    (dens_cons (den_assign (den_call (den_global ok (by kernel_rfl) (gn__law_back w)) (keepOk_ref (a := 367) (by kernel_rfl)) (denl_cons (den_local (i := 12) ok rfl) (denl_cons (den_local (i := 13) ok rfl) denl_nil)) ((k_back w).ok.weak (by decide))) (dena_tuple (denas_cons (dena_local (i := 14) ok rfl) (denas_cons (dena_local (i := 15) ok rfl) denas_nil))))
    (dens_cons (den_if (dent_compare (den_local (i := 15) ok rfl) (den_call (den_global ok (by kernel_rfl) (gn__law_drawn w)) (keepOk_ref (a := 357) (by kernel_rfl)) (denl_cons (den_local (i := 5) ok rfl) (denl_cons (den_cell (i := 1) ok rfl (by kernel_rfl) (.inl (by kernel_rfl))) denl_nil)) ((k_drawn w).ok.weak (by decide))) op_neG)
      (dens_cons (den_return den_bool)
    dens_nil)
      dens_nil)
    (dens_cons (den_expr (den_method (den_local (i := 8) ok rfl) (meth_list F.slot_list_append F.type_list_append) keepOk_builtin (denl_cons (den_local (i := 14) ok rfl) denl_nil) op_append) (by kernel_rfl))
    dens_nil)))))))))))))
    (dens_cons (den_return (den_compare (den_subscript (den_local (i := 8) ok rfl) den_int) (den_subscript (den_local (i := 8) ok rfl) den_int) op_eqG))
    dens_nil)))))))))⟩
theorem x_law (w : World) : DefK (C2 w).K 372 fd372 (defB (at1 P2 23)) [Str.ofString "script"] ln_law cn_law := ⟨⟨⟨_, _, _, rfl⟩, by kernel_rfl, rfl, rfl, rfl, rfl⟩, rfl, fun L => rfl, by decide +kernel, by decide +kernel, by decide +kernel, loc_law, by decide +kernel⟩
theorem r_law (w : World) : FunK (C2 w) 7 (.ref 372) 1 [] (runK (1 + 0) [] [some 0, none, none, none, none, none, none, none, none, none, none, none, none, none, none, none] [none, none] (s_law w).1) := fun_defK (x_law w) (dvs := []) (fun _ _ => .nil) rfl (by decide +kernel) (by decide +kernel) (fun s vs ws h1 h2 X => by
  obtain ⟨v0, rfl⟩ := ln1 h1
  obtain rfl := ln0 h2
  exact BindsTo.of_eq (by kernel_rfl)) (s_law w).2
end Mine
end
section
set_option Elab.async false
set_option maxRecDepth 100000
set_option linter.unusedVariables false
set_option linter.unusedSimpArgs false
namespace Mine
section
variable {α β : Type}
noncomputable def turnA (f : α → α → Bool) : List (Bool × α) × List α → List (Bool × α) × List α
  | (pile, []) => (pile, [])
  | (pile, p :: r) => bif r.any (f p) then (bif r.all (f p) then (pile ++ [(true, p)], r) else (pile, r ++ [p])) else (pile ++ [(false, p)], r)
noncomputable def runA (f : α → α → Bool) : Nat → List (Bool × α) × List α → List (Bool × α) × List α
  | 0, s => s
  | n + 1, s => runA f n (turnA f s)
noncomputable def backA : List (Bool × α) → List α → List (α × α)
  | [], _ => []
  | (m, p) :: r, here => (bif m then here.map fun q => (p, q) else []) ++ backA r (here ++ [p])
noncomputable def mapP (r : α → β) (l : List (Bool × α)) : List (Bool × β) := l.map fun x => (x.1, r x.2)
noncomputable def mapS (r : α → β) (s : List (Bool × α) × List α) : List (Bool × β) × List β := (mapP r s.1, s.2.map r)
theorem turn_map (r : α → β) (f : β → β → Bool) : ∀ s, turnA f (mapS r s) = mapS r (turnA (fun a b => f (r a) (r b)) s)
  | (pile, []) => rfl
  | (pile, p :: l) => by
    have h1 : (l.map r).any (f (r p)) = l.any fun b => f (r p) (r b) := by rw [List.any_map]; rfl
    have h2 : (l.map r).all (f (r p)) = l.all fun b => f (r p) (r b) := by rw [List.all_map]; rfl
    simp only [turnA, mapS, List.map_cons, h1, h2]
    cases l.any fun b => f (r p) (r b) with
    | false => simp [mapP]
    | true => cases l.all fun b => f (r p) (r b) <;> simp [mapP]
theorem run_map (r : α → β) (f : β → β → Bool) : ∀ n s, runA f n (mapS r s) = mapS r (runA (fun a b => f (r a) (r b)) n s)
  | 0, s => rfl
  | n + 1, s => by rw [runA, turn_map, run_map r f n]; rfl
theorem back_map (r : α → β) : ∀ (l : List (Bool × α)) (here : List α), backA (mapP r l) (here.map r) = (backA l here).map fun p => (r p.1, r p.2)
  | [], _ => rfl
  | (m, p) :: l, here => by
    have ih := back_map r l (here ++ [p])
    rw [List.map_append, List.map_singleton] at ih
    show (bif m then (here.map r).map (fun q => (r p, q)) else []) ++ backA (mapP r l) (here.map r ++ [r p]) = _
    rw [ih]
    cases m <;> simp [backA]
theorem turn_perm (f : α → α → Bool) : ∀ s, ((turnA f s).1.map (·.2) ++ (turnA f s).2).Perm (s.1.map (·.2) ++ s.2)
  | (pile, []) => .refl _
  | (pile, p :: r) => by
    simp only [turnA]
    cases r.any (f p) with
    | false => simp
    | true => cases r.all (f p) with
      | true => simp
      | false =>
        simp only [cond_true, cond_false]
        exact List.Perm.append_left _ (List.perm_append_comm (l₁ := r) (l₂ := [p]))
theorem run_perm (f : α → α → Bool) : ∀ n s, ((runA f n s).1.map (·.2) ++ (runA f n s).2).Perm (s.1.map (·.2) ++ s.2)
  | 0, s => .refl _
  | n + 1, s => (run_perm f n _).trans (turn_perm f s)
noncomputable def mixedP (f : α → α → Bool) (S : α → Prop) : Prop := ∀ v, S v → (∃ u, S u ∧ f v u = true) ∧ ∃ u, S u ∧ u ≠ v ∧ f v u = false
theorem turn_keeps {f : α → α → Bool} {S : α → Prop} (hs : mixedP f S) (h0 : ∀ v, f v v = false) : ∀ s, (∀ v, S v → v ∈ s.2) → ∀ v, S v → v ∈ (turnA f s).2
  | (pile, []), h, v, hv => h v hv
  | (pile, p :: r), h, v, hv => by
    simp only [turnA]
    cases ha : r.any (f p) with
    | false =>
      show v ∈ r
      rcases List.mem_cons.mp (h v hv) with e | e
      · subst e
        obtain ⟨⟨u, hu, e1⟩, _⟩ := hs _ hv
        rcases List.mem_cons.mp (h u hu) with e2 | e2
        · subst e2; rw [h0] at e1; cases e1
        · rw [List.any_eq_false] at ha; exact absurd e1 (ha u e2)
      · exact e
    | true => cases hb : r.all (f p) with
      | true =>
        show v ∈ r
        rcases List.mem_cons.mp (h v hv) with e | e
        · subst e
          obtain ⟨_, u, hu, ne, e1⟩ := hs _ hv
          rcases List.mem_cons.mp (h u hu) with e2 | e2
          · exact absurd e2 ne
          · rw [List.all_eq_true] at hb
            rw [hb u e2] at e1; cases e1
        · exact e
      | false =>
        show v ∈ r ++ [p]
        have := h v hv
        simp only [List.mem_cons] at this
        simp only [List.mem_append, List.mem_singleton]
        exact this.symm
theorem run_keeps {f : α → α → Bool} {S : α → Prop} (hs : mixedP f S) (h0 : ∀ v, f v v = false) : ∀ n s, (∀ v, S v → v ∈ s.2) → ∀ v, S v → v ∈ (runA f n s).2
  | 0, s, h => h
  | n + 1, s, h => run_keeps hs h0 n _ (turn_keeps hs h0 s h)
end
noncomputable abbrev V := Fin 5
noncomputable abbrev pts0 : List V := [0, 1, 2, 3, 4]
noncomputable def prs5 : List (V × V) := [(1, 0), (2, 0), (2, 1), (3, 0), (3, 1), (3, 2), (4, 0), (4, 1), (4, 2), (4, 3)]
noncomputable def gL (l : List (List Bool)) (a b : V) : Bool := (l.getD a.1 []).getD b.1 false
noncomputable def rowsB (b0 b1 b2 b3 b4 b5 b6 b7 b8 b9 : Bool) : List (List Bool) := [[false, b0, b1, b3, b6], [b0, false, b2, b4, b7], [b1, b2, false, b5, b8], [b3, b4, b5, false, b9], [b6, b7, b8, b9, false]]
noncomputable def revB (b0 b1 b2 b3 b4 b5 b6 b7 b8 b9 : Bool) : List (List Bool) := rowsB b9 b8 b5 b7 b4 b2 b6 b3 b1 b0
noncomputable def rev5 (a : V) : V := ⟨4 - a.1, by omega⟩
noncomputable def norm5 (p : V × V) : V × V := bif p.1.1.blt p.2.1 then (p.2, p.1) else p
noncomputable def crossB (g : V → V → Bool) : Bool := prs5.any fun p => (pts0.any fun c => g p.1 c && !g p.2 c && c != p.2) && (pts0.any fun d => g p.2 d && !g p.1 d && d != p.1)
noncomputable def beqL : List Bool → List Bool → Bool
  | [], [] => true
  | a :: l, b :: r => (a == b) && beqL l r
  | _, _ => false
noncomputable def inW (W : List V) (v : V) : Bool := W.any fun u => u.1.beq v.1
noncomputable def cnt5 (P : List (V × V)) (g : V → V → Bool) (W : List V) : Bool := ((P.map norm5).isPerm (prs5.filter fun p => g p.1 p.2 && !(inW W p.1 && inW W p.2)))
noncomputable def marksA (s : List (Bool × V) × List V) : List Bool := s.1.map (·.1)
noncomputable def chkS (g : V → V → Bool) (s : List (Bool × V) × List V) (m : List Bool) : Bool :=
  (crossB g == !s.2.isEmpty) && (s.2.all fun v => s.2.any (g v) && s.2.any fun u => !(u.1.beq v.1) && !g v u) && cnt5 (backA s.1.reverse s.2) g s.2 && beqL (marksA s) m
noncomputable def bb (f : Bool → Bool) : Bool := f false && f true
theorem bb_all {f : Bool → Bool} (h : bb f = true) : ∀ b, f b = true := by
  unfold bb at h
  rw [Bool.and_eq_true] at h
  intro b; cases b; exact h.1; exact h.2
noncomputable def chkB (b0 b1 b2 b3 b4 b5 b6 b7 b8 b9 : Bool) : Bool :=
  chkS (gL (rowsB b0 b1 b2 b3 b4 b5 b6 b7 b8 b9)) (runA (gL (rowsB b0 b1 b2 b3 b4 b5 b6 b7 b8 b9)) 15 ([], pts0)) (marksA (runA (gL (revB b0 b1 b2 b3 b4 b5 b6 b7 b8 b9)) 15 ([], pts0)))
end Mine
end
section
set_option Elab.async false
set_option maxRecDepth 100000
set_option linter.unusedVariables false
set_option linter.unusedSimpArgs false
namespace Mine
theorem chk_000 : (bb fun b3 => bb fun b4 => bb fun b5 => bb fun b6 => bb fun b7 => bb fun b8 => bb fun b9 => chkB false false false b3 b4 b5 b6 b7 b8 b9) = true := by decide +kernel
theorem chk_001 : (bb fun b3 => bb fun b4 => bb fun b5 => bb fun b6 => bb fun b7 => bb fun b8 => bb fun b9 => chkB false false true b3 b4 b5 b6 b7 b8 b9) = true := by decide +kernel
theorem chk_010 : (bb fun b3 => bb fun b4 => bb fun b5 => bb fun b6 => bb fun b7 => bb fun b8 => bb fun b9 => chkB false true false b3 b4 b5 b6 b7 b8 b9) = true := by decide +kernel
theorem chk_011 : (bb fun b3 => bb fun b4 => bb fun b5 => bb fun b6 => bb fun b7 => bb fun b8 => bb fun b9 => chkB false true true b3 b4 b5 b6 b7 b8 b9) = true := by decide +kernel
theorem chk_100 : (bb fun b3 => bb fun b4 => bb fun b5 => bb fun b6 => bb fun b7 => bb fun b8 => bb fun b9 => chkB true false false b3 b4 b5 b6 b7 b8 b9) = true := by decide +kernel
theorem chk_101 : (bb fun b3 => bb fun b4 => bb fun b5 => bb fun b6 => bb fun b7 => bb fun b8 => bb fun b9 => chkB true false true b3 b4 b5 b6 b7 b8 b9) = true := by decide +kernel
theorem chk_110 : (bb fun b3 => bb fun b4 => bb fun b5 => bb fun b6 => bb fun b7 => bb fun b8 => bb fun b9 => chkB true true false b3 b4 b5 b6 b7 b8 b9) = true := by decide +kernel
theorem chk_111 : (bb fun b3 => bb fun b4 => bb fun b5 => bb fun b6 => bb fun b7 => bb fun b8 => bb fun b9 => chkB true true true b3 b4 b5 b6 b7 b8 b9) = true := by decide +kernel
theorem chk_any : ∀ b0 b1 b2 b3 b4 b5 b6 b7 b8 b9 : Bool, chkB b0 b1 b2 b3 b4 b5 b6 b7 b8 b9 = true
  | false, false, false, b3, b4, b5, b6, b7, b8, b9 => bb_all (bb_all (bb_all (bb_all (bb_all (bb_all (bb_all chk_000 b3) b4) b5) b6) b7) b8) b9
  | false, false, true, b3, b4, b5, b6, b7, b8, b9 => bb_all (bb_all (bb_all (bb_all (bb_all (bb_all (bb_all chk_001 b3) b4) b5) b6) b7) b8) b9
  | false, true, false, b3, b4, b5, b6, b7, b8, b9 => bb_all (bb_all (bb_all (bb_all (bb_all (bb_all (bb_all chk_010 b3) b4) b5) b6) b7) b8) b9
  | false, true, true, b3, b4, b5, b6, b7, b8, b9 => bb_all (bb_all (bb_all (bb_all (bb_all (bb_all (bb_all chk_011 b3) b4) b5) b6) b7) b8) b9
  | true, false, false, b3, b4, b5, b6, b7, b8, b9 => bb_all (bb_all (bb_all (bb_all (bb_all (bb_all (bb_all chk_100 b3) b4) b5) b6) b7) b8) b9
  | true, false, true, b3, b4, b5, b6, b7, b8, b9 => bb_all (bb_all (bb_all (bb_all (bb_all (bb_all (bb_all chk_101 b3) b4) b5) b6) b7) b8) b9
  | true, true, false, b3, b4, b5, b6, b7, b8, b9 => bb_all (bb_all (bb_all (bb_all (bb_all (bb_all (bb_all chk_110 b3) b4) b5) b6) b7) b8) b9
  | true, true, true, b3, b4, b5, b6, b7, b8, b9 => bb_all (bb_all (bb_all (bb_all (bb_all (bb_all (bb_all chk_111 b3) b4) b5) b6) b7) b8) b9
theorem fin5 {P : V → Prop} (h0 : P 0) (h1 : P 1) (h2 : P 2) (h3 : P 3) (h4 : P 4) : ∀ v, P v
  | ⟨0, _⟩ => h0
  | ⟨1, _⟩ => h1
  | ⟨2, _⟩ => h2
  | ⟨3, _⟩ => h3
  | ⟨4, _⟩ => h4
section
variable {g : V → V → Bool}
theorem g_rows (hs : ∀ a b, g a b = g b a) (h0 : ∀ a, g a a = false) : gL (rowsB (g 1 0) (g 2 0) (g 2 1) (g 3 0) (g 3 1) (g 3 2) (g 4 0) (g 4 1) (g 4 2) (g 4 3)) = g := by
  funext a b
  revert a b
  exact fin5 (fin5 (h0 _).symm (hs _ _) (hs _ _) (hs _ _) (hs _ _)) (fin5 rfl (h0 _).symm (hs _ _) (hs _ _) (hs _ _)) (fin5 rfl rfl (h0 _).symm (hs _ _) (hs _ _)) (fin5 rfl rfl rfl (h0 _).symm (hs _ _)) (fin5 rfl rfl rfl rfl (h0 _).symm)
theorem g_rev (hs : ∀ a b, g a b = g b a) (h0 : ∀ a, g a a = false) : gL (revB (g 1 0) (g 2 0) (g 2 1) (g 3 0) (g 3 1) (g 3 2) (g 4 0) (g 4 1) (g 4 2) (g 4 3)) = fun a b => g (rev5 a) (rev5 b) := by
  funext a b
  revert a b
  exact fin5 (fin5 (h0 _).symm rfl rfl rfl rfl) (fin5 (hs _ _) (h0 _).symm rfl rfl rfl) (fin5 (hs _ _) (hs _ _) (h0 _).symm rfl rfl) (fin5 (hs _ _) (hs _ _) (hs _ _) (h0 _).symm rfl) (fin5 (hs _ _) (hs _ _) (hs _ _) (hs _ _) (h0 _).symm)
theorem chk_g (hs : ∀ a b, g a b = g b a) (h0 : ∀ a, g a a = false) : chkS g (runA g 15 ([], pts0)) (marksA (runA (fun a b => g (rev5 a) (rev5 b)) 15 ([], pts0))) = true := by
  have h := chk_any (g 1 0) (g 2 0) (g 2 1) (g 3 0) (g 3 1) (g 3 2) (g 4 0) (g 4 1) (g 4 2) (g 4 3)
  unfold chkB at h
  rwa [g_rows hs h0, g_rev hs h0] at h
end
theorem beqL_eq : ∀ {a b : List Bool}, beqL a b = true → a = b
  | [], [], _ => rfl
  | a :: l, b :: r, h => by
    simp only [beqL, Bool.and_eq_true, beq_iff_eq] at h
    rw [h.1, beqL_eq h.2]
  | [], _ :: _, h => by cases h
  | _ :: _, [], h => by cases h
theorem inW_iff {W : List V} {v : V} : inW W v = true ↔ v ∈ W := by
  unfold inW
  rw [List.any_eq_true]
  constructor
  · rintro ⟨u, h, e⟩
    have : u.1 = v.1 := Nat.eq_of_beq_eq_true e
    have : u = v := Fin.ext this
    exact this ▸ h
  · intro h
    exact ⟨v, h, Nat.beq_refl _⟩
noncomputable def ndB : List V → Bool
  | [] => true
  | a :: l => !inW l a && ndB l
theorem ndB_of : ∀ {l : List V}, l.Nodup → ndB l = true
  | [], _ => rfl
  | a :: l, h => by
    have h := List.nodup_cons.mp h
    show (!inW l a && ndB l) = true
    rw [ndB_of h.2, Bool.and_true, Bool.not_eq_true']
    cases e : inW l a with
    | false => rfl
    | true => exact absurd (inW_iff.mp e) h.1
noncomputable def bv (f : V → Bool) : Bool := pts0.all f
theorem bv_all {f : V → Bool} (h : bv f = true) : ∀ v, f v = true := by
  unfold bv at h
  rw [List.all_eq_true] at h
  exact fun v => h v (by revert v; decide)
noncomputable def prsOf (a b c d e : V) : List (V × V) := [(b, a), (c, a), (c, b), (d, a), (d, b), (d, c), (e, a), (e, b), (e, c), (e, d)]
theorem perm_all : (bv fun a => bv fun b => inW [b] a || bv fun c => !ndB [a, b, c] || bv fun d => !ndB [a, b, c, d] || bv fun e => !ndB [a, b, c, d, e] || (pts0.all (inW [a, b, c, d, e]) && ((prsOf a b c d e).map norm5).isPerm prs5)) = true := by decide +kernel
theorem perm_any {a b c d e : V} (h : [a, b, c, d, e].Nodup) : (∀ v, v ∈ [a, b, c, d, e]) ∧ ((prsOf a b c d e).map norm5).Perm prs5 := by
  have h5 := ndB_of h
  have h4 : ndB [a, b, c, d] = true := ndB_of (List.Nodup.sublist (by simp) h)
  have h3 : ndB [a, b, c] = true := ndB_of (List.Nodup.sublist (by simp) h)
  have h2 : inW [b] a = false := by
    cases e : inW [b] a with
    | false => rfl
    | true =>
      have := inW_iff.mp e
      simp only [List.mem_singleton] at this
      subst this
      simp at h
  have k := bv_all (bv_all perm_all a) b
  simp only [h2, Bool.false_or] at k
  have k := bv_all k c
  simp only [h3, Bool.not_true, Bool.false_or] at k
  have k := bv_all k d
  simp only [h4, Bool.not_true, Bool.false_or] at k
  have k := bv_all k e
  simp only [h5, Bool.not_true, Bool.false_or, Bool.and_eq_true] at k
  refine ⟨fun v => ?_, List.isPerm_iff.mp k.2⟩
  rw [List.all_eq_true] at k
  exact inW_iff.mp (k.1 v (by revert v; decide))
noncomputable def crossQ (g : V → V → Bool) : Prop := ∃ a b, a ≠ b ∧ (∃ c, g a c = true ∧ g b c = false ∧ c ≠ b) ∧ ∃ d, g b d = true ∧ g a d = false ∧ d ≠ a
theorem mem_pts (v : V) : v ∈ pts0 := by revert v; decide
theorem crossB_iff {g : V → V → Bool} : crossB g = true ↔ crossQ g := by
  unfold crossB
  constructor
  · intro h
    rw [List.any_eq_true] at h
    obtain ⟨p, hp, h⟩ := h
    rw [Bool.and_eq_true, List.any_eq_true, List.any_eq_true] at h
    obtain ⟨⟨c, _, h1⟩, ⟨d, _, h2⟩⟩ := h
    simp only [Bool.and_eq_true, Bool.not_eq_true', bne_iff_ne] at h1 h2
    have : ∀ p ∈ prs5, p.1 ≠ p.2 := by decide
    exact ⟨p.1, p.2, this p hp, ⟨c, h1.1.1, h1.1.2, h1.2⟩, ⟨d, h2.1.1, h2.1.2, h2.2⟩⟩
  · rintro ⟨a, b, hab, ⟨c, h1, h2, h3⟩, ⟨d, h4, h5, h6⟩⟩
    have : ∀ a b : V, a ≠ b → (a, b) ∈ prs5 ∨ (b, a) ∈ prs5 := by decide
    rw [List.any_eq_true]
    rcases this a b hab with h | h
    · refine ⟨_, h, ?_⟩
      rw [Bool.and_eq_true, List.any_eq_true, List.any_eq_true]
      exact ⟨⟨c, mem_pts _, by simp [h1, h2, h3]⟩, ⟨d, mem_pts _, by simp [h4, h5, h6]⟩⟩
    · refine ⟨_, h, ?_⟩
      rw [Bool.and_eq_true, List.any_eq_true, List.any_eq_true]
      exact ⟨⟨d, mem_pts _, by simp [h4, h5, h6]⟩, ⟨c, mem_pts _, by simp [h1, h2, h3]⟩⟩
theorem norm_swap : ∀ a b : V, norm5 (b, a) = norm5 (a, b) := by decide
theorem norm_or (p : V × V) : norm5 p = p ∨ norm5 p = (p.2, p.1) := by
  unfold norm5
  cases p.1.1.blt p.2.1 <;> simp
section
variable {f : V → V → Bool} {row : V → V}
theorem row_nodup (inj : ∀ a b, row a = row b → a = b) : (pts0.map row).Nodup := by
  have h : pts0.Nodup := by decide
  unfold List.Nodup at h ⊢
  rw [List.pairwise_map]
  exact h.imp fun ne e => ne (inj _ _ e)
theorem row_surj (inj : ∀ a b, row a = row b → a = b) (v : V) : ∃ a, row a = v := by
  have := (perm_any (row_nodup inj)).1 v
  have h2 : v ∈ pts0.map row := this
  rw [List.mem_map] at h2
  obtain ⟨a, _, h⟩ := h2
  exact ⟨a, h⟩
theorem plain (hs : ∀ a b, f a b = f b a) (h0 : ∀ a, f a a = false) (inj : ∀ a b, row a = row b → a = b) {S : List (Bool × V) × List V} (hS : S = runA f 15 ([], pts0.map row)) :
    crossB f = !S.2.isEmpty ∧ (∀ v, v ∈ S.2 ↔ ∃ C : V → Prop, mixedP f C ∧ C v) ∧
    ((backA S.1.reverse S.2).map norm5).Perm (prs5.filter fun p => f p.1 p.2 && !(inW S.2 p.1 && inW S.2 p.2)) ∧
    marksA S = marksA (runA f 15 ([], (pts0.map row).reverse)) ∧ S.2.Nodup := by
  obtain ⟨g, hg⟩ : ∃ g : V → V → Bool, g = fun a b => f (row a) (row b) := ⟨_, rfl⟩
  obtain ⟨T, hT⟩ : ∃ T, T = runA g 15 ([], pts0) := ⟨_, rfl⟩
  have hgs : ∀ a b, g a b = g b a := fun a b => by rw [hg]; exact hs _ _
  have hg0 : ∀ a, g a a = false := fun a => by rw [hg]; exact h0 _
  have hST : S = mapS row T := by
    rw [hS, hT, hg, ← run_map]; rfl
  have hc := chk_g hgs hg0
  rw [← hT] at hc
  unfold chkS at hc
  rw [Bool.and_eq_true, Bool.and_eq_true, Bool.and_eq_true] at hc
  obtain ⟨⟨⟨c1, c2⟩, c3⟩, c4⟩ := hc
  have hS2 : S.2 = T.2.map row := by rw [hST]; rfl
  have hm : ∀ v, v ∈ S.2 ↔ ∃ a, a ∈ T.2 ∧ row a = v := fun v => by rw [hS2, List.mem_map]
  have hW : ∀ a, inW S.2 (row a) = inW T.2 a := fun a => by
    rw [Bool.eq_iff_iff, inW_iff, inW_iff, hm]
    exact ⟨fun ⟨b, hb, e⟩ => inj _ _ e ▸ hb, fun h => ⟨a, h, rfl⟩⟩
  refine ⟨?_, fun v => ⟨fun h => ⟨fun v => v ∈ S.2, ?_, h⟩, ?_⟩, ?_, ?_, ?_⟩
  · have hcr : crossB f = crossB g := by
      rw [Bool.eq_iff_iff, crossB_iff, crossB_iff]
      constructor
      · rintro ⟨a, b, hab, ⟨c, h1, h2, h3⟩, ⟨d, h4, h5, h6⟩⟩
        obtain ⟨a, rfl⟩ := row_surj inj a
        obtain ⟨b, rfl⟩ := row_surj inj b
        obtain ⟨c, rfl⟩ := row_surj inj c
        obtain ⟨d, rfl⟩ := row_surj inj d
        subst hg
        exact ⟨a, b, fun e => hab (e ▸ rfl), ⟨c, h1, h2, fun e => h3 (e ▸ rfl)⟩, ⟨d, h4, h5, fun e => h6 (e ▸ rfl)⟩⟩
      · rintro ⟨a, b, hab, ⟨c, h1, h2, h3⟩, ⟨d, h4, h5, h6⟩⟩
        subst hg
        exact ⟨row a, row b, fun e => hab (inj _ _ e), ⟨row c, h1, h2, fun e => h3 (inj _ _ e)⟩, ⟨row d, h4, h5, fun e => h6 (inj _ _ e)⟩⟩
    rw [hcr, beq_iff_eq.mp c1, hS2]
    simp
  · rw [List.all_eq_true] at c2
    intro v hv
    obtain ⟨a, ha, rfl⟩ := (hm v).mp hv
    have := c2 a ha
    rw [Bool.and_eq_true, List.any_eq_true, List.any_eq_true] at this
    obtain ⟨⟨u, hu, e1⟩, ⟨x, hx, e2⟩⟩ := this
    subst hg
    refine ⟨⟨row u, (hm _).mpr ⟨u, hu, rfl⟩, e1⟩, ⟨row x, (hm _).mpr ⟨x, hx, rfl⟩, fun e => ?_, ?_⟩⟩
    · have := inj _ _ e
      subst this
      rw [Nat.beq_refl] at e2
      cases e2
    · rw [Bool.and_eq_true, Bool.not_eq_true', Bool.not_eq_true'] at e2
      exact e2.2
  · rintro ⟨C, hC, hv⟩
    rw [hS]
    refine run_keeps hC h0 15 _ (fun u _ => ?_) v hv
    obtain ⟨a, rfl⟩ := row_surj inj u
    exact List.mem_map_of_mem (mem_pts a)
  · have hb : backA S.1.reverse S.2 = (backA T.1.reverse T.2).map fun p => (row p.1, row p.2) := by
      rw [← back_map, hST]
      show backA (mapP row T.1).reverse _ = _
      unfold mapP
      rw [List.map_reverse]; rfl
    obtain ⟨φ, hφ⟩ : ∃ φ : V × V → Bool, φ = fun p => f p.1 p.2 && !(inW S.2 p.1 && inW S.2 p.2) := ⟨_, rfl⟩
    have hφs : ∀ q, φ (norm5 q) = φ q := fun q => by
      rcases norm_or q with h | h <;> rw [h]
      subst hφ
      show (f q.2 q.1 && !(inW S.2 q.2 && inW S.2 q.1)) = (f q.1 q.2 && !(inW S.2 q.1 && inW S.2 q.2))
      rw [hs, Bool.and_comm (inW S.2 q.2)]
    have hNR : ∀ p : V × V, norm5 (row p.1, row p.2) = norm5 (row (norm5 p).1, row (norm5 p).2) := fun p => by
      rcases norm_or p with h | h <;> rw [h]
      exact norm_swap _ _
    have hψ : (fun p : V × V => g p.1 p.2 && !(inW T.2 p.1 && inW T.2 p.2)) = φ ∘ fun p => norm5 (row p.1, row p.2) := by
      funext p
      show _ = φ (norm5 _)
      rw [hφs]
      subst hφ hg
      show _ = (f (row p.1) (row p.2) && !(inW S.2 (row p.1) && inW S.2 (row p.2)))
      rw [hW, hW]
    have c3 := List.isPerm_iff.mp c3
    rw [hψ] at c3
    have c3 := c3.map fun p : V × V => norm5 (row p.1, row p.2)
    rw [← List.filter_map] at c3
    have hp := (perm_any (row_nodup inj)).2
    have hp : (prs5.map fun p => norm5 (row p.1, row p.2)).Perm prs5 := hp
    rw [hb, List.map_map, ← hφ]
    have e : (backA T.1.reverse T.2).map (norm5 ∘ fun p => (row p.1, row p.2)) = ((backA T.1.reverse T.2).map norm5).map fun p => norm5 (row p.1, row p.2) := by
      rw [List.map_map]
      exact List.map_congr_left fun p _ => hNR p
    rw [e]
    exact c3.trans (hp.filter _)
  · have h2 : (pts0.map row).reverse = pts0.map fun a => row (rev5 a) := rfl
    have h3 := run_map (fun a => row (rev5 a)) f 15 ([], pts0)
    have h4 : mapS (fun a => row (rev5 a)) (([], pts0) : List (Bool × V) × List V) = ([], pts0.map fun a => row (rev5 a)) := rfl
    rw [h4] at h3
    rw [h2, h3, hST]
    have hk : ∀ (r : V → V) s, marksA (mapS r s) = marksA s := fun r s => by
      unfold marksA mapS mapP
      simp
    rw [hk, hk, beqL_eq c4, hg]
  · have hp := run_perm f 15 ([], pts0.map row)
    rw [← hS] at hp
    have : (S.1.map (·.2) ++ S.2).Nodup := hp.nodup_iff.mpr (row_nodup inj)
    exact (List.nodup_append.mp this).2.1
end
end Mine
end
section
set_option Elab.async false
set_option maxRecDepth 100000
set_option linter.unusedVariables false
set_option linter.unusedSimpArgs false
namespace Mine
open PySem PySem.Calls PySem.W PyProof.Rows
noncomputable def adjF (t : List Nat) (a b : V) : Bool := (t.getD a.1 0).testBit b.1
noncomputable def nbrs (bits v : Nat) : List Nat := (drawnP bits).flatMap fun p => (bif p.1.beq v then [p.2] else []) ++ (bif p.2.beq v then [p.1] else [])
noncomputable def inN (l : List Nat) (v : Nat) : Bool := l.any fun u => u.beq v
noncomputable def ndN : List Nat → Bool
  | [] => true
  | a :: l => !inN l a && ndN l
noncomputable def chkT2 (t : List Nat) (c : Bool) (nb : List (List Nat)) : Bool :=
  t.length.beq 5 && t.all (·.blt 32) && (pts0.all fun a => !adjF t a a && pts0.all fun b => (adjF t a b == adjF t b a) && (adjF t a b == inN (nb.getD a.1 []) b.1)) && nb.all ndN && nb.all (fun l => l.all (·.blt 5)) && (c == crossB (adjF t))
noncomputable def chkT (bits : Nat) : Bool := chkT2 (tiedL bits) (crossedN (tiedL bits)) [nbrs bits 0, nbrs bits 1, nbrs bits 2, nbrs bits 3, nbrs bits 4]
theorem chkT_0 : (List.range 128).all (fun b => chkT (b + 0)) = true := by decide +kernel
theorem chkT_1 : (List.range 128).all (fun b => chkT (b + 128)) = true := by decide +kernel
theorem chkT_2 : (List.range 128).all (fun b => chkT (b + 256)) = true := by decide +kernel
theorem chkT_3 : (List.range 128).all (fun b => chkT (b + 384)) = true := by decide +kernel
theorem chkT_4 : (List.range 128).all (fun b => chkT (b + 512)) = true := by decide +kernel
theorem chkT_5 : (List.range 128).all (fun b => chkT (b + 640)) = true := by decide +kernel
theorem chkT_6 : (List.range 128).all (fun b => chkT (b + 768)) = true := by decide +kernel
theorem chkT_7 : (List.range 128).all (fun b => chkT (b + 896)) = true := by decide +kernel
theorem chkT_any {b : Nat} (h : b < 1024) : chkT b = true := by
  have k : ∀ m, (List.range 128).all (fun b => chkT (b + m)) = true → m ≤ b → b < m + 128 → chkT b = true := fun m e h1 h2 => by
    have := List.all_eq_true.mp e (b - m) (List.mem_range.mpr (by omega))
    rwa [Nat.sub_add_cancel h1] at this
  rcases Nat.lt_or_ge b 128 with h0 | h0
  · exact k 0 chkT_0 (by omega) (by omega)
  rcases Nat.lt_or_ge b 256 with h1 | h1
  · exact k 128 chkT_1 h0 (by omega)
  rcases Nat.lt_or_ge b 384 with h2 | h2
  · exact k 256 chkT_2 h1 (by omega)
  rcases Nat.lt_or_ge b 512 with h3 | h3
  · exact k 384 chkT_3 h2 (by omega)
  rcases Nat.lt_or_ge b 640 with h4 | h4
  · exact k 512 chkT_4 h3 (by omega)
  rcases Nat.lt_or_ge b 768 with h5 | h5
  · exact k 640 chkT_5 h4 (by omega)
  rcases Nat.lt_or_ge b 896 with h6 | h6
  · exact k 768 chkT_6 h5 (by omega)
  · exact k 896 chkT_7 h6 (by omega)
end Mine
end
section
set_option Elab.async false
set_option maxRecDepth 100000
set_option linter.unusedVariables false
set_option linter.unusedSimpArgs false
namespace Mine
open PySem PySem.Calls PySem.W PyProof.Rows
structure Graph (bits : Nat) : Prop where
  len : (tiedL bits).length = 5
  lt : ∀ x ∈ tiedL bits, x < 32
  irr : ∀ a, adjF (tiedL bits) a a = false
  sym : ∀ a b, adjF (tiedL bits) a b = adjF (tiedL bits) b a
  nb : ∀ (a b : V), b.1 ∈ nbrs bits a.1 ↔ adjF (tiedL bits) a b = true
  nd : ∀ a : V, (nbrs bits a.1).Nodup
  n5 : ∀ a : V, ∀ x ∈ nbrs bits a.1, x < 5
  cr : crossedN (tiedL bits) = crossB (adjF (tiedL bits))
theorem inN_iff {l : List Nat} {v : Nat} : inN l v = true ↔ v ∈ l := by
  unfold inN
  rw [List.any_eq_true]
  constructor
  · rintro ⟨u, h, e⟩
    exact Nat.eq_of_beq_eq_true e ▸ h
  · intro h
    exact ⟨v, h, Nat.beq_refl _⟩
theorem ndN_nodup : ∀ {l : List Nat}, ndN l = true → l.Nodup
  | [], _ => .nil
  | a :: l, h => by
    simp only [ndN, Bool.and_eq_true, Bool.not_eq_true'] at h
    refine List.nodup_cons.mpr ⟨fun m => ?_, ndN_nodup h.2⟩
    rw [inN_iff.mpr m] at h
    cases h.1
theorem graph {bits : Nat} (hb : bits < 1024) : Graph bits := by
  have h := chkT_any hb
  unfold chkT chkT2 at h
  simp only [Bool.and_eq_true] at h
  obtain ⟨⟨⟨⟨⟨h1, h2⟩, h3⟩, h4⟩, h5⟩, h6⟩ := h
  rw [List.all_eq_true] at h2 h3 h4 h5
  have hv : ∀ a : V, nbrs bits a.1 ∈ [nbrs bits 0, nbrs bits 1, nbrs bits 2, nbrs bits 3, nbrs bits 4] ∧ [nbrs bits 0, nbrs bits 1, nbrs bits 2, nbrs bits 3, nbrs bits 4].getD a.1 [] = nbrs bits a.1 :=
    fin5 ⟨.head _, rfl⟩ ⟨.tail _ (.head _), rfl⟩ ⟨.tail _ (.tail _ (.head _)), rfl⟩ ⟨.tail _ (.tail _ (.tail _ (.head _))), rfl⟩ ⟨.tail _ (.tail _ (.tail _ (.tail _ (.head _)))), rfl⟩
  have k : ∀ a b, (adjF (tiedL bits) a a = false) ∧ (adjF (tiedL bits) a b = adjF (tiedL bits) b a) ∧ adjF (tiedL bits) a b = inN (nbrs bits a.1) b.1 := fun a b => by
    have := h3 a (mem_pts a)
    rw [Bool.and_eq_true, List.all_eq_true] at this
    have h7 := this.2 b (mem_pts b)
    rw [Bool.and_eq_true, beq_iff_eq, beq_iff_eq, (hv a).2] at h7
    refine ⟨?_, h7⟩
    simpa using this.1
  exact ⟨Nat.eq_of_beq_eq_true h1, fun x m => by have := h2 x m; simpa [Nat.blt_eq] using this, fun a => (k a a).1, fun a b => (k a b).2.1, fun a b => by rw [(k a b).2.2, inN_iff], fun a => ndN_nodup (h4 _ (hv a).1), fun a x m => by
    have := h5 _ (hv a).1
    rw [List.all_eq_true] at this
    have := this x m
    simpa [Nat.blt_eq] using this, beq_iff_eq.mp h6⟩
theorem order_fold : ∀ (l : List Nat) (o : List Nat) (n : Nat), ((l.foldl (fun (s : List Nat × Nat) place => (s.1.take (s.2 % (place + 1)) ++ [place] ++ s.1.drop (s.2 % (place + 1)), s.2 / (place + 1))) (o, n)).1).Perm (l ++ o)
  | [], o, n => .refl _
  | x :: l, o, n => by
    refine (order_fold l _ _).trans ?_
    refine (List.Perm.append_left l (?_ : List.Perm _ (x :: o))).trans List.perm_middle
    rw [List.append_assoc, List.singleton_append]
    refine List.perm_middle.trans ?_
    rw [List.take_append_drop]
theorem order_perm (n : Nat) : (orderN n).Perm [0, 1, 2, 3, 4] := order_fold [0, 1, 2, 3, 4] [] n
theorem row_of {l : List Nat} (h : l.Perm [0, 1, 2, 3, 4]) : ∃ row : V → V, (∀ a b, row a = row b → a = b) ∧ l = (pts0.map row).map (·.1) := by
  have hl : l.length = 5 := h.length_eq
  have hn : l.Nodup := h.nodup_iff.mpr (by decide)
  have h5 : ∀ x ∈ l, x < 5 := fun x m => by
    have k : ∀ x ∈ [0, 1, 2, 3, 4], x < 5 := by decide
    exact k x (h.mem_iff.mp m)
  refine ⟨fun v => ⟨l[v.1]'(by rw [hl]; exact v.2), h5 _ (List.getElem_mem _)⟩, fun a b e => Fin.ext ((List.getElem_inj hn).mp (congrArg Fin.val e)), ?_⟩
  obtain ⟨a, t, rfl⟩ : ∃ a t, l = a :: t := by
    cases l with
    | nil => cases hl
    | cons a t => exact ⟨a, t, rfl⟩
  obtain ⟨b, c, d, e, rfl⟩ := ln4 (Nat.succ.inj hl)
  rfl
theorem kept_fold (tied : List Nat) (v : Nat) : ∀ (l : List Nat) (k : Nat), (l.foldl (fun k choice => if mixed tied choice then k ||| choice else k) k).testBit v = (k.testBit v || l.any fun c => mixed tied c && c.testBit v)
  | [], k => by simp
  | c :: l, k => by
    rw [List.foldl_cons, kept_fold tied v l, List.any_cons]
    cases mixed tied c with
    | false => simp
    | true => simp [Nat.testBit_or, Bool.or_assoc]
theorem kept_lt (tied : List Nat) : keptN tied < 32 := by
  have : ∀ (l : List Nat) (k : Nat), (∀ x ∈ l, x < 32) → k < 32 → l.foldl (fun k choice => if mixed tied choice then k ||| choice else k) k < 32 := by
    intro l
    induction l with
    | nil => intro k _ h; exact h
    | cons c l ih =>
      intro k hl hk
      rw [List.foldl_cons]
      refine ih _ (fun x m => hl x (.tail _ m)) ?_
      split
      · exact Nat.or_lt_two_pow (n := 5) hk (hl c (.head _))
      · exact hk
  exact this _ _ (fun x m => List.mem_range.mp m) (by omega)
noncomputable def bitsB (t c : Nat) (v : V) : Bool := (t.testBit v.1 || !c.testBit v.1) || ((((t &&& c) != 0) == pts0.any fun u => c.testBit u.1 && t.testBit u.1) && (((t &&& c) != c - 2 ^ v.1) == pts0.any fun u => c.testBit u.1 && !(u.1.beq v.1) && !t.testBit u.1))
theorem bits_all : ((List.range 32).all fun t => (List.range 32).all fun c => pts0.all (bitsB t c)) = true := by decide +kernel
theorem bits_any {t c : Nat} (ht : t < 32) (hc : c < 32) {v : V} (h1 : t.testBit v.1 = false) (h2 : c.testBit v.1 = true) : (((t &&& c) != 0) = true ↔ ∃ u : V, c.testBit u.1 = true ∧ t.testBit u.1 = true) ∧ (((t &&& c) != c - 2 ^ v.1) = true ↔ ∃ u : V, c.testBit u.1 = true ∧ u ≠ v ∧ t.testBit u.1 = false) := by
  have h := List.all_eq_true.mp (List.all_eq_true.mp (List.all_eq_true.mp bits_all t (List.mem_range.mpr ht)) c (List.mem_range.mpr hc)) v (mem_pts v)
  unfold bitsB at h
  rw [h1, h2, Bool.not_true, Bool.or_false, Bool.false_or, Bool.and_eq_true, beq_iff_eq, beq_iff_eq] at h
  rw [h.1, h.2, List.any_eq_true, List.any_eq_true]
  constructor
  · exact ⟨fun ⟨u, _, e⟩ => ⟨u, by simpa using e⟩, fun ⟨u, e1, e2⟩ => ⟨u, mem_pts u, by simp [e1, e2]⟩⟩
  · refine ⟨fun ⟨u, _, e⟩ => ⟨u, ?_⟩, fun ⟨u, e1, e2, e3⟩ => ⟨u, mem_pts u, ?_⟩⟩
    · simp only [Bool.and_eq_true, Bool.not_eq_true'] at e
      refine ⟨e.1.1, ?_, e.2⟩
      rintro rfl
      rw [Nat.beq_refl] at e
      cases e.1.2
    · have : u.1.beq v.1 = false := by
        cases q : u.1.beq v.1 with
        | false => rfl
        | true => exact absurd (Fin.ext (Nat.eq_of_beq_eq_true q)) e2
      simp [e1, e3, this]
noncomputable def encB (b0 b1 b2 b3 b4 : Bool) : Nat := b0.toNat + 2 * b1.toNat + 4 * b2.toNat + 8 * b3.toNat + 16 * b4.toNat
theorem enc_ok : ∀ b0 b1 b2 b3 b4 : Bool, encB b0 b1 b2 b3 b4 < 32 ∧ (encB b0 b1 b2 b3 b4).testBit 0 = b0 ∧ (encB b0 b1 b2 b3 b4).testBit 1 = b1 ∧ (encB b0 b1 b2 b3 b4).testBit 2 = b2 ∧ (encB b0 b1 b2 b3 b4).testBit 3 = b3 ∧ (encB b0 b1 b2 b3 b4).testBit 4 = b4 := by decide +kernel
theorem choice_of (C : V → Prop) : ∃ c, c < 32 ∧ ∀ v : V, c.testBit v.1 = true ↔ C v := by
  classical
  obtain ⟨h, h0, h1, h2, h3, h4⟩ := enc_ok (decide (C 0)) (decide (C 1)) (decide (C 2)) (decide (C 3)) (decide (C 4))
  exact ⟨_, h, fin5 (by rw [show ((0 : V).1) = 0 from rfl, h0, decide_eq_true_iff]) (by rw [show ((1 : V).1) = 1 from rfl, h1, decide_eq_true_iff]) (by rw [show ((2 : V).1) = 2 from rfl, h2, decide_eq_true_iff]) (by rw [show ((3 : V).1) = 3 from rfl, h3, decide_eq_true_iff]) (by rw [show ((4 : V).1) = 4 from rfl, h4, decide_eq_true_iff])⟩
theorem tied_lt {bits : Nat} (G : Graph bits) (v : V) : (tiedL bits).getD v.1 0 < 32 := by
  have hv : v.1 < (tiedL bits).length := by rw [G.len]; exact v.2
  rw [List.getD_eq_getElem?_getD, List.getElem?_eq_getElem hv]
  exact G.lt _ (List.getElem_mem hv)
theorem mixed_iff {bits : Nat} (G : Graph bits) {c : Nat} (hc : c < 32) : mixed (tiedL bits) c = true ↔ mixedP (adjF (tiedL bits)) fun v => c.testBit v.1 = true := by
  unfold mixed
  rw [List.all_eq_true]
  constructor
  · intro h v hv
    have h := h v.1 (List.mem_range.mpr v.2)
    rw [hv, Bool.not_true, Bool.false_or, Bool.and_eq_true] at h
    have hb := bits_any (tied_lt G v) hc (G.irr v) hv
    exact ⟨hb.1.mp h.1, hb.2.mp h.2⟩
  · intro h x hx
    obtain ⟨v, rfl⟩ : ∃ v : V, v.1 = x := ⟨⟨x, List.mem_range.mp hx⟩, rfl⟩
    cases hv : c.testBit v.1 with
    | false => rfl
    | true =>
      have hb := bits_any (tied_lt G v) hc (G.irr v) hv
      have h := h v hv
      rw [Bool.not_true, Bool.false_or, Bool.and_eq_true]
      exact ⟨hb.1.mpr h.1, hb.2.mpr h.2⟩
theorem kept_iff {bits : Nat} (G : Graph bits) (v : V) : (keptN (tiedL bits)).testBit v.1 = true ↔ ∃ C : V → Prop, mixedP (adjF (tiedL bits)) C ∧ C v := by
  unfold keptN
  rw [kept_fold, Nat.zero_testBit, Bool.false_or, List.any_eq_true]
  constructor
  · rintro ⟨c, hc, h⟩
    rw [Bool.and_eq_true] at h
    exact ⟨_, (mixed_iff G (List.mem_range.mp hc)).mp h.1, h.2⟩
  · rintro ⟨C, hC, hv⟩
    obtain ⟨c, hc, h⟩ := choice_of C
    have e : C = fun v => c.testBit v.1 = true := funext fun v => propext (h v).symm
    refine ⟨c, List.mem_range.mpr hc, ?_⟩
    rw [Bool.and_eq_true]
    refine ⟨(mixed_iff G hc).mpr (e ▸ hC), (h v).mpr hv⟩
theorem sortS_of {a b : List Str} (h : a.Perm b) : sortS a = sortS b := sorted_unique (sortS_sorted a) (sortS_sorted b) ((sortS_perm a).trans (h.trans (sortS_perm b).symm))
theorem pairS_norm : ∀ p : V × V, pairS (norm5 p).1.1 (norm5 p).2.1 = pairS p.1.1 p.2.1 := by
  have h : ∀ a b : V, sortS [nm (norm5 (a, b)).1.1, nm (norm5 (a, b)).2.1] = sortS [nm a.1, nm b.1] := fun a b => by
    rcases norm_or (a, b) with h | h <;> rw [h]
    exact sortS_of (.swap _ _ _)
  rintro ⟨a, b⟩
  unfold pairS
  rw [h]
structure Asked (bits : Nat) (S : List (Bool × V) × List V) : Prop where
  cr : crossedN (tiedL bits) = !S.2.isEmpty
  nd : S.2.Nodup
  wait : sortS (S.2.map fun v => nm v.1) = sortS (((List.range 5).filter (keptN (tiedL bits)).testBit).map nm)
  drawn : sortS ((backA S.1.reverse S.2).map fun p => pairS p.1.1 p.2.1) = drawnN (tiedL bits) (keptN (tiedL bits))
theorem asked {bits : Nat} (hb : bits < 1024) {row : V → V} (inj : ∀ a b, row a = row b → a = b) {S : List (Bool × V) × List V} (hS : S = runA (adjF (tiedL bits)) 15 ([], pts0.map row)) :
    Asked bits S ∧ marksA S = marksA (runA (adjF (tiedL bits)) 15 ([], (pts0.map row).reverse)) := by
  have G := graph hb
  obtain ⟨h1, h2, h3, h4, h5⟩ := plain G.sym G.irr inj hS
  have hk : ∀ v : V, (keptN (tiedL bits)).testBit v.1 = inW S.2 v := fun v => by
    rw [Bool.eq_iff_iff, kept_iff G, ← h2, inW_iff]
  refine ⟨⟨G.cr.trans h1, h5, ?_, ?_⟩, h4⟩
  · refine sortS_of ?_
    have : (List.range 5).filter (keptN (tiedL bits)).testBit = (pts0.filter (inW S.2)).map (·.1) := by
      have e : List.range 5 = pts0.map (·.1) := rfl
      rw [e, List.filter_map]
      congr 1
      exact List.filter_congr fun v _ => hk v
    rw [this, List.map_map]
    have hp : S.2.Perm (pts0.filter (inW S.2)) := by
      refine (List.perm_ext_iff_of_nodup h5 (List.Nodup.sublist List.filter_sublist (by decide))).mpr fun v => ?_
      rw [List.mem_filter, inW_iff]
      exact ⟨fun h => ⟨mem_pts v, h⟩, fun h => h.2⟩
    exact hp.map _
  · unfold drawnN
    refine sortS_of ?_
    have e : (backA S.1.reverse S.2).map (fun p => pairS p.1.1 p.2.1) = ((backA S.1.reverse S.2).map norm5).map fun p => pairS p.1.1 p.2.1 := by
      rw [List.map_map]
      exact List.map_congr_left fun p _ => (pairS_norm p).symm
    have e2 : prs = prs5.map fun p => (p.1.1, p.2.1) := rfl
    rw [e, e2, List.filter_map]
    refine (h3.map _).trans (List.Perm.of_eq ?_)
    have e3 : prs5.filter (fun p => adjF (tiedL bits) p.1 p.2 && !(inW S.2 p.1 && inW S.2 p.2)) = prs5.filter ((fun p : Nat × Nat => ((tiedL bits).getD p.1 0).testBit p.2 && !((keptN (tiedL bits)).testBit p.1 && (keptN (tiedL bits)).testBit p.2)) ∘ fun p : V × V => (p.1.1, p.2.1)) := by
      refine List.filter_congr fun p _ => ?_
      show _ = (((tiedL bits).getD p.1.1 0).testBit p.2.1 && !((keptN (tiedL bits)).testBit p.1.1 && (keptN (tiedL bits)).testBit p.2.1))
      rw [hk, hk]; rfl
    rw [e3, List.map_map]; rfl
end Mine
end
section
set_option Elab.async false
set_option maxRecDepth 100000
set_option linter.unusedVariables false
set_option linter.unusedSimpArgs false
namespace Mine
open PySem PySem.Calls PySem.W PyProof.Rows
theorem dat_str {x : Str} (h : PyData.strOk x = true) (st : List AO) : datS st (.str x) = some (.str x) := by
  show (if PyData.strOk x = true then some (PyData.str x) else none) = _
  rw [if_pos h]
theorem eq_strs {x y : Str} (hx : PyData.strOk x = true) (hy : PyData.strOk y = true) (st : List AO) : eqG (.str x) (.str y) st = some (.bool (x == y), st) := by
  unfold eqG
  rw [dat_str hx, dat_str hy]
  rfl
theorem getI_tup2 {x y : PV} {st : List AO} : getI (.tup [x, y]) (.int 0) st = some (x, st) ∧ getI (.tup [x, y]) (.int 1) st = some (y, st) := by
  constructor
  · unfold getI
    dsimp only
    rw [if_pos (by decide)]
    rfl
  · unfold getI
    dsimp only
    rw [if_pos (by decide)]
    rfl
theorem lower_len {x : Str} (h : (Txt.lower x).length ≤ 100) (st : List AO) : str1 Txt.lower [.str x] st = some (.str (Txt.lower x), st) := by
  show (if (Txt.lower x).length ≤ sizeLine then _ else _) = _
  rw [if_pos (five_sz h)]
noncomputable def ents (l : List (Nat × Nat)) : List (Bool × Nat × Nat) := l.flatMap fun p => [(true, p.1, p.2), (false, p.2, p.1)]
noncomputable def entN (e : Bool × Nat × Nat) : Str := if e.1 then Txt.upper (nm e.2.1) else Txt.swapcase (nm e.2.1)
noncomputable def entP (e : Bool × Nat × Nat) : PV := .tup [.str (entN e), .str (nm e.2.2)]
theorem hs_ents (l : List (Nat × Nat)) : l.flatMap hsOf = (ents l).map entP := by
  induction l with
  | nil => rfl
  | cons p l ih =>
    show hsOf p ++ l.flatMap hsOf = _
    rw [ih]; rfl
theorem low_fin : ∀ v < 5, ∀ u < 5, ∀ b : Bool, (Txt.lower (entN (b, u, u))).length ≤ 100 ∧ (Txt.lower (nm v)).length ≤ 100 ∧ PyData.strOk (Txt.lower (entN (b, u, u))) = true ∧ PyData.strOk (Txt.lower (nm v)) = true ∧ ((Txt.lower (entN (b, u, u)) == Txt.lower (nm v)) = u.beq v) ∧ PyData.strOk (nm v) = true := by decide +kernel
theorem entN_eq (e : Bool × Nat × Nat) : entN e = entN (e.1, e.2.1, e.2.1) := rfl
noncomputable def entT (v : Nat) (e : Bool × Nat × Nat) : Bool := e.2.1.beq v
theorem ents_nbrs (v : Nat) (l : List (Nat × Nat)) : ((ents l).filter (entT v)).map (fun e => e.2.2) = l.flatMap fun p => (bif p.1.beq v then [p.2] else []) ++ (bif p.2.beq v then [p.1] else []) := by
  induction l with
  | nil => rfl
  | cons p l ih =>
    show (([(true, p.1, p.2), (false, p.2, p.1)] ++ ents l).filter (entT v)).map _ = _ ++ _
    rw [List.filter_append, List.map_append, ih]
    congr 1
    rcases Bool.eq_false_or_eq_true (p.1.beq v) with h1 | h1 <;> rcases Bool.eq_false_or_eq_true (p.2.beq v) with h2 | h2 <;> simp [entT, h1, h2]
theorem drawn_lt : ∀ (l : List (Nat × Nat)), (∀ p ∈ l, p.1 < 5 ∧ p.2 < 5) → ∀ b, ∀ p ∈ drawnR l b, p.1 < 5 ∧ p.2 < 5
  | [], _, b, p, m => by cases m
  | q :: r, h, b, p, m => by
    rw [drawnR] at m
    split at m
    · exact drawn_lt r (fun p m => h p (.tail _ m)) _ p m
    · rcases List.mem_cons.mp m with rfl | m
      · exact h _ (.head _)
      · exact drawn_lt r (fun p m => h p (.tail _ m)) _ p m
theorem ents_lt {l : List (Nat × Nat)} (h : ∀ p ∈ l, p.1 < 5 ∧ p.2 < 5) : ∀ e ∈ ents l, e.2.1 < 5 ∧ e.2.2 < 5 := by
  intro e m
  obtain ⟨p, hp, m⟩ := List.mem_flatMap.mp m
  have := h p hp
  simp only [List.mem_cons, List.not_mem_nil, or_false] at m
  rcases m with rfl | rfl
  · exact this
  · exact ⟨this.2, this.1⟩
theorem ents_len (l : List (Nat × Nat)) : (ents l).length = 2 * l.length := by
  induction l with
  | nil => rfl
  | cons p l ih =>
    show (_ ++ ents l).length = _
    rw [List.length_append, ih]; simp only [List.length_cons, List.length_nil]; omega
theorem chkL_of {st : List AO} {i : Nat} {xs : List PV} (h : st[i]? = some (.list xs)) : chkL i xs st = true := by
  unfold chkL
  exact @decide_eq_true _ (Classical.propDecidable _) h
theorem getall_run (w : World) {st : List AO} {i h bits v : Nat} (h1 : st[i]? = some (.inst 308 (kvH h))) (h2 : st[h]? = some (.list (hsL bits))) (hv : v < 5) :
    getallR w [.ref i, .str (nm v)] st = some (.lst ((nbrs bits v).map fun u => .str (nm u)), st) := by
  have hlt : ∀ p ∈ drawnP bits, p.1 < 5 ∧ p.2 < 5 := drawn_lt prs (by decide) bits
  have hl := ents_lt hlt
  have hlen : (ents (drawnP bits)).length ≤ 20 := by
    rw [ents_len]
    have h4 := drawnR_len prs bits
    have h5 : prs.length = 10 := rfl
    unfold drawnP
    omega
  have h2 : st[h]? = some (.list ((ents (drawnP bits)).map entP)) := by rw [h2]; unfold hsL; rw [hs_ents]
  obtain ⟨l1, l2, l3, l4, l5, l6⟩ := low_fin v hv 0 (by omega) true
  suffices q : ∃ y st', getallR w [.ref i, .str (nm v)] st = some (y, st') ∧ (y = .lst ((nbrs bits v).map fun u => .str (nm u)) ∧ st' = st) by
    obtain ⟨_, _, e, rfl, rfl⟩ := q; exact e
  unfold getallR
  refine runK_ev rfl ?_
  simp only [s_getall, List.map, Option.bind, List.append_nil, List.getElem?_cons_zero]
  have pl : plainTxt (Txt.lower (nm v)) = true := by
    have : ∀ v < 5, plainTxt (Txt.lower (nm v)) = true := by decide +kernel
    exact this v hv
  have cv : convG [.ref i, .str (Txt.lower (nm v)), .bool true] st = some (.str (Txt.lower (nm v)), st) := by
    unfold convG
    dsimp only
    rw [if_pos pl]
  refine ev_seq (ev_eq (y := .next) (es' := ⟨[some (.ref i)], [some (.str (Txt.lower (nm v)))], st⟩) ?_ ⟨rfl, ?_⟩)
  · exact e_asg (p := .str (Txt.lower (nm v))) (es₁ := ⟨[some (.ref i)], [some (.str (nm v))], st⟩) (e_bind (y := .ref i) (es₁ := ⟨[some (.ref i)], [some (.str (nm v))], st⟩) rfl (by
      unfold guardE
      rw [if_pos (isInst_of h1 (get_cv h))]
      refine e_bind (y := [.str (Txt.lower (nm v))]) (es₁ := ⟨[some (.ref i)], [some (.str (nm v))], st⟩) (p_cons (p_meth (p := .str (nm v)) (ps := []) rfl rfl rfl (lower_len l2 _)) rfl) (e_bind (y := .bool true) (es₁ := ⟨[some (.ref i)], [some (.str (nm v))], st⟩) rfl ?_)
      unfold liftS
      dsimp only [List.cons_append, List.nil_append]
      rw [cv])) rfl
  · refine ev_last (ev_eq (y := .ret (.lst ((nbrs bits v).map fun u => .str (nm u)))) (es' := ⟨[some (.ref i)], [some (.str (Txt.lower (nm v)))], st⟩) (e_bind (y := .lst ((nbrs bits v).map fun u => .str (nm u))) (es₁ := ⟨[some (.ref i)], [some (.str (Txt.lower (nm v)))], st⟩) (e_lst ?_) rfl) ⟨rfl, rfl⟩)
    have hres : (nbrs bits v).map (fun u => PV.str (nm u)) = ((ents (drawnP bits)).filter (entT v)).map fun e => .str (nm e.2.2) := by
      unfold nbrs
      rw [← ents_nbrs, List.map_map]; rfl
    rw [hres]
    refine compE_pure (chk := chkL h ((ents (drawnP bits)).map entP)) (es := ⟨[some (.ref i)], [some (.str (Txt.lower (nm v)))], st⟩) entP (entT v) (fun e => .str (nm e.2.2)) (ents (drawnP bits)) ?_ (chkL_of h2) ?_ ?_ (five_sz (by omega))
    · exact itsV_of (p := .ref h) (es := ⟨[some (.ref i)], [some (.str (Txt.lower (nm v)))], st⟩) (p_lift (p := .ref i) (es := ⟨[some (.ref i)], [some (.str (Txt.lower (nm v)))], st⟩) rfl (getA_hd w h1)) (by unfold itsV; dsimp only; rw [h2])
    · intro e m
      obtain ⟨m1, m2, m3, m4, m5, m6⟩ := low_fin v hv e.2.1 (hl e m).1 e.1
      rw [← entN_eq] at m1 m3 m5
      refine p_lift (p := .bool (entT v e)) ?_ (truth_bool _ _)
      refine p_bin (p := .str (Txt.lower (entN e))) (q := .str (Txt.lower (nm v))) ?_ rfl ((eq_strs m3 m4 _).trans (by rw [m5]; rfl))
      exact p_meth (p := .str (entN e)) (ps := []) (p_bin (p := entP e) (q := .int 0) rfl rfl getI_tup2.1) rfl rfl (lower_len m1 _)
    · intro e m _
      exact p_bin (p := entP e) (q := .int 1) rfl rfl getI_tup2.2
end Mine
end
section
set_option Elab.async false
set_option maxRecDepth 100000
set_option linter.unusedVariables false
set_option linter.unusedSimpArgs false
namespace Mine
open PySem PySem.Calls PySem.W PyProof.Rows
theorem run_succ {α : Type} (f : α → α → Bool) : ∀ k s, runA f (k + 1) s = turnA f (runA f k s)
  | 0, s => rfl
  | k + 1, s => by rw [runA, run_succ f k]; rfl
noncomputable def nmV (v : V) : PV := .str (nm v.1)
noncomputable def markS (m : Bool) : Str := if m then Str.ofString "\t" else Str.ofString " "
noncomputable def pileE (e : Bool × V) : PV := .tup [.str (markS e.1), nmV e.2]
noncomputable def inR (r : List V) (u : Nat) : Bool := r.any fun q => q.1.beq u
theorem inR_iff {r : List V} {u : Nat} : inR r u = true ↔ ∃ q ∈ r, q.1 = u := by
  unfold inR
  rw [List.any_eq_true]
  exact ⟨fun ⟨q, h, e⟩ => ⟨q, h, Nat.eq_of_beq_eq_true e⟩, fun ⟨q, h, e⟩ => ⟨q, h, by rw [e]; exact Nat.beq_refl _⟩⟩
theorem near_len {bits : Nat} (G : Graph bits) (p : V) {r : List V} (hr : r.Nodup) : ((nbrs bits p.1).filter (inR r)).length = (r.filter (adjF (tiedL bits) p)).length := by
  have h1 : ((nbrs bits p.1).filter (inR r)).Nodup := List.Nodup.sublist List.filter_sublist (G.nd p)
  have h2 : ((r.filter (adjF (tiedL bits) p)).map (·.1)).Nodup := by
    have := List.Nodup.sublist (List.filter_sublist (p := adjF (tiedL bits) p)) hr
    unfold List.Nodup at this ⊢
    rw [List.pairwise_map]
    exact this.imp fun ne e => ne (Fin.ext e)
  have h3 := (List.perm_ext_iff_of_nodup h1 h2).mpr fun u => by
    rw [List.mem_filter, List.mem_map, inR_iff]
    constructor
    · rintro ⟨hu, q, hq, rfl⟩
      exact ⟨q, List.mem_filter.mpr ⟨hq, (G.nb p q).mp hu⟩, rfl⟩
    · rintro ⟨q, hq, rfl⟩
      rw [List.mem_filter] at hq
      exact ⟨(G.nb p q).mpr hq.2, q, hq.1, rfl⟩
  have := h3.length_eq
  rwa [List.length_map] at this
theorem near_cond {α : Type} (f : α → Bool) (r : List α) : ((r.filter f).length == 0 || (r.filter f).length == r.length) = (!r.any f || r.all f) ∧ ((r.filter f).length != 0) = r.any f := by
  have h1 : ((r.filter f).length != 0) = r.any f := by
    rw [Bool.eq_iff_iff, bne_iff_ne, List.any_eq_true, Ne, List.length_eq_zero_iff, List.filter_eq_nil_iff]
    constructor
    · intro h
      refine Classical.byContradiction fun h2 => h fun a m q => h2 ⟨a, m, q⟩
    · rintro ⟨a, m, q⟩ h; exact h a m q
  have h2 : ((r.filter f).length == r.length) = r.all f := by
    rw [Bool.eq_iff_iff, beq_iff_eq, List.all_eq_true, List.length_filter_eq_length_iff]
  refine ⟨?_, h1⟩
  rw [h2, ← h1]
  simp [bne]
theorem mapM_strs {α : Type} (f : α → Str) : ∀ (l : List α), (∀ a ∈ l, PyData.strOk (f a) = true) → (l.map fun a => PV.str (f a)).mapM (dat 5) = some (l.map fun a => PyData.str (f a))
  | [], _ => rfl
  | a :: l, h => by
    rw [List.map_cons, List.mapM_cons, mapM_strs f l fun b m => h b (.tail _ m)]
    show ((if PyData.strOk (f a) = true then some (PyData.str (f a)) else none) >>= _) = _
    rw [if_pos (h a (.head _))]; rfl
theorem nm_ok {v : Nat} (h : v < 5) : PyData.strOk (nm v) = true := (low_fin v h 0 (by omega) true).2.2.2.2.2
theorem nm_beq : ∀ a < 5, ∀ b < 5, (nm a == nm b) = a.beq b := by decide +kernel
theorem in_names {r : List V} {u : Nat} (hu : u < 5) (st : List AO) : inG (.str (nm u)) (.lst (r.map nmV)) st = some (.bool (inR r u), st) := by
  have e : anyG (.str (nm u)) (.lst (r.map nmV)) st = some (inR r u) := by
    have h2 : datS st (.lst (r.map nmV)) = some (.list (r.map fun v => PyData.str (nm v.1))) := by
      show ((r.map nmV).mapM (dat 5)).map PyData.list = _
      unfold nmV
      rw [mapM_strs (fun v : V => nm v.1) r fun a _ => nm_ok a.2]; rfl
    unfold anyG
    rw [dat_str (nm_ok hu), h2]
    dsimp only
    rw [List.any_map]
    unfold inR
    congr 2
    funext q
    show (nm q.1 == nm u) = _
    rw [nm_beq _ q.2 _ hu]
  unfold inG
  rw [e]; rfl
theorem in2N (x y : Nat) (st : List AO) : inG (inP x) (.tup [.int 0, inP y]) st = some (.bool (x == 0 || x == y), st) := by
  have h1 : ((0 : Int) == (x : Int)) = (x == 0) := by rw [Bool.eq_iff_iff]; simp; omega
  have h2 : ((y : Int) == (x : Int)) = (x == y) := by rw [Bool.eq_iff_iff]; simp; omega
  simp [inG, anyG, datS, dat, PyData.eqv, h1, h2]
theorem len_lst {xs : List PV} (h : xs.length ≤ 100) (st : List AO) : lenG [.lst xs] st = some (inP xs.length, st) := by
  show (if xs.length ≤ sizeLine then _ else _) = _
  rw [if_pos (five_sz h)]
theorem get_gt (n : Int) (p : PV) (ws : Str) (j : Nat) : kvGet (kvW n p ws j) (Str.ofString "get_token") = none := by kernel_rfl
theorem get_pt (n : Int) (p : PV) (ws : Str) (j : Nat) : kvGet (kvW n p ws j) (Str.ofString "push_token") = none := by kernel_rfl
theorem get_ga (h : Nat) : kvGet (kvH h) (Str.ofString "get_all") = none := by kernel_rfl
theorem get_psh : kvGet kvA (Str.ofString "push") = none := by kernel_rfl
theorem isLinst_of {st : List AO} {i C : Nat} {kvs : List (Str × PV)} {xs : List PV} {name : Str} (h : st[i]? = some (.linst C kvs xs)) (hn : kvGet kvs name = none) : isLinst C name (.ref i) st = true := by
  unfold isLinst
  dsimp only
  rw [h]
  dsimp only
  rw [hn]
  simp
end Mine
end
section
set_option Elab.async false
set_option maxRecDepth 100000
set_option linter.unusedVariables false
set_option linter.unusedSimpArgs false
namespace Mine
open PySem PySem.Calls PySem.W PyProof.Rows
noncomputable abbrev GG (st : List AO) (j : Nat) (s : List (Bool × V) × List V) : List AO := st.set j (.list (s.2.map nmV)) ++ [.linst 160 kvA (s.1.map pileE)]
section
variable {st : List AO} {j : Nat} {s : List (Bool × V) × List V}
theorem GG_old {i : Nat} {x : AO} (h : st[i]? = some x) (ne : i ≠ j) : (GG st j s)[i]? = some x := by
  rw [List.getElem?_append_left (by rw [List.length_set]; exact lt_of h), List.getElem?_set_ne (Ne.symm ne)]; exact h
theorem GG_j (h : j < st.length) : (GG st j s)[j]? = some (.list (s.2.map nmV)) := by
  rw [List.getElem?_append_left (by rw [List.length_set]; exact h), List.getElem?_set_self h]
theorem GG_n : (GG st j s)[st.length]? = some (.linst 160 kvA (s.1.map pileE)) := by
  have : (st.set j (.list (s.2.map nmV))).length = st.length := List.length_set
  conv => lhs; rw [← this]
  exact get_app0 _ _
theorem GG_setj (h : j < st.length) (l : List V) : (GG st j s).set j (.list (l.map nmV)) = GG st j (s.1, l) := by
  rw [List.set_append_left _ _ (by rw [List.length_set]; exact h), List.set_set]
theorem GG_setn (l : List (Bool × V)) : (GG st j s).set st.length (.linst 160 kvA (l.map pileE)) = GG st j (l, s.2) := by
  have : (st.set j (.list (s.2.map nmV))).length = st.length := List.length_set
  conv => lhs; rw [← this]
  exact set_app0 _ _ _
end
theorem truth_lst {xs : List PV} (h : xs.length ≤ 100) (st : List AO) : truthG (.lst xs) st = some (!xs.isEmpty, st) := by
  show (if xs.length ≤ sizeLine then _ else _) = _
  rw [if_pos (five_sz h)]
theorem list_ref {st : List AO} {i : Nat} {xs : List PV} (hi : st[i]? = some (.list xs)) (h : xs.length ≤ 100) : listG [.ref i] st = some (.lst xs, st) := by
  have e : seq? st (.ref i) = some xs := by
    unfold seq? items?
    dsimp only
    rw [hi]
  unfold listG
  dsimp only
  rw [e]
  dsimp only
  rw [if_pos (five_sz h)]
set_option maxHeartbeats 4000000 in
theorem gone_ev (w : World) {st : List AO} {t h i j : Nat} {n : Int} {pp : PV} {ws : Str} {bits : Nat} {l0 : List V} {xs0 : List PV} (G : Graph bits) (ht : st[t]? = some (.inst 308 (kvH h))) (hh : st[h]? = some (.list (hsL bits))) (hi : st[i]? = some (.inst 76 (kvW n pp ws j))) (hj : st[j]? = some (.list xs0)) (hx : xs0 = l0.map nmV) (hne : h ≠ j) (hn : l0.Nodup) (hl : l0.length = 5) :
    ∃ y st', goneR w [.ref t, .ref i] st = some (y, st') ∧ (y = .ref st.length ∧ st' = GG st j (runA (adjF (tiedL bits)) 15 ([], l0))) := by
  have hjl := lt_of hj
  have htj : t ≠ j := by rintro rfl; have := ht.symm.trans hj; cases this
  have hij : i ≠ j := by rintro rfl; have := hi.symm.trans hj; cases this
  obtain ⟨f, hf⟩ : ∃ f, f = adjF (tiedL bits) := ⟨_, rfl⟩
  rw [← hf]
  have g0 : st ++ [.linst 160 kvA []] = GG st j ([], l0) := by
    unfold GG
    rw [← hx, set_same hj]; rfl
  unfold goneR
  refine runK_ev rfl ?_
  simp only [s_gone, List.map, Option.bind, List.append_nil, List.getElem?_cons_zero]
  refine ev_seq (ev_eq (y := .next) (es' := ⟨[some (.ref t), some (.ref i), some (.ref st.length), none, none, none], [none], GG st j ([], l0)⟩) ?_ ⟨rfl, ?_⟩)
  · refine e_asg (p := .ref st.length) (es₁ := ⟨[some (.ref t), some (.ref i), none, none, none, none], [none], GG st j ([], l0)⟩) ?_ rfl
    rw [← g0]; rfl
  let Q : List Nat → ES → Prop := fun ns es => ∃ (k : Nat) (l3 l4 l5 o0 : Option PV), es = ⟨[some (.ref t), some (.ref i), some (.ref st.length), l3, l4, l5], [o0], GG st j (runA f k ([], l0))⟩ ∧ k + ns.length = 15
  refine ev_seq (ev_for (f := inP) (ns := List.range 15) (chk := fun _ => true) (its_one (n := 15) rfl (by decide)) (ev_mono (ev_items (Q := Q) ?_ (fun _ _ => rfl) _ _ ⟨0, none, none, none, none, rfl, by simp⟩) ?_))
  · rintro turn r _ ⟨k, l3, l4, l5, o0, rfl, hk⟩
    refine ⟨rfl, ev_bind (ev_eq (y := ()) (es' := ⟨[some (.ref t), some (.ref i), some (.ref st.length), some (inP turn), l4, l5], [o0], GG st j (runA f k ([], l0))⟩) rfl (ev_last ?_))⟩
    have hk' : k + 1 + r.length = 15 := (Nat.succ_add k r.length).trans hk
    have hp := run_perm f k ([], l0)
    have hs' : runA f (k + 1) ([], l0) = turnA f (runA f k ([], l0)) := run_succ f k _
    generalize runA f k ([], l0) = s at hp hs'
    obtain ⟨pile, line⟩ := s
    have hlen := hp.length_eq
    simp only [List.map_nil, List.nil_append, List.length_append, List.length_map, hl] at hlen
    have hnd := hp.nodup_iff.mpr hn
    have hnd : line.Nodup := (List.nodup_append.mp hnd).2.1
    have key : ∀ l4 l5 o0, (fun y (es' : ES) => (y = PF.next ∨ y = PF.cont) ∧ Q r es') .next ⟨[some (.ref t), some (.ref i), some (.ref st.length), some (inP turn), l4, l5], [o0], GG st j (turnA f (pile, line))⟩ := fun l4 l5 o0 =>
      ⟨.inl rfl, k + 1, _, _, _, _, by rw [hs'], hk'⟩
    refine ev_ite (ev_eq (y := !line.isEmpty) (es' := ⟨[some (.ref t), some (.ref i), some (.ref st.length), some (inP turn), l4, l5], [o0], GG st j (pile, line)⟩) (p_lift (p := .ref j) (p_lift (p := .ref i) rfl (getA_pb w (GG_old hi hij))) ?_) ?_)
    · rw [truth_ref (GG_j hjl) (by rw [List.length_map]; exact Nat.le_trans (hlen ▸ Nat.le_add_left _ _) (by decide))]
      cases line <;> rfl
    match line, hlen, hnd, key with
    | [], _, _, key => exact ev_eq (y := .next) rfl (key _ _ _)
    | p :: r', hlen, hnd, key =>
      rw [List.length_cons] at hlen
      have hnr : r'.Nodup := (List.nodup_cons.mp hnd).2
      have hp5 : pile.length ≤ 5 := hlen ▸ Nat.le_add_right _ _
      have hr5 : r'.length ≤ 5 := Nat.le_trans (Nat.le_succ _) (hlen ▸ Nat.le_add_left _ _)
      let L (l4 l5 o0 : Option PV) (S : List AO) : ES := ⟨[some (.ref t), some (.ref i), some (.ref st.length), some (inP turn), l4, l5], [o0], S⟩
      have hN := near_len G p hnr
      have hC := near_cond (adjF (tiedL bits) p) r'
      rw [← hN] at hC
      generalize hNN : (nbrs bits p.1).filter (inR r') = N at hN hC
      have hNl : N.length ≤ 5 := hN ▸ Nat.le_trans (List.length_filter_le _ _) hr5
      have hsz : ((nbrs bits p.1).map fun u => PV.str (nm u)).length ≤ 100 := by
        rw [List.length_map]
        have : (nbrs bits p.1).length ≤ 20 := by
          unfold nbrs
          rw [← ents_nbrs, List.length_map]
          have h1 := List.length_filter_le (entT p.1) (ents (drawnP bits))
          rw [ents_len] at h1
          have h4 : (drawnP bits).length ≤ 10 := drawnR_len prs bits
          omega
        omega
      show Ev (seqE _ _) (L l4 l5 o0 (GG st j (pile, p :: r'))) _
      refine ev_seq (ev_eq (y := .next) (es' := L (some (nmV p)) l5 o0 (GG st j (pile, r'))) (e_asg (p := nmV p) (es₁ := L l4 l5 o0 (GG st j (pile, r'))) ?_ rfl) ⟨rfl, ?_⟩)
      · refine e_meth (p := .ref i) (es₁ := L l4 l5 o0 (GG st j (pile, p :: r'))) (es₂ := L l4 l5 o0 (GG st j (pile, p :: r'))) (ps := []) rfl (isInst_of (GG_old hi hij) (get_gt _ _ _ _)) rfl ?_
        rw [token_wait w (GG_old hi hij) (GG_j hjl) (by rw [List.length_map]; exact five_sz (Nat.le_trans (Nat.succ_le_succ hr5) (by decide))), GG_setj hjl]
      refine ev_seq (ev_eq (y := .next) (es' := L (some (nmV p)) l5 (some (.lst (r'.map nmV))) (GG st j (pile, r'))) (e_asg (p := .lst (r'.map nmV)) (es₁ := L (some (nmV p)) l5 o0 (GG st j (pile, r'))) ?_ rfl) ⟨rfl, ?_⟩)
      · exact p_call (p_cons (p_lift (p := .ref i) rfl (getA_pb w (GG_old hi hij))) rfl) (list_ref (GG_j hjl) (by rw [List.length_map]; exact Nat.le_trans hr5 (by decide)))
      refine ev_seq (ev_eq (y := .next) (es' := L (some (nmV p)) (some (.lst (N.map fun u => .str (nm u)))) (some (.lst (r'.map nmV))) (GG st j (pile, r'))) (e_asg (p := .lst (N.map fun u => .str (nm u))) (es₁ := L (some (nmV p)) l5 (some (.lst (r'.map nmV))) (GG st j (pile, r'))) (e_lst ?_) rfl) ⟨rfl, ?_⟩)
      · rw [← hNN]
        refine compE_pure (chk := fun _ => true) (es := L (some (nmV p)) l5 (some (.lst (r'.map nmV))) (GG st j (pile, r'))) (fun u : Nat => .str (nm u)) (inR r') (fun u : Nat => .str (nm u)) (nbrs bits p.1) ?_ rfl ?_ ?_ (by rw [List.length_map] at hsz; exact five_sz hsz)
        · exact itsV_of (p := .lst ((nbrs bits p.1).map fun u => .str (nm u))) (p_meth (p := .ref t) (ps := [nmV p]) rfl (isInst_of (GG_old ht htj) (get_ga _)) (p_cons rfl rfl) (getall_run w (GG_old ht htj) (GG_old hh hne) p.2)) rfl
        · intro u m
          exact p_lift (p := .bool (inR r' u)) (p_bin rfl rfl (in_names (G.n5 p u m) _)) (truth_bool _ _)
        · intro u m _
          rfl
      have hNlen : (N.map fun u => PV.str (nm u)).length ≤ 100 := by rw [List.length_map]; exact Nat.le_trans hNl (by decide)
      have hrlen : (r'.map nmV).length ≤ 100 := by rw [List.length_map]; exact Nat.le_trans hr5 (by decide)
      let E : ES := L (some (nmV p)) (some (.lst (N.map fun u => .str (nm u)))) (some (.lst (r'.map nmV))) (GG st j (pile, r'))
      refine ev_last (ev_ite (ev_eq (y := N.length == 0 || N.length == r'.length) (es' := E) ?_ ?_))
      · refine p_lift (p := .bool (N.length == 0 || N.length == r'.length)) (p_bin (p := inP N.length) (q := .tup [.int 0, inP r'.length]) ?_ (p_tup2 rfl ?_) (in2N _ _ _)) (truth_bool _ _)
        · have := len_lst hNlen (GG st j (pile, r'))
          rw [List.length_map] at this
          exact p_call (p_cons (p := .lst (N.map fun u => .str (nm u))) rfl rfl) this
        · have := len_lst hrlen (GG st j (pile, r'))
          rw [List.length_map] at this
          exact p_call (p_cons (p := .lst (r'.map nmV)) rfl rfl) this
      have hturn : turnA f (pile, p :: r') = bif r'.any (f p) then (bif r'.all (f p) then (pile ++ [(true, p)], r') else (pile, r' ++ [p])) else (pile ++ [(false, p)], r') := rfl
      rw [← hf] at hC
      rw [hC.1]
      have hpush : ∀ m, (!(N.map fun u => PV.str (nm u)).isEmpty) = m → turnA f (pile, p :: r') = (pile ++ [(m, p)], r') → Ev (seqE (bindE (bindE (getL 2) fun p => guardE (isLinst 160 (Str.ofString "push") p) (bindE (consE (iteE (bindE (getL 5) fun p => liftS (truthG p)) (pureE (PV.str (Str.ofString "\t"))) (pureE (PV.str (Str.ofString " ")))) (consE (getL 4) (pureE []))) fun ps => liftS (pushR w (p :: ps)))) fun x => pureE PF.next) (pureE PF.next)) E (fun y (es' : ES) => (y = PF.next ∨ y = PF.cont) ∧ Q r es') := fun m hm ht2 => by
        refine ev_last (ev_eq (y := .next) (es' := L (some (nmV p)) (some (.lst (N.map fun u => .str (nm u)))) (some (.lst (r'.map nmV))) (GG st j (pile ++ [(m, p)], r'))) ?_ (ht2 ▸ key _ _ _))
        refine e_expr (p := .none) (e_meth (p := .ref st.length) (es₁ := E) (es₂ := E) (ps := [.str (markS m), nmV p]) rfl (isLinst_of GG_n get_psh) (p_cons ?_ (p_cons rfl rfl)) ?_)
        · refine e_ite (es₁ := E) (t := m) (p_lift (p := .lst (N.map fun u => .str (nm u))) rfl ?_) ?_
          · rw [truth_lst hNlen, hm]
          · cases m <;> rfl
        · rw [push_run w GG_n (by rw [List.length_map]; exact five_sz (Nat.le_trans hp5 (by decide)))]
          have : (pile.map pileE ++ [.tup [.str (markS m), nmV p]]) = (pile ++ [(m, p)]).map pileE := by rw [List.map_append]; rfl
          rw [this, GG_setn]
      have hem : (!(N.map fun u => PV.str (nm u)).isEmpty) = r'.any (f p) := by
        rw [← hC.2]
        cases N <;> rfl
      cases ha : r'.any (f p) with
      | false =>
        rw [ha] at hem
        refine hpush false hem ?_
        rw [hturn, ha]; rfl
      | true =>
        rw [ha] at hem
        cases hb : r'.all (f p) with
        | true =>
          refine hpush true hem ?_
          rw [hturn, ha, hb]; rfl
        | false =>
          refine ev_last (ev_eq (y := .next) (es' := L (some (nmV p)) (some (.lst (N.map fun u => .str (nm u)))) (some (.lst (r'.map nmV))) (GG st j (pile, r' ++ [p]))) ?_ (by have := key (some (nmV p)) (some (.lst (N.map fun u => .str (nm u)))) (some (.lst (r'.map nmV))); rw [hturn, ha, hb] at this; exact this))
          refine e_expr (p := .none) (e_meth (p := .ref i) (es₁ := E) (es₂ := E) (ps := [nmV p]) rfl (isInst_of (GG_old hi hij) (get_pt _ _ _ _)) (p_cons rfl rfl) ?_)
          rw [ptok_run w (GG_old hi hij) (GG_j hjl) (by rw [List.length_map]; exact five_sz (Nat.le_trans hr5 (by decide)))]
          have : (r'.map nmV ++ [nmV p]) = (r' ++ [p]).map nmV := by rw [List.map_append]; rfl
          rw [this, GG_setj hjl]
  · rintro _ es ⟨rfl, k, l3, l4, l5, o0, rfl, hk⟩
    have hk : k = 15 := hk
    subst hk
    exact ⟨rfl, ev_last (ev_eq (y := .ret (.ref st.length)) rfl ⟨rfl, rfl⟩)⟩
end Mine
end
section
set_option Elab.async false
set_option maxRecDepth 100000
set_option linter.unusedVariables false
set_option linter.unusedSimpArgs false
namespace Mine
open PySem PySem.Calls PySem.W PyProof.Rows
theorem while_list {β : Type} {T : FM Bool} {B : FM PF} {Q : List β → ES → Prop} (hT : ∀ l es, Q l es → T es = some (!l.isEmpty, es)) (hB : ∀ x l es, Q (x :: l) es → Ev B es fun y es' => y = .next ∧ Q l es') :
    ∀ (l : List β) (n : Nat) (es : ES), l.length < n → Q l es → Ev (whileE n T B) es fun y es' => y = .next ∧ Q [] es'
  | l, 0, es, h, _ => absurd h (Nat.not_lt_zero _)
  | [], n + 1, es, _, q => by
    refine ev_eq (y := .next) (es' := es) ?_ ⟨rfl, q⟩
    unfold whileE
    exact e_bind (hT _ _ q) rfl
  | x :: l, n + 1, es, h, q => by
    obtain ⟨_, es₁, e1, rfl, q1⟩ := hB x l es q
    obtain ⟨y, es₂, e2, hy⟩ := while_list hT hB l n es₁ (by rw [List.length_cons] at h; omega) q1
    refine ev_eq (y := y) (es' := es₂) ?_ hy
    unfold whileE
    exact e_bind (hT _ _ q) (e_bind e1 e2)
noncomputable abbrev BB (st : List AO) (t : Nat) (P : List (Bool × V)) (pairs : List Str) (here : List V) : List AO := st.set t (.linst 160 kvA (P.map pileE)) ++ [.list (pairs.map .str), .list (here.map nmV)]
section
variable {st : List AO} {t : Nat} {P : List (Bool × V)} {pairs : List Str} {here : List V}
theorem BB_t (h : t < st.length) : (BB st t P pairs here)[t]? = some (.linst 160 kvA (P.map pileE)) := by
  rw [List.getElem?_append_left (by rw [List.length_set]; exact h), List.getElem?_set_self h]
theorem BB_0 : (BB st t P pairs here)[st.length]? = some (.list (pairs.map .str)) := by
  have : (st.set t (.linst 160 kvA (P.map pileE))).length = st.length := List.length_set
  conv => lhs; rw [← this]
  exact get_app0 _ _
theorem BB_1 : (BB st t P pairs here)[st.length + 1]? = some (.list (here.map nmV)) := by
  have : (st.set t (.linst 160 kvA (P.map pileE))).length = st.length := List.length_set
  conv => lhs; rw [← this]
  exact get_app _ _ 1
theorem BB_st (h : t < st.length) (P' : List (Bool × V)) : (BB st t P pairs here).set t (.linst 160 kvA (P'.map pileE)) = BB st t P' pairs here := by
  rw [List.set_append_left _ _ (by rw [List.length_set]; exact h), List.set_set]
theorem BB_s0 (l : List Str) : (BB st t P pairs here).set st.length (.list (l.map .str)) = BB st t P l here := by
  have : (st.set t (.linst 160 kvA (P.map pileE))).length = st.length := List.length_set
  conv => lhs; rw [← this]
  exact set_app0 _ _ _
theorem BB_s1 (l : List V) : (BB st t P pairs here).set (st.length + 1) (.list (l.map nmV)) = BB st t P pairs l := by
  have : (st.set t (.linst 160 kvA (P.map pileE))).length = st.length := List.length_set
  conv => lhs; rw [← this]
  exact set_app _ _ 1 _
end
noncomputable def headP : List (Bool × V) → Str
  | [] => Str.ofString ""
  | e :: _ => nm e.2.1
noncomputable def headM : List (Bool × V) → Str
  | [] => Str.ofString ""
  | e :: _ => markS e.1
theorem pop_run (w : World) {st : List AO} {t : Nat} {pairs : List Str} {here : List V} (h : t < st.length) (Rv : List (Bool × V)) (hz : Rv.length ≤ 50) : popR w [.ref t] (BB st t Rv.reverse pairs here) = some (.tup [.str (headM Rv), .str (headP Rv)], BB st t Rv.tail.reverse pairs here) := by
  cases Rv with
  | nil =>
    exact pop_none w (BB_t h)
  | cons e R =>
    have h1 := BB_t (P := (e :: R).reverse) (pairs := pairs) (here := here) h
    rw [List.reverse_cons, List.map_append] at h1
    rw [List.reverse_cons, pop_some w h1 (by rw [List.length_map, List.length_reverse]; rw [List.length_cons] at hz; exact five_sz (by omega)), BB_st h]
    rfl
theorem join_any (a b : V) (st : List AO) : joinG [.str (Str.ofString ""), .lst ((sortS [nm a.1, nm b.1]).map .str)] st = some (.str (pairS a.1 b.1), st) := join5 a.1 a.2 b.1 b.2 st
theorem sort_two (x y : Str) (st : List AO) : sortG [.lst [.str x, .str y]] st = some (.lst ((sortS [x, y]).map .str), st) := by
  have e : texts? [.str x, .str y] = some [x, y] := texts_strs [x, y]
  unfold sortG
  dsimp only [items?]
  rw [e]
  rfl
theorem sort_ref {st : List AO} {i : Nat} {ts : List Str} (hi : st[i]? = some (.list (ts.map .str))) (h : ts.length < 64) : sortG [.ref i] st = some (.lst ((sortS ts).map .str), st) := by
  unfold sortG
  dsimp only [items?]
  rw [hi]
  dsimp only
  rw [texts_strs]
  dsimp only
  rw [if_pos h]
theorem sort_lst {st : List AO} {ts : List Str} (h : ts.length < 64) : sortG [.lst (ts.map .str)] st = some (.lst ((sortS ts).map .str), st) := by
  unfold sortG
  dsimp only [items?]
  rw [texts_strs]
  dsimp only
  rw [if_pos h]
theorem truth_str {x : Str} (h : x.length ≤ 100) (st : List AO) : truthG (.str x) st = some ((x.length : Int) != 0, st) := by
  show (if x.length ≤ sizeLine then _ else _) = _
  rw [if_pos (five_sz h)]
theorem extend_ref {st : List AO} {i : Nat} {xs ys : List PV} (h : st[i]? = some (.list xs)) (hz : xs.length + ys.length ≤ 100) : extendG [.ref i, .lst ys] st = some (.none, st.set i (.list (xs ++ ys))) := by
  unfold extendG
  dsimp only [items?]
  rw [h]
  dsimp only
  rw [if_pos (five_sz hz)]
theorem len_append (x y : Str) : (x ++ y).length = x.length + y.length := by
  obtain ⟨a⟩ := x
  obtain ⟨b⟩ := y
  show (a ++ b).size = _
  rw [Array.size_append]; rfl
theorem add_strs {x y : Str} (h : x.length + y.length ≤ 100) (st : List AO) : addG (.str x) (.str y) st = some (.str (x ++ y), st) := by
  show (if x.length + y.length ≤ sizeLine then _ else _) = _
  rw [if_pos (five_sz h)]
theorem mark_len (m : Bool) : (markS m).length = 1 := by cases m <;> kernel_rfl
theorem mark_eq : ∀ m : Bool, (markS m == Str.ofString "\t") = m ∧ PyData.strOk (markS m) = true := by decide +kernel
theorem tab_ok : PyData.strOk (Str.ofString "\t") = true := by decide +kernel
noncomputable def marksOf (l : List (Bool × V)) (m : Str) : Str := l.foldl (fun acc e => markS e.1 ++ acc) m
theorem back_len : ∀ (l : List (Bool × V)) (here : List V), here.length + l.length ≤ 5 → (backA l here).length ≤ 5 * l.length
  | [], _, _ => Nat.le_refl _
  | (m, p) :: l, here, h => by
    have h1 := back_len l (here ++ [p]) (by simp only [List.length_append, List.length_cons, List.length_nil] at h ⊢; omega)
    rw [backA, List.length_append, List.length_cons]
    have : (bif m then here.map fun q => (p, q) else []).length ≤ here.length := by cases m <;> simp
    rw [List.length_cons] at h
    omega
theorem get_pop : kvGet kvA (Str.ofString "pop") = none := by kernel_rfl
theorem nm_len (v : Nat) : (nm v).length = 1 := rfl
end Mine
end
section
set_option Elab.async false
set_option maxRecDepth 100000
set_option linter.unusedVariables false
set_option linter.unusedSimpArgs false
namespace Mine
open PySem PySem.Calls PySem.W PyProof.Rows
set_option maxHeartbeats 4000000 in
theorem back_ev (w : World) {st : List AO} {t : Nat} {pile : List (Bool × V)} {W : List V} (ht : st[t]? = some (.linst 160 kvA (pile.map pileE))) (h5 : pile.length + W.length = 5) :
    ∃ y st', backR w [.ref t, .lst (W.map nmV)] st = some (y, st') ∧ (y = .tup [.str (marksOf pile.reverse (Str.ofString "")), .lst ((sortS ((backA pile.reverse W).map fun p => pairS p.1.1 p.2.1)).map .str)] ∧ ∃ X, st' = st.set t (.linst 160 kvA []) ++ X) := by
  have htl := lt_of ht
  have hpl : pile.length ≤ 5 := h5 ▸ Nat.le_add_right _ _
  have hwl : W.length ≤ 5 := h5 ▸ Nat.le_add_left _ _
  let LE (marks : Str) (point mark : Option PV) (S : List AO) : ES := ⟨[some (.ref t), some (.lst (W.map nmV)), some (.str marks), some (.ref st.length), some (.ref (st.length + 1))], [point, mark], S⟩
  unfold backR
  refine runK_ev rfl ?_
  simp only [s_back, List.map, Option.bind, List.append_nil, List.getElem?_cons_zero]
  have hst : st ++ [.list [], .list (W.map nmV)] = BB st t pile [] W := by
    unfold BB
    rw [set_same ht]; rfl
  refine ev_seq (ev_eq (y := .next) (es' := LE (Str.ofString "") none none (BB st t pile [] W)) ?_ ⟨rfl, ?_⟩)
  · let e0 : ES := ⟨[some (.ref t), some (.lst (W.map nmV)), none, none, none], [none, none], st⟩
    let e1 : ES := ⟨[some (.ref t), some (.lst (W.map nmV)), none, none, none], [none, none], st ++ [.list []]⟩
    let e2 : ES := ⟨[some (.ref t), some (.lst (W.map nmV)), none, none, none], [none, none], BB st t pile [] W⟩
    have a1 : (bindE (pureE []) newE) e0 = some (.ref st.length, e1) := e_bind (y := []) (es₁ := e0) rfl (by unfold newE; exact if_pos (Nat.zero_le _))
    have a2 : (bindE (consE (getL 1) (pureE [])) fun ps => liftS (listNewG ps)) e1 = some (.ref (st.length + 1), e2) := by
      refine e_bind (y := [.lst (W.map nmV)]) (es₁ := e1) (p_cons rfl rfl) ?_
      have e : listNewG [.lst (W.map nmV)] (st ++ [.list []]) = some (.ref (st.length + 1), BB st t pile [] W) := by
        have q : seq? (st ++ [AO.list []]) (.lst (W.map nmV)) = some (W.map nmV) := rfl
        unfold listNewG
        dsimp only
        rw [q]
        dsimp only
        rw [if_pos (by rw [List.length_map]; exact five_sz (Nat.le_trans hwl (by decide))), ← hst, List.append_assoc]
        simp
      unfold liftS
      rw [e]
    exact e_bind (e_tup (e_cons (es₁ := e0) (p := .str (Str.ofString "")) rfl (e_cons a1 (e_cons a2 rfl))) (five_sz (by simp))) rfl
  have popE : ∀ (marks : Str) (o1 o2 : Option PV) (Rv : List (Bool × V)) (pairs : List Str) (here : List V), Rv.length ≤ 50 → (bindE (getL 0) fun p => guardE (isLinst 160 (Str.ofString "pop") p) (bindE (pureE []) fun ps => liftS (popR w (p :: ps)))) (LE marks o1 o2 (BB st t Rv.reverse pairs here)) = some (.tup [.str (headM Rv), .str (headP Rv)], LE marks o1 o2 (BB st t Rv.tail.reverse pairs here)) := fun marks o1 o2 Rv pairs here hz =>
    e_meth (p := .ref t) (es₁ := LE marks o1 o2 (BB st t Rv.reverse pairs here)) (es₂ := LE marks o1 o2 (BB st t Rv.reverse pairs here)) (ps := []) rfl (isLinst_of (BB_t htl) get_pop) rfl (pop_run w htl Rv hz)
  refine ev_seq (ev_eq (y := .next) (es' := LE (Str.ofString "") (some (.str (headP pile.reverse))) (some (.str (headM pile.reverse))) (BB st t pile.reverse.tail.reverse [] W)) ?_ ⟨rfl, ?_⟩)
  · have := popE (Str.ofString "") none none pile.reverse [] W (by rw [List.length_reverse]; exact Nat.le_trans hpl (by decide))
    rw [List.reverse_reverse] at this
    exact e_asg this rfl
  let M := marksOf pile.reverse (Str.ofString "")
  let PR := (backA pile.reverse W).map fun p => pairS p.1.1 p.2.1
  have hPR : PR.length ≤ 25 := by
    have := back_len pile.reverse W (by rw [List.length_reverse]; omega)
    rw [List.length_reverse] at this
    show ((backA pile.reverse W).map _).length ≤ 25
    rw [List.length_map]
    omega
  let Q : List (Bool × V) → ES → Prop := fun Rv es => ∃ (marks : Str) (pairs : List Str) (here : List V), es = LE marks (some (.str (headP Rv))) (some (.str (headM Rv))) (BB st t Rv.tail.reverse pairs here) ∧ marksOf Rv marks = M ∧ pairs ++ (backA Rv here).map (fun p => pairS p.1.1 p.2.1) = PR ∧ here.length + Rv.length = 5 ∧ marks.length + Rv.length ≤ 5
  refine ev_seq (ev_mono (while_list (Q := Q) ?_ ?_ pile.reverse 20 _ (by rw [List.length_reverse]; exact Nat.lt_of_le_of_lt hpl (by decide)) ⟨_, _, _, rfl, rfl, rfl, by rw [List.length_reverse]; omega, ?_⟩) ?_)
  · rintro Rv _ ⟨marks, pairs, here, rfl, _⟩
    refine p_lift (p := .str (headP Rv)) rfl ?_
    cases Rv with
    | nil => exact truth_str (by show (Str.ofString "").length ≤ 100; rw [show (Str.ofString "").length = 0 by decide +kernel]; decide) _
    | cons e R => exact truth_str (by show (nm e.2.1).length ≤ 100; rw [nm_len]; decide) _
  · rintro ⟨m, p⟩ R _ ⟨marks, pairs, here, rfl, hM, hP, hh, hm⟩
    rw [List.length_cons] at hh hm
    let S0 := BB st t R.reverse pairs here
    let add : List Str := (bif m then here.map fun q => (p, q) else []).map fun x : V × V => pairS x.1.1 x.2.1
    have hP2 : (pairs ++ add) ++ (backA R (here ++ [p])).map (fun x : V × V => pairS x.1.1 x.2.1) = PR := by
      rw [← hP, backA, List.map_append, List.append_assoc]
    have hlen : pairs.length + add.length ≤ 25 := by
      have := congrArg List.length hP2
      rw [List.length_append, List.length_append] at this
      omega
    refine ev_seq (ev_eq (y := .next) (es' := LE (markS m ++ marks) (some (.str (nm p.1))) (some (.str (markS m))) S0) (e_asg (p := .str (markS m ++ marks)) (es₁ := LE marks (some (.str (nm p.1))) (some (.str (markS m))) S0) (p_bin (p := .str (markS m)) (q := .str marks) rfl rfl (add_strs (by rw [mark_len]; omega) _)) rfl) ⟨rfl, ?_⟩)
    let E1 := LE (markS m ++ marks) (some (.str (nm p.1))) (some (.str (markS m))) S0
    have hcomp : compE 1 (bindE (getL 4) (itsE itsV)) (setL 0) (bindE (bindE (getC 1) fun p => bindE (pureE (PV.str (Str.ofString "\t"))) fun q => liftS (eqG p q)) fun p => liftS (truthG p))
        (emitE (bindE (pureE (PV.str (Str.ofString ""))) fun p => guardE (isStr p) (bindE (consE (bindE (consE (bindE (consE (getC 0) (consE (getL 0) (pureE []))) lstE) (pureE [])) fun ps => liftS (sortG ps)) (pureE [])) fun ps => liftS (joinG (p :: ps))))) E1 = some ((here.filter fun _ => m).map fun q => .str (pairS p.1 q.1), E1) := by
      refine compE_pure (chk := chkL (st.length + 1) (here.map nmV)) (es := E1) nmV (fun _ => m) (fun q => .str (pairS p.1 q.1)) here (itsV_of (p := .ref (st.length + 1)) (es := E1) rfl ?_) (chkL_of BB_1) ?_ ?_ (five_sz (by omega))
      · unfold itsV
        dsimp only
        rw [show E1.st[st.length + 1]? = some (.list (here.map nmV)) from BB_1]
      · intro q _
        refine p_lift (p := .bool m) (p_bin (p := .str (markS m)) (q := .str (Str.ofString "\t")) rfl rfl ?_) (truth_bool _ _)
        rw [eq_strs (mark_eq m).2 tab_ok, (mark_eq m).1]
      · intro q _ _
        refine p_meth (p := .str (Str.ofString "")) (ps := [.lst ((sortS [nm p.1, nm q.1]).map .str)]) rfl rfl (p_cons (p_call (ps := [.lst [.str (nm p.1), .str (nm q.1)]]) (p_cons (p_lst2 rfl rfl) rfl) (sort_two _ _ _)) rfl) (join_any p q _)
    have hadd : (here.filter fun _ => m).map (fun q : V => PV.str (pairS p.1 q.1)) = add.map .str := by
      show _ = List.map PV.str (List.map _ (bif m then here.map fun q => (p, q) else []))
      cases m
      · simp
      · rw [List.filter_eq_self.mpr (fun _ _ => rfl)]
        simp [Function.comp_def]
    rw [hadd] at hcomp
    refine ev_seq (ev_eq (y := .next) (es' := LE (markS m ++ marks) (some (.str (nm p.1))) (some (.str (markS m))) (BB st t R.reverse (pairs ++ add) here)) ?_ ⟨rfl, ?_⟩)
    · refine e_expr (p := .none) (e_meth (p := .ref st.length) (es₁ := E1) (es₂ := E1) (ps := [.lst (add.map .str)]) rfl (isLst_ref BB_0) (p_cons (e_lst hcomp) rfl) ?_)
      rw [extend_ref BB_0 (by rw [List.length_map, List.length_map]; omega), ← List.map_append, BB_s0]
    refine ev_seq (ev_eq (y := .next) (es' := LE (markS m ++ marks) (some (.str (nm p.1))) (some (.str (markS m))) (BB st t R.reverse (pairs ++ add) (here ++ [p]))) ?_ ⟨rfl, ?_⟩)
    · refine e_expr (p := .none) (e_meth (p := .ref (st.length + 1)) (es₁ := LE (markS m ++ marks) (some (.str (nm p.1))) (some (.str (markS m))) (BB st t R.reverse (pairs ++ add) here)) (es₂ := LE (markS m ++ marks) (some (.str (nm p.1))) (some (.str (markS m))) (BB st t R.reverse (pairs ++ add) here)) (ps := [nmV p]) rfl (isLst_ref BB_1) (p_cons rfl rfl) ?_)
      rw [append_ref BB_1 (by rw [List.length_map]; omega)]
      have : (here.map nmV ++ [nmV p]) = (here ++ [p]).map nmV := by rw [List.map_append]; rfl
      rw [this, BB_s1]
    refine ev_last (ev_eq (y := .next) (es' := LE (markS m ++ marks) (some (.str (headP R))) (some (.str (headM R))) (BB st t R.tail.reverse (pairs ++ add) (here ++ [p]))) (e_asg (popE _ _ _ R _ _ (by omega)) rfl) ⟨rfl, _, _, _, rfl, hM, hP2, ?_, ?_⟩)
    · rw [List.length_append, List.length_cons, List.length_nil]; omega
    · rw [len_append, mark_len]; omega
  · rw [List.length_reverse, show (Str.ofString "").length = 0 by decide +kernel]; omega
  · rintro _ es ⟨rfl, marks, pairs, here, rfl, hM, hP, hh, hm⟩
    have hM : marks = M := hM
    have hP : pairs = PR := by rw [← hP]; exact (List.append_nil _).symm
    subst hM hP
    refine ⟨rfl, ev_last (ev_eq (y := .ret (.tup [.str M, .lst ((sortS PR).map .str)])) (es' := LE M (some (.str (Str.ofString ""))) (some (.str (Str.ofString ""))) (BB st t [] PR here)) (e_bind (p_tup2 rfl (p_call (ps := [.ref st.length]) (p_cons rfl rfl) (sort_ref BB_0 (Nat.lt_of_le_of_lt hPR (by decide))))) rfl) ⟨rfl, _, rfl⟩)⟩
end Mine
end
section
set_option Elab.async false
set_option maxRecDepth 100000
set_option linter.unusedVariables false
set_option linter.unusedSimpArgs false
namespace Mine
open PySem PySem.Calls PySem.W PyProof.Rows
noncomputable def uu (v : V) : Nat := namesS.cps.getD v.1 0
theorem uu_fin : ∀ v : V, uu v < 128 ∧ nm v.1 = ⟨#[uu v]⟩ ∧ ((⟨#[uu v]⟩ : Str) == Str.ofString "\n") = false := by
  have h : ∀ v : V, uu v < 128 ∧ ((⟨#[uu v]⟩ : Str) == Str.ofString "\n") = false := by decide +kernel
  exact fun v => ⟨(h v).1, rfl, (h v).2⟩
noncomputable def wordS (x : Str) : Str := Str.ofString "\\" ++ x ++ Str.ofString " "
theorem join_text (a b c d e : Nat) : Txt.join (Str.ofString "") [wordS ⟨#[a]⟩, wordS ⟨#[b]⟩, wordS ⟨#[c]⟩, wordS ⟨#[d]⟩, wordS ⟨#[e]⟩] = ⟨#[92, a, 32, 92, b, 32, 92, c, 32, 92, d, 32, 92, e, 32]⟩ := by kernel_rfl
theorem join_ok (a b c d e : Nat) : JoinOk (Str.ofString "") [wordS ⟨#[a]⟩, wordS ⟨#[b]⟩, wordS ⟨#[c]⟩, wordS ⟨#[d]⟩, wordS ⟨#[e]⟩] = true := by kernel_rfl
noncomputable def textOf (l : List V) : Str := Txt.join (Str.ofString "") (l.map fun v => wordS (nm v.1))
structure TextOk (l : List V) (text : Str) : Prop where
  eq : joinG [.str (Str.ofString ""), .lst (l.map fun v => .str (wordS (nm v.1)))] = fun st => some (.str text, st)
  ha : text.cps.all (· < 128) = true
  hz : text.cps.size ≤ 1000
  pc : ∀ m (h : m < l.length), pieceAt text (3 * m) = bsS ∧ pieceAt text (3 * m + 1) = nm l[m].1 ∧ pieceAt text (3 * m + 2) = spS
  en : pieceAt text 15 = Str.ofString ""
theorem text_ok {l : List V} (hl : l.length = 5) : TextOk l (textOf l) := by
  obtain ⟨a, b, c, d, e, rfl⟩ := five hl
  · have e1 : textOf [a, b, c, d, e] = ⟨#[92, uu a, 32, 92, uu b, 32, 92, uu c, 32, 92, uu d, 32, 92, uu e, 32]⟩ := join_text _ _ _ _ _
    rw [e1]
    refine ⟨?_, ?_, by show 15 ≤ 1000; omega, ?_, rfl⟩
    · funext st
      have e2 : (items? st (.lst ([a, b, c, d, e].map fun v => PV.str (wordS (nm v.1))))).bind texts? = some ([a, b, c, d, e].map fun v => wordS (nm v.1)) := by
        have := texts_strs ([a, b, c, d, e].map fun v => wordS (nm v.1))
        rw [List.map_map] at this
        exact this
      unfold joinG
      dsimp only
      rw [e2]
      dsimp only
      have q : JoinOk (Str.ofString "") (List.map (fun v : V => wordS (nm v.1)) [a, b, c, d, e]) = true := join_ok (uu a) (uu b) (uu c) (uu d) (uu e)
      rw [if_pos q]
      exact congrArg (fun t => some (PV.str t, st)) e1
    · have h1 := (uu_fin a).1
      have h2 := (uu_fin b).1
      have h3 := (uu_fin c).1
      have h4 := (uu_fin d).1
      have h5 := (uu_fin e).1
      simp [h1, h2, h3, h4, h5]
    · intro m h
      match m, h with
      | 0, _ => exact ⟨by kernel_rfl, by kernel_rfl, by kernel_rfl⟩
      | 1, _ => exact ⟨by kernel_rfl, by kernel_rfl, by kernel_rfl⟩
      | 2, _ => exact ⟨by kernel_rfl, by kernel_rfl, by kernel_rfl⟩
      | 3, _ => exact ⟨by kernel_rfl, by kernel_rfl, by kernel_rfl⟩
      | 4, _ => exact ⟨by kernel_rfl, by kernel_rfl, by kernel_rfl⟩
theorem word_run {v : V} (st : List AO) : addG (.str (Str.ofString "\\")) (.str (nm v.1)) st = some (.str (Str.ofString "\\" ++ nm v.1), st) ∧ addG (.str (Str.ofString "\\" ++ nm v.1)) (.str (Str.ofString " ")) st = some (.str (wordS (nm v.1)), st) := by
  have h1 : (Str.ofString "\\").length = 1 := by decide +kernel
  have h2 : (Str.ofString " ").length = 1 := by decide +kernel
  exact ⟨add_strs (by rw [h1, nm_len]; omega) st, add_strs (by rw [len_append, h1, h2, nm_len]; omega) st⟩
theorem xor_lt {a k : Nat} (ha : a < 1024) (hk : k < 10) (st : List AO) : ∃ b, b < 1024 ∧ xorI (inP a) (inP (2 ^ k)) st = some (inP b, st) := by
  have h2 : 2 ^ k < 1024 := Nat.pow_lt_pow_right (a := 2) (by omega) (show k < 10 from hk)
  have h3 : a ||| 2 ^ k < 1024 := Nat.or_lt_two_pow (n := 10) ha h2
  have h4 : a &&& 2 ^ k ≤ a ||| 2 ^ k := Nat.le_trans Nat.and_le_left Nat.left_le_or
  refine ⟨(a ||| 2 ^ k) - (a &&& 2 ^ k), by omega, ?_⟩
  have e1 : Builtin.bitOr (a : Int) ((2 ^ k : Nat) : Int) = ((a ||| 2 ^ k : Nat) : Int) := by
    have hn : ∀ n : Nat, decide (0 ≤ Builtin.bitNot (n : Int)) = false := fun n => by
      unfold Builtin.bitNot
      rw [decide_eq_false_iff_not]; omega
    have hnn : ∀ x, Builtin.bitNot (Builtin.bitNot x) = x := fun x => by
      unfold Builtin.bitNot; omega
    unfold Builtin.bitOr Builtin.bitAnd
    rw [hn, hn]
    dsimp only
    rw [hnn, hnn, hnn, Int.toNat_natCast, Int.toNat_natCast]
  show some (PV.int (Builtin.bitXor (a : Int) ((2 ^ k : Nat) : Int)), st) = _
  unfold Builtin.bitXor
  rw [bitAnd_nat, e1, ← Int.ofNat_sub h4]
theorem compItems_inv {α : Type} (f : α → PV) {chk : List AO → Bool} {S : PV → FM Unit} {T : FM Bool} {B : List PV → FM (List PV)} {Q : List α → List PV → ES → Prop}
    (h : ∀ x r zs es, Q (x :: r) zs es → chk es.st = true ∧ ∃ es₁ es₂ zs', S (f x) es = some ((), es₁) ∧ T es₁ = some (true, es₁) ∧ B zs es₁ = some (zs', es₂) ∧ Q r zs' es₂) (h0 : ∀ zs es, Q [] zs es → chk es.st = true) :
    ∀ ns zs es, Q ns zs es → ∃ zs' es', compItems chk S T B (ns.map f) zs es = some (zs', es') ∧ Q [] zs' es' := by
  intro ns
  induction ns with
  | nil => intro zs es q; exact ⟨zs, es, by simp [compItems, guardE, h0 _ _ q, pureE], q⟩
  | cons x r ih =>
    intro zs es q
    obtain ⟨h1, es₁, es₂, zs', e1, e2, e3, q'⟩ := h x r zs es q
    obtain ⟨zs'', es', e4, q''⟩ := ih zs' es₂ q'
    refine ⟨zs'', es', ?_, q''⟩
    simp only [List.map_cons, compItems, guardE, h1, if_true]
    exact e_bind e1 (e_bind e2 (by rw [if_pos rfl]; exact e_bind e3 e4))
theorem compE_inv {α : Type} (f : α → PV) {ns : List α} {chk : List AO → Bool} {I : FM Its} {S : PV → FM Unit} {T : FM Bool} {B : List PV → FM (List PV)} {es : ES} (Q : List α → List PV → ES → Prop) (hi : I es = some ((ns.map f, chk), es))
    (h : ∀ x r zs es, Q (x :: r) zs es → chk es.st = true ∧ ∃ es₁ es₂ zs', S (f x) es = some ((), es₁) ∧ T es₁ = some (true, es₁) ∧ B zs es₁ = some (zs', es₂) ∧ Q r zs' es₂) (h0 : ∀ zs es, Q [] zs es → chk es.st = true) (q : Q ns [] ⟨[none], es.cel, es.st⟩) :
    ∃ zs es', compE 1 I S T B es = some (zs, ⟨es.loc, es'.cel, es'.st⟩) ∧ Q [] zs es' := by
  obtain ⟨zs, es', e, q'⟩ := compItems_inv f h h0 ns [] _ q
  refine ⟨zs, es', ?_, q'⟩
  unfold compE
  rw [hi]
  simp only [List.replicate_one]
  rw [e]
noncomputable def Pre (st S : List AO) : Prop := ∃ X, S = st ++ X
theorem Pre.set {st S : List AO} {g : Nat} {v : AO} (p : Pre st S) (h : st.length ≤ g) : Pre st (S.set g v) := by
  obtain ⟨X, rfl⟩ := p
  obtain ⟨k, rfl⟩ := Nat.exists_eq_add_of_le h
  exact ⟨X.set k v, set_app _ _ _ _⟩
theorem Pre.app {st S : List AO} (p : Pre st S) (l : List AO) : Pre st (S ++ l) := by
  obtain ⟨X, rfl⟩ := p
  exact ⟨X ++ l, List.append_assoc _ _ _⟩
theorem Pre.get {st S : List AO} {i : Nat} {x : AO} (p : Pre st S) (h : st[i]? = some x) : S[i]? = some x := by
  obtain ⟨X, rfl⟩ := p
  rw [List.getElem?_append_left (lt_of h)]; exact h
end Mine
end
section
set_option Elab.async false
set_option maxRecDepth 100000
set_option linter.unusedVariables false
set_option linter.unusedSimpArgs false
namespace Mine
open PySem PySem.Calls PySem.W PyProof.Rows
theorem emit_of {X : FM PV} {zs : List PV} {p : PV} {es es' : ES} (h : X es = some (p, es')) (hz : zs.length ≤ 100) : emitE X zs es = some (zs ++ [p], es') := by
  unfold emitE
  exact e_bind h (by rw [if_pos (five_sz hz)]; rfl)
noncomputable abbrev TK (w : World) : FM PV := bindE (getC 0) fun p => guardE (isInst 76 (Str.ofString "get_token") p) (bindE (pureE []) fun ps => liftS (tokenR w (p :: ps)))
theorem tk_run (w : World) {i : Nat} {loc cel : List (Option PV)} {S S' : List AO} {p : PV} {n j : _} {pp : PV} {ws : Str} (hc : cel[0]? = some (some (.ref i))) (h1 : S[i]? = some (.inst 76 (kvW n pp ws j))) (h : tokenR w [.ref i] S = some (p, S')) : TK w ⟨loc, cel, S⟩ = some (p, ⟨loc, cel, S'⟩) :=
  e_meth (p := .ref i) (es₁ := ⟨loc, cel, S⟩) (es₂ := ⟨loc, cel, S⟩) (ps := []) (getC_at hc) (isInst_of h1 (get_gt _ _ _ _)) rfl h
noncomputable abbrev R6 : FM Its := bindE (consE (pureE (PV.int 6)) (pureE [])) (itsEs itsRange)
theorem its6 (es : ES) : R6 es = some (((List.range 6).map inP, fun _ => true), es) := its_one (n := 6) rfl (by decide)
theorem read6 (w : World) {st0 S : List AO} {i k j r g : Nat} {n : Int} {j2 : Nat} {text : Str} {l : List V} (hl : l.length = 5) (T : TextOk l text) (L : Lex S i k j r g n wsS j2 text [] []) (hp : Pre st0 S) (hg : st0.length ≤ g) {loc cel : List (Option PV)} (hc : cel[0]? = some (some (.ref i))) :
    ∃ S', compE 1 R6 (setL 0) (pureE true) (emitE (TK w)) ⟨loc, cel, S⟩ = some (l.map nmV ++ [.str (Str.ofString "")], ⟨loc, cel, S'⟩) ∧ (∃ gone, Lex S' i k j r g n wsS j2 text gone []) ∧ Pre st0 S' := by
  let Q : List Nat → List PV → ES → Prop := fun ns zs es => ∃ (m : Nat) (o : Option PV) (S' : List AO) (gone : List PV), m + ns.length = 6 ∧ es = ⟨[o], cel, S'⟩ ∧ Lex S' i k j r g n wsS j2 text gone [] ∧ Pre st0 S' ∧ ((m ≤ 5 ∧ gone.length = 3 * m ∧ zs = (l.take m).map nmV) ∨ (m = 6 ∧ zs = l.map nmV ++ [.str (Str.ofString "")]))
  have step : ∀ x ns zs es, Q (x :: ns) zs es → ((fun _ => true) es.st = true ∧ ∃ es₁ es₂ zs', setL 0 (inP x) es = some ((), es₁) ∧ (pureE true : FM Bool) es₁ = some (true, es₁) ∧ emitE (TK w) zs es₁ = some (zs', es₂) ∧ Q ns zs' es₂) := by
    intro x ns zs es q
    obtain ⟨m, o, S', gone, hm, rfl, L', hp', hz⟩ := q
    rw [List.length_cons] at hm
    rcases hz with ⟨h5, hgl, rfl⟩ | ⟨h, _⟩
    rotate_left
    · omega
    refine ⟨rfl, ?_⟩
    rcases Nat.lt_or_ge m 5 with h | h
    · have hml : m < l.length := hl.symm ▸ h
      obtain ⟨c0, c1, c2⟩ := T.pc m hml
      obtain ⟨u1, u2, u3⟩ := uu_fin l[m]
      have tr := token_read w (u := uu l[m]) L' (hgl.symm ▸ Nat.le_trans (Nat.mul_le_mul_left 3 h5) (by decide)) (by rw [hgl]; exact c0) (by rw [hgl, c1, u2]) u3 (by rw [hgl]; exact c2)
      have L2 := L'.ext (gone ++ [.str bsS, .str ⟨#[uu l[m]]⟩, .str spS]) [.meth (.ref 59) (.ref i), .citer (.ref S'.length) (.str (Str.ofString ""))]
      refine ⟨_, _, _, rfl, rfl, emit_of (tk_run w hc L'.lx tr) (by rw [List.length_map, List.length_take]; exact Nat.le_trans (Nat.min_le_left _ _) (Nat.le_trans h5 (by decide))), m + 1, _, _, _, (Nat.succ_add m _).trans hm, rfl, L2, (hp'.set hg).app _, .inl ⟨h, by rw [List.length_append, hgl]; rfl, ?_⟩⟩
      rw [List.take_add_one, List.map_append, List.getElem?_eq_getElem hml]
      show _ = _ ++ [nmV l[m]]
      unfold nmV
      rw [u2]
    · have hm5 : m = 5 := Nat.le_antisymm h5 h
      subst hm5
      have te := token_end w L' (hgl.symm ▸ (by decide)) (by rw [hgl]; exact T.en)
      refine ⟨_, _, _, rfl, rfl, emit_of (tk_run w hc L'.lx te) (by rw [List.length_map, List.length_take]; exact Nat.le_trans (Nat.min_le_left _ _) (by decide)), 6, _, _, gone, (Nat.succ_add 5 _).trans hm, rfl, L'.app _, hp'.app _, .inr ⟨rfl, ?_⟩⟩
      rw [List.take_of_length_le (Nat.le_of_eq hl)]
  obtain ⟨zs, es', e, m, o, S', gone, hm, rfl, L', hp', hz⟩ := compE_inv inP (ns := List.range 6) (chk := fun _ => true) (S := setL 0) (T := pureE true) (B := emitE (TK w)) Q (its6 ⟨loc, cel, S⟩) step (fun _ _ _ => rfl) ⟨0, none, S, [], by simp, rfl, L, hp, .inl ⟨by omega, rfl, rfl⟩⟩
  have hm : m = 6 := hm
  subst hm
  rcases hz with ⟨h, _⟩ | ⟨_, rfl⟩
  · omega
  · exact ⟨S', e, ⟨gone, L'⟩, hp'⟩
theorem wait6 (w : World) {S : List AO} {i j : Nat} {n : Int} {pp : PV} {ws : Str} {a b : List PV} (h1 : S[i]? = some (.inst 76 (kvW n pp ws j))) (h2 : S[j]? = some (.list (a ++ b))) (ha : a.length = 6) (hb : b.length ≤ 50) {loc cel : List (Option PV)} (hc : cel[0]? = some (some (.ref i))) :
    compE 1 R6 (setL 0) (pureE true) (emitE (TK w)) ⟨loc, cel, S⟩ = some (a, ⟨loc, cel, S.set j (.list b)⟩) := by
  have hij : i ≠ j := by rintro rfl; have := h1.symm.trans h2; cases this
  have hj := lt_of h2
  let Q : List Nat → List PV → ES → Prop := fun ns zs es => ∃ (o : Option PV) (a' : List PV), zs ++ a' = a ∧ a'.length = ns.length ∧ es = ⟨[o], cel, S.set j (.list (a' ++ b))⟩
  have step : ∀ x ns zs es, Q (x :: ns) zs es → ((fun _ => true) es.st = true ∧ ∃ es₁ es₂ zs', setL 0 (inP x) es = some ((), es₁) ∧ (pureE true : FM Bool) es₁ = some (true, es₁) ∧ emitE (TK w) zs es₁ = some (zs', es₂) ∧ Q ns zs' es₂) := by
    intro x ns zs es q
    obtain ⟨o, a', hz, hl, rfl⟩ := q
    match a', hl with
    | y :: a', hl =>
      have hl : a'.length = ns.length := Nat.succ.inj hl
      have hlen := congrArg List.length hz
      rw [List.length_append, List.length_cons, ha] at hlen
      have tw := token_wait w (st := S.set j (.list (y :: a' ++ b))) (i := i) (j := j) (x := y) (xs := a' ++ b) (by rw [List.getElem?_set_ne (Ne.symm hij)]; exact h1) (List.getElem?_set_self hj) (by rw [List.length_append]; exact five_sz (by omega))
      rw [List.set_set] at tw
      exact ⟨rfl, _, _, _, rfl, rfl, emit_of (tk_run w hc (by rw [List.getElem?_set_ne (Ne.symm hij)]; exact h1) tw) (by omega), _, a', by rw [← hz, List.append_assoc]; rfl, hl, rfl⟩
  obtain ⟨zs, es', e, o, a', hz, hl, rfl⟩ := compE_inv inP (ns := List.range 6) (chk := fun _ => true) (S := setL 0) (T := pureE true) (B := emitE (TK w)) Q (its6 ⟨loc, cel, S⟩) step (fun _ _ _ => rfl) ⟨none, a, rfl, by rw [ha]; rfl, by rw [set_same h2]⟩
  have hl : a' = [] := List.length_eq_zero_iff.mp hl
  subst hl
  rw [List.append_nil] at hz
  subst hz
  exact e
theorem push_all (w : World) {S : List AO} {i j : Nat} {n : Int} {pp : PV} {ws : Str} {xs items : List PV} (h1 : S[i]? = some (.inst 76 (kvW n pp ws j))) (h2 : S[j]? = some (.list xs)) (hz : xs.length + items.length ≤ 50) {Lf : Option PV → List (Option PV)} {cel : List (Option PV)} (hc : cel[0]? = some (some (.ref i)))
    (hset : ∀ o p S, setL 10 p ⟨Lf o, cel, S⟩ = some ((), ⟨Lf (some p), cel, S⟩)) (hget : ∀ p S, getL 10 ⟨Lf (some p), cel, S⟩ = some (p, ⟨Lf (some p), cel, S⟩)) {I : FM Its} {o : Option PV} (hi : I ⟨Lf o, cel, S⟩ = some ((items, fun _ => true), ⟨Lf o, cel, S⟩)) :
    Ev (forE I (setL 10) (seqE (bindE (bindE (getC 0) fun p => guardE (isInst 76 (Str.ofString "push_token") p) (bindE (consE (getL 10) (pureE [])) fun ps => liftS (ptokR w (p :: ps)))) fun x => pureE PF.next) (pureE PF.next))) ⟨Lf o, cel, S⟩ fun y es' => y = .next ∧ ∃ o', es' = ⟨Lf o', cel, S.set j (.list (xs ++ items))⟩ := by
  have hij : i ≠ j := by rintro rfl; have := h1.symm.trans h2; cases this
  have hj := lt_of h2
  let Q : List PV → ES → Prop := fun r es => ∃ (o : Option PV) (d : List PV), d ++ r = xs ++ items ∧ es = ⟨Lf o, cel, S.set j (.list d)⟩
  refine ev_for (f := id) (ns := items) (chk := fun _ => true) (es₁ := ⟨Lf o, cel, S⟩) (by rw [List.map_id]; exact hi) (ev_mono (ev_items (Q := Q) ?_ (fun _ _ => rfl) _ _ ⟨o, xs, rfl, by rw [set_same h2]⟩) ?_)
  · rintro x r _ ⟨o, d, hd, rfl⟩
    have hlen := congrArg List.length hd
    rw [List.length_append, List.length_append, List.length_cons] at hlen
    refine ⟨rfl, ev_bind (ev_eq (y := ()) (hset _ _ _) (ev_last (ev_eq (y := .next) (es' := ⟨Lf (some x), cel, S.set j (.list (d ++ [x]))⟩) ?_ ⟨.inl rfl, _, d ++ [x], by rw [List.append_assoc]; exact hd, rfl⟩)))⟩
    have g1 : (S.set j (.list d))[i]? = some (.inst 76 (kvW n pp ws j)) := by rw [List.getElem?_set_ne (Ne.symm hij)]; exact h1
    have pt := ptok_run w (x := x) g1 (List.getElem?_set_self hj) (five_sz (by omega))
    rw [List.set_set] at pt
    exact e_expr (p := .none) (e_meth (p := .ref i) (es₁ := ⟨Lf (some x), cel, S.set j (.list d)⟩) (es₂ := ⟨Lf (some x), cel, S.set j (.list d)⟩) (ps := [x]) (getC_at hc) (isInst_of g1 (get_pt _ _ _ _)) (p_cons (hget _ _) rfl) pt)
  · rintro _ es ⟨rfl, o, d, hd, rfl⟩
    rw [List.append_nil] at hd
    subst hd
    exact ⟨rfl, _, rfl⟩
theorem eqvAll_strs : ∀ l : List Str, PyData.eqvAll (l.map PyData.str) (l.map PyData.str) = true
  | [] => by simp [PyData.eqvAll]
  | x :: l => by simp [PyData.eqvAll, PyData.eqv, eqvAll_strs l]
theorem ne_list {l : List Str} (h : ∀ x ∈ l, PyData.strOk x = true) (st : List AO) : neG (.lst (l.map .str)) (.lst (l.map .str)) st = some (.bool false, st) := by
  have h2 : datS st (.lst (l.map .str)) = some (.list (l.map PyData.str)) := by
    show ((l.map PV.str).mapM (dat 5)).map PyData.list = _
    have := mapM_strs (fun x : Str => x) l h
    rw [this]; rfl
  unfold neG
  rw [h2]
  dsimp only
  simp only [PyData.eqv, eqvAll_strs]
  rfl
theorem ne_bool (a : Bool) (st : List AO) : neG (.bool a) (.bool a) st = some (.bool false, st) := by
  cases a <;> rfl
theorem bs_ok : PyData.strOk (Str.ofString "") = true := by decide +kernel
theorem ok_app {x y : Str} (hx : PyData.strOk x = true) (hy : PyData.strOk y = true) : PyData.strOk (x ++ y) = true := by
  obtain ⟨a⟩ := x
  obtain ⟨b⟩ := y
  show (a ++ b).all _ = true
  rw [Array.all_append]
  exact (Bool.and_eq_true _ _).mpr ⟨hx, hy⟩
end Mine
end
section
set_option Elab.async false
set_option maxRecDepth 100000
set_option linter.unusedVariables false
set_option linter.unusedSimpArgs false
namespace Mine
open PySem PySem.Calls PySem.W PyProof.Rows
theorem lexer_run {st : List AO} {text : Str} (h : st[0]? = some (AO.tab 314 posP qP)) : lexerG [.str text] st = some (.ref (st.length + 4), st ++ lexNew st.length text) := by
  unfold lexerG
  rw [h]
  dsimp only
  rw [if_pos ⟨rfl, rfl, rfl⟩]
theorem lex_new {st : List AO} {text : Str} (ha : text.cps.all (· < 128) = true) (hz : text.cps.size ≤ 1000) : Lex (st ++ lexNew st.length text) (st.length + 4) st.length (st.length + 5) (st.length + 3) (st.length + 2) 1 wsS (st.length + 1) text [] [] :=
  ⟨get_app _ _ 4, get_app0 _ _, get_app _ _ 3, get_app _ _ 2, get_app _ _ 5, by omega, ha, hz⟩
theorem ints_nats : ∀ l : List Nat, ints? (l.map inP) = some (l.map fun n : Nat => (n : Int))
  | [] => rfl
  | n :: l => by
    have := ints_nats l
    rw [List.map_cons]
    unfold ints? at this ⊢
    simp only [List.mapM_cons, this]
    rfl
theorem sum_nats (l : List Nat) : (l.map fun n : Nat => (n : Int)).sum = ((l.sum : Nat) : Int) := by
  induction l with
  | nil => rfl
  | cons n l ih => rw [List.map_cons, List.sum_cons, ih, List.sum_cons]; exact (Int.natCast_add _ _).symm
theorem sum_run (l : List Nat) (st : List AO) : sumG [.lst (l.map inP)] st = some (inP l.sum, st) := by
  have e : (items? st (.lst (l.map inP))).bind ints? = some (l.map fun n : Nat => (n : Int)) := ints_nats l
  unfold sumG
  dsimp only
  rw [e]
  dsimp only
  rw [sum_nats]
theorem nats_of {l : List Nat} (h : ∀ x ∈ l, x < 32) : natsOf (l.map inP) = some l := by
  induction l with
  | nil => rfl
  | cons n l ih =>
    have ih := ih fun x m => h x (.tail _ m)
    have h1 := h n (.head _)
    unfold natsOf at ih ⊢
    rw [List.map_cons, List.mapM_cons, ih]
    dsimp only
    rw [if_pos ⟨by omega, by omega⟩]
    rfl
theorem ties_g {b : Nat} (h : b < 1024) (st : List AO) : tiesG [inP b] st = some (.tup [.ref (st.length + 1), .lst ((tiedL b).map inP)], st ++ [.list (hsL b), .inst 308 (kvH st.length)]) := by
  unfold tiesG
  dsimp only
  rw [if_pos ⟨by omega, by omega⟩, Int.toNat_natCast]
theorem kept_g {t : List Nat} (h : ∀ x ∈ t, x < 32) (h5 : t.length = 5) (st : List AO) : keptG [.lst (t.map inP)] st = some (inP (keptN t), st) := by
  unfold keptG
  dsimp only
  rw [nats_of h]
  dsimp only
  rw [if_pos h5]
theorem crossed_g {t : List Nat} (h : ∀ x ∈ t, x < 32) (h5 : t.length = 5) (st : List AO) : crossedG [.lst (t.map inP)] st = some (.bool (crossedN t), st) := by
  unfold crossedG
  dsimp only
  rw [nats_of h]
  dsimp only
  rw [if_pos h5]
theorem drawn_g {t : List Nat} {k : Nat} (h : ∀ x ∈ t, x < 32) (h5 : t.length = 5) (hk : k < 32) (st : List AO) : drawnG [.lst (t.map inP), inP k] st = some (.lst ((drawnN t k).map .str), st) := by
  unfold drawnG
  dsimp only
  rw [nats_of h]
  dsimp only
  rw [if_pos ⟨h5, by omega, by omega⟩, Int.toNat_natCast]
theorem order_g (n : Nat) (st : List AO) : orderG [inP n] st = some (.lst ((orderN n).map fun v => .str (nm v)), st) := by
  unfold orderG
  dsimp only
  rw [if_pos (by omega), Int.toNat_natCast]
theorem cut_len : ∀ n < 64, (sliceL n none (some 12) none).length ≤ 12 := by decide +kernel
theorem slice_cut {xs : List Int} (h : xs.length < 64) (st : List AO) : ∃ ds : List Int, ds.length ≤ 12 ∧ sliceG (.lst (xs.map PV.int)) .none (.int 12) .none st = some (.lst (ds.map PV.int), st) := by
  refine ⟨pick (sliceL xs.length none (some 12) none) xs, Nat.le_trans (List.length_filterMap_le _ _) (cut_len _ h), ?_⟩
  have e : pick (sliceL (xs.map PV.int).length none (some 12) none) (xs.map PV.int) = (pick (sliceL xs.length none (some 12) none) xs).map PV.int := by
    unfold pick
    rw [List.length_map, List.map_filterMap]
    congr 1
    funext i
    exact List.getElem?_map
  unfold sliceG
  dsimp only [part?, items?]
  rw [if_pos (by simp), if_pos (by rw [List.length_map]; exact five_sz (by omega)), e]
theorem slice_rev {a b c d e : PV} (st : List AO) : sliceG (.lst [a, b, c, d, e]) .none .none (.int (-1)) st = some (.lst [e, d, c, b, a], st) := by
  have h : sliceL 5 none none (some (-1)) = [4, 3, 2, 1, 0] := by decide +kernel
  unfold sliceG
  dsimp only [part?, items?]
  rw [if_pos (by simp), if_pos (five_sz (by simp))]
  show some (PV.lst (pick (sliceL 5 none none (some (-1))) _), st) = _
  rw [h]
  rfl
theorem pow_ten (st : List AO) : powI (.int 10) (.int 6) st = some (inP 1000000, st) := by
  unfold powI
  dsimp only
  rw [if_pos (by decide)]
  rfl
theorem mod_int (i : Int) (st : List AO) : modI (.int i) (inP 1000000) st = some (inP (i.fmod 1000000).toNat, st) := by
  have h0 : (0 : Int) ≤ i.fmod 1000000 := Int.fmod_nonneg_of_pos _ (by omega)
  unfold modI
  dsimp only
  rw [if_pos (by decide), inN_nat h0]
  rfl
end Mine
end
section
set_option Elab.async false
set_option maxRecDepth 100000
set_option linter.unusedVariables false
set_option linter.unusedSimpArgs false
namespace Mine
open PySem PySem.Calls PySem.W PyProof.Rows
structure Base (st : List AO) (t h rw bits : Nat) (rows : List Str) : Prop where
  tab : st[0]? = some (AO.tab 314 posP qP)
  ti : st[t]? = some (.inst 308 (kvH h))
  hs : st[h]? = some (.list (hsL bits))
  ro : st[rw]? = some (.list (rows.map .str))
  ne : h ≠ rw
noncomputable abbrev LL (sc l1 dr b3 : Option PV) (t bits : Nat) (pts : Option PV) (rw : Nat) (l9 l10 l11 l12 l13 l14 l15 c0 : Option PV) (S : List AO) : ES :=
  ⟨[sc, l1, dr, b3, some (.ref t), some (.lst ((tiedL bits).map inP)), some (.bool (crossedN (tiedL bits))), pts, some (.ref rw), l9, l10, l11, l12, l13, l14, l15], [c0, some (inP (keptN (tiedL bits)))], S⟩
noncomputable def toksS (l : List V) : List Str := l.map (fun v => nm v.1) ++ [Str.ofString ""]
theorem toks_eq (l : List V) : l.map nmV ++ [.str (Str.ofString "")] = (toksS l).map .str := by
  unfold toksS
  rw [List.map_append, List.map_map]; rfl
theorem toks_ok (l : List V) : ∀ x ∈ toksS l, PyData.strOk x = true := by
  intro x m
  unfold toksS at m
  rcases List.mem_append.mp m with m | m
  · obtain ⟨v, _, rfl⟩ := List.mem_map.mp m
    exact nm_ok v.2
  · rw [List.mem_singleton] at m
    subst m
    exact bs_ok
theorem nms_map (l : List V) : l.map nmV = (l.map fun v => nm v.1).map .str := by rw [List.map_map]; rfl
theorem marks_ok : ∀ (l : List (Bool × V)) (m : Str), PyData.strOk m = true → PyData.strOk (marksOf l m) = true
  | [], m, h => h
  | e :: l, m, h => marks_ok l _ (ok_app (mark_eq e.1).2 h)
theorem marks_eq {a b : List (Bool × V)} (h : a.map (·.1) = b.map (·.1)) (m : Str) : marksOf a m = marksOf b m := by
  have : ∀ (l : List (Bool × V)) m, marksOf l m = (l.map (·.1)).foldl (fun acc e => markS e ++ acc) m := by
    intro l
    induction l with
    | nil => intro m; rfl
    | cons e l ih => intro m; exact ih _
  rw [this, this, h]
theorem pair_ok : ∀ a b : V, PyData.strOk (pairS a.1 b.1) = true := by decide +kernel
theorem row_nd {row : V → V} (inj : ∀ a b, row a = row b → a = b) : (pts0.map row).Nodup := row_nodup inj
theorem kept_comp (k : Nat) (loc : List (Option PV)) (c0 : Option PV) (S : List AO) : compE 1 (bindE (consE (pureE (PV.int 5)) (pureE [])) (itsEs itsRange)) (setL 0)
    (bindE (bindE (bindE (getC 1) fun p => bindE (bindE (pureE (PV.int 2)) fun p => bindE (getL 0) fun q => liftS (powI p q)) fun q => liftS (divI p q)) fun p => bindE (pureE (PV.int 2)) fun q => liftS (modI p q)) fun p => liftS (truthG p))
    (emitE (bindE (bindE (pureE []) fun ps => liftS (namesG ps)) fun p => bindE (getL 0) fun q => liftS (getI p q))) ⟨loc, [c0, some (inP k)], S⟩ = some ((((List.range 5).filter k.testBit).map nm).map .str, ⟨loc, [c0, some (inP k)], S⟩) := by
  have e : (((List.range 5).filter k.testBit).map nm).map PV.str = ((List.range 5).filter fun v => k.testBit v).map fun v => .str (nm v) := by rw [List.map_map]; rfl
  rw [e]
  refine compE_pure (chk := fun _ => true) (es := ⟨loc, [c0, some (inP k)], S⟩) inP (fun v => k.testBit v) (fun v => .str (nm v)) (List.range 5) (its_one (n := 5) rfl (by decide)) rfl ?_ ?_ (five_sz (by simp))
  · intro v m
    have hv := List.mem_range.mp m
    have := p_lift (e_bit (es := ⟨[some (inP v)], [c0, some (inP k)], S⟩) (c := k) (a := v) (X := getC 1) (Y := getL 0) rfl rfl (by omega)) (truth_nat _ _)
    rw [bit_ne] at this
    exact this
  · intro v m _
    have hv := List.mem_range.mp m
    exact p_bin (p := .str namesS) (q := inP v) rfl rfl (names_at hv _)
end Mine
end
section
set_option Elab.async false
set_option maxRecDepth 100000
set_option linter.unusedVariables false
set_option linter.unusedSimpArgs false
namespace Mine
open PySem PySem.Calls PySem.W PyProof.Rows
theorem gt_zero (n : Nat) (st : List AO) : gtI (inP n) (.int 0) st = some (.bool (n != 0), st) := by
  show some (PV.bool (decide ((0 : Int) < (n : Int))), st) = _
  have : decide ((0 : Int) < (n : Int)) = (n != 0) := by rw [Bool.eq_iff_iff]; simp; omega
  rw [this]
theorem gone_eq (w : World) {st : List AO} {t h i j : Nat} {n : Int} {pp : PV} {ws : Str} {bits : Nat} {l0 : List V} (G : Graph bits) (ht : st[t]? = some (.inst 308 (kvH h))) (hh : st[h]? = some (.list (hsL bits))) (hi : st[i]? = some (.inst 76 (kvW n pp ws j))) (hj : st[j]? = some (.list (l0.map nmV))) (hne : h ≠ j) (hn : l0.Nodup) (hl : l0.length = 5) :
    goneR w [.ref t, .ref i] st = some (.ref st.length, GG st j (runA (adjF (tiedL bits)) 15 ([], l0))) := by
  obtain ⟨_, _, e, rfl, rfl⟩ := gone_ev w G ht hh hi hj rfl hne hn hl
  exact e
theorem back_eq (w : World) {st : List AO} {t : Nat} {pile : List (Bool × V)} {W : List V} (ht : st[t]? = some (.linst 160 kvA (pile.map pileE))) (h5 : pile.length + W.length = 5) :
    ∃ X, backR w [.ref t, .lst (W.map nmV)] st = some (.tup [.str (marksOf pile.reverse (Str.ofString "")), .lst ((sortS ((backA pile.reverse W).map fun p => pairS p.1.1 p.2.1)).map .str)], st.set t (.linst 160 kvA []) ++ X) := by
  obtain ⟨_, _, e, rfl, X, rfl⟩ := back_ev w ht h5
  exact ⟨X, e⟩
set_option maxHeartbeats 8000000 in
theorem law_ev (w : World) {script : List Int} (hs : script.length < 64) {st : List AO} (h0 : st[0]? = some (AO.tab 314 posP qP)) :
    ∃ y st', runK (1 + 0) [] [some 0, none, none, none, none, none, none, none, none, none, none, none, none, none, none, none] [none, none] (s_law w).1 [.lst (script.map PV.int)] st = some (y, st') ∧ (y = .bool true ∧ st'[0]? = some (AO.tab 314 posP qP)) := by
  refine runK_ev rfl ?_
  simp only [s_law, List.map, Option.bind, List.append_nil, List.getElem?_cons_zero]
  obtain ⟨ds, hd, hsl⟩ := slice_cut hs st
  let dr : List Nat := ds.map fun i : Int => (i.fmod 1000000).toNat
  have hdr : dr.length ≤ 12 := by show (List.map _ ds).length ≤ 12; rw [List.length_map]; exact hd
  let A (l1 l2 l3 : Option PV) : ES := ⟨[some (.lst (script.map PV.int)), l1, l2, l3, none, none, none, none, none, none, none, none, none, none, none, none], [none, none], st⟩
  refine ev_seq (ev_eq (y := .next) (es' := A none (some (.lst (dr.map inP))) none) (e_asg (p := .lst (dr.map inP)) (es₁ := A none none none) (e_lst ?_) rfl) ⟨rfl, ?_⟩)
  · have e : dr.map inP = (ds.filter fun _ => true).map fun i : Int => inP (i.fmod 1000000).toNat := by
      rw [List.filter_eq_self.mpr (fun _ _ => rfl)]
      show (List.map _ (List.map _ ds)) = _
      rw [List.map_map]; rfl
    rw [e]
    refine compE_pure (chk := fun _ => true) (es := A none none none) PV.int (fun _ => true) (fun i : Int => inP (i.fmod 1000000).toNat) ds ?_ rfl (fun _ _ => rfl) ?_ (five_sz (Nat.le_trans hd (by decide)))
    · exact itsV_of (p := .lst (ds.map PV.int)) (es := A none none none) (p_slice (v := .lst (script.map PV.int)) (l := .none) (u := .int 12) (k := .none) rfl rfl rfl rfl hsl) rfl
    · intro i _ _
      exact p_bin (p := .int i) (q := inP 1000000) (p_call (ps := [.int i]) (p_cons rfl rfl) rfl) (p_bin (p := .int 10) (q := .int 6) rfl rfl (pow_ten _)) (mod_int i _)
  refine ev_seq (ev_eq (y := .next) (es' := A none (some (.lst (dr.map inP))) (some (inP 966))) rfl ⟨rfl, ?_⟩)
  refine ev_seq (ev_mono (ev_for (f := inP) (ns := dr) (chk := fun _ => true) (es₁ := A none (some (.lst (dr.map inP))) (some (inP 966))) (itsV_of (p := .lst (dr.map inP)) rfl rfl) (ev_items (Q := fun _ es => ∃ l1 b, b < 1024 ∧ es = A l1 (some (.lst (dr.map inP))) (some (inP b))) ?_ (fun _ _ => rfl) _ _ ⟨none, 966, by omega, rfl⟩)) ?_)
  · rintro c r _ ⟨l1, b, hb, rfl⟩
    obtain ⟨b', hb', hx⟩ := xor_lt hb (Nat.mod_lt c (by decide) : c % 10 < 10) st
    refine ⟨rfl, ev_bind (ev_eq (y := ()) (es' := A (some (inP c)) (some (.lst (dr.map inP))) (some (inP b))) rfl (ev_last (ev_eq (y := .next) (es' := A (some (inP c)) (some (.lst (dr.map inP))) (some (inP b'))) ?_ ⟨.inl rfl, _, b', hb', rfl⟩)))⟩
    exact e_aug (es₁ := A (some (inP c)) (some (.lst (dr.map inP))) (some (inP b))) (p := inP b) rfl (p_bin (p := .int 2) (q := inP (c % 10)) rfl (p_bin (p := inP c) (q := inP 10) rfl rfl (mod_nat (by decide) _)) (pow_nat (Nat.le_trans (Nat.le_of_lt (Nat.mod_lt c (by decide))) (by decide)) _)) hx rfl
  rintro _ _ ⟨rfl, l1, bits, hb, rfl⟩
  refine ⟨rfl, ?_⟩
  have G := graph hb
  let n := st.length
  let st1 : List AO := st ++ [.list (hsL bits), .inst 308 (kvH n)]
  let B (l4 l5 l6 l7 l8 c1 : Option PV) (S : List AO) : ES := ⟨[some (.lst (script.map PV.int)), l1, some (.lst (dr.map inP)), some (inP bits), l4, l5, l6, l7, l8, none, none, none, none, none, none, none], [none, c1], S⟩
  let tp := some (PV.ref (n + 1))
  let td := some (PV.lst ((tiedL bits).map inP))
  refine ev_seq (ev_eq (y := .next) (es' := B tp td none none none none st1) (e_asg (p := .tup [.ref (n + 1), .lst ((tiedL bits).map inP)]) (es₁ := B none none none none none none st1) (e_bind (y := [inP bits]) (es₁ := A l1 (some (.lst (dr.map inP))) (some (inP bits))) (p_cons rfl rfl) ?_) rfl) ⟨rfl, ?_⟩)
  · unfold liftS
    have := ties_g hb st
    rw [show (A l1 (some (.lst (dr.map inP))) (some (inP bits))).st = st from rfl, this]
  let cr := some (PV.bool (crossedN (tiedL bits)))
  let kp := some (inP (keptN (tiedL bits)))
  refine ev_seq (ev_eq (y := .next) (es' := B tp td cr none none kp st1) (e_asg (p := .tup [inP (keptN (tiedL bits)), .bool (crossedN (tiedL bits))]) (es₁ := B tp td none none none none st1) (p_tup2 (p_call (ps := [.lst ((tiedL bits).map inP)]) (p_cons rfl rfl) (kept_g G.lt G.len _)) (p_call (ps := [.lst ((tiedL bits).map inP)]) (p_cons rfl rfl) (crossed_g G.lt G.len _))) rfl) ⟨rfl, ?_⟩)
  obtain ⟨row, inj, hrow⟩ := row_of (order_perm (dr.sum / 10))
  obtain ⟨pts, hpts⟩ : ∃ pts : List V, pts = pts0.map row := ⟨_, rfl⟩
  have hpl : pts.length = 5 := by rw [hpts]; rfl
  have hpn : pts.Nodup := by rw [hpts]; exact row_nd inj
  have hord : orderG [inP (dr.sum / 10)] st1 = some (.lst (pts.map nmV), st1) := by
    rw [order_g, hrow, ← hpts, List.map_map]; rfl
  let pp := some (PV.lst (pts.map nmV))
  refine ev_seq (ev_eq (y := .next) (es' := B tp td cr pp none kp st1) (e_asg (p := .lst (pts.map nmV)) (es₁ := B tp td cr none none kp st1) (p_call (ps := [inP (dr.sum / 10)]) (p_cons (p_bin (p := inP dr.sum) (q := inP 10) (p_call (ps := [.lst (dr.map inP)]) (p_cons rfl rfl) (sum_run _ _)) rfl (div_nat (by decide) (by decide) _)) rfl) hord) rfl) ⟨rfl, ?_⟩)
  have hst1 : st1.length = n + 2 := by show (st ++ _).length = _; simp [n]
  let st2 : List AO := st1 ++ [.list []]
  let C := LL (some (.lst (script.map PV.int))) l1 (some (.lst (dr.map inP))) (some (inP bits)) (n + 1) bits pp (n + 2)
  refine ev_seq (ev_eq (y := .next) (es' := C none none none none none none none none st2) (e_asg (p := .ref (n + 2)) (es₁ := B tp td cr pp none kp st2) ?_ rfl) ⟨rfl, ?_⟩)
  · refine e_bind (y := []) (es₁ := B tp td cr pp none kp st1) rfl ?_
    unfold newE
    refine (if_pos (Nat.zero_le _)).trans ?_
    show some (PV.ref st1.length, _) = _
    rw [hst1]
  have b0 : Base st2 (n + 1) n (n + 2) bits [] := by
    refine ⟨?_, ?_, ?_, ?_, Nat.ne_of_lt (Nat.lt_add_of_pos_right (by decide))⟩
    · show (st1 ++ _)[0]? = _
      have : st1[0]? = some (AO.tab 314 posP qP) := by
        show (st ++ _)[0]? = _
        rw [List.getElem?_append_left (lt_of h0)]; exact h0
      rw [List.getElem?_append_left (lt_of this)]; exact this
    · show ((st ++ [AO.list (hsL bits), .inst 308 (kvH n)]) ++ _)[st.length + 1]? = _
      rw [List.append_assoc, get_app]; rfl
    · show ((st ++ [AO.list (hsL bits), .inst 308 (kvH n)]) ++ _)[st.length]? = _
      rw [List.append_assoc, get_app0]; rfl
    · rw [← hst1]
      exact get_app0 _ _
  let mk (l : List V) : Str := marksOf (runA (adjF (tiedL bits)) 15 ([], l)).1.reverse (Str.ofString "")
  let Q : List (List V) → ES → Prop := fun rem es => ∃ (l9 l10 l11 l12 l13 l14 l15 c0 : Option PV) (S : List AO) (done : List (List V)), es = C l9 l10 l11 l12 l13 l14 l15 c0 S ∧ Base S (n + 1) n (n + 2) bits (done.map mk) ∧ done ++ rem = [pts, pts.reverse]
  refine ev_seq (ev_mono (ev_for (f := fun l : List V => PV.lst (l.map nmV)) (ns := [pts, pts.reverse]) (chk := fun _ => true) (es₁ := C none none none none none none none none st2) ?_ (ev_items (Q := Q) ?_ (fun _ _ => rfl) _ _ ⟨_, _, _, _, _, _, _, _, _, [], rfl, b0, rfl⟩)) ?_)
  · have hrev : sliceG (.lst (pts.map nmV)) .none .none (.int (-1)) st2 = some (.lst (pts.reverse.map nmV), st2) := by
      obtain ⟨a, b, c, d, e, h⟩ := five hpl
      rw [h]
      exact slice_rev _
    exact itsV_of (p := .tup [.lst (pts.map nmV), .lst (pts.reverse.map nmV)]) (es := C none none none none none none none none st2) (p_tup2 rfl (p_slice (v := .lst (pts.map nmV)) (l := .none) (u := .none) (k := .int (-1)) rfl rfl rfl (p_lift (p := .int 1) rfl rfl) hrev)) rfl
  · rintro l rem _ ⟨l9, l10, l11, l12, l13, l14, l15, c0, S, done, rfl, bs, hdone⟩
    refine ⟨rfl, ev_bind (ev_eq (y := ()) (es' := C (some (.lst (l.map nmV))) l10 l11 l12 l13 l14 l15 c0 S) rfl ?_)⟩
    have hl : ∃ row : V → V, (∀ a b, row a = row b → a = b) ∧ l = pts0.map row := by
      have m : l ∈ [pts, pts.reverse] := by rw [← hdone]; simp
      rcases List.mem_cons.mp m with rfl | m
      · exact ⟨row, inj, hpts⟩
      · rw [List.mem_singleton] at m
        refine ⟨fun a => row (rev5 a), fun a b e => ?_, by rw [m, hpts]; rfl⟩
        have := inj _ _ e
        have hr : ∀ a b : V, rev5 a = rev5 b → a = b := by decide
        exact hr _ _ this
    obtain ⟨row', inj', hl⟩ := hl
    have hl5 : l.length = 5 := by rw [hl]; rfl
    have hln : l.Nodup := by rw [hl]; exact row_nd inj'
    obtain ⟨SS', hSS⟩ : ∃ SS', SS' = runA (adjF (tiedL bits)) 15 ([], l) := ⟨_, rfl⟩
    have ask := (asked hb inj' (S := SS') (by rw [hSS, hl])).1
    have hperm := run_perm (adjF (tiedL bits)) 15 ([], l)
    rw [← hSS] at hperm
    have hlen := hperm.length_eq
    simp only [List.map_nil, List.nil_append, List.length_append, List.length_map, hl5] at hlen
    have T := text_ok hl5
    let rowP := some (PV.lst (l.map nmV))
    let li := S.length + 4
    let S1 : List AO := S ++ lexNew S.length (textOf l)
    have L1 : Lex S1 li S.length (S.length + 5) (S.length + 3) (S.length + 2) 1 wsS (S.length + 1) (textOf l) [] [] := lex_new T.ha T.hz
    have htx : compE 1 (bindE (getL 9) (itsE itsV)) (setL 0) (pureE true) (emitE (bindE (bindE (pureE (PV.str (Str.ofString "\\"))) fun p => bindE (getL 0) fun q => liftS (addG p q)) fun p => bindE (pureE (PV.str (Str.ofString " "))) fun q => liftS (addG p q))) (C rowP l10 l11 l12 l13 l14 l15 c0 S) = some (l.map fun v => .str (wordS (nm v.1)), C rowP l10 l11 l12 l13 l14 l15 c0 S) := by
      have e : (l.map fun v : V => PV.str (wordS (nm v.1))) = (l.filter fun _ => true).map fun v : V => .str (wordS (nm v.1)) := by rw [List.filter_eq_self.mpr (fun _ _ => rfl)]
      rw [e]
      refine compE_pure (chk := fun _ => true) (es := C rowP l10 l11 l12 l13 l14 l15 c0 S) nmV (fun _ => true) (fun v => .str (wordS (nm v.1))) l (itsV_of (p := .lst (l.map nmV)) rfl rfl) rfl (fun _ _ => rfl) ?_ (five_sz (by rw [hl5]; decide))
      intro v _ _
      exact p_bin (p := .str (Str.ofString "\\" ++ nm v.1)) (q := .str (Str.ofString " ")) (p_bin (p := .str (Str.ofString "\\")) (q := .str (nm v.1)) rfl rfl (word_run _).1) rfl (word_run _).2
    refine ev_seq (ev_eq (y := .next) (es' := C rowP l10 l11 l12 l13 l14 l15 (some (.ref li)) S1) (e_asg (p := .ref li) (es₁ := C rowP l10 l11 l12 l13 l14 l15 c0 S1) (e_bind (y := [.str (textOf l)]) (es₁ := C rowP l10 l11 l12 l13 l14 l15 c0 S) (p_cons ?_ rfl) ?_) rfl) ⟨rfl, ?_⟩)
    · refine p_meth (p := .str (Str.ofString "")) (ps := [.lst (l.map fun v => .str (wordS (nm v.1)))]) rfl rfl ?_ ?_
      · refine p_cons (e_lst ?_) rfl
        exact htx
      · rw [T.eq]
    · unfold liftS
      rw [show (C rowP l10 l11 l12 l13 l14 l15 c0 S).st = S from rfl, lexer_run bs.tab]
    obtain ⟨lic, hlic⟩ : ∃ o, o = some (PV.ref li) := ⟨_, rfl⟩
    rw [← hlic]
    obtain ⟨S2, hr, ⟨gone, L2⟩, p2⟩ := read6 w hl5 T L1 (st0 := S) ⟨_, rfl⟩ (Nat.le_add_right _ _) (loc := (C rowP l10 l11 l12 l13 l14 l15 lic S1).loc) (cel := (C rowP l10 l11 l12 l13 l14 l15 lic S1).cel) (by rw [hlic]; rfl)
    let rd := some (PV.lst ((toksS l).map .str))
    refine ev_seq (ev_eq (y := .next) (es' := C rowP l10 rd l12 l13 l14 l15 lic S2) (e_asg (p := .lst ((toksS l).map .str)) (es₁ := C rowP l10 l11 l12 l13 l14 l15 lic S2) (e_lst ?_) rfl) ⟨rfl, ?_⟩)
    · rw [← toks_eq]
      exact hr
    have htl : (toksS l).length = 6 := by
      unfold toksS
      rw [List.length_append, List.length_map, hl5]; rfl
    refine ev_seq (ev_ite (ev_eq (y := false) (es' := C rowP l10 rd l12 l13 l14 l15 lic S2) ?_ ?_))
    · refine p_lift (p := .bool false) ?_ (truth_bool _ _)
      refine p_bin (p := .lst ((toksS l).map .str)) (q := .lst ((toksS l).map .str)) rfl ?_ (ne_list (toks_ok l) _)
      refine p_bin (p := .lst (l.map nmV)) (q := .lst [.str (Str.ofString "")]) rfl ?_ ?_
      · refine e_bind (p_cons rfl rfl) ?_
        unfold lstE
        rw [if_pos (five_sz (by simp))]; rfl
      · rw [add_lsts (by rw [List.length_map, hl5]; simp), toks_eq]
    refine ev_eq (y := .next) rfl ⟨rfl, ?_⟩
    let items : List PV := (toksS l).map .str ++ l.map nmV
    have hitems : items.length = 11 := by
      show (_ ++ _ : List PV).length = _
      rw [List.length_append, List.length_map, List.length_map, htl, hl5]
    have hi : (bindE (bindE (getL 11) fun p => bindE (getL 9) fun q => liftS (addG p q)) (itsE itsV)) (C rowP l10 rd l12 l13 l14 l15 lic S2) = some ((items, fun _ => true), C rowP l10 rd l12 l13 l14 l15 lic S2) := by
      refine itsV_of (p := .lst items) ?_ rfl
      refine p_bin (p := .lst ((toksS l).map .str)) (q := .lst (l.map nmV)) rfl rfl ?_
      exact add_lsts (by rw [List.length_map, List.length_map, htl, hl5]; decide)
    let jj := S.length + 5
    let S3 : List AO := S2.set jj (.list ([] ++ items))
    have pu := push_all w (S := S2) (i := li) (j := jj) (xs := []) (items := items) L2.lx L2.pb (by rw [hitems]; simp) (Lf := fun o => (C rowP o rd l12 l13 l14 l15 lic S2).loc) (cel := (C rowP l10 rd l12 l13 l14 l15 lic S2).cel) (by rw [hlic]; rfl) (fun _ _ _ => rfl) (fun _ _ => rfl) (o := l10) hi
    refine ev_seq (ev_mono pu ?_)
    rintro _ _ ⟨rfl, o10, rfl⟩
    refine ⟨rfl, ?_⟩
    show Ev _ (C rowP o10 rd l12 l13 l14 l15 lic S3) _
    have hj2 := lt_of L2.pb
    have hij : li ≠ jj := fun q => absurd (Nat.add_left_cancel q) (by decide)
    have h3i : S3[li]? = some (.inst 76 (kvW 1 (.ref S.length) wsS jj)) := by
      show (S2.set _ _)[_]? = _
      rw [List.getElem?_set_ne (Ne.symm hij)]; exact L2.lx
    have h3j : S3[jj]? = some (.list ((toksS l).map .str ++ l.map nmV)) := List.getElem?_set_self hj2
    let S4 : List AO := S3.set jj (.list (l.map nmV))
    have hw6 := wait6 w h3i h3j (by rw [List.length_map]; exact htl) (by rw [List.length_map, hl5]; decide) (loc := (C rowP o10 rd l12 l13 l14 l15 lic S3).loc) (cel := (C rowP o10 rd l12 l13 l14 l15 lic S3).cel) (by rw [hlic]; rfl)
    refine ev_seq (ev_ite (ev_eq (y := false) (es' := C rowP o10 rd l12 l13 l14 l15 lic S4) ?_ ?_))
    · refine e_lift (p := .bool false) (es₁ := C rowP o10 rd l12 l13 l14 l15 lic S4) ?_ (truth_bool _ _)
      refine e_bin (p := .lst ((toksS l).map .str)) (q := .lst ((toksS l).map .str)) (es₁ := C rowP o10 rd l12 l13 l14 l15 lic S4) (es₂ := C rowP o10 rd l12 l13 l14 l15 lic S4) (e_lst ?_) rfl (ne_list (toks_ok l) _)
      exact hw6
    refine ev_eq (y := .next) rfl ⟨rfl, ?_⟩
    have hj4 : S4[jj]? = some (.list (l.map nmV)) := List.getElem?_set_self (by rw [List.length_set]; exact hj2)
    have h4i : S4[li]? = some (.inst 76 (kvW 1 (.ref S.length) wsS jj)) := by
      show (S3.set _ _)[_]? = _
      rw [List.getElem?_set_ne (Ne.symm hij)]; exact h3i
    have p4 : Pre S S4 := (p2.set (Nat.le_add_right S.length 5)).set (Nat.le_add_right S.length 5)
    have hnl := lt_of bs.hs
    have hj4l := lt_of hj4
    have eg := gone_eq w G (p4.get bs.ti) (p4.get bs.hs) h4i hj4 (Nat.ne_of_lt (Nat.lt_of_lt_of_le hnl (Nat.le_add_right S.length 5))) hln hl5
    rw [← hSS] at eg
    let S5 : List AO := GG S4 jj SS'
    let pl := some (PV.ref S4.length)
    refine ev_seq (ev_eq (y := .next) (es' := C rowP o10 rd pl l13 l14 l15 lic S5) (e_asg (p := .ref S4.length) (es₁ := C rowP o10 rd l12 l13 l14 l15 lic S5) (e_bind (y := [.ref (n + 1), .ref li]) (es₁ := C rowP o10 rd l12 l13 l14 l15 lic S4) (p_cons rfl (p_cons ?_ rfl)) ?_) rfl) ⟨rfl, ?_⟩)
    · exact getC_at (by rw [hlic]; rfl)
    · unfold liftS
      rw [show (C rowP o10 rd l12 l13 l14 l15 lic S4).st = S4 from rfl, eg]
    have h5i : S5[li]? = some (.inst 76 (kvW 1 (.ref S.length) wsS jj)) := GG_old h4i hij
    let wt := some (PV.lst (SS'.2.map nmV))
    have hWl : (SS'.2.map nmV).length ≤ 100 := by rw [List.length_map]; omega
    refine ev_seq (ev_eq (y := .next) (es' := C rowP o10 rd pl wt l14 l15 lic S5) (e_asg (p := .lst (SS'.2.map nmV)) (es₁ := C rowP o10 rd pl l13 l14 l15 lic S5) (p_call (ps := [.ref jj]) (p_cons (p_lift (p := .ref li) ?_ (getA_pb w h5i)) rfl) (list_ref (GG_j hj4l) hWl)) rfl) ⟨rfl, ?_⟩)
    · exact getC_at (by rw [hlic]; rfl)
    refine ev_seq (ev_ite (ev_eq (y := false) (es' := C rowP o10 rd pl wt l14 l15 lic S5) ?_ ?_))
    · refine p_lift (p := .bool false) ?_ (truth_bool _ _)
      refine p_bin (p := .bool (crossedN (tiedL bits))) (q := .bool (crossedN (tiedL bits))) ?_ rfl (ne_bool _ _)
      refine p_bin (p := inP (SS'.2.map nmV).length) (q := .int 0) (p_call (ps := [.lst (SS'.2.map nmV)]) (p_cons rfl rfl) (len_lst hWl _)) rfl ?_
      rw [gt_zero, ask.cr]
      cases SS'.2 <;> rfl
    refine ev_eq (y := .next) rfl ⟨rfl, ?_⟩
    refine ev_seq (ev_ite (ev_eq (y := false) (es' := C rowP o10 rd pl wt l14 l15 lic S5) ?_ ?_))
    · refine p_lift (p := .bool false) ?_ (truth_bool _ _)
      have hok : ∀ x ∈ sortS (SS'.2.map fun v => nm v.1), PyData.strOk x = true := fun x m => by
        obtain ⟨v, _, rfl⟩ := List.mem_map.mp ((sortS_perm _).mem_iff.mp m)
        exact nm_ok v.2
      refine p_bin (p := .lst ((sortS (SS'.2.map fun v => nm v.1)).map .str)) (q := .lst ((sortS (SS'.2.map fun v => nm v.1)).map .str)) (p_call (ps := [.lst (SS'.2.map nmV)]) (p_cons rfl rfl) ?_) ?_ (ne_list hok _)
      · rw [nms_map]
        exact sort_lst (by rw [List.length_map]; omega)
      · rw [ask.wait]
        refine p_call (ps := [.lst ((((List.range 5).filter (keptN (tiedL bits)).testBit).map nm).map .str)]) (p_cons (e_lst ?_) rfl) (sort_lst ?_)
        · exact kept_comp _ _ _ _
        · rw [List.length_map]
          have := List.length_filter_le (keptN (tiedL bits)).testBit (List.range 5)
          rw [List.length_range] at this
          omega
    refine ev_eq (y := .next) rfl ⟨rfl, ?_⟩
    obtain ⟨X, eb⟩ := back_eq w (st := S5) (t := S4.length) (W := SS'.2) GG_n hlen
    let S6 : List AO := S5.set S4.length (.linst 160 kvA []) ++ X
    let mm := marksOf SS'.1.reverse (Str.ofString "")
    let prr := sortS ((backA SS'.1.reverse SS'.2).map fun p => pairS p.1.1 p.2.1)
    refine ev_seq (ev_eq (y := .next) (es' := C rowP o10 rd pl wt (some (.str mm)) (some (.lst (prr.map .str))) lic S6) (e_asg (p := .tup [.str mm, .lst (prr.map .str)]) (es₁ := C rowP o10 rd pl wt l14 l15 lic S6) (e_bind (y := [.ref S4.length, .lst (SS'.2.map nmV)]) (es₁ := C rowP o10 rd pl wt l14 l15 lic S5) (p_cons rfl (p_cons rfl rfl)) ?_) rfl) ⟨rfl, ?_⟩)
    · unfold liftS
      rw [show (C rowP o10 rd pl wt l14 l15 lic S5).st = S5 from rfl, eb]
    refine ev_seq (ev_ite (ev_eq (y := false) (es' := C rowP o10 rd pl wt (some (.str mm)) (some (.lst (prr.map .str))) lic S6) ?_ ?_))
    · refine p_lift (p := .bool false) ?_ (truth_bool _ _)
      have hok : ∀ x ∈ prr, PyData.strOk x = true := fun x m => by
        obtain ⟨p, _, rfl⟩ := List.mem_map.mp ((sortS_perm _).mem_iff.mp m)
        exact pair_ok p.1 p.2
      refine p_bin (p := .lst (prr.map .str)) (q := .lst (prr.map .str)) rfl ?_ (ne_list hok _)
      rw [show prr = drawnN (tiedL bits) (keptN (tiedL bits)) from ask.drawn]
      exact p_call (ps := [.lst ((tiedL bits).map inP), inP (keptN (tiedL bits))]) (p_cons rfl (p_cons rfl rfl)) (drawn_g G.lt G.len (kept_lt _) _)
    refine ev_eq (y := .next) rfl ⟨rfl, ?_⟩
    have p5 : Pre S S5 := (p4.set (Nat.le_add_right S.length 5)).app _
    have p4l : S.length ≤ S4.length := by
      obtain ⟨Y, hY⟩ := p4
      rw [hY, List.length_append]; exact Nat.le_add_right _ _
    have p6 : Pre S S6 := (p5.set p4l).app _
    have h6r := p6.get bs.ro
    have hdl : done.length ≤ 2 := by
      have := congrArg List.length hdone
      rw [List.length_append] at this
      simp only [List.length_cons, List.length_nil] at this
      omega
    refine ev_last (ev_eq (y := .next) (es' := C rowP o10 rd pl wt (some (.str mm)) (some (.lst (prr.map .str))) lic (S6.set (n + 2) (.list (((done ++ [l]).map mk).map .str)))) (e_expr (p := .none) ?_) ⟨.inl rfl, _, _, _, _, _, _, _, _, _, done ++ [l], rfl, ?_, by rw [List.append_assoc]; exact hdone⟩)
    · refine e_meth (p := .ref (n + 2)) (es₁ := C rowP o10 rd pl wt (some (.str mm)) (some (.lst (prr.map .str))) lic S6) (es₂ := C rowP o10 rd pl wt (some (.str mm)) (some (.lst (prr.map .str))) lic S6) (ps := [.str mm]) rfl (isLst_ref h6r) (p_cons rfl rfl) ?_
      rw [append_ref h6r (by rw [List.length_map, List.length_map]; omega)]
      have : ((done.map mk).map PV.str ++ [.str mm]) = ((done ++ [l]).map mk).map .str := by
        rw [List.map_append, List.map_append]
        show _ = _ ++ [PV.str (mk l)]
        have : mk l = mm := by
          show marksOf _ _ = marksOf _ _
          rw [← hSS]
        rw [this]
      rw [this]
    · refine ⟨?_, ?_, ?_, ?_, bs.ne⟩
      · rw [List.getElem?_set_ne (Nat.succ_ne_zero _)]; exact p6.get bs.tab
      · rw [List.getElem?_set_ne (fun q => absurd (Nat.add_left_cancel q) (by decide))]; exact p6.get bs.ti
      · rw [List.getElem?_set_ne (Nat.ne_of_gt (Nat.lt_add_of_pos_right (by decide)))]; exact p6.get bs.hs
      · exact List.getElem?_set_self (lt_of h6r)
  · rintro _ _ ⟨rfl, l9, l10, l11, l12, l13, l14, l15, c0, S, done, rfl, bs, hdone⟩
    rw [List.append_nil] at hdone
    refine ⟨rfl, ?_⟩
    subst hdone
    have hm : mk pts = mk pts.reverse := by
      have := (asked hb inj (S := runA (adjF (tiedL bits)) 15 ([], pts)) (by rw [hpts])).2
      rw [← hpts] at this
      show marksOf _ _ = marksOf _ _
      refine marks_eq ?_ _
      unfold marksA at this
      rw [List.map_reverse, List.map_reverse, this]
    have g1 : getI (.ref (n + 2)) (.int 0) S = some (.str (mk pts), S) := getI_ref (by decide) bs.ro rfl
    have g2 : getI (.ref (n + 2)) (.int 1) S = some (.str (mk pts.reverse), S) := getI_ref (by decide) bs.ro rfl
    have ge : eqG (.str (mk pts)) (.str (mk pts.reverse)) S = some (.bool true, S) := by
      rw [eq_strs (marks_ok _ _ bs_ok) (marks_ok _ _ bs_ok)]
      show some (PV.bool (mk pts == mk pts.reverse), S) = _
      rw [hm]
      simp
    exact ev_last (ev_eq (y := .ret (.bool true)) (es' := C l9 l10 l11 l12 l13 l14 l15 c0 S) (e_bind (p_bin (p_bin (p := .ref (n + 2)) (q := .int 0) rfl rfl g1) (p_bin (p := .ref (n + 2)) (q := .int 1) rfl rfl g2) ge) rfl) ⟨rfl, bs.tab⟩)
end Mine
end
section
set_option Elab.async false
set_option maxRecDepth 100000
set_option linter.unusedVariables false
set_option linter.unusedSimpArgs false
namespace Mine
open PySem PySem.Calls PySem.W PyProof.Rows
theorem in_tab {P : Params} {h : Heap} (Y : (kFrag2 P).In h) : h.get? 314 = some { cls := .none, data := .fields #[] } := Y 314 _ rfl
theorem code_tab {P : Params} {h : Heap} (Y : (kFrag P).In h) : isCodeTable h 314 := ⟨318, _, _, Y 318 _ rfl, rfl, rfl, rfl⟩
theorem ints_vals {P : Params} {h : Heap} {ρ : Rho} {ns : List Int} {vs : List Value} (x : WellAll P h vs (ns.map WData.int)) : RVs h ρ vs (ns.map PV.int) := by
  induction ns generalizing vs with
  | nil => cases x; exact .nil
  | cons n ns ih =>
    cases x with
    | cons y r =>
      cases y
      exact .cons (.int _ _) (ih r)
theorem start_ok (w : World) {s : Shared} (Y : (kFrag2 w.params).In s.heap) (hl : s.heap.NoLimit) : RelS (C2 w).K ⟨[[314]], []⟩ [.tab 314 posP qP] s.heap := by
  refine ⟨rfl, ?_, by decide, ?_, in_rest Y, hl⟩
  · intro i as ao e1 e2
    match i, e1, e2 with
    | 0, e1, e2 =>
      cases e1; cases e2
      exact ⟨#[], rfl, in_tab Y, trivial, .inl rfl⟩
    | i + 1, e1, _ => cases e1
  · intro a m
    have : a = 314 := List.mem_singleton.mp m
    subst this
    exact ⟨no_tab _, by decide, _, in_tab Y⟩
theorem law_good (w : World) {s₀ s₁ : Shared} {args : List WData} {vals : List Value} (Y : (kFrag2 w.params).In s₁.heap) (hl : s₁.heap.NoLimit) (hg : s₁.gens = #[])
    (hpre : PySem.Challenge.rw_tc0040_02.row.claim.pre args = true) (hwl : WellAll w.params s₁.heap vals args) :
    wpAny (model PySem.Challenge.rw_tc0040_02.row.prog w) callerA (call (.ref 372) vals)
      (fun v s' => GoodWG PySem.Challenge.rw_tc0040_02.row.claim (classAt s₀.heap) (ExcName.means s₀.heap) args s₁ (Except.ok (Flow.ret v)) s')
      (fun e s' => GoodWG PySem.Challenge.rw_tc0040_02.row.claim (classAt s₀.heap) (ExcName.means s₀.heap) args s₁ (Except.error e) s') s₁ := by
  obtain ⟨hsh, hp⟩ := pre_splitW (r := PySem.Challenge.rw_tc0040_02.row.toRowW) hpre
  have hsh : WShape.hasAll [] args [.list .int] = true := hsh
  obtain ⟨d, r, rfl, h1, h2⟩ := hasAllW_cons hsh
  obtain rfl := hasAllW_nil h2
  obtain ⟨xs, rfl, h3⟩ := hasW_list h1
  obtain ⟨ns, rfl⟩ := items_int h3
  have hlen : ns.length < 64 := by
    have hp : WTm.holds [] (.and (.not (.lt (.lit (.int 63)) (.len (.arg 0)))) (.lit (.bool true))) { args := [WData.list (ns.map WData.int)] } = true := hp
    have e : less? (WData.int 63) (WData.int (ns.length : Int)) = some (decide ((63 : Int) < (ns.length : Int))) := rfl
    simp only [WTm.holds, WTm.value, List.getElem?_cons_zero, List.length_map, e, Option.map_some] at hp
    by_cases q : (63 : Int) < (ns.length : Int)
    · simp [q] at hp
    · omega
  cases hwl with
  | cons hv hr =>
    cases hr
    cases hv with
    | list ho hvs =>
      rename_i a vs
      have hna : a ∉ (⟨[[314]], []⟩ : Rho).own := fun m => by
        have : a = 314 := List.mem_singleton.mp m
        subst this
        rw [in_tab Y] at ho
        cases ho
      have hrv : RVs s₁.heap ⟨[[314]], []⟩ [.ref a] [.lst (ns.map PV.int)] := .cons (.lst hna ⟨_, ho⟩ (ints_vals hvs)) .nil
      obtain ⟨y, st', e, rfl, h0⟩ := law_ev w (script := ns) hlen (st := [.tab 314 posP qP]) rfl
      have hA : AOk 7 callerA := ⟨rfl, by decide, by decide⟩
      refine wpAny_mono ((r_law w).ok.run callerA hA ⟨[[314]], []⟩ s₁ [.tab 314 posP qP] [.ref a] [.lst (ns.map PV.int)] _ _ e hrv (start_ok w Y hl)) (fun v s' z => ?_) fun _ _ z => z.elim
      obtain ⟨ρ', R, g, q, rv⟩ := z
      cases rv
      have htab : ∃ ps, s'.heap.get? 314 = some { cls := .none, data := .fields ps } := by
        obtain ⟨t, ht⟩ := g.pre
        have he : ρ'.ents[0]? = some [314] := by rw [← ht]; rfl
        obtain ⟨ps, _, hps, _⟩ := R.objs 0 _ _ he h0
        exact ⟨ps, hps⟩
      have hkeep : ∀ b o, s₁.heap.get? b = some o → b ≠ 314 → s'.heap.get? b = some o := fun b o hb ne =>
        g.keep b o hb (fun m => nomatch m) fun m => ne (List.mem_singleton.mp m)
      refine ⟨.inl ⟨_, .bool true, [], rfl, fun _ => rfl, ReadsW.bool true, ?_, fun _ => ⟨List.nodup_nil, fun _ hm => nomatch hm⟩⟩, ⟨fun b o hb => ?_, fun b o hb => ?_⟩, q.2.2, .of_eq (q.1.trans hg)⟩
      · show (WShape.has [] (.bool true) .bool && WTm.holds [] (WTm.res.eq (WTm.lit (.bool true))) { args := [WData.list (ns.map WData.int)], res := some (.bool true), after := [WData.list (ns.map WData.int)] }) = true
        have e : PySem.W.same (WData.bool true) (WData.bool true) = true := by simp [PySem.W.same]
        simp [WTm.holds, WTm.value, WShape.has, WShape.arms, e]
      · by_cases hbt : b = 314
        · subst hbt
          rw [in_tab Y] at hb
          cases hb
          obtain ⟨ps, hps⟩ := htab
          exact .inr (.inl ⟨code_tab (in_rest Y), rfl, #[], ps, rfl, by simpa using hps⟩)
        · exact .inl (hkeep b o hb hbt)
      · by_cases hbt : b = 314
        · subst hbt
          obtain ⟨ps, hps⟩ := htab
          exact ⟨_, hps⟩
        · exact ⟨o, hkeep b o hb hbt⟩
end Mine
end
set_option Elab.async false
open PySem PySem.Calls PySem.W PyProof.Rows
theorem PySem.Challenge.cw_tc0040_02_holds : PySem.Challenge.rw_tc0040_02.Holds :=
  Mine.hdMain fun w s₀ s₁ args vals Y hl hg hpre hwl => Mine.law_good w Y hl hg hpre hwl
