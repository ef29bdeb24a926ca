import PyProof.Rows.All
import Wide.All
import Open.Line
import OpenK.KMore
import PyProof.DictItemsLoops
import Lean
import PySem.Challenge.RW_tc0040_03
set_option bootstrap.genMatcherCode false
set_option Elab.async false
set_option maxRecDepth 100000
set_option linter.unusedVariables false
set_option linter.unusedSimpArgs false
namespace Mine
open PySem PySem.Calls PySem.W PyProof.Rows
noncomputable abbrev P2 := PySem.Challenge.pw_tc0040_03
noncomputable def at1 (p : Program) (i : Nat) : Option Stmt := p.main.body[i]?
noncomputable def at2 (p : Program) (i j : Nat) : Option Stmt := match p.main.body[i]? with
  | some (.ClassDef _ _ _ b ..) => b[j]?
  | _ => none
noncomputable def defB : Option Stmt → List Stmt
  | some (.FunctionDef _ _ b ..) => b
  | _ => []
noncomputable def defA : Option Stmt → Arguments
  | some (.FunctionDef _ a ..) => a
  | _ => default
noncomputable def defS : Option Stmt → Scope
  | some (.FunctionDef _ _ _ _ _ _ sc ..) => sc
  | _ => default
noncomputable abbrev sv (x : String) (t : Tok) : Value := .str (Str.ofString x) t
noncomputable def en (P : Params) (x : String) (t : Tok) (v : Value) : DictEntry := ⟨PyData.keyHash P (Str.ofString x), sv x t, v⟩
noncomputable def fd38 : FuncData := { name := (Str.ofString "_wall"), qualname := (Str.ofString "_wall"), params := (defA (at1 P2 1)), body := .stmts (defB (at1 P2 1)), scope := (defS (at1 P2 1)), globals := 3, closure := [], defaults := .none, kwdefaults := .none, doc := .none, pyModule := (sv "__main__" 164), annotations := none, code := (.ref 37), closureTuple := .none, builtins := 0 }
noncomputable def fd61 : FuncData := { name := (Str.ofString "_formatparam"), qualname := (Str.ofString "_formatparam"), params := (defA (at1 P2 6)), body := .stmts (defB (at1 P2 6)), scope := (defS (at1 P2 6)), globals := 3, closure := [], defaults := (.ref 54), kwdefaults := .none, doc := .none, pyModule := (sv "cpy313.wsgiref.headers" 289), annotations := none, code := (.ref 60), closureTuple := .none, builtins := 0 }
noncomputable def fd76 : FuncData := { name := (Str.ofString "__init__"), qualname := (Str.ofString "Headers.__init__"), params := (defA (at2 P2 7 0)), body := .stmts (defB (at2 P2 7 0)), scope := (defS (at2 P2 7 0)), globals := 3, closure := [], defaults := (.ref 69), kwdefaults := .none, doc := .none, pyModule := (sv "cpy313.wsgiref.headers" 289), annotations := none, code := (.ref 75), closureTuple := .none, builtins := 0 }
noncomputable def fd83 : FuncData := { name := (Str.ofString "_convert_string_type"), qualname := (Str.ofString "Headers._convert_string_type"), params := (defA (at2 P2 7 1)), body := .stmts (defB (at2 P2 7 1)), scope := (defS (at2 P2 7 1)), globals := 3, closure := [], defaults := .none, kwdefaults := .none, doc := .none, pyModule := (sv "cpy313.wsgiref.headers" 289), annotations := none, code := (.ref 82), closureTuple := .none, builtins := 0 }
noncomputable def fd90 : FuncData := { name := (Str.ofString "__len__"), qualname := (Str.ofString "Headers.__len__"), params := (defA (at2 P2 7 2)), body := .stmts (defB (at2 P2 7 2)), scope := (defS (at2 P2 7 2)), globals := 3, closure := [], defaults := .none, kwdefaults := .none, doc := .none, pyModule := (sv "cpy313.wsgiref.headers" 289), annotations := none, code := (.ref 89), closureTuple := .none, builtins := 0 }
noncomputable def fd97 : FuncData := { name := (Str.ofString "__setitem__"), qualname := (Str.ofString "Headers.__setitem__"), params := (defA (at2 P2 7 3)), body := .stmts (defB (at2 P2 7 3)), scope := (defS (at2 P2 7 3)), globals := 3, closure := [], defaults := .none, kwdefaults := .none, doc := .none, pyModule := (sv "cpy313.wsgiref.headers" 289), annotations := none, code := (.ref 96), closureTuple := .none, builtins := 0 }
noncomputable def fd102 : FuncData := { name := (Str.ofString "__delitem__"), qualname := (Str.ofString "Headers.__delitem__"), params := (defA (at2 P2 7 4)), body := .stmts (defB (at2 P2 7 4)), scope := (defS (at2 P2 7 4)), globals := 3, closure := [], defaults := .none, kwdefaults := .none, doc := .none, pyModule := (sv "cpy313.wsgiref.headers" 289), annotations := none, code := (.ref 101), closureTuple := .none, builtins := 0 }
noncomputable def fd109 : FuncData := { name := (Str.ofString "__getitem__"), qualname := (Str.ofString "Headers.__getitem__"), params := (defA (at2 P2 7 5)), body := .stmts (defB (at2 P2 7 5)), scope := (defS (at2 P2 7 5)), globals := 3, closure := [], defaults := .none, kwdefaults := .none, doc := .none, pyModule := (sv "cpy313.wsgiref.headers" 289), annotations := none, code := (.ref 108), closureTuple := .none, builtins := 0 }
noncomputable def fd116 : FuncData := { name := (Str.ofString "__contains__"), qualname := (Str.ofString "Headers.__contains__"), params := (defA (at2 P2 7 6)), body := .stmts (defB (at2 P2 7 6)), scope := (defS (at2 P2 7 6)), globals := 3, closure := [], defaults := .none, kwdefaults := .none, doc := .none, pyModule := (sv "cpy313.wsgiref.headers" 289), annotations := none, code := (.ref 115), closureTuple := .none, builtins := 0 }
noncomputable def fd123 : FuncData := { name := (Str.ofString "get_all"), qualname := (Str.ofString "Headers.get_all"), params := (defA (at2 P2 7 7)), body := .stmts (defB (at2 P2 7 7)), scope := (defS (at2 P2 7 7)), globals := 3, closure := [], defaults := .none, kwdefaults := .none, doc := .none, pyModule := (sv "cpy313.wsgiref.headers" 289), annotations := none, code := (.ref 122), closureTuple := .none, builtins := 0 }
noncomputable def fd131 : FuncData := { name := (Str.ofString "get"), qualname := (Str.ofString "Headers.get"), params := (defA (at2 P2 7 8)), body := .stmts (defB (at2 P2 7 8)), scope := (defS (at2 P2 7 8)), globals := 3, closure := [], defaults := (.ref 124), kwdefaults := .none, doc := .none, pyModule := (sv "cpy313.wsgiref.headers" 289), annotations := none, code := (.ref 130), closureTuple := .none, builtins := 0 }
noncomputable def fd136 : FuncData := { name := (Str.ofString "keys"), qualname := (Str.ofString "Headers.keys"), params := (defA (at2 P2 7 9)), body := .stmts (defB (at2 P2 7 9)), scope := (defS (at2 P2 7 9)), globals := 3, closure := [], defaults := .none, kwdefaults := .none, doc := .none, pyModule := (sv "cpy313.wsgiref.headers" 289), annotations := none, code := (.ref 135), closureTuple := .none, builtins := 0 }
noncomputable def fd141 : FuncData := { name := (Str.ofString "values"), qualname := (Str.ofString "Headers.values"), params := (defA (at2 P2 7 10)), body := .stmts (defB (at2 P2 7 10)), scope := (defS (at2 P2 7 10)), globals := 3, closure := [], defaults := .none, kwdefaults := .none, doc := .none, pyModule := (sv "cpy313.wsgiref.headers" 289), annotations := none, code := (.ref 140), closureTuple := .none, builtins := 0 }
noncomputable def fd148 : FuncData := { name := (Str.ofString "items"), qualname := (Str.ofString "Headers.items"), params := (defA (at2 P2 7 11)), body := .stmts (defB (at2 P2 7 11)), scope := (defS (at2 P2 7 11)), globals := 3, closure := [], defaults := .none, kwdefaults := .none, doc := .none, pyModule := (sv "cpy313.wsgiref.headers" 289), annotations := none, code := (.ref 147), closureTuple := .none, builtins := 0 }
noncomputable def fd155 : FuncData := { name := (Str.ofString "__repr__"), qualname := (Str.ofString "Headers.__repr__"), params := (defA (at2 P2 7 12)), body := .stmts (defB (at2 P2 7 12)), scope := (defS (at2 P2 7 12)), globals := 3, closure := [], defaults := .none, kwdefaults := .none, doc := .none, pyModule := (sv "cpy313.wsgiref.headers" 289), annotations := none, code := (.ref 154), closureTuple := .none, builtins := 0 }
noncomputable def fd160 : FuncData := { name := (Str.ofString "__str__"), qualname := (Str.ofString "Headers.__str__"), params := (defA (at2 P2 7 13)), body := .stmts (defB (at2 P2 7 13)), scope := (defS (at2 P2 7 13)), globals := 3, closure := [], defaults := .none, kwdefaults := .none, doc := .none, pyModule := (sv "cpy313.wsgiref.headers" 289), annotations := none, code := (.ref 159), closureTuple := .none, builtins := 0 }
noncomputable def fd167 : FuncData := { name := (Str.ofString "__bytes__"), qualname := (Str.ofString "Headers.__bytes__"), params := (defA (at2 P2 7 14)), body := .stmts (defB (at2 P2 7 14)), scope := (defS (at2 P2 7 14)), globals := 3, closure := [], defaults := .none, kwdefaults := .none, doc := .none, pyModule := (sv "cpy313.wsgiref.headers" 289), annotations := none, code := (.ref 166), closureTuple := .none, builtins := 0 }
noncomputable def fd174 : FuncData := { name := (Str.ofString "setdefault"), qualname := (Str.ofString "Headers.setdefault"), params := (defA (at2 P2 7 15)), body := .stmts (defB (at2 P2 7 15)), scope := (defS (at2 P2 7 15)), globals := 3, closure := [], defaults := .none, kwdefaults := .none, doc := .none, pyModule := (sv "cpy313.wsgiref.headers" 289), annotations := none, code := (.ref 173), closureTuple := .none, builtins := 0 }
noncomputable def fd181 : FuncData := { name := (Str.ofString "add_header"), qualname := (Str.ofString "Headers.add_header"), params := (defA (at2 P2 7 16)), body := .stmts (defB (at2 P2 7 16)), scope := (defS (at2 P2 7 16)), globals := 3, closure := [], defaults := .none, kwdefaults := .none, doc := .none, pyModule := (sv "cpy313.wsgiref.headers" 289), annotations := none, code := (.ref 180), closureTuple := .none, builtins := 0 }
noncomputable def fd205 : FuncData := { name := (Str.ofString "__init__"), qualname := (Str.ofString "_Accumulator.__init__"), params := (defA (at2 P2 10 0)), body := .stmts (defB (at2 P2 10 0)), scope := (defS (at2 P2 10 0)), globals := 3, closure := [((Str.ofString "__class__"), 192)], defaults := (.ref 197), kwdefaults := .none, doc := .none, pyModule := (sv "cpy313.email.header" 552), annotations := none, code := (.ref 204), closureTuple := (.ref 198), builtins := 0 }
noncomputable def fd212 : FuncData := { name := (Str.ofString "push"), qualname := (Str.ofString "_Accumulator.push"), params := (defA (at2 P2 10 1)), body := .stmts (defB (at2 P2 10 1)), scope := (defS (at2 P2 10 1)), globals := 3, closure := [], defaults := .none, kwdefaults := .none, doc := .none, pyModule := (sv "cpy313.email.header" 552), annotations := none, code := (.ref 211), closureTuple := .none, builtins := 0 }
noncomputable def fd220 : FuncData := { name := (Str.ofString "pop_from"), qualname := (Str.ofString "_Accumulator.pop_from"), params := (defA (at2 P2 10 2)), body := .stmts (defB (at2 P2 10 2)), scope := (defS (at2 P2 10 2)), globals := 3, closure := [], defaults := (.ref 213), kwdefaults := .none, doc := .none, pyModule := (sv "cpy313.email.header" 552), annotations := none, code := (.ref 219), closureTuple := .none, builtins := 0 }
noncomputable def fd228 : FuncData := { name := (Str.ofString "pop"), qualname := (Str.ofString "_Accumulator.pop"), params := (defA (at2 P2 10 3)), body := .stmts (defB (at2 P2 10 3)), scope := (defS (at2 P2 10 3)), globals := 3, closure := [((Str.ofString "__class__"), 192)], defaults := .none, kwdefaults := .none, doc := .none, pyModule := (sv "cpy313.email.header" 552), annotations := none, code := (.ref 227), closureTuple := (.ref 221), builtins := 0 }
noncomputable def fd235 : FuncData := { name := (Str.ofString "__len__"), qualname := (Str.ofString "_Accumulator.__len__"), params := (defA (at2 P2 10 4)), body := .stmts (defB (at2 P2 10 4)), scope := (defS (at2 P2 10 4)), globals := 3, closure := [], defaults := .none, kwdefaults := .none, doc := .none, pyModule := (sv "cpy313.email.header" 552), annotations := none, code := (.ref 234), closureTuple := .none, builtins := 0 }
noncomputable def fd242 : FuncData := { name := (Str.ofString "__str__"), qualname := (Str.ofString "_Accumulator.__str__"), params := (defA (at2 P2 10 5)), body := .stmts (defB (at2 P2 10 5)), scope := (defS (at2 P2 10 5)), globals := 3, closure := [], defaults := .none, kwdefaults := .none, doc := .none, pyModule := (sv "cpy313.email.header" 552), annotations := none, code := (.ref 241), closureTuple := .none, builtins := 0 }
noncomputable def fd250 : FuncData := { name := (Str.ofString "reset"), qualname := (Str.ofString "_Accumulator.reset"), params := (defA (at2 P2 10 6)), body := .stmts (defB (at2 P2 10 6)), scope := (defS (at2 P2 10 6)), globals := 3, closure := [], defaults := (.ref 243), kwdefaults := .none, doc := .none, pyModule := (sv "cpy313.email.header" 552), annotations := none, code := (.ref 249), closureTuple := .none, builtins := 0 }
noncomputable def fd257 : FuncData := { name := (Str.ofString "is_onlyws"), qualname := (Str.ofString "_Accumulator.is_onlyws"), params := (defA (at2 P2 10 7)), body := .stmts (defB (at2 P2 10 7)), scope := (defS (at2 P2 10 7)), globals := 3, closure := [], defaults := .none, kwdefaults := .none, doc := .none, pyModule := (sv "cpy313.email.header" 552), annotations := none, code := (.ref 256), closureTuple := .none, builtins := 0 }
noncomputable def fd265 : FuncData := { name := (Str.ofString "part_count"), qualname := (Str.ofString "_Accumulator.part_count"), params := (defA (at2 P2 10 8)), body := .stmts (defB (at2 P2 10 8)), scope := (defS (at2 P2 10 8)), globals := 3, closure := [((Str.ofString "__class__"), 192)], defaults := .none, kwdefaults := .none, doc := .none, pyModule := (sv "cpy313.email.header" 552), annotations := none, code := (.ref 264), closureTuple := (.ref 258), builtins := 0 }
noncomputable def fd286 : FuncData := { name := (Str.ofString "__init__"), qualname := (Str.ofString "_netrclex.__init__"), params := (defA (at2 P2 12 0)), body := .stmts (defB (at2 P2 12 0)), scope := (defS (at2 P2 12 0)), globals := 3, closure := [], defaults := .none, kwdefaults := .none, doc := .none, pyModule := (sv "cpy313.netrc" 651), annotations := none, code := (.ref 285), closureTuple := .none, builtins := 0 }
noncomputable def fd293 : FuncData := { name := (Str.ofString "_read_char"), qualname := (Str.ofString "_netrclex._read_char"), params := (defA (at2 P2 12 1)), body := .stmts (defB (at2 P2 12 1)), scope := (defS (at2 P2 12 1)), globals := 3, closure := [], defaults := .none, kwdefaults := .none, doc := .none, pyModule := (sv "cpy313.netrc" 651), annotations := none, code := (.ref 292), closureTuple := .none, builtins := 0 }
noncomputable def fd300 : FuncData := { name := (Str.ofString "get_token"), qualname := (Str.ofString "_netrclex.get_token"), params := (defA (at2 P2 12 2)), body := .stmts (defB (at2 P2 12 2)), scope := (defS (at2 P2 12 2)), globals := 3, closure := [], defaults := .none, kwdefaults := .none, doc := .none, pyModule := (sv "cpy313.netrc" 651), annotations := none, code := (.ref 299), closureTuple := .none, builtins := 0 }
noncomputable def fd307 : FuncData := { name := (Str.ofString "push_token"), qualname := (Str.ofString "_netrclex.push_token"), params := (defA (at2 P2 12 3)), body := .stmts (defB (at2 P2 12 3)), scope := (defS (at2 P2 12 3)), globals := 3, closure := [], defaults := .none, kwdefaults := .none, doc := .none, pyModule := (sv "cpy313.netrc" 651), annotations := none, code := (.ref 306), closureTuple := .none, builtins := 0 }
noncomputable def fd321 : FuncData := { name := (Str.ofString "_law_lexer"), qualname := (Str.ofString "_law_lexer"), params := (defA (at1 P2 14)), body := .stmts (defB (at1 P2 14)), scope := (defS (at1 P2 14)), globals := 3, closure := [], defaults := .none, kwdefaults := .none, doc := .none, pyModule := (sv "law_tc0040_03" 711), annotations := none, code := (.ref 320), closureTuple := .none, builtins := 0 }
noncomputable def fd326 : FuncData := { name := (Str.ofString "_law_words"), qualname := (Str.ofString "_law_words"), params := (defA (at1 P2 15)), body := .stmts (defB (at1 P2 15)), scope := (defS (at1 P2 15)), globals := 3, closure := [], defaults := .none, kwdefaults := .none, doc := .none, pyModule := (sv "law_tc0040_03" 711), annotations := none, code := (.ref 325), closureTuple := .none, builtins := 0 }
noncomputable def fd333 : FuncData := { name := (Str.ofString "_law_rounds"), qualname := (Str.ofString "_law_rounds"), params := (defA (at1 P2 16)), body := .stmts (defB (at1 P2 16)), scope := (defS (at1 P2 16)), globals := 3, closure := [], defaults := .none, kwdefaults := .none, doc := .none, pyModule := (sv "law_tc0040_03" 711), annotations := none, code := (.ref 332), closureTuple := .none, builtins := 0 }
noncomputable def fd340 : FuncData := { name := (Str.ofString "_law_sizes"), qualname := (Str.ofString "_law_sizes"), params := (defA (at1 P2 17)), body := .stmts (defB (at1 P2 17)), scope := (defS (at1 P2 17)), globals := 3, closure := [], defaults := .none, kwdefaults := .none, doc := .none, pyModule := (sv "law_tc0040_03" 711), annotations := none, code := (.ref 339), closureTuple := .none, builtins := 0 }
noncomputable def fd347 : FuncData := { name := (Str.ofString "_law_tree"), qualname := (Str.ofString "_law_tree"), params := (defA (at1 P2 18)), body := .stmts (defB (at1 P2 18)), scope := (defS (at1 P2 18)), globals := 3, closure := [], defaults := .none, kwdefaults := .none, doc := .none, pyModule := (sv "law_tc0040_03" 711), annotations := none, code := (.ref 346), closureTuple := .none, builtins := 0 }
noncomputable def fd352 : FuncData := { name := (Str.ofString "law"), qualname := (Str.ofString "law"), params := (defA (at1 P2 19)), body := .stmts (defB (at1 P2 19)), scope := (defS (at1 P2 19)), globals := 3, closure := [], defaults := .none, kwdefaults := .none, doc := .none, pyModule := (sv "law_tc0040_03" 711), annotations := none, code := (.ref 351), closureTuple := .none, builtins := 0 }
noncomputable def kFrag (P : Params) : Frag := [ (0, ⟨(.type "dict"), none, (.dict [en P "__name__" 1 (sv "builtins" 160), en P "__doc__" 2 (.builtin "builtins.__doc__:str#opaque"), en P "__package__" 3 (.builtin "builtins.__package__:str#opaque"), en P "__loader__" 4 (.builtin "builtins.__loader__:shared#opaque"), en P "__spec__" 5 (.builtin "builtins.__spec__#opaque"), en P "__build_class__" 6 (.builtin "__build_class__"), en P "__import__" 7 (.builtin "__import__"), en P "abs" 8 (.builtin "abs"), en P "all" 9 (.builtin "all"), en P "any" 10 (.builtin "any"), en P "ascii" 11 (.builtin "ascii"), en P "bin" 12 (.builtin "bin"), en P "breakpoint" 13 (.builtin "breakpoint"), en P "callable" 14 (.builtin "callable"), en P "chr" 15 (.builtin "chr"), en P "compile" 16 (.builtin "compile"), en P "delattr" 17 (.builtin "delattr"), en P "dir" 18 (.builtin "dir"), en P "divmod" 19 (.builtin "divmod"), en P "eval" 20 (.builtin "eval"), en P "exec" 21 (.builtin "exec"), en P "format" 22 (.builtin "format"), en P "getattr" 23 (.builtin "getattr"), en P "globals" 24 (.builtin "globals"), en P "hasattr" 25 (.builtin "hasattr"), en P "hash" 26 (.builtin "hash"), en P "hex" 27 (.builtin "hex"), en P "id" 28 (.builtin "id"), en P "input" 29 (.builtin "input"), en P "isinstance" 30 (.builtin "isinstance"), en P "issubclass" 31 (.builtin "issubclass"), en P "iter" 32 (.builtin "iter"), en P "aiter" 33 (.builtin "aiter"), en P "len" 34 (.builtin "len"), en P "locals" 35 (.builtin "locals"), en P "max" 36 (.builtin "max"), en P "min" 37 (.builtin "min"), en P "next" 38 (.builtin "next"), en P "anext" 39 (.builtin "anext"), en P "oct" 40 (.builtin "oct"), en P "ord" 41 (.builtin "ord"), en P "pow" 42 (.builtin "pow"), en P "print" 43 (.builtin "print"), en P "repr" 44 (.builtin "repr"), en P "round" 45 (.builtin "round"), en P "setattr" 46 (.builtin "setattr"), en P "sorted" 47 (.builtin "sorted"), en P "sum" 48 (.builtin "sum"), en P "vars" 49 (.builtin "vars"), en P "None" 50 .none, en P "Ellipsis" 51 .ellipsis, en P "NotImplemented" 52 .notImplemented, en P "False" 53 (.bool false), en P "True" 54 (.bool true), en P "bool" 55 (.type "bool"), en P "memoryview" 56 (.type "memoryview"), en P "bytearray" 57 (.type "bytearray"), en P "bytes" 58 (.type "bytes"), en P "classmethod" 59 (.type "classmethod"), en P "complex" 60 (.type "complex"), en P "dict" 61 (.type "dict"), en P "enumerate" 62 (.type "enumerate"), en P "filter" 63 (.type "filter"), en P "float" 64 (.type "float"), en P "frozenset" 65 (.type "frozenset"), en P "property" 66 (.type "property"), en P "int" 67 (.type "int"), en P "list" 68 (.type "list"), en P "map" 69 (.type "map"), en P "object" 70 (.type "object"), en P "range" 71 (.type "range"), en P "reversed" 72 (.type "reversed"), en P "set" 73 (.type "set"), en P "slice" 74 (.type "slice"), en P "staticmethod" 75 (.type "staticmethod"), en P "str" 76 (.type "str"), en P "super" 77 (.type "super"), en P "tuple" 78 (.type "tuple"), en P "type" 79 (.type "type"), en P "zip" 80 (.type "zip"), en P "__debug__" 81 (.bool true), en P "BaseException" 82 (.type "BaseException"), en P "BaseExceptionGroup" 83 (.type "BaseExceptionGroup"), en P "Exception" 84 (.type "Exception"), en P "GeneratorExit" 85 (.type "GeneratorExit"), en P "KeyboardInterrupt" 86 (.type "KeyboardInterrupt"), en P "SystemExit" 87 (.type "SystemExit"), en P "ArithmeticError" 88 (.type "ArithmeticError"), en P "AssertionError" 89 (.type "AssertionError"), en P "AttributeError" 90 (.type "AttributeError"), en P "BufferError" 91 (.type "BufferError"), en P "EOFError" 92 (.type "EOFError"), en P "ImportError" 93 (.type "ImportError"), en P "LookupError" 94 (.type "LookupError"), en P "MemoryError" 95 (.type "MemoryError"), en P "NameError" 96 (.type "NameError"), en P "OSError" 97 (.type "OSError"), en P "ReferenceError" 98 (.type "ReferenceError"), en P "RuntimeError" 99 (.type "RuntimeError"), en P "StopAsyncIteration" 100 (.type "StopAsyncIteration"), en P "StopIteration" 101 (.type "StopIteration"), en P "SyntaxError" 102 (.type "SyntaxError"), en P "SystemError" 103 (.type "SystemError"), en P "TypeError" 104 (.type "TypeError"), en P "ValueError" 105 (.type "ValueError"), en P "Warning" 106 (.type "Warning"), en P "FloatingPointError" 107 (.type "FloatingPointError"), en P "OverflowError" 108 (.type "OverflowError"), en P "ZeroDivisionError" 109 (.type "ZeroDivisionError"), en P "BytesWarning" 110 (.type "BytesWarning"), en P "DeprecationWarning" 111 (.type "DeprecationWarning"), en P "EncodingWarning" 112 (.type "EncodingWarning"), en P "FutureWarning" 113 (.type "FutureWarning"), en P "ImportWarning" 114 (.type "ImportWarning"), en P "PendingDeprecationWarning" 115 (.type "PendingDeprecationWarning"), en P "ResourceWarning" 116 (.type "ResourceWarning"), en P "RuntimeWarning" 117 (.type "RuntimeWarning"), en P "SyntaxWarning" 118 (.type "SyntaxWarning"), en P "UnicodeWarning" 119 (.type "UnicodeWarning"), en P "UserWarning" 120 (.type "UserWarning"), en P "BlockingIOError" 121 (.type "BlockingIOError"), en P "ChildProcessError" 122 (.type "ChildProcessError"), en P "ConnectionError" 123 (.type "ConnectionError"), en P "FileExistsError" 124 (.type "FileExistsError"), en P "FileNotFoundError" 125 (.type "FileNotFoundError"), en P "InterruptedError" 126 (.type "InterruptedError"), en P "IsADirectoryError" 127 (.type "IsADirectoryError"), en P "NotADirectoryError" 128 (.type "NotADirectoryError"), en P "PermissionError" 129 (.type "PermissionError"), en P "ProcessLookupError" 130 (.type "ProcessLookupError"), en P "TimeoutError" 131 (.type "TimeoutError"), en P "IndentationError" 132 (.type "IndentationError"), en P "_IncompleteInputError" 133 (.type "_IncompleteInputError"), en P "IndexError" 134 (.type "IndexError"), en P "KeyError" 135 (.type "KeyError"), en P "ModuleNotFoundError" 136 (.type "ModuleNotFoundError"), en P "NotImplementedError" 137 (.type "NotImplementedError"), en P "PythonFinalizationError" 138 (.type "PythonFinalizationError"), en P "RecursionError" 139 (.type "RecursionError"), en P "UnboundLocalError" 140 (.type "UnboundLocalError"), en P "UnicodeError" 141 (.type "UnicodeError"), en P "BrokenPipeError" 142 (.type "BrokenPipeError"), en P "ConnectionAbortedError" 143 (.type "ConnectionAbortedError"), en P "ConnectionRefusedError" 144 (.type "ConnectionRefusedError"), en P "ConnectionResetError" 145 (.type "ConnectionResetError"), en P "TabError" 146 (.type "TabError"), en P "UnicodeDecodeError" 147 (.type "UnicodeDecodeError"), en P "UnicodeEncodeError" 148 (.type "UnicodeEncodeError"), en P "UnicodeTranslateError" 149 (.type "UnicodeTranslateError"), en P "ExceptionGroup" 150 (.type "ExceptionGroup"), en P "EnvironmentError" 151 (.type "OSError"), en P "IOError" 152 (.type "OSError"), en P "open" 153 (.builtin "open"), en P "quit" 154 (.builtin "builtins.quit#opaque"), en P "exit" 155 (.builtin "builtins.exit#opaque"), en P "copyright" 156 (.builtin "builtins.copyright#opaque"), en P "credits" 157 (.builtin "builtins.credits#opaque"), en P "license" 158 (.builtin "builtins.license#opaque"), en P "help" 159 (.builtin "builtins.help#opaque")].toArray 159), [].toArray⟩), (1, ⟨(.type "dict"), none, (.dict [en P "builtins" 162 (.ref 4), en P "__main__" 163 (.ref 5), en P "_sre" 244 (.ref 12)].toArray 3), [].toArray⟩), (2, ⟨.none, none, (.dict [en P "\x69mport.loaded._sre" 183 (.bool true), en P "class._frozen_importlib.BuiltinImporter" 185 (.ref 14), en P "watched.\x69mport" 206 (.ref 18), en P "class._frozen_importlib.ModuleSpec" 216 (.ref 22), en P "sys.modules.booked-epoch" 245 (.int (3) 0), en P "\x69mport.later-laid._sre" 270 (.bool true), en P "watched.library" 272 (.ref 27), en P "watched.library-objects" 0 (sv "\x0c" 0), en P "watched.library-deep._sre" 273 (sv "\x04\x00\x00\x0b\x04\x00\x00\x0b\x04\x00\x00\x03\x04\x00\x00\x0b\x08\x04dict\x02" 0)].toArray 9), [].toArray⟩), (3, ⟨(.type "dict"), none, (.dict [en P "__name__" 165 (sv "law_tc0040_03" 711), en P "__doc__" 166 .none, en P "__package__" 167 .none, en P "__loader__" 168 (.builtin "__main__.__loader__#opaque"), en P "__spec__" 169 .none, en P "__annotations__" 170 (.ref 6), en P "__builtins__" 171 (.ref 4), en P "__file__" 173 (sv "/claim/cut.py" 172), en P "__cached__" 174 .none, en P "_sre" 275 (.ref 12), en P "_wall" 288 (.ref 38), en P "tspecials" 324 (.ref 43), en P "_name_disallowed_re" 350 (.ref 48), en P "_value_disallowed_re" 384 (.ref 53), en P "_formatparam" 394 (.ref 61), en P "Headers" 551 (.ref 184), en P "EMPTYSTRING" 555 (sv "" 554), en P "_Accumulator" 650 (.ref 268), en P "_netrclex" 710 (.ref 310), en P "_law_lexer" 724 (.ref 321), en P "_law_words" 730 (.ref 326), en P "_law_rounds" 744 (.ref 333), en P "_law_sizes" 759 (.ref 340), en P "_law_tree" 769 (.ref 347), en P "law" 775 (.ref 352)].toArray 25), [].toArray⟩), (4, ⟨(.type "module"), (some 0), .plain, [].toArray⟩), (5, ⟨(.type "module"), (some 3), .plain, [].toArray⟩), (7, ⟨(.type "tuple"), none, (.seq [].toArray 0), [].toArray⟩), (9, ⟨(.type "code"), none, (.fields [(sv "<module>" 176), (sv "<module>" 177), (sv "/claim/cut.py" 178), (.int (1) 0), (.int (0) 0), (.int (0) 0), (.int (0) 0), (.int (0) 0), (.ref 7), (.bool false), (.int (175) 0), (.ref 8), .none, .none, .none, .none, (.int (179) 0), (.int (1) 0), (sv "/claim/cut.py" 180)].toArray), [].toArray⟩), (32, ⟨(.type "tuple"), none, (.seq [].toArray 0), [].toArray⟩), (34, ⟨(.type "tuple"), none, (.seq [(sv "k" 285)].toArray 0), [].toArray⟩), (35, ⟨(.type "tuple"), none, (.seq [].toArray 0), [].toArray⟩), (37, ⟨(.type "code"), none, (.fields [(sv "_wall" 282), (sv "_wall" 283), (sv "/claim/cut.py" 284), (.int (2) 0), (.int (1) 0), (.int (0) 0), (.int (0) 0), (.int (3) 0), (.ref 32), (.bool true), (.int (276) 0), (.ref 33), .none, (.ref 34), (.ref 35), (.ref 36), (.int (286) 0), (.int (2) 0), (sv "/claim/cut.py" 287)].toArray), [].toArray⟩), (38, ⟨(.type "function"), none, (.func fd38), [].toArray⟩), (42, ⟨(.type "tuple"), none, (.seq [(.int (14) 0), (.int (14) 0), (.int (4) 0), (.int (1) 0), (.int (1) 0), (.int (9) 0), (.int (0) 0), (.int (4227896069) 0), (.int (939524097) 0), (.int (0) 0), (.int (0) 0), (.int (0) 0), (.int (0) 0), (.int (0) 0), (.int (0) 0), (.int (13) 0), (.int (11) 0), (.int (9) 0), (.int (0) 0), (.int (4227896069) 0), (.int (939524097) 0), (.int (0) 0), (.int (0) 0), (.int (0) 0), (.int (0) 0), (.int (0) 0), (.int (0) 0), (.int (1) 0)].toArray 0), [].toArray⟩), (43, ⟨(.type "re.Pattern"), none, (.fields [(sv "[ \\(\\)<>@,;:\\\\\"/\\[\\]\\?=]" 292), (.int (32) 323), (.int (0) 0), .none, .none, (.ref 42), (.int (0) 0)].toArray), [].toArray⟩), (47, ⟨(.type "tuple"), none, (.seq [(.int (14) 0), (.int (10) 0), (.int (4) 0), (.int (1) 0), (.int (1) 0), (.int (22) 0), (.int (0) 0), (.int (31) 0), (.int (16) 0), (.int (127) 0), (.int (0) 0), (.int (13) 0), (.int (7) 0), (.int (22) 0), (.int (0) 0), (.int (31) 0), (.int (16) 0), (.int (127) 0), (.int (0) 0), (.int (1) 0)].toArray 0), [].toArray⟩), (48, ⟨(.type "re.Pattern"), none, (.fields [(sv "[\\x00-\\x1F\\x7F]" 326), (.int (32) 349), (.int (0) 0), .none, .none, (.ref 47), (.int (0) 0)].toArray), [].toArray⟩), (52, ⟨(.type "tuple"), none, (.seq [(.int (14) 0), (.int (14) 0), (.int (4) 0), (.int (1) 0), (.int (1) 0), (.int (9) 0), (.int (4294966783) 0), (.int (0) 0), (.int (0) 0), (.int (2147483648) 0), (.int (0) 0), (.int (0) 0), (.int (0) 0), (.int (0) 0), (.int (0) 0), (.int (13) 0), (.int (11) 0), (.int (9) 0), (.int (4294966783) 0), (.int (0) 0), (.int (0) 0), (.int (2147483648) 0), (.int (0) 0), (.int (0) 0), (.int (0) 0), (.int (0) 0), (.int (0) 0), (.int (1) 0)].toArray 0), [].toArray⟩), (53, ⟨(.type "re.Pattern"), none, (.fields [(sv "[\\x00-\\x08\\x0A-\\x1F\\x7F]" 352), (.int (32) 383), (.int (0) 0), .none, .none, (.ref 52), (.int (0) 0)].toArray), [].toArray⟩), (54, ⟨(.type "tuple"), none, (.seq [.none, (.int (1) 385)].toArray 0), [].toArray⟩), (55, ⟨(.type "tuple"), none, (.seq [].toArray 0), [].toArray⟩), (57, ⟨(.type "tuple"), none, (.seq [(sv "param" 389), (sv "value" 390), (sv "quote" 391)].toArray 0), [].toArray⟩), (58, ⟨(.type "tuple"), none, (.seq [].toArray 0), [].toArray⟩), (60, ⟨(.type "code"), none, (.fields [(sv "_formatparam" 386), (sv "_formatparam" 387), (sv "/claim/cut.py" 388), (.int (9) 0), (.int (3) 0), (.int (0) 0), (.int (0) 0), (.int (3) 0), (.ref 55), (.bool true), (.int (276) 0), (.ref 56), .none, (.ref 57), (.ref 58), (.ref 59), (.int (392) 0), (.int (9) 0), (sv "/claim/cut.py" 393)].toArray), [].toArray⟩), (61, ⟨(.type "function"), none, (.func fd61), [].toArray⟩), (69, ⟨(.type "tuple"), none, (.seq [.none].toArray 0), [].toArray⟩), (70, ⟨(.type "tuple"), none, (.seq [].toArray 0), [].toArray⟩), (72, ⟨(.type "tuple"), none, (.seq [(sv "self" 410), (sv "headers" 411), (sv "k" 412), (sv "v" 413)].toArray 0), [].toArray⟩), (73, ⟨(.type "tuple"), none, (.seq [].toArray 0), [].toArray⟩), (75, ⟨(.type "code"), none, (.fields [(sv "__init__" 407), (sv "Headers.__init__" 408), (sv "/claim/cut.py" 409), (.int (20) 0), (.int (2) 0), (.int (0) 0), (.int (0) 0), (.int (3) 0), (.ref 70), (.bool true), (.int (276) 0), (.ref 71), .none, (.ref 72), (.ref 73), (.ref 74), (.int (414) 0), (.int (20) 0), (sv "/claim/cut.py" 415)].toArray), [].toArray⟩), (76, ⟨(.type "function"), none, (.func fd76), [].toArray⟩), (77, ⟨(.type "tuple"), none, (.seq [].toArray 0), [].toArray⟩), (79, ⟨(.type "tuple"), none, (.seq [(sv "self" 420), (sv "value" 421), (sv "name" 422), (sv "regex" 423)].toArray 0), [].toArray⟩), (80, ⟨(.type "tuple"), none, (.seq [].toArray 0), [].toArray⟩), (82, ⟨(.type "code"), none, (.fields [(sv "_convert_string_type" 417), (sv "Headers._convert_string_type" 418), (sv "/claim/cut.py" 419), (.int (30) 0), (.int (2) 0), (.int (0) 0), (.int (1) 0), (.int (3) 0), (.ref 77), (.bool true), (.int (276) 0), (.ref 78), .none, (.ref 79), (.ref 80), (.ref 81), (.int (424) 0), (.int (30) 0), (sv "/claim/cut.py" 425)].toArray), [].toArray⟩), (83, ⟨(.type "function"), none, (.func fd83), [].toArray⟩), (84, ⟨(.type "tuple"), none, (.seq [].toArray 0), [].toArray⟩), (86, ⟨(.type "tuple"), none, (.seq [(sv "self" 430)].toArray 0), [].toArray⟩), (87, ⟨(.type "tuple"), none, (.seq [].toArray 0), [].toArray⟩), (89, ⟨(.type "code"), none, (.fields [(sv "__len__" 427), (sv "Headers.__len__" 428), (sv "/claim/cut.py" 429), (.int (38) 0), (.int (1) 0), (.int (0) 0), (.int (0) 0), (.int (3) 0), (.ref 84), (.bool true), (.int (276) 0), (.ref 85), .none, (.ref 86), (.ref 87), (.ref 88), (.int (431) 0), (.int (38) 0), (sv "/claim/cut.py" 432)].toArray), [].toArray⟩), (90, ⟨(.type "function"), none, (.func fd90), [].toArray⟩), (91, ⟨(.type "tuple"), none, (.seq [].toArray 0), [].toArray⟩), (93, ⟨(.type "tuple"), none, (.seq [(sv "self" 437), (sv "name" 438), (sv "val" 439)].toArray 0), [].toArray⟩), (94, ⟨(.type "tuple"), none, (.seq [].toArray 0), [].toArray⟩), (96, ⟨(.type "code"), none, (.fields [(sv "__setitem__" 434), (sv "Headers.__setitem__" 435), (sv "/claim/cut.py" 436), (.int (41) 0), (.int (3) 0), (.int (0) 0), (.int (0) 0), (.int (3) 0), (.ref 91), (.bool true), (.int (276) 0), (.ref 92), .none, (.ref 93), (.ref 94), (.ref 95), (.int (440) 0), (.int (41) 0), (sv "/claim/cut.py" 441)].toArray), [].toArray⟩), (97, ⟨(.type "function"), none, (.func fd97), [].toArray⟩), (98, ⟨(.type "tuple"), none, (.seq [].toArray 0), [].toArray⟩), (101, ⟨(.type "code"), none, (.fields [(sv "__delitem__" 443), (sv "Headers.__delitem__" 444), (sv "/claim/cut.py" 445), (.int (45) 0), (.int (2) 0), (.int (0) 0), (.int (0) 0), (.int (3) 0), (.ref 98), (.bool true), (.int (276) 0), (.ref 99), .none, .none, .none, (.ref 100), (.int (446) 0), (.int (45) 0), (sv "/claim/cut.py" 447)].toArray), [].toArray⟩), (102, ⟨(.type "function"), none, (.func fd102), [].toArray⟩), (103, ⟨(.type "tuple"), none, (.seq [].toArray 0), [].toArray⟩), (105, ⟨(.type "tuple"), none, (.seq [(sv "self" 452), (sv "name" 453)].toArray 0), [].toArray⟩), (106, ⟨(.type "tuple"), none, (.seq [].toArray 0), [].toArray⟩), (108, ⟨(.type "code"), none, (.fields [(sv "__getitem__" 449), (sv "Headers.__getitem__" 450), (sv "/claim/cut.py" 451), (.int (49) 0), (.int (2) 0), (.int (0) 0), (.int (0) 0), (.int (3) 0), (.ref 103), (.bool true), (.int (276) 0), (.ref 104), .none, (.ref 105), (.ref 106), (.ref 107), (.int (454) 0), (.int (49) 0), (sv "/claim/cut.py" 455)].toArray), [].toArray⟩), (109, ⟨(.type "function"), none, (.func fd109), [].toArray⟩), (110, ⟨(.type "tuple"), none, (.seq [].toArray 0), [].toArray⟩), (112, ⟨(.type "tuple"), none, (.seq [(sv "self" 460), (sv "name" 461)].toArray 0), [].toArray⟩), (113, ⟨(.type "tuple"), none, (.seq [].toArray 0), [].toArray⟩), (115, ⟨(.type "code"), none, (.fields [(sv "__contains__" 457), (sv "Headers.__contains__" 458), (sv "/claim/cut.py" 459), (.int (52) 0), (.int (2) 0), (.int (0) 0), (.int (0) 0), (.int (3) 0), (.ref 110), (.bool true), (.int (276) 0), (.ref 111), .none, (.ref 112), (.ref 113), (.ref 114), (.int (462) 0), (.int (52) 0), (sv "/claim/cut.py" 463)].toArray), [].toArray⟩), (116, ⟨(.type "function"), none, (.func fd116), [].toArray⟩), (117, ⟨(.type "tuple"), none, (.seq [].toArray 0), [].toArray⟩), (119, ⟨(.type "tuple"), none, (.seq [(sv "self" 468), (sv "name" 469)].toArray 0), [].toArray⟩), (120, ⟨(.type "tuple"), none, (.seq [].toArray 0), [].toArray⟩), (122, ⟨(.type "code"), none, (.fields [(sv "get_all" 465), (sv "Headers.get_all" 466), (sv "/claim/cut.py" 467), (.int (55) 0), (.int (2) 0), (.int (0) 0), (.int (0) 0), (.int (3) 0), (.ref 117), (.bool true), (.int (276) 0), (.ref 118), .none, (.ref 119), (.ref 120), (.ref 121), (.int (470) 0), (.int (55) 0), (sv "/claim/cut.py" 471)].toArray), [].toArray⟩), (123, ⟨(.type "function"), none, (.func fd123), [].toArray⟩), (124, ⟨(.type "tuple"), none, (.seq [.none].toArray 0), [].toArray⟩), (125, ⟨(.type "tuple"), none, (.seq [].toArray 0), [].toArray⟩), (127, ⟨(.type "tuple"), none, (.seq [(sv "self" 476), (sv "name" 477), (sv "default" 478), (sv "k" 479), (sv "v" 480)].toArray 0), [].toArray⟩), (128, ⟨(.type "tuple"), none, (.seq [].toArray 0), [].toArray⟩), (130, ⟨(.type "code"), none, (.fields [(sv "get" 473), (sv "Headers.get" 474), (sv "/claim/cut.py" 475), (.int (58) 0), (.int (3) 0), (.int (0) 0), (.int (0) 0), (.int (3) 0), (.ref 125), (.bool true), (.int (276) 0), (.ref 126), .none, (.ref 127), (.ref 128), (.ref 129), (.int (481) 0), (.int (58) 0), (sv "/claim/cut.py" 482)].toArray), [].toArray⟩), (131, ⟨(.type "function"), none, (.func fd131), [].toArray⟩), (132, ⟨(.type "tuple"), none, (.seq [].toArray 0), [].toArray⟩), (135, ⟨(.type "code"), none, (.fields [(sv "keys" 484), (sv "Headers.keys" 485), (sv "/claim/cut.py" 486), (.int (65) 0), (.int (1) 0), (.int (0) 0), (.int (0) 0), (.int (3) 0), (.ref 132), (.bool true), (.int (276) 0), (.ref 133), .none, .none, .none, (.ref 134), (.int (487) 0), (.int (65) 0), (sv "/claim/cut.py" 488)].toArray), [].toArray⟩), (136, ⟨(.type "function"), none, (.func fd136), [].toArray⟩), (137, ⟨(.type "tuple"), none, (.seq [].toArray 0), [].toArray⟩), (140, ⟨(.type "code"), none, (.fields [(sv "values" 490), (sv "Headers.values" 491), (sv "/claim/cut.py" 492), (.int (68) 0), (.int (1) 0), (.int (0) 0), (.int (0) 0), (.int (3) 0), (.ref 137), (.bool true), (.int (276) 0), (.ref 138), .none, .none, .none, (.ref 139), (.int (493) 0), (.int (68) 0), (sv "/claim/cut.py" 494)].toArray), [].toArray⟩), (141, ⟨(.type "function"), none, (.func fd141), [].toArray⟩), (142, ⟨(.type "tuple"), none, (.seq [].toArray 0), [].toArray⟩), (144, ⟨(.type "tuple"), none, (.seq [(sv "self" 499)].toArray 0), [].toArray⟩), (145, ⟨(.type "tuple"), none, (.seq [].toArray 0), [].toArray⟩), (147, ⟨(.type "code"), none, (.fields [(sv "items" 496), (sv "Headers.items" 497), (sv "/claim/cut.py" 498), (.int (71) 0), (.int (1) 0), (.int (0) 0), (.int (0) 0), (.int (3) 0), (.ref 142), (.bool true), (.int (276) 0), (.ref 143), .none, (.ref 144), (.ref 145), (.ref 146), (.int (500) 0), (.int (71) 0), (sv "/claim/cut.py" 501)].toArray), [].toArray⟩), (148, ⟨(.type "function"), none, (.func fd148), [].toArray⟩), (149, ⟨(.type "tuple"), none, (.seq [].toArray 0), [].toArray⟩), (151, ⟨(.type "tuple"), none, (.seq [(sv "self" 506)].toArray 0), [].toArray⟩), (152, ⟨(.type "tuple"), none, (.seq [].toArray 0), [].toArray⟩), (154, ⟨(.type "code"), none, (.fields [(sv "__repr__" 503), (sv "Headers.__repr__" 504), (sv "/claim/cut.py" 505), (.int (74) 0), (.int (1) 0), (.int (0) 0), (.int (0) 0), (.int (3) 0), (.ref 149), (.bool true), (.int (276) 0), (.ref 150), .none, (.ref 151), (.ref 152), (.ref 153), (.int (507) 0), (.int (74) 0), (sv "/claim/cut.py" 508)].toArray), [].toArray⟩), (155, ⟨(.type "function"), none, (.func fd155), [].toArray⟩), (156, ⟨(.type "tuple"), none, (.seq [].toArray 0), [].toArray⟩), (159, ⟨(.type "code"), none, (.fields [(sv "__str__" 510), (sv "Headers.__str__" 511), (sv "/claim/cut.py" 512), (.int (77) 0), (.int (1) 0), (.int (0) 0), (.int (0) 0), (.int (3) 0), (.ref 156), (.bool true), (.int (276) 0), (.ref 157), .none, .none, .none, (.ref 158), (.int (513) 0), (.int (77) 0), (sv "/claim/cut.py" 514)].toArray), [].toArray⟩), (160, ⟨(.type "function"), none, (.func fd160), [].toArray⟩), (161, ⟨(.type "tuple"), none, (.seq [].toArray 0), [].toArray⟩), (163, ⟨(.type "tuple"), none, (.seq [(sv "self" 519)].toArray 0), [].toArray⟩), (164, ⟨(.type "tuple"), none, (.seq [].toArray 0), [].toArray⟩), (166, ⟨(.type "code"), none, (.fields [(sv "__bytes__" 516), (sv "Headers.__bytes__" 517), (sv "/claim/cut.py" 518), (.int (80) 0), (.int (1) 0), (.int (0) 0), (.int (0) 0), (.int (3) 0), (.ref 161), (.bool true), (.int (276) 0), (.ref 162), .none, (.ref 163), (.ref 164), (.ref 165), (.int (520) 0), (.int (80) 0), (sv "/claim/cut.py" 521)].toArray), [].toArray⟩), (167, ⟨(.type "function"), none, (.func fd167), [].toArray⟩), (168, ⟨(.type "tuple"), none, (.seq [].toArray 0), [].toArray⟩), (170, ⟨(.type "tuple"), none, (.seq [(sv "self" 526), (sv "name" 527), (sv "value" 528), (sv "result" 529)].toArray 0), [].toArray⟩), (171, ⟨(.type "tuple"), none, (.seq [].toArray 0), [].toArray⟩), (173, ⟨(.type "code"), none, (.fields [(sv "setdefault" 523), (sv "Headers.setdefault" 524), (sv "/claim/cut.py" 525), (.int (83) 0), (.int (3) 0), (.int (0) 0), (.int (0) 0), (.int (3) 0), (.ref 168), (.bool true), (.int (276) 0), (.ref 169), .none, (.ref 170), (.ref 171), (.ref 172), (.int (530) 0), (.int (83) 0), (sv "/claim/cut.py" 531)].toArray), [].toArray⟩), (174, ⟨(.type "function"), none, (.func fd174), [].toArray⟩), (175, ⟨(.type "tuple"), none, (.seq [].toArray 0), [].toArray⟩), (177, ⟨(.type "tuple"), none, (.seq [(sv "self" 536), (sv "_name" 537), (sv "_value" 538), (sv "_params" 539)].toArray 0), [].toArray⟩), (178, ⟨(.type "tuple"), none, (.seq [].toArray 0), [].toArray⟩), (180, ⟨(.type "code"), none, (.fields [(sv "add_header" 533), (sv "Headers.add_header" 534), (sv "/claim/cut.py" 535), (.int (91) 0), (.int (3) 0), (.int (0) 0), (.int (0) 0), (.int (11) 0), (.ref 175), (.bool true), (.int (276) 0), (.ref 176), .none, (.ref 177), (.ref 178), (.ref 179), (.int (540) 0), (.int (91) 0), (sv "/claim/cut.py" 541)].toArray), [].toArray⟩), (181, ⟨(.type "function"), none, (.func fd181), [].toArray⟩), (182, ⟨(.type "tuple"), none, (.seq [(sv "_headers" 543)].toArray 0), [].toArray⟩), (183, ⟨(.type "dict"), none, (.dict [en P "__module__" 402 (sv "cpy313.wsgiref.headers" 289), en P "__firstlineno__" 406 (.int (18) 405), en P "__init__" 416 (.ref 76), en P "_convert_string_type" 426 (.ref 83), en P "__len__" 433 (.ref 90), en P "__setitem__" 442 (.ref 97), en P "__delitem__" 448 (.ref 102), en P "__getitem__" 456 (.ref 109), en P "__contains__" 464 (.ref 116), en P "get_all" 472 (.ref 123), en P "get" 483 (.ref 131), en P "keys" 489 (.ref 136), en P "values" 495 (.ref 141), en P "items" 502 (.ref 148), en P "__repr__" 509 (.ref 155), en P "__str__" 515 (.ref 160), en P "__bytes__" 522 (.ref 167), en P "setdefault" 532 (.ref 174), en P "add_header" 542 (.ref 181), en P "__static_attributes__" 544 (.ref 182), en P "__dict__" 546 (.ref 185), en P "__weakref__" 548 (.ref 186), en P "__doc__" 549 .none].toArray 4), [].toArray⟩), (184, ⟨(.type "type"), none, (.cls { name := (Str.ofString "Headers"), bases := [(.type "object")], mro := [(.ref 184), (.type "object")], ns := 183, qualname := (Str.ofString "Headers"), hasDict := true, slotNames := [], subclasses := [], abstract := false, collection := none, hasDel := false }), [none, none, (some (sv "Headers" 395)), (some (sv "Headers" 403)), (some (.builtin "object.__new__")), (some (.bool true))].toArray⟩), (189, ⟨(.type "tuple"), none, (.seq [(.type "list")].toArray 0), [].toArray⟩), (192, ⟨(.type "cell"), none, (.cell (some (.ref 268))), [].toArray⟩), (197, ⟨(.type "tuple"), none, (.seq [(.int (0) 568)].toArray 0), [].toArray⟩), (198, ⟨(.type "tuple"), none, (.seq [(.ref 192)].toArray 0), [].toArray⟩), (199, ⟨(.type "tuple"), none, (.seq [(sv "__class__" 572)].toArray 0), [].toArray⟩), (201, ⟨(.type "tuple"), none, (.seq [(sv "self" 573), (sv "initial_size" 574)].toArray 0), [].toArray⟩), (202, ⟨(.type "tuple"), none, (.seq [].toArray 0), [].toArray⟩), (204, ⟨(.type "code"), none, (.fields [(sv "__init__" 569), (sv "_Accumulator.__init__" 570), (sv "/claim/cut.py" 571), (.int (97) 0), (.int (2) 0), (.int (0) 0), (.int (0) 0), (.int (3) 0), (.ref 199), (.bool true), (.int (276) 0), (.ref 200), .none, (.ref 201), (.ref 202), (.ref 203), (.int (575) 0), (.int (97) 0), (sv "/claim/cut.py" 576)].toArray), [].toArray⟩), (205, ⟨(.type "function"), none, (.func fd205), [].toArray⟩), (206, ⟨(.type "tuple"), none, (.seq [].toArray 0), [].toArray⟩), (208, ⟨(.type "tuple"), none, (.seq [(sv "self" 581), (sv "fws" 582), (sv "string" 583)].toArray 0), [].toArray⟩), (209, ⟨(.type "tuple"), none, (.seq [].toArray 0), [].toArray⟩), (211, ⟨(.type "code"), none, (.fields [(sv "push" 578), (sv "_Accumulator.push" 579), (sv "/claim/cut.py" 580), (.int (101) 0), (.int (3) 0), (.int (0) 0), (.int (0) 0), (.int (3) 0), (.ref 206), (.bool true), (.int (276) 0), (.ref 207), .none, (.ref 208), (.ref 209), (.ref 210), (.int (584) 0), (.int (101) 0), (sv "/claim/cut.py" 585)].toArray), [].toArray⟩), (212, ⟨(.type "function"), none, (.func fd212), [].toArray⟩), (213, ⟨(.type "tuple"), none, (.seq [(.int (0) 587)].toArray 0), [].toArray⟩), (214, ⟨(.type "tuple"), none, (.seq [].toArray 0), [].toArray⟩), (216, ⟨(.type "tuple"), none, (.seq [(sv "self" 591), (sv "i" 592)].toArray 0), [].toArray⟩), (217, ⟨(.type "tuple"), none, (.seq [].toArray 0), [].toArray⟩), (219, ⟨(.type "code"), none, (.fields [(sv "pop_from" 588), (sv "_Accumulator.pop_from" 589), (sv "/claim/cut.py" 590), (.int (104) 0), (.int (2) 0), (.int (0) 0), (.int (0) 0), (.int (3) 0), (.ref 214), (.bool true), (.int (276) 0), (.ref 215), .none, (.ref 216), (.ref 217), (.ref 218), (.int (593) 0), (.int (104) 0), (sv "/claim/cut.py" 594)].toArray), [].toArray⟩), (220, ⟨(.type "function"), none, (.func fd220), [].toArray⟩), (221, ⟨(.type "tuple"), none, (.seq [(.ref 192)].toArray 0), [].toArray⟩), (222, ⟨(.type "tuple"), none, (.seq [(sv "__class__" 599)].toArray 0), [].toArray⟩), (224, ⟨(.type "tuple"), none, (.seq [(sv "self" 600)].toArray 0), [].toArray⟩), (225, ⟨(.type "tuple"), none, (.seq [].toArray 0), [].toArray⟩), (227, ⟨(.type "code"), none, (.fields [(sv "pop" 596), (sv "_Accumulator.pop" 597), (sv "/claim/cut.py" 598), (.int (107) 0), (.int (1) 0), (.int (0) 0), (.int (0) 0), (.int (3) 0), (.ref 222), (.bool true), (.int (276) 0), (.ref 223), .none, (.ref 224), (.ref 225), (.ref 226), (.int (601) 0), (.int (107) 0), (sv "/claim/cut.py" 602)].toArray), [].toArray⟩), (228, ⟨(.type "function"), none, (.func fd228), [].toArray⟩), (229, ⟨(.type "tuple"), none, (.seq [].toArray 0), [].toArray⟩), (231, ⟨(.type "tuple"), none, (.seq [(sv "self" 607)].toArray 0), [].toArray⟩), (232, ⟨(.type "tuple"), none, (.seq [].toArray 0), [].toArray⟩), (234, ⟨(.type "code"), none, (.fields [(sv "__len__" 604), (sv "_Accumulator.__len__" 605), (sv "/claim/cut.py" 606), (.int (112) 0), (.int (1) 0), (.int (0) 0), (.int (0) 0), (.int (3) 0), (.ref 229), (.bool true), (.int (276) 0), (.ref 230), .none, (.ref 231), (.ref 232), (.ref 233), (.int (608) 0), (.int (112) 0), (sv "/claim/cut.py" 609)].toArray), [].toArray⟩), (235, ⟨(.type "function"), none, (.func fd235), [].toArray⟩), (236, ⟨(.type "tuple"), none, (.seq [].toArray 0), [].toArray⟩), (238, ⟨(.type "tuple"), none, (.seq [(sv "self" 614)].toArray 0), [].toArray⟩), (239, ⟨(.type "tuple"), none, (.seq [].toArray 0), [].toArray⟩), (241, ⟨(.type "code"), none, (.fields [(sv "__str__" 611), (sv "_Accumulator.__str__" 612), (sv "/claim/cut.py" 613), (.int (115) 0), (.int (1) 0), (.int (0) 0), (.int (0) 0), (.int (3) 0), (.ref 236), (.bool true), (.int (276) 0), (.ref 237), .none, (.ref 238), (.ref 239), (.ref 240), (.int (615) 0), (.int (115) 0), (sv "/claim/cut.py" 616)].toArray), [].toArray⟩), (242, ⟨(.type "function"), none, (.func fd242), [].toArray⟩), (243, ⟨(.type "tuple"), none, (.seq [.none].toArray 0), [].toArray⟩), (244, ⟨(.type "tuple"), none, (.seq [].toArray 0), [].toArray⟩), (246, ⟨(.type "tuple"), none, (.seq [(sv "self" 621), (sv "startval" 622)].toArray 0), [].toArray⟩), (247, ⟨(.type "tuple"), none, (.seq [].toArray 0), [].toArray⟩), (249, ⟨(.type "code"), none, (.fields [(sv "reset" 618), (sv "_Accumulator.reset" 619), (sv "/claim/cut.py" 620), (.int (118) 0), (.int (2) 0), (.int (0) 0), (.int (0) 0), (.int (3) 0), (.ref 244), (.bool true), (.int (276) 0), (.ref 245), .none, (.ref 246), (.ref 247), (.ref 248), (.int (623) 0), (.int (118) 0), (sv "/claim/cut.py" 624)].toArray), [].toArray⟩), (250, ⟨(.type "function"), none, (.func fd250), [].toArray⟩), (251, ⟨(.type "tuple"), none, (.seq [].toArray 0), [].toArray⟩), (253, ⟨(.type "tuple"), none, (.seq [(sv "self" 629)].toArray 0), [].toArray⟩), (254, ⟨(.type "tuple"), none, (.seq [].toArray 0), [].toArray⟩), (256, ⟨(.type "code"), none, (.fields [(sv "is_onlyws" 626), (sv "_Accumulator.is_onlyws" 627), (sv "/claim/cut.py" 628), (.int (121) 0), (.int (1) 0), (.int (0) 0), (.int (0) 0), (.int (3) 0), (.ref 251), (.bool true), (.int (276) 0), (.ref 252), .none, (.ref 253), (.ref 254), (.ref 255), (.int (630) 0), (.int (121) 0), (sv "/claim/cut.py" 631)].toArray), [].toArray⟩), (257, ⟨(.type "function"), none, (.func fd257), [].toArray⟩), (258, ⟨(.type "tuple"), none, (.seq [(.ref 192)].toArray 0), [].toArray⟩), (259, ⟨(.type "tuple"), none, (.seq [(sv "__class__" 636)].toArray 0), [].toArray⟩), (261, ⟨(.type "tuple"), none, (.seq [(sv "self" 637)].toArray 0), [].toArray⟩), (262, ⟨(.type "tuple"), none, (.seq [].toArray 0), [].toArray⟩), (264, ⟨(.type "code"), none, (.fields [(sv "part_count" 633), (sv "_Accumulator.part_count" 634), (sv "/claim/cut.py" 635), (.int (124) 0), (.int (1) 0), (.int (0) 0), (.int (0) 0), (.int (3) 0), (.ref 259), (.bool true), (.int (276) 0), (.ref 260), .none, (.ref 261), (.ref 262), (.ref 263), (.int (638) 0), (.int (124) 0), (sv "/claim/cut.py" 639)].toArray), [].toArray⟩), (265, ⟨(.type "function"), none, (.func fd265), [].toArray⟩), (266, ⟨(.type "tuple"), none, (.seq [(sv "_initial_size" 641)].toArray 0), [].toArray⟩), (267, ⟨(.type "dict"), none, (.dict [en P "__module__" 563 (sv "cpy313.email.header" 552), en P "__firstlineno__" 567 (.int (95) 566), en P "__init__" 577 (.ref 205), en P "push" 586 (.ref 212), en P "pop_from" 595 (.ref 220), en P "pop" 603 (.ref 228), en P "__len__" 610 (.ref 235), en P "__str__" 617 (.ref 242), en P "reset" 625 (.ref 250), en P "is_onlyws" 632 (.ref 257), en P "part_count" 640 (.ref 265), en P "__static_attributes__" 642 (.ref 266), en P "__dict__" 645 (.ref 269), en P "__weakref__" 647 (.ref 270), en P "__doc__" 648 .none].toArray 5), [].toArray⟩), (268, ⟨(.type "type"), none, (.cls { name := (Str.ofString "_Accumulator"), bases := [(.type "list")], mro := [(.ref 268), (.type "list"), (.type "object")], ns := 267, qualname := (Str.ofString "_Accumulator"), hasDict := true, slotNames := [], subclasses := [], abstract := false, collection := none, hasDel := false }), [(some (.ref 189)), none, (some (sv "_Accumulator" 556)), (some (sv "_Accumulator" 564)), (some (.builtin "list.__new__")), (some (.bool true))].toArray⟩), (280, ⟨(.type "tuple"), none, (.seq [].toArray 0), [].toArray⟩), (282, ⟨(.type "tuple"), none, (.seq [(sv "self" 668), (sv "fp" 669)].toArray 0), [].toArray⟩), (283, ⟨(.type "tuple"), none, (.seq [].toArray 0), [].toArray⟩), (285, ⟨(.type "code"), none, (.fields [(sv "__init__" 665), (sv "_netrclex.__init__" 666), (sv "/claim/cut.py" 667), (.int (129) 0), (.int (2) 0), (.int (0) 0), (.int (0) 0), (.int (3) 0), (.ref 280), (.bool true), (.int (276) 0), (.ref 281), .none, (.ref 282), (.ref 283), (.ref 284), (.int (670) 0), (.int (129) 0), (sv "/claim/cut.py" 671)].toArray), [].toArray⟩), (286, ⟨(.type "function"), none, (.func fd286), [].toArray⟩), (287, ⟨(.type "tuple"), none, (.seq [].toArray 0), [].toArray⟩), (289, ⟨(.type "tuple"), none, (.seq [(sv "self" 676), (sv "ch" 677)].toArray 0), [].toArray⟩), (290, ⟨(.type "tuple"), none, (.seq [].toArray 0), [].toArray⟩), (292, ⟨(.type "code"), none, (.fields [(sv "_read_char" 673), (sv "_netrclex._read_char" 674), (sv "/claim/cut.py" 675), (.int (135) 0), (.int (1) 0), (.int (0) 0), (.int (0) 0), (.int (3) 0), (.ref 287), (.bool true), (.int (276) 0), (.ref 288), .none, (.ref 289), (.ref 290), (.ref 291), (.int (678) 0), (.int (135) 0), (sv "/claim/cut.py" 679)].toArray), [].toArray⟩), (293, ⟨(.type "function"), none, (.func fd293), [].toArray⟩), (294, ⟨(.type "tuple"), none, (.seq [].toArray 0), [].toArray⟩), (296, ⟨(.type "tuple"), none, (.seq [(sv "self" 684), (sv "token" 685), (sv "fiter" 686), (sv "ch" 687)].toArray 0), [].toArray⟩), (297, ⟨(.type "tuple"), none, (.seq [].toArray 0), [].toArray⟩), (299, ⟨(.type "code"), none, (.fields [(sv "get_token" 681), (sv "_netrclex.get_token" 682), (sv "/claim/cut.py" 683), (.int (141) 0), (.int (1) 0), (.int (0) 0), (.int (0) 0), (.int (3) 0), (.ref 294), (.bool true), (.int (276) 0), (.ref 295), .none, (.ref 296), (.ref 297), (.ref 298), (.int (688) 0), (.int (141) 0), (sv "/claim/cut.py" 689)].toArray), [].toArray⟩), (300, ⟨(.type "function"), none, (.func fd300), [].toArray⟩), (301, ⟨(.type "tuple"), none, (.seq [].toArray 0), [].toArray⟩), (303, ⟨(.type "tuple"), none, (.seq [(sv "self" 694), (sv "token" 695)].toArray 0), [].toArray⟩), (304, ⟨(.type "tuple"), none, (.seq [].toArray 0), [].toArray⟩), (306, ⟨(.type "code"), none, (.fields [(sv "push_token" 691), (sv "_netrclex.push_token" 692), (sv "/claim/cut.py" 693), (.int (168) 0), (.int (2) 0), (.int (0) 0), (.int (0) 0), (.int (3) 0), (.ref 301), (.bool true), (.int (276) 0), (.ref 302), .none, (.ref 303), (.ref 304), (.ref 305), (.int (696) 0), (.int (168) 0), (sv "/claim/cut.py" 697)].toArray), [].toArray⟩), (307, ⟨(.type "function"), none, (.func fd307), [].toArray⟩), (308, ⟨(.type "tuple"), none, (.seq [(sv "instream" 699), (sv "lineno" 700), (sv "pushback" 701), (sv "whitespace" 702)].toArray 0), [].toArray⟩), (309, ⟨(.type "dict"), none, (.dict [en P "__module__" 660 (sv "cpy313.netrc" 651), en P "__firstlineno__" 664 (.int (127) 663), en P "__init__" 672 (.ref 286), en P "_read_char" 680 (.ref 293), en P "get_token" 690 (.ref 300), en P "push_token" 698 (.ref 307), en P "__static_attributes__" 703 (.ref 308), en P "__dict__" 705 (.ref 311), en P "__weakref__" 707 (.ref 312), en P "__doc__" 708 .none].toArray 4), [].toArray⟩), (310, ⟨(.type "type"), none, (.cls { name := (Str.ofString "_netrclex"), bases := [(.type "object")], mro := [(.ref 310), (.type "object")], ns := 309, qualname := (Str.ofString "_netrclex"), hasDict := true, slotNames := [], subclasses := [], abstract := false, collection := none, hasDel := false }), [none, none, (some (sv "_netrclex" 653)), (some (sv "_netrclex" 661)), (some (.builtin "object.__new__")), (some (.bool true))].toArray⟩), (315, ⟨(.type "tuple"), none, (.seq [].toArray 0), [].toArray⟩), (317, ⟨(.type "tuple"), none, (.seq [(sv "text" 716), (sv "stream" 717), (sv "_law_piece" 718), (sv "lexer" 719)].toArray 0), [].toArray⟩), (318, ⟨(.type "tuple"), none, (.seq [(sv "text" 720), (sv "gone" 721)].toArray 0), [].toArray⟩), (320, ⟨(.type "code"), none, (.fields [(sv "_law_lexer" 713), (sv "_law_lexer" 714), (sv "/claim/cut.py" 715), (.int (171) 0), (.int (1) 0), (.int (0) 0), (.int (0) 0), (.int (3) 0), (.ref 315), (.bool true), (.int (276) 0), (.ref 316), .none, (.ref 317), (.ref 318), (.ref 319), (.int (722) 0), (.int (171) 0), (sv "/claim/cut.py" 723)].toArray), [].toArray⟩), (321, ⟨(.type "function"), none, (.func fd321), [].toArray⟩), (322, ⟨(.type "tuple"), none, (.seq [].toArray 0), [].toArray⟩), (325, ⟨(.type "code"), none, (.fields [(sv "_law_words" 725), (sv "_law_words" 726), (sv "/claim/cut.py" 727), (.int (183) 0), (.int (1) 0), (.int (0) 0), (.int (0) 0), (.int (3) 0), (.ref 322), (.bool true), (.int (276) 0), (.ref 323), .none, .none, .none, (.ref 324), (.int (728) 0), (.int (183) 0), (sv "/claim/cut.py" 729)].toArray), [].toArray⟩), (326, ⟨(.type "function"), none, (.func fd326), [].toArray⟩), (327, ⟨(.type "tuple"), none, (.seq [].toArray 0), [].toArray⟩), (329, ⟨(.type "tuple"), none, (.seq [(sv "line" 734), (sv "table" 735), (sv "told" 736), (sv "turn" 737), (sv "count" 738), (sv "before" 739), (sv "step" 740), (sv "here" 741)].toArray 0), [].toArray⟩), (330, ⟨(.type "tuple"), none, (.seq [].toArray 0), [].toArray⟩), (332, ⟨(.type "code"), none, (.fields [(sv "_law_rounds" 731), (sv "_law_rounds" 732), (sv "/claim/cut.py" 733), (.int (190) 0), (.int (2) 0), (.int (0) 0), (.int (0) 0), (.int (3) 0), (.ref 327), (.bool true), (.int (276) 0), (.ref 328), .none, (.ref 329), (.ref 330), (.ref 331), (.int (742) 0), (.int (190) 0), (sv "/claim/cut.py" 743)].toArray), [].toArray⟩), (333, ⟨(.type "function"), none, (.func fd333), [].toArray⟩), (334, ⟨(.type "tuple"), none, (.seq [].toArray 0), [].toArray⟩), (336, ⟨(.type "tuple"), none, (.seq [(sv "pile" 748), (sv "ring" 749), (sv "table" 750), (sv "sizes" 751), (sv "told" 752), (sv "word" 753), (sv "size" 754), (sv "blanks" 755), (sv "under" 756)].toArray 0), [].toArray⟩), (337, ⟨(.type "tuple"), none, (.seq [].toArray 0), [].toArray⟩), (339, ⟨(.type "code"), none, (.fields [(sv "_law_sizes" 745), (sv "_law_sizes" 746), (sv "/claim/cut.py" 747), (.int (204) 0), (.int (3) 0), (.int (0) 0), (.int (0) 0), (.int (3) 0), (.ref 334), (.bool true), (.int (276) 0), (.ref 335), .none, (.ref 336), (.ref 337), (.ref 338), (.int (757) 0), (.int (204) 0), (sv "/claim/cut.py" 758)].toArray), [].toArray⟩), (340, ⟨(.type "function"), none, (.func fd340), [].toArray⟩), (341, ⟨(.type "tuple"), none, (.seq [].toArray 0), [].toArray⟩), (343, ⟨(.type "tuple"), none, (.seq [(sv "words" 763), (sv "spot" 764), (sv "left" 765), (sv "right" 766)].toArray 0), [].toArray⟩), (344, ⟨(.type "tuple"), none, (.seq [].toArray 0), [].toArray⟩), (346, ⟨(.type "code"), none, (.fields [(sv "_law_tree" 760), (sv "_law_tree" 761), (sv "/claim/cut.py" 762), (.int (215) 0), (.int (1) 0), (.int (0) 0), (.int (0) 0), (.int (3) 0), (.ref 341), (.bool true), (.int (276) 0), (.ref 342), .none, (.ref 343), (.ref 344), (.ref 345), (.int (767) 0), (.int (215) 0), (sv "/claim/cut.py" 768)].toArray), [].toArray⟩), (347, ⟨(.type "function"), none, (.func fd347), [].toArray⟩), (348, ⟨(.type "tuple"), none, (.seq [].toArray 0), [].toArray⟩), (351, ⟨(.type "code"), none, (.fields [(sv "law" 770), (sv "law" 771), (sv "/claim/cut.py" 772), (.int (221) 0), (.int (1) 0), (.int (0) 0), (.int (0) 0), (.int (3) 0), (.ref 348), (.bool true), (.int (276) 0), (.ref 349), .none, .none, .none, (.ref 350), (.int (773) 0), (.int (221) 0), (sv "/claim/cut.py" 774)].toArray), [].toArray⟩), (352, ⟨(.type "function"), none, (.func fd352), [].toArray⟩)]
noncomputable def kAddrs : List Addr := [0, 1, 2, 3, 4, 5, 7, 9, 32, 34, 35, 37, 38, 42, 43, 47, 48, 52, 53, 54, 55, 57, 58, 60, 61, 69, 70, 72, 73, 75, 76, 77, 79, 80, 82, 83, 84, 86, 87, 89, 90, 91, 93, 94, 96, 97, 98, 101, 102, 103, 105, 106, 108, 109, 110, 112, 113, 115, 116, 117, 119, 120, 122, 123, 124, 125, 127, 128, 130, 131, 132, 135, 136, 137, 140, 141, 142, 144, 145, 147, 148, 149, 151, 152, 154, 155, 156, 159, 160, 161, 163, 164, 166, 167, 168, 170, 171, 173, 174, 175, 177, 178, 180, 181, 182, 183, 184, 189, 192, 197, 198, 199, 201, 202, 204, 205, 206, 208, 209, 211, 212, 213, 214, 216, 217, 219, 220, 221, 222, 224, 225, 227, 228, 229, 231, 232, 234, 235, 236, 238, 239, 241, 242, 243, 244, 246, 247, 249, 250, 251, 253, 254, 256, 257, 258, 259, 261, 262, 264, 265, 266, 267, 268, 280, 282, 283, 285, 286, 287, 289, 290, 292, 293, 294, 296, 297, 299, 300, 301, 303, 304, 306, 307, 308, 309, 310, 315, 317, 318, 320, 321, 322, 325, 326, 327, 329, 330, 332, 333, 334, 336, 337, 339, 340, 341, 343, 344, 346, 347, 348, 351, 352]
theorem kAddrs_ok (P : Params) : kAddrs = (kFrag P).map (·.1) := by kernel_rfl
noncomputable def kFrag2 (P : Params) : Frag := (316, ⟨.none, none, .fields #[], #[]⟩) :: kFrag P
noncomputable def kAddrs2 : List Addr := 316 :: kAddrs
theorem kAddrs2_ok (P : Params) : kAddrs2 = (kFrag2 P).map (·.1) := by
  show 316 :: kAddrs = 316 :: (kFrag P).map (·.1)
  rw [kAddrs_ok P]
theorem no_tab (P : Params) : (kFrag P).lookup 316 = none := by kernel_rfl
theorem in_rest {P : Params} {h : Heap} (Y : (kFrag2 P).In h) : (kFrag P).In h := by
  intro a o e
  refine Y a o ?_
  unfold kFrag2
  rw [List.lookup_cons]
  cases q : a == 316 with
  | true =>
    have := beq_iff_eq.mp q
    subst this
    rw [no_tab] at e
    cases e
  | false => exact e
theorem gn_law (w : World) : nsIn (kFrag w.params) mainGlobals (Str.ofString "law") = some (some (.ref 352)) := by kernel_rfl
noncomputable def Walk : Prop := ∀ (w : World) (s₀ s₁ : Shared) (args : List WData) (vals : List Value), (kFrag2 w.params).In s₁.heap → s₁.heap.NoLimit → s₁.gens = #[] → PySem.Challenge.rw_tc0040_03.row.claim.pre args = true → WellAll w.params s₁.heap vals args → wpAny (model PySem.Challenge.rw_tc0040_03.row.prog w) callerA (call (.ref 352) vals) (fun v s' => GoodWG PySem.Challenge.rw_tc0040_03.row.claim (classAt s₀.heap) (ExcName.means s₀.heap) args s₁ (Except.ok (Flow.ret v)) s') (fun e s' => GoodWG PySem.Challenge.rw_tc0040_03.row.claim (classAt s₀.heap) (ExcName.means s₀.heap) args s₁ (Except.error e) s') s₁
noncomputable def hdView : Program := { PySem.Challenge.pw_tc0040_03 with main := { PySem.Challenge.pw_tc0040_03.main with body := [0, 1, 3, 4, 5, 7, 9, 10, 12, 14, 15, 16, 17, 18, 19].filterMap fun i => PySem.Challenge.pw_tc0040_03.main.body[i]? } }
noncomputable def hdLoose : List Str := [Str.ofString "tspecials", Str.ofString "_name_disallowed_re", Str.ofString "_value_disallowed_re", Str.ofString "_formatparam", Str.ofString "_Accumulator"]
noncomputable abbrev hdHook : Hook := kHook kFrag2 kAddrs2 kAddrs2_ok
set_option maxHeartbeats 0 in
theorem hdLeftA : ∀ w, (openEnds treeTable PySem.Challenge.rw_tc0040_03.row.prog w 4276).map (openSeen hdView hdLoose (importedModules PySem.Challenge.rw_tc0040_03.row.prog.main.body) (fun s => xlAt hdView [] s && recOk (RowW.records PySem.Challenge.rw_tc0040_03.row.toRowW) s) true) = some (openGood hdView hdLoose) := by
  intro w
  kernel_rfl
set_option maxHeartbeats 0 in
theorem hdLeftB : ∀ w, (openEnds treeTable PySem.Challenge.rw_tc0040_03.row.prog w 4276).map (Hook.obs hdHook) = some (Hook.val hdHook w) := by
  intro w
  kernel_rfl
theorem map_two {α β γ : Type} {o : Option α} {f : α → β} {g : α → γ} {x : β} {y : γ} (a : o.map f = some x) (b : o.map g = some y) : o.map (fun s => (f s, g s)) = some (x, y) := by
  obtain ⟨s, rfl, rfl⟩ := Option.map_eq_some_iff.mp a
  rw [Option.map_some, Option.some.inj b]
theorem hdLeft : LeftO PySem.Challenge.rw_tc0040_03.row.prog hdView hdLoose (fun s => xlAt hdView [] s && recOk (RowW.records PySem.Challenge.rw_tc0040_03.row.toRowW) s) (Hook.obs hdHook) (Hook.val hdHook) 4276 := fun w => map_two (hdLeftA w) (hdLeftB w)
set_option maxHeartbeats 0 in
theorem hdMain (walk : Walk) : PySem.Challenge.rw_tc0040_03.Holds := by
  refine holds_law (by decide +kernel) fun said => ?_
  refine holds_open (q := hdView) (loose := hdLoose) (Xt := fun s => xlAt hdView [] s && recOk (RowW.records PySem.Challenge.rw_tc0040_03.row.toRowW) s) (XP := XL hdView []) (Yf := Hook.obs hdHook) (Ya := Hook.val hdHook) (YP := Hook.says hdHook) (N := 4276) hdLeft (Hook.of hdHook) (Hook.keeps hdHook) (fun s e => xl_of s (Bool.and_eq_true_iff.mp e).1) XL.keeps (by rfl) (by rfl) (by rfl) (fun s e => recFacts_of (Bool.and_eq_true_iff.mp e).2) (by rfl) (by first | assumption | decide +kernel) (by decide +kernel) ⟨rfl, rfl, rfl, rfl, rfl, by decide +kernel⟩ ⟨[.list [.int 3, .int 1]], by decide +kernel, by decide +kernel⟩ ?hc
  intro w s₀ s₁ mg mb G Y fa o pm cd doc dV kV ho hd hcd hD hmg hg args vals as hpre hlay hrd hwl hlo
  have KX := kIn_of Y
  have hfa : mg (Str.ofString "law") = some (.ref 352) := mg_of (in_rest KX) G.T.g (gn_law w)
  have hfa' : fa = 352 := Value.ref.inj (Option.some.inj (hmg.symm.trans hfa))
  subst hfa'
  exact walk w s₀ s₁ args vals KX G.T.nolimit hg hpre hwl
inductive P3 (p1 p2 p3 : Prop) : Prop
  | mk : p1 → p2 → p3 → P3 p1 p2 p3
inductive P4 (p1 p2 p3 p4 : Prop) : Prop
  | mk : p1 → p2 → p3 → p4 → P4 p1 p2 p3 p4
inductive P5 (p1 p2 p3 p4 p5 : Prop) : Prop
  | mk : p1 → p2 → p3 → p4 → p5 → P5 p1 p2 p3 p4 p5
inductive P6 (p1 p2 p3 p4 p5 p6 : Prop) : Prop
  | mk : p1 → p2 → p3 → p4 → p5 → p6 → P6 p1 p2 p3 p4 p5 p6
inductive P7 (p1 p2 p3 p4 p5 p6 p7 : Prop) : Prop
  | mk : p1 → p2 → p3 → p4 → p5 → p6 → p7 → P7 p1 p2 p3 p4 p5 p6 p7
inductive P8 (p1 p2 p3 p4 p5 p6 p7 p8 : Prop) : Prop
  | mk : p1 → p2 → p3 → p4 → p5 → p6 → p7 → p8 → P8 p1 p2 p3 p4 p5 p6 p7 p8
inductive PV where
  | none
  | bool (b : Bool)
  | int (i : Int)
  | str (s : Str)
  | ref (i : Nat)
  | tup (xs : List PV)
  | lst (xs : List PV)
  | raw (v : Value)
structure Rho where
  ents : List (List Addr)
  rsv : List Addr
noncomputable def Rho.flatten (ρ : Rho) : List Addr := ρ.ents.flatten
noncomputable def Rho.own (ρ : Rho) : List Addr := ρ.ents.flatten ++ ρ.rsv
noncomputable def headAt (ρ : Rho) (i : Nat) : Option Addr := match ρ.ents[i]? with
  | some (a :: _) => some a
  | _ => none
mutual
inductive RV (h : Heap) (ρ : Rho) : Value → PV → Prop
  | none : RV h ρ .none .none
  | bool (b : Bool) : RV h ρ (.bool b) (.bool b)
  | int (i : Int) (t : Tok) : RV h ρ (.int i t) (.int i)
  | str (s : Str) (t : Tok) : RV h ρ (.str s t) (.str s)
  | ref {a : Addr} {i : Nat} : headAt ρ i = some a → RV h ρ (.ref a) (.ref i)
  | tup {a : Addr} {vs : List Value} {xs : List PV} : a ∉ ρ.own → h.IsTuple a vs.toArray → RVs h ρ vs xs → RV h ρ (.ref a) (.tup xs)
  | lst {a : Addr} {vs : List Value} {xs : List PV} : a ∉ ρ.own → h.PlainList a vs.toArray → RVs h ρ vs xs → RV h ρ (.ref a) (.lst xs)
  | raw (v : Value) : RV h ρ v (.raw v)
inductive RVs (h : Heap) (ρ : Rho) : List Value → List PV → Prop
  | nil : RVs h ρ [] []
  | cons {v : Value} {p : PV} {vs : List Value} {ps : List PV} : RV h ρ v p → RVs h ρ vs ps → RVs h ρ (v :: vs) (p :: ps)
end
theorem spr {α β : Type} {a c : α} {b d : β} (e : some (a, b) = some (c, d)) : a = c ∧ b = d := Prod.mk.inj (Option.some.inj e)
theorem nos {α : Type} {a : α} (e : none = some a) : False := nomatch e
noncomputable def pik {α : Type} (P : α → Prop) : Option α := open Classical in if h : ∃ y, P y then some h.choose else none
theorem Zo {α : Type} {P : α → Prop} {y : α} (e : pik P = some y) : P y := by
  unfold pik at e
  split at e
  · cases e; exact Exists.choose_spec _
  · cases e
theorem pik_of {α : Type} {P : α → Prop} {y : α} (h : P y) (u : ∀ z, P z → z = y) : pik P = some y := by
  unfold pik
  rw [dif_pos ⟨y, h⟩]
  exact congrArg some (u _ (Exists.choose_spec (⟨y, h⟩ : ∃ y, P y)))
noncomputable def pikB (P : Prop) : Bool := open Classical in decide P
theorem X7 {P : Prop} (e : pikB P = true) : P := @of_decide_eq_true P (Classical.propDecidable P) e
theorem Yt {P : Prop} (h : P) : pikB P = true := @decide_eq_true P (Classical.propDecidable P) h
noncomputable def RVI (h : Heap) (ρ : Rho) (v : Value) : PV → Prop
  | .none => ∃ _ : Unit, v = .none
  | .bool b => ∃ _ : Unit, v = .bool b
  | .int i => ∃ t, v = .int i t
  | .str x => ∃ t, v = .str x t
  | .ref i => ∃ a, headAt ρ i = some a ∧ v = .ref a
  | .tup xs => ∃ a vs, P4 (a ∉ ρ.own) (h.IsTuple a vs.toArray) (RVs h ρ vs xs) (v = .ref a)
  | .lst xs => ∃ a vs, P4 (a ∉ ρ.own) (h.PlainList a vs.toArray) (RVs h ρ vs xs) (v = .ref a)
  | .raw w => ∃ _ : Unit, v = w
theorem RV.inv {h : Heap} {ρ : Rho} : ∀ {v : Value} {p : PV}, RV h ρ v p → RVI h ρ v p
  | _, _, .none => ⟨(), rfl⟩
  | _, _, .bool _ => ⟨(), rfl⟩
  | _, _, .int _ t => ⟨t, rfl⟩
  | _, _, .str _ t => ⟨t, rfl⟩
  | _, _, .ref hd => ⟨_, hd, rfl⟩
  | _, _, .tup a b c => ⟨_, _, a, b, c, rfl⟩
  | _, _, .lst a b c => ⟨_, _, a, b, c, rfl⟩
  | _, _, .raw _ => ⟨(), rfl⟩
noncomputable def RVsI (h : Heap) (ρ : Rho) (vs : List Value) : List PV → Prop
  | [] => vs = []
  | p :: ps => ∃ v vs', P3 (vs = v :: vs') (RV h ρ v p) (RVs h ρ vs' ps)
theorem RVs.inv {h : Heap} {ρ : Rho} : ∀ {vs : List Value} {ps : List PV}, RVs h ρ vs ps → RVsI h ρ vs ps
  | _, _, .nil => rfl
  | _, _, .cons a b => ⟨_, _, rfl, a, b⟩
inductive RVo (h : Heap) (ρ : Rho) : Option Value → Option PV → Prop
  | none : RVo h ρ .none .none
  | some {v : Value} {p : PV} : RV h ρ v p → RVo h ρ (.some v) (.some p)
structure Carry (h : Heap) (ρ : Rho) (h' : Heap) (ρ' : Rho) : Prop where
  keep : ∀ a o, h.get? a = some o → a ∉ ρ.own → h'.get? a = some o ∧ a ∉ ρ'.own
  head : ∀ i a, headAt ρ i = some a → headAt ρ' i = some a
theorem RV.carry {ρ ρ' : Rho} {h h' : Heap} (g : Carry h ρ h' ρ') {v : Value} {p : PV} (r : RV h ρ v p) : RV h' ρ' v p :=
  RV.rec (motive_1 := fun v p _ => RV h' ρ' v p) (motive_2 := fun vs ps _ => RVs h' ρ' vs ps) .none (fun b => .bool b) (fun i t => .int i t) (fun s t => .str s t) (fun e => .ref (g.head _ _ e))
    (fun na e _ r => .tup (g.keep _ _ e.choose_spec.1 na).2 ⟨e.choose, (g.keep _ _ e.choose_spec.1 na).1, e.choose_spec.2⟩ r) (fun na e _ r => .lst (g.keep _ _ e.choose_spec na).2 ⟨e.choose, (g.keep _ _ e.choose_spec na).1⟩ r) (fun v => .raw v) .nil (fun _ _ x y => .cons x y) r
theorem RVs.carry {ρ ρ' : Rho} {h h' : Heap} (g : Carry h ρ h' ρ') {vs : List Value} {ps : List PV} (r : RVs h ρ vs ps) : RVs h' ρ' vs ps := by
  induction ps generalizing vs with
  | nil => obtain rfl := r.inv; exact .nil
  | cons p ps ih => obtain ⟨_, _, rfl, x, y⟩ := r.inv; exact .cons (x.carry g) (ih y)
theorem RVo.carry {ρ ρ' : Rho} {h h' : Heap} (g : Carry h ρ h' ρ') {v : Option Value} {p : Option PV} : RVo h ρ v p → RVo h' ρ' v p
  | .none => .none
  | .some x => .some (x.carry g)
structure Grow (fr : List Addr) (ρ : Rho) (h : Heap) (ρ' : Rho) (h' : Heap) : Prop where
  keep : ∀ a o, h.get? a = some o → a ∉ fr → a ∉ ρ.flatten → h'.get? a = some o
  pre : ρ.ents <+: ρ'.ents
  rsv : ρ'.rsv = ρ.rsv
  new : ∀ a ∈ ρ'.flatten, a ∈ ρ.flatten ∨ a ∈ fr ∨ h.get? a = none
theorem Grow.refl {fr : List Addr} {ρ : Rho} {h : Heap} : Grow fr ρ h ρ h := ⟨fun _ _ e _ _ => e, List.prefix_rfl, rfl, fun _ m => .inl m⟩
theorem Grow.trans {fr : List Addr} {ρ ρ₁ ρ₂ : Rho} {h h₁ h₂ : Heap} (x : Grow fr ρ h ρ₁ h₁) (y : Grow fr ρ₁ h₁ ρ₂ h₂) : Grow fr ρ h ρ₂ h₂ := by
  refine ⟨fun a o e nf nr => ?_, x.pre.trans y.pre, y.rsv.trans x.rsv, fun a m => ?_⟩
  · have e1 := x.keep a o e nf nr
    refine y.keep a o e1 nf fun m => ?_
    rcases x.new a m with m | m | m
    · exact nr m
    · exact nf m
    · rw [e] at m; cases m
  · rcases y.new a m with m | m | m
    · exact x.new a m
    · exact .inr (.inl m)
    · by_cases hf : a ∈ fr
      · exact .inr (.inl hf)
      by_cases hr : a ∈ ρ.flatten
      · exact .inl hr
      refine .inr (.inr ?_)
      cases q : h.get? a with
      | none => rfl
      | some o => rw [x.keep a o q hf hr] at m; cases m
theorem Grow.through {fr fr' wr : List Addr} {ρ ρ₁ ρ₂ ρ₃ : Rho} {h h₁ h₂ h₃ h₄ : Heap} (g₁ : Grow fr ρ h ρ₁ h₁) (k : ∀ a o, h₁.get? a = some o → h₂.get? a = some o) (e2 : ρ₂.ents = ρ₁.ents) (g : Grow fr' ρ₂ h₂ ρ₃ h₃)
    (sub : ∀ a ∈ fr', a ∈ fr ∨ h.get? a = none) (kp : ∀ a o, h₃.get? a = some o → a ∉ wr → h₄.get? a = some o) (wsub : ∀ a ∈ wr, h.get? a = none) : Grow fr ρ h ⟨ρ₃.ents, ρ.rsv⟩ h₄ := by
  have f2 : ρ₂.flatten = ρ₁.flatten := by unfold Rho.flatten; rw [e2]
  refine ⟨fun a o e nf nr => ?_, g₁.pre.trans (by rw [← e2]; exact g.pre), rfl, fun a m => ?_⟩
  · have e1 := g₁.keep a o e nf nr
    refine kp a o (g.keep a o (k a o e1) (fun m => ?_) fun m => ?_) fun m => ?_
    · rcases sub a m with m | m
      · exact nf m
      · rw [e] at m; cases m
    · rw [f2] at m
      rcases g₁.new a m with z | z | z
      · exact nr z
      · exact nf z
      · rw [e] at z; cases z
    · rw [wsub a m] at e; cases e
  · replace m : a ∈ ρ₃.flatten := m
    rcases g.new a m with z | z | z
    · rw [f2] at z; exact g₁.new a z
    · rcases sub a z with z | z
      · exact .inr (.inl z)
      · exact .inr (.inr z)
    · by_cases hf : a ∈ fr
      · exact .inr (.inl hf)
      by_cases hr : a ∈ ρ.flatten
      · exact .inl hr
      refine .inr (.inr ?_)
      cases q : h.get? a with
      | none => rfl
      | some o => rw [k a o (g₁.keep a o q hf hr)] at z; cases z
theorem Grow.wider {fr fr' : List Addr} {ρ ρ' : Rho} {h h' : Heap} (x : Grow fr ρ h ρ' h') (s : ∀ a ∈ fr, a ∈ fr') : Grow fr' ρ h ρ' h' :=
  ⟨fun a o e nf nr => x.keep a o e (fun m => nf (s a m)) nr, x.pre, x.rsv, fun a m => (x.new a m).imp id fun z => z.imp (s a) id⟩
theorem J0 {ρ ρ' : Rho} {i : Nat} {a : Addr} (p : ρ.ents <+: ρ'.ents) (e : headAt ρ i = some a) : headAt ρ' i = some a := by
  obtain ⟨t, p⟩ := p
  unfold headAt at e ⊢
  rw [← p]
  by_cases hi : i < ρ.ents.length
  · rw [List.getElem?_append_left hi]; exact e
  · rw [List.getElem?_eq_none (Nat.le_of_not_lt hi)] at e; cases e
theorem Grow.carry {fr : List Addr} {ρ ρ' : Rho} {h h' : Heap} (g : Grow fr ρ h ρ' h') (L : ∀ a ∈ fr, a ∈ ρ.rsv) : Carry h ρ h' ρ' := by
  refine ⟨fun a o e na => ?_, fun i a e => J0 g.pre e⟩
  have n1 : a ∉ ρ.flatten := fun m => na (List.mem_append_left _ m)
  have n2 : a ∉ ρ.rsv := fun m => na (List.mem_append_right _ m)
  refine ⟨g.keep a o e (fun m => n2 (L a m)) n1, fun m => ?_⟩
  rcases List.mem_append.mp m with m | m
  · rcases g.new a m with m | m | m
    · exact n1 m
    · exact n2 (L a m)
    · rw [e] at m; cases m
  · rw [g.rsv] at m; exact n2 m
theorem RV.grow {fr : List Addr} {ρ ρ' : Rho} {h h' : Heap} (g : Grow fr ρ h ρ' h') (L : ∀ a ∈ fr, a ∈ ρ.rsv) {v : Value} {p : PV} (r : RV h ρ v p) : RV h' ρ' v p := r.carry (g.carry L)
theorem RVs.grow {fr : List Addr} {ρ ρ' : Rho} {h h' : Heap} (g : Grow fr ρ h ρ' h') (L : ∀ a ∈ fr, a ∈ ρ.rsv) {v : List Value} {p : List PV} (r : RVs h ρ v p) : RVs h' ρ' v p := r.carry (g.carry L)
theorem RVo.grow {fr : List Addr} {ρ ρ' : Rho} {h h' : Heap} (g : Grow fr ρ h ρ' h') (L : ∀ a ∈ fr, a ∈ ρ.rsv) {v : Option Value} {p : Option PV} (r : RVo h ρ v p) : RVo h' ρ' v p := r.carry (g.carry L)
theorem RVs.length {h : Heap} {ρ : Rho} {vs : List Value} {ps : List PV} (r : RVs h ρ vs ps) : vs.length = ps.length := by
  induction vs generalizing ps with
  | nil => cases r; rfl
  | cons v vs ih => cases r with | cons _ y => simp [ih y]
theorem RVs.get {h : Heap} {ρ : Rho} {vs : List Value} {ps : List PV} (r : RVs h ρ vs ps) {i : Nat} {p : PV} (e : ps[i]? = some p) : ∃ v, vs[i]? = some v ∧ RV h ρ v p := by
  induction vs generalizing ps i with
  | nil => cases r; simp at e
  | cons v vs ih =>
    cases r with
    | cons x y =>
      cases i with
      | zero => simp at e; subst e; exact ⟨v, by simp, x⟩
      | succ i => simp at e; obtain ⟨u, a, b⟩ := ih y e; exact ⟨u, by simpa using a, b⟩
theorem RVs.append {h : Heap} {ρ : Rho} {vs ws : List Value} {ps qs : List PV} (r : RVs h ρ vs ps) (q : RVs h ρ ws qs) : RVs h ρ (vs ++ ws) (ps ++ qs) := by
  induction vs generalizing ps with
  | nil => cases r; exact q
  | cons v vs ih => cases r with | cons x y => exact .cons x (ih y)
inductive AO where
  | list (xs : List PV)
  | inst (C : Addr) (kvs : List (Str × PV))
  | linst (C : Addr) (kvs : List (Str × PV)) (xs : List PV)
  | cell (v : Option PV)
  | meth (f : Value) (self : PV)
  | clo (tm : FuncData) (names : List Str) (vals : List (Option PV))
  | fn (tm : FuncData) (cl : List (Str × Addr))
  | tab (P : Addr) (pos : Pos) (q : Str)
  | citer (m z : PV)
  | cdone
  | junk
noncomputable def NsRel (h : Heap) (ρ : Rho) (d : Addr) (names : List Str) (vals : List (Option PV)) : Prop := ∃ m, P3 (h.Ns d m) ((∀ (i : Nat) (x : Str), names[i]? = some x → RVo h ρ (m x) ((vals[i]?).join))) ((∀ x, x ∉ names → m x = none))
theorem NsRel.carry {ρ ρ' : Rho} {h h' : Heap} (g : Carry h ρ h' ρ') {d : Addr} {names : List Str} {vals : List (Option PV)} (x : NsRel h ρ d names vals)
    (e : ∀ o, h.get? d = some o → h'.get? d = some o) : NsRel h' ρ' d names vals := by
  obtain ⟨m, a, b, c⟩ := x
  exact ⟨m, a.at' e, fun i y z => (b i y z).carry g, c⟩
inductive EntsR (h : Heap) (ρ : Rho) : List DictEntry → List (Str × PV) → Prop
  | nil : EntsR h ρ [] []
  | cons {hs : Int} {x : Str} {t : Tok} {v : Value} {p : PV} {es : List DictEntry} {kvs : List (Str × PV)} : RV h ρ v p → EntsR h ρ es kvs → EntsR h ρ (⟨hs, .str x t, v⟩ :: es) ((x, p) :: kvs)
theorem EntsR.carry {ρ ρ' : Rho} {h h' : Heap} (g : Carry h ρ h' ρ') {es : List DictEntry} {kvs : List (Str × PV)} (r : EntsR h ρ es kvs) : EntsR h' ρ' es kvs := by
  induction r with
  | nil => exact .nil
  | cons x _ ih => exact .cons (x.carry g) ih
noncomputable def FnObj (h : Heap) (ρ : Rho) (f : Addr) (tm : FuncData) (cl : List (Str × Addr)) : Prop := ∃ T c' oc vc q, P5 (h.get? f = some { cls := .type "function", data := .func { tm with closure := cl, closureTuple := T, code := .ref c' } }) (c' ∉ ρ.own) (h.get? c' = some oc) (oc.data = .fields vc) (vc[1]? = some (.str tm.qualname q))
theorem FnObj.carry {ρ ρ' : Rho} {h h' : Heap} (g : Carry h ρ h' ρ') {f : Addr} {tm : FuncData} {cl : List (Str × Addr)} (x : FnObj h ρ f tm cl) (e : ∀ o, h.get? f = some o → h'.get? f = some o) : FnObj h' ρ' f tm cl := by
  obtain ⟨T, c', oc, vc, q, x1, y1, y2, y3, y4⟩ := x
  exact ⟨T, c', oc, vc, q, e _ x1, (g.keep _ _ y2 y1).2, (g.keep _ _ y2 y1).1, y3, y4⟩
noncomputable def RO (h : Heap) (ρ : Rho) (as : List Addr) : AO → Prop
  | .list xs => ∃ a vs n, P3 (as = [a]) (h.get? a = some { cls := .type "list", data := .seq vs n }) (RVs h ρ vs.toList xs)
  | .inst C kvs => ∃ a d es n, P4 (as = [a, d]) (h.get? a = some { cls := .ref C, dict := some d, data := .plain }) (h.get? d = some (W.dictOf es n)) (EntsR h ρ es kvs)
  | .linst C kvs xs => ∃ a d vs m es n, P5 (as = [a, d]) (h.get? a = some { cls := .ref C, dict := some d, data := .seq vs m }) (RVs h ρ vs.toList xs) (h.get? d = some (W.dictOf es n)) (EntsR h ρ es kvs)
  | .cell v => ∃ a o u, P4 (as = [a]) (h.get? a = some o) (o.data = .cell u) (RVo h ρ u v)
  | .meth f self => ∃ a u, P3 (as = [a]) (h.get? a = some { cls := .type "method", data := .fields #[f, u] }) (RV h ρ u self)
  | .clo tm names vals => ∃ f cs, as = f :: cs ∧ (cs.length = names.length ∧ vals.length = names.length) ∧ FnObj h ρ f tm (names.zip cs) ∧ ∀ (i : Nat) (d : Addr), cs[i]? = some d → ∃ o u, P3 (h.get? d = some o) (o.data = .cell u) (RVo h ρ u ((vals[i]?).join))
  | .fn tm cl => ∃ f, as = [f] ∧ FnObj h ρ f tm cl
  | .tab P pos q => ∃ ps, P4 (as = [P]) (h.get? P = some { cls := .none, data := .fields ps }) (TriplesOk ps.toList) ((codeAmong pos ps.toList = none ∨ ∃ c' oc vc t, c' ∉ ρ.own ∧ codeAmong pos ps.toList = some (.ref c') ∧
      h.get? c' = some oc ∧ oc.data = .fields vc ∧ vc[1]? = some (.str q t)))
  | .citer m z => ∃ a u v, P4 (as = [a]) (h.get? a = some { cls := .type "callable_iterator", data := .fields #[u, v, .bool false] }) (RV h ρ u m) (RV h ρ v z)
  | .cdone => ∃ a u v, as = [a] ∧ h.get? a = some { cls := .type "callable_iterator", data := .fields #[u, v, .bool true] }
  | .junk => True
section
variable {h₀ h h' : Heap} {ρ₀ ρ ρ' : Rho}
theorem RVs.both (rv : ∀ v₀ v p, RV h₀ ρ₀ v₀ p → RV h ρ v p → RV h' ρ' v p) {vs₀ vs : List Value} {ps : List PV} (r₀ : RVs h₀ ρ₀ vs₀ ps) (r : RVs h ρ vs ps) : RVs h' ρ' vs ps := by
  induction ps generalizing vs₀ vs with
  | nil => obtain rfl := r.inv; exact .nil
  | cons p ps ih =>
    obtain ⟨_, _, rfl, x, y⟩ := r.inv
    obtain ⟨_, _, rfl, x₀, y₀⟩ := r₀.inv
    exact .cons (rv _ _ _ x₀ x) (ih y₀ y)
theorem RVo.both (rv : ∀ v₀ v p, RV h₀ ρ₀ v₀ p → RV h ρ v p → RV h' ρ' v p) {v₀ v : Option Value} {p : Option PV} (r₀ : RVo h₀ ρ₀ v₀ p) (r : RVo h ρ v p) : RVo h' ρ' v p := by
  cases r with
  | none => exact .none
  | some r => cases r₀ with | some r₀ => exact .some (rv _ _ _ r₀ r)
theorem EntsR.both (rv : ∀ v₀ v p, RV h₀ ρ₀ v₀ p → RV h ρ v p → RV h' ρ' v p) {es₀ es : List DictEntry} {kvs : List (Str × PV)} (r₀ : EntsR h₀ ρ₀ es₀ kvs) (r : EntsR h ρ es kvs) : EntsR h' ρ' es kvs := by
  induction r generalizing es₀ with
  | nil => exact .nil
  | cons x _ ih => cases r₀ with | cons x₀ y₀ => exact .cons (rv _ _ _ x₀ x) (ih y₀)
theorem RO.both (rv : ∀ v₀ v p, RV h₀ ρ₀ v₀ p → RV h ρ v p → RV h' ρ' v p) (own : ∀ c o, c ∉ ρ.own → h.get? c = some o → c ∉ ρ'.own ∧ h'.get? c = some o) {as₀ as : List Addr} (e : ∀ a ∈ as, ∀ o, h.get? a = some o → h'.get? a = some o) {ao : AO} (x₀ : RO h₀ ρ₀ as₀ ao) (x : RO h ρ as ao) : RO h' ρ' as ao := by
  have fo : ∀ {f : Addr} {tm : FuncData} {cl : List (Str × Addr)}, f ∈ as → FnObj h ρ f tm cl → FnObj h' ρ' f tm cl := fun {f tm cl} m x => by
    obtain ⟨T, c', oc, vc, q, x1, y1, y2, y3, y4⟩ := x
    exact ⟨T, c', oc, vc, q, e _ m _ x1, (own _ _ y1 y2).1, (own _ _ y1 y2).2, y3, y4⟩
  cases ao with
  | list xs =>
    obtain ⟨a, vs, n, rfl, x, y⟩ := x
    obtain ⟨_, _, _, _, _, y₀⟩ := x₀
    exact ⟨a, vs, n, rfl, e a (.head _) _ x, y₀.both rv y⟩
  | inst C kvs =>
    obtain ⟨a, d, es, n, rfl, x, y, z⟩ := x
    obtain ⟨_, _, _, _, _, _, _, z₀⟩ := x₀
    exact ⟨a, d, es, n, rfl, e a (.head _) _ x, e d (.tail _ (.head _)) _ y, z₀.both rv z⟩
  | linst C kvs xs =>
    obtain ⟨a, d, vs, m, es, n, rfl, x, y, z, w⟩ := x
    obtain ⟨_, _, _, _, _, _, _, _, y₀, _, w₀⟩ := x₀
    exact ⟨a, d, vs, m, es, n, rfl, e a (.head _) _ x, y₀.both rv y, e d (.tail _ (.head _)) _ z, w₀.both rv w⟩
  | cell v =>
    obtain ⟨a, o, u, rfl, x, y, z⟩ := x
    obtain ⟨_, _, _, _, _, _, z₀⟩ := x₀
    exact ⟨a, o, u, rfl, e a (.head _) _ x, y, z₀.both rv z⟩
  | meth f self =>
    obtain ⟨a, u, rfl, x, y⟩ := x
    obtain ⟨_, _, _, _, y₀⟩ := x₀
    exact ⟨a, u, rfl, e a (.head _) _ x, rv _ _ _ y₀ y⟩
  | clo tm names vals =>
    obtain ⟨f, cs, rfl, l, x, y⟩ := x
    obtain ⟨_, cs₀, _, l₀, _, y₀⟩ := x₀
    refine ⟨f, cs, rfl, l, fo (.head _) x, fun i d hd => ?_⟩
    obtain ⟨o, u, a, b, c⟩ := y i d hd
    have hi : i < cs₀.length := by rw [l₀.1, ← l.1]; exact (List.getElem?_eq_some_iff.mp hd).1
    obtain ⟨_, _, _, _, c₀⟩ := y₀ i _ (List.getElem?_eq_getElem hi)
    exact ⟨o, u, e d (.tail _ (List.mem_of_getElem? hd)) _ a, b, c₀.both rv c⟩
  | fn tm cl =>
    obtain ⟨f, rfl, x⟩ := x
    exact ⟨f, rfl, fo (.head _) x⟩
  | tab P pos q =>
    obtain ⟨ps, rfl, x, y, z⟩ := x
    refine ⟨ps, rfl, e P (.head _) _ x, y, z.imp id ?_⟩
    rintro ⟨c', oc, vc, t, n, a, b, c, d⟩
    exact ⟨c', oc, vc, t, (own _ _ n b).1, a, (own _ _ n b).2, c, d⟩
  | citer m z =>
    obtain ⟨a, u, v, rfl, x, y, z⟩ := x
    obtain ⟨_, _, _, _, _, y₀, z₀⟩ := x₀
    exact ⟨a, u, v, rfl, e a (.head _) _ x, rv _ _ _ y₀ y, rv _ _ _ z₀ z⟩
  | cdone =>
    obtain ⟨a, u, v, rfl, x⟩ := x
    exact ⟨a, u, v, rfl, e a (.head _) _ x⟩
  | junk => trivial
end
theorem RO.carry {ρ ρ' : Rho} {h h' : Heap} (g : Carry h ρ h' ρ') {as : List Addr} (e : ∀ a ∈ as, ∀ o, h.get? a = some o → h'.get? a = some o) {ao : AO} (x : RO h ρ as ao) : RO h' ρ' as ao :=
  x.both (fun _ _ _ _ r => r.carry g) (fun c o n q => ⟨(g.keep c o q n).2, (g.keep c o q n).1⟩) e x
structure RelS (K : Frag) (ρ : Rho) (st : List AO) (h : Heap) : Prop where
  len : ρ.ents.length = st.length
  objs : ∀ (i : Nat) (as : List Addr) (ao : AO), ρ.ents[i]? = some as → st[i]? = some ao → RO h ρ as ao
  nodup : ρ.own.Nodup
  apart : ∀ a ∈ ρ.own, K.lookup a = none ∧ a ≠ cStatics ∧ ∃ o, h.get? a = some o
  top : K.In h
  nolim : h.NoLimit
theorem Yz {ρ : Rho} {i : Nat} {as : List Addr} (e : ρ.ents[i]? = some as) : ∀ a ∈ as, a ∈ ρ.flatten := fun a m => List.mem_flatten.mpr ⟨as, List.mem_of_getElem? e, m⟩
theorem Yu {ρ : Rho} {a : Addr} (m : a ∈ ρ.flatten) : a ∈ ρ.own := List.mem_append_left _ m
theorem Yb {ρ : Rho} {a : Addr} (m : a ∈ ρ.rsv) : a ∈ ρ.own := List.mem_append_right _ m
theorem apart_at {ρ : Rho} (n : ρ.own.Nodup) {i j : Nat} {as bs : List Addr} (e : ρ.ents[i]? = some as) (e' : ρ.ents[j]? = some bs) (ne : i ≠ j) : ∀ a ∈ as, a ∉ bs := by
  intro a ma mb
  replace n := (List.nodup_append.mp n).1
  rw [List.nodup_iff_pairwise_ne, List.pairwise_flatten] at n
  obtain ⟨-, q⟩ := n
  have hi : i < ρ.ents.length := (List.getElem?_eq_some_iff.mp e).1
  have hj : j < ρ.ents.length := (List.getElem?_eq_some_iff.mp e').1
  have ei := (List.getElem?_eq_some_iff.mp e).2
  have ej := (List.getElem?_eq_some_iff.mp e').2
  rw [List.pairwise_iff_getElem] at q
  rcases Nat.lt_or_gt_of_ne ne with l | l
  · exact q i j hi hj l a (ei ▸ ma) a (ej ▸ mb) rfl
  · exact q j i hj hi l a (ej ▸ mb) a (ei ▸ ma) rfl
theorem Yx {ρ : Rho} (n : ρ.own.Nodup) {a : Addr} (m : a ∈ ρ.rsv) : a ∉ ρ.flatten := fun q => (List.nodup_append.mp n).2.2 a q a m rfl
section
variable {K : Frag} {ρ ρ' : Rho} {st : List AO} {h h' : Heap}
theorem RelS.notK (R : RelS K ρ st h) {a : Addr} {o : Obj} (e : K.lookup a = some o) : a ∉ ρ.own := fun m => by
  have := (R.apart a m).1
  rw [e] at this; cases this
theorem RelS.statics (R : RelS K ρ st h) : cStatics ∉ ρ.own := fun m => (R.apart _ m).2.1 rfl
theorem noFr {ρ : Rho} : ∀ a ∈ ([] : List Addr), a ∈ ρ.rsv := fun _ m => nomatch m
theorem RelS.wrote (R : RelS K ρ st h) {wr : List Addr} (sub : ∀ a ∈ wr, a ∈ ρ.rsv) (k : ∀ a o, h.get? a = some o → a ∉ wr → h'.get? a = some o) (lv : ∀ a ∈ wr, ∃ o, h'.get? a = some o) : RelS K ρ st h' ∧ Grow wr ρ h ρ h' := by
  have g : Grow wr ρ h ρ h' := ⟨fun a o e n _ => k a o e n, List.prefix_rfl, rfl, fun _ m => .inl m⟩
  refine ⟨⟨R.len, fun i as ao e e' => (R.objs i as ao e e').carry (g.carry sub) fun a m o q => k a o q fun z => Yx R.nodup (sub a z) (Yz e a m), R.nodup, fun a m => ?_, fun a o e => k a o (R.top a o e) fun z => R.notK e (Yb (sub a z)), ?_⟩, g⟩
  · obtain ⟨x, y, o, z⟩ := R.apart a m
    refine ⟨x, y, ?_⟩
    by_cases m' : a ∈ wr
    · exact lv a m'
    · exact ⟨o, k a o z m'⟩
  · obtain ⟨mc, p, q⟩ := R.nolim
    exact ⟨mc, p.at' fun o z => k _ o z fun m => R.statics (Yb (sub _ m)), q⟩
theorem RelS.ext (R : RelS K ρ st h) (k : ∀ a o, h.get? a = some o → h'.get? a = some o) : RelS K ρ st h' ∧ Grow [] ρ h ρ h' :=
  R.wrote noFr (fun a o e _ => k a o e) fun _ m => nomatch m
noncomputable def Rho.enter (ρ : Rho) (wr : List Addr) : Rho := ⟨ρ.ents, wr ++ ρ.rsv⟩
theorem RelS.enter (R : RelS K ρ st h) {wr : List Addr} (k : ∀ a o, h.get? a = some o → h'.get? a = some o) (fresh : ∀ a ∈ wr, h.get? a = none) (lv : ∀ a ∈ wr, ∃ o, h'.get? a = some o) (nd : wr.Nodup) :
    RelS K (ρ.enter wr) st h' ∧ Carry h ρ h' (ρ.enter wr) := by
  have nn : ∀ a ∈ wr, a ∉ ρ.own := fun a m q => by obtain ⟨_, _, o, z⟩ := R.apart a q; rw [fresh a m] at z; cases z
  have mem : ∀ a, a ∈ (ρ.enter wr).own → a ∈ wr ∨ a ∈ ρ.own := fun a m => by
    rcases List.mem_append.mp m with m | m
    · exact .inr (Yu m)
    · rcases List.mem_append.mp m with m | m
      · exact .inl m
      · exact .inr (Yb m)
  have g : Carry h ρ h' (ρ.enter wr) := ⟨fun a o e na => ⟨k a o e, fun m => (mem a m).elim (fun m => by rw [fresh a m] at e; cases e) na⟩, fun i a e => e⟩
  refine ⟨⟨R.len, fun i as ao e e' => (R.objs i as ao e e').carry g fun a _ o q => k a o q, ?_, fun a m => ?_, R.top.keeps k, R.nolim.keeps k⟩, g⟩
  · have n := R.nodup
    unfold Rho.own at n
    rw [List.nodup_append] at n
    show (ρ.ents.flatten ++ (wr ++ ρ.rsv)).Nodup
    rw [List.nodup_append, List.nodup_append]
    refine ⟨n.1, ⟨nd, n.2.1, fun a m b m' q => nn a m (q ▸ Yb m')⟩, fun a m b m' q => ?_⟩
    rcases List.mem_append.mp m' with m' | m'
    · exact nn b m' (q ▸ Yu m)
    · exact n.2.2 a m b m' q
  · rcases mem a m with m | m
    · refine ⟨?_, ?_, lv a m⟩
      · cases q : K.lookup a with
        | none => rfl
        | some o => have := R.top a o q; rw [fresh a m] at this; cases this
      · rintro rfl
        obtain ⟨mc, ⟨o, _, _, z, _⟩, _⟩ := R.nolim
        rw [fresh _ m] at z; cases z
    · obtain ⟨x, y, o, z⟩ := R.apart a m
      exact ⟨x, y, o, k a o z⟩
theorem RelS.drop (R : RelS K ρ st h) {r' wr : List Addr} (nd : r'.Nodup) (sub : ∀ a ∈ r', a ∈ ρ.rsv) (wsub : ∀ a ∈ wr, a ∈ ρ.rsv ∧ a ∉ r') (k : ∀ a o, h.get? a = some o → a ∉ wr → h'.get? a = some o) :
    RelS K ⟨ρ.ents, r'⟩ st h' ∧ Carry h ρ h' ⟨ρ.ents, r'⟩ := by
  have up : ∀ a, a ∈ (⟨ρ.ents, r'⟩ : Rho).own → a ∈ ρ.own := fun a m => by
    rcases List.mem_append.mp m with m | m
    · exact Yu (ρ := ρ) m
    · exact Yb (sub a m)
  have n := R.nodup
  unfold Rho.own at n
  rw [List.nodup_append] at n
  have apart : ∀ a ∈ (⟨ρ.ents, r'⟩ : Rho).own, a ∉ wr := fun a m q => by
    rcases List.mem_append.mp m with m | m
    · exact n.2.2 a m a (wsub a q).1 rfl
    · exact (wsub a q).2 m
  have g : Carry h ρ h' ⟨ρ.ents, r'⟩ := ⟨fun a o e na => ⟨k a o e fun m => na (Yb (wsub a m).1), fun m => na (up a m)⟩, fun i a e => e⟩
  refine ⟨⟨R.len, fun i as ao e e' => (R.objs i as ao e e').carry g fun a m o q => k a o q (apart a (Yu (ρ := ⟨ρ.ents, r'⟩) (Yz (ρ := ⟨ρ.ents, r'⟩) e a m))), ?_, fun a m => ?_, fun a o e => k a o (R.top a o e) fun z => R.notK e (Yb (wsub a z).1), ?_⟩, g⟩
  · unfold Rho.own
    rw [List.nodup_append]
    exact ⟨n.1, nd, fun a m b m' q => n.2.2 a m b (sub b m') q⟩
  · obtain ⟨x, y, o, z⟩ := R.apart a (up a m)
    exact ⟨x, y, o, k a o z (apart a m)⟩
  · obtain ⟨mc, p, q⟩ := R.nolim
    exact ⟨mc, p.at' fun o z => k _ o z fun m => R.statics (Yb (wsub _ m).1), q⟩
theorem RelS.leave {wr : List Addr} (R : RelS K (ρ.enter wr) st h) (k : ∀ a o, h.get? a = some o → a ∉ wr → h'.get? a = some o) : RelS K ρ st h' ∧ Carry h (ρ.enter wr) h' ρ := by
  have up : ∀ a, a ∈ ρ.own → a ∈ (ρ.enter wr).own := fun a m => by
    rcases List.mem_append.mp m with m | m
    · exact Yu (ρ := ρ.enter wr) m
    · exact Yb (ρ := ρ.enter wr) (List.mem_append_right _ m)
  have inw : ∀ a ∈ wr, a ∈ (ρ.enter wr).rsv := fun a m => List.mem_append_left _ m
  have n := R.nodup
  unfold Rho.own at n
  rw [List.nodup_append] at n
  have n2 : (wr ++ ρ.rsv).Nodup := n.2.1
  rw [List.nodup_append] at n2
  have apart : ∀ a ∈ ρ.own, a ∉ wr := fun a m q => by
    rcases List.mem_append.mp m with m | m
    · exact n.2.2 a m a (inw a q) rfl
    · exact n2.2.2 a q a m rfl
  have g : Carry h (ρ.enter wr) h' ρ := ⟨fun a o e na => ⟨k a o e fun m => na (Yb (inw a m)), fun m => na (up a m)⟩, fun i a e => e⟩
  refine ⟨⟨R.len, fun i as ao e e' => (R.objs i as ao e e').carry g fun a m o q => k a o q (apart a (Yu (Yz e a m))), ?_, fun a m => ?_, fun a o e => k a o (R.top a o e) fun z => R.notK e (Yb (inw a z)), ?_⟩, g⟩
  · unfold Rho.own
    rw [List.nodup_append]
    exact ⟨n.1, n2.2.1, fun a m b m' q => n.2.2 a m b (List.mem_append_right _ m') q⟩
  · obtain ⟨x, y, o, z⟩ := R.apart a (up a m)
    exact ⟨x, y, o, k a o z (apart a m)⟩
  · obtain ⟨mc, p, q⟩ := R.nolim
    exact ⟨mc, p.at' fun o z => k _ o z fun m => R.statics (Yb (inw _ m)), q⟩
theorem RelS.put (R : RelS K ρ st h) {i : Nat} {as : List Addr} {ao' : AO} (e : ρ.ents[i]? = some as) (k : ∀ a o, h.get? a = some o → a ∉ as → h'.get? a = some o) (lv : ∀ a ∈ as, ∃ o, h'.get? a = some o)
    (n : Grow [] ρ h ρ h' → RO h' ρ as ao') : RelS K ρ (st.set i ao') h' ∧ Grow [] ρ h ρ h' := by
  have sub := Yz e
  have g : Grow [] ρ h ρ h' := ⟨fun a o e _ nr => k a o e fun m => nr (sub a m), List.prefix_rfl, rfl, fun _ m => .inl m⟩
  refine ⟨⟨by rw [List.length_set]; exact R.len, fun j bs ao ej ej' => ?_, R.nodup, fun a m => ?_, fun a o q => k a o (R.top a o q) fun m => R.notK q (Yu (sub a m)), ?_⟩, g⟩
  · by_cases hij : i = j
    · subst hij
      rw [e] at ej; cases ej
      rw [List.getElem?_set] at ej'
      simp only [if_true] at ej'
      split at ej'
      · cases ej'; exact n g
      · cases ej'
    · rw [List.getElem?_set_ne hij] at ej'
      exact (R.objs j bs ao ej ej').carry (g.carry noFr) fun a m o q => k a o q (apart_at R.nodup ej e (Ne.symm hij) a m)
  · obtain ⟨x, y, o, z⟩ := R.apart a m
    refine ⟨x, y, ?_⟩
    by_cases m' : a ∈ as
    · exact lv a m'
    · exact ⟨o, k a o z m'⟩
  · obtain ⟨mc, p, q⟩ := R.nolim
    exact ⟨mc, p.at' fun o z => k _ o z fun m => R.statics (Yu (sub _ m)), q⟩
noncomputable def Rho.push (ρ : Rho) (as : List Addr) : Rho := ⟨ρ.ents ++ [as], ρ.rsv⟩
theorem RelS.push (R : RelS K ρ st h) {as : List Addr} {ao : AO} (k : ∀ a o, h.get? a = some o → h'.get? a = some o) (fresh : ∀ a ∈ as, h.get? a = none) (lv : ∀ a ∈ as, ∃ o, h'.get? a = some o) (nd : as.Nodup)
    (n : Grow [] ρ h (ρ.push as) h' → RO h' (ρ.push as) as ao) : RelS K (ρ.push as) (st ++ [ao]) h' ∧ Grow [] ρ h (ρ.push as) h' := by
  have fl : (ρ.push as).flatten = ρ.flatten ++ as := by unfold Rho.push Rho.flatten; simp
  have g : Grow [] ρ h (ρ.push as) h' := ⟨fun a o e _ _ => k a o e, List.prefix_append .., rfl, fun a m => by
    rw [fl] at m
    rcases List.mem_append.mp m with m | m
    · exact .inl m
    · exact .inr (.inr (fresh a m))⟩
  have nn : ∀ a ∈ as, a ∉ ρ.own := fun a m q => by obtain ⟨_, _, o, z⟩ := R.apart a q; rw [fresh a m] at z; cases z
  have no := R.nodup
  unfold Rho.own at no
  rw [List.nodup_append] at no
  refine ⟨⟨by simp [Rho.push, R.len], fun i bs ao' e e' => ?_, ?_, fun a m => ?_, R.top.keeps k, R.nolim.keeps k⟩, g⟩
  · replace e : (ρ.ents ++ [as])[i]? = some bs := e
    by_cases hi : i < ρ.ents.length
    · rw [List.getElem?_append_left hi] at e
      rw [List.getElem?_append_left (R.len ▸ hi)] at e'
      exact (R.objs i bs ao' e e').carry (g.carry noFr) fun a _ o q => k a o q
    · rw [List.getElem?_append_right (Nat.le_of_not_lt hi)] at e
      rw [List.getElem?_append_right (by rw [← R.len]; exact Nat.le_of_not_lt hi)] at e'
      have hz : i - ρ.ents.length = 0 := by
        cases q : i - ρ.ents.length with
        | zero => rfl
        | succ n => rw [q] at e; simp at e
      rw [← R.len, hz] at e'
      rw [hz] at e
      simp at e e'
      subst e e'
      exact n g
  · show ((ρ.push as).flatten ++ ρ.rsv).Nodup
    rw [fl, List.nodup_append, List.nodup_append]
    refine ⟨⟨no.1, nd, fun a m b m' q => nn b m' (q ▸ Yu m)⟩, no.2.1, fun a m b m' q => ?_⟩
    rcases List.mem_append.mp m with m | m
    · exact no.2.2 a m b m' q
    · exact nn a m (q ▸ Yb m')
  · replace m : a ∈ (ρ.push as).flatten ++ ρ.rsv := m
    rw [fl] at m
    have m : a ∈ ρ.own ∨ a ∈ as := by
      rcases List.mem_append.mp m with m | m
      · rcases List.mem_append.mp m with m | m
        · exact .inl (Yu m)
        · exact .inr m
      · exact .inl (Yb m)
    rcases m with m | m
    · obtain ⟨x, y, o, z⟩ := R.apart a m
      exact ⟨x, y, o, k a o z⟩
    · refine ⟨?_, ?_, lv a m⟩
      · cases q : K.lookup a with
        | none => rfl
        | some o => have := R.top a o q; rw [fresh a m] at this; cases this
      · rintro rfl
        obtain ⟨mc, ⟨o, _, _, z, _⟩, _⟩ := R.nolim
        rw [fresh _ m] at z; cases z
end
structure FI where
  env : Env
  ln : List Str
  cn : List (Str × Addr)
noncomputable def FI.fr (f : FI) : List Addr := f.env.locals :: f.cn.map (·.2)
structure ES where
  loc : List (Option PV)
  cel : List (Option PV)
  st : List AO
structure FI.Ok (f : FI) : Prop where
  kind : f.env.scope.kind = .function
  glob : f.env.globals = mainGlobals
  blt : f.env.builtins = builtinsNs
  loc : ∀ x ∈ f.ln, f.env.kindOf x = some .local
  nodup : f.ln.Nodup
structure RelF (K : Frag) (f : FI) (ρ : Rho) (es : ES) (h : Heap) : Prop where
  s : RelS K ρ es.st h
  l : NsRel h ρ f.env.locals f.ln es.loc
  c : ∀ (i : Nat) (x : Str) (a : Addr), f.cn[i]? = some (x, a) → ∃ u, h.IsCell a u ∧ RVo h ρ u ((es.cel[i]?).join)
  like : ∀ a ∈ f.fr, a ∈ ρ.rsv
  nd : f.fr.Nodup
theorem mem_cells {f : FI} {i : Nat} {x : Str} {a : Addr} (e : f.cn[i]? = some (x, a)) : a ∈ f.fr := List.mem_cons_of_mem _ (List.mem_map.mpr ⟨(x, a), List.mem_of_getElem? e, rfl⟩)
theorem RelF.carry {K : Frag} {f : FI} {ρ ρ' : Rho} {es : ES} {h h' : Heap} {st' : List AO} (R : RelF K f ρ es h) (S : RelS K ρ' st' h') (g : Carry h ρ h' ρ') (kf : ∀ a ∈ f.fr, ∀ o, h.get? a = some o → h'.get? a = some o)
    (like : ∀ a ∈ f.fr, a ∈ ρ'.rsv) : RelF K f ρ' { es with st := st' } h' := by
  refine ⟨S, R.l.carry g (kf _ (.head _)), fun i x a e => ?_, like, R.nd⟩
  obtain ⟨u, ⟨o, p, q⟩, r⟩ := R.c i x a e
  exact ⟨u, ⟨o, kf a (mem_cells e) o p, q⟩, r.carry g⟩
theorem RelF.ofS {K : Frag} {f : FI} {ρ ρ' : Rho} {es : ES} {h h' : Heap} {st' : List AO} (R : RelF K f ρ es h) (S : RelS K ρ' st' h') (g : Grow [] ρ h ρ' h') : RelF K f ρ' { es with st := st' } h' :=
  R.carry S (g.carry noFr) (fun a m o e => g.keep a o e (by simp) (Yx R.s.nodup (R.like a m))) fun a m => g.rsv ▸ R.like a m
noncomputable def Same (s s' : Shared) : Prop := s'.gens = s.gens ∧ s'.drawn = s.drawn ∧ s'.os = s.os
theorem Same.refl {s : Shared} : Same s s := ⟨rfl, rfl, rfl⟩
theorem Same.trans {s s₁ s₂ : Shared} (x : Same s s₁) (y : Same s₁ s₂) : Same s s₂ := ⟨y.1.trans x.1, y.2.1.trans x.2.1, y.2.2.trans x.2.2⟩
noncomputable abbrev noE : Value → Shared → Prop := fun _ _ => False
structure AOk (b : Nat) (A : Around) : Prop where
  handled : A.handled = none
  depth : A.depth + 2 * b ≤ 900
  units : A.units + 20 * b ≤ 9000
theorem AOk.le {b b' : Nat} {A : Around} (x : AOk b A) (l : b' ≤ b) : AOk b' A := ⟨x.handled, by have := x.depth; omega, by have := x.units; omega⟩
noncomputable abbrev FM (β : Type) := ES → Option (β × ES)
noncomputable def bindE {β γ : Type} (m : FM β) (k : β → FM γ) : FM γ := fun es => match m es with
  | none => none
  | some (y, es') => k y es'
noncomputable def pureE {β : Type} (y : β) : FM β := fun es => some (y, es)
noncomputable def failE {β : Type} : FM β := fun _ => none
inductive Ends (K : Frag) (f : FI) {α β : Type} (RA : Heap → Rho → α → β → Prop) (ρ : Rho) (s : Shared) (y : β) (es' : ES) (x : α) (s' : Shared) : Prop
  | mk (ρ' : Rho) : RelF K f ρ' es' s'.heap → Grow f.fr ρ s.heap ρ' s'.heap → Same s s' → RA s'.heap ρ' x y → Ends K f RA ρ s y es' x s'
theorem Ends.tk {K : Frag} {f : FI} {α β : Type} {RA : Heap → Rho → α → β → Prop} {ρ : Rho} {s : Shared} {k : Nat} {y : β} {es' : ES} {x : α} {s' : Shared} (z : Ends K f RA ρ { s with toks := k } y es' x s') : Ends K f RA ρ s y es' x s' := by
  obtain ⟨ρ', a, b, c, d⟩ := z
  exact ⟨ρ', a, b, c, d⟩
structure Ctx0 where
  prog : Program
  w : World
  K : Frag
structure Den (c : Ctx0) (b : Nat) (f : FI) {α β : Type} (RA : Heap → Rho → α → β → Prop) (t : Sem α) (F : FM β) : Prop where
  run : ∀ A, AOk b A → ∀ ρ s es y es', F es = some (y, es') → RelF c.K f ρ es s.heap → wpAny (model c.prog c.w) A t (Ends c.K f RA ρ s y es') noE s
structure DenK (c : Ctx0) (b : Nat) (f : FI) {α β γ δ : Type} (RX : Heap → Rho → γ → δ → Prop) (RA : Heap → Rho → α → β → Prop) (t : γ → Sem α) (F : δ → FM β) : Prop where
  run : ∀ A, AOk b A → ∀ ρ s es x z y es', F z es = some (y, es') → RX s.heap ρ x z → RelF c.K f ρ es s.heap → wpAny (model c.prog c.w) A (t x) (Ends c.K f RA ρ s y es') noE s
theorem Ends.after {K : Frag} {f : FI} {α β : Type} {RA : Heap → Rho → α → β → Prop} {ρ ρ₁ : Rho} {s s₁ s₂ : Shared} {y : β} {es' : ES} {x : α}
    (g : Grow f.fr ρ s.heap ρ₁ s₁.heap) (q : Same s s₁) (z : Ends K f RA ρ₁ s₁ y es' x s₂) : Ends K f RA ρ s y es' x s₂ := by
  obtain ⟨ρ', R, g', q', r⟩ := z
  exact ⟨ρ', R, g.trans g', q.trans q', r⟩
inductive BindS {β γ : Type} (m : FM β) (k : β → FM γ) (es : ES) (r : γ × ES) : Prop
  | mk (y : β) (es' : ES) : m es = some (y, es') → k y es' = some r → BindS m k es r
theorem Ze {β γ : Type} {m : FM β} {k : β → FM γ} {es : ES} {r : γ × ES} (e : bindE m k es = some r) : BindS m k es r := by
  unfold bindE at e
  split at e
  · cases e
  · rename_i y es' q; exact ⟨y, es', q, e⟩
noncomputable abbrev SM (β : Type) := List AO → Option (β × List AO)
noncomputable def liftS {β : Type} (g : SM β) : FM β := fun es => match g es.st with
  | none => none
  | some (y, st) => some (y, { es with st := st })
theorem Z7 {β : Type} {g : SM β} {es es' : ES} {y : β} (e : liftS g es = some (y, es')) : ∃ st', g es.st = some (y, st') ∧ es' = { es with st := st' } := by
  unfold liftS at e
  split at e
  · cases e
  · rename_i y' st q; cases e; exact ⟨st, q, rfl⟩
noncomputable def guardE {β : Type} (P : List AO → Bool) (m : FM β) : FM β := fun es => if P es.st then m es else none
theorem Xa {β : Type} {P : List AO → Bool} {m : FM β} {es : ES} {r : β × ES} (e : guardE P m es = some r) : P es.st = true ∧ m es = some r := by
  unfold guardE at e
  split at e
  · exact ⟨‹_›, e⟩
  · cases e
inductive EndsS (K : Frag) {α β : Type} (RA : Heap → Rho → α → β → Prop) (ρ : Rho) (s : Shared) (y : β) (st' : List AO) (x : α) (s' : Shared) : Prop
  | mk (ρ' : Rho) : RelS K ρ' st' s'.heap → Grow [] ρ s.heap ρ' s'.heap → Same s s' → RA s'.heap ρ' x y → EndsS K RA ρ s y st' x s'
theorem EndsS.toF {K : Frag} {f : FI} {α β : Type} {RA : Heap → Rho → α → β → Prop} {ρ : Rho} {s : Shared} {y : β} {st' : List AO} {x : α} {s' : Shared} {es : ES} (R : RelF K f ρ es s.heap)
    (z : EndsS K RA ρ s y st' x s') : Ends K f RA ρ s y { es with st := st' } x s' := by
  obtain ⟨ρ', S, g, q, r⟩ := z
  exact ⟨ρ', R.ofS S g, g.wider (by simp), q, r⟩
theorem EndsS.after {K : Frag} {α β : Type} {RA : Heap → Rho → α → β → Prop} {ρ ρ₁ : Rho} {s s₁ s₂ : Shared} {y : β} {st' : List AO} {x : α}
    (g : Grow [] ρ s.heap ρ₁ s₁.heap) (q : Same s s₁) (z : EndsS K RA ρ₁ s₁ y st' x s₂) : EndsS K RA ρ s y st' x s₂ := by
  obtain ⟨ρ', R, g', q', r⟩ := z
  exact ⟨ρ', R, g.trans g', q.trans q', r⟩
structure Op1 (c : Ctx0) (b : Nat) {α β γ δ : Type} (RX : Heap → Rho → γ → δ → Prop) (RA : Heap → Rho → α → β → Prop) (t : γ → Sem α) (G : δ → SM β) : Prop where
  run : ∀ A, AOk b A → ∀ ρ s st x z y st', G z st = some (y, st') → RX s.heap ρ x z → RelS c.K ρ st s.heap → wpAny (model c.prog c.w) A (t x) (EndsS c.K RA ρ s y st') noE s
structure Op2 (c : Ctx0) (b : Nat) {α β : Type} (RA : Heap → Rho → α → β → Prop) (t : Value → Value → Sem α) (G : PV → PV → SM β) : Prop where
  run : ∀ A, AOk b A → ∀ ρ s st x₁ z₁ x₂ z₂ y st', G z₁ z₂ st = some (y, st') → RV s.heap ρ x₁ z₁ → RV s.heap ρ x₂ z₂ → RelS c.K ρ st s.heap → wpAny (model c.prog c.w) A (t x₁ x₂) (EndsS c.K RA ρ s y st') noE s
noncomputable abbrev RB (_ : Heap) (_ : Rho) (x y : Bool) : Prop := x = y
noncomputable abbrev RU (_ : Heap) (_ : Rho) (_ : Unit) (_ : Unit) : Prop := True
theorem Op1.k {c : Ctx0} {b : Nat} {f : FI} {α β γ δ : Type} {RX : Heap → Rho → γ → δ → Prop} {RA : Heap → Rho → α → β → Prop} {t : γ → Sem α} {G : δ → SM β} (o : Op1 c b RX RA t G) : DenK c b f RX RA t fun z => liftS (G z) := by
  constructor
  intro A hA ρ s es x z y es' e r R
  obtain ⟨st', e', rfl⟩ := Z7 e
  exact wpAny_mono (o.run A hA ρ s es.st x z y st' e' r R.s) (fun _ _ q => q.toF R) fun _ _ q => q
section
variable {c : Ctx0} {b : Nat} {f : FI}
noncomputable def getL (i : Nat) : FM PV := fun es => match (es.loc[i]?).join with
  | some v => some (v, es)
  | none => none
noncomputable def getC (i : Nat) : FM PV := fun es => match (es.cel[i]?).join with
  | some v => some (v, es)
  | none => none
theorem rvo_some {h : Heap} {ρ : Rho} {u : Option Value} {p : PV} (r : RVo h ρ u (some p)) : ∃ v, u = some v ∧ RV h ρ v p := by cases r; exact ⟨_, rfl, ‹_›⟩
theorem Ends.here {K : Frag} {α β : Type} {RA : Heap → Rho → α → β → Prop} {ρ : Rho} {s : Shared} {es : ES} {x : α} {y : β} (R : RelF K f ρ es s.heap) (r : RA s.heap ρ x y) : Ends K f RA ρ s y es x s :=
  ⟨ρ, R, .refl, .refl, r⟩
theorem Ends.tok {K : Frag} {α β : Type} {RA : Heap → Rho → α → β → Prop} {ρ : Rho} {s : Shared} {es : ES} {x : α} {y : β} {tk : Nat} (R : RelF K f ρ es s.heap) (r : RA s.heap ρ x y) : Ends K f RA ρ s y es x { s with toks := tk } :=
  ⟨ρ, R, .refl, ⟨rfl, rfl, rfl⟩, r⟩
theorem EndsS.here {K : Frag} {α β : Type} {RA : Heap → Rho → α → β → Prop} {ρ : Rho} {s : Shared} {st : List AO} {x : α} {y : β} (R : RelS K ρ st s.heap) (r : RA s.heap ρ x y) : EndsS K RA ρ s y st x s :=
  ⟨ρ, R, .refl, .refl, r⟩
theorem EndsS.tok {K : Frag} {α β : Type} {RA : Heap → Rho → α → β → Prop} {ρ : Rho} {s : Shared} {st : List AO} {x : α} {y : β} {tk : Nat} (R : RelS K ρ st s.heap) (r : RA s.heap ρ x y) : EndsS K RA ρ s y st x { s with toks := tk } :=
  ⟨ρ, R, .refl, ⟨rfl, rfl, rfl⟩, r⟩
theorem Za {x : Str} {pos : Pos} {i : Nat} (ok : f.Ok) (hx : f.ln[i]? = some x) (hd : (x == ("__debug__" : Str)) = false := by decide) : Den c b f RV (eval (.Name x pos) f.env) (getL i) := by
  constructor
  intro A hA ρ s es y es' e R
  unfold getL at e
  split at e
  · rename_i v q
    cases e
    obtain ⟨m, n, l, _⟩ := R.l
    have := l i x hx
    rw [q] at this
    obtain ⟨u, hu, r⟩ := rvo_some this
    exact wpAny_Name (wpAny_loadName_local ok.kind (ok.loc x (List.mem_of_getElem? hx)) n hu (Ends.here R r)) hd
  · cases e
theorem Yd {x : Str} {pos : Pos} {i : Nat} {a : Addr} (ok : f.Ok) (hx : f.cn[i]? = some (x, a)) (hc : f.env.cells.lookup x = some a) (hk : f.env.kindOf x = some .cell ∨ f.env.kindOf x = some .free) (hd : (x == ("__debug__" : Str)) = false := by decide)
    (hn : (x == ("__classdict__" : Str)) = false := by decide) : Den c b f RV (eval (.Name x pos) f.env) (getC i) := by
  constructor
  intro A hA ρ s es y es' e R
  unfold getC at e
  split at e
  · rename_i v q
    cases e
    obtain ⟨u, hu, r⟩ := R.c i x a hx
    rw [q] at r
    obtain ⟨u, rfl, r'⟩ := rvo_some r
    refine wpAny_Name ?_ hd
    rcases hk with hk | hk
    · exact wpAny_loadName_cell ok.kind hk hc hu (Ends.here R r')
    · exact wpAny_loadName_free ok.kind hk hc hu (Ends.here R r') hn
  · cases e
theorem loads_global {A : Around} {s : Shared} {x : Str} {v : Value} {Q : Value → Shared → Prop} (ok : f.Ok) (X : c.K.In s.heap) (hx : f.env.kindOf x = some .globalImplicit) (hv : nsIn c.K mainGlobals x = some (some v)) (h : Q v s) {E : Value → Shared → Prop} :
    wpAny (model c.prog c.w) A (loadName f.env x) Q E s := by
  unfold loadName
  have hk := ok.kind
  simp only [Env.blockKind, hk, hx, ScopeKind.isAnnotationScope, Bool.false_and, Bool.false_eq_true, if_false]
  unfold loadGlobal
  rw [ok.glob]
  exact wpAny_bind ((looks_nsIn X hv).here (wpAny_pure h))
theorem Jz {A : Around} {s : Shared} {x : Str} {v : Value} {Q : Value → Shared → Prop} (ok : f.Ok) (X : c.K.In s.heap) (hx : f.env.kindOf x = some .globalImplicit) (hn : nsIn c.K mainGlobals x = some none)
    (hv : nsIn c.K builtinsNs x = some (some v)) (h : Q v s) {E : Value → Shared → Prop} : wpAny (model c.prog c.w) A (loadName f.env x) Q E s := by
  unfold loadName
  have hk := ok.kind
  simp only [Env.blockKind, hk, hx, ScopeKind.isAnnotationScope, Bool.false_and, Bool.false_eq_true, if_false]
  unfold loadGlobal
  rw [ok.glob, ok.blt]
  exact wpAny_bind ((looks_nsIn X hn).here (wpAny_bind ((looks_nsIn X hv).here (wpAny_pure h))))
theorem Z8 {x : Str} {pos : Pos} {v : Value} (ok : f.Ok) (hx : f.env.kindOf x = some .globalImplicit) (hv : nsIn c.K mainGlobals x = some (some v)) (hd : (x == ("__debug__" : Str)) = false := by decide) :
    Den c b f RV (eval (.Name x pos) f.env) (pureE (.raw v)) := by
  constructor
  intro A hA ρ s es y es' e R
  cases e
  exact wpAny_Name (loads_global ok R.s.top hx hv (Ends.here R (.raw v))) hd
theorem Zm {x : Str} {pos : Pos} {v : Value} (ok : f.Ok) (hx : f.env.kindOf x = some .globalImplicit) (hn : nsIn c.K mainGlobals x = some none) (hv : nsIn c.K builtinsNs x = some (some v)) (hd : (x == ("__debug__" : Str)) = false := by decide) :
    Den c b f RV (eval (.Name x pos) f.env) (pureE (.raw v)) := by
  constructor
  intro A hA ρ s es y es' e R
  cases e
  exact wpAny_Name (Jz ok R.s.top hx hn hv (Ends.here R (.raw v))) hd
theorem den_none {k : Nat} {pos : Pos} : Den c b f RV (eval (.Constant .none k pos) f.env) (pureE .none) := by
  constructor
  intro A hA ρ s es y es' e R
  cases e
  exact wpAny_pure (Ends.here R .none)
theorem Xn {v : Bool} {k : Nat} {pos : Pos} : Den c b f RV (eval (.Constant (.bool v) k pos) f.env) (pureE (.bool v)) := by
  constructor
  intro A hA ρ s es y es' e R
  cases e
  exact wpAny_pure (Ends.here R (.bool v))
theorem Zp {v : Int} {k : Nat} {pos : Pos} : Den c b f RV (eval (.Constant (.int v) k pos) f.env) (pureE (.int v)) := by
  constructor
  intro A hA ρ s es y es' e R
  cases e
  exact wpAny_Constant_int (Ends.tok R (.int v _))
theorem Zy {v : Str} {k : Nat} {pos : Pos} : Den c b f RV (eval (.Constant (.str v) k pos) f.env) (pureE (.str v)) := by
  constructor
  intro A hA ρ s es y es' e R
  cases e
  exact wpAny_Constant_str (Ends.tok R (.str v _))
theorem Qk {α β : Type} {RA : Heap → Rho → α → β → Prop} {t₁ t₂ : Sem Value} {F₁ F₂ : FM PV} {op : Value → Value → Sem α} {G : PV → PV → SM β} (d₁ : Den c b f RV t₁ F₁) (d₂ : Den c b f RV t₂ F₂) (o : Op2 c b RA op G)
    {A : Around} (hA : AOk b A) {ρ : Rho} {s : Shared} {es es' : ES} {y : β} (e : bindE F₁ (fun p => bindE F₂ fun q => liftS (G p q)) es = some (y, es')) (R : RelF c.K f ρ es s.heap) :
    wpAny (model c.prog c.w) A t₁ (fun a s₁ => wpAny (model c.prog c.w) A t₂ (fun v s₂ => wpAny (model c.prog c.w) A (op a v) (Ends c.K f RA ρ s y es') noE s₂) noE s₁) noE s := by
  obtain ⟨p, es₁, e1, e⟩ := Ze e
  obtain ⟨q, es₂, e2, e⟩ := Ze e
  obtain ⟨st', e3, rfl⟩ := Z7 e
  refine wpAny_mono (d₁.run A hA ρ s es p es₁ e1 R) (fun a s₁ z => ?_) fun _ _ z => z
  obtain ⟨ρ₁, R₁, g₁, q₁, r₁⟩ := z
  refine wpAny_mono (d₂.run A hA ρ₁ s₁ es₁ q es₂ e2 R₁) (fun v s₂ z => ?_) fun _ _ z => z
  obtain ⟨ρ₂, R₂, g₂, q₂, r₂⟩ := z
  refine wpAny_mono (o.run A hA ρ₂ s₂ es₂.st a p v q y st' e3 (r₁.grow g₂ R₁.like) r₂ R₂.s) (fun x s₃ z => ?_) fun _ _ z => z
  exact ((z.toF R₂).after g₂ q₂).after g₁ q₁
theorem Zt {l r : Expr} {op : Operator} {pos : Pos} {F₁ F₂ : FM PV} {G : PV → PV → SM PV} (d₁ : Den c b f RV (eval l f.env) F₁) (d₂ : Den c b f RV (eval r f.env) F₂) (o : Op2 c b RV (binaryOp op) G) :
    Den c b f RV (eval (.BinOp l op r pos) f.env) (bindE F₁ fun p => bindE F₂ fun q => liftS (G p q)) :=
  ⟨fun A hA ρ s es y es' e R => wpAny_BinOp (Qk d₁ d₂ o hA e R)⟩
theorem den_compare {l r : Expr} {op : CmpOp} {pos : Pos} {F₁ F₂ : FM PV} {G : PV → PV → SM PV} (d₁ : Den c b f RV (eval l f.env) F₁) (d₂ : Den c b f RV (eval r f.env) F₂) (o : Op2 c b RV (compareOp op) G)
    (hm : behindInMarks op r = false := by with_unfolding_all rfl) :
    Den c b f RV (eval (.Compare l [op] [r] pos) f.env) (bindE F₁ fun p => bindE F₂ fun q => liftS (G p q)) :=
  ⟨fun A hA ρ s es y es' e R => wpAny_Compare1 (Qk d₁ d₂ o hA e R) hm⟩
end
section
variable {c : Ctx0} {b : Nat} {f : FI}
noncomputable def subI (p q : PV) : SM PV := fun st => match p, q with | .int i, .int j => some (.int (i - j), st) | _, _ => none
noncomputable def mulI (p q : PV) : SM PV := fun st => match p, q with | .int i, .int j => if j.natAbs < 2 ^ 60 then some (.int (i * j), st) else none | _, _ => none
noncomputable def divI (p q : PV) : SM PV := fun st => match p, q with | .int i, .int j => if j ≠ 0 ∧ j.natAbs < 1000000000 then some (.int (i.fdiv j), st) else none | _, _ => none
noncomputable def modI (p q : PV) : SM PV := fun st => match p, q with | .int i, .int j => if j ≠ 0 then some (.int (i.fmod j), st) else none | _, _ => none
noncomputable def powI (p q : PV) : SM PV := fun st => match p, q with | .int i, .int j => if 0 ≤ j ∧ j ≤ 1000000 ∧ i.natAbs < 2 ^ 64 then some (.int (i ^ j.toNat), st) else none | _, _ => none
theorem op_subI : Op2 c b RV (binaryOp .Sub) subI := by
  constructor
  intro A hA ρ s st x z x' z' y st' e r r' R
  unfold subI at e; split at e <;> (first | obtain ⟨rfl, rfl⟩ := spr e | exact (nos e).elim)
  obtain ⟨_, rfl⟩ := r.inv; obtain ⟨_, rfl⟩ := r'.inv
  exact PyProof.Rows.sub_int (EndsS.tok R (.int _ _))
theorem op_mulI : Op2 c b RV (binaryOp .Mult) mulI := by
  constructor
  intro A hA ρ s st x z x' z' y st' e r r' R
  unfold mulI at e; split at e <;> try exact (nos e).elim
  split at e <;> (first | obtain ⟨rfl, rfl⟩ := spr e | exact (nos e).elim)
  rename_i hb
  obtain ⟨_, rfl⟩ := r.inv; obtain ⟨_, rfl⟩ := r'.inv
  exact PyProof.Rows.mul_int (EndsS.tok R (.int _ _)) (PySem.IntMulOk.of_right (PySem.intBits_le_64 (by omega) (by omega)))
theorem op_divI : Op2 c b RV (binaryOp .FloorDiv) divI := by
  constructor
  intro A hA ρ s st x z x' z' y st' e r r' R
  unfold divI at e; split at e <;> try exact (nos e).elim
  split at e <;> (first | obtain ⟨rfl, rfl⟩ := spr e | exact (nos e).elim)
  rename_i hb
  obtain ⟨_, rfl⟩ := r.inv; obtain ⟨_, rfl⟩ := r'.inv
  exact PyProof.Rows.floordiv_int hb.1 (EndsS.tok R (.int _ _)) (.inl (PyProof.noPylong_small (by omega)))
theorem op_modI : Op2 c b RV (binaryOp .Mod) modI := by
  constructor
  intro A hA ρ s st x z x' z' y st' e r r' R
  unfold modI at e; split at e <;> try exact (nos e).elim
  split at e <;> (first | obtain ⟨rfl, rfl⟩ := spr e | exact (nos e).elim)
  rename_i hb
  obtain ⟨_, rfl⟩ := r.inv; obtain ⟨_, rfl⟩ := r'.inv
  exact PyProof.Rows.mod_int' hb (EndsS.tok R (.int _ _))
theorem op_powI : Op2 c b RV (binaryOp .Pow) powI := by
  constructor
  intro A hA ρ s st x z x' z' y st' e r r' R
  unfold powI at e; split at e <;> try exact (nos e).elim
  split at e <;> (first | obtain ⟨rfl, rfl⟩ := spr e | exact (nos e).elim)
  rename_i hb
  obtain ⟨_, rfl⟩ := r.inv; obtain ⟨_, rfl⟩ := r'.inv
  exact PyProof.Rows.pow_int_small hb.1 hb.2.1 hb.2.2 (EndsS.tok R (.int _ _))
noncomputable def gtI (p q : PV) : SM PV := fun st => match p, q with | .int i, .int j => some (.bool (decide (j < i)), st) | _, _ => none
theorem op_gtI : Op2 c b RV (compareOp .Gt) gtI := by
  constructor
  intro A hA ρ s st x z x' z' y st' e r r' R
  unfold gtI at e; split at e <;> (first | obtain ⟨rfl, rfl⟩ := spr e | exact (nos e).elim)
  obtain ⟨_, rfl⟩ := r.inv; obtain ⟨_, rfl⟩ := r'.inv
  exact PyProof.Rows.gt_int (EndsS.here R (.bool _))
noncomputable def eqS (p q : PV) : SM PV := fun st => match p, q with | .str i, .str j => some (.bool (i == j), st) | _, _ => none
theorem op_eqS : Op2 c b RV (compareOp .Eq) eqS := by
  constructor
  intro A hA ρ s st x z x' z' y st' e r r' R
  unfold eqS at e; split at e <;> (first | obtain ⟨rfl, rfl⟩ := spr e | exact (nos e).elim)
  obtain ⟨_, rfl⟩ := r.inv; obtain ⟨_, rfl⟩ := r'.inv
  exact PyProof.Rows.eq_str (EndsS.here R (.bool _))
noncomputable def inS (p q : PV) : SM PV := fun st => match p, q with | .str y, .str x => some (.bool !(Builtin.Str.occurrences x y 0 x.length 1).isEmpty, st) | _, _ => none
theorem op_inS : Op2 c b RV (compareOp .In) inS := by
  constructor
  intro A hA ρ s st x z x' z' y st' e r r' R
  unfold inS at e; split at e <;> (first | obtain ⟨rfl, rfl⟩ := spr e | exact (nos e).elim)
  obtain ⟨_, rfl⟩ := r.inv; obtain ⟨_, rfl⟩ := r'.inv
  exact PyProof.Rows.in_str (EndsS.here R (.bool _))
noncomputable def isNoneP : PV → Option Bool
  | .none => some true
  | .raw _ => none
  | _ => some false
noncomputable def isNotNone (p q : PV) : SM PV := fun st => match isNoneP p, q with | some t, .none => some (.bool !t, st) | _, _ => none
noncomputable def isNone (p q : PV) : SM PV := fun st => match isNoneP p, q with | some t, .none => some (.bool t, st) | _, _ => none
theorem isNoneP_of {h : Heap} {ρ : Rho} {v : Value} {p : PV} {t : Bool} (r : RV h ρ v p) (e : isNoneP p = some t) : (v == Value.none) = t := by
  cases r <;> cases e <;> rfl
theorem op_isNotNone : Op2 c b RV (compareOp .IsNot) isNotNone := by
  constructor
  intro A hA ρ s st x z x' z' y st' e r r' R
  unfold isNotNone at e; split at e <;> (first | obtain ⟨rfl, rfl⟩ := spr e | exact (nos e).elim)
  rename_i t q
  (first | obtain ⟨_, rfl⟩ := r'.inv | cases r')
  refine PySem.isNot_none ?_
  rw [isNoneP_of r q]
  exact EndsS.here R (.bool _)
theorem op_isNone : Op2 c b RV (compareOp .Is) isNone := by
  constructor
  intro A hA ρ s st x z x' z' y st' e r r' R
  unfold isNone at e; split at e <;> (first | obtain ⟨rfl, rfl⟩ := spr e | exact (nos e).elim)
  rename_i t q
  (first | obtain ⟨_, rfl⟩ := r'.inv | cases r')
  refine PySem.is_none ?_
  rw [isNoneP_of r q]
  exact EndsS.here R (.bool _)
noncomputable def truthG (p : PV) : SM Bool := fun st => match p with
  | .none => some (false, st)
  | .bool t => some (t, st)
  | .int i => some (i != 0, st)
  | .str x => if x.length ≤ sizeLine then some ((x.length : Int) != 0, st) else none
  | .ref i => (match st[i]? with
    | some (.list xs) => if xs.length ≤ sizeLine then some (!xs.isEmpty, st) else none
    | _ => none)
  | .lst xs => if xs.length ≤ sizeLine then some (!xs.isEmpty, st) else none
  | _ => none
noncomputable def items? (st : List AO) (p : PV) : Option (List PV) := match p with
  | .lst xs => some xs
  | .ref i => (match st[i]? with
    | some (.list xs) => some xs
    | _ => none)
  | _ => none
theorem Yr {ρ : Rho} {i : Nat} {a : Addr} (e : headAt ρ i = some a) : ∃ r, ρ.ents[i]? = some (a :: r) := by
  unfold headAt at e
  split at e
  · rename_i x y q; obtain rfl := Option.some.inj e; exact ⟨y, q⟩
  · exact (nos e).elim
theorem isList_of {h : Heap} {a : Addr} {vs : Array Value} {n : Nat} (e : h.get? a = some { cls := .type "list", data := .seq vs n }) : h.IsList a vs := ⟨_, e, rfl, n, rfl⟩
theorem isL {h : Heap} {a : Addr} {vs : Array Value} (p : h.PlainList a vs) : h.IsList a vs := by obtain ⟨n, e⟩ := p; exact ⟨_, e, rfl, n, rfl⟩
theorem Y0 {K : Frag} {ρ : Rho} {st : List AO} {h : Heap} (R : RelS K ρ st h) {v : Value} {p : PV} {xs : List PV} (r : RV h ρ v p) (e : items? st p = some xs) :
    ∃ a vs, P3 (v = .ref a) (h.PlainList a vs) (RVs h ρ vs.toList xs) := by
  unfold items? at e
  split at e
  · obtain rfl := Option.some.inj e; cases r with | lst na q z => exact ⟨_, _, rfl, q, by simpa using z⟩
  · rename_i i
    split at e
    · rename_i ys q
      obtain rfl := Option.some.inj e
      cases r with
      | ref z =>
        obtain ⟨r, hr⟩ := Yr z
        obtain ⟨a', vs, n, e1, e2, e3⟩ := R.objs i _ _ hr q
        cases e1
        exact ⟨_, vs, rfl, ⟨n, e2⟩, e3⟩
    · exact (nos e).elim
  · exact (nos e).elim
theorem isEmpty_of {vs : Array Value} {xs : List PV} (h : vs.size = xs.length) : vs.isEmpty = xs.isEmpty := by
  rw [Bool.eq_iff_iff, Array.isEmpty_iff_size_eq_zero, List.isEmpty_iff_length_eq_zero, h]
theorem op_truth : Op1 c b RV RB truthy truthG := by
  constructor
  intro A hA ρ s st x z y st' e r R
  have L : ∀ xs, items? st z = some xs → (if xs.length ≤ sizeLine then some (!xs.isEmpty, st) else none) = some (y, st') → wpAny (model c.prog c.w) A (truthy x) (EndsS c.K RB ρ s y st') noE s := by
    intro xs hx e
    obtain ⟨a, vs, rfl, e1, e2⟩ := Y0 R r hx
    split at e
    · rename_i hz
      obtain ⟨rfl, rfl⟩ := spr e
      have hl := e2.length
      rw [Array.length_toList] at hl
      refine wpAny_truthy_list (isL e1) (by rw [hl]; rw [sizeLine_eq] at hz; omega) ?_
      rw [isEmpty_of hl]
      exact EndsS.tok R rfl
    · exact (nos e).elim
  unfold truthG at e
  split at e
  · obtain ⟨rfl, rfl⟩ := spr e; obtain ⟨_, rfl⟩ := r.inv; exact PyProof.Rows.truthy_none (EndsS.here R rfl)
  · obtain ⟨rfl, rfl⟩ := spr e; obtain ⟨_, rfl⟩ := r.inv; exact wpAny_truthy_bool (EndsS.here R rfl)
  · obtain ⟨rfl, rfl⟩ := spr e; obtain ⟨_, rfl⟩ := r.inv; exact PyProof.Rows.truthy_int (EndsS.here R rfl)
  · split at e
    · rename_i hz
      obtain ⟨rfl, rfl⟩ := spr e; cases r
      refine PySem.P.truthy_str (by rw [sizeLine_eq] at hz; omega) (EndsS.tok R rfl)
    · exact (nos e).elim
  · rename_i i
    split at e
    · rename_i xs q
      exact L xs (by simp [items?, q]) e
    · exact (nos e).elim
  · exact L _ rfl e
  · exact (nos e).elim
end
inductive PF where
  | next | brk | cont
  | ret (p : PV)
inductive RFl (h : Heap) (ρ : Rho) : Flow → PF → Prop
  | next : RFl h ρ .next .next
  | brk : RFl h ρ .brk .brk
  | cont : RFl h ρ .cont .cont
  | ret {v : Value} {p : PV} : RV h ρ v p → RFl h ρ (.ret v) (.ret p)
section
variable {c : Ctx0} {b : Nat} {f : FI}
noncomputable def Z9 : Expr → Bool
  | .Starred .. => false
  | _ => true
theorem Q6 {x : Expr} {rest : List Expr} {env : Env} (h : Z9 x = true) : starEach (x :: rest) env = (false, eval x env) :: starEach rest env := by
  cases x <;> first | rfl | cases h
theorem Yv {env : Env} {pos : Pos} : ∀ {args : List Expr}, args.all Z9 = true → (backTo pos (starEach args env)).all (fun x => !x.1) = true
  | [], _ => rfl
  | x :: r, h => by
    rw [List.all_cons, Bool.and_eq_true] at h
    rw [Q6 h.1]
    show ((!false) && (backTo pos (starEach r env)).all (fun x => !x.1)) = true
    rw [Yv h.2]; rfl
noncomputable def Xu : Expr → Bool
  | .Call (.Name id _) [] [] _ => id != ("super" : Str)
  | _ => true
theorem Yl {o : Expr} {name : Str} {env : Env} {whole : Sem Value} (h : Xu o = true) : attributeBase o name env whole = whole := by
  cases o with
  | Call f args kws pos =>
    cases f with
    | Name id p =>
      cases args with
      | cons => rfl
      | nil =>
        cases kws with
        | cons => rfl
        | nil =>
          have : (id != ("super" : Str)) = true := h
          unfold attributeBase
          dsimp only
          exact if_pos (by rw [this]; rfl)
    | _ => rfl
  | _ => rfl
noncomputable def iteE {β : Type} (m : FM Bool) (x y : FM β) : FM β := bindE m fun t => if t then x else y
theorem Xk {β : Type} {m : FM Bool} {x y : FM β} {es : ES} {r : β × ES} (e : iteE m x y es = some r) : BindS m (fun t => if t then x else y) es r := Ze e
noncomputable def plainTest : Expr → Bool
  | .UnaryOp .Not _ _ | .BoolOp .. | .IfExp .. | .Compare .. => false
  | _ => true
theorem Q4 {e : Expr} (h : plainTest e = true) {env : Env} {whole : Sem Value} : isTrue e env whole = (do let v ← whole; standAt e.pos; holding [v] (truthy v)) := by
  cases e <;> first | rfl | cases h | skip
  rename_i op x pos
  cases op <;> first | rfl | cases h
theorem Xj {e : Expr} {F : FM PV} (d : Den c b f RV (eval e f.env) F) (he : plainTest e = true := by rfl) :
    Den c b f RB (isTrue e f.env (eval e f.env)) (bindE F fun p => liftS (truthG p)) := by
  constructor
  intro A hA ρ s es y es' e' R
  obtain ⟨p, es₁, e1, e2⟩ := Ze e'
  refine wpAny_isTrue_value (wpAny_mono (d.run A hA ρ s es p es₁ e1 R) (fun v s₁ z => ?_) fun _ _ z => z) (Q4 he)
  obtain ⟨ρ₁, R₁, g₁, q₁, r₁⟩ := z
  exact wpAny_mono ((Op1.k op_truth).run A hA ρ₁ s₁ es₁ v p y es' e2 r₁ R₁) (fun _ _ z => z.after g₁ q₁) fun _ _ z => z
theorem dent_not {x : Expr} {pos : Pos} {F : FM Bool} (d : Den c b f RB (isTrue x f.env (eval x f.env)) F) : Den c b f RB (isTrue (.UnaryOp .Not x pos) f.env (eval (.UnaryOp .Not x pos) f.env)) (bindE F fun t => pureE !t) := by
  constructor
  intro A hA ρ s es y es' e R
  obtain ⟨p, es₁, e1, e2⟩ := Ze e
  cases e2
  refine wpAny_isTrue_Not (wpAny_mono (d.run A hA ρ s es p es' e1 R) (fun v s₁ z => ?_) fun _ _ z => z)
  obtain ⟨ρ₁, R₁, g₁, q₁, rfl⟩ := z
  exact ⟨ρ₁, R₁, g₁, q₁, rfl⟩
theorem Zn {l r : Expr} {op : CmpOp} {pos : Pos} {F₁ F₂ : FM PV} {G : PV → PV → SM PV} (d₁ : Den c b f RV (eval l f.env) F₁) (d₂ : Den c b f RV (eval r f.env) F₂) (o : Op2 c b RV (compareOp op) G)
    (hm : behindInMarks op r = false := by rfl) :
    Den c b f RB (isTrue (.Compare l [op] [r] pos) f.env (eval (.Compare l [op] [r] pos) f.env)) (bindE (bindE F₁ fun p => bindE F₂ fun q => liftS (G p q)) fun p => liftS (truthG p)) := by
  constructor
  intro A hA ρ s es y es' e R
  obtain ⟨p, es₁, e1, e2⟩ := Ze e
  refine wpAny_isTrue_Compare1 ?_ hm
  refine wpAny_mono (Qk d₁ d₂ o hA e1 R) (fun a s₁ z => wpAny_mono z (fun v s₂ z => wpAny_mono z (fun r s₃ z => ?_) fun _ _ z => z) fun _ _ z => z) fun _ _ z => z
  obtain ⟨ρ₁, R₁, g₁, q₁, r₁⟩ := z
  exact wpAny_mono ((Op1.k op_truth).run A hA ρ₁ s₃ es₁ r p y es' e2 r₁ R₁) (fun _ _ z => z.after g₁ q₁) fun _ _ z => z
theorem Q0 {op : BoolOp} : Den c b f RB (allTrue op [] f.env) (pureE (op == .And)) := by
  constructor
  intro A hA ρ s es y es' e R
  obtain ⟨rfl, rfl⟩ := spr e
  exact wpAny_pure (Ends.here R rfl)
theorem Xs {x : Expr} {rest : List Expr} {F G : FM Bool} (d : Den c b f RB (isTrue x f.env (eval x f.env)) F) (d' : Den c b f RB (allTrue .And rest f.env) G) : Den c b f RB (allTrue .And (x :: rest) f.env) (iteE F G (pureE false)) := by
  constructor
  intro A hA ρ s es y es' e R
  obtain ⟨t, es₁, e1, e2⟩ := Xk e
  refine wpAny_allTrue_And_cons (wpAny_mono (d.run A hA ρ s es t es₁ e1 R) (fun v s₁ z => ?_) fun _ _ z => z)
  obtain ⟨ρ₁, R₁, g₁, q₁, rfl⟩ := z
  cases v with
  | true => exact wpAny_mono (d'.run A hA ρ₁ s₁ es₁ y es' e2 R₁) (fun _ _ z => z.after g₁ q₁) fun _ _ z => z
  | false => obtain ⟨rfl, rfl⟩ := spr e2; exact ⟨ρ₁, R₁, g₁, q₁, rfl⟩
theorem dent_or_cons {x : Expr} {rest : List Expr} {F G : FM Bool} (d : Den c b f RB (isTrue x f.env (eval x f.env)) F) (d' : Den c b f RB (allTrue .Or rest f.env) G) : Den c b f RB (allTrue .Or (x :: rest) f.env) (iteE F (pureE true) G) := by
  constructor
  intro A hA ρ s es y es' e R
  obtain ⟨t, es₁, e1, e2⟩ := Xk e
  refine wpAny_allTrue_Or_cons (wpAny_mono (d.run A hA ρ s es t es₁ e1 R) (fun v s₁ z => ?_) fun _ _ z => z)
  obtain ⟨ρ₁, R₁, g₁, q₁, rfl⟩ := z
  cases v with
  | false => exact wpAny_mono (d'.run A hA ρ₁ s₁ es₁ y es' e2 R₁) (fun _ _ z => z.after g₁ q₁) fun _ _ z => z
  | true => obtain ⟨rfl, rfl⟩ := spr e2; exact ⟨ρ₁, R₁, g₁, q₁, rfl⟩
theorem Jg {op : BoolOp} {values : List Expr} {pos : Pos} {F : FM Bool} (d : Den c b f RB (allTrue op values f.env) F) : Den c b f RB (isTrue (.BoolOp op values pos) f.env (eval (.BoolOp op values pos) f.env)) F :=
  ⟨fun A hA ρ s es y es' e R => wpAny_isTrue_BoolOp (d.run A hA ρ s es y es' e R)⟩
theorem den_ifexp {t x y : Expr} {pos : Pos} {T : FM Bool} {X Y : FM PV} (dt : Den c b f RB (isTrue t f.env (eval t f.env)) T) (dx : Den c b f RV (eval x f.env) X) (dy : Den c b f RV (eval y f.env) Y) :
    Den c b f RV (eval (.IfExp t x y pos) f.env) (iteE T X Y) := by
  constructor
  intro A hA ρ s es r es' e R
  obtain ⟨t, es₁, e1, e2⟩ := Xk e
  refine wpAny_IfExp (wpAny_mono (dt.run A hA ρ s es t es₁ e1 R) (fun v s₁ z => ?_) fun _ _ z => z)
  obtain ⟨ρ₁, R₁, g₁, q₁, rfl⟩ := z
  cases v with
  | true => exact wpAny_mono (dx.run A hA ρ₁ s₁ es₁ r es' e2 R₁) (fun _ _ z => z.after g₁ q₁) fun _ _ z => z
  | false => exact wpAny_mono (dy.run A hA ρ₁ s₁ es₁ r es' e2 R₁) (fun _ _ z => z.after g₁ q₁) fun _ _ z => z
noncomputable def seqE (x y : FM PF) : FM PF := bindE x fun r => match r with
  | .next => y
  | r => pureE r
theorem Zg : Den c b f RFl (execs [] f.env) (pureE .next) := by
  constructor
  intro A hA ρ s es y es' e R
  obtain ⟨rfl, rfl⟩ := spr e
  exact wpAny_execs_nil (Ends.here R .next)
theorem Zc {st : Stmt} {rest : List Stmt} {F G : FM PF} (d : Den c b f RFl (exec st f.env) F) (d' : Den c b f RFl (execs rest f.env) G) : Den c b f RFl (execs (st :: rest) f.env) (seqE F G) := by
  constructor
  intro A hA ρ s es y es' e R
  obtain ⟨t, es₁, e1, e2⟩ := Ze e
  refine wpAny_execs_cons (wpAny_mono (d.run A hA ρ s es t es₁ e1 R) (fun v s₁ z => ?_) fun _ _ z => z)
  obtain ⟨ρ₁, R₁, g₁, q₁, r₁⟩ := z
  cases r₁ with
  | next => exact wpAny_mono (d'.run A hA ρ₁ s₁ es₁ y es' e2 R₁) (fun _ _ z => z.after g₁ q₁) fun _ _ z => z
  | brk => obtain ⟨rfl, rfl⟩ := spr e2; exact ⟨ρ₁, R₁, g₁, q₁, .brk⟩
  | cont => obtain ⟨rfl, rfl⟩ := spr e2; exact ⟨ρ₁, R₁, g₁, q₁, .cont⟩
  | ret r => obtain ⟨rfl, rfl⟩ := spr e2; exact ⟨ρ₁, R₁, g₁, q₁, .ret r⟩
theorem den_if {t : Expr} {x y : List Stmt} {pos : Pos} {T : FM Bool} {X Y : FM PF} (dt : Den c b f RB (isTrue t f.env (eval t f.env)) T) (dx : Den c b f RFl (execs x f.env) X) (dy : Den c b f RFl (execs y f.env) Y) :
    Den c b f RFl (exec (.If t x y pos) f.env) (iteE T X Y) := by
  constructor
  intro A hA ρ s es r es' e R
  obtain ⟨t, es₁, e1, e2⟩ := Xk e
  refine wpAny_If (wpAny_mono (dt.run A hA ρ s es t es₁ e1 R) (fun v s₁ z => ?_) fun _ _ z => z)
  obtain ⟨ρ₁, R₁, g₁, q₁, rfl⟩ := z
  cases v with
  | true => exact wpAny_mono (dx.run A hA ρ₁ s₁ es₁ r es' e2 R₁) (fun _ _ z => z.after g₁ q₁) fun _ _ z => z
  | false => exact wpAny_mono (dy.run A hA ρ₁ s₁ es₁ r es' e2 R₁) (fun _ _ z => z.after g₁ q₁) fun _ _ z => z
theorem Zq {x : Expr} {pos : Pos} {X : FM PV} (dx : Den c b f RV (eval x f.env) X) : Den c b f RFl (exec (.Return (some x) pos) f.env) (bindE X fun p => pureE (.ret p)) := by
  constructor
  intro A hA ρ s es r es' e R
  obtain ⟨p, es₁, e1, e2⟩ := Ze e
  cases e2
  refine wpAny_Return_some (wpAny_mono (dx.run A hA ρ s es p es' e1 R) (fun v s₁ z => ?_) fun _ _ z => z)
  obtain ⟨ρ₁, R₁, g₁, q₁, r₁⟩ := z
  exact ⟨ρ₁, R₁, g₁, q₁, .ret r₁⟩
theorem den_continue {pos : Pos} : Den c b f RFl (exec (.Continue pos) f.env) (pureE .cont) := by
  constructor
  intro A hA ρ s es y es' e R
  obtain ⟨rfl, rfl⟩ := spr e
  exact wpAny_Continue (Ends.here R .cont)
theorem Ys {x : Expr} {pos : Pos} {X : FM PV} (dx : Den c b f RV (eval x f.env) X) (hi : interactive f.env = false) (hs : swapsWith x none pos.line f.env = pure false := by rfl) :
    Den c b f RFl (exec (.Expr x pos) f.env) (bindE X fun _ => pureE .next) := by
  constructor
  intro A hA ρ s es r es' e R
  obtain ⟨p, es₁, e1, e2⟩ := Ze e
  cases e2
  refine wpAny_Expr_any (wpAny_mono (dx.run A hA ρ s es p es' e1 R) (fun v s₁ z => ?_) fun _ _ z => z) hi hs
  obtain ⟨ρ₁, R₁, g₁, q₁, r₁⟩ := z
  exact ⟨ρ₁, R₁, g₁, q₁, .next⟩
noncomputable def setL (i : Nat) (p : PV) : FM Unit := fun es => if i < es.loc.length then some ((), { es with loc := es.loc.set i (some p) }) else none
noncomputable def setC (i : Nat) (p : PV) : FM Unit := fun es => if i < es.cel.length then some ((), { es with cel := es.cel.set i (some p) }) else none
theorem RelF.wrote {c : Ctx0} {f : FI} {ρ : Rho} {es : ES} {h h' : Heap} (R : RelF c.K f ρ es h) {a : Addr} (m : a ∈ f.fr) (hs : Heap.SameBut a h h') (lv : ∃ o, h'.get? a = some o) : RelS c.K ρ es.st h' ∧ Grow f.fr ρ h ρ h' := by
  obtain ⟨S, g⟩ := R.s.wrote (wr := [a]) (h' := h') (fun x q => by rw [List.mem_singleton.mp q]; exact R.like a m) (fun x o e n => (hs.2 x fun q => n (q ▸ List.mem_singleton.mpr rfl)).trans e) (fun x q => by rw [List.mem_singleton.mp q]; exact lv)
  exact ⟨S, g.wider fun x q => by rw [List.mem_singleton.mp q]; exact m⟩
theorem store_local {A : Around} {ρ : Rho} {s : Shared} {es : ES} {x : Str} {i : Nat} {v : Value} {p : PV} (ok : f.Ok) (hx : f.ln[i]? = some x) (R : RelF c.K f ρ es s.heap) (r : RV s.heap ρ v p) (hi : i < es.loc.length) {E : Value → Shared → Prop} :
    wpAny (model c.prog c.w) A (storeName f.env x v) (Ends c.K f RU ρ s () { es with loc := es.loc.set i (some p) }) E s := by
  obtain ⟨m, n, l, nm⟩ := R.l
  refine wpAny_storeName_local (ok.loc x (List.mem_of_getElem? hx)) n (fun h' n' hs => ?_) (by rw [ok.kind]; rfl)
  have mL : f.env.locals ∈ f.fr := List.mem_cons_self
  obtain ⟨S, g⟩ := R.wrote mL hs (by obtain ⟨o, _, _, e, _⟩ := n'; exact ⟨o, e⟩)
  refine ⟨ρ, ⟨S, ⟨_, n', fun j y e => ?_, fun y hy => ?_⟩, fun j y a e => ?_, R.like, R.nd⟩, g, ⟨rfl, rfl, rfl⟩, trivial⟩
  · by_cases hj : i = j
    · subst hj
      rw [hx] at e; obtain rfl := Option.some.inj e
      have : (es.loc.set i (some p))[i]? = some (some p) := by rw [List.getElem?_set_self hi]
      rw [this]
      simp only [if_true, Option.join]
      exact .some (r.grow g R.like)
    · have hne : y ≠ x := by
        rintro rfl
        have h1 := (List.getElem?_eq_some_iff.mp hx)
        have h2 := (List.getElem?_eq_some_iff.mp e)
        exact hj ((List.getElem_inj ok.nodup).mp (h1.2.trans h2.2.symm))
      rw [if_neg hne, List.getElem?_set_ne hj]
      exact (l j y e).grow g R.like
  · have hne : y ≠ x := by rintro rfl; exact hy (List.mem_of_getElem? hx)
    rw [if_neg hne]; exact nm y hy
  · obtain ⟨u, w, z⟩ := R.c j y a e
    have hne : a ≠ f.env.locals := by
      rintro rfl
      have := R.nd
      unfold FI.fr at this
      rw [List.nodup_cons] at this
      exact this.1 (List.mem_map.mpr ⟨(y, _), List.mem_of_getElem? e, rfl⟩)
    exact ⟨u, w.sameBut hs hne, z.grow g R.like⟩
theorem store_cell {A : Around} {ρ : Rho} {s : Shared} {es : ES} {x : Str} {i : Nat} {a : Addr} {v : Value} {p : PV} (ok : f.Ok) (hx : f.cn[i]? = some (x, a)) (hc : f.env.cells.lookup x = some a) (hk : f.env.kindOf x = some .cell) (R : RelF c.K f ρ es s.heap) (r : RV s.heap ρ v p)
    (hi : i < es.cel.length) {E : Value → Shared → Prop} :
    wpAny (model c.prog c.w) A (storeName f.env x v) (Ends c.K f RU ρ s () { es with cel := es.cel.set i (some p) }) E s := by
  obtain ⟨u, hu, ru⟩ := R.c i x a hx
  refine wpAny_storeName_cell ok.kind hk hc hu (fun h' n' hs => ?_)
  have mA : a ∈ f.fr := mem_cells hx
  obtain ⟨S, g⟩ := R.wrote mA hs (by obtain ⟨o, e, _⟩ := n'; exact ⟨o, e⟩)
  have fr := R.nd
  unfold FI.fr at fr
  rw [List.nodup_cons] at fr
  have hL : f.env.locals ≠ a := fun q => fr.1 (q ▸ List.mem_map.mpr ⟨(x, a), List.mem_of_getElem? hx, rfl⟩)
  refine ⟨ρ, ⟨S, R.l.carry (g.carry R.like) fun o e => (hs.2 _ hL).trans e, fun j y a' e => ?_, R.like, R.nd⟩, g, ⟨rfl, rfl, rfl⟩, trivial⟩
  by_cases hj : i = j
  · subst hj
    rw [hx] at e; obtain ⟨rfl, rfl⟩ := spr e
    refine ⟨_, n', ?_⟩
    rw [List.getElem?_set_self hi]
    exact .some (r.grow g R.like)
  · obtain ⟨u', w, z⟩ := R.c j y a' e
    have hne : a' ≠ a := by
      rintro rfl
      have h1 : (f.cn.map (·.2))[i]? = some a' := by rw [List.getElem?_map, hx]; rfl
      have h2 : (f.cn.map (·.2))[j]? = some a' := by rw [List.getElem?_map, e]; rfl
      have h1' := (List.getElem?_eq_some_iff.mp h1)
      have h2' := (List.getElem?_eq_some_iff.mp h2)
      exact hj ((List.getElem_inj fr.2).mp (h1'.2.trans h2'.2.symm))
    refine ⟨u', w.sameBut hs hne, ?_⟩
    rw [List.getElem?_set_ne hj]
    exact z.grow g R.like
noncomputable abbrev DenA (c : Ctx0) (b : Nat) (f : FI) (t : Expr) (F : PV → FM Unit) : Prop := DenK c b f RV RU (assign t f.env) F
theorem Zf {x : Str} {pos : Pos} {i : Nat} (ok : f.Ok) (hx : f.ln[i]? = some x) : DenA c b f (.Name x pos) (setL i) := by
  constructor
  intro A hA ρ s es v p y es' e r R
  unfold setL at e
  split at e <;> (first | obtain ⟨rfl, rfl⟩ := spr e | exact (nos e).elim)
  exact wpAny_assign_Name (store_local ok hx R r ‹_›)
theorem X3 {x : Str} {pos : Pos} {i : Nat} {a : Addr} (ok : f.Ok) (hx : f.cn[i]? = some (x, a)) (hc : f.env.cells.lookup x = some a) (hk : f.env.kindOf x = some .cell) : DenA c b f (.Name x pos) (setC i) := by
  constructor
  intro A hA ρ s es v p y es' e r R
  unfold setC at e
  split at e <;> (first | obtain ⟨rfl, rfl⟩ := spr e | exact (nos e).elim)
  exact wpAny_assign_Name (store_cell ok hx hc hk R r ‹_›)
theorem Zj {t value : Expr} {pos : Pos} {X : FM PV} {S : PV → FM Unit} (dx : Den c b f RV (eval value f.env) X) (ds : DenA c b f t S) (hs : swapsWithSole [t] value pos.line f.env = pure false := by rfl)
    (hw : swappedStores [t] value f.env = pure none := by rfl) (hst : assignEach [t] f.env = [(false, assign t f.env)] := by rfl) : Den c b f RFl (exec (.Assign [t] value pos) f.env) (bindE X fun p => bindE (S p) fun _ => pureE .next) := by
  constructor
  intro A hA ρ s es r es' e R
  obtain ⟨p, es₁, e1, e⟩ := Ze e
  obtain ⟨_, es₂, e2, e3⟩ := Ze e
  cases e3
  refine wpAny_Assign_stores (wpAny_mono (dx.run A hA ρ s es p es₁ e1 R) (fun v s₁ z => ?_) fun _ _ z => z) hs hw
  obtain ⟨ρ₁, R₁, g₁, q₁, r₁⟩ := z
  rw [hst]
  show wpAny _ _ (assign t f.env v) _ _ _
  refine wpAny_mono (ds.run A hA ρ₁ s₁ es₁ v p () es' e2 r₁ R₁) (fun _ s₂ z => ?_) fun _ _ z => z
  obtain ⟨ρ₂, R₂, g₂, q₂, r₂⟩ := z
  exact ⟨ρ₂, R₂, g₁.trans g₂, q₁.trans q₂, .next⟩
end
structure OpL (c : Ctx0) (b : Nat) (t : List Value → Sem Value) (G : List PV → SM PV) : Prop where
  run : ∀ A, AOk b A → ∀ ρ s st vs ps y st', G ps st = some (y, st') → RVs s.heap ρ vs ps → RelS c.K ρ st s.heap → wpAny (model c.prog c.w) A (t vs) (EndsS c.K RV ρ s y st') noE s
noncomputable abbrev FunOk (c : Ctx0) (b : Nat) (fv : Value) (G : List PV → SM PV) : Prop := OpL c b (fun vs => call fv vs) G
noncomputable def retOf : PF → PV
  | .ret p => p
  | _ => .none
section
variable {c : Ctx0} {b : Nat}
theorem Yw {h : Heap} {ρ : Rho} {names : List Str} {vs : List Value} {ps : List PV} (r : RVs h ρ vs ps) (hl : names.length = vs.length) (x : Str) :
    RVo h ρ ((names.zip vs).lookup x) ((names.idxOf? x).bind fun i => ps[i]?) := by
  induction names generalizing vs ps with
  | nil => simp [List.idxOf?]; exact .none
  | cons n names ih =>
    cases vs with
    | nil => simp at hl
    | cons v vs =>
      cases r with
      | @cons _ p _ ps rv rr =>
        rw [List.zip_cons_cons, List.lookup_cons, List.idxOf?_cons]
        by_cases hx : x == n
        · rw [hx]
          have : (n == x) = true := by rw [beq_iff_eq] at hx ⊢; exact hx.symm
          simp [this]; exact .some rv
        · have h1 : (x == n) = false := by simpa using hx
          have h2 : (n == x) = false := by
            cases q : n == x with
            | false => rfl
            | true => rw [beq_iff_eq] at q; rw [q] at h1; simp at h1
          rw [h1, h2]
          have := ih rr (by simpa using hl)
          cases q : names.idxOf? x with
          | none => rw [q] at this; simpa using this
          | some i => rw [q] at this; simpa using this
theorem Ym {β : Type} {l : List (Str × β)} {x : Str} (h : ∀ p ∈ l, p.1 ≠ x) : l.lookup x = none := by
  rw [List.lookup_eq_none_iff]
  intro p hp
  have := h p hp
  simp only [bne_iff_ne, ne_eq]
  exact fun e => this e.symm
theorem Xm {β : Type} {l : List (Str × β)} (nd : (l.map (·.1)).Nodup) (x : Str) : l.reverse.lookup x = l.lookup x := by
  induction l with
  | nil => rfl
  | cons p r ih =>
    obtain ⟨k, v⟩ := p
    rw [List.map_cons, List.nodup_cons] at nd
    rw [List.reverse_cons, List.lookup_append, ih nd.2, List.lookup_cons]
    cases q : x == k with
    | true =>
      rw [beq_iff_eq] at q; subst q
      rw [Ym fun p hp z => nd.1 (List.mem_map.mpr ⟨p, hp, z⟩)]; simp [List.lookup_cons]
    | false => cases z : r.lookup x <;> simp [List.lookup_cons, q, z]
theorem Jk {names : List Str} {vs : List Value} (hl : names.length = vs.length) : (names.zip vs).map (·.1) = names := by
  rw [List.map_fst_zip]; omega
structure DefAt (K : Frag) (a : Addr) (fd : FuncData) (body : List Stmt) : Prop where
  at_ : ∃ oc od sl, K.lookup a = some ⟨oc, od, .func fd, sl⟩
  code : codeIn K fd.code fd.qualname = true
  body : fd.body = .stmts body
  co : fd.scope.isCoroutine = false
  gen : fd.scope.isGenerator = false
  kind : fd.scope.kind = .function
theorem get_ge {h : Heap} {a : Addr} (l : h.objs.size ≤ a) : h.get? a = none := by
  cases e : h.get? a with
  | none => rfl
  | some o => exact absurd (Heap.lt_size e) (Nat.not_lt.mpr l)
theorem RelS.left {K : Frag} {ρ ρ' : Rho} {st st' : List AO} {s s' : Shared} {h₀ : Heap} {tk : Nat} {wr : List Addr} {v : Value} {p : PV} (R : RelS K ρ st s.heap) (k : ∀ a o, s.heap.get? a = some o → h₀.get? a = some o) (fresh : ∀ a ∈ wr, s.heap.get? a = none)
    (R' : RelS K ρ' st' s'.heap) {fr : List Addr} (g : Grow fr (ρ.enter wr) h₀ ρ' s'.heap) (sub : ∀ a ∈ fr, a ∈ wr) (sm : Same { s with heap := h₀, toks := tk } s') (r : RV s'.heap ρ' v p) : EndsS K RV ρ s p st' v s' := by
  obtain ⟨e', r'⟩ := ρ'
  have hr : r' = wr ++ ρ.rsv := g.rsv
  subst hr
  obtain ⟨S, cy⟩ := RelS.leave (ρ := ⟨e', ρ.rsv⟩) (wr := wr) (h' := s'.heap) R' fun a o e _ => e
  refine ⟨⟨e', ρ.rsv⟩, S, ⟨fun a o e _ nr => g.keep a o (k a o e) (fun m => by rw [fresh a (sub a m)] at e; exact (nos e).elim) nr, g.pre, rfl, fun a m => ?_⟩, ⟨sm.1, sm.2.1, sm.2.2⟩, r.carry cy⟩
  rcases g.new a m with z | z | z
  · exact .inl z
  · exact .inr (.inr (fresh a (sub a z)))
  · refine .inr (.inr ?_)
    cases q : s.heap.get? a with
    | none => rfl
    | some o => rw [k a o q] at z; cases z
noncomputable abbrev DenArgs (c : Ctx0) (b : Nat) (f : FI) (pos : Pos) (args : List Expr) (F : FM (List PV)) : Prop := Den c b f RVs (spliced (backTo pos (starEach args f.env))) F
variable {f : FI}
theorem Zd {pos : Pos} : DenArgs c b f pos [] (pureE []) := by
  constructor
  intro A hA ρ s es y es' e R
  obtain ⟨rfl, rfl⟩ := spr e
  exact Calls.spliced_nil (Ends.here R .nil)
noncomputable def consE (X : FM PV) (Y : FM (List PV)) : FM (List PV) := bindE X fun p => bindE Y fun ps => pureE (p :: ps)
theorem Zb {pos : Pos} {x : Expr} {rest : List Expr} {X : FM PV} {Y : FM (List PV)} (dx : Den c b f RV (eval x f.env) X) (dy : DenArgs c b f pos rest Y)
    (hx : Z9 x = true := by rfl) : DenArgs c b f pos (x :: rest) (consE X Y) := by
  constructor
  intro A hA ρ s es y es' e R
  obtain ⟨p, es₁, e1, e⟩ := Ze e
  obtain ⟨ps, es₂, e2, e3⟩ := Ze e
  obtain ⟨rfl, rfl⟩ := spr e3
  rw [Q6 hx]
  refine Calls.spliced_cons (wpAny_mono (dx.run A hA ρ s es p es₁ e1 R) (fun v s₁ z => ?_) fun _ _ z => z)
  obtain ⟨ρ₁, R₁, g₁, q₁, r₁⟩ := z
  refine wpAny_mono (dy.run A hA ρ₁ s₁ es₁ ps _ e2 R₁) (fun vs s₂ z => ?_) fun _ _ z => z
  obtain ⟨ρ₂, R₂, g₂, q₂, r₂⟩ := z
  exact ⟨ρ₂, R₂, g₁.trans g₂, q₁.trans q₂, .cons (r₁.grow g₂ R₁.like) r₂⟩
noncomputable def KeepOk (K : Frag) (fv : Value) : Prop := ∀ (M : Model) (h : Heap), K.In h → ∃ k, (k = Keeper.frame ∨ k = Keeper.machine ∨ k = Keeper.boundFrame) ∧ Looks M h (keeperOf fv) k
theorem Zk {K : Frag} {a : Addr} (h : keepIn K (.ref a) = true) : KeepOk K (.ref a) := fun M hp X => by
  obtain ⟨k, x, y⟩ := looks_keep (M := M) h X
  exact ⟨k, x.elim .inl (fun e => .inr (.inl e)), y⟩
theorem Zh {K : Frag} {id : String} : KeepOk K (.builtin id) := fun M hp X => ⟨.machine, .inr (.inl rfl), Looks.of_pure rfl⟩
theorem Z1 {K : Frag} {id : String} : KeepOk K (.type id) := fun M hp X => ⟨.machine, .inr (.inl rfl), Looks.of_pure rfl⟩
theorem Yj {M : Model} {A : Around} {E : Value → Shared → Prop} {s : Shared} {fv : Value} {pos : Pos} {args : List Expr} {env : Env} {Q : Args → Shared → Prop} (hst : (backTo pos (starEach args env)).all (fun x => !x.1) = true)
    (h : wpAny M A (spliced (backTo pos (starEach args env))) (fun vs s' => Q ⟨vs, []⟩ s') E s) : wpAny M A (evalArgs fv true (backTo pos (starEach args env)) []) Q E s := by
  cases hb : backTo pos (starEach args env) with
  | nil =>
    rw [hb] at h
    unfold evalArgs
    show wpAny M A (spliced [] >>= _) Q E s
    refine wpAny_bind (wpAny_mono h (fun vs s' h' => ?_) fun _ _ x => x)
    refine wpAny_holding ?_
    exact wpAny_bind (wpAny_pure (wpAny_bind (wpAny_pure (wpAny_pure h'))))
  | cons x r =>
    obtain ⟨b, t⟩ := x
    rw [hb] at h hst
    have : b = false := by
      rw [List.all_cons, Bool.and_eq_true] at hst
      simpa using hst.1
    subst this
    exact Calls.evalArgs_plain h
theorem den_callWith {pos : Pos} {fv : Value} {args : List Expr} {FA : FM (List PV)} {G : List PV → SM PV} (hk : KeepOk c.K fv) (da : DenArgs c b f pos args FA) (o : OpL c b (fun vs => call fv vs) G)
    (ha : args.all Z9 = true := by rfl) :
    Den c b f RV (callWith pos fv [] (backTo pos (starEach args f.env)) []) (bindE FA fun ps => liftS (G ps)) := by
  constructor
  intro A hA ρ s es y es' e R
  obtain ⟨ps, es₁, e1, e⟩ := Ze e
  obtain ⟨st', e2, rfl⟩ := Z7 e
  have hst := Yv (env := f.env) (pos := pos) ha
  refine callWith_of (P := c.K.In) ?_ (hk _) (Yj hst (wpAny_mono (da.run A hA ρ s es ps es₁ e1 R) (fun vs s₁ z => ?_) fun _ _ z => z))
  · rw [List.any_nil, Bool.or_false, List.any_eq_not_all_not, Bool.not_eq_false']
    simpa using hst
  · obtain ⟨ρ₁, R₁, g₁, q₁, r₁⟩ := z
    refine ⟨R₁.s.top, wpAny_mono (o.run A hA ρ₁ s₁ es₁.st vs ps y st' e2 r₁ R₁.s) (fun _ _ z => (z.toF R₁).after g₁ q₁) fun _ _ z => z⟩
theorem Zs {x : Str} {np pos : Pos} {fv : Value} {args : List Expr} {FA : FM (List PV)} {G : List PV → SM PV} (dn : Den c b f RV (eval (.Name x np) f.env) (pureE (.raw fv))) (hk : KeepOk c.K fv)
    (da : DenArgs c b f pos args FA) (o : OpL c b (fun vs => call fv vs) G) (ha : args.all Z9 = true := by rfl) :
    Den c b f RV (eval (.Call (.Name x np) args [] pos) f.env) (bindE FA fun ps => liftS (G ps)) := by
  constructor
  intro A hA ρ s es y es' e R
  refine wpAny_Call_NameR (wpAny_mono (dn.run A hA ρ s es _ es rfl R) (fun v s₁ z => ?_) fun _ _ z => z)
  obtain ⟨ρ₁, R₁, g₁, q₁, r₁⟩ := z
  (first | obtain ⟨_, rfl⟩ := r₁.inv | cases r₁)
  exact wpAny_mono ((den_callWith hk da o ha).run A hA ρ₁ s₁ es y es' e R₁) (fun _ _ z => z.after g₁ q₁) fun _ _ z => z
end
section
variable {c : Ctx0} {b : Nat} {f : FI}
structure MethAt (c : Ctx0) (name : Str) (P : PV → List AO → Bool) (fv : Value) : Prop where
  run : ∀ A pl ρ s st v p Q, P p st = true → RV s.heap ρ v p → RelS c.K ρ st s.heap → Q (fv, [v]) s → wpAny (model c.prog c.w) A (getMethod v name pl) Q noE s
theorem den_methodR {β : Type} {RA : Heap → Rho → Value → β → Prop} {o : Expr} {name : Str} {apos pos : Pos} {args : List Expr} {fv : Value} {P : PV → List AO → Bool} {FO : FM PV} {FA : FM (List PV)} {G : List PV → SM β}
    (dO : Den c b f RV (eval o f.env) FO) (m : MethAt c name P fv) (hk : KeepOk c.K fv) (da : DenArgs c b f pos args FA) (op : ∀ A, AOk b A → ∀ ρ s st vs ps y st', G ps st = some (y, st') → RVs s.heap ρ vs ps → RelS c.K ρ st s.heap → wpAny (model c.prog c.w) A (call fv vs) (EndsS c.K RA ρ s y st') noE s)
    (hbase : Xu o = true := by rfl) (hline : (apos.endLine == pos.line) = true := by rfl) (ha : (args.all Z9 && decide (args.length < 29)) = true := by rfl) :
    Den c b f RA (eval (.Call (.Attribute o name apos) args [] pos) f.env) (bindE FO fun p => guardE (P p) (bindE FA fun ps => liftS (G (p :: ps)))) := by
  constructor
  intro A hA ρ s es y es' e R
  obtain ⟨p, es₁, e1, e⟩ := Ze e
  unfold guardE at e
  split at e <;> try exact (nos e).elim
  rename_i hP
  obtain ⟨ps, es₂, e2, e⟩ := Ze e
  obtain ⟨st', e3, rfl⟩ := Z7 e
  rw [Bool.and_eq_true] at ha
  have hst := Yv (env := f.env) (pos := pos) ha.1
  have hlen : args.length < 29 := by simpa using ha.2
  have hfew : methodCallForm (args.length + ([] : List Keyword).length) (backTo pos (starEach args f.env)) (backToKw pos (keywordEach [] f.env)) = true := by
    unfold methodCallForm
    rw [hst]
    show (true && true && decide (args.length + 0 + 0 < 30)) = true
    simp; omega
  rw [arm_eval_Call, Yl hbase]
  refine wpAny_bind (wpAny_mono (dO.run A hA ρ s es p es₁ e1 R) (fun v s₁ z => ?_) fun _ _ z => z)
  obtain ⟨ρ₁, R₁, g₁, q₁, r₁⟩ := z
  refine wpAny_bind (wpAny_standAt ?_)
  have hpos : methodCallPos true o f.env apos pos = pure pos := by unfold methodCallPos; simp [hline]
  unfold methodCall
  rw [hfew]
  refine wpAny_bind (wpAny_holding (m.run A _ ρ₁ s₁ es₁.st v p _ hP r₁ R₁.s ?_))
  refine wpAny_bind (wpAny_of_eq hpos ?_)
  refine callWith_of (P := c.K.In) ?_ (hk _) (Yj hst (wpAny_mono (da.run A hA ρ₁ s₁ es₁ ps es₂ e2 R₁) (fun vs s₂ z => ?_) fun _ _ z => z))
  · rw [show (backToKw pos (keywordEach [] f.env)) = [] from rfl, List.any_nil, Bool.or_false, List.any_eq_not_all_not, Bool.not_eq_false']
    simpa using hst
  · obtain ⟨ρ₂, R₂, g₂, q₂, r₂⟩ := z
    refine ⟨R₂.s.top, wpAny_mono (op A hA ρ₂ s₂ es₂.st (v :: vs) (p :: ps) y st' e3 (.cons (r₁.grow g₂ R₁.like) r₂) R₂.s) (fun _ _ z => ((z.toF R₂).after g₂ q₂).after g₁ q₁) fun _ _ z => z⟩
theorem Zi {o : Expr} {name : Str} {apos pos : Pos} {args : List Expr} {fv : Value} {P : PV → List AO → Bool} {FO : FM PV} {FA : FM (List PV)} {G : List PV → SM PV}
    (dO : Den c b f RV (eval o f.env) FO) (m : MethAt c name P fv) (hk : KeepOk c.K fv) (da : DenArgs c b f pos args FA) (op : OpL c b (fun vs => call fv vs) G)
    (hbase : Xu o = true := by rfl) (hline : (apos.endLine == pos.line) = true := by rfl) (ha : (args.all Z9 && decide (args.length < 29)) = true := by rfl) :
    Den c b f RV (eval (.Call (.Attribute o name apos) args [] pos) f.env) (bindE FO fun p => guardE (P p) (bindE FA fun ps => liftS (G (p :: ps)))) := den_methodR dO m hk da op.run hbase hline ha
noncomputable def isStr (p : PV) (_ : List AO) : Bool := match p with | .str _ => true | _ => false
theorem Qm {name : Str} {id : String} (slot : Slot "str" name id) (hty : typeOf (.builtin id) = pure (.type "method_descriptor")) : MethAt c name isStr (.builtin id) := by
  constructor
  intro A pl ρ s st v p Q hP r R h
  cases r <;> first | cases hP | skip
  exact getMethod_builtin (typeIs_str _ _ _) F.plainAttrs_str slot hty (fun _ e => nomatch e) h
noncomputable def str1 (g : Str → Str) (ps : List PV) : SM PV := fun st => match ps with | [.str x] => if (g x).length ≤ sizeLine then some (.str (g x), st) else none | _ => none
theorem notLong {n : Nat} (h : n ≤ sizeLine) : Builtin.Str.tooLong n = false := by
  unfold Builtin.Str.tooLong
  simp only [decide_eq_false_iff_not, gt_iff_lt, Nat.not_lt]
  exact h
theorem op_lower : OpL c b (fun vs => call (.builtin "str.lower") vs) (str1 Txt.lower) := by
  constructor
  intro A hA ρ s st vs ps y st' e r R
  unfold str1 at e; split at e <;> try exact (nos e).elim
  split at e <;> (first | obtain ⟨rfl, rfl⟩ := spr e | exact (nos e).elim)
  rename_i hz
  obtain ⟨_, _, rfl, ra, rr⟩ := r.inv; obtain rfl := rr.inv; obtain ⟨_, rfl⟩ := ra.inv; exact SC.lower (notLong hz) (EndsS.tok R (.str _ _))
theorem op_upper : OpL c b (fun vs => call (.builtin "str.upper") vs) (str1 Txt.upper) := by
  constructor
  intro A hA ρ s st vs ps y st' e r R
  unfold str1 at e; split at e <;> try exact (nos e).elim
  split at e <;> (first | obtain ⟨rfl, rfl⟩ := spr e | exact (nos e).elim)
  rename_i hz
  obtain ⟨_, _, rfl, ra, rr⟩ := r.inv; obtain rfl := rr.inv; obtain ⟨_, rfl⟩ := ra.inv; exact SC.upper (notLong hz) (EndsS.tok R (.str _ _))
noncomputable def getI (p q : PV) : SM PV := fun st => match q with
  | .int i => if 0 ≤ i ∧ i < 2 ^ 62 then (match p with
    | .str x => (match x.cps[i.toNat]? with
      | some u => some (.str ⟨#[u]⟩, st)
      | none => none)
    | .tup xs => (match xs[i.toNat]? with
      | some u => some (u, st)
      | none => none)
    | p => (match items? st p with
      | some xs => (match xs[i.toNat]? with
        | some u => some (u, st)
        | none => none)
      | none => none)) else none
  | _ => none
theorem Q7 {i : Int} {n : Nat} (h0 : 0 ≤ i) (h : i.toNat < n) : seqIndex? i n = some i.toNat := by
  unfold seqIndex?
  have h1 : ¬ i < 0 := by omega
  have h2 : i < n := by omega
  simp only [h1, if_false]
  simp [h0, h2]
theorem RVs.getAt {h : Heap} {ρ : Rho} {vs : Array Value} {ps : List PV} (r : RVs h ρ vs.toList ps) {i : Nat} {p : PV} (e : ps[i]? = some p) : ∃ v, vs[i]? = some v ∧ RV h ρ v p := by
  obtain ⟨v, a, b⟩ := r.get e
  exact ⟨v, by simpa using a, b⟩
theorem op_subscript {value slice : Expr} (hs : ∀ o i, subscripted slice false o i = operate [o, i] (getItem o i) := by intro _ _; rfl) : Op2 c b RV (fun o i => subscriptTail value slice o i) getI := by
  constructor
  intro A hA ρ s st x z x' z' y st' e r r' R
  unfold getI at e
  split at e <;> try exact (nos e).elim
  rename_i i
  split at e <;> try exact (nos e).elim
  rename_i hi
  obtain ⟨tk, rfl⟩ := r'.inv
  split at e
  · rename_i u
    split at e <;> (first | obtain ⟨rfl, rfl⟩ := spr e | exact (nos e).elim)
    rename_i cp hc
    obtain ⟨t, rfl⟩ := r.inv
    have hlt : i.toNat < u.length := (Array.getElem?_eq_some_iff.mp hc).1
    exact tail_any (typeIs_str _ _ _) slot_str_getitem.lookup (PyProof.Rows.getItem_str (by simp; omega) (by rw [Q7 hi.1 hlt]; exact hc) (EndsS.tok R (.str _ _))) (hs _ _)
  · rename_i xs
    split at e <;> (first | obtain ⟨rfl, rfl⟩ := spr e | exact (nos e).elim)
    rename_i hx
    obtain ⟨a, vs, na, q, rr, rfl⟩ := r.inv
    obtain ⟨v, hv, rv⟩ := rr.get hx
    have ht : IsTup s.heap a vs.toArray := q
    have hlt : i.toNat < vs.length := (List.getElem?_eq_some_iff.mp hv).1
    exact tail_any ht.typeIs slot_tuple_getitem.lookup (getItem_tuple ht (by omega) (by omega) (by rw [List.size_toArray]; exact Q7 hi.1 hlt) (by simpa using hv) (EndsS.here R rv)) (hs _ _)
  · split at e <;> try exact (nos e).elim
    rename_i xs hxs
    split at e <;> (first | obtain ⟨rfl, rfl⟩ := spr e | exact (nos e).elim)
    rename_i hx
    obtain ⟨a, vs, rfl, hl, rr⟩ := Y0 R r hxs
    replace hl := isL hl
    obtain ⟨v, hv, rv⟩ := rr.getAt hx
    exact tail_any hl.typeIs slot_list_getitem.lookup (wpAny_getItem_list hl hi.1 (by omega) hv (EndsS.here R rv)) (hs _ _)
theorem Z6 {value slice : Expr} {pos : Pos} {F₁ F₂ : FM PV} (d₁ : Den c b f RV (eval value f.env) F₁) (d₂ : Den c b f RV (eval slice f.env) F₂)
    (hs : ∀ o i, subscripted slice false o i = operate [o, i] (getItem o i) := by intro _ _; rfl) :
    Den c b f RV (eval (.Subscript value slice pos) f.env) (bindE F₁ fun p => bindE F₂ fun q => liftS (getI p q)) :=
  ⟨fun A hA ρ s es y es' e R => Subscript_ (Qk d₁ d₂ (op_subscript hs) hA e R)⟩
end
noncomputable def Kept (wr : List Addr) (h h' : Heap) : Prop := ∀ a o, h.get? a = some o → a ∉ wr → h'.get? a = some o
theorem Kept.refl {wr : List Addr} {h : Heap} : Kept wr h h := fun _ _ e _ => e
theorem Kept.of_same {h h' : Heap} {wr : List Addr} {a : Addr} (m : a ∈ wr) (hs : Heap.SameBut a h h') : Kept wr h h' := fun x o e n => (hs.2 x fun q => n (q ▸ m)).trans e
theorem Kept.of_extBut {h h' : Heap} {wr : List Addr} {a : Addr} (m : a ∈ wr) (hs : Heap.ExtBut a h h') : Kept wr h h' := fun x o e n => hs x o (fun q => n (q ▸ m)) e
structure Src (c : Ctx0) (A : Around) (target : Expr) (it : Value) (wr : List Addr) (chk : List AO → Bool) (items : List PV) (pos : Nat → Heap → Rho → Prop) : Prop where
  stable : ∀ k h ρ h' ρ', pos k h ρ → Carry h ρ h' ρ' → (∀ a ∈ wr, ∀ o, h.get? a = some o → h'.get? a = some o) → pos k h' ρ'
  live : ∀ k h ρ, pos k h ρ → ∀ a ∈ wr, ∃ o, h.get? a = some o
  next : ∀ ρ st k s x, items[k]? = some x → pos k s.heap ρ → RelS c.K ρ st s.heap → chk st = true → (∀ a ∈ wr, a ∈ ρ.rsv) →
    wpAny (model c.prog c.w) A (pyNext it) (fun r s₁ => ∃ u, r = some u ∧ wpAny (model c.prog c.w) A (letOwnedTupleGo target it u)
      (fun _ s₂ => RV s₂.heap ρ u x ∧ pos (k + 1) s₂.heap ρ ∧ Kept wr s.heap s₂.heap ∧ Same s s₂) noE s₁) noE s
  done : ∀ ρ st s, pos items.length s.heap ρ → RelS c.K ρ st s.heap → chk st = true → (∀ a ∈ wr, a ∈ ρ.rsv) →
    wpAny (model c.prog c.w) A (pyNext it) (fun r s₁ => r = none ∧ Kept wr s.heap s₁.heap ∧ Same s s₁) noE s
  self : ∀ k s ρ (Q : Value → Shared → Prop), pos k s.heap ρ → Q it s → wpAny (model c.prog c.w) A (pyIter it) Q noE s
noncomputable def loopK (rest : FM PF) : PF → FM PF
  | .next | .cont => rest
  | .brk => pureE .next
  | .ret p => pureE (.ret p)
noncomputable def Yc (chk : List AO → Bool) (S : PV → FM Unit) (B : FM PF) : List PV → FM PF
  | [] => guardE chk (pureE .next)
  | x :: r => guardE chk (bindE (S x) fun _ => bindE B (loopK (Yc chk S B r)))
section
variable {c : Ctx0} {b : Nat} {f : FI}
structure RelL (K : Frag) (f : FI) (wr : List Addr) (ρ : Rho) (es : ES) (h : Heap) : Prop where
  r : RelF K f ρ es h
  hw : ∀ a ∈ wr, a ∈ ρ.rsv
  hd : ∀ a ∈ wr, a ∉ f.fr
theorem RelL.kept {K : Frag} {wr : List Addr} {ρ : Rho} {es : ES} {h h' : Heap} (R : RelL K f wr ρ es h) (k : Kept wr h h') (lv : ∀ a ∈ wr, ∃ o, h'.get? a = some o) : RelL K f wr ρ es h' ∧ Grow wr ρ h ρ h' := by
  obtain ⟨S, g⟩ := R.r.s.wrote R.hw k lv
  exact ⟨⟨R.r.carry S (g.carry R.hw) (fun a m o e => k a o e fun z => R.hd a z m) R.r.like, R.hw, R.hd⟩, g⟩
theorem RelL.step {K : Frag} {wr : List Addr} {ρ ρ' : Rho} {es es' : ES} {h h' : Heap} (R : RelL K f wr ρ es h) (R' : RelF K f ρ' es' h') (g : Grow f.fr ρ h ρ' h') : RelL K f wr ρ' es' h' ∧ (∀ a ∈ wr, ∀ o, h.get? a = some o → h'.get? a = some o) :=
  ⟨⟨R', fun a m => g.rsv ▸ R.hw a m, R.hd⟩, fun a m o e => g.keep a o e (R.hd a m) (Yx R.r.s.nodup (R.hw a m))⟩
theorem for_run {A : Around} {target : Expr} {it : Value} {wr : List Addr} {chk : List AO → Bool} {items : List PV} {pos : Nat → Heap → Rho → Prop} {body : List Stmt} {S : PV → FM Unit} {B : FM PF}
    (src : Src c A target it wr chk items pos) (hA : AOk b A) (ds : DenA c b f target S) (db : Den c b f RFl (execs body f.env) B) {ρ₀ : Rho} {s₀ : Shared} {es₀ es' : ES} {y : PF}
    (e : Yc chk S B items es₀ = some (y, es')) (R₀ : RelL c.K f wr ρ₀ es₀ s₀.heap) (hp : pos 0 s₀.heap ρ₀) :
    codeAny (model c.prog c.w) A (.forLoop target it body [] f.env) (fun r s' => match r with
      | .ok fl => ∃ ρ' h', P5 (RelL c.K f wr ρ' es' h') (Kept wr h' s'.heap) (Grow (f.fr ++ wr) ρ₀ s₀.heap ρ' h') (Same s₀ s') (RFl h' ρ' fl y)
      | .error _ => False) s₀ := by
  refine codeAny_forLoop_any (fun n s => ∃ k ρ es, P7 (n = items.length - k) (k ≤ items.length) (Yc chk S B (items.drop k) es = some (y, es')) (RelL c.K f wr ρ es s.heap) (pos k s.heap ρ) (Grow (f.fr ++ wr) ρ₀ s₀.heap ρ s.heap) (Same s₀ s)) ?_ items.length ⟨0, ρ₀, es₀, by simp, Nat.zero_le _, by simpa using e, R₀, hp, .refl, .refl⟩
  rintro n s ⟨k, ρ, es, rfl, hk, e, R, hp, g, sm⟩
  by_cases hlt : k < items.length
  · have hx : items[k]? = some items[k] := by simp [hlt]
    rw [List.drop_eq_getElem_cons hlt] at e
    obtain ⟨hc, e⟩ := Xa e
    obtain ⟨_, es₁, e1, e⟩ := Ze e
    obtain ⟨fl, es₂, e2, e3⟩ := Ze e
    refine wpAny_mono (src.next ρ es.st k s _ hx hp R.r.s hc R.hw) (fun r s₁ z => ?_) fun _ _ z => z.elim
    obtain ⟨u, rfl, z⟩ := z
    refine wpAny_mono z (fun _ s₂ z => ?_) fun _ _ z => z.elim
    obtain ⟨ru, hp₂, ad, sm₂⟩ := z
    obtain ⟨R₂, g₂⟩ := R.kept ad (src.live _ _ _ hp₂)
    have ga : Grow (f.fr ++ wr) ρ₀ s₀.heap ρ s₂.heap := g.trans (g₂.wider fun a m => List.mem_append_right _ m)
    refine wpAny_mono (ds.run A hA ρ s₂ es u _ _ es₁ e1 ru R₂.r) (fun _ s₃ z => ?_) fun _ _ z => z.elim
    obtain ⟨ρ₃, R₃, g₃, q₃, _⟩ := z
    refine wpAny_mono (db.run A hA ρ₃ s₃ es₁ fl es₂ e2 R₃) (fun flv s₄ z => ?_) fun _ _ z => z.elim
    obtain ⟨ρ₄, R₄, g₄, q₄, rf⟩ := z
    have g34 := g₃.trans g₄
    have sm4 : Same s₀ s₄ := sm.trans (sm₂.trans (q₃.trans q₄))
    have gt : Grow (f.fr ++ wr) ρ₀ s₀.heap ρ₄ s₄.heap := ga.trans (g34.wider fun a m => List.mem_append_left _ m)
    obtain ⟨RL, kw⟩ := R₂.step R₄ g34
    have again : Yc chk S B (items.drop (k + 1)) es₂ = some (y, es') → ∃ m, m < items.length - k ∧ ∃ k ρ es, P7 (m = items.length - k) (k ≤ items.length) (Yc chk S B (items.drop k) es = some (y, es')) (RelL c.K f wr ρ es s₄.heap) (pos k s₄.heap ρ) (Grow (f.fr ++ wr) ρ₀ s₀.heap ρ s₄.heap) (Same s₀ s₄):= fun e =>
      ⟨items.length - (k + 1), by omega, k + 1, ρ₄, es₂, rfl, hlt, e, RL, src.stable _ _ _ _ _ hp₂ (g34.carry R₂.r.like) kw, gt, sm4⟩
    cases rf with
    | next => exact again e3
    | cont => exact again e3
    | brk => obtain ⟨rfl, rfl⟩ := spr e3; exact ⟨ρ₄, _, RL, .refl, gt, sm4, .next⟩
    | ret r => obtain ⟨rfl, rfl⟩ := spr e3; exact ⟨ρ₄, _, RL, .refl, gt, sm4, .ret r⟩
  · have hk' : k = items.length := by omega
    subst hk'
    rw [List.drop_length] at e
    obtain ⟨hc, e⟩ := Xa e
    obtain ⟨rfl, rfl⟩ := spr e
    refine wpAny_mono (src.done ρ _ s hp R.r.s hc R.hw) (fun r s₁ z => ?_) fun _ _ z => z.elim
    obtain ⟨rfl, ad, sm₁⟩ := z
    exact wpAny_execs_nil ⟨ρ, _, R, ad, g, sm.trans sm₁, .next⟩
noncomputable abbrev Its := List PV × (List AO → Bool)
structure DenIt (c : Ctx0) (b : Nat) (f : FI) (target iter : Expr) (F : FM Its) : Prop where
  run : ∀ A, AOk b A → ∀ ρ s es y es', F es = some (y, es') → RelF c.K f ρ es s.heap → wpAny (model c.prog c.w) A (eval iter f.env) (fun v s₁ => wpAny (model c.prog c.w) A (pyIter v) (fun it s₂ =>
    ∃ ρ' wr pos, P6 (RelF c.K f (ρ'.enter wr) es' s₂.heap) (Grow f.fr ρ s.heap ρ' s₂.heap) (Same s s₂) (Src c A target it wr y.2 y.1 pos) (pos 0 s₂.heap (ρ'.enter wr)) ((∀ a ∈ wr, s.heap.get? a = none))) noE s₁) noE s
theorem RelL.left {K : Frag} {wr : List Addr} {ρ ρ₀ ρ₁ : Rho} {es : ES} {h₀ h₁ h₂ h' : Heap} (R : RelL K f wr ρ es h₂) (kp : Kept wr h₂ h') (g₁ : Grow f.fr ρ₀ h₀ ρ₁ h₁) (g : Grow (f.fr ++ wr) (ρ₁.enter wr) h₁ ρ h₂) (fresh : ∀ a ∈ wr, h₀.get? a = none)
    (like : ∀ a ∈ f.fr, a ∈ ρ₁.rsv) : ∃ ρ', P3 (RelF K f ρ' es h') (Grow f.fr ρ₀ h₀ ρ' h') (Carry h₂ ρ h' ρ') := by
  obtain ⟨e', r'⟩ := ρ
  have hr : r' = wr ++ ρ₁.rsv := g.rsv
  subst hr
  obtain ⟨S, cy⟩ := RelS.leave (ρ := ⟨e', ρ₁.rsv⟩) (wr := wr) (h' := h') R.r.s kp
  refine ⟨⟨e', ρ₁.rsv⟩, R.r.carry S cy (fun a m o e => kp a o e fun z => R.hd a z m) like, ?_, cy⟩
  refine ⟨fun a o e nf nr => ?_, g₁.pre.trans g.pre, g₁.rsv, fun a m => ?_⟩
  · have nw : a ∉ wr := fun m => by rw [fresh a m] at e; exact (nos e).elim
    have e1 := g₁.keep a o e nf nr
    refine kp a o (g.keep a o e1 (fun m => (List.mem_append.mp m).elim nf nw) fun m => ?_) nw
    rcases g₁.new a m with z | z | z
    · exact nr z
    · exact nf z
    · rw [e] at z; cases z
  · have old : a ∈ ρ₁.flatten → a ∈ ρ₀.flatten ∨ a ∈ f.fr ∨ h₀.get? a = none := g₁.new a
    rcases g.new a m with z | z | z
    · exact old z
    · rcases List.mem_append.mp z with z | z
      · exact .inr (.inl z)
      · exact .inr (.inr (fresh a z))
    · by_cases hf : a ∈ f.fr
      · exact .inr (.inl hf)
      by_cases hr : a ∈ ρ₀.flatten
      · exact .inl hr
      refine .inr (.inr ?_)
      cases q : h₀.get? a with
      | none => rfl
      | some o => rw [g₁.keep a o q hf hr] at z; cases z
theorem RelF.enters {K : Frag} {wr : List Addr} {ρ ρ' : Rho} {es : ES} {h h' h₀ : Heap} (R : RelF K f (ρ'.enter wr) es h') (like : ∀ a ∈ f.fr, a ∈ ρ'.rsv) : RelL K f wr (ρ'.enter wr) es h' :=
  ⟨R, fun a m => List.mem_append_left _ m, fun a m q => by
    have n := (List.nodup_append.mp R.s.nodup).2.1
    exact (List.nodup_append.mp n).2.2 a m a (like a q) rfl⟩
noncomputable def forE (I : FM Its) (S : PV → FM Unit) (B : FM PF) : FM PF := bindE I fun p => Yc p.2 S B p.1
theorem X1 {target iter : Expr} {body : List Stmt} {ps : Pos} {I : FM Its} {S : PV → FM Unit} {B : FM PF}
    (di : DenIt c b f target iter I) (ds : DenA c b f target S) (db : Den c b f RFl (execs body f.env) B)
    (hs : ∀ x, foldedSetIterable iter f.env x = pure x := by intro _; rfl) : Den c b f RFl (exec (.For target iter body [] ps) f.env) (forE I S B) := by
  constructor
  intro A hA ρ s es y es' e R
  obtain ⟨p, es₁, e1, e⟩ := Ze e
  refine wpAny_For (wpAny_mono (di.run A hA ρ s es p es₁ e1 R) (fun v s₁ z => wpAny_mono z (fun it s₂ z => ?_) fun _ _ z => z) fun _ _ z => z) hs
  obtain ⟨ρ₁, wr, pos, R₁, g₁, q₁, src, hp, fresh⟩ := z
  have like : ∀ a ∈ f.fr, a ∈ ρ₁.rsv := fun a m => g₁.rsv ▸ R.like a m
  refine codeAny_mono (for_run src hA ds db e (R₁.enters (h := s.heap) (h₀ := s.heap) (ρ := ρ) like) hp) fun r s₃ z => ?_
  cases r with
  | error e => exact z.elim
  | ok fl =>
    obtain ⟨ρ₂, h₂, RL, kp, g₂, q₂, rf⟩ := z
    obtain ⟨ρ', R', g', cy⟩ := RL.left kp g₁ g₂ fresh like
    refine ⟨ρ', R', g', q₁.trans q₂, ?_⟩
    cases rf with
    | next => exact .next
    | brk => exact .brk
    | cont => exact .cont
    | ret r => exact .ret (r.carry cy)
end
section
variable {c : Ctx0} {b : Nat} {f : FI}
theorem Kept.grow {wr : List Addr} {ρ : Rho} {h h' : Heap} (x : Kept wr h h') : Grow wr ρ h ρ h' := ⟨fun a o e n _ => x a o e n, List.prefix_rfl, rfl, fun _ m => .inl m⟩
theorem Jm {A : Around} {target : Expr} {I : Addr} {fp wr wr' : List Addr} {n : Nat} {P : Nat → Value → Prop} {St : Nat → Heap → Prop} {items : List PV} (W : Walks c.prog c.w A I fp wr n P St) (hn : items.length = n) (hsub : ∀ a ∈ wr, a ∈ wr')
    (live : ∀ k h, St k h → ∀ a ∈ wr', ∃ o, h.get? a = some o) (go : ∀ k s u Q, St k s.heap → Q () s → wpAny (model c.prog c.w) A (letOwnedTupleGo target (.ref I) u) Q noE s) :
    Src c A target (.ref I) wr' (fun _ => true) items (fun k h ρ => St k h ∧ (∀ a ∈ fp, a ∉ wr' → a ∉ ρ.own ∧ ∃ o, h.get? a = some o) ∧ (∀ i x, items[i]? = some x → ∀ u, P i u → RV h ρ u x)) where
  stable := fun k h ρ h' ρ' p g kw => by
    obtain ⟨st, q, r⟩ := p
    refine ⟨W.frame k h h' st fun a m o e => ?_, fun a m nw => ?_, fun i x e u z => (r i x e u z).carry g⟩
    · by_cases mw : a ∈ wr'
      · exact kw a mw o e
      · exact (g.keep a o e (q a m mw).1).1
    · obtain ⟨na, o, e⟩ := q a m nw
      exact ⟨(g.keep a o e na).2, o, (g.keep a o e na).1⟩
  live := fun k h ρ p => live k h p.1
  next := fun ρ st k s x hx p R _ hw => by
    obtain ⟨stt, q, r⟩ := p
    refine W.item k s _ _ (by rw [← hn]; exact (List.getElem?_eq_some_iff.mp hx).1) stt fun v h' tk hv st' kp => ?_
    have kp' : Kept wr' s.heap h' := fun a o e na => kp a o (fun m => na (hsub a m)) e
    have cy : Carry s.heap ρ h' ρ := kp'.grow.carry hw
    refine ⟨v, rfl, go (k + 1) _ v _ st' ⟨(r k x hx v hv).carry cy, ⟨st', fun a m nw => ?_, fun i x e u z => (r i x e u z).carry cy⟩, kp', ⟨rfl, rfl, rfl⟩⟩⟩
    obtain ⟨na, o, e⟩ := q a m nw
    exact ⟨na, o, kp' a o e nw⟩
  done := fun ρ st s p R _ hw => by
    obtain ⟨stt, q, r⟩ := p
    rw [hn] at stt
    exact W.done s _ _ stt fun h' tk kp => ⟨rfl, fun a o e na => kp a o (fun m => na (hsub a m)) e, ⟨rfl, rfl, rfl⟩⟩
  self := fun k s ρ Q p h => W.self k s Q _ p.1 h
theorem src_walksT {A : Around} {elts : List Expr} {kk : Nat} {tpos : Pos} {I : Addr} {fp wr wr' : List Addr} {n : Nat} {Pt : Nat → Array Value → Prop} {St : Nat → Heap → Prop} {Mid : Nat → Addr → Heap → Prop} {items : List PV}
    (W : WalksT c.prog c.w A I fp wr n Pt St Mid) (hn : items.length = n) (hsub : ∀ a ∈ wr, a ∈ wr') (live : ∀ k h, St k h → ∀ a ∈ wr', ∃ o, h.get? a = some o) :
    Src c A (.Tuple elts kk tpos) (.ref I) wr' (fun _ => true) items (fun k h ρ => St k h ∧ (∀ a ∈ fp, a ∉ wr' → a ∉ ρ.own ∧ ∃ o, h.get? a = some o) ∧ (∀ i x, items[i]? = some x → ∃ xs, x = .tup xs ∧ ∀ us, Pt i us → ∀ h₁, (∀ a o, h.get? a = some o → a ∉ ρ.own → h₁.get? a = some o) → RVs h₁ ρ us.toList xs)) where
  stable := fun k h ρ h' ρ' p g kw => by
    obtain ⟨st, q, r⟩ := p
    refine ⟨W.frame k h h' st fun a m o e => ?_, fun a m nw => ?_, fun i x e => ?_⟩
    · by_cases mw : a ∈ wr'
      · exact kw a mw o e
      · exact (g.keep a o e (q a m mw).1).1
    · obtain ⟨na, o, e⟩ := q a m nw
      exact ⟨(g.keep a o e na).2, o, (g.keep a o e na).1⟩
    · obtain ⟨xs, rfl, z⟩ := r i x e
      exact ⟨xs, rfl, fun us hu h₁ k₁ => ((z us hu h fun _ _ e _ => e).carry g).carry ⟨fun a o e na => ⟨k₁ a o e na, na⟩, fun _ _ e => e⟩⟩
  live := fun k h ρ p => live k h p.1
  next := fun ρ st k s x hx p R _ hw => by
    obtain ⟨stt, q, r⟩ := p
    obtain ⟨xs, rfl, z⟩ := r k x hx
    refine W.item k s _ _ (by rw [← hn]; exact (List.getElem?_eq_some_iff.mp hx).1) stt fun T vals h' tk hv hT it mid kp => ?_
    refine ⟨.ref T, rfl, W.go elts kk tpos k T _ _ _ mid fun h'' st'' kp' => ?_⟩
    have kp2 : Kept wr' s.heap h'' := fun a o e na => kp' a o (fun m => na (hsub a m)) (kp a o (fun m => na (hsub a m)) e)
    have cy : Carry s.heap ρ h'' ρ := kp2.grow.carry hw
    have nT : T ∉ ρ.own := fun m => by
      obtain ⟨_, _, o, e⟩ := R.apart T m
      exact absurd (Heap.lt_size e) (Nat.not_lt.mpr hT)
    obtain ⟨o, e, ec, nn, ed⟩ := it
    refine ⟨.tup nT ⟨o, kp' T o (W.apart _ _ _ mid) e, ec, nn, by simpa using ed⟩ (z vals hv h'' fun a o e na => (cy.keep a o e na).1), ⟨st'', fun a m nw => ?_, fun i x e => ?_⟩, kp2, ⟨rfl, rfl, rfl⟩⟩
    · obtain ⟨na, o, e⟩ := q a m nw
      exact ⟨na, o, kp2 a o e nw⟩
    · obtain ⟨xs, rfl, z⟩ := r i x e
      exact ⟨xs, rfl, fun us hu h₁ k₁ => z us hu h₁ fun a o e na => k₁ a o (cy.keep a o e na).1 na⟩
  done := fun ρ st s p R _ hw => by
    obtain ⟨stt, q, r⟩ := p
    rw [hn] at stt
    exact W.done s _ _ stt fun h' tk kp => ⟨rfl, fun a o e na => kp a o (fun m => na (hsub a m)) e, ⟨rfl, rfl, rfl⟩⟩
  self := fun k s ρ Q p h => W.self k s Q _ p.1 h
noncomputable def ItEnds (c : Ctx0) (A : Around) (target : Expr) (ρ : Rho) (s : Shared) (y : Its) (it : Value) (s₂ : Shared) : Prop := ∃ wr pos, P7 (Src c A target it wr y.2 y.1 pos) ((∀ a o, s.heap.get? a = some o → s₂.heap.get? a = some o)) ((∀ a ∈ wr, s.heap.get? a = none)) (wr.Nodup) ((Carry s.heap ρ s₂.heap (ρ.enter wr) → pos 0 s₂.heap (ρ.enter wr))) ((∀ a ∈ wr, ∃ o, s₂.heap.get? a = some o)) (Same s s₂)
structure Makes (c : Ctx0) (b : Nat) (target : Expr) (p : PV) (st : List AO) (y : Its) : Prop where
  run : ∀ A, AOk b A → ∀ ρ s v, RelS c.K ρ st s.heap → RV s.heap ρ v p → wpAny (model c.prog c.w) A (pyIter v) (ItEnds c A target ρ s y) noE s
theorem ItEnds.toF {A : Around} {target : Expr} {ρ ρ₁ : Rho} {s s₁ s₂ : Shared} {y : Its} {it : Value} {es es' : ES} (R₁ : RelF c.K f ρ₁ es' s₁.heap) (g : Grow f.fr ρ s.heap ρ₁ s₁.heap) (q : Same s s₁) (like : ∀ a ∈ f.fr, a ∈ ρ.rsv)
    (S : RelS c.K ρ es.st s.heap) (z : ItEnds c A target ρ₁ s₁ y it s₂) :
    ∃ ρ' wr pos, P6 (RelF c.K f (ρ'.enter wr) es' s₂.heap) (Grow f.fr ρ s.heap ρ' s₂.heap) (Same s s₂) (Src c A target it wr y.2 y.1 pos) (pos 0 s₂.heap (ρ'.enter wr)) ((∀ a ∈ wr, s.heap.get? a = none)) := by
  obtain ⟨wr, pos, src, k, fresh, nd, hp, lv, sm⟩ := z
  obtain ⟨S', cy⟩ := R₁.s.enter k fresh lv nd
  refine ⟨ρ₁, wr, pos, R₁.carry S' cy (fun a _ o e => k a o e) (fun a m => List.mem_append_right _ (R₁.like a m)), ?_, q.trans sm, src, hp cy, fun a m => ?_⟩
  · exact g.trans ⟨fun a o e _ _ => k a o e, List.prefix_rfl, rfl, fun _ m => .inl m⟩
  · cases e : s.heap.get? a with
    | none => rfl
    | some o =>
      by_cases mf : a ∈ f.fr
      · obtain ⟨_, _, o', e'⟩ := R₁.s.apart a (Yb (R₁.like a mf))
        rw [fresh a m] at e'; exact (nos e').elim
      by_cases mo : a ∈ ρ.flatten
      · have : a ∈ ρ₁.flatten := by
          obtain ⟨t, p⟩ := g.pre
          unfold Rho.flatten; rw [← p, List.flatten_append]; exact List.mem_append_left _ mo
        obtain ⟨_, _, o', e'⟩ := R₁.s.apart a (Yu this)
        rw [fresh a m] at e'; exact (nos e').elim
      · have := g.keep a o e mf mo
        rw [fresh a m] at this; cases this
noncomputable def itsE (G : PV → List AO → Option Its) (p : PV) : FM Its := fun es => (G p es.st).map fun y => (y, es)
theorem denit_of {target iter : Expr} {F : FM PV} {G : PV → List AO → Option Its} (d : Den c b f RV (eval iter f.env) F) (mk : ∀ p st y, G p st = some y → Makes c b target p st y) : DenIt c b f target iter (bindE F (itsE G)) := by
  constructor
  intro A hA ρ s es y es' e R
  obtain ⟨p, es₁, e1, e⟩ := Ze e
  unfold itsE at e
  obtain ⟨y', hg, e⟩ := Option.map_eq_some_iff.mp e
  cases e
  refine wpAny_mono (d.run A hA ρ s es p es' e1 R) (fun v s₁ z => ?_) fun _ _ z => z
  obtain ⟨ρ₁, R₁, g, q, r⟩ := z
  refine wpAny_mono ((mk p es'.st y hg).run A hA ρ₁ s₁ v R₁.s r) (fun it s₂ z => z.toF (es := es) R₁ g q R.like R.s) fun _ _ z => z
theorem Qo {A : Around} {target : Expr} {I : Addr} {u : Value} {Q : Unit → Shared → Prop} {s : Shared} {ty : String} {o : Obj} {vs : Array Value} (ho : s.heap.get? I = some o) (hc : o.cls = .type ty) (hd : o.data = .fields vs)
    (hn : (["enumerate", "zip", "dict_itemiterator", "dict_reverseitemiterator", "odict_iterator", "itertools.zip_longest", "itertools.pairwise"].contains ty) = false) (h : Q () s) :
    wpAny (model c.prog c.w) A (letOwnedTupleGo target (.ref I) u) Q noE s := by
  have key : ∀ a, wpAny (model c.prog c.w) A (do
      let o ← load I
      match o.cls, o.data with
      | .type n, .fields vs =>
        if ["enumerate", "zip", "dict_itemiterator", "dict_reverseitemiterator", "odict_iterator", "itertools.zip_longest", "itertools.pairwise"].contains n && vs[0]? == some (rawInt a) then
          rule "for.unpacks-the-owned-tuple"
          updateField I 0 .none
      | _, _ => pure () : Sem Unit) Q noE s := fun a => by
    refine wpAny_bind (wpAny_load ho ?_)
    rw [hc, hd]
    dsimp only
    rw [hn, Bool.false_and, if_neg (by simp)]
    exact wpAny_pure h
  have two : ∀ x : Value, x = u → wpAny (model c.prog c.w) A (letOwnedTupleGo target (.ref I) x) Q noE s := fun x q => by
    subst q
    cases target <;> first | exact wpAny_pure h | (cases x <;> first | exact wpAny_pure h | exact key _)
  exact two u rfl
theorem rvs_of {h : Heap} {ρ : Rho} {vs : Array Value} {xs : List PV} (r : RVs h ρ vs.toList xs) {i : Nat} {x : PV} {u : Value} (e : xs[i]? = some x) (hu : vs[i]? = some u) : RV h ρ u x := by
  obtain ⟨v, a, z⟩ := r.get e
  rw [Array.getElem?_toList, hu] at a
  cases a; exact z
theorem makes_lst {target : Expr} {xs : List PV} {st : List AO} : Makes c b target (.lst xs) st (xs, fun _ => true) := by
  constructor
  intro A hA ρ s v R r
  obtain ⟨a, vs, na, q, rr, rfl⟩ := r.inv
  replace q := isL q
  have hne : a ≠ s.heap.objs.size := by obtain ⟨o, e, _⟩ := q; exact Nat.ne_of_lt (Heap.lt_size e)
  have hl : xs.length = vs.toArray.size := by rw [List.size_toArray]; exact rr.length.symm
  refine wpAny_pyIter_list q ?_
  refine ⟨[s.heap.objs.size], _, Jm (items := xs) (wr' := [s.heap.objs.size]) (Walks.list hA.handled s.heap.objs.size a hne vs.toArray) hl (fun _ m => m) (fun k h p x m => ?_) (fun k s' u Q p h => ?_), fun x o e => Heap.get?_push_of_some _ e, fun x m => by rw [List.mem_singleton.mp m]; exact get_ge (Nat.le_refl _), by simp, fun cy => ?_, fun x m => ?_, ⟨rfl, rfl, rfl⟩⟩
  · obtain ⟨⟨o, e, _⟩, _⟩ := p; rw [List.mem_singleton.mp m]; exact ⟨o, e⟩
  · obtain ⟨⟨o, e, ec, ed⟩, _⟩ := p; exact Qo e ec ed (by decide) h
  · obtain ⟨o, e, z⟩ := q
    refine ⟨⟨⟨_, Heap.get?_push_size _ rfl, rfl, rfl⟩, ⟨o, Heap.get?_push_of_some _ e, z⟩⟩, fun x m nw => ?_, fun i x e u hu => (rvs_of (by simpa using rr) e hu).carry cy⟩
    simp at m nw
    rcases m with m | m
    · exact absurd m nw
    · subst m; exact ⟨(cy.keep _ o e na).2, o, Heap.get?_push_of_some _ e⟩
  · rw [List.mem_singleton.mp m]; exact ⟨_, Heap.get?_push_size _ rfl⟩
theorem makes_tup {target : Expr} {xs : List PV} {st : List AO} : Makes c b target (.tup xs) st (xs, fun _ => true) := by
  constructor
  intro A hA ρ s v R r
  obtain ⟨a, vs, na, q, rr, rfl⟩ := r.inv
  have hne : a ≠ s.heap.objs.size := by obtain ⟨o, e, _⟩ := q; exact Nat.ne_of_lt (Heap.lt_size e)
  have hl : xs.length = vs.toArray.size := by rw [List.size_toArray]; exact rr.length.symm
  refine wpAny_pyIter_tuple q ?_
  refine ⟨[s.heap.objs.size], _, Jm (items := xs) (wr' := [s.heap.objs.size]) (Walks.tuple hA.handled s.heap.objs.size a hne vs.toArray) hl (fun _ m => m) (fun k h p x m => ?_) (fun k s' u Q p h => ?_), fun x o e => Heap.get?_push_of_some _ e, fun x m => by rw [List.mem_singleton.mp m]; exact get_ge (Nat.le_refl _), by simp, fun cy => ?_, fun x m => ?_, ⟨rfl, rfl, rfl⟩⟩
  · obtain ⟨⟨o, e, _⟩, _⟩ := p; rw [List.mem_singleton.mp m]; exact ⟨o, e⟩
  · obtain ⟨⟨o, e, ec, ed⟩, _⟩ := p; exact Qo e ec ed (by decide) h
  · obtain ⟨o, e, z⟩ := q
    refine ⟨⟨⟨_, Heap.get?_push_size _ rfl, rfl, rfl⟩, ⟨o, Heap.get?_push_of_some _ e, z⟩⟩, fun x m nw => ?_, fun i x e u hu => (rvs_of (by simpa using rr) e hu).carry cy⟩
    simp at m nw
    rcases m with m | m
    · exact absurd m nw
    · subst m; exact ⟨(cy.keep _ o e na).2, o, Heap.get?_push_of_some _ e⟩
  · rw [List.mem_singleton.mp m]; exact ⟨_, Heap.get?_push_size _ rfl⟩
noncomputable def Yo (x : Str) : List PV := x.cps.toList.map fun u => .str ⟨#[u]⟩
theorem makes_str {target : Expr} {x : Str} {st : List AO} (ha : x.cps.all (· < 128) = true) : Makes c b target (.str x) st (Yo x, fun _ => true) := by
  constructor
  intro A hA ρ s v R r
  obtain ⟨t, rfl⟩ := r.inv
  refine wpAny_pyIter_ascii ha ?_
  refine ⟨[s.heap.objs.size], _, Jm (items := Yo x) (wr' := [s.heap.objs.size]) (Walks.strAscii hA.handled s.heap.objs.size x t) (by simp [Yo]) (fun _ m => m) (fun k h p x m => ?_) (fun k s' u Q p h => ?_), fun x o e => Heap.get?_push_of_some _ e, fun x m => by rw [List.mem_singleton.mp m]; exact get_ge (Nat.le_refl _), by simp, fun cy => ?_, fun x m => ?_, ⟨rfl, rfl, rfl⟩⟩
  · obtain ⟨o, e, _⟩ := p; rw [List.mem_singleton.mp m]; exact ⟨o, e⟩
  · obtain ⟨o, e, ec, ed⟩ := p; exact Qo e ec ed (by decide) h
  · refine ⟨⟨_, Heap.get?_push_size _ rfl, rfl, rfl⟩, fun x m nw => absurd m nw, fun i y e u hu => ?_⟩
    obtain ⟨cp, t', hc, rfl⟩ := hu
    unfold Yo at e
    rw [List.getElem?_map, Array.getElem?_toList, hc] at e
    obtain rfl := Option.some.inj e; exact .str _ _
  · rw [List.mem_singleton.mp m]; exact ⟨_, Heap.get?_push_size _ rfl⟩
noncomputable def chkL (i : Nat) (xs : List PV) (st : List AO) : Bool := @decide (st[i]? = some (.list xs)) (Classical.propDecidable _)
theorem chkL_some {i : Nat} {xs : List PV} {st : List AO} (h : chkL i xs st = true) : st[i]? = some (.list xs) := @of_decide_eq_true _ (Classical.propDecidable _) h
theorem RelS.listAt {K : Frag} {ρ : Rho} {st : List AO} {h : Heap} (R : RelS K ρ st h) {i : Nat} {a : Addr} {xs : List PV} (e : headAt ρ i = some a) (q : st[i]? = some (.list xs)) : ∃ vs n, P3 (h.get? a = some { cls := .type "list", data := .seq vs n }) (RVs h ρ vs.toList xs) (ρ.ents[i]? = some [a]) := by
  obtain ⟨r, hr⟩ := Yr e
  obtain ⟨a', vs, n, e1, e2, e3⟩ := R.objs i _ _ hr q
  cases e1
  exact ⟨vs, n, e2, e3, hr⟩
theorem makes_ref {target : Expr} {i : Nat} {xs : List PV} {st : List AO} (q : st[i]? = some (.list xs)) : Makes c b target (.ref i) st (xs, chkL i xs) := by
  constructor
  intro A hA ρ s v R r
  obtain ⟨a, hd, rfl⟩ := r.inv
  obtain ⟨vs, n, e0, _, _⟩ := R.listAt hd q
  have alt : a < s.heap.objs.size := Heap.lt_size e0
  refine wpAny_pyIter_list (isList_of e0) ?_
  refine ⟨[s.heap.objs.size], fun k h ρ => h.IsListIter s.heap.objs.size a k ∧ headAt ρ i = some a, ⟨fun k h ρ h' ρ' p g kw => ⟨p.1.at fun o e => kw _ (by simp) o e, g.head _ _ p.2⟩, fun k h ρ p x m => ?_, fun ρ st k s' x hx p R hc hw => ?_, fun ρ st s' p R hc hw => ?_, fun k s' ρ Q p h => wpAny_pyIter_listiter p.1 h⟩, fun x o e => Heap.get?_push_of_some _ e, fun x m => by rw [List.mem_singleton.mp m]; exact get_ge (Nat.le_refl _), by simp, fun cy => ⟨⟨_, Heap.get?_push_size _ rfl, rfl, rfl⟩, cy.head _ _ hd⟩, fun x m => ?_, ⟨rfl, rfl, rfl⟩⟩
  · obtain ⟨⟨o, e, _⟩, _⟩ := p; rw [List.mem_singleton.mp m]; exact ⟨o, e⟩
  · obtain ⟨hit, hd'⟩ := p
    obtain ⟨vs, n, e1, rr, _⟩ := R.listAt hd' (chkL_some hc)
    obtain ⟨u, hu, ru⟩ := rr.getAt hx
    refine wpAny_pyNext_list_item hit (isList_of e1) hu fun h' hit' hs => ?_
    have kp : Kept [s.heap.objs.size] s'.heap h' := .of_same (by simp) hs
    refine ⟨u, rfl, ?_⟩
    obtain ⟨o, e, ec, ed⟩ := id hit'
    exact Qo e ec ed (by decide) ⟨ru.carry (kp.grow.carry hw), ⟨hit', hd'⟩, kp, ⟨rfl, rfl, rfl⟩⟩
  · obtain ⟨hit, hd'⟩ := p
    obtain ⟨vs, n, e1, rr, _⟩ := R.listAt hd' (chkL_some hc)
    have hl := rr.length
    rw [Array.length_toList] at hl
    refine wpAny_pyNext_list_end hA.handled hit (isList_of e1) (by rw [Array.getElem?_eq_none_iff, hl]; exact Nat.le_refl _) fun h' hx => ?_
    exact ⟨rfl, .of_extBut (by simp) hx, ⟨rfl, rfl, rfl⟩⟩
  · rw [List.mem_singleton.mp m]; exact ⟨_, Heap.get?_push_size _ rfl⟩
noncomputable def itsV (p : PV) (st : List AO) : Option Its := match p with
  | .lst xs => some (xs, fun _ => true)
  | .tup xs => some (xs, fun _ => true)
  | .str x => if x.cps.all (· < 128) = true then some (Yo x, fun _ => true) else none
  | .ref i => (match st[i]? with
    | some (.list xs) => some (xs, chkL i xs)
    | _ => none)
  | _ => none
theorem makes_v {target : Expr} {p : PV} {st : List AO} {y : Its} (e : itsV p st = some y) : Makes c b target p st y := by
  unfold itsV at e
  split at e
  · obtain rfl := Option.some.inj e; exact makes_lst
  · obtain rfl := Option.some.inj e; exact makes_tup
  · split at e <;> (first | exact (nos e).elim | obtain rfl := Option.some.inj e)
    exact makes_str ‹_›
  · split at e <;> (first | exact (nos e).elim | obtain rfl := Option.some.inj e)
    exact makes_ref ‹_›
  · exact (nos e).elim
theorem Xy {target iter : Expr} {F : FM PV} (d : Den c b f RV (eval iter f.env) F) : DenIt c b f target iter (bindE F (itsE itsV)) := denit_of d fun _ _ _ => makes_v
end
section
variable {c : Ctx0} {b : Nat} {f : FI}
structure OpIt (c : Ctx0) (b : Nat) (target : Expr) (fv : Value) (G : List PV → List AO → Option Its) : Prop where
  run : ∀ A, AOk b A → ∀ ρ s st vs ps y, G ps st = some y → RVs s.heap ρ vs ps → RelS c.K ρ st s.heap → wpAny (model c.prog c.w) A (call fv vs) (fun v s₁ => wpAny (model c.prog c.w) A (pyIter v) (ItEnds c A target ρ s y) noE s₁) noE s
noncomputable def itsEs (G : List PV → List AO → Option Its) (p : List PV) : FM Its := fun es => (G p es.st).map fun y => (y, es)
theorem Y5 {target : Expr} {x : Str} {np pos : Pos} {fv : Value} {args : List Expr} {FA : FM (List PV)} {G : List PV → List AO → Option Its} (dn : Den c b f RV (eval (.Name x np) f.env) (pureE (.raw fv))) (hk : KeepOk c.K fv)
    (da : DenArgs c b f pos args FA) (o : OpIt c b target fv G) (ha : args.all Z9 = true := by rfl) : DenIt c b f target (.Call (.Name x np) args [] pos) (bindE FA (itsEs G)) := by
  constructor
  intro A hA ρ s es y es' e R
  obtain ⟨ps, es₁, e1, e⟩ := Ze e
  unfold itsEs at e
  obtain ⟨y', hg, e⟩ := Option.map_eq_some_iff.mp e
  cases e
  refine wpAny_Call_NameR (wpAny_mono (dn.run A hA ρ s es _ es rfl R) (fun v s₁ z => ?_) fun _ _ z => z)
  obtain ⟨ρ₁, R₁, g₁, q₁, r₁⟩ := z
  (first | obtain ⟨_, rfl⟩ := r₁.inv | cases r₁)
  have hst := Yv (env := f.env) (pos := pos) ha
  refine callWith_of (P := c.K.In) ?_ (hk _) (Yj hst (wpAny_mono (da.run A hA ρ₁ s₁ es ps es' e1 R₁) (fun vs s₂ z => ?_) fun _ _ z => z))
  · rw [List.any_nil, Bool.or_false, List.any_eq_not_all_not, Bool.not_eq_false']
    simpa using hst
  · obtain ⟨ρ₂, R₂, g₂, q₂, r₂⟩ := z
    refine ⟨R₂.s.top, wpAny_mono (o.run A hA ρ₂ s₂ es'.st vs ps y hg r₂ R₂.s) (fun v s₃ z => wpAny_mono z (fun it s₄ z => ?_) fun _ _ z => z) fun _ _ z => z⟩
    exact z.toF (es := es) R₂ (g₁.trans g₂) (q₁.trans q₂) R.like R.s
noncomputable def rangeP (x y z : Int) : List PV := (List.range (Builtin.Range.rangeSize x y z).toNat).map fun i : Nat => .int (x + (i : Int) * z)
noncomputable def Xv (ps : List PV) (_ : List AO) : Option Its := pik fun r => ∃ x y : Int, P3 (ps = [.int x, .int y] ∨ x = 0 ∧ ps = [.int y]) (Builtin.Range.small x y 1 = true) (r = (rangeP x y 1, fun _ => true))
theorem itsRange_1 {y : Int} (h : Builtin.Range.small 0 y 1 = true) (st : List AO) : Xv [.int y] st = some (rangeP 0 y 1, fun _ => true) :=
  pik_of ⟨0, y, .inr ⟨rfl, rfl⟩, h, rfl⟩ fun z q' => by
    obtain ⟨_, _, e | ⟨rfl, e⟩, _, r⟩ := q'
    · cases e
    · cases e; exact r
theorem itsRange_2 {x y : Int} (h : Builtin.Range.small x y 1 = true) (st : List AO) : Xv [.int x, .int y] st = some (rangeP x y 1, fun _ => true) :=
  pik_of ⟨x, y, .inl rfl, h, rfl⟩ fun z q' => by
    obtain ⟨_, _, e | ⟨_, e⟩, _, r⟩ := q'
    · cases e; exact r
    · cases e
theorem rangeSize_nonneg (x y z : Int) : ((Builtin.Range.rangeSize x y z).toNat : Int) = Builtin.Range.rangeSize x y z := (PyProof.Rows.rangeSize_toNat x y z).symm
theorem range_iter {A : Around} (hA : AOk b A) {target : Expr} {ρ : Rho} {s s₁ : Shared} {r : Addr} {x y z : Int} {t u v : Tok} (k : ∀ a o, s.heap.get? a = some o → s₁.heap.get? a = some o) (sm : Same s s₁) (hr : IsRange s₁.heap r x y z t u v) (hs : Builtin.Range.small x y z = true) :
    wpAny (model c.prog c.w) A (pyIter (.ref r)) (ItEnds c A target ρ s (rangeP x y z, fun _ => true)) noE s₁ := by
  refine wpAny_pyIter_range hr hs ?_
  have W : Walks c.prog c.w A s₁.heap.objs.size [s₁.heap.objs.size] [s₁.heap.objs.size] _ _ _ := Walks.range hA.handled s₁.heap.objs.size x z (Builtin.Range.rangeSize x y z).toNat
  refine ⟨[s₁.heap.objs.size], _, Jm (items := rangeP x y z) (wr' := [s₁.heap.objs.size]) W (by simp [rangeP]) (fun _ m => m) (fun k h p x m => ?_) (fun k s' u Q p h => ?_), fun x o e => Heap.get?_push_of_some _ (k x o e), fun x m => ?_, by simp, fun cy => ?_, fun x m => ?_, ⟨sm.1, sm.2.1, sm.2.2⟩⟩
  · rw [List.mem_singleton.mp m]; exact ⟨_, p⟩
  · exact Qo p rfl rfl (by decide) h
  · rw [List.mem_singleton.mp m]
    cases e : s.heap.get? s₁.heap.objs.size with
    | none => rfl
    | some o => exact absurd (Heap.lt_size (k _ _ e)) (Nat.lt_irrefl _)
  · refine ⟨?_, fun x m nw => absurd m nw, fun i w e uu hu => ?_⟩
    · rw [rangeSize_nonneg]
      show Heap.get? _ _ = _
      rw [Heap.get?_push_size _ rfl]
      simp
    · obtain ⟨t', rfl⟩ := hu
      unfold rangeP at e
      rw [List.getElem?_map] at e
      by_cases hi : i < (Builtin.Range.rangeSize x y z).toNat
      · rw [List.getElem?_range hi] at e; obtain rfl := Option.some.inj e; exact .int _ _
      · rw [List.getElem?_eq_none (by simpa using hi)] at e; exact (nos e).elim
  · rw [List.mem_singleton.mp m]; exact ⟨_, Heap.get?_push_size _ rfl⟩
theorem X8 {target : Expr} : OpIt c b target (.type "range") Xv := by
  constructor
  intro A hA ρ s st vs ps y e r R
  obtain ⟨x, y', e', hs, rfl⟩ := Zo e
  have it : ∀ {s₁ : Shared} {r : Addr} {t u v : Tok}, (∀ a o, s.heap.get? a = some o → s₁.heap.get? a = some o) → Same s s₁ → IsRange s₁.heap r x y' 1 t u v → wpAny (model c.prog c.w) A (pyIter (.ref r)) (ItEnds c A target ρ s (rangeP x y' 1, fun _ => true)) noE s₁ := fun k sm hr => range_iter hA k sm hr hs
  rcases e' with rfl | ⟨rfl, rfl⟩
  · obtain ⟨_, _, rfl, ra, r1⟩ := r.inv; obtain ⟨_, _, rfl, rb, r2⟩ := r1.inv; obtain rfl := r2.inv; obtain ⟨t, rfl⟩ := ra.inv; obtain ⟨u, rfl⟩ := rb.inv
    exact call_range_2 (it (fun _ _ e => Heap.get?_push_of_some _ e) ⟨rfl, rfl, rfl⟩ (IsRange.new ..))
  · obtain ⟨_, _, rfl, ra, rr⟩ := r.inv; obtain rfl := rr.inv; obtain ⟨t, rfl⟩ := ra.inv
    exact call_range_1 (it (fun _ _ e => Heap.get?_push_of_some _ e) ⟨rfl, rfl, rfl⟩ (IsRange.new ..))
theorem el2 {P : Nat → Prop} {x a b : Nat} (m : x ∈ [a, b]) (ha : P a) (hb : P b) : P x := by
  rcases List.mem_cons.mp m with rfl | m
  · exact ha
  · rw [List.mem_singleton.mp m]; exact hb
theorem el5 {P : Nat → Prop} {x a b c d e : Nat} (m : x ∈ [a, b, c, d, e]) (ha : P a) (hb : P b) (hc : P c) (hd : P d) (he : P e) : P x := by
  rcases List.mem_cons.mp m with rfl | m
  · exact ha
  rcases List.mem_cons.mp m with rfl | m
  · exact hb
  rcases List.mem_cons.mp m with rfl | m
  · exact hc
  · exact el2 m hd he
theorem neN {a b : Nat} (h : a < b ∨ b < a) : a ≠ b := by omega
noncomputable def enumP : Nat → List PV → List PV
  | _, [] => []
  | n, x :: r => .tup [.int n, x] :: enumP (n + 1) r
theorem enumP_length : ∀ {n : Nat} {xs : List PV}, (enumP n xs).length = xs.length
  | _, [] => rfl
  | n, x :: r => congrArg Nat.succ (enumP_length (n := n + 1) (xs := r))
theorem enumP_get : ∀ {n i : Nat} {xs : List PV} {x : PV}, (enumP n xs)[i]? = some x → ∃ y, xs[i]? = some y ∧ x = .tup [.int ((n + i : Nat) : Int), y]
  | _, _, [], _, e => nomatch e
  | n, 0, y :: r, x, e => ⟨y, rfl, (Option.some.inj e).symm⟩
  | n, i + 1, y :: r, x, e => by
    obtain ⟨z, a, q⟩ := enumP_get (n := n + 1) (i := i) (xs := r) e
    exact ⟨z, a, by rw [q, Nat.add_right_comm]; rfl⟩
noncomputable def itsEnum (ps : List PV) (_ : List AO) : Option Its := pik fun r => ∃ xs, ps = [.lst xs] ∧ r = (enumP 0 xs, fun _ => true)
theorem itsEnum_of (xs : List PV) (st : List AO) : itsEnum [.lst xs] st = some (enumP 0 xs, fun _ => true) := pik_of ⟨xs, rfl, rfl⟩ fun z q' => by obtain ⟨_, e, r⟩ := q'; cases e; exact r
theorem opit_enum {elts : List Expr} {kk : Nat} {tpos : Pos} : OpIt c b (.Tuple elts kk tpos) (.type "enumerate") itsEnum := by
  constructor
  intro A hA ρ s st vs ps y e r R
  obtain ⟨xs, rfl, rfl⟩ := Zo e
  obtain ⟨_, _, rfl, ra, rr⟩ := r.inv; clear r; have r := ra; clear ra
  cases rr
  obtain ⟨a, vs, na, q, rr, rfl⟩ := r.inv
  replace q := isL q
  refine call_enumerate_list q fun h' h1 h2 h3 h4 => wpAny_pyIter_enum h1 ?_
  have alt : @LT.lt Nat instLTNat a s.heap.objs.size := by obtain ⟨o, e, _⟩ := q; exact Heap.lt_size e
  have hl : xs.length = vs.toArray.size := by rw [List.size_toArray]; exact rr.length.symm
  have W := WalksT.enumerate (prog := c.prog) (w := c.w) (A := A) hA.handled (s.heap.objs.size + 1) s.heap.objs.size a (neN (by omega)) (neN (by omega)) (neN (by omega)) vs.toArray
  refine ⟨[s.heap.objs.size + 1, s.heap.objs.size], _, src_walksT (items := enumP 0 xs) (wr' := [s.heap.objs.size + 1, s.heap.objs.size]) W (by rw [enumP_length, hl]) (fun _ m => m) (fun k h p x m => ?_), h4, fun x m => get_ge ?_, ?_, fun cy => ?_, fun x m => ?_, ⟨rfl, rfl, rfl⟩⟩
  · obtain ⟨⟨_, p1⟩, ⟨o, p2, _⟩, _⟩ := p
    exact el2 (P := fun x => ∃ o, h.get? x = some o) m ⟨_, p1⟩ ⟨_, p2⟩
  · exact el2 (P := fun x => s.heap.objs.size ≤ x) m (Nat.le_succ _) (Nat.le_refl _)
  · simp
  · refine ⟨⟨⟨_, h1⟩, h2, ?_⟩, fun x m nw => ?_, fun i x e => ?_⟩
    · obtain ⟨o, e, z⟩ := q; exact ⟨o, h4 _ _ e, z⟩
    · have : x = a := List.mem_singleton.mp ((List.mem_append.mp (show x ∈ [s.heap.objs.size + 1, s.heap.objs.size] ++ [a] from m)).resolve_left nw)
      subst this
      obtain ⟨o, e, z⟩ := q
      exact ⟨(cy.keep _ o e na).2, o, h4 _ _ e⟩
    · obtain ⟨y, ey, rfl⟩ := enumP_get e
      refine ⟨_, rfl, fun us hu h₁ k₁ => ?_⟩
      obtain ⟨t, u, eu, rfl⟩ := hu
      have ru : RV s.heap ρ u y := rvs_of (by simpa using rr) ey eu
      refine .cons ?_ (.cons ((ru.carry cy).carry ⟨fun a o e na => ⟨k₁ a o e na, na⟩, fun _ _ e => e⟩) .nil)
      rw [Nat.zero_add]; exact .int _ _
  · exact el2 (P := fun x => ∃ o, h'.get? x = some o) m ⟨_, h1⟩ (by obtain ⟨o, e, _⟩ := h2; exact ⟨o, e⟩)
noncomputable def zipP : List PV → List PV → List PV
  | x :: xs, y :: ys => .tup [x, y] :: zipP xs ys
  | _, _ => []
theorem zipP_length : ∀ {xs ys : List PV}, (zipP xs ys).length = min xs.length ys.length
  | [], ys => (Nat.zero_min _).symm
  | _ :: _, [] => rfl
  | x :: xs, y :: ys => by
    show (zipP xs ys).length + 1 = min (xs.length + 1) (ys.length + 1)
    rw [zipP_length, Nat.succ_min_succ]
theorem zipP_get : ∀ {i : Nat} {xs ys : List PV} {x : PV}, (zipP xs ys)[i]? = some x → ∃ p q, P3 (xs[i]? = some p) (ys[i]? = some q) (x = .tup [p, q])
  | _, [], _, _, e => nomatch e
  | _, _ :: _, [], _, e => nomatch e
  | 0, x :: xs, y :: ys, _, e => ⟨x, y, rfl, rfl, (Option.some.inj e).symm⟩
  | i + 1, x :: xs, y :: ys, _, e => zipP_get (i := i) (xs := xs) (ys := ys) e
noncomputable def itsZip (ps : List PV) (_ : List AO) : Option Its := pik fun r => ∃ xs ys, ps = [.lst xs, .lst ys] ∧ r = (zipP xs ys, fun _ => true)
theorem itsZip_of (xs ys : List PV) (st : List AO) : itsZip [.lst xs, .lst ys] st = some (zipP xs ys, fun _ => true) := pik_of ⟨xs, ys, rfl, rfl⟩ fun z q' => by obtain ⟨_, _, e, r⟩ := q'; cases e; exact r
theorem opit_zip {elts : List Expr} {kk : Nat} {tpos : Pos} : OpIt c b (.Tuple elts kk tpos) (.type "zip") itsZip := by
  constructor
  intro A hA ρ s st vs ps y e r R
  obtain ⟨xs, ys, rfl, rfl⟩ := Zo e
  obtain ⟨_, _, rfl, ra, rr⟩ := r.inv; clear r; have r := ra; clear ra
  cases rr with | cons r' rr => ?_
  cases rr
  obtain ⟨a, vs, na, q, rr, rfl⟩ := r.inv
  obtain ⟨a', vs', na', q', rr', rfl⟩ := r'.inv
  replace q := isL q
  replace q' := isL q'
  refine call_zip_2 q q' fun h' h1 h2 h3 h4 h5 h6 h7 => ?_
  have alt : @LT.lt Nat instLTNat a s.heap.objs.size := by obtain ⟨o, e, _⟩ := q; exact Heap.lt_size e
  have alt' : @LT.lt Nat instLTNat a' s.heap.objs.size := by obtain ⟨o, e, _⟩ := q'; exact Heap.lt_size e
  have W := WalksT.zip2 (prog := c.prog) (w := c.w) (A := A) hA.handled (s.heap.objs.size + 4) (s.heap.objs.size + 2) (s.heap.objs.size + 3) s.heap.objs.size (s.heap.objs.size + 1) a a'
    (by constructor <;> exact neN (by omega)) vs.toArray vs'.toArray
  have z0 : _ ∧ _ := ⟨h1, h2⟩
  have q1 : h'.IsList a vs.toArray := by obtain ⟨o, e, z⟩ := q; exact ⟨o, h7 _ _ e, z⟩
  have q1' : h'.IsList a' vs'.toArray := by obtain ⟨o, e, z⟩ := q'; exact ⟨o, h7 _ _ e, z⟩
  refine W.self 0 { s with heap := h' } _ _ ⟨h1, h2, ⟨_, _, h3⟩, h4, h5, q1, q1'⟩ ?_
  refine ⟨[s.heap.objs.size + 4, s.heap.objs.size + 2, s.heap.objs.size + 3, s.heap.objs.size, s.heap.objs.size + 1], _, src_walksT (items := zipP xs ys) (wr' := [s.heap.objs.size + 4, s.heap.objs.size + 2, s.heap.objs.size + 3, s.heap.objs.size, s.heap.objs.size + 1]) W
    (by rw [zipP_length, List.size_toArray, List.size_toArray, rr.length, rr'.length]) (fun x m => (List.mem_cons.mp m).elim (fun e => e ▸ .head _) fun m => .tail _ (.tail _ m)) (fun k h p x m => ?_), h7, fun x m => get_ge ?_, ?_, fun cy => ?_, fun x m => ?_, ⟨rfl, rfl, rfl⟩⟩
  · obtain ⟨p1, p2, ⟨_, _, p3⟩, ⟨_, p4, _⟩, ⟨_, p5, _⟩, _⟩ := p
    exact el5 (P := fun x => ∃ o, h.get? x = some o) m ⟨_, p1⟩ ⟨_, p2⟩ ⟨_, p3⟩ ⟨_, p4⟩ ⟨_, p5⟩
  · exact el5 (P := fun x => s.heap.objs.size ≤ x) m (Nat.le_add_right ..) (Nat.le_add_right ..) (Nat.le_add_right ..) (Nat.le_refl _) (Nat.le_add_right ..)
  · simp
  · refine ⟨⟨h1, h2, ⟨_, _, h3⟩, h4, h5, q1, q1'⟩, fun x m nw => ?_, fun i x e => ?_⟩
    · rcases List.mem_cons.mp ((List.mem_append.mp (show x ∈ [s.heap.objs.size + 4, s.heap.objs.size + 2, s.heap.objs.size + 3, s.heap.objs.size, s.heap.objs.size + 1] ++ [a, a'] from m)).resolve_left nw) with rfl | m
      · obtain ⟨o, e, z⟩ := q; exact ⟨(cy.keep _ o e na).2, o, h7 _ _ e⟩
      · rw [List.mem_singleton.mp m]
        obtain ⟨o, e, z⟩ := q'; exact ⟨(cy.keep _ o e na').2, o, h7 _ _ e⟩
    · obtain ⟨p, p', ep, ep', rfl⟩ := zipP_get e
      refine ⟨_, rfl, fun us hu h₁ k₁ => ?_⟩
      obtain ⟨u, u', eu, eu', rfl⟩ := hu
      have c2 : Carry h' (ρ.enter _) h₁ (ρ.enter _) := ⟨fun a o e na => ⟨k₁ a o e na, na⟩, fun _ _ e => e⟩
      exact .cons (((rvs_of (by simpa using rr) ep eu).carry cy).carry c2) (.cons (((rvs_of (by simpa using rr') ep' eu').carry cy).carry c2) .nil)
  · exact el5 (P := fun x => ∃ o, h'.get? x = some o) m ⟨_, h1⟩ ⟨_, h2⟩ ⟨_, h3⟩ (by obtain ⟨o, e, _⟩ := h4; exact ⟨o, e⟩) (by obtain ⟨o, e, _⟩ := h5; exact ⟨o, e⟩)
noncomputable abbrev DenAs (c : Ctx0) (b : Nat) (f : FI) (elts : List Expr) (F : List PV → FM Unit) : Prop := DenK c b f RVs RU (fun vs => assignInOrder ((assignEach elts f.env).map (·.2)) vs) F
noncomputable def asNil (ps : List PV) : FM Unit := match ps with | [] => pureE () | _ => failE
noncomputable def asCons (S : PV → FM Unit) (T : List PV → FM Unit) (ps : List PV) : FM Unit := match ps with
  | p :: r => bindE (S p) fun _ => T r
  | [] => failE
theorem J3 {x : Expr} {rest : List Expr} {env : Env} (h : Z9 x = true) : assignEach (x :: rest) env = (false, assign x env) :: assignEach rest env := by
  cases x <;> first | rfl | cases h
theorem Xd : DenAs c b f [] asNil := by
  constructor
  intro A hA ρ s es vs ps y es' e r R
  unfold asNil at e
  split at e <;> (first | obtain ⟨rfl, rfl⟩ := spr e | exact (nos e).elim)
  cases r
  exact wpAny_pure (Ends.here R trivial)
theorem Zz {x : Expr} {rest : List Expr} {S : PV → FM Unit} {T : List PV → FM Unit} (ds : DenA c b f x S) (dt : DenAs c b f rest T) (hx : Z9 x = true := by rfl) : DenAs c b f (x :: rest) (asCons S T) := by
  constructor
  intro A hA ρ s es vs ps y es' e r R
  unfold asCons at e
  split at e
  · obtain ⟨_, es₁, e1, e2⟩ := Ze e
    obtain ⟨_, _, rfl, rv, rr⟩ := r.inv
    rw [J3 hx]
    show wpAny _ _ (holding _ (assign x f.env _) >>= fun _ => assignInOrder ((assignEach rest f.env).map (·.2)) _) _ _ _
    refine wpAny_bind (wpAny_holding (wpAny_mono (ds.run A hA ρ s es _ _ _ es₁ e1 rv R) (fun _ s₁ z => ?_) fun _ _ z => z))
    obtain ⟨ρ₁, R₁, g₁, q₁, _⟩ := z
    exact wpAny_mono (dt.run A hA ρ₁ s₁ es₁ _ _ _ es' e2 (rr.grow g₁ R.like) R₁) (fun _ _ z => z.after g₁ q₁) fun _ _ z => z
  · exact (nos e).elim
theorem Ji {env : Env} : ∀ {elts : List Expr}, elts.all Z9 = true → (assignEach elts env).length = elts.length ∧ (assignEach elts env).findIdx? (·.1) = none
  | [], _ => ⟨rfl, rfl⟩
  | x :: r, h => by
    rw [List.all_cons, Bool.and_eq_true] at h
    rw [J3 h.1]
    obtain ⟨a, b⟩ := Ji (env := env) h.2
    exact ⟨by simp [a], by rw [List.findIdx?_cons, b]; rfl⟩
noncomputable def Xr (n : Nat) (T : List PV → FM Unit) (p : PV) : FM Unit := match p with
  | .tup xs => if xs.length = n then T xs else failE
  | _ => failE
theorem Y6 {elts : List Expr} {k : Nat} {pos : Pos} {T : List PV → FM Unit} (dt : DenAs c b f elts T) (he : elts.all Z9 = true := by rfl) : DenA c b f (.Tuple elts k pos) (Xr elts.length T) := by
  constructor
  intro A hA ρ s es v p y es' e r R
  unfold Xr at e
  split at e
  · split at e
    · rename_i xs hl
      obtain ⟨a, vs, na, q, rr, rfl⟩ := r.inv
      obtain ⟨h1, h2⟩ := Ji (env := f.env) he
      refine wpAny_assign_Tuple hA.handled q (by rw [h1, List.size_toArray, rr.length, hl]) h2 fun h' hx => ?_
      have k : ∀ a o, s.heap.get? a = some o → h'.get? a = some o := fun a o e => hx a o (Nat.ne_of_lt (Heap.lt_size e)) e
      obtain ⟨S, g⟩ := R.s.ext k
      have := dt.run A hA ρ { s with heap := h' } es vs xs y es' e (rr.grow g noFr) (R.ofS S g)
      exact wpAny_mono this (fun _ _ z => Ends.after (s₁ := { s with heap := h' }) (g.wider (fun _ m => nomatch m)) ⟨rfl, rfl, rfl⟩ z) fun _ _ z => z
    · exact (nos e).elim
  · exact (nos e).elim
end
section
variable {c : Ctx0} {b : Nat} {f : FI}
structure RelD (K : Frag) (f : FI) (D : Addr) (ρ : Rho) (es : ES) (zs : List PV) (h : Heap) : Prop where
  r : RelF K f ρ es h
  dw : D ∈ ρ.rsv
  dn : D ∉ f.fr
  acc : ∃ vs, h.PlainList D vs ∧ RVs h ρ vs.toList zs
theorem RelD.step {K : Frag} {D : Addr} {ρ ρ' : Rho} {es es' : ES} {zs : List PV} {h h' : Heap} (R : RelD K f D ρ es zs h) (R' : RelF K f ρ' es' h') (g : Grow f.fr ρ h ρ' h') : RelD K f D ρ' es' zs h' := by
  obtain ⟨vs, ⟨n, e⟩, rr⟩ := R.acc
  exact ⟨R', g.rsv ▸ R.dw, R.dn, vs, ⟨n, g.keep D _ e R.dn (Yx R.r.s.nodup R.dw)⟩, rr.grow g R.r.like⟩
theorem RelD.kept {K : Frag} {D : Addr} {wr : List Addr} {ρ : Rho} {es : ES} {zs : List PV} {h h' : Heap} (R : RelD K f D ρ es zs h) (hw : ∀ a ∈ wr, a ∈ ρ.rsv) (hd : ∀ a ∈ wr, a ∉ f.fr ∧ a ≠ D) (k : Kept wr h h') (lv : ∀ a ∈ wr, ∃ o, h'.get? a = some o) : RelD K f D ρ es zs h' := by
  obtain ⟨S, g⟩ := R.r.s.wrote hw k lv
  obtain ⟨vs, ⟨n, e⟩, rr⟩ := R.acc
  exact ⟨R.r.carry S (g.carry hw) (fun a m o e => k a o e fun z => (hd a z).1 m) R.r.like, R.dw, R.dn, vs, ⟨n, k D _ e fun m => (hd D m).2 rfl⟩, rr.grow g hw⟩
structure DenD (c : Ctx0) (b : Nat) (f : FI) (T : Value → Sem Unit) (F : List PV → FM (List PV)) : Prop where
  run : ∀ A, AOk b A → ∀ D ρ s es zs zs' es', F zs es = some (zs', es') → RelD c.K f D ρ es zs s.heap →
    wpAny (model c.prog c.w) A (T (.ref D)) (fun _ s' => ∃ ρ', P3 (RelD c.K f D ρ' es' zs' s'.heap) (Grow (D :: f.fr) ρ s.heap ρ' s'.heap) (Same s s')) noE s
noncomputable def emitE (X : FM PV) (zs : List PV) : FM (List PV) := bindE X fun p => if zs.length ≤ sizeLine then pureE (zs ++ [p]) else failE
theorem dend_emit {elt : Expr} {X : FM PV} (dx : Den c b f RV (eval elt f.env) X) : DenD c b f (fun acc => do let _ ← call (.builtin "list.append") [acc, ← eval elt f.env]) (emitE X) := by
  constructor
  intro A hA D ρ s es zs zs' es' e R
  obtain ⟨p, es₁, e1, e⟩ := Ze e
  split at e <;> cases e
  rename_i hz
  refine wpAny_bind (wpAny_mono (dx.run A hA ρ s es p es' e1 R.r) (fun v s₁ z => ?_) fun _ _ z => z)
  obtain ⟨ρ₁, R₁, g₁, q₁, r₁⟩ := z
  have RD := R.step R₁ g₁
  obtain ⟨vs, il, rr⟩ := RD.acc
  have hl := rr.length
  rw [Array.length_toList] at hl
  refine wpAny_bind (wpAny_list_append_plain il (fun h' il' hs => ?_) (by rw [hl]; exact hz))
  obtain ⟨S, g⟩ := R₁.s.wrote (wr := [D]) (h' := h') (fun a m => by rw [List.mem_singleton.mp m]; exact RD.dw) (Kept.of_same (by simp) hs) (fun a m => by rw [List.mem_singleton.mp m]; obtain ⟨n, e⟩ := il'; exact ⟨_, e⟩)
  have hw : ∀ a ∈ [D], a ∈ ρ₁.rsv := fun a m => by rw [List.mem_singleton.mp m]; exact RD.dw
  refine wpAny_pure ⟨ρ₁, ⟨R₁.carry S (g.carry hw) (fun a m o e => (hs.2 a fun q => RD.dn (q ▸ m)).trans e) R₁.like, RD.dw, RD.dn, _, il', ?_⟩, ?_, q₁.trans ⟨rfl, rfl, rfl⟩⟩
  · rw [Array.toList_push]
    exact (rr.grow g hw).append (.cons (r₁.grow g hw) .nil)
  · exact (g₁.wider fun a m => List.mem_cons_of_mem _ m).trans (g.wider fun a m => by rw [List.mem_singleton.mp m]; exact List.mem_cons_self)
noncomputable abbrev DenTs (c : Ctx0) (b : Nat) (f : FI) (ifs : List Expr) (F : FM Bool) : Prop := Den c b f RB (forIn ifs true fun x r => if r = true then do let ok ← isTrue x f.env (eval x f.env); pure (ForInStep.yield ok) else pure (ForInStep.yield r)) F
theorem Xo : DenTs c b f [] (pureE true) := by
  constructor
  intro A hA ρ s es y es' e R
  obtain ⟨rfl, rfl⟩ := spr e
  exact wpAny_tests_nil (Ends.here R rfl)
theorem dents_one {x : Expr} {F : FM Bool} (d : Den c b f RB (isTrue x f.env (eval x f.env)) F) : DenTs c b f [x] F := by
  constructor
  intro A hA ρ s es y es' e R
  exact wpAny_tests_one (d.run A hA ρ s es y es' e R)
noncomputable def Z5 (chk : List AO → Bool) (S : PV → FM Unit) (T : FM Bool) (B : List PV → FM (List PV)) : List PV → List PV → FM (List PV)
  | [], zs => guardE chk (pureE zs)
  | x :: r, zs => guardE chk (bindE (S x) fun _ => bindE T fun t => if t then bindE (B zs) fun zs' => Z5 chk S T B r zs' else Z5 chk S T B r zs)
theorem comp_run {A : Around} {elt₀ : Expr} {gens : List Comprehension} {scope : Scope} {epos : Pos} {d : Nat} {target : Expr} {p : Pos} {ifs : List Expr} {it : Value} {wr : List Addr} {chk : List AO → Bool} {items : List PV} {pos : Nat → Heap → Rho → Prop} {S : PV → FM Unit} {T : FM Bool} {TT : Value → Sem Unit} {B : List PV → FM (List PV)} {D : Addr}
    (heq : ∀ acc, compTurn (.ListComp elt₀ gens scope epos) d it acc f.env = (standAt p >>= fun _ => pyNext it >>= fun r => match r with
      | none => pure (.done .next)
      | some v => letOwnedTupleGo target it v >>= fun _ => assign target f.env v >>= fun _ =>
        (forIn ifs true fun x r => if r = true then do let ok ← isTrue x f.env (eval x f.env); pure (ForInStep.yield ok) else pure (ForInStep.yield r)) >>= fun ok =>
          if ok = true then TT acc >>= fun _ => again (.compLoop (.ListComp elt₀ gens scope epos) d it acc f.env) else again (.compLoop (.ListComp elt₀ gens scope epos) d it acc f.env)))
    (src : Src c A target it wr chk items pos) (hA : AOk b A) (ds : DenA c b f target S) (dt : DenTs c b f ifs T) (db : DenD c b f TT B) {ρ₀ : Rho} {s₀ : Shared} {es₀ es' : ES} {zs₀ zs' : List PV}
    (ev : Z5 chk S T B items zs₀ es₀ = some (zs', es')) (R₀ : RelD c.K f D ρ₀ es₀ zs₀ s₀.heap) (hw : ∀ a ∈ wr, a ∈ ρ₀.rsv) (hd : ∀ a ∈ wr, a ∉ f.fr ∧ a ≠ D) (hp : pos 0 s₀.heap ρ₀) :
    codeAny (model c.prog c.w) A (.compLoop (.ListComp elt₀ gens scope epos) d it (.ref D) f.env) (fun r s' => match r with
      | .ok fl => fl = .next ∧ ∃ ρ' h', P4 (RelD c.K f D ρ' es' zs' h') (Kept wr h' s'.heap) (Grow (D :: f.fr ++ wr) ρ₀ s₀.heap ρ' h') (Same s₀ s')
      | .error _ => False) s₀ := by
  refine codeAny_loop rfl (fun n s => ∃ k ρ es zs, P8 (n = items.length - k) (k ≤ items.length) (Z5 chk S T B (items.drop k) zs es = some (zs', es')) (RelD c.K f D ρ es zs s.heap) ((∀ a ∈ wr, a ∈ ρ.rsv)) (pos k s.heap ρ) (Grow (D :: f.fr ++ wr) ρ₀ s₀.heap ρ s.heap) (Same s₀ s)) ?_ items.length ⟨0, ρ₀, es₀, zs₀, by simp, Nat.zero_le _, by simpa using ev, R₀, hw, hp, .refl, .refl⟩
  rintro n s ⟨k, ρ, es, zs, rfl, hk, e1, R, hw, hp, g, sm⟩
  show wpAny _ A ((compTurn (.ListComp elt₀ gens scope epos) d it (.ref D) f.env).onRaise (fun x => do noteFrame x f.env; theTreesLotGoes x)) _ _ s
  refine wpAny_noted ?_
  rw [heq]
  refine wpAny_bind (wpAny_standAt (wpAny_bind ?_))
  by_cases hlt : k < items.length
  · have hx : items[k]? = some items[k] := by simp [hlt]
    rw [List.drop_eq_getElem_cons hlt] at e1
    obtain ⟨hc, e1⟩ := Xa e1
    obtain ⟨_, es₁, e2, e1⟩ := Ze e1
    obtain ⟨t, es₂, e3, e1⟩ := Ze e1
    refine wpAny_mono (src.next ρ es.st k s _ hx hp R.r.s hc hw) (fun r s₁ z => ?_) fun _ _ z => z.elim
    obtain ⟨u, rfl, z⟩ := z
    refine wpAny_bind (wpAny_mono z (fun _ s₂ z => ?_) fun _ _ z => z.elim)
    obtain ⟨ru, hp₂, ad, sm₂⟩ := z
    have lv := src.live _ _ _ hp₂
    have R₂ := R.kept hw hd ad lv
    have g₂ := (R.r.s.wrote hw ad lv).2
    have ga : Grow (D :: f.fr ++ wr) ρ₀ s₀.heap ρ s₂.heap := g.trans (g₂.wider fun a m => List.mem_append_right _ m)
    refine wpAny_bind (wpAny_mono (ds.run A hA ρ s₂ es u _ _ es₁ e2 ru R₂.r) (fun _ s₃ z => ?_) fun _ _ z => z.elim)
    obtain ⟨ρ₃, R₃, g₃, q₃, _⟩ := z
    refine wpAny_bind (wpAny_mono (dt.run A hA ρ₃ s₃ es₁ t es₂ e3 R₃) (fun ok s₄ z => ?_) fun _ _ z => z.elim)
    obtain ⟨ρ₄, R₄, g₄, q₄, rfl⟩ := z
    have g34 := g₃.trans g₄
    have RD := R₂.step R₄ g34
    have sm4 : Same s₀ s₄ := sm.trans (sm₂.trans (q₃.trans q₄))
    have gt : Grow (D :: f.fr ++ wr) ρ₀ s₀.heap ρ₄ s₄.heap := ga.trans (g34.wider fun a m => List.mem_append_left _ (List.mem_cons_of_mem _ m))
    have hw4 : ∀ a ∈ wr, a ∈ ρ₄.rsv := fun a m => g34.rsv ▸ hw a m
    have kw : ∀ a ∈ wr, ∀ o, s₂.heap.get? a = some o → s₄.heap.get? a = some o := fun a m o e => g34.keep a o e (hd a m).1 (Yx R₂.r.s.nodup (hw a m))
    have hp4 : pos (k + 1) s₄.heap ρ₄ := src.stable _ _ _ _ _ hp₂ (g34.carry R₂.r.like) kw
    have again_ : ∀ s₅ ρ₅ es₅ zs₅, Z5 chk S T B (items.drop (k + 1)) zs₅ es₅ = some (zs', es') → RelD c.K f D ρ₅ es₅ zs₅ s₅.heap → (∀ a ∈ wr, a ∈ ρ₅.rsv) → pos (k + 1) s₅.heap ρ₅ → Grow (D :: f.fr ++ wr) ρ₀ s₀.heap ρ₅ s₅.heap → Same s₀ s₅ →
        ∃ m, m < items.length - k ∧ ∃ k ρ es zs, P8 (m = items.length - k) (k ≤ items.length) (Z5 chk S T B (items.drop k) zs es = some (zs', es')) (RelD c.K f D ρ es zs s₅.heap) ((∀ a ∈ wr, a ∈ ρ.rsv)) (pos k s₅.heap ρ) (Grow (D :: f.fr ++ wr) ρ₀ s₀.heap ρ s₅.heap) (Same s₀ s₅):= fun s₅ ρ₅ es₅ zs₅ e R hw hp g sm =>
      ⟨items.length - (k + 1), by omega, k + 1, ρ₅, es₅, zs₅, rfl, hlt, e, R, hw, hp, g, sm⟩
    cases ok with
    | false => exact wpAny_pure ⟨rfl, again_ _ _ _ _ e1 RD hw4 hp4 gt sm4⟩
    | true =>
      rw [if_pos rfl] at e1
      obtain ⟨zs₅, es₅, e4, e5⟩ := Ze e1
      rw [if_pos rfl]
      refine wpAny_bind (wpAny_mono (db.run A hA D ρ₄ s₄ es₂ zs zs₅ es₅ e4 RD) (fun _ s₅ z => ?_) fun _ _ z => z.elim)
      obtain ⟨ρ₅, R₅, g₅, q₅⟩ := z
      have like5 : ∀ a ∈ D :: f.fr, a ∈ ρ₄.rsv := fun a m => (List.mem_cons.mp m).elim (fun q => q ▸ RD.dw) (RD.r.like a)
      refine wpAny_pure ⟨rfl, again_ _ _ _ _ e5 R₅ (fun a m => g₅.rsv ▸ hw4 a m) (src.stable _ _ _ _ _ hp4 (g₅.carry like5) fun a m o e => g₅.keep a o e (fun q => ?_) (Yx RD.r.s.nodup (hw4 a m))) (gt.trans (g₅.wider fun a m => List.mem_append_left _ m)) (sm4.trans q₅)⟩
      rcases List.mem_cons.mp q with q | q
      · exact (hd a m).2 q
      · exact (hd a m).1 q
  · have hk' : k = items.length := by omega
    subst hk'
    rw [List.drop_length] at e1
    obtain ⟨hc, e1⟩ := Xa e1
    obtain ⟨rfl, rfl⟩ := spr e1
    refine wpAny_mono (src.done ρ _ s hp R.r.s hc hw) (fun r s₁ z => ?_) fun _ _ z => z.elim
    obtain ⟨rfl, ad, sm₁⟩ := z
    exact wpAny_pure ⟨rfl, ρ, _, R, ad, g, sm.trans sm₁⟩
end
section
variable {c : Ctx0} {b : Nat} {f : FI}
theorem J1 {A : Around} {elt : Expr} {gens : List Comprehension} {scope : Scope} {pos : Pos} {d : Nat} {target iter : Expr} {ifs : List Expr} {it acc : Value} {env : Env} {R : Result → Shared → Prop} {s : Shared} (hg : gens[d]? = some ⟨target, iter, ifs, 0⟩)
    (h0 : codeAny (model c.prog c.w) A (.compLoop (.ListComp elt gens scope pos) d it acc env) R s)
    (h : wpAny (model c.prog c.w) A (pyIter it) (fun it' s' => codeAny (model c.prog c.w) A (.compLoop (.ListComp elt gens scope pos) d it' acc env) R s') noE s) :
    codeAny (model c.prog c.w) A (.compStart (.ListComp elt gens scope pos) d it acc env) R s := by
  refine codeAny_of_tree ?_
  show wpAny _ _ ((compStart (.ListComp elt gens scope pos) d it acc env).onRaise (fun x => do noteFrame x env; standAt theWindowsPlace)) _ _ s
  refine wpAny_notedAt ?_
  unfold compStart
  rw [show (clausesOf (.ListComp elt gens scope pos))[d]? = some ⟨target, iter, ifs, 0⟩ from hg]
  show wpAny _ _ (ask >>= _) _ _ s
  refine wpAny_bind (wpAny_askSetting (wpAny_ite ?_))
  split
  · first
      | exact wpAny_bind (wpAny_pure (wpAny_pure (And.intro rfl h0)))
      | exact wpAny_pure (And.intro rfl h0)
  · first
      | exact wpAny_bind (wpAny_rule (wpAny_bind (wpAny_standAt (wpAny_bind (wpAny_mono h (fun it' s' h' => wpAny_pure (And.intro rfl h')) fun _ _ x => x.elim)))))
      | (refine wpAny_bind (wpAny_rule ?_); show wpAny _ _ (standAt iter.pos >>= _) _ _ s; exact wpAny_bind (wpAny_standAt (wpAny_bind (wpAny_mono h (fun it' s' h' => wpAny_pure (And.intro rfl h')) fun _ _ x => x.elim))))
theorem carry_enter {fr wr : List Addr} {ρ ρ' : Rho} {h h' : Heap} (g : Grow fr ρ h ρ' h') (L : ∀ a ∈ fr, a ∈ ρ.rsv) (fresh : ∀ a ∈ wr, h.get? a = none) : Carry h ρ h' (ρ'.enter wr) := by
  refine ⟨fun a o e na => ?_, fun i a e => (g.carry L).head i a e⟩
  obtain ⟨x, y⟩ := (g.carry L).keep a o e na
  refine ⟨x, fun m => ?_⟩
  rcases List.mem_append.mp m with m | m
  · exact y (Yu m)
  · rcases List.mem_append.mp m with m | m
    · rw [fresh a m] at e; exact (nos e).elim
    · exact y (Yb m)
theorem RelD.left {K : Frag} {D : Addr} {wr r : List Addr} {ρ : Rho} {es : ES} {zs : List PV} {h h' : Heap} (R : RelD K f D ρ es zs h) (kp : Kept wr h h') (hr : ρ.rsv = wr ++ r) (hd : ∀ a ∈ wr, a ∉ f.fr ∧ a ≠ D) (like : ∀ a ∈ f.fr, a ∈ r) (dr : D ∈ r) :
    RelD K f D ⟨ρ.ents, r⟩ es zs h' := by
  obtain ⟨e', r'⟩ := ρ
  replace hr : r' = wr ++ r := hr
  subst hr
  obtain ⟨S, cy⟩ := RelS.leave (ρ := ⟨e', r⟩) (wr := wr) (h' := h') R.r.s kp
  obtain ⟨vs, ⟨n, e⟩, rr⟩ := R.acc
  exact ⟨R.r.carry S cy (fun a m o e => kp a o e fun z => (hd a z).1 m) like, dr, R.dn, vs, ⟨n, kp D _ e fun z => (hd D z).2 rfl⟩, rr.carry cy⟩
noncomputable def innerE (I : FM Its) (S : PV → FM Unit) (T : FM Bool) (B : List PV → FM (List PV)) (zs : List PV) : FM (List PV) := bindE I fun y => Z5 y.2 S T B y.1 zs
theorem dend_inner {elt₀ : Expr} {gens : List Comprehension} {scope : Scope} {epos : Pos} {d : Nat} {target iter : Expr} {p : Pos} {ifs : List Expr} {I : FM Its} {S : PV → FM Unit} {T : FM Bool} {TT : Value → Sem Unit} {B : List PV → FM (List PV)}
    (hg : gens[d]? = some ⟨target, iter, ifs, 0⟩)
    (heq : ∀ it acc, compTurn (.ListComp elt₀ gens scope epos) d it acc f.env = (standAt p >>= fun _ => pyNext it >>= fun r => match r with
      | none => pure (.done .next)
      | some v => letOwnedTupleGo target it v >>= fun _ => assign target f.env v >>= fun _ =>
        (forIn ifs true fun x r => if r = true then do let ok ← isTrue x f.env (eval x f.env); pure (ForInStep.yield ok) else pure (ForInStep.yield r)) >>= fun ok =>
          if ok = true then TT acc >>= fun _ => again (.compLoop (.ListComp elt₀ gens scope epos) d it acc f.env) else again (.compLoop (.ListComp elt₀ gens scope epos) d it acc f.env)))
    (di : DenIt c b f target iter I) (ds : DenA c b f target S) (dt : DenTs c b f ifs T) (db : DenD c b f TT B) (hs : ∀ x, foldedSetIterable iter f.env x = pure x := by intro _; rfl) :
    DenD c b f (fun acc => do
      let x ← eval iter f.env
      standAt iter.pos
      let x ← foldedSetIterable iter f.env x
      let _ ← runOwn (.compStart (.ListComp elt₀ gens scope epos) d (← holding [x] (pyIter x)) acc f.env) f.env) (innerE I S T B) := by
  constructor
  intro A hA D ρ s es zs zs' es' e R
  obtain ⟨y, es₁, e1, e2⟩ := Ze e
  refine wpAny_bind (wpAny_mono (di.run A hA ρ s es y es₁ e1 R.r) (fun x s₁ z => ?_) fun _ _ z => z)
  refine wpAny_bind (wpAny_standAt (wpAny_bind (wpAny_of_eq (hs x) (wpAny_bind (wpAny_holding (wpAny_mono z (fun it s₂ z => ?_) fun _ _ z => z))))))
  obtain ⟨ρ', wr, pos, R', g, sm, src, hp, fresh⟩ := z
  have like' : ∀ a ∈ f.fr, a ∈ ρ'.rsv := fun a m => g.rsv ▸ R.r.like a m
  have RL := R'.enters (h := s.heap) (h₀ := s.heap) (ρ := ρ) like'
  have cy := carry_enter (wr := wr) g R.r.like fresh
  obtain ⟨vs, ⟨o, eo⟩, rr⟩ := R.acc
  have hd : ∀ a ∈ wr, a ∉ f.fr ∧ a ≠ D := fun a m => ⟨RL.hd a m, fun q => by rw [← q, fresh a m] at eo; cases eo⟩
  have hD := g.keep D _ eo R.dn (Yx R.r.s.nodup R.dw)
  have RD : RelD c.K f D (ρ'.enter wr) es₁ zs s₂.heap := ⟨R', List.mem_append_right _ (g.rsv ▸ R.dw), R.dn, vs, ⟨o, hD⟩, rr.carry cy⟩
  have loop : codeAny (model c.prog c.w) A (.compLoop (.ListComp elt₀ gens scope epos) d it (.ref D) f.env) (fun r s' => match r with
      | .ok fl => ∃ ρ', P3 (RelD c.K f D ρ' es' zs' s'.heap) (Grow (D :: f.fr) ρ s.heap ρ' s'.heap) (Same s s')
      | .error _ => False) s₂ := by
    refine codeAny_mono (comp_run (heq it) src hA ds dt db e2 RD RL.hw hd hp) fun r s₃ z => ?_
    cases r with
    | error e => exact z.elim
    | ok fl =>
      obtain ⟨rfl, ρ₃, h₃, R₃, kp, g₃, q₃⟩ := z
      have hr : ρ₃.rsv = wr ++ ρ.rsv := by rw [g₃.rsv]; show wr ++ ρ'.rsv = _; rw [g.rsv]
      refine ⟨_, R₃.left kp hr hd R.r.like R.dw, Grow.through (ρ₂ := ρ'.enter wr) (g.wider fun a m => List.mem_cons_of_mem _ m) (fun _ _ e => e) rfl g₃ (fun a m => ?_) kp fresh, sm.trans q₃⟩
      rcases List.mem_append.mp m with m | m
      · exact .inl m
      · exact .inr (fresh a m)
  refine wpAny_bind (wpAny_runOwn (codeAny_mono (J1 hg loop (src.self 0 s₂ _ _ hp loop)) fun r s₃ z => ?_))
  cases r with
  | error e => exact z.elim
  | ok fl => exact wpAny_pure z
noncomputable def FI.comp (f : FI) (scope : Scope) (cl : List (Str × Addr)) (ln : List Str) (C : Addr) : FI := ⟨compEnvC scope cl C f.env, ln, f.cn⟩
noncomputable def compE (n : Nat) (I : FM Its) (S : PV → FM Unit) (T : FM Bool) (B : List PV → FM (List PV)) : FM (List PV) := fun es => match I es with
  | none => none
  | some (y, es₁) => (match Z5 y.2 S T B y.1 [] ⟨List.replicate n none, es₁.cel, es₁.st⟩ with
    | none => none
    | some (zs, es₂) => some (zs, ⟨es₁.loc, es₂.cel, es₂.st⟩))
theorem comp_core {A : Around} {elt₀ : Expr} {gens : List Comprehension} {scope : Scope} {epos : Pos} {target iter : Expr} {p : Pos} {ifs : List Expr} {cl : List (Str × Addr)} {ln : List Str} {I : FM Its} {S : PV → FM Unit} {T : FM Bool} {TT : Addr → Value → Sem Unit}
    {B : List PV → FM (List PV)} (hg : gens[0]? = some ⟨target, iter, ifs, 0⟩)
    (heq : ∀ C it acc, compTurn (.ListComp elt₀ gens scope epos) 0 it acc (f.comp scope cl ln C).env = (standAt p >>= fun _ => pyNext it >>= fun r => match r with
      | none => pure (.done .next)
      | some v => letOwnedTupleGo target it v >>= fun _ => assign target (f.comp scope cl ln C).env v >>= fun _ =>
        (forIn ifs true fun x r => if r = true then do let ok ← isTrue x (f.comp scope cl ln C).env (eval x (f.comp scope cl ln C).env); pure (ForInStep.yield ok) else pure (ForInStep.yield r)) >>= fun ok =>
          if ok = true then TT C acc >>= fun _ => again (.compLoop (.ListComp elt₀ gens scope epos) 0 it acc (f.comp scope cl ln C).env) else again (.compLoop (.ListComp elt₀ gens scope epos) 0 it acc (f.comp scope cl ln C).env)))
    (hcell : ∀ x ∈ scope.names, x.2 ≠ .cell) (hkind : scope.kind = .function) (hA : AOk b A)
    (di : DenIt c b f target iter I) (ds : ∀ C, DenA c b (f.comp scope cl ln C) target S) (dt : ∀ C, DenTs c b (f.comp scope cl ln C) ifs T) (db : ∀ C, DenD c b (f.comp scope cl ln C) (TT C) B)
    {ρ : Rho} {s : Shared} {es es' : ES} {zs : List PV} (e : compE ln.length I S T B es = some (zs, es')) (R : RelF c.K f ρ es s.heap) {RR : Value → Addr → Result → Shared → Prop}
    (hRR : ∀ D C ρ' s' m, RelF c.K f (ρ'.enter [C]) es' s'.heap → Grow f.fr ρ s.heap ρ' s'.heap → Same s s' → s.heap.get? C = none → C ∉ f.fr → s'.heap.Ns C m → RV s'.heap (ρ'.enter [C]) (.ref D) (.lst zs) → RR (.ref D) C (.ok .next) s') :
    wpAny (model c.prog c.w) A (eval iter f.env) (fun x s₁ => wpAny (model c.prog c.w) A (pyIter x) (fun it s₂ => wpAny (model c.prog c.w) A (newList []) (fun acc s₃ =>
      wpAny (model c.prog c.w) A (newFunctionEnv scope f.env.globals cl [] f.env.qual none .none (some f.env)) (fun cenv s₄ =>
        codeAny (model c.prog c.w) A (.compStart (.ListComp elt₀ gens scope epos) 0 it acc { cenv with scope := relabel scope f.env }) (RR acc cenv.locals) s₄) noE s₃) noE s₂) noE s₁) noE s := by
  unfold compE at e
  split at e
  · exact (nos e).elim
  rename_i y es₁ e1
  split at e <;> (first | obtain ⟨rfl, rfl⟩ := spr e | exact (nos e).elim)
  rename_i es₂ e2
  refine wpAny_mono (di.run A hA ρ s es y es₁ e1 R) (fun x s₁ z => wpAny_mono z (fun it s₂ z => ?_) fun _ _ z => z) fun _ _ z => z
  obtain ⟨ρ₁, wr, pos, R₁, g₁, sm, src, hp, fresh⟩ := z
  refine wpAny_newObj_type (wpAny_newFunctionEnv hcell (by intro y hy; simp at hy) (fun h₁ hns hsb => ?_) hkind)
  dsimp only at hns hsb ⊢
  generalize hH : s₂.heap.push { cls := .type "list", dict := none, data := .seq ([] : List Value).toArray } = H at hns hsb ⊢
  have hC : H.objs.size = s₂.heap.objs.size + 1 := by rw [← hH, Heap.size_push]
  have kH : ∀ a o, s₂.heap.get? a = some o → H.get? a = some o := fun a o e => by rw [← hH]; exact Heap.get?_push_of_some _ e
  have k1 : ∀ a o, s₂.heap.get? a = some o → h₁.get? a = some o := fun a o e => hsb.extBut a o (Nat.ne_of_lt (Nat.lt_of_lt_of_le (Heap.lt_size e) (by rw [hC]; exact Nat.le_succ _))) (Heap.get?_push_of_some _ (kH a o e))
  have hDC : s₂.heap.objs.size ≠ H.objs.size := by rw [hC]; exact Nat.ne_of_lt (Nat.lt_succ_self _)
  have hD : h₁.get? s₂.heap.objs.size = some { cls := .type "list", dict := none, data := .seq ([] : List Value).toArray } := hsb.extBut _ _ hDC (Heap.get?_push_of_some _ (by rw [← hH]; exact Heap.get?_push_size _ rfl))
  have fC : s₂.heap.get? H.objs.size = none := get_ge (by rw [hC]; exact Nat.le_succ _)
  have fD : s₂.heap.get? s₂.heap.objs.size = none := get_ge (Nat.le_refl _)
  generalize hHo : H.objs.size = C at *
  generalize hDo : s₂.heap.objs.size = D at *
  have mem2 : ∀ a ∈ [C, D], a = C ∨ a = D := fun a m => by simpa using m
  obtain ⟨S₂, cy₂⟩ := R₁.s.enter (wr := [C, D]) (h' := h₁) k1 (fun a m => (mem2 a m).elim (fun q => q ▸ fC) (fun q => q ▸ fD)) (fun a m => (mem2 a m).elim (fun q => by obtain ⟨o, _, _, e, _⟩ := hns; exact ⟨o, q ▸ e⟩) (fun q => ⟨_, q ▸ hD⟩)) (by simp; exact fun q => hDC q.symm)
  have like₁ : ∀ a ∈ f.fr, a ∈ ρ₁.rsv := fun a m => g₁.rsv ▸ R.like a m
  have aliveF : ∀ a ∈ f.fr, ∃ o, s₂.heap.get? a = some o := fun a m => (R₁.s.apart a (Yb (List.mem_append_right _ (like₁ a m)))).2.2
  have nCf : C ∉ f.fr := fun m => by obtain ⟨o, e⟩ := aliveF C m; rw [fC] at e; exact (nos e).elim
  have nDf : D ∉ f.fr := fun m => by obtain ⟨o, e⟩ := aliveF D m; rw [fD] at e; exact (nos e).elim
  have RF : RelF c.K (f.comp scope cl ln C) ((ρ₁.enter wr).enter [C, D]) ⟨List.replicate ln.length none, es₁.cel, es₁.st⟩ h₁ := by
    refine ⟨S₂, ⟨_, hns, fun i x hx => ?_, fun x _ => rfl⟩, fun i x a e => ?_, fun a m => ?_, ?_⟩
    · have : ((List.replicate ln.length (none : Option PV))[i]?).join = none := by
        rw [List.getElem?_replicate]; split <;> rfl
      rw [this]; exact .none
    · obtain ⟨u, ⟨o, p, q⟩, r⟩ := R₁.c i x a e
      exact ⟨u, ⟨o, k1 a o p, q⟩, r.carry cy₂⟩
    · rcases List.mem_cons.mp m with rfl | m
      · exact List.mem_append_left _ List.mem_cons_self
      · exact List.mem_append_right _ (List.mem_append_right _ (like₁ a (List.mem_cons_of_mem _ m)))
    · exact List.nodup_cons.mpr ⟨fun m => nCf (List.mem_cons_of_mem _ m), (List.nodup_cons.mp R.nd).2⟩
  have RD : RelD c.K (f.comp scope cl ln C) D ((ρ₁.enter wr).enter [C, D]) ⟨List.replicate ln.length none, es₁.cel, es₁.st⟩ [] h₁ :=
    ⟨RF, List.mem_append_left _ (List.mem_cons_of_mem _ List.mem_cons_self), fun m => (List.mem_cons.mp m).elim hDC fun m => nDf (List.mem_cons_of_mem _ m), #[], ⟨_, hD⟩, .nil⟩
  have aw : ∀ a ∈ wr, ∃ o, s₂.heap.get? a = some o := fun a m => (R₁.s.apart a (Yb (List.mem_append_left _ m))).2.2
  have hw : ∀ a ∈ wr, a ∈ ((ρ₁.enter wr).enter [C, D]).rsv := fun a m => List.mem_append_right _ (List.mem_append_left _ m)
  have RL := R₁.enters (h := s.heap) (h₀ := s.heap) (ρ := ρ) like₁
  have hd : ∀ a ∈ wr, a ∉ (f.comp scope cl ln C).fr ∧ a ≠ D := fun a m => by
    obtain ⟨o, e⟩ := aw a m
    refine ⟨fun q => ?_, fun q => by rw [q, fD] at e; cases e⟩
    rcases List.mem_cons.mp q with q | q
    · replace q : a = C := q
      rw [q, fC] at e; exact (nos e).elim
    · exact RL.hd a m (List.mem_cons_of_mem _ q)
  have hp₂ : pos 0 h₁ ((ρ₁.enter wr).enter [C, D]) := src.stable _ _ _ _ _ hp cy₂ fun a _ o e => k1 a o e
  have sfC : s.heap.get? C = none := by
    cases q : s.heap.get? C with
    | none => rfl
    | some o =>
      have : C ∉ ρ.flatten := fun m => by
        have m' : C ∈ ρ₁.flatten := by
          obtain ⟨t, p⟩ := g₁.pre
          unfold Rho.flatten; rw [← p, List.flatten_append]; exact List.mem_append_left _ m
        obtain ⟨_, _, o', e'⟩ := R₁.s.apart C (Yu m')
        rw [fC] at e'; exact (nos e').elim
      rw [g₁.keep C o q nCf this] at fC; cases fC
  have sfD : s.heap.get? D = none := by
    cases q : s.heap.get? D with
    | none => rfl
    | some o =>
      have : D ∉ ρ.flatten := fun m => by
        have m' : D ∈ ρ₁.flatten := by
          obtain ⟨t, p⟩ := g₁.pre
          unfold Rho.flatten; rw [← p, List.flatten_append]; exact List.mem_append_left _ m
        obtain ⟨_, _, o', e'⟩ := R₁.s.apart D (Yu m')
        rw [fD] at e'; exact (nos e').elim
      rw [g₁.keep D o q nDf this] at fD; cases fD
  have loop : codeAny (model c.prog c.w) A (.compLoop (.ListComp elt₀ gens scope epos) 0 it (.ref D) (f.comp scope cl ln C).env) (RR (.ref D) C) { s₂ with heap := h₁, toks := s₂.toks + ([] : List (Str × Value)).length } := by
    refine codeAny_mono (comp_run (f := f.comp scope cl ln C) (heq C it) src hA (ds C) (dt C) (db C) e2 RD hw hd hp₂) fun r s₃ z => ?_
    cases r with
    | error e => exact z.elim
    | ok fl =>
      obtain ⟨rfl, ρ₃, h₃, R₃, kp, g₃, q₃⟩ := z
      have hr : ρ₃.rsv = [C, D] ++ (wr ++ ρ.rsv) := by rw [g₃.rsv]; show [C, D] ++ (wr ++ ρ₁.rsv) = _; rw [g₁.rsv]
      have n3 := (List.nodup_append.mp R₃.r.s.nodup).2.1
      rw [hr] at n3
      have n3' : (C :: D :: (wr ++ ρ.rsv)).Nodup := n3
      rw [List.nodup_cons, List.nodup_cons, List.nodup_append] at n3'
      obtain ⟨nC, nD, nw, nr, nwr⟩ := n3'
      have nCr : C ∉ ρ.rsv := fun m => nC (List.mem_cons_of_mem _ (List.mem_append_right _ m))
      have nDr : D ∉ ρ.rsv := fun m => nD (List.mem_append_right _ m)
      have nCw : C ∉ wr := fun m => nC (List.mem_cons_of_mem _ (List.mem_append_left _ m))
      obtain ⟨S₃, cy₃⟩ := R₃.r.s.drop (r' := C :: ρ.rsv) (wr := wr) (h' := s₃.heap) (List.nodup_cons.mpr ⟨nCr, nr⟩)
        (fun a m => by rw [hr]; rcases List.mem_cons.mp m with rfl | m; exact List.mem_append_left _ List.mem_cons_self; exact List.mem_append_right _ (List.mem_append_right _ m))
        (fun a m => ⟨by rw [hr]; exact List.mem_append_right _ (List.mem_append_left _ m), fun q => by
          rcases List.mem_cons.mp q with rfl | q
          · exact nCw m
          · exact nwr a m a q rfl⟩) kp
      have gT : Grow f.fr ρ s.heap ⟨ρ₃.ents, ρ.rsv⟩ s₃.heap := Grow.through (ρ₂ := (ρ₁.enter wr).enter [C, D]) g₁ k1 rfl g₃ (fun a m => by
        rcases List.mem_append.mp m with m | m
        · rcases List.mem_cons.mp m with rfl | m
          · exact .inr sfD
          · rcases List.mem_cons.mp m with rfl | m
            · exact .inr sfC
            · exact .inl (List.mem_cons_of_mem _ m)
        · exact .inr (fresh a m)) kp fresh
      have kf : ∀ a ∈ f.fr, a ∉ (f.comp scope cl ln C).fr → ∀ o, h₁.get? a = some o → s₃.heap.get? a = some o := fun a m nm o e => by
        have nw : a ∉ wr := fun q => RL.hd a q m
        refine kp a o (g₃.keep a o e (fun q => ?_) (Yx S₂.nodup (List.mem_append_right _ (List.mem_append_right _ (like₁ a m))))) nw
        rcases List.mem_append.mp q with q | q
        · rcases List.mem_cons.mp q with rfl | q
          · exact nDf m
          · exact nm q
        · exact nw q
      have cyA : Carry h₁ ((ρ₁.enter wr).enter [C, D]) s₃.heap ⟨ρ₃.ents, C :: ρ.rsv⟩ := by
        have c1 := g₃.carry (fun a m => by
          rcases List.mem_append.mp m with m | m
          · rcases List.mem_cons.mp m with rfl | m
            · exact RD.dw
            · exact RF.like a m
          · exact hw a m)
        exact ⟨fun a o e na => by obtain ⟨x, y⟩ := c1.keep a o e na; exact cy₃.keep a o x y, fun i a e => cy₃.head i a (c1.head i a e)⟩
      have RFin : RelF c.K f ((⟨ρ₃.ents, ρ.rsv⟩ : Rho).enter [C]) ⟨es₁.loc, es₂.cel, es₂.st⟩ s₃.heap := by
        refine ⟨S₃, ?_, fun i x a e => ?_, fun a m => List.mem_cons_of_mem _ (R.like a m), R.nd⟩
        · refine (R₁.l.carry cy₂ fun o e => k1 _ o e).carry cyA fun o e => kf _ List.mem_cons_self (fun q => ?_) o e
          rcases List.mem_cons.mp q with q | q
          · replace q : f.env.locals = C := q
            exact nCf (by rw [← q]; exact List.mem_cons_self)
          · exact (List.nodup_cons.mp R.nd).1 q
        · obtain ⟨u, ⟨o, p, q⟩, r⟩ := R₃.r.c i x a e
          exact ⟨u, ⟨o, kp a o p fun m => RL.hd a m (mem_cells e), q⟩, r.carry cy₃⟩
      obtain ⟨m, hm, _, _⟩ := R₃.r.l
      obtain ⟨vs, ⟨n, eo⟩, rr⟩ := R₃.acc
      have nDw : D ∉ wr := fun m => (hd D m).2 rfl
      refine hRR D C ⟨ρ₃.ents, ρ.rsv⟩ s₃ m RFin gT (sm.trans q₃) sfC nCf (hm.at' fun o e => kp _ o e nCw) (.lst (fun q => ?_) ⟨n, by rw [Array.toArray_toList]; exact kp D _ eo nDw⟩ (rr.carry cy₃))
      rcases List.mem_append.mp q with q | q
      · exact Yx R₃.r.s.nodup R₃.dw q
      · rcases List.mem_cons.mp q with q | q
        · exact hDC q
        · exact nDr q
  refine J1 hg ?_ (src.self 0 { s₂ with heap := h₁, toks := s₂.toks + ([] : List (Str × Value)).length } _ _ hp₂ ?_)
  · exact loop
  · exact loop
end
section
variable {c : Ctx0} {b : Nat} {f : FI}
noncomputable abbrev emitT (elt : Expr) (env : Env) (acc : Value) : Sem Unit := do let _ ← call (.builtin "list.append") [acc, ← eval elt env]
theorem turn1 (elt target iter : Expr) (ifs : List Expr) (scope : Scope) (pos : Pos) (it acc : Value) (env : Env) :
    compTurn (.ListComp elt [⟨target, iter, ifs, 0⟩] scope pos) 0 it acc env = (standAt iter.pos >>= fun _ => pyNext it >>= fun r => match r with
      | none => pure (.done .next)
      | some v => letOwnedTupleGo target it v >>= fun _ => assign target env v >>= fun _ =>
        (forIn ifs true fun x r => if r = true then do let ok ← isTrue x env (eval x env); pure (ForInStep.yield ok) else pure (ForInStep.yield r)) >>= fun ok =>
          if ok = true then emitT elt env acc >>= fun _ => again (.compLoop (.ListComp elt [⟨target, iter, ifs, 0⟩] scope pos) 0 it acc env) else again (.compLoop (.ListComp elt [⟨target, iter, ifs, 0⟩] scope pos) 0 it acc env)) := by rfl
theorem turn20f (elt target iter target' iter' : Expr) (ifs ifs' : List Expr) (scope : Scope) (pos : Pos) (it acc : Value) (env : Env) :
    compTurn (.ListComp elt [⟨target, iter, ifs, 0⟩, ⟨target', iter', ifs', 0⟩] scope pos) 0 it acc env = (standAt iter.pos >>= fun _ => pyNext it >>= fun r => match r with
      | none => pure (.done .next)
      | some v => letOwnedTupleGo target it v >>= fun _ => assign target env v >>= fun _ =>
        (forIn ifs true fun x r => if r = true then do let ok ← isTrue x env (eval x env); pure (ForInStep.yield ok) else pure (ForInStep.yield r)) >>= fun ok =>
          if ok = true then (do
            let x ← eval iter' env
            standAt iter'.pos
            let x ← foldedSetIterable iter' env x
            let _ ← runOwn (.compStart (.ListComp elt [⟨target, iter, ifs, 0⟩, ⟨target', iter', ifs', 0⟩] scope pos) 1 (← holding [x] (pyIter x)) acc env) env
            again (.compLoop (.ListComp elt [⟨target, iter, ifs, 0⟩, ⟨target', iter', ifs', 0⟩] scope pos) 0 it acc env)) else again (.compLoop (.ListComp elt [⟨target, iter, ifs, 0⟩, ⟨target', iter', ifs', 0⟩] scope pos) 0 it acc env)) := by rfl
theorem turn20 (elt target iter target' iter' : Expr) (ifs ifs' : List Expr) (scope : Scope) (pos : Pos) (it acc : Value) (env : Env) :
    compTurn (.ListComp elt [⟨target, iter, ifs, 0⟩, ⟨target', iter', ifs', 0⟩] scope pos) 0 it acc env = (standAt iter.pos >>= fun _ => pyNext it >>= fun r => match r with
      | none => pure (.done .next)
      | some v => letOwnedTupleGo target it v >>= fun _ => assign target env v >>= fun _ =>
        (forIn ifs true fun x r => if r = true then do let ok ← isTrue x env (eval x env); pure (ForInStep.yield ok) else pure (ForInStep.yield r)) >>= fun ok =>
          if ok = true then (do
            let x ← eval iter' env
            standAt iter'.pos
            let x ← foldedSetIterable iter' env x
            let _ ← runOwn (.compStart (.ListComp elt [⟨target, iter, ifs, 0⟩, ⟨target', iter', ifs', 0⟩] scope pos) 1 (← holding [x] (pyIter x)) acc env) env : Sem Unit) >>= fun _ => again (.compLoop (.ListComp elt [⟨target, iter, ifs, 0⟩, ⟨target', iter', ifs', 0⟩] scope pos) 0 it acc env) else again (.compLoop (.ListComp elt [⟨target, iter, ifs, 0⟩, ⟨target', iter', ifs', 0⟩] scope pos) 0 it acc env)) := by
  rw [turn20f]
  simp only [bind_assoc, pure_bind]
theorem turn21 (elt target iter target' iter' : Expr) (ifs ifs' : List Expr) (scope : Scope) (pos : Pos) (it acc : Value) (env : Env) :
    compTurn (.ListComp elt [⟨target, iter, ifs, 0⟩, ⟨target', iter', ifs', 0⟩] scope pos) 1 it acc env = (standAt iter'.pos >>= fun _ => pyNext it >>= fun r => match r with
      | none => pure (.done .next)
      | some v => letOwnedTupleGo target' it v >>= fun _ => assign target' env v >>= fun _ =>
        (forIn ifs' true fun x r => if r = true then do let ok ← isTrue x env (eval x env); pure (ForInStep.yield ok) else pure (ForInStep.yield r)) >>= fun ok =>
          if ok = true then emitT elt env acc >>= fun _ => again (.compLoop (.ListComp elt [⟨target, iter, ifs, 0⟩, ⟨target', iter', ifs', 0⟩] scope pos) 1 it acc env) else again (.compLoop (.ListComp elt [⟨target, iter, ifs, 0⟩, ⟨target', iter', ifs', 0⟩] scope pos) 1 it acc env)) := by rfl
structure CompOk (f : FI) (scope : Scope) (cl : List (Str × Addr)) : Prop where
  clos : closureFor scope f.env = pure cl
  cell : ∀ x ∈ scope.names, x.2 ≠ .cell
  kind : scope.kind = .function
  names : ∀ x ∈ scope.names, x.2 = .local → scope.names.lookup x.1 = some .local
structure DenC (c : Ctx0) (b : Nat) (f : FI) (elt iter : Expr) (gens : List Comprehension) (scope : Scope) (epos : Pos) (cl : List (Str × Addr)) (F : FM (List PV)) : Prop where
  run : ∀ A, AOk b A → ∀ ρ s es es' zs, F es = some (zs, es') → RelF c.K f ρ es s.heap → ∀ (RR : Value → Addr → Result → Shared → Prop),
    (∀ D C ρ' s' m, RelF c.K f (ρ'.enter [C]) es' s'.heap → Grow f.fr ρ s.heap ρ' s'.heap → Same s s' → s.heap.get? C = none → C ∉ f.fr → s'.heap.Ns C m → RV s'.heap (ρ'.enter [C]) (.ref D) (.lst zs) → RR (.ref D) C (.ok .next) s') →
    wpAny (model c.prog c.w) A (eval iter f.env) (fun x s₁ => wpAny (model c.prog c.w) A (pyIter x) (fun it s₂ => wpAny (model c.prog c.w) A (newList []) (fun acc s₃ =>
      wpAny (model c.prog c.w) A (newFunctionEnv scope f.env.globals cl [] f.env.qual none .none (some f.env)) (fun cenv s₄ =>
        codeAny (model c.prog c.w) A (.compStart (.ListComp elt gens scope epos) 0 it acc { cenv with scope := relabel scope f.env }) (RR acc cenv.locals) s₄) noE s₃) noE s₂) noE s₁) noE s
theorem X9 {elt target iter : Expr} {ifs : List Expr} {scope : Scope} {epos : Pos} {cl : List (Str × Addr)} {ln : List Str} {I : FM Its} {S : PV → FM Unit} {T : FM Bool} {X : FM PV} (ok : CompOk f scope cl)
    (di : DenIt c b f target iter I) (ds : ∀ C, DenA c b (f.comp scope cl ln C) target S) (dt : ∀ C, DenTs c b (f.comp scope cl ln C) ifs T) (dx : ∀ C, Den c b (f.comp scope cl ln C) RV (eval elt (f.comp scope cl ln C).env) X) :
    DenC c b f elt iter [⟨target, iter, ifs, 0⟩] scope epos cl (compE ln.length I S T (emitE X)) :=
  ⟨fun A hA ρ s es es' zs e R RR h => comp_core (TT := fun C acc => emitT elt (f.comp scope cl ln C).env acc) rfl (fun C it acc => turn1 ..) ok.cell ok.kind hA di ds dt (fun C => dend_emit (dx C)) e R h⟩
theorem denc_two {elt target iter target' iter' : Expr} {ifs ifs' : List Expr} {scope : Scope} {epos : Pos} {cl : List (Str × Addr)} {ln : List Str} {I I' : FM Its} {S S' : PV → FM Unit} {T T' : FM Bool} {X : FM PV} (ok : CompOk f scope cl)
    (di : DenIt c b f target iter I) (ds : ∀ C, DenA c b (f.comp scope cl ln C) target S) (dt : ∀ C, DenTs c b (f.comp scope cl ln C) ifs T)
    (di' : ∀ C, DenIt c b (f.comp scope cl ln C) target' iter' I') (ds' : ∀ C, DenA c b (f.comp scope cl ln C) target' S') (dt' : ∀ C, DenTs c b (f.comp scope cl ln C) ifs' T')
    (dx : ∀ C, Den c b (f.comp scope cl ln C) RV (eval elt (f.comp scope cl ln C).env) X) (hs : ∀ env x, foldedSetIterable iter' env x = pure x := by intro _ _; rfl) :
    DenC c b f elt iter [⟨target, iter, ifs, 0⟩, ⟨target', iter', ifs', 0⟩] scope epos cl (compE ln.length I S T (innerE I' S' T' (emitE X))) :=
  ⟨fun A hA ρ s es es' zs e R RR h => comp_core rfl (fun C it acc => turn20 ..) ok.cell ok.kind hA di ds dt
    (fun C => dend_inner (TT := fun acc => emitT elt (f.comp scope cl ln C).env acc) rfl (fun it acc => turn21 ..) (di' C) (ds' C) (dt' C) (dend_emit (dx C)) (hs _)) e R h⟩
theorem left_comp {ρ ρ' : Rho} {es' : ES} {h h₂ h' : Heap} {C : Addr} (R : RelF c.K f (ρ'.enter [C]) es' h₂) (nC : C ∉ f.fr) (g : Grow f.fr ρ h ρ' h₂) (fC : h.get? C = none) (hs : Heap.SameBut C h₂ h') (L : ∀ a ∈ f.fr, a ∈ ρ.rsv) :
    RelF c.K f ρ' es' h' ∧ Grow f.fr ρ h ρ' h' ∧ Carry h₂ (ρ'.enter [C]) h' ρ' := by
  obtain ⟨S, cy⟩ := RelS.leave (ρ := ρ') (wr := [C]) (h' := h') R.s (Kept.of_same (by simp) hs)
  refine ⟨R.carry S cy (fun a m o e => (hs.2 a fun q => nC (q ▸ m)).trans e) (fun a m => g.rsv ▸ L a m), ⟨fun a o e nf nr => ?_, g.pre, g.rsv, g.new⟩, cy⟩
  exact (hs.2 a fun q => by rw [← q, e] at fC; cases fC).trans (g.keep a o e nf nr)
theorem Xz {elt iter : Expr} {g : Comprehension} {gs : List Comprehension} {scope : Scope} {epos : Pos} {cl : List (Str × Addr)} {F : FM (List PV)} (ok : CompOk f scope cl) (hit : g.iter = iter) (ha : g.is_async = 0) (d : DenC c b f elt iter (g :: gs) scope epos cl F)
    (hs : ∀ x, foldedSetIterable iter f.env x = pure x := by intro _; rfl) :
    Den c b f RV (eval (.ListComp elt (g :: gs) scope epos) f.env) (bindE F fun zs => pureE (.lst zs)) := by
  constructor
  intro A hA ρ s es y es' e R
  obtain ⟨zs, es₁, e1, e2⟩ := Ze e
  cases e2
  subst hit
  obtain ⟨target, iter, ifs, ia⟩ := g
  replace ha : ia = 0 := ha
  subst ha
  rw [eval_ListComp]
  refine wpAny_comprehension_free (use := none) rfl hs ok.clos ok.kind ok.names (d.run A hA ρ s es es' zs e1 R (fun acc C => compPost (model c.prog c.w) A noE none (Ends c.K f RV ρ s (.lst zs) es') acc C) ?_)
  intro D C ρ' s' m R' g sm fC nC hm rv
  refine ⟨m, hm, fun h' hs => ?_⟩
  obtain ⟨RF, gg, cy⟩ := left_comp R' nC g fC hs R.like
  exact ⟨ρ', RF, gg, sm, rv.carry cy⟩
theorem Xi {elt iter : Expr} {y : Str} {py spos : Pos} {g : Comprehension} {gs : List Comprehension} {scope : Scope} {epos : Pos} {cl : List (Str × Addr)} {F : FM (List PV)} {S : PV → FM Unit} (ok : CompOk f scope cl) (hit : g.iter = iter) (ha : g.is_async = 0)
    (d : DenC c b f elt iter (g :: gs) scope epos cl F) (ds : DenA c b f (.Name y py) S)
    (hsw : swapsWith (.ListComp elt (g :: gs) scope epos) (some (.Name y py)) spos.line f.env = pure true) (hs : ∀ x, foldedSetIterable iter f.env x = pure x := by intro _; rfl) :
    Den c b f RFl (exec (.Assign [.Name y py] (.ListComp elt (g :: gs) scope epos) spos) f.env) (bindE (bindE F fun zs => pureE (.lst zs)) fun p => bindE (S p) fun _ => pureE .next) := by
  constructor
  intro A hA ρ s es r es' e R
  obtain ⟨p, es₁, e1, e⟩ := Ze e
  obtain ⟨zs, es₀, e0, e1⟩ := Ze e1
  cases e1
  obtain ⟨_, es₂, e2, e3⟩ := Ze e
  cases e3
  subst hit
  obtain ⟨target, iter, ifs, ia⟩ := g
  replace ha : ia = 0 := ha
  subst ha
  rw [exec_Assign_Name_used _ _ _ _ hsw]
  refine wpAny_bind (wpAny_standAt (wpAny_bind ?_))
  show wpAny _ A (do let _ ← comprehension (.ListComp elt (⟨target, iter, ifs, 0⟩ :: gs) scope epos) scope f.env _ (newList []) false (eval iter f.env) (some (assign (.Name y py) f.env))) _ _ s
  refine wpAny_bind (wpAny_mono (wpAny_comprehension_free (use := some (assign (.Name y py) f.env)) (Q := fun _ s' => Ends c.K f RFl ρ s .next es' .next s') rfl hs ok.clos ok.kind ok.names
    (d.run A hA ρ s es es₁ zs e0 R (fun acc C => compPost (model c.prog c.w) A noE (some (assign (.Name y py) f.env)) (fun _ s' => Ends c.K f RFl ρ s .next es' .next s') acc C) ?_)) (fun _ s' hq => wpAny_pure (wpAny_pure hq)) fun _ _ e => e)
  intro D C ρ' s' m R' g sm fC nC hm rv
  show wpAny _ A (assign (.Name y py) f.env (.ref D)) _ _ _
  refine wpAny_mono (ds.run A hA (ρ'.enter [C]) s' es₁ (.ref D) (.lst zs) () es' e2 rv R') (fun _ s'' z => ?_) fun _ _ z => z
  obtain ⟨ρ₂, R₂, g₂, q₂, _⟩ := z
  have hC : C ∈ (ρ'.enter [C]).rsv := List.mem_append_left _ List.mem_cons_self
  refine ⟨m, hm.at' fun o e => g₂.keep _ o e nC (Yx R'.s.nodup hC), fun h' hs => ?_⟩
  obtain ⟨e', r'⟩ := ρ₂
  have hr : r' = [C] ++ ρ'.rsv := g₂.rsv
  subst hr
  have gg : Grow f.fr ρ s.heap ⟨e', ρ'.rsv⟩ s''.heap := by
    have := Grow.through (ρ₂ := ρ'.enter [C]) (wr := []) (h₄ := s''.heap) g (fun _ _ e => e) rfl g₂ (fun a m => .inl m) (fun _ _ e _ => e) (fun _ m => nomatch m)
    rw [← g.rsv] at this
    exact this
  obtain ⟨RF, gg', cy⟩ := left_comp (ρ' := ⟨e', ρ'.rsv⟩) R₂ nC gg fC hs R.like
  exact ⟨_, RF, gg', sm.trans q₂, .next⟩
end
section
variable {c : Ctx0} {b : Nat} {f : FI}
theorem rvs0 {h : Heap} {ρ : Rho} {vs : List Value} (r : RVs h ρ vs []) : vs = [] := by cases r; rfl
theorem rvs1 {h : Heap} {ρ : Rho} {vs : List Value} {p : PV} (r : RVs h ρ vs [p]) : ∃ v, vs = [v] ∧ RV h ρ v p := by
  cases r with | cons x y => cases rvs0 y; exact ⟨_, rfl, x⟩
theorem rvs2 {h : Heap} {ρ : Rho} {vs : List Value} {p q : PV} (r : RVs h ρ vs [p, q]) : ∃ v u, P3 (vs = [v, u]) (RV h ρ v p) (RV h ρ u q) := by
  cases r with | cons x y => obtain ⟨u, rfl, z⟩ := rvs1 y; exact ⟨_, _, rfl, x, z⟩
theorem RelS.pushObj {K : Frag} {ρ : Rho} {st : List AO} {h : Heap} (R : RelS K ρ st h) (o : Obj) : RelS K ρ st (h.push o) ∧ Grow [] ρ h ρ (h.push o) := R.ext fun _ _ e => Heap.get?_push_of_some _ e
theorem RelS.newOff {K : Frag} {ρ : Rho} {st : List AO} {h : Heap} (R : RelS K ρ st h) : h.objs.size ∉ ρ.own := fun m => by
  obtain ⟨_, _, o, e⟩ := R.apart _ m
  rw [get_ge (Nat.le_refl _)] at e; exact (nos e).elim
theorem ends_lst {ρ : Rho} {st : List AO} {s : Shared} {vs : List Value} {ps : List PV} {tk : Nat} (R : RelS c.K ρ st s.heap) (rr : RVs s.heap ρ vs ps) :
    EndsS c.K RV ρ s (.lst ps) st (.ref s.heap.objs.size) { s with heap := s.heap.push { cls := .type "list", data := .seq vs.toArray }, toks := tk } := by
  obtain ⟨S, g⟩ := R.pushObj { cls := .type "list", data := .seq vs.toArray }
  exact ⟨ρ, S, g, ⟨rfl, rfl, rfl⟩, .lst R.newOff ⟨_, Heap.get?_push_size _ rfl⟩ (rr.grow g noFr)⟩
theorem ends_tup {ρ : Rho} {st : List AO} {s : Shared} {vs : List Value} {ps : List PV} {tk : Nat} (R : RelS c.K ρ st s.heap) (rr : RVs s.heap ρ vs ps) :
    EndsS c.K RV ρ s (.tup ps) st (.ref s.heap.objs.size) { s with heap := s.heap.push { cls := .type "tuple", data := .seq vs.toArray }, toks := tk } := by
  obtain ⟨S, g⟩ := R.pushObj { cls := .type "tuple", data := .seq vs.toArray }
  exact ⟨ρ, S, g, ⟨rfl, rfl, rfl⟩, .tup R.newOff ⟨_, Heap.get?_push_size _ rfl, rfl, _, rfl⟩ (rr.grow g noFr)⟩
theorem Xl {ρ : Rho} {a : Addr} {r : List Addr} : headAt (ρ.push (a :: r)) ρ.ents.length = some a := by
  unfold headAt Rho.push
  rw [List.getElem?_append_right (Nat.le_refl _), Nat.sub_self]; rfl
theorem ends_new {ρ : Rho} {st : List AO} {s : Shared} {vs : List Value} {ps : List PV} {tk : Nat} (R : RelS c.K ρ st s.heap) (rr : RVs s.heap ρ vs ps) :
    EndsS c.K RV ρ s (.ref st.length) (st ++ [.list ps]) (.ref s.heap.objs.size) { s with heap := s.heap.push { cls := .type "list", data := .seq vs.toArray }, toks := tk } := by
  obtain ⟨S, g⟩ := R.push (as := [s.heap.objs.size]) (ao := .list ps) (h' := s.heap.push { cls := .type "list", data := .seq vs.toArray }) (fun _ _ e => Heap.get?_push_of_some _ e)
    (fun a m => by rw [List.mem_singleton.mp m]; exact get_ge (Nat.le_refl _)) (fun a m => by rw [List.mem_singleton.mp m]; exact ⟨_, Heap.get?_push_size _ rfl⟩) (by simp)
    (fun g => ⟨_, _, _, rfl, Heap.get?_push_size _ rfl, by simpa using rr.grow g noFr⟩)
  refine ⟨_, S, g, ⟨rfl, rfl, rfl⟩, .ref ?_⟩
  rw [← R.len]; exact Xl
noncomputable def lstE (ps : List PV) : FM PV := if ps.length ≤ sizeLine then pureE (.lst ps) else failE
noncomputable def tupE (ps : List PV) : FM PV := if ps.length ≤ sizeLine then pureE (.tup ps) else failE
noncomputable def newE (ps : List PV) : FM PV := fun es => if ps.length ≤ sizeLine then some (.ref es.st.length, { es with st := es.st ++ [.list ps] }) else none
theorem Xe {elts : List Expr} {pos : Pos} {FA : FM (List PV)} (d : DenArgs c b f pos elts FA) : Den c b f RV (eval (.List elts pos) f.env) (bindE FA lstE) := by
  constructor
  intro A hA ρ s es y es' e R
  obtain ⟨ps, es₁, e1, e⟩ := Ze e
  unfold lstE at e
  split at e <;> cases e
  refine wpAny_List_spliced (wpAny_mono (d.run A hA ρ s es ps es' e1 R) (fun vs s₁ z => ?_) fun _ _ z => z)
  obtain ⟨ρ₁, R₁, g₁, q₁, rr⟩ := z
  exact ⟨by rw [rr.length]; assumption, ((ends_lst (tk := s₁.toks) R₁.s rr).toF R₁).after g₁ q₁⟩
theorem Yi {elts : List Expr} {pos : Pos} {FA : FM (List PV)} (d : DenArgs c b f pos elts FA) : Den c b f RV (eval (.List elts pos) f.env) (bindE FA newE) := by
  constructor
  intro A hA ρ s es y es' e R
  obtain ⟨ps, es₁, e1, e⟩ := Ze e
  unfold newE at e
  split at e <;> (first | obtain ⟨rfl, rfl⟩ := spr e | exact (nos e).elim)
  refine wpAny_List_spliced (wpAny_mono (d.run A hA ρ s es ps es₁ e1 R) (fun vs s₁ z => ?_) fun _ _ z => z)
  obtain ⟨ρ₁, R₁, g₁, q₁, rr⟩ := z
  exact ⟨by rw [rr.length]; assumption, ((ends_new (tk := s₁.toks) R₁.s rr).toF R₁).after g₁ q₁⟩
theorem Z0 {elts : List Expr} {k : Nat} {pos : Pos} {FA : FM (List PV)} (d : DenArgs c b f pos elts FA) : Den c b f RV (eval (.Tuple elts k pos) f.env) (bindE FA tupE) := by
  constructor
  intro A hA ρ s es y es' e R
  obtain ⟨ps, es₁, e1, e⟩ := Ze e
  unfold tupE at e
  split at e <;> cases e
  refine wpAny_Tuple_spliced (wpAny_mono (d.run A hA ρ s es ps es' e1 R) (fun vs s₁ z => ?_) fun _ _ z => z)
  obtain ⟨ρ₁, R₁, g₁, q₁, rr⟩ := z
  exact ⟨by rw [rr.length]; assumption, ((ends_tup (tk := s₁.toks) R₁.s rr).toF R₁).after g₁ q₁⟩
noncomputable def isLst (p : PV) (st : List AO) : Bool := (items? st p).isSome
theorem Yy {name : Str} {id : String} (slot : Slot "list" name id) (hty : typeOf (.builtin id) = pure (.type "method_descriptor")) : MethAt c name isLst (.builtin id) := by
  constructor
  intro A pl ρ s st v p Q hP r R h
  unfold isLst at hP
  obtain ⟨xs, hx⟩ := Option.isSome_iff_exists.mp hP
  obtain ⟨a, vs, rfl, ⟨n, e⟩, _⟩ := Y0 R r hx
  exact getMethod_builtin ⟨_, e, rfl⟩ F.plainAttrs_list slot hty (fun a' q => by cases q; exact ⟨_, e, rfl⟩) h
theorem RelS.listPut {K : Frag} {ρ : Rho} {st : List AO} {h h' : Heap} (R : RelS K ρ st h) {i : Nat} {a : Addr} {xs xs' : List PV} {vs' : Array Value} (hd : headAt ρ i = some a) (q : st[i]? = some (.list xs)) (hs : Heap.SameBut a h h') (p : h'.PlainList a vs')
    (rr : RVs h ρ vs'.toList xs') : RelS K ρ (st.set i (.list xs')) h' ∧ Grow [] ρ h ρ h' := by
  obtain ⟨vs, n, e, _, hr⟩ := R.listAt hd q
  obtain ⟨n', e'⟩ := p
  exact R.put hr (fun x o ex nx => (hs.2 x fun q => nx (q ▸ List.mem_singleton.mpr rfl)).trans ex) (fun x m => by rw [List.mem_singleton.mp m]; exact ⟨_, e'⟩) fun g => ⟨a, vs', n', rfl, e', rr.grow g noFr⟩
noncomputable def Qh (ps : List PV) : SM PV := fun st => pik fun r => ∃ i p xs, P4 (ps = [.ref i, p]) (st[i]? = some (.list xs)) (xs.length ≤ sizeLine) (r = (.none, st.set i (.list (xs ++ [p]))))
theorem X4 {st : List AO} {i : Nat} {p : PV} {xs : List PV} (q : st[i]? = some (.list xs)) (h : xs.length ≤ sizeLine) : Qh [.ref i, p] st = some (.none, st.set i (.list (xs ++ [p]))) :=
  pik_of ⟨_, _, _, rfl, q, h, rfl⟩ fun z q' => by obtain ⟨_, _, _, e, q', _, e'⟩ := q'; cases e; cases q.symm.trans q'; exact e'
theorem X2 : OpL c b (fun vs => call (.builtin "list.append") vs) Qh := by
  constructor
  intro A hA ρ s st vs ps y st' e r R
  obtain ⟨i, p, xs, rfl, q, hz, e'⟩ := Zo e
  clear e; cases e'
  obtain ⟨_, _, rfl, r1, r2⟩ := rvs2 r
  obtain ⟨_, hd, rfl⟩ := r1.inv
  obtain ⟨vs, n, e0, rs, hr⟩ := R.listAt hd q
  have hl := rs.length
  rw [Array.length_toList] at hl
  refine wpAny_list_append_plain ⟨n, e0⟩ (fun h' p hs => ?_) (by rw [hl]; exact hz)
  obtain ⟨S, g⟩ := R.listPut hd q hs p (by rw [Array.toList_push]; exact rs.append (.cons r2 .nil))
  exact ⟨ρ, S, g, ⟨rfl, rfl, rfl⟩, .none⟩
noncomputable def extendG (ps : List PV) : SM PV := fun st => match ps with
  | [.ref i, p] => (match st[i]?, items? st p with
    | some (.list xs), some ys => if xs.length + ys.length ≤ sizeLine then some (.none, st.set i (.list (xs ++ ys))) else none
    | _, _ => none)
  | _ => none
theorem op_extend : OpL c b (fun vs => call (.builtin "list.extend") vs) extendG := by
  constructor
  intro A hA ρ s st vs ps y st' e r R
  unfold extendG at e
  split at e <;> try exact (nos e).elim
  split at e <;> try exact (nos e).elim
  rename_i q q'
  split at e <;> (first | obtain ⟨rfl, rfl⟩ := spr e | exact (nos e).elim)
  rename_i hz
  obtain ⟨_, _, rfl, r1, r2⟩ := rvs2 r
  obtain ⟨_, hd, rfl⟩ := r1.inv
  obtain ⟨vs, n, e0, rs, hr⟩ := R.listAt hd q
  obtain ⟨a', vs', rfl, ⟨n', e0'⟩, rs'⟩ := Y0 R r2 q'
  have hl := rs.length
  have hl' := rs'.length
  rw [Array.length_toList] at hl hl'
  refine call_meets F.slot_list_extend ⟨_, e0, rfl⟩ F.entry_list_extend (F.args_list_extend_2 _ _) (AutoSeq1.list_extend_list_list_0 _ vs n _ vs' n' (extend_door (by omega)) (by omega) (by omega)) ⟨e0, e0', ?_⟩
  show EndsS _ _ _ _ _ _ _ _
  obtain ⟨S, g⟩ := R.listPut hd q (h' := s.heap.update _ (Obj.mapSeq fun x => x ++ vs')) (Heap.SameBut.update ..) (vs' := vs ++ vs') ⟨_, by rw [Heap.get?_update_self _ e0 (by rw [mapSeq_app]; rfl), mapSeq_app]⟩ (by rw [Array.toList_append]; exact rs.append rs')
  exact ⟨ρ, S, g, ⟨rfl, rfl, rfl⟩, .none⟩
theorem RVs.erase {h : Heap} {ρ : Rho} {vs : List Value} {ps : List PV} (r : RVs h ρ vs ps) : ∀ k : Nat, RVs h ρ (vs.eraseIdx k) (ps.eraseIdx k) := by
  induction vs generalizing ps with
  | nil => intro k; cases r; simp; exact .nil
  | cons v vs ih =>
    intro k
    cases r with | cons x y => cases k with | zero => exact y | succ k => exact .cons x (ih y k)
noncomputable def popG (ps : List PV) : SM PV := fun st => pik fun r => ∃ i y xs, P4 (ps = [.ref i, .int 0]) (st[i]? = some (.list (y :: xs))) (xs.length + 1 ≤ sizeLine) (r = (y, st.set i (.list xs)))
theorem pop_of {st : List AO} {i : Nat} {y : PV} {xs : List PV} (q : st[i]? = some (.list (y :: xs))) (h : xs.length + 1 ≤ sizeLine) : popG [.ref i, .int 0] st = some (y, st.set i (.list xs)) :=
  pik_of ⟨_, _, _, rfl, q, h, rfl⟩ fun z q' => by obtain ⟨_, _, _, e, q', _, e'⟩ := q'; cases e; cases q.symm.trans q'; exact e'
theorem op_pop : OpL c b (fun vs => call (.builtin "list.pop") vs) popG := by
  constructor
  intro A hA ρ s st vs ps y st' e r R
  obtain ⟨i, y, xs, rfl, q, hz, e'⟩ := Zo e
  clear e; cases e'
  obtain ⟨_, _, rfl, r1, r2⟩ := rvs2 r
  obtain ⟨_, hd, rfl⟩ := r1.inv
  obtain ⟨t, rfl⟩ := r2.inv
  obtain ⟨vs, n, e0, rs, hr⟩ := R.listAt hd q
  have hl := rs.length
  rw [Array.length_toList] at hl
  simp at hl
  obtain ⟨v, hv, rv⟩ := rs.getAt (i := 0) rfl
  have hlt : 0 < vs.size := by omega
  refine call_meets F.slot_list_pop ⟨_, e0, rfl⟩ F.entry_list_pop (F.args_list_pop_2 _ _) (MeetsSeq.list_pop_at _ vs n 0 t 0 v (by decide) (Q7 (i := 0) (by decide) hlt) hv (by rw [hl]; exact hz)) ⟨e0, ?_⟩
  show EndsS _ _ _ _ _ _ _ _
  obtain ⟨S, g⟩ := R.listPut hd q (h' := s.heap.update _ (Obj.mapSeq fun xs => xs.eraseIdxIfInBounds 0)) (Heap.SameBut.update ..) (vs' := (vs.toList.eraseIdx 0).toArray)
    ⟨_, by rw [Heap.get?_update_self _ e0 (by rw [mapSeq_erase _ _ _ hlt]; rfl), mapSeq_erase _ _ _ hlt]⟩ (by simpa using rs.erase 0)
  exact ⟨ρ, S, g, ⟨rfl, rfl, rfl⟩, rv.grow g noFr⟩
end
section
variable {c : Ctx0} {b : Nat} {f : FI}
noncomputable def dat (st : List AO) : Nat → PV → Option PyData
  | _, .none => some .none
  | _, .bool t => some (.bool t)
  | _, .int i => some (.int i)
  | _, .str x => if PyData.strOk x = true then some (.str x) else none
  | n + 1, .tup xs => (xs.mapM (dat st n)).map .tuple
  | n + 1, .lst xs => (xs.mapM (dat st n)).map .list
  | n + 1, .ref i => (items? st (.ref i)).bind fun xs => (xs.mapM (dat st n)).map .list
  | _, _ => none
noncomputable def datS (st : List AO) (p : PV) : Option PyData := dat st 6 p
theorem Qg {n : Nat} : ∀ {ds : List PyData}, (∀ d ∈ ds, d.depth ≤ n) → PyData.depthAll ds ≤ n
  | [], _ => Nat.zero_le _
  | d :: ds, h => Nat.max_le.mpr ⟨h d (.head _), Qg fun x m => h x (.tail _ m)⟩
theorem Q2 {ds : List PyData} (h : ∀ d ∈ ds, d.canLay0 = true) : PyData.canLayAll0 ds = true := by
  induction ds with
  | nil => rfl
  | cons d ds ih => simp only [PyData.canLayAll0, h d (.head _), ih fun x m => h x (.tail _ m), Bool.and_self]
structure DatOk (h : Heap) (v : Value) (n : Nat) (d : PyData) : Prop where
  reads : ∃ as, Reads h v d as
  lay : d.canLay0 = true
  depth : d.depth ≤ n
theorem datAll {h : Heap} {ρ : Rho} {st : List AO} {n : Nat} (ih : ∀ {v p d}, RV h ρ v p → dat st n p = some d → DatOk h v n d) {vs : List Value} {xs : List PV} {ds : List PyData} (r : RVs h ρ vs xs) (e : xs.mapM (dat st n) = some ds) : (∃ as, ReadsAll h vs ds as) ∧ (∀ d ∈ ds, d.canLay0 = true) ∧ ∀ d ∈ ds, d.depth ≤ n := by
  induction xs generalizing vs ds with
  | nil => obtain rfl := r.inv; obtain rfl := Option.some.inj e; exact ⟨⟨_, .nil⟩, by simp, by simp⟩
  | cons p xs hx =>
    obtain ⟨u, us, rfl, r1, rr⟩ := r.inv
    rw [List.mapM_cons] at e
    obtain ⟨d, e1, e⟩ := Option.bind_eq_some_iff.mp e
    obtain ⟨ds', e2, e3⟩ := Option.bind_eq_some_iff.mp e
    obtain rfl := Option.some.inj e3
    obtain ⟨⟨as, ra⟩, l, dp⟩ := ih r1 e1
    obtain ⟨⟨bs, rb⟩, ls, dps⟩ := hx rr e2
    exact ⟨⟨_, .cons ra rb⟩, fun x m => (List.mem_cons.mp m).elim (fun q => q ▸ l) (ls x), fun x m => (List.mem_cons.mp m).elim (fun q => q ▸ dp) (dps x)⟩
theorem dat_plain {h : Heap} {ρ : Rho} {st : List AO} {n : Nat} {v : Value} {p : PV} {d : PyData} (r : RV h ρ v p) (hp : (match p with | .none | .bool _ | .int _ | .str _ => true | _ => false) = true) (e : dat st n p = some d) : DatOk h v n d := by
  cases r <;> first | exact Bool.noConfusion hp | skip
  all_goals (cases n <;> simp only [dat] at e)
  all_goals first | obtain rfl := Option.some.inj e | skip
  all_goals first | exact ⟨⟨_, .none⟩, rfl, Nat.zero_le _⟩ | exact ⟨⟨_, .bool _⟩, rfl, Nat.zero_le _⟩ | exact ⟨⟨_, .int _ _⟩, rfl, Nat.zero_le _⟩ | skip
  all_goals
    split at e <;> (first | exact (nos e).elim | obtain rfl := Option.some.inj e)
    rename_i hs
    exact ⟨⟨_, .str _ _⟩, by simpa [PyData.canLay0] using hs, Nat.zero_le _⟩
theorem dat_ok {K : Frag} {ρ : Rho} {st : List AO} {h : Heap} (R : RelS K ρ st h) : ∀ (n : Nat) {v : Value} {p : PV} {d : PyData}, RV h ρ v p → dat st n p = some d → DatOk h v n d := by
  intro n
  induction n with
  | zero =>
    intro v p d r e
    cases p <;> first | exact dat_plain r rfl e | (simp only [dat] at e; exact (nos e).elim)
  | succ n ih =>
    intro v p d r e
    cases p <;> first | exact dat_plain r rfl e | skip
    case ref i =>
      simp only [dat] at e
      obtain ⟨xs, q, e⟩ := Option.bind_eq_some_iff.mp e
      obtain ⟨ds, e1, rfl⟩ := Option.map_eq_some_iff.mp e
      obtain ⟨a, vs, rfl, ⟨k, e0⟩, rs⟩ := Y0 R r q
      obtain ⟨⟨as, ra⟩, l, dp⟩ := datAll ih rs e1
      exact ⟨⟨_, .list e0 rfl rfl ra⟩, by simpa [PyData.canLay0] using Q2 l, Nat.succ_le_succ (Qg dp)⟩
    case tup xs =>
      simp only [dat] at e
      obtain ⟨a, vs, na, q, rr, rfl⟩ := r.inv
      obtain ⟨ds, e1, rfl⟩ := Option.map_eq_some_iff.mp e
      obtain ⟨⟨as, ra⟩, l, dp⟩ := datAll ih rr e1
      obtain ⟨o, eo, ec, k, ed⟩ := q
      exact ⟨⟨_, .tuple eo ec ed (by simpa using ra)⟩, by simpa [PyData.canLay0] using Q2 l, Nat.succ_le_succ (Qg dp)⟩
    case lst xs =>
      simp only [dat] at e
      obtain ⟨a, vs, na, q, rr, rfl⟩ := r.inv
      obtain ⟨ds, e1, rfl⟩ := Option.map_eq_some_iff.mp e
      obtain ⟨⟨as, ra⟩, l, dp⟩ := datAll ih rr e1
      obtain ⟨k, eo⟩ := q
      exact ⟨⟨_, .list eo rfl rfl (by simpa using ra)⟩, by simpa [PyData.canLay0] using Q2 l, Nat.succ_le_succ (Qg dp)⟩
    case raw => simp only [dat] at e; exact (nos e).elim
theorem Jt {K : Frag} {ρ : Rho} {st : List AO} {h : Heap} (R : RelS K ρ st h) {v : Value} {p : PV} {d : PyData} (r : RV h ρ v p) (e : datS st p = some d) : DatOk h v 6 d := dat_ok R 6 r e
noncomputable def eqG (p q : PV) : SM PV := fun st => match datS st p, datS st q with | some x, some y => some (.bool (PyData.eqv x y), st) | _, _ => none
noncomputable def neG (p q : PV) : SM PV := fun st => match datS st p, datS st q with | some x, some y => some (.bool (!PyData.eqv x y), st) | _, _ => none
theorem Kd {A : Around} (hA : AOk b A) : A.units ≤ 9000 := by have := hA.units; omega
theorem op_eqG : Op2 c b RV (compareOp .Eq) eqG := by
  constructor
  intro A hA ρ s st x z x' z' y st' e r r' R
  unfold eqG at e; split at e <;> (first | obtain ⟨rfl, rfl⟩ := spr e | exact (nos e).elim)
  rename_i e1 e2
  obtain ⟨⟨as, ra⟩, l, dp⟩ := Jt R r e1
  obtain ⟨⟨bs, rb⟩, l', dp'⟩ := Jt R r' e2
  have hu := Kd hA
  refine SeqAt.compareEq_reads ra rb l l' ?_ (EndsS.here R (.bool _))
  show _ < 9900
  exact Nat.lt_of_le_of_lt (Nat.add_le_add hu (Nat.le_trans (Nat.min_le_left _ _) dp)) (by decide)
theorem op_neG : Op2 c b RV (compareOp .NotEq) neG := by
  constructor
  intro A hA ρ s st x z x' z' y st' e r r' R
  unfold neG at e; split at e <;> (first | obtain ⟨rfl, rfl⟩ := spr e | exact (nos e).elim)
  rename_i e1 e2
  obtain ⟨⟨as, ra⟩, l, dp⟩ := Jt R r e1
  obtain ⟨⟨bs, rb⟩, l', dp'⟩ := Jt R r' e2
  have hu := Kd hA
  refine SeqAt.compareNe_reads ra rb l l' ?_ (EndsS.here R (.bool _))
  show _ < 9900
  exact Nat.lt_of_le_of_lt (Nat.add_le_add hu (Nat.le_trans (Nat.min_le_left _ _) dp)) (by decide)
theorem canLay_list {ds : List PyData} (h : (PyData.list ds).canLay0 = true) : PyData.canLayAll0 ds = true := by simpa [PyData.canLay0] using h
theorem room_in {A : Around} (hA : AOk b A) {d : PyData} {m : Nat} (dp : d.depth ≤ 6) : A.units + 1 + min m d.depth < cLine := by
  have hu := Kd hA
  show _ < 9900
  exact Nat.lt_of_le_of_lt (Nat.add_le_add (Nat.add_le_add_right hu 1) (Nat.le_trans (Nat.min_le_right _ _) dp)) (by decide)
noncomputable def addG (p q : PV) : SM PV := fun st => match p, q with
  | .int i, .int j => some (.int (i + j), st)
  | .str x, .str y => if x.length + y.length ≤ sizeLine then some (.str (x ++ y), st) else none
  | p, q => (match items? st p, items? st q with
    | some xs, some ys => if xs.length + ys.length ≤ sizeLine then some (.lst (xs ++ ys), st) else none
    | _, _ => none)
theorem Yq : Op2 c b RV (binaryOp .Add) addG := by
  constructor
  intro A hA ρ s st x z x' z' y st' e r r' R
  unfold addG at e; split at e
  · obtain ⟨rfl, rfl⟩ := spr e; obtain ⟨_, rfl⟩ := r.inv; obtain ⟨_, rfl⟩ := r'.inv
    exact PyProof.Rows.add_int (EndsS.tok R (.int _ _))
  · split at e <;> (first | obtain ⟨rfl, rfl⟩ := spr e | exact (nos e).elim)
    rename_i hb
    obtain ⟨_, rfl⟩ := r.inv; obtain ⟨_, rfl⟩ := r'.inv
    exact PyProof.Rows.add_str (fun t' tk => EndsS.tok R (.str _ _)) hb
  · split at e <;> try exact (nos e).elim
    rename_i h1 h2
    split at e <;> (first | obtain ⟨rfl, rfl⟩ := spr e | exact (nos e).elim)
    rename_i hb
    obtain ⟨a, vs, rfl, ⟨n, q⟩, rs⟩ := Y0 R r h1
    obtain ⟨a', vs', rfl, ⟨n', q'⟩, rs'⟩ := Y0 R r' h2
    have hl := rs.length
    have hl' := rs'.length
    rw [Array.length_toList] at hl hl'
    refine P.add_list q q' ?_ (by rw [hl, hl']; exact hb)
    have := ends_lst (c := c) (s := s) (tk := s.toks) R (rs.append rs')
    rwa [show (vs.toList ++ vs'.toList).toArray = vs ++ vs' from by rw [← Array.toList_append, Array.toArray_toList]] at this
noncomputable def iaddG (p q : PV) : SM PV := fun st => match p, q with
  | .int i, .int j => some (.int (i + j), st)
  | .str x, .str y => if x.length + y.length ≤ sizeLine then some (.str (x ++ y), st) else none
  | _, _ => none
theorem op_iaddG : Op2 c b RV (inplaceOp .Add) iaddG := by
  constructor
  intro A hA ρ s st x z x' z' y st' e r r' R
  unfold iaddG at e; split at e
  · obtain ⟨rfl, rfl⟩ := spr e; obtain ⟨_, rfl⟩ := r.inv; obtain ⟨_, rfl⟩ := r'.inv
    exact PyProof.Rows.iadd_int (EndsS.tok R (.int _ _))
  · split at e <;> (first | obtain ⟨rfl, rfl⟩ := spr e | exact (nos e).elim)
    rename_i hb
    obtain ⟨_, rfl⟩ := r.inv; obtain ⟨_, rfl⟩ := r'.inv
    exact PyProof.Rows.iadd_str (fun t' tk => EndsS.tok R (.str _ _)) hb
  · exact (nos e).elim
noncomputable def lenG (ps : List PV) : SM PV := fun st => pik fun r => ∃ p xs, P4 (ps = [p]) (items? st p = some xs) (xs.length ≤ sizeLine) (r = (.int xs.length, st))
theorem Qc {st : List AO} {p : PV} {xs : List PV} (q : items? st p = some xs) (h : xs.length ≤ sizeLine) : lenG [p] st = some (.int xs.length, st) :=
  pik_of ⟨_, _, rfl, q, h, rfl⟩ fun z q' => by obtain ⟨_, _, e, q', _, e'⟩ := q'; cases e; cases q.symm.trans q'; exact e'
theorem op_len : OpL c b (fun vs => call (.builtin "len") vs) lenG := by
  constructor
  intro A hA ρ s st vs ps y st' e r R
  obtain ⟨p, xs, rfl, hx, hz, e'⟩ := Zo e
  clear e; cases e'
  obtain ⟨_, rfl, r1⟩ := rvs1 r
  obtain ⟨a, vs, rfl, q, rs⟩ := Y0 R r1 hx
  have hl := rs.length
  rw [Array.length_toList] at hl
  rw [sizeLine_eq] at hz
  refine PyProof.Rows.len_list (isL q) (by omega) ?_
  rw [hl]
  exact EndsS.tok R (.int _ _)
noncomputable def lenS (ps : List PV) : SM PV := fun st => pik fun r => ∃ x, P3 (ps = [.str x]) (x.length ≤ sizeLine) (r = (.int x.length, st))
theorem lenS_of {st : List AO} {x : Str} (h : x.length ≤ sizeLine) : lenS [.str x] st = some (.int x.length, st) :=
  pik_of ⟨_, rfl, h, rfl⟩ fun z q' => by obtain ⟨_, e, _, e'⟩ := q'; cases e; exact e'
theorem op_lenS : OpL c b (fun vs => call (.builtin "len") vs) lenS := by
  constructor
  intro A hA ρ s st vs ps y st' e r R
  obtain ⟨x, rfl, hz, e'⟩ := Zo e
  clear e; cases e'
  obtain ⟨_, rfl, r1⟩ := rvs1 r
  rw [sizeLine_eq] at hz
  obtain ⟨_, rfl⟩ := r1.inv
  exact PyProof.Rows.len_str (by omega) (EndsS.tok R (.int _ _))
noncomputable def augE (old X : FM PV) (G : PV → PV → SM PV) (S : PV → FM Unit) : FM PF := bindE (bindE old fun p => bindE X fun q => liftS (G p q)) fun r => bindE (S r) fun _ => pureE .next
theorem load_local {x : Str} {i : Nat} (ok : f.Ok) (hx : f.ln[i]? = some x) : Den c b f RV (loadName f.env x) (getL i) := by
  constructor
  intro A hA ρ s es y es' e R
  unfold getL at e
  split at e
  · rename_i v q
    obtain ⟨rfl, rfl⟩ := spr e
    obtain ⟨m, n, l, _⟩ := R.l
    have := l i x hx
    rw [q] at this
    obtain ⟨u, hu, r⟩ := rvo_some this
    exact wpAny_loadName_local ok.kind (ok.loc x (List.mem_of_getElem? hx)) n hu (Ends.here R r)
  · exact (nos e).elim
theorem den_aug {x : Str} {p' pos : Pos} {op : Operator} {value : Expr} {old X : FM PV} {G : PV → PV → SM PV} {S : PV → FM Unit} (dl : Den c b f RV (loadName f.env x) old) (dx : Den c b f RV (eval value f.env) X) (o : Op2 c b RV (inplaceOp op) G)
    (ds : DenK c b f RV RU (storeName f.env x) S) : Den c b f RFl (exec (.AugAssign (.Name x p') op value pos) f.env) (augE old X G S) := by
  constructor
  intro A hA ρ s es y es' e R
  obtain ⟨r, es₁, e1, e⟩ := Ze e
  obtain ⟨_, es₂, e2, e3⟩ := Ze e
  cases e3
  refine wpAny_AugAssign_Name (wpAny_mono (Qk dl dx o hA e1 R) (fun a s₁ z => wpAny_mono z (fun v s₂ z => wpAny_mono z (fun u s₃ z => ?_) fun _ _ z => z) fun _ _ z => z) fun _ _ z => z)
  obtain ⟨ρ₁, R₁, g₁, q₁, r₁⟩ := z
  refine wpAny_mono (ds.run A hA ρ₁ s₃ es₁ u r () es' e2 r₁ R₁) (fun _ s₄ z => ?_) fun _ _ z => z
  obtain ⟨ρ₂, R₂, g₂, q₂, _⟩ := z
  exact ⟨ρ₂, R₂, g₁.trans g₂, q₁.trans q₂, .next⟩
theorem Y3 {x : Str} {i : Nat} (ok : f.Ok) (hx : f.ln[i]? = some x) : DenK c b f RV RU (storeName f.env x) (setL i) := by
  constructor
  intro A hA ρ s es v p y es' e r R
  unfold setL at e
  split at e <;> (first | obtain ⟨rfl, rfl⟩ := spr e | exact (nos e).elim)
  exact store_local ok hx R r ‹_›
theorem Qj {x : Str} {p' pos : Pos} {op : Operator} {value : Expr} {X : FM PV} {G : PV → PV → SM PV} {i : Nat} (ok : f.Ok) (hx : f.ln[i]? = some x) (dx : Den c b f RV (eval value f.env) X) (o : Op2 c b RV (inplaceOp op) G) :
    Den c b f RFl (exec (.AugAssign (.Name x p') op value pos) f.env) (augE (getL i) X G (setL i)) := den_aug (load_local ok hx) dx o (Y3 ok hx)
end
section
variable {c : Ctx0} {b : Nat} {f : FI}
theorem Jd {α : Type} {p : Prop} [Decidable p] {a b : α} (e : (if p then some a else none) = some b) : p ∧ a = b := by
  split at e
  · obtain rfl := Option.some.inj e; exact ⟨‹_›, rfl⟩
  · exact (nos e).elim
noncomputable def part? : PV → Option (Option Int)
  | .none => some none
  | .int i => some (some i)
  | _ => none
theorem part_of {h : Heap} {ρ : Rho} {v : Value} {p : PV} {o : Option Int} (r : RV h ρ v p) (e : part? p = some o) : IsPart v o ∧ ∃ q : Option (Int × Tok), v = partValue q ∧ q.map (·.1) = o := by
  cases r <;> (first | exact (nos e).elim | obtain rfl := Option.some.inj e)
  · exact ⟨.none, none, rfl, rfl⟩
  · rename_i i t; exact ⟨.int i t, some (i, t), rfl, rfl⟩
noncomputable def pick {α : Type} (idx : List Nat) (xs : List α) : List α := idx.filterMap (xs[·]?)
theorem RVs.pick {h : Heap} {ρ : Rho} {vs : List Value} {xs : List PV} (r : RVs h ρ vs xs) (idx : List Nat) : RVs h ρ (pick idx vs) (pick idx xs) := by
  induction idx with
  | nil => exact .nil
  | cons i idx ih =>
    unfold Mine.pick at ih ⊢
    by_cases hi : i < xs.length
    · obtain ⟨v, hv, rv⟩ := r.get (i := i) (p := xs[i]) (by simp [hi])
      rw [List.filterMap_cons, List.filterMap_cons, hv, List.getElem?_eq_getElem hi]
      exact .cons rv ih
    · have h1 : xs[i]? = none := by rw [List.getElem?_eq_none_iff]; omega
      have h2 : vs[i]? = none := by rw [List.getElem?_eq_none_iff, r.length]; omega
      rw [List.filterMap_cons, List.filterMap_cons, h1, h2]
      exact ih
noncomputable def sliceL (n : Nat) (lo hi st : Option Int) : List Nat := sliceRange (sliceBounds lo hi st n).1 (sliceBounds lo hi st n).2.1 (sliceBounds lo hi st n).2.2
noncomputable def sliceS (x : Str) (lo hi st : Option Int) : Str := if (st.getD 1 == 1 && (Builtin.Str.strSliceIndices lo hi (st.getD 1) x.length).length == x.length) = true then x else ⟨((Builtin.Str.strSliceIndices lo hi (st.getD 1) x.length).filterMap (x.cps[·]?)).toArray⟩
noncomputable def sliceG (p lo hi st : PV) : SM PV := fun s => match part? lo, part? hi, part? st with
  | some l, some u, some k => if k ≠ some 0 then (match p with
    | .str x => if (sliceS x l u k).length ≤ sizeLine then some (.str (sliceS x l u k), s) else none
    | p => (match items? s p with
      | some xs => if xs.length ≤ sizeLine then some (.lst (pick (sliceL xs.length l u k) xs), s) else none
      | none => none)) else none
  | _, _, _ => none
theorem subscripted_slice (lo up st : Option Expr) (p : Pos) (o i : Value) : ∃ ops, subscripted (.Slice lo up st p) false o i = operate ops (getItem o i) := by
  cases st with
  | none => exact ⟨[i, o], rfl⟩
  | some e => exact ⟨[o, i], rfl⟩
noncomputable abbrev DenP (c : Ctx0) (b : Nat) (f : FI) (x : Option Expr) (F : FM PV) : Prop := Den c b f RV (evalPart x f.env) F
theorem Zx : DenP c b f none (pureE .none) := by
  constructor
  intro A hA ρ s es y es' e R
  obtain ⟨rfl, rfl⟩ := spr e
  rw [evalPart_none]
  exact wpAny_pure (Ends.here R .none)
theorem Yk {x : Expr} {F : FM PV} (d : Den c b f RV (eval x f.env) F) : DenP c b f (some x) F := by
  constructor
  rw [evalPart_some]
  exact d.run
theorem strMade_post {x : Str} {t : Tok} {l u k : Option (Int × Tok)} {Q : Value → Shared → Prop} {s : Shared} (hz : (sliceS x (l.map (·.1)) (u.map (·.1)) (k.map (·.1))).length ≤ sizeLine)
    (h : ∀ t' tk, Q (.str (sliceS x (l.map (·.1)) (u.map (·.1)) (k.map (·.1))) t') { s with toks := tk }) : (sliceMade x t l u k).post Q s := by
  unfold sliceMade slicePicked
  unfold sliceS at h hz
  split
  · rename_i hc
    rw [if_pos hc] at h
    exact h t s.toks
  · rename_i hc
    rw [if_neg hc] at h hz
    exact ⟨hz, h _ _⟩
theorem Yp {value : Expr} {lo up st : Option Expr} {p pos : Pos} {V L U S : FM PV} (dv : Den c b f RV (eval value f.env) V) (dl : DenP c b f lo L) (du : DenP c b f up U) (ds : DenP c b f st S) :
    Den c b f RV (eval (.Subscript value (.Slice lo up st p) pos) f.env) (bindE V fun v => bindE L fun l => bindE U fun u => bindE S fun k => liftS (sliceG v l u k)) := by
  constructor
  intro A hA ρ s es y es' e R
  obtain ⟨pv, es₁, e1, e⟩ := Ze e
  obtain ⟨pl, es₂, e2, e⟩ := Ze e
  obtain ⟨pu, es₃, e3, e⟩ := Ze e
  obtain ⟨pk, es₄, e4, e⟩ := Ze e
  obtain ⟨st', e5, rfl⟩ := Z7 e
  refine Subscript_ (wpAny_mono (dv.run A hA ρ s es pv es₁ e1 R) (fun v s₁ z => ?_) fun _ _ z => z)
  obtain ⟨ρ₁, R₁, g₁, q₁, r₁⟩ := z
  refine wpAny_Slice (wpAny_mono (dl.run A hA ρ₁ s₁ es₁ pl es₂ e2 R₁) (fun l s₂ z => ?_) fun _ _ z => z)
  obtain ⟨ρ₂, R₂, g₂, q₂, r₂⟩ := z
  refine wpAny_mono (du.run A hA ρ₂ s₂ es₂ pu es₃ e3 R₂) (fun u s₃ z => ?_) fun _ _ z => z
  obtain ⟨ρ₃, R₃, g₃, q₃, r₃⟩ := z
  refine wpAny_mono (ds.run A hA ρ₃ s₃ es₃ pk es₄ e4 R₃) (fun k s₄ z => ?_) fun _ _ z => z
  obtain ⟨ρ₄, R₄, g₄, q₄, r₄⟩ := z
  have rv := (((r₁.grow g₂ R₁.like).grow g₃ R₂.like).grow g₄ R₃.like)
  have rl := ((r₂.grow g₃ R₂.like).grow g₄ R₃.like)
  have ru := (r₃.grow g₄ R₃.like)
  have gg := ((g₁.trans g₂).trans g₃).trans g₄
  have qq := ((q₁.trans q₂).trans q₃).trans q₄
  have hp := R₄.s.pushObj { cls := .type "slice", data := .fields #[l, u, k] }
  obtain ⟨S₅, g₅⟩ := hp
  have R₅ := R₄.ofS S₅ g₅
  have fin : ∀ {x : Value} {s' : Shared}, EndsS c.K RV ρ₄ { s₄ with heap := s₄.heap.push { cls := .type "slice", data := .fields #[l, u, k] } } y st' x s' → Ends c.K f RV ρ s y { es₄ with st := st' } x s' := fun z =>
    ((EndsS.after (s := s₄) (s₁ := { s₄ with heap := s₄.heap.push { cls := .type "slice", data := .fields #[l, u, k] } }) g₅ ⟨rfl, rfl, rfl⟩ z).toF R₄).after gg qq
  obtain ⟨ops, hs⟩ := subscripted_slice lo up st p v (.ref s₄.heap.objs.size)
  have rv5 := rv.grow g₅ noFr
  unfold sliceG at e5
  split at e5 <;> try exact (nos e5).elim
  rename_i ol ou ok h1 h2 h3
  obtain ⟨il, ql, hl, hl'⟩ := part_of rl h1
  obtain ⟨iu, qu, hu, hu'⟩ := part_of ru h2
  obtain ⟨ik, qk, hk, hk'⟩ := part_of r₄ h3
  split at e5 <;> try exact (nos e5).elim
  rename_i hk0
  split at e5
  · rename_i x
    obtain ⟨hz, e6⟩ := Jd e5
    cases e6
    generalize hH : s₄.heap.push { cls := .type "slice", data := .fields #[l, u, k] } = H at *
    obtain ⟨t, rfl⟩ := rv5.inv
    rw [hl, hu, hk] at hH
    rw [← hl', ← hu', ← hk'] at hz
    refine tail_any (typeIs_str _ _ _) slot_str_getitem.lookup (wpAny_getItem_str_slice (l := ql) (u := qu) (st := qk) ⟨_, by rw [← hH]; exact Heap.get?_push_size _ rfl, rfl, rfl⟩ ?_ (strMade_post hz fun t' tk => by rw [hl', hu', hk']; exact fin (EndsS.tok S₅ (.str _ _)))) hs
    rw [hk']
    cases ok with
    | none => rfl
    | some i =>
      show (i == 0) = false
      rw [beq_eq_false_iff_ne]
      exact fun q => hk0 (by rw [q])
  · split at e5 <;> try exact (nos e5).elim
    rename_i xs hx
    obtain ⟨hz, e6⟩ := Jd e5
    cases e6
    obtain ⟨a, vs, rfl, pl, rr⟩ := Y0 S₅ rv5 hx
    have hlen := rr.length
    rw [Array.length_toList] at hlen
    refine tail_any (isL pl).typeIs slot_list_getitem.lookup (wpAny_getItem_list_slice (isL pl) (Heap.IsSliceOf.new ..) il iu ik hk0 (fin ?_) (by rw [hlen]; exact hz)) hs
    have e := rr.pick (sliceL xs.length ol ou ok)
    have e' : (slicePick vs ol ou ok) = (pick (sliceL xs.length ol ou ok) vs.toList).toArray := by
      unfold slicePick pick sliceL
      rw [hlen]
      congr 1
      congr 1
      funext i
      simp
    rw [e']
    exact ends_lst (s := { s₄ with heap := s₄.heap.push { cls := .type "slice", data := .fields #[l, u, k] } }) (tk := s₄.toks) S₅ e
end
section
variable {c : Ctx0} {b : Nat} {f : FI}
theorem foldl_toList {α : Type} (xs : List (Array α)) (acc : Array α) : (xs.foldl (fun x1 x2 => x1 ++ x2) acc).toList = acc.toList ++ (xs.map Array.toList).flatten := by
  induction xs generalizing acc with
  | nil => simp
  | cons x xs ih => rw [List.foldl_cons, ih]; simp
end
section
variable {c : Ctx0} {b : Nat} {f : FI}
noncomputable def kvGet : List (Str × PV) → Str → Option PV
  | [], _ => none
  | (k, p) :: r, x => if k == x then some p else kvGet r x
noncomputable def kvPut : List (Str × PV) → Str → PV → List (Str × PV)
  | [], x, p => [(x, p)]
  | (k, q) :: r, x, p => if k == x then (k, p) :: r else (k, q) :: kvPut r x p
theorem ents_norefs {h : Heap} {ρ : Rho} {es : List DictEntry} {kvs : List (Str × PV)} (r : EntsR h ρ es kvs) : es.any (·.refKey) = false := by
  induction r with
  | nil => rfl
  | cons x _ ih => rw [List.any_cons, ih]; rfl
theorem ents_find {h : Heap} {ρ : Rho} {es : List DictEntry} {kvs : List (Str × PV)} (r : EntsR h ρ es kvs) (x : Str) :
    (∀ p, kvGet kvs x = some p → ∃ e, es.find? (·.key.isStr x) = some e ∧ RV h ρ e.val p) ∧ (kvGet kvs x = none → es.find? (·.key.isStr x) = none) := by
  induction r with
  | nil => exact ⟨fun p e => (by exact (nos e).elim), fun _ => rfl⟩
  | @cons hs k t v p es kvs rv rr ih =>
    unfold kvGet
    rw [List.find?_cons]
    show (∀ p', (if (k == x) = true then some p else kvGet kvs x) = some p' → ∃ e, (match (k == x) with | true => some _ | false => _) = some e ∧ _) ∧ ((if (k == x) = true then some p else kvGet kvs x) = none → (match (k == x) with | true => some _ | false => _) = none)
    cases q : k == x with
    | true => exact ⟨fun p' e => (by obtain rfl := Option.some.inj e; exact ⟨_, rfl, rv⟩), fun e => (by cases e)⟩
    | false => exact ih
theorem ents_get {h : Heap} {ρ : Rho} {es : List DictEntry} {kvs : List (Str × PV)} (r : EntsR h ρ es kvs) {x : Str} {p : PV} (e : kvGet kvs x = some p) : ∃ v, W.getL x es = some (some v) ∧ RV h ρ v p := by
  obtain ⟨en, a, rv⟩ := (ents_find r x).1 p e
  unfold W.getL
  rw [a]
  exact ⟨_, rfl, rv⟩
theorem Qq {h : Heap} {ρ : Rho} {es : List DictEntry} {kvs : List (Str × PV)} (r : EntsR h ρ es kvs) {x : Str} (e : kvGet kvs x = none) : W.getL x es = some none := by
  unfold W.getL
  rw [(ents_find r x).2 e, ents_norefs r]; rfl
theorem ents_put {h : Heap} {ρ : Rho} {es : List DictEntry} {kvs : List (Str × PV)} (r : EntsR h ρ es kvs) {x : Str} {v : Value} {p : PV} (rv : RV h ρ v p) (hs : Int) (t : Tok) : EntsR h ρ (putL x hs (.str x t) v es) (kvPut kvs x p) := by
  induction r with
  | nil => exact .cons rv .nil
  | @cons hs' k t' v' p' es kvs rv' rr ih =>
    unfold putL kvPut
    show EntsR h ρ (if (k == x) = true then _ else _) _
    cases q : k == x with
    | true => rw [if_pos rfl, if_pos rfl]; exact .cons rv rr
    | false => rw [if_neg (by decide), if_neg (by decide)]; exact .cons rv' ih
theorem ents_length {h : Heap} {ρ : Rho} {es : List DictEntry} {kvs : List (Str × PV)} (r : EntsR h ρ es kvs) : es.length = kvs.length := by
  induction r with
  | nil => rfl
  | cons _ _ ih => simp [ih]
theorem putL_len (x : Str) (hs : Int) (k v : Value) : ∀ es : List DictEntry, (putL x hs k v es).length ≤ es.length + 1
  | [] => Nat.le_refl _
  | e :: r => by
    unfold putL
    split
    · simp
    · simp; exact putL_len x hs k v r
noncomputable def instOf (st : List AO) (p : PV) : Option (Addr × List (Str × PV)) := pik fun r => ∃ i, p = .ref i ∧ (st[i]? = some (.inst r.1 r.2) ∨ ∃ xs, st[i]? = some (.linst r.1 r.2 xs))
theorem Xg {st : List AO} {i : Nat} {C : Addr} {kvs : List (Str × PV)} (h : st[i]? = some (.inst C kvs)) : instOf st (.ref i) = some (C, kvs) :=
  pik_of ⟨_, rfl, .inl h⟩ fun ⟨_, _⟩ ⟨_, e, x⟩ => by cases e; rcases x with x | ⟨_, x⟩ <;> cases h.symm.trans x; rfl
theorem RelS.instAt {K : Frag} {ρ : Rho} {st : List AO} {h : Heap} (R : RelS K ρ st h) {v : Value} {p : PV} {C : Addr} {kvs : List (Str × PV)} (r : RV h ρ v p) (e : instOf st p = some (C, kvs)) :
    ∃ i a d es n ox, P7 (p = .ref i) (v = .ref a) (ρ.ents[i]? = some [a, d]) (InstAt h a ox C (some (W.dictOf es n))) (ox.dict = some d) (h.get? d = some (W.dictOf es n)) (EntsR h ρ es kvs) := by
  obtain ⟨i, rfl, q⟩ := Zo e
  obtain ⟨_, hd, rfl⟩ := r.inv
  obtain ⟨rr, hr⟩ := Yr hd
  rcases q with q | ⟨_, q⟩
  · obtain ⟨a, d, es, n, e1, e2, e3, e4⟩ := R.objs i _ _ hr q
    cases e1
    exact ⟨i, _, _, es, n, _, rfl, rfl, hr, ⟨e2, rfl, rfl, e3⟩, rfl, e3, e4⟩
  · obtain ⟨a, d, vs, m, es, n, e1, e2, e3, e4, e5⟩ := R.objs i _ _ hr q
    cases e1
    exact ⟨i, _, _, es, n, _, rfl, rfl, hr, ⟨e2, rfl, rfl, e4⟩, rfl, e4, e5⟩
noncomputable def attrOk (K : Frag) (C : Addr) (name : Str) : Bool := (clsIn K C).any (·.hasDict) && findIn K (.ref C) "__getattribute__" == some (some (.builtin "object.__getattribute__")) && findIn K (.ref C) name == some none
noncomputable def notRaw : PV → Bool
  | .raw v => handedIn v
  | _ => true
theorem handed_of {h : Heap} {ρ : Rho} {v : Value} {p : PV} (r : RV h ρ v p) (e : notRaw p = true) : handedIn v = true := by
  cases r <;> first | rfl | exact e
noncomputable def getA (K : Frag) (name : Str) (p : PV) : SM PV := fun st => pik fun r => ∃ C kvs q, P5 (instOf st p = some (C, kvs)) (attrOk K C name = true) (kvGet kvs name = some q) (notRaw q = true) (r = (q, st))
theorem Qe {K : Frag} {name : Str} {st : List AO} {p q : PV} {C : Addr} {kvs : List (Str × PV)} (h : instOf st p = some (C, kvs)) (ha : attrOk K C name = true) (hk : kvGet kvs name = some q) (hn : notRaw q = true := by rfl) : getA K name p st = some (q, st) :=
  pik_of ⟨_, _, _, h, ha, hk, hn, rfl⟩ fun z q' => by obtain ⟨_, _, _, e, _, e', _, r⟩ := q'; cases h.symm.trans e; cases hk.symm.trans e'; exact r
theorem op_getA {name : Str} {expr : Bool} : Op1 c b RV RV (fun o => getAttr o name expr) (getA c.K name) := by
  constructor
  intro A hA ρ s st x z y st' e r R
  obtain ⟨C, kvs, q, hi, hk, hq, hn, e'⟩ := Zo e
  clear e; cases e'
  obtain ⟨i, a, d, es, n, ox, rfl, rfl, hr, I, hd, hD, er⟩ := R.instAt r hi
  obtain ⟨v, hv, rv⟩ := ents_get er hq
  simp only [attrOk, Bool.and_eq_true, beq_iff_eq] at hk
  obtain ⟨⟨h1, h2⟩, h3⟩ := hk
  obtain ⟨cd, hc, hcd⟩ := any_some h1
  have hf : findObj c.K C (some (W.dictOf es n)) name = some (.value v) := by
    unfold findObj
    rw [hc, h3]
    simp only [Option.bind_some]
    unfold W.ownOf
    rw [if_pos hcd]
    show ((lookIn name (W.dictOf es n)).bind _) = _
    rw [lookIn_dict, hv]
    rfl
  exact get_value R.top I h2 hf (handed_of rv hn) (EndsS.tok R rv)
theorem Y2 {o : Expr} {name : Str} {pos : Pos} {F : FM PV} (d : Den c b f RV (eval o f.env) F) (hb : Xu o = true := by rfl) : Den c b f RV (eval (.Attribute o name pos) f.env) (bindE F fun p => liftS (getA c.K name p)) := by
  constructor
  intro A hA ρ s es y es' e R
  obtain ⟨p, es₁, e1, e⟩ := Ze e
  rw [arm_eval_Attribute, Yl hb]
  refine wpAny_bind (wpAny_mono (d.run A hA ρ s es p es₁ e1 R) (fun v s₁ z => ?_) fun _ _ z => z)
  obtain ⟨ρ₁, R₁, g₁, q₁, r₁⟩ := z
  refine wpAny_bind (wpAny_standAt (wpAny_bind (wpAny_holding (wpAny_mono ((Op1.k op_getA).run A hA ρ₁ s₁ es₁ v p y es' e r₁ R₁) (fun u s₂ z => ?_) fun _ _ z => z))))
  exact wpAny_bind (wpAny_letTemporaryGo (wpAny_pure (z.after g₁ q₁)))
noncomputable def methOk (K : Frag) (C : Addr) (name : Str) (fa : Addr) : Bool := findIn K (.ref C) "__getattribute__" == some (some (.builtin "object.__getattribute__")) && findIn K (.ref C) "__getattr__" == some none && findIn K (.ref C) name == some (some (.ref fa)) && typeIn K (.ref fa) == some (.type "function")
noncomputable def isInst (C : Addr) (name : Str) (p : PV) (st : List AO) : Bool := pikB (∃ kvs, instOf st p = some (C, kvs) ∧ kvGet kvs name = none)
theorem Zw {C fa : Addr} {name : Str} (hk : methOk c.K C name fa = true) : MethAt c name (isInst C name) (.ref fa) := by
  constructor
  intro A pl ρ s st v p Q hP r R h
  obtain ⟨kvs, hi, hn⟩ := X7 hP
  obtain ⟨i, a, d, es, n, ox, rfl, rfl, hr, I, hd, hD, er⟩ := R.instAt r hi
  simp only [methOk, Bool.and_eq_true, beq_iff_eq] at hk
  obtain ⟨⟨⟨h1, h2⟩, h3⟩, h4⟩ := hk
  exact method_fn R.top I h1 h2 h3 h4 (by show (lookIn name (W.dictOf es n)).map _ = _; rw [lookIn_dict, Qq er hn]; rfl) h
noncomputable def setOk (K : Frag) (C : Addr) (name : Str) : Bool := (clsIn K C).any (·.hasDict) && findIn K (.ref C) "__setattr__" == some (some (.builtin "object.__setattr__")) && plainOver K C && takerIn K C name == some none
theorem osa_own {A : Around} {s : Shared} {x C dx : Addr} {ox : Obj} {name : Str} {tk : Tok} {v : Value} {es : List DictEntry} {n : Nat} {R : Result → Shared → Prop} (X : c.K.In s.heap)
    (I : InstAt s.heap x ox C (some (W.dictOf es n))) (hd : ox.dict = some dx) (hp : plainOver c.K C = true) (ht : takerIn c.K C name = some none) (hh : (clsIn c.K C).any (·.hasDict) = true)
    (hl : (W.getL name es).isSome = true) (hz : (putL name (PyData.keyHash c.w.params name) (.str name s.toks) v es).length ≤ 1000)
    (h : R (.ok (.ret .none)) { s with heap := s.heap.update dx (Obj.putName name (PyData.keyHash c.w.params name) (.str name s.toks) v), toks := s.toks + 1 }) :
    codeAny (model c.prog c.w) A (.call (.builtin "object.__setattr__") ⟨[.ref x, .str name tk, v], []⟩) R s := by
  refine osa_open X I hp ht fun b => ?_
  obtain ⟨cd, hc, hd'⟩ := any_some hh
  have D : s.heap.get? dx = some (W.dictOf es n) := by have := I.dict; rw [hd] at this; exact this
  have D' : (s.heap.update dx (Obj.putName name (PyData.keyHash c.w.params name) (.str name s.toks) v)).get? dx = some (W.dictOf (putL name (PyData.keyHash c.w.params name) (.str name s.toks) v es) (putN name es n)) := by
    rw [Heap.get?_update_self _ D (by rw [putName_dict]; rfl), putName_dict]
  obtain ⟨hx, hcl, hn, -⟩ := I
  obtain ⟨oc, odi, oda, osl⟩ := ox
  dsimp only at hcl hd
  subst hcl hd
  refine wpAny_bind (wpAny_pure (wpAny_bind (wpAny_bind (wpAny_loadPart hx (wpAny_bind ((looks_clsIn X hc).here ?_))))))
  rw [hd']
  refine wpAny_pure (a := some dx) (wpAny_bind (wpAny_pure (wpAny_bind ?_)))
  unfold nsSet
  refine wpAny_bind (wpAny_bind (wpAny_askSetting (wpAny_pure (wpAny_bind (wpAny_mkText (wpAny_bind (wpAny_loadPart D ?_)))))))
  dsimp only
  have cc : (!es.toArray.any (·.key.isStr name) && es.toArray.any (·.refKey)) = false := by
    rw [← Array.any_toList, ← Array.any_toList]
    unfold W.getL at hl
    dsimp only
    split at hl
    · rename_i en he
      rw [List.any_eq_true.mpr ⟨en, List.mem_of_find?_eq_some he, List.find?_some he⟩]; rfl
    · split at hl
      · cases hl
      · rename_i z; rw [Bool.not_eq_true] at z; rw [z, Bool.and_false]
  rw [aRefKeyMayBeTheName_at, cc]
  refine wpAny_updatePart D ?_
  refine wpAny_bind (wpAny_lookBehind D' (pastItsLine_dict (by rw [List.size_toArray, sizeLine_eq]; omega)) ?_)
  exact wpAny_pure h
noncomputable def setA (K : Frag) (name : Str) (p q : PV) : SM Unit := fun st => pik fun r => ∃ i C kvs, P5 (p = .ref i) (st[i]? = some (.inst C kvs)) (setOk K C name = true) (kvs.length ≤ 900) (r = ((), st.set i (.inst C (kvPut kvs name q))))
theorem setA_of {K : Frag} {name : Str} {st : List AO} {i : Nat} {q : PV} {C : Addr} {kvs : List (Str × PV)} (h : st[i]? = some (.inst C kvs)) (hs : setOk K C name = true) (hz : kvs.length ≤ 900) : setA K name (.ref i) q st = some ((), st.set i (.inst C (kvPut kvs name q))) :=
  pik_of ⟨_, _, _, rfl, h, hs, hz, rfl⟩ fun z q' => by obtain ⟨_, _, _, e, e', _, _, r⟩ := q'; cases e; cases h.symm.trans e'; exact r
theorem op_setA {name : Str} : Op2 c b RU (fun o v => setAttr o name v) (setA c.K name) := by
  constructor
  intro A hA ρ s st x z x' z' y st' e r r' R
  obtain ⟨i, C, kvs, rfl, q, hk, hz, e'⟩ := Zo e
  clear e; cases e'
  obtain ⟨i', a, d, es, n, ox, e1, rfl, hr, I, hd, hD, er⟩ := R.instAt (C := C) (kvs := kvs) r (Xg q)
  cases e1
  have ho : s.heap.get? a = some { cls := .ref C, dict := some d, data := .plain } := by
    obtain ⟨a', d', es', n', e1, e2, _⟩ := R.objs i _ _ hr q
    cases e1; exact e2
  simp only [setOk, Bool.and_eq_true, beq_iff_eq] at hk
  obtain ⟨⟨⟨h1, h2⟩, h3⟩, h4⟩ := hk
  have hl : (W.getL name es).isSome = true := by
    cases q : kvGet kvs name with
    | none => rw [Qq er q]; rfl
    | some p => obtain ⟨v, hv, _⟩ := ents_get er q; rw [hv]; rfl
  have hlen := ents_length er
  have had : a ≠ d := fun q => by rw [q, hD] at ho; cases ho
  refine set_plain R.top I h2 (osa_own (s := { s with toks := s.toks + 1 }) R.top I hd h3 h4 h1 hl (Nat.le_trans (putL_len ..) (by omega)) ?_)
  have D' : (s.heap.update d (Obj.putName name (PyData.keyHash c.w.params name) (.str name (s.toks + 1)) x')).get? d = some (W.dictOf (putL name (PyData.keyHash c.w.params name) (.str name (s.toks + 1)) x' es) (putN name es n)) := by
    rw [Heap.get?_update_self _ hD (by rw [putName_dict]; rfl), putName_dict]
  have hs : Heap.SameBut d s.heap (s.heap.update d (Obj.putName name (PyData.keyHash c.w.params name) (.str name (s.toks + 1)) x')) := Heap.SameBut.update ..
  have ha' := (hs.2 a had).trans ho
  obtain ⟨S, g⟩ := R.put (i := i) (ao' := .inst C (kvPut kvs name z')) hr (h' := s.heap.update d (Obj.putName name (PyData.keyHash c.w.params name) (.str name (s.toks + 1)) x'))
    (fun b o eb nb => (hs.2 b fun q => nb (by rw [q]; simp)).trans eb) (fun b m => by
      simp at m; rcases m with rfl | rfl
      · exact ⟨_, ha'⟩
      · exact ⟨_, D'⟩) fun g => ⟨a, d, _, _, rfl, ha', D', ents_put (er.carry (g.carry noFr)) (r'.grow g noFr) _ _⟩
  exact ⟨ρ, S, g, ⟨rfl, rfl, rfl⟩, trivial⟩
theorem Xq {o : Expr} {name : Str} {pos : Pos} {F : FM PV} (d : Den c b f RV (eval o f.env) F) : DenA c b f (.Attribute o name pos) (fun v => bindE F fun p => liftS (setA c.K name p v)) := by
  constructor
  intro A hA ρ s es v p y es' e r R
  obtain ⟨po, es₁, e1, e⟩ := Ze e
  obtain ⟨st', e2, rfl⟩ := Z7 e
  rw [assign_Attribute]
  refine wpAny_bind (wpAny_holding (wpAny_mono (d.run A hA ρ s es po es₁ e1 R) (fun o s₁ z => ?_) fun _ _ z => z))
  obtain ⟨ρ₁, R₁, g₁, q₁, r₁⟩ := z
  refine wpAny_bind (wpAny_standAt (wpAny_bind (wpAny_holding (wpAny_mono (op_setA.run A hA ρ₁ s₁ es₁.st o po v p () st' e2 r₁ (r.grow g₁ R.like) R₁.s) (fun _ s₂ z => ?_) fun _ _ z => z))))
  exact wpAny_release ((z.toF R₁).after g₁ q₁)
end
theorem ln0 {α : Type} : ∀ {l : List α}, l.length = 0 → l = []
  | [], _ => rfl
theorem ln1 {α : Type} {l : List α} (h : l.length = 1) : ∃ a, l = [a] := by
  cases l with
  | nil => cases h
  | cons a t => exact ⟨a, by rw [ln0 (Nat.succ.inj h)]⟩
theorem ln2 {α : Type} {l : List α} (h : l.length = 2) : ∃ a b, l = [a, b] := by
  cases l with
  | nil => cases h
  | cons a t =>
    obtain ⟨b, rfl⟩ := ln1 (Nat.succ.inj h)
    exact ⟨a, b, rfl⟩
theorem ln3 {α : Type} {l : List α} (h : l.length = 3) : ∃ a b c, l = [a, b, c] := by
  cases l with
  | nil => cases h
  | cons a t =>
    obtain ⟨b, c, rfl⟩ := ln2 (Nat.succ.inj h)
    exact ⟨a, b, c, rfl⟩
structure FunK (c : Ctx0) (b : Nat) (fv : Value) (np : Nat) (kn : List Str) (G : List PV → SM PV) : Prop where
  len : ∀ ps st r, G ps st = some r → ps.length = np + kn.length
  run : ∀ A, AOk b A → ∀ ρ s st vs ps y st', G ps st = some (y, st') → RVs s.heap ρ vs ps → RelS c.K ρ st s.heap →
    codeAny (model c.prog c.w) A (.call fv ⟨vs.take np, kn.zip (vs.drop np)⟩) (fun r s' => match r with
      | .ok (.ret v) => EndsS c.K RV ρ s y st' v s'
      | _ => False) s
noncomputable def runK (n : Nat) (dps : List PV) (li ci : List (Option Nat)) (F : FM PF) (ps : List PV) : SM PV := fun st => pik fun x => ∃ r es, P3 (ps.length = n) (F ⟨li.map fun o => o.bind fun i => (ps ++ dps)[i]?, ci.map fun o => o.bind fun i => (ps ++ dps)[i]?, st⟩ = some (r, es)) (x = (retOf r, es.st))
theorem Z3 {n : Nat} {dps : List PV} {li ci : List (Option Nat)} {F : FM PF} {ps : List PV} {st st' : List AO} {r : PF} {es : ES} {y : PV} (h : F ⟨li.map fun o => o.bind fun i => (ps ++ dps)[i]?, ci.map fun o => o.bind fun i => (ps ++ dps)[i]?, st⟩ = some (r, es)) (hn : ps.length = n := by rfl) (hr : retOf r = y := by rfl) (hs : es.st = st' := by rfl) :
    runK n dps li ci F ps st = some (y, st') := by
  subst hr hs
  exact pik_of ⟨_, _, hn, h, rfl⟩ fun z q' => by obtain ⟨_, _, _, e, q⟩ := q'; cases h.symm.trans e; exact q
section
variable {c : Ctx0} {b : Nat}
theorem FunK.ok {fv : Value} {np : Nat} {G : List PV → SM PV} (o : FunK c b fv np [] G) : FunOk c b fv G := by
  constructor
  intro A hA ρ s st vs ps y st' e r R
  have hl := o.len _ _ _ e
  have := o.run A hA ρ s st vs ps y st' e r R
  rw [List.take_of_length_le (by rw [r.length, hl]; simp), List.zip_nil_left] at this
  exact wpAny_call (codeAny_mono this fun r s' z => by
    rcases r with e | (v | _ | _ | _) <;> first | exact z | exact z.elim)
theorem bindL_at {kindOf : Str → Option NameKind} {x : Str} : ∀ {binds : List (Str × Value)} {m : Str → Option Value}, (binds.map (·.1)).Nodup →
    bindL kindOf binds m x = if kindOf x = some .local then (match binds.lookup x with | some v => some v | none => m x) else m x
  | [], m, _ => by simp [bindL]
  | (n, v) :: r, m, nd => by
    rw [List.map_cons, List.nodup_cons] at nd
    rw [bindL, bindL_at nd.2, List.lookup_cons]
    cases q : x == n with
    | true =>
      rw [beq_iff_eq] at q; subst q
      have : r.lookup x = none := Ym fun p hp z => nd.1 (List.mem_map.mpr ⟨p, hp, z⟩)
      rw [this]
      by_cases h : kindOf x = some .local <;> simp [h]
    | false =>
      have hne : x ≠ n := by intro z; rw [z] at q; simp at q
      by_cases h : kindOf n = some .local <;> simp [h, hne]
theorem bindC_at {kindOf : Str → Option NameKind} {x : Str} : ∀ {binds : List (Str × Value)} {m : Str → Option Value}, (binds.map (·.1)).Nodup →
    bindC kindOf binds m x = if kindOf x = some .local then m x else (match binds.lookup x with | some v => some v | none => m x)
  | [], m, _ => by simp [bindC]
  | (n, v) :: r, m, nd => by
    rw [List.map_cons, List.nodup_cons] at nd
    rw [bindC, bindC_at nd.2, List.lookup_cons]
    cases q : x == n with
    | true =>
      rw [beq_iff_eq] at q; subst q
      have : r.lookup x = none := Ym fun p hp z => nd.1 (List.mem_map.mpr ⟨p, hp, z⟩)
      rw [this]
      by_cases h : kindOf x = some .local <;> simp [h]
    | false =>
      have hne : x ≠ n := by intro z; rw [z] at q; simp at q
      by_cases h : kindOf n = some .local <;> simp [h, hne]
theorem bindL_loc {kindOf : Str → Option NameKind} {x : Str} {binds : List (Str × Value)} (nd : (binds.map (·.1)).Nodup) (hk : kindOf x = some .local) : bindL kindOf binds (fun _ => none) x = binds.lookup x := by
  rw [bindL_at nd, if_pos hk]; cases binds.lookup x <;> rfl
theorem bindL_out {kindOf : Str → Option NameKind} {x : Str} {binds : List (Str × Value)} (nd : (binds.map (·.1)).Nodup) (h : kindOf x = some .local → binds.lookup x = none) : bindL kindOf binds (fun _ => none) x = none := by
  rw [bindL_at nd]
  split
  · rename_i hk; rw [h hk]
  · rfl
theorem bindC_cel {kindOf : Str → Option NameKind} {x : Str} {binds : List (Str × Value)} (nd : (binds.map (·.1)).Nodup) (hk : kindOf x = some .cell) : bindC kindOf binds (fun _ => none) x = binds.lookup x := by
  rw [bindC_at nd, if_neg (by rw [hk]; simp)]; cases binds.lookup x <;> rfl
noncomputable def cnAt (cns : List (Str × Nat)) (L : Addr) : List (Str × Addr) := cns.map fun p => (p.1, L + p.2)
noncomputable def FI.fn (fd : FuncData) (a : Addr) (ln : List Str) (cns : List (Str × Nat)) (L : Addr) : FI := ⟨callEnvC fd L a, ln, cnAt cns L⟩
structure DefK (K : Frag) (a : Addr) (fd : FuncData) (body : List Stmt) (names ln : List Str) (cns : List (Str × Nat)) : Prop extends DefAt K a fd body where
  clo : fd.closure = []
  cells : ∀ L, cellsFrom (L + 1) fd.scope.names [] = cnAt cns L
  cnd : (cns.map (·.1)).Nodup
  nd : names.Nodup
  par : ∀ x ∈ names, fd.scope.names.lookup x = some .local ∧ x ∈ ln ∨ fd.scope.names.lookup x = some .cell ∧ x ∈ cns.map (·.1)
  loc : ∀ x ∈ ln, fd.scope.names.lookup x = some .local
  cel : ∀ p ∈ cns, fd.scope.names.lookup p.1 = some .cell
theorem Xf {α : Type} {l : List (Str × α)} (nd : (l.map (·.1)).Nodup) {i : Nat} {x : Str} {y : α} (e : l[i]? = some (x, y)) : l.lookup x = some y := by
  induction l generalizing i with
  | nil => simp at e
  | cons p r ih =>
    obtain ⟨k, v⟩ := p
    rw [List.map_cons, List.nodup_cons] at nd
    cases i with
    | zero => simp at e; obtain ⟨rfl, rfl⟩ := e; simp [List.lookup_cons]
    | succ i =>
      simp at e
      rw [List.lookup_cons]
      have hne : (x == k) = false := by
        rw [beq_eq_false_iff_ne]; rintro rfl
        exact nd.1 (List.mem_map.mpr ⟨(x, y), List.mem_of_getElem? e, rfl⟩)
      rw [hne]; exact ih nd.2 e
theorem Yh {a : Addr} {fd : FuncData} {body : List Stmt} {names ln : List Str} {cns : List (Str × Nat)} {np : Nat} {kn : List Str} {dvs : List Value} {dps : List PV} {li ci : List (Option Nat)} {F : FM PF}
    (X : DefK c.K a fd body names ln cns) (hdp : ∀ h ρ, RVs h ρ dvs dps) (hn : names.length = np + kn.length + dvs.length)
    (hli : ln.map names.idxOf? = li) (hci : (cns.map (·.1)).map names.idxOf? = ci)
    (hbind : ∀ s vs ws, vs.length = np → ws.length = kn.length → c.K.In s.heap → BindsTo s fd ⟨vs, kn.zip ws⟩ (names.zip (vs ++ ws ++ dvs)))
    (D : ∀ L, Den c b (FI.fn fd a ln cns L) RFl (execs body (callEnvC fd L a)) F) : FunK c (b + 1) (.ref a) np kn (runK (np + kn.length) dps li ci F) := by
  constructor
  · intro ps st r e
    obtain ⟨_, _, h, _, _⟩ := Zo e
    exact h
  intro A hA ρ s st vs ps y st' e r R
  obtain ⟨fl, es, hlen, q, e'⟩ := Zo e
  clear e; cases e'
  have hvl := r.length
  have r' : RVs s.heap ρ (vs ++ dvs) (ps ++ dps) := r.append (hdp _ _)
  have hvs : names.length = (vs ++ dvs).length := by rw [List.length_append, hvl, hlen, hn]
  have hz : vs.take np ++ vs.drop np ++ dvs = vs ++ dvs := by rw [List.take_append_drop]
  have hb := hbind s (vs.take np) (vs.drop np) (by rw [List.length_take, hvl, hlen]; omega) (by rw [List.length_drop, hvl, hlen]; omega) R.top
  rw [hz] at hb
  obtain ⟨oc, od, sl, ho⟩ := X.at_
  have hnm := Jk hvs
  have ndb : ((names.zip (vs ++ dvs)).map (·.1)).Nodup := by rw [hnm]; exact X.nd
  refine codeAny_call_function (fd := fd) (body := body) (by have := hA.depth; have : recursionLimit = 1000 := rfl; omega) (R.top _ _ ho) rfl X.co X.gen X.body (codeRec_of R.top X.code) (hb _ _ _ _ ?_)
  rw [X.clo]
  refine wpAny_newFunctionEnv_cells X.kind (fun x m => ?_) fun env he s₁ x => ?_
  · have mx := (List.of_mem_zip m).1
    rcases X.par x.1 mx with h | h
    · exact .inl h.1
    · refine .inr ⟨h.1, ?_⟩
      rw [X.cells]
      obtain ⟨p, hp, hpx⟩ := List.mem_map.mp h.2
      have : ((cnAt cns s.heap.objs.size).map (·.1)) = cns.map (·.1) := by unfold cnAt; rw [List.map_map]; rfl
      obtain ⟨i, hi⟩ := List.mem_iff_getElem?.mp hp
      have hi' : (cnAt cns s.heap.objs.size)[i]? = some (x.1, s.heap.objs.size + p.2) := by unfold cnAt; rw [List.getElem?_map, hi, ← hpx]; rfl
      rw [Xf (by rw [this]; exact X.cnd) hi']; rfl
  subst he
  refine ⟨R.nolim.keeps x.toInCall.keep, codeAny_func ?_⟩
  have hcells : (callEnvC fd s.heap.objs.size a).cells = cnAt cns s.heap.objs.size := X.cells _
  have ndc : ((cnAt cns s.heap.objs.size).map (·.1)).Nodup := by
    have : ((cnAt cns s.heap.objs.size).map (·.1)) = cns.map (·.1) := by unfold cnAt; rw [List.map_map]; rfl
    rw [this]; exact X.cnd
  have hcell : ∀ i y d, (cnAt cns s.heap.objs.size)[i]? = some (y, d) → s₁.heap.IsCell d (bindC (callEnvC fd s.heap.objs.size a).kindOf (names.zip (vs ++ dvs)) (fun _ => none) y) := fun i y d hy =>
    x.cell y d (by rw [show (newEnv fd.scope s.heap.objs.size fd.globals (cellsFrom (s.heap.objs.size + 1) fd.scope.names []) (fd.qualname ++ ".<locals>.") (some a) fd.code none fd.builtins).cells = cnAt cns s.heap.objs.size from X.cells _]; exact Xf ndc hy)
  have habove : ∀ p ∈ cnAt cns s.heap.objs.size, s.heap.objs.size < p.2 := fun p hp => x.above p.1 p.2 (by rw [show (newEnv fd.scope s.heap.objs.size fd.globals (cellsFrom (s.heap.objs.size + 1) fd.scope.names []) (fd.qualname ++ ".<locals>.") (some a) fd.code none fd.builtins).cells = cnAt cns s.heap.objs.size from X.cells _]; exact hp)
  have hapart : (cnAt cns s.heap.objs.size).Pairwise fun x y => x.2 ≠ y.2 := by
    have := x.apart
    rw [show (newEnv fd.scope s.heap.objs.size fd.globals (cellsFrom (s.heap.objs.size + 1) fd.scope.names []) (fd.qualname ++ ".<locals>.") (some a) fd.code none fd.builtins).cells = cnAt cns s.heap.objs.size from X.cells _] at this
    exact this
  have hns := x.toInCall.ns
  have nd : (s.heap.objs.size :: (cnAt cns s.heap.objs.size).map (·.2)).Nodup := by
    rw [List.nodup_cons]
    refine ⟨fun m => ?_, ?_⟩
    · obtain ⟨p, hp, hq⟩ := List.mem_map.mp m
      have := habove p hp
      rw [hq] at this
      exact absurd this (Nat.lt_irrefl _)
    · rw [List.nodup_iff_pairwise_ne, List.pairwise_map]; exact hapart
  have fresh : ∀ d ∈ s.heap.objs.size :: (cnAt cns s.heap.objs.size).map (·.2), s.heap.get? d = none := fun d m => by
    rcases List.mem_cons.mp m with rfl | m
    · exact get_ge (Nat.le_refl _)
    · obtain ⟨p, hp, rfl⟩ := List.mem_map.mp m
      exact get_ge (Nat.le_of_lt (habove p hp))
  obtain ⟨S, g₀⟩ := R.enter (wr := s.heap.objs.size :: (cnAt cns s.heap.objs.size).map (·.2)) (h' := s₁.heap) x.toInCall.keep fresh (fun d m => by
    rcases List.mem_cons.mp m with rfl | m
    · obtain ⟨o, _, _, e, _⟩ := hns; exact ⟨o, e⟩
    · obtain ⟨p, hp, rfl⟩ := List.mem_map.mp m
      obtain ⟨i, hi⟩ := List.mem_iff_getElem?.mp hp
      obtain ⟨o, e, _⟩ := hcell i p.1 p.2 hi
      exact ⟨o, e⟩) nd
  have kLoc : ∀ y, (callEnvC fd s.heap.objs.size a).kindOf y = fd.scope.names.lookup y := fun y => rfl
  have hA' : AOk b (A.deeper (callEnvC fd s.heap.objs.size a)) := ⟨hA.handled, by have := hA.depth; show A.depth + 1 + 2 * b ≤ 900; omega, by have := hA.units; show A.units + 3 + 20 * b ≤ 9000; omega⟩
  have RF : RelF c.K (FI.fn fd a ln cns s.heap.objs.size) (ρ.enter (s.heap.objs.size :: (cnAt cns s.heap.objs.size).map (·.2))) ⟨li.map fun o => o.bind fun i => (ps ++ dps)[i]?, ci.map fun o => o.bind fun i => (ps ++ dps)[i]?, st⟩ s₁.heap := by
    refine ⟨S, ⟨_, hns, fun i y hy => ?_, fun y hy => ?_⟩, fun i y d hy => ?_, fun d m => List.mem_append_left _ m, nd⟩
    · replace hy : ln[i]? = some y := hy
      have hk := X.loc y (List.mem_of_getElem? hy)
      have : (li.map fun o => o.bind fun i => (ps ++ dps)[i]?)[i]? = some ((names.idxOf? y).bind fun i => (ps ++ dps)[i]?) := by
        rw [List.getElem?_map, ← hli, List.getElem?_map, hy]; rfl
      rw [this]
      rw [show bindL _ _ _ y = _ from bindL_loc ndb hk]
      exact (Yw r' hvs y).carry g₀
    · refine bindL_out ndb fun hk => ?_
      rw [Ym]
      rintro ⟨p1, p2⟩ hp rfl
      rcases X.par p1 (List.of_mem_zip hp).1 with h | h
      · exact hy h.2
      · have hk' : fd.scope.names.lookup p1 = some .local := hk
        rw [h.1] at hk'; cases hk'
    · have hc := hcell i y d hy
      have hy' : ∃ k, cns[i]? = some (y, k) := by
        replace hy : (cnAt cns s.heap.objs.size)[i]? = some (y, d) := hy
        unfold cnAt at hy
        rw [List.getElem?_map] at hy
        obtain ⟨p, e1, e2⟩ := Option.map_eq_some_iff.mp hy
        obtain ⟨p1, p2⟩ := p
        cases e2
        exact ⟨p2, e1⟩
      obtain ⟨k, hy'⟩ := hy'
      have hk := X.cel _ (List.mem_of_getElem? hy')
      refine ⟨_, hc, ?_⟩
      have : (ci.map fun o => o.bind fun i => (ps ++ dps)[i]?)[i]? = some ((names.idxOf? y).bind fun i => (ps ++ dps)[i]?) := by
        rw [List.getElem?_map, ← hci, List.getElem?_map, List.getElem?_map, hy']; rfl
      rw [this, show bindC _ _ _ y = _ from bindC_cel ndb hk]
      exact (Yw r' hvs y).carry g₀
  have kk := x.toInCall.keep
  obtain ⟨h₁, tk, rfl⟩ := x.toInCall.same
  refine wpAny_mono ((D s.heap.objs.size).run _ hA' _ _ _ fl es q RF) (fun fv' s' z => ?_) fun _ _ z => z.elim
  obtain ⟨ρ', R', g, sm, rf⟩ := z
  refine R.left kk fresh R'.s g (fun a' m => m) sm ?_
  cases rf with
  | next => exact .none
  | brk => exact .none
  | cont => exact .none
  | ret r => exact r
end
section
variable {c : Ctx0} {b : Nat} {f : FI}
theorem FunK.code {fv : Value} {np : Nat} {G : List PV → SM PV} (o : FunK c b fv np [] G) {A : Around} (hA : AOk b A) {ρ : Rho} {s : Shared} {st st' : List AO} {vs : List Value} {ps : List PV} {y : PV} (e : G ps st = some (y, st')) (r : RVs s.heap ρ vs ps) (R : RelS c.K ρ st s.heap) :
    codeAny (model c.prog c.w) A (.call fv ⟨vs, []⟩) (fun r s' => match r with
      | .ok (.ret v) => EndsS c.K RV ρ s y st' v s'
      | _ => False) s := by
  have hl := o.len _ _ _ e
  have := o.run A hA ρ s st vs ps y st' e r R
  rwa [List.take_of_length_le (by rw [r.length, hl]; simp), List.zip_nil_left] at this
noncomputable def makeG (C : Addr) (G : List PV → SM PV) (ps : List PV) : SM PV := fun st => pik fun r => ∃ st', G (.ref st.length :: ps) (st ++ [.inst C []]) = some (.none, st') ∧ r = (.ref st.length, st')
theorem make_of {C : Addr} {G : List PV → SM PV} {ps : List PV} {st st' : List AO} (h : G (.ref st.length :: ps) (st ++ [.inst C []]) = some (.none, st')) : makeG C G ps st = some (.ref st.length, st') :=
  pik_of ⟨_, h, rfl⟩ fun z q' => by obtain ⟨_, e, r⟩ := q'; cases h.symm.trans e; exact r
theorem op_make {C fI : Addr} {np : Nat} {G : List PV → SM PV} (hm : makesIn c.K C = true) (hi : findIn c.K (.ref C) "__init__" = some (some (.ref fI))) (hf : typeIn c.K (.ref fI) = some (.type "function")) (oI : FunK c b (.ref fI) np [] G) :
    OpL c (b + 1) (fun vs => call (.ref C) vs) (makeG C G) := by
  constructor
  intro A hA ρ s st vs ps y st' e r R
  obtain ⟨_, e', q⟩ := Zo e
  clear e; cases q
  have e := e'
  obtain ⟨h, g, d, t, os⟩ := s
  replace R : RelS c.K ρ st h := R
  refine wpAny_call (make_core (makes_of R.top hm) (looks_findIn R.top hi) (fun self => bind_fn R.top self hf) (.inl (by rfl)) ?_)
  have k : ∀ b o, h.get? b = some o → ((h.push emptyDict).push (instObj C h.objs.size)).get? b = some o := fun b o e => Heap.get?_push_of_some _ (Heap.get?_push_of_some _ e)
  have hs1 : (h.push emptyDict).objs.size = h.objs.size + 1 := Heap.size_push ..
  have hx : ((h.push emptyDict).push (instObj C h.objs.size)).get? (h.objs.size + 1) = some (instObj C h.objs.size) := by rw [← hs1]; exact Heap.get?_push_size _ rfl
  have hd : ((h.push emptyDict).push (instObj C h.objs.size)).get? h.objs.size = some emptyDict := Heap.get?_push_of_some _ (Heap.get?_push_size _ rfl)
  have hne : h.objs.size + 1 ≠ h.objs.size := Nat.succ_ne_self _
  obtain ⟨S, g₁⟩ := R.push (as := [h.objs.size + 1, h.objs.size]) (ao := .inst C []) (h' := (h.push emptyDict).push (instObj C h.objs.size)) k
    (fun a m => by
      simp only [List.mem_cons, List.not_mem_nil, or_false] at m
      rcases m with rfl | rfl
      · exact get_ge (Nat.le_succ _)
      · exact get_ge (Nat.le_refl _))
    (fun a m => by
      simp only [List.mem_cons, List.not_mem_nil, or_false] at m
      rcases m with rfl | rfl
      · exact ⟨_, hx⟩
      · exact ⟨_, hd⟩) (by simp) (fun _ => ⟨_, _, [], _, rfl, hx, hd, .nil⟩)
  have hA' : AOk b (A.under (.builtin "type.__call__" ⟨.ref C :: vs, []⟩)) := ⟨hA.handled, by have := hA.depth; show A.depth + 1 + 2 * b ≤ 900; omega, by have := hA.units; show A.units + 1 + 20 * b ≤ 9000; omega⟩
  have rself : RV ((h.push emptyDict).push (instObj C h.objs.size)) (ρ.push [h.objs.size + 1, h.objs.size]) (.ref (h.objs.size + 1)) (.ref st.length) := .ref (by rw [← R.len]; exact Xl)
  refine codeAny_mono (oI.code hA' (s := ⟨(h.push emptyDict).push (instObj C h.objs.size), g, d, t, os⟩) e (.cons rself (r.grow g₁ noFr)) S) fun r s' z => ?_
  rcases r with e | (v | _ | _ | _) <;> first | exact z.elim | skip
  obtain ⟨ρ', S', g', q', rv⟩ := z
  cases rv
  refine ⟨rfl, ρ', S', g₁.trans g', q', ?_⟩
  exact (RV.grow g' noFr rself)
end
noncomputable def Rho.cut (ρ : Rho) (n : Nat) : Rho := ⟨ρ.ents.take n, ρ.rsv⟩
theorem headAt_lt {ρ : Rho} {i : Nat} {a : Addr} (e : headAt ρ i = some a) : i < ρ.ents.length := by
  obtain ⟨r, hr⟩ := Yr e
  exact (List.getElem?_eq_some_iff.mp hr).1
theorem headAt_cut {ρ : Rho} {n i : Nat} {a : Addr} (e : headAt ρ i = some a) (l : i < n) : headAt (ρ.cut n) i = some a := by
  unfold headAt Rho.cut at *
  rw [List.getElem?_take_of_lt l]; exact e
theorem cut_own {ρ : Rho} {n : Nat} {a : Addr} (m : a ∈ (ρ.cut n).own) : a ∈ ρ.own := by
  rcases List.mem_append.mp m with m | m
  · obtain ⟨l, hl, ha⟩ := List.mem_flatten.mp m
    exact Yu (List.mem_flatten.mpr ⟨l, List.mem_of_mem_take hl, ha⟩)
  · exact Yb m
theorem RV.cut {h h₀ : Heap} {ρ ρ₀ : Rho} {n : Nat} (l : ρ₀.ents.length ≤ n) {v v₀ : Value} {p : PV} (r₀ : RV h₀ ρ₀ v₀ p) (r : RV h ρ v p) : RV h (ρ.cut n) v p :=
  RV.rec (motive_1 := fun v p _ => ∀ v₀, RV h₀ ρ₀ v₀ p → RV h (ρ.cut n) v p) (motive_2 := fun vs ps _ => ∀ vs₀, RVs h₀ ρ₀ vs₀ ps → RVs h (ρ.cut n) vs ps) (fun _ _ => .none) (fun b _ _ => .bool b) (fun i t _ _ => .int i t) (fun s t _ _ => .str s t)
    (fun e _ c => .ref (headAt_cut e (by obtain ⟨_, e', _⟩ := c.inv; exact Nat.lt_of_lt_of_le (headAt_lt e') l)))
    (fun na e _ r _ c => .tup (fun m => na (cut_own m)) e (by obtain ⟨_, _, _, _, c', _⟩ := c.inv; exact r _ c')) (fun na e _ r _ c => .lst (fun m => na (cut_own m)) e (by obtain ⟨_, _, _, _, c', _⟩ := c.inv; exact r _ c')) (fun v _ _ => .raw v) (fun _ _ => .nil)
    (fun _ _ x y _ c => by obtain ⟨_, _, _, a, b⟩ := c.inv; exact .cons (x _ a) (y _ b)) r v₀ r₀
theorem RelS.cut {K : Frag} {ρ ρ₀ : Rho} {st ext : List AO} {h h₀ : Heap} (R₀ : RelS K ρ₀ st h₀) (R : RelS K ρ (st ++ ext) h) : RelS K (ρ.cut st.length) st h := by
  have hl : (ρ.cut st.length).ents.length = st.length := by
    have := R.len
    rw [List.length_append] at this
    exact (List.length_take ..).trans (Nat.min_eq_left (this ▸ Nat.le_add_right _ _))
  refine ⟨hl, fun i as ao e e' => ?_, ?_, fun a m => R.apart a (cut_own m), R.top, R.nolim⟩
  · have hi : i < st.length := (List.getElem?_eq_some_iff.mp e').1
    replace e : (ρ.ents.take st.length)[i]? = some as := e
    rw [List.getElem?_take_of_lt hi] at e
    exact (R₀.objs i _ ao (List.getElem?_eq_getElem (R₀.len ▸ hi)) e').both (fun _ _ _ r₀ r => RV.cut (Nat.le_of_eq R₀.len) r₀ r) (fun c o n q => ⟨fun m => n (cut_own m), q⟩) (fun _ _ _ q => q) (R.objs i as ao e (by rw [List.getElem?_append_left hi]; exact e'))
  · have n := R.nodup
    unfold Rho.own at n ⊢
    rw [List.nodup_append] at n ⊢
    refine ⟨?_, n.2.1, fun a m b m' => ?_⟩
    · have : ρ.ents.flatten = (ρ.ents.take st.length).flatten ++ (ρ.ents.drop st.length).flatten := by rw [← List.flatten_append, List.take_append_drop]
      rw [this, List.nodup_append] at n
      exact n.1.1
    · obtain ⟨l, hl, ha⟩ := List.mem_flatten.mp m
      exact n.2.2 a (List.mem_flatten.mpr ⟨l, List.mem_of_mem_take hl, ha⟩) b m'
theorem RVs.texts {h h' : Heap} {ρ ρ' : Rho} {l : List Str} {vs : List Value} (r : RVs h ρ vs (l.map .str)) : RVs h' ρ' vs (l.map .str) := by
  induction l generalizing vs with
  | nil => obtain rfl := r.inv; exact .nil
  | cons x l ih =>
    obtain ⟨_, _, rfl, a, b⟩ := r.inv
    obtain ⟨t, rfl⟩ := a.inv
    exact .cons (.str x t) (ih b)
theorem RV.rest {K : Frag} {ρ : Rho} {st : List AO} {n i : Nat} {h : Heap} (R : RelS K ρ st h) {v : Value} {l : List Str} (hn : n ≤ i) (q : st[i]? = some (.list (l.map .str))) (r : RV h ρ v (.ref i)) : RV h (ρ.cut n) v (.lst (l.map .str)) := by
  obtain ⟨a, e, rfl⟩ := r.inv
  obtain ⟨vs, k, e0, rr, hr⟩ := R.listAt e q
  refine .lst (vs := vs.toList) (fun m => ?_) ⟨k, by rw [Array.toArray_toList]; exact e0⟩ rr.texts
  have no := R.nodup
  rcases List.mem_append.mp m with m | m
  · obtain ⟨as, hl, ha⟩ := List.mem_flatten.mp m
    obtain ⟨j, hj⟩ := List.mem_iff_getElem?.mp hl
    replace hj : (ρ.ents.take n)[j]? = some as := hj
    have hjn : j < n := Nat.lt_of_lt_of_le (List.getElem?_eq_some_iff.mp hj).1 (List.length_take_le ..)
    rw [List.getElem?_take_of_lt hjn] at hj
    exact apart_at no hr hj (Nat.ne_of_gt (Nat.lt_of_lt_of_le hjn hn)) a (.head _) ha
  · exact Yx no m (Yz hr a (.head _))
structure Spec (G : List PV → SM PV) (ps : List PV) (st : List AO) (y : PV) (st' : List AO) : Prop where
  ex : ∃ (i : Nat) (l : List Str) (ext : List AO), P5 (G ps st = some (.ref i, st ++ ext)) ((st ++ ext)[i]? = some (.list (l.map .str))) (st.length ≤ i) (y = .lst (l.map .str)) (st' = st)
section
variable {c : Ctx0} {b : Nat}
theorem EndsS.spec {ρ : Rho} {s s' : Shared} {st ext : List AO} {i : Nat} {l : List Str} {v : Value} (R : RelS c.K ρ st s.heap) (z : EndsS c.K RV ρ s (.ref i) (st ++ ext) v s') (q : (st ++ ext)[i]? = some (.list (l.map .str))) (hi : st.length ≤ i) : EndsS c.K RV ρ s (.lst (l.map .str)) st v s' := by
  obtain ⟨ρ', S, g, z, rv⟩ := z
  refine ⟨ρ'.cut st.length, R.cut S, ⟨g.keep, ?_, g.rsv, fun a m => ?_⟩, z, RV.rest S hi q rv⟩
  · obtain ⟨t, ht⟩ := g.pre
    show ρ.ents <+: ρ'.ents.take st.length
    rw [← ht, List.take_append, List.take_of_length_le (Nat.le_of_eq R.len)]
    exact List.prefix_append ..
  · obtain ⟨l, hl, ha⟩ := List.mem_flatten.mp m
    exact g.new a (List.mem_flatten.mpr ⟨l, List.mem_of_mem_take hl, ha⟩)
theorem FunK.spec {fv : Value} {np : Nat} {kn : List Str} {G G' : List PV → SM PV} (o : FunK c b fv np kn G) (h : ∀ ps st y st', G' ps st = some (y, st') → Spec G ps st y st') : FunK c b fv np kn G' := by
  constructor
  · intro ps st r e
    obtain ⟨y, st'⟩ := r
    obtain ⟨_, _, _, e', _⟩ := (h ps st y st' e).ex
    exact o.len _ _ _ e'
  · intro A hA ρ s st vs ps y st' e r R
    obtain ⟨i, l, ext, e', q, hi, rfl, rfl⟩ := (h ps st y st' e).ex
    refine codeAny_mono (o.run A hA ρ s _ vs ps _ _ e' r R) fun r s' z => ?_
    rcases r with e | (v | _ | _ | _) <;> first | exact z.elim | exact z.spec R q hi
theorem OpL.weak {t : List Value → Sem Value} {G : List PV → SM PV} {b' : Nat} (o : OpL c b t G) (l : b ≤ b') : OpL c b' t G := ⟨fun A hA => o.run A (hA.le l)⟩
theorem FunK.weak {fv : Value} {np : Nat} {kn : List Str} {G : List PV → SM PV} {b' : Nat} (o : FunK c b fv np kn G) (l : b ≤ b') : FunK c b' fv np kn G := ⟨o.len, fun A hA => o.run A (hA.le l)⟩
end
section
variable {c : Ctx0} {b : Nat} {f : FI}
theorem Qi {o a0 kwe : Expr} {name kw : Str} {apos pos kwp : Pos} {args : List Expr} {fv : Value} {P : PV → List AO → Bool} {FO FK : FM PV} {FA : FM (List PV)} {np : Nat} {G : List PV → SM PV}
    (dO : Den c b f RV (eval o f.env) FO) (m : MethAt c name P fv) (hk : KeepOk c.K fv) (da : DenArgs c b f pos (a0 :: args) FA) (dk : Den c b f RV (eval kwe f.env) FK) (op : FunK c b fv np [kw] G)
    (hbase : Xu o = true := by rfl) (hline : (apos.endLine == pos.line) = true := by rfl) (ha : ((a0 :: args).all Z9 && decide (args.length < 26)) = true := by rfl) :
    Den c b f RV (eval (.Call (.Attribute o name apos) (a0 :: args) [⟨some kw, kwe, kwp⟩] pos) f.env) (bindE FO fun p => guardE (P p) (bindE FA fun ps => bindE FK fun q => liftS (G (p :: (ps ++ [q]))))) := by
  constructor
  intro A hA ρ s es y es' e R
  obtain ⟨p, es₁, e1, e⟩ := Ze e
  unfold guardE at e
  split at e <;> try exact (nos e).elim
  rename_i hP
  obtain ⟨ps, es₂, e2, e⟩ := Ze e
  obtain ⟨q, es₃, e3, e⟩ := Ze e
  obtain ⟨st', e4, rfl⟩ := Z7 e
  have hl := op.len _ _ _ e4
  rw [Bool.and_eq_true] at ha
  have hst := Yv (env := f.env) (pos := pos) ha.1
  have hlen : args.length < 26 := by simpa using ha.2
  have hfew : methodCallForm ((a0 :: args).length + ([⟨some kw, kwe, kwp⟩] : List Keyword).length) (backTo pos (starEach (a0 :: args) f.env)) (backToKw pos (keywordEach [⟨some kw, kwe, kwp⟩] f.env)) = true := by
    unfold methodCallForm
    rw [hst]
    show (true && true && decide (args.length + 1 + 1 + 1 < 30)) = true
    simp; omega
  rw [arm_eval_Call, Yl hbase]
  refine wpAny_bind (wpAny_mono (dO.run A hA ρ s es p es₁ e1 R) (fun v s₁ z => ?_) fun _ _ z => z)
  obtain ⟨ρ₁, R₁, g₁, q₁, r₁⟩ := z
  refine wpAny_bind (wpAny_standAt ?_)
  have hpos : methodCallPos true o f.env apos pos = pure pos := by unfold methodCallPos; simp [hline]
  unfold methodCall
  rw [hfew]
  refine wpAny_bind (wpAny_holding (m.run A _ ρ₁ s₁ es₁.st v p _ hP r₁ R₁.s ?_))
  refine wpAny_bind (wpAny_of_eq hpos ?_)
  rw [List.all_cons, Bool.and_eq_true] at ha
  refine callWith_of (P := c.K.In) ?_ (hk _) (evalArgs_kw2 rfl (wpAny_mono (da.run A hA ρ₁ s₁ es₁ ps es₂ e2 R₁) (fun vs s₂ z => ?_) fun _ _ z => z) (Q6 ha.1.1))
  · rw [show (backToKw pos (keywordEach [⟨some kw, kwe, kwp⟩] f.env)).any (·.1.isNone) = false from rfl, Bool.or_false, List.any_eq_not_all_not, Bool.not_eq_false']
    simpa using hst
  · obtain ⟨ρ₂, R₂, g₂, q₂, r₂⟩ := z
    show wpAny _ _ (evalAll [do let v ← eval kwe f.env; standAt pos; pure v]) _ _ _
    refine wpAny_evalAll_cons (wpAny_bind (wpAny_mono (dk.run A hA ρ₂ s₂ es₂ q es₃ e3 R₂) (fun k s₃ z => ?_) fun _ _ z => z))
    obtain ⟨ρ₃, R₃, g₃, q₃, r₃⟩ := z
    refine wpAny_bind (wpAny_standAt (wpAny_pure (wpAny_evalAll_nil ⟨R₃.s.top, ?_⟩)))
    have rr : RVs s₃.heap ρ₃ (v :: (vs ++ [k])) (p :: (ps ++ [q])) := .cons ((r₁.grow g₂ R₁.like).grow g₃ R₂.like) ((r₂.grow g₃ R₂.like).append (.cons r₃ .nil))
    have hvl := r₂.length
    have hnp : np = vs.length + 1 := by simp at hl; omega
    have := op.run A hA ρ₃ s₃ es₃.st (v :: (vs ++ [k])) (p :: (ps ++ [q])) y st' e4 rr R₃.s
    rw [hnp, List.take_succ_cons, List.take_left', List.drop_succ_cons, List.drop_left'] at this
    · exact wpAny_call (codeAny_mono this fun r s' z => by
        rcases r with e | (v | _ | _ | _) <;> first | exact ((((EndsS.toF R₃ z).after g₃ q₃).after g₂ q₂).after g₁ q₁) | exact z.elim)
    · rfl
    · rfl
noncomputable def whileE (n : Nat) (T : FM Bool) (B : FM PF) : FM PF := match n with
  | 0 => failE
  | n + 1 => bindE T fun t => if t then bindE B (loopK (whileE n T B)) else pureE .next
theorem den_while {test : Expr} {body : List Stmt} {pos : Pos} {T : FM Bool} {B : FM PF} {N : ES → Nat} (dt : Den c b f RB (isTrue test f.env (eval test f.env)) T) (db : Den c b f RFl (execs body f.env) B) :
    Den c b f RFl (exec (.While test body [] pos) f.env) (fun es => whileE (N es) T B es) := by
  constructor
  intro A hA ρ₀ s₀ es₀ y es' e R₀
  refine wpAny_While (codeAny_whileLoop (R := fun r s' => match r with | .ok fl => Ends c.K f RFl ρ₀ s₀ y es' fl s' | .error e => cameBackBy _ A f.env noE e s')
    (fun n s => ∃ ρ es, P4 (whileE n T B es = some (y, es')) (RelF c.K f ρ es s.heap) (Grow f.fr ρ₀ s₀.heap ρ s.heap) (Same s₀ s)) ?_ (N es₀) ⟨ρ₀, es₀, e, R₀, .refl, .refl⟩)
  rintro n s ⟨ρ, es, e, R, g, sm⟩
  cases n with
  | zero => exact (nos e).elim
  | succ n =>
    obtain ⟨t, es₁, e1, e2⟩ := Ze e
    refine wpAny_mono (dt.run A hA ρ s es t es₁ e1 R) (fun v s₁ z => ?_) fun _ _ z => z.elim
    obtain ⟨ρ₁, R₁, g₁, q₁, rfl⟩ := z
    cases v with
    | false => obtain ⟨rfl, rfl⟩ := spr e2; exact wpAny_execs_nil ⟨ρ₁, R₁, g.trans g₁, sm.trans q₁, .next⟩
    | true =>
      rw [if_pos rfl] at e2 ⊢
      obtain ⟨fl, es₂, e3, e4⟩ := Ze e2
      refine wpAny_mono (db.run A hA ρ₁ s₁ es₁ fl es₂ e3 R₁) (fun flv s₂ z => ?_) fun _ _ z => z.elim
      obtain ⟨ρ₂, R₂, g₂, q₂, rf⟩ := z
      have gg := (g.trans g₁).trans g₂
      have qq := (sm.trans q₁).trans q₂
      cases rf with
      | next => exact ⟨n, Nat.lt_succ_self _, ρ₂, es₂, e4, R₂, gg, qq⟩
      | cont => exact ⟨n, Nat.lt_succ_self _, ρ₂, es₂, e4, R₂, gg, qq⟩
      | brk => obtain ⟨rfl, rfl⟩ := spr e4; exact ⟨ρ₂, R₂, gg, qq, .next⟩
      | ret r => obtain ⟨rfl, rfl⟩ := spr e4; exact ⟨ρ₂, R₂, gg, qq, .ret r⟩
theorem den_aug_attr {o value : Expr} {name : Str} {tpos pos : Pos} {op : Operator} {X O : FM PV} {G : PV → PV → SM PV} (dO : Den c b f RV (eval o f.env) O) (dx : Den c b f RV (eval value f.env) X) (op2 : Op2 c b RV (inplaceOp op) G) :
    Den c b f RFl (exec (.AugAssign (.Attribute o name tpos) op value pos) f.env) (bindE O fun p => bindE (liftS (getA c.K name p)) fun old => bindE X fun v => bindE (liftS (G old v)) fun new => bindE (liftS (setA c.K name p new)) fun _ => pureE .next) := by
  constructor
  intro A hA ρ s es y es' e R
  obtain ⟨po, es₁, e1, e⟩ := Ze e
  obtain ⟨old, es₃, e3, e⟩ := Ze e
  obtain ⟨st₃, e3', rfl⟩ := Z7 e3
  obtain ⟨pv, es₄, e4, e⟩ := Ze e
  obtain ⟨new, es₅, e5, e⟩ := Ze e
  obtain ⟨st₅, e5', rfl⟩ := Z7 e5
  obtain ⟨_, es₆, e6, e7⟩ := Ze e
  obtain ⟨st₆, e6', rfl⟩ := Z7 e6
  obtain ⟨rfl, rfl⟩ := spr e7
  refine wpAny_AugAssign_AttributeAny (wpAny_mono (dO.run A hA ρ s es po es₁ e1 R) (fun l s₁ z => ?_) fun _ _ z => z)
  obtain ⟨ρ₁, R₁, g₁, q₁, r₁⟩ := z
  refine wpAny_mono (op_getA.run A hA ρ₁ s₁ es₁.st l po old st₃ e3' r₁ R₁.s) (fun w s₃ z => ?_) fun _ _ z => z
  obtain ⟨ρ₃, S₃, g₃, q₃, r₃⟩ := z
  have R₃ := R₁.ofS S₃ g₃
  refine wpAny_mono (dx.run A hA ρ₃ s₃ _ pv es₄ e4 R₃) (fun v s₄ z => ?_) fun _ _ z => z
  obtain ⟨ρ₄, R₄, g₄, q₄, r₄⟩ := z
  refine wpAny_mono (op2.run A hA ρ₄ s₄ es₄.st w old v pv new st₅ e5' (r₃.grow g₄ R₃.like) r₄ R₄.s) (fun n s₅ z => ?_) fun _ _ z => z
  obtain ⟨ρ₅, S₅, g₅, q₅, r₅⟩ := z
  have R₅ := R₄.ofS S₅ g₅
  have rl := ((r₁.grow g₃ noFr).grow g₄ R₃.like).grow g₅ noFr
  refine wpAny_mono (op_setA.run A hA ρ₅ s₅ st₅ l po n new () st₆ e6' rl r₅ S₅) (fun _ s₆ z => ?_) fun _ _ z => z
  obtain ⟨ρ₆, S₆, g₆, q₆, _⟩ := z
  have w : ∀ {ρ ρ' : Rho} {h h' : Heap}, Grow [] ρ h ρ' h' → Grow f.fr ρ h ρ' h' := fun g => g.wider (by simp)
  exact ⟨ρ₆, R₅.ofS S₆ g₆, (((g₁.trans (w g₃)).trans g₄).trans (w g₅)).trans (w g₆), (((q₁.trans q₃).trans q₄).trans q₅).trans q₆, .next⟩
end
section
variable {c : Ctx0} {b : Nat} {f : FI}
noncomputable def intG (ps : List PV) : SM PV := fun st => match ps with | [.int i] => some (.int i, st) | _ => none
theorem op_int : OpL c b (fun vs => call (.type "int") vs) intG := by
  constructor
  intro A hA ρ s st vs ps y st' e r R
  unfold intG at e; split at e <;> (first | obtain ⟨rfl, rfl⟩ := spr e | exact (nos e).elim)
  obtain ⟨_, rfl, r1⟩ := rvs1 r
  (first | obtain ⟨_, rfl⟩ := r1.inv | cases r1)
  exact call_int_int (EndsS.here R (.int _ _))
noncomputable def strG (ps : List PV) : SM PV := fun st => match ps with | [.int i] => if i.natAbs.log2 < 1920 then some (.str (toString i), st) else none | [.str x] => some (.str x, st) | _ => none
theorem op_str : OpL c b (fun vs => call (.type "str") vs) strG := by
  constructor
  intro A hA ρ s st vs ps y st' e r R
  unfold strG at e; split at e
  · obtain ⟨h, e⟩ := Jd e
    cases e
    obtain ⟨_, rfl, r1⟩ := rvs1 r
    (first | obtain ⟨_, rfl⟩ := r1.inv | cases r1)
    exact P.str_of_int h (EndsS.tok R (.str _ _))
  · obtain ⟨rfl, rfl⟩ := spr e
    obtain ⟨_, rfl, r1⟩ := rvs1 r
    (first | obtain ⟨_, rfl⟩ := r1.inv | cases r1)
    exact P.str_of_str (EndsS.here R (.str _ _))
  · exact (nos e).elim
noncomputable def texts? (xs : List PV) : Option (List Str) := xs.mapM fun | .str x => some x | _ => none
theorem texts_of {h : Heap} {ρ : Rho} {vs : List Value} {xs : List PV} {ts : List Str} (r : RVs h ρ vs xs) (e : texts? xs = some ts) : ∃ l : List (Str × Tok), vs = strValues l ∧ l.map (·.1) = ts := by
  induction xs generalizing vs ts with
  | nil => obtain rfl := r.inv; obtain rfl := Option.some.inj e; exact ⟨[], rfl, rfl⟩
  | cons p xs ih =>
    obtain ⟨u, us, rfl, r1, rr⟩ := r.inv
    unfold texts? at e
    rw [List.mapM_cons] at e
    obtain ⟨x, e1, e⟩ := Option.bind_eq_some_iff.mp e
    obtain ⟨ts', e2, e3⟩ := Option.bind_eq_some_iff.mp e
    obtain rfl := Option.some.inj e3
    obtain ⟨l, rfl, rfl⟩ := ih rr e2
    cases p with
    | str y =>
      obtain rfl := Option.some.inj e1
      obtain ⟨t, rfl⟩ := r1.inv
      exact ⟨(y, t) :: l, rfl, rfl⟩
    | _ => exact (nos e1).elim
noncomputable def joinG (ps : List PV) : SM PV := fun st => match ps with
  | [.str x, p] => (match (items? st p).bind texts? with
    | some ts => if JoinOk x ts = true then some (.str (Txt.join x ts), st) else none
    | none => none)
  | _ => none
theorem op_join : OpL c b (fun vs => call (.builtin "str.join") vs) joinG := by
  constructor
  intro A hA ρ s st vs ps y st' e r R
  unfold joinG at e; split at e
  · rename_i x p
    split at e
    · rename_i ts hts
      obtain ⟨hz, e⟩ := Jd e
      cases e
      obtain ⟨xs, hx, ht⟩ := Option.bind_eq_some_iff.mp hts
      obtain ⟨_, _, rfl, r1, r2⟩ := rvs2 r
      obtain ⟨t, rfl⟩ := r1.inv
      obtain ⟨a, us, rfl, pl, rr⟩ := Y0 R r2 hx
      obtain ⟨l, hl, rfl⟩ := texts_of rr ht
      have hl' : us = (strValues l).toArray := by rw [← hl, Array.toArray_toList]
      rw [hl'] at pl
      exact SC.join (isL pl) rfl hz fun t' k => EndsS.tok R (.str _ _)
    · exact (nos e).elim
  · exact (nos e).elim
end
section
variable {c : Ctx0} {b : Nat} {f : FI}
noncomputable abbrev DenBs (c : Ctx0) (b : Nat) (f : FI) (names : List Str) (F : List PV → FM Unit) : Prop := DenK c b f RVs RU (fun vs => assignInOrder (names.map fun n => bindName f.env n) vs) F
theorem denbs_nil : DenBs c b f [] asNil := by
  constructor
  intro A hA ρ s es vs ps y es' e r R
  unfold asNil at e
  split at e <;> (first | obtain ⟨rfl, rfl⟩ := spr e | exact (nos e).elim)
  cases r
  exact wpAny_pure (Ends.here R trivial)
theorem Xp {x : Str} {rest : List Str} {S : PV → FM Unit} {T : List PV → FM Unit} (ds : DenK c b f RV RU (storeName f.env x) S) (dt : DenBs c b f rest T) : DenBs c b f (x :: rest) (asCons S T) := by
  constructor
  intro A hA ρ s es vs ps y es' e r R
  unfold asCons at e
  split at e
  · obtain ⟨_, es₁, e1, e2⟩ := Ze e
    obtain ⟨_, _, rfl, rv, rr⟩ := r.inv
    show wpAny _ _ (holding _ (bindName f.env x _) >>= fun _ => assignInOrder (rest.map fun n => bindName f.env n) _) _ _ _
    refine wpAny_bind (wpAny_holding (wpAny_bindName (wpAny_mono (ds.run A hA ρ s es _ _ _ es₁ e1 rv R) (fun _ s₁ z => ?_) fun _ _ z => z)))
    obtain ⟨ρ₁, R₁, g₁, q₁, _⟩ := z
    exact wpAny_mono (dt.run A hA ρ₁ s₁ es₁ _ _ _ es' e2 (rr.grow g₁ R.like) R₁) (fun _ _ z => z.after g₁ q₁) fun _ _ z => z
  · exact (nos e).elim
noncomputable def unpackRevE (n : Nat) (T : List PV → FM Unit) (p : PV) : FM Unit := match p with
  | .tup xs => if xs.length = n then T xs.reverse else failE
  | _ => failE
theorem RVs.rev {h : Heap} {ρ : Rho} {vs : List Value} {xs : List PV} (r : RVs h ρ vs xs) : RVs h ρ vs.reverse xs.reverse := by
  induction vs generalizing xs with
  | nil => cases r; exact .nil
  | cons v vs ih => cases r with | cons x y => rw [List.reverse_cons, List.reverse_cons]; exact (ih y).append (.cons x .nil)
theorem den_swap {elts : List Expr} {k : Nat} {tpos pos : Pos} {value : Expr} {names : List Str} {X : FM PV} {T : List PV → FM Unit} (dx : Den c b f RV (eval value f.env) X) (dt : DenBs c b f names.reverse T)
    (hw : swappedStores [.Tuple elts k tpos] value f.env = pure (some names)) (hs : swapsWithSole [.Tuple elts k tpos] value pos.line f.env = pure false := by rfl) :
    Den c b f RFl (exec (.Assign [.Tuple elts k tpos] value pos) f.env) (bindE X fun p => bindE (unpackRevE names.length T p) fun _ => pureE .next) := by
  constructor
  intro A hA ρ s es r es' e R
  obtain ⟨p, es₁, e1, e⟩ := Ze e
  obtain ⟨_, es₂, e2, e3⟩ := Ze e
  cases e3
  refine Assign_Tuple_swapped (wpAny_mono (dx.run A hA ρ s es p es₁ e1 R) (fun v s₁ z => ?_) fun _ _ z => z) hs hw
  obtain ⟨ρ₁, R₁, g₁, q₁, r₁⟩ := z
  unfold unpackRevE at e2
  split at e2
  · rename_i xs
    split at e2
    · rename_i hl
      obtain ⟨a, vs, na, q, rr, rfl⟩ := r₁.inv
      have hn : names.length = vs.toArray.size := by rw [List.size_toArray, rr.length, hl]
      rw [hn]
      refine wpAny_unpackItems_tuple hA.handled q fun h' hx => ?_
      have kk : ∀ a o, s₁.heap.get? a = some o → h'.get? a = some o := fun a o e => hx a o (Nat.ne_of_lt (Heap.lt_size e)) e
      obtain ⟨S, g⟩ := R₁.s.ext kk
      have := dt.run A hA ρ₁ { s₁ with heap := h' } es₁ vs.reverse xs.reverse () es' e2 (rr.rev.grow g noFr) (R₁.ofS S g)
      refine wpAny_mono this (fun _ s₂ z => ?_) fun _ _ z => z
      obtain ⟨ρ₂, R₂, g₂, q₂, _⟩ := z
      exact ⟨ρ₂, R₂, g₁.trans ((g.wider (fun _ m => nomatch m)).trans g₂), q₁.trans ⟨q₂.1, q₂.2.1, q₂.2.2⟩, .next⟩
    · cases e2
  · cases e2
theorem typeIs_lst {s : Shared} {a : Addr} {vs : Array Value} {n : Nat} (e : s.heap.get? a = some { cls := .type "list", data := .seq vs n }) : s.TypeIs (.ref a) "list" := ⟨_, e, rfl⟩
end
section
variable {c : Ctx0} {b : Nat} {f : FI}
theorem Qs {α β : Type} {RA : Heap → Rho → α → β → Prop} {t : Sem α} : Den c b f RA t failE := ⟨fun A hA ρ s es y es' e R => nomatch e⟩
noncomputable def typeG (ps : List PV) : SM PV := fun st => pik fun r => ∃ x, ps = [.str x] ∧ r = (.raw (.type "str"), st)
theorem type_of {x : Str} {st : List AO} : typeG [.str x] st = some (.raw (.type "str"), st) := pik_of ⟨_, rfl, rfl⟩ fun z q' => by obtain ⟨_, _, e⟩ := q'; exact e
theorem op_type : OpL c b (fun vs => call (.type "type") vs) typeG := by
  constructor
  intro A hA ρ s st vs ps y st' e r R
  obtain ⟨x, rfl, e'⟩ := Zo e
  clear e; cases e'
  obtain ⟨_, rfl, r1⟩ := rvs1 r
  obtain ⟨_, rfl⟩ := r1.inv
  exact call_type_of (typeIs_str _ _ _) (by decide) (EndsS.here R (.raw _))
noncomputable def typeL (ps : List PV) : SM PV := fun st => pik fun r => ∃ p xs, P3 (ps = [p]) (items? st p = some xs) (r = (.raw (.type "list"), st))
theorem typeL_of {p : PV} {st : List AO} {xs : List PV} (h : items? st p = some xs) : typeL [p] st = some (.raw (.type "list"), st) := pik_of ⟨_, _, rfl, h, rfl⟩ fun z q' => by obtain ⟨_, _, _, _, e⟩ := q'; exact e
theorem op_typeL : OpL c b (fun vs => call (.type "type") vs) typeL := by
  constructor
  intro A hA ρ s st vs ps y st' e r R
  obtain ⟨p, xs, rfl, hx, e'⟩ := Zo e
  clear e; cases e'
  obtain ⟨_, rfl, r1⟩ := rvs1 r
  obtain ⟨a, us, rfl, pl, _⟩ := Y0 R r1 hx
  exact call_type_of (isL pl).typeIs (by decide) (EndsS.here R (.raw _))
noncomputable def isT (p q : PV) : SM PV := fun st => pik fun r => ∃ x y, P3 (p = .raw (.type x)) (q = .raw (.type y)) (r = (.bool (Value.type x == Value.type y), st))
theorem isT_of {x y : String} {st : List AO} : isT (.raw (.type x)) (.raw (.type y)) st = some (.bool (Value.type x == Value.type y), st) := pik_of ⟨_, _, rfl, rfl, rfl⟩ fun z q' => by obtain ⟨_, _, e, e', e''⟩ := q'; cases e; cases e'; exact e''
noncomputable def isNotT (p q : PV) : SM PV := fun st => pik fun r => ∃ x y, P3 (p = .raw (.type x)) (q = .raw (.type y)) (r = (.bool (!(Value.type x == Value.type y)), st))
theorem isNotT_of {x y : String} {st : List AO} : isNotT (.raw (.type x)) (.raw (.type y)) st = some (.bool (!(Value.type x == Value.type y)), st) := pik_of ⟨_, _, rfl, rfl, rfl⟩ fun z q' => by obtain ⟨_, _, e, e', e''⟩ := q'; cases e; cases e'; exact e''
theorem op_isT : Op2 c b RV (compareOp .Is) isT := by
  constructor
  intro A hA ρ s st x z x' z' y st' e r r' R
  obtain ⟨_, _, rfl, rfl, e'⟩ := Zo e
  clear e; cases e'; cases r; cases r'
  show wpAny _ A (do return Value.bool (← isSame _ _)) _ _ s
  exact wpAny_bind (wpAny_pure (wpAny_pure (EndsS.here R (.bool _))))
theorem op_isNotT : Op2 c b RV (compareOp .IsNot) isNotT := by
  constructor
  intro A hA ρ s st x z x' z' y st' e r r' R
  obtain ⟨_, _, rfl, rfl, e'⟩ := Zo e
  clear e; cases e'; cases r; cases r'
  show wpAny _ A (do return Value.bool (!(← isSame _ _))) _ _ s
  exact wpAny_bind (wpAny_pure (wpAny_pure (EndsS.here R (.bool _))))
noncomputable def indexG (ps : List PV) : SM PV := fun st => match ps with
  | [p, q] => (match datS st p, datS st q, (items? st p).isSome with
    | some (.list ds), some d, true => (match ds.findIdx? (fun y => PyData.eqv y d) with
      | some j => if j < 1000000 then some (.int (j : Nat), st) else none
      | none => none)
    | _, _, _ => none)
  | _ => none
theorem op_index : OpL c b (fun vs => call (.builtin "list.index") vs) indexG := by
  constructor
  intro A hA ρ s st vs ps y st' e r R
  unfold indexG at e; split at e
  · split at e
    · rename_i ds d e1 e2 hs
      split at e
      · rename_i j hj
        obtain ⟨hz, e⟩ := Jd e
        cases e
        obtain ⟨v, u, rfl, r1, r2⟩ := rvs2 r
        obtain ⟨xs, hx⟩ := Option.isSome_iff_exists.mp hs
        obtain ⟨a, us, rfl, ⟨n, pl⟩, rr⟩ := Y0 R r1 hx
        obtain ⟨⟨as, ra⟩, l, dp⟩ := Jt R r1 e1
        obtain ⟨⟨bs, rb⟩, l', dp'⟩ := Jt R r2 e2
        cases ra with | list h1 h2 h3 h4 => ?_
        rw [pl] at h1; cases h1; cases h3
        have hc := canLay_list l
        have eqs := SeqAt.items_eqAt (A := A) h4 rb hc l' (room_in hA dp')
        have hm := SeqAt.readsAll_map _ _ _ hc h4
        rw [List.findIdx?_eq_some_iff_getElem] at hj
        obtain ⟨hlt, hp, hno⟩ := hj
        have hsz : us.size = ds.length := by rw [← hm, List.length_map, Array.length_toList]
        have hget : ∀ (m : Nat) (hm' : m < us.size) (hd : m < ds.length), PyData.eqv (SeqAt.readOf s.heap us[m]) d = PyData.eqv ds[m] d := fun m hm' hd => by
          congr 1
          have : ds[m]? = some (SeqAt.readOf s.heap us[m]) := by rw [← hm, List.getElem?_map]; simp [hm']
          rw [List.getElem?_eq_getElem hd] at this
          exact (Option.some.inj this).symm
        refine call_meets F.slot_list_index (typeIs_lst pl) F.entry_list_index (F.args_list_index_2 _ _)
          (SeqAt.list_indexAt a us n none #[] u (fun y => PyData.eqv (SeqAt.readOf s.heap y) d) j (by omega) (by omega) ((hget j (by omega) hlt).trans hp) fun m hm' hmj => ?_) ⟨pl, eqs, ?_⟩
        · rw [hget m hm' (by omega)]
          simpa using hno m hmj
        · show EndsS c.K RV ρ s _ st _ _
          exact EndsS.tok R (RV.int _ _)
      · exact (nos e).elim
    · exact (nos e).elim
  · exact (nos e).elim
end
theorem Jy : PlainAttrs "re.Pattern" :=
  ⟨⟨"object.__getattribute__", by rw [typeLookup_type, builtinLookup_eq_fast]; kernel_rfl, by decide +kernel⟩, by rw [typeLookup_type, builtinLookup_eq_fast]; kernel_rfl⟩
theorem slot_re : Slot "re.Pattern" "search" "re.Pattern.search" :=
  .of (owner := "re.Pattern") (n := "search") (by rw [typeLookup_type, builtinLookup_eq_fast]; kernel_rfl) (by decide +kernel) (by decide +kernel) (by decide +kernel)
    (by first | exact .inl (by decide +kernel) | exact .inr (by decide +kernel)) (by rw [isSubtype_type]; kernel_rfl)
theorem type_re : typeOf (.builtin "re.Pattern.search") = pure (.type "method_descriptor") := by show builtinType _ = _; rw [builtinType_eq_fast]; kernel_rfl
theorem entry_re : entryFor table "re.Pattern.search" = some Builtin.«re.Pattern.search» := entryFor_of_tree (by kernel_rfl)
theorem args_re (a b : Value) : argsOk "re.Pattern.search" ⟨[a, b], []⟩ := by unfold argsOk; kernel_rfl
theorem J5 {m : Sre.M} {t : Nat → Bool} (h : ∀ u seen, ∃ seen', Sre.inSet m.code u m.code.size 5 true seen = .ok (t u, seen')) : ∀ (fuel s : Nat) (seen : Sre.Seen), (∀ k, s ≤ k → k < m.lim → t (m.text.getD k 0) = false) → ∃ seen', Sre.M.admitted m fuel s seen = .ok (none, seen')
  | 0, s, seen, _ => ⟨seen, rfl⟩
  | fuel + 1, s, seen, hn => by
    unfold Sre.M.admitted
    by_cases hs : s ≥ m.lim
    · exact ⟨seen, by rw [if_pos hs]⟩
    · rw [if_neg hs]
      obtain ⟨seen', e⟩ := h (m.text.getD s 0) seen
      rw [e, hn s (Nat.le_refl _) (by omega)]
      exact J5 h fuel (s + 1) seen' fun k hk hl => hn k (by omega) hl
section
open PySem.Builtin.Re
theorem reNamed_one (v : Value) : reNamed "re.Pattern.search" "search" ["string", "pos", "endpos"] 1 [v] [] = pure [some v, none, none] := by rfl
theorem reText_str (x : Str) (t : Tok) : reTextOf (.str x t) = pure (x.cps, 0) := by rfl
theorem reNoColl (v : Value) : reNoCollectionInside v 0 = pure () := by rfl
theorem Qv {M : Model} {A : Around} {E : Value → Shared → Prop} {s : Shared} {Q : PUnit → Shared → Prop} (p : Nat → Bool) (n : Nat → String) (h : Q ⟨⟩ s) : ∀ l : List Nat,
    wpAny M A (forIn l PUnit.unit fun i _ => do
      if p i = true then rule (n i)
      pure (ForInStep.yield PUnit.unit)) Q E s
  | [] => wpAny_pure h
  | i :: l => by
    rw [List.forIn_cons]
    refine wpAny_bind ?_
    cases q : p i with
    | true => exact wpAny_bind (wpAny_rule (wpAny_pure (Qv p n h l)))
    | false => exact wpAny_pure (Qv p n h l)
structure CodeOk (code : Array Nat) (t : Nat → Bool) : Prop where
  hdr : ∃ b, Sre.header code = (1, b)
  info : (match Sre.ops[code.getD 0 0]? with | some .INFO => true | _ => false) = true
  flag : code.getD 2 0 = 4
  set5 : ∀ u seen, ∃ seen', Sre.inSet code u code.size 5 true seen = .ok (t u, seen')
theorem adm_none {code text : Array Nat} {t : Nat → Bool} {m : Sre.M} {fuel s : Nat} {seen : Sre.Seen} {r : Except String (Option Nat × Sre.Seen)} (hc : m.code = code) (ht : m.text = text) (hl : m.lim = text.size)
    (h5 : ∀ u seen, ∃ seen', Sre.inSet code u code.size 5 true seen = .ok (t u, seen')) (hn : ∀ k, k < text.size → t (text.getD k 0) = false) (e : Sre.M.admitted m fuel s seen = r) : ∃ seen', r = .ok (none, seen') := by
  subst hc ht
  obtain ⟨seen', e'⟩ := J5 (m := m) h5 fuel s seen (fun k _ hk => hn k (by rw [← hl]; exact hk))
  exact ⟨seen', e.symm.trans e'⟩
theorem search_fail {code text : Array Nat} {t : Nat → Bool} (ok : CodeOk code t) (hn : ∀ k, k < text.size → t (text.getD k 0) = false) :
    ((Sre.forSearch code text 0 0 text.size false).runFor 4).outcome = some .failed := by
  obtain ⟨b, hb⟩ := ok.hdr
  unfold Sre.forSearch
  dsimp only
  split
  · rfl
  · unfold Sre.M.attemptFrom
    rw [if_neg (by
      unfold Sre.M.hasFirstSet
      show ¬ (!((match Sre.ops[code.getD 0 0]? with | some .INFO => true | _ => false) && code.getD 2 0 == 4)) = true
      rw [ok.info, ok.flag]; decide)]
    split
    · rename_i e
      obtain ⟨_, e'⟩ := adm_none rfl rfl rfl ok.set5 hn e
      cases e'
    · rfl
    · rename_i e
      obtain ⟨_, e'⟩ := adm_none rfl rfl rfl ok.set5 hn e
      cases e'
end
section
open PySem.Builtin.Re
structure PatOk (K : Frag) (pa : Addr) (code : Array Nat) (t : Nat → Bool) : Prop extends CodeOk code t where
  obj : ∃ sl src fl ta g, K.lookup pa = some ⟨.type "re.Pattern", none, .fields #[src, fl, .int 0 g, .none, .none, .ref ta, .int 0 g], sl⟩ ∧ ∃ oc od' items n sl', K.lookup ta = some ⟨oc, od', .seq items n, sl'⟩ ∧ (items.map reRawOf).map (·.toNat) = code
theorem reDrive_one {M : Model} {A : Around} {E : Value → Shared → Prop} {s : Shared} {Q : Sre.M → Shared → Prop} {m : Sre.M} {o : Sre.Outcome} (h : (m.runFor 4).outcome = some o) (q : Q (m.runFor 4) s) (n : Nat) : wpAny M A (reDrive (n + 1) m) Q E s := by
  rw [reDrive]
  show wpAny M A (if (m.runFor 4).outcome.isSome = true then pure (m.runFor 4) else _) Q E s
  rw [h]
  exact wpAny_pure q
theorem reRun_failed {M : Model} {A : Around} {E : Value → Shared → Prop} {s : Shared} {Q : Option Sre.M → Shared → Prop} {m : Sre.M} (h : (m.runFor 4).outcome = some .failed) (q : Q none s) : wpAny M A (reRunToEnd m) Q E s := by
  unfold reRunToEnd
  have e : (2 ^ 64 : Nat) = (2 ^ 64 - 1) + 1 := by decide
  rw [e]
  refine wpAny_bind (reDrive_one h ?_ _)
  refine wpAny_bind (Qv _ _ ?_ _)
  rw [h]
  exact wpAny_pure q
section
variable {c : Ctx0} {b : Nat} {f : FI}
theorem re_target {A : Around} {s : Shared} {pa ta : Addr} {code : Array Nat} {x : Str} {tk g : Tok} {src fl : Value} {sl sl' : Array (Option Value)} {oc : Value} {od' : Option Addr} {items : Array Value} {n : Nat} (ho : s.heap.get? pa = some ⟨.type "re.Pattern", none, .fields #[src, fl, .int 0 g, .none, .none, .ref ta, .int 0 g], sl⟩)
    (ho' : s.heap.get? ta = some ⟨oc, od', .seq items n, sl'⟩) (hcode : (items.map reRawOf).map (·.toNat) = code) (hsz : x.cps.size ≤ 16777216) {Q : ReTarget → Shared → Prop} (h : Q ⟨.ref pa, .str x tk, code, x.cps, 0, 0, 0, x.cps.size⟩ s) : wpAny (model c.prog c.w) A (reTarget "re.Pattern.search" "search" ⟨[.ref pa, .str x tk], []⟩) Q noE s := by
  unfold reTarget
  dsimp only
  rw [reNamed_one]
  refine wpAny_bind (wpAny_pure ?_)
  refine wpAny_bind (wpAny_pure (wpAny_bind (wpAny_pure ?_)))
  refine wpAny_bind (wpAny_fieldsOf ho rfl ?_)
  rw [reText_str]
  refine wpAny_bind (wpAny_pure ?_)
  dsimp only
  rw [if_neg (by simp [reRawNat]), if_neg (by simp [reRawNat]), reNoColl]
  refine wpAny_bind (wpAny_pure ?_)
  refine wpAny_bind ?_
  unfold reRawItems
  refine wpAny_bind (wpAny_seqItems ho' rfl ?_)
  refine wpAny_pure (wpAny_pure ?_)
  have e1 : min (Int.toNat 0) x.cps.size = 0 := by simp
  have e2 : min (2 ^ 63 - 1 : Int).toNat x.cps.size = x.cps.size := by
    rw [Nat.min_eq_right]
    have : (2 ^ 63 - 1 : Int).toNat = 9223372036854775807 := by decide
    omega
  rw [e1, e2]
  show Q ⟨.ref pa, .str x tk, (items.map reRawOf).map (·.toNat), x.cps, 0, 0, 0, x.cps.size⟩ s
  rw [hcode]
  exact h
noncomputable def searchG (pa : Addr) (t : Nat → Bool) (ps : List PV) : SM PV := fun st => pik fun r => ∃ x, P4 (ps = [.raw (.ref pa), .str x]) (x.cps.all (fun u => !t u) = true) (x.cps.size ≤ 16777216) (r = (.none, st))
theorem search_of {pa : Addr} {t : Nat → Bool} {x : Str} {st : List AO} (h1 : x.cps.all (fun u => !t u) = true) (h2 : x.cps.size ≤ 16777216) : searchG pa t [.raw (.ref pa), .str x] st = some (.none, st) :=
  pik_of ⟨_, rfl, h1, h2, rfl⟩ fun z q' => by obtain ⟨_, _, _, _, e⟩ := q'; exact e
theorem op_search {pa : Addr} {code : Array Nat} {t : Nat → Bool} (ok : PatOk c.K pa code t) : OpL c b (fun vs => call (.builtin "re.Pattern.search") vs) (searchG pa t) := by
  constructor
  intro A hA ρ s st vs ps y st' e r R
  obtain ⟨x, rfl, hn, hsz, e'⟩ := Zo e
  clear e; cases e'
  obtain ⟨_, _, rfl, r1, r2⟩ := rvs2 r
  cases r1
  obtain ⟨tk, rfl⟩ := r2.inv
  obtain ⟨sl, src, fl, ta, g, hp, oc, od', items, n, sl', ht, hcode⟩ := ok.obj
  have ho := R.top _ _ hp
  have ho' := R.top _ _ ht
  refine wpAny_call_entry slot_re ⟨_, ho, rfl⟩ entry_re ?_ (args_re _ _)
  unfold Builtin.«re.Pattern.search»
  refine wpAny_bind (re_target ho ho' hcode hsz ?_)
  unfold reAnswer
  refine wpAny_bind (reRun_failed (search_fail ok.toCodeOk fun k hk => ?_) ?_)
  · have := Array.all_eq_true.mp hn k hk
    rw [Array.getD_eq_getD_getElem?, Array.getElem?_eq_getElem hk]
    simpa using this
  · exact wpAny_pure ⟨_, rfl, EndsS.here R .none⟩
noncomputable def isPat (pa : Addr) (p : PV) (_ : List AO) : Bool := pikB (p = .raw (.ref pa))
theorem meth_search {pa : Addr} {code : Array Nat} {t : Nat → Bool} (ok : PatOk c.K pa code t) : MethAt c "search" (isPat pa) (.builtin "re.Pattern.search") := by
  constructor
  intro A pl ρ s st v p Q hP r R h
  obtain rfl := X7 hP
  cases r
  obtain ⟨sl, src, fl, ta, g, hp, _⟩ := ok.obj
  have ho := R.top _ _ hp
  exact getMethod_builtin ⟨_, ho, rfl⟩ Jy slot_re type_re (fun a' q => by cases q; exact ⟨_, ho, rfl⟩) h
end
end
noncomputable abbrev codeN : Array Nat := #[14, 10, 4, 1, 1, 22, 0, 31, 16, 127, 0, 13, 7, 22, 0, 31, 16, 127, 0, 1]
noncomputable def ctlN (u : Nat) : Bool := (0 ≤ u && u ≤ 31) || u == 127
theorem code_names : CodeOk codeN ctlN where
  hdr := ⟨11, rfl⟩
  info := rfl
  flag := rfl
  set5 := fun u seen => by
    have e : Sre.inSet codeN u codeN.size 5 true seen = (if (0 ≤ u && u ≤ 31) = true then .ok (true, seen.add 22) else if (u == 127) = true then .ok (true, (seen.add 22).add 16) else .ok (false, ((seen.add 22).add 16).add 0)) := rfl
    rw [e]
    unfold ctlN
    by_cases h1 : (0 ≤ u && u ≤ 31) = true
    · exact ⟨_, by rw [if_pos h1, h1]; rfl⟩
    · rw [if_neg h1]
      have h1' : (0 ≤ u && u ≤ 31) = false := by simpa using h1
      by_cases h2 : (u == 127) = true
      · exact ⟨_, by rw [if_pos h2, h1', h2]; rfl⟩
      · have h2' : (u == 127) = false := by simpa using h2
        exact ⟨_, by rw [if_neg h2, h1', h2']; rfl⟩
noncomputable abbrev codeC (w0 w1 w2 w3 w4 w5 w6 w7 : Nat) : Array Nat := #[14, 14, 4, 1, 1, 9, w0, w1, w2, w3, w4, w5, w6, w7, 0, 13, 11, 9, w0, w1, w2, w3, w4, w5, w6, w7, 0, 1]
noncomputable def Qx (w0 w1 w2 w3 w4 w5 w6 w7 u : Nat) : Bool := u < 256 && ((codeC w0 w1 w2 w3 w4 w5 w6 w7).getD (5 + (1 + u / 32)) 0).testBit (u % 32)
theorem code_words (w0 w1 w2 w3 w4 w5 w6 w7 : Nat) : CodeOk (codeC w0 w1 w2 w3 w4 w5 w6 w7) (Qx w0 w1 w2 w3 w4 w5 w6 w7) where
  hdr := ⟨15, rfl⟩
  info := rfl
  flag := rfl
  set5 := fun u seen => by
    have e : Sre.inSet (codeC w0 w1 w2 w3 w4 w5 w6 w7) u (codeC w0 w1 w2 w3 w4 w5 w6 w7).size 5 true seen = (if Qx w0 w1 w2 w3 w4 w5 w6 w7 u = true then .ok (true, seen.add 9) else .ok (false, (seen.add 9).add 0)) := rfl
    rw [e]
    cases Qx w0 w1 w2 w3 w4 w5 w6 w7 u with
    | true => exact ⟨_, rfl⟩
    | false => exact ⟨_, rfl⟩
theorem slot_ci_next : Slot "callable_iterator" "__next__" "callable_iterator.__next__" :=
  .of (owner := "callable_iterator") (n := "__next__") (by rw [typeLookup_type, builtinLookup_eq_fast]; kernel_rfl) (by decide +kernel) (by decide +kernel) (by decide +kernel)
    (by first | exact .inl (by decide +kernel) | exact .inr (by decide +kernel)) (by rw [isSubtype_type]; kernel_rfl)
theorem slot_ci_iter : Slot "callable_iterator" "__iter__" "callable_iterator.__iter__" :=
  .of (owner := "callable_iterator") (n := "__iter__") (by rw [typeLookup_type, builtinLookup_eq_fast]; kernel_rfl) (by decide +kernel) (by decide +kernel) (by decide +kernel)
    (by first | exact .inl (by decide +kernel) | exact .inr (by decide +kernel)) (by rw [isSubtype_type]; kernel_rfl)
theorem entry_ci_next : entryFor table "callable_iterator.__next__" = some Builtin.«callable_iterator.__next__» := entryFor_of_tree (by kernel_rfl)
theorem entry_ci_iter : entryFor table "callable_iterator.__iter__" = some Builtin.«dict_keyiterator.__iter__» :=
  entryFor_alias (id' := "dict_keyiterator.__iter__") (by kernel_rfl) rfl (by decide +kernel) (by kernel_rfl)
theorem args_ci_next (a : Value) : argsOk "callable_iterator.__next__" ⟨[a], []⟩ := by unfold argsOk; kernel_rfl
theorem args_ci_iter (a : Value) : argsOk "callable_iterator.__iter__" ⟨[a], []⟩ := by unfold argsOk; kernel_rfl
theorem entry_iter : entryFor table "iter" = some Builtin.«iter» := entryFor_of_tree (by kernel_rfl)
theorem plain_iter : plainId "iter" = true := by decide +kernel
theorem check_iter (a b : Value) : checkBuiltinCall "iter" ⟨[a, b], []⟩ = pure () := by kernel_rfl
theorem look_method_call : typeLookup (.type "method") "__call__" = pure (some (.builtin "method.__call__")) := by rw [typeLookup_type, builtinLookup_eq_fast]; kernel_rfl
theorem J6 {M : Model} {A : Around} {E : Value → Shared → Prop} {s : Shared} {f : Value} {pos : List Value} {Q : Value → Shared → Prop}
    (hc : codeAny M A (.call f ⟨pos, []⟩) (fun r s' => match r with | .ok (.ret v) => Q v s' | .ok _ => False | .error e => E e s') s) : wpAny M A (callBorrowed f pos) Q E s := fun Γ p hΓ => by
  unfold callBorrowed
  show wpCode M (Γ.enter (.call f ⟨pos, []⟩) none p) _ p s
  refine wpCode_mono (fun r s' h => ?_) (hc _ p rfl (hΓ.enter _ none p (by intro x; cases x)))
  rcases r with e | (v | _ | _ | _) <;> exact h
theorem codeAny_bound {prog : Program} {w : World} {A : Around} {s : Shared} {b fa : Addr} {x : Value} {a : Args} {R : Result → Shared → Prop} (hb : s.heap.get? b = some { cls := .type "method", data := .fields #[.ref fa, x] })
    (hq : codeAny (model prog w) A (.call (.ref fa) { a with pos := x :: a.pos }) R s) : codeAny (model prog w) A (.call (.ref b) a) R s := by
  refine codeAny_of_tree ?_
  show wpAny _ A.in1 (callAny (.ref b) a) _ _ _
  unfold callAny
  refine wpAny_bind (wpAny_load hb ?_)
  exact wpAny_pure ⟨rfl, hq⟩
theorem Jx {M : Model} {A : Around} {E : Value → Shared → Prop} {s : Shared} {b fa : Addr} {x : Value} {of : Obj} {fd : FuncData} {Q : Bool → Shared → Prop} (hb : s.heap.get? b = some { cls := .type "method", data := .fields #[.ref fa, x] })
    (hf : s.heap.get? fa = some of) (hd : of.data = .func fd) (h : Q true s) : wpAny M A (borrowsExactly (.ref b)) Q E s := by
  unfold borrowsExactly
  refine wpAny_bind (wpAny_load hb ?_)
  show wpAny _ _ (load fa >>= _) _ _ _
  refine wpAny_bind (wpAny_load hf ?_)
  rw [hd]
  exact wpAny_pure h
theorem wpAny_slotLetsGo {M : Model} {A : Around} {E : Value → Shared → Prop} {s : Shared} {who : String} {busy : Code → Bool} {b fa : Addr} {x : Value} {of : Obj} {fd : FuncData} {Q : Unit → Shared → Prop} (hb : s.heap.get? b = some { cls := .type "method", data := .fields #[.ref fa, x] })
    (hf : s.heap.get? fa = some of) (hd : of.data = .func fd) (h : Q () s) : wpAny M A (slotLetsGo who (.ref b) busy) Q E s := by
  unfold slotLetsGo
  refine wpAny_bind (Jx hb hf hd ?_)
  exact wpAny_pure h
theorem Jw {prog : Program} {w : World} {A : Around} {α : Type} {s : Shared} {E : Value → Shared → Prop} {Q : α → Shared → Prop} (hh : A.handled = none)
    (h : ∀ e h', (∀ a o, s.heap.get? a = some o → h'.get? a = some o) → (∃ o, h'.get? e = some o ∧ o.cls = .type "StopIteration") → E (.ref e) { s with heap := h' }) : wpAny (model prog w) A (Builtin.SmallTypes.stopIteration : Sem α) Q E s := by
  unfold Builtin.SmallTypes.stopIteration
  refine wpAny_bind ?_
  simp only [newExc, newTuple]
  refine wpAny_bind (wpAny_newObj_type ?_ (by size_fits))
  refine wpAny_bind (m := firstArgMember _ _) (wpAny_of_eq (a := Value.none) (by first | rfl | (simp only [firstArgMember]; rfl)) ?_)
  refine wpAny_newObj_type ?_ (by size_fits)
  simp only [raiseNew]
  refine wpAny_bind (wpAny_handled ?_)
  rw [hh]
  refine wpAny_bind (wpAny_pure (wpAny_throw ?_))
  exact h _ _ (fun a o e => Heap.get?_push_of_some _ (Heap.get?_push_of_some _ e)) ⟨_, Heap.get?_push_size _ rfl, rfl⟩
section
variable {c : Ctx0} {b : Nat} {f : FI}
theorem ite_then {α : Type} {p : Prop} [Decidable p] {x : Option α} {y : α} (e : (if p then x else none) = some y) : p ∧ x = some y := by
  by_cases h : p
  · rw [if_pos h] at e; exact ⟨h, e⟩
  · rw [if_neg h] at e; exact (nos e).elim
noncomputable def fnIn (K : Frag) (fa : Addr) : Prop := ∃ of fd, K.lookup fa = some of ∧ of.data = .func fd
theorem RelS.methAt {K : Frag} {ρ : Rho} {st : List AO} {h : Heap} (R : RelS K ρ st h) {j : Nat} {a : Addr} {fv : Value} {self : PV} (e : headAt ρ j = some a) (q : st[j]? = some (.meth fv self)) :
    ∃ u, P3 (h.get? a = some { cls := .type "method", data := .fields #[fv, u] }) (RV h ρ u self) (ρ.ents[j]? = some [a]) := by
  obtain ⟨r, hr⟩ := Yr e
  obtain ⟨a', u, e1, e2, e3⟩ := R.objs j _ _ hr q
  cases e1
  exact ⟨u, e2, e3, hr⟩
theorem RelS.citerAt {K : Frag} {ρ : Rho} {st : List AO} {h : Heap} (R : RelS K ρ st h) {j : Nat} {a : Addr} {m z : PV} (e : headAt ρ j = some a) (q : st[j]? = some (.citer m z)) :
    ∃ u v, P4 (h.get? a = some { cls := .type "callable_iterator", data := .fields #[u, v, .bool false] }) (RV h ρ u m) (RV h ρ v z) (ρ.ents[j]? = some [a]) := by
  obtain ⟨r, hr⟩ := Yr e
  obtain ⟨a', u, v, e1, e2, e3, e4⟩ := R.objs j _ _ hr q
  cases e1
  exact ⟨u, v, e2, e3, e4, hr⟩
noncomputable def nextC (fa : Addr) (G : List PV → SM PV) (p : PV) : SM (Option PV) := fun st => pik fun r => ∃ i j z self x st' w, P7 (p = .ref i) (st[i]? = some (.citer (.ref j) (.str z))) (st[j]? = some (.meth (.ref fa) self)) (G [self] st = some (.str x, st')) (st'[i]? = some (.citer (.ref j) (.str z))) (st'[j]? = some (.meth (.ref fa) w)) (r = if (z == x) = true then (none, st'.set i .cdone) else (some (.str x), st'))
theorem nextC_of {fa : Addr} {G : List PV → SM PV} {st st' : List AO} {i j : Nat} {z x : Str} {self w : PV} {r : Option PV × List AO} (q : st[i]? = some (.citer (.ref j) (.str z))) (qm : st[j]? = some (.meth (.ref fa) self)) (e : G [self] st = some (.str x, st'))
    (q1 : st'[i]? = some (.citer (.ref j) (.str z))) (qm1 : st'[j]? = some (.meth (.ref fa) w)) (h : (if (z == x) = true then (none, st'.set i .cdone) else (some (.str x), st')) = r) : nextC fa G (.ref i) st = some r :=
  pik_of ⟨_, _, _, _, _, _, _, rfl, q, qm, e, q1, qm1, h.symm⟩ fun y q' => by obtain ⟨_, _, _, _, _, _, _, a0, a1, a2, a3, _, _, a6⟩ := q'; cases a0; cases q.symm.trans a1; cases qm.symm.trans a2; cases e.symm.trans a3; exact a6.trans h
theorem Jr {h : Heap} {a : Addr} {o o' : Obj} {f : Obj → Obj} (e : h.get? a = some o) (hf : f o = o') (nf : o'.isFreed = false := by rfl) : (h.update a f).get? a = some o' := by
  rw [Heap.get?_update_self _ e (by rw [hf]; exact nf), hf]
theorem op_nextC {fa : Addr} {G : List PV → SM PV} (hfn : fnIn c.K fa) (o : FunK c b (.ref fa) 1 [] G) : Op1 c (b + 1) RV RVo pyNext (nextC fa G) := by
  constructor
  intro A hA ρ s st x p y st' e r R
  obtain ⟨i, j, z', self, x, st₁, w', rfl, q, qm, eG, q1, qm1, e'⟩ := Zo e
  clear e
  obtain ⟨a, hd, rfl⟩ := r.inv
  obtain ⟨u, v, h0, ru, rv, he⟩ := R.citerAt hd q
  obtain ⟨m, hm, rfl⟩ := ru.inv
  obtain ⟨tz, rfl⟩ := rv.inv
  obtain ⟨us, hm0, rs, _⟩ := R.methAt hm qm
  obtain ⟨of, fd, hof, hfd⟩ := hfn
  have hof' := R.top _ _ hof
  have hT : s.TypeIs (.ref a) "callable_iterator" := ⟨_, h0, rfl⟩
  unfold pyNext
  refine wpAny_bind (wpAny_attempt (wpAny_callSpecial?_slot (name := Str.ofString "__next__") hT slot_ci_next (wpAny_call_entry slot_ci_next hT entry_ci_next ?_ (args_ci_next _))))
  unfold Builtin.«callable_iterator.__next__»
  show wpAny _ _ (field (.ref a) 2 >>= _) _ _ s
  refine wpAny_bind (wpAny_field h0 rfl (x := .bool false) rfl ?_)
  show wpAny _ _ (field (.ref a) 0 >>= _) _ _ s
  refine wpAny_bind (wpAny_field h0 rfl (x := .ref m) rfl ?_)
  refine wpAny_bind (wpAny_attempt ?_)
  unfold callOutOfASlot
  refine wpAny_bind (Jx hm0 hof' hfd ?_)
  rw [if_pos rfl]
  refine J6 (codeAny_bound hm0 ?_)
  have hA1 : AOk b A.in1 := ⟨hA.handled, by have := hA.depth; show A.depth + 2 * b ≤ 900; omega, by have := hA.units; show A.units + 1 + 20 * b ≤ 9000; omega⟩
  refine codeAny_mono (o.code (hA1.le (Nat.le_refl _)) eG (.cons rs .nil) R) fun r s₁ z => ?_
  rcases r with e | (v | _ | _ | _) <;> first | exact z.elim | skip
  obtain ⟨ρ₁, S₁, g₁, sm₁, rx⟩ := z
  obtain ⟨tx, rfl⟩ := rx.inv
  have hd1 : headAt ρ₁ i = some a := J0 g₁.pre hd
  obtain ⟨u', v', h1, ru1, rv1, he1⟩ := S₁.citerAt hd1 q1
  obtain ⟨m1, hm1, rfl⟩ := ru1.inv
  obtain ⟨tz1, rfl⟩ := rv1.inv
  obtain ⟨us1, hm10, _, _⟩ := S₁.methAt hm1 qm1
  have hof1 := S₁.top _ _ hof
  refine wpAny_bind (wpAny_field h1 rfl (x := .bool false) rfl ?_)
  refine wpAny_bind (wpAny_field h1 rfl (x := .str z' tz1) rfl ?_)
  refine wpAny_bind (wpAny_holding (eqBool_str ?_))
  cases hzx : z' == x with
  | false =>
    rw [hzx, if_neg (by decide)] at e'
    cases e'
    exact wpAny_pure ⟨_, rfl, wpAny_pure ⟨ρ₁, S₁, g₁, sm₁, .some (.str _ _)⟩⟩
  | true =>
    rw [hzx, if_pos rfl] at e'
    cases e'
    refine wpAny_bind (wpAny_rule ?_)
    show wpAny _ _ ((field (.ref a) 0 >>= fun v => slotLetsGo _ v _ >>= fun _ => setField (.ref a) 0 .none >>= fun _ => setField (.ref a) 1 .none >>= fun _ => setField (.ref a) 2 (.bool true)) >>= _) _ _ _
    refine wpAny_bind (wpAny_bind (wpAny_field h1 rfl (x := .ref m1) rfl ?_))
    refine wpAny_bind (wpAny_slotLetsGo hm10 hof1 hfd ?_)
    refine wpAny_bind (wpAny_setField h1 rfl (by simp) ?_)
    have h2 := Jr (f := Obj.mapFields (·.setIfInBounds 0 .none)) h1 rfl
    refine wpAny_bind (wpAny_setField h2 rfl (by simp) ?_)
    have h3 := Jr (f := Obj.mapFields (·.setIfInBounds 1 .none)) h2 rfl
    refine wpAny_setField h3 rfl (by simp) ?_
    have h4 := Jr (f := Obj.mapFields (·.setIfInBounds 2 (.bool true))) h3 rfl
    have hs : ∀ b o, s₁.heap.get? b = some o → b ≠ a → (((s₁.heap.update a (Obj.mapFields (·.setIfInBounds 0 .none))).update a (Obj.mapFields (·.setIfInBounds 1 .none))).update a (Obj.mapFields (·.setIfInBounds 2 (.bool true)))).get? b = some o := fun b o e nb =>
      (((Heap.SameBut.update ..).2 b nb).trans (((Heap.SameBut.update ..).2 b nb).trans ((Heap.SameBut.update ..).2 b nb))).trans e
    refine Jw hA.handled fun ev h' hk he => ?_
    obtain ⟨oe, hoe, hoc⟩ := he
    refine wpAny_bind (wpAny_isInstance (T := "StopIteration") (b := true) ⟨_, hoe, hoc⟩ isSubtype_stop ?_)
    obtain ⟨S₂, g₂⟩ := S₁.put (i := i) (ao' := .cdone) (h' := h') he1 (fun b o e nb => hk b o (hs b o e (by simpa using nb))) (fun b m => by rw [List.mem_singleton.mp m]; exact ⟨_, hk _ _ h4⟩) fun _ => ⟨a, _, _, rfl, hk _ _ h4⟩
    exact wpAny_pure ⟨ρ₁, S₂, g₁.trans g₂, sm₁.trans ⟨rfl, rfl, rfl⟩, .none⟩
noncomputable def iterG (ps : List PV) : SM PV := fun st => pik fun r => ∃ j z fa self, P3 (ps = [.ref j, z]) (st[j]? = some (.meth (.ref fa) self)) (r = (.ref st.length, st ++ [.citer (.ref j) z]))
theorem iter_get {st : List AO} {j : Nat} {z self : PV} {fa : Addr} (h : st[j]? = some (.meth (.ref fa) self)) : iterG [.ref j, z] st = some (.ref st.length, st ++ [.citer (.ref j) z]) :=
  pik_of ⟨_, _, _, _, rfl, h, rfl⟩ fun z q' => by obtain ⟨_, _, _, _, e, _, e'⟩ := q'; cases e; exact e'
theorem op_iter : OpL c b (fun vs => call (.builtin "iter") vs) iterG := by
  constructor
  intro A hA ρ s st vs ps y st' e r R
  obtain ⟨j, z, fa, self, rfl, q, e'⟩ := Zo e
  clear e; cases e'
  obtain ⟨v, u, rfl, r1, r2⟩ := rvs2 r
  cases r1 with | @ref m _ hd => ?_
  obtain ⟨us, hm0, rs, _⟩ := R.methAt hd q
  have hT : s.TypeIs (.ref m) "method" := ⟨_, hm0, rfl⟩
  refine wpAny_call (codeAny_call_builtin plain_iter entry_iter (wpAny_of_eq (check_iter _ _) ?_))
  unfold Builtin.«iter»
  refine wpAny_bind (m := someArgs "iter" 1 2 ⟨[.ref m, u], []⟩) (wpAny_of_eq (a := [.ref m, u]) rfl ?_)
  refine wpAny_bind (wpAny_specialOf hT look_method_call ?_)
  refine wpAny_bind (wpAny_rule ?_)
  refine wpAny_bind (wpAny_newObj_type (wpAny_pure ?_))
  have k : ∀ a o, s.heap.get? a = some o → (s.heap.push { cls := .type "callable_iterator", data := .fields [.ref m, u, .bool false].toArray }).get? a = some o := fun a o e => Heap.get?_push_of_some _ e
  have hget : (s.heap.push { cls := .type "callable_iterator", data := .fields [.ref m, u, .bool false].toArray }).get? s.heap.objs.size = some { cls := .type "callable_iterator", data := .fields #[.ref m, u, .bool false] } := Heap.get?_push_size _ rfl
  obtain ⟨S, g⟩ := R.push (as := [s.heap.objs.size]) (ao := .citer (.ref j) z) k (fun a m => by rw [List.mem_singleton.mp m]; exact get_ge (Nat.le_refl _)) (fun a m => by rw [List.mem_singleton.mp m]; exact ⟨_, hget⟩) (List.nodup_cons.mpr ⟨by simp, List.nodup_nil⟩)
    fun g => ⟨_, _, _, rfl, hget, (RV.ref hd).grow g noFr, r2.grow g noFr⟩
  exact ⟨_, S, g, ⟨rfl, rfl, rfl⟩, .ref (by rw [← R.len]; exact Xl)⟩
noncomputable def isCiter (st : List AO) (p : PV) : Bool := pikB (∃ j m z, p = .ref j ∧ st[j]? = some (.citer m z))
noncomputable def stepE (n : Nat) (N : SM (Option PV)) (S : PV → FM Unit) (B : FM PF) : FM PF := match n with
  | 0 => failE
  | n + 1 => bindE (liftS N) fun o => match o with
    | none => pureE .next
    | some x => bindE (S x) fun _ => bindE B (loopK (stepE n N S B))
theorem citer_self {A : Around} {ρ : Rho} {st : List AO} {s : Shared} {v : Value} {p : PV} {E : Value → Shared → Prop} {Q : Value → Shared → Prop} (R : RelS c.K ρ st s.heap) (r : RV s.heap ρ v p) (h : isCiter st p = true) (q : Q v s) : wpAny (model c.prog c.w) A (pyIter v) Q E s := by
  obtain ⟨j, m, z, rfl, e⟩ := X7 h
  obtain ⟨a, hd, rfl⟩ := r.inv
  have hT : s.TypeIs (.ref a) "callable_iterator" := by obtain ⟨u, v, h0, _⟩ := R.citerAt hd e; exact ⟨_, h0, rfl⟩
  refine wpAny_pyIter_slot hT slot_ci_iter (wpAny_call_entry slot_ci_iter hT entry_ci_iter ?_ (args_ci_iter _))
  show wpAny _ _ (ret (.ref a)) _ _ s
  exact wpAny_pure ⟨_, rfl, "callable_iterator", _, hT, slot_ci_next.lookup, q⟩
theorem Q1 {x : Str} {px ps : Pos} {iter : Expr} {body : List Stmt} {I : FM PV} {G : PV → SM (Option PV)} {S : PV → FM Unit} {B : FM PF} {N : Nat}
    (di : Den c b f RV (eval iter f.env) I) (dn : Op1 c b RV RVo pyNext G) (ds : DenA c b f (.Name x px) S) (db : Den c b f RFl (execs body f.env) B)
    (hs : ∀ x, foldedSetIterable iter f.env x = pure x := by intro _; rfl) : Den c b f RFl (exec (.For (.Name x px) iter body [] ps) f.env) (bindE I fun p => guardE (fun st => isCiter st p) (stepE N (G p) S B)) := by
  constructor
  intro A hA ρ s es y es' e R
  obtain ⟨p, es₁, e1, e⟩ := Ze e
  obtain ⟨hc, e⟩ := Xa e
  refine wpAny_For (wpAny_mono (di.run A hA ρ s es p es₁ e1 R) (fun v s₁ z => ?_) fun _ _ z => z) hs
  obtain ⟨ρ₁, R₁, g₁, q₁, r₁⟩ := z
  refine citer_self R₁.s r₁ hc ?_
  refine codeAny_forLoop_any (R := fun r s' => match r with | .ok fl => Ends c.K f RFl ρ s y es' fl s' | .error e => cameBackBy _ A f.env noE e s')
    (fun n s₂ => ∃ ρ₂ es₂, P4 (stepE n (G p) S B es₂ = some (y, es')) (RelF c.K f ρ₂ es₂ s₂.heap) (Grow f.fr ρ₁ s₁.heap ρ₂ s₂.heap) (Same s₁ s₂)) ?_ N ⟨ρ₁, es₁, e, R₁, .refl, .refl⟩
  rintro n s₂ ⟨ρ₂, es₂, e2, R₂, g₂, q₂⟩
  cases n with
  | zero => exact (nos e2).elim
  | succ n =>
    obtain ⟨o, es₃, e3, e4⟩ := Ze e2
    obtain ⟨st₃, e3', rfl⟩ := Z7 e3
    refine wpAny_mono (dn.run A hA ρ₂ s₂ es₂.st v p o st₃ e3' (r₁.grow g₂ R₁.like) R₂.s) (fun u s₃ z => ?_) fun _ _ z => z.elim
    obtain ⟨ρ₃, S₃, g₃, q₃, ru⟩ := z
    have R₃ := R₂.ofS S₃ g₃
    have g13 := g₂.trans (g₃.wider (fr' := f.fr) (by simp))
    have q13 := q₂.trans q₃
    cases ru with
    | none => obtain ⟨rfl, rfl⟩ := spr e4; exact wpAny_execs_nil ⟨ρ₃, R₃, g₁.trans g13, q₁.trans q13, .next⟩
    | some ru =>
      obtain ⟨_, es₄, e5, e6⟩ := Ze e4
      obtain ⟨fl, es₅, e7, e8⟩ := Ze e6
      refine (show wpAny (model c.prog c.w) A (letOwnedTupleGo (.Name x px) v _) _ _ _ from wpAny_pure ?_)
      refine wpAny_mono (ds.run A hA ρ₃ s₃ _ _ _ () es₄ e5 ru R₃) (fun _ s₄ z => ?_) fun _ _ z => z.elim
      obtain ⟨ρ₄, R₄, g₄, q₄, _⟩ := z
      refine wpAny_mono (db.run A hA ρ₄ s₄ es₄ fl es₅ e7 R₄) (fun flv s₅ z => ?_) fun _ _ z => z.elim
      obtain ⟨ρ₅, R₅, g₅, q₅, rf⟩ := z
      have gg := g13.trans (g₄.trans g₅)
      have qq := q13.trans (q₄.trans q₅)
      cases rf with
      | next => exact ⟨n, Nat.lt_succ_self _, ρ₅, es₅, e8, R₅, gg, qq⟩
      | cont => exact ⟨n, Nat.lt_succ_self _, ρ₅, es₅, e8, R₅, gg, qq⟩
      | brk => obtain ⟨rfl, rfl⟩ := spr e8; exact ⟨ρ₅, R₅, g₁.trans gg, q₁.trans qq, .next⟩
      | ret r => obtain ⟨rfl, rfl⟩ := spr e8; exact ⟨ρ₅, R₅, g₁.trans gg, q₁.trans qq, .ret r⟩
end
section
variable {c : Ctx0} {b : Nat} {f : FI}
noncomputable def bindOk (K : Frag) (C : Addr) (name : Str) (fa : Addr) : Bool := findIn K (.ref C) "__getattribute__" == some (some (.builtin "object.__getattribute__")) && findIn K (.ref C) "__getattr__" == some none && findIn K (.ref C) name == some (some (.ref fa)) && specialIn K (.ref fa) "__get__" == some (some (.builtin "function.__get__")) && takesIn K (.ref fa) == some false && typeIn K (.ref fa) == some (.type "function") && (clsIn K C).isSome && !copiedNames.contains name
noncomputable def getB (C : Addr) (name : Str) (fa : Addr) (p : PV) : SM PV := fun st => pik fun r => ∃ i kvs, P4 (p = .ref i) (instOf st (.ref i) = some (C, kvs)) (kvGet kvs name = none) (r = (.ref st.length, st ++ [.meth (.ref fa) (.ref i)]))
theorem getB_of' {C : Addr} {name : Str} {fa : Addr} {st : List AO} {i : Nat} {kvs : List (Str × PV)} (h : instOf st (.ref i) = some (C, kvs)) (hn : kvGet kvs name = none) : getB C name fa (.ref i) st = some (.ref st.length, st ++ [.meth (.ref fa) (.ref i)]) :=
  pik_of ⟨_, _, rfl, h, hn, rfl⟩ fun z q' => by obtain ⟨_, _, e, _, _, r⟩ := q'; cases e; exact r
theorem op_getB {C fa : Addr} {name : Str} {expr : Bool} (hk : bindOk c.K C name fa = true) : Op1 c b RV RV (fun o => getAttr o name expr) (getB C name fa) := by
  constructor
  intro A hA ρ s st x z y st' e r R
  obtain ⟨i, kvs, rfl, hi, hn, e'⟩ := Zo e
  clear e; cases e'
  obtain ⟨i', a, d, es, n, ox, e1, rfl, hr, I, hd, hD, er⟩ := R.instAt r hi
  cases e1
  simp only [bindOk, Bool.and_eq_true, beq_iff_eq, Bool.not_eq_true', Option.isSome_iff_exists] at hk
  obtain ⟨⟨⟨⟨⟨⟨⟨h1, h2⟩, h3⟩, h4⟩, h5⟩, h6⟩, ⟨cd, h7⟩⟩, h8⟩ := hk
  have hf : findObj c.K C (some (W.dictOf es n)) name = some (.bind (.builtin "function.__get__") (.ref fa)) := by
    unfold findObj
    rw [h7, h3]
    simp only [Option.bind_some]
    rw [h4]
    simp only [Option.bind_some]
    rw [h5]
    simp only [Option.bind_some]
    have : W.ownOf cd (some (W.dictOf es n)) name = some none := by
      unfold W.ownOf
      split
      · show lookIn name (W.dictOf es n) = some none
        rw [lookIn_dict, Qq er hn]
      · rfl
    rw [this]
    simp only [Option.bind_some]
    rw [h8]
    rfl
  refine get_bind R.top I h1 hf h2 (wpAny_call (fn_get R.top h6 ?_))
  refine wpAny_of_eq (handedOut_of rfl) ?_
  have k : ∀ b o, s.heap.get? b = some o → (s.heap.push (methodObj (.ref fa) (.ref a))).get? b = some o := fun b o e => Heap.get?_push_of_some _ e
  have hget : (s.heap.push (methodObj (.ref fa) (.ref a))).get? s.heap.objs.size = some (methodObj (.ref fa) (.ref a)) := Heap.get?_push_size _ rfl
  obtain ⟨S, g⟩ := R.push (as := [s.heap.objs.size]) (ao := .meth (.ref fa) (.ref i)) k (fun a m => by rw [List.mem_singleton.mp m]; exact get_ge (Nat.le_refl _)) (fun a m => by rw [List.mem_singleton.mp m]; exact ⟨_, hget⟩) (List.nodup_cons.mpr ⟨by simp, List.nodup_nil⟩)
    fun g => ⟨_, _, rfl, hget, r.grow g noFr⟩
  exact ⟨_, S, g, ⟨rfl, rfl, rfl⟩, .ref (by rw [← R.len]; exact Xl)⟩
theorem den_attr_meth {o : Expr} {name : Str} {pos : Pos} {F : FM PV} {C fa : Addr} (d : Den c b f RV (eval o f.env) F) (hk : bindOk c.K C name fa = true) (hb : Xu o = true := by rfl) :
    Den c b f RV (eval (.Attribute o name pos) f.env) (bindE F fun p => liftS (getB C name fa p)) := by
  constructor
  intro A hA ρ s es y es' e R
  obtain ⟨p, es₁, e1, e⟩ := Ze e
  rw [arm_eval_Attribute, Yl hb]
  refine wpAny_bind (wpAny_mono (d.run A hA ρ s es p es₁ e1 R) (fun v s₁ z => ?_) fun _ _ z => z)
  obtain ⟨ρ₁, R₁, g₁, q₁, r₁⟩ := z
  refine wpAny_bind (wpAny_standAt (wpAny_bind (wpAny_holding (wpAny_mono ((Op1.k (op_getB hk)).run A hA ρ₁ s₁ es₁ v p y es' e r₁ R₁) (fun u s₂ z => ?_) fun _ _ z => z))))
  exact wpAny_bind (wpAny_letTemporaryGo (wpAny_pure (z.after g₁ q₁)))
noncomputable def ownMethOk (K : Frag) (C : Addr) (name : Str) : Bool := attrOk K C name && findIn K (.ref C) "__getattr__" == some none
noncomputable def ownClo (K : Frag) (C : Addr) (name : Str) (p : PV) (st : List AO) : Option PV := pik fun q => ∃ kvs i, P3 (instOf st p = some (C, kvs)) (kvGet kvs name = some (.ref i)) (q = .ref i)
theorem ownClo_of {K : Frag} {C : Addr} {name : Str} {p : PV} {st : List AO} {kvs : List (Str × PV)} {i : Nat} (h : instOf st p = some (C, kvs)) (hk : kvGet kvs name = some (.ref i)) : ownClo K C name p st = some (.ref i) :=
  pik_of ⟨_, _, h, hk, rfl⟩ fun z q' => by obtain ⟨_, _, e, e', r⟩ := q'; cases h.symm.trans e; cases hk.symm.trans e'; exact r
noncomputable def isClo (p : PV) (st : List AO) : Bool := pikB (∃ i tm names vals, p = .ref i ∧ st[i]? = some (.clo tm names vals))
theorem getMethod_own {A : Around} {pl : Sem Bool} {C : Addr} {name : Str} {ρ : Rho} {s : Shared} {st : List AO} {v : Value} {p q : PV} {Q : Value × List Value → Shared → Prop} {E : Value → Shared → Prop} (hk : ownMethOk c.K C name = true) (e : ownClo c.K C name p st = some q) (r : RV s.heap ρ v p) (R : RelS c.K ρ st s.heap)
    (h : ∀ u, RV s.heap ρ u q → Q (u, []) { s with toks := s.toks + 1 }) : wpAny (model c.prog c.w) A (getMethod v name pl) Q E s := by
  obtain ⟨kvs, i, hi, hq, rfl⟩ := Zo e
  obtain ⟨i', a, d, es, n, ox, e1, rfl, hr, I, hd, hD, er⟩ := R.instAt r hi
  obtain ⟨u, hu, ru⟩ := ents_get er hq
  simp only [ownMethOk, attrOk, Bool.and_eq_true, beq_iff_eq] at hk
  obtain ⟨⟨⟨h1, h2⟩, h3⟩, h4⟩ := hk
  obtain ⟨cd, hc, hcd⟩ := any_some h1
  have hf : findObj c.K C (some (W.dictOf es n)) name = some (.value u) := by
    unfold findObj
    rw [hc, h3]
    simp only [Option.bind_some]
    unfold W.ownOf
    rw [if_pos hcd]
    show ((lookIn name (W.dictOf es n)).bind _) = _
    rw [lookIn_dict, hu]
    rfl
  unfold getMethod specialOf
  refine wpAny_bind (wpAny_bind (I.type.here ((looks_findIn R.top h2).here ?_)))
  dsimp only
  rw [PySem.F.canon_object_ga, if_neg (by decide)]
  refine wpAny_bind (wpAny_bind (I.type.here ((looks_findIn R.top h4).here ?_)))
  refine wpAny_bind (wpAny_bind (I.type.here ((looks_findIn R.top h3).here ?_)))
  show wpAny _ _ (getAttr (.ref a) name >>= _) _ _ _
  exact wpAny_bind (get_value R.top I h2 hf (handed_of ru rfl) (wpAny_pure (h u ru)))
structure OpV (c : Ctx0) (b : Nat) (G : PV → List PV → SM PV) : Prop where
  run : ∀ A, AOk b A → ∀ ρ s st v p vs ps y st', G p ps st = some (y, st') → RV s.heap ρ v p → RVs s.heap ρ vs ps → RelS c.K ρ st s.heap → wpAny (model c.prog c.w) A (call v vs) (EndsS c.K RV ρ s y st') noE s
theorem isClo_obj {ρ : Rho} {st : List AO} {h : Heap} {v : Value} {p : PV} (R : RelS c.K ρ st h) (r : RV h ρ v p) (e : isClo p st = true) : ∃ a o fd, P3 (v = .ref a) (h.get? a = some o) (o.data = .func fd) := by
  obtain ⟨i, tm, names, vals, rfl, q⟩ := X7 e
  obtain ⟨a, hd, rfl⟩ := r.inv
  obtain ⟨r, hr⟩ := Yr hd
  obtain ⟨f, cs, e1, _, ⟨T, c', oc, vc, qq, x1, _⟩, _⟩ := R.objs i _ _ hr q
  cases e1
  exact ⟨_, _, _, rfl, x1, rfl⟩
theorem den_method_own {o : Expr} {name : Str} {apos pos : Pos} {args : List Expr} {C : Addr} {FO : FM PV} {FA : FM (List PV)} {G : PV → List PV → SM PV}
    (dO : Den c b f RV (eval o f.env) FO) (hk : ownMethOk c.K C name = true) (da : DenArgs c b f pos args FA) (op : OpV c b G)
    (hbase : Xu o = true := by rfl) (hline : (apos.endLine == pos.line) = true := by rfl) (ha : (args.all Z9 && decide (args.length < 29)) = true := by rfl) :
    Den c b f RV (eval (.Call (.Attribute o name apos) args [] pos) f.env) (bindE FO fun p => bindE (fun es => (ownClo c.K C name p es.st).map fun q => (q, es)) fun q => bindE FA fun ps => guardE (isClo q) (liftS (G q ps))) := by
  constructor
  intro A hA ρ s es y es' e R
  obtain ⟨p, es₁, e1, e⟩ := Ze e
  obtain ⟨q, es₁', e2, e⟩ := Ze e
  obtain ⟨q', hq, e2⟩ := Option.map_eq_some_iff.mp e2
  cases e2
  obtain ⟨ps, es₂, e3, e⟩ := Ze e
  obtain ⟨hcl, e⟩ := Xa e
  obtain ⟨st', e4, rfl⟩ := Z7 e
  rw [Bool.and_eq_true] at ha
  have hst := Yv (env := f.env) (pos := pos) ha.1
  have hlen : args.length < 29 := by simpa using ha.2
  have hfew : methodCallForm (args.length + ([] : List Keyword).length) (backTo pos (starEach args f.env)) (backToKw pos (keywordEach [] f.env)) = true := by
    unfold methodCallForm
    rw [hst]
    show (true && true && decide (args.length + 0 + 0 < 30)) = true
    simp; omega
  rw [arm_eval_Call, Yl hbase]
  refine wpAny_bind (wpAny_mono (dO.run A hA ρ s es p es₁ e1 R) (fun v s₁ z => ?_) fun _ _ z => z)
  obtain ⟨ρ₁, R₁, g₁, q₁, r₁⟩ := z
  refine wpAny_bind (wpAny_standAt ?_)
  have hpos : methodCallPos true o f.env apos pos = pure pos := by unfold methodCallPos; simp [hline]
  unfold methodCall
  rw [hfew]
  refine wpAny_bind (wpAny_holding (getMethod_own hk hq r₁ R₁.s fun u ru => ?_))
  refine wpAny_bind (wpAny_of_eq hpos ?_)
  have RT : RelF c.K f ρ₁ es₁ ({ s₁ with toks := s₁.toks + 1 } : Shared).heap := R₁
  refine callWith_of (P := fun h => ∃ a o fd, P3 (u = .ref a) (h.get? a = some o) (o.data = .func fd)) ?_ (fun h hP => ?_) (Yj hst (wpAny_mono (da.run A hA ρ₁ _ es₁ ps es₂ e3 RT) (fun vs s₂ z => ?_) fun _ _ z => z))
  · rw [show (backToKw pos (keywordEach [] f.env)) = [] from rfl, List.any_nil, Bool.or_false, List.any_eq_not_all_not, Bool.not_eq_false']
    simpa using hst
  · obtain ⟨a, o, fd, rfl, ho, hd⟩ := hP
    refine ⟨.frame, .inl rfl, fun A Q E s k q => ?_⟩
    unfold keeperOf
    refine wpAny_bind (wpAny_load (k _ _ ho) ?_)
    rw [hd]
    exact wpAny_pure q
  · obtain ⟨ρ₂, R₂, g₂, q₂, r₂⟩ := z
    have ru2 := ru.grow g₂ R₁.like
    refine ⟨isClo_obj R₂.s ru2 hcl, wpAny_mono (op.run A hA ρ₂ s₂ es₂.st u q vs ps y st' e4 ru2 r₂ R₂.s) (fun _ _ z => ?_) fun _ _ z => z⟩
    have := (z.toF R₂).after g₂ q₂
    exact this.tk.after g₁ ⟨q₁.1, q₁.2.1, q₁.2.2⟩
end
theorem Qf {α : Type} {l : List (List α)} {i : Nat} {as bs : List α} (e : l[i]? = some as) : ∃ p q, l.flatten = p ++ (as ++ q) ∧ (l.set i bs).flatten = p ++ (bs ++ q) := by
  induction l generalizing i with
  | nil => exact (nos e).elim
  | cons x l ih =>
    cases i with
    | zero => obtain rfl := Option.some.inj e; exact ⟨[], l.flatten, by simp, by simp⟩
    | succ i =>
      obtain ⟨p, q, h1, h2⟩ := ih (i := i) (by simpa using e)
      exact ⟨x ++ p, q, by simp [h1], by simp [h2]⟩
section
variable {K : Frag} {ρ ρ' : Rho} {st st' : List AO} {h : Heap}
theorem RelS.rearr (R : RelS K ρ st h) (len : ρ'.ents.length = st'.length) (perm : ρ'.own.Perm ρ.own) (head : ∀ i a, headAt ρ i = some a → headAt ρ' i = some a)
    (objs : Carry h ρ h ρ' → ∀ (i : Nat) (as : List Addr) (ao : AO), ρ'.ents[i]? = some as → st'[i]? = some ao → RO h ρ' as ao) : RelS K ρ' st' h ∧ Carry h ρ h ρ' := by
  have g : Carry h ρ h ρ' := ⟨fun a o e na => ⟨e, fun m => na (perm.mem_iff.mp m)⟩, head⟩
  exact ⟨⟨len, objs g, perm.nodup_iff.mpr R.nodup, fun a m => R.apart a (perm.mem_iff.mp m), R.top, R.nolim⟩, g⟩
noncomputable def Rho.open1 (ρ : Rho) (i : Nat) (f : Addr) (cs : List Addr) : Rho := ⟨ρ.ents.set i [f], cs ++ ρ.rsv⟩
theorem headAt_set {l : List (List Addr)} {r r' : List Addr} {i j : Nat} {f a : Addr} {as bs : List Addr} (e : l[i]? = some (f :: as)) : headAt ⟨l.set i (f :: bs), r⟩ j = some a ↔ headAt ⟨l, r'⟩ j = some a := by
  unfold headAt
  have hi : i < l.length := (List.getElem?_eq_some_iff.mp e).1
  by_cases q : i = j
  · subst q
    show (match (l.set i (f :: bs))[i]? with | some (a :: _) => some a | _ => none) = _ ↔ (match l[i]? with | some (a :: _) => some a | _ => none) = _
    rw [List.getElem?_set_self hi, e]
  · show (match (l.set i (f :: bs))[j]? with | some (a :: _) => some a | _ => none) = _ ↔ (match l[j]? with | some (a :: _) => some a | _ => none) = _
    rw [List.getElem?_set_ne q]
theorem perm_open {i : Nat} {f : Addr} {cs : List Addr} (e : ρ.ents[i]? = some (f :: cs)) : (ρ.open1 i f cs).own.Perm ρ.own := by
  obtain ⟨p, q, h1, h2⟩ := Qf (bs := [f]) e
  show ((ρ.ents.set i [f]).flatten ++ (cs ++ ρ.rsv)).Perm (ρ.ents.flatten ++ ρ.rsv)
  rw [h1, h2]
  simp only [List.append_assoc, List.cons_append, List.nil_append]
  refine List.Perm.append_left _ (List.Perm.cons _ ?_)
  rw [← List.append_assoc, ← List.append_assoc]
  exact List.Perm.append_right _ List.perm_append_comm
theorem RelS.openClo (R : RelS K ρ st h) {i : Nat} {f : Addr} {tm : FuncData} {names : List Str} {vals : List (Option PV)} (hd : headAt ρ i = some f) (q : st[i]? = some (.clo tm names vals)) :
    ∃ cs, ρ.ents[i]? = some (f :: cs) ∧ (cs.length = names.length ∧ vals.length = names.length) ∧ FnObj h ρ f tm (names.zip cs) ∧ RelS K (ρ.open1 i f cs) (st.set i (.fn tm (names.zip cs))) h ∧ Carry h ρ h (ρ.open1 i f cs) ∧
      ∀ (j : Nat) (d : Addr), cs[j]? = some d → ∃ u, h.IsCell d u ∧ RVo h (ρ.open1 i f cs) u ((vals[j]?).join) := by
  obtain ⟨cs, hr⟩ := Yr hd
  obtain ⟨f', cs', e1, l, x, y⟩ := R.objs i _ _ hr q
  cases e1
  have hi : i < ρ.ents.length := (List.getElem?_eq_some_iff.mp hr).1
  obtain ⟨S, g⟩ := R.rearr (ρ' := ρ.open1 i f cs) (st' := st.set i (.fn tm (names.zip cs))) (by show (ρ.ents.set i [f]).length = _; rw [List.length_set, List.length_set, R.len]) (perm_open hr)
    (fun j a e => (headAt_set (as := cs) (bs := []) hr).mpr e) fun g j as ao e e' => by
      by_cases hj : i = j
      · subst hj
        replace e : (ρ.ents.set i [f])[i]? = some as := e
        rw [List.getElem?_set_self hi] at e
        rw [List.getElem?_set_self (R.len ▸ hi)] at e'
        obtain rfl := Option.some.inj e; obtain rfl := Option.some.inj e'
        exact ⟨f, rfl, x.carry g fun _ e => e⟩
      · replace e : (ρ.ents.set i [f])[j]? = some as := e
        rw [List.getElem?_set_ne hj] at e
        rw [List.getElem?_set_ne hj] at e'
        exact (R.objs j as ao e e').carry g fun _ _ _ e => e
  refine ⟨cs, hr, l, x, S, g, fun j d hd => ?_⟩
  obtain ⟨o, u, a, b, c⟩ := y j d hd
  exact ⟨u, ⟨o, a, b⟩, c.carry g⟩
theorem RelS.closeClo {i : Nat} {f : Addr} {cs r : List Addr} {tm : FuncData} {names : List Str} {vals : List (Option PV)} (R : RelS K ρ st h) (hr : ρ.rsv.Perm (cs ++ r)) (q : st[i]? = some (.fn tm (names.zip cs))) (he : ρ.ents[i]? = some [f])
    (l : cs.length = names.length ∧ vals.length = names.length) (y : ∀ (j : Nat) (d : Addr), cs[j]? = some d → ∃ u, h.IsCell d u ∧ RVo h ρ u ((vals[j]?).join)) :
    RelS K ⟨ρ.ents.set i (f :: cs), r⟩ (st.set i (.clo tm names vals)) h ∧ Carry h ρ h ⟨ρ.ents.set i (f :: cs), r⟩ := by
  have hi : i < ρ.ents.length := (List.getElem?_eq_some_iff.mp he).1
  refine R.rearr (by show (ρ.ents.set i (f :: cs)).length = _; rw [List.length_set, List.length_set, R.len]) ?_ (fun j a e => (headAt_set (as := []) (bs := cs) he).mpr e) fun g j as ao e e' => ?_
  · obtain ⟨p, q, h1, h2⟩ := Qf (bs := f :: cs) he
    show ((ρ.ents.set i (f :: cs)).flatten ++ r).Perm (ρ.ents.flatten ++ ρ.rsv)
    rw [h1, h2]
    refine List.Perm.trans ?_ (List.Perm.append_left _ hr.symm)
    simp only [List.append_assoc, List.cons_append, List.nil_append]
    refine List.Perm.append_left _ (List.Perm.cons _ ?_)
    rw [← List.append_assoc, ← List.append_assoc]
    exact List.Perm.append_right _ List.perm_append_comm
  · by_cases hj : i = j
    · subst hj
      replace e : (ρ.ents.set i (f :: cs))[i]? = some as := e
      rw [List.getElem?_set_self hi] at e
      rw [List.getElem?_set_self (R.len ▸ hi)] at e'
      obtain rfl := Option.some.inj e; obtain rfl := Option.some.inj e'
      obtain ⟨f', e1, x⟩ := R.objs i _ _ he q
      cases e1
      refine ⟨f, cs, rfl, l, x.carry g fun _ e => e, fun j d hd => ?_⟩
      obtain ⟨u, ⟨o, a, b⟩, c⟩ := y j d hd
      exact ⟨o, u, a, b, c.carry g⟩
    · replace e : (ρ.ents.set i (f :: cs))[j]? = some as := e
      rw [List.getElem?_set_ne hj] at e
      rw [List.getElem?_set_ne hj] at e'
      exact (R.objs j as ao e e').carry g fun _ _ _ e => e
end
noncomputable def cloFd (tm : FuncData) (cl : List (Str × Addr)) (T : Value) (c' : Addr) : FuncData := { tm with closure := cl, closureTuple := T, code := .ref c' }
structure TmOk (tm : FuncData) (body : List Stmt) (pn ln : List Str) : Prop where
  body : tm.body = .stmts body
  co : tm.scope.isCoroutine = false
  gen : tm.scope.isGenerator = false
  kind : tm.scope.kind = .function
  glob : tm.globals = mainGlobals
  blt : tm.builtins = builtinsNs
  cell : ∀ x ∈ tm.scope.names, x.2 ≠ .cell
  par : ∀ x ∈ pn, tm.scope.names.lookup x = some .local
  nd : pn.Nodup
  sub : ∀ x ∈ pn, x ∈ ln
  bind : ∀ cl T c' s vs, vs.length = pn.length → BindsTo s (cloFd tm cl T c') ⟨vs, []⟩ (pn.zip vs)
section
variable {c : Ctx0} {b : Nat}
theorem op_clo {tm : FuncData} {body : List Stmt} {pn ln names : List Str} {li : List (Option Nat)} {F : FM PF} {G : PV → List PV → SM PV} (X : TmOk tm body pn ln) (hli : ln.map pn.idxOf? = li)
    (D : ∀ cs T c' L f, cs.length = names.length → Den c b ⟨callEnv (cloFd tm (names.zip cs) T c') L f, ln, names.zip cs⟩ RFl (execs body (callEnv (cloFd tm (names.zip cs) T c') L f)) F)
    (hG : ∀ p ps st y st', G p ps st = some (y, st') → ∃ i vals, p = .ref i ∧ st[i]? = some (.clo tm names vals) ∧ ps.length = pn.length ∧ ∀ cl, ∃ r es, P5 (F ⟨li.map fun o => o.bind fun i => ps[i]?, vals, st.set i (.fn tm cl)⟩ = some (r, es)) (es.st[i]? = some (.fn tm cl)) (retOf r = y) (es.cel.length = vals.length) (st' = es.st.set i (.clo tm names es.cel))) : OpV c (b + 1) G := by
  constructor
  intro A hA ρ s st v p vs ps y st' e r rr R
  obtain ⟨i, vals, rfl, q, hlen, hF⟩ := hG p ps st y st' e
  obtain ⟨f, hd, rfl⟩ := r.inv
  obtain ⟨cs, hr, l, ⟨T, c', oc, vc, tq, x1, y1, y2, y3, y4⟩, S, cy, cells⟩ := R.openClo hd q
  obtain ⟨fl, es, hFl, hq2, rfl, hcl, rfl⟩ := hF (names.zip cs)
  have hvs : pn.length = vs.length := by rw [rr.length, hlen]
  have hn := Jk (vs := vs) hvs
  have hzc : (names.zip cs).map (·.2) = cs := by rw [List.map_snd_zip]; omega
  refine wpAny_call (codeAny_call_def (fd := cloFd tm (names.zip cs) T c') (body := body) (binds := pn.zip vs) (by have := hA.depth; have : recursionLimit = 1000 := rfl; omega) x1 rfl R.nolim ⟨c', oc, vc, tq, rfl, y2, y3, y4⟩ X.body (X.bind _ _ _ s vs hvs.symm) X.cell
    (fun x m => X.par x.1 (List.of_mem_zip m).1) (fun h₀ hns hk => ?_) X.co X.gen X.kind)
  have fresh : s.heap.get? s.heap.objs.size = none := get_ge (Nat.le_refl _)
  obtain ⟨S₀, g₀⟩ := S.enter (wr := [s.heap.objs.size]) (h' := h₀) hk (fun a' m => by rw [List.mem_singleton.mp m]; exact fresh) (fun a' m => by rw [List.mem_singleton.mp m]; obtain ⟨o, _, _, e, _⟩ := hns; exact ⟨o, e⟩) (List.nodup_cons.mpr ⟨by simp, List.nodup_nil⟩)
  have hA' : AOk b (A.deeper (callEnv (cloFd tm (names.zip cs) T c') s.heap.objs.size f)) := ⟨hA.handled, by have := hA.depth; show A.depth + 1 + 2 * b ≤ 900; omega, by have := hA.units; show A.units + 3 + 20 * b ≤ 9000; omega⟩
  have csOwn : ∀ d ∈ cs, d ∈ ρ.flatten := fun d m => Yz hr d (List.mem_cons_of_mem _ m)
  have csLive : ∀ d ∈ cs, ∃ o, s.heap.get? d = some o := fun d m => (R.apart d (Yu (csOwn d m))).2.2
  have csNd : cs.Nodup := by
    have n := S.nodup
    have n2 := (List.nodup_append.mp n).2.1
    exact (List.nodup_append.mp n2).1
  have RF : RelF c.K ⟨callEnv (cloFd tm (names.zip cs) T c') s.heap.objs.size f, ln, names.zip cs⟩ ((ρ.open1 i f cs).enter [s.heap.objs.size]) ⟨li.map fun o => o.bind fun i => ps[i]?, vals, st.set i (.fn tm (names.zip cs))⟩ h₀ := by
    refine ⟨S₀, ⟨_, hns, fun j x hx => ?_, fun x hx => ?_⟩, fun j x a' e => ?_, fun a' m => ?_, ?_⟩
    · rw [Xm (by rw [hn]; exact X.nd)]
      have : (li.map fun o => o.bind fun i => ps[i]?)[j]? = some ((pn.idxOf? x).bind fun i => ps[i]?) := by
        rw [List.getElem?_map, ← hli, List.getElem?_map, hx]; rfl
      rw [this]
      exact ((Yw rr hvs x).carry cy).carry g₀
    · rw [Xm (by rw [hn]; exact X.nd), Ym (by rintro ⟨p1, p2⟩ hp rfl; exact hx (X.sub _ (List.of_mem_zip hp).1))]
    · have hcj : cs[j]? = some a' := by
        replace e : (names.zip cs)[j]? = some (x, a') := e
        have := congrArg (Option.map (·.2)) e
        rw [← List.getElem?_map, hzc] at this
        exact this
      obtain ⟨u, ic, rv⟩ := cells j a' hcj
      exact ⟨u, ic.keeps hk, rv.carry g₀⟩
    · replace m : a' ∈ s.heap.objs.size :: (names.zip cs).map (·.2) := m
      rw [hzc] at m
      show a' ∈ [s.heap.objs.size] ++ (cs ++ ρ.rsv)
      rcases List.mem_cons.mp m with rfl | m
      · exact List.mem_cons_self
      · exact List.mem_append_right _ (List.mem_append_left _ m)
    · show (s.heap.objs.size :: (names.zip cs).map (·.2)).Nodup
      rw [hzc, List.nodup_cons]
      refine ⟨fun m => ?_, csNd⟩
      obtain ⟨o, e⟩ := csLive _ m
      rw [fresh] at e; exact (nos e).elim
  refine wpAny_mono ((D cs T c' s.heap.objs.size f l.1).run _ hA' _ { s with heap := h₀, toks := s.toks + (pn.zip vs).length } _ fl es hFl RF) (fun x s' z => ?_) fun _ _ z => z.elim
  obtain ⟨ρ₂, R₂, g₂, sm, rf⟩ := z
  obtain ⟨e₂, r₂⟩ := ρ₂
  have hr2 : r₂ = [s.heap.objs.size] ++ (cs ++ ρ.rsv) := g₂.rsv
  subst hr2
  obtain ⟨S₃, cy₃⟩ := RelS.leave (ρ := ⟨e₂, cs ++ ρ.rsv⟩) (wr := [s.heap.objs.size]) (h' := s'.heap) R₂.s fun a o e _ => e
  have hi : i < ρ.ents.length := (List.getElem?_eq_some_iff.mp hr).1
  obtain ⟨t, ht⟩ := g₂.pre
  replace ht : ρ.ents.set i [f] ++ t = e₂ := ht
  have he2 : e₂[i]? = some [f] := by
    rw [← ht, List.getElem?_append_left (by rw [List.length_set]; exact hi), List.getElem?_set_self hi]
  obtain ⟨S₄, cy₄⟩ := S₃.closeClo (r := ρ.rsv) (vals := es.cel) (List.Perm.refl _) hq2 he2 ⟨l.1, by rw [hcl]; exact l.2⟩ fun j d hd => by
    have hx : ∃ x, (names.zip cs)[j]? = some (x, d) := by
      have hj : j < cs.length := (List.getElem?_eq_some_iff.mp hd).1
      refine ⟨names[j]'(by omega), ?_⟩
      rw [List.getElem?_zip_eq_some]
      exact ⟨List.getElem?_eq_getElem (by omega), hd⟩
    obtain ⟨x, hx⟩ := hx
    obtain ⟨u, ic, rv⟩ := R₂.c j x d hx
    exact ⟨u, ic, rv.carry cy₃⟩
  have hset : e₂.set i (f :: cs) = ρ.ents ++ t := by
    rw [← ht, List.set_append_left _ _ (by rw [List.length_set]; exact hi), List.set_set]
    congr 1
    apply List.ext_getElem?
    intro j
    by_cases hj : i = j
    · subst hj; rw [List.getElem?_set_self hi, hr]
    · rw [List.getElem?_set_ne hj]
  have sameFlat : ∀ a, a ∈ (ρ.ents.set i [f]).flatten → a ∈ ρ.flatten := fun a m => by
    obtain ⟨p, q, h1, h2⟩ := Qf (bs := [f]) hr
    rw [h2] at m
    show a ∈ ρ.ents.flatten
    rw [h1]
    simp only [List.mem_append, List.mem_cons, List.not_mem_nil, or_false] at m ⊢
    rcases m with m | m | m
    · exact .inl m
    · exact .inr (.inl (.inl m))
    · exact .inr (.inr m)
  refine ⟨⟨e₂.set i (f :: cs), ρ.rsv⟩, S₄, ⟨fun a o e _ nr => ?_, ?_, rfl, fun a m => ?_⟩, ⟨sm.1, sm.2.1, sm.2.2⟩, ?_⟩
  · refine g₂.keep a o (hk a o e) (fun m => ?_) fun m => nr (sameFlat a m)
    replace m : a ∈ s.heap.objs.size :: (names.zip cs).map (·.2) := m
    rw [hzc] at m
    rcases List.mem_cons.mp m with rfl | m
    · rw [fresh] at e; exact (nos e).elim
    · exact nr (csOwn a m)
  · show ρ.ents <+: e₂.set i (f :: cs)
    rw [hset]; exact List.prefix_append ..
  · have hm : a ∈ ρ.flatten ∨ a ∈ e₂.flatten := by
      replace m : a ∈ (e₂.set i (f :: cs)).flatten := m
      rw [hset, List.flatten_append] at m
      rcases List.mem_append.mp m with m | m
      · exact .inl m
      · right; rw [← ht, List.flatten_append]; exact List.mem_append_right _ m
    rcases hm with m | m
    · exact .inl m
    · rcases g₂.new a m with z | z | z
      · exact .inl (sameFlat a z)
      · replace z : a ∈ s.heap.objs.size :: (names.zip cs).map (·.2) := z
        rw [hzc] at z
        rcases List.mem_cons.mp z with rfl | z
        · exact .inr (.inr fresh)
        · exact .inl (csOwn a z)
      · refine .inr (.inr ?_)
        cases q : s.heap.get? a with
        | none => rfl
        | some o =>
          have z' : h₀.get? a = none := z
          rw [hk a o q] at z'; cases z'
  · cases rf with
    | next => exact .none
    | brk => exact .none
    | cont => exact .none
    | ret r => exact (r.carry cy₃).carry cy₄
end
structure CodeAt (K : Frag) (cc P : Addr) : Prop where
  ex : ∃ o vs file tf flags tg inF text tt, P8 (K.lookup cc = some o) (o.cls = .type "code") (o.data = .fields vs) (vs[11]? = some (.ref P)) (vs[18]? = some (.str file tf)) (vs[7]? = some (.int flags tg)) (vs[9]? = some (.bool inF)) (vs[10]? = some (.int text tt))
  ne : cc ≠ P
theorem getD_of {vs : Array Value} {i : Nat} {v : Value} (h : vs[i]? = some v) : vs.getD i .none = v := by
  rw [Array.getD_eq_getD_getElem?, h]; rfl
theorem CodeAt.at {K : Frag} {cc P : Addr} {h : Heap} {ps : Array Value} (X : CodeAt K cc P) (k : K.In h) (hp : h.get? P = some { cls := .none, data := .fields ps }) (t : TriplesOk ps.toList) : h.IsCode cc P ps ∧ h.TableAt cc P ps := by
  obtain ⟨⟨o, vs, file, tf, flags, tg, inF, text, tt, e0, e1, e2, e3, e4, e5, e6, e7⟩, ne⟩ := X
  exact ⟨⟨o, vs, file, tf, flags, tg, inF, text, tt, _, k _ _ e0, e2, getD_of e3, getD_of e4, getD_of e5, getD_of e6, getD_of e7, hp, rfl, t, ne⟩, ⟨o, vs, k _ _ e0, e1, e2, e3⟩, hp⟩
noncomputable def tmOf (name q : Str) (args : Arguments) (body : List Stmt) (scope : Scope) (pm : Value) : FuncData := { name := name, qualname := q, params := args, body := .stmts body, scope := scope, globals := mainGlobals, closure := [], defaults := .none, kwdefaults := .none, pyModule := pm, builtins := builtinsNs }
section
variable {c : Ctx0} {b : Nat} {f : FI}
open Classical in
noncomputable def defE (j it : Nat) (P : Addr) (pos : Pos) (q : Str) (tm : FuncData) (cl : List (Str × Addr)) : FM PF := fun es => pik fun r => es.st[it]? = some (.tab P pos q) ∧ (bindE (setL j (.ref es.st.length)) fun _ => pureE .next) { es with st := es.st ++ [.fn tm cl] } = some r
theorem def_of {j it : Nat} {P : Addr} {pos : Pos} {q : Str} {tm : FuncData} {cl : List (Str × Addr)} {es : ES} {r : PF × ES} (h : es.st[it]? = some (.tab P pos q)) (e : (bindE (setL j (.ref es.st.length)) fun _ => pureE .next) { es with st := es.st ++ [.fn tm cl] } = some r) : defE j it P pos q tm cl es = some r :=
  pik_of ⟨h, e⟩ fun z ⟨_, e'⟩ => Option.some.inj (e'.symm.trans e)
theorem den_fundef {name q : Str} {args : Arguments} {body : List Stmt} {scope : Scope} {pos : Pos} {j it : Nat} {P cc : Addr} {cl : List (Str × Addr)} {pm : Value} (ok : f.Ok) (hx : f.ln[j]? = some name)
    (h1 : args.defaults = []) (h2 : args.kw_defaults = []) (h3 : args.kwonlyargs = []) (h4 : annTrees args none f.env = []) (hq : qualnameIn f.env name name = q) (hcl : closureFor scope f.env = pure cl) (hne : cl.isEmpty = false)
    (hcode : f.env.code = .ref cc) (X : CodeAt c.K cc P) (hpm : nsIn c.K mainGlobals "__name__" = some (some pm)) (hb : ∀ M h, c.K.In h → Looks M h (builtinsFor mainGlobals builtinsNs) builtinsNs) (hdoc : docOf body = none) :
    Den c b f RFl (exec (.FunctionDef name args body [] none [] scope none name pos) f.env) (defE j it P pos q (tmOf name q args body scope pm) cl) := by
  constructor
  intro A hA ρ s es y es' e R
  obtain ⟨qt, e⟩ := Zo e
  obtain ⟨_, es₁, e1, e2⟩ := Ze e
  cases e2
  have hit : it < ρ.ents.length := by rw [R.s.len]; exact (List.getElem?_eq_some_iff.mp qt).1
  obtain ⟨as, has⟩ : ∃ as, ρ.ents[it]? = some as := ⟨_, List.getElem?_eq_getElem hit⟩
  obtain ⟨ps, rfl, hP, tri, hor⟩ := R.s.objs it _ _ has qt
  rw [exec_def, hq, defaultsOf_eq, h1, h2, h4]
  refine wpAny_bind (wpAny_standAt (wpAny_bind (wpAny_holding ?_)))
  refine wpAny_bind (wpAny_pure ?_)
  refine wpAny_bind (wpAny_holding (wpAny_pure ?_))
  refine wpAny_holding ?_
  refine wpAny_bind (wpAny_pure ?_)
  rw [makeFunction_eq, h3]
  refine wpAny_bind (wpAny_pure ?_)
  refine wpAny_bind (wpAny_pure ?_)
  refine wpAny_bind (wpAny_pure ?_)
  unfold makeTail
  rw [hcl]
  refine wpAny_bind (wpAny_pure ?_)
  rw [hne]
  refine wpAny_bind (wpAny_newTextTuple ?_)
  rw [ok.glob, ok.blt]
  dsimp only
  rw [hdoc]
  dsimp only
  have kT : ∀ (o : Obj) a o', s.heap.get? a = some o' → (s.heap.push o).get? a = some o' := fun o a o' e => Heap.get?_push_of_some _ e
  have fin : ∀ (c' : Addr) (oc : Obj) (vc : Array Value) (t : Tok) (s₂ : Shared) (T : Value) (Q : Flow → Shared → Prop), c' ∉ ρ.own → s₂.heap.get? c' = some oc → oc.data = .fields vc → vc[1]? = some (.str q t) → RelS c.K ρ es.st s₂.heap → Grow [] ρ s.heap ρ s₂.heap → Same s s₂ →
      wpAny (model c.prog c.w) A (do
        let bl ← builtinsFor mainGlobals builtinsNs
        let mo ← nsGet mainGlobals "__name__"
        let doc ← (pure .none : Sem Value)
        newObj (.type "function") (.func { name := name, qualname := q, params := args, body := .stmts body, scope := scope, globals := mainGlobals, closure := cl, closureTuple := T, code := .ref c', builtins := bl, defaults := .none, kwdefaults := .none, annotations := none, pyModule := mo.getD .none, doc := doc })) (fun fv s₃ => wpAny (model c.prog c.w) A (do standAt pos; bindName f.env name fv; pure Flow.next) (Ends c.K f RFl ρ s .next es') noE s₃) noE s₂ := by
    intro c' oc vc t s₂ T Q nc hc1 hc2 hc3 S g sm
    refine wpAny_bind ((hb _ _ S.top).here ?_)
    refine wpAny_bind ((looks_nsIn S.top hpm).here ?_)
    refine wpAny_bind (wpAny_pure (wpAny_newObj_type ?_ (by size_fits)))
    have k : ∀ (o : Obj) a o', s₂.heap.get? a = some o' → (s₂.heap.push o).get? a = some o' := fun o a o' e => Heap.get?_push_of_some _ e
    have hget : ∀ o : Obj, o.isFreed = false → (s₂.heap.push o).get? s₂.heap.objs.size = some o := fun o h => Heap.get?_push_size _ h
    obtain ⟨S₃, g₃⟩ := S.push (as := [s₂.heap.objs.size]) (ao := .fn (tmOf name q args body scope pm) cl) (k _) (fun a m => by rw [List.mem_singleton.mp m]; exact get_ge (Nat.le_refl _)) (fun a m => by rw [List.mem_singleton.mp m]; exact ⟨_, hget _ rfl⟩) (List.nodup_cons.mpr ⟨by simp, List.nodup_nil⟩)
      fun g => ⟨_, rfl, T, c', oc, vc, t, hget _ rfl, (g.carry noFr).keep _ _ hc1 nc |>.2, k _ _ _ hc1, hc2, hc3⟩
    have gg := g.trans g₃
    have R₃ := R.ofS S₃ gg
    refine wpAny_bind (wpAny_standAt (wpAny_bind (wpAny_bindName ?_)))
    refine wpAny_mono ((Y3 (c := c) (b := b) ok hx).run A hA _ _ _ (.ref s₂.heap.objs.size) (.ref es.st.length) () _ e1 (.ref (by rw [← S.len]; exact Xl)) R₃) (fun _ s₄ z => ?_) fun _ _ z => z
    obtain ⟨ρ₄, R₄, g₄, q₄, _⟩ := z
    exact wpAny_pure ⟨ρ₄, R₄, (gg.wider (by simp)).trans g₄, sm.trans (⟨q₄.1, q₄.2.1, q₄.2.2⟩), .next⟩
  have own_lt : ∀ a ∈ ρ.own, a < s.heap.objs.size := fun a m => by obtain ⟨_, _, o, e⟩ := R.s.apart a m; exact Heap.lt_size e
  rcases hor with hnone | ⟨c', oc, vc, t, nc, ham, hc1, hc2, hc3⟩
  · obtain ⟨S₁, g₁⟩ := R.s.ext (kT { cls := .type "tuple", data := .seq ((cl.mergeSort fun a b => a.1.cps.toList ≤ b.1.cps.toList).map (.ref ·.2)).toArray })
    obtain ⟨ic, it'⟩ := X.at S₁.top (kT _ _ _ hP) tri
    refine wpAny_bind (wpAny_functionCodeX (pos := pos) hcode ic it' hnone fun c' h' tk hx' hge hlt ic' cr tb _ => ?_)
    obtain ⟨c2, oc, vc, t, ec, hc1, hc2, hc3⟩ := cr
    cases ec
    have hge' : s.heap.objs.size ≤ c' := by
      have := hge
      rw [show ({ s with heap := s.heap.push _ } : Shared).heap.objs.size = s.heap.objs.size + 1 from Heap.size_push ..] at this
      exact Nat.le_of_succ_le this
    have nc : c' ∉ ρ.own := fun m => absurd (own_lt _ m) (Nat.not_lt.mpr hge')
    obtain ⟨S₂, g₂⟩ := S₁.put (i := it) (ao' := .tab P pos q) (h' := h') has (fun a o e na => hx' a o (by simpa using na) e) (fun a m => by rw [List.mem_singleton.mp m]; exact ⟨_, tb.2⟩) fun g =>
      ⟨_, rfl, tb.2, by
        obtain ⟨o, vs, file, tf, flags, tg, inF, text, tt, op, a, r1, r2, r3, r4, r5, r6, bb, bd, tr, _⟩ := ic'
        exact tr, .inr ⟨c', oc, vc, t, nc, by
        rw [show (ps ++ #[rawInt pos.line, rawInt pos.col, Value.ref c']).toList = ps.toList ++ [rawInt pos.line, rawInt pos.col, .ref c'] by simp, codeAmong_snoc _ tri hnone], hc1, hc2, hc3⟩⟩
    have hst : es.st.set it (.tab P pos q) = es.st := by
      apply List.ext_getElem?
      intro k
      by_cases hk : it = k
      · subst hk; rw [List.getElem?_set_self (R.s.len ▸ hit), qt]
      · rw [List.getElem?_set_ne hk]
    rw [hst] at S₂
    exact fin c' oc vc t { s with heap := h', toks := tk } _ (fun _ _ => True) nc hc1 hc2 hc3 S₂ (g₁.trans g₂) ⟨rfl, rfl, rfl⟩
  · obtain ⟨S₁, g₁⟩ := R.s.ext (kT { cls := .type "tuple", data := .seq ((cl.mergeSort fun a b => a.1.cps.toList ≤ b.1.cps.toList).map (.ref ·.2)).toArray })
    obtain ⟨ic, _⟩ := X.at S₁.top (kT _ _ _ hP) tri
    refine wpAny_bind (wpAny_functionCode_hit (pos := pos) hcode ic ham ?_)
    exact fin c' oc vc t _ _ (fun _ _ => True) nc (kT _ _ _ hc1) hc2 hc3 S₁ g₁ ⟨rfl, rfl, rfl⟩
end
section
variable {c : Ctx0} {b : Nat}
theorem fun_defC {a : Addr} {fd : FuncData} {body : List Stmt} {names ln : List Str} {cns : List (Str × Nat)} {np : Nat} {kn : List Str} {dvs : List Value} {dps : List PV} {li ci : List (Option Nat)} {F : Addr → FM PF} {tm : FuncData} {G : List PV → SM PV}
    (X : DefK c.K a fd body names ln cns) (hdp : ∀ h ρ, RVs h ρ dvs dps) (hn : names.length = np + kn.length + dvs.length)
    (hli : ln.map names.idxOf? = li) (hci : (cns.map (·.1)).map names.idxOf? = ci)
    (hbind : ∀ s vs ws, vs.length = np → ws.length = kn.length → c.K.In s.heap → BindsTo s fd ⟨vs, kn.zip ws⟩ (names.zip (vs ++ ws ++ dvs)))
    (D : ∀ L, Den c b (FI.fn fd a ln cns L) RFl (execs body (callEnvC fd L a)) (F L))
    (hG : ∀ ps st y st', G ps st = some (y, st') → ps.length = np + kn.length ∧ ∃ ic vals, st.length ≤ ic ∧ vals.length = cns.length ∧ ∀ L, ∃ r es, P5 (F L ⟨li.map fun o => o.bind fun i => (ps ++ dps)[i]?, ci.map fun o => o.bind fun i => (ps ++ dps)[i]?, st⟩ = some (r, es)) (retOf r = y) (es.st[ic]? = some (.fn tm (cnAt cns L).reverse)) (es.cel = vals) (st' = es.st.set ic (.clo tm (cns.map (·.1)).reverse vals.reverse))) : FunK c (b + 1) (.ref a) np kn G := by
  constructor
  · intro ps st r e
    obtain ⟨y, st'⟩ := r
    exact (hG ps st y st' e).1
  intro A hA ρ s st vs ps y st' e r R
  obtain ⟨hlen, ic, vals, hic, hvals, hF⟩ := hG ps st y st' e
  obtain ⟨fl, es, q, rfl, hfn, rfl, rfl⟩ := hF s.heap.objs.size
  have hvl := r.length
  have r' : RVs s.heap ρ (vs ++ dvs) (ps ++ dps) := r.append (hdp _ _)
  have hvs : names.length = (vs ++ dvs).length := by rw [List.length_append, hvl, hlen, hn]
  have hz : vs.take np ++ vs.drop np ++ dvs = vs ++ dvs := by rw [List.take_append_drop]
  have hb := hbind s (vs.take np) (vs.drop np) (by rw [List.length_take, hvl, hlen]; omega) (by rw [List.length_drop, hvl, hlen]; omega) R.top
  rw [hz] at hb
  obtain ⟨oc, od, sl, ho⟩ := X.at_
  have hnm := Jk hvs
  have ndb : ((names.zip (vs ++ dvs)).map (·.1)).Nodup := by rw [hnm]; exact X.nd
  refine codeAny_call_function (fd := fd) (body := body) (by have := hA.depth; have : recursionLimit = 1000 := rfl; omega) (R.top _ _ ho) rfl X.co X.gen X.body (codeRec_of R.top X.code) (hb _ _ _ _ ?_)
  rw [X.clo]
  refine wpAny_newFunctionEnv_cells X.kind (fun x m => ?_) fun env he s₁ x => ?_
  · have mx := (List.of_mem_zip m).1
    rcases X.par x.1 mx with h | h
    · exact .inl h.1
    · refine .inr ⟨h.1, ?_⟩
      rw [X.cells]
      obtain ⟨p, hp, hpx⟩ := List.mem_map.mp h.2
      have : ((cnAt cns s.heap.objs.size).map (·.1)) = cns.map (·.1) := by unfold cnAt; rw [List.map_map]; rfl
      obtain ⟨i, hi⟩ := List.mem_iff_getElem?.mp hp
      have hi' : (cnAt cns s.heap.objs.size)[i]? = some (x.1, s.heap.objs.size + p.2) := by unfold cnAt; rw [List.getElem?_map, hi, ← hpx]; rfl
      rw [Xf (by rw [this]; exact X.cnd) hi']; rfl
  subst he
  refine ⟨R.nolim.keeps x.toInCall.keep, codeAny_func ?_⟩
  have hcells : (callEnvC fd s.heap.objs.size a).cells = cnAt cns s.heap.objs.size := X.cells _
  have ndc : ((cnAt cns s.heap.objs.size).map (·.1)).Nodup := by
    have : ((cnAt cns s.heap.objs.size).map (·.1)) = cns.map (·.1) := by unfold cnAt; rw [List.map_map]; rfl
    rw [this]; exact X.cnd
  have hcell : ∀ i y d, (cnAt cns s.heap.objs.size)[i]? = some (y, d) → s₁.heap.IsCell d (bindC (callEnvC fd s.heap.objs.size a).kindOf (names.zip (vs ++ dvs)) (fun _ => none) y) := fun i y d hy =>
    x.cell y d (by rw [show (newEnv fd.scope s.heap.objs.size fd.globals (cellsFrom (s.heap.objs.size + 1) fd.scope.names []) (fd.qualname ++ ".<locals>.") (some a) fd.code none fd.builtins).cells = cnAt cns s.heap.objs.size from X.cells _]; exact Xf ndc hy)
  have habove : ∀ p ∈ cnAt cns s.heap.objs.size, s.heap.objs.size < p.2 := fun p hp => x.above p.1 p.2 (by rw [show (newEnv fd.scope s.heap.objs.size fd.globals (cellsFrom (s.heap.objs.size + 1) fd.scope.names []) (fd.qualname ++ ".<locals>.") (some a) fd.code none fd.builtins).cells = cnAt cns s.heap.objs.size from X.cells _]; exact hp)
  have hapart : (cnAt cns s.heap.objs.size).Pairwise fun x y => x.2 ≠ y.2 := by
    have := x.apart
    rw [show (newEnv fd.scope s.heap.objs.size fd.globals (cellsFrom (s.heap.objs.size + 1) fd.scope.names []) (fd.qualname ++ ".<locals>.") (some a) fd.code none fd.builtins).cells = cnAt cns s.heap.objs.size from X.cells _] at this
    exact this
  have hns := x.toInCall.ns
  have nd : (s.heap.objs.size :: (cnAt cns s.heap.objs.size).map (·.2)).Nodup := by
    rw [List.nodup_cons]
    refine ⟨fun m => ?_, ?_⟩
    · obtain ⟨p, hp, hq⟩ := List.mem_map.mp m
      have := habove p hp
      rw [hq] at this
      exact absurd this (Nat.lt_irrefl _)
    · rw [List.nodup_iff_pairwise_ne, List.pairwise_map]; exact hapart
  have fresh : ∀ d ∈ s.heap.objs.size :: (cnAt cns s.heap.objs.size).map (·.2), s.heap.get? d = none := fun d m => by
    rcases List.mem_cons.mp m with rfl | m
    · exact get_ge (Nat.le_refl _)
    · obtain ⟨p, hp, rfl⟩ := List.mem_map.mp m
      exact get_ge (Nat.le_of_lt (habove p hp))
  obtain ⟨S, g₀⟩ := R.enter (wr := s.heap.objs.size :: (cnAt cns s.heap.objs.size).map (·.2)) (h' := s₁.heap) x.toInCall.keep fresh (fun d m => by
    rcases List.mem_cons.mp m with rfl | m
    · obtain ⟨o, _, _, e, _⟩ := hns; exact ⟨o, e⟩
    · obtain ⟨p, hp, rfl⟩ := List.mem_map.mp m
      obtain ⟨i, hi⟩ := List.mem_iff_getElem?.mp hp
      obtain ⟨o, e, _⟩ := hcell i p.1 p.2 hi
      exact ⟨o, e⟩) nd
  have kLoc : ∀ y, (callEnvC fd s.heap.objs.size a).kindOf y = fd.scope.names.lookup y := fun y => rfl
  have hA' : AOk b (A.deeper (callEnvC fd s.heap.objs.size a)) := ⟨hA.handled, by have := hA.depth; show A.depth + 1 + 2 * b ≤ 900; omega, by have := hA.units; show A.units + 3 + 20 * b ≤ 9000; omega⟩
  have RF : RelF c.K (FI.fn fd a ln cns s.heap.objs.size) (ρ.enter (s.heap.objs.size :: (cnAt cns s.heap.objs.size).map (·.2))) ⟨li.map fun o => o.bind fun i => (ps ++ dps)[i]?, ci.map fun o => o.bind fun i => (ps ++ dps)[i]?, st⟩ s₁.heap := by
    refine ⟨S, ⟨_, hns, fun i y hy => ?_, fun y hy => ?_⟩, fun i y d hy => ?_, fun d m => List.mem_append_left _ m, nd⟩
    · replace hy : ln[i]? = some y := hy
      have hk := X.loc y (List.mem_of_getElem? hy)
      have : (li.map fun o => o.bind fun i => (ps ++ dps)[i]?)[i]? = some ((names.idxOf? y).bind fun i => (ps ++ dps)[i]?) := by
        rw [List.getElem?_map, ← hli, List.getElem?_map, hy]; rfl
      rw [this]
      rw [show bindL _ _ _ y = _ from bindL_loc ndb hk]
      exact (Yw r' hvs y).carry g₀
    · refine bindL_out ndb fun hk => ?_
      rw [Ym]
      rintro ⟨p1, p2⟩ hp rfl
      rcases X.par p1 (List.of_mem_zip hp).1 with h | h
      · exact hy h.2
      · have hk' : fd.scope.names.lookup p1 = some .local := hk
        rw [h.1] at hk'; cases hk'
    · have hc := hcell i y d hy
      have hy' : ∃ k, cns[i]? = some (y, k) := by
        replace hy : (cnAt cns s.heap.objs.size)[i]? = some (y, d) := hy
        unfold cnAt at hy
        rw [List.getElem?_map] at hy
        obtain ⟨p, e1, e2⟩ := Option.map_eq_some_iff.mp hy
        obtain ⟨p1, p2⟩ := p
        cases e2
        exact ⟨p2, e1⟩
      obtain ⟨k, hy'⟩ := hy'
      have hk := X.cel _ (List.mem_of_getElem? hy')
      refine ⟨_, hc, ?_⟩
      have : (ci.map fun o => o.bind fun i => (ps ++ dps)[i]?)[i]? = some ((names.idxOf? y).bind fun i => (ps ++ dps)[i]?) := by
        rw [List.getElem?_map, ← hci, List.getElem?_map, List.getElem?_map, hy']; rfl
      rw [this, show bindC _ _ _ y = _ from bindC_cel ndb hk]
      exact (Yw r' hvs y).carry g₀
  have kk := x.toInCall.keep
  obtain ⟨h₁, tk, rfl⟩ := x.toInCall.same
  refine wpAny_mono ((D s.heap.objs.size).run _ hA' _ _ _ fl es q RF) (fun fv' s' z => ?_) fun _ _ z => z.elim
  obtain ⟨ρ', R', g, sm, rf⟩ := z
  obtain ⟨e₂, r₂⟩ := ρ'
  have hr2 : r₂ = s.heap.objs.size :: (cnAt cns s.heap.objs.size).map (·.2) ++ ρ.rsv := g.rsv
  subst hr2
  obtain ⟨S₃, cy₃⟩ := RelS.leave (ρ := ⟨e₂, (cnAt cns s.heap.objs.size).map (·.2) ++ ρ.rsv⟩) (wr := [s.heap.objs.size]) (h' := s'.heap) R'.s fun a o e _ => e
  obtain ⟨t, ht⟩ := g.pre
  replace ht : ρ.ents ++ t = e₂ := ht
  have hie : ic < e₂.length := by
    have := R'.s.len
    rw [show e₂.length = es.st.length from this]
    exact (List.getElem?_eq_some_iff.mp hfn).1
  obtain ⟨as, has⟩ : ∃ as, e₂[ic]? = some as := ⟨_, List.getElem?_eq_getElem hie⟩
  obtain ⟨f, rfl, fo⟩ := S₃.objs ic _ _ has hfn
  have hzip : (cns.map (·.1)).reverse.zip ((cnAt cns s.heap.objs.size).map (·.2)).reverse = (cnAt cns s.heap.objs.size).reverse := by
    unfold cnAt
    rw [List.map_map, ← List.map_reverse, ← List.map_reverse, ← List.map_reverse, List.zip_map']
    rfl
  obtain ⟨S₄, cy₄⟩ := S₃.closeClo (tm := tm) (names := (cns.map (·.1)).reverse) (cs := ((cnAt cns s.heap.objs.size).map (·.2)).reverse) (r := ρ.rsv) (vals := es.cel.reverse) (List.Perm.append_right _ (List.reverse_perm _).symm) (by rw [hzip]; exact hfn) has ⟨by simp [cnAt], by simp [hvals]⟩ fun j d hd => by
    have hj : j < ((cnAt cns s.heap.objs.size).map (·.2)).length := by
      have := (List.getElem?_eq_some_iff.mp hd).1
      simpa using this
    rw [List.getElem?_reverse hj, List.getElem?_map] at hd
    obtain ⟨p, hp, hpd⟩ := Option.map_eq_some_iff.mp hd
    obtain ⟨x, d'⟩ := p
    cases hpd
    obtain ⟨u, ic', rv⟩ := R'.c _ x d' hp
    refine ⟨u, ic', ?_⟩
    have hl : ((cnAt cns s.heap.objs.size).map (·.2)).length = es.cel.length := by rw [hvals]; simp [cnAt]
    rw [List.getElem?_reverse (by rw [← hl]; exact hj), ← hl]
    exact rv.carry cy₃
  have hicρ : ρ.ents.length ≤ ic := by rw [R.len]; exact hic
  have flat : ∀ a, a ∈ (e₂.set ic (f :: ((cnAt cns s.heap.objs.size).map (·.2)).reverse)).flatten → a ∈ e₂.flatten ∨ a ∈ (cnAt cns s.heap.objs.size).map (·.2) := fun a m => by
    obtain ⟨p, q, h1, h2⟩ := Qf (bs := f :: ((cnAt cns s.heap.objs.size).map (·.2)).reverse) has
    rw [h2] at m
    rw [h1]
    simp only [List.mem_append, List.mem_cons, List.not_mem_nil, or_false] at m ⊢
    rcases m with m | (m | m) | m
    · exact .inl (.inl m)
    · exact .inl (.inr (.inl m))
    · exact .inr (List.mem_reverse.mp m)
    · exact .inl (.inr (.inr m))
  refine ⟨⟨e₂.set ic (f :: ((cnAt cns s.heap.objs.size).map (·.2)).reverse), ρ.rsv⟩, S₄, ⟨fun a o e _ nr => g.keep a o (kk a o e) (fun m => by rw [fresh a m] at e; exact (nos e).elim) nr, ?_, rfl, fun a m => ?_⟩, ⟨sm.1, sm.2.1, sm.2.2⟩, ?_⟩
  · show ρ.ents <+: e₂.set ic _
    rw [← ht, List.set_append_right _ _ hicρ]
    exact List.prefix_append ..
  · rcases flat a m with z | z
    · rcases g.new a z with z | z | z
      · exact .inl z
      · exact .inr (.inr (fresh a z))
      · refine .inr (.inr ?_)
        cases q : s.heap.get? a with
        | none => rfl
        | some o =>
          have z' : h₁.get? a = none := z
          rw [kk a o q] at z'; cases z'
    · exact .inr (.inr (fresh a (List.mem_cons_of_mem _ z)))
  · cases rf with
    | next => exact .none
    | brk => exact .none
    | cont => exact .none
    | ret r => exact (r.carry cy₃).carry cy₄
end
theorem sup_mro : mroOf (.type "super") = pure [.type "super", .type "object"] := by rw [mroOf_type]; kernel_rfl
theorem sup_new : typeLookup (.type "super") "__new__" = pure (some (.builtin "super.__new__")) := by rw [typeLookup_type, builtinLookup_eq_fast]; kernel_rfl
theorem sup_init : Slot "super" "__init__" "super.__init__" := .of (owner := "super") (n := "__init__") (by rw [typeLookup_type, builtinLookup_eq_fast]; kernel_rfl) (by decide +kernel) (by decide +kernel) (by decide +kernel)
  (by first | exact .inl (by decide +kernel) | exact .inr (by decide +kernel)) (by rw [isSubtype_type]; kernel_rfl)
theorem sup_get : Slot "super" "__getattribute__" "super.__getattribute__" := .of (owner := "super") (n := "__getattribute__") (by rw [typeLookup_type, builtinLookup_eq_fast]; kernel_rfl) (by decide +kernel) (by decide +kernel) (by decide +kernel)
  (by first | exact .inl (by decide +kernel) | exact .inr (by decide +kernel)) (by rw [isSubtype_type]; kernel_rfl)
theorem sup_called : TypeCalled "super" "super.__new__" "super.__init__" :=
  { notType := by decide +kernel, canCreate := by decide +kernel, mro := ⟨_, _, sup_mro⟩, made := madeBy_type sup_mro sup_new (by decide +kernel), plain := by decide +kernel, sub := by rw [isSubtype_type]; kernel_rfl, init := sup_init }
theorem sup_newOk (a b : Value) : checkBuiltinCall "super.__new__" ⟨[.type "super", a, b], []⟩ = pure () := by kernel_rfl
theorem sup_initOk (o a b : Value) : argsOk "super.__init__" ⟨[o, a, b], []⟩ := by unfold argsOk; kernel_rfl
theorem sup_getOk (o a : Value) : argsOk "super.__getattribute__" ⟨[o, a], []⟩ := by unfold argsOk; kernel_rfl
theorem sup_newE : entryFor table "super.__new__" = some Builtin.«super.__new__» := entryFor_of_tree (by kernel_rfl)
theorem sup_initE : entryFor table "super.__init__" = some Builtin.«super.__init__» := entryFor_of_tree (by kernel_rfl)
theorem sup_getE : entryFor table "super.__getattribute__" = some Builtin.«super.__getattribute__» := entryFor_of_tree (by kernel_rfl)
theorem sup_newP : plainId "super.__new__" = true := by decide +kernel
theorem sup_getC : (Manifest.canonical "super.__getattribute__" != "object.__getattribute__") = true := by decide +kernel
noncomputable abbrev supObj (D x C : Addr) : Obj := { cls := .type "super", data := .fields #[.ref D, .ref x, .ref C] }
section
variable {prog : Program} {w : World} {A : Around} {E : Value → Shared → Prop} {s : Shared} {K : Frag} {D x C : Addr} {cdD : ClassData} {ox : Obj}
theorem Je {Q : Bool → Shared → Prop} (X : K.In s.heap) (hc : clsIn K D = some cdD) (h : Q true s) : wpAny (model prog w) A (isType (.ref D)) Q E s := by
  unfold clsIn at hc
  split at hc
  · rename_i oc od cd sl ho
    unfold isType loadHead
    refine wpAny_bind (wpAny_loadPart (X _ _ ho) ?_)
    exact wpAny_pure h
  · cases hc
theorem isType_not {Q : Bool → Shared → Prop} (hx : s.heap.get? x = some ox) (hn : notCls ox = true) (h : Q false s) : wpAny (model prog w) A (isType (.ref x)) Q E s := by
  unfold isType loadHead
  refine wpAny_bind (wpAny_loadPart hx ?_)
  obtain ⟨a, b, dt, d⟩ := ox
  cases dt <;> first | exact wpAny_pure h | cases hn
theorem sup_init_run {so : Addr} {Q : Fin → Shared → Prop} (X : K.In s.heap) (hc : clsIn K D = some cdD) (hx : s.heap.get? x = some ox) (hxc : ox.cls = .ref C) (hn : notCls ox = true) (hs : mroIn K C (.ref D) = some true)
    (h0 : s.heap.get? so = some { cls := .type "super", data := .fields #[.none, .none, .none] })
    (h : ∀ h', h'.get? so = some (supObj D x C) → (∀ a o, a ≠ so → s.heap.get? a = some o → h'.get? a = some o) → Q (.done (.ret .none)) { s with heap := h' }) : wpAny (model prog w) A (Builtin.«super.__init__» ⟨[.ref so, .ref D, .ref x], []⟩) Q E s := by
  unfold Builtin.«super.__init__»
  refine wpAny_bind (m := noKeywords "super" _) (wpAny_of_eq (a := ()) rfl ?_)
  refine wpAny_bind (wpAny_pure ?_)
  refine wpAny_bind (Je X hc ?_)
  refine wpAny_bind ?_
  refine wpAny_bind (isType_not hx hn ?_)
  have ht : wpAny (model prog w) A (typeOf (.ref x)) (fun v s' => v = .ref C ∧ s' = s) E s := by
    simp only [typeOf]
    exact wpAny_bind (wpAny_load hx (wpAny_pure ⟨hxc, rfl⟩))
  refine wpAny_bind (wpAny_mono ht (fun v s' z => ?_) fun _ _ z => z)
  obtain ⟨rfl, rfl⟩ := z
  refine wpAny_bind ((looks_mroIn X hs).here ?_)
  refine wpAny_pure ?_
  refine wpAny_bind (wpAny_setField h0 rfl (by simp) ?_)
  have h1 := Jr (f := Obj.mapFields (·.setIfInBounds 0 (.ref D))) h0 rfl
  refine wpAny_bind (wpAny_setField h1 rfl (by simp) ?_)
  have h2 := Jr (f := Obj.mapFields (·.setIfInBounds 1 (.ref x))) h1 rfl
  refine wpAny_bind (wpAny_setField h2 rfl (by simp) ?_)
  have h3 := Jr (f := Obj.mapFields (·.setIfInBounds 2 (.ref C))) h2 rfl
  refine wpAny_pure (h _ h3 fun a o na e => ?_)
  exact (((Heap.SameBut.update ..).2 a na).trans (((Heap.SameBut.update ..).2 a na).trans ((Heap.SameBut.update ..).2 a na))).trans e
theorem made_by_type {T newId initId : String} {Bi : Builtin} {as : List Value} {Mid Q : Value → Shared → Prop} (tc : TypeCalled T newId initId) (entry : entryFor table initId = some Bi)
    (test : ∀ {Q' : Unit → Shared → Prop} {E' : Value → Shared → Prop}, Q' () s → wpAny (model prog w) A.in1 (checkTypeCall T ⟨as, []⟩) Q' E' s)
    (first : codeAny (model prog w) A.in1 (.call (.builtin newId) ⟨.type T :: as, []⟩) (wants Mid E) s)
    (second : ∀ v s₁, Mid v s₁ → s₁.TypeIs v T ∧ argsOk initId ⟨v :: as, []⟩ ∧ wpAny (model prog w) A.in1.in1 (Bi ⟨v :: as, []⟩) (fun fin s' => fin = .done (.ret .none) ∧ Q v s') E s₁) :
    wpAny (model prog w) A (call (.type T) as) Q E s := by
  have a1 := tc.notType
  have a2 := tc.canCreate
  have a3 := tc.made
  have a4 := tc.sub
  obtain ⟨top, rest, a5⟩ := tc.mro
  refine wpAny_call (codeAny_of_tree ?_)
  show wpAny _ _ (callAny (.type T) _) _ _ _
  refine wpAny_pure ⟨Code.quiet_builtin _ (by decide +kernel), codeAny_builtin F.entry_type_call ?_⟩
  rw [Around.under_plain (weight_type_call_type T as []) (units_type_call_type T as [])]
  repeat (any_goals (first | assumption | (with_reducible refine test ?_) | wp_step))
  refine codeAny_mono first fun r s₁ z => ?_
  cases r with
  | error e => exact z
  | ok fl => ?_
  cases fl with
  | next => exact z.elim
  | brk => exact z.elim
  | cont => exact z.elim
  | ret v => ?_
  obtain ⟨b1, b2, b3⟩ := second _ _ z
  have b4 := tc.init.lookup
  have b5 := tc.init.bind v
  repeat (any_goals (first | assumption | wp_step))
  refine codeAny_mono (codeAny_call_builtin (R := wants (fun r s₂ => r = .none ∧ Q v s₂) E) tc.init.plain entry (tc.init.check _ _ _ _ _ _ _ _ b1 b2 (wpAny_mono b3 (fun fin s' z => ?_) fun _ _ z => z))) fun r₂ s₂ z₂ => ?_
  · obtain ⟨rfl, z⟩ := z
    exact ⟨rfl, z⟩
  · rcases r₂ with e | (v₂ | _ | _ | _) <;> first | exact z₂ | exact z₂.elim | skip
    obtain ⟨rfl, z₃⟩ := z₂
    repeat (any_goals (first | assumption | wp_step))
theorem sup_made {Q : Value → Shared → Prop} (X : K.In s.heap) (hc : clsIn K D = some cdD) (hx : s.heap.get? x = some ox) (hxc : ox.cls = .ref C) (hn : notCls ox = true) (hs : mroIn K C (.ref D) = some true)
    (h : ∀ h', h'.get? s.heap.objs.size = some (supObj D x C) → (∀ a o, s.heap.get? a = some o → h'.get? a = some o) → Q (.ref s.heap.objs.size) { s with heap := h' }) : wpAny (model prog w) A (call (.type "super") [.ref D, .ref x]) Q E s := by
  obtain ⟨hp, g, d, tk, os⟩ := s
  have up : ∀ a o, hp.get? a = some o → (hp.push { cls := .type "super", data := .fields #[.none, .none, .none] }).get? a = some o := fun a o e => Heap.get?_push_of_some _ e
  have h0 : (hp.push { cls := .type "super", data := .fields #[.none, .none, .none] }).get? hp.objs.size = some { cls := .type "super", data := .fields #[.none, .none, .none] } := Heap.get?_push_size _ rfl
  refine made_by_type (Mid := fun v s₁ => v = .ref hp.objs.size ∧ s₁ = ⟨hp.push { cls := .type "super", data := .fields #[.none, .none, .none] }, g, d, tk, os⟩) sup_called sup_initE (fun hq => ?_) (codeAny_call_builtin sup_newP sup_newE (wpAny_of_eq (sup_newOk _ _) ?_)) fun v s₁ z => ?_
  · unfold checkTypeCall
    refine wpAny_bind (Je X hc ?_)
    exact wpAny_of_eq (a := ()) (by kernel_rfl) hq
  · unfold Builtin.«super.__new__» newFields
    exact wpAny_bind (wpAny_newObj_type (wpAny_pure ⟨rfl, rfl⟩))
  · obtain ⟨rfl, rfl⟩ := z
    exact ⟨⟨_, h0, rfl⟩, sup_initOk _ _ _, sup_init_run (Frag.In.keeps X up) hc (up _ _ hx) hxc hn hs h0 fun h' e k => ⟨rfl, h h' e fun a o ea => k a o (Nat.ne_of_lt (Heap.lt_size ea)) (up a o ea)⟩⟩
end
theorem md_get : Slot "method_descriptor" "__get__" "method_descriptor.__get__" := .of (owner := "method_descriptor") (n := "__get__") (by rw [typeLookup_type, builtinLookup_eq_fast]; kernel_rfl) (by decide +kernel) (by decide +kernel) (by decide +kernel)
  (by first | exact .inl (by decide +kernel) | exact .inr (by decide +kernel)) (by rw [isSubtype_type]; kernel_rfl)
theorem wd_get : Slot "wrapper_descriptor" "__get__" "wrapper_descriptor.__get__" := .of (owner := "wrapper_descriptor") (n := "__get__") (by rw [typeLookup_type, builtinLookup_eq_fast]; kernel_rfl) (by decide +kernel) (by decide +kernel) (by decide +kernel)
  (by first | exact .inl (by decide +kernel) | exact .inr (by decide +kernel)) (by rw [isSubtype_type]; kernel_rfl)
theorem md_getE : entryFor table "method_descriptor.__get__" = some Builtin.«method_descriptor.__get__» := entryFor_of_tree (by kernel_rfl)
theorem wd_getE : entryFor table "wrapper_descriptor.__get__" = some Builtin.«wrapper_descriptor.__get__» := entryFor_of_tree (by kernel_rfl)
theorem md_getOk (a b c : Value) : argsOk "method_descriptor.__get__" ⟨[a, b, c], []⟩ := by unfold argsOk; kernel_rfl
theorem wd_getOk (a b c : Value) : argsOk "wrapper_descriptor.__get__" ⟨[a, b, c], []⟩ := by unfold argsOk; kernel_rfl
theorem ty_pop : typeOf (.builtin "list.pop") = pure (.type "method_descriptor") := by show builtinType _ = _; rw [builtinType_eq_fast]; kernel_rfl
theorem ty_len : typeOf (.builtin "list.__len__") = pure (.type "wrapper_descriptor") := by show builtinType _ = _; rw [builtinType_eq_fast]; kernel_rfl
theorem ty_init : typeOf (.builtin "list.__init__") = pure (.type "wrapper_descriptor") := by show builtinType _ = _; rw [builtinType_eq_fast]; kernel_rfl
section
variable {prog : Program} {w : World} {A : Around} {s : Shared} {K : Frag} {D x C : Addr} {ox : Obj} {od : Option Obj}
noncomputable abbrev boundObj (T id : String) (x : Addr) : Obj := { cls := .type T, data := .fields #[.builtin id, .ref x] }
structure Binds (id T DT : String) : Prop where
  ty : typeOf (.builtin id) = pure (.type DT)
  get : ∃ g, typeLookup (.type DT) "__get__" = pure (some g) ∧ ∀ (prog : Program) (w : World) (A : Around) (s : Shared) (E : Value → Shared → Prop) (x C : Addr) (ox : Obj) (Q : Value → Shared → Prop), s.heap.get? x = some ox → ox.cls = .ref C → Looks (model prog w) s.heap (isSubtype (.ref C) (.type "list")) true →
    Q (.ref s.heap.objs.size) { s with heap := s.heap.push (boundObj T id x) } → wpAny (model prog w) A (call g [.builtin id, .ref x, .ref C]) Q E s
theorem Xw {M : Model} {A : Around} {E : Value → Shared → Prop} {Q : Bool → Shared → Prop} {s : Shared} {x C : Addr} {ox : Obj} (hx : s.heap.get? x = some ox) (hc : ox.cls = .ref C) (hs : Looks M s.heap (isSubtype (.ref C) (.type "list")) true) (h : Q true s) : wpAny M A (isInstance (.ref x) (.type "list")) Q E s := by
  unfold isInstance
  refine wpAny_bind ?_
  simp only [typeOf]
  refine wpAny_bind (wpAny_load hx (wpAny_pure ?_))
  rw [hc]
  exact hs.here h
theorem binds_pop : Binds "list.pop" "builtin_function_or_method" "method_descriptor" := by
  refine ⟨ty_pop, _, md_get.lookup, fun prog w A s E x C ox Q hx hc hs h => ?_⟩
  refine wpAny_call_entry md_get ty_pop md_getE ?_ (md_getOk _ _ _)
  unfold Builtin.«method_descriptor.__get__»
  refine wpAny_bind (wpAny_of_eq (a := (.builtin "list.pop", some (.ref x), some (.ref C))) (by kernel_rfl) ?_)
  dsimp only
  rw [if_neg (by decide +kernel)]
  refine wpAny_bind (wpAny_bind (wpAny_of_eq (a := (Str.ofString "pop", .type "list")) (by kernel_rfl) ?_))
  refine wpAny_bind (Xw hx hc hs ?_)
  refine wpAny_pure ?_
  exact wpAny_bind (wpAny_newObj_type (wpAny_pure ⟨_, rfl, h⟩))
theorem binds_len : Binds "list.__len__" "method-wrapper" "wrapper_descriptor" := by
  refine ⟨ty_len, _, wd_get.lookup, fun prog w A s E x C ox Q hx hc hs h => ?_⟩
  refine wpAny_call_entry wd_get ty_len wd_getE ?_ (wd_getOk _ _ _)
  unfold Builtin.«wrapper_descriptor.__get__»
  refine wpAny_bind (wpAny_of_eq (a := (.builtin "list.__len__", some (.ref x), some (.ref C))) (by kernel_rfl) ?_)
  refine wpAny_bind (wpAny_bind (wpAny_of_eq (a := (Str.ofString "__len__", .type "list")) (by kernel_rfl) ?_))
  refine wpAny_bind (Xw hx hc hs ?_)
  refine wpAny_pure ?_
  exact wpAny_bind (wpAny_newObj_type (wpAny_pure ⟨_, rfl, h⟩))
theorem binds_init : Binds "list.__init__" "method-wrapper" "wrapper_descriptor" := by
  refine ⟨ty_init, _, wd_get.lookup, fun prog w A s E x C ox Q hx hc hs h => ?_⟩
  refine wpAny_call_entry wd_get ty_init wd_getE ?_ (wd_getOk _ _ _)
  unfold Builtin.«wrapper_descriptor.__get__»
  refine wpAny_bind (wpAny_of_eq (a := (.builtin "list.__init__", some (.ref x), some (.ref C))) (by kernel_rfl) ?_)
  refine wpAny_bind (wpAny_bind (wpAny_of_eq (a := (Str.ofString "__init__", .type "list")) (by kernel_rfl) ?_))
  refine wpAny_bind (Xw hx hc hs ?_)
  refine wpAny_pure ?_
  exact wpAny_bind (wpAny_newObj_type (wpAny_pure ⟨_, rfl, h⟩))
theorem sup_getattr {so : Addr} {name : Str} {id T DT : String} {cd : ClassData} {rest : List Value} {tk : Tok} {Q : Fin → Shared → Prop} {E : Value → Shared → Prop} (X : K.In s.heap) (hso : s.heap.get? so = some (supObj C x C)) (hx : s.heap.get? x = some ox) (hc : ox.cls = .ref C) (hxC : x ≠ C)
    (hno : nsIn K cStatics "thirdparty.any" = some none) (hcd : clsIn K C = some cd) (hm : cd.mro = .ref C :: .type "list" :: rest) (hown : fastBuiltinOwn "list" name = some (.builtin id)) (b : Binds id T DT) (hn : (name == ("__class__" : Str)) = false)
    (h : Q (.done (.ret (.ref s.heap.objs.size))) { s with heap := s.heap.push (boundObj T id x) }) : wpAny (model prog w) A (Builtin.«super.__getattribute__» ⟨[.ref so, .str name tk], []⟩) Q E s := by
  obtain ⟨g, hg, hb⟩ := b.get
  unfold Builtin.«super.__getattribute__»
  refine wpAny_bind (wpAny_of_eq (a := some name) rfl ?_)
  refine wpAny_bind (wpAny_pure ?_)
  dsimp only
  refine wpAny_bind (wpAny_field hso rfl (x := .ref C) rfl ?_)
  refine wpAny_bind (wpAny_field hso rfl (x := .ref x) rfl ?_)
  refine wpAny_bind (wpAny_field hso rfl (x := .ref C) rfl ?_)
  rw [hn, if_neg (by simp)]
  refine wpAny_bind ?_
  unfold notOfAnOpaqueClass
  refine wpAny_bind ((looks_opaque X hno).here (wpAny_pure ?_))
  rw [if_neg (by simp)]
  have hmro : Looks (model prog w) s.heap (mroOf (.ref C)) cd.mro := (looks_clsIn X hcd).andThen .now
  refine wpAny_bind (hmro.here ?_)
  have hl : (cd.mro.dropWhile (· != .ref C)).drop 1 = .type "list" :: rest := by
    rw [hm, List.dropWhile_cons_of_neg (by simp)]; rfl
  rw [hl, List.forIn_cons]
  refine wpAny_bind (wpAny_bind (wpAny_bind ((looks_ownIn X (c := .type "list") (name := name) rfl).here ?_)))
  rw [hown]
  dsimp only
  refine wpAny_bind (wpAny_of_eq b.ty ?_)
  refine wpAny_bind (wpAny_of_eq hg ?_)
  dsimp only
  have hne : (Value.ref x == Value.ref C) = false := by simp [hxC]
  rw [hne, if_neg (by decide)]
  have hsub : Looks (model prog w) s.heap (isSubtype (.ref C) (.type "list")) true := looks_mroIn X (by unfold mroIn; rw [hcd, Option.bind_some, hm]; rfl)
  refine wpAny_bind (wpAny_holding (hb prog w A s _ x C ox _ hx hc hsub ?_))
  exact wpAny_bind (wpAny_pure (wpAny_pure (wpAny_pure (wpAny_pure h))))
theorem sup_method {so : Addr} {name : Str} {id T DT : String} {cd : ClassData} {rest : List Value} {pl : Sem Bool} {Q : Value × List Value → Shared → Prop} {E : Value → Shared → Prop} (X : K.In s.heap) (hso : s.heap.get? so = some (supObj C x C)) (hx : s.heap.get? x = some ox) (hc : ox.cls = .ref C) (hxC : x ≠ C)
    (hno : nsIn K cStatics "thirdparty.any" = some none) (hcd : clsIn K C = some cd) (hm : cd.mro = .ref C :: .type "list" :: rest) (hown : fastBuiltinOwn "list" name = some (.builtin id)) (b : Binds id T DT) (hn : (name == ("__class__" : Str)) = false)
    (h : Q (.ref s.heap.objs.size, []) { s with heap := s.heap.push (boundObj T id x), toks := s.toks + 1 }) : wpAny (model prog w) A (getMethod (.ref so) name pl) Q E s := by
  have hlk := sup_get.lookup
  have hT : ∀ t', ({ s with toks := t' } : Shared).TypeIs (.ref so) "super" := fun _ => ⟨_, hso, rfl⟩
  unfold getMethod
  refine wpAny_bind (wpAny_specialOf (hT s.toks) hlk ?_)
  show wpAny _ _ (if (Manifest.canonical "super.__getattribute__" != "object.__getattribute__") = true then _ else _) _ _ _
  rw [if_pos sup_getC]
  unfold getAttr getAttrBy
  refine wpAny_bind (wpAny_bind (wpAny_mkText (wpAny_holding (wpAny_bind (wpAny_typeOf (hT _) (wpAny_bind (wpAny_of_eq hlk ?_)))))))
  show wpAny _ _ (getAttrByItsOwn (.ref so) (.str name s.toks) (.type "super") (.builtin "super.__getattribute__") true false) _ _ _
  unfold getAttrByItsOwn hookBefore callGetattribute boundAndCalled
  refine wpAny_bind (wpAny_of_eq (show (if onTheHeap (.type "super") then typeLookup (.type "super") "__getattr__" else pure none) = pure none from rfl) ?_)
  refine wpAny_bind (wpAny_attempt (wpAny_holding ?_))
  show wpAny _ _ (bindSpecial (.builtin "super.__getattribute__") (.ref so) >>= _) _ _ _
  refine wpAny_bind (wpAny_of_eq (sup_get.bind _) ?_)
  refine wpAny_mono (Q := fun v s' => v = .ref s.heap.objs.size ∧ s' = { s with heap := s.heap.push (boundObj T id x), toks := s.toks + 1 }) (E := fun _ _ => False)
    (wpAny_call_entry sup_get (hT _) sup_getE (sup_getattr X hso hx hc hxC hno hcd hm hown b hn ⟨_, rfl, rfl, rfl⟩) (sup_getOk _ _)) (fun v s' hv => ?_) fun _ _ z => z.elim
  obtain ⟨rfl, rfl⟩ := hv
  exact wpAny_pure (wpAny_pure h)
theorem bound_builtin {bo : Addr} {T id : String} {v : Value} {as : List Value} {R : Result → Shared → Prop} (hb : s.heap.get? bo = some { cls := .type T, data := .fields #[.builtin id, v] }) (hT : T = "builtin_function_or_method" ∨ T = "method-wrapper") (hq : (Code.builtin id ⟨v :: as, []⟩).quiet = true)
    (hck : wpAny (model prog w) A.in1 (checkBoundCall id ⟨v :: as, []⟩) (fun _ s' => s' = s) (fun _ _ => False) s)
    (h : codeAny (model prog w) A (.builtin id ⟨v :: as, []⟩) R s) : codeAny (model prog w) A (.call (.ref bo) ⟨as, []⟩) R s := by
  refine codeAny_of_tree ?_
  show wpAny _ A.in1 (callAny (.ref bo) _) _ _ _
  unfold callAny
  refine wpAny_bind (wpAny_load hb ?_)
  rcases hT with rfl | rfl
  · refine wpAny_bind (wpAny_mono hck (fun _ s' z => ?_) fun _ _ z => z.elim)
    subst z
    exact wpAny_pure ⟨hq, h⟩
  · refine wpAny_bind (wpAny_mono hck (fun _ s' z => ?_) fun _ _ z => z.elim)
    subst z
    exact wpAny_pure ⟨hq, h⟩
theorem bound_keeper {bo : Addr} {T id : String} {x : Addr} {h : Heap} {M : Model} (hT : T = "builtin_function_or_method" ∨ T = "method-wrapper") (hb : h.get? bo = some (boundObj T id x)) : Looks M h (keeperOf (.ref bo)) .machine := fun A Q E s k q => by
  unfold keeperOf
  refine wpAny_bind (wpAny_load (k _ _ hb) ?_)
  rcases hT with rfl | rfl
  · exact wpAny_pure q
  · exact wpAny_pure q
end
section
variable {prog : Program} {w : World} {A : Around} {s : Shared} {K : Frag} {x C : Addr} {d : Option Addr} {vs : Array Value} {m : Nat} {R : Result → Shared → Prop}
noncomputable abbrev linstObj (C : Addr) (d : Option Addr) (vs : Array Value) (m : Nat) : Obj := { cls := .ref C, dict := d, data := .seq vs m }
theorem entry_list_init : entryFor table "list.__init__" = some Builtin.«list.__init__» := entryFor_of_tree (by kernel_rfl)
theorem Q3 {M : Model} {E : Value → Shared → Prop} {o : Obj} {Q : Array Value → Shared → Prop} (hx : s.heap.get? x = some o) (hd : o.data = .seq vs m) (h : Q vs s) : wpAny M A (Builtin.List.listItems (.ref x)) Q E s := by
  unfold Builtin.List.listItems
  exact wpAny_bind (wpAny_seqItems hx hd (wpAny_pure h))
theorem code_pop {v : Value} (hx : s.heap.get? x = some (linstObj C d vs m)) (hv : vs[vs.size - 1]? = some v) (hz : vs.size ≤ sizeLine)
    (h : R (.ok (.ret v)) { s with heap := s.heap.update x (Obj.mapSeq (·.eraseIdxIfInBounds (vs.size - 1))) }) : codeAny (model prog w) A (.builtin "list.pop" ⟨[.ref x], []⟩) R s := by
  have hlt : vs.size - 1 < vs.size := (Array.getElem?_eq_some_iff.mp hv).1
  refine codeAny_builtin F.entry_list_pop ?_
  unfold Builtin.«list.pop»
  refine wpAny_bind (wpAny_of_eq (a := (.ref x, [])) rfl ?_)
  refine wpAny_bind (wpAny_pure ?_)
  dsimp only
  rw [if_neg (by decide +kernel)]
  refine wpAny_bind (Q3 hx rfl ?_)
  have he : vs.isEmpty = false := by
    cases q : vs.isEmpty with
    | false => rfl
    | true => rw [Array.isEmpty_iff_size_eq_zero] at q; omega
  rw [he, if_neg (by decide)]
  have hs : seqIndex? (-1) vs.size = some (vs.size - 1) := by
    obtain ⟨k, hk⟩ : ∃ k, vs.size = k + 1 := ⟨vs.size - 1, (Nat.succ_pred_eq_of_pos (Nat.zero_lt_of_lt hlt)).symm⟩
    rw [hk]
    show (if (decide ((0 : Int) ≤ -1 + ((k + 1 : Nat) : Int)) && decide (-1 + ((k + 1 : Nat) : Int) < ((k + 1 : Nat) : Int))) = true then some (-1 + ((k + 1 : Nat) : Int)).toNat else none) = some k
    have e : -1 + ((k + 1 : Nat) : Int) = (k : Int) := by rw [Int.natCast_succ, Int.add_comm, Int.add_assoc]; exact Int.add_zero _
    rw [e, decide_eq_true (Int.natCast_nonneg k), decide_eq_true (Int.ofNat_lt.mpr (Nat.lt_succ_self k))]; rfl
  rw [hs]
  simp only [Option.bind_some, hv, Option.map_some]
  show wpAny _ _ (updateSeq x _ >>= _) _ _ _
  exact wpAny_bind (wpAny_updateSeq hx rfl (wpAny_pure h) hz (by simp [Array.eraseIdxIfInBounds, hlt]; omega))
theorem code_len (hx : s.heap.get? x = some (linstObj C d vs m)) (h : ∀ tk, R (.ok (.ret (.int vs.size tk))) { s with toks := s.toks + 1 }) : codeAny (model prog w) A (.builtin "list.__len__" ⟨[.ref x], []⟩) R s := by
  refine codeAny_builtin F.entry_list_len ?_
  unfold Builtin.«list.__len__»
  refine wpAny_bind (wpAny_of_eq (a := (.ref x, [])) rfl ?_)
  dsimp only
  refine wpAny_bind ?_
  unfold seqSize
  refine wpAny_bind (wpAny_loadPart hx ?_)
  refine wpAny_pure ?_
  unfold retInt
  exact wpAny_bind (wpAny_mkInt (wpAny_pure (h _)))
theorem code_init (hx : s.heap.get? x = some (linstObj C d vs m)) (hz : vs.size ≤ sizeLine)
    (h : R (.ok (.ret .none)) { s with heap := s.heap.update x (Obj.mapSeq fun _ => #[]) }) : codeAny (model prog w) A (.builtin "list.__init__" ⟨[.ref x], []⟩) R s := by
  refine codeAny_builtin entry_list_init ?_
  unfold Builtin.«list.__init__»
  dsimp only
  refine wpAny_bind (Q3 hx rfl ?_)
  show wpAny _ _ (updateSeq x _ >>= _) _ _ _
  exact wpAny_bind (wpAny_updateSeq hx rfl (wpAny_bind (wpAny_letGo (wpAny_pure h))) hz (Nat.zero_le _))
theorem bk_append : builtinKind "list.append" = some .method := by decide +kernel
theorem si_append : splitId "list.append" = some ("list", "append") := by decide +kernel
theorem code_append {v : Value} (hx : s.heap.get? x = some (linstObj C d vs m)) (hs : Looks (model prog w) s.heap (isSubtype (.ref C) (.type "list")) true) (hz : vs.size ≤ sizeLine)
    (h : R (.ok (.ret .none)) { s with heap := s.heap.update x (Obj.mapSeq (·.push v)) }) : codeAny (model prog w) A (.call (.builtin "list.append") ⟨[.ref x, v], []⟩) R s := by
  refine codeAny_call_builtin (by decide +kernel) F.entry_list_append ?_
  unfold checkBuiltinCall
  rw [bk_append, si_append]
  dsimp only
  refine wpAny_bind (Xw hx rfl hs ?_)
  refine wpAny_of_eq (a := ()) (by kernel_rfl) ?_
  unfold Builtin.«list.append»
  refine wpAny_bind (wpAny_of_eq (a := (.ref x, v)) rfl ?_)
  show wpAny _ _ (updateSeq x _ >>= _) _ _ _
  exact wpAny_bind (wpAny_updateSeq hx rfl (wpAny_pure h) hz (by simp; omega))
theorem isInst_module {M : Model} {E : Value → Shared → Prop} {o : Obj} {Q : Bool → Shared → Prop} (hx : s.heap.get? x = some o) (hc : o.cls = .ref C) (hs : Looks M s.heap (isSubtype (.ref C) (.type "module")) false) (h : Q false s) : wpAny M A (isInstance (.ref x) (.type "module")) Q E s := by
  unfold isInstance
  refine wpAny_bind ?_
  simp only [typeOf]
  refine wpAny_bind (wpAny_load hx (wpAny_pure ?_))
  rw [hc]
  exact hs.here h
theorem bk_pop : builtinKind "list.pop" = some .method := by decide +kernel
theorem bound_pop {o : Obj} {cd : ClassData} (hq : cd.qualname = Str.ofString "_Accumulator") (X : K.In s.heap) (hx : s.heap.get? x = some o) (hc : o.cls = .ref C) (hn : notCls o = true) (hcd : clsIn K C = some cd) (hm : mroIn K C (.type "module") = some false) (ht : typeIn K (.ref C) = some (.type "type")) :
    wpAny (model prog w) A (checkBoundCall "list.pop" ⟨[.ref x], []⟩) (fun _ s' => s' = s) (fun _ _ => False) s := by
  have key : ((Manifest.signature? "list.pop").map fun sig => Bind.checkArgs "list.pop" { sig with full := toString (Str.ofString "_Accumulator").toString ++ toString "." ++ toString (Bind.lastOf "list.pop") } ⟨[.ref x], []⟩) = some (pure ()) := by kernel_rfl
  unfold checkBoundCall
  cases hsig : Manifest.signature? "list.pop" with
  | none => exact wpAny_pure rfl
  | some sig =>
    rw [bk_pop]
    dsimp only
    rw [if_neg (by decide)]
    refine wpAny_bind (isInst_module hx hc (looks_mroIn X hm) ?_)
    rw [if_neg (by decide +kernel)]
    refine wpAny_bind (isType_not hx hn ?_)
    have htx : wpAny (model prog w) A (typeOf (.ref x)) (fun v s' => v = .ref C ∧ s' = s) (fun _ _ => False) s := by
      simp only [typeOf]
      exact wpAny_bind (wpAny_load hx (wpAny_pure ⟨hc, rfl⟩))
    rw [if_neg (by simp)]
    refine wpAny_bind (wpAny_mono htx (fun v s' z => ?_) fun _ _ z => z)
    obtain ⟨rfl, rfl⟩ := z
    dsimp only
    refine wpAny_bind ((looks_clsIn X hcd).here ?_)
    refine wpAny_bind ((looks_typeIn X ht).here ?_)
    rw [if_pos (by decide)]
    rw [hsig, Option.map_some] at key
    rw [hq]
    exact wpAny_of_eq (Option.some.inj key) rfl
theorem bound_len : wpAny (model prog w) A (checkBoundCall "list.__len__" ⟨[.ref x], []⟩) (fun _ s' => s' = s) (fun _ _ => False) s := wpAny_of_eq (a := ()) (by kernel_rfl) rfl
theorem bound_init : wpAny (model prog w) A (checkBoundCall "list.__init__" ⟨[.ref x], []⟩) (fun _ s' => s' = s) (fun _ _ => False) s := wpAny_of_eq (a := ()) (by kernel_rfl) rfl
end
structure LMakes (K : Frag) (C : Addr) (cd : ClassData) : Prop where
  cls : clsIn K C = some cd
  abs : cd.abstract = false
  del : cd.hasDel = false
  mro : ∃ rest, cd.mro = .ref C :: .type "list" :: rest
  made : ∀ M h, K.In h → Looks M h (Bind.madeBy (.ref C)) (some "list.__new__")
  base : ∀ M h, K.In h → Looks M h (Bind.staticBase (.ref C)) (.ref C)
  call : specialIn K (.ref C) "__call__" = some (some (.builtin "type.__call__"))
  typ : instIn K (.ref C) (.type "type") = some true
theorem bk_lnew : builtinKind "list.__new__" = some .builtinFn := by decide +kernel
theorem si_lnew : splitId "list.__new__" = some ("list", "__new__") := by decide +kernel
theorem quiet_lnew (a : Args) : (Code.builtin "list.__new__" a).quiet = true := Code.quiet_builtin _ (by decide +kernel)
theorem entry_lnew : entryFor table "list.__new__" = some Builtin.«list.__new__» := entryFor_of_tree (by kernel_rfl)
theorem own_lnew : ("list.__new__".splitOn ".__new__").headD "" = "list" := by simp +decide [String.splitOn, String.splitOnAux]
section
variable {prog : Program} {w : World} {A : Around} {s : Shared} {K : Frag} {C : Addr} {cd : ClassData}
theorem lnew_code {R : Result → Shared → Prop} (X : K.In s.heap) (L : LMakes K C cd)
    (h : R (.ok (.ret (.ref (s.heap.objs.size + 1)))) { s with heap := (s.heap.push emptyDict).push (linstObj C (some s.heap.objs.size) #[] 0) }) : codeAny (model prog w) A (.call (.builtin "list.__new__") ⟨[.ref C], []⟩) R s := by
  obtain ⟨rest, hm⟩ := L.mro
  have hsub : Looks (model prog w) s.heap (isSubtype (.ref C) (.type "list")) true := looks_mroIn X (by unfold mroIn; rw [L.cls, Option.bind_some, hm]; rfl)
  refine codeAny_call_builtin_code (quiet_lnew _) ?_
  unfold checkBuiltinCall
  rw [bk_lnew, si_lnew]
  dsimp only
  rw [if_pos (by decide)]
  refine wpAny_bind (Je X L.cls ?_)
  rw [if_neg (by decide)]
  refine wpAny_bind (hsub.here ?_)
  rw [if_neg (by decide)]
  refine wpAny_bind ((L.base _ _ X).here ?_)
  refine wpAny_bind ((L.made _ _ X).here ?_)
  dsimp only
  rw [if_neg (by decide +kernel)]
  refine wpAny_of_eq (a := ()) (by kernel_rfl) ?_
  refine PySem.codeAny_builtinAt entry_lnew ?_
  unfold Builtin.«list.__new__»
  refine PySem.wpAt_bind (PySem.wpAt_stack fun p below => ?_)
  dsimp only
  refine PySem.wpAt_of_wpAny ?_
  refine wpAny_bind (Je X L.cls ?_)
  rw [if_neg (by decide)]
  rw [own_lnew]
  refine wpAny_bind (hsub.here ?_)
  rw [if_neg (by decide)]
  refine wpAny_bind (wpAny_pure ?_)
  rw [if_neg (by simp [typeHasDict])]
  unfold newDict
  refine wpAny_bind (wpAny_newObj_type ?_ (by size_fits))
  dsimp only
  refine wpAny_bind ?_
  show wpAny _ _ (newObjAsIs _ _ _) _ _ _
  unfold newObjAsIs classHasDel
  refine wpAny_bind (wpAny_alloc ?_)
  have hc := L.cls
  unfold clsIn at hc
  split at hc
  rotate_left
  · cases hc
  rename_i oc od cd' sl ho
  cases hc
  dsimp only
  refine wpAny_bind (wpAny_bind (wpAny_load (Heap.get?_push_of_some _ (Heap.get?_push_of_some _ (X _ _ ho))) (wpAny_pure ?_)))
  rw [L.del]
  refine wpAny_pure (wpAny_pure ?_)
  show R _ _
  rw [Heap.size_push]
  exact h
theorem lmake_core {R : Result → Shared → Prop} {fI : Addr} {rest : List Value} (X : K.In s.heap) (L : LMakes K C cd) (hi : findIn K (.ref C) "__init__" = some (some (.ref fI))) (hf : typeIn K (.ref fI) = some (.type "function")) (hr : rest = [])
    (hq : codeAny (model prog w) (A.under (.builtin "type.__call__" ⟨.ref C :: rest, []⟩)) (.call (.ref fI) ⟨.ref (s.heap.objs.size + 1) :: rest, []⟩) (InitBack (s.heap.objs.size + 1) R) { s with heap := (s.heap.push emptyDict).push (linstObj C (some s.heap.objs.size) #[] 0) }) :
    codeAny (model prog w) A (.call (.ref C) ⟨rest, []⟩) R s := by
  subst hr
  obtain ⟨mr, hm⟩ := L.mro
  have hc := L.cls
  unfold clsIn at hc
  split at hc
  rotate_left
  · cases hc
  rename_i oc od cd' sl ho
  cases hc
  obtain ⟨hp, g, d, tk, os⟩ := s
  have hC := X _ _ ho
  have hcall : Looks (model prog w) hp (specialOf (.ref C) "__call__") (some (.builtin "type.__call__")) := looks_specialIn X L.call
  have htyp : Looks (model prog w) hp (isInstance (.ref C) (.type "type")) true := looks_instIn X L.typ
  have hmro : Looks (model prog w) hp (mroOf (.ref C)) cd.mro := (looks_clsIn X L.cls).andThen .now
  refine codeAny_of_tree ?_
  show wpAny _ _ (callAny (.ref C) _) _ _ _
  unfold callAny
  refine wpAny_bind (wpAny_load hC ?_)
  show wpAny _ _ (callAny.viaDunder (.ref C) _) _ _ _
  unfold callAny.viaDunder
  refine wpAny_bind (hcall.at ?_)
  dsimp only
  rw [tc_bind]
  refine wpAny_bind (wpAny_pure (wpAny_bind (wpAny_pure ?_)))
  refine wpAny_pure (a := Fin.again (.call (.builtin "type.__call__") ⟨[.ref C], []⟩)) (And.intro rfl ?_)
  refine codeAny_call_builtin_at (Code.quiet_builtin _ (by decide +kernel)) entry_typeCall (check_slot tc_kind tc_split htyp (tc_args _ _ _) ?_)
  unfold Builtin.«type.__call__»
  refine wpAny_bind (hmro.at ?_)
  rw [hm, if_neg (by simp)]
  refine wpAny_bind ((L.made _ _ X).at ?_)
  dsimp only
  refine wpAny_bind (wpAny_pure ?_)
  refine wpAny_bind (wpAny_holding (wpAny_call (lnew_code (s := ⟨hp, g, d, tk, os⟩) X L ?_)))
  have k : ∀ b o, hp.get? b = some o → ((hp.push emptyDict).push (linstObj C (some hp.objs.size) #[] 0)).get? b = some o := fun b o e => Heap.get?_push_of_some _ (Heap.get?_push_of_some _ e)
  have hx : ((hp.push emptyDict).push (linstObj C (some hp.objs.size) #[] 0)).get? (hp.objs.size + 1) = some (linstObj C (some hp.objs.size) #[] 0) := by
    rw [show hp.objs.size + 1 = (hp.push emptyDict).objs.size from (Heap.size_push ..).symm]; exact Heap.get?_push_size _ rfl
  have X' : K.In ((hp.push emptyDict).push (linstObj C (some hp.objs.size) #[] 0)) := Frag.In.keeps X k
  have t1 : Looks (model prog w) ((hp.push emptyDict).push (linstObj C (some hp.objs.size) #[] 0)) (typeOf (.ref (hp.objs.size + 1))) (.ref C) := (Looks.ld hx).andThen .now
  have s1 : Looks (model prog w) ((hp.push emptyDict).push (linstObj C (some hp.objs.size) #[] 0)) (isSubtype (.ref C) (.ref C)) true := looks_mroIn X' (by unfold mroIn; rw [L.cls, Option.bind_some, hm]; simp)
  unfold isInstance
  refine wpAny_bind (wpAny_bind (t1.at (s1.at ?_)))
  rw [if_neg (by decide)]
  refine wpAny_bind (wpAny_holding ?_)
  unfold callSpecial? specialOf
  refine wpAny_bind (wpAny_bind (t1.at ((looks_findIn X' hi).at ?_)))
  refine wpAny_holding ?_
  refine wpAny_bind ((bind_fn X' _ hf).at ?_)
  refine wpAny_bind (wpAny_call (codeAny_mono hq fun r s' z => ?_))
  rcases r with e | (v | _ | _ | _) <;> first | exact z | exact z.elim | skip
  obtain ⟨rfl, z⟩ := z
  exact wpAny_pure (wpAny_pure z)
end
section
open PySem PySem.Calls PySem.W PyProof.Rows Builtin.ObjectAttr
section
variable {c : Ctx0} {b : Nat} {f : FI}
theorem refuse_list (self : Value) : refuseLoop self "__setattr__" [.type "list", .type "object"] = pure () := by kernel_rfl
theorem osa_open2 {prog : Program} {w : World} {A : Around} {s : Shared} {K : Frag} {x C : Addr} {R : Result → Shared → Prop} {ox : Obj} {od : Option Obj} {name : Str} {tk : Tok} {v : Value} {r : Option Value} {cd : ClassData} (X : K.In s.heap) (I : InstAt s.heap x ox C od)
    (hc : clsIn K C = some cd) (hp : cd.mro = [.ref C, .type "list", .type "object"]) (ht : takerIn K C name = some r)
    (h : ∀ b, wpAny (model prog w) A.in1 (match r with | some a => setByDescriptor a (.ref x) v | none => storeInOwnDict (.ref x) (.ref C) (.str name tk) name v b)
      (fun fin s' => match fin with | .done f => R (.ok f) s' | .again c' => c'.quiet = true ∧ codeAny (model prog w) A c' R s') (fun e s' => R (.error e) s') s) :
    codeAny (model prog w) A (.call (.builtin "object.__setattr__") ⟨[.ref x, .str name tk, v], []⟩) R s := by
  have SF := PySem.F.store_object
  have sub : Looks (model prog w) s.heap (isInstance (.ref x) (.type "object")) true := I.type.andThen (looks_mroIn X (by unfold mroIn; rw [hc, Option.bind_some, hp]; rfl))
  refine codeAny_call_builtin SF.slot.plain SF.entry (@check_slot (model prog w) _ _ s "object.__setattr__" "object" "__setattr__" (.ref x) [.str name tk, v] [] _ SF.kind SF.split sub (SF.args (.ref x) (.str name tk) v) ?_)
  obtain ⟨attr, ha, hr⟩ := Option.bind_eq_some_iff.mp ht
  have hm : Looks (model prog w) s.heap (mroOf (.ref C)) cd.mro := (looks_clsIn X hc).andThen .now
  have L3 : Looks (model prog w) s.heap (storeTaker? attr) r := by
    cases attr with
    | none => cases hr; exact .now
    | some a =>
      obtain ⟨b, hb, rfl⟩ := Option.map_eq_some_iff.mp hr
      refine (looks_takesIn X hb).andThen ?_
      cases b <;> exact .now
  rw [osa_eq, refuse_eq]
  refine wpAny_bind (wpAny_bind (I.type.here (wpAny_bind (hm.here ?_))))
  rw [hp, refuseLoop_ref, refuse_list]
  exact wpAny_pure (wpAny_bind (I.type.here (wpAny_bind ((looks_findIn X ha).here (wpAny_bind (L3.here (h _)))))))
theorem osa_own2 {A : Around} {s : Shared} {x C dx : Addr} {ox : Obj} {name : Str} {tk : Tok} {v : Value} {es : List DictEntry} {n : Nat} {R : Result → Shared → Prop} (X : c.K.In s.heap)
    (I : InstAt s.heap x ox C (some (W.dictOf es n))) (hd : ox.dict = some dx) {cd0 : ClassData} (hcl : clsIn c.K C = some cd0) (hp : cd0.mro = [.ref C, .type "list", .type "object"]) (ht : takerIn c.K C name = some none) (hh : (clsIn c.K C).any (·.hasDict) = true)
    (hl : (W.getL name es).isSome = true) (hz : (putL name (PyData.keyHash c.w.params name) (.str name s.toks) v es).length ≤ 1000)
    (h : R (.ok (.ret .none)) { s with heap := s.heap.update dx (Obj.putName name (PyData.keyHash c.w.params name) (.str name s.toks) v), toks := s.toks + 1 }) :
    codeAny (model c.prog c.w) A (.call (.builtin "object.__setattr__") ⟨[.ref x, .str name tk, v], []⟩) R s := by
  refine osa_open2 X I hcl hp ht fun b => ?_
  obtain ⟨cd, hc, hd'⟩ := any_some hh
  have D : s.heap.get? dx = some (W.dictOf es n) := by have := I.dict; rw [hd] at this; exact this
  have D' : (s.heap.update dx (Obj.putName name (PyData.keyHash c.w.params name) (.str name s.toks) v)).get? dx = some (W.dictOf (putL name (PyData.keyHash c.w.params name) (.str name s.toks) v es) (putN name es n)) := by
    rw [Heap.get?_update_self _ D (by rw [putName_dict]; rfl), putName_dict]
  obtain ⟨hx, hcl, hn, -⟩ := I
  obtain ⟨oc, odi, oda, osl⟩ := ox
  dsimp only at hcl hd
  subst hcl hd
  refine wpAny_bind (wpAny_pure (wpAny_bind (wpAny_bind (wpAny_loadPart hx (wpAny_bind ((looks_clsIn X hc).here ?_))))))
  rw [hd']
  refine wpAny_pure (a := some dx) (wpAny_bind (wpAny_pure (wpAny_bind ?_)))
  unfold nsSet
  refine wpAny_bind (wpAny_bind (wpAny_askSetting (wpAny_pure (wpAny_bind (wpAny_mkText (wpAny_bind (wpAny_loadPart D ?_)))))))
  dsimp only
  have cc : (!es.toArray.any (·.key.isStr name) && es.toArray.any (·.refKey)) = false := by
    rw [← Array.any_toList, ← Array.any_toList]
    unfold W.getL at hl
    dsimp only
    split at hl
    · rename_i en he
      rw [List.any_eq_true.mpr ⟨en, List.mem_of_find?_eq_some he, List.find?_some he⟩]; rfl
    · split at hl
      · cases hl
      · rename_i z; rw [Bool.not_eq_true] at z; rw [z, Bool.and_false]
  rw [aRefKeyMayBeTheName_at, cc]
  refine wpAny_updatePart D ?_
  refine wpAny_bind (wpAny_lookBehind D' (pastItsLine_dict (by rw [List.size_toArray, sizeLine_eq]; omega)) ?_)
  exact wpAny_pure h
noncomputable def setLst (C : Addr) (name : Str) (p q : PV) : SM Unit := fun st => pik fun r => ∃ i kvs xs, P4 (p = .ref i) (st[i]? = some (.linst C kvs xs)) (kvs.length ≤ 900) (r = ((), st.set i (.linst C (kvPut kvs name q) xs)))
theorem setLst_of {C : Addr} {name : Str} {st : List AO} {i : Nat} {q : PV} {kvs : List (Str × PV)} {xs : List PV} (h : st[i]? = some (.linst C kvs xs)) (hz : kvs.length ≤ 900) : setLst C name (.ref i) q st = some ((), st.set i (.linst C (kvPut kvs name q) xs)) :=
  pik_of ⟨_, _, _, rfl, h, hz, rfl⟩ fun z q' => by obtain ⟨_, _, _, e, e', _, q⟩ := q'; cases e; cases h.symm.trans e'; exact q
theorem RelS.linstAt {K : Frag} {ρ : Rho} {st : List AO} {h : Heap} (R : RelS K ρ st h) {i : Nat} {a C : Addr} {kvs : List (Str × PV)} {xs : List PV} (e : headAt ρ i = some a) (q : st[i]? = some (.linst C kvs xs)) :
    ∃ d vs m es n, P6 (ρ.ents[i]? = some [a, d]) (h.get? a = some (linstObj C (some d) vs m)) (RVs h ρ vs.toList xs) (h.get? d = some (W.dictOf es n)) (EntsR h ρ es kvs) (InstAt h a (linstObj C (some d) vs m) C (some (W.dictOf es n))) := by
  obtain ⟨r, hr⟩ := Yr e
  obtain ⟨a', d, vs, m, es, n, e1, e2, e3, e4, e5⟩ := R.objs i _ _ hr q
  cases e1
  exact ⟨d, vs, m, es, n, hr, e2, e3, e4, e5, ⟨e2, rfl, rfl, e4⟩⟩
theorem op_setLst {C : Addr} {name : Str} {cd : ClassData} (hcl : clsIn c.K C = some cd) (hp : cd.mro = [.ref C, .type "list", .type "object"]) (hd : cd.hasDict = true) (hs : findIn c.K (.ref C) "__setattr__" = some (some (.builtin "object.__setattr__"))) (ht : takerIn c.K C name = some none) :
    Op2 c b RU (fun o v => setAttr o name v) (setLst C name) := by
  constructor
  intro A hA ρ s st x z x' z' y st' e r r' R
  obtain ⟨i, kvs, xs, rfl, q, hz, e'⟩ := Zo e
  clear e; cases e'
  obtain ⟨a, ha, rfl⟩ := r.inv
  obtain ⟨d, vs, m, es, n, hr, ho, rx, hD, er, I⟩ := R.linstAt ha q
  have hl : (W.getL name es).isSome = true := by
    cases q : kvGet kvs name with
    | none => rw [Qq er q]; rfl
    | some p => obtain ⟨v, hv, _⟩ := ents_get er q; rw [hv]; rfl
  have hlen := ents_length er
  have had : a ≠ d := fun q => by rw [q, hD] at ho; cases ho
  refine set_plain R.top I hs (osa_own2 (s := { s with toks := s.toks + 1 }) R.top I rfl hcl hp ht (by rw [hcl]; exact hd) hl (Nat.le_trans (putL_len ..) (by omega)) ?_)
  have D' : (s.heap.update d (Obj.putName name (PyData.keyHash c.w.params name) (.str name (s.toks + 1)) x')).get? d = some (W.dictOf (putL name (PyData.keyHash c.w.params name) (.str name (s.toks + 1)) x' es) (putN name es n)) := by
    rw [Heap.get?_update_self _ hD (by rw [putName_dict]; rfl), putName_dict]
  have hs : Heap.SameBut d s.heap (s.heap.update d (Obj.putName name (PyData.keyHash c.w.params name) (.str name (s.toks + 1)) x')) := Heap.SameBut.update ..
  have ha' := (hs.2 a had).trans ho
  obtain ⟨S, g⟩ := R.put (i := i) (ao' := .linst C (kvPut kvs name z') xs) hr (h' := s.heap.update d (Obj.putName name (PyData.keyHash c.w.params name) (.str name (s.toks + 1)) x'))
    (fun b o eb nb => (hs.2 b fun q => nb (by rw [q]; simp)).trans eb) (fun b m => by
      simp at m; rcases m with rfl | rfl
      · exact ⟨_, ha'⟩
      · exact ⟨_, D'⟩) fun g => ⟨a, d, _, _, _, _, rfl, ha', rx.carry (g.carry noFr), D', ents_put (er.carry (g.carry noFr)) (r'.grow g noFr) _ _⟩
  exact ⟨ρ, S, g, ⟨rfl, rfl, rfl⟩, trivial⟩
theorem RelS.linstPut {K : Frag} {ρ : Rho} {st : List AO} {h h' : Heap} (R : RelS K ρ st h) {i : Nat} {a d C : Addr} {kvs : List (Str × PV)} {xs' : List PV} {vs vs' : Array Value} {m m' : Nat} {es : List DictEntry} {n : Nat} (hr : ρ.ents[i]? = some [a, d]) (ho : h.get? a = some (linstObj C (some d) vs m))
    (hD : h.get? d = some (W.dictOf es n)) (er : EntsR h ρ es kvs) (hs : Heap.SameBut a h h') (e : h'.get? a = some (linstObj C (some d) vs' m')) (rx : RVs h ρ vs'.toList xs') :
    RelS K ρ (st.set i (.linst C kvs xs')) h' ∧ Grow [] ρ h ρ h' := by
  have had : d ≠ a := fun q => by rw [q, ho] at hD; cases hD
  have hD' := (hs.2 d had).trans hD
  exact R.put (i := i) (ao' := .linst C kvs xs') hr (fun b o eb nb => (hs.2 b fun q => nb (by rw [q]; simp)).trans eb) (fun b m => by
      simp at m; rcases m with rfl | rfl
      · exact ⟨_, e⟩
      · exact ⟨_, hD'⟩) fun g => ⟨a, d, _, _, _, _, rfl, e, rx.carry (g.carry noFr), hD', er.carry (g.carry noFr)⟩
structure OpB (c : Ctx0) (b : Nat) (id : String) (G : List PV → SM PV) : Prop where
  run : ∀ A, AOk b A → ∀ ρ s st vs ps y st', G ps st = some (y, st') → RVs s.heap ρ vs ps → RelS c.K ρ st s.heap → codeAny (model c.prog c.w) A (.builtin id ⟨vs, []⟩) (fun r s' => match r with
      | .ok (.ret v) => EndsS c.K RV ρ s y st' v s'
      | _ => False) s
noncomputable def lpopG (C : Addr) (ps : List PV) : SM PV := fun st => pik fun r => ∃ i kvs xs y, P5 (ps = [.ref i]) (st[i]? = some (.linst C kvs xs)) (xs.length ≤ sizeLine) (xs[xs.length - 1]? = some y) (r = (y, st.set i (.linst C kvs (xs.eraseIdx (xs.length - 1)))))
theorem lpop_of {C : Addr} {st : List AO} {i : Nat} {kvs : List (Str × PV)} {xs : List PV} {y : PV} (h : st[i]? = some (.linst C kvs xs)) (hz : xs.length ≤ sizeLine) (hy : xs[xs.length - 1]? = some y) : lpopG C [.ref i] st = some (y, st.set i (.linst C kvs (xs.eraseIdx (xs.length - 1)))) :=
  pik_of ⟨_, _, _, _, rfl, h, hz, hy, rfl⟩ fun z q' => by obtain ⟨_, _, _, _, e, e', _, e1, q⟩ := q'; cases e; cases h.symm.trans e'; cases hy.symm.trans e1; exact q
noncomputable def llenG (C : Addr) (ps : List PV) : SM PV := fun st => pik fun r => ∃ i kvs xs, P3 (ps = [.ref i]) (st[i]? = some (.linst C kvs xs)) (r = (.int xs.length, st))
theorem llen_of {C : Addr} {st : List AO} {i : Nat} {kvs : List (Str × PV)} {xs : List PV} (h : st[i]? = some (.linst C kvs xs)) : llenG C [.ref i] st = some (.int xs.length, st) :=
  pik_of ⟨_, _, _, rfl, h, rfl⟩ fun z q' => by obtain ⟨_, _, _, e, e', q⟩ := q'; cases e; cases h.symm.trans e'; exact q
noncomputable def linitG (C : Addr) (ps : List PV) : SM PV := fun st => pik fun r => ∃ i kvs xs, P4 (ps = [.ref i]) (st[i]? = some (.linst C kvs xs)) (xs.length ≤ sizeLine) (r = (.none, st.set i (.linst C kvs [])))
theorem linit_of {C : Addr} {st : List AO} {i : Nat} {kvs : List (Str × PV)} {xs : List PV} (h : st[i]? = some (.linst C kvs xs)) (hz : xs.length ≤ sizeLine) : linitG C [.ref i] st = some (.none, st.set i (.linst C kvs [])) :=
  pik_of ⟨_, _, _, rfl, h, hz, rfl⟩ fun z q' => by obtain ⟨_, _, _, e, e', _, q⟩ := q'; cases e; cases h.symm.trans e'; exact q
theorem upd_seq {h : Heap} {a C : Addr} {d : Option Addr} {vs : Array Value} {m : Nat} {f : Array Value → Array Value} (e : h.get? a = some (linstObj C d vs m)) : ∃ m', (h.update a (Obj.mapSeq f)).get? a = some (linstObj C d (f vs) m') := by
  exact ⟨if (f vs).size == vs.size then m else m + 1, by rw [Heap.get?_update_self _ e (by unfold Obj.mapSeq; rfl)]; rfl⟩
theorem op_lpop {C : Addr} : OpB c b "list.pop" (lpopG C) := by
  constructor
  intro A hA ρ s st vs ps y st' e r R
  obtain ⟨i, kvs, xs, y, rfl, q, hz, hy, e'⟩ := Zo e
  clear e; cases e'
  obtain ⟨_, rfl, r1⟩ := rvs1 r
  obtain ⟨a, ha, rfl⟩ := r1.inv
  obtain ⟨d, us, m, es, n, hr, ho, rx, hD, er, I⟩ := R.linstAt ha q
  have hl := rx.length
  rw [Array.length_toList] at hl
  obtain ⟨v, hv, rv⟩ := rx.getAt hy
  rw [← hl] at hv
  have hlt : us.size - 1 < us.size := (Array.getElem?_eq_some_iff.mp hv).1
  refine code_pop ho hv (by rw [hl]; exact hz) ?_
  obtain ⟨m', hm'⟩ := upd_seq (f := (·.eraseIdxIfInBounds (us.size - 1))) ho
  obtain ⟨S, g⟩ := R.linstPut hr ho hD er (Heap.SameBut.update ..) hm' (xs' := xs.eraseIdx (xs.length - 1)) (by
    have hE : (us.eraseIdxIfInBounds (us.size - 1)).toList = us.toList.eraseIdx (us.size - 1) := by simp [Array.eraseIdxIfInBounds, hlt]
    rw [hE, hl]
    exact rx.erase _)
  exact ⟨ρ, S, g, ⟨rfl, rfl, rfl⟩, rv.grow g noFr⟩
theorem op_llen {C : Addr} : OpB c b "list.__len__" (llenG C) := by
  constructor
  intro A hA ρ s st vs ps y st' e r R
  obtain ⟨i, kvs, xs, rfl, q, e'⟩ := Zo e
  clear e; cases e'
  obtain ⟨_, rfl, r1⟩ := rvs1 r
  obtain ⟨a, ha, rfl⟩ := r1.inv
  obtain ⟨d, us, m, es, n, hr, ho, rx, hD, er, I⟩ := R.linstAt ha q
  have hl := rx.length
  rw [Array.length_toList] at hl
  refine code_len ho fun tk => ?_
  rw [hl]
  exact EndsS.tok R (.int _ _)
theorem op_linit {C : Addr} : OpB c b "list.__init__" (linitG C) := by
  constructor
  intro A hA ρ s st vs ps y st' e r R
  obtain ⟨i, kvs, xs, rfl, q, hz, e'⟩ := Zo e
  clear e; cases e'
  obtain ⟨_, rfl, r1⟩ := rvs1 r
  obtain ⟨a, ha, rfl⟩ := r1.inv
  obtain ⟨d, us, m, es, n, hr, ho, rx, hD, er, I⟩ := R.linstAt ha q
  have hl := rx.length
  rw [Array.length_toList] at hl
  refine code_init ho (by rw [hl]; exact hz) ?_
  obtain ⟨m', hm'⟩ := upd_seq (f := fun _ => #[]) ho
  obtain ⟨S, g⟩ := R.linstPut hr ho hD er (Heap.SameBut.update ..) hm' (xs' := []) .nil
  exact ⟨ρ, S, g, ⟨rfl, rfl, rfl⟩, .none⟩
noncomputable def lappendG (C : Addr) (ps : List PV) : SM PV := fun st => pik fun r => ∃ i p kvs xs, P4 (ps = [.ref i, p]) (st[i]? = some (.linst C kvs xs)) (xs.length ≤ sizeLine) (r = (.none, st.set i (.linst C kvs (xs ++ [p]))))
theorem lappend_of {C : Addr} {st : List AO} {i : Nat} {p : PV} {kvs : List (Str × PV)} {xs : List PV} (h : st[i]? = some (.linst C kvs xs)) (hz : xs.length ≤ sizeLine) : lappendG C [.ref i, p] st = some (.none, st.set i (.linst C kvs (xs ++ [p]))) :=
  pik_of ⟨_, _, _, _, rfl, h, hz, rfl⟩ fun z q' => by obtain ⟨_, _, _, _, e, e', _, q⟩ := q'; cases e; cases h.symm.trans e'; exact q
theorem op_lappend {C : Addr} (hs : mroIn c.K C (.type "list") = some true) : OpL c b (fun vs => call (.builtin "list.append") vs) (lappendG C) := by
  constructor
  intro A hA ρ s st vs ps y st' e r R
  obtain ⟨i, p, kvs, xs, rfl, q, hz, e'⟩ := Zo e
  clear e; cases e'
  obtain ⟨_, v, rfl, r1, r2⟩ := rvs2 r
  obtain ⟨a, ha, rfl⟩ := r1.inv
  obtain ⟨d, us, m, es, n, hr, ho, rx, hD, er, I⟩ := R.linstAt ha q
  have hl := rx.length
  rw [Array.length_toList] at hl
  refine wpAny_call (code_append ho (looks_mroIn R.top hs) (by rw [hl]; exact hz) ?_)
  obtain ⟨m', hm'⟩ := upd_seq (f := (·.push v)) ho
  obtain ⟨S, g⟩ := R.linstPut hr ho hD er (Heap.SameBut.update ..) hm' (xs' := xs ++ [p]) (by rw [Array.toList_push]; exact rx.append (.cons r2 .nil))
  exact ⟨ρ, S, g, ⟨rfl, rfl, rfl⟩, .none⟩
noncomputable def lmethOk (K : Frag) (C : Addr) (name : Str) (fv : Value) (ty : String) : Bool := findIn K (.ref C) "__getattribute__" == some (some (.builtin "list.__getattribute__")) && findIn K (.ref C) "__getattr__" == some none && findIn K (.ref C) name == some (some fv) && typeIn K fv == some (.type ty) &&
  (ty == "function" || ty == "method_descriptor")
noncomputable def Qw (C : Addr) (name : Str) (p : PV) (st : List AO) : Bool := pikB (∃ i kvs xs, P3 (p = .ref i) (st[i]? = some (.linst C kvs xs)) (kvGet kvs name = none))
theorem can_lget : (Manifest.canonical "list.__getattribute__" != "object.__getattribute__") = false := by decide +kernel
theorem Y4 {C : Addr} {name : Str} {fv : Value} {ty : String} (hk : lmethOk c.K C name fv ty = true) : MethAt c name (Qw C name) fv := by
  constructor
  intro A pl ρ s st v p Q hP r R h
  obtain ⟨i, kvs, xs, rfl, q, hn⟩ := X7 hP
  obtain ⟨a, ha, rfl⟩ := r.inv
  obtain ⟨d, us, m, es, n, hr, ho, rx, hD, er, I⟩ := R.linstAt ha q
  simp only [lmethOk, Bool.and_eq_true, beq_iff_eq, Bool.or_eq_true] at hk
  obtain ⟨⟨⟨⟨h1, h2⟩, h3⟩, h4⟩, h5⟩ := hk
  unfold getMethod specialOf
  refine wpAny_bind (wpAny_bind (I.type.here ((looks_findIn R.top h1).here ?_)))
  dsimp only
  rw [can_lget, if_neg (by decide)]
  refine wpAny_bind (wpAny_bind (I.type.here ((looks_findIn R.top h2).here ?_)))
  refine wpAny_bind (wpAny_bind (I.type.here ((looks_findIn R.top h3).here (wpAny_bind ((looks_typeIn R.top h4).here ?_)))))
  have hns : Looks (model c.prog c.w) s.heap (nsGet d name) none := by
    intro A Q E s' k q
    unfold nsGet
    refine wpAny_bind (wpAny_loadPart (k _ _ hD) ?_)
    rw [nsLook_of (r := none) (by rw [lookIn_dict, Qq er hn])]
    exact wpAny_pure q
  rcases h5 with h5 | h5
  · subst h5
    rw [if_neg (by decide +kernel)]
    refine wpAny_bind (wpAny_loadPart ho ?_)
    dsimp only
    refine wpAny_bind (hns.here ?_)
    rw [if_neg (by simp)]
    exact wpAny_bind (wpAny_rule (wpAny_pure h))
  · subst h5
    rw [if_neg (by decide +kernel)]
    refine wpAny_bind (wpAny_loadPart ho ?_)
    dsimp only
    refine wpAny_bind (hns.here ?_)
    rw [if_neg (by simp)]
    exact wpAny_bind (wpAny_rule (wpAny_pure h))
end
end
structure DenX (c : Ctx0) (b : Nat) (f : FI) (body : List Stmt) {α β : Type} (RA : Heap → Rho → α → β → Prop) (t : Sem α) (F : FM β) : Prop where
  run : ∀ A, AOk b A → ∀ ρ s es y es', F es = some (y, es') → RelF c.K f ρ es s.heap → PySem.wpAt (model c.prog c.w) A (.func body f.env) t (Ends c.K f RA ρ s y es') noE s
section
variable {c : Ctx0} {b : Nat} {f : FI} {body : List Stmt}
theorem Den.x {α β : Type} {RA : Heap → Rho → α → β → Prop} {t : Sem α} {F : FM β} (d : Den c b f RA t F) : DenX c b f body RA t F := ⟨fun A hA ρ s es y es' e R => PySem.wpAt_of_wpAny (d.run A hA ρ s es y es' e R)⟩
theorem Qr {st : Stmt} {rest : List Stmt} {F G : FM PF} (d : DenX c b f body RFl (exec st f.env) F) (d' : DenX c b f body RFl (execs rest f.env) G) : DenX c b f body RFl (execs (st :: rest) f.env) (seqE F G) := by
  constructor
  intro A hA ρ s es y es' e R
  obtain ⟨fl, es₁, e1, e2⟩ := Ze e
  rw [execs_cons]
  refine PySem.wpAt_bind (PySem.wpAt_mono (d.run A hA ρ s es fl es₁ e1 R) (fun flv s₁ z => ?_) fun _ _ z => z)
  obtain ⟨ρ₁, R₁, g₁, q₁, rf⟩ := z
  cases rf with
  | next => exact PySem.wpAt_mono (d'.run A hA ρ₁ s₁ es₁ y es' e2 R₁) (fun _ _ z => z.after g₁ q₁) fun _ _ z => z
  | brk => obtain ⟨rfl, rfl⟩ := spr e2; exact PySem.wpAt_of_wpAny (wpAny_pure ⟨ρ₁, R₁, g₁, q₁, .brk⟩)
  | cont => obtain ⟨rfl, rfl⟩ := spr e2; exact PySem.wpAt_of_wpAny (wpAny_pure ⟨ρ₁, R₁, g₁, q₁, .cont⟩)
  | ret r => obtain ⟨rfl, rfl⟩ := spr e2; exact PySem.wpAt_of_wpAny (wpAny_pure ⟨ρ₁, R₁, g₁, q₁, .ret r⟩)
theorem denx_return {x : Expr} {pos : Pos} {X : FM PV} (dx : DenX c b f body RV (eval x f.env) X) : DenX c b f body RFl (exec (.Return (some x) pos) f.env) (bindE X fun p => pureE (.ret p)) := by
  constructor
  intro A hA ρ s es y es' e R
  obtain ⟨p, es₁, e1, e2⟩ := Ze e
  obtain ⟨rfl, rfl⟩ := spr e2
  rw [exec_Return_some]
  refine PySem.wpAt_bind (PySem.wpAt_of_wpAny (wpAny_standAt ?_))
  refine PySem.wpAt_bind (PySem.wpAt_mono (dx.run A hA ρ s es p _ e1 R) (fun v s₁ z => ?_) fun _ _ z => z)
  obtain ⟨ρ₁, R₁, g₁, q₁, r₁⟩ := z
  exact PySem.wpAt_of_wpAny (wpAny_pure ⟨ρ₁, R₁, g₁, q₁, .ret r₁⟩)
theorem denx_expr {x : Expr} {pos : Pos} {X : FM PV} (dx : DenX c b f body RV (eval x f.env) X) (hi : interactive f.env = false) (hs : swapsWith x none pos.line f.env = pure false := by rfl) :
    DenX c b f body RFl (exec (.Expr x pos) f.env) (bindE X fun _ => pureE .next) := by
  constructor
  intro A hA ρ s es r es' e R
  obtain ⟨p, es₁, e1, e2⟩ := Ze e
  cases e2
  rw [exec_Expr _ _ _ hi hs]
  refine PySem.wpAt_bind (PySem.wpAt_of_wpAny (wpAny_standAt ?_))
  refine PySem.wpAt_bind (PySem.wpAt_mono (dx.run A hA ρ s es p es' e1 R) (fun v s₁ z => ?_) fun _ _ z => z)
  obtain ⟨ρ₁, R₁, g₁, q₁, r₁⟩ := z
  exact PySem.wpAt_of_wpAny (wpAny_dropValue ⟨ρ₁, R₁, g₁, q₁, .next⟩)
structure SupOk (c : Ctx0) (f : FI) (C cc cda fa : Addr) (slf : Str) (cd : ClassData) : Prop where
  sup : f.env.kindOf "super" = some .globalImplicit
  cls : f.env.kindOf "__class__" = some .free
  cell : f.env.cells.lookup ("__class__" : Str) = some cc
  func : f.env.func = some fa
  code : f.env.code = .ref cda
  fst : ∃ oc od fd osl ar, P3 (c.K.lookup fa = some ⟨oc, od, .func fd, osl⟩) ((fd.params.posonlyargs ++ fd.params.args).head? = some ar) (ar.arg = slf)
  cellIs : ∃ oc od osl, c.K.lookup cc = some ⟨oc, od, .cell (some (.ref C)), osl⟩
  file : ∃ oc od vs osl file tf, P3 (c.K.lookup cda = some ⟨oc, od, .fields vs, osl⟩) (vs[2]? = some (.str file tf)) (((c.prog.main.file : Str) == file) = true)
  top : (c.prog.main.scope.names.lookup ("super" : Str)).isSome = false
  glob : nsIn c.K mainGlobals "super" = some none
  blt : nsIn c.K builtinsNs "super" = some (some (.type "super"))
  any : nsIn c.K cStatics "thirdparty.any" = some none
  hcd : clsIn c.K C = some cd
  mro : cd.mro = [.ref C, .type "list", .type "object"]
theorem wpAt_noComps {M : Model} {A : Around} {E : Value → Shared → Prop} {s : Shared} {env : Env} {Q : List Env → Shared → Prop} (h : Q [] s) : PySem.wpAt M A (.func body env) comprehensionsAround Q E s := by
  unfold comprehensionsAround callersCodes
  refine PySem.wpAt_bind (PySem.wpAt_bind (PySem.wpAt_stack fun p below => ?_))
  dsimp only
  split
  · rename_i hc
    exact absurd (show (some env.frame != some env.frame) = true from hc) (by simp)
  · refine PySem.wpAt_of_wpAny (wpAny_pure (PySem.wpAt_of_wpAny (wpAny_pure ?_)))
    have e : pastTheWaiting ((.func body env, p) :: below) = (.func body env, p) :: pastTheWaiting.go false (some (.func body env)) below := rfl
    rw [e]
    exact h
noncomputable def isLinstC (C : Addr) (p : PV) (st : List AO) : Bool := pikB (∃ i kvs xs, p = .ref i ∧ st[i]? = some (.linst C kvs xs))
theorem Ka {id T DT : String} {name : Str} {p0 p1 apos pos : Pos} {C cc cda fa : Addr} {self : Str} {cd : ClassData} {i : Nat} {G : List PV → SM PV} (ok : f.Ok) (X : SupOk c f C cc cda fa self cd) (hx : f.ln[i]? = some self)
    (op : OpB c b id G) (bd : Binds id T DT) (hT : T = "builtin_function_or_method" ∨ T = "method-wrapper") (hown : fastBuiltinOwn "list" name = some (.builtin id)) (hn : (name == ("__class__" : Str)) = false)
    (hq : ∀ as, (Code.builtin id as).quiet = true)
    (hck : ∀ A s x, c.K.In s.heap → (∃ d vs m, s.heap.get? x = some (linstObj C d vs m)) → wpAny (model c.prog c.w) A (checkBoundCall id ⟨[.ref x], []⟩) (fun _ s' => s' = s) (fun _ _ => False) s)
    (hline : (apos.endLine == pos.line) = true := by rfl) :
    DenX c b f body RV (eval (.Call (.Attribute (.Call (.Name "super" p0) [] [] p1) name apos) [] [] pos) f.env) (bindE (getL i) fun p => guardE (isLinstC C p) (liftS (G [p]))) := by
  constructor
  intro A hA ρ s es y es' e R
  obtain ⟨p, es₁, e1, e⟩ := Ze e
  obtain ⟨hp, e⟩ := Xa e
  obtain ⟨st', e2, rfl⟩ := Z7 e
  unfold getL at e1
  split at e1
  rotate_left
  · exact (nos e1).elim
  rename_i p' hg
  obtain ⟨rfl, rfl⟩ := spr e1
  obtain ⟨m, ns, nl, _⟩ := R.l
  have hself := nl i self hx
  rw [hg] at hself
  obtain ⟨v, hv, rv⟩ := rvo_some hself
  obtain ⟨j, kvs, xs, rfl, qj⟩ := X7 hp
  obtain ⟨x, ha, rfl⟩ := rv.inv
  obtain ⟨d, us, mm, des, dn, hr, ho, rx, hD, er, I⟩ := R.s.linstAt ha qj
  have K := R.s.top
  obtain ⟨oc, od, fd, osl, ar, hfa, har, har2⟩ := X.fst
  obtain ⟨oc2, od2, osl2, hcc⟩ := X.cellIs
  obtain ⟨oc3, od3, vs3, osl3, file, tf, hcda, hvs, hfile⟩ := X.file
  have hxD : x ≠ C := by
    rintro rfl
    have hc := X.hcd
    unfold clsIn at hc
    split at hc
    · rename_i q
      have := K _ _ q
      rw [ho] at this
      cases this
    · cases hc
  have hsub : mroIn c.K C (.ref C) = some true := by unfold mroIn; rw [X.hcd, Option.bind_some, X.mro]; simp
  rw [arm_eval_Call]
  refine PySem.wpAt_bind ?_
  have k1 := X.sup
  have k2 := X.cls
  have k3 := X.func
  have k4 := X.code
  unfold attributeBase
  simp only [bne_self_eq_false, hn, k1, k2, k3, k4, Bool.or_false, Bool.or_self, Bool.false_eq_true, if_false, Option.isSome_some, if_true, pure_bind]
  unfold funcData
  refine PySem.wpAt_bind (PySem.wpAt_of_wpAny (wpAny_bind (wpAny_load (K _ _ hfa) ?_)))
  refine wpAny_pure ?_
  simp only [har]
  refine PySem.wpAt_bind (PySem.wpAt_of_wpAny (wpAny_askSetting ?_))
  refine PySem.wpAt_bind (PySem.wpAt_of_wpAny (wpAny_field (K _ _ hcda) rfl hvs ?_))
  have hfile' : ((model c.prog c.w).prog.main.file == file) = true := hfile
  have htop' : (List.lookup (Str.ofString "super") (model c.prog c.w).prog.main.scope.names).isSome = false := X.top
  simp only [hfile', htop', if_true, Bool.false_eq_true, if_false]
  refine PySem.wpAt_bind (PySem.wpAt_of_wpAny (wpAny_rule ?_))
  refine PySem.wpAt_bind (PySem.wpAt_of_wpAny (wpAny_standAt ?_))
  refine PySem.wpAt_bind (PySem.wpAt_of_wpAny (Jz ok K k1 X.glob X.blt ?_))
  refine PySem.wpAt_bind (PySem.wpAt_of_wpAny (wpAny_loadName_free ok.kind k2 X.cell ⟨_, K _ _ hcc, rfl⟩ ?_))
  refine PySem.wpAt_bind (wpAt_noComps ?_)
  show PySem.wpAt _ _ _ (loadName f.env ar.arg >>= _) _ _ _
  rw [har2]
  refine PySem.wpAt_bind (PySem.wpAt_of_wpAny (wpAny_loadName_local ok.kind (ok.loc self (List.mem_of_getElem? hx)) ns hv ?_))
  refine PySem.wpAt_bind (PySem.wpAt_of_wpAny (Je K X.hcd ?_))
  refine PySem.wpAt_of_wpAny ?_
  show wpAny _ _ (call (.type "super") [.ref C, .ref x]) _ _ _
  refine sup_made K X.hcd ho rfl rfl hsub fun h₁ hso k => ?_
  obtain ⟨S₁, g₁⟩ := R.s.ext k
  refine PySem.wpAt_of_wpAny ?_
  refine wpAny_bind (wpAny_standAt ?_)
  have hpos : methodCallPos true (.Call (.Name "super" p0) [] [] p1) f.env apos pos = pure pos := by unfold methodCallPos; simp [hline]
  unfold methodCall
  have hfew : methodCallForm (([] : List Expr).length + ([] : List Keyword).length) (backTo pos (starEach [] f.env)) (backToKw pos (keywordEach [] f.env)) = true := rfl
  rw [hfew]
  refine wpAny_bind (wpAny_holding (sup_method (s := { s with heap := h₁ }) S₁.top hso (k _ _ ho) rfl hxD X.any X.hcd X.mro hown bd hn ?_))
  obtain ⟨S₂, g₂⟩ := S₁.pushObj (boundObj T id x)
  have hbo : (h₁.push (boundObj T id x)).get? h₁.objs.size = some (boundObj T id x) := Heap.get?_push_size _ rfl
  refine wpAny_bind (wpAny_of_eq hpos ?_)
  refine callWith_of (P := fun h => h.get? h₁.objs.size = some (boundObj T id x)) rfl (fun h hP => ⟨.machine, .inr (.inl rfl), bound_keeper hT hP⟩) (Yj rfl (Calls.spliced_nil ⟨hbo, ?_⟩))
  have ho2 : (h₁.push (boundObj T id x)).get? x = some (linstObj C (some d) us mm) := Heap.get?_push_of_some _ (k _ _ ho)
  refine wpAny_call (bound_builtin hbo hT (hq _) (hck _ _ _ S₂.top ⟨_, _, _, ho2⟩) ?_)
  have gg := g₁.trans g₂
  have rr : RVs (h₁.push (boundObj T id x)) ρ [.ref x] [.ref j] := .cons (.ref ha) .nil
  refine codeAny_mono (op.run A hA ρ { s with heap := h₁.push (boundObj T id x), toks := s.toks + 1 } es.st [.ref x] [.ref j] y st' e2 rr S₂) fun r s' z => ?_
  rcases r with e | (v | _ | _ | _) <;> first | exact z.elim | skip
  obtain ⟨ρ', S', g', q', rv'⟩ := z
  have g3 := gg.trans g'
  exact ⟨ρ', R.ofS S' g3, g3.wider (by simp), ⟨q'.1, q'.2.1, q'.2.2⟩, rv'⟩
end
section
variable {c : Ctx0} {b : Nat}
theorem codeAny_funcX {prog : Program} {w : World} {A : Around} {s : Shared} {body : List Stmt} {env : Env} {R : Result → Shared → Prop}
    (h : PySem.wpAt (model prog w) (A.deeper env) (.func body env) (execs body env) (fun f s' => R (.ok (.ret (match f with | .ret v => v | _ => .none))) s') noE s) : codeAny (model prog w) A (.func body env) R s := by
  refine PySem.codeAny_of_treeAt ?_
  show PySem.wpAt _ (A.deeper env) _ (do point; match ← (execs body env).onRaise (leaving env) with | .ret v => ret v | _ => ret .none) _ _ s
  refine PySem.wpAt_bind (PySem.wpAt_of_wpAny (wpAny_point (PySem.wpAt_bind ?_)))
  intro Γ p hc hΓ
  rw [Sem.wp_onRaise]
  refine Sem.wp_mono _ Γ _ (fun f p' s' z => ?_) (fun e p' s' z => z.elim) p s (h Γ p hc hΓ)
  cases f <;> exact PySem.wpAt_of_wpAny (wpAny_pure z)
theorem fun_defX {a : Addr} {fd : FuncData} {body : List Stmt} {names ln : List Str} {np : Nat} {dvs : List Value} {dps : List PV} {li : List (Option Nat)} {F : FM PF} (X : DefAt c.K a fd body)
    (hcell : ∀ x ∈ fd.scope.names, x.2 ≠ .cell) (hloc : ∀ x ∈ names, fd.scope.names.lookup x = some .local) (nd : names.Nodup)
    (hln : ∀ x ∈ names, x ∈ ln) (hli : ln.map names.idxOf? = li) (hdp : ∀ h ρ, RVs h ρ dvs dps) (hn : names.length = np + dvs.length)
    (hbind : ∀ s vs, vs.length = np → c.K.In s.heap → BindsTo s fd ⟨vs, []⟩ (names.zip (vs ++ dvs)))
    (D : ∀ L, DenX c b ⟨callEnv fd L a, ln, []⟩ body RFl (execs body (callEnv fd L a)) F) : FunK c (b + 1) (.ref a) np [] (runK np dps li [] F) := by
  constructor
  · intro ps st r e
    obtain ⟨_, _, h, _, _⟩ := Zo e
    exact h
  intro A hA ρ s st vs ps y st' e r R
  obtain ⟨fl, es, hlen, q, e'⟩ := Zo e
  clear e; cases e'
  have hvl := r.length
  have r' : RVs s.heap ρ (vs ++ dvs) (ps ++ dps) := r.append (hdp _ _)
  have hvs : names.length = (vs ++ dvs).length := by rw [List.length_append, hvl, hlen, hn]
  obtain ⟨oc, od, sl, ho⟩ := X.at_
  have hnm := Jk (vs := vs ++ dvs) hvs
  rw [List.take_of_length_le (by rw [hvl, hlen]; exact Nat.le_refl _), List.zip_nil_left]
  refine codeAny_call_function (fd := fd) (body := body) (by have := hA.depth; have : recursionLimit = 1000 := rfl; omega) (R.top _ _ ho) rfl X.co X.gen X.body (codeRec_of R.top X.code) (hbind s vs (by rw [hvl, hlen]) R.top _ _ _ _ ?_)
  refine wpAny_newFunctionEnv hcell (fun x m => hloc x.1 (List.of_mem_zip m).1) (fun h₀ hns hsb => ?_) X.kind
  have hk : ∀ b o, s.heap.get? b = some o → h₀.get? b = some o := fun b o e => hsb.extBut b o (Nat.ne_of_lt (Heap.lt_size e)) (Heap.get?_push_of_some _ e)
  refine ⟨R.nolim.keeps hk, codeAny_funcX ?_⟩
  have fresh : s.heap.get? s.heap.objs.size = none := get_ge (Nat.le_refl _)
  obtain ⟨S, g₀⟩ := R.enter (wr := [s.heap.objs.size]) (h' := h₀) hk (fun a' m => by rw [List.mem_singleton.mp m]; exact fresh) (fun a' m => by rw [List.mem_singleton.mp m]; obtain ⟨o, _, _, e, _⟩ := hns; exact ⟨o, e⟩) (List.nodup_cons.mpr ⟨by simp, List.nodup_nil⟩)
  have hA' : AOk b (A.deeper (callEnv fd s.heap.objs.size a)) := ⟨hA.handled, by have := hA.depth; show A.depth + 1 + 2 * b ≤ 900; omega, by have := hA.units; show A.units + 3 + 20 * b ≤ 9000; omega⟩
  have RF : RelF c.K ⟨callEnv fd s.heap.objs.size a, ln, []⟩ (ρ.enter [s.heap.objs.size]) ⟨li.map fun o => o.bind fun i => (ps ++ dps)[i]?, [], st⟩ h₀ := by
    refine ⟨S, ⟨_, hns, fun i x hx => ?_, fun x hx => ?_⟩, fun i x a' e => by simp at e, fun a' m => ?_, List.nodup_cons.mpr ⟨by simp, List.nodup_nil⟩⟩
    · rw [Xm (by rw [hnm]; exact nd)]
      have : (li.map fun o => o.bind fun i => (ps ++ dps)[i]?)[i]? = some ((names.idxOf? x).bind fun i => (ps ++ dps)[i]?) := by
        rw [List.getElem?_map, ← hli, List.getElem?_map, hx]; rfl
      rw [this]
      exact (Yw r' hvs x).carry g₀
    · rw [Xm (by rw [hnm]; exact nd), Ym (by rintro ⟨p1, p2⟩ hp rfl; exact hx (hln _ (List.of_mem_zip hp).1))]
    · have : a' = s.heap.objs.size := by simp only [FI.fr, List.map_nil, List.mem_singleton] at m; exact m
      subst this; exact List.mem_append_left _ (List.mem_singleton.mpr rfl)
  refine PySem.wpAt_mono ((D s.heap.objs.size).run _ hA' (ρ.enter [s.heap.objs.size]) { s with heap := h₀, toks := s.toks + (names.zip (vs ++ dvs)).length } _ fl es q RF) (fun x s' z => ?_) fun _ _ z => z
  obtain ⟨ρ', R', g, sm, rf⟩ := z
  exact R.left hk (fun a' m => by rw [List.mem_singleton.mp m]; exact fresh) R'.s g (fun a' m => m) sm (by
    cases rf with
    | next => exact .none
    | brk => exact .none
    | cont => exact .none
    | ret r => exact r)
noncomputable def lmakeG (C : Addr) (G : List PV → SM PV) (ps : List PV) : SM PV := fun st => pik fun r => ∃ st', P3 (ps = []) (G [.ref st.length] (st ++ [.linst C [] []]) = some (.none, st')) (r = (.ref st.length, st'))
theorem lmake_of {C : Addr} {G : List PV → SM PV} {st st' : List AO} (h : G [.ref st.length] (st ++ [.linst C [] []]) = some (.none, st')) : lmakeG C G [] st = some (.ref st.length, st') :=
  pik_of ⟨_, rfl, h, rfl⟩ fun z q' => by obtain ⟨_, e, e', r⟩ := q'; cases e; cases h.symm.trans e'; exact r
theorem op_lmake {C fI : Addr} {cd : ClassData} {np : Nat} {G : List PV → SM PV} (L : LMakes c.K C cd) (hi : findIn c.K (.ref C) "__init__" = some (some (.ref fI))) (hf : typeIn c.K (.ref fI) = some (.type "function")) (oI : FunK c b (.ref fI) np [] G) :
    OpL c (b + 1) (fun vs => call (.ref C) vs) (lmakeG C G) := by
  constructor
  intro A hA ρ s st vs ps y st' e r R
  obtain ⟨_, rfl, e', q⟩ := Zo e
  clear e; cases q
  have e := e'
  obtain rfl := rvs0 r
  obtain ⟨h, g, d, t, os⟩ := s
  replace R : RelS c.K ρ st h := R
  refine wpAny_call (lmake_core (s := ⟨h, g, d, t, os⟩) R.top L hi hf rfl ?_)
  have k : ∀ b o, h.get? b = some o → ((h.push emptyDict).push (linstObj C (some h.objs.size) #[] 0)).get? b = some o := fun b o e => Heap.get?_push_of_some _ (Heap.get?_push_of_some _ e)
  have hs1 : (h.push emptyDict).objs.size = h.objs.size + 1 := Heap.size_push ..
  have hx : ((h.push emptyDict).push (linstObj C (some h.objs.size) #[] 0)).get? (h.objs.size + 1) = some (linstObj C (some h.objs.size) #[] 0) := by rw [← hs1]; exact Heap.get?_push_size _ rfl
  have hd : ((h.push emptyDict).push (linstObj C (some h.objs.size) #[] 0)).get? h.objs.size = some emptyDict := Heap.get?_push_of_some _ (Heap.get?_push_size _ rfl)
  have hne : h.objs.size + 1 ≠ h.objs.size := Nat.succ_ne_self _
  obtain ⟨S, g₁⟩ := R.push (as := [h.objs.size + 1, h.objs.size]) (ao := .linst C [] []) (h' := (h.push emptyDict).push (linstObj C (some h.objs.size) #[] 0)) k
    (fun a m => by
      simp only [List.mem_cons, List.not_mem_nil, or_false] at m
      rcases m with rfl | rfl
      · exact get_ge (Nat.le_succ _)
      · exact get_ge (Nat.le_refl _))
    (fun a m => by
      simp only [List.mem_cons, List.not_mem_nil, or_false] at m
      rcases m with rfl | rfl
      · exact ⟨_, hx⟩
      · exact ⟨_, hd⟩) (by simp) (fun _ => ⟨_, _, #[], 0, [], _, rfl, hx, .nil, hd, .nil⟩)
  have hA' : AOk b (A.under (.builtin "type.__call__" ⟨[.ref C], []⟩)) := ⟨hA.handled, by have := hA.depth; show A.depth + 1 + 2 * b ≤ 900; omega, by have := hA.units; show A.units + 1 + 20 * b ≤ 9000; omega⟩
  have rself : RV ((h.push emptyDict).push (linstObj C (some h.objs.size) #[] 0)) (ρ.push [h.objs.size + 1, h.objs.size]) (.ref (h.objs.size + 1)) (.ref st.length) := .ref (by rw [← R.len]; exact Xl)
  refine codeAny_mono (oI.code hA' (s := ⟨(h.push emptyDict).push (linstObj C (some h.objs.size) #[] 0), g, d, t, os⟩) e (.cons rself .nil) S) fun r s' z => ?_
  rcases r with e | (v' | _ | _ | _) <;> first | exact z.elim | skip
  obtain ⟨ρ', S', g', q', rv⟩ := z
  cases rv
  exact ⟨rfl, ρ', S', g₁.trans g', q', RV.grow g' noFr rself⟩
end
section
open PySem PySem.Calls PySem.W PyProof.Rows PySem.Spec
end
theorem Zv {P : Str → Prop} : ∀ x ∈ ([] : List Str), P x := fun _ m => nomatch m
theorem Zl {P : Str → Prop} {a : Str} {l : List Str} (h : P a) (t : ∀ x ∈ l, P x) : ∀ x ∈ a :: l, P x := fun x m => by
  rcases List.mem_cons.mp m with rfl | m
  · exact h
  · exact t x m
theorem ok_fn {fd : FuncData} {L a : Addr} {ln : List Str} {cns : List (Str × Nat)} (hk : fd.scope.kind = .function) (hg : fd.globals = mainGlobals) (hb : fd.builtins = builtinsNs) (hl : ∀ x ∈ ln, fd.scope.names.lookup x = some .local) (nd : ln.Nodup) : FI.Ok (FI.fn fd a ln cns L) :=
  ⟨hk, hg, hb, hl, nd⟩
theorem ok_call {fd : FuncData} {L a : Addr} {ln : List Str} {cn : List (Str × Addr)} (hk : fd.scope.kind = .function) (hg : fd.globals = mainGlobals) (hb : fd.builtins = builtinsNs) (hl : ∀ x ∈ ln, fd.scope.names.lookup x = some .local) (nd : ln.Nodup) : FI.Ok ⟨callEnv fd L a, ln, cn⟩ :=
  ⟨hk, hg, hb, hl, nd⟩
theorem Zu {f : FI} {scope : Scope} {cl : List (Str × Addr)} {ln : List Str} {C : Addr} (ok : f.Ok) (hk : scope.kind = .function) (hl : ∀ x ∈ ln, (compEnvC scope cl C f.env).kindOf x = some .local) (nd : ln.Nodup) : (f.comp scope cl ln C).Ok :=
  ⟨hk, ok.glob, ok.blt, hl, nd⟩
section
variable {c : Ctx0} {b : Nat} {f : FI}
theorem meth_or {name : Str} {P Q : PV → List AO → Bool} {fv : Value} (x : MethAt c name P fv) (y : MethAt c name Q fv) : MethAt c name (fun p st => P p st || Q p st) fv := by
  constructor
  intro A pl ρ s st v p K h r R q
  rw [Bool.or_eq_true] at h
  rcases h with h | h
  · exact x.run A pl ρ s st v p K h r R q
  · exact y.run A pl ρ s st v p K h r R q
noncomputable def orG (G G' : List PV → SM PV) (ps : List PV) : SM PV := fun st => pik fun r => G ps st = some r ∨ G' ps st = some r
theorem op_or {t : List Value → Sem Value} {G G' : List PV → SM PV} (x : OpL c b t G) (y : OpL c b t G') : OpL c b t (orG G G') := by
  constructor
  intro A hA ρ s st vs ps y' st' e r R
  rcases Zo e with q | q
  · exact x.run A hA ρ s st vs ps _ _ q r R
  · exact y.run A hA ρ s st vs ps _ _ q r R
structure LstOk (K : Frag) (C : Addr) (name : Str) : Prop where
  ex : ∃ cd, P3 (clsIn K C = some cd) (cd.mro = [.ref C, .type "list", .type "object"]) (cd.hasDict = true)
  set : findIn K (.ref C) "__setattr__" = some (some (.builtin "object.__setattr__"))
  tk : takerIn K C name = some none
theorem dena_lst {o : Expr} {name : Str} {pos : Pos} {C : Addr} {F : FM PV} (d : Den c b f RV (eval o f.env) F) (ok : LstOk c.K C name) : DenA c b f (.Attribute o name pos) (fun v => bindE F fun p => liftS (setLst C name p v)) := by
  obtain ⟨cd, h1, h2, h3⟩ := ok.ex
  constructor
  intro A hA ρ s es v p y es' e r R
  obtain ⟨po, es₁, e1, e⟩ := Ze e
  obtain ⟨st', e2, rfl⟩ := Z7 e
  rw [assign_Attribute]
  refine wpAny_bind (wpAny_holding (wpAny_mono (d.run A hA ρ s es po es₁ e1 R) (fun o s₁ z => ?_) fun _ _ z => z))
  obtain ⟨ρ₁, R₁, g₁, q₁, r₁⟩ := z
  refine wpAny_bind (wpAny_standAt (wpAny_bind (wpAny_holding (wpAny_mono ((op_setLst (b := b) h1 h2 h3 ok.set ok.tk).run A hA ρ₁ s₁ es₁.st o po v p () st' e2 r₁ (r.grow g₁ R.like) R₁.s) (fun _ s₂ z => ?_) fun _ _ z => z))))
  exact wpAny_release ((z.toF R₁).after g₁ q₁)
end
theorem hint_str (x : Str) (t : Tok) : Builtin.List.listLengthHint (.str x t) = pure false := by kernel_rfl
theorem type_str' (x : Str) (t : Tok) : typeOf (.str x t) = pure (.type "str") := rfl
section
variable {prog : Program} {w : World} {A : Around} {R : Result → Shared → Prop} {I S : Addr} {fp wr : List Addr} {n : Nat} {P : Nat → Value → Prop} {St : Nat → Heap → Prop}
theorem ext_loop (W : Walks prog w A.in1 I fp wr n P St) (hS : S ∉ fp) : ∀ (k i : Nat) (s : Shared) (acc : Array Value) (m : Nat), n - i = k → i ≤ n → St i s.heap → s.heap.get? S = some { cls := .type "list", data := .seq acc m } → acc.size + (n - i) ≤ sizeLine →
    (∀ s' (us : List Value) (m' : Nat), us.length = n - i → (∀ (j : Nat) v, us[j]? = some v → P (i + j) v) → s'.heap.get? S = some { cls := .type "list", data := .seq (acc ++ us.toArray) m' } → (∀ a o, a ∉ wr → a ≠ S → s.heap.get? a = some o → s'.heap.get? a = some o) → Same s s' → R (.ok (.ret .none)) s') →
    codeAny (model prog w) A (.builtin "list.extend.loop" ⟨[.ref S, .ref I, .none], []⟩) R s := by
  intro k
  induction k with
  | zero =>
    intro i s acc m hk hi hst hs hz h
    have hin : i = n := Nat.le_antisymm hi (Nat.le_of_sub_eq_zero hk)
    subst hin
    refine codeAny_builtin F.entry_extend_loop ?_
    rw [Around.under_plainId F.plain_extend_loop _]
    show wpAny _ A.in1 (pyNext (.ref I) >>= _) _ _ s
    refine wpAny_bind (W.done s _ _ hst fun h' tk kp => ?_)
    have hSw : S ∉ wr := fun q => hS (W.sub _ q)
    exact wpAny_pure (h _ [] m (by simp) (fun j v e => by simp at e) (by simpa using kp S _ hSw hs) (fun a o na _ e => kp a o na e) ⟨rfl, rfl, rfl⟩)
  | succ k ih =>
    intro i s acc m hk hi hst hs hz h
    have hlt : i < n := Nat.lt_of_sub_pos (hk ▸ Nat.succ_pos k)
    have hSw : S ∉ wr := fun q => hS (W.sub _ q)
    refine codeAny_builtin F.entry_extend_loop ?_
    rw [Around.under_plainId F.plain_extend_loop _]
    show wpAny _ A.in1 (pyNext (.ref I) >>= _) _ _ s
    refine wpAny_bind (W.item i s _ _ hlt hst fun v h' tk hv st' kp => ?_)
    have hs' := kp S _ hSw hs
    have hni : n - i = n - (i + 1) + 1 := by rw [← Nat.sub_sub, Nat.sub_add_cancel (Nat.sub_pos_of_lt hlt)]
    have hz1 : acc.size + 1 + (n - (i + 1)) ≤ sizeLine := by rw [hni] at hz; rw [Nat.add_assoc, Nat.add_comm 1]; exact hz
    have hz0 : acc.size ≤ sizeLine := Nat.le_trans (Nat.le_add_right _ _) hz
    show wpAny _ A.in1 (updateSeq S (·.push v) >>= _) _ _ _
    refine wpAny_bind (wpAny_updateSeq hs' rfl (wpAny_pure ⟨plainId_quiet F.plain_extend_loop _, ?_⟩) hz0 (by show (acc.push v).size ≤ sizeLine + 1; rw [Array.size_push]; exact Nat.succ_le_succ hz0))
    have hs2 : (h'.update S (Obj.mapSeq (·.push v))).get? S = some { cls := .type "list", data := .seq (acc.push v) (if (acc.push v).size == acc.size then m else m + 1) } := by
      rw [Heap.get?_update_self _ hs' (by unfold Obj.mapSeq; rfl)]; rfl
    refine ih (i + 1) _ (acc.push v) _ (Nat.succ.inj (hni.symm.trans hk)) hlt (W.frame _ h' _ st' fun b hb o e => (Heap.get?_update_other _ _ (fun q : S = b => hS (q ▸ hb))).trans e) hs2 (by rw [Array.size_push]; exact hz1) fun s'' us m' hl hp hs3 kk sm => ?_
    refine h s'' (v :: us) m' (by rw [List.length_cons, hl, hni]) (fun j u e => ?_) (by rw [hs3]; simp) (fun a o na nS e => kk a o na nS ((Heap.get?_update_other _ _ (Ne.symm nS)).trans (kp a o na e))) ⟨sm.1, sm.2.1, sm.2.2⟩
    cases j with
    | zero => simp at e; subst e; exact hv
    | succ j => simp at e; have := hp j u e; rwa [Nat.add_right_comm] at this
end
section
variable {c : Ctx0} {b : Nat}
noncomputable def extendS (ps : List PV) : SM PV := fun st => pik fun r => ∃ i x xs, P5 (ps = [.ref i, .str x]) (st[i]? = some (.list xs)) (x.cps.all (· < 128) = true) (xs.length + x.cps.size ≤ sizeLine) (r = (.none, st.set i (.list (xs ++ Yo x))))
theorem extendS_of {st : List AO} {i : Nat} {x : Str} {xs : List PV} (q : st[i]? = some (.list xs)) (ha : x.cps.all (· < 128) = true) (hz : xs.length + x.cps.size ≤ sizeLine) : extendS [.ref i, .str x] st = some (.none, st.set i (.list (xs ++ Yo x))) :=
  pik_of ⟨_, _, _, rfl, q, ha, hz, rfl⟩ fun z q' => by obtain ⟨_, _, _, e, q', _, _, e'⟩ := q'; cases e; cases q.symm.trans q'; exact e'
theorem op_extendS : OpL c b (fun vs => call (.builtin "list.extend") vs) extendS := by
  constructor
  intro A hA ρ s st vs ps y st' e r R
  obtain ⟨i, x, xs, rfl, q, ha, hz, e'⟩ := Zo e
  clear e; cases e'
  obtain ⟨_, _, rfl, r1, r2⟩ := rvs2 r
  obtain ⟨a, hd, rfl⟩ := r1.inv
  obtain ⟨t, rfl⟩ := r2.inv
  obtain ⟨us, n, e0, rs, hr⟩ := R.listAt hd q
  have hl := rs.length
  rw [Array.length_toList] at hl
  have hT : s.TypeIs (.ref a) "list" := ⟨_, e0, rfl⟩
  refine wpAny_call (codeAny_call_builtin F.slot_list_extend.plain F.entry_list_extend (F.slot_list_extend.check _ _ _ _ _ _ _ _ hT (F.args_list_extend_2 _ _) ?_))
  unfold Builtin.«list.extend»
  refine wpAny_bind (wpAny_of_eq (a := (.ref a, .str x t)) rfl ?_)
  unfold Builtin.List.listExtendWith
  refine wpAny_bind (wpAny_of_eq (type_str' x t) ?_)
  rw [if_neg (by simp [Builtin.List.listSameRef])]
  refine wpAny_bind (wpAny_pyIter_ascii ha ?_)
  refine wpAny_bind (wpAny_holding (wpAny_of_eq (hint_str x t) ?_))
  rw [if_neg (by decide)]
  refine wpAny_pure ⟨plainId_quiet F.plain_extend_loop _, ?_⟩
  have k0 : ∀ a o, s.heap.get? a = some o → (s.heap.push { cls := .type "str_ascii_iterator", data := .fields #[.str x t, .int 0 0] }).get? a = some o := fun a o e => Heap.get?_push_of_some _ e
  have hne : a ≠ s.heap.objs.size := Nat.ne_of_lt (Heap.lt_size e0)
  refine ext_loop (Walks.strAscii (A := A.in1) hA.handled s.heap.objs.size x t) (by simpa using hne) x.cps.size 0 _ us n (by simp) (Nat.zero_le _) ⟨_, Heap.get?_push_size _ rfl, rfl, rfl⟩ (k0 _ _ e0) (by rw [hl]; omega) fun s' vs m' hvl hv hs' kk sm => ?_
  have rn : RVs s'.heap ρ vs (Yo x) := by
    have hlen : vs.length = (Yo x).length := by rw [hvl]; simp [Yo]
    have : ∀ (us : List Value) (ps : List PV), us.length = ps.length → (∀ (j : Nat) u p, us[j]? = some u → ps[j]? = some p → RV s'.heap ρ u p) → RVs s'.heap ρ us ps := by
      intro us
      induction us with
      | nil => intro ps h _; cases ps with | nil => exact .nil | cons _ _ => cases h
      | cons u us ih =>
        intro ps h hh
        cases ps with
        | nil => cases h
        | cons p ps => exact .cons (hh 0 u p rfl rfl) (ih ps (by simpa using h) fun j u' p' h1 h2 => hh (j + 1) u' p' (by simpa using h1) (by simpa using h2))
    refine this _ _ hlen fun j u p h1 h2 => ?_
    obtain ⟨cp, t', hc, rfl⟩ := hv j u h1
    unfold Yo at h2
    rw [Nat.zero_add] at hc
    rw [List.getElem?_map, Array.getElem?_toList, hc] at h2
    cases h2; exact .str _ _
  obtain ⟨S, g⟩ := R.put (i := i) (ao' := .list (xs ++ Yo x)) (h' := s'.heap) hr (fun b o eb nb => by
      have hb : b ≠ a := by simpa using nb
      exact kk b o (by simpa using Nat.ne_of_lt (Heap.lt_size eb)) hb (k0 _ _ eb)) (fun b m => by rw [List.mem_singleton.mp m]; exact ⟨_, hs'⟩)
    fun g => ⟨a, us ++ vs.toArray, m', rfl, hs', by rw [Array.toList_append]; exact (rs.carry (g.carry noFr)).append rn⟩
  exact ⟨ρ, S, g, ⟨sm.1, sm.2.1, sm.2.2⟩, .none⟩
end
noncomputable abbrev C2 (w : World) : Ctx0 := ⟨PySem.Challenge.rw_tc0040_03.row.prog, w, kFrag w.params⟩
theorem two_sz : (2 : Nat) ≤ sizeLine := by rw [sizeLine_eq]; omega
theorem Zr {n : Nat} (h : n ≤ 100) : n ≤ sizeLine := by rw [sizeLine_eq]; omega
section
variable {β γ : Type} {es es₁ es₂ : ES}
theorem e_bind {m : FM β} {k : β → FM γ} {y : β} {r : Option (γ × ES)} (h1 : m es = some (y, es₁)) (h2 : k y es₁ = r) : bindE m k es = r := by
  unfold bindE; rw [h1]; exact h2
theorem e_bin {F₁ F₂ : FM PV} {G : PV → PV → SM PV} {p q r : PV} {st' : List AO} (h1 : F₁ es = some (p, es₁)) (h2 : F₂ es₁ = some (q, es₂)) (h3 : G p q es₂.st = some (r, st')) : (bindE F₁ fun p => bindE F₂ fun q => liftS (G p q)) es = some (r, ⟨es₂.loc, es₂.cel, st'⟩) :=
  e_bind h1 (e_bind h2 (by unfold liftS; rw [h3]))
theorem e_lift {F : FM PV} {G : PV → SM γ} {p : PV} {r : γ} {st' : List AO} (h1 : F es = some (p, es₁)) (h3 : G p es₁.st = some (r, st')) : (bindE F fun p => liftS (G p)) es = some (r, ⟨es₁.loc, es₁.cel, st'⟩) :=
  e_bind h1 (by unfold liftS; rw [h3])
theorem Ye {γ : Type} {G : SM γ} {es : ES} {r : γ} {st' : List AO} (h : G es.st = some (r, st')) : liftS G es = some (r, ⟨es.loc, es.cel, st'⟩) := by unfold liftS; rw [h]
theorem Z4 {β : Type} {P : List AO → Bool} {x : FM β} {es : ES} {r : Option (β × ES)} (h : P es.st = true) (hx : x es = r) : guardE P x es = r := by
  unfold guardE; rw [if_pos h]; exact hx
theorem new0 {es : ES} : (bindE (pureE []) newE) es = some (.ref es.st.length, ⟨es.loc, es.cel, es.st ++ [.list []]⟩) := e_bind (y := []) (es₁ := es) rfl (if_pos (Nat.zero_le _))
theorem e_stop {x y : FM PF} {v : PV} (h1 : x es = some (.ret v, es₁)) : seqE x y es = some (.ret v, es₁) := by
  unfold seqE; exact e_bind h1 rfl
theorem e_stopc {x y : FM PF} (h1 : x es = some (.cont, es₁)) : seqE x y es = some (.cont, es₁) := by
  unfold seqE; exact e_bind h1 rfl
theorem e_seq {x y : FM PF} {r : Option (PF × ES)} (h1 : x es = some (.next, es₁)) (h2 : y es₁ = r) : seqE x y es = r := by
  unfold seqE; exact e_bind h1 h2
theorem e_asg {X : FM PV} {S : PV → FM Unit} {p : PV} (h1 : X es = some (p, es₁)) (h2 : S p es₁ = some ((), es₂)) : (bindE X fun p => bindE (S p) fun _ => pureE PF.next) es = some (PF.next, es₂) :=
  e_bind h1 (e_bind h2 rfl)
theorem e_ite {m : FM Bool} {x y : FM β} {t : Bool} {r : Option (β × ES)} (h1 : m es = some (t, es₁)) (h2 : (if t then x else y) es₁ = r) : iteE m x y es = r := e_bind h1 h2
theorem e_cons {X : FM PV} {Y : FM (List PV)} {p : PV} {ps : List PV} (h1 : X es = some (p, es₁)) (h2 : Y es₁ = some (ps, es₂)) : consE X Y es = some (p :: ps, es₂) := by
  unfold consE; exact e_bind h1 (e_bind h2 rfl)
theorem e_aug {old X : FM PV} {G : PV → PV → SM PV} {S : PV → FM Unit} {p q r : PV} {st' : List AO} {es₃ : ES} (h1 : old es = some (p, es₁)) (h2 : X es₁ = some (q, es₂)) (h3 : G p q es₂.st = some (r, st')) (h4 : S r ⟨es₂.loc, es₂.cel, st'⟩ = some ((), es₃)) : augE old X G S es = some (.next, es₃) := by
  unfold augE; exact e_bind (e_bin h1 h2 h3) (e_bind h4 rfl)
theorem e_tup {Y : FM (List PV)} {ps : List PV} (h1 : Y es = some (ps, es₁)) (hz : ps.length ≤ sizeLine) : bindE Y tupE es = some (.tup ps, es₁) :=
  e_bind h1 (by unfold tupE; rw [if_pos hz]; rfl)
theorem e_lst {Y : FM (List PV)} {ps : List PV} (h1 : Y es = some (ps, es₁)) : (bindE Y fun zs => pureE (PV.lst zs)) es = some (PV.lst ps, es₁) := e_bind h1 rfl
end
section
variable {γ : Type} {es : ES}
theorem p_bin {F₁ F₂ : FM PV} {G : PV → PV → SM PV} {p q r : PV} (h1 : F₁ es = some (p, es)) (h2 : F₂ es = some (q, es)) (h3 : G p q es.st = some (r, es.st)) : (bindE F₁ fun p => bindE F₂ fun q => liftS (G p q)) es = some (r, es) := e_bin h1 h2 h3
theorem p_lift {F : FM PV} {G : PV → SM γ} {p : PV} {r : γ} (h1 : F es = some (p, es)) (h3 : G p es.st = some (r, es.st)) : (bindE F fun p => liftS (G p)) es = some (r, es) := e_lift h1 h3
theorem p_cons {X : FM PV} {Y : FM (List PV)} {p : PV} {ps : List PV} (h1 : X es = some (p, es)) (h2 : Y es = some (ps, es)) : consE X Y es = some (p :: ps, es) := e_cons h1 h2
theorem p_tup2 {X Y : FM PV} {p q : PV} (h1 : X es = some (p, es)) (h2 : Y es = some (q, es)) : bindE (consE X (consE Y (pureE []))) tupE es = some (.tup [p, q], es) := e_tup (p_cons h1 (p_cons h2 rfl)) two_sz
end
theorem p_call {FA : FM (List PV)} {G : List PV → SM PV} {ps : List PV} {r : PV} {es : ES} (h1 : FA es = some (ps, es)) (h2 : G ps es.st = some (r, es.st)) : (bindE FA fun ps => liftS (G ps)) es = some (r, es) := e_bind h1 (by unfold liftS; rw [h2])
section
variable {es es₁ es₂ : ES}
theorem e_meth {F : FM PV} {A : FM (List PV)} {P : PV → List AO → Bool} {G : List PV → SM PV} {p r : PV} {ps : List PV} {st' : List AO} (h1 : F es = some (p, es₁)) (hg : P p es₁.st = true) (h2 : A es₁ = some (ps, es₂)) (h3 : G (p :: ps) es₂.st = some (r, st')) :
    (bindE F fun p => guardE (P p) (bindE A fun ps => liftS (G (p :: ps)))) es = some (r, ⟨es₂.loc, es₂.cel, st'⟩) :=
  e_bind h1 (by unfold guardE; rw [if_pos hg]; exact e_bind h2 (by unfold liftS; rw [h3]))
theorem p_meth {F : FM PV} {A : FM (List PV)} {P : PV → List AO → Bool} {G : List PV → SM PV} {p r : PV} {ps : List PV} (h1 : F es = some (p, es)) (hg : P p es.st = true) (h2 : A es = some (ps, es)) (h3 : G (p :: ps) es.st = some (r, es.st)) :
    (bindE F fun p => guardE (P p) (bindE A fun ps => liftS (G (p :: ps)))) es = some (r, es) := e_meth h1 hg h2 h3
theorem e_expr {X : FM PV} {p : PV} (h1 : X es = some (p, es₁)) : (bindE X fun _ => pureE PF.next) es = some (PF.next, es₁) := e_bind h1 rfl
theorem p_lst2 {X Y : FM PV} {p q : PV} (h1 : X es = some (p, es)) (h2 : Y es = some (q, es)) : bindE (consE X (consE Y (pureE []))) lstE es = some (.lst [p, q], es) :=
  e_bind (p_cons h1 (p_cons h2 rfl)) (by unfold lstE; rw [if_pos (show [p, q].length ≤ sizeLine from two_sz)]; rfl)
end
theorem Yg {st : List AO} {i C : Nat} {kvs : List (Str × PV)} {name : Str} (h : st[i]? = some (.inst C kvs)) (hn : kvGet kvs name = none) : isInst C name (.ref i) st = true := Yt ⟨_, Xg h, hn⟩
theorem truth_ref {st : List AO} {i : Nat} {xs : List PV} (hi : st[i]? = some (.list xs)) (h : xs.length ≤ 100) : truthG (.ref i) st = some (!xs.isEmpty, st) := by
  unfold truthG
  dsimp only
  rw [hi]
  dsimp only
  rw [if_pos (Zr h)]
theorem X5 (t : Bool) (st : List AO) : truthG (.bool t) st = some (t, st) := rfl
theorem Xb {st : List AO} {i : Nat} {xs : List PV} (h : st[i]? = some (.list xs)) : items? st (.ref i) = some xs := by
  unfold items?
  dsimp only
  rw [h]
theorem Xc {st : List AO} {i : Nat} {xs : List PV} (h : st[i]? = some (.list xs)) : isLst (.ref i) st = true := by
  unfold isLst; rw [Xb h]; rfl
section
open PySem.Builtin PySem.Builtin.Str
section
variable {M : Model} {A : Around} {E : Value → Shared → Prop} {s : Shared}
theorem Xx (d : PySem.Str) : PySem.Str.empty ++ d = d := congrArg PySem.Str.mk (by show #[] ++ d.cps = d.cps; exact Array.empty_append)
theorem str_app_none (T x : PySem.Str) (h : x.length = 0) : T ++ x = T := by
  have hz : x.cps = #[] := Array.size_eq_zero_iff.mp h
  exact congrArg PySem.Str.mk (by show T.cps ++ x.cps = T.cps; rw [hz]; exact Array.append_empty)
end
end
structure DenZ (c : Ctx0) (b : Nat) (f : FI) {α β : Type} (RA : Heap → Rho → α → β → Prop) (t : Sem α) (F : FM β) : Prop where
  run : ∀ A, AOk b A → ∀ ρ s es y es', F es = some (y, es') → RelF c.K f ρ es s.heap → 0 < s.toks → wpAny (model c.prog c.w) A t (Ends c.K f RA ρ s y es') noE s
structure DenTp (c : Ctx0) (b : Nat) (f : FI) (t : Sem Bool) (F : FM Bool) : Prop where
  run : ∀ A, AOk b A → ∀ ρ s es y es', F es = some (y, es') → RelF c.K f ρ es s.heap → wpAny (model c.prog c.w) A t (fun v s' => (v = true → 0 < s'.toks) ∧ Ends c.K f RB ρ s y es' v s') noE s
section
variable {c : Ctx0} {b : Nat} {f : FI}
theorem Den.z {α β : Type} {RA : Heap → Rho → α → β → Prop} {t : Sem α} {F : FM β} (d : Den c b f RA t F) : DenZ c b f RA t F := ⟨fun A hA ρ s es y es' e R _ => d.run A hA ρ s es y es' e R⟩
theorem DenZ.go {α β : Type} {RA : Heap → Rho → α → β → Prop} {t : Sem α} {F : FM β} (d : DenZ c b f RA t F) {A : Around} (hA : AOk b A) {ρ : Rho} {s : Shared} {es es' : ES} {y : β} (e : F es = some (y, es')) (R : RelF c.K f ρ es s.heap) (h : 0 < s.toks) :
    wpAny (model c.prog c.w) A t (fun v s' => 0 < s'.toks ∧ Ends c.K f RA ρ s y es' v s') noE s := wpAny_mono (wpAny_toks_of (n := 1) h (d.run A hA ρ s es y es' e R h)) (fun _ _ z => z) fun _ _ z => z.2.elim
theorem denz_cons {st : Stmt} {rest : List Stmt} {F G : FM PF} (d : DenZ c b f RFl (exec st f.env) F) (d' : DenZ c b f RFl (execs rest f.env) G) : DenZ c b f RFl (execs (st :: rest) f.env) (seqE F G) := by
  constructor
  intro A hA ρ s es y es' e R h
  obtain ⟨t, es₁, e1, e2⟩ := Ze e
  refine wpAny_execs_cons (wpAny_mono (d.go hA e1 R h) (fun v s₁ z => ?_) fun _ _ z => z)
  obtain ⟨h₁, ρ₁, R₁, g₁, q₁, r₁⟩ := z
  cases r₁ with
  | next => exact wpAny_mono (d'.run A hA ρ₁ s₁ es₁ y es' e2 R₁ h₁) (fun _ _ z => z.after g₁ q₁) fun _ _ z => z
  | brk => obtain ⟨rfl, rfl⟩ := spr e2; exact ⟨ρ₁, R₁, g₁, q₁, .brk⟩
  | cont => obtain ⟨rfl, rfl⟩ := spr e2; exact ⟨ρ₁, R₁, g₁, q₁, .cont⟩
  | ret r => obtain ⟨rfl, rfl⟩ := spr e2; exact ⟨ρ₁, R₁, g₁, q₁, .ret r⟩
theorem denz_if {t : Expr} {x y : List Stmt} {pos : Pos} {T : FM Bool} {X Y : FM PF} (dt : DenZ c b f RB (isTrue t f.env (eval t f.env)) T) (dx : DenZ c b f RFl (execs x f.env) X) (dy : DenZ c b f RFl (execs y f.env) Y) :
    DenZ c b f RFl (exec (.If t x y pos) f.env) (iteE T X Y) := by
  constructor
  intro A hA ρ s es r es' e R h
  obtain ⟨t, es₁, e1, e2⟩ := Xk e
  refine wpAny_If (wpAny_mono (dt.go hA e1 R h) (fun v s₁ z => ?_) fun _ _ z => z)
  obtain ⟨h₁, ρ₁, R₁, g₁, q₁, rfl⟩ := z
  cases v with
  | true => exact wpAny_mono (dx.run A hA ρ₁ s₁ es₁ r es' e2 R₁ h₁) (fun _ _ z => z.after g₁ q₁) fun _ _ z => z
  | false => exact wpAny_mono (dy.run A hA ρ₁ s₁ es₁ r es' e2 R₁ h₁) (fun _ _ z => z.after g₁ q₁) fun _ _ z => z
theorem denz_assign {t value : Expr} {pos : Pos} {X : FM PV} {S : PV → FM Unit} (dx : DenZ c b f RV (eval value f.env) X) (ds : DenA c b f t S) (hs : swapsWithSole [t] value pos.line f.env = pure false := by rfl)
    (hw : swappedStores [t] value f.env = pure none := by rfl) (hst : assignEach [t] f.env = [(false, assign t f.env)] := by rfl) : DenZ c b f RFl (exec (.Assign [t] value pos) f.env) (bindE X fun p => bindE (S p) fun _ => pureE .next) := by
  constructor
  intro A hA ρ s es r es' e R h
  obtain ⟨p, es₁, e1, e⟩ := Ze e
  obtain ⟨_, es₂, e2, e3⟩ := Ze e
  obtain ⟨rfl, rfl⟩ := spr e3
  refine wpAny_Assign_stores (wpAny_mono (dx.run A hA ρ s es p es₁ e1 R h) (fun v s₁ z => ?_) fun _ _ z => z) hs hw
  obtain ⟨ρ₁, R₁, g₁, q₁, r₁⟩ := z
  rw [hst]
  show wpAny _ _ (assign t f.env v) _ _ _
  refine wpAny_mono (ds.run A hA ρ₁ s₁ es₁ v p () es₂ e2 r₁ R₁) (fun _ s₂ z => ?_) fun _ _ z => z
  obtain ⟨ρ₂, R₂, g₂, q₂, r₂⟩ := z
  exact ⟨ρ₂, R₂, g₁.trans g₂, q₁.trans q₂, .next⟩
noncomputable def replE (y z : Str) (p : PV) : FM PV := fun es => match p with
  | .str x => if x.length + (x.length + 1) * z.length ≤ 16777216 then some (.str (Txt.replace x y z), es) else none
  | _ => none
theorem denz_replace {o : Expr} {apos pos p1 p2 : Pos} {k1 k2 : Nat} {y z : Str} {X : FM PV} (dO : DenZ c b f RV (eval o f.env) X) (hyz : (y == z) = false := by decide +kernel)
    (hbase : Xu o = true := by rfl) (hline : (apos.endLine == pos.line) = true := by rfl) :
    DenZ c b f RV (eval (.Call (.Attribute o "replace" apos) [.Constant (.str y) k1 p1, .Constant (.str z) k2 p2] [] pos) f.env) (bindE X (replE y z)) := by
  constructor
  intro A hA ρ s es r es' e R h
  obtain ⟨p, es₁, e1, e⟩ := Ze e
  unfold replE at e
  split at e
  rotate_left
  · exact (nos e).elim
  rename_i x
  obtain ⟨hb, e⟩ := ite_then e
  obtain ⟨rfl, rfl⟩ := spr e
  rw [arm_eval_Call, Yl hbase]
  refine wpAny_bind (wpAny_mono (dO.go hA e1 R h) (fun v s₁ z => ?_) fun _ _ z => z)
  obtain ⟨h₁, ρ₁, R₁, g₁, q₁, r₁⟩ := z
  obtain ⟨t, rfl⟩ := r₁.inv
  refine wpAny_bind (wpAny_standAt ?_)
  have hpos : methodCallPos true o f.env apos pos = pure pos := by unfold methodCallPos; rw [hline]; rfl
  unfold methodCall
  rw [show methodCallForm _ _ _ = true from rfl]
  refine wpAny_bind (wpAny_holding (GM.replace ?_))
  refine wpAny_bind (wpAny_of_eq hpos ?_)
  refine callWith_of (P := fun _ => True) rfl (fun h _ => ⟨.machine, .inr (.inl rfl), Looks.of_pure rfl⟩) (Yj rfl (Calls.spliced_cons (wpAny_Constant_str (k := k1) (pos := p1) (Calls.spliced_cons (wpAny_Constant_str (k := k2) (pos := p2) (Calls.spliced_nil ⟨trivial, ?_⟩))))))
  refine SC.replace (by show s₁.toks ≠ 0; omega) (by show s₁.toks + 1 ≠ 0; omega) (by show s₁.toks ≠ s₁.toks + 1; omega) hyz hb fun t' k => ?_
  exact ⟨ρ₁, R₁, g₁, ⟨q₁.1, q₁.2.1, q₁.2.2⟩, .str _ _⟩
theorem dentp_compare {l : Expr} {op : CmpOp} {pos p1 : Pos} {k1 : Nat} {i : Int} {F₁ : FM PV} {G : PV → PV → SM PV} (d₁ : Den c b f RV (eval l f.env) F₁) (o : Op2 c b RV (compareOp op) G)
    (hm : behindInMarks op (.Constant (.int i) k1 p1) = false := by rfl) :
    DenTp c b f (isTrue (.Compare l [op] [.Constant (.int i) k1 p1] pos) f.env (eval (.Compare l [op] [.Constant (.int i) k1 p1] pos) f.env)) (bindE (bindE F₁ fun p => bindE (pureE (.int i)) fun q => liftS (G p q)) fun p => liftS (truthG p)) := by
  constructor
  intro A hA ρ s es y es' e R
  obtain ⟨p, es₁, e1, e2⟩ := Ze e
  obtain ⟨q, es₂, e3, e4⟩ := Ze e1
  obtain ⟨r, es₃, e5, e6⟩ := Ze e4
  obtain ⟨rfl, rfl⟩ := spr e5
  obtain ⟨st', e7, rfl⟩ := Z7 e6
  refine wpAny_isTrue_Compare1 (wpAny_mono (d₁.run A hA ρ s es q es₂ e3 R) (fun v s₁ z => ?_) fun _ _ z => z) hm
  obtain ⟨ρ₁, R₁, g₁, q₁, r₁⟩ := z
  refine wpAny_Constant_int ?_
  have hpos : 1 ≤ ({ s₁ with toks := s₁.toks + 1 } : Shared).toks := Nat.le_add_left 1 _
  refine wpAny_mono (wpAny_toks_of hpos (o.run A hA ρ₁ { s₁ with toks := s₁.toks + 1 } es₂.st v q (.int i s₁.toks) (.int i) p st' e7 r₁ (.int _ _) R₁.s)) (fun x s₂ z => ?_) fun _ _ z => z.2.elim
  obtain ⟨h₂, z⟩ := z
  obtain ⟨ρ₂, S₂, g₂, q₂, r₂⟩ := z
  have R₂ := R₁.ofS S₂ g₂
  refine wpAny_mono (wpAny_toks_of h₂ ((Op1.k op_truth).run A hA ρ₂ s₂ _ x p y es' e2 r₂ R₂)) (fun t s₃ z => ?_) fun _ _ z => z.2.elim
  obtain ⟨h₃, z⟩ := z
  exact ⟨fun _ => h₃, (Ends.after (s := s₁) (g₂.wider (by simp)) ⟨q₂.1, q₂.2.1, q₂.2.2⟩ z).after g₁ q₁⟩
theorem dentp_and {x y : Expr} {pos : Pos} {F G : FM Bool} (d : Den c b f RB (isTrue x f.env (eval x f.env)) F) (d' : DenTp c b f (isTrue y f.env (eval y f.env)) G) :
    DenTp c b f (isTrue (.BoolOp .And [x, y] pos) f.env (eval (.BoolOp .And [x, y] pos) f.env)) (iteE F (iteE G (pureE true) (pureE false)) (pureE false)) := by
  constructor
  intro A hA ρ s es r es' e R
  obtain ⟨t, es₁, e1, e2⟩ := Xk e
  refine wpAny_isTrue_BoolOp (wpAny_allTrue_And_cons (wpAny_mono (d.run A hA ρ s es t es₁ e1 R) (fun v s₁ z => ?_) fun _ _ z => z))
  obtain ⟨ρ₁, R₁, g₁, q₁, rfl⟩ := z
  cases v with
  | false => obtain ⟨rfl, rfl⟩ := spr e2; exact ⟨(fun h => nomatch h), ρ₁, R₁, g₁, q₁, rfl⟩
  | true =>
    rw [if_pos rfl] at e2
    obtain ⟨t', es₂, e3, e4⟩ := Xk e2
    refine wpAny_allTrue_And_cons (wpAny_mono (d'.run A hA ρ₁ s₁ es₁ t' es₂ e3 R₁) (fun v s₂ z => ?_) fun _ _ z => z)
    obtain ⟨hp, ρ₂, R₂, g₂, q₂, rfl⟩ := z
    cases v with
    | false => obtain ⟨rfl, rfl⟩ := spr e4; exact ⟨(fun h => nomatch h), ρ₂, R₂, g₁.trans g₂, q₁.trans q₂, rfl⟩
    | true => obtain ⟨rfl, rfl⟩ := spr e4; exact wpAny_pure ⟨fun _ => hp rfl, ρ₂, R₂, g₁.trans g₂, q₁.trans q₂, rfl⟩
theorem den_if_tp {t : Expr} {x y : List Stmt} {pos : Pos} {T : FM Bool} {X Y : FM PF} (dt : DenTp c b f (isTrue t f.env (eval t f.env)) T) (dx : DenZ c b f RFl (execs x f.env) X) (dy : Den c b f RFl (execs y f.env) Y) :
    Den c b f RFl (exec (.If t x y pos) f.env) (iteE T X Y) := by
  constructor
  intro A hA ρ s es r es' e R
  obtain ⟨t, es₁, e1, e2⟩ := Xk e
  refine wpAny_If (wpAny_mono (dt.run A hA ρ s es t es₁ e1 R) (fun v s₁ z => ?_) fun _ _ z => z)
  obtain ⟨hp, ρ₁, R₁, g₁, q₁, rfl⟩ := z
  cases v with
  | true => exact wpAny_mono (dx.run A hA ρ₁ s₁ es₁ r es' e2 R₁ (hp rfl)) (fun _ _ z => z.after g₁ q₁) fun _ _ z => z
  | false => exact wpAny_mono (dy.run A hA ρ₁ s₁ es₁ r es' e2 R₁) (fun _ _ z => z.after g₁ q₁) fun _ _ z => z
end
section
variable {c : Ctx0} {b : Nat} {f : FI}
noncomputable def ltS (p q : PV) : SM PV := fun st => pik fun r => ∃ x y, P3 (p = .str x) (q = .str y) (r = (.bool (decide (x.cps.toList < y.cps.toList)), st))
theorem ltS_of {x y : Str} {st : List AO} : ltS (.str x) (.str y) st = some (.bool (decide (x.cps.toList < y.cps.toList)), st) := pik_of ⟨_, _, rfl, rfl, rfl⟩ fun z q' => by obtain ⟨_, _, e, e', e''⟩ := q'; cases e; cases e'; exact e''
theorem op_ltS : Op2 c b RV (compareOp .Lt) ltS := by
  constructor
  intro A hA ρ s st x z x' z' y st' e r r' R
  obtain ⟨i, j, rfl, rfl, e'⟩ := Zo e
  clear e; cases e'
  obtain ⟨_, rfl⟩ := r.inv; obtain ⟨_, rfl⟩ := r'.inv
  exact PyProof.Rows.lt_str (EndsS.here R (.bool _))
noncomputable def ltT (p q : PV) : SM PV := fun st => pik fun r => ∃ a b d e, P3 (p = .tup [.int a, .int b]) (q = .tup [.int d, .int e]) (r = (.bool (if a = d then decide (b < e) else decide (a < d)), st))
theorem ltT_of {a b d e : Int} {st : List AO} : ltT (.tup [.int a, .int b]) (.tup [.int d, .int e]) st = some (.bool (if a = d then decide (b < e) else decide (a < d)), st) :=
  pik_of ⟨_, _, _, _, rfl, rfl, rfl⟩ fun z q' => by obtain ⟨_, _, _, _, e, e', e''⟩ := q'; cases e; cases e'; exact e''
theorem lt_pair {A : Around} {s : Shared} {x y : Addr} {a b d e : Int} {t1 t2 t3 t4 : Tok} {Q : Value → Shared → Prop} (hx : s.heap.IsTuple x #[.int a t1, .int b t2]) (hy : s.heap.IsTuple y #[.int d t3, .int e t4]) (hu : A.units < cLine) (h : Q (.bool (if a = d then decide (b < e) else decide (a < d))) s) :
    wpAny (model c.prog c.w) A (compareOp .Lt (.ref x) (.ref y)) Q noE s := by
  refine wpAny_richCompare_same_or (op := .Lt) hx.typeIs hy.typeIs F.slot_tuple_lt (wpAny_call_entry F.slot_tuple_lt hx.typeIs F.entry_tuple_lt ?_ (F.args_tuple_lt_2 _ _)) (.inr hu)
  obtain ⟨o, ho, hc, n, hd⟩ := hx
  obtain ⟨o', ho', hc', n', hd'⟩ := hy
  unfold Builtin.«tuple.__lt__»
  show wpAny _ _ (isInstance (.ref y) (.type "tuple") >>= _) _ _ s
  refine wpAny_bind (wpAny_isInstance (T := "tuple") (b := true) ⟨_, ho', hc'⟩ AutoSeq1.sub_tuple_tuple ?_)
  show wpAny _ _ (Builtin.Tuple.tupleItemsOf (.ref x) >>= _) _ _ s
  refine wpAny_bind (wpAny_tupleItemsOf ho hd ?_)
  refine wpAny_bind (wpAny_tupleItemsOf ho' hd' ?_)
  refine wpAny_bind ?_
  show wpAny _ _ (forIn [(Value.int a t1, Value.int d t3), (Value.int b t2, Value.int e t4)] _ _) _ _ s
  have fin : ∀ {a d : Int} {t u : Tok} {Q : Value → Shared → Prop}, Q (.bool (decide (a < d))) s → wpAny (model c.prog c.w) A.in1 (richCompare .Lt (.int a t) (.int d u)) Q noE s := fun h =>
    richCompare_gives (op := .Lt) (typeIs_int s _ _) (typeIs_int s _ _) F.slot_int_lt F.entry_int_lt (F.args_int_lt_2 _ _) (gives_int_lt _ _ _ _) (fun x => nomatch x) h
  rw [List.forIn_cons]
  refine wpAny_bind (wpAny_bind (wpAny_eqBool_int ?_))
  by_cases h1 : a = d
  · subst h1
    rw [if_pos rfl] at h
    rw [beq_self_eq_true]
    refine wpAny_pure ?_
    show wpAny _ _ (forIn [(Value.int b t2, Value.int e t4)] _ _) _ _ s
    rw [List.forIn_cons]
    refine wpAny_bind (wpAny_bind (wpAny_eqBool_int ?_))
    by_cases h2 : b = e
    · subst h2
      rw [decide_eq_false (Int.lt_irrefl _)] at h
      rw [beq_self_eq_true]
      exact wpAny_pure (wpAny_pure (wpAny_pure ⟨_, rfl, (fun q => nomatch q), h⟩))
    · rw [beq_eq_false_iff_ne.mpr h2]
      exact wpAny_bind (wpAny_rule (wpAny_bind (fin (wpAny_bind (wpAny_pure (wpAny_pure (wpAny_pure (wpAny_pure ⟨_, rfl, (fun q => nomatch q), h⟩))))))))
  · rw [if_neg h1] at h
    rw [beq_eq_false_iff_ne.mpr h1]
    exact wpAny_bind (wpAny_rule (wpAny_bind (fin (wpAny_bind (wpAny_pure (wpAny_pure (wpAny_pure (wpAny_pure ⟨_, rfl, (fun q => nomatch q), h⟩))))))))
theorem op_ltT : Op2 c b RV (compareOp .Lt) ltT := by
  constructor
  intro A hA ρ s st x z x' z' y st' e r r' R
  obtain ⟨i, j, k, l, rfl, rfl, e'⟩ := Zo e
  clear e; cases e'
  obtain ⟨_, _, _, h, rr, rfl⟩ := r.inv; obtain ⟨_, _, _, h', rr', rfl⟩ := r'.inv
  obtain ⟨_, _, rfl, a1, a2⟩ := rvs2 rr; obtain ⟨_, _, rfl, b1, b2⟩ := rvs2 rr'
  obtain ⟨_, rfl⟩ := a1.inv; obtain ⟨_, rfl⟩ := a2.inv; obtain ⟨_, rfl⟩ := b1.inv; obtain ⟨_, rfl⟩ := b2.inv
  exact lt_pair h h' (by have := Kd hA; show _ < 9900; omega) (EndsS.here R (.bool _))
noncomputable def repS (p q : PV) : SM PV := fun st => pik fun r => ∃ n : Nat, P4 (p = .str (Str.ofString " ")) (q = .int n) (n < 1000) (r = (.str ⟨(List.replicate n 32).toArray⟩, st))
theorem repS_of {n : Nat} {st : List AO} (h : n < 1000) : repS (.str (Str.ofString " ")) (.int n) st = some (.str ⟨(List.replicate n 32).toArray⟩, st) :=
  pik_of ⟨_, rfl, rfl, h, rfl⟩ fun z q' => by obtain ⟨m, _, e, _, e'⟩ := q'; rw [Int.natCast_inj.mp (PV.int.inj e)]; exact e'
theorem op_repS : Op2 c b RV (binaryOp .Mult) repS := by
  constructor
  intro A hA ρ s st x z x' z' y st' e r r' R
  obtain ⟨n, rfl, rfl, h1, e'⟩ := Zo e
  clear e; cases e'
  obtain ⟨t, rfl⟩ := r.inv; obtain ⟨u, rfl⟩ := r'.inv
  have hl : (Str.ofString " ").length = 1 := by decide +kernel
  have hx : Str.ofString " " = ⟨#[32]⟩ := by decide +kernel
  have hr : (List.replicate n #[32]).foldl (fun x1 x2 : Array Nat => x1 ++ x2) #[] = (List.replicate n 32).toArray := by
    apply Array.toList_inj.mp
    rw [foldl_toList]
    simp
  refine P.mul_str ?_ (fun _ _ => ?_) (fun _ _ => ?_) ?_
  · rw [decide_eq_false (by omega), decide_eq_false (by omega)]; rfl
  · rw [hl]
    have : (1 : Int) ≤ (2 ^ 63 - 1) / (n : Int) := by
      rw [Int.le_ediv_iff_mul_le (by omega)]; omega
    omega
  · rw [hl]; exact notLong (by rw [sizeLine_eq]; omega)
  · split
    · have : n = 0 := by omega
      subst this
      exact ⟨Nat.zero_le _, EndsS.tok R (RV.str _ _)⟩
    · split
      · rename_i h
        have : n = 1 := by
          rw [hl, Bool.or_eq_true, beq_iff_eq, beq_iff_eq] at h; omega
        subst this
        show EndsS c.K RV ρ s (PV.str ⟨(List.replicate 1 32).toArray⟩) st (Value.str (Str.ofString " ") t) s
        rw [hx]
        exact EndsS.here R (RV.str _ _)
      · rw [hx, Int.toNat_natCast]
        have e2 : (⟨(List.replicate n (⟨#[32]⟩ : Str).cps).foldl (fun x1 x2 : Array Nat => x1 ++ x2) #[]⟩ : Str) = ⟨(List.replicate n 32).toArray⟩ := congrArg Str.mk hr
        rw [e2]
        exact ⟨by show (List.replicate n 32).toArray.size ≤ sizeLine; rw [List.size_toArray, List.length_replicate, sizeLine_eq]; omega, EndsS.tok R (RV.str _ _)⟩
noncomputable def max2 (ps : List PV) : SM PV := fun st => pik fun r => ∃ a b : Int, ps = [.int a, .int b] ∧ r = (.int (if b > a then b else a), st)
theorem max2_of {a b : Int} {st : List AO} : max2 [.int a, .int b] st = some (.int (if b > a then b else a), st) := pik_of ⟨_, _, rfl, rfl⟩ fun z q' => by obtain ⟨_, _, e, e'⟩ := q'; cases e; exact e'
theorem op_max2 : OpL c b (fun vs => call (.builtin "max") vs) max2 := by
  constructor
  intro A hA ρ s st vs ps y st' e r R
  obtain ⟨a, d, rfl, e'⟩ := Zo e
  clear e; cases e'
  obtain ⟨_, _, rfl, r1, r2⟩ := rvs2 r
  obtain ⟨_, rfl⟩ := r1.inv; obtain ⟨_, rfl⟩ := r2.inv
  refine max_two_ints hA.handled fun h' tk k => ?_
  obtain ⟨S, g⟩ := R.ext k
  refine ⟨ρ, S, g, ⟨rfl, rfl, rfl⟩, ?_⟩
  split <;> exact .int _ _
noncomputable def gtP : PV → PV → Bool
  | .int a, .int b => decide (a > b)
  | .str x, .str y => decide (y.cps.toList < x.cps.toList)
  | _, _ => false
noncomputable def likeP (xs : List PV) : Prop := (∀ x ∈ xs, ∃ i, x = .int i) ∨ ∀ x ∈ xs, ∃ s, x = .str s
theorem rvs_back {h : Heap} {ρ : Rho} {us : Array Value} {xs : List PV} (rs : RVs h ρ us.toList xs) {i : Nat} {v : Value} (e : us[i]? = some v) : ∃ p, xs[i]? = some p ∧ RV h ρ v p := by
  have hl := rs.length
  rw [Array.length_toList] at hl
  have hi := (Array.getElem?_eq_some_iff.mp e).1
  obtain ⟨v', e', r⟩ := rs.getAt (List.getElem?_eq_getElem (l := xs) (hl ▸ hi))
  cases e.symm.trans e'
  exact ⟨_, List.getElem?_eq_getElem _, r⟩
noncomputable def maxL (ps : List PV) : SM PV := fun st => pik fun r => ∃ p xs y, P6 (ps = [p]) (items? st p = some xs) (0 < xs.length) (likeP xs) (xs[argBest (fun i j => gtP (xs.getD i .none) (xs.getD j .none)) (xs.length - 1)]? = some y) (r = (y, st))
theorem maxL_of {st : List AO} {p : PV} {xs : List PV} {y : PV} (h : items? st p = some xs) (h0 : 0 < xs.length) (hl : likeP xs) (hy : xs[argBest (fun i j => gtP (xs.getD i .none) (xs.getD j .none)) (xs.length - 1)]? = some y) : maxL [p] st = some (y, st) :=
  pik_of ⟨_, _, _, rfl, h, h0, hl, hy, rfl⟩ fun z q' => by obtain ⟨_, _, _, e, e1, _, _, e2, e3⟩ := q'; cases e; cases h.symm.trans e1; cases hy.symm.trans e2; exact e3
theorem op_maxL : OpL c b (fun vs => call (.builtin "max") vs) maxL := by
  constructor
  intro A hA ρ s st vs ps y st' e r R
  obtain ⟨p, xs, y', rfl, hi, h0, hl, hy, e'⟩ := Zo e
  clear e; cases e'
  obtain ⟨v, rfl, r1⟩ := rvs1 r
  obtain ⟨a, us, rfl, pl, rs⟩ := Y0 R r1 hi
  have hus : us.size = xs.length := by rw [← Array.length_toList]; exact rs.length
  have hL := isL pl
  have hlt : a < s.heap.objs.size := by obtain ⟨_, e, _⟩ := hL; exact Heap.lt_size e
  refine call_max_walk ?_
  refine wpAny_pyIter_list hL ?_
  refine ⟨_, _, _, _, _, _, _, rfl, Walks.list (A := A.in1) hA.handled _ a (Nat.ne_of_lt hlt) us, ⟨⟨_, Heap.get?_push_size _ rfl, rfl, rfl⟩, hL.push _⟩, fun x m => ?_, by rw [hus]; exact h0, (fun i j vi vj s Q E hvi hvj h => ?_ : CmpOf _ _ _ .Gt _ fun i j => gtP (xs.getD i .none) (xs.getD j .none)), fun v h' tk hP hk => ?_⟩
  · show x < (s.heap.push _).objs.size
    rw [Heap.size_push]
    rcases List.mem_cons.mp m with rfl | m
    · exact Nat.lt_succ_self _
    · rw [List.mem_singleton.mp m]; exact Nat.lt_succ_of_lt hlt
  · obtain ⟨pi, hpi, ri⟩ := rvs_back rs hvi
    obtain ⟨pj, hpj, rj⟩ := rvs_back rs hvj
    replace h : Q (.bool (gtP (xs.getD i .none) (xs.getD j .none))) s := h
    rw [List.getD_eq_getElem?_getD, List.getD_eq_getElem?_getD, hpi, hpj] at h
    rcases hl with hl | hl
    · obtain ⟨m, rfl⟩ := hl pi (List.mem_of_getElem? hpi)
      obtain ⟨n, rfl⟩ := hl pj (List.mem_of_getElem? hpj)
      obtain ⟨_, rfl⟩ := ri.inv; obtain ⟨_, rfl⟩ := rj.inv
      exact richCompare_gives (op := .Gt) (typeIs_int s _ _) (typeIs_int s _ _) F.slot_int_gt F.entry_int_gt (F.args_int_gt_2 _ _) (gives_int_gt _ _ _ _) (fun x => nomatch x) h
    · obtain ⟨m, rfl⟩ := hl pi (List.mem_of_getElem? hpi)
      obtain ⟨n, rfl⟩ := hl pj (List.mem_of_getElem? hpj)
      obtain ⟨_, rfl⟩ := ri.inv; obtain ⟨_, rfl⟩ := rj.inv
      exact richCompare_gives (op := .Gt) (typeIs_str s _ _) (typeIs_str s _ _) F.slot_str_gt F.entry_str_gt (F.args_str_gt_2 _ _) (gives_str_gt _ _ _ _) (fun x => nomatch x) h
  · obtain ⟨q, hq, rq⟩ := rvs_back rs hP
    rw [hus] at hq
    cases hy.symm.trans hq
    have k2 : ∀ b o, s.heap.get? b = some o → h'.get? b = some o := fun b o e => by
      refine hk b o (fun m => ?_) (Heap.get?_push_of_some _ e)
      rw [List.mem_singleton.mp m, get_ge (Nat.le_refl _)] at e
      exact nos e
    obtain ⟨S, g⟩ := R.ext k2
    exact ⟨ρ, S, g, ⟨rfl, rfl, rfl⟩, rq.grow g noFr⟩
end
section
open PySem.Builtin.Re
noncomputable def RM (h : Heap) (_ : Rho) (v : Value) (t : Bool) : Prop := (t = false ∧ v = .none) ∨ (t = true ∧ ∃ a o, P3 (v = .ref a) (h.get? a = some o) (o.cls = .type "re.Match"))
theorem noBool_match : typeLookup (.type "re.Match") "__bool__" = pure none := by rw [typeLookup_type, builtinLookup_eq_fast]; kernel_rfl
theorem noLen_match : typeLookup (.type "re.Match") "__len__" = pure none := by rw [typeLookup_type, builtinLookup_eq_fast]; kernel_rfl
theorem truthy_match {M : Model} {A : Around} {E : Value → Shared → Prop} {s : Shared} {a : Addr} {Q : Bool → Shared → Prop} (hT : s.TypeIs (.ref a) "re.Match") (h : Q true s) : wpAny M A (truthy (.ref a)) Q E s := by
  unfold truthy
  first
    | refine wpAny_bind (wpAny_callSpecial?_none (name := Str.ofString "__bool__") hT noBool_match ?_)
    | refine wpAny_bind (wpAny_pure (wpAny_bind (wpAny_callSpecial?_none (name := Str.ofString "__bool__") hT noBool_match ?_)))
  first
    | refine wpAny_bind (wpAny_specialOf (name := Str.ofString "__len__") hT noLen_match ?_)
    | refine wpAny_bind (wpAny_pure (wpAny_bind (wpAny_specialOf (name := Str.ofString "__len__") hT noLen_match ?_)))
  exact wpAny_pure h
theorem reRun_matched {M : Model} {A : Around} {E : Value → Shared → Prop} {s : Shared} {Q : Option Sre.M → Shared → Prop} {m : Sre.M} (h : (m.runFor 4).outcome = some .matched) (q : Q (some (m.runFor 4)) s) : wpAny M A (reRunToEnd m) Q E s := by
  unfold reRunToEnd
  have e : (2 ^ 64 : Nat) = (2 ^ 64 - 1) + 1 := by decide
  rw [e]
  refine wpAny_bind (reDrive_one h ?_ _)
  refine wpAny_bind (Qv _ _ ?_ _)
  rw [h]
  exact wpAny_pure q
section
variable {c : Ctx0} {b : Nat} {f : FI}
theorem dent_match {e : Expr} {F : FM Bool} (d : Den c b f RM (eval e f.env) F) (he : plainTest e = true := by rfl) : Den c b f RB (isTrue e f.env (eval e f.env)) F := by
  constructor
  intro A hA ρ s es y es' e1 R
  refine wpAny_isTrue_value (wpAny_mono (d.run A hA ρ s es y es' e1 R) (fun v s₁ z => ?_) fun _ _ z => z) (Q4 he)
  obtain ⟨ρ₁, R₁, g₁, q₁, r₁⟩ := z
  rcases r₁ with ⟨rfl, rfl⟩ | ⟨rfl, a, o, rfl, ho, hc⟩
  · exact truthy_none ⟨ρ₁, R₁, g₁, q₁, rfl⟩
  · exact truthy_match ⟨_, ho, hc⟩ ⟨ρ₁, R₁, g₁, q₁, rfl⟩
noncomputable def PatC (K : Frag) (pa : Addr) (code : Array Nat) : Prop := ∃ sl src fl ta g, K.lookup pa = some ⟨.type "re.Pattern", none, .fields #[src, fl, .int 0 g, .none, .none, .ref ta, .int 0 g], sl⟩ ∧ ∃ oc od' items n sl', K.lookup ta = some ⟨oc, od', .seq items n, sl'⟩ ∧ (items.map reRawOf).map (·.toNat) = code
noncomputable def searchM (pa : Addr) (code : Array Nat) (ps : List PV) : SM Bool := fun st => pik fun r => ∃ x t, P4 (ps = [.raw (.ref pa), .str x]) (x.cps.size ≤ 16777216) (((Sre.forSearch code x.cps 0 0 x.cps.size false).runFor 4).outcome = some (if t = true then .matched else .failed)) (r = (t, st))
theorem searchM_of {pa : Addr} {code : Array Nat} {x : Str} {t : Bool} {st : List AO} (hz : x.cps.size ≤ 16777216) (h : ((Sre.forSearch code x.cps 0 0 x.cps.size false).runFor 4).outcome = some (if t = true then .matched else .failed)) : searchM pa code [.raw (.ref pa), .str x] st = some (t, st) :=
  pik_of ⟨_, _, rfl, hz, h, rfl⟩ fun z q' => by
    obtain ⟨_, t', e, _, h', r⟩ := q'
    cases e
    rw [h] at h'
    cases t <;> cases t' <;> first | exact r | cases h'
theorem op_searchM {pa : Addr} {code : Array Nat} (ok : PatC c.K pa code) : ∀ A, AOk b A → ∀ ρ s st vs ps y st', searchM pa code ps st = some (y, st') → RVs s.heap ρ vs ps → RelS c.K ρ st s.heap → wpAny (model c.prog c.w) A (call (.builtin "re.Pattern.search") vs) (EndsS c.K RM ρ s y st') noE s := by
  intro A hA ρ s st vs ps y st' e r R
  obtain ⟨x, t, rfl, hsz, hO, e'⟩ := Zo e
  clear e; cases e'
  obtain ⟨_, _, rfl, r1, r2⟩ := rvs2 r
  cases r1
  obtain ⟨tk, rfl⟩ := r2.inv
  obtain ⟨sl, src, fl, ta, g, hp, oc, od', items, n, sl', ht, hcode⟩ := ok
  have ho := R.top _ _ hp
  have ho' := R.top _ _ ht
  refine wpAny_call_entry slot_re ⟨_, ho, rfl⟩ entry_re ?_ (args_re _ _)
  unfold Builtin.«re.Pattern.search»
  refine wpAny_bind (re_target ho ho' hcode hsz ?_)
  unfold reAnswer
  cases y with
  | false => exact wpAny_bind (reRun_failed hO (wpAny_pure ⟨_, rfl, EndsS.here R (.inl ⟨rfl, rfl⟩)⟩))
  | true =>
    refine wpAny_bind (reRun_matched hO ?_)
    dsimp only
    unfold reNewMatch
    refine wpAny_bind (wpAny_bind (wpAny_newObj_type ?_ (by show (2 : Nat) ≤ sizeLine; rw [sizeLine_eq]; omega)))
    unfold newFields
    refine wpAny_newObj_type (wpAny_pure ?_)
    have k : ∀ (o o' : Obj) a u, s.heap.get? a = some u → ((s.heap.push o).push o').get? a = some u := fun o o' a u e => Heap.get?_push_of_some _ (Heap.get?_push_of_some _ e)
    obtain ⟨S, g⟩ := R.ext (k _ _)
    exact ⟨_, rfl, ρ, S, g, ⟨rfl, rfl, rfl⟩, .inr ⟨rfl, _, _, rfl, Heap.get?_push_size _ rfl, rfl⟩⟩
theorem meth_searchC {pa : Addr} {code : Array Nat} (ok : PatC c.K pa code) : MethAt c "search" (isPat pa) (.builtin "re.Pattern.search") := by
  constructor
  intro A pl ρ s st v p Q hP r R h
  obtain rfl := X7 hP
  cases r
  obtain ⟨sl, src, fl, ta, g, hp, _⟩ := ok
  have ho := R.top _ _ hp
  exact getMethod_builtin ⟨_, ho, rfl⟩ Jy slot_re type_re (fun a' q => by cases q; exact ⟨_, ho, rfl⟩) h
end
end
section
variable {c : Ctx0} {b : Nat} {f : FI}
theorem bk_getitem : builtinKind "list.__getitem__" = some .method := by decide +kernel
theorem si_getitem : splitId "list.__getitem__" = some ("list", "__getitem__") := by decide +kernel
theorem ty_getitem : typeOf (.builtin "list.__getitem__") = pure (.type "method_descriptor") := by show builtinType _ = _; rw [builtinType_eq_fast]; kernel_rfl
theorem code_getitem {prog : Program} {w : World} {A : Around} {s : Shared} {x C : Addr} {d : Option Addr} {vs : Array Value} {m : Nat} {k : Int} {t : Tok} {v : Value} {R : Result → Shared → Prop} (hx : s.heap.get? x = some (linstObj C d vs m)) (hs : Looks (model prog w) s.heap (isSubtype (.ref C) (.type "list")) true)
    (h0 : 0 ≤ k) (hfit : k < 2 ^ 63) (hv : vs[k.toNat]? = some v) (h : R (.ok (.ret v)) s) : codeAny (model prog w) A (.call (.builtin "list.__getitem__") ⟨[.ref x, .int k t], []⟩) R s := by
  refine codeAny_call_builtin (by decide +kernel) entry_list_getitem ?_
  unfold checkBuiltinCall
  rw [bk_getitem, si_getitem]
  dsimp only
  refine wpAny_bind (Xw hx rfl hs ?_)
  refine wpAny_of_eq (a := ()) (by kernel_rfl) ?_
  show wpAny _ _ (Builtin.List.listSubscript? (.int k t) >>= _) _ _ s
  refine wpAny_bind (wpAny_listSubscript_int (fitsIndex_of h0 hfit) ?_)
  clear hfit
  obtain ⟨j, rfl⟩ := Int.eq_ofNat_of_zero_le h0
  have hx' : vs[j]? = some v := hv
  show wpAny _ _ ((seqItemAt x j >>= fun r => pure (r.map (j, ·))) >>= _) _ _ s
  refine wpAny_bind (wpAny_bind (wpAny_seqItemAt hx rfl (wpAny_pure ?_)))
  rw [hx']
  first
    | exact wpAny_bind (wpAny_pure (wpAny_pure h))
    | exact wpAny_pure h
structure LgetOk (K : Frag) (C : Addr) : Prop where
  find : findIn K (.ref C) "__getitem__" = some (some (.builtin "list.__getitem__"))
  deq : mroIn K C (.type "collections.deque") = some false
  lst : mroIn K C (.type "list") = some true
noncomputable def getLst (C : Addr) (p q : PV) : SM PV := fun st => pik fun r => ∃ i k kvs xs y, P6 (p = .ref i) (q = .int k) (0 ≤ k ∧ k < 2 ^ 62) (st[i]? = some (.linst C kvs xs)) (xs[k.toNat]? = some y) (r = (y, st))
theorem getLst_of {C : Addr} {st : List AO} {i : Nat} {k : Int} {kvs : List (Str × PV)} {xs : List PV} {y : PV} (hk : 0 ≤ k ∧ k < 2 ^ 62) (h : st[i]? = some (.linst C kvs xs)) (hy : xs[k.toNat]? = some y) : getLst C (.ref i) (.int k) st = some (y, st) :=
  pik_of ⟨_, _, _, _, _, rfl, rfl, hk, h, hy, rfl⟩ fun z q' => by obtain ⟨_, _, _, _, _, e, e1, _, e2, e3, r⟩ := q'; cases e; cases e1; cases h.symm.trans e2; cases hy.symm.trans e3; exact r
theorem op_getLst {C : Addr} {value slice : Expr} (ok : LgetOk c.K C) (hs : ∀ o i, subscripted slice false o i = operate [o, i] (getItem o i) := by intro _ _; rfl) : Op2 c b RV (fun o i => subscriptTail value slice o i) (getLst C) := by
  constructor
  intro A hA ρ s st x z x' z' y st' e r r' R
  obtain ⟨i, k, kvs, xs, y', rfl, rfl, hk, q, hy, e'⟩ := Zo e
  clear e; cases e'
  obtain ⟨t, rfl⟩ := r'.inv
  obtain ⟨a, ha, rfl⟩ := r.inv
  obtain ⟨d, us, m, es, n, hr, ho, rx, hD, er, I⟩ := R.linstAt ha q
  obtain ⟨v, hv, rv⟩ := rx.getAt hy
  have hfind := looks_findIn (M := model c.prog c.w) R.top ok.find
  have hg : wpAny (model c.prog c.w) A (getItem (.ref a) (.int k t)) (fun r s₃ => s₃ = s ∧ r = v) noE s := by
    unfold getItem
    try with_reducible refine wpAny_holding ?_
    first | refine wpAny_bind (wpAny_pure ?_) | skip
    have key : ∀ {Q : Value → Shared → Prop}, Q (.int k t) s → wpAny (model c.prog c.w) A (sequenceKey (.ref a) (.int k t) (Str.ofString "__getitem__")) Q noE s := fun h => by
      unfold sequenceKey
      refine wpAny_bind (I.type.here ?_)
      dsimp only
      refine wpAny_bind ?_
      show wpAny _ _ (isSubtype (.ref C) (.type "collections.deque") >>= _) _ _ s
      refine wpAny_bind ((looks_mroIn R.top ok.deq).here ?_)
      exact wpAny_pure (wpAny_pure h)
    refine wpAny_bind (key ?_)
    unfold callSpecial? specialOf
    refine wpAny_bind (wpAny_bind (wpAny_bind (I.type.here (hfind.here ?_))))
    dsimp only
    refine wpAny_holding ?_
    unfold bindSpecial
    refine wpAny_bind (wpAny_bind (wpAny_of_eq ty_getitem ?_))
    rw [if_pos (by decide +kernel)]
    refine wpAny_pure (wpAny_bind (wpAny_call (code_getitem ho (looks_mroIn R.top ok.lst) hk.1 (by omega) hv ?_)))
    exact wpAny_pure (wpAny_pure ⟨rfl, rfl⟩)
  unfold subscriptTail
  have hne : (Value.ref a) ≠ .builtin "sys.modules#opaque" := fun q => nomatch q
  refine wpAny_bind ?_
  rw [getitemInPython_of_ne hne]
  unfold specialOf
  refine wpAny_bind (wpAny_bind (I.type.here (hfind.here ?_)))
  refine wpAny_pure (wpAny_bind ?_)
  rw [hs]
  refine wpAny_operating (wpAny_mono hg (fun r s₃ h₃ => ?_) fun _ _ x => x)
  obtain ⟨rfl, rfl⟩ := h₃
  exact wpAny_bind (wpAny_letTemporaryGo (wpAny_pure (EndsS.here R rv)))
theorem den_subscriptL {value slice : Expr} {pos : Pos} {C : Addr} {F₁ F₂ : FM PV} (d₁ : Den c b f RV (eval value f.env) F₁) (d₂ : Den c b f RV (eval slice f.env) F₂) (ok : LgetOk c.K C)
    (hs : ∀ o i, subscripted slice false o i = operate [o, i] (getItem o i) := by intro _ _; rfl) :
    Den c b f RV (eval (.Subscript value slice pos) f.env) (bindE F₁ fun p => bindE F₂ fun q => liftS (getLst C p q)) :=
  ⟨fun A hA ρ s es y es' e R => Subscript_ (Qk d₁ d₂ (op_getLst ok hs) hA e R)⟩
end
theorem gn__netrclex (w : World) : nsIn (C2 w).K mainGlobals (Str.ofString "_netrclex") = some (some (.ref 310)) := by kernel_rfl
theorem gn__Accumulator (w : World) : nsIn (C2 w).K mainGlobals (Str.ofString "_Accumulator") = some (some (.ref 268)) := by kernel_rfl
theorem gn_Headers (w : World) : nsIn (C2 w).K mainGlobals (Str.ofString "Headers") = some (some (.ref 184)) := by kernel_rfl
theorem Qy (w : World) : nsIn (C2 w).K mainGlobals (Str.ofString "_name_disallowed_re") = some (some (.ref 48)) := by kernel_rfl
theorem Qp (w : World) : nsIn (C2 w).K mainGlobals (Str.ofString "_value_disallowed_re") = some (some (.ref 53)) := by kernel_rfl
theorem gn_tspecials (w : World) : nsIn (C2 w).K mainGlobals (Str.ofString "tspecials") = some (some (.ref 43)) := by kernel_rfl
theorem gn__formatparam (w : World) : nsIn (C2 w).K mainGlobals (Str.ofString "_formatparam") = some (some (.ref 61)) := by kernel_rfl
theorem gn__law_lexer (w : World) : nsIn (C2 w).K mainGlobals (Str.ofString "_law_lexer") = some (some (.ref 321)) := by kernel_rfl
theorem gn__law_words (w : World) : nsIn (C2 w).K mainGlobals (Str.ofString "_law_words") = some (some (.ref 326)) := by kernel_rfl
theorem gn__law_rounds (w : World) : nsIn (C2 w).K mainGlobals (Str.ofString "_law_rounds") = some (some (.ref 333)) := by kernel_rfl
theorem gn__law_sizes (w : World) : nsIn (C2 w).K mainGlobals (Str.ofString "_law_sizes") = some (some (.ref 340)) := by kernel_rfl
theorem Qz (w : World) : nsIn (C2 w).K mainGlobals (Str.ofString "_law_tree") = some (some (.ref 347)) := by kernel_rfl
theorem Jf (w : World) : nsIn (C2 w).K mainGlobals (Str.ofString "range") = some none := by kernel_rfl
theorem Jh (w : World) : nsIn (C2 w).K builtinsNs (Str.ofString "range") = some (some (.type "range")) := by kernel_rfl
theorem gn_int (w : World) : nsIn (C2 w).K mainGlobals (Str.ofString "int") = some none := by kernel_rfl
theorem bn_int (w : World) : nsIn (C2 w).K builtinsNs (Str.ofString "int") = some (some (.type "int")) := by kernel_rfl
theorem gn_max (w : World) : nsIn (C2 w).K mainGlobals (Str.ofString "max") = some none := by kernel_rfl
theorem bn_max (w : World) : nsIn (C2 w).K builtinsNs (Str.ofString "max") = some (some (.builtin "max")) := by kernel_rfl
theorem gn_list (w : World) : nsIn (C2 w).K mainGlobals (Str.ofString "list") = some none := by kernel_rfl
theorem bn_list (w : World) : nsIn (C2 w).K builtinsNs (Str.ofString "list") = some (some (.type "list")) := by kernel_rfl
theorem gn_len (w : World) : nsIn (C2 w).K mainGlobals (Str.ofString "len") = some none := by kernel_rfl
theorem bn_len (w : World) : nsIn (C2 w).K builtinsNs (Str.ofString "len") = some (some (.builtin "len")) := by kernel_rfl
theorem gn_iter (w : World) : nsIn (C2 w).K mainGlobals (Str.ofString "iter") = some none := by kernel_rfl
theorem bn_iter (w : World) : nsIn (C2 w).K builtinsNs (Str.ofString "iter") = some (some (.builtin "iter")) := by kernel_rfl
theorem gn_type (w : World) : nsIn (C2 w).K mainGlobals (Str.ofString "type") = some none := by kernel_rfl
theorem bn_type (w : World) : nsIn (C2 w).K builtinsNs (Str.ofString "type") = some (some (.type "type")) := by kernel_rfl
theorem gn_str (w : World) : nsIn (C2 w).K mainGlobals (Str.ofString "str") = some none := by kernel_rfl
theorem bn_str (w : World) : nsIn (C2 w).K builtinsNs (Str.ofString "str") = some (some (.type "str")) := by kernel_rfl
theorem gn_enumerate (w : World) : nsIn (C2 w).K mainGlobals (Str.ofString "enumerate") = some none := by kernel_rfl
theorem bn_enumerate (w : World) : nsIn (C2 w).K builtinsNs (Str.ofString "enumerate") = some (some (.type "enumerate")) := by kernel_rfl
theorem gn_zip (w : World) : nsIn (C2 w).K mainGlobals (Str.ofString "zip") = some none := by kernel_rfl
theorem bn_zip (w : World) : nsIn (C2 w).K builtinsNs (Str.ofString "zip") = some (some (.type "zip")) := by kernel_rfl
theorem fn_read (w : World) : Mine.fnIn (C2 w).K 293 := ⟨_, _, rfl, rfl⟩
theorem lst_ok (w : World) : LstOk (C2 w).K 268 (Str.ofString "_initial_size") := ⟨⟨_, rfl, rfl, rfl⟩, by kernel_rfl, by kernel_rfl⟩
theorem lget_ok (w : World) : LgetOk (C2 w).K 268 := ⟨by kernel_rfl, by kernel_rfl, by kernel_rfl⟩
theorem pat_n (w : World) : PatOk (C2 w).K 48 codeN ctlN := ⟨code_names, ⟨_, _, _, _, _, rfl, _, _, _, _, _, rfl, by kernel_rfl⟩⟩
theorem pat_v (w : World) : PatOk (C2 w).K 53 (codeC 4294966783 0 0 2147483648 0 0 0 0) (Qx 4294966783 0 0 2147483648 0 0 0 0) := ⟨code_words .., ⟨_, _, _, _, _, rfl, _, _, _, _, _, rfl, by kernel_rfl⟩⟩
theorem pat_t (w : World) : PatC (C2 w).K 43 (codeC 0 4227896069 939524097 0 0 0 0 0) := ⟨_, _, _, _, _, rfl, _, _, _, _, _, rfl, by kernel_rfl⟩
noncomputable abbrev ln_conv : List Str := [Str.ofString "self", Str.ofString "value", Str.ofString "name", Str.ofString "regex"]
noncomputable abbrev cn_conv : List (Str × Nat) := []
theorem loc_conv : ∀ x ∈ ln_conv, (defS (at2 P2 7 1)).names.lookup x = some .local := by decide +kernel
theorem nd_conv : ln_conv.Nodup := by decide +kernel
noncomputable def b_conv : { b : List Stmt // defB (at2 P2 7 1) = b } := ⟨[_, _], rfl⟩
noncomputable def s_conv (w : World) : { F : FM PF // ∀ L, Den (C2 w) 1 (FI.fn fd83 83 ln_conv cn_conv L) RFl (execs (defB (at2 P2 7 1)) (callEnvC fd83 L 83)) F } := ⟨_, fun L => by
  have ok : FI.Ok (FI.fn fd83 83 ln_conv cn_conv L) := ok_fn (fd := fd83) rfl rfl rfl loc_conv nd_conv
  rw [b_conv.2]
  exact (Zc (den_if (Zn (Zs (Zm ok (by kernel_rfl) (gn_type w) (bn_type w)) Z1 (Zb (Za (i := 1) ok rfl) Zd) op_type) (Zm ok (by kernel_rfl) (gn_str w) (bn_str w)) op_isT) (Zc (Zj (den_ifexp (Xj (Za (i := 2) ok rfl)) (Z8 ok (by kernel_rfl) (Qy w)) (Z8 ok (by kernel_rfl) (Qp w))) (Zf (i := 3) ok rfl)) (Zc (den_if (Xj (Zi (Za (i := 3) ok rfl) (meth_or (meth_search (pat_n w)) (meth_search (pat_v w))) Zh (Zb (Za (i := 1) ok rfl) Zd) (op_or (op_search (pat_n w)) (op_search (pat_v w))))) (Zc Qs Zg) Zg) (Zc (Zq (Za (i := 1) ok rfl)) Zg))) Zg) (Zc Qs Zg))⟩
theorem x_conv (w : World) : DefK (C2 w).K 83 fd83 (defB (at2 P2 7 1)) [Str.ofString "self", Str.ofString "value", Str.ofString "name"] ln_conv cn_conv := ⟨⟨⟨_, _, _, rfl⟩, by kernel_rfl, rfl, rfl, rfl, rfl⟩, rfl, fun L => rfl, by decide +kernel, by decide +kernel, by decide +kernel, loc_conv, by decide +kernel⟩
theorem r_conv (w : World) : FunK (C2 w) 2 (.ref 83) 2 [Str.ofString "name"] (runK (2 + 1) [] [some 0, some 1, some 2, none] [] (s_conv w).1) := Yh (x_conv w) (dvs := []) (fun _ _ => .nil) rfl (by decide +kernel) (by decide +kernel) (fun s vs ws h1 h2 X => by
  obtain ⟨v0, v1, rfl⟩ := ln2 h1
  obtain ⟨u0, rfl⟩ := ln1 h2
  exact BindsTo.of_eq (by kernel_rfl)) (s_conv w).2
noncomputable abbrev ln_init310 : List Str := [Str.ofString "self", Str.ofString "fp"]
noncomputable abbrev cn_init310 : List (Str × Nat) := []
theorem loc_init310 : ∀ x ∈ ln_init310, (defS (at2 P2 12 0)).names.lookup x = some .local := by decide +kernel
theorem nd_init310 : ln_init310.Nodup := by decide +kernel
noncomputable def b_init310 : { b : List Stmt // defB (at2 P2 12 0) = b } := ⟨[_, _, _, _], rfl⟩
noncomputable def Ql (w : World) : { F : FM PF // ∀ L, Den (C2 w) 1 (FI.fn fd286 286 ln_init310 cn_init310 L) RFl (execs (defB (at2 P2 12 0)) (callEnvC fd286 L 286)) F } := ⟨_, fun L => by
  have ok : FI.Ok (FI.fn fd286 286 ln_init310 cn_init310 L) := ok_fn (fd := fd286) rfl rfl rfl loc_init310 nd_init310
  rw [b_init310.2]
  exact (Zc (Zj Zp (Xq (Za (i := 0) ok rfl))) (Zc (Zj (Za (i := 1) ok rfl) (Xq (Za (i := 0) ok rfl))) (Zc (Zj Zy (Xq (Za (i := 0) ok rfl))) (Zc (Zj (Yi Zd) (Xq (Za (i := 0) ok rfl))) Zg))))⟩
theorem x_init310 (w : World) : DefK (C2 w).K 286 fd286 (defB (at2 P2 12 0)) [Str.ofString "self", Str.ofString "fp"] ln_init310 cn_init310 := ⟨⟨⟨_, _, _, rfl⟩, by kernel_rfl, rfl, rfl, rfl, rfl⟩, rfl, fun L => rfl, by decide +kernel, by decide +kernel, by decide +kernel, loc_init310, by decide +kernel⟩
theorem r_init310 (w : World) : FunK (C2 w) 2 (.ref 286) 2 [] (runK (2 + 0) [] [some 0, some 1] [] (Ql w).1) := Yh (x_init310 w) (dvs := []) (fun _ _ => .nil) rfl (by decide +kernel) (by decide +kernel) (fun s vs ws h1 h2 X => by
  obtain ⟨v0, v1, rfl⟩ := ln2 h1
  obtain rfl := ln0 h2
  exact BindsTo.of_eq (by kernel_rfl)) (Ql w).2
noncomputable abbrev ln_ptoken : List Str := [Str.ofString "self", Str.ofString "token"]
noncomputable abbrev cn_ptoken : List (Str × Nat) := []
theorem loc_ptoken : ∀ x ∈ ln_ptoken, (defS (at2 P2 12 3)).names.lookup x = some .local := by decide +kernel
theorem nd_ptoken : ln_ptoken.Nodup := by decide +kernel
noncomputable def b_ptoken : { b : List Stmt // defB (at2 P2 12 3) = b } := ⟨[_], rfl⟩
noncomputable def Q9 (w : World) : { F : FM PF // ∀ L, Den (C2 w) 1 (FI.fn fd307 307 ln_ptoken cn_ptoken L) RFl (execs (defB (at2 P2 12 3)) (callEnvC fd307 L 307)) F } := ⟨_, fun L => by
  have ok : FI.Ok (FI.fn fd307 307 ln_ptoken cn_ptoken L) := ok_fn (fd := fd307) rfl rfl rfl loc_ptoken nd_ptoken
  rw [b_ptoken.2]
  exact (Zc (Ys (Zi (Y2 (Za (i := 0) ok rfl)) (Yy F.slot_list_append F.type_list_append) Zh (Zb (Za (i := 1) ok rfl) Zd) X2) (by kernel_rfl)) Zg)⟩
theorem x_ptoken (w : World) : DefK (C2 w).K 307 fd307 (defB (at2 P2 12 3)) [Str.ofString "self", Str.ofString "token"] ln_ptoken cn_ptoken := ⟨⟨⟨_, _, _, rfl⟩, by kernel_rfl, rfl, rfl, rfl, rfl⟩, rfl, fun L => rfl, by decide +kernel, by decide +kernel, by decide +kernel, loc_ptoken, by decide +kernel⟩
theorem r_ptoken (w : World) : FunK (C2 w) 2 (.ref 307) 2 [] (runK (2 + 0) [] [some 0, some 1] [] (Q9 w).1) := Yh (x_ptoken w) (dvs := []) (fun _ _ => .nil) rfl (by decide +kernel) (by decide +kernel) (fun s vs ws h1 h2 X => by
  obtain ⟨v0, v1, rfl⟩ := ln2 h1
  obtain rfl := ln0 h2
  exact BindsTo.of_eq (by kernel_rfl)) (Q9 w).2
noncomputable def Y9 (x : Str) : Bool := x.cps.all (fun u => decide (32 ≤ u ∧ u < 127)) && decide (x.cps.size ≤ 1000)
theorem plain_n : ∀ u, 32 ≤ u → u < 127 → ctlN u = false := by
  intro u h1 h2
  have : ∀ u : Fin 127, 32 ≤ u.val → ctlN u.val = false := by decide +kernel
  exact this ⟨u, h2⟩ h1
theorem plain_v : ∀ u, 32 ≤ u → u < 127 → Qx 4294966783 0 0 2147483648 0 0 0 0 u = false := by
  intro u h1 h2
  have : ∀ u : Fin 127, 32 ≤ u.val → Qx 4294966783 0 0 2147483648 0 0 0 0 u.val = false := by decide +kernel
  exact this ⟨u, h2⟩ h1
theorem plainTxt_all {x : Str} (h : Y9 x = true) : x.cps.all (fun u => !ctlN u) = true ∧ x.cps.all (fun u => !Qx 4294966783 0 0 2147483648 0 0 0 0 u) = true ∧ x.cps.size ≤ 16777216 := by
  simp only [Y9, Bool.and_eq_true, decide_eq_true_eq] at h
  obtain ⟨h1, h2⟩ := h
  rw [Array.all_eq_true] at h1
  refine ⟨?_, ?_, by omega⟩
  · rw [Array.all_eq_true]
    intro i hi
    have := of_decide_eq_true (h1 i hi)
    rw [plain_n _ this.1 this.2]; rfl
  · rw [Array.all_eq_true]
    intro i hi
    have := of_decide_eq_true (h1 i hi)
    rw [plain_v _ this.1 this.2]; rfl
noncomputable def convR (w : World) : List PV → SM PV := runK (2 + 1) [] [some 0, some 1, some 2, none] [] (s_conv w).1
theorem k_conv (w : World) : FunK (C2 w) 2 (.ref 83) 2 [Str.ofString "name"] (convR w) := r_conv w
noncomputable abbrev pcS : Option Stmt := (defB (at1 P2 14))[2]?
noncomputable abbrev qP : Str := Str.ofString "_law_lexer.<locals>._law_piece"
noncomputable abbrev tmP : FuncData := tmOf (Str.ofString "_law_piece") qP (defA pcS) (defB pcS) (defS pcS) (sv "law_tc0040_03" 711)
noncomputable abbrev ln_piece : List Str := [Str.ofString "count", Str.ofString "piece"]
noncomputable abbrev cnP : List Str := [Str.ofString "text", Str.ofString "gone"]
theorem loc_piece : ∀ x ∈ ln_piece, (defS pcS).names.lookup x = some .local := by decide +kernel
theorem nd_piece : ln_piece.Nodup := by decide +kernel
theorem tm_piece : TmOk tmP (defB pcS) [Str.ofString "count"] ln_piece :=
  { body := rfl, co := rfl, gen := rfl, kind := rfl, glob := rfl, blt := rfl, cell := by decide +kernel, par := by decide +kernel, nd := by decide +kernel, sub := by decide +kernel,
    bind := fun cl T c' s vs h => by
      obtain ⟨v, rfl⟩ := ln1 h
      exact BindsTo.of_eq (by kernel_rfl) }
noncomputable def b_piece : { b : List Stmt // defB pcS = b } := ⟨[_, _, _], rfl⟩
noncomputable def s_piece (w : World) : { F : FM PF // ∀ cs T c' L f, cs.length = cnP.length → Den (C2 w) 1 ⟨callEnv (cloFd tmP (cnP.zip cs) T c') L f, ln_piece, cnP.zip cs⟩ RFl (execs (defB pcS) (callEnv (cloFd tmP (cnP.zip cs) T c') L f)) F } := ⟨_, fun cs T c' L f h => by
  obtain ⟨c1, c2, rfl⟩ := ln2 h
  have ok : FI.Ok ⟨callEnv (cloFd tmP (cnP.zip [c1, c2]) T c') L f, ln_piece, cnP.zip [c1, c2]⟩ := ok_call (fd := cloFd tmP (cnP.zip [c1, c2]) T c') rfl rfl rfl loc_piece nd_piece
  rw [b_piece.2]
  exact (Zc (Zj (Yp (Yd (i := 0) ok rfl (by kernel_rfl) (.inr (by kernel_rfl))) (Yk (Zs (Zm ok (by kernel_rfl) (gn_len w) (bn_len w)) Zh (Zb (Yd (i := 1) ok rfl (by kernel_rfl) (.inr (by kernel_rfl))) Zd) op_len)) (Yk (Zt (Zs (Zm ok (by kernel_rfl) (gn_len w) (bn_len w)) Zh (Zb (Yd (i := 1) ok rfl (by kernel_rfl) (.inr (by kernel_rfl))) Zd) op_len) (Za (i := 0) ok rfl) Yq)) Zx) (Zf (i := 1) ok rfl)) (Zc (Ys (Zi (Yd (i := 1) ok rfl (by kernel_rfl) (.inr (by kernel_rfl))) (Yy F.slot_list_extend F.type_list_extend) Zh (Zb (Za (i := 1) ok rfl) Zd) op_extendS) (by kernel_rfl)) (Zc (Zq (Za (i := 1) ok rfl)) Zg)))⟩
noncomputable def Z2 (text : Str) (n : Nat) : Str := match text.cps[n]? with
  | some u => ⟨#[u]⟩
  | none => Str.empty
theorem range_one {a : Nat} : sliceRange (a : Int) ((a : Int) + 1) 1 = [a] := by
  unfold sliceRange
  have h1 : ((a : Int) < a + 1) := by omega
  have h2 : ((a : Int) + 1 - a + 1 - 1) / 1 = 1 := by omega
  simp only [h1, if_true, h2, Int.toNat_one]
  simp [List.range_succ]
theorem range_none {a : Int} : sliceRange a a 1 = [] := by
  unfold sliceRange; simp
theorem indices_one (n len : Nat) : Builtin.Str.strSliceIndices (some (n : Int)) (some ((n : Int) + 1)) 1 len = if n < len then [n] else [] := by
  unfold Builtin.Str.strSliceIndices
  have n0 : (0 : Int) ≤ (n : Int) := Int.natCast_nonneg n
  have n1 : (0 : Int) ≤ (n : Int) + 1 := Int.natCast_nonneg (n + 1)
  have h0 : ¬ ((n : Int) < 0) := Int.not_lt.mpr n0
  have h1 : ¬ ((n : Int) + 1 < 0) := Int.not_lt.mpr n1
  have hp : (1 : Int) > 0 := by decide
  simp only [h0, h1, if_false, hp, if_true]
  by_cases h : n < len
  · rw [if_pos h, Int.min_eq_left (Int.ofNat_le.mpr (Nat.le_of_lt h)), Int.max_eq_right n0, Int.min_eq_left (a := (n : Int) + 1) (Int.ofNat_le.mpr h), Int.max_eq_right n1]
    exact range_one
  · have h' : len ≤ n := Nat.le_of_not_lt h
    rw [if_neg h, Int.min_eq_right (Int.ofNat_le.mpr h'), Int.max_eq_right (Int.natCast_nonneg len), Int.min_eq_right (a := (n : Int) + 1) (Int.ofNat_le.mpr (Nat.le_succ_of_le h')), Int.max_eq_right (Int.natCast_nonneg len)]
    exact range_none
theorem str_one {x : Str} (h : x.cps.size = 1) : ∃ u, x = ⟨#[u]⟩ ∧ x.cps[0]? = some u := by
  obtain ⟨⟨l⟩⟩ := x
  match l, h with
  | [u], _ => exact ⟨u, rfl, rfl⟩
theorem slice_piece (text : Str) (n : Nat) : sliceS text (some (n : Int)) (some ((n : Int) + 1)) none = Z2 text n := by
  unfold sliceS Z2
  simp only [Option.getD_none, indices_one]
  show (if ((1 : Int) == 1 && (if n < text.length then [n] else []).length == text.length) = true then text else _) = _
  by_cases h : n < text.length
  · rw [if_pos h]
    have hg : text.cps[n]? = some text.cps[n] := Array.getElem?_eq_getElem h
    by_cases h1 : text.cps.size = 1
    · have hn : n = 0 := by have : n < text.cps.size := h; omega
      subst hn
      obtain ⟨u, hu, hu2⟩ := str_one h1
      have : ((1 : Int) == 1 && [0].length == text.length) = true := by
        have : text.length = 1 := h1
        rw [this]; rfl
      rw [if_pos this, hu2]
      exact hu
    · have : ¬ (((1 : Int) == 1 && [n].length == text.length) = true) := by
        simp
        intro q; exact h1 q.symm
      rw [if_neg this, List.filterMap_cons, hg]
      rfl
  · rw [if_neg h]
    have hg : text.cps[n]? = none := Array.getElem?_eq_none (Nat.le_of_not_lt h)
    rw [hg]
    by_cases h0 : text.length = 0
    · rw [h0]
      simp
      obtain ⟨⟨l⟩⟩ := text
      cases l with
      | nil => rfl
      | cons a l => cases h0
    · have : ¬ (((1 : Int) == 1 && ([] : List Nat).length == text.length) = true) := by
        simp
        intro q; exact h0 q.symm
      rw [if_neg this]
      rfl
theorem pieceAt_len (text : Str) (n : Nat) : (Z2 text n).cps.size ≤ 1 := by
  unfold Z2
  split
  · exact Nat.le_refl _
  · exact Nat.zero_le _
theorem pieceAt_ascii {text : Str} (h : text.cps.all (· < 128) = true) (n : Nat) : (Z2 text n).cps.all (· < 128) = true := by
  unfold Z2
  cases hq : text.cps[n]? with
  | none => exact Array.all_eq_true.mpr fun i hi => absurd hi (Nat.not_lt_zero i)
  | some u =>
    have hu := hq
    rw [Array.all_eq_true] at h
    obtain ⟨hi, he⟩ := Array.getElem?_eq_some_iff.mp hu
    have := h n hi
    rw [he] at this
    simpa using this
noncomputable def pieceG (p : PV) (ps : List PV) : SM PV := fun st => pik fun r => ∃ i text g xs, P8 (p = .ref i) (ps = [.int 1]) (st[i]? = some (.clo tmP cnP [some (.str text), some (.ref g)])) (text.cps.all (· < 128) = true) (text.cps.size ≤ 1000) (st[g]? = some (.list xs)) (xs.length ≤ 2000) (r = (.str (Z2 text xs.length), st.set g (.list (xs ++ Yo (Z2 text xs.length)))))
theorem piece_of {st : List AO} {i g : Nat} {text : Str} {xs : List PV} (q : st[i]? = some (.clo tmP cnP [some (.str text), some (.ref g)])) (ha : text.cps.all (· < 128) = true) (hz : text.cps.size ≤ 1000) (qg : st[g]? = some (.list xs)) (hx : xs.length ≤ 2000) :
    pieceG (.ref i) [.int 1] st = some (.str (Z2 text xs.length), st.set g (.list (xs ++ Yo (Z2 text xs.length)))) :=
  pik_of ⟨_, _, _, _, rfl, rfl, q, ha, hz, qg, hx, rfl⟩ fun z q' => by obtain ⟨_, _, _, _, e, _, q', _, _, qg', _, r⟩ := q'; cases e; cases q.symm.trans q'; cases qg.symm.trans qg'; exact r
theorem set_set_back {st : List AO} {i g : Nat} {x y z : AO} (e : st[i]? = some z) (ne : i ≠ g) : ((st.set i x).set g y).set i z = st.set g y := by
  apply List.ext_getElem?
  intro k
  by_cases h1 : i = k
  · subst h1
    have hi : i < st.length := (List.getElem?_eq_some_iff.mp e).1
    rw [List.getElem?_set_self (by simpa using hi), List.getElem?_set_ne (Ne.symm ne), e]
  · rw [List.getElem?_set_ne h1]
    by_cases h2 : g = k
    · subst h2
      by_cases hg : g < st.length
      · rw [List.getElem?_set_self (by simpa using hg), List.getElem?_set_self hg]
      · rw [List.getElem?_eq_none (by simpa using hg), List.getElem?_eq_none (by simpa using hg)]
    · rw [List.getElem?_set_ne h2, List.getElem?_set_ne h2, List.getElem?_set_ne h1]
theorem k_piece (w : World) : OpV (C2 w) 2 pieceG := by
  refine op_clo (li := [some 0, none]) tm_piece (by decide +kernel) (s_piece w).2 fun p ps st y st' e => ?_
  obtain ⟨i, text, g, xs, rfl, rfl, q, ha, hz, qg, hx, e'⟩ := Zo e
  clear e; cases e'
  have hne : i ≠ g := by rintro rfl; rw [q] at qg; cases qg
  refine ⟨i, _, rfl, q, rfl, fun cl => ?_⟩
  have hi : i < st.length := (List.getElem?_eq_some_iff.mp q).1
  have hg : g < st.length := (List.getElem?_eq_some_iff.mp qg).1
  have h1 : (st.set i (.fn tmP cl))[g]? = some (.list xs) := by rw [List.getElem?_set_ne hne]; exact qg
  have hs1 : xs.length ≤ sizeLine := by rw [sizeLine_eq]; omega
  have hs2 : (Z2 text xs.length).length ≤ sizeLine := by rw [sizeLine_eq]; have := pieceAt_len text xs.length; show (Z2 text xs.length).cps.size ≤ _; omega
  have hs3 : xs.length + (Z2 text xs.length).cps.size ≤ sizeLine := by rw [sizeLine_eq]; have := pieceAt_len text xs.length; omega
  refine ⟨.ret (.str (Z2 text xs.length)), ⟨[some (.int 1), some (.str (Z2 text xs.length))], [some (.str text), some (.ref g)], (st.set i (.fn tmP cl)).set g (.list (xs ++ Yo (Z2 text xs.length)))⟩, ?_, ?_, rfl, rfl, ?_⟩
  · let E (o : Option PV) (S : List AO) : ES := ⟨[some (.int 1), o], [some (.str text), some (.ref g)], S⟩
    let S1 := st.set i (.fn tmP cl)
    have hL : items? S1 (.ref g) = some xs := Xb h1
    have hlen : (bindE (consE (getC 1) (pureE [])) fun ps => liftS (lenG ps)) (E none S1) = some (.int xs.length, E none S1) := p_call (ps := [.ref g]) (p_cons rfl rfl) (Qc hL hs1)
    show (s_piece w).1 (E none S1) = _
    simp only [s_piece]
    refine e_seq (es₁ := E (some (.str (Z2 text xs.length))) S1) (e_asg (p := .str (Z2 text xs.length)) (es₁ := E none S1) (e_bind (y := .str text) (es₁ := E none S1) rfl (e_bind hlen (e_bind (y := .int (xs.length + 1)) (es₁ := E none S1) (p_bin (p := .int xs.length) (q := .int 1) hlen rfl rfl) (e_bind (y := .none) (es₁ := E none S1) rfl (Ye ?_))))) rfl) ?_
    · show (if (sliceS text (some (xs.length : Int)) (some ((xs.length : Int) + 1)) none).length ≤ sizeLine then some (PV.str (sliceS text (some (xs.length : Int)) (some ((xs.length : Int) + 1)) none), S1) else none) = _
      rw [slice_piece, if_pos hs2]
    · exact e_seq (es₁ := E (some (.str (Z2 text xs.length))) (S1.set g (.list (xs ++ Yo (Z2 text xs.length))))) (e_expr (p := .none) (e_meth (p := .ref g) (ps := [.str (Z2 text xs.length)]) (es₁ := E (some (.str (Z2 text xs.length))) S1) (es₂ := E (some (.str (Z2 text xs.length))) S1) rfl (Xc h1) (p_cons rfl rfl) (extendS_of h1 (pieceAt_ascii ha _) hs3))) rfl
  · rw [List.getElem?_set_ne (Ne.symm hne), List.getElem?_set_self hi]
  · exact (set_set_back q hne).symm
theorem OpL.sub {c : Ctx0} {b : Nat} {t : List Value → Sem Value} {G G' : List PV → SM PV} (o : OpL c b t G) (h : ∀ ps st r, G' ps st = some r → G ps st = some r) : OpL c b t G' :=
  ⟨fun A hA ρ s st vs ps y st' e r R => o.run A hA ρ s st vs ps y st' (h ps st _ e) r R⟩
theorem Xh {α : Type} (st l : List α) (k : Nat) : (st ++ l)[st.length + k]? = l[k]? := by
  rw [List.getElem?_append_right (Nat.le_add_right _ _), Nat.add_sub_cancel_left]
theorem Y1 {α : Type} (st l : List α) : (st ++ l)[st.length]? = l[0]? := Xh st l 0
theorem set_app {α : Type} (st l : List α) (k : Nat) (y : α) : (st ++ l).set (st.length + k) y = st ++ l.set k y := by
  rw [List.set_append_right _ _ (Nat.le_add_right _ _), Nat.add_sub_cancel_left]
theorem set_app0 {α : Type} (st l : List α) (y : α) : (st ++ l).set st.length y = st ++ l.set 0 y := set_app st l 0 y
noncomputable abbrev nLine : Str := Str.ofString "lineno"
noncomputable abbrev nIn : Str := Str.ofString "instream"
noncomputable abbrev nWs : Str := Str.ofString "whitespace"
noncomputable abbrev nPb : Str := Str.ofString "pushback"
noncomputable abbrev nRd : Str := Str.ofString "read"
noncomputable abbrev wsS : Str := Str.ofString "\n\t\r "
noncomputable abbrev kv76 (n : Int) (p : PV) (j : Nat) : List (Str × PV) := [(nLine, .int n), (nIn, p), (nWs, .str wsS), (nPb, .ref j)]
theorem so_line (w : World) : setOk (kFrag w.params) 310 nLine = true := by kernel_rfl
theorem so_in (w : World) : setOk (kFrag w.params) 310 nIn = true := by kernel_rfl
theorem so_ws (w : World) : setOk (kFrag w.params) 310 nWs = true := by kernel_rfl
theorem so_pb (w : World) : setOk (kFrag w.params) 310 nPb = true := by kernel_rfl
theorem so_rd (w : World) : setOk (kFrag w.params) 310 nRd = true := by kernel_rfl
theorem put1 (p q : PV) : kvPut [(nLine, p)] nIn q = [(nLine, p), (nIn, q)] := by kernel_rfl
theorem put2 (p q r : PV) : kvPut [(nLine, p), (nIn, q)] nWs r = [(nLine, p), (nIn, q), (nWs, r)] := by kernel_rfl
theorem put3 (p q r t : PV) : kvPut [(nLine, p), (nIn, q), (nWs, r)] nPb t = [(nLine, p), (nIn, q), (nWs, r), (nPb, t)] := by kernel_rfl
theorem put4 (p q r t u : PV) : kvPut [(nLine, p), (nIn, q), (nWs, r), (nPb, t)] nRd u = [(nLine, p), (nIn, q), (nWs, r), (nPb, t), (nRd, u)] := by kernel_rfl
theorem putL' (p q r t u : PV) : kvPut [(nLine, p), (nIn, q), (nWs, r), (nPb, t)] nLine u = [(nLine, u), (nIn, q), (nWs, r), (nPb, t)] := by kernel_rfl
theorem getL1 (p : PV) (l : List (Str × PV)) : kvGet ((nLine, p) :: l) nLine = some p := by kernel_rfl
theorem getL2 (p q : PV) (l : List (Str × PV)) : kvGet ((nLine, p) :: (nIn, q) :: l) nIn = some q := by kernel_rfl
theorem getL3 (p q r : PV) (l : List (Str × PV)) : kvGet ((nLine, p) :: (nIn, q) :: (nWs, r) :: l) nWs = some r := by kernel_rfl
theorem getL4 (p q r t : PV) (l : List (Str × PV)) : kvGet ((nLine, p) :: (nIn, q) :: (nWs, r) :: (nPb, t) :: l) nPb = some t := by kernel_rfl
theorem getL5 (p q r t u : PV) : kvGet [(nLine, p), (nIn, q), (nWs, r), (nPb, t), (nRd, u)] nRd = some u := by kernel_rfl
theorem sl0 : (0 : Nat) ≤ sizeLine := Nat.zero_le _
theorem X6 {K : Frag} {name : Str} {st l : List AO} {C : Addr} {kvs kvs' : List (Str × PV)} {q : PV} (hs : setOk K C name = true) (hk : kvPut kvs name q = kvs') (hz : kvs.length ≤ 900 := by exact Nat.le_of_ble_eq_true rfl) : setA K name (.ref st.length) q (st ++ .inst C kvs :: l) = some ((), st ++ .inst C kvs' :: l) := by
  rw [setA_of (Y1 _ _) hs hz, hk, set_app0]; rfl
noncomputable def init310R (w : World) : List PV → SM PV := runK (2 + 0) [] [some 0, some 1] [] (Ql w).1
theorem k_make310 (w : World) : OpL (C2 w) 3 (fun vs => call (.ref 310) vs) (makeG 310 (init310R w)) := op_make (C := 310) (fI := 286) (by kernel_rfl) (by kernel_rfl) (by kernel_rfl) (r_init310 w)
theorem make310_run (w : World) (p : PV) (st : List AO) : makeG 310 (init310R w) [p] st = some (.ref st.length, st ++ [.inst 310 (kv76 1 p (st.length + 1)), .list []]) := by
  let E (l : List AO) : ES := ⟨[some (.ref st.length), some p], [], st ++ l⟩
  have run : (Ql w).1 (E [.inst 310 []]) = some (.next, E [.inst 310 (kv76 1 p (st.length + 1)), .list []]) := by
    simp only [Ql]
    refine e_seq (es₁ := E [.inst 310 [(nLine, .int 1)]]) (e_asg (p := .int 1) (es₁ := E [.inst 310 []]) rfl (e_lift (p := .ref st.length) (es₁ := E [.inst 310 []]) rfl (X6 (so_line w) rfl))) ?_
    refine e_seq (es₁ := E [.inst 310 [(nLine, .int 1), (nIn, p)]]) (e_asg (p := p) (es₁ := E [.inst 310 [(nLine, .int 1)]]) rfl (e_lift (p := .ref st.length) (es₁ := E [.inst 310 [(nLine, .int 1)]]) rfl (X6 (so_in w) (put1 _ _)))) ?_
    refine e_seq (es₁ := E [.inst 310 [(nLine, .int 1), (nIn, p), (nWs, .str wsS)]]) (e_asg (p := .str wsS) (es₁ := E [.inst 310 [(nLine, .int 1), (nIn, p)]]) rfl (e_lift (p := .ref st.length) (es₁ := E [.inst 310 [(nLine, .int 1), (nIn, p)]]) rfl (X6 (so_ws w) (put2 _ _ _)))) ?_
    refine e_seq (es₁ := E [.inst 310 (kv76 1 p (st.length + 1)), .list []]) (e_asg (p := .ref (st.length + 1)) (es₁ := E [.inst 310 [(nLine, .int 1), (nIn, p), (nWs, .str wsS)], .list []]) ?_ (e_lift (p := .ref st.length) (es₁ := E [.inst 310 [(nLine, .int 1), (nIn, p), (nWs, .str wsS)], .list []]) rfl (X6 (so_pb w) (put3 _ _ _ _)))) rfl
    rw [new0]
    show some (PV.ref (st ++ [_]).length, (⟨_, _, (st ++ [_]) ++ [_]⟩ : ES)) = _
    rw [List.length_append, List.append_assoc]; rfl
  exact make_of (show init310R w [.ref st.length, p] (st ++ [.inst 310 []]) = some (.none, _) from Z3 run)
theorem code_lexer (w : World) : CodeAt (C2 w).K 320 316 := ⟨⟨_, _, _, _, _, _, _, _, _, rfl, rfl, rfl, rfl, rfl, rfl, rfl, rfl⟩, by decide⟩
theorem pm_lexer (w : World) : nsIn (C2 w).K mainGlobals "__name__" = some (some (sv "law_tc0040_03" 711)) := by kernel_rfl
theorem blt_lexer (w : World) : ∀ M h, (C2 w).K.In h → Looks M h (builtinsFor mainGlobals builtinsNs) builtinsNs := fun M h X => Looks.of_peek X (by kernel_rfl)
noncomputable abbrev ln_read : List Str := [Str.ofString "self", Str.ofString "ch"]
noncomputable abbrev cn_read : List (Str × Nat) := []
theorem loc_read : ∀ x ∈ ln_read, (defS (at2 P2 12 1)).names.lookup x = some .local := by decide +kernel
theorem nd_read : ln_read.Nodup := by decide +kernel
noncomputable def b_read : { b : List Stmt // defB (at2 P2 12 1) = b } := ⟨[_, _, _], rfl⟩
noncomputable def s_read (w : World) : { F : FM PF // ∀ L, Den (C2 w) 2 (FI.fn fd293 293 ln_read cn_read L) RFl (execs (defB (at2 P2 12 1)) (callEnvC fd293 L 293)) F } := ⟨_, fun L => by
  have ok : FI.Ok (FI.fn fd293 293 ln_read cn_read L) := ok_fn (fd := fd293) rfl rfl rfl loc_read nd_read
  rw [b_read.2]
  exact (Zc (Zj (den_method_own (Y2 (Za (i := 0) ok rfl)) (C := 310) (by kernel_rfl) (Zb Zp Zd) (k_piece w)) (Zf (i := 1) ok rfl)) (Zc (den_if (Zn (Za (i := 1) ok rfl) Zy op_eqS) (Zc (den_aug_attr (Za (i := 0) ok rfl) Zp op_iaddG) Zg) Zg) (Zc (Zq (Za (i := 1) ok rfl)) Zg)))⟩
theorem x_read (w : World) : DefK (C2 w).K 293 fd293 (defB (at2 P2 12 1)) [Str.ofString "self"] ln_read cn_read := ⟨⟨⟨_, _, _, rfl⟩, by kernel_rfl, rfl, rfl, rfl, rfl⟩, rfl, fun L => rfl, by decide +kernel, by decide +kernel, by decide +kernel, loc_read, by decide +kernel⟩
theorem r_read (w : World) : FunK (C2 w) 3 (.ref 293) 1 [] (runK (1 + 0) [] [some 0, none] [] (s_read w).1) := Yh (x_read w) (dvs := []) (fun _ _ => .nil) rfl (by decide +kernel) (by decide +kernel) (fun s vs ws h1 h2 X => by
  obtain ⟨v0, rfl⟩ := ln1 h1
  obtain rfl := ln0 h2
  exact BindsTo.of_eq (by kernel_rfl)) (s_read w).2
noncomputable abbrev ln_lexer : List Str := [Str.ofString "stream", Str.ofString "_law_piece", Str.ofString "lexer"]
noncomputable abbrev cn_lexer : List (Str × Nat) := [(Str.ofString "gone", 2), (Str.ofString "text", 1)]
theorem loc_lexer : ∀ x ∈ ln_lexer, (defS (at1 P2 14)).names.lookup x = some .local := by decide +kernel
theorem nd_lexer : ln_lexer.Nodup := by decide +kernel
noncomputable def b_lexer : { b : List Stmt // defB (at1 P2 14) = b } := ⟨[_, _, _, _, _, _, _], rfl⟩
noncomputable def s_lexer (w : World) : { F : Addr → FM PF // ∀ L, Den (C2 w) 3 (FI.fn fd321 321 ln_lexer cn_lexer L) RFl (execs (defB (at1 P2 14)) (callEnvC fd321 L 321)) (F L) } := ⟨_, fun L => by
  have ok : FI.Ok (FI.fn fd321 321 ln_lexer cn_lexer L) := ok_fn (fd := fd321) rfl rfl rfl loc_lexer nd_lexer
  rw [b_lexer.2]
  exact (Zc (Zj (Zs (Z8 ok (by kernel_rfl) (gn__netrclex w)) (Zk (a := 310) (by kernel_rfl)) (Zb den_none Zd) ((k_make310 w).weak (by decide))) (Zf (i := 0) ok rfl)) (Zc (Zj (Yi Zd) (X3 (i := 0) ok rfl (by kernel_rfl) (by kernel_rfl))) (Zc (den_fundef (q := qP) (j := 1) (it := 0) (P := 316) (cc := 320) (cl := (cnAt cn_lexer L).reverse) ok rfl rfl rfl rfl rfl (by kernel_rfl) (by kernel_rfl) rfl rfl (code_lexer w) (pm_lexer w) (blt_lexer w) rfl) (Zc (Zj (Za (i := 1) ok rfl) (Xq (Za (i := 0) ok rfl))) (Zc (Zj (Zs (Z8 ok (by kernel_rfl) (gn__netrclex w)) (Zk (a := 310) (by kernel_rfl)) (Zb (Za (i := 0) ok rfl) Zd) ((k_make310 w).weak (by decide))) (Zf (i := 2) ok rfl)) (Zc (Zj Zy (Xq (Za (i := 2) ok rfl))) (Zc (Zq (Za (i := 2) ok rfl)) Zg)))))))⟩
noncomputable abbrev wsQ : Str := Str.ofString "\n\t\r ="
noncomputable abbrev kvW (n : Int) (p : PV) (ws : Str) (j : Nat) : List (Str × PV) := [(nLine, .int n), (nIn, p), (nWs, .str ws), (nPb, .ref j)]
noncomputable def goneL (text : Str) (p : Nat) : List PV := (text.cps.toList.take p).map fun u => .str ⟨#[u]⟩
structure Lex (st : List AO) (i k j r g : Nat) (n : Int) (j2 : Nat) (text : Str) (p : Nat) (xs : List PV) : Prop where
  lx : st[i]? = some (.inst 310 (kvW n (.ref k) wsQ j))
  sm : st[k]? = some (.inst 310 [(nLine, .int 1), (nIn, .none), (nWs, .str wsS), (nPb, .ref j2), (nRd, .ref r)])
  rd : st[r]? = some (.clo tmP cnP [some (.str text), some (.ref g)])
  gn : st[g]? = some (.list (goneL text p))
  pb : st[j]? = some (.list xs)
  jg : j ≠ g
  ha : text.cps.all (· < 128) = true
  hz : text.cps.size ≤ 1000
noncomputable def readR (w : World) : List PV → SM PV := runK (1 + 0) [] [some 0, none] [] (s_read w).1
theorem k_read (w : World) : FunK (C2 w) 3 (.ref 293) 1 [] (readR w) := r_read w
theorem ao_in (w : World) : attrOk (kFrag w.params) 310 nIn = true := by kernel_rfl
theorem ao_line (w : World) : attrOk (kFrag w.params) 310 nLine = true := by kernel_rfl
theorem ao_ws (w : World) : attrOk (kFrag w.params) 310 nWs = true := by kernel_rfl
theorem ao_pb (w : World) : attrOk (kFrag w.params) 310 nPb = true := by kernel_rfl
section
variable {st : List AO} {i k j r g : Nat} {n : Int} {j2 : Nat} {text : Str} {p : Nat} {xs : List PV}
theorem Lex.i_ne (L : Lex st i k j r g n j2 text p xs) : P7 (i ≠ g) (k ≠ g) (r ≠ g) (i ≠ j) (i ≠ k) (i ≠ r) True := by
  refine ⟨?_, ?_, ?_, ?_, ?_, ?_, trivial⟩ <;> rintro rfl
  · exact nomatch L.lx.symm.trans L.gn
  · exact nomatch L.sm.symm.trans L.gn
  · exact nomatch L.rd.symm.trans L.gn
  · exact nomatch L.lx.symm.trans L.pb
  · have := (L.lx.symm.trans L.sm)
    have h := (AO.inst.inj (Option.some.inj this)).2
    have := congrArg List.length h
    exact nomatch this
  · exact nomatch L.lx.symm.trans L.rd
theorem lt_of {x : AO} (h : st[i]? = some x) : i < st.length := (List.getElem?_eq_some_iff.mp h).1
theorem Y7 {x : AO} (h : st[i]? = some x) : st.set i x = st := by
  apply List.ext_getElem?
  intro q
  by_cases hq : i = q
  · subst hq; rw [List.getElem?_set_self (lt_of h), h]
  · rw [List.getElem?_set_ne hq]
noncomputable def atQ (st : List AO) (i k j g : Nat) (text : Str) (n : Int) (p : Nat) : List AO := (st.set i (.inst 310 (kvW n (.ref k) wsQ j))).set g (.list (goneL text p))
theorem Lex.at_same (L : Lex st i k j r g n j2 text p xs) : atQ st i k j g text n p = st := by
  unfold atQ; rw [Y7 L.lx, Y7 L.gn]
theorem Lex.go (L : Lex st i k j r g n j2 text p xs) (n' : Int) (p' : Nat) (l : List AO) : Lex (atQ st i k j g text n' p' ++ l) i k j r g n' j2 text p' xs := by
  obtain ⟨h1, h2, h3, h4, h5, h6, _⟩ := L.i_ne
  have key : ∀ {q : Nat} {x : AO}, st[q]? = some x → q ≠ g → q ≠ i → (atQ st i k j g text n' p' ++ l)[q]? = some x := fun h a b => by
    unfold atQ
    rw [List.getElem?_append_left (by rw [List.length_set, List.length_set]; exact lt_of h), List.getElem?_set_ne (Ne.symm a), List.getElem?_set_ne (Ne.symm b)]; exact h
  refine ⟨?_, key L.sm h2 (Ne.symm h5), key L.rd h3 (Ne.symm h6), ?_, key L.pb L.jg (Ne.symm h4), L.jg, L.ha, L.hz⟩
  · unfold atQ
    rw [List.getElem?_append_left (by rw [List.length_set, List.length_set]; exact lt_of L.lx), List.getElem?_set_ne (Ne.symm h1), List.getElem?_set_self (lt_of L.lx)]
  · unfold atQ
    rw [List.getElem?_append_left (by rw [List.length_set, List.length_set]; exact lt_of L.gn), List.getElem?_set_self (by rw [List.length_set]; exact lt_of L.gn)]
theorem Lex.at_at (L : Lex st i k j r g n j2 text p xs) (n' n'' : Int) (p' p'' : Nat) (l : List AO) : atQ (atQ st i k j g text n' p' ++ l) i k j g text n'' p'' = atQ st i k j g text n'' p'' ++ l := by
  obtain ⟨h1, _⟩ := L.i_ne
  unfold atQ
  have e1 : i < ((st.set i (.inst 310 (kvW n' (.ref k) wsQ j))).set g (.list (goneL text p'))).length := by rw [List.length_set, List.length_set]; exact lt_of L.lx
  rw [List.set_append_left _ _ e1, List.set_append_left _ _ (by rw [List.length_set, List.length_set, List.length_set]; exact lt_of L.gn), List.set_comm _ _ (Ne.symm h1), List.set_set, List.set_set]
theorem goneL_len (h : p ≤ text.cps.size) : (goneL text p).length = p := by
  unfold goneL; rw [List.length_map, List.length_take, Array.length_toList]; exact Nat.min_eq_left h
theorem goneL_succ {u : Nat} (h : text.cps[p]? = some u) : goneL text p ++ Yo ⟨#[u]⟩ = goneL text (p + 1) := by
  unfold goneL
  rw [List.take_add_one, List.map_append, Array.getElem?_toList, h]
  rfl
theorem piece_some {q u : Nat} (h : text.cps[q]? = some u) : Z2 text q = ⟨#[u]⟩ := by unfold Z2; rw [h]
theorem piece_none {q : Nat} (h : text.cps[q]? = none) : Z2 text q = Str.ofString "" := by unfold Z2; rw [h]; rfl
theorem nl_of {u : Nat} (h : u = 10) : ((⟨#[u]⟩ : Str) == Str.ofString "\n") = true := by subst h; decide +kernel
theorem nl_not {u : Nat} (h : u ≠ 10) : ((⟨#[u]⟩ : Str) == Str.ofString "\n") = false := by
  rw [beq_eq_false_iff_ne]
  intro e
  have e2 : (⟨#[u]⟩ : Str).cps = (Str.ofString "\n").cps := congrArg Str.cps e
  have e3 : (Str.ofString "\n").cps = #[10] := by decide +kernel
  rw [e3] at e2
  exact h (by simpa using e2)
theorem read_own (w : World) (L : Lex st i k j r g n j2 text p xs) {y : PV} {st' : List AO} (hpc : pieceG (.ref r) [.int 1] st = some (y, st')) {o : Option PV} :
    (bindE (bindE (getL 0) fun p => liftS (getA (kFrag w.params) (Str.ofString "instream") p)) fun p => bindE (fun es => Option.map (fun q => (q, es)) (ownClo (kFrag w.params) 310 (Str.ofString "read") p es.st)) fun q => bindE (consE (pureE (PV.int 1)) (pureE [])) fun ps => guardE (isClo q) (liftS (pieceG q ps))) ⟨[some (.ref i), o], [], st⟩ = some (y, ⟨[some (.ref i), o], [], st'⟩) := by
  let E : ES := ⟨[some (.ref i), o], [], st⟩
  refine e_bind (y := .ref k) (es₁ := E) (p_lift (p := .ref i) rfl (Qe (Xg L.lx) (ao_in w) (getL2 _ _ _))) (e_bind (y := .ref r) (es₁ := E) ?_ (e_bind (y := [.int 1]) (es₁ := E) (p_cons rfl rfl) (Z4 (Yt ⟨_, _, _, _, rfl, L.rd⟩) (Ye hpc))))
  show Option.map _ (ownClo _ _ _ _ st) = _
  rw [ownClo_of (Xg L.sm) (getL5 _ _ _ _ _)]; rfl
theorem read_run (w : World) (L : Lex st i k j r g n j2 text p xs) {u : Nat} (hu : text.cps[p]? = some u) :
    readR w [.ref i] st = some (.str ⟨#[u]⟩, atQ st i k j g text (if u = 10 then n + 1 else n) (p + 1)) := by
  obtain ⟨h1, h2, h3, h4, h5, h6, _⟩ := L.i_ne
  have hp : p < text.cps.size := (Array.getElem?_eq_some_iff.mp hu).1
  have hl := goneL_len (text := text) (Nat.le_of_lt hp)
  have hpc : pieceG (.ref r) [.int 1] st = some (.str ⟨#[u]⟩, st.set g (.list (goneL text (p + 1)))) := by
    have := piece_of L.rd L.ha L.hz L.gn (by rw [hl]; exact Nat.le_trans (Nat.le_of_lt hp) (Nat.le_trans L.hz (by decide)))
    rwa [hl, piece_some hu, goneL_succ hu] at this
  let E (o : Option PV) (S : List AO) : ES := ⟨[some (.ref i), o], [], S⟩
  let S1 := st.set g (.list (goneL text (p + 1)))
  have hS1 : S1[i]? = some (.inst 310 (kvW n (.ref k) wsQ j)) := by rw [List.getElem?_set_ne (Ne.symm h1)]; exact L.lx
  have r1 : (s_read w).1 (E none st) = some (.ret (.str ⟨#[u]⟩), E (some (.str ⟨#[u]⟩)) (atQ st i k j g text (if u = 10 then n + 1 else n) (p + 1))) := by
    simp only [s_read]
    refine e_seq (es₁ := E (some (.str ⟨#[u]⟩)) S1) (e_asg (p := .str ⟨#[u]⟩) (es₁ := E none S1) ?_ rfl) ?_
    · exact read_own w L hpc
    refine e_seq (es₁ := E (some (.str ⟨#[u]⟩)) (atQ st i k j g text (if u = 10 then n + 1 else n) (p + 1))) ?_ rfl
    by_cases h : u = 10
    · rw [if_pos h]
      refine e_ite (t := true) (es₁ := E (some (.str ⟨#[u]⟩)) S1) (p_lift (p := .bool true) (p_bin (p := .str ⟨#[u]⟩) (q := .str (Str.ofString "\n")) rfl rfl (by show some (PV.bool _, _) = _; rw [nl_of h])) rfl) ?_
      refine e_seq (es₁ := E (some (.str ⟨#[u]⟩)) (atQ st i k j g text (n + 1) (p + 1))) ?_ rfl
      refine e_bind (y := .ref i) (es₁ := E (some (.str ⟨#[u]⟩)) S1) rfl ?_
      refine e_bind (y := .int n) (es₁ := E (some (.str ⟨#[u]⟩)) S1) (Ye (Qe (Xg hS1) (ao_line w) (getL1 _ _))) ?_
      refine e_bind (y := .int 1) (es₁ := E (some (.str ⟨#[u]⟩)) S1) rfl ?_
      refine e_bind (y := .int (n + 1)) (es₁ := E (some (.str ⟨#[u]⟩)) S1) rfl ?_
      refine e_bind (y := ()) (es₁ := E (some (.str ⟨#[u]⟩)) (atQ st i k j g text (n + 1) (p + 1))) ?_ rfl
      have := setA_of (q := .int (n + 1)) hS1 (so_line w) (by show 4 ≤ 900; decide)
      rw [putL'] at this
      refine (Ye this).trans ?_
      unfold atQ
      rw [List.set_comm _ _ h1]
    · rw [if_neg h]
      refine e_ite (t := false) (es₁ := E (some (.str ⟨#[u]⟩)) S1) (p_lift (p := .bool false) (p_bin (p := .str ⟨#[u]⟩) (q := .str (Str.ofString "\n")) rfl rfl (by show some (PV.bool _, _) = _; rw [nl_not h])) rfl) ?_
      unfold atQ
      rw [Y7 L.lx]
      rfl
  exact Z3 r1
end
noncomputable abbrev ln_token : List Str := [Str.ofString "self", Str.ofString "token", Str.ofString "fiter", Str.ofString "ch"]
noncomputable abbrev cn_token : List (Str × Nat) := []
theorem loc_token : ∀ x ∈ ln_token, (defS (at2 P2 12 2)).names.lookup x = some .local := by decide +kernel
theorem nd_token : ln_token.Nodup := by decide +kernel
noncomputable def b_token : { b : List Stmt // defB (at2 P2 12 2) = b } := ⟨[_, _, _, _, _], rfl⟩
noncomputable def Qu (w : World) : { F : FM PF // ∀ L, Den (C2 w) 4 (FI.fn fd300 300 ln_token cn_token L) RFl (execs (defB (at2 P2 12 2)) (callEnvC fd300 L 300)) F } := ⟨_, fun L => by
  have ok : FI.Ok (FI.fn fd300 300 ln_token cn_token L) := ok_fn (fd := fd300) rfl rfl rfl loc_token nd_token
  rw [b_token.2]
  exact (Zc (den_if (Xj (Y2 (Za (i := 0) ok rfl))) (Zc (Zq (Zi (Y2 (Za (i := 0) ok rfl)) (Yy F.slot_list_pop F.type_list_pop) Zh (Zb Zp Zd) op_pop)) Zg) Zg) (Zc (Zj Zy (Zf (i := 1) ok rfl)) (Zc (Zj (Zs (Zm ok (by kernel_rfl) (gn_iter w) (bn_iter w)) Zh (Zb (den_attr_meth (Za (i := 0) ok rfl) (C := 310) (fa := 293) (by kernel_rfl)) (Zb Zy Zd)) op_iter) (Zf (i := 2) ok rfl)) (Zc (Q1 (N := 20) (Za (i := 2) ok rfl) (op_nextC (fn_read w) ((k_read w).weak (by decide))) (Zf (i := 3) ok rfl) (Zc (den_if (Zn (Za (i := 3) ok rfl) (Y2 (Za (i := 0) ok rfl)) op_inS) (Zc den_continue Zg) Zg) (Zc (den_if (Zn (Za (i := 3) ok rfl) Zy op_eqS) (Zc (Q1 (N := 20) (Za (i := 2) ok rfl) (op_nextC (fn_read w) ((k_read w).weak (by decide))) (Zf (i := 3) ok rfl) (Zc (den_if (Zn (Za (i := 3) ok rfl) Zy op_eqS) (Zc (Zq (Za (i := 1) ok rfl)) Zg) (Zc (den_if (Zn (Za (i := 3) ok rfl) Zy op_eqS) (Zc (Zj (Zi (Za (i := 0) ok rfl) (Zw (C := 310) (fa := 293) (by kernel_rfl)) (Zk (a := 293) (by kernel_rfl)) Zd ((k_read w).ok.weak (by decide))) (Zf (i := 3) ok rfl)) Zg) Zg) Zg)) (Zc (Qj (i := 1) ok rfl (Za (i := 3) ok rfl) op_iaddG) Zg))) Zg) (Zc (den_if (Zn (Za (i := 3) ok rfl) Zy op_eqS) (Zc (Zj (Zi (Za (i := 0) ok rfl) (Zw (C := 310) (fa := 293) (by kernel_rfl)) (Zk (a := 293) (by kernel_rfl)) Zd ((k_read w).ok.weak (by decide))) (Zf (i := 3) ok rfl)) Zg) Zg) (Zc (Qj (i := 1) ok rfl (Za (i := 3) ok rfl) op_iaddG) (Zc (Q1 (N := 20) (Za (i := 2) ok rfl) (op_nextC (fn_read w) ((k_read w).weak (by decide))) (Zf (i := 3) ok rfl) (Zc (den_if (Zn (Za (i := 3) ok rfl) (Y2 (Za (i := 0) ok rfl)) op_inS) (Zc (Zq (Za (i := 1) ok rfl)) Zg) (Zc (den_if (Zn (Za (i := 3) ok rfl) Zy op_eqS) (Zc (Zj (Zi (Za (i := 0) ok rfl) (Zw (C := 310) (fa := 293) (by kernel_rfl)) (Zk (a := 293) (by kernel_rfl)) Zd ((k_read w).ok.weak (by decide))) (Zf (i := 3) ok rfl)) Zg) Zg) Zg)) (Zc (Qj (i := 1) ok rfl (Za (i := 3) ok rfl) op_iaddG) Zg))) Zg)))) Zg))) (Zc (Zq (Za (i := 1) ok rfl)) Zg)))))⟩
theorem x_token (w : World) : DefK (C2 w).K 300 fd300 (defB (at2 P2 12 2)) [Str.ofString "self"] ln_token cn_token := ⟨⟨⟨_, _, _, rfl⟩, by kernel_rfl, rfl, rfl, rfl, rfl⟩, rfl, fun L => rfl, by decide +kernel, by decide +kernel, by decide +kernel, loc_token, by decide +kernel⟩
theorem r_token (w : World) : FunK (C2 w) 5 (.ref 300) 1 [] (runK (1 + 0) [] [some 0, none, none, none] [] (Qu w).1) := Yh (x_token w) (dvs := []) (fun _ _ => .nil) rfl (by decide +kernel) (by decide +kernel) (fun s vs ws h1 h2 X => by
  obtain ⟨v0, rfl⟩ := ln1 h1
  obtain rfl := ln0 h2
  exact BindsTo.of_eq (by kernel_rfl)) (Qu w).2
noncomputable def tokenR (w : World) : List PV → SM PV := runK (1 + 0) [] [some 0, none, none, none] [] (Qu w).1
theorem Jq (w : World) : FunK (C2 w) 5 (.ref 300) 1 [] (tokenR w) := r_token w
section
variable {st : List AO} {i k j r g : Nat} {n : Int} {j2 : Nat} {text : Str} {p : Nat} {xs : List PV}
theorem read_end (w : World) (L : Lex st i k j r g n j2 text p xs) (hp : p = text.cps.size) : readR w [.ref i] st = some (.str (Str.ofString ""), st) := by
  obtain ⟨h1, h2, h3, h4, h5, h6, _⟩ := L.i_ne
  have hu : text.cps[p]? = none := Array.getElem?_eq_none (Nat.le_of_eq hp.symm)
  have hl := goneL_len (text := text) (p := p) (Nat.le_of_eq hp)
  have hpc : pieceG (.ref r) [.int 1] st = some (.str (Str.ofString ""), st) := by
    have := piece_of L.rd L.ha L.hz L.gn (by rw [hl]; exact hp ▸ Nat.le_trans L.hz (by decide))
    rwa [hl, piece_none hu, show Yo (Str.ofString "") = [] by kernel_rfl, List.append_nil, Y7 L.gn] at this
  let E (o : Option PV) (S : List AO) : ES := ⟨[some (.ref i), o], [], S⟩
  have r1 : (s_read w).1 (E none st) = some (.ret (.str (Str.ofString "")), E (some (.str (Str.ofString ""))) st) := by
    simp only [s_read]
    refine e_seq (es₁ := E (some (.str (Str.ofString ""))) st) (e_asg (p := .str (Str.ofString "")) (es₁ := E none st) ?_ rfl) ?_
    · exact read_own w L hpc
    refine e_seq (es₁ := E (some (.str (Str.ofString ""))) st) ?_ rfl
    refine e_ite (t := false) (es₁ := E (some (.str (Str.ofString ""))) st) (p_lift (p := .bool false) (p_bin (p := .str (Str.ofString "")) (q := .str (Str.ofString "\n")) rfl rfl (by show some (PV.bool _, _) = _; rw [show (Str.ofString "" == Str.ofString "\n") = false by decide +kernel])) rfl) rfl
  exact Z3 r1
theorem Lex.app (L : Lex st i k j r g n j2 text p xs) (l : List AO) : Lex (st ++ l) i k j r g n j2 text p xs := by
  have := L.go n p l
  rwa [L.at_same] at this
end
theorem J7 (w : World) {st : List AO} {i j : Nat} {n : Int} {p : PV} {ws : Str} {x : PV} {xs : List PV} (h1 : st[i]? = some (.inst 310 (kvW n p ws j))) (h2 : st[j]? = some (.list (x :: xs))) (hz : xs.length + 1 ≤ sizeLine) :
    tokenR w [.ref i] st = some (x, st.set j (.list xs)) := by
  let E (S : List AO) : ES := ⟨[some (.ref i), none, none, none], [], S⟩
  have hg : (bindE (getL 0) fun p => liftS (getA (kFrag w.params) (Str.ofString "pushback") p)) (E st) = some (.ref j, E st) := p_lift (p := .ref i) rfl (Qe (Xg h1) (ao_pb w) (getL4 _ _ _ _ _))
  have ht : truthG (.ref j) st = some (true, st) := by
    show (match st[j]? with | some (.list xs) => if xs.length ≤ sizeLine then some (!xs.isEmpty, st) else none | _ => none) = _
    rw [h2]
    exact if_pos hz
  have run : (Qu w).1 (E st) = some (.ret x, E (st.set j (.list xs))) := by
    simp only [Qu]
    exact e_stop (e_ite (t := true) (p_lift hg ht) (e_stop (e_bind (y := x) (es₁ := E (st.set j (.list xs))) (e_meth (ps := [.int 0]) (es₂ := E st) hg (Xc h2) (p_cons rfl rfl) (pop_of h2 hz)) rfl)))
  exact Z3 run
structure Cur (w : World) (i q : Nat) (text : Str) (X : Int → Nat → List AO) : Prop where
  rd : ∀ n p u, text.cps[p]? = some u → readR w [.ref i] (X n p) = some (.str ⟨#[u]⟩, X (if u = 10 then n + 1 else n) (p + 1))
  nx : ∀ n p u, text.cps[p]? = some u → nextC 293 (readR w) (.ref q) (X n p) = some (some (.str ⟨#[u]⟩), X (if u = 10 then n + 1 else n) (p + 1))
  ws : ∀ n p, getA (kFrag w.params) (Str.ofString "whitespace") (.ref i) (X n p) = some (.str wsQ, X n p)
  ci : ∀ n p, isCiter (X n p) (.ref q) = true
  ii : ∀ n p, isInst 310 (Str.ofString "_read_char") (.ref i) (X n p) = true
theorem get_rc (n : Int) (p : PV) (ws : Str) (j : Nat) : kvGet (kvW n p ws j) (Str.ofString "_read_char") = none := by kernel_rfl
theorem getA_pb (w : World) {st : List AO} {i j : Nat} {n : Int} {p : PV} {ws : Str} (h1 : st[i]? = some (.inst 310 (kvW n p ws j))) : getA (kFrag w.params) (Str.ofString "pushback") (.ref i) st = some (.ref j, st) := Qe (Xg h1) (ao_pb w) (getL4 _ _ _ _ _)
theorem getA_ws (w : World) {st : List AO} {i j : Nat} {n : Int} {p : PV} {ws : Str} (h1 : st[i]? = some (.inst 310 (kvW n p ws j))) : getA (kFrag w.params) (Str.ofString "whitespace") (.ref i) st = some (.str ws, st) := Qe (Xg h1) (ao_ws w) (getL3 _ _ _ _)
theorem beq_em (u : Nat) : (Str.ofString "" == (⟨#[u]⟩ : Str)) = false := by
  rw [beq_eq_false_iff_ne]
  intro e
  have e2 : (Str.ofString "").cps = (⟨#[u]⟩ : Str).cps := congrArg Str.cps e
  have := congrArg Array.size e2
  rw [show (Str.ofString "").cps.size = 0 by decide +kernel] at this
  exact nomatch this
section
variable {st : List AO} {i k j r g : Nat} {n : Int} {j2 : Nat} {text : Str} {p : Nat} {xs : List PV}
noncomputable abbrev mAO (i : Nat) : AO := .meth (.ref 293) (.ref i)
noncomputable abbrev cAO (l : Nat) : AO := .citer (.ref l) (.str (Str.ofString ""))
theorem atQ_len (st : List AO) (i k j g : Nat) (text : Str) (n : Int) (p : Nat) : (atQ st i k j g text n p).length = st.length := by unfold atQ; rw [List.length_set, List.length_set]
theorem Lex.cur (w : World) (L : Lex st i k j r g n j2 text p xs) : Cur w i (st.length + 1) text fun n' p' => atQ st i k j g text n' p' ++ [mAO i, cAO st.length] := by
  have hm : ∀ n' p', (atQ st i k j g text n' p' ++ [mAO i, cAO st.length])[st.length]? = some (mAO i) := fun n' p' => by
    have := Xh (atQ st i k j g text n' p') [mAO i, cAO st.length] 0
    rwa [atQ_len] at this
  have hq : ∀ n' p', (atQ st i k j g text n' p' ++ [mAO i, cAO st.length])[st.length + 1]? = some (cAO st.length) := fun n' p' => by
    have := Xh (atQ st i k j g text n' p') [mAO i, cAO st.length] 1
    rwa [atQ_len] at this
  have rd : ∀ n p u, text.cps[p]? = some u → readR w [.ref i] (atQ st i k j g text n p ++ [mAO i, cAO st.length]) = some (.str ⟨#[u]⟩, atQ st i k j g text (if u = 10 then n + 1 else n) (p + 1) ++ [mAO i, cAO st.length]) := fun n' p' u hu => by
    rw [read_run w (L.go n' p' _) hu, L.at_at]
  refine ⟨rd, fun n' p' u hu => ?_, fun n' p' => getA_ws w (L.go n' p' _).lx, fun n' p' => ?_, fun n' p' => Yg (L.go n' p' _).lx (get_rc _ _ _ _)⟩
  · have h := rd n' p' u hu
    exact nextC_of (hq _ _) (hm _ _) h (hq _ _) (hm _ _) (by rw [beq_em]; rfl)
  · exact Yt ⟨_, _, _, rfl, hq _ _⟩
end
noncomputable abbrev one (u : Nat) : Str := ⟨#[u]⟩
noncomputable def isWs (u : Nat) : Bool := u == 10 || u == 9 || u == 13 || u == 32 || u == 61
noncomputable def At (text : Str) : Nat → List Nat → Prop
  | _, [] => True
  | p, u :: l => text.cps[p]? = some u ∧ At text (p + 1) l
theorem inS_one {u : Nat} (h : u < 128) (st : List AO) : inS (.str (one u)) (.str wsQ) st = some (.bool (isWs u), st) := by
  have : ∀ u : Fin 128, (!(Builtin.Str.occurrences wsQ (one u.val) 0 wsQ.length 1).isEmpty) = isWs u.val := by decide +kernel
  show some (PV.bool (!(Builtin.Str.occurrences wsQ (one u) 0 wsQ.length 1).isEmpty), st) = _
  rw [this ⟨u, h⟩]
theorem one_eq (u v : Nat) : ((one u : Str) == one v) = (u == v) := by
  rw [Bool.eq_iff_iff, beq_iff_eq, beq_iff_eq]
  constructor
  · intro e
    have e2 : (#[u] : Array Nat) = #[v] := congrArg Str.cps e
    simpa using e2
  · rintro rfl; rfl
theorem eqS_q (u : Nat) (st : List AO) : eqS (.str (one u)) (.str (Str.ofString "\"")) st = some (.bool (u == 34), st) := by
  show some (PV.bool (one u == Str.ofString "\""), st) = _
  rw [show Str.ofString "\"" = one 34 by decide +kernel, one_eq]
theorem eqS_b (u : Nat) (st : List AO) : eqS (.str (one u)) (.str (Str.ofString "\\")) st = some (.bool (u == 92), st) := by
  show some (PV.bool (one u == Str.ofString "\\"), st) = _
  rw [show Str.ofString "\\" = one 92 by decide +kernel, one_eq]
theorem aug_str {t : Str} (u : Nat) (st : List AO) (h : t.length ≤ 1000) : iaddG (.str t) (.str (one u)) st = some (.str (t ++ one u), st) := by
  show (if t.length + (one u).length ≤ sizeLine then some (PV.str (t ++ one u), st) else none) = _
  rw [if_pos (by rw [sizeLine_eq]; show t.length + 1 ≤ _; omega)]
noncomputable abbrev E4 (i : Nat) (t q c : Option PV) (S : List AO) : ES := ⟨[some (.ref i), t, q, c], [], S⟩
noncomputable abbrev sv1 (u : Nat) : Option PV := some (.str (one u))
noncomputable def nls : List Nat → Int
  | [] => 0
  | u :: l => (if u = 10 then 1 else 0) + nls l
theorem nls_cons (n : Int) (u : Nat) (l : List Nat) : (if u = 10 then n + 1 else n) + nls l = n + nls (u :: l) := by
  show _ = n + ((if u = 10 then 1 else 0) + nls l)
  split <;> omega
theorem Qb {n : Nat} {N : SM (Option PV)} {S : PV → FM Unit} {B : FM PF} {loc cel : List (Option PV)} {st st' : List AO} {x : PV} {es₁ es₂ : ES} {fl : PF} {r : Option (PF × ES)} (h1 : N st = some (some x, st')) (h2 : S x ⟨loc, cel, st'⟩ = some ((), es₁)) (h3 : B es₁ = some (fl, es₂)) (h4 : loopK (stepE n N S B) fl es₂ = r) :
    stepE (n + 1) N S B ⟨loc, cel, st⟩ = r := by
  show bindE (liftS N) _ _ = r
  exact e_bind (y := some x) (es₁ := ⟨loc, cel, st'⟩) (by unfold liftS; rw [h1]) (e_bind (y := ()) h2 (e_bind h3 h4))
theorem Qa (t : Str) (u : Nat) (l : List Nat) : t ++ one u ++ (⟨l.toArray⟩ : Str) = t ++ (⟨(u :: l).toArray⟩ : Str) := by
  have : (#[u] ++ l.toArray : Array Nat) = (u :: l).toArray := by simp
  show (⟨t.cps ++ #[u] ++ l.toArray⟩ : Str) = ⟨t.cps ++ (u :: l).toArray⟩
  rw [Array.append_assoc, this]
theorem Jc (t : Str) (u : Nat) : (t ++ one u).length = t.length + 1 := PySem.Str.length_append t (one u)
section
variable {w : World} {i q : Nat} {text : Str} {X : Int → Nat → List AO} {B : FM PF}
theorem loop_ws (C : Cur w i q text X) {t : Option PV} (hB : ∀ u n p, u < 128 → isWs u = true → B (E4 i t (some (.ref q)) (sv1 u) (X n p)) = some (.cont, E4 i t (some (.ref q)) (sv1 u) (X n p))) :
    ∀ (l : List Nat) (m : Nat) (n : Int) (p : Nat) (c : Option PV), At text p l → l.all isWs = true → ∃ c', stepE (m + l.length) (nextC 293 (readR w) (.ref q)) (setL 3) B (E4 i t (some (.ref q)) c (X n p)) = stepE m (nextC 293 (readR w) (.ref q)) (setL 3) B (E4 i t (some (.ref q)) c' (X (n + nls l) (p + l.length)))
  | [], m, n, p, c, _, _ => ⟨c, by rw [show n + nls [] = n from Int.add_zero n]; rfl⟩
  | u :: l, m, n, p, c, h, a => by
    rw [List.all_cons, Bool.and_eq_true] at a
    obtain ⟨c', e⟩ := loop_ws C hB l m (if u = 10 then n + 1 else n) (p + 1) (sv1 u) h.2 a.2
    refine ⟨c', Qb (C.nx n p u h.1) rfl (hB u _ _ ?_ a.1) (e.trans ?_)⟩
    · have := a.1; unfold isWs at this; simp at this; omega
    · rw [nls_cons n u l, Nat.add_right_comm p 1 l.length]; rfl
theorem loop_plain (C : Cur w i q text X)
    (hB : ∀ (t : Str) u n p, u < 128 → t.length ≤ 1000 → isWs u = false → u ≠ 92 → B (E4 i (some (.str t)) (some (.ref q)) (sv1 u) (X n p)) = some (.next, E4 i (some (.str (t ++ one u))) (some (.ref q)) (sv1 u) (X n p)))
    (hE : ∀ (t : Str) u n p, u < 128 → isWs u = true → B (E4 i (some (.str t)) (some (.ref q)) (sv1 u) (X n p)) = some (.ret (.str t), E4 i (some (.str t)) (some (.ref q)) (sv1 u) (X n p))) :
    ∀ (l : List Nat) (v m : Nat) (n : Int) (p : Nat) (t : Str) (c : Option PV), At text p (l ++ [v]) → l.all (fun u => u < 128 && !isWs u && u != 92) = true → isWs v = true → t.length + l.length ≤ 1000 →
      stepE (m + l.length + 1) (nextC 293 (readR w) (.ref q)) (setL 3) B (E4 i (some (.str t)) (some (.ref q)) c (X n p)) = some (.ret (.str (t ++ ⟨l.toArray⟩)), E4 i (some (.str (t ++ ⟨l.toArray⟩))) (some (.ref q)) (sv1 v) (X (if v = 10 then n + 1 else n) (p + l.length + 1)))
  | [], v, m, n, p, t, c, h, _, hv, _ => by
    have hlt : v < 128 := by unfold isWs at hv; simp at hv; omega
    rw [show t ++ (⟨([] : List Nat).toArray⟩ : Str) = t from str_app_none t _ rfl]
    exact Qb (C.nx n p v h.1) rfl (hE t v _ _ hlt hv) rfl
  | u :: l, v, m, n, p, t, c, h, a, hv, hz => by
    rw [List.all_cons, Bool.and_eq_true] at a
    obtain ⟨a1, a2⟩ := a
    simp only [Bool.and_eq_true, decide_eq_true_eq, Bool.not_eq_true', bne_iff_ne] at a1
    have h10 : u ≠ 10 := by rintro rfl; exact absurd a1.1.2 (by decide)
    rw [List.length_cons] at hz
    refine Qb (C.nx n p u h.1) rfl (hB t u _ _ a1.1.1 (by omega) a1.1.2 a1.2) ?_
    rw [if_neg h10]
    refine (loop_plain C hB hE l v m n (p + 1) (t ++ one u) (sv1 u) h.2 a2 hv (by rw [Jc]; omega)).trans ?_
    rw [Qa, Nat.add_right_comm p 1 l.length]; rfl
noncomputable def enc : List (Bool × Nat) → List Nat
  | [] => []
  | (b, u) :: r => if b then 92 :: u :: enc r else u :: enc r
theorem J9 (C : Cur w i q text X)
    (hB : ∀ (t : Str) u n p, u < 128 → t.length ≤ 1000 → u ≠ 34 → u ≠ 92 → B (E4 i (some (.str t)) (some (.ref q)) (sv1 u) (X n p)) = some (.next, E4 i (some (.str (t ++ one u))) (some (.ref q)) (sv1 u) (X n p)))
    (hS : ∀ (t : Str) u n p, text.cps[p]? = some u → t.length ≤ 1000 → u ≠ 10 → B (E4 i (some (.str t)) (some (.ref q)) (sv1 92) (X n p)) = some (.next, E4 i (some (.str (t ++ one u))) (some (.ref q)) (sv1 u) (X n (p + 1))))
    (hE : ∀ (t : Str) n p, B (E4 i (some (.str t)) (some (.ref q)) (sv1 34) (X n p)) = some (.ret (.str t), E4 i (some (.str t)) (some (.ref q)) (sv1 34) (X n p))) :
    ∀ (l : List (Bool × Nat)) (m : Nat) (n : Int) (p : Nat) (t : Str) (c : Option PV), At text p (enc l ++ [34]) → l.all (fun x => x.2 < 128 && x.2 != 10 && (x.1 || (x.2 != 34 && x.2 != 92))) = true → t.length + l.length ≤ 1000 →
      stepE (m + l.length + 1) (nextC 293 (readR w) (.ref q)) (setL 3) B (E4 i (some (.str t)) (some (.ref q)) c (X n p)) = some (.ret (.str (t ++ ⟨(l.map (·.2)).toArray⟩)), E4 i (some (.str (t ++ ⟨(l.map (·.2)).toArray⟩))) (some (.ref q)) (sv1 34) (X n (p + (enc l).length + 1)))
  | [], m, n, p, t, c, h, _, _ => by
    rw [show t ++ (⟨(([] : List (Bool × Nat)).map (·.2)).toArray⟩ : Str) = t from str_app_none t _ rfl]
    exact Qb (C.nx n p 34 h.1) rfl (hE t _ _) rfl
  | (b, u) :: l, m, n, p, t, c, h, a, hz => by
    rw [List.all_cons, Bool.and_eq_true] at a
    obtain ⟨a1, a2⟩ := a
    simp only [Bool.and_eq_true, Bool.or_eq_true, decide_eq_true_eq, bne_iff_ne] at a1
    rw [List.length_cons] at hz
    cases b with
    | true =>
      have h : text.cps[p]? = some 92 ∧ text.cps[p + 1]? = some u ∧ At text (p + 1 + 1) (enc l ++ [34]) := h
      refine Qb (C.nx n p 92 h.1) rfl (hS t u _ _ h.2.1 (by omega) a1.1.2) ?_
      refine (J9 C hB hS hE l m n (p + 1 + 1) (t ++ one u) (sv1 u) h.2.2 a2 (by rw [Jc]; omega)).trans ?_
      rw [Qa, show p + 1 + 1 + (enc l).length + 1 = p + (enc ((true, u) :: l)).length + 1 by show _ = p + ((enc l).length + 1 + 1) + 1; omega]; rfl
    | false =>
      have h : text.cps[p]? = some u ∧ At text (p + 1) (enc l ++ [34]) := h
      have a3 : u ≠ 34 ∧ u ≠ 92 := a1.2.resolve_left (by decide)
      refine Qb (C.nx n p u h.1) rfl (hB t u _ _ a1.1.1 (by omega) a3.1 a3.2) ?_
      rw [if_neg a1.1.2]
      refine (J9 C hB hS hE l m n (p + 1) (t ++ one u) (sv1 u) h.2 a2 (by rw [Jc]; omega)).trans ?_
      rw [Qa, Nat.add_right_comm p 1 _]; rfl
end
noncomputable abbrev emS : Str := Str.ofString ""
theorem nil_app (x : Str) : emS ++ x = x := by
  obtain ⟨c⟩ := x
  show (⟨#[] ++ c⟩ : Str) = _
  simp
theorem getB_of {st : List AO} {i C : Nat} {kvs : List (Str × PV)} {name : Str} {fa : Addr} (h : st[i]? = some (.inst C kvs)) (hn : kvGet kvs name = none) : getB C name fa (.ref i) st = some (.ref st.length, st ++ [.meth (.ref fa) (.ref i)]) := getB_of' (Xg h) hn
theorem iter_of {st : List AO} {f : Addr} {p z : PV} : iterG [.ref st.length, z] (st ++ [.meth (.ref f) p]) = some (.ref (st.length + 1), st ++ [.meth (.ref f) p, .citer (.ref st.length) z]) := by
  have := iter_get (z := z) (Y1 st [.meth (.ref f) p])
  rwa [List.length_append, List.append_assoc] at this
noncomputable abbrev NX (w : World) (q : Nat) : SM (Option PV) := nextC 293 (readR w) (.ref q)
noncomputable def wsT (w : World) : FM Bool := bindE (bindE (getL 3) fun p => bindE (bindE (getL 0) fun p => liftS (getA (kFrag w.params) (Str.ofString "whitespace") p)) fun q => liftS (inS p q)) fun p => liftS (truthG p)
noncomputable def eqT (x : Str) : FM Bool := bindE (bindE (getL 3) fun p => bindE (pureE (.str x)) fun q => liftS (eqS p q)) fun p => liftS (truthG p)
noncomputable def retT : FM PF := seqE (bindE (getL 1) fun p => pureE (.ret p)) (pureE .next)
noncomputable def rcT (w : World) : FM PF := seqE (bindE (bindE (getL 0) fun p => guardE (isInst 310 (Str.ofString "_read_char") p) (bindE (pureE []) fun ps => liftS (readR w (p :: ps)))) fun p => bindE (setL 3 p) fun x => pureE .next) (pureE .next)
noncomputable def augT : FM PF := augE (getL 1) (getL 3) iaddG (setL 1)
noncomputable def escT (w : World) : FM PF := iteE (eqT (Str.ofString "\\")) (rcT w) (pureE .next)
noncomputable def loopT (w : World) (B : FM PF) : FM PF := bindE (getL 2) fun p => guardE (fun st => isCiter st p) (stepE 20 (nextC 293 (readR w) p) (setL 3) B)
noncomputable def B2 (w : World) : FM PF := seqE (iteE (eqT (Str.ofString "\"")) retT (seqE (escT w) (pureE .next))) (seqE augT (pureE .next))
noncomputable def B3 (w : World) : FM PF := seqE (iteE (wsT w) retT (seqE (escT w) (pureE .next))) (seqE augT (pureE .next))
noncomputable def B1 (w : World) : FM PF := seqE (iteE (wsT w) (seqE (pureE .cont) (pureE .next)) (pureE .next)) (seqE (iteE (eqT (Str.ofString "\"")) (seqE (loopT w (B2 w)) (pureE .next)) (seqE (escT w) (seqE augT (seqE (loopT w (B3 w)) (pureE .next))))) (pureE .next))
theorem tok_loop (w : World) {i q : Nat} {text : Str} {X : Int → Nat → List AO} (C : Cur w i q text X) {st : List AO} {j : Nat} {n : Int} {p : PV} {n0 : Int} {p0 : Nat} {r : PF} {es : ES} {v : PV} (h1 : st[i]? = some (.inst 310 (kvW n p wsQ j))) (h2 : st[j]? = some (.list [])) (hq : q = st.length + 1) (hX : st ++ [mAO i, cAO st.length] = X n0 p0)
    (hr : stepE 20 (NX w q) (setL 3) (B1 w) (E4 i (some (.str emS)) (some (.ref q)) none (X n0 p0)) = some (r, es)) (hv : r = .ret v ∨ r = .next ∧ getL 1 es = some (v, es)) : tokenR w [.ref i] st = some (v, es.st) := by
  have run : (Qu w).1 (E4 i none none none st) = some (.ret v, es) := by
    simp only [Qu]
    refine e_seq (es₁ := E4 i none none none st) (e_ite (t := false) (es₁ := E4 i none none none st) (p_lift (p := .ref j) (p_lift (p := .ref i) rfl (getA_pb w h1)) (truth_ref h2 (by decide))) rfl) ?_
    refine e_seq (es₁ := E4 i (some (.str emS)) none none st) rfl ?_
    refine e_seq (es₁ := E4 i (some (.str emS)) (some (.ref q)) none (X n0 p0)) (e_asg (p := .ref q) (es₁ := E4 i (some (.str emS)) none none (X n0 p0)) ?_ rfl) ?_
    · refine e_bind (y := [.ref st.length, .str emS]) (es₁ := E4 i (some (.str emS)) none none (st ++ [mAO i])) (e_cons (es₁ := E4 i (some (.str emS)) none none (st ++ [mAO i])) (e_lift (p := .ref i) (es₁ := E4 i (some (.str emS)) none none st) rfl (getB_of h1 (get_rc _ _ _ _))) (p_cons rfl rfl)) ?_
      unfold liftS
      rw [show (E4 i (some (.str emS)) none none (st ++ [mAO i])).st = st ++ [mAO i] from rfl, iter_of, hX, hq]
    have hl : loopT w (B1 w) (E4 i (some (.str emS)) (some (.ref q)) none (X n0 p0)) = some (r, es) := e_bind (y := .ref q) (es₁ := E4 i (some (.str emS)) (some (.ref q)) none (X n0 p0)) rfl (Z4 (C.ci n0 p0) hr)
    refine e_bind (y := r) (es₁ := es) hl ?_
    rcases hv with rfl | ⟨rfl, hv⟩
    · rfl
    · exact e_bind (y := .ret v) (es₁ := es) (e_bind hv rfl) rfl
  exact Z3 run
section
variable {w : World} {i q : Nat} {text : Str} {X : Int → Nat → List AO}
theorem wsT_at (C : Cur w i q text X) {t qq : Option PV} {u : Nat} (hu : u < 128) (n : Int) (p : Nat) : wsT w (E4 i t qq (sv1 u) (X n p)) = some (isWs u, E4 i t qq (sv1 u) (X n p)) := by
  unfold wsT
  exact p_lift (p := .bool (isWs u)) (p_bin (p := .str (one u)) (q := .str wsQ) rfl (p_lift (p := .ref i) rfl (C.ws n p)) (inS_one hu _)) rfl
theorem eqT_q {t qq : Option PV} (u : Nat) (S : List AO) : eqT (Str.ofString "\"") (E4 i t qq (sv1 u) S) = some (u == 34, E4 i t qq (sv1 u) S) := by
  unfold eqT
  exact p_lift (p := .bool (u == 34)) (p_bin (p := .str (one u)) (q := .str (Str.ofString "\"")) rfl rfl (eqS_q _ _)) rfl
theorem eqT_b {t qq : Option PV} (u : Nat) (S : List AO) : eqT (Str.ofString "\\") (E4 i t qq (sv1 u) S) = some (u == 92, E4 i t qq (sv1 u) S) := by
  unfold eqT
  exact p_lift (p := .bool (u == 92)) (p_bin (p := .str (one u)) (q := .str (Str.ofString "\\")) rfl rfl (eqS_b _ _)) rfl
theorem retT_at {t : PV} {qq c : Option PV} (S : List AO) : retT (E4 i (some t) qq c S) = some (.ret t, E4 i (some t) qq c S) := rfl
theorem rcT_at (C : Cur w i q text X) {t qq c : Option PV} {u : Nat} {n : Int} {p : Nat} (hu : text.cps[p]? = some u) : rcT w (E4 i t qq c (X n p)) = some (.next, E4 i t qq (sv1 u) (X (if u = 10 then n + 1 else n) (p + 1))) := by
  unfold rcT
  refine e_seq (es₁ := E4 i t qq (sv1 u) (X (if u = 10 then n + 1 else n) (p + 1))) (e_asg (p := .str (one u)) (es₁ := E4 i t qq c (X (if u = 10 then n + 1 else n) (p + 1))) ?_ rfl) rfl
  exact e_meth (p := .ref i) (es₁ := E4 i t qq c (X n p)) (es₂ := E4 i t qq c (X n p)) (ps := []) rfl (C.ii n p) rfl (C.rd n p u hu)
theorem augT_at {t : Str} {qq : Option PV} (u : Nat) (S : List AO) (h : t.length ≤ 1000) : augT (E4 i (some (.str t)) qq (sv1 u) S) = some (.next, E4 i (some (.str (t ++ one u))) qq (sv1 u) S) :=
  e_aug (p := .str t) (q := .str (one u)) (es₁ := E4 i (some (.str t)) qq (sv1 u) S) (es₂ := E4 i (some (.str t)) qq (sv1 u) S) rfl rfl (aug_str u _ h) rfl
theorem escT_no {t qq : Option PV} {u : Nat} (h : u ≠ 92) (S : List AO) : escT w (E4 i t qq (sv1 u) S) = some (.next, E4 i t qq (sv1 u) S) := by
  unfold escT
  exact e_ite (eqT_b u S) (by rw [beq_eq_false_iff_ne.mpr h]; rfl)
theorem escT_yes (C : Cur w i q text X) {t qq : Option PV} {u : Nat} {n : Int} {p : Nat} (hu : text.cps[p]? = some u) (h : u ≠ 10) : escT w (E4 i t qq (sv1 92) (X n p)) = some (.next, E4 i t qq (sv1 u) (X n (p + 1))) := by
  unfold escT
  refine e_ite (eqT_b 92 _) ?_
  have := rcT_at C (t := t) (qq := qq) (c := sv1 92) (n := n) hu
  rwa [if_neg h] at this
theorem t3_qB (t : Str) (u : Nat) (S : List AO) {qq : Option PV} (hz : t.length ≤ 1000) (h1 : u ≠ 34) (h2 : u ≠ 92) : B2 w (E4 i (some (.str t)) qq (sv1 u) S) = some (.next, E4 i (some (.str (t ++ one u))) qq (sv1 u) S) := by
  unfold B2
  exact e_seq (e_ite (eqT_q u S) (by rw [beq_eq_false_iff_ne.mpr h1]; exact e_seq (escT_no h2 S) rfl)) (e_seq (augT_at u S hz) rfl)
theorem t3_qS (C : Cur w i q text X) (t : Str) (u : Nat) (n : Int) (p : Nat) {qq : Option PV} (hu : text.cps[p]? = some u) (hz : t.length ≤ 1000) (h : u ≠ 10) : B2 w (E4 i (some (.str t)) qq (sv1 92) (X n p)) = some (.next, E4 i (some (.str (t ++ one u))) qq (sv1 u) (X n (p + 1))) := by
  unfold B2
  exact e_seq (e_ite (eqT_q 92 _) (e_seq (escT_yes C hu h) rfl)) (e_seq (augT_at u _ hz) rfl)
theorem t3_qE (t : PV) (S : List AO) {qq : Option PV} : B2 w (E4 i (some t) qq (sv1 34) S) = some (.ret t, E4 i (some t) qq (sv1 34) S) := by
  unfold B2
  exact e_stop (e_ite (eqT_q 34 S) (retT_at S))
theorem t3_pB (C : Cur w i q text X) (t : Str) (u : Nat) (n : Int) (p : Nat) {qq : Option PV} (hu : u < 128) (hz : t.length ≤ 1000) (h1 : isWs u = false) (h2 : u ≠ 92) : B3 w (E4 i (some (.str t)) qq (sv1 u) (X n p)) = some (.next, E4 i (some (.str (t ++ one u))) qq (sv1 u) (X n p)) := by
  unfold B3
  exact e_seq (e_ite (wsT_at C hu n p) (by rw [h1]; exact e_seq (escT_no h2 _) rfl)) (e_seq (augT_at u _ hz) rfl)
theorem t3_pE (C : Cur w i q text X) (t : PV) (u : Nat) (n : Int) (p : Nat) {qq : Option PV} (hu : u < 128) (h1 : isWs u = true) : B3 w (E4 i (some t) qq (sv1 u) (X n p)) = some (.ret t, E4 i (some t) qq (sv1 u) (X n p)) := by
  unfold B3
  exact e_stop (e_ite (wsT_at C hu n p) (by rw [h1]; exact retT_at _))
theorem t3_skip (C : Cur w i q text X) {t qq : Option PV} (u : Nat) (n : Int) (p : Nat) (hu : u < 128) (h1 : isWs u = true) : B1 w (E4 i t qq (sv1 u) (X n p)) = some (.cont, E4 i t qq (sv1 u) (X n p)) := by
  unfold B1
  exact e_stopc (e_ite (wsT_at C hu n p) (by rw [h1]; rfl))
theorem t3_loop (C : Cur w i q text X) {t c : Option PV} {n : Int} {p : Nat} {B : FM PF} {v : PV} {es : ES} (h : stepE 20 (NX w q) (setL 3) B (E4 i t (some (.ref q)) c (X n p)) = some (.ret v, es)) : loopT w B (E4 i t (some (.ref q)) c (X n p)) = some (.ret v, es) := by
  unfold loopT
  exact e_bind (y := .ref q) (es₁ := E4 i t (some (.ref q)) c (X n p)) rfl (Z4 (C.ci n p) h)
theorem t3_quote (C : Cur w i q text X) {t : Option PV} {n : Int} {p : Nat} {v : PV} {es : ES} (h : stepE 20 (NX w q) (setL 3) (B2 w) (E4 i t (some (.ref q)) (sv1 34) (X n p)) = some (.ret v, es)) : B1 w (E4 i t (some (.ref q)) (sv1 34) (X n p)) = some (.ret v, es) := by
  unfold B1
  exact e_seq (e_ite (wsT_at C (by decide) n p) rfl) (e_stop (e_ite (eqT_q 34 _) (e_stop (t3_loop C h))))
theorem t3_plain (C : Cur w i q text X) {t : Str} {u : Nat} {n : Int} {p : Nat} {v : PV} {es : ES} (hu : u < 128) (h1 : isWs u = false) (h2 : u ≠ 34) (h3 : u ≠ 92) (hz : t.length ≤ 1000) (h : stepE 20 (NX w q) (setL 3) (B3 w) (E4 i (some (.str (t ++ one u))) (some (.ref q)) (sv1 u) (X n p)) = some (.ret v, es)) : B1 w (E4 i (some (.str t)) (some (.ref q)) (sv1 u) (X n p)) = some (.ret v, es) := by
  unfold B1
  exact e_seq (e_ite (wsT_at C hu n p) (by rw [h1]; rfl)) (e_stop (e_ite (eqT_q u _) (by rw [beq_eq_false_iff_ne.mpr h2]; exact e_seq (escT_no h3 _) (e_seq (augT_at u _ hz) (e_stop (t3_loop C h))))))
end
section
variable {w : World} {st : List AO} {i k j r g : Nat} {n : Int} {j2 : Nat} {text : Str} {p : Nat}
theorem At.left : ∀ {p : Nat} {l l' : List Nat}, At text p (l ++ l') → At text p l
  | _, [], _, _ => trivial
  | _, _ :: _, _, h => ⟨h.1, At.left h.2⟩
theorem At.right : ∀ {p : Nat} {l l' : List Nat}, At text p (l ++ l') → At text (p + l.length) l'
  | _, [], _, h => h
  | p, _ :: l, _, h => by
    have := At.right (l := l) h.2
    rwa [Nat.add_right_comm] at this
theorem emp_app (l : List Nat) (u : Nat) : emS ++ one u ++ (⟨l.toArray⟩ : Str) = ⟨(u :: l).toArray⟩ := by rw [Qa, nil_app]
theorem token_plain (w : World) (L : Lex st i k j r g n j2 text p []) {l0 l : List Nat} {u v : Nat} (h : At text p (l0 ++ u :: (l ++ [v]))) (h0 : l0.all isWs = true) (hz0 : l0.length ≤ 10) (hu : u < 128) (h1 : isWs u = false) (h2 : u ≠ 34) (h3 : u ≠ 92)
    (ha : l.all (fun u => u < 128 && !isWs u && u != 92) = true) (hz : l.length ≤ 10) (hv : isWs v = true) :
    tokenR w [.ref i] st = some (.str ⟨(u :: l).toArray⟩, atQ st i k j g text (if v = 10 then n + nls l0 + 1 else n + nls l0) (p + l0.length + 1 + l.length + 1) ++ [mAO i, cAO st.length]) := by
  have C := L.cur w
  obtain ⟨m, hm⟩ : ∃ m, 20 = m + 1 + l0.length := ⟨19 - l0.length, by omega⟩
  obtain ⟨m2, hm2⟩ : ∃ m, 20 = m + l.length + 1 := ⟨19 - l.length, by omega⟩
  have hr := At.right h
  obtain ⟨c', e⟩ := loop_ws C (t := some (.str emS)) (B := B1 w) (fun u n p a b => t3_skip C u n p a b) l0 (m + 1) n p none (At.left h) h0
  rw [← hm] at e
  have hn : u ≠ 10 := by rintro rfl; exact absurd h1 (by decide)
  have hq := loop_plain C (B := B3 w) (fun t u n p a b c d => t3_pB C t u n p a b c d) (fun t u n p a b => t3_pE C (.str t) u n p a b) l v m2 (n + nls l0) (p + l0.length + 1) (emS ++ one u) (sv1 u) hr.2 ha hv (by rw [nil_app]; show 1 + _ ≤ _; omega)
  rw [← hm2, emp_app] at hq
  have hz1 : emS.length ≤ 1000 := by decide +kernel
  have hb := t3_plain C (t := emS) hu h1 h2 h3 hz1 hq
  refine tok_loop w C L.lx L.pb rfl (n0 := n) (p0 := p) (es := E4 i (some (.str ⟨(u :: l).toArray⟩)) (some (.ref (st.length + 1))) (sv1 v) (atQ st i k j g text (if v = 10 then n + nls l0 + 1 else n + nls l0) (p + l0.length + 1 + l.length + 1) ++ [mAO i, cAO st.length])) (by rw [L.at_same]) (e.trans (Qb (C.nx _ _ u hr.1) rfl (fl := .ret (.str ⟨(u :: l).toArray⟩)) ?_ rfl)) (.inl rfl)
  rw [if_neg hn]
  exact hb
theorem token_quoted (w : World) (L : Lex st i k j r g n j2 text p []) {us : List (Bool × Nat)} (h : At text p (34 :: (enc us ++ [34])))
    (ha : us.all (fun x => x.2 < 128 && x.2 != 10 && (x.1 || (x.2 != 34 && x.2 != 92))) = true) (hz : us.length ≤ 10) :
    tokenR w [.ref i] st = some (.str ⟨(us.map (·.2)).toArray⟩, atQ st i k j g text n (p + 1 + (enc us).length + 1) ++ [mAO i, cAO st.length]) := by
  have C := L.cur w
  obtain ⟨m2, hm2⟩ : ∃ m, 20 = m + us.length + 1 := ⟨19 - us.length, by omega⟩
  have hq := J9 C (B := B2 w) (fun t u n p a b c d => t3_qB t u _ b c d) (fun t u n p a b c => t3_qS C t u n p a b c) (fun t n p => t3_qE (.str t) _) us m2 n (p + 1) emS (sv1 34) h.2 ha (by rw [show emS.length = 0 by decide +kernel]; omega)
  rw [← hm2, nil_app] at hq
  refine tok_loop w C L.lx L.pb rfl (n0 := n) (p0 := p) (es := E4 i (some (.str ⟨(us.map (·.2)).toArray⟩)) (some (.ref (st.length + 1))) (sv1 34) (atQ st i k j g text n (p + 1 + (enc us).length + 1) ++ [mAO i, cAO st.length])) (by rw [L.at_same]) (Qb (n := 19) (C.nx _ _ 34 h.1) rfl (fl := .ret (.str ⟨(us.map (·.2)).toArray⟩)) ?_ rfl) (.inl rfl)
  exact t3_quote C hq
theorem next_end (w : World) (L : Lex st i k j r g n j2 text p []) {n' : Int} {p' : Nat} (hp : p' = text.cps.size) :
    nextC 293 (readR w) (.ref (st.length + 1)) (atQ st i k j g text n' p' ++ [mAO i, cAO st.length]) = some (none, atQ st i k j g text n' p' ++ [mAO i, .cdone]) := by
  have hm := Xh (atQ st i k j g text n' p') [mAO i, cAO st.length] 0
  have hq := Xh (atQ st i k j g text n' p') [mAO i, cAO st.length] 1
  have hs := set_app (atQ st i k j g text n' p') [mAO i, cAO st.length] 1 .cdone
  rw [atQ_len] at hm hq hs
  have hr := read_end w (L.go n' p' [mAO i, cAO st.length]) hp
  have hm : (atQ st i k j g text n' p' ++ [mAO i, cAO st.length])[st.length]? = some (mAO i) := hm
  have := nextC_of (G := readR w) hq hm hr hq hm rfl
  rw [if_pos (by decide +kernel), hs] at this
  exact this
theorem token_end (w : World) (L : Lex st i k j r g n j2 text p []) {l0 : List Nat} (h : At text p l0) (h0 : l0.all isWs = true) (hz0 : l0.length ≤ 10) (hp : p + l0.length = text.cps.size) :
    tokenR w [.ref i] st = some (.str emS, atQ st i k j g text (n + nls l0) (p + l0.length) ++ [mAO i, .cdone]) := by
  have C := L.cur w
  obtain ⟨m, hm⟩ : ∃ m, 20 = m + 1 + l0.length := ⟨19 - l0.length, by omega⟩
  obtain ⟨c', e⟩ := loop_ws C (t := some (.str emS)) (B := B1 w) (fun u n p a b => t3_skip C u n p a b) l0 (m + 1) n p none h h0
  rw [← hm] at e
  refine tok_loop w C L.lx L.pb rfl (n0 := n) (p0 := p) (by rw [L.at_same]) (r := .next) (es := E4 i (some (.str emS)) (some (.ref (st.length + 1))) c' (atQ st i k j g text (n + nls l0) (p + l0.length) ++ [mAO i, .cdone])) (e.trans ?_) (.inr ⟨rfl, rfl⟩)
  refine e_bind (y := none) (es₁ := E4 i (some (.str emS)) (some (.ref (st.length + 1))) c' (atQ st i k j g text (n + nls l0) (p + l0.length) ++ [mAO i, .cdone])) ?_ rfl
  unfold liftS
  rw [show (E4 i (some (.str emS)) (some (.ref (st.length + 1))) c' (atQ st i k j g text (n + nls l0) (p + l0.length) ++ [mAO i, cAO st.length])).st = atQ st i k j g text (n + nls l0) (p + l0.length) ++ [mAO i, cAO st.length] from rfl, next_end w L hp (n' := n + nls l0)]
end
noncomputable def cd268 : ClassData := { name := Str.ofString "_Accumulator", bases := [.type "list"], mro := [.ref 268, .type "list", .type "object"], ns := 267, qualname := Str.ofString "_Accumulator", hasDict := true, slotNames := [], subclasses := [], abstract := false, collection := none, hasDel := false }
theorem cls268 (w : World) : clsIn (C2 w).K 268 = some cd268 := by kernel_rfl
theorem lmakes268 (w : World) : LMakes (C2 w).K 268 cd268 :=
  { cls := cls268 w, abs := rfl, del := rfl, mro := ⟨_, rfl⟩, made := fun M h X => Looks.of_peek X (by kernel_rfl), base := fun M h X => Looks.of_peek X (by kernel_rfl), call := by kernel_rfl, typ := by kernel_rfl }
theorem sup_ok (w : World) {fa cda L : Nat} {fd : FuncData} {ln : List Str} {f : FI} (hf : f = ⟨callEnv fd L fa, ln, []⟩) (h1 : fd.scope.names.lookup ("super" : Str) = some .globalImplicit) (h2 : fd.scope.names.lookup ("__class__" : Str) = some .free)
    (h3 : fd.closure = [(Str.ofString "__class__", 192)]) (h4 : fd.code = .ref cda) (h5 : ∃ oc od osl ar, P3 ((C2 w).K.lookup fa = some ⟨oc, od, .func fd, osl⟩) ((fd.params.posonlyargs ++ fd.params.args).head? = some ar) (ar.arg = Str.ofString "self"))
    (h6 : ∃ oc od vs osl file tf, P3 ((C2 w).K.lookup cda = some ⟨oc, od, .fields vs, osl⟩) (vs[2]? = some (.str file tf)) ((((C2 w).prog.main.file : Str) == file) = true)) : SupOk (C2 w) f 268 192 cda fa (Str.ofString "self") cd268 := by
  subst hf
  obtain ⟨oc, od, osl, ar, a, b, d⟩ := h5
  exact ⟨h1, h2, (by show fd.closure.lookup _ = _; rw [h3]; rfl), rfl, h4, ⟨oc, od, fd, osl, ar, a, b, d⟩, ⟨_, _, _, rfl⟩, h6, by kernel_rfl, by kernel_rfl, by kernel_rfl, by kernel_rfl, cls268 w, rfl⟩
noncomputable abbrev ln_count : List Str := [Str.ofString "self"]
theorem loc_count : ∀ x ∈ ln_count, (defS (at2 P2 10 8)).names.lookup x = some .local := by decide +kernel
theorem nd_count : ln_count.Nodup := by decide +kernel
noncomputable def b_count : { b : List Stmt // defB (at2 P2 10 8) = b } := ⟨[_], rfl⟩
noncomputable def s_count (w : World) : { F : FM PF // ∀ L, DenX (C2 w) 1 ⟨callEnv fd265 L 265, ln_count, []⟩ (defB (at2 P2 10 8)) RFl (execs (defB (at2 P2 10 8)) (callEnv fd265 L 265)) F } := ⟨_, fun L => by
  have ok : FI.Ok ⟨callEnv fd265 L 265, ln_count, []⟩ := ok_call (fd := fd265) rfl rfl rfl loc_count nd_count
  rw [b_count.2]
  exact by
    have X0 : SupOk (C2 w) ⟨callEnv fd265 L 265, ln_count, []⟩ 268 192 264 265 (Str.ofString "self") cd268 := sup_ok w rfl (by kernel_rfl) (by kernel_rfl) rfl rfl ⟨_, _, _, _, rfl, rfl, rfl⟩ ⟨_, _, _, _, _, _, rfl, rfl, by kernel_rfl⟩
    exact (Qr (denx_return (Ka (i := 0) (C := 268) (cc := 192) (cda := 264) (fa := 265) (self := Str.ofString "self") ok X0 rfl (op_llen (C := 268)) binds_len (.inr rfl) (by kernel_rfl) (by decide +kernel) (fun as => Code.quiet_builtin _ (by decide +kernel)) (fun A s x X h => bound_len))) (Den.x Zg))⟩
theorem r_count (w : World) : FunK (C2 w) 2 (.ref 265) 1 [] (runK 1 [] [some 0] [] (s_count w).1) := fun_defX (names := [Str.ofString "self"]) (dvs := []) ⟨⟨_, _, _, rfl⟩, by kernel_rfl, rfl, rfl, rfl, rfl⟩ (by decide +kernel) (by decide +kernel) (by decide +kernel) (by decide +kernel) (by decide +kernel) (fun _ _ => .nil) rfl (fun s vs h X => by
  obtain ⟨v0, rfl⟩ := ln1 h
  exact BindsTo.of_eq (by kernel_rfl)) (s_count w).2
noncomputable def countR (w : World) : List PV → SM PV := runK 1 [] [some 0] [] (s_count w).1
theorem k_count (w : World) : FunK (C2 w) 2 (.ref 265) 1 [] (countR w) := r_count w
noncomputable abbrev ln_ppop : List Str := [Str.ofString "self"]
theorem loc_ppop : ∀ x ∈ ln_ppop, (defS (at2 P2 10 3)).names.lookup x = some .local := by decide +kernel
theorem nd_ppop : ln_ppop.Nodup := by decide +kernel
noncomputable def b_ppop : { b : List Stmt // defB (at2 P2 10 3) = b } := ⟨[_, _], rfl⟩
noncomputable def s_ppop (w : World) : { F : FM PF // ∀ L, DenX (C2 w) 2 ⟨callEnv fd228 L 228, ln_ppop, []⟩ (defB (at2 P2 10 3)) RFl (execs (defB (at2 P2 10 3)) (callEnv fd228 L 228)) F } := ⟨_, fun L => by
  have ok : FI.Ok ⟨callEnv fd228 L 228, ln_ppop, []⟩ := ok_call (fd := fd228) rfl rfl rfl loc_ppop nd_ppop
  rw [b_ppop.2]
  exact by
    have X0 : SupOk (C2 w) ⟨callEnv fd228 L 228, ln_ppop, []⟩ 268 192 227 228 (Str.ofString "self") cd268 := sup_ok w rfl (by kernel_rfl) (by kernel_rfl) rfl rfl ⟨_, _, _, _, rfl, rfl, rfl⟩ ⟨_, _, _, _, _, _, rfl, rfl, by kernel_rfl⟩
    exact (Qr (Den.x (den_if (Zn (Zi (Za (i := 0) ok rfl) (Y4 (C := 268) (fv := .ref 265) (ty := "function") (by kernel_rfl)) (Zk (a := 265) (by kernel_rfl)) Zd ((k_count w).ok.weak (by decide))) Zp op_eqG) (Zc (Zq (Z0 (Zb Zy (Zb Zy Zd)))) Zg) Zg)) (Qr (denx_return (Ka (i := 0) (C := 268) (cc := 192) (cda := 227) (fa := 228) (self := Str.ofString "self") ok X0 rfl (op_lpop (C := 268)) binds_pop (.inl rfl) (by kernel_rfl) (by decide +kernel) (fun as => Code.quiet_builtin _ (by decide +kernel)) (fun A s x X h => by
      obtain ⟨d, vs, m, h⟩ := h
      exact bound_pop (C := 268) (cd := cd268) rfl X h rfl rfl (cls268 w) (by kernel_rfl) (by kernel_rfl)))) (Den.x Zg)))⟩
theorem r_ppop (w : World) : FunK (C2 w) 3 (.ref 228) 1 [] (runK 1 [] [some 0] [] (s_ppop w).1) := fun_defX (names := [Str.ofString "self"]) (dvs := []) ⟨⟨_, _, _, rfl⟩, by kernel_rfl, rfl, rfl, rfl, rfl⟩ (by decide +kernel) (by decide +kernel) (by decide +kernel) (by decide +kernel) (by decide +kernel) (fun _ _ => .nil) rfl (fun s vs h X => by
  obtain ⟨v0, rfl⟩ := ln1 h
  exact BindsTo.of_eq (by kernel_rfl)) (s_ppop w).2
noncomputable abbrev ln_init268 : List Str := [Str.ofString "self", Str.ofString "initial_size"]
theorem loc_init268 : ∀ x ∈ ln_init268, (defS (at2 P2 10 0)).names.lookup x = some .local := by decide +kernel
theorem nd_init268 : ln_init268.Nodup := by decide +kernel
noncomputable def b_init268 : { b : List Stmt // defB (at2 P2 10 0) = b } := ⟨[_, _], rfl⟩
noncomputable def Jn (w : World) : { F : FM PF // ∀ L, DenX (C2 w) 1 ⟨callEnv fd205 L 205, ln_init268, []⟩ (defB (at2 P2 10 0)) RFl (execs (defB (at2 P2 10 0)) (callEnv fd205 L 205)) F } := ⟨_, fun L => by
  have ok : FI.Ok ⟨callEnv fd205 L 205, ln_init268, []⟩ := ok_call (fd := fd205) rfl rfl rfl loc_init268 nd_init268
  rw [b_init268.2]
  exact by
    have X0 : SupOk (C2 w) ⟨callEnv fd205 L 205, ln_init268, []⟩ 268 192 204 205 (Str.ofString "self") cd268 := sup_ok w rfl (by kernel_rfl) (by kernel_rfl) rfl rfl ⟨_, _, _, _, rfl, rfl, rfl⟩ ⟨_, _, _, _, _, _, rfl, rfl, by kernel_rfl⟩
    exact (Qr (Den.x (Zj (Za (i := 1) ok rfl) (dena_lst (Za (i := 0) ok rfl) (lst_ok w)))) (Qr (denx_expr (Ka (i := 0) (C := 268) (cc := 192) (cda := 204) (fa := 205) (self := Str.ofString "self") ok X0 rfl (op_linit (C := 268)) binds_init (.inr rfl) (by kernel_rfl) (by decide +kernel) (fun as => Code.quiet_builtin _ (by decide +kernel)) (fun A s x X h => bound_init)) (by kernel_rfl)) (Den.x Zg)))⟩
theorem r_init268 (w : World) : FunK (C2 w) 2 (.ref 205) 1 [] (runK 1 [.int 0] [some 0, some 1] [] (Jn w).1) := fun_defX (names := [Str.ofString "self", Str.ofString "initial_size"]) (dvs := [.int 0 568]) ⟨⟨_, _, _, rfl⟩, by kernel_rfl, rfl, rfl, rfl, rfl⟩ (by decide +kernel) (by decide +kernel) (by decide +kernel) (by decide +kernel) (by decide +kernel) (fun _ _ => .cons (.int _ _) .nil) rfl (fun s vs h X => by
  obtain ⟨v0, rfl⟩ := ln1 h
  exact BindsTo.of_defaults (T := 197) rfl (X _ _ rfl) rfl (by rfl) (by rfl)) (Jn w).2
noncomputable abbrev ln_ppush : List Str := [Str.ofString "self", Str.ofString "fws", Str.ofString "string"]
noncomputable abbrev cn_ppush : List (Str × Nat) := []
theorem loc_ppush : ∀ x ∈ ln_ppush, (defS (at2 P2 10 1)).names.lookup x = some .local := by decide +kernel
theorem nd_ppush : ln_ppush.Nodup := by decide +kernel
noncomputable def b_ppush : { b : List Stmt // defB (at2 P2 10 1) = b } := ⟨[_], rfl⟩
noncomputable def s_ppush (w : World) : { F : FM PF // ∀ L, Den (C2 w) 1 (FI.fn fd212 212 ln_ppush cn_ppush L) RFl (execs (defB (at2 P2 10 1)) (callEnvC fd212 L 212)) F } := ⟨_, fun L => by
  have ok : FI.Ok (FI.fn fd212 212 ln_ppush cn_ppush L) := ok_fn (fd := fd212) rfl rfl rfl loc_ppush nd_ppush
  rw [b_ppush.2]
  exact (Zc (Ys (Zi (Za (i := 0) ok rfl) (Y4 (C := 268) (fv := .builtin "list.append") (ty := "method_descriptor") (by kernel_rfl)) Zh (Zb (Z0 (Zb (Za (i := 1) ok rfl) (Zb (Za (i := 2) ok rfl) Zd))) Zd) (op_lappend (C := 268) (by kernel_rfl))) (by kernel_rfl)) Zg)⟩
theorem x_ppush (w : World) : DefK (C2 w).K 212 fd212 (defB (at2 P2 10 1)) [Str.ofString "self", Str.ofString "fws", Str.ofString "string"] ln_ppush cn_ppush := ⟨⟨⟨_, _, _, rfl⟩, by kernel_rfl, rfl, rfl, rfl, rfl⟩, rfl, fun L => rfl, by decide +kernel, by decide +kernel, by decide +kernel, loc_ppush, by decide +kernel⟩
theorem r_ppush (w : World) : FunK (C2 w) 2 (.ref 212) 3 [] (runK (3 + 0) [] [some 0, some 1, some 2] [] (s_ppush w).1) := Yh (x_ppush w) (dvs := []) (fun _ _ => .nil) rfl (by decide +kernel) (by decide +kernel) (fun s vs ws h1 h2 X => by
  obtain ⟨v0, v1, v2, rfl⟩ := ln3 h1
  obtain rfl := ln0 h2
  exact BindsTo.of_eq (by kernel_rfl)) (s_ppush w).2
section
variable {prog : Program} {w : World} {A : Around} {E : Value → Shared → Prop} {s : Shared}
theorem fv_str {x : Str} {t : Tok} {Q : Value → Shared → Prop} (hz : x.length ≤ sizeLine) (h : ∀ t' k, Q (.str x t') { s with toks := k }) : wpAny (model prog w) A (convS (.str x t)) (fun r s₂ => wpAny (model prog w) A (formatField r Str.empty) Q E s₂) E s := by
  refine wpAny_habitSame_str ?_ ?_ hz
  · exact wpAny_formatField_str (h t s.toks) (h _ _) hz
  · exact wpAny_formatField_str (h _ _) (h _ _) hz
end
section
variable {c : Ctx0} {b : Nat} {f : FI}
noncomputable def fstrE (l1 l2 : Str) (p q : PV) : FM PV := fun es => pik fun r => ∃ x y, P5 (p = .str x) (q = .str y) (x.length + y.length ≤ 2000) (l1.length + l2.length ≤ 2000) (r = (.str (x ++ l1 ++ y ++ l2), es))
theorem fstr_of {l1 l2 x y : Str} {es : ES} (h : x.length + y.length ≤ 2000) (h' : l1.length + l2.length ≤ 2000) : fstrE l1 l2 (.str x) (.str y) es = some (.str (x ++ l1 ++ y ++ l2), es) :=
  pik_of ⟨_, _, rfl, rfl, h, h', rfl⟩ fun z q' => by obtain ⟨_, _, e, e1, _, _, r⟩ := q'; cases e; cases e1; exact r
theorem den_fstr {v1 v2 : Expr} {p1 p2 q1 q2 pos : Pos} {k1 k2 : Nat} {l1 l2 : Str} {F₁ F₂ : FM PV} (d₁ : Den c b f RV (eval v1 f.env) F₁) (d₂ : Den c b f RV (eval v2 f.env) F₂) :
    Den c b f RV (eval (.JoinedStr [.FormattedValue v1 115 none p1, .Constant (.str l1) k1 q1, .FormattedValue v2 115 none p2, .Constant (.str l2) k2 q2] pos) f.env) (bindE F₁ fun p => bindE F₂ fun q => fstrE l1 l2 p q) := by
  constructor
  intro A hA ρ s es r es' e R
  obtain ⟨p, es₁, e1, e⟩ := Ze e
  obtain ⟨q, es₂, e2, e⟩ := Ze e
  obtain ⟨x, y, rfl, rfl, hz, hl, e'⟩ := Zo e
  clear e; cases e'
  have sz : ∀ n, n ≤ 4000 → n ≤ sizeLine := fun n h => by rw [sizeLine_eq]; omega
  refine wpAny_JoinedStr ?_
  show wpAny _ _ (eval (.FormattedValue v1 115 none p1) f.env) _ _ _
  refine wpAny_FormattedValue_s (wpAny_mono (d₁.run A hA ρ s es _ es₁ e1 R) (fun v s₁ z => ?_) fun _ _ z => z)
  obtain ⟨ρ₁, R₁, g₁, ⟨qa, qb, qc⟩, r₁⟩ := z
  obtain ⟨t, rfl⟩ := r₁.inv
  refine fv_str (sz _ (by omega)) fun t' k => ⟨x, t', rfl, ?_, ?_⟩
  · rw [Xx]; exact sz _ (by omega)
  rw [Xx]
  show wpAny _ _ (eval (.Constant (.str l1) k1 q1) f.env) _ _ _
  refine wpAny_Constant_str ⟨l1, _, rfl, ?_, ?_⟩
  · rw [PySem.Str.length_append]; exact sz _ (by omega)
  show wpAny _ _ (eval (.FormattedValue v2 115 none p2) f.env) _ _ _
  refine wpAny_FormattedValue_s (wpAny_mono (d₂.run A hA ρ₁ { s₁ with toks := k + 1 } es₁ _ es' e2 R₁) (fun v s₂ z => ?_) fun _ _ z => z)
  obtain ⟨ρ₂, R₂, g₂, ⟨ra, rb, rc⟩, r₂⟩ := z
  obtain ⟨t2, rfl⟩ := r₂.inv
  refine fv_str (sz _ (by omega)) fun t' k => ⟨y, t', rfl, ?_, ?_⟩
  · rw [PySem.Str.length_append, PySem.Str.length_append]; exact sz _ (by omega)
  show wpAny _ _ (eval (.Constant (.str l2) k2 q2) f.env) _ _ _
  have h4 : (x ++ l1 ++ y ++ l2).length ≤ sizeLine := by rw [PySem.Str.length_append, PySem.Str.length_append, PySem.Str.length_append]; exact sz _ (by omega)
  refine wpAny_Constant_str ⟨l2, _, rfl, h4, h4, ρ₂, R₂, g₁.trans g₂, ⟨ra.trans qa, rb.trans qb, rc.trans qc⟩, .str _ _⟩
noncomputable def fstr2E (l1 : Str) (p q : PV) : FM PV := fun es => pik fun r => ∃ x y, P5 (p = .str x) (q = .str y) (x.length + y.length ≤ 2000) (l1.length ≤ 2000) (r = (.str (x ++ l1 ++ y), es))
theorem fstr2_of {l1 x y : Str} {es : ES} (h : x.length + y.length ≤ 2000) (h' : l1.length ≤ 2000) : fstr2E l1 (.str x) (.str y) es = some (.str (x ++ l1 ++ y), es) :=
  pik_of ⟨_, _, rfl, rfl, h, h', rfl⟩ fun z q' => by obtain ⟨_, _, e, e1, _, _, r⟩ := q'; cases e; cases e1; exact r
theorem den_fstr2 {v1 v2 : Expr} {p1 p2 q1 pos : Pos} {k1 : Nat} {l1 : Str} {F₁ F₂ : FM PV} (d₁ : Den c b f RV (eval v1 f.env) F₁) (d₂ : Den c b f RV (eval v2 f.env) F₂) :
    Den c b f RV (eval (.JoinedStr [.FormattedValue v1 115 none p1, .Constant (.str l1) k1 q1, .FormattedValue v2 115 none p2] pos) f.env) (bindE F₁ fun p => bindE F₂ fun q => fstr2E l1 p q) := by
  constructor
  intro A hA ρ s es r es' e R
  obtain ⟨p, es₁, e1, e⟩ := Ze e
  obtain ⟨q, es₂, e2, e⟩ := Ze e
  obtain ⟨x, y, rfl, rfl, hz, hl, e'⟩ := Zo e
  clear e; cases e'
  have sz : ∀ n, n ≤ 4000 → n ≤ sizeLine := fun n h => by rw [sizeLine_eq]; omega
  refine wpAny_JoinedStr ?_
  show wpAny _ _ (eval (.FormattedValue v1 115 none p1) f.env) _ _ _
  refine wpAny_FormattedValue_s (wpAny_mono (d₁.run A hA ρ s es _ es₁ e1 R) (fun v s₁ z => ?_) fun _ _ z => z)
  obtain ⟨ρ₁, R₁, g₁, ⟨qa, qb, qc⟩, r₁⟩ := z
  obtain ⟨t, rfl⟩ := r₁.inv
  refine fv_str (sz _ (by omega)) fun t' k => ⟨x, t', rfl, ?_, ?_⟩
  · rw [Xx]; exact sz _ (by omega)
  rw [Xx]
  show wpAny _ _ (eval (.Constant (.str l1) k1 q1) f.env) _ _ _
  refine wpAny_Constant_str ⟨l1, _, rfl, ?_, ?_⟩
  · rw [PySem.Str.length_append]; exact sz _ (by omega)
  show wpAny _ _ (eval (.FormattedValue v2 115 none p2) f.env) _ _ _
  refine wpAny_FormattedValue_s (wpAny_mono (d₂.run A hA ρ₁ { s₁ with toks := k + 1 } es₁ _ es' e2 R₁) (fun v s₂ z => ?_) fun _ _ z => z)
  obtain ⟨ρ₂, R₂, g₂, ⟨ra, rb, rc⟩, r₂⟩ := z
  obtain ⟨t2, rfl⟩ := r₂.inv
  have h4 : (x ++ l1 ++ y).length ≤ sizeLine := by rw [PySem.Str.length_append, PySem.Str.length_append]; exact sz _ (by omega)
  exact fv_str (sz _ (by omega)) fun t' k => ⟨y, t', rfl, h4, h4, ρ₂, R₂, g₁.trans g₂, ⟨ra.trans qa, rb.trans qb, rc.trans qc⟩, .str _ _⟩
end
noncomputable abbrev ln_init184 : List Str := [Str.ofString "self", Str.ofString "headers", Str.ofString "k", Str.ofString "v"]
noncomputable abbrev cn_init184 : List (Str × Nat) := []
theorem loc_init184 : ∀ x ∈ ln_init184, (defS (at2 P2 7 0)).names.lookup x = some .local := by decide +kernel
theorem nd_init184 : ln_init184.Nodup := by decide +kernel
noncomputable def b_init184 : { b : List Stmt // defB (at2 P2 7 0) = b } := ⟨[_, _, _, _], rfl⟩
noncomputable def Jo (w : World) : { F : FM PF // ∀ L, Den (C2 w) 1 (FI.fn fd76 76 ln_init184 cn_init184 L) RFl (execs (defB (at2 P2 7 0)) (callEnvC fd76 L 76)) F } := ⟨_, fun L => by
  have ok : FI.Ok (FI.fn fd76 76 ln_init184 cn_init184 L) := ok_fn (fd := fd76) rfl rfl rfl loc_init184 nd_init184
  rw [b_init184.2]
  exact (Zc (Zj (den_ifexp (Zn (Za (i := 1) ok rfl) den_none op_isNotNone) (Za (i := 1) ok rfl) (Yi Zd)) (Zf (i := 1) ok rfl)) (Zc (den_if (Zn (Zs (Zm ok (by kernel_rfl) (gn_type w) (bn_type w)) Z1 (Zb (Za (i := 1) ok rfl) Zd) op_typeL) (Zm ok (by kernel_rfl) (gn_list w) (bn_list w)) op_isNotT) (Zc Qs Zg) Zg) (Zc (Zj (Za (i := 1) ok rfl) (Xq (Za (i := 0) ok rfl))) (Zc (den_if (Xj Xn) (Zc (X1 (Xy (Za (i := 1) ok rfl)) (Y6 (Zz (Zf (i := 2) ok rfl) (Zz (Zf (i := 3) ok rfl) Xd))) (Zc Qs (Zc Qs Zg))) Zg) Zg) Zg))))⟩
theorem x_init184 (w : World) : DefK (C2 w).K 76 fd76 (defB (at2 P2 7 0)) [Str.ofString "self", Str.ofString "headers"] ln_init184 cn_init184 := ⟨⟨⟨_, _, _, rfl⟩, by kernel_rfl, rfl, rfl, rfl, rfl⟩, rfl, fun L => rfl, by decide +kernel, by decide +kernel, by decide +kernel, loc_init184, by decide +kernel⟩
theorem r_init184 (w : World) : FunK (C2 w) 2 (.ref 76) 2 [] (runK (2 + 0) [] [some 0, some 1, none, none] [] (Jo w).1) := Yh (x_init184 w) (dvs := []) (fun _ _ => .nil) rfl (by decide +kernel) (by decide +kernel) (fun s vs ws h1 h2 X => by
  obtain ⟨v0, v1, rfl⟩ := ln2 h1
  obtain rfl := ln0 h2
  exact BindsTo.of_defaults (T := 69) rfl (X _ _ rfl) rfl (by rfl) (by rfl)) (Jo w).2
noncomputable abbrev ln_hget : List Str := [Str.ofString "self", Str.ofString "name", Str.ofString "default", Str.ofString "k", Str.ofString "v"]
noncomputable abbrev cn_hget : List (Str × Nat) := []
theorem loc_hget : ∀ x ∈ ln_hget, (defS (at2 P2 7 8)).names.lookup x = some .local := by decide +kernel
theorem nd_hget : ln_hget.Nodup := by decide +kernel
noncomputable def b_hget : { b : List Stmt // defB (at2 P2 7 8) = b } := ⟨[_, _, _], rfl⟩
noncomputable def s_hget (w : World) : { F : FM PF // ∀ L, Den (C2 w) 2 (FI.fn fd131 131 ln_hget cn_hget L) RFl (execs (defB (at2 P2 7 8)) (callEnvC fd131 L 131)) F } := ⟨_, fun L => by
  have ok : FI.Ok (FI.fn fd131 131 ln_hget cn_hget L) := ok_fn (fd := fd131) rfl rfl rfl loc_hget nd_hget
  rw [b_hget.2]
  exact (Zc (Zj (Qi (Za (i := 0) ok rfl) (Zw (C := 184) (fa := 83) (by kernel_rfl)) (Zk (a := 83) (by kernel_rfl)) (Zb (Zi (Za (i := 1) ok rfl) (Qm F.slot_str_lower F.type_str_lower) Zh Zd op_lower) Zd) Xn ((k_conv w).weak (by decide))) (Zf (i := 1) ok rfl)) (Zc (X1 (Xy (Y2 (Za (i := 0) ok rfl))) (Y6 (Zz (Zf (i := 3) ok rfl) (Zz (Zf (i := 4) ok rfl) Xd))) (Zc (den_if (Zn (Zi (Za (i := 3) ok rfl) (Qm F.slot_str_lower F.type_str_lower) Zh Zd op_lower) (Za (i := 1) ok rfl) op_eqG) (Zc (Zq (Za (i := 4) ok rfl)) Zg) Zg) Zg)) (Zc (Zq (Za (i := 2) ok rfl)) Zg)))⟩
theorem x_hget (w : World) : DefK (C2 w).K 131 fd131 (defB (at2 P2 7 8)) [Str.ofString "self", Str.ofString "name", Str.ofString "default"] ln_hget cn_hget := ⟨⟨⟨_, _, _, rfl⟩, by kernel_rfl, rfl, rfl, rfl, rfl⟩, rfl, fun L => rfl, by decide +kernel, by decide +kernel, by decide +kernel, loc_hget, by decide +kernel⟩
theorem r_hget (w : World) : FunK (C2 w) 3 (.ref 131) 2 [] (runK (2 + 0) [.none] [some 0, some 1, some 2, none, none] [] (s_hget w).1) := Yh (x_hget w) (dvs := [.none]) (fun _ _ => .cons .none .nil) rfl (by decide +kernel) (by decide +kernel) (fun s vs ws h1 h2 X => by
  obtain ⟨v0, v1, rfl⟩ := ln2 h1
  obtain rfl := ln0 h2
  exact BindsTo.of_defaults (T := 124) rfl (X _ _ rfl) rfl (by rfl) (by rfl)) (s_hget w).2
noncomputable def hgetR (w : World) : List PV → SM PV := runK (2 + 0) [.none] [some 0, some 1, some 2, none, none] [] (s_hget w).1
theorem k_hget (w : World) : FunK (C2 w) 3 (.ref 131) 2 [] (hgetR w) := r_hget w
noncomputable abbrev ln_hitems : List Str := [Str.ofString "self"]
noncomputable abbrev cn_hitems : List (Str × Nat) := []
theorem loc_hitems : ∀ x ∈ ln_hitems, (defS (at2 P2 7 11)).names.lookup x = some .local := by decide +kernel
theorem nd_hitems : ln_hitems.Nodup := by decide +kernel
noncomputable def b_hitems : { b : List Stmt // defB (at2 P2 7 11) = b } := ⟨[_], rfl⟩
noncomputable def Ja (w : World) : { F : FM PF // ∀ L, Den (C2 w) 1 (FI.fn fd148 148 ln_hitems cn_hitems L) RFl (execs (defB (at2 P2 7 11)) (callEnvC fd148 L 148)) F } := ⟨_, fun L => by
  have ok : FI.Ok (FI.fn fd148 148 ln_hitems cn_hitems L) := ok_fn (fd := fd148) rfl rfl rfl loc_hitems nd_hitems
  rw [b_hitems.2]
  exact (Zc (Zq (Yp (Y2 (Za (i := 0) ok rfl)) Zx Zx Zx)) Zg)⟩
theorem x_hitems (w : World) : DefK (C2 w).K 148 fd148 (defB (at2 P2 7 11)) [Str.ofString "self"] ln_hitems cn_hitems := ⟨⟨⟨_, _, _, rfl⟩, by kernel_rfl, rfl, rfl, rfl, rfl⟩, rfl, fun L => rfl, by decide +kernel, by decide +kernel, by decide +kernel, loc_hitems, by decide +kernel⟩
theorem r_hitems (w : World) : FunK (C2 w) 2 (.ref 148) 1 [] (runK (1 + 0) [] [some 0] [] (Ja w).1) := Yh (x_hitems w) (dvs := []) (fun _ _ => .nil) rfl (by decide +kernel) (by decide +kernel) (fun s vs ws h1 h2 X => by
  obtain ⟨v0, rfl⟩ := ln1 h1
  obtain rfl := ln0 h2
  exact BindsTo.of_eq (by kernel_rfl)) (Ja w).2
noncomputable abbrev ln_sdef : List Str := [Str.ofString "self", Str.ofString "name", Str.ofString "value", Str.ofString "result"]
noncomputable abbrev cn_sdef : List (Str × Nat) := []
theorem loc_sdef : ∀ x ∈ ln_sdef, (defS (at2 P2 7 15)).names.lookup x = some .local := by decide +kernel
theorem nd_sdef : ln_sdef.Nodup := by decide +kernel
noncomputable def b_sdef : { b : List Stmt // defB (at2 P2 7 15) = b } := ⟨[_, _], rfl⟩
noncomputable def s_sdef (w : World) : { F : FM PF // ∀ L, Den (C2 w) 3 (FI.fn fd174 174 ln_sdef cn_sdef L) RFl (execs (defB (at2 P2 7 15)) (callEnvC fd174 L 174)) F } := ⟨_, fun L => by
  have ok : FI.Ok (FI.fn fd174 174 ln_sdef cn_sdef L) := ok_fn (fd := fd174) rfl rfl rfl loc_sdef nd_sdef
  rw [b_sdef.2]
  exact (Zc (Zj (Zi (Za (i := 0) ok rfl) (Zw (C := 184) (fa := 131) (by kernel_rfl)) (Zk (a := 131) (by kernel_rfl)) (Zb (Za (i := 1) ok rfl) Zd) ((k_hget w).ok.weak (by decide))) (Zf (i := 3) ok rfl)) (Zc (den_if (Zn (Za (i := 3) ok rfl) den_none op_isNone) (Zc (Ys (Zi (Y2 (Za (i := 0) ok rfl)) (Yy F.slot_list_append F.type_list_append) Zh (Zb (Z0 (Zb (Qi (Za (i := 0) ok rfl) (Zw (C := 184) (fa := 83) (by kernel_rfl)) (Zk (a := 83) (by kernel_rfl)) (Zb (Za (i := 1) ok rfl) Zd) Xn ((k_conv w).weak (by decide))) (Zb (Qi (Za (i := 0) ok rfl) (Zw (C := 184) (fa := 83) (by kernel_rfl)) (Zk (a := 83) (by kernel_rfl)) (Zb (Za (i := 2) ok rfl) Zd) Xn ((k_conv w).weak (by decide))) Zd))) Zd) X2) (by kernel_rfl)) (Zc (Zq (Za (i := 2) ok rfl)) Zg)) (Zc (Zq (Za (i := 3) ok rfl)) Zg)) Zg))⟩
theorem x_sdef (w : World) : DefK (C2 w).K 174 fd174 (defB (at2 P2 7 15)) [Str.ofString "self", Str.ofString "name", Str.ofString "value"] ln_sdef cn_sdef := ⟨⟨⟨_, _, _, rfl⟩, by kernel_rfl, rfl, rfl, rfl, rfl⟩, rfl, fun L => rfl, by decide +kernel, by decide +kernel, by decide +kernel, loc_sdef, by decide +kernel⟩
theorem r_sdef (w : World) : FunK (C2 w) 4 (.ref 174) 3 [] (runK (3 + 0) [] [some 0, some 1, some 2, none] [] (s_sdef w).1) := Yh (x_sdef w) (dvs := []) (fun _ _ => .nil) rfl (by decide +kernel) (by decide +kernel) (fun s vs ws h1 h2 X => by
  obtain ⟨v0, v1, v2, rfl⟩ := ln3 h1
  obtain rfl := ln0 h2
  exact BindsTo.of_eq (by kernel_rfl)) (s_sdef w).2
noncomputable abbrev ln_fpar : List Str := [Str.ofString "param", Str.ofString "value", Str.ofString "quote"]
noncomputable abbrev cn_fpar : List (Str × Nat) := []
theorem loc_fpar : ∀ x ∈ ln_fpar, (defS (at1 P2 6)).names.lookup x = some .local := by decide +kernel
theorem nd_fpar : ln_fpar.Nodup := by decide +kernel
noncomputable def b_fpar : { b : List Stmt // defB (at1 P2 6) = b } := ⟨[_], rfl⟩
noncomputable def s_fpar (w : World) : { F : FM PF // ∀ L, Den (C2 w) 1 (FI.fn fd61 61 ln_fpar cn_fpar L) RFl (execs (defB (at1 P2 6)) (callEnvC fd61 L 61)) F } := ⟨_, fun L => by
  have ok : FI.Ok (FI.fn fd61 61 ln_fpar cn_fpar L) := ok_fn (fd := fd61) rfl rfl rfl loc_fpar nd_fpar
  rw [b_fpar.2]
  exact (Zc (den_if_tp (dentp_and (Zn (Za (i := 1) ok rfl) den_none op_isNotNone) (dentp_compare (Zs (Zm ok (by kernel_rfl) (gn_len w) (bn_len w)) Zh (Zb (Za (i := 1) ok rfl) Zd) op_lenS) op_gtI)) (denz_cons (denz_if (Den.z (Jg (dent_or_cons (Xj (Za (i := 2) ok rfl)) (dent_or_cons (dent_match (den_methodR (Z8 ok (by kernel_rfl) (gn_tspecials w)) (meth_searchC (pat_t w)) Zh (Zb (Za (i := 1) ok rfl) Zd) (op_searchM (pat_t w)))) Q0)))) (denz_cons (denz_assign (denz_replace (denz_replace (Den.z (Za (i := 1) ok rfl)))) (Zf (i := 1) ok rfl)) (Den.z (Zc (Zq (den_fstr (Za (i := 0) ok rfl) (Za (i := 1) ok rfl))) Zg))) (Den.z (Zc (Zq (den_fstr2 (Za (i := 0) ok rfl) (Za (i := 1) ok rfl))) Zg))) (Den.z Zg)) (Zc (Zq (Za (i := 0) ok rfl)) Zg)) Zg)⟩
theorem x_fpar (w : World) : DefK (C2 w).K 61 fd61 (defB (at1 P2 6)) [Str.ofString "param", Str.ofString "value", Str.ofString "quote"] ln_fpar cn_fpar := ⟨⟨⟨_, _, _, rfl⟩, by kernel_rfl, rfl, rfl, rfl, rfl⟩, rfl, fun L => rfl, by decide +kernel, by decide +kernel, by decide +kernel, loc_fpar, by decide +kernel⟩
theorem r_fpar (w : World) : FunK (C2 w) 2 (.ref 61) 3 [] (runK (3 + 0) [] [some 0, some 1, some 2] [] (s_fpar w).1) := Yh (x_fpar w) (dvs := []) (fun _ _ => .nil) rfl (by decide +kernel) (by decide +kernel) (fun s vs ws h1 h2 X => by
  obtain ⟨v0, v1, v2, rfl⟩ := ln3 h1
  obtain rfl := ln0 h2
  exact BindsTo.of_defaults (T := 54) rfl (X _ _ rfl) rfl (by rfl) (by rfl)) (s_fpar w).2
noncomputable def fparR (w : World) : List PV → SM PV := runK (3 + 0) [] [some 0, some 1, some 2] [] (s_fpar w).1
theorem k_fpar (w : World) : FunK (C2 w) 2 (.ref 61) 3 [] (fparR w) := r_fpar w
noncomputable def ptokR (w : World) : List PV → SM PV := runK (2 + 0) [] [some 0, some 1] [] (Q9 w).1
theorem k_ptoken (w : World) : FunK (C2 w) 2 (.ref 307) 2 [] (ptokR w) := r_ptoken w
theorem ptok_run (w : World) {st : List AO} {i j : Nat} {n : Int} {p : PV} {ws : Str} {x : PV} {xs : List PV} (h1 : st[i]? = some (.inst 310 (kvW n p ws j))) (h2 : st[j]? = some (.list xs)) (hz : xs.length ≤ sizeLine) :
    ptokR w [.ref i, x] st = some (.none, st.set j (.list (xs ++ [x]))) := by
  let E (S : List AO) : ES := ⟨[some (.ref i), some x], [], S⟩
  have run : (Q9 w).1 (E st) = some (.next, E (st.set j (.list (xs ++ [x])))) := by
    simp only [Q9]
    exact e_seq (e_expr (p := .none) (e_meth (p := .ref j) (ps := [x]) (es₁ := E st) (es₂ := E st) (p_lift (p := .ref i) rfl (Qe (Xg h1) (ao_pb w) (getL4 _ _ _ _ _))) (Xc h2) (p_cons rfl rfl) (X4 h2 hz))) rfl
  exact Z3 run
noncomputable abbrev nSz : Str := Str.ofString "_initial_size"
noncomputable abbrev kvA (f : Int) : List (Str × PV) := [(nSz, .int f)]
theorem a_app (f : Int) : kvGet (kvA f) (Str.ofString "append") = none := by kernel_rfl
theorem a_cnt (f : Int) : kvGet (kvA f) (Str.ofString "part_count") = none := by kernel_rfl
theorem count_run (w : World) {st : List AO} {i : Nat} {kvs : List (Str × PV)} {xs : List PV} (h : st[i]? = some (.linst 268 kvs xs)) : countR w [.ref i] st = some (.int xs.length, st) := by
  let E : ES := ⟨[some (.ref i)], [], st⟩
  have run : (s_count w).1 E = some (.ret (.int xs.length), E) := by
    simp only [s_count]
    exact e_stop (e_bind (y := .int xs.length) (es₁ := E) (e_bind (y := .ref i) (es₁ := E) rfl (Z4 (Yt ⟨_, _, _, rfl, h⟩) (Ye (llen_of h)))) rfl)
  exact Z3 run
noncomputable def pushR (w : World) : List PV → SM PV := runK (3 + 0) [] [some 0, some 1, some 2] [] (s_ppush w).1
theorem k_ppush (w : World) : FunK (C2 w) 2 (.ref 212) 3 [] (pushR w) := r_ppush w
theorem push_run (w : World) {f : Int} {st : List AO} {i : Nat} {a b : PV} {xs : List PV} (h : st[i]? = some (.linst 268 (kvA f) xs)) (hz : xs.length ≤ sizeLine) : pushR w [.ref i, a, b] st = some (.none, st.set i (.linst 268 (kvA f) (xs ++ [.tup [a, b]]))) := by
  have h2 : (2 : Nat) ≤ sizeLine := by rw [sizeLine_eq]; omega
  let E (S : List AO) : ES := ⟨[some (.ref i), some a, some b], [], S⟩
  have run : (s_ppush w).1 (E st) = some (.next, E (st.set i (.linst 268 (kvA f) (xs ++ [.tup [a, b]])))) := by
    simp only [s_ppush]
    exact e_seq (e_expr (p := .none) (e_meth (p := .ref i) (ps := [.tup [a, b]]) (es₁ := E st) (es₂ := E st) rfl (Yt ⟨_, _, _, rfl, h, a_app f⟩) (p_cons (p_tup2 rfl rfl) rfl) (lappend_of h hz))) rfl
  exact Z3 run
noncomputable def popR (w : World) : List PV → SM PV := runK 1 [] [some 0] [] (s_ppop w).1
theorem k_ppop (w : World) : FunK (C2 w) 3 (.ref 228) 1 [] (popR w) := r_ppop w
theorem pop_none (w : World) {f : Int} {st : List AO} {i : Nat} (h : st[i]? = some (.linst 268 (kvA f) [])) : popR w [.ref i] st = some (.tup [.str (Str.ofString ""), .str (Str.ofString "")], st) := by
  have h2 : (2 : Nat) ≤ sizeLine := by rw [sizeLine_eq]; omega
  let E : ES := ⟨[some (.ref i)], [], st⟩
  have run : (s_ppop w).1 E = some (.ret (.tup [.str (Str.ofString ""), .str (Str.ofString "")]), E) := by
    simp only [s_ppop]
    exact e_stop (e_ite (t := true) (es₁ := E) (p_lift (p := .bool true) (p_bin (p := .int 0) (q := .int 0) (p_meth (p := .ref i) (ps := []) rfl (Yt ⟨_, _, _, rfl, h, a_cnt f⟩) rfl (count_run w h)) rfl rfl) rfl) (e_stop (e_bind (y := .tup [.str (Str.ofString ""), .str (Str.ofString "")]) (es₁ := E) (p_tup2 rfl rfl) rfl)))
  exact Z3 run
theorem pop_some (w : World) {f : Int} {st : List AO} {i : Nat} {xs : List PV} {y : PV} (h : st[i]? = some (.linst 268 (kvA f) (xs ++ [y]))) (hz : xs.length + 1 ≤ sizeLine) : popR w [.ref i] st = some (y, st.set i (.linst 268 (kvA f) xs)) := by
  have e1 : (xs ++ [y])[xs.length]? = some y := Y1 _ _
  have e2 : (xs ++ [y]).eraseIdx xs.length = xs := by
    rw [List.eraseIdx_append_of_length_le (Nat.le_refl _)]; simp
  have e3 : ((xs.length : Int) + 1 == 0) = false := by rw [beq_eq_false_iff_ne]; omega
  have hl : (xs ++ [y]).length = xs.length + 1 := by rw [List.length_append]; rfl
  let E (S : List AO) : ES := ⟨[some (.ref i)], [], S⟩
  have hc := count_run w h
  rw [hl] at hc
  have hp := lpop_of (y := y) h (by rw [hl]; exact hz) (by rw [hl]; exact e1)
  rw [hl, Nat.add_sub_cancel, e2] at hp
  have run : (s_ppop w).1 (E st) = some (.ret y, E (st.set i (.linst 268 (kvA f) xs))) := by
    simp only [s_ppop]
    refine e_seq (es₁ := E st) (e_ite (t := false) (es₁ := E st) (p_lift (p := .bool false) (p_bin (p := .int ((xs.length + 1 : Nat) : Int)) (q := .int 0) (p_meth (p := .ref i) (ps := []) rfl (Yt ⟨_, _, _, rfl, h, a_cnt f⟩) rfl hc) rfl ?_) rfl) rfl) (e_stop (e_bind (y := y) (es₁ := E (st.set i (.linst 268 (kvA f) xs))) (e_bind (y := .ref i) (es₁ := E st) rfl (Z4 (Yt ⟨_, _, _, rfl, h⟩) (Ye hp))) rfl))
    show some (PV.bool (((xs.length : Int) + 1) == 0), _) = _
    rw [e3]
  exact Z3 run
noncomputable abbrev inP (n : Nat) : PV := .int (n : Int)
theorem getL_at {i : Nat} {p : PV} {es : ES} (h : es.loc[i]? = some (some p)) : getL i es = some (p, es) := by
  unfold getL; rw [h]; rfl
theorem Js {X : FM PV} {zs : List PV} {p : PV} {es es' : ES} (h : X es = some (p, es')) (hz : zs.length ≤ 100) : emitE X zs es = some (zs ++ [p], es') := by
  unfold emitE
  exact e_bind h (by rw [if_pos (Zr hz)]; rfl)
theorem chkL_of {st : List AO} {i : Nat} {xs : List PV} (h : st[i]? = some (.list xs)) : chkL i xs st = true := by
  unfold chkL
  exact @decide_eq_true _ (Classical.propDecidable _) h
theorem Qd {X : FM PV} {es : ES} {p : PV} {y : Its} (hx : X es = some (p, es)) (hy : itsV p es.st = some y) : bindE X (itsE itsV) es = some (y, es) := by
  refine e_bind hx ?_
  unfold itsE
  rw [hy]; rfl
theorem itsV_ref {st : List AO} {h : Nat} {xs : List PV} (q : st[h]? = some (.list xs)) : itsV (.ref h) st = some (xs, chkL h xs) := by
  unfold itsV
  dsimp only
  rw [q]
noncomputable def make268G (ps : List PV) : SM PV := fun st => pik fun r => ps = [] ∧ r = (.ref st.length, st ++ [.linst 268 (kvA 0) []])
theorem make268_run (st : List AO) : make268G [] st = some (.ref st.length, st ++ [.linst 268 (kvA 0) []]) := pik_of ⟨rfl, rfl⟩ fun z q' => q'.2
theorem k_make268 (w : World) : OpL (C2 w) 3 (fun vs => call (.ref 268) vs) make268G := by
  refine (op_lmake (C := 268) (fI := 205) (lmakes268 w) (by kernel_rfl) (by kernel_rfl) (r_init268 w)).sub fun ps st r e => ?_
  obtain ⟨rfl, rfl⟩ := Zo e
  let E (S : List AO) : ES := ⟨[some (.ref st.length), some (.int 0)], [], S⟩
  have g0 := Y1 st [AO.linst 268 (kvA 0) []]
  have e1 := setLst_of (name := nSz) (q := .int 0) (Y1 st [AO.linst 268 [] []]) (Nat.zero_le _)
  have e2 := linit_of g0 sl0
  rw [set_app0] at e1 e2
  have run : (Jn w).1 (E (st ++ [.linst 268 [] []])) = some (.next, E (st ++ [.linst 268 (kvA 0) []])) := by
    simp only [Jn]
    exact e_seq (e_asg (p := .int 0) (es₁ := E (st ++ [.linst 268 [] []])) rfl (e_lift (p := .ref st.length) (es₁ := E (st ++ [.linst 268 [] []])) rfl e1)) (e_seq (e_expr (p := .none) (e_bind (y := .ref st.length) (es₁ := E (st ++ [.linst 268 (kvA 0) []])) rfl (Z4 (Yt ⟨_, _, _, rfl, g0⟩) (Ye e2)))) rfl)
  exact lmake_of (Z3 run)
noncomputable abbrev nHd : Str := Str.ofString "_headers"
noncomputable abbrev kvH (h : Nat) : List (Str × PV) := [(nHd, .ref h)]
theorem putH (p : PV) : kvPut [] nHd p = [(nHd, p)] := rfl
theorem getH (p : PV) (l : List (Str × PV)) : kvGet ((nHd, p) :: l) nHd = some p := by kernel_rfl
theorem so_hd (w : World) : setOk (kFrag w.params) 184 nHd = true := by kernel_rfl
theorem ao_hd (w : World) : attrOk (kFrag w.params) 184 nHd = true := by kernel_rfl
theorem get_cv (h : Nat) : kvGet (kvH h) (Str.ofString "_convert_string_type") = none := by kernel_rfl
noncomputable def Jb (ps : List PV) : SM PV := fun st => pik fun r => ∃ h, P3 (ps = [.ref h]) (st[h]? = some (.list [])) (r = (.ref st.length, st ++ [.inst 184 (kvH h)]))
theorem make184_run {h : Nat} {st : List AO} (q : st[h]? = some (.list [])) : Jb [.ref h] st = some (.ref st.length, st ++ [.inst 184 (kvH h)]) := pik_of ⟨_, rfl, q, rfl⟩ fun z q' => by obtain ⟨_, e, _, r⟩ := q'; cases e; exact r
theorem new_hd {st : List AO} : Jb [.ref st.length] (st ++ [.list []]) = some (.ref (st.length + 1), st ++ [.list [], .inst 184 (kvH st.length)]) := by
  have := make184_run (Y1 st [.list []])
  rwa [List.length_append, List.append_assoc] at this
theorem k_make184 (w : World) : OpL (C2 w) 3 (fun vs => call (.ref 184) vs) Jb := by
  refine (op_make (C := 184) (fI := 76) (by kernel_rfl) (by kernel_rfl) (by kernel_rfl) (r_init184 w)).sub fun ps st r e => ?_
  obtain ⟨h, rfl, q, rfl⟩ := Zo e
  have hl : ∀ l, (st ++ l)[h]? = some (.list []) := fun l => by rw [List.getElem?_append_left (lt_of q)]; exact q
  let E (S : List AO) : ES := ⟨[some (.ref st.length), some (.ref h), none, none], [], S⟩
  let S0 := st ++ [AO.inst 184 []]
  let S1 := st ++ [AO.inst 184 (kvH h)]
  have hi : items? S0 (.ref h) = some [] := Xb (hl _)
  have run : (Jo w).1 (E S0) = some (.next, E S1) := by
    simp only [Jo]
    refine e_seq (es₁ := E S0) (e_asg (p := .ref h) (es₁ := E S0) (e_ite (t := true) (es₁ := E S0) (p_lift (p := .bool true) (p_bin (p := .ref h) (q := .none) rfl rfl rfl) rfl) rfl) rfl) ?_
    refine e_seq (es₁ := E S0) (e_ite (t := false) (es₁ := E S0) (p_lift (p := .bool false) (p_bin (p := .raw (.type "list")) (q := .raw (.type "list")) (p_call (ps := [.ref h]) (p_cons rfl rfl) (typeL_of hi)) rfl (isNotT_of.trans (by simp))) rfl) rfl) ?_
    refine e_seq (es₁ := E S1) (e_asg (p := .ref h) (es₁ := E S0) rfl (e_lift (p := .ref st.length) (es₁ := E S0) rfl (X6 (so_hd w) (putH _)))) ?_
    exact e_seq (es₁ := E S1) (e_ite (t := true) (es₁ := E S1) (p_lift (p := .bool true) rfl rfl) (e_seq (es₁ := E S1) (e_bind (Qd (p := .ref h) rfl (itsV_ref (hl _))) (Z4 (chkL_of (hl _)) rfl)) rfl)) rfl
  exact make_of (Z3 run)
theorem getA_hd (w : World) {st : List AO} {i h : Nat} (h1 : st[i]? = some (.inst 184 (kvH h))) : getA (kFrag w.params) (Str.ofString "_headers") (.ref i) st = some (.ref h, st) := Qe (Xg h1) (ao_hd w) (getH _ _)
theorem conv_of (w : World) {p : PV} {x : Str} {t : Bool} (h : Y9 x = true) (st : List AO) : convR w [p, .str x, .bool t] st = some (.str x, st) := by
  obtain ⟨h1, h2, h3⟩ := plainTxt_all h
  let E (q : Option PV) : ES := ⟨[some p, some (.str x), some (.bool t), q], [], st⟩
  have q1 := search_of (pa := 48) (st := st) h1 h3
  have q2 := search_of (pa := 53) (st := st) h2 h3
  have run : ∃ q, (s_conv w).1 (E none) = some (.ret (.str x), E q) := by
    simp only [s_conv]
    have go : ∀ a, (a = 48 ∨ a = 53) → (if t = true then pureE (PV.raw (.ref 48)) else pureE (PV.raw (.ref 53))) (E none) = some (.raw (.ref a), E none) → ∃ q, (s_conv w).1 (E none) = some (.ret (.str x), E q) := fun a ha hp => ⟨some (.raw (.ref a)), by
      simp only [s_conv]
      refine e_stop (e_ite (t := true) (es₁ := E none) (p_lift (p := .bool true) (p_bin (p := .raw (.type "str")) (q := .raw (.type "str")) (p_call (ps := [.str x]) (p_cons rfl rfl) type_of) rfl (isT_of.trans (by simp))) rfl) ?_)
      refine e_seq (es₁ := E (some (.raw (.ref a)))) (e_asg (p := .raw (.ref a)) (es₁ := E none) (e_ite (t := t) (es₁ := E none) (p_lift (p := .bool t) rfl rfl) hp) rfl) ?_
      refine e_seq (es₁ := E (some (.raw (.ref a)))) (e_ite (t := false) (es₁ := E (some (.raw (.ref a)))) (p_lift (p := .none) (p_meth (p := .raw (.ref a)) (ps := [.str x]) rfl ?_ (p_cons rfl rfl) ?_) rfl) rfl) rfl
      · rw [Bool.or_eq_true]
        rcases ha with rfl | rfl
        · exact .inl (Yt rfl)
        · exact .inr (Yt rfl)
      · rcases ha with rfl | rfl
        · exact pik_of (.inl q1) fun z e => e.elim (fun e => Option.some.inj (e.symm.trans q1)) fun e => (Zo e).elim fun _ ⟨e, _, _, _⟩ => nomatch e
        · exact pik_of (.inr q2) fun z e => e.elim (fun e => (Zo e).elim fun _ ⟨e, _, _, _⟩ => nomatch e) fun e => Option.some.inj (e.symm.trans q2)⟩
    cases t with
    | true => exact go 48 (.inl rfl) rfl
    | false => exact go 53 (.inr rfl) rfl
  obtain ⟨q, run⟩ := run
  exact Z3 run
noncomputable abbrev bsl : Str := Str.ofString "\\"
noncomputable abbrev quo : Str := Str.ofString "\""
noncomputable def escS (v : Str) : Str := Txt.replace (Txt.replace v bsl (Str.ofString "\\\\")) quo (Str.ofString "\\\"")
noncomputable def parS (x v : Str) : Str := x ++ Str.ofString "=\"" ++ escS v ++ quo
inductive Tr : List (Nat × Nat) → Nat → Prop
  | nil : Tr [] 0
  | node {L R : List (Nat × Nat)} {a b x : Nat} : Tr L a → Tr R b → (∀ y ∈ L, y.1 < x) → (∀ y ∈ R, y.1 < x) → Tr (L ++ (x, 1 + max a b) :: R) (1 + max a b)
theorem Tr.le {p : List (Nat × Nat)} {H : Nat} (t : Tr p H) : ∀ y ∈ p, y.2 ≤ H := by
  induction t with
  | nil => intro y m; cases m
  | node _ _ _ _ ihL ihR =>
    intro y m
    rcases List.mem_append.mp m with m | m
    · have := ihL y m; omega
    · rcases List.mem_cons.mp m with rfl | m
      · exact Nat.le_refl _
      · have := ihR y m; omega
theorem Tr.top {p : List (Nat × Nat)} {H : Nat} (t : Tr p H) (h : 0 < H) : ∃ y ∈ p, y.2 = H := by
  cases t with
  | nil => exact absurd h (Nat.lt_irrefl 0)
  | node _ _ _ _ => exact ⟨_, List.mem_append_right _ (.head _), rfl⟩
theorem Tr.pos {p : List (Nat × Nat)} {H : Nat} (t : Tr p H) : ∀ y ∈ p, 0 < y.2 := by
  induction t with
  | nil => intro y m; cases m
  | node _ _ _ _ ihL ihR =>
    intro y m
    rcases List.mem_append.mp m with m | m
    · exact ihL y m
    · rcases List.mem_cons.mp m with rfl | m
      · show 0 < 1 + _; omega
      · exact ihR y m
theorem Tr.len {p : List (Nat × Nat)} {H : Nat} (t : Tr p H) : H ≤ p.length := by
  induction t with
  | nil => exact Nat.le_refl _
  | node _ _ _ _ ihL ihR => rw [List.length_append, List.length_cons]; omega
theorem max_split : ∀ {l : List Nat}, l ≠ [] → l.Nodup → ∃ L x R, l = L ++ x :: R ∧ (∀ y ∈ L, y < x) ∧ ∀ y ∈ R, y < x := by
  intro l
  induction l with
  | nil => intro h; exact absurd rfl h
  | cons a l ih =>
    intro _ nd
    rw [List.nodup_cons] at nd
    by_cases h : l = []
    · subst h; exact ⟨[], a, [], rfl, (fun y m => nomatch m), (fun y m => nomatch m)⟩
    obtain ⟨L, x, R, rfl, h1, h2⟩ := ih h nd.2
    have hne : a ≠ x := fun e => nd.1 (by rw [e]; exact List.mem_append_right _ (.head _))
    by_cases hx : a < x
    · exact ⟨a :: L, x, R, rfl, fun y m => (List.mem_cons.mp m).elim (fun e => e ▸ hx) (h1 y), h2⟩
    · refine ⟨[], a, L ++ x :: R, rfl, (fun y m => nomatch m), fun y m => ?_⟩
      rcases List.mem_append.mp m with m | m
      · have := h1 y m; omega
      · rcases List.mem_cons.mp m with rfl | m
        · omega
        · have := h2 y m; omega
theorem tree_ex : ∀ (n : Nat) (l : List Nat), l.length ≤ n → l.Nodup → ∃ p H, Tr p H ∧ p.map (·.1) = l := by
  intro n
  induction n with
  | zero => intro l h _; exact ⟨[], 0, .nil, (List.length_eq_zero_iff.mp (Nat.le_zero.mp h)).symm⟩
  | succ n ih =>
    intro l h nd
    by_cases h0 : l = []
    · exact ⟨[], 0, .nil, h0.symm⟩
    obtain ⟨L, x, R, rfl, h1, h2⟩ := max_split h0 nd
    rw [List.length_append, List.length_cons] at h
    rw [List.nodup_append, List.nodup_cons] at nd
    obtain ⟨p, a, tp, ep⟩ := ih L (by omega) nd.1
    obtain ⟨q, b, tq, eq⟩ := ih R (by omega) nd.2.1.2
    refine ⟨p ++ (x, 1 + max a b) :: q, _, .node tp tq (fun y m => h1 _ ?_) (fun y m => h2 _ ?_), by rw [List.map_append, List.map_cons, ep, eq]⟩
    · rw [← ep]; exact List.mem_map_of_mem m
    · rw [← eq]; exact List.mem_map_of_mem m
noncomputable def pass (e : Nat) : Nat → List Nat → List Nat × List Nat
  | _, [] => ([], [])
  | b, x :: r => if x < b ∧ x < r.headD e then ((pass e x r).1, x :: (pass e x r).2) else (x :: (pass e x r).1, (pass e x r).2)
theorem pass_app (e x : Nat) (r : List Nat) : ∀ (l : List Nat) (b : Nat), pass e b (l ++ x :: r) = ((pass x b l).1 ++ (pass e (l.getLastD b) (x :: r)).1, (pass x b l).2 ++ (pass e (l.getLastD b) (x :: r)).2)
  | [], b => rfl
  | y :: l, b => by
    have ih := pass_app e x r l y
    have hh : (l ++ x :: r).headD e = l.headD x := by cases l <;> rfl
    have hl : (y :: l).getLastD b = l.getLastD y := by cases l <;> rfl
    rw [List.cons_append, pass, pass, hh, ih, hl]
    split <;> rfl
noncomputable def gtK (k : Nat) (p : List (Nat × Nat)) : List Nat := (p.filter fun y => k < y.2).map (·.1)
noncomputable def eqK (k : Nat) (p : List (Nat × Nat)) : List Nat := (p.filter fun y => y.2 == k).map (·.1)
theorem gtK_app (k : Nat) (p q : List (Nat × Nat)) : gtK k (p ++ q) = gtK k p ++ gtK k q := by unfold gtK; rw [List.filter_append, List.map_append]
theorem eqK_app (k : Nat) (p q : List (Nat × Nat)) : eqK k (p ++ q) = eqK k p ++ eqK k q := by unfold eqK; rw [List.filter_append, List.map_append]
theorem gtK_nil {k : Nat} {p : List (Nat × Nat)} (h : ∀ y ∈ p, y.2 ≤ k) : gtK k p = [] := by
  unfold gtK
  rw [List.filter_eq_nil_iff.mpr fun y m => by have := h y m; simp; omega]; rfl
theorem eqK_nil {k : Nat} {p : List (Nat × Nat)} (h : ∀ y ∈ p, y.2 ≠ k) : eqK k p = [] := by
  unfold eqK
  rw [List.filter_eq_nil_iff.mpr fun y m => by simpa using h y m]; rfl
theorem gtK_mem {k : Nat} {p : List (Nat × Nat)} {y : Nat} (m : y ∈ gtK k p) : ∃ z ∈ p, z.1 = y := by
  obtain ⟨z, mz, e⟩ := List.mem_map.mp m
  exact ⟨z, (List.mem_filter.mp mz).1, e⟩
theorem gtK_ne {k H : Nat} {p : List (Nat × Nat)} (t : Tr p H) (h : k < H) : gtK k p ≠ [] := by
  obtain ⟨y, m, e⟩ := t.top (by omega)
  intro q
  have : y.1 ∈ gtK k p := List.mem_map_of_mem (List.mem_filter.mpr ⟨m, by simp; omega⟩)
  rw [q] at this; cases this
theorem getLastD_mem : ∀ {l : List Nat} {b : Nat}, l ≠ [] → l.getLastD b ∈ l
  | [], _, h => absurd rfl h
  | a :: l, b, _ => by
    have : (a :: l).getLastD b = l.getLastD a := by cases l <;> rfl
    rw [this]
    by_cases h : l = []
    · subst h; exact .head _
    · exact .tail _ (getLastD_mem h)
theorem pass_tr {p : List (Nat × Nat)} {H : Nat} (t : Tr p H) : ∀ {b e : Nat} (k : Nat), (∀ y ∈ p, y.1 < b) → (∀ y ∈ p, y.1 < e) → pass e b (gtK k p) = (gtK (k + 1) p, eqK (k + 1) p) := by
  induction t with
  | nil => intro b e k _ _; rfl
  | @node L R a c x tL tR hL hR ihL ihR =>
    intro b e k hb he
    have mx : (x, 1 + max a c) ∈ L ++ (x, 1 + max a c) :: R := List.mem_append_right _ (.head _)
    have hxb : x < b := hb _ mx
    have hxe : x < e := he _ mx
    have lL := tL.le
    have lR := tR.le
    have sg : ∀ j, gtK j (L ++ (x, 1 + max a c) :: R) = gtK j L ++ ((if j < 1 + max a c then [x] else []) ++ gtK j R) := fun j => by
      rw [gtK_app]
      congr 1
      unfold gtK
      rw [List.filter_cons]
      by_cases h : j < 1 + max a c
      · simp [h]
      · simp [h]
    have se : ∀ j, eqK j (L ++ (x, 1 + max a c) :: R) = eqK j L ++ ((if 1 + max a c = j then [x] else []) ++ eqK j R) := fun j => by
      rw [eqK_app]
      congr 1
      unfold eqK
      rw [List.filter_cons]
      by_cases h : 1 + max a c = j
      · simp [h]
      · simp [h]
    rw [sg, sg, se]
    by_cases h1 : max a c ≤ k
    · have e1 : ∀ j, k ≤ j → gtK j L = [] := fun j hj => gtK_nil fun y m => by have := lL y m; omega
      have e2 : ∀ j, k ≤ j → gtK j R = [] := fun j hj => gtK_nil fun y m => by have := lR y m; omega
      rw [e1 k (Nat.le_refl _), e2 k (Nat.le_refl _), e1 _ (Nat.le_succ _), e2 _ (Nat.le_succ _), eqK_nil (p := L) fun y m => by have := lL y m; omega, eqK_nil (p := R) fun y m => by have := lR y m; omega]
      by_cases h2 : k < 1 + max a c
      · have : 1 + max a c = k + 1 := by omega
        rw [if_pos h2, if_neg (by omega), if_pos this]
        show (if x < b ∧ x < e then _ else _) = _
        rw [if_pos ⟨hxb, hxe⟩]; rfl
      · rw [if_neg h2, if_neg (by omega), if_neg (by omega)]; rfl
    · have h2 : k < 1 + max a c := by omega
      rw [if_pos h2, if_pos (by omega), if_neg (by omega), List.singleton_append, pass_app, ihL k (fun y m => hb y (List.mem_append_left _ m)) hL]
      have hc : ¬ (x < (gtK k L).getLastD b ∧ x < (gtK k R).headD e) := by
        rintro ⟨q1, q2⟩
        by_cases hk : k < a
        · obtain ⟨z, mz, ez⟩ := gtK_mem (getLastD_mem (b := b) (gtK_ne tL hk))
          have := hL z mz
          omega
        · have hk' : k < c := by omega
          cases hr : gtK k R with
          | nil => exact gtK_ne tR hk' hr
          | cons y r =>
            rw [hr] at q2
            obtain ⟨z, mz, ez⟩ := gtK_mem (k := k) (p := R) (y := y) (by rw [hr]; exact .head _)
            have := hR z mz
            replace q2 : x < y := q2
            omega
      rw [pass, if_neg hc, ihR k hR (fun y m => he y (List.mem_append_right _ (.tail _ m)))]
      rfl
noncomputable def popW (w : Nat) : Nat → List (Nat × Nat) → List (Nat × Nat) × Nat × List (Nat × Nat)
  | sz, [] => ([], sz, [])
  | sz, (bl, x) :: S => if x < w then ((x, 1 + max bl sz) :: (popW w (1 + max bl sz) S).1, (popW w (1 + max bl sz) S).2) else ([], sz, (bl, x) :: S)
noncomputable def runW : List Nat → List (Nat × Nat) → List (Nat × Nat) × List (Nat × Nat)
  | [], S => ([], S)
  | w :: r, S => ((popW w 0 S).1 ++ (runW r (((popW w 0 S).2.1, w) :: (popW w 0 S).2.2)).1, (runW r (((popW w 0 S).2.1, w) :: (popW w 0 S).2.2)).2)
theorem runW_app : ∀ (l r : List Nat) (S : List (Nat × Nat)), runW (l ++ r) S = ((runW l S).1 ++ (runW r (runW l S).2).1, (runW r (runW l S).2).2)
  | [], r, S => rfl
  | w :: l, r, S => by
    rw [List.cons_append, runW, runW, runW_app l r, List.append_assoc]
noncomputable def under (x : Nat) : List (Nat × Nat) → Prop
  | [] => True
  | s :: _ => x ≤ s.2
theorem popW_under {w sz : Nat} {S : List (Nat × Nat)} (h : under w S) : popW w sz S = ([], sz, S) := by
  cases S with
  | nil => rfl
  | cons s S => obtain ⟨bl, x⟩ := s; rw [popW, if_neg (Nat.not_lt.mpr h)]
theorem stack_tr {p : List (Nat × Nat)} {H : Nat} (t : Tr p H) : ∃ P o o', (∀ S, (∀ y ∈ p, under y.1 S) → runW (p.map (·.1)) S = (o, P ++ S)) ∧ (∀ w S, (∀ y ∈ p, y.1 < w) → popW w 0 (P ++ S) = (o' ++ (popW w H S).1, (popW w H S).2)) ∧ (∀ y ∈ o ++ o', y ∈ p) ∧ (o ++ o').length = p.length := by
  induction t with
  | nil => exact ⟨[], [], [], fun _ _ => rfl, fun _ _ _ => rfl, (fun y m => nomatch m), rfl⟩
  | @node L R a c x tL tR hL hR ihL ihR =>
    obtain ⟨P, o, o', h1, h2, h3, h4⟩ := ihL
    obtain ⟨Q, u, u', k1, k2, k3, k4⟩ := ihR
    refine ⟨Q ++ [(a, x)], o ++ (o' ++ u), u' ++ [(x, 1 + max a c)], fun S hS => ?_, fun w S hw => ?_, fun y m => ?_, ?_⟩
    · have hx : under x S := hS _ (List.mem_append_right _ (.head _))
      rw [List.map_append, List.map_cons, runW_app, h1 S fun y m => hS y (List.mem_append_left _ m)]
      have e1 := h2 x S hL
      rw [popW_under hx, List.append_nil] at e1
      rw [runW, e1, k1 ((a, x) :: S) fun y m => (show y.1 ≤ x from Nat.le_of_lt (hR y m))]
      simp
    · have hx : x < w := hw _ (List.mem_append_right _ (.head _))
      rw [List.append_assoc, k2 w _ fun y m => hw y (List.mem_append_right _ (.tail _ m)), List.singleton_append, popW, if_pos hx]
      simp
    · simp only [List.mem_append, List.mem_singleton] at m
      rcases m with (m | m | m) | m | m
      · exact List.mem_append_left _ (h3 y (List.mem_append_left _ m))
      · exact List.mem_append_left _ (h3 y (List.mem_append_right _ m))
      · exact List.mem_append_right _ (.tail _ (k3 y (List.mem_append_left _ m)))
      · exact List.mem_append_right _ (.tail _ (k3 y (List.mem_append_right _ m)))
      · rw [m]; exact List.mem_append_right _ (.head _)
    · simp only [List.length_append, List.length_cons, List.length_nil] at h4 k4 ⊢
      omega
theorem ring_tr {p : List (Nat × Nat)} {H M : Nat} (t : Tr p H) (hM : ∀ y ∈ p, y.1 < M) : ∃ o, runW (M :: p.map (·.1) ++ [M]) [] = (o, [(H, M), (0, M)]) ∧ (∀ y ∈ o, y ∈ p) ∧ o.length = p.length := by
  obtain ⟨P, o, o', h1, h2, h3, h4⟩ := stack_tr t
  refine ⟨o ++ o', ?_, h3, h4⟩
  have e1 := h1 [(0, M)] fun y m => Nat.le_of_lt (hM y m)
  have e2 := h2 M [(0, M)] hM
  rw [popW_under (w := M) (S := [(0, M)]) (show M ≤ M from Nat.le_refl M), List.append_nil] at e2
  rw [runW_app]
  show ((runW (p.map (·.1)) [(0, M)]).1 ++ _, _) = _
  have e3 : runW (M :: p.map (·.1)) [] = (o, P ++ [(0, M)]) := by
    rw [runW]
    show ([] ++ (runW (p.map (·.1)) [(0, M)]).1, (runW (p.map (·.1)) [(0, M)]).2) = _
    rw [e1]; rfl
  rw [e3, e1, runW, e2]
  show (o ++ (o' ++ []), [(H, M), (0, M)]) = _
  rw [List.append_nil]
theorem dat_str {x : Str} (h : PyData.strOk x = true) (st : List AO) : datS st (.str x) = some (.str x) := by
  show (if PyData.strOk x = true then some (PyData.str x) else none) = _
  rw [if_pos h]
theorem eq_strs {x y : Str} (hx : PyData.strOk x = true) (hy : PyData.strOk y = true) (st : List AO) : eqG (.str x) (.str y) st = some (.bool (x == y), st) := by
  unfold eqG
  rw [dat_str hx, dat_str hy]
  rfl
theorem getI_tup2 {x y : PV} {st : List AO} : getI (.tup [x, y]) (.int 0) st = some (x, st) ∧ getI (.tup [x, y]) (.int 1) st = some (y, st) := by
  constructor
  · unfold getI
    dsimp only
    rw [if_pos (by decide)]
    rfl
  · unfold getI
    dsimp only
    rw [if_pos (by decide)]
    rfl
theorem Q5 {g : Str → Str} {x : Str} (h : (g x).length ≤ 100) (st : List AO) : str1 g [.str x] st = some (.str (g x), st) := if_pos (Zr h)
noncomputable def entP (e : Str × Str) : PV := .tup [.str e.1, .str e.2]
theorem get_nat {i : Nat} (h : i < 1000) : (0 : Int) ≤ (i : Int) ∧ (i : Int) < 2 ^ 62 := ⟨by omega, by omega⟩
theorem getI_str {x : Str} {i u : Nat} (h : i < 1000) (e : x.cps[i]? = some u) (st : List AO) : getI (.str x) (inP i) st = some (.str (one u), st) := by
  simp only [getI, if_pos (get_nat h), Int.toNat_natCast, e]
theorem add_inP (a b : Nat) (st : List AO) : addG (inP a) (inP b) st = some (inP (a + b), st) := rfl
theorem range_get {α : Type} : ∀ (l pre : List α), (List.range' pre.length l.length).filterMap (fun i => (pre ++ l)[i]?) = l
  | [], _ => rfl
  | a :: l, pre => by
    have ih := range_get l (pre ++ [a])
    rw [List.length_append, List.append_assoc] at ih
    rw [List.length_cons, List.range'_succ, List.filterMap_cons, Y1]
    show a :: (List.range' (pre.length + 1) l.length).filterMap (fun i => (pre ++ a :: l)[i]?) = a :: l
    exact congrArg (a :: ·) ih
noncomputable def sgs : List Nat := [34, 92, 35, 32, 59, 61]
noncomputable def sgn (s : Nat) : Nat := sgs.getD s 0
noncomputable def wd (r s : Nat) : Str := ⟨#[97 + r, sgn s]⟩
noncomputable def ud (r s : Nat) : Str := ⟨#[65 + r, sgn s]⟩
theorem wd_ok : ∀ r < 9, ∀ s < 6, (Y9 (wd r s) = true ∧ Y9 (ud r s) = true) ∧ (Txt.upper (wd r s) = ud r s ∧ Txt.lower (wd r s) = wd r s ∧ Txt.lower (ud r s) = wd r s) ∧ PyData.strOk (wd r s) = true ∧ PyData.strOk (ud r s) = true := by decide +kernel
theorem wd_lt (sg : Nat → Nat) (r r' : Nat) : decide ((wd r (sg r)).cps.toList < (wd r' (sg r')).cps.toList) = decide (r < r') := by
  show decide ([97 + r, sgn (sg r)] < [97 + r', sgn (sg r')]) = _
  rw [decide_eq_decide, List.cons_lt_cons_iff, List.cons_lt_cons_iff]
  constructor
  · rintro (h | ⟨h, h' | ⟨_, h'⟩⟩)
    · omega
    · have : r = r' := by omega
      subst this; exact absurd h' (Nat.lt_irrefl _)
    · exact absurd h' (by simp)
  · intro h; exact .inl (by omega)
theorem wd_beq (r s r' s' : Nat) : (wd r s == wd r' s') = (r == r' && sgn s == sgn s') := by
  rw [Bool.eq_iff_iff, beq_iff_eq, Bool.and_eq_true, beq_iff_eq, beq_iff_eq]
  constructor
  · intro h
    have h := congrArg (fun x : Str => x.cps.toList) h
    injection h with h1 h2
    injection h2 with h2 _
    exact ⟨by omega, h2⟩
  · rintro ⟨rfl, h⟩
    unfold wd; rw [h]
theorem ltS_wd (sg : Nat → Nat) (r r' : Nat) (st : List AO) : ltS (.str (wd r (sg r))) (.str (wd r' (sg r'))) st = some (.bool (decide (r < r')), st) := by
  rw [ltS_of, wd_lt]
noncomputable def dS (n : Nat) : Str := Str.ofString (toString (n : Int))
theorem dS_ok : ∀ n < 20, Y9 (dS n) = true ∧ PyData.strOk (dS n) = true ∧ ((n : Int).natAbs.log2 < 1920) := by decide +kernel
theorem str_nat {n : Nat} (h : n < 20) (st : List AO) : strG [inP n] st = some (.str (dS n), st) := by
  show (if (n : Int).natAbs.log2 < 1920 then some (PV.str (dS n), st) else none) = _
  rw [if_pos (dS_ok n h).2.2]
noncomputable def sdefR (w : World) : List PV → SM PV := runK (3 + 0) [] [some 0, some 1, some 2, none] [] (s_sdef w).1
theorem k_sdef (w : World) : FunK (C2 w) 4 (.ref 174) 3 [] (sdefR w) := r_sdef w
noncomputable def hitemsR (w : World) : List PV → SM PV := runK (1 + 0) [] [some 0] [] (Ja w).1
theorem k_hitems (w : World) : FunK (C2 w) 2 (.ref 148) 1 [] (hitemsR w) := r_hitems w
noncomputable abbrev ln_words : List Str := [Str.ofString "numbers", Str.ofString "number", Str.ofString "words", Str.ofString "ahead"]
noncomputable abbrev cn_words : List (Str × Nat) := [(Str.ofString "keys", 2), (Str.ofString "place", 1)]
theorem loc_words : ∀ x ∈ ln_words, (defS (at1 P2 15)).names.lookup x = some .local := by decide +kernel
theorem nd_words : ln_words.Nodup := by decide +kernel
noncomputable def b_words : { b : List Stmt // defB (at1 P2 15) = b } := ⟨[_, _, _, _], rfl⟩
noncomputable def s_words (w : World) : { F : FM PF // ∀ L, Den (C2 w) 1 (FI.fn fd326 326 ln_words cn_words L) RFl (execs (defB (at1 P2 15)) (callEnvC fd326 L 326)) F } := ⟨_, fun L => by
  have ok : FI.Ok (FI.fn fd326 326 ln_words cn_words L) := ok_fn (fd := fd326) rfl rfl rfl loc_words nd_words
  rw [b_words.2]
  exact (Zc (Zj (Xz (cl := []) ⟨by kernel_rfl, by decide +kernel, rfl, by decide +kernel⟩ rfl rfl (X9 (cl := []) (ln := [Str.ofString "place", Str.ofString "number"]) ⟨by kernel_rfl, by decide +kernel, rfl, by decide +kernel⟩ (Y5 (Zm ok (by kernel_rfl) (gn_enumerate w) (bn_enumerate w)) Z1 (Zb (Za (i := 0) ok rfl) Zd) opit_enum) (fun C => (Y6 (Zz (Zf (i := 0) (Zu ok rfl (Zl (by kernel_rfl) (Zl (by kernel_rfl) Zv)) (by decide +kernel)) rfl) (Zz (Zf (i := 1) (Zu ok rfl (Zl (by kernel_rfl) (Zl (by kernel_rfl) Zv)) (by decide +kernel)) rfl) Xd)))) (fun C => Xo) (fun C => (Z0 (Zb (Zt (Za (i := 1) (Zu ok rfl (Zl (by kernel_rfl) (Zl (by kernel_rfl) Zv)) (by decide +kernel)) rfl) Zp op_modI) (Zb (Za (i := 0) (Zu ok rfl (Zl (by kernel_rfl) (Zl (by kernel_rfl) Zv)) (by decide +kernel)) rfl) Zd)))))) (X3 (i := 0) ok rfl (by kernel_rfl) (by kernel_rfl)) (by kernel_rfl)) (Zc (Zj (Yi Zd) (Zf (i := 2) ok rfl)) (Zc (X1 (Y5 (Zm ok (by kernel_rfl) (gn_enumerate w) (bn_enumerate w)) Z1 (Zb (Za (i := 0) ok rfl) Zd) opit_enum) (Y6 (Zz (X3 (i := 1) ok rfl (by kernel_rfl) (by kernel_rfl)) (Zz (Zf (i := 1) ok rfl) Xd))) (Zc (Xi (cl := [(Str.ofString "place", L + 1), (Str.ofString "keys", L + 2)]) ⟨by kernel_rfl, by decide +kernel, rfl, by decide +kernel⟩ rfl rfl (X9 (cl := [(Str.ofString "place", L + 1), (Str.ofString "keys", L + 2)]) (ln := [Str.ofString "key"]) ⟨by kernel_rfl, by decide +kernel, rfl, by decide +kernel⟩ (Xy (Yd (i := 0) ok rfl (by kernel_rfl) (.inl (by kernel_rfl)))) (fun C => (Zf (i := 0) (Zu ok rfl (Zl (by kernel_rfl) Zv) (by decide +kernel)) rfl)) (fun C => (dents_one (Zn (Za (i := 0) (Zu ok rfl (Zl (by kernel_rfl) Zv) (by decide +kernel)) rfl) (Z6 (Yd (i := 0) (Zu ok rfl (Zl (by kernel_rfl) Zv) (by decide +kernel)) rfl (by kernel_rfl) (.inl (by kernel_rfl))) (Yd (i := 1) (Zu ok rfl (Zl (by kernel_rfl) Zv) (by decide +kernel)) rfl (by kernel_rfl) (.inl (by kernel_rfl)))) op_ltT))) (fun C => (Za (i := 0) (Zu ok rfl (Zl (by kernel_rfl) Zv) (by decide +kernel)) rfl))) (Zf (i := 3) ok rfl) (by kernel_rfl)) (Zc (Ys (Zi (Za (i := 2) ok rfl) (Yy F.slot_list_append F.type_list_append) Zh (Zb (Zt (Z6 Zy (Zs (Zm ok (by kernel_rfl) (gn_len w) (bn_len w)) Zh (Zb (Za (i := 3) ok rfl) Zd) op_len)) (Z6 Zy (Zt (Zt (Za (i := 1) ok rfl) Zp op_divI) Zp op_modI)) Yq) Zd) X2) (by kernel_rfl)) Zg))) (Zc (Zq (Za (i := 2) ok rfl)) Zg))))⟩
theorem x_words (w : World) : DefK (C2 w).K 326 fd326 (defB (at1 P2 15)) [Str.ofString "numbers"] ln_words cn_words := ⟨⟨⟨_, _, _, rfl⟩, by kernel_rfl, rfl, rfl, rfl, rfl⟩, rfl, fun L => rfl, by decide +kernel, by decide +kernel, by decide +kernel, loc_words, by decide +kernel⟩
theorem r_words (w : World) : FunK (C2 w) 2 (.ref 326) 1 [] (runK (1 + 0) [] [some 0, none, none, none] [none, none] (s_words w).1) := Yh (x_words w) (dvs := []) (fun _ _ => .nil) rfl (by decide +kernel) (by decide +kernel) (fun s vs ws h1 h2 X => by
  obtain ⟨v0, rfl⟩ := ln1 h1
  obtain rfl := ln0 h2
  exact BindsTo.of_eq (by kernel_rfl)) (s_words w).2
noncomputable abbrev ln_rounds : List Str := [Str.ofString "line", Str.ofString "table", Str.ofString "told", Str.ofString "turn", Str.ofString "count", Str.ofString "before", Str.ofString "step", Str.ofString "here"]
noncomputable abbrev cn_rounds : List (Str × Nat) := []
theorem loc_rounds : ∀ x ∈ ln_rounds, (defS (at1 P2 16)).names.lookup x = some .local := by decide +kernel
theorem nd_rounds : ln_rounds.Nodup := by decide +kernel
noncomputable def b_rounds : { b : List Stmt // defB (at1 P2 16) = b } := ⟨[_, _, _], rfl⟩
noncomputable def Q8 (w : World) : { F : FM PF // ∀ L, Den (C2 w) 5 (FI.fn fd333 333 ln_rounds cn_rounds L) RFl (execs (defB (at1 P2 16)) (callEnvC fd333 L 333)) F } := ⟨_, fun L => by
  have ok : FI.Ok (FI.fn fd333 333 ln_rounds cn_rounds L) := ok_fn (fd := fd333) rfl rfl rfl loc_rounds nd_rounds
  rw [b_rounds.2]
  exact (Zc (Zj (Yi Zd) (Zf (i := 2) ok rfl)) (Zc (X1 (Y5 (Zm ok (by kernel_rfl) (Jf w) (Jh w)) Z1 (Zb Zp (Zb Zp Zd)) X8) (Zf (i := 3) ok rfl) (Zc (Zj (Zs (Zm ok (by kernel_rfl) (gn_len w) (bn_len w)) Zh (Zb (Y2 (Za (i := 0) ok rfl)) Zd) op_len) (Zf (i := 4) ok rfl)) (Zc (Zj (Zi (Za (i := 0) ok rfl) (Zw (C := 310) (fa := 300) (by kernel_rfl)) (Zk (a := 300) (by kernel_rfl)) Zd ((Jq w).ok.weak (by decide))) (Zf (i := 5) ok rfl)) (Zc (Ys (Zi (Za (i := 0) ok rfl) (Zw (C := 310) (fa := 307) (by kernel_rfl)) (Zk (a := 307) (by kernel_rfl)) (Zb (Za (i := 5) ok rfl) Zd) ((k_ptoken w).ok.weak (by decide))) (by kernel_rfl)) (Zc (X1 (Y5 (Zm ok (by kernel_rfl) (Jf w) (Jh w)) Z1 (Zb (Zt (Za (i := 4) ok rfl) Zp op_subI) Zd) X8) (Zf (i := 6) ok rfl) (Zc (Zj (Zi (Za (i := 0) ok rfl) (Zw (C := 310) (fa := 300) (by kernel_rfl)) (Zk (a := 300) (by kernel_rfl)) Zd ((Jq w).ok.weak (by decide))) (Zf (i := 7) ok rfl)) (Zc (den_if (Jg (Xs (Zn (Za (i := 7) ok rfl) (Za (i := 5) ok rfl) op_ltS) (Xs (Zn (Za (i := 7) ok rfl) (Z6 (Y2 (Za (i := 0) ok rfl)) Zp) op_ltS) Q0))) (Zc (Ys (Zi (Za (i := 2) ok rfl) (Yy F.slot_list_append F.type_list_append) Zh (Zb (Zi (Za (i := 1) ok rfl) (Zw (C := 184) (fa := 174) (by kernel_rfl)) (Zk (a := 174) (by kernel_rfl)) (Zb (Zi (Za (i := 7) ok rfl) (Qm F.slot_str_upper F.type_str_upper) Zh Zd op_upper) (Zb (Zs (Zm ok (by kernel_rfl) (gn_str w) (bn_str w)) Z1 (Zb (Za (i := 3) ok rfl) Zd) op_str) Zd)) ((k_sdef w).ok.weak (by decide))) Zd) X2) (by kernel_rfl)) Zg) (Zc (Ys (Zi (Za (i := 0) ok rfl) (Zw (C := 310) (fa := 307) (by kernel_rfl)) (Zk (a := 307) (by kernel_rfl)) (Zb (Za (i := 7) ok rfl) Zd) ((k_ptoken w).ok.weak (by decide))) (by kernel_rfl)) Zg)) (Zc (Zj (Za (i := 7) ok rfl) (Zf (i := 5) ok rfl)) Zg)))) Zg))))) (Zc (Zq (Za (i := 2) ok rfl)) Zg)))⟩
theorem x_rounds (w : World) : DefK (C2 w).K 333 fd333 (defB (at1 P2 16)) [Str.ofString "line", Str.ofString "table"] ln_rounds cn_rounds := ⟨⟨⟨_, _, _, rfl⟩, by kernel_rfl, rfl, rfl, rfl, rfl⟩, rfl, fun L => rfl, by decide +kernel, by decide +kernel, by decide +kernel, loc_rounds, by decide +kernel⟩
theorem r_rounds (w : World) : FunK (C2 w) 6 (.ref 333) 2 [] (runK (2 + 0) [] [some 0, some 1, none, none, none, none, none, none] [] (Q8 w).1) := Yh (x_rounds w) (dvs := []) (fun _ _ => .nil) rfl (by decide +kernel) (by decide +kernel) (fun s vs ws h1 h2 X => by
  obtain ⟨v0, v1, rfl⟩ := ln2 h1
  obtain rfl := ln0 h2
  exact BindsTo.of_eq (by kernel_rfl)) (Q8 w).2
noncomputable abbrev ln_sizes : List Str := [Str.ofString "pile", Str.ofString "ring", Str.ofString "table", Str.ofString "sizes", Str.ofString "told", Str.ofString "word", Str.ofString "size", Str.ofString "blanks", Str.ofString "under"]
noncomputable abbrev cn_sizes : List (Str × Nat) := []
theorem loc_sizes : ∀ x ∈ ln_sizes, (defS (at1 P2 17)).names.lookup x = some .local := by decide +kernel
theorem nd_sizes : ln_sizes.Nodup := by decide +kernel
noncomputable def b_sizes : { b : List Stmt // defB (at1 P2 17) = b } := ⟨[_, _, _], rfl⟩
noncomputable def s_sizes (w : World) : { F : FM PF // ∀ L, Den (C2 w) 4 (FI.fn fd340 340 ln_sizes cn_sizes L) RFl (execs (defB (at1 P2 17)) (callEnvC fd340 L 340)) F } := ⟨_, fun L => by
  have ok : FI.Ok (FI.fn fd340 340 ln_sizes cn_sizes L) := ok_fn (fd := fd340) rfl rfl rfl loc_sizes nd_sizes
  rw [b_sizes.2]
  exact (Zc (den_swap (names := [Str.ofString "sizes", Str.ofString "told"]) (Z0 (Zb (Yi Zd) (Zb (Yi Zd) Zd))) (Xp (Y3 (i := 4) ok rfl) (Xp (Y3 (i := 3) ok rfl) denbs_nil)) (by kernel_rfl)) (Zc (X1 (Xy (Zt (Za (i := 1) ok rfl) (Yp (Za (i := 1) ok rfl) Zx (Yk Zp) Zx) Yq)) (Zf (i := 5) ok rfl) (Zc (Zj Zp (Zf (i := 6) ok rfl)) (Zc (den_while (N := fun _ => 20) (Jg (Xs (Xj (Zi (Za (i := 0) ok rfl) (Y4 (C := 268) (fv := .ref 265) (ty := "function") (by kernel_rfl)) (Zk (a := 265) (by kernel_rfl)) Zd ((k_count w).ok.weak (by decide)))) (Xs (Zn (Z6 (den_subscriptL (Za (i := 0) ok rfl) (Zt (Zi (Za (i := 0) ok rfl) (Y4 (C := 268) (fv := .ref 265) (ty := "function") (by kernel_rfl)) (Zk (a := 265) (by kernel_rfl)) Zd ((k_count w).ok.weak (by decide))) Zp op_subI) (lget_ok w)) Zp) (Za (i := 5) ok rfl) op_ltS) Q0))) (Zc (Zj (Zi (Za (i := 0) ok rfl) (Y4 (C := 268) (fv := .ref 228) (ty := "function") (by kernel_rfl)) (Zk (a := 228) (by kernel_rfl)) Zd ((k_ppop w).ok.weak (by decide))) (Y6 (Zz (Zf (i := 7) ok rfl) (Zz (Zf (i := 8) ok rfl) Xd)))) (Zc (Zj (Zt Zp (Zs (Zm ok (by kernel_rfl) (gn_max w) (bn_max w)) Zh (Zb (Zs (Zm ok (by kernel_rfl) (gn_len w) (bn_len w)) Zh (Zb (Za (i := 7) ok rfl) Zd) op_lenS) (Zb (Za (i := 6) ok rfl) Zd)) op_max2) Yq) (Zf (i := 6) ok rfl)) (Zc (Ys (Zi (Za (i := 3) ok rfl) (Yy F.slot_list_append F.type_list_append) Zh (Zb (Zs (Zm ok (by kernel_rfl) (gn_str w) (bn_str w)) Z1 (Zb (Za (i := 6) ok rfl) Zd) op_str) Zd) X2) (by kernel_rfl)) (Zc (Ys (Zi (Za (i := 4) ok rfl) (Yy F.slot_list_append F.type_list_append) Zh (Zb (Zi (Za (i := 2) ok rfl) (Zw (C := 184) (fa := 174) (by kernel_rfl)) (Zk (a := 174) (by kernel_rfl)) (Zb (Za (i := 8) ok rfl) (Zb Zy Zd)) ((k_sdef w).ok.weak (by decide))) Zd) X2) (by kernel_rfl)) Zg))))) (Zc (Ys (Zi (Za (i := 0) ok rfl) (Y4 (C := 268) (fv := .ref 212) (ty := "function") (by kernel_rfl)) (Zk (a := 212) (by kernel_rfl)) (Zb (Zt Zy (Za (i := 6) ok rfl) op_repS) (Zb (Za (i := 5) ok rfl) Zd)) ((k_ppush w).ok.weak (by decide))) (by kernel_rfl)) Zg)))) (Zc (Zq (Z0 (Zb (Za (i := 3) ok rfl) (Zb (Za (i := 4) ok rfl) Zd)))) Zg)))⟩
theorem x_sizes (w : World) : DefK (C2 w).K 340 fd340 (defB (at1 P2 17)) [Str.ofString "pile", Str.ofString "ring", Str.ofString "table"] ln_sizes cn_sizes := ⟨⟨⟨_, _, _, rfl⟩, by kernel_rfl, rfl, rfl, rfl, rfl⟩, rfl, fun L => rfl, by decide +kernel, by decide +kernel, by decide +kernel, loc_sizes, by decide +kernel⟩
theorem r_sizes (w : World) : FunK (C2 w) 5 (.ref 340) 3 [] (runK (3 + 0) [] [some 0, some 1, some 2, none, none, none, none, none, none] [] (s_sizes w).1) := Yh (x_sizes w) (dvs := []) (fun _ _ => .nil) rfl (by decide +kernel) (by decide +kernel) (fun s vs ws h1 h2 X => by
  obtain ⟨v0, v1, v2, rfl⟩ := ln3 h1
  obtain rfl := ln0 h2
  exact BindsTo.of_eq (by kernel_rfl)) (s_sizes w).2
noncomputable def look (ents : List (Str × Str)) (x : Str) : Option Str := (ents.find? fun e => Txt.lower e.1 == x).map (·.2)
structure NameOk (x : Str) : Prop where
  txt : Y9 x = true
  low : Y9 (Txt.lower x) = true
  len : (Txt.lower x).length ≤ 100
  ok : PyData.strOk (Txt.lower x) = true
noncomputable abbrev E5g (i : Nat) (x : Str) (k v : Option PV) (st : List AO) : ES := ⟨[some (.ref i), some (.str x), some .none, k, v], [], st⟩
noncomputable def kvB : FM PF := seqE (iteE (bindE (bindE (bindE (getL 3) fun p => guardE (isStr p) (bindE (pureE []) fun ps => liftS (str1 Txt.lower (p :: ps)))) fun p => bindE (getL 1) fun q => liftS (eqG p q)) fun p => liftS (truthG p)) (seqE (bindE (getL 4) fun p => pureE (PF.ret p)) (pureE PF.next)) (pureE PF.next)) (pureE PF.next)
noncomputable def kvU : PV → FM Unit := Xr 2 (asCons (setL 3) (asCons (setL 4) asNil))
theorem conv_at (w : World) {es : ES} {i h : Nat} {x : Str} {t : Bool} {F : FM (List PV)} (h1 : es.st[i]? = some (.inst 184 (kvH h))) (h0 : getL 0 es = some (.ref i, es)) (hx : Y9 x = true) (hF : F es = some ([.str x], es)) :
    (bindE (getL 0) fun p => guardE (isInst 184 (Str.ofString "_convert_string_type") p) (bindE F fun ps => bindE (pureE (PV.bool t)) fun q => liftS (convR w (p :: (ps ++ [q]))))) es = some (.str x, es) := by
  refine e_bind h0 (Z4 (Yg h1 (get_cv h)) (e_bind hF (e_bind (y := .bool t) (es₁ := es) rfl ?_)))
  exact Ye (conv_of w hx es.st)
theorem hget_loop {i : Nat} {x : Str} (hx : PyData.strOk x = true) {chk : List AO → Bool} {st : List AO} (hc : chk st = true) : ∀ (ents : List (Str × Str)) (k v : Option PV), (∀ e ∈ ents, NameOk e.1) → ∃ k' v', Yc chk kvU kvB (ents.map entP) (E5g i x k v st) = some ((match look ents x with | some y => .ret (.str y) | none => .next), E5g i x k' v' st)
  | [], k, v, _ => ⟨k, v, Z4 hc rfl⟩
  | e :: ents, k, v, h => by
    have hn := h e (.head _)
    let E := E5g i x (some (.str e.1)) (some (.str e.2)) st
    have cmp : (bindE (bindE (bindE (getL 3) fun p => guardE (isStr p) (bindE (pureE []) fun ps => liftS (str1 Txt.lower (p :: ps)))) fun p => bindE (getL 1) fun q => liftS (eqG p q)) fun p => liftS (truthG p)) E = some (Txt.lower e.1 == x, E) :=
      p_lift (p := .bool (Txt.lower e.1 == x)) (p_bin (p := .str (Txt.lower e.1)) (q := .str x) (p_meth (p := .str e.1) (ps := []) rfl rfl rfl (Q5 hn.len _)) rfl (eq_strs hn.ok hx _)) rfl
    unfold look
    rw [List.find?_cons]
    cases q : Txt.lower e.1 == x with
    | true =>
      rw [q] at cmp
      have hB : kvB E = some (.ret (.str e.2), E) := by
        unfold kvB
        exact e_stop (e_ite (t := true) cmp (e_stop (e_bind (y := .str e.2) (es₁ := E) rfl rfl)))
      exact ⟨_, _, Z4 hc (e_bind (y := ()) (es₁ := E) rfl (e_bind hB rfl))⟩
    | false =>
      rw [q] at cmp
      obtain ⟨k', v', e'⟩ := hget_loop hx hc ents (some (.str e.1)) (some (.str e.2)) fun y m => h y (.tail _ m)
      have hB : kvB E = some (.next, E) := by
        unfold kvB
        exact e_seq (e_ite (t := false) cmp rfl) rfl
      exact ⟨k', v', Z4 hc (e_bind (y := ()) (es₁ := E) rfl (e_bind hB e'))⟩
theorem hget_run (w : World) {st : List AO} {i h : Nat} {ents : List (Str × Str)} {x : Str} (h1 : st[i]? = some (.inst 184 (kvH h))) (h2 : st[h]? = some (.list (ents.map entP))) (hx : NameOk x) (hl : ∀ e ∈ ents, NameOk e.1) :
    hgetR w [.ref i, .str x] st = some ((match look ents (Txt.lower x) with | some y => .str y | none => .none), st) := by
  let E := E5g i x none none st
  let E1 := E5g i (Txt.lower x) none none st
  obtain ⟨k', v', e⟩ := hget_loop (i := i) hx.ok (chkL_of h2) ents none none hl
  have hf : ∀ r, Yc (chkL h (ents.map entP)) kvU kvB (ents.map entP) E1 = r → forE (bindE (bindE (getL 0) fun p => liftS (getA (kFrag w.params) (Str.ofString "_headers") p)) (itsE itsV)) kvU kvB E1 = r := fun r hr => e_bind (Qd (p := .ref h) (p_lift (p := .ref i) rfl (getA_hd w h1)) (itsV_ref h2)) hr
  have hc : (bindE (bindE (getL 0) fun p => guardE (isInst 184 (Str.ofString "_convert_string_type") p) (bindE (consE (bindE (getL 1) fun p => guardE (isStr p) (bindE (pureE []) fun ps => liftS (str1 Txt.lower (p :: ps)))) (pureE [])) fun ps => bindE (pureE (PV.bool true)) fun q => liftS (convR w (p :: (ps ++ [q]))))) fun p => bindE (setL 1 p) fun x => pureE PF.next) E = some (.next, E1) :=
    e_asg (p := .str (Txt.lower x)) (es₁ := E) (conv_at w (es := E) h1 rfl hx.low (p_cons (p_meth (p := .str x) (ps := []) rfl rfl rfl (Q5 hx.len _)) rfl)) rfl
  cases q : look ents (Txt.lower x) with
  | some y =>
    rw [q] at e
    have run : (s_hget w).1 E = some (.ret (.str y), E5g i (Txt.lower x) k' v' st) := by
      simp only [s_hget]
      exact e_seq hc (e_stop (hf _ e))
    exact Z3 run
  | none =>
    rw [q] at e
    have run : (s_hget w).1 E = some (.ret .none, E5g i (Txt.lower x) k' v' st) := by
      simp only [s_hget]
      exact e_seq hc (e_seq (hf _ e) (e_stop rfl))
    exact Z3 run
theorem slice_all {α : Type} : ∀ {l : List α}, l.length ≤ 20 → pick (sliceL l.length none none none) l = l := by
  intro l h
  have : ∀ n < 21, sliceL n none none none = List.range' 0 n := by decide +kernel
  rw [this _ (by omega)]
  unfold pick
  exact range_get l []
theorem get_gt (h : Nat) : kvGet (kvH h) (Str.ofString "get") = none := by kernel_rfl
theorem get_sd (h : Nat) : kvGet (kvH h) (Str.ofString "setdefault") = none := by kernel_rfl
theorem get_it (h : Nat) : kvGet (kvH h) (Str.ofString "items") = none := by kernel_rfl
section
variable {st : List AO} {i h : Nat} {ents : List (Str × Str)} {x v : Str}
noncomputable abbrev E4s (i : Nat) (x v : Str) (r : Option PV) (st : List AO) : ES := ⟨[some (.ref i), some (.str x), some (.str v), r], [], st⟩
theorem sdef_old (w : World) (h1 : st[i]? = some (.inst 184 (kvH h))) (h2 : st[h]? = some (.list (ents.map entP))) (hx : NameOk x) (hl : ∀ e ∈ ents, NameOk e.1) {y : Str} (hy : look ents (Txt.lower x) = some y) : sdefR w [.ref i, .str x, .str v] st = some (.str y, st) := by
  have e := hget_run w h1 h2 hx hl
  rw [hy] at e
  let E (r : Option PV) : ES := E4s i x v r st
  have run : (s_sdef w).1 (E none) = some (.ret (.str y), E (some (.str y))) := by
    simp only [s_sdef]
    refine e_seq (es₁ := E (some (.str y))) (e_asg (p := .str y) (es₁ := E none) (p_meth (p := .ref i) (ps := [.str x]) rfl (Yg h1 (get_gt h)) (p_cons rfl rfl) e) rfl) ?_
    exact e_stop (e_ite (t := false) (es₁ := E (some (.str y))) (p_lift (p := .bool false) (p_bin (p := .str y) (q := .none) rfl rfl rfl) rfl) (e_stop rfl))
  exact Z3 run
theorem sdef_new (w : World) (h1 : st[i]? = some (.inst 184 (kvH h))) (h2 : st[h]? = some (.list (ents.map entP))) (hx : NameOk x) (hv : Y9 v = true) (hl : ∀ e ∈ ents, NameOk e.1) (hz : ents.length ≤ 100) (hy : look ents (Txt.lower x) = none) :
    sdefR w [.ref i, .str x, .str v] st = some (.str v, st.set h (.list ((ents ++ [(x, v)]).map entP))) := by
  have e := hget_run w h1 h2 hx hl
  rw [hy] at e
  let E (r : Option PV) (S : List AO) : ES := E4s i x v r S
  have run : (s_sdef w).1 (E none st) = some (.ret (.str v), E (some .none) (st.set h (.list ((ents ++ [(x, v)]).map entP)))) := by
    simp only [s_sdef]
    refine e_seq (es₁ := E (some .none) st) (e_asg (p := .none) (es₁ := E none st) (p_meth (p := .ref i) (ps := [.str x]) rfl (Yg h1 (get_gt h)) (p_cons rfl rfl) e) rfl) ?_
    refine e_stop (e_ite (t := true) (es₁ := E (some .none) st) (p_lift (p := .bool true) (p_bin (p := .none) (q := .none) rfl rfl rfl) rfl) ?_)
    refine e_seq (es₁ := E (some .none) (st.set h (.list ((ents ++ [(x, v)]).map entP)))) (e_expr (p := .none) ?_) (e_stop rfl)
    refine e_meth (p := .ref h) (es₁ := E (some .none) st) (es₂ := E (some .none) st) (ps := [.tup [.str x, .str v]]) (p_lift (p := .ref i) rfl (getA_hd w h1)) (Xc h2) (p_cons (p_tup2 ?_ ?_) rfl) ?_
    · exact conv_at w (es := E (some .none) st) h1 rfl hx.txt (p_cons rfl rfl)
    · exact conv_at w (es := E (some .none) st) h1 rfl hv (p_cons rfl rfl)
    · rw [List.map_append]
      exact X4 h2 (Zr (by rw [List.length_map]; exact hz))
  exact Z3 run
theorem items_run (w : World) (h1 : st[i]? = some (.inst 184 (kvH h))) {xs : List PV} (h2 : st[h]? = some (.list xs)) (hz : xs.length ≤ 20) : hitemsR w [.ref i] st = some (.lst xs, st) := by
  let E : ES := ⟨[some (.ref i)], [], st⟩
  have run : (Ja w).1 E = some (.ret (.lst xs), E) := by
    simp only [Ja]
    refine e_stop (e_bind (y := .lst xs) (es₁ := E) (e_bind (y := .ref h) (es₁ := E) (p_lift (p := .ref i) rfl (getA_hd w h1)) (e_bind (y := .none) (es₁ := E) rfl (e_bind (y := .none) (es₁ := E) rfl (e_bind (y := .none) (es₁ := E) rfl (Ye ?_))))) rfl)
    have hs : sliceG (.ref h) .none .none .none st = some (.lst (pick (sliceL xs.length none none none) xs), st) := by
      unfold sliceG
      show (if (none : Option Int) ≠ some 0 then (match items? st (.ref h) with | some xs => _ | none => none) else none) = _
      rw [if_pos (by simp), Xb h2]
      show (if xs.length ≤ sizeLine then _ else _) = _
      rw [if_pos (Zr (by omega))]
    rw [hs, slice_all hz]
  exact Z3 run
end
noncomputable abbrev kS : Str := Str.ofString "k"
noncomputable def plS (x v : Str) : Str := x ++ Str.ofString "=" ++ v
noncomputable def rowS (q : Bool) (r s : Nat) : Str := if (q || s != 2) = true then parS kS (wd r s) else plS kS (wd r s)
theorem wd_search : ∀ r < 9, ∀ s < 6, (match ((Sre.forSearch (codeC 0 4227896069 939524097 0 0 0 0 0) (wd r s).cps 0 0 (wd r s).cps.size false).runFor 4).outcome with | some .matched => s != 2 | some .failed => s == 2 | _ => false) = true := by decide +kernel
theorem search_wd {r s : Nat} (hr : r < 9) (hs : s < 6) (st : List AO) : searchM 43 (codeC 0 4227896069 939524097 0 0 0 0 0) [.raw (.ref 43), .str (wd r s)] st = some (s != 2, st) := by
  refine searchM_of (by show 2 ≤ _; omega) ?_
  have h := wd_search r hr s hs
  cases q : ((Sre.forSearch (codeC 0 4227896069 939524097 0 0 0 0 0) (wd r s).cps 0 0 (wd r s).cps.size false).runFor 4).outcome with
  | none => rw [q] at h; cases h
  | some o =>
    rw [q] at h
    cases o with
    | matched => replace h : (s != 2) = true := h; rw [h]; rfl
    | failed =>
      replace h : (s == 2) = true := h
      have : (s != 2) = false := by unfold bne; rw [h]; rfl
      rw [this]; rfl
    | stuck => cases h
theorem wd_esc : ∀ r < 9, ∀ s < 6, (Txt.replace (wd r s) bsl (Str.ofString "\\\\")).length ≤ 3 ∧ (escS (wd r s)).length ≤ 3 := by decide +kernel
theorem repl_of {y z x : Str} {es : ES} (h : x.length + (x.length + 1) * z.length ≤ 16777216) : replE y z (.str x) es = some (.str (Txt.replace x y z), es) := if_pos h
theorem fpar_run (w : World) {r s : Nat} (hr : r < 9) (hs : s < 6) (q : Bool) (st : List AO) : fparR w [.str kS, .str (wd r s), inP q.toNat] st = some (.str (rowS q r s), st) := by
  have sz : ∀ n, n ≤ 4000 → n ≤ sizeLine := fun n h => by rw [sizeLine_eq]; omega
  let v := wd r s
  have hv : v.length = 2 := rfl
  have z1 : (Txt.replace v bsl (Str.ofString "\\\\")).length ≤ 3 := (wd_esc r hr s hs).1
  have z2 : (escS v).length ≤ 3 := (wd_esc r hr s hs).2
  have hk : kS.length = 1 := by decide +kernel
  let E (y : Str) : ES := ⟨[some (.str kS), some (.str y), some (inP q.toNat)], [], st⟩
  have hl : lenS [.str v] st = some (.int v.length, st) := lenS_of (sz _ (by rw [hv]; omega))
  have hg : gtI (.int v.length) (.int 0) st = some (.bool true, st) := rfl
  have l2 : (Str.ofString "\\\\").length = 2 := by decide +kernel
  have l3 : (Str.ofString "\\\"").length = 2 := by decide +kernel
  have hse : (bindE (pureE (PV.raw (Value.ref 43))) fun p => guardE (isPat 43 p) (bindE (consE (getL 1) (pureE [])) fun ps => liftS (searchM 43 (codeC 0 4227896069 939524097 0 0 0 0 0) (p :: ps)))) (E v) = some (s != 2, E v) :=
    e_bind (y := .raw (.ref 43)) (es₁ := E v) rfl (Z4 (Yt rfl) (e_bind (y := [.str v]) (es₁ := E v) (p_cons rfl rfl) (Ye (search_wd hr hs st))))
  have htest : iteE (bindE (getL 2) fun p => liftS (truthG p)) (pureE true) (iteE (bindE (pureE (PV.raw (Value.ref 43))) fun p => guardE (isPat 43 p) (bindE (consE (getL 1) (pureE [])) fun ps => liftS (searchM 43 (codeC 0 4227896069 939524097 0 0 0 0 0) (p :: ps)))) (pureE true) (pureE (BoolOp.Or == BoolOp.And))) (E v) = some ((q || s != 2), E v) := by
    cases q with
    | true => exact e_ite (t := true) (es₁ := E v) (p_lift (p := inP 1) rfl rfl) rfl
    | false =>
      refine e_ite (t := false) (es₁ := E v) (p_lift (p := inP 0) rfl rfl) (e_ite (t := s != 2) hse ?_)
      cases s != 2 <;> rfl
  have head : ∀ {X : FM PF} {y : PV} {es : ES}, X (E v) = some (.ret y, es) → seqE (iteE (iteE (bindE (bindE (getL 1) fun p => bindE (pureE PV.none) fun q => liftS (isNotNone p q)) fun p => liftS (truthG p)) (iteE (bindE (bindE (bindE (consE (getL 1) (pureE [])) fun ps => liftS (lenS ps)) fun p => bindE (pureE (PV.int 0)) fun q => liftS (gtI p q)) fun p => liftS (truthG p)) (pureE true) (pureE false)) (pureE false)) X (seqE (bindE (getL 0) fun p => pureE (PF.ret p)) (pureE PF.next))) (pureE PF.next) (E v) = some (.ret y, es) := fun h =>
    e_stop (e_ite (t := true) (es₁ := E v) (e_ite (t := true) (es₁ := E v) (p_lift (p := .bool true) (p_bin (p := .str v) (q := .none) rfl rfl rfl) rfl) (e_ite (t := true) (es₁ := E v) (p_lift (p := .bool true) (p_bin (p := .int v.length) (q := .int 0) (p_call (ps := [.str v]) (p_cons rfl rfl) hl) rfl hg) rfl) rfl)) h)
  unfold rowS
  cases ht : (q || s != 2) with
  | true =>
    rw [ht] at htest
    have run : (s_fpar w).1 (E v) = some (.ret (.str (parS kS v)), E (escS v)) := by
      simp only [s_fpar]
      refine head (e_stop (e_ite htest ?_))
      refine e_seq (es₁ := E (escS v)) (e_asg (p := .str (escS v)) (es₁ := E v) (e_bind (y := .str (Txt.replace v bsl (Str.ofString "\\\\"))) (es₁ := E v) (e_bind (y := .str v) (es₁ := E v) rfl ?_) ?_) rfl) (e_stop (e_bind (y := .str (parS kS v)) (es₁ := E (escS v)) (e_bind (y := .str kS) (es₁ := E (escS v)) rfl (e_bind (y := .str (escS v)) (es₁ := E (escS v)) rfl ?_)) rfl))
      · exact repl_of (by rw [l2, hv]; omega)
      · exact repl_of (by rw [l3]; omega)
      · exact fstr_of (by rw [hk]; omega) (by decide +kernel)
    exact Z3 run
  | false =>
    rw [ht] at htest
    have run : (s_fpar w).1 (E v) = some (.ret (.str (plS kS v)), E v) := by
      simp only [s_fpar]
      refine head (e_stop (e_ite htest (e_stop (e_bind (y := .str (plS kS v)) (es₁ := E v) (e_bind (y := .str kS) (es₁ := E v) rfl (e_bind (y := .str v) (es₁ := E v) rfl ?_)) rfl))))
      exact fstr2_of (by rw [hk, hv]; omega) (by decide +kernel)
    exact Z3 run
theorem its_at {X : FM (List PV)} {es : ES} {ps : List PV} {y : Its} {G : List PV → List AO → Option Its} (hx : X es = some (ps, es)) (hy : G ps es.st = some y) : bindE X (itsEs G) es = some (y, es) := by
  refine e_bind hx ?_
  unfold itsEs
  rw [hy]; rfl
theorem J2 {α : Type} (n : Nat) (f : α → PV) (L : α → List (Option PV)) (t : α → Bool) (v : α → PV) {chk : List AO → Bool} {S : PV → FM Unit} {T : FM Bool} {X : FM PV} {cel : List (Option PV)} {st : List AO} (hc : chk st = true) :
    ∀ (ns : List α) (zs : List PV) (l : List (Option PV)), l.length = n → (∀ a ∈ ns, (L a).length = n) → (∀ a ∈ ns, ∀ l, l.length = n → S (f a) ⟨l, cel, st⟩ = some ((), ⟨L a, cel, st⟩)) → (∀ a ∈ ns, T ⟨L a, cel, st⟩ = some (t a, ⟨L a, cel, st⟩)) →
      (∀ a ∈ ns, t a = true → X ⟨L a, cel, st⟩ = some (v a, ⟨L a, cel, st⟩)) → zs.length + ns.length ≤ 100 → ∃ l', Z5 chk S T (emitE X) (ns.map f) zs ⟨l, cel, st⟩ = some (zs ++ (ns.filter t).map v, ⟨l', cel, st⟩)
  | [], zs, l, _, _, _, _, _, _ => ⟨l, by rw [List.filter_nil, List.map_nil, List.map_nil, List.append_nil]; exact Z4 hc rfl⟩
  | a :: ns, zs, l, hl, hL, hS, hT, hX, hz => by
    have h1 := hT a (.head _)
    have h0 := hS a (.head _) l hl
    rw [List.length_cons] at hz
    have go := fun zs' hz' => J2 n f L t v hc ns zs' (L a) (hL a (.head _)) (fun b m => hL b (.tail _ m)) (fun b m => hS b (.tail _ m)) (fun b m => hT b (.tail _ m)) (fun b m => hX b (.tail _ m)) hz'
    rw [List.filter_cons]
    cases ht : t a with
    | false =>
      rw [ht] at h1
      obtain ⟨l', h⟩ := go zs (by omega)
      exact ⟨l', Z4 hc (e_bind h0 (e_bind h1 h))⟩
    | true =>
      rw [ht] at h1
      obtain ⟨l', h⟩ := go (zs ++ [v a]) (by rw [List.length_append]; show _ + 1 + _ ≤ _; omega)
      rw [if_pos rfl, List.map_cons]
      rw [List.append_assoc] at h
      exact ⟨l', Z4 hc (e_bind h0 (e_bind h1 (e_bind (Js (hX a (.head _) ht) (by omega)) h)))⟩
theorem compE_gen {α : Type} (n : Nat) (f : α → PV) (L : α → List (Option PV)) (t : α → Bool) (v : α → PV) (ns : List α) {chk : List AO → Bool} {I : FM Its} {S : PV → FM Unit} {T : FM Bool} {X : FM PV} {es : ES} (hi : I es = some ((ns.map f, chk), es)) (hc : chk es.st = true)
    (hL : ∀ a ∈ ns, (L a).length = n) (hS : ∀ a ∈ ns, ∀ l, l.length = n → S (f a) ⟨l, es.cel, es.st⟩ = some ((), ⟨L a, es.cel, es.st⟩)) (hT : ∀ a ∈ ns, T ⟨L a, es.cel, es.st⟩ = some (t a, ⟨L a, es.cel, es.st⟩)) (hX : ∀ a ∈ ns, t a = true → X ⟨L a, es.cel, es.st⟩ = some (v a, ⟨L a, es.cel, es.st⟩)) (hz : ns.length ≤ 100) :
    compE n I S T (emitE X) es = some ((ns.filter t).map v, es) := by
  obtain ⟨l', h⟩ := J2 n f L t v hc ns [] (List.replicate n none) List.length_replicate hL hS hT hX (by rw [List.length_nil]; omega)
  unfold compE
  rw [hi]
  dsimp only
  rw [h]
  rfl
theorem Ju {α : Type} (n : Nat) (f : α → PV) (L : α → List (Option PV)) (v : α → PV) (ns : List α) {chk : List AO → Bool} {I : FM Its} {S : PV → FM Unit} {X : FM PV} {es : ES} (hi : I es = some ((ns.map f, chk), es)) (hc : chk es.st = true)
    (hL : ∀ a ∈ ns, (L a).length = n) (hS : ∀ a ∈ ns, ∀ l, l.length = n → S (f a) ⟨l, es.cel, es.st⟩ = some ((), ⟨L a, es.cel, es.st⟩)) (hX : ∀ a ∈ ns, X ⟨L a, es.cel, es.st⟩ = some (v a, ⟨L a, es.cel, es.st⟩)) (hz : ns.length ≤ 100) :
    compE n I S (pureE true) (emitE X) es = some (ns.map v, es) := by
  have := compE_gen n f L (fun _ => true) v ns (T := pureE true) hi hc hL hS (fun _ _ => rfl) (fun a m _ => hX a m) hz
  rwa [List.filter_eq_self.mpr fun _ _ => rfl] at this
theorem set2 {l : List (Option PV)} {p q : PV} {cel : List (Option PV)} {st : List AO} (hl : l.length = 2) : Xr 2 (asCons (setL 0) (asCons (setL 1) asNil)) (.tup [p, q]) ⟨l, cel, st⟩ = some ((), ⟨[some p, some q], cel, st⟩) := by
  obtain ⟨a, b, rfl⟩ := ln2 hl
  rfl
noncomputable def nu : Nat → List Nat → List (Nat × Nat)
  | _, [] => []
  | k, n :: r => (k, n) :: nu (k + 1) r
theorem nu_enum : ∀ (k : Nat) (ns : List Nat), enumP k (ns.map inP) = (nu k ns).map fun x => .tup [inP x.1, inP x.2]
  | _, [] => rfl
  | k, n :: r => by
    show _ :: enumP (k + 1) (r.map inP) = _
    rw [nu_enum (k + 1) r]; rfl
theorem nu_get : ∀ (k : Nat) (ns : List Nat) (i : Nat), (nu k ns)[i]? = (ns[i]?).map fun n => (k + i, n)
  | _, [], _ => rfl
  | k, n :: r, 0 => rfl
  | k, n :: r, i + 1 => by
    show (nu (k + 1) r)[i]? = (r[i]?).map _
    rw [nu_get (k + 1) r i]
    congr 1
    funext m
    congr 1
    omega
theorem nu_len : ∀ (k : Nat) (ns : List Nat), (nu k ns).length = ns.length
  | _, [] => rfl
  | k, _ :: r => congrArg Nat.succ (nu_len (k + 1) r)
theorem nu_mem {ns : List Nat} {x : Nat × Nat} (m : x ∈ nu 0 ns) : ns[x.1]? = some x.2 ∧ x.1 < ns.length := by
  obtain ⟨i, hi⟩ := List.mem_iff_getElem?.mp m
  rw [nu_get] at hi
  obtain ⟨n, hn, rfl⟩ := Option.map_eq_some_iff.mp hi
  have : 0 + i = i := Nat.zero_add i
  exact ⟨by rw [this]; exact hn, by show 0 + i < _; rw [this]; exact (List.getElem?_eq_some_iff.mp hn).1⟩
noncomputable def keyLt (x y : Nat × Nat) : Bool := if x.2 % 10 = y.2 % 10 then decide (x.1 < y.1) else decide (x.2 % 10 < y.2 % 10)
noncomputable def keyP (x : Nat × Nat) : PV := .tup [inP (x.2 % 10), inP x.1]
noncomputable def rk (ns : List Nat) (x : Nat × Nat) : Nat := ((nu 0 ns).filter fun y => keyLt y x).length
noncomputable def wordOf (ns : List Nat) (x : Nat × Nat) : Str := wd (rk ns x) (x.2 / 10 % 6)
theorem ltT_key (x y : Nat × Nat) (st : List AO) : ltT (keyP x) (keyP y) st = some (.bool (keyLt x y), st) := by
  unfold keyP
  rw [ltT_of]
  congr 3
  unfold keyLt
  by_cases h : x.2 % 10 = y.2 % 10
  · rw [if_pos (by rw [h]), if_pos h, decide_eq_decide]; omega
  · rw [if_neg (by omega), if_neg h, decide_eq_decide]; omega
theorem rk_lt {ns : List Nat} {x : Nat × Nat} (m : x ∈ nu 0 ns) : rk ns x < ns.length := by
  unfold rk
  rw [← nu_len 0 ns]
  refine List.length_filter_lt_length_iff_exists.mpr ⟨x, m, ?_⟩
  unfold keyLt
  rw [if_pos rfl, decide_eq_false (Nat.lt_irrefl _)]; decide
theorem div_nat {a b : Nat} (h : 0 < b) (h' : b < 1000000000) (st : List AO) : divI (inP a) (inP b) st = some (inP (a / b), st) := by
  show (if (b : Int) ≠ 0 ∧ (b : Int).natAbs < 1000000000 then some (PV.int ((a : Int).fdiv b), st) else none) = _
  rw [if_pos ⟨by omega, by omega⟩, Int.fdiv_eq_ediv_of_nonneg _ (by omega)]
  rfl
theorem mod_nat {a b : Nat} (h : 0 < b) (st : List AO) : modI (inP a) (inP b) st = some (inP (a % b), st) := by
  show (if (b : Int) ≠ 0 then some (PV.int ((a : Int).fmod b), st) else none) = _
  rw [if_pos (by omega), Int.fmod_eq_emod_of_nonneg _ (by omega)]
  rfl
theorem getI_lst {xs : List PV} {i : Nat} {y : PV} (h : i < 1000) (e : xs[i]? = some y) (st : List AO) : getI (.lst xs) (inP i) st = some (y, st) := by
  simp only [getI, items?, if_pos (get_nat h), Int.toNat_natCast, e]
theorem letters : ∀ r < 9, (Str.ofString "abcdefghi").cps[r]? = some (97 + r) := by decide +kernel
theorem signs : ∀ s < 6, (Str.ofString "\"\\# ;=").cps[s]? = some (sgn s) := by decide +kernel
theorem add_strs {x y : Str} (h : x.length + y.length ≤ 100) (st : List AO) : addG (.str x) (.str y) st = some (.str (x ++ y), st) := if_pos (Zr h)
section
variable {ns : List Nat} {st : List AO}
noncomputable abbrev nuP (x : Nat × Nat) : PV := .tup [inP x.1, inP x.2]
noncomputable abbrev keysL (ns : List Nat) : PV := .lst ((nu 0 ns).map keyP)
noncomputable abbrev EW (ns : List Nat) (a b c : Option PV) (p : Option PV) (S : List AO) : ES := ⟨[some (.lst (ns.map inP)), a, b, c], [some (keysL ns), p], S⟩
noncomputable def wB : FM PF := (seqE (bindE (bindE (compE 1 (bindE (getC 0) (itsE itsV)) (setL 0) (bindE (bindE (getL 0) fun p => bindE (bindE (getC 0) fun p => bindE (getC 1) fun q => liftS (getI p q)) fun q => liftS (ltT p q)) fun p => liftS (truthG p)) (emitE (getL 0))) fun zs => pureE (PV.lst zs)) fun p => bindE (setL 3 p) fun x => pureE PF.next) (seqE (bindE (bindE (getL 2) fun p => guardE (isLst p) (bindE (consE (bindE (bindE (pureE (PV.str (Str.ofString "abcdefghi"))) fun p => bindE (bindE (consE (getL 3) (pureE [])) fun ps => liftS (lenG ps)) fun q => liftS (getI p q)) fun p => bindE (bindE (pureE (PV.str (Str.ofString "\"\\# ;="))) fun p => bindE (bindE (bindE (getL 1) fun p => bindE (pureE (PV.int 10)) fun q => liftS (divI p q)) fun p => bindE (pureE (PV.int 6)) fun q => liftS (modI p q)) fun q => liftS (getI p q)) fun q => liftS (addG p q)) (pureE [])) fun ps => liftS (Qh (p :: ps)))) fun x => pureE PF.next) (pureE PF.next)))
noncomputable def wU : PV → FM Unit := Xr 2 (asCons (setC 1) (asCons (setL 1) asNil))
theorem wB_run (hn : ns.length ≤ 9) {x : Nat × Nat} (m : x ∈ nu 0 ns) {W : List Str} (hW : W.length ≤ 9) {c : Option PV} : ∃ c', wB (EW ns (some (inP x.2)) (some (.ref st.length)) c (some (inP x.1)) (st ++ [.list (W.map .str)])) = some (.next, EW ns (some (inP x.2)) (some (.ref st.length)) c' (some (inP x.1)) (st ++ [.list ((W ++ [wordOf ns x]).map .str)])) := by
  let A := (nu 0 ns).filter fun y => keyLt y x
  let E (c : Option PV) (S : List AO) := EW ns (some (inP x.2)) (some (.ref st.length)) c (some (inP x.1)) S
  let S0 := st ++ [AO.list (W.map .str)]
  have hr : rk ns x < 9 := Nat.lt_of_lt_of_le (rk_lt m) hn
  have hs : x.2 / 10 % 6 < 6 := Nat.mod_lt _ (by decide)
  have hx : ((nu 0 ns).map keyP)[x.1]? = some (keyP x) := by
    obtain ⟨h1, _⟩ := nu_mem m
    rw [List.getElem?_map, nu_get, h1, Option.map_some, Option.map_some, Nat.zero_add]
  have hx9 : x.1 < 1000 := by have := (nu_mem m).2; omega
  have hlen : (nu 0 ns).length ≤ 100 := by rw [nu_len]; omega
  refine ⟨some (.lst (A.map keyP)), ?_⟩
  unfold wB
  refine e_seq (es₁ := E (some (.lst (A.map keyP))) S0) (e_asg (p := .lst (A.map keyP)) (es₁ := E c S0) (e_lst ?_) rfl) ?_
  · refine compE_gen (es := E c S0) (chk := fun _ => true) 1 keyP (fun y => [some (keyP y)]) (fun y => keyLt y x) keyP (nu 0 ns) (Qd (p := keysL ns) rfl rfl) rfl (fun _ _ => rfl) (fun y _ l hl => ?_) (fun y _ => ?_) (fun _ _ _ => rfl) hlen
    · obtain ⟨a, rfl⟩ := ln1 hl
      rfl
    · exact p_lift (p := .bool (keyLt y x)) (p_bin (p := keyP y) (q := keyP x) rfl (p_bin (p := keysL ns) (q := inP x.1) rfl rfl (getI_lst hx9 hx _)) (ltT_key y x _)) rfl
  · let E1 := E (some (.lst (A.map keyP))) S0
    have hl : lenG [.lst (A.map keyP)] S0 = some (inP (rk ns x), S0) := by
      rw [Qc (xs := A.map keyP) rfl (Zr (by rw [List.length_map]; show rk ns x ≤ 100; omega)), List.length_map]; rfl
    refine e_seq (es₁ := E (some (.lst (A.map keyP))) (st ++ [.list ((W ++ [wordOf ns x]).map .str)])) (e_expr (p := .none) ?_) rfl
    refine e_meth (p := .ref st.length) (ps := [.str (wordOf ns x)]) (es₁ := E1) (es₂ := E1) rfl (Xc (Y1 _ _)) (p_cons ?_ rfl) ?_
    · refine p_bin (p := .str (one (97 + rk ns x))) (q := .str (one (sgn (x.2 / 10 % 6)))) ?_ ?_ (add_strs (by show 1 + 1 ≤ 100; decide) _)
      · exact p_bin (p := .str (Str.ofString "abcdefghi")) (q := inP (rk ns x)) rfl (p_call (ps := [.lst (A.map keyP)]) (p_cons rfl rfl) hl) (getI_str (by omega) (letters _ hr) _)
      · exact p_bin (p := .str (Str.ofString "\"\\# ;=")) (q := inP (x.2 / 10 % 6)) rfl (p_bin (p := inP (x.2 / 10)) (q := inP 6) (p_bin (p := inP x.2) (q := inP 10) rfl rfl (div_nat (by decide) (by decide) _)) rfl (mod_nat (by decide) _)) (getI_str (by omega) (signs _ hs) _)
    · rw [X4 (Y1 st [AO.list (W.map .str)]) (Zr (by rw [List.length_map]; omega)), set_app0, List.map_append]
      rfl
theorem words_loop (hn : ns.length ≤ 9) : ∀ (l : List (Nat × Nat)) (W : List Str) (a c p : Option PV), (∀ x ∈ l, x ∈ nu 0 ns) → W.length + l.length ≤ 9 →
    ∃ a' c' p', Yc (fun _ => true) wU wB (l.map nuP) (EW ns a (some (.ref st.length)) c p (st ++ [.list (W.map .str)])) = some (.next, EW ns a' (some (.ref st.length)) c' p' (st ++ [.list ((W ++ l.map (wordOf ns)).map .str)]))
  | [], W, a, c, p, _, _ => ⟨a, c, p, by rw [List.map_nil, List.map_nil, List.append_nil]; exact Z4 rfl rfl⟩
  | x :: l, W, a, c, p, h, hz => by
    rw [List.length_cons] at hz
    obtain ⟨c1, e1⟩ := wB_run (st := st) hn (h x (.head _)) (W := W) (by omega) (c := c)
    obtain ⟨a', c', p', e2⟩ := words_loop hn l (W ++ [wordOf ns x]) (some (inP x.2)) c1 (some (inP x.1)) (fun y m => h y (.tail _ m)) (by rw [List.length_append]; show _ + 1 + _ ≤ _; omega)
    rw [List.append_assoc] at e2
    exact ⟨a', c', p', Z4 rfl (e_bind (y := ()) rfl (e_bind e1 e2))⟩
end
noncomputable def wordsR0 (w : World) : List PV → SM PV := runK (1 + 0) [] [some 0, none, none, none] [none, none] (s_words w).1
theorem words_run (w : World) {ns : List Nat} (hn : ns.length ≤ 9) (st : List AO) : wordsR0 w [.lst (ns.map inP)] st = some (.ref st.length, st ++ [.list (((nu 0 ns).map (wordOf ns)).map .str)]) := by
  let E0 : ES := ⟨[some (.lst (ns.map inP)), none, none, none], [none, none], st⟩
  let E1 : ES := ⟨[some (.lst (ns.map inP)), none, none, none], [some (keysL ns), none], st⟩
  obtain ⟨a', c', p', e⟩ := words_loop (st := st) hn (nu 0 ns) [] none none none (fun _ m => m) (by rw [nu_len]; show 0 + _ ≤ _; omega)
  rw [List.nil_append] at e
  have hen : ∀ {es : ES}, getL 0 es = some (.lst (ns.map inP), es) → (bindE (consE (getL 0) (pureE [])) (itsEs itsEnum)) es = some (((nu 0 ns).map nuP, fun _ => true), es) := fun h => its_at (p_cons h rfl) ((itsEnum_of _ _).trans (by rw [nu_enum]))
  have run : (s_words w).1 E0 = some (.ret (.ref st.length), EW ns a' (some (.ref st.length)) c' p' (st ++ [.list (((nu 0 ns).map (wordOf ns)).map .str)])) := by
    simp only [s_words]
    refine e_seq (es₁ := E1) (e_asg (p := keysL ns) (es₁ := E0) (e_lst ?_) rfl) ?_
    · refine Ju (es := E0) (chk := fun _ => true) 2 nuP (fun x => [some (inP x.1), some (inP x.2)]) keyP (nu 0 ns) (hen rfl) rfl (fun _ _ => rfl) (fun x _ l hl => set2 hl) (fun x _ => ?_) (by rw [nu_len]; omega)
      exact p_tup2 (p_bin (p := inP x.2) (q := inP 10) rfl rfl (mod_nat (by decide) _)) rfl
    refine e_seq (es₁ := EW ns none (some (.ref st.length)) none none (st ++ [.list []])) (e_asg (p := .ref st.length) (es₁ := EW ns none none none none (st ++ [.list []])) new0 rfl) ?_
    exact e_seq (e_bind (hen rfl) e) (e_stop rfl)
  exact Z3 run
noncomputable def wordsR (ps : List PV) : SM PV := fun st => pik fun r => ∃ ns : List Nat, P3 (ps = [.lst (ns.map inP)]) (ns.length ≤ 9) (r = (.lst (((nu 0 ns).map (wordOf ns)).map .str), st))
theorem inP_inj : ∀ {l l' : List Nat}, l.map inP = l'.map inP → l = l'
  | [], [], _ => rfl
  | [], _ :: _, h => nomatch h
  | _ :: _, [], h => nomatch h
  | a :: l, b :: l', h => by
    rw [List.map_cons, List.map_cons] at h
    injection h with h1 h2
    rw [inP_inj h2, Int.natCast_inj.mp (PV.int.inj h1)]
theorem wordsR_of {ns : List Nat} (hn : ns.length ≤ 9) (st : List AO) : wordsR [.lst (ns.map inP)] st = some (.lst (((nu 0 ns).map (wordOf ns)).map .str), st) :=
  pik_of ⟨_, rfl, hn, rfl⟩ fun z q' => by
    obtain ⟨ns', e, _, r⟩ := q'
    injection e with e _
    rw [inP_inj (PV.lst.inj e)]; exact r
theorem k_words (w : World) : FunK (C2 w) 2 (.ref 326) 1 [] wordsR := (r_words w).spec fun ps st y st' e => by
  obtain ⟨ns, rfl, hn, e'⟩ := Zo e
  clear e; cases e'
  exact ⟨_, _, _, words_run w hn st, Y1 _ _, Nat.le_refl _, rfl, rfl⟩
noncomputable abbrev wP (sg : Nat → Nat) (x : Nat) : PV := .str (wd x (sg x))
noncomputable def tabOf (sg : Nat → Nat) (M : Nat) (L : List (Nat × Nat)) : List (Str × Str) := (wd M (sg M), emS) :: L.map fun y => (ud y.1 (sg y.1), dS y.2)
structure SgOk (sg : Nat → Nat) : Prop where
  lt : ∀ r, sg r < 6
theorem wd_eq {sg : Nat → Nat} (x y : Nat) : (wd x (sg x) == wd y (sg y)) = (x == y) := by
  rw [wd_beq, Bool.eq_iff_iff, Bool.and_eq_true, beq_iff_eq, beq_iff_eq]
  constructor
  · exact fun h => h.1
  · rintro rfl; exact ⟨rfl, rfl⟩
section
variable {sg : Nat → Nat} {M : Nat} {L : List (Nat × Nat)}
theorem name_wd (hs : SgOk sg) {x : Nat} (h : x < 9) : NameOk (wd x (sg x)) := by
  obtain ⟨⟨a, _⟩, ⟨_, b, _⟩, c, _⟩ := wd_ok x h _ (hs.lt x)
  exact ⟨a, by rw [b]; exact a, by rw [b]; show 2 ≤ 100; decide, by rw [b]; exact c⟩
theorem name_ud (hs : SgOk sg) {x : Nat} (h : x < 9) : NameOk (ud x (sg x)) := by
  obtain ⟨⟨a, a'⟩, ⟨_, _, b⟩, c, _⟩ := wd_ok x h _ (hs.lt x)
  exact ⟨a', by rw [b]; exact a, by rw [b]; show 2 ≤ 100; decide, by rw [b]; exact c⟩
theorem tab_names (hs : SgOk sg) (hM : M < 9) (hL : ∀ y ∈ L, y.1 < 9) : ∀ e ∈ tabOf sg M L, NameOk e.1 := by
  intro e m
  rcases List.mem_cons.mp m with rfl | m
  · exact name_wd hs hM
  · obtain ⟨y, my, rfl⟩ := List.mem_map.mp m
    exact name_ud hs (hL y my)
theorem look_map (hs : SgOk sg) {x : Nat} (hx : x < 9) : ∀ L : List (Nat × Nat), (∀ y ∈ L, y.1 < 9) → look (L.map fun y => (ud y.1 (sg y.1), dS y.2)) (wd x (sg x)) = (L.find? fun y => y.1 == x).map fun y => dS y.2
  | [], _ => rfl
  | y :: L, h => by
    have ih := look_map hs hx L fun z m => h z (.tail _ m)
    unfold look at ih ⊢
    rw [List.map_cons, List.find?_cons, List.find?_cons, (wd_ok y.1 (h y (.head _)) _ (hs.lt _)).2.1.2.2, wd_eq]
    cases y.1 == x with
    | true => rfl
    | false => exact ih
theorem look_tab (hs : SgOk sg) (hM : M < 9) (hL : ∀ y ∈ L, y.1 < 9) {x : Nat} (hx : x < 9) : look (tabOf sg M L) (wd x (sg x)) = if M = x then some emS else (L.find? fun y => y.1 == x).map fun y => dS y.2 := by
  have ih := look_map hs hx L hL
  unfold look at ih ⊢
  unfold tabOf
  rw [List.find?_cons, (wd_ok M hM _ (hs.lt _)).2.1.2.1, wd_eq]
  by_cases h : M = x
  · rw [if_pos h, beq_iff_eq.mpr h]; rfl
  · rw [if_neg h, beq_eq_false_iff_ne.mpr h]; exact ih
theorem look_no (hs : SgOk sg) (hM : M < 9) (hL : ∀ y ∈ L, y.1 < 9) {x : Nat} (hx : x < 9) (h1 : x ≠ M) (h2 : x ∉ L.map (·.1)) : look (tabOf sg M L) (Txt.lower (ud x (sg x))) = none := by
  rw [(wd_ok x hx _ (hs.lt _)).2.1.2.2, look_tab hs hM hL hx, if_neg (Ne.symm h1), List.find?_eq_none.mpr fun y m => ?_]
  · rfl
  · rw [beq_iff_eq]
    exact fun e => h2 (e ▸ List.mem_map_of_mem m)
theorem tab_app (x k : Nat) : tabOf sg M L ++ [(ud x (sg x), dS k)] = tabOf sg M (L ++ [(x, k)]) := by
  unfold tabOf; rw [List.map_append]; rfl
theorem tab_len : (tabOf sg M L).length = L.length + 1 := by unfold tabOf; rw [List.length_cons, List.length_map]
end
structure Rd (st : List AO) (i j t h : Nat) (n : Int) (p : PV) (ws : Str) : Prop where
  line : st[i]? = some (.inst 310 (kvW n p ws j))
  tab : st[t]? = some (.inst 184 (kvH h))
  q : ∃ xs, st[j]? = some (.list xs)
  e : ∃ xs, st[h]? = some (.list xs)
  ne : j ≠ h
noncomputable abbrev RS (sg : Nat → Nat) (st : List AO) (j h M : Nat) (Q : List Nat) (L : List (Nat × Nat)) : List AO := (st.set j (.list (Q.map (wP sg)))).set h (.list ((tabOf sg M L).map entP))
noncomputable abbrev RT (sg : Nat → Nat) (st : List AO) (j h M : Nat) (Q : List Nat) (L : List (Nat × Nat)) (D : List Str) : List AO := RS sg st j h M Q L ++ [.list (D.map .str)]
section
variable {st : List AO} {i j t h : Nat} {n : Int} {p : PV} {ws : Str} {sg : Nat → Nat} {M : Nat} {Q : List Nat} {L : List (Nat × Nat)} {D : List Str}
theorem Rd.nes (R : Rd st i j t h n p ws) : P4 (i ≠ j) (i ≠ h) (t ≠ j) (t ≠ h) := by
  obtain ⟨xs, hq⟩ := R.q
  obtain ⟨ys, he⟩ := R.e
  refine ⟨?_, ?_, ?_, ?_⟩ <;> rintro rfl
  · cases R.line.symm.trans hq
  · cases R.line.symm.trans he
  · cases R.tab.symm.trans hq
  · cases R.tab.symm.trans he
theorem rs_len : (RS sg st j h M Q L).length = st.length := by rw [List.length_set, List.length_set]
theorem rt_get {k : Nat} {x : AO} (e : (RS sg st j h M Q L)[k]? = some x) (X : List AO) : (RS sg st j h M Q L ++ X)[k]? = some x := by
  rw [List.getElem?_append_left (List.getElem?_eq_some_iff.mp e).1]; exact e
theorem Rd.gi (R : Rd st i j t h n p ws) : (RS sg st j h M Q L)[i]? = some (.inst 310 (kvW n p ws j)) := by
  obtain ⟨a, b, _, _⟩ := R.nes
  rw [List.getElem?_set_ne (Ne.symm b), List.getElem?_set_ne (Ne.symm a)]; exact R.line
theorem Rd.gt (R : Rd st i j t h n p ws) : (RS sg st j h M Q L)[t]? = some (.inst 184 (kvH h)) := by
  obtain ⟨_, _, a, b⟩ := R.nes
  rw [List.getElem?_set_ne (Ne.symm b), List.getElem?_set_ne (Ne.symm a)]; exact R.tab
theorem Rd.gj (R : Rd st i j t h n p ws) : (RS sg st j h M Q L)[j]? = some (.list (Q.map (wP sg))) := by
  obtain ⟨xs, hq⟩ := R.q
  rw [List.getElem?_set_ne (Ne.symm R.ne), List.getElem?_set_self (lt_of hq)]
theorem Rd.gh (R : Rd st i j t h n p ws) : (RS sg st j h M Q L)[h]? = some (.list ((tabOf sg M L).map entP)) := by
  obtain ⟨ys, he⟩ := R.e
  rw [List.getElem?_set_self (by rw [List.length_set]; exact lt_of he)]
theorem Rd.sj (R : Rd st i j t h n p ws) (Q' : List Nat) (X : List AO) : (RS sg st j h M Q L ++ X).set j (.list (Q'.map (wP sg))) = RS sg st j h M Q' L ++ X := by
  obtain ⟨xs, hq⟩ := R.q
  rw [List.set_append_left _ _ (by rw [rs_len]; exact lt_of hq)]
  congr 1
  rw [List.set_comm _ _ (Ne.symm R.ne), List.set_set]
theorem Rd.sh (R : Rd st i j t h n p ws) (L' : List (Nat × Nat)) (X : List AO) : (RS sg st j h M Q L ++ X).set h (.list ((tabOf sg M L').map entP)) = RS sg st j h M Q L' ++ X := by
  obtain ⟨ys, he⟩ := R.e
  rw [List.set_append_left _ _ (by rw [rs_len]; exact lt_of he), List.set_set]
theorem rt_told : (RT sg st j h M Q L D)[st.length]? = some (.list (D.map .str)) := by
  have := Y1 (RS sg st j h M Q L) [AO.list (D.map .str)]
  rwa [rs_len] at this
theorem rt_set (D' : List Str) : (RT sg st j h M Q L D).set st.length (.list (D'.map .str)) = RT sg st j h M Q L D' := by
  have := set_app0 (RS sg st j h M Q L) [AO.list (D.map .str)] (.list (D'.map .str))
  rwa [rs_len] at this
end
theorem kv_gt (n : Int) (p : PV) (ws : Str) (j : Nat) : kvGet (kvW n p ws j) (Str.ofString "get_token") = none := by kernel_rfl
theorem kv_pt (n : Int) (p : PV) (ws : Str) (j : Nat) : kvGet (kvW n p ws j) (Str.ofString "push_token") = none := by kernel_rfl
section
variable {st : List AO} {i j t h : Nat} {n : Int} {p : PV} {ws : Str} {sg : Nat → Nat} {M : Nat} {Q : List Nat} {L : List (Nat × Nat)} {D : List Str}
theorem gt_at (w : World) {es es' : ES} {k : Nat} {x : PV} {xs : List PV} (h0 : getL k es = some (.ref i, es)) (h1 : es.st[i]? = some (.inst 310 (kvW n p ws j))) (h2 : es.st[j]? = some (.list (x :: xs))) (hz : xs.length ≤ 50) (he : ⟨es.loc, es.cel, es.st.set j (.list xs)⟩ = es') :
    (bindE (getL k) fun p => guardE (isInst 310 (Str.ofString "get_token") p) (bindE (pureE []) fun ps => liftS (tokenR w (p :: ps)))) es = some (x, es') := by
  subst he
  exact e_meth h0 (Yg h1 (kv_gt _ _ _ _)) rfl (J7 w h1 h2 (by rw [sizeLine_eq]; omega))
theorem pt_at (w : World) {es es' : ES} {F : FM PV} {k : Nat} {x : PV} {xs : List PV} (h0 : getL k es = some (.ref i, es)) (hF : F es = some (x, es)) (h1 : es.st[i]? = some (.inst 310 (kvW n p ws j))) (h2 : es.st[j]? = some (.list xs)) (hz : xs.length ≤ 50) (he : ⟨es.loc, es.cel, es.st.set j (.list (xs ++ [x]))⟩ = es') :
    (bindE (bindE (getL k) fun p => guardE (isInst 310 (Str.ofString "push_token") p) (bindE (consE F (pureE [])) fun ps => liftS (ptokR w (p :: ps)))) fun x => pureE PF.next) es = some (.next, es') := by
  subst he
  exact e_expr (p := .none) (e_meth h0 (Yg h1 (kv_pt _ _ _ _)) (p_cons hF rfl) (ptok_run w h1 h2 (Zr (by omega))))
noncomputable abbrev E8 (i t m : Nat) (k : Nat) (c b s x : Option PV) (S : List AO) : ES := ⟨[some (.ref i), some (.ref t), some (.ref m), some (inP k), c, b, s, x], [], S⟩
noncomputable def rB (w : World) : FM PF := (seqE (bindE (bindE (getL 0) fun p => guardE (isInst 310 (Str.ofString "get_token") p) (bindE (pureE []) fun ps => liftS (tokenR w (p :: ps)))) fun p => bindE (setL 7 p) fun x => pureE PF.next) (seqE (iteE (iteE (bindE (bindE (getL 7) fun p => bindE (getL 5) fun q => liftS (ltS p q)) fun p => liftS (truthG p)) (iteE (bindE (bindE (getL 7) fun p => bindE (bindE (bindE (getL 0) fun p => liftS (getA (kFrag w.params) (Str.ofString "pushback") p)) fun p => bindE (pureE (PV.int 0)) fun q => liftS (getI p q)) fun q => liftS (ltS p q)) fun p => liftS (truthG p)) (pureE (BoolOp.And == BoolOp.And)) (pureE false)) (pureE false)) (seqE (bindE (bindE (getL 2) fun p => guardE (isLst p) (bindE (consE (bindE (getL 1) fun p => guardE (isInst 184 (Str.ofString "setdefault") p) (bindE (consE (bindE (getL 7) fun p => guardE (isStr p) (bindE (pureE []) fun ps => liftS (str1 Txt.upper (p :: ps)))) (consE (bindE (consE (getL 3) (pureE [])) fun ps => liftS (strG ps)) (pureE []))) fun ps => liftS (sdefR w (p :: ps)))) (pureE [])) fun ps => liftS (Qh (p :: ps)))) fun x => pureE PF.next) (pureE PF.next)) (seqE (bindE (bindE (getL 0) fun p => guardE (isInst 310 (Str.ofString "push_token") p) (bindE (consE (getL 7) (pureE [])) fun ps => liftS (ptokR w (p :: ps)))) fun x => pureE PF.next) (pureE PF.next))) (seqE (bindE (getL 7) fun p => bindE (setL 5 p) fun x => pureE PF.next) (pureE PF.next))))
theorem rB_run (w : World) (R : Rd st i j t h n p ws) (hs : SgOk sg) {x b y k : Nat} {Q' : List Nat} (hx : x < 9) (hM : M < 9) (hL : ∀ y ∈ L, y.1 < 9) (hk : k < 10) (h1 : x ≠ M) (h2 : x ∉ L.map (·.1)) (hz : Q'.length ≤ 20) (hz2 : L.length ≤ 20) (hz3 : D.length ≤ 20) {c s o : Option PV} :
    rB w (E8 i t st.length k c (some (wP sg b)) s o (RT sg st j h M (x :: y :: Q') L D)) = some (.next, E8 i t st.length k c (some (wP sg x)) s (some (wP sg x))
      (if x < b ∧ x < y then RT sg st j h M (y :: Q') (L ++ [(x, k)]) (D ++ [dS k]) else RT sg st j h M ((y :: Q') ++ [x]) L D)) := by
  let E (b x : Option PV) (S : List AO) := E8 i t st.length k c b s x S
  let S0 := RT sg st j h M (x :: y :: Q') L D
  let S1 := RT sg st j h M (y :: Q') L D
  let X := some (wP sg x)
  have g1 : ∀ {Q L D}, (RT sg st j h M Q L D)[i]? = some (.inst 310 (kvW n p ws j)) := fun {Q L D} => rt_get R.gi _
  have g2 : ∀ {Q L D}, (RT sg st j h M Q L D)[j]? = some (.list (Q.map (wP sg))) := fun {Q L D} => rt_get R.gj _
  have e1 : (bindE (bindE (getL 0) fun p => guardE (isInst 310 (Str.ofString "get_token") p) (bindE (pureE []) fun ps => liftS (tokenR w (p :: ps)))) fun p => bindE (setL 7 p) fun x => pureE PF.next) (E (some (wP sg b)) o S0) = some (.next, E (some (wP sg b)) X S1) :=
    e_asg (p := wP sg x) (es₁ := E (some (wP sg b)) o S1) (gt_at w (i := i) rfl g1 (xs := (y :: Q').map (wP sg)) g2 (by rw [List.length_map, List.length_cons]; omega) (congrArg (fun S => (⟨_, _, S⟩ : ES)) (R.sj (sg := sg) (M := M) (Q := x :: y :: Q') (L := L) (y :: Q') [.list (D.map .str)]))) rfl
  have ec : ∀ {T F : FM PF} {r : Option (PF × ES)}, (if x < b ∧ x < y then T else F) (E (some (wP sg b)) X S1) = r → iteE
                          (iteE
                            (bindE (bindE (getL 7) fun p => bindE (getL 5) fun q => liftS (ltS p q)) fun p =>
                              liftS (truthG p))
                            (iteE
                              (bindE
                                (bindE (getL 7) fun p =>
                                  bindE
                                    (bindE
                                      (bindE (getL 0) fun p =>
                                        liftS (getA (kFrag w.params) (Str.ofString "pushback") p))
                                      fun p => bindE (pureE (PV.int 0)) fun q => liftS (getI p q))
                                    fun q => liftS (ltS p q))
                                fun p => liftS (truthG p))
                              (pureE (BoolOp.And == BoolOp.And)) (pureE false))
                            (pureE false)) T F (E (some (wP sg b)) X S1) = r := fun {T F r} hr => by
    refine e_ite (t := decide (x < b ∧ x < y)) (es₁ := E (some (wP sg b)) X S1) (e_ite (t := decide (x < b)) (es₁ := E (some (wP sg b)) X S1) (p_lift (p := .bool (decide (x < b))) (p_bin (p := wP sg x) (q := wP sg b) rfl rfl (ltS_wd sg x b _)) rfl) ?_) ?_
    · have hi : getI (.ref j) (.int 0) S1 = some (wP sg y, S1) := by
        have : items? S1 (.ref j) = some ((y :: Q').map (wP sg)) := Xb g2
        simp only [getI, this]
        rfl
      by_cases hb : x < b
      · rw [decide_eq_true hb, if_pos rfl]
        refine e_ite (t := decide (x < y)) (es₁ := E (some (wP sg b)) X S1) (p_lift (p := .bool (decide (x < y))) (p_bin (p := wP sg x) (q := wP sg y) rfl (p_bin (p := .ref j) (q := .int 0) (p_lift (p := .ref i) rfl (getA_pb w g1)) rfl hi) (ltS_wd sg x y _)) rfl) ?_
        by_cases hy : x < y
        · rw [decide_eq_true hy, decide_eq_true ⟨hb, hy⟩]; rfl
        · rw [decide_eq_false hy, decide_eq_false fun q => hy q.2]; rfl
      · rw [decide_eq_false hb, decide_eq_false fun q => hb q.1]; rfl
    · rw [← hr]
      by_cases hc : x < b ∧ x < y
      · rw [decide_eq_true hc, if_pos rfl, if_pos hc]
      · rw [decide_eq_false hc, if_neg (by decide), if_neg hc]
  unfold rB
  refine e_seq e1 ?_
  have fin : ∀ S, seqE (bindE (getL 7) fun p => bindE (setL 5 p) fun x => pureE PF.next) (pureE PF.next) (E (some (wP sg b)) X S) = some (.next, E X X S) := fun S => e_seq (es₁ := E X X S) rfl rfl
  by_cases hc : x < b ∧ x < y
  · rw [if_pos hc]
    refine e_seq (es₁ := E (some (wP sg b)) X (RT sg st j h M (y :: Q') (L ++ [(x, k)]) (D ++ [dS k]))) (ec ?_) (fin _)
    rw [if_pos hc]
    refine e_seq (es₁ := E (some (wP sg b)) X (RT sg st j h M (y :: Q') (L ++ [(x, k)]) (D ++ [dS k]))) (e_expr (p := .none) ?_) rfl
    have hu : Txt.upper (wd x (sg x)) = ud x (sg x) := (wd_ok x hx _ (hs.lt x)).2.1.1
    have es := sdef_new (st := S1) (i := t) (h := h) (x := ud x (sg x)) (v := dS k) w (rt_get R.gt _) (rt_get R.gh _) (name_ud hs hx) (dS_ok k (by omega)).1 (tab_names hs hM hL) (by rw [tab_len]; omega) (look_no hs hM hL hx h1 h2)
    rw [tab_app, R.sh] at es
    refine e_meth (p := .ref st.length) (ps := [.str (dS k)]) (es₁ := E (some (wP sg b)) X S1) (es₂ := E (some (wP sg b)) X (RT sg st j h M (y :: Q') (L ++ [(x, k)]) D)) rfl (Xc rt_told) (e_cons (es₁ := E (some (wP sg b)) X (RT sg st j h M (y :: Q') (L ++ [(x, k)]) D)) (e_meth (p := .ref t) (ps := [.str (ud x (sg x)), .str (dS k)]) (es₁ := E (some (wP sg b)) X S1) (es₂ := E (some (wP sg b)) X S1) rfl (Yg (rt_get R.gt _) (get_sd h)) (p_cons ?_ (p_cons (p_call (ps := [inP k]) (p_cons rfl rfl) (str_nat (by omega) _)) rfl)) es) rfl) ?_
    · have := Q5 (g := Txt.upper) (x := wd x (sg x)) (by rw [hu]; show 2 ≤ 100; decide) S1
      rw [hu] at this
      exact p_meth (p := wP sg x) (ps := []) rfl rfl rfl this
    · rw [X4 rt_told (Zr (by rw [List.length_map]; omega))]
      have := rt_set (sg := sg) (st := st) (j := j) (h := h) (M := M) (Q := y :: Q') (L := L ++ [(x, k)]) (D := D) (D ++ [dS k])
      rw [List.map_append] at this
      exact congrArg some (congrArg (Prod.mk PV.none) this)
  · rw [if_neg hc]
    refine e_seq (es₁ := E (some (wP sg b)) X (RT sg st j h M ((y :: Q') ++ [x]) L D)) (ec ?_) (fin _)
    rw [if_neg hc]
    refine e_seq (pt_at w (i := i) rfl rfl g1 g2 (by rw [List.length_map, List.length_cons]; omega) ?_) rfl
    show (⟨_, _, S1.set j (.list ((y :: Q').map (wP sg) ++ [wP sg x]))⟩ : ES) = _
    have := R.sj (sg := sg) (M := M) (Q := y :: Q') (L := L) ((y :: Q') ++ [x]) [.list (D.map .str)]
    rw [List.map_append] at this
    exact congrArg (fun S => (⟨_, _, S⟩ : ES)) this
end
theorem rg_fin : ∀ n < 41, Builtin.Range.small 0 ((n : Nat) : Int) 1 = true ∧ (Builtin.Range.rangeSize 0 ((n : Nat) : Int) 1).toNat = n := by decide +kernel
theorem its_range (n : Nat) (h : n < 41) (st : List AO) : Xv [inP n] st = some ((List.range n).map inP, fun _ => true) := by
  have h1 := (rg_fin n h).1
  have h2 : rangeP 0 (n : Int) 1 = (List.range n).map inP := by
    unfold rangeP
    rw [(rg_fin n h).2]
    refine List.map_congr_left fun i _ => ?_
    show PV.int (0 + (i : Int) * 1) = PV.int i
    rw [Int.mul_one, Int.zero_add]
  exact (itsRange_1 h1 st).trans (by rw [h2])
theorem rg19 (st : List AO) : Xv [.int 1, .int 10] st = some ((List.range' 1 9).map inP, fun _ => true) := itsRange_2 (by decide +kernel) st
theorem sub_one (a : Nat) (st : List AO) : subI (inP (a + 1)) (.int 1) st = some (inP a, st) := by
  show some (PV.int (((a + 1 : Nat) : Int) - 1), st) = _
  rw [show (((a + 1 : Nat) : Int) - 1) = (a : Int) by omega]
section
variable {st : List AO} {i j t h : Nat} {n : Int} {p : PV} {ws : Str} {sg : Nat → Nat} {M : Nat}
theorem r_loop (w : World) (R : Rd st i j t h n p ws) (hs : SgOk sg) (hM : M < 9) {k : Nat} (hk : k < 10) {c : Option PV} : ∀ (r : List Nat) (its : List PV) (K : List Nat) (L : List (Nat × Nat)) (D : List Str) (b : Nat) (s o : Option PV),
    its.length = r.length → (∀ x ∈ r, x < 9 ∧ x ≠ M ∧ x ∉ L.map (·.1)) → r.Nodup → (∀ y ∈ L, y.1 < 9) → r.length + K.length ≤ 18 → r.length + L.length ≤ 18 → r.length + D.length ≤ 18 →
    ∃ b' s' o', Yc (fun _ => true) (setL 6) (rB w) its (E8 i t st.length k c (some (wP sg b)) s o (RT sg st j h M (r ++ M :: K) L D)) =
      some (.next, E8 i t st.length k c b' s' o' (RT sg st j h M (M :: (K ++ (pass M b r).1)) (L ++ (pass M b r).2.map fun x => (x, k)) (D ++ (pass M b r).2.map fun _ => dS k)))
  | [], its, K, L, D, b, s, o, hi, _, _, _, _, _, _ => by
    rw [List.length_eq_zero_iff.mp hi]
    refine ⟨some (wP sg b), s, o, Z4 rfl ?_⟩
    show some (PF.next, E8 i t st.length k c (some (wP sg b)) s o (RT sg st j h M (M :: K) L D)) = some (PF.next, E8 i t st.length k c (some (wP sg b)) s o (RT sg st j h M (M :: (K ++ [])) (L ++ []) (D ++ [])))
    rw [List.append_nil, List.append_nil, List.append_nil]
  | x :: r, [], K, L, D, b, s, o, hi, _, _, _, _, _, _ => nomatch hi
  | x :: r, a :: its, K, L, D, b, s, o, hi, hr, nd, hL, z1, z2, z3 => by
    rw [List.nodup_cons] at nd
    rw [List.length_cons] at z1 z2 z3
    obtain ⟨x1, x2, x3⟩ := hr x (.head _)
    obtain ⟨y, Q', hq, hy, hl⟩ : ∃ y Q', r ++ M :: K = y :: Q' ∧ r.headD M = y ∧ Q'.length = r.length + K.length := by
      cases r with
      | nil => exact ⟨M, K, rfl, rfl, (Nat.zero_add _).symm⟩
      | cons z r => exact ⟨z, r ++ M :: K, rfl, rfl, by rw [List.length_append, List.length_cons, List.length_cons]; omega⟩
    have e1 := rB_run w R hs (x := x) (b := b) (y := y) (k := k) (Q' := Q') (L := L) (D := D) x1 hM hL hk x2 x3 (by omega) (by omega) (by omega) (c := c) (s := some a) (o := o)
    rw [← hq] at e1
    have hpass : pass M b (x :: r) = if x < b ∧ x < y then ((pass M x r).1, x :: (pass M x r).2) else (x :: (pass M x r).1, (pass M x r).2) := by rw [pass, hy]
    have hlen : its.length = r.length := Nat.succ.inj hi
    rw [List.cons_append]
    by_cases hc : x < b ∧ x < y
    · rw [if_pos hc] at e1 hpass
      obtain ⟨b', s', o', e2⟩ := r_loop w R hs hM hk (c := c) r its K (L ++ [(x, k)]) (D ++ [dS k]) x (some a) (some (wP sg x)) hlen (fun z m => by
          obtain ⟨h1, h2, h3⟩ := hr z (.tail _ m)
          refine ⟨h1, h2, ?_⟩
          rw [List.map_append, List.mem_append]
          rintro (q | q)
          · exact h3 q
          · exact nd.1 (by have e : z = x := List.mem_singleton.mp q
                           rw [← e]; exact m)) nd.2 (fun z m => by
          rcases List.mem_append.mp m with m | m
          · exact hL z m
          · rw [List.mem_singleton.mp m]; exact x1) (by omega) (by rw [List.length_append]; show _ + (_ + 1) ≤ _; omega) (by rw [List.length_append]; show _ + (_ + 1) ≤ _; omega)
      rw [List.append_assoc, List.append_assoc] at e2
      rw [hpass]
      exact ⟨b', s', o', Z4 rfl (e_bind (y := ()) rfl (e_bind e1 e2))⟩
    · rw [if_neg hc] at e1 hpass
      obtain ⟨b', s', o', e2⟩ := r_loop w R hs hM hk (c := c) r its (K ++ [x]) L D x (some a) (some (wP sg x)) hlen (fun z m => hr z (.tail _ m)) nd.2 hL (by rw [List.length_append]; show _ + (_ + 1) ≤ _; omega) (by omega) (by omega)
      rw [List.append_assoc] at e1 e2
      rw [hpass]
      exact ⟨b', s', o', Z4 rfl (e_bind (y := ()) rfl (e_bind e1 e2))⟩
noncomputable def laidK (P : List (Nat × Nat)) (k : Nat) : List (Nat × Nat) := (List.range k).flatMap fun m => (eqK (m + 1) P).map fun x => (x, m + 1)
theorem Jp (P : List (Nat × Nat)) (k : Nat) : laidK P (k + 1) = laidK P k ++ (eqK (k + 1) P).map fun x => (x, k + 1) := by
  unfold laidK
  rw [List.range_succ, List.flatMap_append, List.flatMap_singleton]
theorem laid_mem {P : List (Nat × Nat)} {k : Nat} {y : Nat × Nat} : y ∈ laidK P k ↔ y ∈ P ∧ 0 < y.2 ∧ y.2 ≤ k := by
  unfold laidK eqK
  simp only [List.mem_flatMap, List.mem_range, List.mem_map, List.mem_filter, beq_iff_eq]
  constructor
  · rintro ⟨m, hm, x, ⟨z, ⟨hz, e⟩, rfl⟩, rfl⟩
    have : (z.1, m + 1) = z := by rw [← e]
    rw [this]
    exact ⟨hz, by omega, by omega⟩
  · rintro ⟨hy, h1, h2⟩
    exact ⟨y.2 - 1, by omega, y.1, ⟨y, ⟨hy, by omega⟩, rfl⟩, by rw [Nat.sub_add_cancel h1]⟩
theorem pair_eq {y z : Nat × Nat} : ∀ {P : List (Nat × Nat)}, (P.map (·.1)).Nodup → y ∈ P → z ∈ P → y.1 = z.1 → y = z := by
  intro P
  induction P with
  | nil => intro _ h; cases h
  | cons a P ih =>
    intro nd hy hz e
    rw [List.map_cons, List.nodup_cons] at nd
    rcases List.mem_cons.mp hy with q | q
    · rcases List.mem_cons.mp hz with q' | q'
      · rw [q, q']
      · exact absurd (by rw [← q, e]; exact List.mem_map_of_mem q') nd.1
    · rcases List.mem_cons.mp hz with q' | q'
      · exact absurd (by rw [← q', ← e]; exact List.mem_map_of_mem q) nd.1
      · exact ih nd.2 q q' e
theorem split_len (P : List (Nat × Nat)) (k : Nat) : (gtK (k + 1) P).length + (eqK (k + 1) P).length = (gtK k P).length := by
  unfold gtK eqK
  rw [List.length_map, List.length_map, List.length_map]
  induction P with
  | nil => rfl
  | cons y P ih =>
    rw [List.filter_cons, List.filter_cons, List.filter_cons]
    by_cases h1 : k + 1 < y.2
    · have h2 : k < y.2 := by omega
      have h3 : ¬ (y.2 == k + 1) = true := by rw [beq_iff_eq]; omega
      rw [if_pos (decide_eq_true h1), if_pos (decide_eq_true h2), if_neg h3, List.length_cons, List.length_cons]; omega
    · by_cases h2 : k < y.2
      · have h3 : (y.2 == k + 1) = true := by rw [beq_iff_eq]; omega
        rw [if_neg (by simpa using h1), if_pos (decide_eq_true h2), if_pos h3, List.length_cons, List.length_cons]; omega
      · have h3 : ¬ (y.2 == k + 1) = true := by rw [beq_iff_eq]; omega
        rw [if_neg (by simpa using h1), if_neg h3, if_neg (by simpa using h2)]; exact ih
theorem Qn (P : List (Nat × Nat)) : ∀ k, (laidK P k).length + (gtK k P).length ≤ P.length
  | 0 => by
    show 0 + _ ≤ _
    unfold gtK
    rw [List.length_map, Nat.zero_add]; exact List.length_filter_le _ _
  | k + 1 => by
    have := Qn P k
    have := split_len P k
    rw [Jp, List.length_append, List.length_map]; omega
noncomputable def oR (w : World) : FM PF := (seqE (bindE (bindE (consE (bindE (getL 0) fun p => liftS (getA (kFrag w.params) (Str.ofString "pushback") p)) (pureE [])) fun ps => liftS (lenG ps)) fun p => bindE (setL 4 p) fun x => pureE PF.next) (seqE (bindE (bindE (getL 0) fun p => guardE (isInst 310 (Str.ofString "get_token") p) (bindE (pureE []) fun ps => liftS (tokenR w (p :: ps)))) fun p => bindE (setL 5 p) fun x => pureE PF.next) (seqE (bindE (bindE (getL 0) fun p => guardE (isInst 310 (Str.ofString "push_token") p) (bindE (consE (getL 5) (pureE [])) fun ps => liftS (ptokR w (p :: ps)))) fun x => pureE PF.next) (seqE (forE (bindE (consE (bindE (getL 4) fun p => bindE (pureE (PV.int 1)) fun q => liftS (subI p q)) (pureE [])) (itsEs Xv)) (setL 6) (rB w)) (pureE PF.next)))))
noncomputable abbrev dK (P : List (Nat × Nat)) (k : Nat) : List Str := (laidK P k).map fun y => dS y.2
theorem oR_run (w : World) (R : Rd st i j t h n p ws) (hs : SgOk sg) (hM : M < 9) {P : List (Nat × Nat)} {H : Nat} (T : Tr P H) (hP : ∀ y ∈ P, y.1 < M) (nd : (P.map (·.1)).Nodup) (hz : P.length ≤ 8) {k : Nat} (hk : k < 9) {c b s o : Option PV} :
    ∃ c' b' s' o', oR w (E8 i t st.length (k + 1) c b s o (RT sg st j h M (M :: gtK k P) (laidK P k) (dK P k))) = some (.next, E8 i t st.length (k + 1) c' b' s' o' (RT sg st j h M (M :: gtK (k + 1) P) (laidK P (k + 1)) (dK P (k + 1)))) := by
  let E (c b : Option PV) (Q : List Nat) := E8 i t st.length (k + 1) c b s o (RT sg st j h M Q (laidK P k) (dK P k))
  have g1 : ∀ {Q L D}, (RT sg st j h M Q L D)[i]? = some (.inst 310 (kvW n p ws j)) := fun {Q L D} => rt_get R.gi _
  have g2 : ∀ {Q L D}, (RT sg st j h M Q L D)[j]? = some (.list (Q.map (wP sg))) := fun {Q L D} => rt_get R.gj _
  have hll := Qn P k
  have hc : lenG [.ref j] (RT sg st j h M (M :: gtK k P) (laidK P k) (dK P k)) = some (inP ((gtK k P).length + 1), RT sg st j h M (M :: gtK k P) (laidK P k) (dK P k)) := by
    rw [Qc (Xb g2) (Zr (by rw [List.length_map, List.length_cons]; omega)), List.length_map, List.length_cons]
  obtain ⟨b', s', o', e⟩ := r_loop w R hs hM (k := k + 1) (by omega) (c := some (inP ((gtK k P).length + 1))) (gtK k P) ((List.range (gtK k P).length).map inP) [] (laidK P k) (dK P k) M s o (by rw [List.length_map, List.length_range]) (fun x m => by
      obtain ⟨z, mz, rfl⟩ := gtK_mem m
      have := hP z mz
      refine ⟨by omega, by omega, fun q => ?_⟩
      obtain ⟨y, my, e⟩ := List.mem_map.mp q
      obtain ⟨h1, _, h2⟩ := laid_mem.mp my
      obtain ⟨z', mz', e'⟩ := List.mem_map.mp m
      obtain ⟨m1, m2⟩ := List.mem_filter.mp mz'
      have : y = z' := pair_eq nd h1 m1 (e.trans e'.symm)
      rw [this] at h2
      have m2 := of_decide_eq_true m2
      omega) (List.Sublist.nodup (List.Sublist.map _ List.filter_sublist) nd) (fun y m => by have := hP y (laid_mem.mp m).1; omega) (by rw [List.length_nil]; omega) (by omega) (by rw [List.length_map]; omega)
  rw [pass_tr T k hP hP, List.nil_append, ← Jp] at e
  have hd : dK P k ++ (eqK (k + 1) P).map (fun _ => dS (k + 1)) = dK P (k + 1) := by
    show _ = (laidK P (k + 1)).map _
    rw [Jp, List.map_append, List.map_map]; rfl
  rw [hd] at e
  refine ⟨some (inP ((gtK k P).length + 1)), b', s', o', ?_⟩
  unfold oR
  refine e_seq (es₁ := E (some (inP ((gtK k P).length + 1))) b (M :: gtK k P)) (e_asg (p := inP ((gtK k P).length + 1)) (es₁ := E c b (M :: gtK k P)) (p_call (ps := [.ref j]) (p_cons (p_lift (p := .ref i) rfl (getA_pb w g1)) rfl) hc) rfl) ?_
  let c1 := some (inP ((gtK k P).length + 1))
  refine e_seq (es₁ := E c1 (some (wP sg M)) (gtK k P)) (e_asg (p := wP sg M) (es₁ := E c1 b (gtK k P)) (gt_at w (i := i) rfl g1 (xs := (gtK k P).map (wP sg)) g2 (by rw [List.length_map]; omega) (congrArg (fun S => (⟨_, _, S⟩ : ES)) (R.sj (sg := sg) (M := M) (Q := M :: gtK k P) (L := laidK P k) (gtK k P) [.list ((dK P k).map .str)]))) rfl) ?_
  have hpt := R.sj (sg := sg) (M := M) (Q := gtK k P) (L := laidK P k) (gtK k P ++ [M]) [.list ((dK P k).map .str)]
  rw [List.map_append] at hpt
  refine e_seq (es₁ := E c1 (some (wP sg M)) (gtK k P ++ [M])) (pt_at w (i := i) rfl rfl g1 g2 (by rw [List.length_map]; omega) (congrArg (fun S => (⟨_, _, S⟩ : ES)) hpt)) ?_
  exact e_seq (e_bind (its_at (ps := [inP (gtK k P).length]) (p_cons (p_bin (p := inP ((gtK k P).length + 1)) (q := .int 1) rfl rfl (sub_one _ _)) rfl) (its_range _ (by omega) _)) e) rfl
theorem oR_loop (w : World) (R : Rd st i j t h n p ws) (hs : SgOk sg) (hM : M < 9) {P : List (Nat × Nat)} {H : Nat} (T : Tr P H) (hP : ∀ y ∈ P, y.1 < M) (nd : (P.map (·.1)).Nodup) (hz : P.length ≤ 8) : ∀ (m k : Nat) (u c b s o : Option PV), k + m = 9 →
    ∃ u' c' b' s' o', Yc (fun _ => true) (setL 3) (oR w) ((List.range' (k + 1) m).map inP) ⟨[some (.ref i), some (.ref t), some (.ref st.length), u, c, b, s, o], [], RT sg st j h M (M :: gtK k P) (laidK P k) (dK P k)⟩ = some (.next, ⟨[some (.ref i), some (.ref t), some (.ref st.length), u', c', b', s', o'], [], RT sg st j h M (M :: gtK 9 P) (laidK P 9) (dK P 9)⟩)
  | 0, k, u, c, b, s, o, hk => by
    obtain rfl : k = 9 := by omega
    exact ⟨u, c, b, s, o, Z4 rfl rfl⟩
  | m + 1, k, u, c, b, s, o, hk => by
    obtain ⟨c', b', s', o', e⟩ := oR_run w R hs hM T hP nd hz (k := k) (by omega) (c := c) (b := b) (s := s) (o := o)
    obtain ⟨u2, c2, b2, s2, o2, e2⟩ := oR_loop w R hs hM T hP nd hz m (k + 1) (some (inP (k + 1))) c' b' s' o' (by omega)
    exact ⟨u2, c2, b2, s2, o2, Z4 rfl (e_bind (y := ()) rfl (e_bind e e2))⟩
end
noncomputable def roundsR (w : World) : List PV → SM PV := runK (2 + 0) [] [some 0, some 1, none, none, none, none, none, none] [] (Q8 w).1
theorem k_rounds (w : World) : FunK (C2 w) 6 (.ref 333) 2 [] (roundsR w) := r_rounds w
theorem rounds_run (w : World) {st : List AO} {i j t h : Nat} {n : Int} {p : PV} {ws : Str} {sg : Nat → Nat} {M : Nat} (h1 : st[i]? = some (.inst 310 (kvW n p ws j))) (h2 : st[t]? = some (.inst 184 (kvH h))) {P : List (Nat × Nat)} {H : Nat} (h3 : st[j]? = some (.list ((M :: P.map (·.1)).map (wP sg)))) (h4 : st[h]? = some (.list ((tabOf sg M []).map entP))) (ne : j ≠ h)
    (hs : SgOk sg) (hM : M < 9) (T : Tr P H) (hP : ∀ y ∈ P, y.1 < M) (nd : (P.map (·.1)).Nodup) (hz : P.length ≤ 8) : roundsR w [.ref i, .ref t] st = some (.ref st.length, RT sg st j h M [M] (laidK P 9) (dK P 9)) := by
  have R : Rd st i j t h n p ws := ⟨h1, h2, ⟨_, h3⟩, ⟨_, h4⟩, ne⟩
  let E (m : Option PV) (S : List AO) : ES := ⟨[some (.ref i), some (.ref t), m, none, none, none, none, none], [], S⟩
  have g0 : gtK 0 P = P.map (·.1) := by
    unfold gtK
    rw [List.filter_eq_self.mpr fun y m => decide_eq_true (T.pos y m)]
  have e0 : st ++ [AO.list []] = RT sg st j h M (M :: gtK 0 P) (laidK P 0) (dK P 0) := by
    show _ = (st.set j (.list ((M :: gtK 0 P).map (wP sg)))).set h (.list ((tabOf sg M []).map entP)) ++ [.list []]
    rw [g0, Y7 h3, Y7 h4]
  have g9 : gtK 9 P = [] := gtK_nil fun y m => by have := T.le y m; have := T.len; omega
  obtain ⟨u, c, b, s, o, e⟩ := oR_loop w R hs hM T hP nd hz 9 0 none none none none none rfl
  rw [g9, ← e0] at e
  have run : (Q8 w).1 (E none st) = some (.ret (.ref st.length), ⟨[some (.ref i), some (.ref t), some (.ref st.length), u, c, b, s, o], [], RT sg st j h M [M] (laidK P 9) (dK P 9)⟩) := by
    simp only [Q8]
    refine e_seq (es₁ := E (some (.ref st.length)) (st ++ [.list []])) (e_asg (p := .ref st.length) (es₁ := E none (st ++ [.list []])) new0 rfl) ?_
    exact e_seq (e_bind (its_at (ps := [.int 1, .int 10]) rfl (rg19 _)) e) (e_stop rfl)
  exact Z3 run
noncomputable def blS (n : Nat) : Str := ⟨(List.replicate n 32).toArray⟩
noncomputable def cellP (sg : Nat → Nat) (c : Nat × Nat) : PV := .tup [.str (blS c.1), wP sg c.2]
noncomputable abbrev pileP (sg : Nat → Nat) (S : List (Nat × Nat)) : List PV := (S.map (cellP sg)).reverse
noncomputable abbrev PT (sg : Nat → Nat) (st : List AO) (a : Nat) (S : List (Nat × Nat)) (A B : List Str) : List AO := st.set a (.linst 268 (kvA 0) (pileP sg S)) ++ [.list (A.map .str), .list (B.map .str)]
structure Sz (st : List AO) (a t h : Nat) (ents : List (Str × Str)) : Prop where
  pile : ∃ xs, st[a]? = some (.linst 268 (kvA 0) xs)
  tab : st[t]? = some (.inst 184 (kvH h))
  hd : st[h]? = some (.list (ents.map entP))
section
variable {st : List AO} {a t h : Nat} {ents : List (Str × Str)} {sg : Nat → Nat} {S : List (Nat × Nat)} {A B : List Str}
theorem pt_len : (st.set a (.linst 268 (kvA 0) (pileP sg S))).length = st.length := List.length_set
theorem Sz.ga (Z : Sz st a t h ents) : (PT sg st a S A B)[a]? = some (.linst 268 (kvA 0) (pileP sg S)) := by
  obtain ⟨xs, e⟩ := Z.pile
  rw [List.getElem?_append_left (by rw [pt_len]; exact lt_of e), List.getElem?_set_self (lt_of e)]
theorem Sz.gt (Z : Sz st a t h ents) : (PT sg st a S A B)[t]? = some (.inst 184 (kvH h)) := by
  obtain ⟨xs, e⟩ := Z.pile
  have : a ≠ t := by rintro rfl; cases e.symm.trans Z.tab
  rw [List.getElem?_append_left (by rw [pt_len]; exact lt_of Z.tab), List.getElem?_set_ne this]; exact Z.tab
theorem Sz.gh (Z : Sz st a t h ents) : (PT sg st a S A B)[h]? = some (.list (ents.map entP)) := by
  obtain ⟨xs, e⟩ := Z.pile
  have : a ≠ h := by rintro rfl; cases e.symm.trans Z.hd
  rw [List.getElem?_append_left (by rw [pt_len]; exact lt_of Z.hd), List.getElem?_set_ne this]; exact Z.hd
theorem pt_get (k : Nat) : (PT sg st a S A B)[st.length + k]? = [AO.list (A.map .str), .list (B.map .str)][k]? := by
  have := Xh (st.set a (.linst 268 (kvA 0) (pileP sg S))) [AO.list (A.map .str), .list (B.map .str)] k
  rwa [pt_len] at this
theorem pt_set (k : Nat) (x : AO) : (PT sg st a S A B).set (st.length + k) x = st.set a (.linst 268 (kvA 0) (pileP sg S)) ++ [AO.list (A.map .str), .list (B.map .str)].set k x := by
  have := set_app (st.set a (.linst 268 (kvA 0) (pileP sg S))) [AO.list (A.map .str), .list (B.map .str)] k x
  rwa [pt_len] at this
theorem Sz.sa (Z : Sz st a t h ents) (xs : List PV) : (PT sg st a S A B).set a (.linst 268 (kvA 0) xs) = st.set a (.linst 268 (kvA 0) xs) ++ [.list (A.map .str), .list (B.map .str)] := by
  obtain ⟨ys, e⟩ := Z.pile
  rw [List.set_append_left _ _ (by rw [pt_len]; exact lt_of e), List.set_set]
theorem pile_cons (c : Nat × Nat) : pileP sg (c :: S) = pileP sg S ++ [cellP sg c] := by
  show (cellP sg c :: S.map (cellP sg)).reverse = _
  rw [List.reverse_cons]
theorem pile_len : (pileP sg S).length = S.length := by rw [List.length_reverse, List.length_map]
noncomputable abbrev E9 (a t m : Nat) (ring : PV) (wd sz bl un : Option PV) (S : List AO) : ES := ⟨[some (.ref a), some ring, some (.ref t), some (.ref (m + 0)), some (.ref (m + 1)), wd, sz, bl, un], [], S⟩
noncomputable def zT (w : World) : FM Bool := (iteE (bindE (bindE (getL 0) fun p => guardE (Qw 268 (Str.ofString "part_count") p) (bindE (pureE []) fun ps => liftS (countR w (p :: ps)))) fun p => liftS (truthG p)) (iteE (bindE (bindE (bindE (bindE (getL 0) fun p => bindE (bindE (bindE (getL 0) fun p => guardE (Qw 268 (Str.ofString "part_count") p) (bindE (pureE []) fun ps => liftS (countR w (p :: ps)))) fun p => bindE (pureE (PV.int 1)) fun q => liftS (subI p q)) fun q => liftS (getLst 268 p q)) fun p => bindE (pureE (PV.int 1)) fun q => liftS (getI p q)) fun p => bindE (getL 5) fun q => liftS (ltS p q)) fun p => liftS (truthG p)) (pureE (BoolOp.And == BoolOp.And)) (pureE false)) (pureE false))
noncomputable def zB (w : World) : FM PF := (seqE (bindE (bindE (getL 0) fun p => guardE (Qw 268 (Str.ofString "pop") p) (bindE (pureE []) fun ps => liftS (popR w (p :: ps)))) fun p => bindE (Xr 2 (asCons (setL 7) (asCons (setL 8) asNil)) p) fun x => pureE PF.next) (seqE (bindE (bindE (pureE (PV.int 1)) fun p => bindE (bindE (consE (bindE (consE (getL 7) (pureE [])) fun ps => liftS (lenS ps)) (consE (getL 6) (pureE []))) fun ps => liftS (max2 ps)) fun q => liftS (addG p q)) fun p => bindE (setL 6 p) fun x => pureE PF.next) (seqE (bindE (bindE (getL 3) fun p => guardE (isLst p) (bindE (consE (bindE (consE (getL 6) (pureE [])) fun ps => liftS (strG ps)) (pureE [])) fun ps => liftS (Qh (p :: ps)))) fun x => pureE PF.next) (seqE (bindE (bindE (getL 4) fun p => guardE (isLst p) (bindE (consE (bindE (getL 2) fun p => guardE (isInst 184 (Str.ofString "setdefault") p) (bindE (consE (getL 8) (consE (pureE (PV.str (Str.ofString "-"))) (pureE []))) fun ps => liftS (sdefR w (p :: ps)))) (pureE [])) fun ps => liftS (Qh (p :: ps)))) fun x => pureE PF.next) (pureE PF.next)))))
theorem a_pop (f : Int) : kvGet (kvA f) (Str.ofString "pop") = none := by kernel_rfl
theorem a_push (f : Int) : kvGet (kvA f) (Str.ofString "push") = none := by kernel_rfl
theorem truth_nat (k : Nat) (st : List AO) : truthG (inP k) st = some (k != 0, st) := by
  show some (((k : Int) != 0), st) = _
  have : ((k : Int) != 0) = (k != 0) := by rw [Bool.eq_iff_iff]; simp
  rw [this]
noncomputable def topLt (y : Nat) : List (Nat × Nat) → Bool
  | [] => false
  | c :: _ => decide (c.2 < y)
theorem zT_run (w : World) (Z : Sz st a t h ents) {ring : PV} {y : Nat} {sz bl un : Option PV} (hz : S.length ≤ 50) :
    zT w (E9 a t st.length ring (some (wP sg y)) sz bl un (PT sg st a S A B)) = some (topLt y S, E9 a t st.length ring (some (wP sg y)) sz bl un (PT sg st a S A B)) := by
  let E := E9 a t st.length ring (some (wP sg y)) sz bl un (PT sg st a S A B)
  have hc : (bindE (getL 0) fun p => guardE (Qw 268 (Str.ofString "part_count") p) (bindE (pureE []) fun ps => liftS (countR w (p :: ps)))) E = some (inP S.length, E) := by
    have := count_run w (Z.ga (sg := sg) (S := S) (A := A) (B := B))
    rw [pile_len] at this
    exact p_meth (p := .ref a) (ps := []) rfl (Yt ⟨_, _, _, rfl, Z.ga, a_cnt 0⟩) rfl this
  unfold zT
  cases S with
  | nil => exact e_ite (t := false) (p_lift hc (truth_nat _ _)) rfl
  | cons c S =>
    have hl := getLst_of (C := 268) (y := cellP sg c) (get_nat (i := S.length) (by rw [List.length_cons] at hz; omega)) (Z.ga (sg := sg) (S := c :: S) (A := A) (B := B)) (by
      rw [pile_cons, Int.toNat_natCast]
      have := Y1 (pileP sg S) [cellP sg c]
      rwa [pile_len] at this)
    refine e_ite (t := true) (p_lift hc (truth_nat _ _)) (e_ite (t := decide (c.2 < y)) (es₁ := E) (p_lift (p := .bool (decide (c.2 < y))) (p_bin (p := wP sg c.2) (q := wP sg y) (p_bin (p := cellP sg c) (q := .int 1) (p_bin (p := .ref a) (q := inP S.length) rfl (p_bin hc rfl (sub_one _ _)) hl) rfl getI_tup2.2) rfl (ltS_wd sg c.2 y _)) rfl) ?_)
    show (if decide (c.2 < y) = true then pureE (BoolOp.And == BoolOp.And) else pureE false) E = some (decide (c.2 < y), E)
    cases decide (c.2 < y) <;> rfl
theorem zB_run (w : World) (Z : Sz st a t h ents) (hn : ∀ e ∈ ents, NameOk e.1) (hs : SgOk sg) {ring : PV} {y x bl sz : Nat} {b u : Option PV} {τ : Str} (hx : x < 9) (hlk : look ents (wd x (sg x)) = some τ) (hb : bl ≤ 15) (hsz : sz ≤ 15) (hA : A.length ≤ 50) (hB : B.length ≤ 50) (hS : S.length ≤ 50) :
    zB w (E9 a t st.length ring (some (wP sg y)) (some (inP sz)) b u (PT sg st a ((bl, x) :: S) A B)) =
      some (.next, E9 a t st.length ring (some (wP sg y)) (some (inP (1 + max bl sz))) (some (.str (blS bl))) (some (wP sg x)) (PT sg st a S (A ++ [dS (1 + max bl sz)]) (B ++ [τ]))) := by
  let E (z : Nat) (b u : Option PV) (S : List AO) := E9 a t st.length ring (some (wP sg y)) (some (inP z)) b u S
  let bb := some (PV.str (blS bl))
  let uu := some (wP sg x)
  let z := 1 + max bl sz
  have h1 : popR w [.ref a] (PT sg st a ((bl, x) :: S) A B) = some (cellP sg (bl, x), PT sg st a S A B) := by
    have hg := Z.ga (sg := sg) (S := (bl, x) :: S) (A := A) (B := B)
    rw [pile_cons] at hg
    have := pop_some w hg (Zr (by rw [pile_len]; omega))
    rwa [Z.sa] at this
  have hl : lenS [.str (blS bl)] (PT sg st a S A B) = some (inP bl, PT sg st a S A B) := by
    have : (blS bl).length = bl := by show (List.replicate bl 32).toArray.size = bl; rw [List.size_toArray, List.length_replicate]
    have h := lenS_of (x := blS bl) (st := PT sg st a S A B) (Zr (by omega))
    rwa [this] at h
  have hm : max2 [inP bl, inP sz] (PT sg st a S A B) = some (inP (max bl sz), PT sg st a S A B) := by
    rw [max2_of]
    by_cases h : (sz : Int) > bl
    · rw [if_pos h, Nat.max_eq_right (by omega)]
    · rw [if_neg h, Nat.max_eq_left (by omega)]
  unfold zB
  refine e_seq (es₁ := E sz bb uu (PT sg st a S A B)) (e_bind (y := cellP sg (bl, x)) (es₁ := E sz b u (PT sg st a S A B)) (e_meth (p := .ref a) (ps := []) (es₁ := E sz b u (PT sg st a ((bl, x) :: S) A B)) (es₂ := E sz b u (PT sg st a ((bl, x) :: S) A B)) rfl (Yt ⟨_, _, _, rfl, Z.ga, a_pop 0⟩) rfl h1) rfl) ?_
  refine e_seq (es₁ := E z bb uu (PT sg st a S A B)) (e_asg (p := inP z) (es₁ := E sz bb uu (PT sg st a S A B)) (p_bin (p := inP 1) (q := inP (max bl sz)) rfl (p_call (ps := [inP bl, inP sz]) (p_cons (p_call (ps := [.str (blS bl)]) (p_cons rfl rfl) hl) (p_cons rfl rfl)) hm) (add_inP _ _ _)) rfl) ?_
  have ea : Qh [.ref (st.length + 0), .str (dS z)] (PT sg st a S A B) = some (.none, PT sg st a S (A ++ [dS z]) B) := by
    rw [X4 (pt_get 0) (Zr (by rw [List.length_map]; omega)), pt_set]
    show some (PV.none, st.set a _ ++ [AO.list (A.map .str ++ [.str (dS z)]), _]) = some (PV.none, st.set a _ ++ [AO.list ((A ++ [dS z]).map .str), _])
    rw [List.map_append]; rfl
  refine e_seq (es₁ := E z bb uu (PT sg st a S (A ++ [dS z]) B)) (e_expr (p := .none) (e_meth (p := .ref (st.length + 0)) (ps := [.str (dS z)]) (es₁ := E z bb uu (PT sg st a S A B)) (es₂ := E z bb uu (PT sg st a S A B)) rfl (Xc (pt_get 0)) (p_cons (p_call (ps := [inP z]) (p_cons rfl rfl) (str_nat (by omega) _)) rfl) ea)) ?_
  have eb : Qh [.ref (st.length + 1), .str τ] (PT sg st a S (A ++ [dS z]) B) = some (.none, PT sg st a S (A ++ [dS z]) (B ++ [τ])) := by
    rw [X4 (pt_get 1) (Zr (by rw [List.length_map]; omega)), pt_set]
    show some (PV.none, st.set a _ ++ [_, AO.list (B.map .str ++ [.str τ])]) = some (PV.none, st.set a _ ++ [_, AO.list ((B ++ [τ]).map .str)])
    rw [List.map_append (l₁ := B)]; rfl
  have es := sdef_old (st := PT sg st a S (A ++ [dS z]) B) (v := Str.ofString "-") w Z.gt Z.gh (name_wd hs hx) hn (by rw [(wd_ok x hx _ (hs.lt x)).2.1.2.1]; exact hlk)
  exact e_seq (e_expr (p := .none) (e_meth (p := .ref (st.length + 1)) (ps := [.str τ]) (es₁ := E z bb uu (PT sg st a S (A ++ [dS z]) B)) (es₂ := E z bb uu (PT sg st a S (A ++ [dS z]) B)) rfl (Xc (pt_get 1)) (p_cons (p_meth (p := .ref t) (ps := [wP sg x, .str (Str.ofString "-")]) rfl (Yg Z.gt (get_sd h)) (p_cons rfl (p_cons rfl rfl)) es) rfl) eb)) rfl
end
theorem if_t {β : Type} {x y : FM β} {es : ES} {r : Option (β × ES)} {t : Bool} (h : t = true) (hx : x es = r) : (if t = true then x else y) es = r := by rw [if_pos h]; exact hx
theorem if_f {β : Type} {x y : FM β} {es : ES} {r : Option (β × ES)} {t : Bool} (h : t = false) (hx : y es = r) : (if t = true then x else y) es = r := by rw [h]; exact hx
theorem popW_bd {y : Nat} : ∀ (S : List (Nat × Nat)) (c sz : Nat), (∀ s ∈ S, s.1 ≤ c) → sz ≤ c → (popW y sz S).2.1 ≤ c + (popW y sz S).1.length ∧ (popW y sz S).1.length + (popW y sz S).2.2.length = S.length ∧ ∀ s ∈ (popW y sz S).2.2, s ∈ S
  | [], c, sz, _, h => ⟨h, rfl, fun _ m => m⟩
  | (bl, x) :: S, c, sz, hb, h => by
    rw [popW]
    by_cases hx : x < y
    · rw [if_pos hx]
      have hb0 := hb (bl, x) (.head _)
      obtain ⟨a, b, d⟩ := popW_bd (y := y) S (c + 1) (1 + max bl sz) (fun s m => Nat.le_succ_of_le (hb s (.tail _ m))) (by show 1 + max bl sz ≤ c + 1; have : bl ≤ c := hb0; omega)
      refine ⟨?_, ?_, fun s m => .tail _ (d s m)⟩
      · show (popW y (1 + max bl sz) S).2.1 ≤ c + ((popW y (1 + max bl sz) S).1.length + 1); omega
      · show (popW y (1 + max bl sz) S).1.length + 1 + (popW y (1 + max bl sz) S).2.2.length = S.length + 1; omega
    · rw [if_neg hx]
      exact ⟨h, Nat.zero_add _, fun _ m => m⟩
section
variable {st : List AO} {a t h : Nat} {ents : List (Str × Str)} {sg : Nat → Nat}
theorem zW_run (w : World) (Z : Sz st a t h ents) (hn : ∀ e ∈ ents, NameOk e.1) (hs : SgOk sg) {ring : PV} {y : Nat} (τ : Nat → Str) : ∀ (S : List (Nat × Nat)) (m c sz : Nat) (A B : List Str) (b u : Option PV),
    (∀ s ∈ S, s.2 < y → s.2 < 9 ∧ look ents (wd s.2 (sg s.2)) = some (τ s.2)) → (∀ s ∈ S, s.1 ≤ c) → sz ≤ c → c + S.length ≤ 15 → A.length + S.length ≤ 40 → B.length + S.length ≤ 40 →
    ∃ b' u', whileE (m + S.length + 1) (zT w) (zB w) (E9 a t st.length ring (some (wP sg y)) (some (inP sz)) b u (PT sg st a S A B)) =
      some (.next, E9 a t st.length ring (some (wP sg y)) (some (inP (popW y sz S).2.1)) b' u' (PT sg st a (popW y sz S).2.2 (A ++ (popW y sz S).1.map fun x => dS x.2) (B ++ (popW y sz S).1.map fun x => τ x.1)))
  | [], m, c, sz, A, B, b, u, _, _, _, _, _, _ => by
    refine ⟨b, u, e_bind (zT_run w Z (Nat.zero_le _)) ?_⟩
    show some (PF.next, E9 a t st.length ring (some (wP sg y)) (some (inP sz)) b u (PT sg st a [] A B)) = some (PF.next, E9 a t st.length ring (some (wP sg y)) (some (inP sz)) b u (PT sg st a [] (A ++ []) (B ++ [])))
    rw [List.append_nil, List.append_nil]
  | (bl, x) :: S, m, c, sz, A, B, b, u, hl, hb, hz, z1, z2, z3 => by
    rw [List.length_cons] at z1 z2 z3
    have hb0 : bl ≤ c := hb (bl, x) (.head _)
    by_cases hx : x < y
    · obtain ⟨q1, q2⟩ := hl (bl, x) (.head _) hx
      obtain ⟨b', u', e⟩ := zW_run w Z hn hs (ring := ring) (y := y) τ S m (c + 1) (1 + max bl sz) (A ++ [dS (1 + max bl sz)]) (B ++ [τ x]) (some (.str (blS bl))) (some (wP sg x)) (fun s m => hl s (.tail _ m)) (fun s m => Nat.le_succ_of_le (hb s (.tail _ m))) (by omega) (by omega) (by rw [List.length_append]; show _ + 1 + _ ≤ _; omega) (by rw [List.length_append]; show _ + 1 + _ ≤ _; omega)
      have hp : popW y sz ((bl, x) :: S) = ((x, 1 + max bl sz) :: (popW y (1 + max bl sz) S).1, (popW y (1 + max bl sz) S).2) := by rw [popW, if_pos hx]
      rw [hp]
      rw [List.append_assoc, List.append_assoc] at e
      refine ⟨b', u', e_bind (zT_run w Z (by rw [List.length_cons]; omega)) ?_⟩
      refine if_t (decide_eq_true hx) ?_
      exact e_bind (zB_run w Z hn hs q1 q2 (by omega) (by omega) (by omega) (by omega) (by omega)) e
    · have hp : popW y sz ((bl, x) :: S) = ([], sz, (bl, x) :: S) := by rw [popW, if_neg hx]
      rw [hp]
      refine ⟨b, u, e_bind (zT_run w Z (by rw [List.length_cons]; omega)) ?_⟩
      refine if_f (decide_eq_false hx) ?_
      show some (PF.next, E9 a t st.length ring (some (wP sg y)) (some (inP sz)) b u (PT sg st a ((bl, x) :: S) A B)) = some (PF.next, E9 a t st.length ring (some (wP sg y)) (some (inP sz)) b u (PT sg st a ((bl, x) :: S) (A ++ []) (B ++ [])))
      rw [List.append_nil, List.append_nil]
noncomputable def zF (w : World) : FM PF := (seqE (bindE (pureE (PV.int 0)) fun p => bindE (setL 6 p) fun x => pureE PF.next) (seqE (fun es => whileE 20 (zT w) (zB w) es) (seqE (bindE (bindE (getL 0) fun p => guardE (Qw 268 (Str.ofString "push") p) (bindE (consE (bindE (pureE (PV.str (Str.ofString " "))) fun p => bindE (getL 6) fun q => liftS (repS p q)) (consE (getL 5) (pureE []))) fun ps => liftS (pushR w (p :: ps)))) fun x => pureE PF.next) (pureE PF.next))))
theorem zF_run (w : World) (Z : Sz st a t h ents) (hn : ∀ e ∈ ents, NameOk e.1) (hs : SgOk sg) {ring : PV} {y : Nat} (τ : Nat → Str) {S : List (Nat × Nat)} {c : Nat} {A B : List Str} {z b u : Option PV}
    (hl : ∀ s ∈ S, s.2 < y → s.2 < 9 ∧ look ents (wd s.2 (sg s.2)) = some (τ s.2)) (hb : ∀ s ∈ S, s.1 ≤ c) (z1 : c + S.length ≤ 15) (z2 : A.length + S.length ≤ 40) (z3 : B.length + S.length ≤ 40) :
    ∃ z' b' u', zF w (E9 a t st.length ring (some (wP sg y)) z b u (PT sg st a S A B)) = some (.next, E9 a t st.length ring (some (wP sg y)) z' b' u' (PT sg st a (((popW y 0 S).2.1, y) :: (popW y 0 S).2.2) (A ++ (popW y 0 S).1.map fun x => dS x.2) (B ++ (popW y 0 S).1.map fun x => τ x.1))) := by
  obtain ⟨b', u', e⟩ := zW_run w Z hn hs (ring := ring) (y := y) τ S (19 - S.length) c 0 A B b u hl hb (Nat.zero_le _) z1 z2 z3
  rw [show 19 - S.length + S.length + 1 = 20 by omega] at e
  obtain ⟨d1, d2, d3⟩ := popW_bd (y := y) S c 0 hb (Nat.zero_le _)
  generalize popW y 0 S = r at e d1 d2 d3
  obtain ⟨o, k, S'⟩ := r
  dsimp only at e d1 d2 d3 ⊢
  let A' := A ++ o.map fun x => dS x.2
  let B' := B ++ o.map fun x => τ x.1
  let E (S : List AO) := E9 a t st.length ring (some (wP sg y)) (some (inP k)) b' u' S
  refine ⟨some (inP k), b', u', ?_⟩
  unfold zF
  refine e_seq (es₁ := E9 a t st.length ring (some (wP sg y)) (some (inP 0)) b u (PT sg st a S A B)) rfl (e_seq e ?_)
  have hp := push_run w (a := .str (blS k)) (b := wP sg y) (Z.ga (sg := sg) (S := S') (A := A') (B := B')) (Zr (by rw [pile_len]; omega))
  rw [Z.sa] at hp
  refine e_seq (es₁ := E (PT sg st a ((k, y) :: S') A' B')) (e_expr (p := .none) (e_meth (p := .ref a) (ps := [.str (blS k), wP sg y]) (es₁ := E (PT sg st a S' A' B')) (es₂ := E (PT sg st a S' A' B')) rfl (Yt ⟨_, _, _, rfl, Z.ga, a_push 0⟩) (p_cons (p_bin (p := .str (Str.ofString " ")) (q := inP k) rfl rfl (repS_of (by omega))) (p_cons rfl rfl)) ?_)) rfl
  rw [show PT sg st a ((k, y) :: S') A' B' = st.set a (.linst 268 (kvA 0) (pileP sg S' ++ [cellP sg (k, y)])) ++ [.list (A'.map .str), .list (B'.map .str)] by rw [← pile_cons]]
  exact hp
theorem zL_run (w : World) (Z : Sz st a t h ents) (hn : ∀ e ∈ ents, NameOk e.1) (hs : SgOk sg) {ring : PV} {M : Nat} (τ : Nat → Str) : ∀ (l : List Nat) (S : List (Nat × Nat)) (c : Nat) (A B : List Str) (y z b u : Option PV),
    (∀ x ∈ l, x ≤ M ∧ x < 9 ∧ (x < M → look ents (wd x (sg x)) = some (τ x))) → (∀ s ∈ S, s.2 < 9 ∧ (s.2 < M → look ents (wd s.2 (sg s.2)) = some (τ s.2))) → (∀ s ∈ S, s.1 ≤ c) → c + S.length + l.length ≤ 15 → A.length + S.length + l.length ≤ 40 → B.length + S.length + l.length ≤ 40 →
    ∃ y' z' b' u', Yc (fun _ => true) (setL 5) (zF w) (l.map (wP sg)) (E9 a t st.length ring y z b u (PT sg st a S A B)) =
      some (.next, E9 a t st.length ring y' z' b' u' (PT sg st a (runW l S).2 (A ++ (runW l S).1.map fun x => dS x.2) (B ++ (runW l S).1.map fun x => τ x.1)))
  | [], S, c, A, B, y, z, b, u, _, _, _, _, _, _ => by
    refine ⟨y, z, b, u, Z4 rfl ?_⟩
    show some (PF.next, E9 a t st.length ring y z b u (PT sg st a S A B)) = some (PF.next, E9 a t st.length ring y z b u (PT sg st a S (A ++ []) (B ++ [])))
    rw [List.append_nil, List.append_nil]
  | x :: l, S, c, A, B, y, z, b, u, hl, hS, hb, z1, z2, z3 => by
    rw [List.length_cons] at z1 z2 z3
    obtain ⟨x1, x2, x3⟩ := hl x (.head _)
    obtain ⟨z', b', u', e⟩ := zF_run w Z hn hs (ring := ring) (y := x) τ (S := S) (c := c) (A := A) (B := B) (z := z) (b := b) (u := u) (fun s m q => by
      obtain ⟨h1, h2⟩ := hS s m
      exact ⟨h1, h2 (by omega)⟩) hb (by omega) (by omega) (by omega)
    obtain ⟨d1, d2, d3⟩ := popW_bd (y := x) S c 0 hb (Nat.zero_le _)
    have hr : runW (x :: l) S = ((popW x 0 S).1 ++ (runW l (((popW x 0 S).2.1, x) :: (popW x 0 S).2.2)).1, (runW l (((popW x 0 S).2.1, x) :: (popW x 0 S).2.2)).2) := rfl
    rw [hr]
    generalize popW x 0 S = r at e d1 d2 d3
    obtain ⟨o, k, S'⟩ := r
    dsimp only at e d1 d2 d3 ⊢
    obtain ⟨y2, z2', b2, u2, e2⟩ := zL_run w Z hn hs (ring := ring) (M := M) τ l ((k, x) :: S') (c + o.length) (A ++ o.map fun x => dS x.2) (B ++ o.map fun x => τ x.1) (some (wP sg x)) z' b' u' (fun v m => hl v (.tail _ m)) (fun s m => by
        rcases List.mem_cons.mp m with rfl | m
        · exact ⟨x2, x3⟩
        · exact hS s (d3 s m)) (fun s m => by
        rcases List.mem_cons.mp m with rfl | m
        · exact d1
        · exact Nat.le_trans (hb s (d3 s m)) (Nat.le_add_right _ _)) (by rw [List.length_cons]; omega) (by rw [List.length_append, List.length_map, List.length_cons]; omega) (by rw [List.length_append, List.length_map, List.length_cons]; omega)
    rw [List.append_assoc, List.append_assoc, ← List.map_append, ← List.map_append] at e2
    exact ⟨y2, z2', b2, u2, Z4 rfl (e_bind (y := ()) rfl (e_bind e e2))⟩
end
noncomputable def sizesR (w : World) : List PV → SM PV := runK (3 + 0) [] [some 0, some 1, some 2, none, none, none, none, none, none] [] (s_sizes w).1
theorem k_sizes (w : World) : FunK (C2 w) 5 (.ref 340) 3 [] (sizesR w) := r_sizes w
theorem sl_one : ∀ n < 20, sliceL (n + 1) none (some 1) none = [0] := by decide +kernel
theorem slice_one {x : PV} {xs : List PV} (h : xs.length < 20) (st : List AO) : sliceG (.lst (x :: xs)) .none (.int 1) .none st = some (.lst [x], st) := by
  show (if (none : Option Int) ≠ some 0 then (if (x :: xs).length ≤ sizeLine then some (PV.lst (pick (sliceL (x :: xs).length none (some 1) none) (x :: xs)), st) else none) else none) = _
  rw [if_pos (by simp), if_pos (Zr (by rw [List.length_cons]; omega)), List.length_cons, sl_one _ h]
  rfl
theorem Jj {xs ys : List PV} (h : xs.length + ys.length ≤ 100) (st : List AO) : addG (.lst xs) (.lst ys) st = some (.lst (xs ++ ys), st) := if_pos (Zr h)
theorem sizes_run (w : World) {st : List AO} {a t h : Nat} {ents : List (Str × Str)} {sg : Nat → Nat} {M : Nat} (h1 : st[a]? = some (.linst 268 (kvA 0) [])) (h2 : st[t]? = some (.inst 184 (kvH h))) (h3 : st[h]? = some (.list (ents.map entP))) (hn : ∀ e ∈ ents, NameOk e.1) (hs : SgOk sg) (τ : Nat → Str) {l : List Nat}
    (hl : ∀ x ∈ M :: l, x ≤ M ∧ x < 9 ∧ (x < M → look ents (wd x (sg x)) = some (τ x))) (hz : l.length ≤ 8) :
    sizesR w [.ref a, .lst ((M :: l).map (wP sg)), .ref t] st = some (.tup [.ref (st.length + 0), .ref (st.length + 1)], PT sg st a (runW (M :: l ++ [M]) []).2 ((runW (M :: l ++ [M]) []).1.map fun x => dS x.2) ((runW (M :: l ++ [M]) []).1.map fun x => τ x.1)) := by
  have Z : Sz st a t h ents := ⟨⟨_, h1⟩, h2, h3⟩
  let ring : PV := .lst ((M :: l).map (wP sg))
  let E (x y : Option PV) (S : List AO) : ES := ⟨[some (.ref a), some ring, some (.ref t), x, y, none, none, none, none], [], S⟩
  have e0 : st ++ [AO.list [], .list []] = PT sg st a [] [] [] := by
    show _ = st.set a (.linst 268 (kvA 0) []) ++ [AO.list [], .list []]
    rw [Y7 h1]
  obtain ⟨y, z, b, u, e⟩ := zL_run w Z hn hs (ring := ring) (M := M) τ (M :: l ++ [M]) [] 0 [] [] none none none none (fun x m => by
    rcases List.mem_append.mp m with m | m
    · exact hl x m
    · rw [List.mem_singleton.mp m]; exact hl M (.head _)) (fun _ m => nomatch m) (fun _ m => nomatch m) (by rw [List.length_append, List.length_cons]; show 0 + 0 + (_ + 1) ≤ _; omega) (by rw [List.length_append, List.length_cons]; show 0 + 0 + (_ + 1) ≤ _; omega) (by rw [List.length_append, List.length_cons]; show 0 + 0 + (_ + 1) ≤ _; omega)
  rw [← e0, List.nil_append, List.nil_append] at e
  have run : (s_sizes w).1 (E none none st) = some (.ret (.tup [.ref (st.length + 0), .ref (st.length + 1)]), E9 a t st.length ring y z b u (PT sg st a (runW (M :: l ++ [M]) []).2 ((runW (M :: l ++ [M]) []).1.map fun x => dS x.2) ((runW (M :: l ++ [M]) []).1.map fun x => τ x.1))) := by
    simp only [s_sizes]
    refine e_seq (es₁ := E (some (.ref (st.length + 0))) (some (.ref (st.length + 1))) (st ++ [.list [], .list []])) ?_ ?_
    · refine e_bind (y := .tup [.ref (st.length + 0), .ref (st.length + 1)]) (es₁ := E none none (st ++ [.list [], .list []])) (e_tup (ps := [.ref (st.length + 0), .ref (st.length + 1)]) (e_cons (es₁ := E none none (st ++ [.list []])) new0 (e_cons (p := .ref (st.length + 1)) (es₁ := E none none (st ++ [.list [], .list []])) ?_ rfl)) two_sz) rfl
      rw [new0]
      show some (PV.ref (st ++ [AO.list []]).length, (⟨_, _, (st ++ [AO.list []]) ++ [_]⟩ : ES)) = _
      rw [List.length_append, List.append_assoc]; rfl
    have hsl : sliceG ring .none (.int 1) .none (st ++ [.list [], .list []]) = some (.lst [wP sg M], st ++ [.list [], .list []]) := slice_one (xs := l.map (wP sg)) (by rw [List.length_map]; omega) _
    refine e_seq (e_bind (Qd (p := .lst ((M :: l ++ [M]).map (wP sg))) (p_bin (p := ring) (q := .lst [wP sg M]) rfl (e_bind (y := ring) (es₁ := E (some (.ref (st.length + 0))) (some (.ref (st.length + 1))) (st ++ [.list [], .list []])) rfl (e_bind (y := .none) (es₁ := E (some (.ref (st.length + 0))) (some (.ref (st.length + 1))) (st ++ [.list [], .list []])) rfl (e_bind (y := .int 1) (es₁ := E (some (.ref (st.length + 0))) (some (.ref (st.length + 1))) (st ++ [.list [], .list []])) rfl (e_bind (y := .none) (es₁ := E (some (.ref (st.length + 0))) (some (.ref (st.length + 1))) (st ++ [.list [], .list []])) rfl (Ye hsl))))) ?_) rfl) e) (e_stop (e_bind (y := .tup [.ref (st.length + 0), .ref (st.length + 1)]) (p_tup2 rfl rfl) rfl))
    rw [Jj (by rw [List.length_map, List.length_cons]; show _ + 1 ≤ _; omega), List.map_append]
    rfl
  exact Z3 run
noncomputable abbrev ln_tree : List Str := [Str.ofString "words", Str.ofString "spot", Str.ofString "left", Str.ofString "right"]
noncomputable abbrev cn_tree : List (Str × Nat) := []
theorem loc_tree : ∀ x ∈ ln_tree, (defS (at1 P2 18)).names.lookup x = some .local := by decide +kernel
theorem nd_tree : ln_tree.Nodup := by decide +kernel
noncomputable def b_tree : { b : List Stmt // defB (at1 P2 18) = b } := ⟨[_, _, _, _], rfl⟩
noncomputable def s_tree (w : World) (G : List PV → SM PV) (n : Nat) (k : FunK (C2 w) n (.ref 347) 1 [] G) : { F : FM PF // ∀ L, Den (C2 w) n (FI.fn fd347 347 ln_tree cn_tree L) RFl (execs (defB (at1 P2 18)) (callEnvC fd347 L 347)) F } := ⟨_, fun L => by
  have ok : FI.Ok (FI.fn fd347 347 ln_tree cn_tree L) := ok_fn (fd := fd347) rfl rfl rfl loc_tree nd_tree
  rw [b_tree.2]
  exact (Zc (den_if (dent_not (Xj (Za (i := 0) ok rfl))) (Zc (Zq (Xe Zd)) Zg) Zg) (Zc (Zj (Zi (Za (i := 0) ok rfl) (Yy F.slot_list_index F.type_list_index) Zh (Zb (Zs (Zm ok (by kernel_rfl) (gn_max w) (bn_max w)) Zh (Zb (Za (i := 0) ok rfl) Zd) op_maxL) Zd) op_index) (Zf (i := 1) ok rfl)) (Zc (den_swap (names := [Str.ofString "left", Str.ofString "right"]) (Z0 (Zb (Zs (Z8 ok (by kernel_rfl) (Qz w)) (Zk (a := 347) (by kernel_rfl)) (Zb (Yp (Za (i := 0) ok rfl) Zx (Yk (Za (i := 1) ok rfl)) Zx) Zd) k.ok) (Zb (Zs (Z8 ok (by kernel_rfl) (Qz w)) (Zk (a := 347) (by kernel_rfl)) (Zb (Yp (Za (i := 0) ok rfl) (Yk (Zt (Za (i := 1) ok rfl) Zp Yq)) Zx Zx) Zd) k.ok) Zd))) (Xp (Y3 (i := 3) ok rfl) (Xp (Y3 (i := 2) ok rfl) denbs_nil)) (by kernel_rfl)) (Zc (Zq (Zt (Zt (Za (i := 2) ok rfl) (Xe (Zb (Zt Zp (Zs (Zm ok (by kernel_rfl) (gn_max w) (bn_max w)) Zh (Zb (Zt (Zt (Xe (Zb Zp Zd)) (Za (i := 2) ok rfl) Yq) (Za (i := 3) ok rfl) Yq) Zd) op_maxL) Yq) Zd)) Yq) (Za (i := 3) ok rfl) Yq)) Zg))))⟩
theorem x_tree (w : World) : DefK (C2 w).K 347 fd347 (defB (at1 P2 18)) [Str.ofString "words"] ln_tree cn_tree := ⟨⟨⟨_, _, _, rfl⟩, by kernel_rfl, rfl, rfl, rfl, rfl⟩, rfl, fun L => rfl, by decide +kernel, by decide +kernel, by decide +kernel, loc_tree, by decide +kernel⟩
theorem r_tree (w : World) (G : List PV → SM PV) (n : Nat) (k : FunK (C2 w) n (.ref 347) 1 [] G) : FunK (C2 w) (n + 1) (.ref 347) 1 [] (runK (1 + 0) [] [some 0, none, none, none] [] (s_tree w G n k).1) := Yh (x_tree w) (dvs := []) (fun _ _ => .nil) rfl (by decide +kernel) (by decide +kernel) (fun s vs ws h1 h2 X => by
  obtain ⟨v0, rfl⟩ := ln1 h1
  obtain rfl := ln0 h2
  exact BindsTo.of_eq (by kernel_rfl)) (s_tree w G n k).2
noncomputable def treeP (w : World) : (n : Nat) → { G : List PV → SM PV // FunK (C2 w) (n + 1) (.ref 347) 1 [] G }
  | 0 => ⟨fun _ _ => none, ⟨fun _ _ _ e => (nomatch e), fun _ _ _ _ _ _ _ _ _ e => (nomatch e)⟩⟩
  | n + 1 => ⟨_, r_tree w (treeP w n).1 (n + 1) (treeP w n).2⟩
theorem argBest_le (bt : Nat → Nat → Bool) : ∀ k, argBest bt k ≤ k
  | 0 => Nat.le_refl _
  | k + 1 => by
    have := argBest_le bt k
    rw [argBest]
    split
    · exact Nat.le_refl _
    · omega
theorem J4 {bt bt' : Nat → Nat → Bool} : ∀ k, (∀ i j, i ≤ k → j ≤ k → bt i j = bt' i j) → argBest bt k = argBest bt' k
  | 0, _ => rfl
  | k + 1, h => by
    have ih := J4 k fun i j a b => h i j (by omega) (by omega)
    have := argBest_le bt' k
    rw [argBest, argBest, ih, h _ _ (Nat.le_refl _) (by omega)]
theorem max_nats {st : List AO} {p : PV} {ns : List Nat} {f : Nat → PV} {M : Nat} (hi : items? st p = some (ns.map f)) (hf : ∀ a b, gtP (f a) (f b) = decide (b < a)) (hl : likeP (ns.map f)) (hM : M ∈ ns) (ht : ∀ a ∈ ns, a ≤ M) : maxL [p] st = some (f M, st) := by
  have h0 : 0 < ns.length := List.length_pos_of_mem hM
  let num : Nat → Int := fun i => ((ns.getD i 0 : Nat) : Int)
  have hg : ∀ i, i < ns.length → (ns.map f).getD i .none = f (ns.getD i 0) := fun i h => by
    rw [List.getD_eq_getElem?_getD, List.getElem?_map, List.getD_eq_getElem?_getD, List.getElem?_eq_getElem h]; rfl
  have hc : argBest (fun i j => gtP ((ns.map f).getD i .none) ((ns.map f).getD j .none)) (ns.length - 1) = argBest (fun i j => decide (num i > num j)) (ns.length - 1) := J4 _ fun i j a b => by
    rw [hg i (by omega), hg j (by omega), hf, decide_eq_decide]
    show _ ↔ ((ns.getD j 0 : Nat) : Int) < ((ns.getD i 0 : Nat) : Int)
    omega
  obtain ⟨b1, b2⟩ := argBest_gt num (ns.length - 1)
  refine maxL_of hi (by rw [List.length_map]; exact h0) hl ?_
  rw [List.length_map, hc]
  generalize argBest (fun i j => decide (num i > num j)) (ns.length - 1) = m at b1 b2
  have hm : m < ns.length := by omega
  rw [List.getElem?_map, List.getElem?_eq_getElem hm, Option.map_some]
  obtain ⟨k, hk, e⟩ := List.getElem_of_mem hM
  have h1 : num k ≤ num m := b2 k (by omega)
  have h2 : ns.getD k 0 ≤ ns.getD m 0 := Int.ofNat_le.mp h1
  rw [List.getD_eq_getElem?_getD, List.getD_eq_getElem?_getD, List.getElem?_eq_getElem hk, List.getElem?_eq_getElem hm] at h2
  have h3 := ht _ (List.getElem_mem hm)
  have : ns[m] = M := by
    rw [← e]
    replace h2 : ns[k] ≤ ns[m] := h2
    omega
  rw [this]
theorem gt_inP (a b : Nat) : gtP (inP a) (inP b) = decide (b < a) := by
  show decide ((a : Int) > b) = _
  rw [decide_eq_decide]; omega
theorem gt_wP (sg : Nat → Nat) (a b : Nat) : gtP (wP sg a) (wP sg b) = decide (b < a) := wd_lt sg b a
theorem like_inP (ns : List Nat) : likeP (ns.map inP) := .inl fun x m => by obtain ⟨n, _, rfl⟩ := List.mem_map.mp m; exact ⟨_, rfl⟩
theorem like_wP (sg : Nat → Nat) (ns : List Nat) : likeP (ns.map (wP sg)) := .inr fun x m => by obtain ⟨n, _, rfl⟩ := List.mem_map.mp m; exact ⟨_, rfl⟩
theorem J8 {α : Type} : ∀ (k a : Nat) (xs : List α), pick (List.range' a k) xs = (xs.drop a).take k
  | 0, a, xs => by rw [List.take_zero]; rfl
  | k + 1, a, xs => by
    unfold pick
    rw [List.range'_succ, List.filterMap_cons]
    have ih := J8 k (a + 1) xs
    unfold pick at ih
    rw [ih]
    cases h : xs[a]? with
    | none =>
      have := List.getElem?_eq_none_iff.mp h
      rw [List.drop_of_length_le this, List.drop_of_length_le (by omega), List.take_nil, List.take_nil]
    | some x =>
      obtain ⟨h1, rfl⟩ := List.getElem?_eq_some_iff.mp h
      rw [List.drop_eq_getElem_cons h1, List.take_succ_cons]
theorem sl_fin : ∀ n < 20, ∀ m < n + 1, sliceL n none (some (m : Nat)) none = List.range' 0 m ∧ sliceL n (some (m : Nat)) none none = List.range' m (n - m) := by decide +kernel
theorem slice_take {xs : List PV} {m : Nat} (h : xs.length < 20) (hm : m ≤ xs.length) (st : List AO) : sliceG (.lst xs) .none (inP m) .none st = some (.lst (xs.take m), st) := by
  show (if (none : Option Int) ≠ some 0 then (if xs.length ≤ sizeLine then some (PV.lst (pick (sliceL xs.length none (some (m : Nat)) none) xs), st) else none) else none) = _
  rw [if_pos (by simp), if_pos (Zr (by omega)), (sl_fin _ h m (by omega)).1, J8, List.drop_zero]
theorem Qt {xs : List PV} {m : Nat} (h : xs.length < 20) (hm : m ≤ xs.length) (st : List AO) : sliceG (.lst xs) (inP m) .none .none st = some (.lst (xs.drop m), st) := by
  show (if (none : Option Int) ≠ some 0 then (if xs.length ≤ sizeLine then some (PV.lst (pick (sliceL xs.length (some (m : Nat)) none none) xs), st) else none) else none) = _
  rw [if_pos (by simp), if_pos (Zr (by omega)), (sl_fin _ h m (by omega)).2, J8, List.take_of_length_le (by rw [List.length_drop]; omega)]
theorem wd_dat {sg : Nat → Nat} (hs : SgOk sg) {st : List AO} (k : Nat) : ∀ {l : List Nat}, (∀ x ∈ l, x < 9) → (l.map (wP sg)).mapM (dat st k) = some (l.map fun x => PyData.str (wd x (sg x)))
  | [], _ => rfl
  | x :: l, h => by
    have h1 : dat st k (wP sg x) = some (.str (wd x (sg x))) := by
      have : PyData.strOk (wd x (sg x)) = true := (wd_ok x (h x (.head _)) _ (hs.lt x)).2.2.1
      cases k <;> exact if_pos this
    rw [List.map_cons, List.mapM_cons, h1, wd_dat hs k fun y m => h y (.tail _ m)]; rfl
theorem index_wd {sg : Nat → Nat} (hs : SgOk sg) {L R : List Nat} {x : Nat} (h : ∀ y ∈ L ++ x :: R, y < 9) (hL : x ∉ L) (hz : L.length < 1000) (st : List AO) : indexG [.lst ((L ++ x :: R).map (wP sg)), wP sg x] st = some (inP L.length, st) := by
  have h1 : datS st (.lst ((L ++ x :: R).map (wP sg))) = some (.list ((L ++ x :: R).map fun x => PyData.str (wd x (sg x)))) := by
    show (((L ++ x :: R).map (wP sg)).mapM (dat st 5)).map PyData.list = _
    rw [wd_dat hs 5 h]; rfl
  have h2 : datS st (wP sg x) = some (.str (wd x (sg x))) := dat_str ((wd_ok x (h x (List.mem_append_right _ (.head _))) _ (hs.lt x)).2.2.1) st
  have h3 : ((L ++ x :: R).map fun x => PyData.str (wd x (sg x))).findIdx? (fun y => PyData.eqv y (.str (wd x (sg x)))) = some L.length := by
    rw [List.findIdx?_map]
    have e : ((fun y => PyData.eqv y (.str (wd x (sg x)))) ∘ fun x => PyData.str (wd x (sg x))) = fun y => y == x := by
      funext y
      exact (show PyData.eqv (.str (wd y (sg y))) (.str (wd x (sg x))) = (wd y (sg y) == wd x (sg x)) from rfl).trans (wd_eq y x)
    rw [e, List.findIdx?_eq_some_iff_getElem]
    refine ⟨by rw [List.length_append, List.length_cons]; omega, ?_, fun j hj => ?_⟩
    · simp
    · rw [List.getElem_append_left hj]
      have : L[j] ≠ x := fun e => hL (e ▸ List.getElem_mem hj)
      simpa using this
  unfold indexG
  dsimp only
  rw [h1, h2, show (items? st (.lst ((L ++ x :: R).map (wP sg)))).isSome = true from rfl]
  dsimp only
  rw [h3]
  dsimp only
  rw [if_pos (by omega)]
theorem lst1 {X : FM PV} {es : ES} {p : PV} (h : X es = some (p, es)) : bindE (consE X (pureE [])) lstE es = some (.lst [p], es) :=
  e_bind (p_cons h rfl) (by unfold lstE; rw [if_pos (show [p].length ≤ sizeLine from Zr (by show 1 ≤ 100; decide))]; rfl)
theorem tree_run (w : World) {sg : Nat → Nat} (hs : SgOk sg) {P : List (Nat × Nat)} {H : Nat} (T : Tr P H) : ∀ (n : Nat), P.length < n → P.length ≤ 9 → (∀ y ∈ P, y.1 < 9) → ∀ st, (treeP w n).1 [.lst ((P.map (·.1)).map (wP sg))] st = some (.lst ((P.map (·.2)).map inP), st) := by
  induction T with
  | nil =>
    intro n hn _ _ st
    cases n with
    | zero => exact absurd hn (Nat.lt_irrefl 0)
    | succ n =>
      let E : ES := ⟨[some (.lst []), none, none, none], [], st⟩
      have run : (s_tree w (treeP w n).1 (n + 1) (treeP w n).2).1 E = some (.ret (.lst []), E) := by
        simp only [s_tree]
        exact e_stop (e_ite (t := true) (es₁ := E) (e_bind (y := false) (es₁ := E) (p_lift (p := .lst []) rfl rfl) rfl) (e_stop (e_bind (y := .lst []) (es₁ := E) (e_bind (y := []) (es₁ := E) rfl rfl) rfl)))
      exact Z3 run
  | @node L R a b x tL tR hL hR ihL ihR =>
    intro n hn hz h9 st
    rw [List.length_append, List.length_cons] at hn hz
    cases n with
    | zero => omega
    | succ n =>
      let Lw := L.map (·.1)
      let Rw := R.map (·.1)
      let W : PV := .lst ((Lw ++ x :: Rw).map (wP sg))
      have hW : (L ++ (x, 1 + max a b) :: R).map (·.1) = Lw ++ x :: Rw := by rw [List.map_append, List.map_cons]
      have hH : (L ++ (x, 1 + max a b) :: R).map (·.2) = L.map (·.2) ++ (1 + max a b) :: R.map (·.2) := by rw [List.map_append, List.map_cons]
      rw [hW, hH]
      have lw : Lw.length = L.length := List.length_map ..
      have rw' : Rw.length = R.length := List.length_map ..
      have mL : ∀ y ∈ Lw, y < x := fun y m => by obtain ⟨z, mz, rfl⟩ := List.mem_map.mp m; exact hL z mz
      have mR : ∀ y ∈ Rw, y < x := fun y m => by obtain ⟨z, mz, rfl⟩ := List.mem_map.mp m; exact hR z mz
      have hx9 : x < 9 := h9 _ (List.mem_append_right _ (.head _))
      have m9 : ∀ y ∈ Lw ++ x :: Rw, y < 9 := fun y m => by
        rcases List.mem_append.mp m with m | m
        · have := mL y m; omega
        · rcases List.mem_cons.mp m with rfl | m
          · exact hx9
          · have := mR y m; omega
      have e1 := ihL n (by omega) (by omega) (fun y m => h9 y (List.mem_append_left _ m)) st
      have e2 := ihR n (by omega) (by omega) (fun y m => h9 y (List.mem_append_right _ (.tail _ m))) st
      have hlen : ((Lw ++ x :: Rw).map (wP sg)).length = L.length + (R.length + 1) := by rw [List.length_map, List.length_append, List.length_cons, lw, rw']
      have hm : maxL [W] st = some (wP sg x, st) := max_nats (ns := Lw ++ x :: Rw) rfl (gt_wP sg) (like_wP sg _) (List.mem_append_right _ (.head _)) fun y m => by
        rcases List.mem_append.mp m with m | m
        · exact Nat.le_of_lt (mL y m)
        · rcases List.mem_cons.mp m with rfl | m
          · exact Nat.le_refl _
          · exact Nat.le_of_lt (mR y m)
      have hi := index_wd (sg := sg) hs (L := Lw) (R := Rw) (x := x) m9 (fun m => Nat.lt_irrefl _ (mL x m)) (by rw [lw]; omega) st
      let E (s l r : Option PV) : ES := ⟨[some W, s, l, r], [], st⟩
      let s0 := some (inP Lw.length)
      let l0 : PV := .lst ((L.map (·.2)).map inP)
      let r0 : PV := .lst ((R.map (·.2)).map inP)
      have t1 : sliceG W .none (inP Lw.length) .none st = some (.lst (Lw.map (wP sg)), st) := by
        have := slice_take (xs := (Lw ++ x :: Rw).map (wP sg)) (m := Lw.length) (by rw [hlen]; omega) (by rw [hlen, lw]; omega) st
        rwa [← List.map_take, List.take_left] at this
      have t2 : sliceG W (inP (Lw.length + 1)) .none .none st = some (.lst (Rw.map (wP sg)), st) := by
        have := Qt (xs := (Lw ++ x :: Rw).map (wP sg)) (m := Lw.length + 1) (by rw [hlen]; omega) (by rw [hlen, lw]; omega) st
        rwa [← List.map_drop, List.drop_append, List.drop_of_length_le (Nat.le_succ _), Nat.add_sub_cancel_left] at this
      have tm : maxL [.lst ((0 :: (L.map (·.2) ++ R.map (·.2))).map inP)] st = some (inP (max a b), st) := max_nats rfl gt_inP (like_inP _) (by
          by_cases h0 : max a b = 0
          · rw [h0]; exact .head _
          · refine .tail _ (List.mem_append.mpr ?_)
            by_cases hab : b ≤ a
            · obtain ⟨y, my, e⟩ := tL.top (by omega)
              exact .inl (List.mem_map.mpr ⟨y, my, by rw [e, Nat.max_eq_left hab]⟩)
            · obtain ⟨y, my, e⟩ := tR.top (by omega)
              exact .inr (List.mem_map.mpr ⟨y, my, by rw [e, Nat.max_eq_right (by omega)]⟩)) fun y m => by
          rcases List.mem_cons.mp m with rfl | m
          · exact Nat.zero_le _
          · rcases List.mem_append.mp m with m | m
            · obtain ⟨z, mz, rfl⟩ := List.mem_map.mp m
              have := tL.le z mz; omega
            · obtain ⟨z, mz, rfl⟩ := List.mem_map.mp m
              have := tR.le z mz; omega
      have sl1 : (bindE (getL 0) fun v => bindE (pureE PV.none) fun l => bindE (getL 1) fun u => bindE (pureE PV.none) fun k => liftS (sliceG v l u k)) (E s0 none none) = some (.lst (Lw.map (wP sg)), E s0 none none) :=
        e_bind (y := W) (es₁ := E s0 none none) rfl (e_bind (y := .none) (es₁ := E s0 none none) rfl (e_bind (y := inP Lw.length) (es₁ := E s0 none none) rfl (e_bind (y := .none) (es₁ := E s0 none none) rfl (Ye t1))))
      have sl2 : (bindE (getL 0) fun v => bindE (bindE (getL 1) fun p => bindE (pureE (PV.int 1)) fun q => liftS (addG p q)) fun l => bindE (pureE PV.none) fun u => bindE (pureE PV.none) fun k => liftS (sliceG v l u k)) (E s0 none none) = some (.lst (Rw.map (wP sg)), E s0 none none) :=
        e_bind (y := W) (es₁ := E s0 none none) rfl (e_bind (y := inP (Lw.length + 1)) (es₁ := E s0 none none) (p_bin (p := inP Lw.length) (q := inP 1) rfl rfl (add_inP _ _ _)) (e_bind (y := .none) (es₁ := E s0 none none) rfl (e_bind (y := .none) (es₁ := E s0 none none) rfl (Ye t2))))
      have run : (s_tree w (treeP w n).1 (n + 1) (treeP w n).2).1 (E none none none) = some (.ret (.lst ((L.map (·.2) ++ (1 + max a b) :: R.map (·.2)).map inP)), E s0 (some l0) (some r0)) := by
        simp only [s_tree]
        refine e_seq (es₁ := E none none none) (e_ite (t := false) (es₁ := E none none none) (e_bind (y := true) (es₁ := E none none none) (p_lift (p := W) rfl ?_) rfl) rfl) ?_
        · show (if ((Lw ++ x :: Rw).map (wP sg)).length ≤ sizeLine then some (!((Lw ++ x :: Rw).map (wP sg)).isEmpty, st) else none) = _
          rw [if_pos (Zr (by rw [hlen]; omega))]
          cases Lw <;> rfl
        refine e_seq (es₁ := E s0 none none) (e_asg (p := inP Lw.length) (es₁ := E none none none) (p_meth (p := W) (ps := [wP sg x]) rfl rfl (p_cons (p_call (ps := [W]) (p_cons rfl rfl) hm) rfl) hi) rfl) ?_
        refine e_seq (es₁ := E s0 (some l0) (some r0)) (e_bind (y := .tup [l0, r0]) (es₁ := E s0 none none) (p_tup2 (p_call (ps := [.lst (Lw.map (wP sg))]) (p_cons sl1 rfl) e1) (p_call (ps := [.lst (Rw.map (wP sg))]) (p_cons sl2 rfl) e2)) rfl) ?_
        let E2 := E s0 (some l0) (some r0)
        have cat : ∀ {A B : List Nat}, A.length + B.length ≤ 100 → addG (.lst (A.map inP)) (.lst (B.map inP)) st = some (.lst ((A ++ B).map inP), st) := fun h => by rw [List.map_append]; exact Jj (by rw [List.length_map, List.length_map]; exact h) st
        have hl : (L.map (·.2)).length = L.length := List.length_map ..
        have hr : (R.map (·.2)).length = R.length := List.length_map ..
        have z2 := cat (A := [0]) (B := L.map (·.2)) (by rw [hl, List.length_singleton]; omega)
        have z3 := cat (A := [0] ++ L.map (·.2)) (B := R.map (·.2)) (by rw [List.length_append, hl, hr, List.length_singleton]; omega)
        have z4 := cat (A := L.map (·.2)) (B := [1 + max a b]) (by rw [hl, List.length_singleton]; omega)
        have z5 := cat (A := L.map (·.2) ++ [1 + max a b]) (B := R.map (·.2)) (by rw [List.length_append, hl, hr, List.length_singleton]; omega)
        rw [List.append_assoc] at z5
        have q1 : (bindE (bindE (bindE (consE (pureE (PV.int 0)) (pureE [])) lstE) fun p => bindE (getL 2) fun q => liftS (addG p q)) fun p => bindE (getL 3) fun q => liftS (addG p q)) E2 = some (.lst ((0 :: (L.map (·.2) ++ R.map (·.2))).map inP), E2) := p_bin (p_bin (lst1 (p := inP 0) rfl) rfl z2) rfl z3
        have q2 : (bindE (pureE (PV.int 1)) fun p => bindE (bindE (consE (bindE (bindE (bindE (consE (pureE (PV.int 0)) (pureE [])) lstE) fun p => bindE (getL 2) fun q => liftS (addG p q)) fun p => bindE (getL 3) fun q => liftS (addG p q)) (pureE [])) fun ps => liftS (maxL ps)) fun q => liftS (addG p q)) E2 = some (inP (1 + max a b), E2) := p_bin (p := inP 1) (q := inP (max a b)) rfl (p_call (p_cons q1 rfl) tm) (add_inP _ _ _)
        exact e_stop (e_bind (p_bin (p_bin (p := l0) rfl (lst1 q2) z4) rfl z5) rfl)
      exact Z3 run
noncomputable abbrev Rw := Bool × Nat × Nat
structure RwOk (x : Rw) : Prop where
  r : x.2.1 < 9
  s : x.2.2 < 6
noncomputable abbrev wdR (x : Rw) : Str := wd x.2.1 x.2.2
noncomputable def us (x : Rw) : List (Bool × Nat) := [(false, 97 + x.2.1), (sgn x.2.2 == 34 || sgn x.2.2 == 92, sgn x.2.2)]
noncomputable def isQ (x : Rw) : Bool := x.1 || x.2.2 != 2
noncomputable def bodyL (x : Rw) : List Nat := if isQ x = true then (34 :: (enc (us x) ++ [34])) ++ [10] else (97 + x.2.1) :: ([35] ++ [10])
noncomputable def segL (x : Rw) : List Nat := 107 :: ([] ++ [61]) ++ bodyL x
noncomputable abbrev nlS : Str := Str.ofString "\n"
noncomputable def rwS (x : Rw) : Str := rowS x.1 x.2.1 x.2.2 ++ nlS
theorem rw_fin : ∀ q : Bool, ∀ r < 9, ∀ s < 6, (rwS (q, r, s)).cps.toList = segL (q, r, s) ∧ ((segL (q, r, s)).length ≤ 12 ∧ (rowS q r s).length ≤ 12) ∧ (segL (q, r, s)).all (· < 128) = true ∧ ((us (q, r, s)).all (fun y => y.2 < 128 && y.2 != 10 && (y.1 || (y.2 != 34 && y.2 != 92))) = true ∧ (isQ (q, r, s) = false → sgn s = 35)) := by decide +kernel
noncomputable def tabL (cs : List Rw) : List Nat := cs.flatMap segL
theorem join_rows : ∀ {cs : List Rw}, (∀ x ∈ cs, RwOk x) → (Str.join emS (cs.map rwS)).cps.toList = tabL cs
  | [], _ => by decide +kernel
  | [x], h => by
    show (rwS x).cps.toList = segL x ++ []
    rw [List.append_nil]
    exact (rw_fin x.1 _ (h x (.head _)).r _ (h x (.head _)).s).1
  | x :: y :: cs, h => by
    have ih := join_rows (cs := y :: cs) fun z m => h z (.tail _ m)
    have e : Str.join emS ((x :: y :: cs).map rwS) = rwS x ++ emS ++ Str.join emS ((y :: cs).map rwS) := rfl
    have he : emS.cps.toList = [] := by decide +kernel
    rw [e]
    simp only [PySem.Str.cps_append, Array.toList_append, ih, he, List.append_nil, (show (rwS x).cps.toList = segL x from (rw_fin x.1 _ (h x (.head _)).r _ (h x (.head _)).s).1)]
    rfl
noncomputable abbrev txtOf (cs : List Rw) : Str := Txt.join emS (cs.map rwS)
section
variable {cs : List Rw}
theorem txt_list (h : ∀ x ∈ cs, RwOk x) : (txtOf cs).cps.toList = tabL cs := by
  unfold txtOf Txt.join
  rw [StrLaws.glued_eq_join, join_rows h]
theorem tabL_len : ∀ {cs : List Rw}, (∀ x ∈ cs, RwOk x) → (tabL cs).length ≤ 12 * cs.length
  | [], _ => by decide
  | x :: cs, h => by
    have ih := tabL_len fun z m => h z (.tail _ m)
    have := (rw_fin x.1 _ (h x (.head _)).r _ (h x (.head _)).s).2.1.1
    show (segL x ++ tabL cs).length ≤ 12 * (cs.length + 1)
    rw [List.length_append]
    have : (segL x).length ≤ 12 := this
    omega
theorem txt_size (h : ∀ x ∈ cs, RwOk x) : (txtOf cs).cps.size = (tabL cs).length := by rw [← Array.length_toList, txt_list h]
theorem txt_all (h : ∀ x ∈ cs, RwOk x) : (txtOf cs).cps.all (· < 128) = true := by
  rw [Array.all_eq_true']
  intro u hu
  have hu : u ∈ tabL cs := by rw [← txt_list h]; exact Array.mem_toList_iff.mpr hu
  obtain ⟨x, m, hu⟩ := List.mem_flatMap.mp hu
  exact List.all_eq_true.mp ((rw_fin x.1 _ (h x m).r _ (h x m).s).2.2.1) u hu
theorem rws_len (h : ∀ x ∈ cs, RwOk x) : ∀ y ∈ cs.map rwS, y.length ≤ 13 := fun y m => by
  obtain ⟨x, mx, rfl⟩ := List.mem_map.mp m
  have := (rw_fin x.1 _ (h x mx).r _ (h x mx).s).2.1.2
  have h1 : nlS.length = 1 := by decide +kernel
  unfold rwS
  rw [PySem.Str.length_append, h1]; omega
theorem join_ok (h : ∀ x ∈ cs, RwOk x) (hn : cs.length ≤ 9) : JoinOk emS (cs.map rwS) = true := by
  unfold JoinOk
  have he : emS.length = 0 := by decide +kernel
  rw [StrLaws.joinTotal]
  have h1 := StrLaws.sumLen_le (B := 13) (cs.map rwS) (rws_len h)
  rw [List.length_map] at h1
  rw [he, notLong (by rw [sizeLine_eq]; omega)]; rfl
end
theorem at_list {text : Str} : ∀ (p : Nat) (l : List Nat), text.cps.toList.drop p = l → At text p l
  | _, [], _ => trivial
  | p, u :: l, h => by
    have h1 : text.cps.toList[p]? = some u := by
      rw [← List.head?_drop, h]; rfl
    refine ⟨by rw [← Array.getElem?_toList]; exact h1, at_list (p + 1) l ?_⟩
    rw [← List.drop_drop, h]; rfl
theorem ci_nil {S : PV → FM Unit} {T : FM Bool} {B : List PV → FM (List PV)} {zs : List PV} {es : ES} : Z5 (fun _ => true) S T B [] zs es = some (zs, es) := rfl
theorem Jv {S : PV → FM Unit} {B : List PV → FM (List PV)} {x : PV} {r zs zs' : List PV} {es es₁ es₂ : ES} {q : Option (List PV × ES)} (h1 : S x es = some ((), es₁)) (h2 : B zs es₁ = some (zs', es₂)) (h3 : Z5 (fun _ => true) S (pureE true) B r zs' es₂ = q) : Z5 (fun _ => true) S (pureE true) B (x :: r) zs es = q := by
  show guardE _ (bindE (S x) fun _ => bindE (pureE true) fun t => if t then bindE (B zs) fun zs' => Z5 (fun _ => true) S (pureE true) B r zs' else Z5 (fun _ => true) S (pureE true) B r zs) es = q
  exact Z4 rfl (e_bind h1 (e_bind (y := true) (es₁ := es₁) rfl (e_bind h2 h3)))
theorem k_eq : (⟨([107] : List Nat).toArray⟩ : Str) = kS := by decide +kernel
noncomputable def Yn (cs : List Rw) : List Str := cs.flatMap (fun x => [kS, wdR x]) ++ [emS]
theorem kv_gt' (n : Int) (p : PV) (j : Nat) : kvGet (kvW n p wsQ j) (Str.ofString "get_token") = none := kv_gt ..
noncomputable def tkE (w : World) : FM PV := bindE (getC 1) fun p => guardE (isInst 310 (Str.ofString "get_token") p) (bindE (pureE []) fun ps => liftS (tokenR w (p :: ps)))
section
variable {w : World} {i k j r g : Nat} {j2 : Nat} {text : Str} {c0 : Option PV}
theorem Jl {S S' : List AO} {n : Int} {p : PV} {xs : Nat} (h1 : S[i]? = some (.inst 310 (kvW n p wsQ xs))) {v : PV} (h : tokenR w [.ref i] S = some (v, S')) (loc : List (Option PV)) : tkE w ⟨loc, [c0, some (.ref i)], S⟩ = some (v, ⟨loc, [c0, some (.ref i)], S'⟩) := by
  unfold tkE
  exact e_meth (p := .ref i) (es₁ := ⟨loc, [c0, some (.ref i)], S⟩) (es₂ := ⟨loc, [c0, some (.ref i)], S⟩) (ps := []) rfl (Yg h1 (kv_gt' _ _ _)) rfl h
theorem let_fin : ∀ r < 9, 97 + r < 128 ∧ isWs (97 + r) = false ∧ 97 + r ≠ 34 ∧ 97 + r ≠ 92 := by decide +kernel
theorem word_run (w : World) {x : Rw} (hx : RwOk x) {S : List AO} {n : Int} {p : Nat} {rest : List Nat} (L : Lex S i k j r g n j2 text p []) (hat : At text p (bodyL x ++ rest)) (hsz : p + (bodyL x ++ rest).length = text.cps.size) :
    ∃ n' p' l0, tokenR w [.ref i] S = some (.str (wdR x), atQ S i k j g text n' p' ++ [mAO i, cAO S.length]) ∧ l0.all isWs = true ∧ l0.length ≤ 2 ∧ At text p' (l0 ++ rest) ∧ p' + (l0 ++ rest).length = text.cps.size ∧ n' + nls l0 = n + 1 := by
  obtain ⟨q1, q2, q3, q4, q5⟩ := rw_fin x.1 _ hx.r _ hx.s
  unfold bodyL at hat hsz
  cases hq : isQ x with
  | true =>
    rw [if_pos hq, List.append_assoc] at hat hsz
    have t := token_quoted w L (us := us x) hat.left q4 (by show 2 ≤ 10; decide)
    have h2 := hat.right
    have e : p + (34 :: (enc (us x) ++ [34])).length = p + 1 + (enc (us x)).length + 1 := by rw [List.length_cons, List.length_append]; show p + ((enc (us x)).length + 1 + 1) = _; omega
    rw [e] at h2
    rw [List.length_append, ← Nat.add_assoc, e] at hsz
    exact ⟨n, _, [10], t, rfl, by decide, h2, hsz, rfl⟩
  | false =>
    rw [if_neg (by rw [hq]; decide)] at hat hsz
    have hs : sgn x.2.2 = 35 := q5 hq
    obtain ⟨hb, f1, f2, f3⟩ := let_fin _ hx.r
    have t := token_plain w L (l0 := []) (l := [35]) (u := 97 + x.2.1) (v := 10) hat.left rfl (by decide) hb f1 f2 f3 (by decide) (by decide) (by decide)
    have h2 := hat.right
    refine ⟨n + nls [] + 1, p + ([] : List Nat).length + 1 + [35].length + 1, [], ?_, rfl, by decide, h2, ?_, by show n + 0 + 1 + 0 = n + 1; omega⟩
    · have hw : (⟨((97 + x.2.1) :: [35]).toArray⟩ : Str) = wdR x := by
        show _ = (⟨#[97 + x.2.1, sgn x.2.2]⟩ : Str)
        rw [hs]
      rw [if_pos rfl, hw] at t
      exact t
    · rw [List.length_append, ← Nat.add_assoc] at hsz
      exact hsz
theorem read_loop (w : World) : ∀ (cs : List Rw) (l0 : List Nat) (S : List AO) (n : Int) (p : Nat) (xs zs : List PV) (o : Option PV), (∀ x ∈ cs, RwOk x) → Lex S i k j r g n j2 text p [] → l0.all isWs = true → l0.length ≤ 2 → At text p (l0 ++ tabL cs) → p + (l0 ++ tabL cs).length = text.cps.size → xs.length = 2 * cs.length + 1 → zs.length + 2 * cs.length ≤ 90 →
    ∃ o' S' X, Z5 (fun _ => true) (setL 0) (pureE true) (emitE (tkE w)) xs zs ⟨[o], [c0, some (.ref i)], S⟩ = some (zs ++ (Yn cs).map .str, ⟨[o'], [c0, some (.ref i)], S'⟩) ∧ S' = atQ S i k j g text (n + nls l0 + cs.length) text.cps.size ++ X
  | [], l0, S, n, p, xs, zs, o, _, L, h0, hz0, hat, hsz, hx, hz => by
    obtain ⟨y, rfl⟩ := ln1 (show xs.length = 1 from hx)
    have e0 : l0 ++ tabL [] = l0 := List.append_nil l0
    rw [e0] at hat hsz
    have t := token_end w L (l0 := l0) hat h0 (by omega) hsz
    rw [hsz] at t
    have hn : n + nls l0 + (([] : List Rw).length : Int) = n + nls l0 := Int.add_zero _
    rw [hn]
    exact ⟨some y, _, _, Jv (es₁ := ⟨[some y], [c0, some (.ref i)], S⟩) rfl (Js (Jl L.lx t _) (by omega)) ci_nil, rfl⟩
  | x :: cs, l0, S, n, p, xs, zs, o, hok, L, h0, hz0, hat, hsz, hx, hz => by
    rw [List.length_cons] at hx hz
    obtain ⟨y1, xs, rfl⟩ : ∃ y xs', xs = y :: xs' := by
      cases xs with
      | nil => simp at hx
      | cons y xs => exact ⟨y, xs, rfl⟩
    obtain ⟨y2, xs, rfl⟩ : ∃ y xs', xs = y :: xs' := by
      cases xs with
      | nil => simp at hx
      | cons y xs => exact ⟨y, xs, rfl⟩
    have hx : xs.length = 2 * cs.length + 1 := by simp only [List.length_cons] at hx; omega
    have e0 : l0 ++ tabL (x :: cs) = (l0 ++ 107 :: ([] ++ [61])) ++ (bodyL x ++ tabL cs) := by
      show l0 ++ (segL x ++ tabL cs) = _
      unfold segL
      simp only [List.append_assoc, List.cons_append, List.nil_append]
    rw [e0] at hat hsz
    have t1 := token_plain w L (l0 := l0) (l := []) (u := 107) (v := 61) hat.left h0 (by omega) (by decide) (by decide) (by decide) (by decide) (by decide) (by decide) (by decide)
    rw [if_neg (by decide)] at t1
    have L1 := L.go (n + nls l0) (p + l0.length + 1 + ([] : List Nat).length + 1) [mAO i, cAO S.length]
    have c1 := Js (zs := zs) (Jl (c0 := c0) L.lx t1 [some y1]) (by omega)
    have q1 : p + (l0 ++ 107 :: ([] ++ [61])).length = p + l0.length + 1 + ([] : List Nat).length + 1 := by rw [List.length_append]; show p + (l0.length + 2) = p + l0.length + 1 + 0 + 1; omega
    have a2 := hat.right
    rw [q1] at a2
    rw [List.length_append, ← Nat.add_assoc, q1] at hsz
    obtain ⟨n2, p2, l2, t2, b1, b2, b3, b4, b5⟩ := word_run w (hok x (.head _)) L1 a2 hsz
    have L2 := L1.go n2 p2 [mAO i, cAO (atQ S i k j g text (n + nls l0) (p + l0.length + 1 + ([] : List Nat).length + 1) ++ [mAO i, cAO S.length]).length]
    have c2 := Js (zs := zs ++ [.str ⟨[107].toArray⟩]) (Jl (c0 := c0) L1.lx t2 [some y2]) (by rw [List.length_append]; show _ + 1 ≤ _; omega)
    obtain ⟨o', S', X, e, hS⟩ := read_loop w cs l2 _ _ _ xs (zs ++ [.str ⟨[107].toArray⟩] ++ [.str (wdR x)]) (some y2) (fun z m => hok z (.tail _ m)) L2 b1 b2 b3 b4 hx (by rw [List.length_append, List.length_append]; show _ + 1 + 1 + _ ≤ _; omega)
    have hw : zs ++ [PV.str ⟨[107].toArray⟩] ++ [PV.str (wdR x)] ++ (Yn cs).map PV.str = zs ++ (Yn (x :: cs)).map PV.str := by
      rw [k_eq]
      unfold Yn
      rw [List.flatMap_cons]
      simp only [List.append_assoc, List.map_append]
      rfl
    rw [hw] at e
    have hn : n2 + nls l2 + (cs.length : Int) = n + nls l0 + ((x :: cs).length : Int) := by rw [b5, List.length_cons]; omega
    rw [hn, L1.at_at, L.at_at, List.append_assoc, List.append_assoc] at hS
    exact ⟨o', S', _, Jv (es₁ := ⟨[some y1], [c0, some (.ref i)], S⟩) rfl c1 (Jv rfl c2 e), hS⟩
end
structure Dt (st : List AO) (k : Nat) (p : PV) (d : PyData) : Prop where
  e : dat st k p = some d
  l : d.canLay0 = true
structure Dts (st : List AO) (k : Nat) (ps : List PV) (ds : List PyData) : Prop where
  e : ps.mapM (dat st k) = some ds
  l : PyData.canLayAll0 ds = true
section
variable {st : List AO} {k : Nat}
theorem Dt.str {x : Str} (h : PyData.strOk x = true) : Dt st k (.str x) (.str x) := ⟨by cases k <;> exact if_pos h, by unfold PyData.canLay0; exact h⟩
theorem Dt.int (i : Int) : Dt st k (.int i) (.int i) := ⟨by cases k <;> rfl, rfl⟩
theorem Dts.nil : Dts st k [] [] := ⟨rfl, rfl⟩
theorem Dts.cons {p : PV} {ps : List PV} {d : PyData} {ds : List PyData} (h : Dt st k p d) (t : Dts st k ps ds) : Dts st k (p :: ps) (d :: ds) :=
  ⟨by rw [List.mapM_cons, h.e, t.e]; rfl, by unfold PyData.canLayAll0; rw [h.l, t.l]; rfl⟩
theorem Dt.tup {ps : List PV} {ds : List PyData} (h : Dts st k ps ds) : Dt st (k + 1) (.tup ps) (.tuple ds) := ⟨by
  show (ps.mapM (dat st k)).map PyData.tuple = _
  rw [h.e]; rfl, h.l⟩
theorem Dt.lst {ps : List PV} {ds : List PyData} (h : Dts st k ps ds) : Dt st (k + 1) (.lst ps) (.list ds) := ⟨by
  show (ps.mapM (dat st k)).map PyData.list = _
  rw [h.e]; rfl, h.l⟩
theorem Dt.ref {i : Nat} {ps : List PV} {ds : List PyData} (hi : st[i]? = some (.list ps)) (h : Dts st k ps ds) : Dt st (k + 1) (.ref i) (.list ds) := ⟨by
  show (items? st (.ref i)).bind (fun xs => (xs.mapM (dat st k)).map PyData.list) = _
  rw [Xb hi]
  show (ps.mapM (dat st k)).map PyData.list = _
  rw [h.e]; rfl, h.l⟩
theorem Dts.map {α : Type} {f : α → PV} {g : α → PyData} : ∀ {l : List α}, (∀ a ∈ l, Dt st k (f a) (g a)) → Dts st k (l.map f) (l.map g)
  | [], _ => .nil
  | _ :: _, h => .cons (h _ (.head _)) (Dts.map fun b m => h b (.tail _ m))
theorem eq_dt {p q : PV} {d : PyData} (h : Dt st 6 p d) (h' : Dt st 6 q d) : eqG p q st = some (.bool true, st) := by
  unfold eqG datS
  rw [h.e, h'.e]
  show some (PV.bool (PyData.eqv d d), st) = _
  rw [PySem.SeqAt.eqv_refl d h.l]
theorem ne_dt {p q : PV} {d : PyData} (h : Dt st 6 p d) (h' : Dt st 6 q d) : neG p q st = some (.bool false, st) := by
  unfold neG datS
  rw [h.e, h'.e]
  show some (PV.bool (!PyData.eqv d d), st) = _
  rw [PySem.SeqAt.eqv_refl d h.l]; rfl
end
theorem nu_ge : ∀ (ns : List Nat) (k : Nat), ∀ x ∈ nu k ns, k ≤ x.1
  | [], _, x, m => nomatch m
  | n :: r, k, x, m => by
    rcases List.mem_cons.mp m with rfl | m
    · exact Nat.le_refl _
    · exact Nat.le_trans (Nat.le_succ k) (nu_ge r (k + 1) x m)
theorem nu_apart : ∀ (ns : List Nat) (k : Nat), (nu k ns).Pairwise fun x y => x.1 < y.1
  | [], _ => .nil
  | n :: r, k => .cons (fun y m => nu_ge r (k + 1) y m) (nu_apart r (k + 1))
theorem Y8 (x y : Nat × Nat) : keyLt x y = true ↔ x.2 % 10 < y.2 % 10 ∨ x.2 % 10 = y.2 % 10 ∧ x.1 < y.1 := by
  unfold keyLt
  by_cases h : x.2 % 10 = y.2 % 10
  · rw [if_pos h, decide_eq_true_eq]
    exact ⟨fun q => .inr ⟨h, q⟩, fun q => q.elim (fun q => absurd h (Nat.ne_of_lt q)) fun q => q.2⟩
  · rw [if_neg h, decide_eq_true_eq]
    exact ⟨.inl, fun q => q.elim id fun q => absurd q.1 h⟩
theorem keyLt_irr (x : Nat × Nat) : ¬ keyLt x x = true := fun q => ((Y8 x x).mp q).elim (Nat.lt_irrefl _) fun q => Nat.lt_irrefl _ q.2
theorem keyLt_trans {x y z : Nat × Nat} (h : keyLt x y = true) (h' : keyLt y z = true) : keyLt x z = true := by
  rcases (Y8 x y).mp h with a | ⟨a, b⟩ <;> rcases (Y8 y z).mp h' with c | ⟨c, d⟩
  · exact (Y8 x z).mpr (.inl (Nat.lt_trans a c))
  · exact (Y8 x z).mpr (.inl (c ▸ a))
  · exact (Y8 x z).mpr (.inl (a.symm ▸ c))
  · exact (Y8 x z).mpr (.inr ⟨a.trans c, Nat.lt_trans b d⟩)
theorem rk_mono {ns : List Nat} {x y : Nat × Nat} (mx : x ∈ nu 0 ns) (h : keyLt x y = true) : rk ns x < rk ns y := by
  unfold rk
  have e : (nu 0 ns).filter (fun z => keyLt z x) = ((nu 0 ns).filter fun z => keyLt z y).filter fun z => keyLt z x := by
    rw [List.filter_filter]
    refine List.filter_congr fun z _ => ?_
    rw [Bool.eq_iff_iff, Bool.and_eq_true]
    constructor
    · exact fun q => ⟨q, keyLt_trans q h⟩
    · exact fun q => q.1
  rw [e]
  refine List.length_filter_lt_length_iff_exists.mpr ⟨x, List.mem_filter.mpr ⟨mx, h⟩, keyLt_irr x⟩
theorem rk_ne {ns : List Nat} {x y : Nat × Nat} (mx : x ∈ nu 0 ns) (my : y ∈ nu 0 ns) (h : x.1 < y.1) : rk ns x ≠ rk ns y := by
  rcases Nat.lt_trichotomy (x.2 % 10) (y.2 % 10) with q | q | q
  · exact Nat.ne_of_lt (rk_mono mx ((Y8 x y).mpr (.inl q)))
  · exact Nat.ne_of_lt (rk_mono mx ((Y8 x y).mpr (.inr ⟨q, h⟩)))
  · exact Ne.symm (Nat.ne_of_lt (rk_mono my ((Y8 y x).mpr (.inl q))))
noncomputable def rwOf (ns : List Nat) (x : Nat × Nat) : Rw := (x.2 / 60 % 2 == 1, rk ns x, x.2 / 10 % 6)
noncomputable def rwsOf (ns : List Nat) : List Rw := (nu 0 ns).map (rwOf ns)
noncomputable abbrev rks (cs : List Rw) : List Nat := cs.map fun x => x.2.1
theorem rws_nodup (ns : List Nat) : (rks (rwsOf ns)).Nodup := by
  unfold rks rwsOf
  rw [List.map_map]
  refine List.pairwise_map.mpr (List.Pairwise.imp_of_mem (fun {x y} mx my h => ?_) (nu_apart ns 0))
  exact rk_ne mx my h
theorem rws_ok {ns : List Nat} (h : ns.length ≤ 9) : ∀ x ∈ rwsOf ns, RwOk x := fun x m => by
  obtain ⟨y, my, rfl⟩ := List.mem_map.mp m
  exact ⟨Nat.lt_of_lt_of_le (rk_lt my) h, Nat.mod_lt _ (by decide)⟩
theorem rws_len' (ns : List Nat) : (rwsOf ns).length = ns.length := by
  unfold rwsOf; rw [List.length_map, nu_len]
theorem rws_words (ns : List Nat) : (nu 0 ns).map (wordOf ns) = (rwsOf ns).map wdR := by
  unfold rwsOf; rw [List.map_map]; rfl
noncomputable def sgO (cs : List Rw) (r : Nat) : Nat := ((cs.find? fun x => x.2.1 == r).map fun x => x.2.2).getD 0
theorem sgO_lt {cs : List Rw} (h : ∀ x ∈ cs, RwOk x) : SgOk (sgO cs) := ⟨fun r => by
  unfold sgO
  cases q : cs.find? fun x => x.2.1 == r with
  | none => show 0 < 6; decide
  | some x => exact (h x (List.mem_of_find?_eq_some q)).s⟩
theorem sgO_at : ∀ {cs : List Rw}, (rks cs).Nodup → ∀ x ∈ cs, sgO cs x.2.1 = x.2.2
  | y :: cs, nd, x, m => by
    unfold rks at nd
    rw [List.map_cons, List.nodup_cons] at nd
    unfold sgO
    rw [List.find?_cons]
    rcases List.mem_cons.mp m with rfl | m
    · rw [beq_iff_eq.mpr rfl]; rfl
    · have : (y.2.1 == x.2.1) = false := by
        rw [beq_eq_false_iff_ne]
        exact fun e => nd.1 (e ▸ List.mem_map_of_mem (f := fun x : Rw => x.2.1) m)
      rw [this]
      exact sgO_at nd.2 x m
theorem words_by {cs : List Rw} (nd : (rks cs).Nodup) : cs.map (fun x => PV.str (wdR x)) = (rks cs).map (wP (sgO cs)) := by
  unfold rks
  rw [List.map_map]
  refine List.map_congr_left fun x m => ?_
  show PV.str (wd x.2.1 x.2.2) = PV.str (wd x.2.1 (sgO cs x.2.1))
  rw [sgO_at nd x m]
theorem putW (p q r t u : PV) : kvPut [(nLine, p), (nIn, q), (nWs, r), (nPb, t)] nWs u = [(nLine, p), (nIn, q), (nWs, u), (nPb, t)] := by kernel_rfl
noncomputable abbrev posP : Pos := { line := 175, col := 4, endLine := 178, endCol := 20 }
noncomputable abbrev lexNew (n : Nat) (text : Str) : List AO := [.inst 310 [(nLine, .int 1), (nIn, .none), (nWs, .str wsS), (nPb, .ref (n + 1)), (nRd, .ref (n + 3))], .list [], .list [], .clo tmP cnP [some (.str text), some (.ref (n + 2))], .inst 310 (kvW 1 (.ref n) wsQ (n + 5)), .list []]
noncomputable def lexerG (ps : List PV) : SM PV := fun st => pik fun r => ∃ text, P3 (ps = [.str text]) (st[0]? = some (.tab 316 posP qP)) (r = (.ref (st.length + 4), st ++ lexNew st.length text))
theorem lexer_run {st : List AO} {text : Str} (h : st[0]? = some (AO.tab 316 posP qP)) : lexerG [.str text] st = some (.ref (st.length + 4), st ++ lexNew st.length text) :=
  pik_of ⟨_, rfl, h, rfl⟩ fun z q' => by obtain ⟨_, e, _, r⟩ := q'; cases e; exact r
theorem set_mid {K : Frag} {name : Str} {st l m : List AO} {n : Nat} {C : Addr} {kvs kvs' : List (Str × PV)} {q : PV} (hn : n = l.length) (hs : setOk K C name = true) (hk : kvPut kvs name q = kvs') (hz : kvs.length ≤ 900 := by exact Nat.le_of_ble_eq_true rfl) : setA K name (.ref (st.length + n)) q (st ++ (l ++ .inst C kvs :: m)) = some ((), st ++ (l ++ .inst C kvs' :: m)) := by
  subst hn
  have := X6 (K := K) (st := st ++ l) (l := m) (q := q) hs hk hz
  rwa [List.length_append, List.append_assoc, List.append_assoc] at this
theorem x_lexer (w : World) : DefK (C2 w).K 321 fd321 (defB (at1 P2 14)) [Str.ofString "text"] ln_lexer cn_lexer := ⟨⟨⟨_, _, _, rfl⟩, by kernel_rfl, rfl, rfl, rfl, rfl⟩, rfl, fun L => rfl, by decide +kernel, by decide +kernel, by decide +kernel, loc_lexer, by decide +kernel⟩
theorem k_lexer (w : World) : FunK (C2 w) 4 (.ref 321) 1 [] lexerG := by
  refine fun_defC (kn := []) (dvs := []) (dps := []) (li := [none, none, none]) (ci := [none, some 0]) (tm := tmP) (x_lexer w) (fun _ _ => .nil) rfl (by decide +kernel) (by decide +kernel) (fun s vs ws h1 h2 X => ?_) (s_lexer w).2 fun ps st y st' e => ?_
  obtain ⟨v, rfl⟩ := ln1 h1
  obtain rfl := ln0 h2
  exact BindsTo.of_eq (by kernel_rfl)
  obtain ⟨text, rfl, h0, e'⟩ := Zo e
  clear e; cases e'
  have h0' : ∀ l, (st ++ l)[0]? = some (AO.tab 316 posP qP) := fun l => by
    rw [List.getElem?_append_left (List.getElem?_eq_some_iff.mp h0).1]; exact h0
  refine ⟨rfl, st.length + 3, [some (.ref (st.length + 2)), some (.str text)], Nat.le_add_right _ _, rfl, fun L => ⟨.ret (.ref (st.length + 4)), ⟨[some (.ref st.length), some (.ref (st.length + 3)), some (.ref (st.length + 4))], [some (.ref (st.length + 2)), some (.str text)],
    st ++ [.inst 310 [(nLine, .int 1), (nIn, .none), (nWs, .str wsS), (nPb, .ref (st.length + 1)), (nRd, .ref (st.length + 3))], .list [], .list [], .fn tmP (cnAt cn_lexer L).reverse, .inst 310 (kvW 1 (.ref st.length) wsQ (st.length + 5)), .list []]⟩, ?_, rfl, ?_, rfl, ?_⟩⟩
  · let E (a b c d : Option PV) (S : List AO) : ES := ⟨[a, b, c], [d, some (.str text)], S⟩
    let n := st.length
    let r (k : Nat) : Option PV := some (.ref (n + k))
    let F : AO := .fn tmP (cnAt cn_lexer L).reverse
    let I1 : AO := .inst 310 (kv76 1 .none (n + 1))
    let I2 : AO := .inst 310 [(nLine, .int 1), (nIn, .none), (nWs, .str wsS), (nPb, .ref (n + 1)), (nRd, .ref (n + 3))]
    let I3 : AO := .inst 310 (kv76 1 (.ref n) (n + 5))
    show (s_lexer w).1 L (E none none none none st) = some (.ret (.ref (n + 4)), E (r 0) (r 3) (r 4) (r 2) (st ++ [I2, .list [], .list [], F, .inst 310 (kvW 1 (.ref n) wsQ (n + 5)), .list []]))
    simp only [s_lexer]
    refine e_seq (es₁ := E (r 0) none none none (st ++ [I1, .list []])) (e_asg (p := .ref n) (es₁ := E none none none none (st ++ [I1, .list []])) (e_bind (y := [.none]) (es₁ := E none none none none st) (p_cons rfl rfl) (Ye ?_)) rfl) ?_
    · exact make310_run w .none st
    refine e_seq (es₁ := E (r 0) none none (r 2) (st ++ [I1, .list [], .list []])) (e_asg (p := .ref (n + 2)) (es₁ := E (r 0) none none none (st ++ [I1, .list [], .list []])) ?_ rfl) ?_
    · rw [new0]
      show some (PV.ref (st ++ _).length, (⟨_, _, (st ++ [I1, .list []]) ++ [_]⟩ : ES)) = _
      rw [List.length_append, List.append_assoc]; rfl
    refine e_seq (es₁ := E (r 0) (r 3) none (r 2) (st ++ [I1, .list [], .list [], F])) (def_of (h0' _) ?_) ?_
    · show some (PF.next, (⟨[_, some (PV.ref (st ++ _).length), _], _, (st ++ [I1, .list [], .list []]) ++ [_]⟩ : ES)) = _
      rw [List.length_append, List.append_assoc]; rfl
    refine e_seq (es₁ := E (r 0) (r 3) none (r 2) (st ++ [I2, .list [], .list [], F])) (e_asg (p := .ref (n + 3)) (es₁ := E (r 0) (r 3) none (r 2) (st ++ [I1, .list [], .list [], F])) rfl (e_lift (p := .ref n) (es₁ := E (r 0) (r 3) none (r 2) (st ++ [I1, .list [], .list [], F])) rfl (X6 (so_rd w) (put4 _ _ _ _ _)))) ?_
    refine e_seq (es₁ := E (r 0) (r 3) (r 4) (r 2) (st ++ [I2, .list [], .list [], F, I3, .list []])) (e_asg (p := .ref (n + 4)) (es₁ := E (r 0) (r 3) none (r 2) (st ++ [I2, .list [], .list [], F, I3, .list []])) (e_bind (y := [.ref n]) (es₁ := E (r 0) (r 3) none (r 2) (st ++ [I2, .list [], .list [], F])) (p_cons rfl rfl) (Ye ?_)) rfl) ?_
    · have := make310_run w (.ref n) (st ++ [I2, .list [], .list [], F])
      rwa [List.length_append, List.append_assoc] at this
    exact e_seq (es₁ := E (r 0) (r 3) (r 4) (r 2) (st ++ [I2, .list [], .list [], F, .inst 310 (kvW 1 (.ref n) wsQ (n + 5)), .list []])) (e_asg (p := .str wsQ) (es₁ := E (r 0) (r 3) (r 4) (r 2) (st ++ [I2, .list [], .list [], F, I3, .list []])) rfl (e_lift (p := .ref (n + 4)) (es₁ := E (r 0) (r 3) (r 4) (r 2) (st ++ [I2, .list [], .list [], F, I3, .list []])) rfl (set_mid (l := [I2, .list [], .list [], F]) rfl (so_ws w) (putW _ _ _ _ _)))) rfl
  · rw [Xh]; rfl
  · rw [set_app]; rfl
theorem cut_len : ∀ n < 64, (sliceL n none (some 9) none).length ≤ 9 := by decide +kernel
theorem slice_lst {xs : List PV} {a b k : PV} {lo hi st : Option Int} (h1 : part? a = some lo) (h2 : part? b = some hi) (h3 : part? k = some st) (hk : st ≠ some 0) (hz : xs.length ≤ 100) (S : List AO) : sliceG (.lst xs) a b k S = some (.lst (pick (sliceL xs.length lo hi st) xs), S) := by
  unfold sliceG
  rw [h1, h2, h3]
  dsimp only
  rw [if_pos hk]
  show (if xs.length ≤ sizeLine then _ else _) = _
  rw [if_pos (Zr hz)]
theorem pick_map {α β : Type} (f : α → β) (idx : List Nat) (xs : List α) : pick idx (xs.map f) = (pick idx xs).map f := by
  unfold pick
  rw [List.map_filterMap]
  congr 1
  funext i
  exact List.getElem?_map
theorem slice_cut {xs : List Int} (h : xs.length < 64) (st : List AO) : ∃ ds : List Int, ds.length ≤ 9 ∧ sliceG (.lst (xs.map PV.int)) .none (.int 9) .none st = some (.lst (ds.map PV.int), st) := by
  refine ⟨pick (sliceL xs.length none (some 9) none) xs, Nat.le_trans (List.length_filterMap_le _ _) (cut_len _ h), ?_⟩
  rw [slice_lst (lo := none) (hi := some 9) (st := none) rfl rfl rfl (by decide) (by rw [List.length_map]; omega), List.length_map, pick_map]
theorem sl_at {F₀ F₁ F₂ F₃ : FM PV} {es : ES} {v l u k r : PV} (h0 : F₀ es = some (v, es)) (h1 : F₁ es = some (l, es)) (h2 : F₂ es = some (u, es)) (h3 : F₃ es = some (k, es)) (h : sliceG v l u k es.st = some (r, es.st)) : (bindE F₀ fun v => bindE F₁ fun l => bindE F₂ fun u => bindE F₃ fun k => liftS (sliceG v l u k)) es = some (r, es) :=
  e_bind h0 (e_bind h1 (e_bind h2 (e_bind h3 (Ye h))))
noncomputable def fm6 (i : Int) : Nat := (i.fmod 1000000).toNat
theorem pow_ten (st : List AO) : powI (.int 10) (.int 6) st = some (inP 1000000, st) := by
  unfold powI
  dsimp only
  rw [if_pos (by decide)]
  rfl
theorem mod_int (i : Int) (st : List AO) : modI (.int i) (inP 1000000) st = some (inP (fm6 i), st) := by
  have h0 : (0 : Int) ≤ i.fmod 1000000 := Int.fmod_nonneg_of_pos _ (by omega)
  unfold modI
  dsimp only
  rw [if_pos (by decide)]
  show some (PV.int (i.fmod 1000000), st) = some (PV.int (((i.fmod 1000000).toNat : Nat) : Int), st)
  rw [Int.toNat_of_nonneg h0]
noncomputable def sev : List Nat := [4, 17, 22, 39, 45, 56, 68]
theorem sev_cut : ∀ k < 10, pick (sliceL 7 (some ((k : Nat) : Int)) none none) sev = sev.drop k := by decide +kernel
theorem slice_sev {k : Nat} (h : k < 10) (st : List AO) : sliceG (.lst (sev.map inP)) (inP k) .none .none st = some (.lst ((sev.drop k).map inP), st) := by
  have := slice_lst (xs := sev.map inP) (lo := some (k : Int)) (hi := none) (st := none) (a := inP k) (b := .none) (k := .none) rfl rfl rfl (by decide) (by decide) st
  rw [pick_map, show (sev.map inP).length = 7 from rfl, sev_cut k h] at this
  exact this
theorem sev_len (k : Nat) : (sev.drop k).length = 7 - k := by rw [List.length_drop]; rfl
section
variable {es : ES}
theorem drawn_run {sc : PV} {di : List Int} (h0 : getL 0 es = some (sc, es)) (hcut : sliceG sc .none (.int 9) .none es.st = some (.lst (di.map PV.int), es.st)) (hz : di.length ≤ 9) :
    (bindE (compE 1 (bindE (bindE (getL 0) fun v => bindE (pureE PV.none) fun l => bindE (pureE (PV.int 9)) fun u => bindE (pureE PV.none) fun k => liftS (sliceG v l u k)) (itsE itsV)) (setL 0) (pureE true) (emitE (bindE (bindE (consE (getL 0) (pureE [])) fun ps => liftS (intG ps)) fun p => bindE (bindE (pureE (PV.int 10)) fun p => bindE (pureE (PV.int 6)) fun q => liftS (powI p q)) fun q => liftS (modI p q)))) fun zs => pureE (PV.lst zs)) es = some (.lst ((di.map fm6).map inP), es) := by
  rw [List.map_map]
  refine e_lst (Ju (chk := fun _ => true) 1 PV.int (fun a => [some (.int a)]) (inP ∘ fm6) di (Qd (p := .lst (di.map PV.int)) (sl_at (v := sc) (l := .none) (u := .int 9) (k := .none) h0 rfl rfl rfl hcut) rfl) rfl (fun _ _ => rfl) (fun a _ l hl => ?_) (fun a _ => ?_) (by omega))
  · obtain ⟨x, rfl⟩ := ln1 hl
    rfl
  · exact p_bin (p := .int a) (q := inP 1000000) (p_call (ps := [.int a]) (p_cons rfl rfl) rfl) (p_bin (p := .int 10) (q := .int 6) rfl rfl (pow_ten _)) (mod_int _ _)
theorem numbers_run {ds : List Nat} (h1 : getL 1 es = some (.lst (ds.map inP), es)) (hz : ds.length ≤ 9) :
    (bindE (getL 1) fun p => bindE (bindE (bindE (consE (pureE (PV.int 4)) (consE (pureE (PV.int 17)) (consE (pureE (PV.int 22)) (consE (pureE (PV.int 39)) (consE (pureE (PV.int 45)) (consE (pureE (PV.int 56)) (consE (pureE (PV.int 68)) (pureE [])))))))) lstE) fun v => bindE (bindE (consE (getL 1) (pureE [])) fun ps => liftS (lenG ps)) fun l => bindE (pureE PV.none) fun u => bindE (pureE PV.none) fun k => liftS (sliceG v l u k)) fun q => liftS (addG p q)) es = some (.lst ((ds ++ sev.drop ds.length).map inP), es) := by
  have hlen : lenG [.lst (ds.map inP)] es.st = some (inP ds.length, es.st) := by
    rw [Qc (xs := ds.map inP) rfl (Zr (by rw [List.length_map]; omega)), List.length_map]
  refine p_bin h1 (sl_at (v := .lst (sev.map inP)) (l := inP ds.length) (u := .none) (k := .none) (e_bind (y := sev.map inP) (es₁ := es) rfl (by unfold lstE; rw [if_pos (Zr (by decide))]; rfl)) (p_call (p_cons h1 rfl) hlen) rfl rfl (slice_sev (by omega) _)) ?_
  rw [List.map_append]
  exact Jj (by rw [List.length_map, List.length_map, sev_len]; omega) _
theorem zip_maps {α : Type} (f g : α → PV) : ∀ l : List α, zipP (l.map f) (l.map g) = l.map fun x => .tup [f x, g x]
  | [] => rfl
  | x :: l => by
    rw [List.map_cons, List.map_cons, List.map_cons, zipP, zip_maps f g l]
theorem nu_snd : ∀ (k : Nat) (ns : List Nat), (nu k ns).map (·.2) = ns
  | _, [] => rfl
  | k, n :: r => by
    show n :: (nu (k + 1) r).map (·.2) = _
    rw [nu_snd]
noncomputable abbrev wR (x : Rw) : PV := .str (wdR x)
theorem rows_run (w : World) {ns : List Nat} (hn : ns.length ≤ 9) (h3 : getL 3 es = some (.lst ((rwsOf ns).map wR), es)) (h2 : getL 2 es = some (.lst (ns.map inP), es)) :
    (bindE (compE 2 (bindE (consE (getL 3) (consE (getL 2) (pureE []))) (itsEs itsZip)) (Xr 2 (asCons (setL 0) (asCons (setL 1) asNil))) (pureE true)
      (emitE (bindE (bindE (consE (pureE (PV.str (Str.ofString "k"))) (consE (getL 0) (consE (bindE (bindE (getL 1) fun p => bindE (pureE (PV.int 60)) fun q => liftS (divI p q)) fun p => bindE (pureE (PV.int 2)) fun q => liftS (modI p q)) (pureE [])))) fun ps => liftS (fparR w ps)) fun p => bindE (pureE (PV.str (Str.ofString "\n"))) fun q => liftS (addG p q)))) fun zs => pureE (PV.lst zs)) es
      = some (.lst (((rwsOf ns).map rwS).map .str), es) := by
  have hz : zipP ((rwsOf ns).map wR) (ns.map inP) = (nu 0 ns).map fun x => .tup [wR (rwOf ns x), inP x.2] := by
    have := zip_maps (fun x => wR (rwOf ns x)) (fun x : Nat × Nat => inP x.2) (nu 0 ns)
    rw [← this]
    unfold rwsOf
    rw [List.map_map]
    congr 1
    have h := nu_snd 0 ns
    conv => lhs; rw [← h]
    rw [List.map_map]; rfl
  have he : ((rwsOf ns).map rwS).map PV.str = (nu 0 ns).map fun x => PV.str (rwS (rwOf ns x)) := by
    unfold rwsOf; rw [List.map_map, List.map_map]; rfl
  rw [he]
  refine e_lst (Ju (chk := fun _ => true) 2 (fun x => .tup [wR (rwOf ns x), inP x.2]) (fun x => [some (wR (rwOf ns x)), some (inP x.2)]) _ (nu 0 ns) (its_at (p_cons h3 (p_cons h2 rfl)) ?_) rfl (fun _ _ => rfl) (fun x _ l hl => set2 hl) (fun x m => ?_) (by rw [nu_len]; omega))
  · exact (itsZip_of _ _ _).trans (by rw [hz])
  · have hx := rws_ok hn (rwOf ns x) (List.mem_map_of_mem m)
    have hq : (x.2 / 60 % 2 == 1).toNat = x.2 / 60 % 2 := by
      have : x.2 / 60 % 2 < 2 := Nat.mod_lt _ (by decide)
      generalize x.2 / 60 % 2 = y at this
      match y, this with
      | 0, _ => rfl
      | 1, _ => rfl
    have hr := fpar_run w hx.r hx.s (x.2 / 60 % 2 == 1) es.st
    rw [hq] at hr
    have hl : (rowS (x.2 / 60 % 2 == 1) (rk ns x) (x.2 / 10 % 6)).length + nlS.length ≤ 100 := by
      have h1 : nlS.length = 1 := by decide +kernel
      have := (rw_fin (x.2 / 60 % 2 == 1) _ hx.r _ hx.s).2.1.2
      rw [h1]; exact Nat.le_trans (Nat.succ_le_succ this) (by decide)
    exact p_bin (p := .str (rowS (x.2 / 60 % 2 == 1) (rk ns x) (x.2 / 10 % 6))) (q := .str nlS) (p_call (ps := [.str kS, wR (rwOf ns x), inP (x.2 / 60 % 2)]) (p_cons rfl (p_cons rfl (p_cons (p_bin (p := inP (x.2 / 60)) (q := inP 2) (p_bin (p := inP x.2) (q := inP 60) rfl rfl (div_nat (by decide) (by decide) _)) rfl (mod_nat (by decide) _)) rfl))) hr) rfl (add_strs hl _)
theorem texts_map : ∀ l : List Str, texts? (l.map PV.str) = some l
  | [] => rfl
  | x :: l => by
    have := texts_map l
    unfold texts? at this ⊢
    rw [List.map_cons, List.mapM_cons, this]; rfl
theorem lexer_at {cs : List Rw} (hok : ∀ x ∈ cs, RwOk x) (hn : cs.length ≤ 9) (h5 : getL 5 es = some (.lst ((cs.map rwS).map .str), es)) (h0 : es.st[0]? = some (AO.tab 316 posP qP)) :
    (bindE (consE (bindE (pureE (PV.str (Str.ofString ""))) fun p => guardE (isStr p) (bindE (consE (getL 5) (pureE [])) fun ps => liftS (joinG (p :: ps)))) (pureE [])) fun ps => liftS (lexerG ps)) es = some (.ref (es.st.length + 4), ⟨es.loc, es.cel, es.st ++ lexNew es.st.length (txtOf cs)⟩) := by
  have hj : joinG [.str emS, .lst ((cs.map rwS).map .str)] es.st = some (.str (txtOf cs), es.st) := by
    unfold joinG
    dsimp only
    rw [show (items? es.st (.lst ((cs.map rwS).map .str))).bind texts? = some (cs.map rwS) from texts_map _]
    dsimp only
    rw [if_pos (join_ok hok hn)]
  exact e_bind (p_cons (p_meth (p := .str emS) (ps := [.lst ((cs.map rwS).map .str)]) rfl rfl (p_cons h5 rfl) hj) rfl) (Ye (lexer_run h0))
theorem mul_nat {a b : Nat} (h : b < 1000000000) (st : List AO) : mulI (inP a) (inP b) st = some (inP (a * b), st) := by
  show (if (b : Int).natAbs < 2 ^ 60 then some (PV.int ((a : Int) * b), st) else none) = _
  rw [if_pos (by omega)]
  rfl
theorem read_at {w : World} {n : Nat} {zs : List PV} {S' : List AO} {o : Option PV} {p : PV} (h3 : getL 3 es = some (p, es)) (hl : lenG [p] es.st = some (inP n, es.st)) (hn : n ≤ 9) (ew : Z5 (fun _ => true) (setL 0) (pureE true) (emitE (tkE w)) ((List.range (2 * n + 1)).map inP) [] ⟨[none], es.cel, es.st⟩ = some (zs, ⟨[o], es.cel, S'⟩)) :
    (bindE (compE 1 (bindE (consE (bindE (bindE (pureE (PV.int 2)) fun p => bindE (bindE (consE (getL 3) (pureE [])) fun ps => liftS (lenG ps)) fun q => liftS (mulI p q)) fun p => bindE (pureE (PV.int 1)) fun q => liftS (addG p q)) (pureE [])) (itsEs Xv)) (setL 0) (pureE true) (emitE (tkE w))) fun zs => pureE (PV.lst zs)) es = some (.lst zs, ⟨es.loc, es.cel, S'⟩) := by
  have hI := its_at (X := consE (bindE (bindE (pureE (PV.int 2)) fun p => bindE (bindE (consE (getL 3) (pureE [])) fun ps => liftS (lenG ps)) fun q => liftS (mulI p q)) fun p => bindE (pureE (PV.int 1)) fun q => liftS (addG p q)) (pureE [])) (es := es) (ps := [inP (2 * n + 1)]) (G := Xv) (p_cons (p_bin (p := inP (2 * n)) (q := inP 1) (p_bin (p := inP 2) (q := inP n) rfl (p_call (p_cons h3 rfl) hl) (mul_nat (by omega) _)) rfl (add_inP _ _ _)) rfl) (its_range (2 * n + 1) (by omega) _)
  refine e_lst ?_
  unfold compE
  rw [hI]
  dsimp only [List.replicate]
  rw [ew]
noncomputable def awI : List PV → FM (List PV) := innerE (bindE (bindE (consE (pureE (PV.str (Str.ofString "k"))) (consE (getL 0) (pureE []))) tupE) (itsE itsV)) (setL 1) (pureE true) (emitE (getL 1))
theorem aw_loop {cel : List (Option PV)} {S : List AO} : ∀ (cs : List Rw) (zs : List PV) (o1 o2 : Option PV), zs.length + 2 * cs.length ≤ 90 → ∃ o1' o2', Z5 (fun _ => true) (setL 0) (pureE true) awI (cs.map wR) zs ⟨[o1, o2], cel, S⟩ = some (zs ++ (cs.flatMap fun x => [kS, wdR x]).map .str, ⟨[o1', o2'], cel, S⟩)
  | [], zs, o1, o2, _ => ⟨o1, o2, by
    show some (zs, _) = some (zs ++ [], _)
    rw [List.append_nil]⟩
  | x :: cs, zs, o1, o2, hz => by
    rw [List.length_cons] at hz
    obtain ⟨p1, p2, e2⟩ := aw_loop (cel := cel) (S := S) cs (zs ++ [.str kS] ++ [wR x]) (some (wR x)) (some (wR x)) (by rw [List.length_append, List.length_append]; show _ + 1 + 1 + _ ≤ _; omega)
    refine ⟨p1, p2, ?_⟩
    have h1 : awI zs ⟨[some (wR x), o2], cel, S⟩ = some (zs ++ [.str kS] ++ [wR x], ⟨[some (wR x), some (wR x)], cel, S⟩) := by
      unfold awI innerE
      refine e_bind (y := ([.str kS, wR x], fun _ => true)) (es₁ := ⟨[some (wR x), o2], cel, S⟩) (e_bind (y := .tup [.str kS, wR x]) (es₁ := ⟨[some (wR x), o2], cel, S⟩) (p_tup2 rfl rfl) rfl) ?_
      exact Jv (es₁ := ⟨[some (wR x), some (.str kS)], cel, S⟩) rfl (Js rfl (by omega)) (Jv (es₁ := ⟨[some (wR x), some (wR x)], cel, S⟩) rfl (Js rfl (by rw [List.length_append]; show _ + 1 ≤ _; omega)) ci_nil)
    have h2 : zs ++ [.str kS] ++ [wR x] ++ (cs.flatMap fun x => [kS, wdR x]).map PV.str = zs ++ ((x :: cs).flatMap fun x => [kS, wdR x]).map PV.str := by
      rw [List.flatMap_cons, List.map_append, List.append_assoc, List.append_assoc]; rfl
    rw [h2] at e2
    exact Jv (es₁ := ⟨[some (wR x), o2], cel, S⟩) rfl h1 e2
theorem words_len (cs : List Rw) : (Yn cs).length = 2 * cs.length + 1 := by
  unfold Yn
  rw [List.length_append]
  induction cs with
  | nil => rfl
  | cons x cs ih => rw [List.flatMap_cons, List.length_append, List.length_cons]; simp only [List.length_cons, List.length_nil] at ih ⊢; omega
theorem aw_at {cs : List Rw} (hn : cs.length ≤ 9) (h3 : getL 3 es = some (.lst (cs.map wR), es)) :
    (bindE (bindE (compE 2 (bindE (getL 3) (itsE itsV)) (setL 0) (pureE true) awI) fun zs => pureE (PV.lst zs)) fun p => bindE (bindE (consE (pureE (PV.str (Str.ofString ""))) (pureE [])) lstE) fun q => liftS (addG p q)) es = some (.lst ((Yn cs).map .str), es) := by
  obtain ⟨o1, o2, ea⟩ := aw_loop (cel := es.cel) (S := es.st) cs [] none none (by show 0 + _ ≤ _; omega)
  have hc : compE 2 (bindE (getL 3) (itsE itsV)) (setL 0) (pureE true) awI es = some ((cs.flatMap fun x => [kS, wdR x]).map .str, es) := by
    unfold compE
    rw [Qd (p := .lst (cs.map wR)) (y := (cs.map wR, fun _ => true)) h3 rfl]
    dsimp only [List.replicate]
    rw [ea]; rfl
  refine p_bin (p := .lst ((cs.flatMap fun x => [kS, wdR x]).map .str)) (q := .lst [.str emS]) (e_lst hc) (lst1 rfl) ?_
  have hw := words_len cs
  unfold Yn at hw ⊢
  rw [List.length_append] at hw
  rw [List.map_append]
  exact Jj (by rw [List.length_map]; show _ + 1 ≤ 100; rw [List.length_singleton] at hw; omega) _
end
theorem lex_new {st : List AO} {text : Str} (ha : text.cps.all (· < 128) = true) (hz : text.cps.size ≤ 1000) : Lex (st ++ lexNew st.length text) (st.length + 4) st.length (st.length + 5) (st.length + 3) (st.length + 2) 1 (st.length + 1) text 0 [] :=
  ⟨Xh _ _ 4, Y1 _ _, Xh _ _ 3, Xh _ _ 2, Xh _ _ 5, by omega, ha, hz⟩
theorem getA_line (w : World) {st : List AO} {i j : Nat} {n : Int} {p : PV} {ws : Str} (h1 : st[i]? = some (.inst 310 (kvW n p ws j))) : getA (kFrag w.params) (Str.ofString "lineno") (.ref i) st = some (.int n, st) := Qe (Xg h1) (ao_line w) (getL1 _ _)
theorem words_pick_fin : ∀ n < 10, sliceL (2 * n + 1) (some 1) none (some 2) = (List.range' 0 n).map fun i => 2 * i + 1 := by decide +kernel
theorem words_get : ∀ (cs : List Rw) (T : List PV) (i : Nat), i < cs.length → ((cs.flatMap fun x => [kS, wdR x]).map PV.str ++ T)[2 * i + 1]? = (cs.map wR)[i]?
  | x :: cs, T, 0, _ => rfl
  | x :: cs, T, i + 1, h => by
    have ih := words_get cs T i (Nat.lt_of_succ_lt_succ h)
    rw [show 2 * (i + 1) + 1 = (2 * i + 1) + 1 + 1 by omega]
    exact ih
theorem fm_congr {α β : Type} {f g : α → Option β} : ∀ l : List α, (∀ a ∈ l, f a = g a) → l.filterMap f = l.filterMap g
  | [], _ => rfl
  | a :: l, h => by
    rw [List.filterMap_cons, List.filterMap_cons, h a (.head _), fm_congr l fun b m => h b (.tail _ m)]
theorem words_cut {cs : List Rw} (h : cs.length ≤ 9) (st : List AO) : sliceG (.lst ((Yn cs).map .str)) (.int 1) .none (.int 2) st = some (.lst (cs.map wR), st) := by
  rw [slice_lst (lo := some 1) (hi := none) (st := some 2) rfl rfl rfl (by decide) (by rw [List.length_map, words_len]; omega), List.length_map, words_len, words_pick_fin _ (by omega)]
  congr 3
  unfold pick Yn
  rw [List.filterMap_map, List.map_append]
  have h1 : ∀ i ∈ List.range' 0 cs.length, (((cs.flatMap fun x => [kS, wdR x]).map PV.str ++ [emS].map PV.str)[2 * i + 1]?) = (cs.map wR)[i]? := fun i m => words_get cs _ i (by have := (List.mem_range'_1.mp m).2; omega)
  have h2 := range_get (cs.map wR) []
  rw [List.length_map] at h2
  exact (fm_congr _ h1).trans h2
theorem f_cons {S : PV → FM Unit} {B : FM PF} {x : PV} {r : List PV} {es es₁ es₂ : ES} {q : Option (PF × ES)} (h1 : S x es = some ((), es₁)) (h2 : B es₁ = some (.next, es₂)) (h3 : Yc (fun _ => true) S B r es₂ = q) : Yc (fun _ => true) S B (x :: r) es = q := by
  show guardE (fun _ => true) (bindE (S x) fun _ => bindE B (loopK (Yc (fun _ => true) S B r))) es = q
  exact Z4 rfl (e_bind h1 (e_bind h2 h3))
noncomputable def pB (w : World) : FM PF := seqE (bindE (bindE (getC 1) fun p => guardE (isInst 310 (Str.ofString "push_token") p) (bindE (consE (getL 4) (pureE [])) fun ps => liftS (ptokR w (p :: ps)))) fun x => pureE PF.next) (pureE PF.next)
noncomputable def rotB (w : World) : FM PF := seqE (bindE (bindE (getC 1) fun p => guardE (isInst 310 (Str.ofString "push_token") p) (bindE (consE (tkE w) (pureE [])) fun ps => liftS (ptokR w (p :: ps)))) fun x => pureE PF.next) (pureE PF.next)
section
variable {w : World} {i j : Nat} {n : Int} {p : PV}
theorem ij_ne {S : List AO} {xs : List PV} (h1 : S[i]? = some (.inst 310 (kvW n p wsQ j))) (h2 : S[j]? = some (.list xs)) : i ≠ j := by rintro rfl; cases h1.symm.trans h2
theorem push_loop (w : World) {c0 a0 a1 a2 a3 : Option PV} {tl : List (Option PV)} : ∀ (r : List PV) (xs : List PV) (S : List AO) (a4 : Option PV), S[i]? = some (.inst 310 (kvW n p wsQ j)) → S[j]? = some (.list xs) → xs.length + r.length ≤ 40 →
    ∃ a4', Yc (fun _ => true) (setL 4) (pB w) r ⟨a0 :: a1 :: a2 :: a3 :: a4 :: tl, [c0, some (.ref i)], S⟩ = some (.next, ⟨a0 :: a1 :: a2 :: a3 :: a4' :: tl, [c0, some (.ref i)], S.set j (.list (xs ++ r))⟩)
  | [], xs, S, a4, h1, h2, _ => ⟨a4, by rw [List.append_nil, Y7 h2]; rfl⟩
  | x :: r, xs, S, a4, h1, h2, hz => by
    rw [List.length_cons] at hz
    have ne := ij_ne h1 h2
    obtain ⟨a4', e⟩ := push_loop w (c0 := c0) (a0 := a0) (a1 := a1) (a2 := a2) (a3 := a3) (tl := tl) r (xs ++ [x]) (S.set j (.list (xs ++ [x]))) (some x) (by rw [List.getElem?_set_ne (Ne.symm ne)]; exact h1) (by rw [List.getElem?_set_self (lt_of h2)]) (by rw [List.length_append]; show _ + 1 + _ ≤ _; omega)
    rw [List.set_set, List.append_assoc] at e
    refine ⟨a4', f_cons (es₁ := ⟨a0 :: a1 :: a2 :: a3 :: some x :: tl, [c0, some (.ref i)], S⟩) rfl ?_ e⟩
    unfold pB
    exact e_seq (e_expr (p := .none) (e_meth (p := .ref i) (ps := [x]) (es₁ := ⟨a0 :: a1 :: a2 :: a3 :: some x :: tl, [c0, some (.ref i)], S⟩) (es₂ := ⟨a0 :: a1 :: a2 :: a3 :: some x :: tl, [c0, some (.ref i)], S⟩) rfl (Yg h1 (kv_pt _ _ _ _)) (p_cons rfl rfl) (ptok_run w h1 h2 (Zr (by omega))))) rfl
theorem rot_loop (w : World) {loc : List (Option PV)} : ∀ (A Q its : List PV) (S : List AO) (c0 : Option PV), its.length = A.length → S[i]? = some (.inst 310 (kvW n p wsQ j)) → S[j]? = some (.list (A ++ Q)) → A.length + Q.length ≤ 40 →
    ∃ c0', Yc (fun _ => true) (setC 0) (rotB w) its ⟨loc, [c0, some (.ref i)], S⟩ = some (.next, ⟨loc, [c0', some (.ref i)], S.set j (.list (Q ++ A))⟩)
  | [], Q, its, S, c0, hi, h1, h2, _ => by
    rw [List.length_eq_zero_iff.mp hi]
    exact ⟨c0, by rw [List.append_nil, Y7 (by simpa using h2)]; rfl⟩
  | a :: A, Q, [], S, c0, hi, _, _, _ => nomatch hi
  | a :: A, Q, t :: its, S, c0, hi, h1, h2, hz => by
    rw [List.length_cons] at hz
    have ne := ij_ne h1 h2
    have z1 : (A ++ Q).length ≤ 40 := by rw [List.length_append]; omega
    let S1 := S.set j (.list (A ++ Q))
    have g1 : S1[i]? = some (.inst 310 (kvW n p wsQ j)) := by rw [List.getElem?_set_ne (Ne.symm ne)]; exact h1
    have g2 : S1[j]? = some (.list (A ++ Q)) := by rw [List.getElem?_set_self (lt_of h2)]
    obtain ⟨c0', e⟩ := rot_loop w (loc := loc) A (Q ++ [a]) its (S.set j (.list (A ++ (Q ++ [a])))) (some t) (Nat.succ.inj hi) (by rw [List.getElem?_set_ne (Ne.symm ne)]; exact h1) (by rw [List.getElem?_set_self (lt_of h2)]) (by rw [List.length_append]; show _ + (_ + 1) ≤ _; omega)
    rw [List.set_set, List.append_assoc] at e
    refine ⟨c0', f_cons (es₁ := ⟨loc, [some t, some (.ref i)], S⟩) rfl ?_ e⟩
    unfold rotB
    have ht := J7 w h1 h2 (x := a) (xs := A ++ Q) (Zr (by omega))
    have hp := ptok_run w g1 g2 (x := a) (Zr (by omega))
    rw [List.set_set, List.append_assoc] at hp
    exact e_seq (e_expr (p := .none) (e_meth (p := .ref i) (ps := [a]) (es₁ := ⟨loc, [some t, some (.ref i)], S⟩) (es₂ := ⟨loc, [some t, some (.ref i)], S1⟩) rfl (Yg h1 (kv_pt _ _ _ _)) (e_cons (es₁ := ⟨loc, [some t, some (.ref i)], S1⟩) (Jl h1 ht loc) rfl) hp)) rfl
end
section
variable {es : ES} {sg : Nat → Nat} {A B : List Nat} {M : Nat}
theorem spot_run (hs : SgOk sg) (h9 : ∀ y ∈ A ++ M :: B, y < 9) (hA : ∀ y ∈ A, y < M) (hB : ∀ y ∈ B, y < M) (hz : A.length < 1000) (h3 : getL 3 es = some (.lst ((A ++ M :: B).map (wP sg)), es)) :
    (bindE (getL 3) fun p => guardE (isLst p) (bindE (consE (bindE (consE (getL 3) (pureE [])) fun ps => liftS (maxL ps)) (pureE [])) fun ps => liftS (indexG (p :: ps)))) es = some (inP A.length, es) := by
  have hm : maxL [.lst ((A ++ M :: B).map (wP sg))] es.st = some (wP sg M, es.st) := max_nats (ns := A ++ M :: B) rfl (gt_wP sg) (like_wP sg _) (List.mem_append_right _ (.head _)) fun y m => by
    rcases List.mem_append.mp m with m | m
    · exact Nat.le_of_lt (hA y m)
    · rcases List.mem_cons.mp m with rfl | m
      · exact Nat.le_refl _
      · exact Nat.le_of_lt (hB y m)
  exact p_meth (ps := [wP sg M]) h3 rfl (p_cons (p_call (p_cons h3 rfl) hm) rfl) (index_wd hs h9 (fun m => Nat.lt_irrefl _ (hA M m)) hz _)
theorem ring_run (h3 : getL 3 es = some (.lst ((A ++ M :: B).map (wP sg)), es)) (h8 : getL 8 es = some (inP A.length, es)) (hz : (A ++ M :: B).length < 20) :
    (bindE (bindE (getL 3) fun v => bindE (getL 8) fun l => bindE (pureE PV.none) fun u => bindE (pureE PV.none) fun k => liftS (sliceG v l u k)) fun p => bindE (bindE (getL 3) fun v => bindE (pureE PV.none) fun l => bindE (getL 8) fun u => bindE (pureE PV.none) fun k => liftS (sliceG v l u k)) fun q => liftS (addG p q)) es = some (.lst ((M :: (B ++ A)).map (wP sg)), es) := by
  have hl : ((A ++ M :: B).map (wP sg)).length < 20 := by rw [List.length_map]; exact hz
  have ha : A.length ≤ ((A ++ M :: B).map (wP sg)).length := by rw [List.length_map, List.length_append]; omega
  have t1 := Qt hl ha es.st
  rw [← List.map_drop, List.drop_left] at t1
  have t2 := slice_take hl ha es.st
  rw [← List.map_take, List.take_left] at t2
  refine p_bin (sl_at h3 h8 rfl rfl t1) (sl_at h3 rfl h8 rfl t2) ?_
  rw [Jj (by rw [List.length_map, List.length_map]; rw [List.length_append] at hz; omega), ← List.map_append]
  rfl
end
noncomputable abbrev ZT (S : List AO) (j : Nat) (Q : List PV) (l : List AO) : List AO := S.set j (.list Q) ++ l
section
variable {S : List AO} {j : Nat} {Q : List PV} {l : List AO}
theorem zt_len : (ZT S j Q l).length = S.length + l.length := by rw [List.length_append, List.length_set]
theorem zt_get (k : Nat) : (ZT S j Q l)[S.length + k]? = l[k]? := by
  have := Xh (S.set j (.list Q)) l k
  rwa [List.length_set] at this
theorem zt_set (k : Nat) (x : AO) : (ZT S j Q l).set (S.length + k) x = ZT S j Q (l.set k x) := by
  have := set_app (S.set j (.list Q)) l k x
  rwa [List.length_set] at this
theorem zt_j {xs : List PV} (h : S[j]? = some (.list xs)) : (ZT S j Q l)[j]? = some (.list Q) := by
  rw [List.getElem?_append_left (by rw [List.length_set]; exact lt_of h), List.getElem?_set_self (lt_of h)]
theorem zt_ne {q : Nat} {x : AO} (h : S[q]? = some x) (ne : q ≠ j) : (ZT S j Q l)[q]? = some x := by
  rw [List.getElem?_append_left (by rw [List.length_set]; exact lt_of h), List.getElem?_set_ne (Ne.symm ne)]; exact h
theorem zt_setj {xs : List PV} (h : S[j]? = some (.list xs)) (Q' : List PV) : (ZT S j Q l).set j (.list Q') = ZT S j Q' l := by
  rw [List.set_append_left _ _ (by rw [List.length_set]; exact lt_of h), List.set_set]
theorem zt_app (l' : List AO) : ZT S j Q l ++ l' = ZT S j Q (l ++ l') := List.append_assoc ..
end
theorem dts_wd {sg : Nat → Nat} (hs : SgOk sg) {l : List Nat} (h : ∀ x ∈ l, x < 9) (st : List AO) (k : Nat) : Dts st k (l.map (wP sg)) (l.map fun x => .str (wd x (sg x))) := Dts.map fun x m => .str (wd_ok x (h x m) _ (hs.lt x)).2.2.1
theorem dts_str {l : List Str} (h : ∀ x ∈ l, PyData.strOk x = true) (st : List AO) (k : Nat) : Dts st k (l.map .str) (l.map .str) := Dts.map fun x m => .str (h x m)
theorem zt_set0 {S : List AO} {j : Nat} {Q : List PV} {l : List AO} (x : AO) : (ZT S j Q l).set S.length x = ZT S j Q (l.set 0 x) := zt_set 0 x
theorem em_ok : PyData.strOk emS = true := by decide +kernel
theorem em_plain : Y9 emS = true := by decide +kernel
section
variable {es : ES}
theorem tables_run (w : World) :
    (bindE (consE (bindE (consE (bindE (pureE []) newE) (pureE [])) fun ps => liftS (Jb ps)) (consE (bindE (pureE []) fun ps => liftS (make268G ps)) (pureE []))) tupE) es
      = some (.tup [.ref (es.st.length + 1), .ref (es.st.length + 2)], ⟨es.loc, es.cel, es.st ++ [.list [], .inst 184 (kvH es.st.length), .linst 268 (kvA 0) []]⟩) := by
  have h2 := make268_run (es.st ++ [AO.list [], .inst 184 (kvH es.st.length)])
  rw [List.length_append, List.append_assoc] at h2
  exact e_tup (ps := [.ref (es.st.length + 1), .ref (es.st.length + 2)]) (e_cons (es₁ := ⟨es.loc, es.cel, es.st ++ [.list [], .inst 184 (kvH es.st.length)]⟩) (e_bind (y := [.ref es.st.length]) (es₁ := ⟨es.loc, es.cel, es.st ++ [.list []]⟩) (e_cons (es₁ := ⟨es.loc, es.cel, es.st ++ [.list []]⟩) new0 rfl) (Ye new_hd)) (e_cons (e_bind (y := []) (es₁ := ⟨es.loc, es.cel, es.st ++ [.list [], .inst 184 (kvH es.st.length)]⟩) rfl (Ye h2)) rfl)) two_sz
theorem add_ref {xs ys : List PV} {i : Nat} {st : List AO} (h : st[i]? = some (.list ys)) (hz : xs.length + ys.length ≤ 100) : addG (.lst xs) (.ref i) st = some (.lst (xs ++ ys), st) := by
  show (match items? st (.lst xs), items? st (.ref i) with
    | some xs, some ys => if xs.length + ys.length ≤ sizeLine then some (PV.lst (xs ++ ys), st) else none
    | _, _ => none) = _
  rw [Xb h]
  show (if xs.length + ys.length ≤ sizeLine then _ else _) = _
  rw [if_pos (Zr hz)]
theorem getI_0 {x : PV} {xs : List PV} (st : List AO) : getI (.lst (x :: xs)) (.int 0) st = some (x, st) := getI_lst (i := 0) (by decide) rfl st
theorem ring0 {x : PV} {xs : List PV} (h9 : getL 9 es = some (.lst (x :: xs), es)) : (bindE (getL 9) fun p => bindE (pureE (PV.int 0)) fun q => liftS (getI p q)) es = some (x, es) := p_bin h9 rfl (getI_0 _)
theorem laid_run (w : World) {S : List AO} {i j : Nat} {n : Int} {p : PV} {sg : Nat → Nat} {M : Nat} {P : List (Nat × Nat)} {H : Nat} {xs : List PV}
    (hst : es.st = ZT S j ((M :: P.map (·.1)).map (wP sg)) [.list [], .inst 184 (kvH S.length), .linst 268 (kvA 0) []])
    (hi : S[i]? = some (.inst 310 (kvW n p wsQ j))) (hj : S[j]? = some (.list xs)) (hs : SgOk sg) (hM : M < 9) (T : Tr P H) (hP : ∀ y ∈ P, y.1 < M) (nd : (P.map (·.1)).Nodup) (hz : P.length ≤ 8)
    (h9 : getL 9 es = some (.lst ((M :: P.map (·.1)).map (wP sg)), es)) (h10 : getL 10 es = some (.ref (S.length + 1), es)) (hloc : ∀ S', getL 10 ⟨es.loc, es.cel, S'⟩ = some (.ref (S.length + 1), ⟨es.loc, es.cel, S'⟩)) (hcel : ∀ S', getC 1 ⟨es.loc, es.cel, S'⟩ = some (.ref i, ⟨es.loc, es.cel, S'⟩)) :
    (bindE (bindE (consE (bindE (getL 10) fun p => guardE (isInst 184 (Str.ofString "setdefault") p) (bindE (consE (bindE (getL 9) fun p => bindE (pureE (PV.int 0)) fun q => liftS (getI p q)) (consE (pureE (PV.str (Str.ofString ""))) (pureE []))) fun ps => liftS (sdefR w (p :: ps)))) (pureE [])) lstE) fun p =>
      bindE (bindE (consE (getC 1) (consE (getL 10) (pureE []))) fun ps => liftS (roundsR w ps)) fun q => liftS (addG p q)) es
      = some (.lst (((emS :: dK P 9)).map .str), ⟨es.loc, es.cel, ZT S j [wP sg M] [.list ((tabOf sg M (laidK P 9)).map entP), .inst 184 (kvH S.length), .linst 268 (kvA 0) [], .list ((dK P 9).map .str)]⟩) := by
  have nij : i ≠ j := by rintro rfl; cases hi.symm.trans hj
  let R0 := (M :: P.map (·.1)).map (wP sg)
  let S2 := ZT S j R0 [.list ((tabOf sg M []).map entP), .inst 184 (kvH S.length), .linst 268 (kvA 0) []]
  have s1 : sdefR w [.ref (S.length + 1), wP sg M, .str emS] es.st = some (.str emS, S2) := by
    rw [hst]
    have := sdef_new (st := ZT S j R0 [.list [], .inst 184 (kvH S.length), .linst 268 (kvA 0) []]) (i := S.length + 1) (h := S.length) (ents := []) (x := wd M (sg M)) (v := emS) w (zt_get 1) (zt_get 0) (name_wd hs hM) em_plain (fun _ m => nomatch m) (Nat.zero_le _) rfl
    rw [zt_set0] at this
    exact this
  have r1 := rounds_run w (st := S2) (i := i) (j := j) (t := S.length + 1) (h := S.length) (n := n) (p := p) (ws := wsQ) (sg := sg) (M := M) (zt_ne hi nij) (zt_get 1) (P := P) (H := H) (zt_j hj) (zt_get 0) (by have := lt_of hj; omega) hs hM T hP nd hz
  let S3 := ZT S j [wP sg M] [.list ((tabOf sg M (laidK P 9)).map entP), .inst 184 (kvH S.length), .linst 268 (kvA 0) [], .list ((dK P 9).map .str)]
  have hRT : RT sg S2 j S.length M [M] (laidK P 9) (dK P 9) = S3 := by
    show ((ZT S j R0 _).set j _).set S.length _ ++ _ = _
    rw [zt_setj hj]
    rw [zt_set0]
    exact zt_app _
  have hlen : S2.length = S.length + 3 := zt_len
  rw [hRT, hlen] at r1
  have g1 : S3[S.length + 3]? = some (.list ((dK P 9).map .str)) := zt_get 3
  have hl := Qn P 9
  have hg : isInst 184 (Str.ofString "setdefault") (.ref (S.length + 1)) es.st = true := Yg (by rw [hst]; exact zt_get 1) (get_sd _)
  show _ = some (PV.lst ((emS :: dK P 9).map .str), (⟨es.loc, es.cel, S3⟩ : ES))
  clear hRT
  clear_value S2 S3
  have q0 : consE (bindE (getL 9) fun p => bindE (pureE (PV.int 0)) fun q => liftS (getI p q)) (consE (pureE (PV.str (Str.ofString ""))) (pureE [])) es = some ([wP sg M, .str emS], es) := p_cons (ring0 h9) (p_cons rfl rfl)
  have q1 : (bindE (getL 10) fun p => guardE (isInst 184 (Str.ofString "setdefault") p) (bindE (consE (bindE (getL 9) fun p => bindE (pureE (PV.int 0)) fun q => liftS (getI p q)) (consE (pureE (PV.str (Str.ofString ""))) (pureE []))) fun ps => liftS (sdefR w (p :: ps)))) es = some (.str emS, ⟨es.loc, es.cel, S2⟩) := e_meth h10 hg q0 s1
  have q2 : ∀ S', consE (getC 1) (consE (getL 10) (pureE [])) (⟨es.loc, es.cel, S'⟩ : ES) = some ([.ref i, .ref (S.length + 1)], ⟨es.loc, es.cel, S'⟩) := fun S' => p_cons (hcel S') (p_cons (hloc S') rfl)
  have q3 : ∀ es : ES, lstE [.str emS] es = some (.lst [.str emS], es) := fun es => by
    unfold lstE
    rw [if_pos (Zr (by decide))]; rfl
  have q4 : addG (.lst [.str emS]) (.ref (S.length + 3)) S3 = some (.lst ((emS :: dK P 9).map .str), S3) := add_ref (xs := [.str emS]) g1 (by rw [List.length_map, List.length_map]; show 1 + _ ≤ _; omega)
  exact e_bin (es₁ := ⟨es.loc, es.cel, S2⟩) (es₂ := ⟨es.loc, es.cel, S3⟩) (e_bind (e_cons q1 rfl) (q3 _)) (e_bind (q2 S2) (Ye (es := ⟨es.loc, es.cel, S2⟩) r1)) q4
theorem heights_run (w : World) {sg : Nat → Nat} {M : Nat} {P : List (Nat × Nat)} {H : Nat} (hs : SgOk sg) (T : Tr P H) (hz : P.length ≤ 8) (h9 : ∀ y ∈ P, y.1 < 9) (hr : getL 9 es = some (.lst ((M :: P.map (·.1)).map (wP sg)), es)) :
    (bindE (consE (bindE (getL 9) fun v => bindE (pureE (PV.int 1)) fun l => bindE (pureE PV.none) fun u => bindE (pureE PV.none) fun k => liftS (sliceG v l u k)) (pureE [])) fun ps => liftS ((treeP w 9).val ps)) es = some (.lst ((P.map (·.2)).map inP), es) := by
  have t1 := Qt (xs := (M :: P.map (·.1)).map (wP sg)) (m := 1) (by rw [List.length_map, List.length_cons, List.length_map]; omega) (by rw [List.length_map, List.length_cons]; omega) es.st
  exact p_call (p_cons (sl_at hr rfl rfl rfl t1) rfl) (tree_run w hs T 9 (by omega) (by omega) h9 es.st)
end
theorem eq_nat (a b : Nat) (st : List AO) : eqG (inP a) (inP b) st = some (.bool (a == b), st) := by
  show some (PV.bool (PyData.eqv (.int a) (.int b)), st) = _
  rw [PyData.eqv]
  congr 3
  rw [Bool.eq_iff_iff, beq_iff_eq, beq_iff_eq]
  exact Int.natCast_inj
theorem extend_of {st : List AO} {d : Nat} {xs ys : List PV} (h : st[d]? = some (.list xs)) (hz : xs.length + ys.length ≤ 100) : extendG [.ref d, .lst ys] st = some (.none, st.set d (.list (xs ++ ys))) := by
  unfold extendG
  dsimp only
  rw [h]
  show (if xs.length + ys.length ≤ sizeLine then _ else _) = _
  rw [if_pos (Zr hz)]
noncomputable def dueB : FM PF := seqE (bindE (bindE (getL 14) fun p => guardE (isLst p) (bindE (consE (bindE (compE 2 (bindE (consE (bindE (getL 9) fun v => bindE (pureE (PV.int 1)) fun l => bindE (pureE PV.none) fun u => bindE (pureE PV.none) fun k => liftS (sliceG v l u k)) (consE (getL 13) (pureE []))) (itsEs itsZip)) (Xr 2 (asCons (setL 0) (asCons (setL 1) asNil))) (bindE (bindE (getL 1) fun p => bindE (getC 0) fun q => liftS (eqG p q)) fun p => liftS (truthG p)) (emitE (bindE (consE (bindE (getL 0) fun p => guardE (isStr p) (bindE (pureE []) fun ps => liftS (str1 Txt.upper (p :: ps)))) (consE (bindE (consE (getC 0) (pureE [])) fun ps => liftS (strG ps)) (pureE []))) tupE))) fun zs => pureE (PV.lst zs)) (pureE [])) fun ps => liftS (extendG (p :: ps)))) fun x => pureE PF.next) (pureE PF.next)
section
variable {sg : Nat → Nat} {M : Nat} {P : List (Nat × Nat)} {loc : List (Option PV)} {c1 : Option PV} {d : Nat}
theorem dueB_run (hs : SgOk sg) (h9 : ∀ y ∈ P, y.1 < 9) (hz : P.length ≤ 8) {S : List AO} {k : Nat} (hk : k < 9) (l9 : loc[9]? = some (some (.lst ((M :: P.map (·.1)).map (wP sg))))) (l13 : loc[13]? = some (some (.lst ((P.map (·.2)).map inP)))) (l14 : loc[14]? = some (some (.ref d))) (hd : S[d]? = some (.list ((tabOf sg M (laidK P k)).map entP))) :
    dueB ⟨loc, [some (inP (k + 1)), c1], S⟩ = some (.next, ⟨loc, [some (inP (k + 1)), c1], S.set d (.list ((tabOf sg M (laidK P (k + 1))).map entP))⟩) := by
  let E : ES := ⟨loc, [some (inP (k + 1)), c1], S⟩
  have t1 := Qt (xs := (M :: P.map (·.1)).map (wP sg)) (m := 1) (by rw [List.length_map, List.length_cons, List.length_map]; omega) (by rw [List.length_map, List.length_cons]; omega) S
  have hzip : zipP (((M :: P.map (·.1)).map (wP sg)).drop 1) ((P.map (·.2)).map inP) = P.map fun y => .tup [wP sg y.1, inP y.2] := by
    show zipP ((P.map (·.1)).map (wP sg)) _ = _
    rw [List.map_map, List.map_map]
    exact zip_maps (fun y : Nat × Nat => wP sg y.1) (fun y => inP y.2) P
  have hc := compE_gen (es := E) (chk := fun _ => true) 2 (fun y : Nat × Nat => .tup [wP sg y.1, inP y.2]) (fun y => [some (wP sg y.1), some (inP y.2)]) (fun y => y.2 == k + 1) (fun y => entP (ud y.1 (sg y.1), dS (k + 1))) P
    (I := bindE (consE (bindE (getL 9) fun v => bindE (pureE (PV.int 1)) fun l => bindE (pureE PV.none) fun u => bindE (pureE PV.none) fun k => liftS (sliceG v l u k)) (consE (getL 13) (pureE []))) (itsEs itsZip))
    (S := Xr 2 (asCons (setL 0) (asCons (setL 1) asNil)))
    (T := bindE (bindE (getL 1) fun p => bindE (getC 0) fun q => liftS (eqG p q)) fun p => liftS (truthG p))
    (X := bindE (consE (bindE (getL 0) fun p => guardE (isStr p) (bindE (pureE []) fun ps => liftS (str1 Txt.upper (p :: ps)))) (consE (bindE (consE (getC 0) (pureE [])) fun ps => liftS (strG ps)) (pureE []))) tupE)
    (its_at (es := E) (p_cons (sl_at (getL_at l9) rfl rfl rfl t1) (p_cons (getL_at l13) rfl)) ((itsZip_of _ _ _).trans (by rw [hzip]))) rfl (fun _ _ => rfl) (fun y _ l hl => set2 hl) (fun y _ => p_lift (p := .bool (y.2 == k + 1)) (p_bin (p := inP y.2) (q := inP (k + 1)) rfl rfl (eq_nat _ _ _)) rfl) (fun y m _ => by
      have hu : Txt.upper (wd y.1 (sg y.1)) = ud y.1 (sg y.1) := (wd_ok y.1 (h9 y m) _ (hs.lt _)).2.1.1
      have := Q5 (g := Txt.upper) (x := wd y.1 (sg y.1)) (by rw [hu]; show 2 ≤ 100; decide) S
      rw [hu] at this
      exact p_tup2 (p_meth (p := wP sg y.1) (ps := []) rfl rfl rfl this) (p_call (ps := [inP (k + 1)]) (p_cons rfl rfl) (str_nat (by omega) _))) (by omega)
  have hll := Qn P k
  have hll2 := Qn P (k + 1)
  have hn : (tabOf sg M (laidK P k)).map entP ++ (P.filter fun y => y.2 == k + 1).map (fun y => entP (ud y.1 (sg y.1), dS (k + 1))) = (tabOf sg M (laidK P (k + 1))).map entP := by
    rw [Jp]
    unfold tabOf eqK
    rw [List.map_append, List.map_map, List.map_map, ← List.cons_append, List.map_append, List.map_map]
    rfl
  have hle := congrArg List.length hn
  rw [List.length_append, List.length_map, List.length_map, tab_len, List.length_map, tab_len] at hle
  have hx := extend_of (ys := (P.filter fun y => y.2 == k + 1).map fun y => entP (ud y.1 (sg y.1), dS (k + 1))) hd (by rw [List.length_map, List.length_map, tab_len]; omega)
  rw [hn] at hx
  unfold dueB
  exact e_seq (e_expr (p := .none) (e_meth (es₁ := E) (es₂ := E) (getL_at l14) (Xc hd) (p_cons (e_lst hc) rfl) hx)) rfl
theorem due_loop (hs : SgOk sg) (h9 : ∀ y ∈ P, y.1 < 9) (hz : P.length ≤ 8) (l9 : loc[9]? = some (some (.lst ((M :: P.map (·.1)).map (wP sg))))) (l13 : loc[13]? = some (some (.lst ((P.map (·.2)).map inP)))) (l14 : loc[14]? = some (some (.ref d))) : ∀ (m k : Nat) (S : List AO) (u : Option PV), k + m = 9 → S[d]? = some (.list ((tabOf sg M (laidK P k)).map entP)) →
    ∃ u', Yc (fun _ => true) (setC 0) dueB ((List.range' (k + 1) m).map inP) ⟨loc, [u, c1], S⟩ = some (.next, ⟨loc, [u', c1], S.set d (.list ((tabOf sg M (laidK P 9)).map entP))⟩)
  | 0, k, S, u, hk, hd => by
    obtain rfl : k = 9 := by omega
    rw [Y7 hd]
    exact ⟨u, rfl⟩
  | m + 1, k, S, u, hk, hd => by
    have e := dueB_run hs h9 hz (c1 := c1) (k := k) (by omega) l9 l13 l14 hd
    obtain ⟨u', e2⟩ := due_loop hs h9 hz l9 l13 l14 m (k + 1) (S.set d (.list ((tabOf sg M (laidK P (k + 1))).map entP))) (some (inP (k + 1))) (by omega) (by rw [List.getElem?_set_self (lt_of hd)])
    rw [List.set_set] at e2
    exact ⟨u', f_cons (es₁ := ⟨loc, [some (inP (k + 1)), c1], S⟩) rfl e e2⟩
end
theorem tab_ok {sg : Nat → Nat} (hs : SgOk sg) {M : Nat} (hM : M < 9) {L : List (Nat × Nat)} (hL : ∀ y ∈ L, y.1 < 9 ∧ y.2 < 20) : ∀ e ∈ tabOf sg M L, PyData.strOk e.1 = true ∧ PyData.strOk e.2 = true := by
  intro e m
  rcases List.mem_cons.mp m with rfl | m
  · exact ⟨(wd_ok M hM _ (hs.lt M)).2.2.1, em_ok⟩
  · obtain ⟨y, my, rfl⟩ := List.mem_map.mp m
    exact ⟨(wd_ok y.1 (hL y my).1 _ (hs.lt _)).2.2.2, (dS_ok y.2 (hL y my).2).2.1⟩
theorem dts_ent {ents : List (Str × Str)} (h : ∀ e ∈ ents, PyData.strOk e.1 = true ∧ PyData.strOk e.2 = true) (st : List AO) (k : Nat) : Dts st (k + 1) (ents.map entP) (ents.map fun e => .tuple [.str e.1, .str e.2]) := Dts.map fun e m => .tup (.cons (.str (h e m).1) (.cons (.str (h e m).2) .nil))
section
variable {es : ES} {t h d : Nat} {ents : List (Str × Str)}
noncomputable abbrev itE (w : World) : FM PV := bindE (getL 10) fun p => guardE (isInst 184 (Str.ofString "items") p) (bindE (pureE []) fun ps => liftS (hitemsR w (p :: ps)))
theorem itE_run (w : World) (h1 : es.st[t]? = some (.inst 184 (kvH h))) (h2 : es.st[h]? = some (.list (ents.map entP))) (hz : ents.length ≤ 20) (l10 : getL 10 es = some (.ref t, es)) : itE w es = some (.lst (ents.map entP), es) :=
  p_meth (ps := []) l10 (Yg h1 (get_it h)) rfl (items_run w h1 h2 (by rw [List.length_map]; exact hz))
theorem cmp3 (w : World) (h1 : es.st[t]? = some (.inst 184 (kvH h))) (h2 : es.st[h]? = some (.list (ents.map entP))) (h3 : es.st[d]? = some (.list (ents.map entP))) (hz : ents.length ≤ 20) (ok : ∀ e ∈ ents, PyData.strOk e.1 = true ∧ PyData.strOk e.2 = true)
    (l10 : getL 10 es = some (.ref t, es)) (l12 : getL 12 es = some (.lst ((ents.map (·.2)).map .str), es)) (l14 : getL 14 es = some (.ref d, es)) :
    (bindE (bindE (consE (itE w) (consE (getL 12) (pureE []))) tupE) fun p => bindE (bindE (consE (getL 14) (consE (bindE (compE 2 (bindE (getL 14) (itsE itsV)) (Xr 2 (asCons (setL 0) (asCons (setL 1) asNil))) (pureE true) (emitE (getL 1))) fun zs => pureE (PV.lst zs)) (pureE []))) tupE) fun q => liftS (neG p q)) es = some (.bool false, es) := by
  have hc := Ju (es := es) 2 entP (fun e => [some (.str e.1), some (.str e.2)]) (fun e => .str e.2) ents (X := getL 1) (Qd l14 (itsV_ref h3)) (chkL_of h3) (fun _ _ => rfl) (fun e _ l hl => set2 hl) (fun e _ => rfl) (by omega)
  have hd : Dts es.st 5 [.lst (ents.map entP), .lst ((ents.map (·.2)).map .str)] [.list (ents.map fun e => .tuple [.str e.1, .str e.2]), .list ((ents.map (·.2)).map .str)] := .cons (.lst (dts_ent ok _ _)) (.cons (.lst (dts_str (fun x m => by
    obtain ⟨e, me, rfl⟩ := List.mem_map.mp m
    exact (ok e me).2) _ _)) .nil)
  have hd2 : Dts es.st 5 [.ref d, .lst (ents.map fun e => .str e.2)] [.list (ents.map fun e => .tuple [.str e.1, .str e.2]), .list ((ents.map (·.2)).map .str)] := .cons (.ref h3 (dts_ent ok _ _)) (.cons (.lst (by
    rw [List.map_map]
    exact Dts.map fun e m => .str (ok e m).2)) .nil)
  exact p_bin (p_tup2 (itE_run w h1 h2 hz l10) l12) (p_tup2 l14 (e_lst hc)) (ne_dt (.tup hd) (.tup hd2))
theorem tup4 {X Y Z W : FM PV} {p q r s : PV} (h1 : X es = some (p, es)) (h2 : Y es = some (q, es)) (h3 : Z es = some (r, es)) (h4 : W es = some (s, es)) : bindE (consE X (consE Y (consE Z (consE W (pureE []))))) tupE es = some (.tup [p, q, r, s], es) :=
  e_tup (p_cons h1 (p_cons h2 (p_cons h3 (p_cons h4 rfl)))) (Zr (by show 4 ≤ 100; decide))
theorem cmp4 (w : World) {s u : Nat} {A : List Str} {hs : List PV} (h1 : es.st[t]? = some (.inst 184 (kvH h))) (h2 : es.st[h]? = some (.list (ents.map entP))) (h3 : es.st[d]? = some (.list (ents.map entP))) (h4 : es.st[s]? = some (.list (A.map .str))) (h5 : es.st[u]? = some (.list (A.map .str))) (hz : ents.length ≤ 20) (hA : A.length ≤ 20) (hh : hs.length = A.length)
    (ok : ∀ e ∈ ents, PyData.strOk e.1 = true ∧ PyData.strOk e.2 = true) (okA : ∀ x ∈ A, PyData.strOk x = true) (l10 : getL 10 es = some (.ref t, es)) (l13 : getL 13 es = some (.lst hs, es)) (l14 : getL 14 es = some (.ref d, es)) (l15 : getL 15 es = some (.ref s, es)) (l16 : getL 16 es = some (.ref u, es)) (l17 : getL 17 es = some (.str emS, es)) :
    (bindE (bindE (consE (getL 15) (consE (bindE (consE (getL 15) (pureE [])) fun ps => liftS (lenG ps)) (consE (getL 17) (consE (itE w) (pureE []))))) tupE) fun p => bindE (bindE (consE (getL 16) (consE (bindE (consE (getL 13) (pureE [])) fun ps => liftS (lenG ps)) (consE (pureE (PV.str (Str.ofString ""))) (consE (getL 14) (pureE []))))) tupE) fun q => liftS (neG p q)) es = some (.bool false, es) := by
  have z1 : lenG [.ref s] es.st = some (inP A.length, es.st) := by
    rw [Qc (Xb h4) (Zr (by rw [List.length_map]; omega)), List.length_map]
  have z2 : lenG [.lst hs] es.st = some (inP A.length, es.st) := by
    rw [Qc (xs := hs) rfl (Zr (by omega)), hh]
  have d1 : Dts es.st 5 [.ref s, inP A.length, .str emS, .lst (ents.map entP)] [.list (A.map .str), .int A.length, .str emS, .list (ents.map fun e => .tuple [.str e.1, .str e.2])] := .cons (.ref h4 (dts_str okA _ _)) (.cons (.int _) (.cons (.str em_ok) (.cons (.lst (dts_ent ok _ _)) .nil)))
  have d2 : Dts es.st 5 [.ref u, inP A.length, .str emS, .ref d] [.list (A.map .str), .int A.length, .str emS, .list (ents.map fun e => .tuple [.str e.1, .str e.2])] := .cons (.ref h5 (dts_str okA _ _)) (.cons (.int _) (.cons (.str em_ok) (.cons (.ref h3 (dts_ent ok _ _)) .nil)))
  exact p_bin (tup4 l15 (p_call (p_cons l15 rfl) z1) l17 (itE_run w h1 h2 hz l10)) (tup4 l16 (p_call (p_cons l13 rfl) z2) rfl l14) (ne_dt (.tup d1) (.tup d2))
end
noncomputable abbrev popE (w : World) : FM PV := bindE (getL 11) fun p => guardE (Qw 268 (Str.ofString "pop") p) (bindE (pureE []) fun ps => liftS (popR w (p :: ps)))
theorem bl_ok : ∀ n < 20, PyData.strOk (blS n) = true := by decide +kernel
theorem bl_em : blS 0 = emS := by decide +kernel
section
variable {a : Nat} {sg : Nat → Nat} {M H : Nat}
theorem popE_run (w : World) {loc cel : List (Option PV)} {S : List AO} {xs xs' : List PV} {y : PV} (l11 : loc[11]? = some (some (.ref a))) (h : S[a]? = some (.linst 268 (kvA 0) xs)) (hp : popR w [.ref a] S = some (y, S.set a (.linst 268 (kvA 0) xs'))) : popE w ⟨loc, cel, S⟩ = some (y, ⟨loc, cel, S.set a (.linst 268 (kvA 0) xs')⟩) :=
  e_meth (p := .ref a) (ps := []) (es₁ := ⟨loc, cel, S⟩) (es₂ := ⟨loc, cel, S⟩) (getL_at l11) (Yt ⟨_, _, _, rfl, h, a_pop 0⟩) rfl hp
theorem ends_run (w : World) {loc cel : List (Option PV)} {S : List AO} (l11 : loc[11]? = some (some (.ref a))) (h : S[a]? = some (.linst 268 (kvA 0) (pileP sg [(H, M), (0, M)]))) :
    bindE (consE (popE w) (consE (popE w) (consE (popE w) (pureE [])))) lstE ⟨loc, cel, S⟩ = some (.lst [cellP sg (H, M), cellP sg (0, M), .tup [.str emS, .str emS]], ⟨loc, cel, S.set a (.linst 268 (kvA 0) [])⟩) := by
  have lt := lt_of h
  have g : ∀ xs, (S.set a (.linst 268 (kvA 0) xs))[a]? = some (.linst 268 (kvA 0) xs) := fun xs => List.getElem?_set_self lt
  have p1 := popE_run w (cel := cel) l11 h (xs' := [cellP sg (0, M)]) (y := cellP sg (H, M)) (pop_some w (xs := [cellP sg (0, M)]) (y := cellP sg (H, M)) h (Zr (by show 2 ≤ 100; decide)))
  have p2 := popE_run w (cel := cel) l11 (g [cellP sg (0, M)]) (xs' := []) (y := cellP sg (0, M)) (pop_some w (xs := []) (y := cellP sg (0, M)) (g _) (Zr (by show 1 ≤ 100; decide)))
  have p3 := popE_run w (cel := cel) l11 (g []) (xs' := []) (y := .tup [.str emS, .str emS]) (by rw [Y7 (g [])]; exact pop_none w (g []))
  rw [List.set_set] at p2
  rw [Y7 (g [])] at p3
  exact e_bind (e_cons p1 (e_cons p2 (e_cons p3 rfl))) (by unfold lstE; rw [if_pos (Zr (by show 3 ≤ 100; decide))]; rfl)
theorem lst3 {es : ES} {X Y Z : FM PV} {p q r : PV} (h1 : X es = some (p, es)) (h2 : Y es = some (q, es)) (h3 : Z es = some (r, es)) : bindE (consE X (consE Y (consE Z (pureE [])))) lstE es = some (.lst [p, q, r], es) :=
  e_bind (p_cons h1 (p_cons h2 (p_cons h3 rfl))) (by unfold lstE; rw [if_pos (Zr (show [p, q, r].length ≤ 100 by show 3 ≤ 100; decide))]; rfl)
theorem cmp5 {es : ES} {ns : List Nat} {rest : List PV} (hs : SgOk sg) (hM : M < 9) (hH : H < 20) (hm : H ∈ ns) (ht : ∀ x ∈ ns, x ≤ H) (l18 : getL 18 es = some (.lst [cellP sg (H, M), cellP sg (0, M), .tup [.str emS, .str emS]], es)) (l13 : getL 13 es = some (.lst (ns.map inP), es)) (l9 : getL 9 es = some (.lst (wP sg M :: rest), es)) :
    (bindE (getL 18) fun p => bindE (bindE (consE (bindE (consE (bindE (pureE (PV.str (Str.ofString " "))) fun p => bindE (bindE (consE (getL 13) (pureE [])) fun ps => liftS (maxL ps)) fun q => liftS (repS p q)) (consE (bindE (getL 9) fun p => bindE (pureE (PV.int 0)) fun q => liftS (getI p q)) (pureE []))) tupE)
      (consE (bindE (consE (pureE (PV.str (Str.ofString ""))) (consE (bindE (getL 9) fun p => bindE (pureE (PV.int 0)) fun q => liftS (getI p q)) (pureE []))) tupE) (consE (bindE (consE (pureE (PV.str (Str.ofString ""))) (consE (pureE (PV.str (Str.ofString ""))) (pureE []))) tupE) (pureE [])))) lstE) fun q => liftS (neG p q)) es = some (.bool false, es) := by
  have ok := (wd_ok M hM _ (hs.lt M)).2.2.1
  have mx : maxL [.lst (ns.map inP)] es.st = some (inP H, es.st) := max_nats rfl gt_inP (like_inP _) hm ht
  have c1 : (bindE (pureE (PV.str (Str.ofString " "))) fun p => bindE (bindE (consE (getL 13) (pureE [])) fun ps => liftS (maxL ps)) fun q => liftS (repS p q)) es = some (.str (blS H), es) := p_bin (p := .str (Str.ofString " ")) (q := inP H) rfl (p_call (p_cons l13 rfl) mx) (repS_of (by omega))
  have d : Dts es.st 5 [cellP sg (H, M), cellP sg (0, M), .tup [.str emS, .str emS]] [.tuple [.str (blS H), .str (wd M (sg M))], .tuple [.str (blS 0), .str (wd M (sg M))], .tuple [.str emS, .str emS]] :=
    .cons (.tup (.cons (.str (bl_ok H hH)) (.cons (.str ok) .nil))) (.cons (.tup (.cons (.str (bl_ok 0 (by decide))) (.cons (.str ok) .nil))) (.cons (.tup (.cons (.str em_ok) (.cons (.str em_ok) .nil))) .nil))
  have hq := lst3 (p_tup2 c1 (ring0 l9)) (p_tup2 (X := pureE (PV.str (Str.ofString ""))) (p := .str emS) (es := es) rfl (ring0 l9)) (p_tup2 (X := pureE (PV.str (Str.ofString ""))) (Y := pureE (PV.str (Str.ofString ""))) (p := .str emS) (q := .str emS) (es := es) rfl rfl)
  have hc : ([PV.tup [.str (blS H), wP sg M], .tup [.str emS, wP sg M], .tup [.str emS, .str emS]] : List PV) = [cellP sg (H, M), cellP sg (0, M), .tup [.str emS, .str emS]] := by rw [← bl_em]; rfl
  rw [hc] at hq
  exact p_bin l18 hq (ne_dt (.lst d) (.lst d))
end
theorem Lex.pbset {st : List AO} {i k j r g : Nat} {n : Int} {j2 : Nat} {text : Str} {p : Nat} {xs : List PV} (L : Lex st i k j r g n j2 text p xs) (ys : List PV) : Lex (st.set j (.list ys)) i k j r g n j2 text p ys := by
  obtain ⟨h1, h2, h3, h4, h5, h6, _⟩ := L.i_ne
  have key : ∀ {q : Nat} {x : AO}, st[q]? = some x → q ≠ j → (st.set j (.list ys))[q]? = some x := fun h a => by rw [List.getElem?_set_ne (Ne.symm a)]; exact h
  have kj : k ≠ j := by rintro rfl; cases L.sm.symm.trans L.pb
  have rj : r ≠ j := by rintro rfl; cases L.rd.symm.trans L.pb
  exact ⟨key L.lx h4, key L.sm kj, key L.rd rj, key L.gn (Ne.symm L.jg), List.getElem?_set_self (lt_of L.pb), L.jg, L.ha, L.hz⟩
theorem last_run (w : World) {loc : List (Option PV)} {c0 : Option PV} {S : List AO} {i k j r g : Nat} {n : Int} {j2 : Nat} {text : Str} {x : Str} {rest : List PV} (L : Lex S i k j r g n j2 text text.cps.size [.str x]) (hx : PyData.strOk x = true) (l9 : loc[9]? = some (some (.lst (.str x :: rest)))) :
    (bindE (bindE (consE (tkE w) (consE (tkE w) (pureE []))) lstE) fun p => bindE (bindE (consE (bindE (getL 9) fun p => bindE (pureE (PV.int 0)) fun q => liftS (getI p q)) (consE (pureE (PV.str (Str.ofString ""))) (pureE []))) lstE) fun q => liftS (eqG p q)) ⟨loc, [c0, some (.ref i)], S⟩
      = some (.bool true, ⟨loc, [c0, some (.ref i)], atQ (S.set j (.list [])) i k j g text n text.cps.size ++ [mAO i, .cdone]⟩) := by
  have L1 := L.pbset []
  have t1 := J7 w L.lx L.pb (Zr (by show 1 ≤ 100; decide))
  have t2 := token_end w L1 (l0 := []) trivial rfl (by decide) rfl
  have hn : n + nls [] = n := Int.add_zero n
  rw [hn] at t2
  let E1 : ES := ⟨loc, [c0, some (.ref i)], S.set j (.list [])⟩
  let E2 : ES := ⟨loc, [c0, some (.ref i)], atQ (S.set j (.list [])) i k j g text n text.cps.size ++ [mAO i, .cdone]⟩
  have d : Dts E2.st 5 [.str x, .str emS] [.str x, .str emS] := .cons (.str hx) (.cons (.str em_ok) .nil)
  exact e_bin (es₁ := E2) (es₂ := E2) (p := .lst [.str x, .str emS]) (q := .lst [.str x, .str emS]) (e_bind (y := [.str x, .str emS]) (es₁ := E2) (e_cons (es₁ := E1) (Jl L.lx t1 loc) (e_cons (es₁ := E2) (Jl L1.lx t2 loc) rfl)) (by unfold lstE; rw [if_pos (Zr (by show 2 ≤ 100; decide))]; rfl)) (p_lst2 (ring0 (getL_at l9)) rfl) (eq_dt (.lst d) (.lst d))
theorem e_for {I : FM Its} {S : PV → FM Unit} {B : FM PF} {es : ES} {xs : List PV} {chk : List AO → Bool} {q : Option (PF × ES)} (hi : I es = some ((xs, chk), es)) (h : Yc chk S B xs es = q) : forE I S B es = q := e_bind hi h
theorem get_as {es : ES} {k : Nat} {p q : PV} (h : getL k es = some (p, es)) (e : p = q) : getL k es = some (q, es) := e ▸ h
theorem Kb {S : List AO} {q : Nat} {x : AO} (h : q ≠ 0) : (S.set q x)[0]? = S[0]? := List.getElem?_set_ne h
theorem Kc {S l : List AO} {x : AO} (h : S[0]? = some x) : (S ++ l)[0]? = some x := by
  rw [List.getElem?_append_left (lt_of h)]; exact h
theorem zero_atQ {S : List AO} {i k j g : Nat} {text : Str} {n : Int} {p : Nat} (hi : i ≠ 0) (hg : g ≠ 0) : (atQ S i k j g text n p)[0]? = S[0]? := by
  unfold atQ
  rw [Kb hg, Kb hi]
theorem read_part (w : World) {st : List AO} {x0 : AO} (h0 : st[0]? = some x0) {cs : List Rw} (hok : ∀ x ∈ cs, RwOk x) (hn : cs.length ≤ 9) (c0 : Option PV) :
    ∃ o' S2, Z5 (fun _ => true) (setL 0) (pureE true) (emitE (tkE w)) ((List.range (2 * cs.length + 1)).map inP) [] ⟨[none], [c0, some (.ref (st.length + 4))], st ++ lexNew st.length (txtOf cs)⟩ = some ((Yn cs).map .str, ⟨[o'], [c0, some (.ref (st.length + 4))], S2⟩) ∧
      Lex S2 (st.length + 4) st.length (st.length + 5) (st.length + 3) (st.length + 2) ((cs.length + 1 : Nat) : Int) (st.length + 1) (txtOf cs) (txtOf cs).cps.size [] ∧ S2[0]? = some x0 := by
  have hz := tabL_len hok
  have L1 := lex_new (st := st) (txt_all hok) (by rw [txt_size hok]; omega)
  obtain ⟨o', S2, X, e, hS⟩ := read_loop w (c0 := c0) cs [] _ 1 0 ((List.range (2 * cs.length + 1)).map inP) [] none hok L1 rfl (by decide) (at_list 0 _ (by rw [List.drop_zero, txt_list hok]; rfl)) (by rw [txt_size hok]; exact Nat.zero_add _) (by rw [List.length_map, List.length_range]) (by show 0 + _ ≤ _; omega)
  have hm : (1 : Int) + nls [] + (cs.length : Int) = ((cs.length + 1 : Nat) : Int) := by show 1 + 0 + (cs.length : Int) = _; omega
  rw [hm] at hS
  refine ⟨o', S2, e, ?_, ?_⟩
  · rw [hS]
    exact L1.go _ _ X
  · rw [hS]
    refine Kc ?_
    rw [zero_atQ (by omega) (by omega)]
    exact Kc h0
theorem look_in {sg : Nat → Nat} {M : Nat} {P : List (Nat × Nat)} {H : Nat} (hs : SgOk sg) (hM : M < 9) (T : Tr P H) (hP : ∀ y ∈ P, y.1 < M) (nd : (P.map (·.1)).Nodup) (hz : P.length ≤ 8) {y : Nat × Nat} (my : y ∈ P) : look (tabOf sg M (laidK P 9)) (wd y.1 (sg y.1)) = some (dS y.2) := by
  have hL : ∀ z ∈ laidK P 9, z.1 < 9 := fun z m => by have := hP z (laid_mem.mp m).1; omega
  have := hP y my
  rw [look_tab hs hM hL (by omega), if_neg (by omega)]
  have m9 : y ∈ laidK P 9 := laid_mem.mpr ⟨my, T.pos y my, by have := T.le y my; have := T.len; omega⟩
  cases q : (laidK P 9).find? fun z => z.1 == y.1 with
  | none =>
    have := List.find?_eq_none.mp q y m9
    exact absurd (beq_iff_eq.mpr rfl) this
  | some z =>
    have h1 := List.mem_of_find?_eq_some q
    have h2 : (z.1 == y.1) = true := List.find?_some (p := fun z : Nat × Nat => z.1 == y.1) q
    have : z = y := pair_eq nd (laid_mem.mp h1).1 my (beq_iff_eq.mp h2)
    rw [this]; rfl
section
variable {es : ES}
theorem due_new {x : PV} {xs : List PV} (h9 : getL 9 es = some (.lst (x :: xs), es)) :
    (bindE (consE (bindE (consE (bindE (getL 9) fun p => bindE (pureE (PV.int 0)) fun q => liftS (getI p q)) (consE (pureE (PV.str (Str.ofString ""))) (pureE []))) tupE) (pureE [])) newE) es = some (.ref es.st.length, ⟨es.loc, es.cel, es.st ++ [.list [.tup [x, .str emS]]]⟩) :=
  e_bind (p_cons (p_tup2 (ring0 h9) rfl) rfl) (if_pos (Zr (by show 1 ≤ 100; decide)))
theorem again_run (w : World) {t h : Nat} {sg : Nat → Nat} {M : Nat} {L : List (Nat × Nat)} {rest : List PV} (hs : SgOk sg) (hM : M < 9) (hL : ∀ y ∈ L, y.1 < 9) (h1 : es.st[t]? = some (.inst 184 (kvH h))) (h2 : es.st[h]? = some (.list ((tabOf sg M L).map entP))) (h9 : getL 9 es = some (.lst (wP sg M :: rest), es)) (h10 : getL 10 es = some (.ref t, es)) :
    (bindE (getL 10) fun p => guardE (isInst 184 (Str.ofString "setdefault") p) (bindE (consE (bindE (bindE (getL 9) fun p => bindE (pureE (PV.int 0)) fun q => liftS (getI p q)) fun p => guardE (isStr p) (bindE (pureE []) fun ps => liftS (str1 Txt.upper (p :: ps)))) (consE (pureE (PV.str (Str.ofString "-"))) (pureE []))) fun ps => liftS (sdefR w (p :: ps)))) es = some (.str emS, es) := by
  have hu : Txt.upper (wd M (sg M)) = ud M (sg M) := (wd_ok M hM _ (hs.lt M)).2.1.1
  have hup := Q5 (g := Txt.upper) (x := wd M (sg M)) (by rw [hu]; show 2 ≤ 100; decide) es.st
  rw [hu] at hup
  have e := sdef_old (st := es.st) (v := Str.ofString "-") w h1 h2 (name_ud hs hM) (tab_names hs hM hL) (by rw [(wd_ok M hM _ (hs.lt M)).2.1.2.2, look_tab hs hM hL hM, if_pos rfl])
  exact p_meth (ps := [.str (ud M (sg M)), .str (Str.ofString "-")]) h10 (Yg h1 (get_sd h)) (p_cons (p_meth (ps := []) (ring0 h9) rfl rfl hup) (p_cons rfl rfl)) e
theorem cmp1 (w : World) {i j : Nat} {p : PV} {cs : List Rw} (hok : ∀ x ∈ cs, RwOk x) (hn : cs.length ≤ 9) (h1 : es.st[i]? = some (.inst 310 (kvW ((cs.length + 1 : Nat) : Int) p wsQ j))) (h3 : getL 3 es = some (.lst (cs.map wR), es)) (h6 : getL 6 es = some (.lst ((Yn cs).map .str), es)) (h7 : getL 7 es = some (.lst ((Yn cs).map .str), es)) (hc : getC 1 es = some (.ref i, es)) :
    (bindE (bindE (consE (getL 6) (consE (bindE (getC 1) fun p => liftS (getA (kFrag w.params) (Str.ofString "lineno") p)) (pureE []))) tupE) fun p => bindE (bindE (consE (getL 7) (consE (bindE (bindE (consE (getL 3) (pureE [])) fun ps => liftS (lenG ps)) fun p => bindE (pureE (PV.int 1)) fun q => liftS (addG p q)) (pureE []))) tupE) fun q => liftS (neG p q)) es = some (.bool false, es) := by
  have hl : lenG [.lst (cs.map wR)] es.st = some (inP cs.length, es.st) := by
    rw [Qc (xs := cs.map wR) rfl (Zr (by rw [List.length_map]; omega)), List.length_map]
  have okW : ∀ x ∈ Yn cs, PyData.strOk x = true := fun x m => by
    unfold Yn at m
    rcases List.mem_append.mp m with m | m
    · obtain ⟨y, my, m⟩ := List.mem_flatMap.mp m
      simp only [List.mem_cons, List.not_mem_nil, or_false] at m
      rcases m with rfl | rfl
      · decide +kernel
      · exact (wd_ok _ (hok y my).r _ (hok y my).s).2.2.1
    · rw [List.mem_singleton.mp m]; exact em_ok
  have d : Dts es.st 5 [.lst ((Yn cs).map .str), inP (cs.length + 1)] [.list ((Yn cs).map .str), .int ((cs.length + 1 : Nat) : Int)] := .cons (.lst (dts_str okW _ _)) (.cons (.int _) .nil)
  exact p_bin (p_tup2 h6 (p_lift hc (getA_line w h1))) (p_tup2 h7 (p_bin (p := inP cs.length) (q := inP 1) (p_call (p_cons h3 rfl) hl) rfl (add_inP _ _ _))) (ne_dt (.tup d) (.tup d))
theorem cmp2 (w : World) {i j : Nat} {n : Int} {p : PV} {sg : Nat → Nat} {l : List Nat} (hs : SgOk sg) (h : ∀ x ∈ l, x < 9) (h1 : es.st[i]? = some (.inst 310 (kvW n p wsQ j))) (h2 : es.st[j]? = some (.list (l.map (wP sg)))) (h9 : getL 9 es = some (.lst (l.map (wP sg)), es)) (hc : getC 1 es = some (.ref i, es)) :
    (bindE (bindE (getC 1) fun p => liftS (getA (kFrag w.params) (Str.ofString "pushback") p)) fun p => bindE (getL 9) fun q => liftS (neG p q)) es = some (.bool false, es) :=
  p_bin (p_lift hc (getA_pb w h1)) h9 (ne_dt (.ref h2 (dts_wd hs h _ _)) (.lst (dts_wd hs h _ _)))
end
noncomputable abbrev ln_law : List Str := [Str.ofString "script", Str.ofString "drawn", Str.ofString "numbers", Str.ofString "words", Str.ofString "word", Str.ofString "rows", Str.ofString "read", Str.ofString "awaited", Str.ofString "spot", Str.ofString "ring", Str.ofString "table", Str.ofString "pile", Str.ofString "laid", Str.ofString "heights", Str.ofString "due", Str.ofString "sizes", Str.ofString "told", Str.ofString "again", Str.ofString "ends"]
noncomputable abbrev cn_law : List (Str × Nat) := [(Str.ofString "turn", 2), (Str.ofString "line", 1)]
theorem loc_law : ∀ x ∈ ln_law, (defS (at1 P2 19)).names.lookup x = some .local := by decide +kernel
theorem nd_law : ln_law.Nodup := by decide +kernel
noncomputable def b_law : { b : List Stmt // defB (at1 P2 19) = b } := ⟨[_, _, _, _, _, _, _, _, _, _, _, _, _, _, _, _, _, _, _, _, _, _, _, _, _], rfl⟩
noncomputable def s_law (w : World) : { F : FM PF // ∀ L, Den (C2 w) 10 (FI.fn fd352 352 ln_law cn_law L) RFl (execs (defB (at1 P2 19)) (callEnvC fd352 L 352)) F } := ⟨_, fun L => by
  have ok : FI.Ok (FI.fn fd352 352 ln_law cn_law L) := ok_fn (fd := fd352) rfl rfl rfl loc_law nd_law
  rw [b_law.2]
  exact (Zc (Xi (cl := []) ⟨by kernel_rfl, by decide +kernel, rfl, by decide +kernel⟩ rfl rfl (X9 (cl := []) (ln := [Str.ofString "cell"]) ⟨by kernel_rfl, by decide +kernel, rfl, by decide +kernel⟩ (Xy (Yp (Za (i := 0) ok rfl) Zx (Yk Zp) Zx)) (fun C => (Zf (i := 0) (Zu ok rfl (Zl (by kernel_rfl) Zv) (by decide +kernel)) rfl)) (fun C => Xo) (fun C => (Zt (Zs (Zm (Zu ok rfl (Zl (by kernel_rfl) Zv) (by decide +kernel)) (by kernel_rfl) (gn_int w) (bn_int w)) Z1 (Zb (Za (i := 0) (Zu ok rfl (Zl (by kernel_rfl) Zv) (by decide +kernel)) rfl) Zd) op_int) (Zt Zp Zp op_powI) op_modI))) (Zf (i := 1) ok rfl) (by kernel_rfl)) (Zc (Zj (Zt (Za (i := 1) ok rfl) (Yp (Xe (Zb Zp (Zb Zp (Zb Zp (Zb Zp (Zb Zp (Zb Zp (Zb Zp Zd)))))))) (Yk (Zs (Zm ok (by kernel_rfl) (gn_len w) (bn_len w)) Zh (Zb (Za (i := 1) ok rfl) Zd) op_len)) Zx Zx) Yq) (Zf (i := 2) ok rfl)) (Zc (Zj (Zs (Z8 ok (by kernel_rfl) (gn__law_words w)) (Zk (a := 326) (by kernel_rfl)) (Zb (Za (i := 2) ok rfl) Zd) ((k_words w).ok.weak (by decide))) (Zf (i := 3) ok rfl)) (Zc (Xi (cl := []) ⟨by kernel_rfl, by decide +kernel, rfl, by decide +kernel⟩ rfl rfl (X9 (cl := []) (ln := [Str.ofString "word", Str.ofString "number"]) ⟨by kernel_rfl, by decide +kernel, rfl, by decide +kernel⟩ (Y5 (Zm ok (by kernel_rfl) (gn_zip w) (bn_zip w)) Z1 (Zb (Za (i := 3) ok rfl) (Zb (Za (i := 2) ok rfl) Zd)) opit_zip) (fun C => (Y6 (Zz (Zf (i := 0) (Zu ok rfl (Zl (by kernel_rfl) (Zl (by kernel_rfl) Zv)) (by decide +kernel)) rfl) (Zz (Zf (i := 1) (Zu ok rfl (Zl (by kernel_rfl) (Zl (by kernel_rfl) Zv)) (by decide +kernel)) rfl) Xd)))) (fun C => Xo) (fun C => (Zt (Zs (Z8 (Zu ok rfl (Zl (by kernel_rfl) (Zl (by kernel_rfl) Zv)) (by decide +kernel)) (by kernel_rfl) (gn__formatparam w)) (Zk (a := 61) (by kernel_rfl)) (Zb Zy (Zb (Za (i := 0) (Zu ok rfl (Zl (by kernel_rfl) (Zl (by kernel_rfl) Zv)) (by decide +kernel)) rfl) (Zb (Zt (Zt (Za (i := 1) (Zu ok rfl (Zl (by kernel_rfl) (Zl (by kernel_rfl) Zv)) (by decide +kernel)) rfl) Zp op_divI) Zp op_modI) Zd))) ((k_fpar w).ok.weak (by decide))) Zy Yq))) (Zf (i := 5) ok rfl) (by kernel_rfl)) (Zc (Zj (Zs (Z8 ok (by kernel_rfl) (gn__law_lexer w)) (Zk (a := 321) (by kernel_rfl)) (Zb (Zi Zy (Qm F.slot_str_join F.type_str_join) Zh (Zb (Za (i := 5) ok rfl) Zd) op_join) Zd) ((k_lexer w).ok.weak (by decide))) (X3 (i := 1) ok rfl (by kernel_rfl) (by kernel_rfl))) (Zc (Xi (cl := [(Str.ofString "line", L + 1)]) ⟨by kernel_rfl, by decide +kernel, rfl, by decide +kernel⟩ rfl rfl (X9 (cl := [(Str.ofString "line", L + 1)]) (ln := [Str.ofString "turn"]) ⟨by kernel_rfl, by decide +kernel, rfl, by decide +kernel⟩ (Y5 (Zm ok (by kernel_rfl) (Jf w) (Jh w)) Z1 (Zb (Zt (Zt Zp (Zs (Zm ok (by kernel_rfl) (gn_len w) (bn_len w)) Zh (Zb (Za (i := 3) ok rfl) Zd) op_len) op_mulI) Zp Yq) Zd) X8) (fun C => (Zf (i := 0) (Zu ok rfl (Zl (by kernel_rfl) Zv) (by decide +kernel)) rfl)) (fun C => Xo) (fun C => (Zi (Yd (i := 1) (Zu ok rfl (Zl (by kernel_rfl) Zv) (by decide +kernel)) rfl (by kernel_rfl) (.inl (by kernel_rfl))) (Zw (C := 310) (fa := 300) (by kernel_rfl)) (Zk (a := 300) (by kernel_rfl)) Zd ((Jq w).ok.weak (by decide))))) (Zf (i := 6) ok rfl) (by kernel_rfl)) (Zc (Zj (Zt (Xz (cl := []) ⟨by kernel_rfl, by decide +kernel, rfl, by decide +kernel⟩ rfl rfl (denc_two (cl := []) (ln := [Str.ofString "word", Str.ofString "part"]) ⟨by kernel_rfl, by decide +kernel, rfl, by decide +kernel⟩ (Xy (Za (i := 3) ok rfl)) (fun C => (Zf (i := 0) (Zu ok rfl (Zl (by kernel_rfl) (Zl (by kernel_rfl) Zv)) (by decide +kernel)) rfl)) (fun C => Xo) (fun C => (Xy (Z0 (Zb Zy (Zb (Za (i := 0) (Zu ok rfl (Zl (by kernel_rfl) (Zl (by kernel_rfl) Zv)) (by decide +kernel)) rfl) Zd))))) (fun C => (Zf (i := 1) (Zu ok rfl (Zl (by kernel_rfl) (Zl (by kernel_rfl) Zv)) (by decide +kernel)) rfl)) (fun C => Xo) (fun C => (Za (i := 1) (Zu ok rfl (Zl (by kernel_rfl) (Zl (by kernel_rfl) Zv)) (by decide +kernel)) rfl)))) (Xe (Zb Zy Zd)) Yq) (Zf (i := 7) ok rfl)) (Zc (den_if (Zn (Z0 (Zb (Za (i := 6) ok rfl) (Zb (Y2 (Yd (i := 1) ok rfl (by kernel_rfl) (.inl (by kernel_rfl)))) Zd))) (Z0 (Zb (Za (i := 7) ok rfl) (Zb (Zt (Zs (Zm ok (by kernel_rfl) (gn_len w) (bn_len w)) Zh (Zb (Za (i := 3) ok rfl) Zd) op_len) Zp Yq) Zd))) op_neG) (Zc (Zq Xn) Zg) Zg) (Zc (X1 (Xy (Yp (Za (i := 6) ok rfl) (Yk Zp) Zx (Yk Zp))) (Zf (i := 4) ok rfl) (Zc (Ys (Zi (Yd (i := 1) ok rfl (by kernel_rfl) (.inl (by kernel_rfl))) (Zw (C := 310) (fa := 307) (by kernel_rfl)) (Zk (a := 307) (by kernel_rfl)) (Zb (Za (i := 4) ok rfl) Zd) ((k_ptoken w).ok.weak (by decide))) (by kernel_rfl)) Zg)) (Zc (Zj (Zi (Za (i := 3) ok rfl) (Yy F.slot_list_index F.type_list_index) Zh (Zb (Zs (Zm ok (by kernel_rfl) (gn_max w) (bn_max w)) Zh (Zb (Za (i := 3) ok rfl) Zd) op_maxL) Zd) op_index) (Zf (i := 8) ok rfl)) (Zc (X1 (Y5 (Zm ok (by kernel_rfl) (Jf w) (Jh w)) Z1 (Zb (Za (i := 8) ok rfl) Zd) X8) (X3 (i := 0) ok rfl (by kernel_rfl) (by kernel_rfl)) (Zc (Ys (Zi (Yd (i := 1) ok rfl (by kernel_rfl) (.inl (by kernel_rfl))) (Zw (C := 310) (fa := 307) (by kernel_rfl)) (Zk (a := 307) (by kernel_rfl)) (Zb (Zi (Yd (i := 1) ok rfl (by kernel_rfl) (.inl (by kernel_rfl))) (Zw (C := 310) (fa := 300) (by kernel_rfl)) (Zk (a := 300) (by kernel_rfl)) Zd ((Jq w).ok.weak (by decide))) Zd) ((k_ptoken w).ok.weak (by decide))) (by kernel_rfl)) Zg)) (Zc (Zj (Zt (Yp (Za (i := 3) ok rfl) (Yk (Za (i := 8) ok rfl)) Zx Zx) (Yp (Za (i := 3) ok rfl) Zx (Yk (Za (i := 8) ok rfl)) Zx) Yq) (Zf (i := 9) ok rfl)) (Zc (den_if (Zn (Y2 (Yd (i := 1) ok rfl (by kernel_rfl) (.inl (by kernel_rfl)))) (Za (i := 9) ok rfl) op_neG) (Zc (Zq Xn) Zg) Zg) (Zc (den_swap (names := [Str.ofString "table", Str.ofString "pile"]) (Z0 (Zb (Zs (Z8 ok (by kernel_rfl) (gn_Headers w)) (Zk (a := 184) (by kernel_rfl)) (Zb (Yi Zd) Zd) ((k_make184 w).weak (by decide))) (Zb (Zs (Z8 ok (by kernel_rfl) (gn__Accumulator w)) (Zk (a := 268) (by kernel_rfl)) Zd ((k_make268 w).weak (by decide))) Zd))) (Xp (Y3 (i := 11) ok rfl) (Xp (Y3 (i := 10) ok rfl) denbs_nil)) (by kernel_rfl)) (Zc (Zj (Zt (Xe (Zb (Zi (Za (i := 10) ok rfl) (Zw (C := 184) (fa := 174) (by kernel_rfl)) (Zk (a := 174) (by kernel_rfl)) (Zb (Z6 (Za (i := 9) ok rfl) Zp) (Zb Zy Zd)) ((k_sdef w).ok.weak (by decide))) Zd)) (Zs (Z8 ok (by kernel_rfl) (gn__law_rounds w)) (Zk (a := 333) (by kernel_rfl)) (Zb (Yd (i := 1) ok rfl (by kernel_rfl) (.inl (by kernel_rfl))) (Zb (Za (i := 10) ok rfl) Zd)) ((k_rounds w).ok.weak (by decide))) Yq) (Zf (i := 12) ok rfl)) (Zc (Zj (Zs (Z8 ok (by kernel_rfl) (Qz w)) (Zk (a := 347) (by kernel_rfl)) (Zb (Yp (Za (i := 9) ok rfl) (Yk Zp) Zx Zx) Zd) ((treeP w 9).2.ok.weak (by decide))) (Zf (i := 13) ok rfl)) (Zc (Zj (Yi (Zb (Z0 (Zb (Z6 (Za (i := 9) ok rfl) Zp) (Zb Zy Zd))) Zd)) (Zf (i := 14) ok rfl)) (Zc (X1 (Y5 (Zm ok (by kernel_rfl) (Jf w) (Jh w)) Z1 (Zb Zp (Zb Zp Zd)) X8) (X3 (i := 0) ok rfl (by kernel_rfl) (by kernel_rfl)) (Zc (Ys (Zi (Za (i := 14) ok rfl) (Yy F.slot_list_extend F.type_list_extend) Zh (Zb (Xz (cl := [(Str.ofString "turn", L + 2)]) ⟨by kernel_rfl, by decide +kernel, rfl, by decide +kernel⟩ rfl rfl (X9 (cl := [(Str.ofString "turn", L + 2)]) (ln := [Str.ofString "word", Str.ofString "height"]) ⟨by kernel_rfl, by decide +kernel, rfl, by decide +kernel⟩ (Y5 (Zm ok (by kernel_rfl) (gn_zip w) (bn_zip w)) Z1 (Zb (Yp (Za (i := 9) ok rfl) (Yk Zp) Zx Zx) (Zb (Za (i := 13) ok rfl) Zd)) opit_zip) (fun C => (Y6 (Zz (Zf (i := 0) (Zu ok rfl (Zl (by kernel_rfl) (Zl (by kernel_rfl) Zv)) (by decide +kernel)) rfl) (Zz (Zf (i := 1) (Zu ok rfl (Zl (by kernel_rfl) (Zl (by kernel_rfl) Zv)) (by decide +kernel)) rfl) Xd)))) (fun C => (dents_one (Zn (Za (i := 1) (Zu ok rfl (Zl (by kernel_rfl) (Zl (by kernel_rfl) Zv)) (by decide +kernel)) rfl) (Yd (i := 0) (Zu ok rfl (Zl (by kernel_rfl) (Zl (by kernel_rfl) Zv)) (by decide +kernel)) rfl (by kernel_rfl) (.inl (by kernel_rfl))) op_eqG))) (fun C => (Z0 (Zb (Zi (Za (i := 0) (Zu ok rfl (Zl (by kernel_rfl) (Zl (by kernel_rfl) Zv)) (by decide +kernel)) rfl) (Qm F.slot_str_upper F.type_str_upper) Zh Zd op_upper) (Zb (Zs (Zm (Zu ok rfl (Zl (by kernel_rfl) (Zl (by kernel_rfl) Zv)) (by decide +kernel)) (by kernel_rfl) (gn_str w) (bn_str w)) Z1 (Zb (Yd (i := 0) (Zu ok rfl (Zl (by kernel_rfl) (Zl (by kernel_rfl) Zv)) (by decide +kernel)) rfl (by kernel_rfl) (.inl (by kernel_rfl))) Zd) op_str) Zd)))))) Zd) op_extend) (by kernel_rfl)) Zg)) (Zc (den_if (Zn (Z0 (Zb (Zi (Za (i := 10) ok rfl) (Zw (C := 184) (fa := 148) (by kernel_rfl)) (Zk (a := 148) (by kernel_rfl)) Zd ((k_hitems w).ok.weak (by decide))) (Zb (Za (i := 12) ok rfl) Zd))) (Z0 (Zb (Za (i := 14) ok rfl) (Zb (Xz (cl := []) ⟨by kernel_rfl, by decide +kernel, rfl, by decide +kernel⟩ rfl rfl (X9 (cl := []) (ln := [Str.ofString "word", Str.ofString "value"]) ⟨by kernel_rfl, by decide +kernel, rfl, by decide +kernel⟩ (Xy (Za (i := 14) ok rfl)) (fun C => (Y6 (Zz (Zf (i := 0) (Zu ok rfl (Zl (by kernel_rfl) (Zl (by kernel_rfl) Zv)) (by decide +kernel)) rfl) (Zz (Zf (i := 1) (Zu ok rfl (Zl (by kernel_rfl) (Zl (by kernel_rfl) Zv)) (by decide +kernel)) rfl) Xd)))) (fun C => Xo) (fun C => (Za (i := 1) (Zu ok rfl (Zl (by kernel_rfl) (Zl (by kernel_rfl) Zv)) (by decide +kernel)) rfl)))) Zd))) op_neG) (Zc (Zq Xn) Zg) Zg) (Zc (Zj (Zs (Z8 ok (by kernel_rfl) (gn__law_sizes w)) (Zk (a := 340) (by kernel_rfl)) (Zb (Za (i := 11) ok rfl) (Zb (Za (i := 9) ok rfl) (Zb (Za (i := 10) ok rfl) Zd))) ((k_sizes w).ok.weak (by decide))) (Y6 (Zz (Zf (i := 15) ok rfl) (Zz (Zf (i := 16) ok rfl) Xd)))) (Zc (Zj (Zi (Za (i := 10) ok rfl) (Zw (C := 184) (fa := 174) (by kernel_rfl)) (Zk (a := 174) (by kernel_rfl)) (Zb (Zi (Z6 (Za (i := 9) ok rfl) Zp) (Qm F.slot_str_upper F.type_str_upper) Zh Zd op_upper) (Zb Zy Zd)) ((k_sdef w).ok.weak (by decide))) (Zf (i := 17) ok rfl)) (Zc (den_if (Zn (Z0 (Zb (Za (i := 15) ok rfl) (Zb (Zs (Zm ok (by kernel_rfl) (gn_len w) (bn_len w)) Zh (Zb (Za (i := 15) ok rfl) Zd) op_len) (Zb (Za (i := 17) ok rfl) (Zb (Zi (Za (i := 10) ok rfl) (Zw (C := 184) (fa := 148) (by kernel_rfl)) (Zk (a := 148) (by kernel_rfl)) Zd ((k_hitems w).ok.weak (by decide))) Zd))))) (Z0 (Zb (Za (i := 16) ok rfl) (Zb (Zs (Zm ok (by kernel_rfl) (gn_len w) (bn_len w)) Zh (Zb (Za (i := 13) ok rfl) Zd) op_len) (Zb Zy (Zb (Za (i := 14) ok rfl) Zd))))) op_neG) (Zc (Zq Xn) Zg) Zg) (Zc (Zj (Xe (Zb (Zi (Za (i := 11) ok rfl) (Y4 (C := 268) (fv := .ref 228) (ty := "function") (by kernel_rfl)) (Zk (a := 228) (by kernel_rfl)) Zd ((k_ppop w).ok.weak (by decide))) (Zb (Zi (Za (i := 11) ok rfl) (Y4 (C := 268) (fv := .ref 228) (ty := "function") (by kernel_rfl)) (Zk (a := 228) (by kernel_rfl)) Zd ((k_ppop w).ok.weak (by decide))) (Zb (Zi (Za (i := 11) ok rfl) (Y4 (C := 268) (fv := .ref 228) (ty := "function") (by kernel_rfl)) (Zk (a := 228) (by kernel_rfl)) Zd ((k_ppop w).ok.weak (by decide))) Zd)))) (Zf (i := 18) ok rfl)) (Zc (den_if (Zn (Za (i := 18) ok rfl) (Xe (Zb (Z0 (Zb (Zt Zy (Zs (Zm ok (by kernel_rfl) (gn_max w) (bn_max w)) Zh (Zb (Za (i := 13) ok rfl) Zd) op_maxL) op_repS) (Zb (Z6 (Za (i := 9) ok rfl) Zp) Zd))) (Zb (Z0 (Zb Zy (Zb (Z6 (Za (i := 9) ok rfl) Zp) Zd))) (Zb (Z0 (Zb Zy (Zb Zy Zd))) Zd)))) op_neG) (Zc (Zq Xn) Zg) Zg) (Zc (Zq (den_compare (Xe (Zb (Zi (Yd (i := 1) ok rfl (by kernel_rfl) (.inl (by kernel_rfl))) (Zw (C := 310) (fa := 300) (by kernel_rfl)) (Zk (a := 300) (by kernel_rfl)) Zd ((Jq w).ok.weak (by decide))) (Zb (Zi (Yd (i := 1) ok rfl (by kernel_rfl) (.inl (by kernel_rfl))) (Zw (C := 310) (fa := 300) (by kernel_rfl)) (Zk (a := 300) (by kernel_rfl)) Zd ((Jq w).ok.weak (by decide))) Zd))) (Xe (Zb (Z6 (Za (i := 9) ok rfl) Zp) (Zb Zy Zd))) op_eqG)) Zg)))))))))))))))))))))))))⟩
theorem x_law (w : World) : DefK (C2 w).K 352 fd352 (defB (at1 P2 19)) [Str.ofString "script"] ln_law cn_law := ⟨⟨⟨_, _, _, rfl⟩, by kernel_rfl, rfl, rfl, rfl, rfl⟩, rfl, fun L => rfl, by decide +kernel, by decide +kernel, by decide +kernel, loc_law, by decide +kernel⟩
theorem r_law (w : World) : FunK (C2 w) 11 (.ref 352) 1 [] (runK (1 + 0) [] [some 0, none, none, none, none, none, none, none, none, none, none, none, none, none, none, none, none, none, none] [none, none] (s_law w).1) := Yh (x_law w) (dvs := []) (fun _ _ => .nil) rfl (by decide +kernel) (by decide +kernel) (fun s vs ws h1 h2 X => by
  obtain ⟨v0, rfl⟩ := ln1 h1
  obtain rfl := ln0 h2
  exact BindsTo.of_eq (by kernel_rfl)) (s_law w).2
noncomputable def lawR (w : World) : List PV → SM PV := runK (1 + 0) [] [some 0, none, none, none, none, none, none, none, none, none, none, none, none, none, none, none, none, none, none] [none, none] (s_law w).1
noncomputable abbrev EV (sc : PV) (a1 a2 a3 a4 a5 a6 a7 a8 a9 a10 a11 a12 a13 a14 a15 a16 a17 a18 c0 c1 : Option PV) (S : List AO) : ES := ⟨[some sc, a1, a2, a3, a4, a5, a6, a7, a8, a9, a10, a11, a12, a13, a14, a15, a16, a17, a18], [c0, c1], S⟩
theorem tables_at {es : ES} (w : World) {n : Nat} (hl : es.st.length = n) :
    (bindE (consE (bindE (consE (bindE (pureE []) newE) (pureE [])) fun ps => liftS (Jb ps)) (consE (bindE (pureE []) fun ps => liftS (make268G ps)) (pureE []))) tupE) es
      = some (.tup [.ref (n + 1), .ref (n + 2)], ⟨es.loc, es.cel, es.st ++ [.list [], .inst 184 (kvH n), .linst 268 (kvA 0) []]⟩) := hl ▸ tables_run w
theorem due_at {es : ES} {x : PV} {xs : List PV} {n : Nat} {S : List AO} (h9 : getL 9 es = some (.lst (x :: xs), es)) (hl : es.st.length = n) (hS : es.st ++ [.list [.tup [x, .str emS]]] = S) :
    (bindE (consE (bindE (consE (bindE (getL 9) fun p => bindE (pureE (PV.int 0)) fun q => liftS (getI p q)) (consE (pureE (PV.str (Str.ofString ""))) (pureE []))) tupE) (pureE [])) newE) es = some (.ref n, ⟨es.loc, es.cel, S⟩) := hl ▸ hS ▸ due_new h9
theorem law_go (w : World) {st : List AO} {sc : PV} {di : List Int} {ns : List Nat} {cs : List Rw} {A B : List Nat} {M H : Nat} {P : List (Nat × Nat)} {sg : Nat → Nat} (h0 : st[0]? = some (AO.tab 316 posP qP))
    (hcut : sliceG sc .none (.int 9) .none st = some (.lst (di.map PV.int), st)) (hdi : di.length ≤ 9) (hns : di.map fm6 ++ sev.drop (di.map fm6).length = ns) (hcs : rwsOf ns = cs) (hn9 : ns.length ≤ 9) (hc9 : cs.length ≤ 9) (hok : ∀ x ∈ cs, RwOk x)
    (hW : cs.map wR = (A ++ M :: B).map (wP sg)) (hAB : (A ++ M :: B).length ≤ 9) (hsg : SgOk sg) (h9 : ∀ y ∈ A ++ M :: B, y < 9) (hA : ∀ y ∈ A, y < M) (hB : ∀ y ∈ B, y < M) (T : Tr P H) (eP : P.map (·.1) = B ++ A) (nd : (P.map (·.1)).Nodup) (hH0 : 0 < H) :
    ∃ st', lawR w [sc] st = some (.bool true, st') ∧ st'[0]? = some (AO.tab 316 posP qP) := by
  have hdl : (di.map fm6).length ≤ 9 := by rw [List.length_map]; exact hdi
  have hM : M < 9 := h9 M (List.mem_append_right _ (.head _))
  have hzz : A.length + B.length ≤ 8 := by rw [List.length_append, List.length_cons] at hAB; omega
  have hz : P.length ≤ 8 := by
    have := congrArg List.length eP
    rw [List.length_map, List.length_append] at this; omega
  have hP : ∀ y ∈ P, y.1 < M := fun y m => by
    have : y.1 ∈ B ++ A := by rw [← eP]; exact List.mem_map_of_mem m
    rcases List.mem_append.mp this with m | m
    · exact hB _ m
    · exact hA _ m
  have hp9s : ∀ y ∈ P, y.1 < 9 := fun y m => by have := hP y m; omega
  have hp9 : ∀ x ∈ M :: P.map (·.1), x < 9 := fun x m => by
    rcases List.mem_cons.mp m with rfl | m
    · exact hM
    · obtain ⟨y, my, rfl⟩ := List.mem_map.mp m
      exact hp9s y my
  have hHz : H ≤ 8 := Nat.le_trans T.len hz
  have hH : H < 20 := by omega
  have hL9 : ∀ y ∈ laidK P 9, y.1 < 9 := fun y m => hp9s y (laid_mem.mp m).1
  have hll := Qn P 9
  have hzt : (tabOf sg M (laidK P 9)).length ≤ 20 := by rw [tab_len]; omega
  have okt := tab_ok hsg hM (L := laidK P 9) fun y m => ⟨hL9 y m, by have := (laid_mem.mp m).2.2; omega⟩
  have hwM : PyData.strOk (wd M (sg M)) = true := (wd_ok M hM _ (hsg.lt M)).2.2.1
  have hHm : H ∈ P.map (·.2) := by
    obtain ⟨y, my, e⟩ := T.top hH0
    exact e ▸ List.mem_map_of_mem my
  have hHt : ∀ x ∈ P.map (·.2), x ≤ H := fun x m => by
    obtain ⟨y, my, rfl⟩ := List.mem_map.mp m
    exact T.le y my
  let Dr : PV := .lst ((di.map fm6).map inP)
  let N : PV := .lst (ns.map inP)
  obtain ⟨Wd, hw0⟩ : ∃ W : PV, W = .lst (((nu 0 ns).map (wordOf ns)).map .str) := ⟨_, rfl⟩
  have hw : wordsR [N] st = some (Wd, st) := hw0 ▸ wordsR_of hn9 st
  have hWr : Wd = .lst ((rwsOf ns).map wR) := by rw [hw0, rws_words, List.map_map]; rfl
  have hWc : Wd = .lst (cs.map wR) := hcs ▸ hWr
  have hWa : Wd = .lst ((A ++ M :: B).map (wP sg)) := hWc.trans (congrArg PV.lst hW)
  let Rows : PV := .lst ((cs.map rwS).map .str)
  let Rd : PV := .lst ((Yn cs).map .str)
  let R : PV := .lst ((M :: P.map (·.1)).map (wP sg))
  let Ld : PV := .lst ((emS :: dK P 9).map .str)
  have hLd : Ld = .lst (((tabOf sg M (laidK P 9)).map (·.2)).map .str) := by
    unfold tabOf
    rw [List.map_cons, List.map_map]; rfl
  let Hs : PV := .lst ((P.map (·.2)).map inP)
  let En : PV := .lst [cellP sg (H, M), cellP sg (0, M), .tup [.str emS, .str emS]]
  let i := st.length + 4
  let S1 := st ++ lexNew st.length (txtOf cs)
  have hlen : lenG [Wd] S1 = some (inP cs.length, S1) := by
    rw [hWc, Qc (xs := cs.map wR) rfl (Zr (by rw [List.length_map]; omega)), List.length_map]
  obtain ⟨o', S2, ew, L2, t2⟩ := read_part w h0 hok hc9 none
  have nij := ij_ne L2.lx L2.pb
  let S3 := S2.set (st.length + 5) (.list (cs.map wR))
  obtain ⟨a4, epush⟩ := push_loop w (c0 := none) (a0 := some sc) (a1 := some Dr) (a2 := some N) (a3 := some Wd) (tl := [(some Rows), (some Rd), (some Rd), none, none, none, none, none, none, none, none, none, none, none]) (cs.map wR) [] S2 none L2.lx L2.pb (by rw [List.length_map]; show 0 + _ ≤ _; omega)
  have hi3 : S3[i]? = some (.inst 310 (kvW ((cs.length + 1 : Nat) : Int) (.ref st.length) wsQ (st.length + 5))) := by rw [List.getElem?_set_ne (Ne.symm nij)]; exact L2.lx
  have hj3 : S3[st.length + 5]? = some (.list (A.map (wP sg) ++ (M :: B).map (wP sg))) := by rw [List.getElem?_set_self (lt_of L2.pb), hW, List.map_append]
  let R0 := (M :: P.map (·.1)).map (wP sg)
  let S4 := S2.set (st.length + 5) (.list R0)
  obtain ⟨c0, erot⟩ := rot_loop w (loc := [(some sc), (some Dr), (some N), (some Wd), a4, (some Rows), (some Rd), (some Rd), (some (inP A.length)), none, none, none, none, none, none, none, none, none, none]) (A.map (wP sg)) ((M :: B).map (wP sg)) ((List.range A.length).map inP) S3 none (by rw [List.length_map, List.length_range, List.length_map]) hi3 hj3 (by rw [List.length_map, List.length_map, List.length_cons]; omega)
  rw [List.set_set, ← List.map_append, List.cons_append, ← eP] at erot
  have hi4 : S4[i]? = some (.inst 310 (kvW ((cs.length + 1 : Nat) : Int) (.ref st.length) wsQ (st.length + 5))) := by rw [List.getElem?_set_ne (Ne.symm nij)]; exact L2.lx
  have hj4 : S4[st.length + 5]? = some (.list R0) := List.getElem?_set_self (lt_of L2.pb)
  let tab : AO := .list ((tabOf sg M (laidK P 9)).map entP)
  let ins : AO := .inst 184 (kvH S2.length)
  let told : AO := .list ((dK P 9).map .str)
  let j := st.length + 5
  let S5 := ZT S2 j R0 [.list [], ins, .linst 268 (kvA 0) []]
  let S6 := ZT S2 j [wP sg M] [tab, ins, .linst 268 (kvA 0) [], told]
  let S7 := ZT S2 j [wP sg M] [tab, ins, .linst 268 (kvA 0) [], told, .list ((tabOf sg M (laidK P 0)).map entP)]
  let S8 := ZT S2 j [wP sg M] [tab, ins, .linst 268 (kvA 0) [], told, tab]
  obtain ⟨c1, eloop⟩ := due_loop (M := M) (P := P) (loc := [(some sc), (some Dr), (some N), (some Wd), a4, (some Rows), (some Rd), (some Rd), (some (inP A.length)), (some R), (some (.ref (S2.length + 1))), (some (.ref (S2.length + 2))), (some Ld), (some Hs), (some (.ref (S2.length + 4))), none, none, none, none]) (c1 := some (.ref i)) (d := S2.length + 4) hsg hp9s hz rfl rfl rfl 9 0 S7 c0 rfl (zt_get 4)
  replace eloop := eloop.trans (congrArg (fun S => some (PF.next, (⟨_, _, S⟩ : ES))) (zt_set 4 _))
  have g8t : S8[S2.length + 1]? = some ins := zt_get 1
  have g8h : S8[S2.length]? = some tab := zt_get 0
  have g8d : S8[S2.length + 4]? = some tab := zt_get 4
  have g8a : S8[S2.length + 2]? = some (.linst 268 (kvA 0) []) := zt_get 2
  obtain ⟨o, hrun, ho, hol⟩ := ring_tr T hP
  let Az : List Str := o.map fun x => dS x.2
  have hAz : Az.length ≤ 20 := by rw [List.length_map]; omega
  have okA : ∀ x ∈ Az, PyData.strOk x = true := fun x m => by
    obtain ⟨y, my, rfl⟩ := List.mem_map.mp m
    exact (dS_ok y.2 (by have := T.le y (ho y my); omega)).2.1
  have hHl : ((P.map (·.2)).map inP).length = Az.length := by rw [List.length_map, List.length_map, List.length_map, hol]
  let S9 := ZT S2 j [wP sg M] [tab, ins, .linst 268 (kvA 0) (pileP sg [(H, M), (0, M)]), told, tab, .list (Az.map .str), .list (Az.map .str)]
  have esz : sizesR w [.ref (S2.length + 2), R, .ref (S2.length + 1)] S8 = some (.tup [.ref (S2.length + 5), .ref (S2.length + 6)], S9) := by
    have e := sizes_run w (l := P.map (·.1)) (M := M) g8a g8t g8h (tab_names hsg hM hL9) hsg (fun x => (look (tabOf sg M (laidK P 9)) (wd x (sg x))).getD emS) (fun x m => by
      rcases List.mem_cons.mp m with rfl | m
      · exact ⟨Nat.le_refl _, hM, fun q => absurd q (Nat.lt_irrefl _)⟩
      · obtain ⟨y, my, rfl⟩ := List.mem_map.mp m
        refine ⟨Nat.le_of_lt (hP y my), hp9s y my, fun _ => ?_⟩
        rw [look_in hsg hM T hP nd hz my]; rfl) (by rw [List.length_map]; exact hz)
    have hτ : (o.map fun x => (look (tabOf sg M (laidK P 9)) (wd x.1 (sg x.1))).getD emS) = Az := List.map_congr_left fun x m => by
      rw [look_in hsg hM T hP nd hz (ho x m)]; rfl
    rw [hrun] at e
    dsimp only at e
    rw [hτ, show S8.length = S2.length + 5 from zt_len] at e
    refine e.trans (congrArg (fun S => some (_, S)) ?_)
    show (ZT S2 j [wP sg M] _).set (S2.length + 2) _ ++ _ = _
    rw [zt_set, zt_app]; rfl
  have g9t : S9[S2.length + 1]? = some ins := zt_get 1
  have g9h : S9[S2.length]? = some tab := zt_get 0
  have g9d : S9[S2.length + 4]? = some tab := zt_get 4
  have g9s : S9[S2.length + 5]? = some (.list (Az.map .str)) := zt_get 5
  have g9u : S9[S2.length + 6]? = some (.list (Az.map .str)) := zt_get 6
  have g9a : S9[S2.length + 2]? = some (.linst 268 (kvA 0) (pileP sg [(H, M), (0, M)])) := zt_get 2
  let S10 := ZT S2 j [wP sg M] [tab, ins, .linst 268 (kvA 0) [], told, tab, .list (Az.map .str), .list (Az.map .str)]
  have L10 := (L2.pbset [wP sg M]).app [tab, ins, .linst 268 (kvA 0) [], told, tab, .list (Az.map .str), .list (Az.map .str)]
  let S11 := atQ (S10.set j (.list [])) i st.length j (st.length + 2) (txtOf cs) ((cs.length + 1 : Nat) : Int) (txtOf cs).cps.size ++ [mAO i, .cdone]
  have t11 : S11[0]? = some (AO.tab 316 posP qP) := by
    refine Kc ?_
    rw [zero_atQ (by show st.length + 4 ≠ 0; omega) (by omega), Kb (by show st.length + 5 ≠ 0; omega)]
    refine Kc ?_
    rw [Kb (by show st.length + 5 ≠ 0; omega)]
    exact t2
  have hlast := last_run w (loc := [(some sc), (some Dr), (some N), (some Wd), a4, (some Rows), (some Rd), (some Rd), (some (inP A.length)), (some R), (some (.ref (S2.length + 1))), (some (.ref (S2.length + 2))), (some Ld), (some Hs), (some (.ref (S2.length + 4))), (some (.ref (S2.length + 5))), (some (.ref (S2.length + 6))), (some (.str emS)), (some En)]) (c0 := c1) (rest := (P.map (·.1)).map (wP sg)) L10 hwM rfl
  have run : (s_law w).1 (EV sc none none none none none none none none none none none none none none none none none none none none st) = some (.ret (.bool true), (EV sc (some Dr) (some N) (some Wd) a4 (some Rows) (some Rd) (some Rd) (some (inP A.length)) (some R) (some (.ref (S2.length + 1))) (some (.ref (S2.length + 2))) (some Ld) (some Hs) (some (.ref (S2.length + 4))) (some (.ref (S2.length + 5))) (some (.ref (S2.length + 6))) (some (.str emS)) (some En) c1 (some (.ref i)) S11)) := by
    simp only [s_law]
    refine e_seq (es₁ := (EV sc (some Dr) none none none none none none none none none none none none none none none none none none none st)) (e_asg (p := Dr) (es₁ := (EV sc none none none none none none none none none none none none none none none none none none none none st)) (drawn_run (sc := sc) rfl hcut hdi) rfl) ?_
    refine e_seq (es₁ := (EV sc (some Dr) (some N) none none none none none none none none none none none none none none none none none none st)) (e_asg (p := N) (es₁ := (EV sc (some Dr) none none none none none none none none none none none none none none none none none none none st)) ((numbers_run rfl hdl).trans (congrArg (fun x => some (PV.lst (x.map inP), _)) hns)) rfl) ?_
    refine e_seq (es₁ := (EV sc (some Dr) (some N) (some Wd) none none none none none none none none none none none none none none none none none st)) (e_asg (p := Wd) (es₁ := (EV sc (some Dr) (some N) none none none none none none none none none none none none none none none none none none st)) (p_call (ps := [N]) (p_cons rfl rfl) hw) rfl) ?_
    refine e_seq (es₁ := (EV sc (some Dr) (some N) (some Wd) none (some Rows) none none none none none none none none none none none none none none none st)) (e_asg (p := Rows) (es₁ := (EV sc (some Dr) (some N) (some Wd) none none none none none none none none none none none none none none none none none st)) ((rows_run w hn9 (get_as rfl hWr) rfl).trans (congrArg (fun x => some (PV.lst ((x.map rwS).map .str), _)) hcs)) rfl) ?_
    refine e_seq (es₁ := (EV sc (some Dr) (some N) (some Wd) none (some Rows) none none none none none none none none none none none none none none (some (.ref i)) S1)) (e_asg (p := (.ref i)) (es₁ := (EV sc (some Dr) (some N) (some Wd) none (some Rows) none none none none none none none none none none none none none none none S1)) (lexer_at hok hc9 rfl h0) rfl) ?_
    refine e_seq (es₁ := (EV sc (some Dr) (some N) (some Wd) none (some Rows) (some Rd) none none none none none none none none none none none none none (some (.ref i)) S2)) (e_asg (p := Rd) (es₁ := (EV sc (some Dr) (some N) (some Wd) none (some Rows) none none none none none none none none none none none none none none (some (.ref i)) S2)) (read_at (n := cs.length) (p := Wd) rfl hlen hc9 ew) rfl) ?_
    refine e_seq (es₁ := (EV sc (some Dr) (some N) (some Wd) none (some Rows) (some Rd) (some Rd) none none none none none none none none none none none none (some (.ref i)) S2)) (e_asg (p := Rd) (es₁ := (EV sc (some Dr) (some N) (some Wd) none (some Rows) (some Rd) none none none none none none none none none none none none none (some (.ref i)) S2)) (aw_at hc9 (get_as rfl hWc)) rfl) ?_
    refine e_seq (es₁ := (EV sc (some Dr) (some N) (some Wd) none (some Rows) (some Rd) (some Rd) none none none none none none none none none none none none (some (.ref i)) S2)) (e_ite (t := false) (es₁ := (EV sc (some Dr) (some N) (some Wd) none (some Rows) (some Rd) (some Rd) none none none none none none none none none none none none (some (.ref i)) S2)) (p_lift (p := .bool false) (cmp1 w hok hc9 L2.lx (get_as rfl hWc) rfl rfl rfl) (X5 _ _)) rfl) ?_
    refine e_seq (es₁ := (EV sc (some Dr) (some N) (some Wd) a4 (some Rows) (some Rd) (some Rd) none none none none none none none none none none none none (some (.ref i)) S3)) (e_for (Qd (p := .lst (cs.map wR)) (sl_at (v := Rd) (l := .int 1) (u := .none) (k := .int 2) rfl rfl rfl rfl (words_cut hc9 _)) rfl) epush) ?_
    refine e_seq (es₁ := (EV sc (some Dr) (some N) (some Wd) a4 (some Rows) (some Rd) (some Rd) (some (inP A.length)) none none none none none none none none none none none (some (.ref i)) S3)) (e_asg (p := (inP A.length)) (es₁ := (EV sc (some Dr) (some N) (some Wd) a4 (some Rows) (some Rd) (some Rd) none none none none none none none none none none none none (some (.ref i)) S3)) (spot_run hsg h9 hA hB (by omega) (get_as rfl hWa)) rfl) ?_
    refine e_seq (es₁ := (EV sc (some Dr) (some N) (some Wd) a4 (some Rows) (some Rd) (some Rd) (some (inP A.length)) none none none none none none none none none none c0 (some (.ref i)) S4)) (e_for (its_at (ps := [inP A.length]) (p_cons rfl rfl) (its_range A.length (by omega) _)) erot) ?_
    refine e_seq (es₁ := (EV sc (some Dr) (some N) (some Wd) a4 (some Rows) (some Rd) (some Rd) (some (inP A.length)) (some R) none none none none none none none none none c0 (some (.ref i)) S4)) (e_asg (p := R) (es₁ := (EV sc (some Dr) (some N) (some Wd) a4 (some Rows) (some Rd) (some Rd) (some (inP A.length)) none none none none none none none none none none c0 (some (.ref i)) S4)) ((ring_run (get_as rfl hWa) rfl (by omega)).trans (congrArg (fun x => some (PV.lst ((M :: x).map (wP sg)), _)) eP.symm)) rfl) ?_
    refine e_seq (es₁ := (EV sc (some Dr) (some N) (some Wd) a4 (some Rows) (some Rd) (some Rd) (some (inP A.length)) (some R) none none none none none none none none none c0 (some (.ref i)) S4)) (e_ite (t := false) (es₁ := (EV sc (some Dr) (some N) (some Wd) a4 (some Rows) (some Rd) (some Rd) (some (inP A.length)) (some R) none none none none none none none none none c0 (some (.ref i)) S4)) (p_lift (p := .bool false) (cmp2 w hsg hp9 hi4 hj4 rfl rfl) (X5 _ _)) rfl) ?_
    refine e_seq (es₁ := (EV sc (some Dr) (some N) (some Wd) a4 (some Rows) (some Rd) (some Rd) (some (inP A.length)) (some R) (some (.ref (S2.length + 1))) (some (.ref (S2.length + 2))) none none none none none none none c0 (some (.ref i)) S5)) (e_bind (y := .tup [.ref (S2.length + 1), .ref (S2.length + 2)]) (es₁ := (EV sc (some Dr) (some N) (some Wd) a4 (some Rows) (some Rd) (some Rd) (some (inP A.length)) (some R) none none none none none none none none none c0 (some (.ref i)) S5)) (tables_at w List.length_set) rfl) ?_
    refine e_seq (es₁ := (EV sc (some Dr) (some N) (some Wd) a4 (some Rows) (some Rd) (some Rd) (some (inP A.length)) (some R) (some (.ref (S2.length + 1))) (some (.ref (S2.length + 2))) (some Ld) none none none none none none c0 (some (.ref i)) S6)) (e_asg (p := Ld) (es₁ := (EV sc (some Dr) (some N) (some Wd) a4 (some Rows) (some Rd) (some Rd) (some (inP A.length)) (some R) (some (.ref (S2.length + 1))) (some (.ref (S2.length + 2))) none none none none none none none c0 (some (.ref i)) S6)) (laid_run w rfl L2.lx L2.pb hsg hM T hP nd hz rfl rfl (fun _ => rfl) (fun _ => rfl)) rfl) ?_
    refine e_seq (es₁ := (EV sc (some Dr) (some N) (some Wd) a4 (some Rows) (some Rd) (some Rd) (some (inP A.length)) (some R) (some (.ref (S2.length + 1))) (some (.ref (S2.length + 2))) (some Ld) (some Hs) none none none none none c0 (some (.ref i)) S6)) (e_asg (p := Hs) (es₁ := (EV sc (some Dr) (some N) (some Wd) a4 (some Rows) (some Rd) (some Rd) (some (inP A.length)) (some R) (some (.ref (S2.length + 1))) (some (.ref (S2.length + 2))) (some Ld) none none none none none none c0 (some (.ref i)) S6)) (heights_run w hsg T hz hp9s rfl) rfl) ?_
    refine e_seq (es₁ := (EV sc (some Dr) (some N) (some Wd) a4 (some Rows) (some Rd) (some Rd) (some (inP A.length)) (some R) (some (.ref (S2.length + 1))) (some (.ref (S2.length + 2))) (some Ld) (some Hs) (some (.ref (S2.length + 4))) none none none none c0 (some (.ref i)) S7)) (e_asg (p := (.ref (S2.length + 4))) (es₁ := (EV sc (some Dr) (some N) (some Wd) a4 (some Rows) (some Rd) (some Rd) (some (inP A.length)) (some R) (some (.ref (S2.length + 1))) (some (.ref (S2.length + 2))) (some Ld) (some Hs) none none none none none c0 (some (.ref i)) S7)) (due_at rfl zt_len (zt_app _)) rfl) ?_
    refine e_seq (es₁ := (EV sc (some Dr) (some N) (some Wd) a4 (some Rows) (some Rd) (some Rd) (some (inP A.length)) (some R) (some (.ref (S2.length + 1))) (some (.ref (S2.length + 2))) (some Ld) (some Hs) (some (.ref (S2.length + 4))) none none none none c1 (some (.ref i)) S8)) (e_for (its_at (ps := [.int 1, .int 10]) rfl (rg19 _)) eloop) ?_
    refine e_seq (es₁ := (EV sc (some Dr) (some N) (some Wd) a4 (some Rows) (some Rd) (some Rd) (some (inP A.length)) (some R) (some (.ref (S2.length + 1))) (some (.ref (S2.length + 2))) (some Ld) (some Hs) (some (.ref (S2.length + 4))) none none none none c1 (some (.ref i)) S8)) (e_ite (t := false) (es₁ := (EV sc (some Dr) (some N) (some Wd) a4 (some Rows) (some Rd) (some Rd) (some (inP A.length)) (some R) (some (.ref (S2.length + 1))) (some (.ref (S2.length + 2))) (some Ld) (some Hs) (some (.ref (S2.length + 4))) none none none none c1 (some (.ref i)) S8)) (p_lift (p := .bool false) (cmp3 w g8t g8h g8d hzt okt rfl (get_as rfl hLd) rfl) (X5 _ _)) rfl) ?_
    refine e_seq (es₁ := (EV sc (some Dr) (some N) (some Wd) a4 (some Rows) (some Rd) (some Rd) (some (inP A.length)) (some R) (some (.ref (S2.length + 1))) (some (.ref (S2.length + 2))) (some Ld) (some Hs) (some (.ref (S2.length + 4))) (some (.ref (S2.length + 5))) (some (.ref (S2.length + 6))) none none c1 (some (.ref i)) S9)) (e_bind (y := .tup [.ref (S2.length + 5), .ref (S2.length + 6)]) (es₁ := (EV sc (some Dr) (some N) (some Wd) a4 (some Rows) (some Rd) (some Rd) (some (inP A.length)) (some R) (some (.ref (S2.length + 1))) (some (.ref (S2.length + 2))) (some Ld) (some Hs) (some (.ref (S2.length + 4))) none none none none c1 (some (.ref i)) S9)) (e_bind (y := [.ref (S2.length + 2), R, .ref (S2.length + 1)]) (es₁ := (EV sc (some Dr) (some N) (some Wd) a4 (some Rows) (some Rd) (some Rd) (some (inP A.length)) (some R) (some (.ref (S2.length + 1))) (some (.ref (S2.length + 2))) (some Ld) (some Hs) (some (.ref (S2.length + 4))) none none none none c1 (some (.ref i)) S8)) (p_cons rfl (p_cons rfl (p_cons rfl rfl))) (Ye esz)) rfl) ?_
    refine e_seq (es₁ := (EV sc (some Dr) (some N) (some Wd) a4 (some Rows) (some Rd) (some Rd) (some (inP A.length)) (some R) (some (.ref (S2.length + 1))) (some (.ref (S2.length + 2))) (some Ld) (some Hs) (some (.ref (S2.length + 4))) (some (.ref (S2.length + 5))) (some (.ref (S2.length + 6))) (some (.str emS)) none c1 (some (.ref i)) S9)) (e_asg (p := (.str emS)) (es₁ := (EV sc (some Dr) (some N) (some Wd) a4 (some Rows) (some Rd) (some Rd) (some (inP A.length)) (some R) (some (.ref (S2.length + 1))) (some (.ref (S2.length + 2))) (some Ld) (some Hs) (some (.ref (S2.length + 4))) (some (.ref (S2.length + 5))) (some (.ref (S2.length + 6))) none none c1 (some (.ref i)) S9)) (again_run w hsg hM hL9 g9t g9h rfl rfl) rfl) ?_
    refine e_seq (es₁ := (EV sc (some Dr) (some N) (some Wd) a4 (some Rows) (some Rd) (some Rd) (some (inP A.length)) (some R) (some (.ref (S2.length + 1))) (some (.ref (S2.length + 2))) (some Ld) (some Hs) (some (.ref (S2.length + 4))) (some (.ref (S2.length + 5))) (some (.ref (S2.length + 6))) (some (.str emS)) none c1 (some (.ref i)) S9)) (e_ite (t := false) (es₁ := (EV sc (some Dr) (some N) (some Wd) a4 (some Rows) (some Rd) (some Rd) (some (inP A.length)) (some R) (some (.ref (S2.length + 1))) (some (.ref (S2.length + 2))) (some Ld) (some Hs) (some (.ref (S2.length + 4))) (some (.ref (S2.length + 5))) (some (.ref (S2.length + 6))) (some (.str emS)) none c1 (some (.ref i)) S9)) (p_lift (p := .bool false) (cmp4 w g9t g9h g9d g9s g9u hzt hAz hHl okt okA rfl rfl rfl rfl rfl rfl) (X5 _ _)) rfl) ?_
    refine e_seq (es₁ := (EV sc (some Dr) (some N) (some Wd) a4 (some Rows) (some Rd) (some Rd) (some (inP A.length)) (some R) (some (.ref (S2.length + 1))) (some (.ref (S2.length + 2))) (some Ld) (some Hs) (some (.ref (S2.length + 4))) (some (.ref (S2.length + 5))) (some (.ref (S2.length + 6))) (some (.str emS)) (some En) c1 (some (.ref i)) S10)) (e_asg (p := En) (es₁ := (EV sc (some Dr) (some N) (some Wd) a4 (some Rows) (some Rd) (some Rd) (some (inP A.length)) (some R) (some (.ref (S2.length + 1))) (some (.ref (S2.length + 2))) (some Ld) (some Hs) (some (.ref (S2.length + 4))) (some (.ref (S2.length + 5))) (some (.ref (S2.length + 6))) (some (.str emS)) none c1 (some (.ref i)) S10)) ((ends_run w rfl g9a).trans (congrArg (fun S => some (En, (⟨_, _, S⟩ : ES))) (zt_set 2 _))) rfl) ?_
    refine e_seq (es₁ := (EV sc (some Dr) (some N) (some Wd) a4 (some Rows) (some Rd) (some Rd) (some (inP A.length)) (some R) (some (.ref (S2.length + 1))) (some (.ref (S2.length + 2))) (some Ld) (some Hs) (some (.ref (S2.length + 4))) (some (.ref (S2.length + 5))) (some (.ref (S2.length + 6))) (some (.str emS)) (some En) c1 (some (.ref i)) S10)) (e_ite (t := false) (es₁ := (EV sc (some Dr) (some N) (some Wd) a4 (some Rows) (some Rd) (some Rd) (some (inP A.length)) (some R) (some (.ref (S2.length + 1))) (some (.ref (S2.length + 2))) (some Ld) (some Hs) (some (.ref (S2.length + 4))) (some (.ref (S2.length + 5))) (some (.ref (S2.length + 6))) (some (.str emS)) (some En) c1 (some (.ref i)) S10)) (p_lift (p := .bool false) (cmp5 hsg hM hH hHm hHt rfl rfl rfl) (X5 _ _)) rfl) ?_
    exact e_stop (e_bind hlast rfl)
  exact ⟨S11, Z3 run, t11⟩
theorem law_ev (w : World) {script : List Int} (hs : script.length < 64) {st : List AO} (h0 : st[0]? = some (AO.tab 316 posP qP)) : ∃ st', lawR w [.lst (script.map PV.int)] st = some (.bool true, st') ∧ st'[0]? = some (AO.tab 316 posP qP) := by
  obtain ⟨di, hdi, hcut⟩ := slice_cut hs st
  obtain ⟨ns, hns⟩ : ∃ ns, di.map fm6 ++ sev.drop (di.map fm6).length = ns := ⟨_, rfl⟩
  have hnl : 7 ≤ ns.length ∧ ns.length ≤ 9 := by
    rw [← hns, List.length_append, sev_len, List.length_map]; omega
  have hok := rws_ok hnl.2
  have hcl := rws_len' ns
  have nd := rws_nodup ns
  have hll : (rks (rwsOf ns)).length = ns.length := by rw [List.length_map, hcl]
  obtain ⟨A, M, B, el, hA, hB⟩ := max_split (l := rks (rwsOf ns)) (fun e => by rw [e] at hll; have := hnl.1; rw [← hll] at this; exact absurd this (by decide)) nd
  have h9 : ∀ y ∈ A ++ M :: B, y < 9 := fun y m => by
    rw [← el] at m
    obtain ⟨x, mx, rfl⟩ := List.mem_map.mp m
    exact (hok x mx).r
  rw [el] at nd hll
  have ndBA : (B ++ A).Nodup := by
    rw [List.nodup_append, List.nodup_cons] at nd
    rw [List.nodup_append]
    exact ⟨nd.2.1.2, nd.1, fun a ha b hb e => nd.2.2 b hb a (.tail _ ha) e.symm⟩
  obtain ⟨P, H, T, eP⟩ := tree_ex _ (B ++ A) (Nat.le_refl _) ndBA
  have hlen : (A ++ M :: B).length = A.length + (B.length + 1) := by rw [List.length_append, List.length_cons]
  refine law_go w h0 hcut hdi hns rfl hnl.2 (by rw [hcl]; exact hnl.2) hok (sg := sgO (rwsOf ns)) ?_ (by rw [hll]; exact hnl.2) (sgO_lt hok) h9 hA hB T eP (by rw [eP]; exact ndBA) ?_
  · rw [← el]
    exact words_by (rws_nodup ns)
  · refine Nat.pos_of_ne_zero fun e => ?_
    cases T with
    | nil =>
      have h1 := congrArg List.length eP
      rw [List.length_append] at h1
      have h2 : 0 = B.length + A.length := h1
      omega
    | node _ _ _ _ => omega
theorem in_tab {P : Params} {h : Heap} (Y : (kFrag2 P).In h) : h.get? 316 = some { cls := .none, data := .fields #[] } := Y 316 _ rfl
theorem code_tab {P : Params} {h : Heap} (Y : (kFrag P).In h) : isCodeTable h 316 := ⟨320, _, _, Y 320 _ rfl, rfl, rfl, rfl⟩
theorem ints_vals {P : Params} {h : Heap} {ρ : Rho} {ns : List Int} {vs : List Value} (x : WellAll P h vs (ns.map WData.int)) : RVs h ρ vs (ns.map PV.int) := by
  induction ns generalizing vs with
  | nil => cases x; exact .nil
  | cons n ns ih =>
    cases x with
    | cons y r =>
      cases y
      exact .cons (.int _ _) (ih r)
theorem start_ok (w : World) {s : Shared} (Y : (kFrag2 w.params).In s.heap) (hl : s.heap.NoLimit) : RelS (C2 w).K ⟨[[316]], []⟩ [.tab 316 posP qP] s.heap := by
  refine ⟨rfl, ?_, by decide, ?_, in_rest Y, hl⟩
  · intro i as ao e1 e2
    match i, e1, e2 with
    | 0, e1, e2 =>
      cases e1; cases e2
      exact ⟨#[], rfl, in_tab Y, trivial, .inl rfl⟩
    | i + 1, e1, _ => cases e1
  · intro a m
    have : a = 316 := List.mem_singleton.mp m
    subst this
    exact ⟨no_tab _, by decide, _, in_tab Y⟩
theorem law_good (w : World) {s₀ s₁ : Shared} {args : List WData} {vals : List Value} (Y : (kFrag2 w.params).In s₁.heap) (hl : s₁.heap.NoLimit) (hg : s₁.gens = #[])
    (hpre : PySem.Challenge.rw_tc0040_03.row.claim.pre args = true) (hwl : WellAll w.params s₁.heap vals args) :
    wpAny (model PySem.Challenge.rw_tc0040_03.row.prog w) callerA (call (.ref 352) vals)
      (fun v s' => GoodWG PySem.Challenge.rw_tc0040_03.row.claim (classAt s₀.heap) (ExcName.means s₀.heap) args s₁ (Except.ok (Flow.ret v)) s')
      (fun e s' => GoodWG PySem.Challenge.rw_tc0040_03.row.claim (classAt s₀.heap) (ExcName.means s₀.heap) args s₁ (Except.error e) s') s₁ := by
  obtain ⟨hsh, hp⟩ := pre_splitW (r := PySem.Challenge.rw_tc0040_03.row.toRowW) hpre
  have hsh : WShape.hasAll [] args [.list .int] = true := hsh
  obtain ⟨d, r, rfl, h1, h2⟩ := hasAllW_cons hsh
  obtain rfl := hasAllW_nil h2
  obtain ⟨xs, rfl, h3⟩ := hasW_list h1
  obtain ⟨ns, rfl⟩ := items_int h3
  have hlen : ns.length < 64 := by
    have hp : WTm.holds [] (.and (.not (.lt (.lit (.int 63)) (.len (.arg 0)))) (.lit (.bool true))) { args := [WData.list (ns.map WData.int)] } = true := hp
    have e : less? (WData.int 63) (WData.int (ns.length : Int)) = some (decide ((63 : Int) < (ns.length : Int))) := rfl
    simp only [WTm.holds, WTm.value, List.getElem?_cons_zero, List.length_map, e, Option.map_some] at hp
    by_cases q : (63 : Int) < (ns.length : Int)
    · simp [q] at hp
    · omega
  cases hwl with
  | cons hv hr =>
    cases hr
    cases hv with
    | list ho hvs =>
      rename_i a vs
      have hna : a ∉ (⟨[[316]], []⟩ : Rho).own := fun m => by
        have : a = 316 := List.mem_singleton.mp m
        subst this
        rw [in_tab Y] at ho
        cases ho
      have hrv : RVs s₁.heap ⟨[[316]], []⟩ [.ref a] [.lst (ns.map PV.int)] := .cons (.lst hna ⟨_, ho⟩ (ints_vals hvs)) .nil
      obtain ⟨st', e, h0⟩ := law_ev w (script := ns) hlen (st := [.tab 316 posP qP]) rfl
      have hA : AOk 11 callerA := ⟨rfl, by decide, by decide⟩
      refine wpAny_mono ((r_law w).ok.run callerA hA ⟨[[316]], []⟩ s₁ [.tab 316 posP qP] [.ref a] [.lst (ns.map PV.int)] _ _ e hrv (start_ok w Y hl)) (fun v s' z => ?_) fun _ _ z => z.elim
      obtain ⟨ρ', R, g, q, rv⟩ := z
      cases rv
      have htab : ∃ ps, s'.heap.get? 316 = some { cls := .none, data := .fields ps } := by
        obtain ⟨t, ht⟩ := g.pre
        have he : ρ'.ents[0]? = some [316] := by rw [← ht]; rfl
        obtain ⟨ps, _, hps, _⟩ := R.objs 0 _ _ he h0
        exact ⟨ps, hps⟩
      have hkeep : ∀ b o, s₁.heap.get? b = some o → b ≠ 316 → s'.heap.get? b = some o := fun b o hb ne =>
        g.keep b o hb (fun m => nomatch m) fun m => ne (List.mem_singleton.mp m)
      refine ⟨.inl ⟨_, .bool true, [], rfl, fun _ => rfl, ReadsW.bool true, ?_, fun _ => ⟨List.nodup_nil, fun _ hm => nomatch hm⟩⟩, ⟨fun b o hb => ?_, fun b o hb => ?_⟩, q.2.2, .of_eq (q.1.trans hg)⟩
      · show (WShape.has [] (.bool true) .bool && WTm.holds [] (WTm.res.eq (WTm.lit (.bool true))) { args := [WData.list (ns.map WData.int)], res := some (.bool true), after := [WData.list (ns.map WData.int)] }) = true
        have e : PySem.W.same (WData.bool true) (WData.bool true) = true := by simp [PySem.W.same]
        simp [WTm.holds, WTm.value, WShape.has, WShape.arms, e]
      · by_cases hbt : b = 316
        · subst hbt
          rw [in_tab Y] at hb
          cases hb
          obtain ⟨ps, hps⟩ := htab
          exact .inr (.inl ⟨code_tab (in_rest Y), rfl, #[], ps, rfl, by simpa using hps⟩)
        · exact .inl (hkeep b o hb hbt)
      · by_cases hbt : b = 316
        · subst hbt
          obtain ⟨ps, hps⟩ := htab
          exact ⟨_, hps⟩
        · exact ⟨o, hkeep b o hb hbt⟩
end Mine
open PySem PySem.Calls PySem.W PyProof.Rows
theorem PySem.Challenge.cw_tc0040_03_holds : PySem.Challenge.rw_tc0040_03.Holds :=
  Mine.hdMain fun w s₀ s₁ args vals Y hl hg hpre hwl => Mine.law_good w Y hl hg hpre hwl
