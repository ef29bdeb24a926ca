import PyProof.Rows.All
import Wide.All
import Open.Line
import OpenK.KMore
import PyProof.DictItemsLoops
import Lean
import PySem.Challenge.RW_tc0040_01
set_option bootstrap.genMatcherCode false
set_option Elab.async false
set_option maxRecDepth 100000
set_option linter.unusedVariables false
set_option linter.unusedSimpArgs false
namespace Mine
open PySem PySem.Calls PySem.W PyProof.Rows
noncomputable abbrev P2 := PySem.Challenge.pw_tc0040_01
noncomputable def at1 (p : Program) (i : Nat) : Option Stmt := p.main.body[i]?
noncomputable def at2 (p : Program) (i j : Nat) : Option Stmt := match p.main.body[i]? with
  | some (.ClassDef _ _ _ b ..) => b[j]?
  | _ => none
noncomputable def defB : Option Stmt → List Stmt
  | some (.FunctionDef _ _ b ..) => b
  | _ => []
noncomputable def defA : Option Stmt → Arguments
  | some (.FunctionDef _ a ..) => a
  | _ => default
noncomputable def defS : Option Stmt → Scope
  | some (.FunctionDef _ _ _ _ _ _ sc ..) => sc
  | _ => default
noncomputable abbrev sv (x : String) (t : Tok) : Value := .str (Str.ofString x) t
noncomputable def en (P : Params) (x : String) (t : Tok) (v : Value) : DictEntry := ⟨PyData.keyHash P (Str.ofString x), sv x t, v⟩
noncomputable def fd38 : FuncData := ⟨Str.ofString "_wall", Str.ofString "_wall", defA (at1 P2 1), .stmts (defB (at1 P2 1)), defS (at1 P2 1), 3, [], .none, .none, .none, sv "__main__" 164, none, (.ref 37), .none, 0⟩
noncomputable def fd55 : FuncData := ⟨Str.ofString "__init__", Str.ofString "_Accumulator.__init__", defA (at2 P2 4 0), .stmts (defB (at2 P2 4 0)), defS (at2 P2 4 0), 3, [((Str.ofString "__class__"), 42)], (.ref 47), .none, .none, sv "cpy313.email.header" 289, none, (.ref 54), (.ref 48), 0⟩
noncomputable def fd62 : FuncData := ⟨Str.ofString "push", Str.ofString "_Accumulator.push", defA (at2 P2 4 1), .stmts (defB (at2 P2 4 1)), defS (at2 P2 4 1), 3, [], .none, .none, .none, sv "cpy313.email.header" 289, none, (.ref 61), .none, 0⟩
noncomputable def fd70 : FuncData := ⟨Str.ofString "pop_from", Str.ofString "_Accumulator.pop_from", defA (at2 P2 4 2), .stmts (defB (at2 P2 4 2)), defS (at2 P2 4 2), 3, [], (.ref 63), .none, .none, sv "cpy313.email.header" 289, none, (.ref 69), .none, 0⟩
noncomputable def fd78 : FuncData := ⟨Str.ofString "pop", Str.ofString "_Accumulator.pop", defA (at2 P2 4 3), .stmts (defB (at2 P2 4 3)), defS (at2 P2 4 3), 3, [((Str.ofString "__class__"), 42)], .none, .none, .none, sv "cpy313.email.header" 289, none, (.ref 77), (.ref 71), 0⟩
noncomputable def fd85 : FuncData := ⟨Str.ofString "__len__", Str.ofString "_Accumulator.__len__", defA (at2 P2 4 4), .stmts (defB (at2 P2 4 4)), defS (at2 P2 4 4), 3, [], .none, .none, .none, sv "cpy313.email.header" 289, none, (.ref 84), .none, 0⟩
noncomputable def fd92 : FuncData := ⟨Str.ofString "__str__", Str.ofString "_Accumulator.__str__", defA (at2 P2 4 5), .stmts (defB (at2 P2 4 5)), defS (at2 P2 4 5), 3, [], .none, .none, .none, sv "cpy313.email.header" 289, none, (.ref 91), .none, 0⟩
noncomputable def fd100 : FuncData := ⟨Str.ofString "reset", Str.ofString "_Accumulator.reset", defA (at2 P2 4 6), .stmts (defB (at2 P2 4 6)), defS (at2 P2 4 6), 3, [], (.ref 93), .none, .none, sv "cpy313.email.header" 289, none, (.ref 99), .none, 0⟩
noncomputable def fd107 : FuncData := ⟨Str.ofString "is_onlyws", Str.ofString "_Accumulator.is_onlyws", defA (at2 P2 4 7), .stmts (defB (at2 P2 4 7)), defS (at2 P2 4 7), 3, [], .none, .none, .none, sv "cpy313.email.header" 289, none, (.ref 106), .none, 0⟩
noncomputable def fd115 : FuncData := ⟨Str.ofString "part_count", Str.ofString "_Accumulator.part_count", defA (at2 P2 4 8), .stmts (defB (at2 P2 4 8)), defS (at2 P2 4 8), 3, [((Str.ofString "__class__"), 42)], .none, .none, .none, sv "cpy313.email.header" 289, none, (.ref 114), (.ref 108), 0⟩
noncomputable def fd136 : FuncData := ⟨Str.ofString "__init__", Str.ofString "_netrclex.__init__", defA (at2 P2 6 0), .stmts (defB (at2 P2 6 0)), defS (at2 P2 6 0), 3, [], .none, .none, .none, sv "cpy313.netrc" 388, none, (.ref 135), .none, 0⟩
noncomputable def fd143 : FuncData := ⟨Str.ofString "_read_char", Str.ofString "_netrclex._read_char", defA (at2 P2 6 1), .stmts (defB (at2 P2 6 1)), defS (at2 P2 6 1), 3, [], .none, .none, .none, sv "cpy313.netrc" 388, none, (.ref 142), .none, 0⟩
noncomputable def fd150 : FuncData := ⟨Str.ofString "get_token", Str.ofString "_netrclex.get_token", defA (at2 P2 6 2), .stmts (defB (at2 P2 6 2)), defS (at2 P2 6 2), 3, [], .none, .none, .none, sv "cpy313.netrc" 388, none, (.ref 149), .none, 0⟩
noncomputable def fd157 : FuncData := ⟨Str.ofString "push_token", Str.ofString "_netrclex.push_token", defA (at2 P2 6 3), .stmts (defB (at2 P2 6 3)), defS (at2 P2 6 3), 3, [], .none, .none, .none, sv "cpy313.netrc" 388, none, (.ref 156), .none, 0⟩
noncomputable def fd187 : FuncData := ⟨Str.ofString "_formatparam", Str.ofString "_formatparam", defA (at1 P2 11), .stmts (defB (at1 P2 11)), defS (at1 P2 11), 3, [], (.ref 180), .none, .none, sv "cpy313.wsgiref.headers" 448, none, (.ref 186), .none, 0⟩
noncomputable def fd202 : FuncData := ⟨Str.ofString "__init__", Str.ofString "Headers.__init__", defA (at2 P2 12 0), .stmts (defB (at2 P2 12 0)), defS (at2 P2 12 0), 3, [], (.ref 195), .none, .none, sv "cpy313.wsgiref.headers" 448, none, (.ref 201), .none, 0⟩
noncomputable def fd209 : FuncData := ⟨Str.ofString "_convert_string_type", Str.ofString "Headers._convert_string_type", defA (at2 P2 12 1), .stmts (defB (at2 P2 12 1)), defS (at2 P2 12 1), 3, [], .none, .none, .none, sv "cpy313.wsgiref.headers" 448, none, (.ref 208), .none, 0⟩
noncomputable def fd216 : FuncData := ⟨Str.ofString "__len__", Str.ofString "Headers.__len__", defA (at2 P2 12 2), .stmts (defB (at2 P2 12 2)), defS (at2 P2 12 2), 3, [], .none, .none, .none, sv "cpy313.wsgiref.headers" 448, none, (.ref 215), .none, 0⟩
noncomputable def fd223 : FuncData := ⟨Str.ofString "__setitem__", Str.ofString "Headers.__setitem__", defA (at2 P2 12 3), .stmts (defB (at2 P2 12 3)), defS (at2 P2 12 3), 3, [], .none, .none, .none, sv "cpy313.wsgiref.headers" 448, none, (.ref 222), .none, 0⟩
noncomputable def fd228 : FuncData := ⟨Str.ofString "__delitem__", Str.ofString "Headers.__delitem__", defA (at2 P2 12 4), .stmts (defB (at2 P2 12 4)), defS (at2 P2 12 4), 3, [], .none, .none, .none, sv "cpy313.wsgiref.headers" 448, none, (.ref 227), .none, 0⟩
noncomputable def fd235 : FuncData := ⟨Str.ofString "__getitem__", Str.ofString "Headers.__getitem__", defA (at2 P2 12 5), .stmts (defB (at2 P2 12 5)), defS (at2 P2 12 5), 3, [], .none, .none, .none, sv "cpy313.wsgiref.headers" 448, none, (.ref 234), .none, 0⟩
noncomputable def fd242 : FuncData := ⟨Str.ofString "__contains__", Str.ofString "Headers.__contains__", defA (at2 P2 12 6), .stmts (defB (at2 P2 12 6)), defS (at2 P2 12 6), 3, [], .none, .none, .none, sv "cpy313.wsgiref.headers" 448, none, (.ref 241), .none, 0⟩
noncomputable def fd247 : FuncData := ⟨Str.ofString "get_all", Str.ofString "Headers.get_all", defA (at2 P2 12 7), .stmts (defB (at2 P2 12 7)), defS (at2 P2 12 7), 3, [], .none, .none, .none, sv "cpy313.wsgiref.headers" 448, none, (.ref 246), .none, 0⟩
noncomputable def fd255 : FuncData := ⟨Str.ofString "get", Str.ofString "Headers.get", defA (at2 P2 12 8), .stmts (defB (at2 P2 12 8)), defS (at2 P2 12 8), 3, [], (.ref 248), .none, .none, sv "cpy313.wsgiref.headers" 448, none, (.ref 254), .none, 0⟩
noncomputable def fd260 : FuncData := ⟨Str.ofString "keys", Str.ofString "Headers.keys", defA (at2 P2 12 9), .stmts (defB (at2 P2 12 9)), defS (at2 P2 12 9), 3, [], .none, .none, .none, sv "cpy313.wsgiref.headers" 448, none, (.ref 259), .none, 0⟩
noncomputable def fd265 : FuncData := ⟨Str.ofString "values", Str.ofString "Headers.values", defA (at2 P2 12 10), .stmts (defB (at2 P2 12 10)), defS (at2 P2 12 10), 3, [], .none, .none, .none, sv "cpy313.wsgiref.headers" 448, none, (.ref 264), .none, 0⟩
noncomputable def fd272 : FuncData := ⟨Str.ofString "items", Str.ofString "Headers.items", defA (at2 P2 12 11), .stmts (defB (at2 P2 12 11)), defS (at2 P2 12 11), 3, [], .none, .none, .none, sv "cpy313.wsgiref.headers" 448, none, (.ref 271), .none, 0⟩
noncomputable def fd279 : FuncData := ⟨Str.ofString "__repr__", Str.ofString "Headers.__repr__", defA (at2 P2 12 12), .stmts (defB (at2 P2 12 12)), defS (at2 P2 12 12), 3, [], .none, .none, .none, sv "cpy313.wsgiref.headers" 448, none, (.ref 278), .none, 0⟩
noncomputable def fd284 : FuncData := ⟨Str.ofString "__str__", Str.ofString "Headers.__str__", defA (at2 P2 12 13), .stmts (defB (at2 P2 12 13)), defS (at2 P2 12 13), 3, [], .none, .none, .none, sv "cpy313.wsgiref.headers" 448, none, (.ref 283), .none, 0⟩
noncomputable def fd291 : FuncData := ⟨Str.ofString "__bytes__", Str.ofString "Headers.__bytes__", defA (at2 P2 12 14), .stmts (defB (at2 P2 12 14)), defS (at2 P2 12 14), 3, [], .none, .none, .none, sv "cpy313.wsgiref.headers" 448, none, (.ref 290), .none, 0⟩
noncomputable def fd298 : FuncData := ⟨Str.ofString "setdefault", Str.ofString "Headers.setdefault", defA (at2 P2 12 15), .stmts (defB (at2 P2 12 15)), defS (at2 P2 12 15), 3, [], .none, .none, .none, sv "cpy313.wsgiref.headers" 448, none, (.ref 297), .none, 0⟩
noncomputable def fd305 : FuncData := ⟨Str.ofString "add_header", Str.ofString "Headers.add_header", defA (at2 P2 12 16), .stmts (defB (at2 P2 12 16)), defS (at2 P2 12 16), 3, [], .none, .none, .none, sv "cpy313.wsgiref.headers" 448, none, (.ref 304), .none, 0⟩
noncomputable def fd319 : FuncData := ⟨Str.ofString "_law_lexer", Str.ofString "_law_lexer", defA (at1 P2 14), .stmts (defB (at1 P2 14)), defS (at1 P2 14), 3, [], .none, .none, .none, sv "law_tc0040_01" 711, none, (.ref 318), .none, 0⟩
noncomputable def fd326 : FuncData := ⟨Str.ofString "_law_cards", Str.ofString "_law_cards", defA (at1 P2 15), .stmts (defB (at1 P2 15)), defS (at1 P2 15), 3, [], .none, .none, .none, sv "law_tc0040_01" 711, none, (.ref 325), .none, 0⟩
noncomputable def fd333 : FuncData := ⟨Str.ofString "_law_figure", Str.ofString "_law_figure", defA (at1 P2 16), .stmts (defB (at1 P2 16)), defS (at1 P2 16), 3, [], .none, .none, .none, sv "law_tc0040_01" 711, none, (.ref 332), .none, 0⟩
noncomputable def fd338 : FuncData := ⟨Str.ofString "_law_piles", Str.ofString "_law_piles", defA (at1 P2 17), .stmts (defB (at1 P2 17)), defS (at1 P2 17), 3, [], .none, .none, .none, sv "law_tc0040_01" 711, none, (.ref 337), .none, 0⟩
noncomputable def fd345 : FuncData := ⟨Str.ofString "_law_line", Str.ofString "_law_line", defA (at1 P2 18), .stmts (defB (at1 P2 18)), defS (at1 P2 18), 3, [], .none, .none, .none, sv "law_tc0040_01" 711, none, (.ref 344), .none, 0⟩
noncomputable def fd350 : FuncData := ⟨Str.ofString "_law_table", Str.ofString "_law_table", defA (at1 P2 19), .stmts (defB (at1 P2 19)), defS (at1 P2 19), 3, [], .none, .none, .none, sv "law_tc0040_01" 711, none, (.ref 349), .none, 0⟩
noncomputable def fd357 : FuncData := ⟨Str.ofString "_law_fraction", Str.ofString "_law_fraction", defA (at1 P2 20), .stmts (defB (at1 P2 20)), defS (at1 P2 20), 3, [], .none, .none, .none, sv "law_tc0040_01" 711, none, (.ref 356), .none, 0⟩
noncomputable def fd362 : FuncData := ⟨Str.ofString "_law_due", Str.ofString "_law_due", defA (at1 P2 21), .stmts (defB (at1 P2 21)), defS (at1 P2 21), 3, [], .none, .none, .none, sv "law_tc0040_01" 711, none, (.ref 361), .none, 0⟩
noncomputable def fd367 : FuncData := ⟨Str.ofString "law", Str.ofString "law", defA (at1 P2 22), .stmts (defB (at1 P2 22)), defS (at1 P2 22), 3, [], .none, .none, .none, sv "law_tc0040_01" 711, none, (.ref 366), .none, 0⟩
noncomputable def kFrag (P : Params) : Frag := [ (0, ⟨(.type "dict"), none, (.dict [en P "__name__" 1 (sv "builtins" 160), en P "__doc__" 2 (.builtin "builtins.__doc__:str#opaque"), en P "__package__" 3 (.builtin "builtins.__package__:str#opaque"), en P "__loader__" 4 (.builtin "builtins.__loader__:shared#opaque"), en P "__spec__" 5 (.builtin "builtins.__spec__#opaque"), en P "__build_class__" 6 (.builtin "__build_class__"), en P "__import__" 7 (.builtin "__import__"), en P "abs" 8 (.builtin "abs"), en P "all" 9 (.builtin "all"), en P "any" 10 (.builtin "any"), en P "ascii" 11 (.builtin "ascii"), en P "bin" 12 (.builtin "bin"), en P "breakpoint" 13 (.builtin "breakpoint"), en P "callable" 14 (.builtin "callable"), en P "chr" 15 (.builtin "chr"), en P "compile" 16 (.builtin "compile"), en P "delattr" 17 (.builtin "delattr"), en P "dir" 18 (.builtin "dir"), en P "divmod" 19 (.builtin "divmod"), en P "eval" 20 (.builtin "eval"), en P "exec" 21 (.builtin "exec"), en P "format" 22 (.builtin "format"), en P "getattr" 23 (.builtin "getattr"), en P "globals" 24 (.builtin "globals"), en P "hasattr" 25 (.builtin "hasattr"), en P "hash" 26 (.builtin "hash"), en P "hex" 27 (.builtin "hex"), en P "id" 28 (.builtin "id"), en P "input" 29 (.builtin "input"), en P "isinstance" 30 (.builtin "isinstance"), en P "issubclass" 31 (.builtin "issubclass"), en P "iter" 32 (.builtin "iter"), en P "aiter" 33 (.builtin "aiter"), en P "len" 34 (.builtin "len"), en P "locals" 35 (.builtin "locals"), en P "max" 36 (.builtin "max"), en P "min" 37 (.builtin "min"), en P "next" 38 (.builtin "next"), en P "anext" 39 (.builtin "anext"), en P "oct" 40 (.builtin "oct"), en P "ord" 41 (.builtin "ord"), en P "pow" 42 (.builtin "pow"), en P "print" 43 (.builtin "print"), en P "repr" 44 (.builtin "repr"), en P "round" 45 (.builtin "round"), en P "setattr" 46 (.builtin "setattr"), en P "sorted" 47 (.builtin "sorted"), en P "sum" 48 (.builtin "sum"), en P "vars" 49 (.builtin "vars"), en P "None" 50 .none, en P "Ellipsis" 51 .ellipsis, en P "NotImplemented" 52 .notImplemented, en P "False" 53 (.bool false), en P "True" 54 (.bool true), en P "bool" 55 (.type "bool"), en P "memoryview" 56 (.type "memoryview"), en P "bytearray" 57 (.type "bytearray"), en P "bytes" 58 (.type "bytes"), en P "classmethod" 59 (.type "classmethod"), en P "complex" 60 (.type "complex"), en P "dict" 61 (.type "dict"), en P "enumerate" 62 (.type "enumerate"), en P "filter" 63 (.type "filter"), en P "float" 64 (.type "float"), en P "frozenset" 65 (.type "frozenset"), en P "property" 66 (.type "property"), en P "int" 67 (.type "int"), en P "list" 68 (.type "list"), en P "map" 69 (.type "map"), en P "object" 70 (.type "object"), en P "range" 71 (.type "range"), en P "reversed" 72 (.type "reversed"), en P "set" 73 (.type "set"), en P "slice" 74 (.type "slice"), en P "staticmethod" 75 (.type "staticmethod"), en P "str" 76 (.type "str"), en P "super" 77 (.type "super"), en P "tuple" 78 (.type "tuple"), en P "type" 79 (.type "type"), en P "zip" 80 (.type "zip"), en P "__debug__" 81 (.bool true), en P "BaseException" 82 (.type "BaseException"), en P "BaseExceptionGroup" 83 (.type "BaseExceptionGroup"), en P "Exception" 84 (.type "Exception"), en P "GeneratorExit" 85 (.type "GeneratorExit"), en P "KeyboardInterrupt" 86 (.type "KeyboardInterrupt"), en P "SystemExit" 87 (.type "SystemExit"), en P "ArithmeticError" 88 (.type "ArithmeticError"), en P "AssertionError" 89 (.type "AssertionError"), en P "AttributeError" 90 (.type "AttributeError"), en P "BufferError" 91 (.type "BufferError"), en P "EOFError" 92 (.type "EOFError"), en P "ImportError" 93 (.type "ImportError"), en P "LookupError" 94 (.type "LookupError"), en P "MemoryError" 95 (.type "MemoryError"), en P "NameError" 96 (.type "NameError"), en P "OSError" 97 (.type "OSError"), en P "ReferenceError" 98 (.type "ReferenceError"), en P "RuntimeError" 99 (.type "RuntimeError"), en P "StopAsyncIteration" 100 (.type "StopAsyncIteration"), en P "StopIteration" 101 (.type "StopIteration"), en P "SyntaxError" 102 (.type "SyntaxError"), en P "SystemError" 103 (.type "SystemError"), en P "TypeError" 104 (.type "TypeError"), en P "ValueError" 105 (.type "ValueError"), en P "Warning" 106 (.type "Warning"), en P "FloatingPointError" 107 (.type "FloatingPointError"), en P "OverflowError" 108 (.type "OverflowError"), en P "ZeroDivisionError" 109 (.type "ZeroDivisionError"), en P "BytesWarning" 110 (.type "BytesWarning"), en P "DeprecationWarning" 111 (.type "DeprecationWarning"), en P "EncodingWarning" 112 (.type "EncodingWarning"), en P "FutureWarning" 113 (.type "FutureWarning"), en P "ImportWarning" 114 (.type "ImportWarning"), en P "PendingDeprecationWarning" 115 (.type "PendingDeprecationWarning"), en P "ResourceWarning" 116 (.type "ResourceWarning"), en P "RuntimeWarning" 117 (.type "RuntimeWarning"), en P "SyntaxWarning" 118 (.type "SyntaxWarning"), en P "UnicodeWarning" 119 (.type "UnicodeWarning"), en P "UserWarning" 120 (.type "UserWarning"), en P "BlockingIOError" 121 (.type "BlockingIOError"), en P "ChildProcessError" 122 (.type "ChildProcessError"), en P "ConnectionError" 123 (.type "ConnectionError"), en P "FileExistsError" 124 (.type "FileExistsError"), en P "FileNotFoundError" 125 (.type "FileNotFoundError"), en P "InterruptedError" 126 (.type "InterruptedError"), en P "IsADirectoryError" 127 (.type "IsADirectoryError"), en P "NotADirectoryError" 128 (.type "NotADirectoryError"), en P "PermissionError" 129 (.type "PermissionError"), en P "ProcessLookupError" 130 (.type "ProcessLookupError"), en P "TimeoutError" 131 (.type "TimeoutError"), en P "IndentationError" 132 (.type "IndentationError"), en P "_IncompleteInputError" 133 (.type "_IncompleteInputError"), en P "IndexError" 134 (.type "IndexError"), en P "KeyError" 135 (.type "KeyError"), en P "ModuleNotFoundError" 136 (.type "ModuleNotFoundError"), en P "NotImplementedError" 137 (.type "NotImplementedError"), en P "PythonFinalizationError" 138 (.type "PythonFinalizationError"), en P "RecursionError" 139 (.type "RecursionError"), en P "UnboundLocalError" 140 (.type "UnboundLocalError"), en P "UnicodeError" 141 (.type "UnicodeError"), en P "BrokenPipeError" 142 (.type "BrokenPipeError"), en P "ConnectionAbortedError" 143 (.type "ConnectionAbortedError"), en P "ConnectionRefusedError" 144 (.type "ConnectionRefusedError"), en P "ConnectionResetError" 145 (.type "ConnectionResetError"), en P "TabError" 146 (.type "TabError"), en P "UnicodeDecodeError" 147 (.type "UnicodeDecodeError"), en P "UnicodeEncodeError" 148 (.type "UnicodeEncodeError"), en P "UnicodeTranslateError" 149 (.type "UnicodeTranslateError"), en P "ExceptionGroup" 150 (.type "ExceptionGroup"), en P "EnvironmentError" 151 (.type "OSError"), en P "IOError" 152 (.type "OSError"), en P "open" 153 (.builtin "open"), en P "quit" 154 (.builtin "builtins.quit#opaque"), en P "exit" 155 (.builtin "builtins.exit#opaque"), en P "copyright" 156 (.builtin "builtins.copyright#opaque"), en P "credits" 157 (.builtin "builtins.credits#opaque"), en P "license" 158 (.builtin "builtins.license#opaque"), en P "help" 159 (.builtin "builtins.help#opaque")].toArray 159), [].toArray⟩), (1, ⟨(.type "dict"), none, (.dict [en P "builtins" 162 (.ref 4), en P "__main__" 163 (.ref 5), en P "_sre" 244 (.ref 12)].toArray 3), [].toArray⟩), (2, ⟨.none, none, (.dict [en P "\x69mport.loaded._sre" 183 (.bool true), en P "class._frozen_importlib.BuiltinImporter" 185 (.ref 14), en P "watched.\x69mport" 206 (.ref 18), en P "class._frozen_importlib.ModuleSpec" 216 (.ref 22), en P "sys.modules.booked-epoch" 245 (.int (3) 0), en P "\x69mport.later-laid._sre" 270 (.bool true), en P "watched.library" 272 (.ref 27), en P "watched.library-objects" 0 (sv "\x0c" 0), en P "watched.library-deep._sre" 273 (sv "\x04\x00\x00\x0b\x04\x00\x00\x0b\x04\x00\x00\x03\x04\x00\x00\x0b\x08\x04dict\x02" 0)].toArray 9), [].toArray⟩), (3, ⟨(.type "dict"), none, (.dict [en P "__name__" 165 (sv "law_tc0040_01" 711), en P "__doc__" 166 .none, en P "__package__" 167 .none, en P "__loader__" 168 (.builtin "__main__.__loader__#opaque"), en P "__spec__" 169 .none, en P "__annotations__" 170 (.ref 6), en P "__builtins__" 171 (.ref 4), en P "__file__" 173 (sv "/claim/cut.py" 172), en P "__cached__" 174 .none, en P "_sre" 275 (.ref 12), en P "_wall" 288 (.ref 38), en P "EMPTYSTRING" 292 (sv "" 291), en P "_Accumulator" 387 (.ref 118), en P "_netrclex" 447 (.ref 160), en P "tspecials" 483 (.ref 169), en P "_name_disallowed_re" 509 (.ref 174), en P "_value_disallowed_re" 543 (.ref 179), en P "_formatparam" 553 (.ref 187), en P "Headers" 710 (.ref 308), en P "_law_lexer" 724 (.ref 319), en P "_law_cards" 737 (.ref 326), en P "_law_figure" 745 (.ref 333), en P "_law_piles" 751 (.ref 338), en P "_law_line" 764 (.ref 345), en P "_law_table" 770 (.ref 350), en P "_law_fraction" 783 (.ref 357), en P "_law_due" 789 (.ref 362), en P "law" 795 (.ref 367)].toArray 28), [].toArray⟩), (4, ⟨(.type "module"), (some 0), .plain, [].toArray⟩), (5, ⟨(.type "module"), (some 3), .plain, [].toArray⟩), (7, ⟨(.type "tuple"), none, (.seq [].toArray 0), [].toArray⟩), (9, ⟨(.type "code"), none, (.fields [(sv "<module>" 176), (sv "<module>" 177), (sv "/claim/cut.py" 178), (.int (1) 0), (.int (0) 0), (.int (0) 0), (.int (0) 0), (.int (0) 0), (.ref 7), (.bool false), (.int (175) 0), (.ref 8), .none, .none, .none, .none, (.int (179) 0), (.int (1) 0), (sv "/claim/cut.py" 180)].toArray), [].toArray⟩), (32, ⟨(.type "tuple"), none, (.seq [].toArray 0), [].toArray⟩), (34, ⟨(.type "tuple"), none, (.seq [(sv "k" 285)].toArray 0), [].toArray⟩), (35, ⟨(.type "tuple"), none, (.seq [].toArray 0), [].toArray⟩), (37, ⟨(.type "code"), none, (.fields [(sv "_wall" 282), (sv "_wall" 283), (sv "/claim/cut.py" 284), (.int (2) 0), (.int (1) 0), (.int (0) 0), (.int (0) 0), (.int (3) 0), (.ref 32), (.bool true), (.int (276) 0), (.ref 33), .none, (.ref 34), (.ref 35), (.ref 36), (.int (286) 0), (.int (2) 0), (sv "/claim/cut.py" 287)].toArray), [].toArray⟩), (38, ⟨(.type "function"), none, (.func fd38), [].toArray⟩), (39, ⟨(.type "tuple"), none, (.seq [(.type "list")].toArray 0), [].toArray⟩), (42, ⟨(.type "cell"), none, (.cell (some (.ref 118))), [].toArray⟩), (47, ⟨(.type "tuple"), none, (.seq [(.int (0) 305)].toArray 0), [].toArray⟩), (48, ⟨(.type "tuple"), none, (.seq [(.ref 42)].toArray 0), [].toArray⟩), (49, ⟨(.type "tuple"), none, (.seq [(sv "__class__" 309)].toArray 0), [].toArray⟩), (51, ⟨(.type "tuple"), none, (.seq [(sv "self" 310), (sv "initial_size" 311)].toArray 0), [].toArray⟩), (52, ⟨(.type "tuple"), none, (.seq [].toArray 0), [].toArray⟩), (54, ⟨(.type "code"), none, (.fields [(sv "__init__" 306), (sv "_Accumulator.__init__" 307), (sv "/claim/cut.py" 308), (.int (9) 0), (.int (2) 0), (.int (0) 0), (.int (0) 0), (.int (3) 0), (.ref 49), (.bool true), (.int (276) 0), (.ref 50), .none, (.ref 51), (.ref 52), (.ref 53), (.int (312) 0), (.int (9) 0), (sv "/claim/cut.py" 313)].toArray), [].toArray⟩), (55, ⟨(.type "function"), none, (.func fd55), [].toArray⟩), (56, ⟨(.type "tuple"), none, (.seq [].toArray 0), [].toArray⟩), (58, ⟨(.type "tuple"), none, (.seq [(sv "self" 318), (sv "fws" 319), (sv "string" 320)].toArray 0), [].toArray⟩), (59, ⟨(.type "tuple"), none, (.seq [].toArray 0), [].toArray⟩), (61, ⟨(.type "code"), none, (.fields [(sv "push" 315), (sv "_Accumulator.push" 316), (sv "/claim/cut.py" 317), (.int (13) 0), (.int (3) 0), (.int (0) 0), (.int (0) 0), (.int (3) 0), (.ref 56), (.bool true), (.int (276) 0), (.ref 57), .none, (.ref 58), (.ref 59), (.ref 60), (.int (321) 0), (.int (13) 0), (sv "/claim/cut.py" 322)].toArray), [].toArray⟩), (62, ⟨(.type "function"), none, (.func fd62), [].toArray⟩), (63, ⟨(.type "tuple"), none, (.seq [(.int (0) 324)].toArray 0), [].toArray⟩), (64, ⟨(.type "tuple"), none, (.seq [].toArray 0), [].toArray⟩), (66, ⟨(.type "tuple"), none, (.seq [(sv "self" 328), (sv "i" 329)].toArray 0), [].toArray⟩), (67, ⟨(.type "tuple"), none, (.seq [].toArray 0), [].toArray⟩), (69, ⟨(.type "code"), none, (.fields [(sv "pop_from" 325), (sv "_Accumulator.pop_from" 326), (sv "/claim/cut.py" 327), (.int (16) 0), (.int (2) 0), (.int (0) 0), (.int (0) 0), (.int (3) 0), (.ref 64), (.bool true), (.int (276) 0), (.ref 65), .none, (.ref 66), (.ref 67), (.ref 68), (.int (330) 0), (.int (16) 0), (sv "/claim/cut.py" 331)].toArray), [].toArray⟩), (70, ⟨(.type "function"), none, (.func fd70), [].toArray⟩), (71, ⟨(.type "tuple"), none, (.seq [(.ref 42)].toArray 0), [].toArray⟩), (72, ⟨(.type "tuple"), none, (.seq [(sv "__class__" 336)].toArray 0), [].toArray⟩), (74, ⟨(.type "tuple"), none, (.seq [(sv "self" 337)].toArray 0), [].toArray⟩), (75, ⟨(.type "tuple"), none, (.seq [].toArray 0), [].toArray⟩), (77, ⟨(.type "code"), none, (.fields [(sv "pop" 333), (sv "_Accumulator.pop" 334), (sv "/claim/cut.py" 335), (.int (19) 0), (.int (1) 0), (.int (0) 0), (.int (0) 0), (.int (3) 0), (.ref 72), (.bool true), (.int (276) 0), (.ref 73), .none, (.ref 74), (.ref 75), (.ref 76), (.int (338) 0), (.int (19) 0), (sv "/claim/cut.py" 339)].toArray), [].toArray⟩), (78, ⟨(.type "function"), none, (.func fd78), [].toArray⟩), (79, ⟨(.type "tuple"), none, (.seq [].toArray 0), [].toArray⟩), (81, ⟨(.type "tuple"), none, (.seq [(sv "self" 344)].toArray 0), [].toArray⟩), (82, ⟨(.type "tuple"), none, (.seq [].toArray 0), [].toArray⟩), (84, ⟨(.type "code"), none, (.fields [(sv "__len__" 341), (sv "_Accumulator.__len__" 342), (sv "/claim/cut.py" 343), (.int (24) 0), (.int (1) 0), (.int (0) 0), (.int (0) 0), (.int (3) 0), (.ref 79), (.bool true), (.int (276) 0), (.ref 80), .none, (.ref 81), (.ref 82), (.ref 83), (.int (345) 0), (.int (24) 0), (sv "/claim/cut.py" 346)].toArray), [].toArray⟩), (85, ⟨(.type "function"), none, (.func fd85), [].toArray⟩), (86, ⟨(.type "tuple"), none, (.seq [].toArray 0), [].toArray⟩), (88, ⟨(.type "tuple"), none, (.seq [(sv "self" 351)].toArray 0), [].toArray⟩), (89, ⟨(.type "tuple"), none, (.seq [].toArray 0), [].toArray⟩), (91, ⟨(.type "code"), none, (.fields [(sv "__str__" 348), (sv "_Accumulator.__str__" 349), (sv "/claim/cut.py" 350), (.int (27) 0), (.int (1) 0), (.int (0) 0), (.int (0) 0), (.int (3) 0), (.ref 86), (.bool true), (.int (276) 0), (.ref 87), .none, (.ref 88), (.ref 89), (.ref 90), (.int (352) 0), (.int (27) 0), (sv "/claim/cut.py" 353)].toArray), [].toArray⟩), (92, ⟨(.type "function"), none, (.func fd92), [].toArray⟩), (93, ⟨(.type "tuple"), none, (.seq [.none].toArray 0), [].toArray⟩), (94, ⟨(.type "tuple"), none, (.seq [].toArray 0), [].toArray⟩), (96, ⟨(.type "tuple"), none, (.seq [(sv "self" 358), (sv "startval" 359)].toArray 0), [].toArray⟩), (97, ⟨(.type "tuple"), none, (.seq [].toArray 0), [].toArray⟩), (99, ⟨(.type "code"), none, (.fields [(sv "reset" 355), (sv "_Accumulator.reset" 356), (sv "/claim/cut.py" 357), (.int (30) 0), (.int (2) 0), (.int (0) 0), (.int (0) 0), (.int (3) 0), (.ref 94), (.bool true), (.int (276) 0), (.ref 95), .none, (.ref 96), (.ref 97), (.ref 98), (.int (360) 0), (.int (30) 0), (sv "/claim/cut.py" 361)].toArray), [].toArray⟩), (100, ⟨(.type "function"), none, (.func fd100), [].toArray⟩), (101, ⟨(.type "tuple"), none, (.seq [].toArray 0), [].toArray⟩), (103, ⟨(.type "tuple"), none, (.seq [(sv "self" 366)].toArray 0), [].toArray⟩), (104, ⟨(.type "tuple"), none, (.seq [].toArray 0), [].toArray⟩), (106, ⟨(.type "code"), none, (.fields [(sv "is_onlyws" 363), (sv "_Accumulator.is_onlyws" 364), (sv "/claim/cut.py" 365), (.int (33) 0), (.int (1) 0), (.int (0) 0), (.int (0) 0), (.int (3) 0), (.ref 101), (.bool true), (.int (276) 0), (.ref 102), .none, (.ref 103), (.ref 104), (.ref 105), (.int (367) 0), (.int (33) 0), (sv "/claim/cut.py" 368)].toArray), [].toArray⟩), (107, ⟨(.type "function"), none, (.func fd107), [].toArray⟩), (108, ⟨(.type "tuple"), none, (.seq [(.ref 42)].toArray 0), [].toArray⟩), (109, ⟨(.type "tuple"), none, (.seq [(sv "__class__" 373)].toArray 0), [].toArray⟩), (111, ⟨(.type "tuple"), none, (.seq [(sv "self" 374)].toArray 0), [].toArray⟩), (112, ⟨(.type "tuple"), none, (.seq [].toArray 0), [].toArray⟩), (114, ⟨(.type "code"), none, (.fields [(sv "part_count" 370), (sv "_Accumulator.part_count" 371), (sv "/claim/cut.py" 372), (.int (36) 0), (.int (1) 0), (.int (0) 0), (.int (0) 0), (.int (3) 0), (.ref 109), (.bool true), (.int (276) 0), (.ref 110), .none, (.ref 111), (.ref 112), (.ref 113), (.int (375) 0), (.int (36) 0), (sv "/claim/cut.py" 376)].toArray), [].toArray⟩), (115, ⟨(.type "function"), none, (.func fd115), [].toArray⟩), (116, ⟨(.type "tuple"), none, (.seq [(sv "_initial_size" 378)].toArray 0), [].toArray⟩), (117, ⟨(.type "dict"), none, (.dict [en P "__module__" 300 (sv "cpy313.email.header" 289), en P "__firstlineno__" 304 (.int (7) 303), en P "__init__" 314 (.ref 55), en P "push" 323 (.ref 62), en P "pop_from" 332 (.ref 70), en P "pop" 340 (.ref 78), en P "__len__" 347 (.ref 85), en P "__str__" 354 (.ref 92), en P "reset" 362 (.ref 100), en P "is_onlyws" 369 (.ref 107), en P "part_count" 377 (.ref 115), en P "__static_attributes__" 379 (.ref 116), en P "__dict__" 382 (.ref 119), en P "__weakref__" 384 (.ref 120), en P "__doc__" 385 .none].toArray 5), [].toArray⟩), (118, ⟨(.type "type"), none, (.cls { name := (Str.ofString "_Accumulator"), bases := [(.type "list")], mro := [(.ref 118), (.type "list"), (.type "object")], ns := 117, qualname := (Str.ofString "_Accumulator"), hasDict := true, slotNames := [], subclasses := [], abstract := false, collection := none, hasDel := false }), [(some (.ref 39)), none, (some (sv "_Accumulator" 293)), (some (sv "_Accumulator" 301)), (some (.builtin "list.__new__")), (some (.bool true))].toArray⟩), (130, ⟨(.type "tuple"), none, (.seq [].toArray 0), [].toArray⟩), (132, ⟨(.type "tuple"), none, (.seq [(sv "self" 405), (sv "fp" 406)].toArray 0), [].toArray⟩), (133, ⟨(.type "tuple"), none, (.seq [].toArray 0), [].toArray⟩), (135, ⟨(.type "code"), none, (.fields [(sv "__init__" 402), (sv "_netrclex.__init__" 403), (sv "/claim/cut.py" 404), (.int (41) 0), (.int (2) 0), (.int (0) 0), (.int (0) 0), (.int (3) 0), (.ref 130), (.bool true), (.int (276) 0), (.ref 131), .none, (.ref 132), (.ref 133), (.ref 134), (.int (407) 0), (.int (41) 0), (sv "/claim/cut.py" 408)].toArray), [].toArray⟩), (136, ⟨(.type "function"), none, (.func fd136), [].toArray⟩), (137, ⟨(.type "tuple"), none, (.seq [].toArray 0), [].toArray⟩), (139, ⟨(.type "tuple"), none, (.seq [(sv "self" 413), (sv "ch" 414)].toArray 0), [].toArray⟩), (140, ⟨(.type "tuple"), none, (.seq [].toArray 0), [].toArray⟩), (142, ⟨(.type "code"), none, (.fields [(sv "_read_char" 410), (sv "_netrclex._read_char" 411), (sv "/claim/cut.py" 412), (.int (47) 0), (.int (1) 0), (.int (0) 0), (.int (0) 0), (.int (3) 0), (.ref 137), (.bool true), (.int (276) 0), (.ref 138), .none, (.ref 139), (.ref 140), (.ref 141), (.int (415) 0), (.int (47) 0), (sv "/claim/cut.py" 416)].toArray), [].toArray⟩), (143, ⟨(.type "function"), none, (.func fd143), [].toArray⟩), (144, ⟨(.type "tuple"), none, (.seq [].toArray 0), [].toArray⟩), (146, ⟨(.type "tuple"), none, (.seq [(sv "self" 421), (sv "token" 422), (sv "fiter" 423), (sv "ch" 424)].toArray 0), [].toArray⟩), (147, ⟨(.type "tuple"), none, (.seq [].toArray 0), [].toArray⟩), (149, ⟨(.type "code"), none, (.fields [(sv "get_token" 418), (sv "_netrclex.get_token" 419), (sv "/claim/cut.py" 420), (.int (53) 0), (.int (1) 0), (.int (0) 0), (.int (0) 0), (.int (3) 0), (.ref 144), (.bool true), (.int (276) 0), (.ref 145), .none, (.ref 146), (.ref 147), (.ref 148), (.int (425) 0), (.int (53) 0), (sv "/claim/cut.py" 426)].toArray), [].toArray⟩), (150, ⟨(.type "function"), none, (.func fd150), [].toArray⟩), (151, ⟨(.type "tuple"), none, (.seq [].toArray 0), [].toArray⟩), (153, ⟨(.type "tuple"), none, (.seq [(sv "self" 431), (sv "token" 432)].toArray 0), [].toArray⟩), (154, ⟨(.type "tuple"), none, (.seq [].toArray 0), [].toArray⟩), (156, ⟨(.type "code"), none, (.fields [(sv "push_token" 428), (sv "_netrclex.push_token" 429), (sv "/claim/cut.py" 430), (.int (80) 0), (.int (2) 0), (.int (0) 0), (.int (0) 0), (.int (3) 0), (.ref 151), (.bool true), (.int (276) 0), (.ref 152), .none, (.ref 153), (.ref 154), (.ref 155), (.int (433) 0), (.int (80) 0), (sv "/claim/cut.py" 434)].toArray), [].toArray⟩), (157, ⟨(.type "function"), none, (.func fd157), [].toArray⟩), (158, ⟨(.type "tuple"), none, (.seq [(sv "instream" 436), (sv "lineno" 437), (sv "pushback" 438), (sv "whitespace" 439)].toArray 0), [].toArray⟩), (159, ⟨(.type "dict"), none, (.dict [en P "__module__" 397 (sv "cpy313.netrc" 388), en P "__firstlineno__" 401 (.int (39) 400), en P "__init__" 409 (.ref 136), en P "_read_char" 417 (.ref 143), en P "get_token" 427 (.ref 150), en P "push_token" 435 (.ref 157), en P "__static_attributes__" 440 (.ref 158), en P "__dict__" 442 (.ref 161), en P "__weakref__" 444 (.ref 162), en P "__doc__" 445 .none].toArray 4), [].toArray⟩), (160, ⟨(.type "type"), none, (.cls { name := (Str.ofString "_netrclex"), bases := [(.type "object")], mro := [(.ref 160), (.type "object")], ns := 159, qualname := (Str.ofString "_netrclex"), hasDict := true, slotNames := [], subclasses := [], abstract := false, collection := none, hasDel := false }), [none, none, (some (sv "_netrclex" 390)), (some (sv "_netrclex" 398)), (some (.builtin "object.__new__")), (some (.bool true))].toArray⟩), (168, ⟨(.type "tuple"), none, (.seq [(.int (14) 0), (.int (14) 0), (.int (4) 0), (.int (1) 0), (.int (1) 0), (.int (9) 0), (.int (0) 0), (.int (4227896069) 0), (.int (939524097) 0), (.int (0) 0), (.int (0) 0), (.int (0) 0), (.int (0) 0), (.int (0) 0), (.int (0) 0), (.int (13) 0), (.int (11) 0), (.int (9) 0), (.int (0) 0), (.int (4227896069) 0), (.int (939524097) 0), (.int (0) 0), (.int (0) 0), (.int (0) 0), (.int (0) 0), (.int (0) 0), (.int (0) 0), (.int (1) 0)].toArray 0), [].toArray⟩), (169, ⟨(.type "re.Pattern"), none, (.fields [(sv "[ \\(\\)<>@,;:\\\\\"/\\[\\]\\?=]" 451), (.int (32) 482), (.int (0) 0), .none, .none, (.ref 168), (.int (0) 0)].toArray), [].toArray⟩), (173, ⟨(.type "tuple"), none, (.seq [(.int (14) 0), (.int (10) 0), (.int (4) 0), (.int (1) 0), (.int (1) 0), (.int (22) 0), (.int (0) 0), (.int (31) 0), (.int (16) 0), (.int (127) 0), (.int (0) 0), (.int (13) 0), (.int (7) 0), (.int (22) 0), (.int (0) 0), (.int (31) 0), (.int (16) 0), (.int (127) 0), (.int (0) 0), (.int (1) 0)].toArray 0), [].toArray⟩), (174, ⟨(.type "re.Pattern"), none, (.fields [(sv "[\\x00-\\x1F\\x7F]" 485), (.int (32) 508), (.int (0) 0), .none, .none, (.ref 173), (.int (0) 0)].toArray), [].toArray⟩), (178, ⟨(.type "tuple"), none, (.seq [(.int (14) 0), (.int (14) 0), (.int (4) 0), (.int (1) 0), (.int (1) 0), (.int (9) 0), (.int (4294966783) 0), (.int (0) 0), (.int (0) 0), (.int (2147483648) 0), (.int (0) 0), (.int (0) 0), (.int (0) 0), (.int (0) 0), (.int (0) 0), (.int (13) 0), (.int (11) 0), (.int (9) 0), (.int (4294966783) 0), (.int (0) 0), (.int (0) 0), (.int (2147483648) 0), (.int (0) 0), (.int (0) 0), (.int (0) 0), (.int (0) 0), (.int (0) 0), (.int (1) 0)].toArray 0), [].toArray⟩), (179, ⟨(.type "re.Pattern"), none, (.fields [(sv "[\\x00-\\x08\\x0A-\\x1F\\x7F]" 511), (.int (32) 542), (.int (0) 0), .none, .none, (.ref 178), (.int (0) 0)].toArray), [].toArray⟩), (180, ⟨(.type "tuple"), none, (.seq [.none, (.int (1) 544)].toArray 0), [].toArray⟩), (181, ⟨(.type "tuple"), none, (.seq [].toArray 0), [].toArray⟩), (183, ⟨(.type "tuple"), none, (.seq [(sv "param" 548), (sv "value" 549), (sv "quote" 550)].toArray 0), [].toArray⟩), (184, ⟨(.type "tuple"), none, (.seq [].toArray 0), [].toArray⟩), (186, ⟨(.type "code"), none, (.fields [(sv "_formatparam" 545), (sv "_formatparam" 546), (sv "/claim/cut.py" 547), (.int (86) 0), (.int (3) 0), (.int (0) 0), (.int (0) 0), (.int (3) 0), (.ref 181), (.bool true), (.int (276) 0), (.ref 182), .none, (.ref 183), (.ref 184), (.ref 185), (.int (551) 0), (.int (86) 0), (sv "/claim/cut.py" 552)].toArray), [].toArray⟩), (187, ⟨(.type "function"), none, (.func fd187), [].toArray⟩), (195, ⟨(.type "tuple"), none, (.seq [.none].toArray 0), [].toArray⟩), (196, ⟨(.type "tuple"), none, (.seq [].toArray 0), [].toArray⟩), (198, ⟨(.type "tuple"), none, (.seq [(sv "self" 569), (sv "headers" 570), (sv "k" 571), (sv "v" 572)].toArray 0), [].toArray⟩), (199, ⟨(.type "tuple"), none, (.seq [].toArray 0), [].toArray⟩), (201, ⟨(.type "code"), none, (.fields [(sv "__init__" 566), (sv "Headers.__init__" 567), (sv "/claim/cut.py" 568), (.int (97) 0), (.int (2) 0), (.int (0) 0), (.int (0) 0), (.int (3) 0), (.ref 196), (.bool true), (.int (276) 0), (.ref 197), .none, (.ref 198), (.ref 199), (.ref 200), (.int (573) 0), (.int (97) 0), (sv "/claim/cut.py" 574)].toArray), [].toArray⟩), (202, ⟨(.type "function"), none, (.func fd202), [].toArray⟩), (203, ⟨(.type "tuple"), none, (.seq [].toArray 0), [].toArray⟩), (205, ⟨(.type "tuple"), none, (.seq [(sv "self" 579), (sv "value" 580), (sv "name" 581), (sv "regex" 582)].toArray 0), [].toArray⟩), (206, ⟨(.type "tuple"), none, (.seq [].toArray 0), [].toArray⟩), (208, ⟨(.type "code"), none, (.fields [(sv "_convert_string_type" 576), (sv "Headers._convert_string_type" 577), (sv "/claim/cut.py" 578), (.int (107) 0), (.int (2) 0), (.int (0) 0), (.int (1) 0), (.int (3) 0), (.ref 203), (.bool true), (.int (276) 0), (.ref 204), .none, (.ref 205), (.ref 206), (.ref 207), (.int (583) 0), (.int (107) 0), (sv "/claim/cut.py" 584)].toArray), [].toArray⟩), (209, ⟨(.type "function"), none, (.func fd209), [].toArray⟩), (210, ⟨(.type "tuple"), none, (.seq [].toArray 0), [].toArray⟩), (212, ⟨(.type "tuple"), none, (.seq [(sv "self" 589)].toArray 0), [].toArray⟩), (213, ⟨(.type "tuple"), none, (.seq [].toArray 0), [].toArray⟩), (215, ⟨(.type "code"), none, (.fields [(sv "__len__" 586), (sv "Headers.__len__" 587), (sv "/claim/cut.py" 588), (.int (115) 0), (.int (1) 0), (.int (0) 0), (.int (0) 0), (.int (3) 0), (.ref 210), (.bool true), (.int (276) 0), (.ref 211), .none, (.ref 212), (.ref 213), (.ref 214), (.int (590) 0), (.int (115) 0), (sv "/claim/cut.py" 591)].toArray), [].toArray⟩), (216, ⟨(.type "function"), none, (.func fd216), [].toArray⟩), (217, ⟨(.type "tuple"), none, (.seq [].toArray 0), [].toArray⟩), (219, ⟨(.type "tuple"), none, (.seq [(sv "self" 596), (sv "name" 597), (sv "val" 598)].toArray 0), [].toArray⟩), (220, ⟨(.type "tuple"), none, (.seq [].toArray 0), [].toArray⟩), (222, ⟨(.type "code"), none, (.fields [(sv "__setitem__" 593), (sv "Headers.__setitem__" 594), (sv "/claim/cut.py" 595), (.int (118) 0), (.int (3) 0), (.int (0) 0), (.int (0) 0), (.int (3) 0), (.ref 217), (.bool true), (.int (276) 0), (.ref 218), .none, (.ref 219), (.ref 220), (.ref 221), (.int (599) 0), (.int (118) 0), (sv "/claim/cut.py" 600)].toArray), [].toArray⟩), (223, ⟨(.type "function"), none, (.func fd223), [].toArray⟩), (224, ⟨(.type "tuple"), none, (.seq [].toArray 0), [].toArray⟩), (227, ⟨(.type "code"), none, (.fields [(sv "__delitem__" 602), (sv "Headers.__delitem__" 603), (sv "/claim/cut.py" 604), (.int (122) 0), (.int (2) 0), (.int (0) 0), (.int (0) 0), (.int (3) 0), (.ref 224), (.bool true), (.int (276) 0), (.ref 225), .none, .none, .none, (.ref 226), (.int (605) 0), (.int (122) 0), (sv "/claim/cut.py" 606)].toArray), [].toArray⟩), (228, ⟨(.type "function"), none, (.func fd228), [].toArray⟩), (229, ⟨(.type "tuple"), none, (.seq [].toArray 0), [].toArray⟩), (231, ⟨(.type "tuple"), none, (.seq [(sv "self" 611), (sv "name" 612)].toArray 0), [].toArray⟩), (232, ⟨(.type "tuple"), none, (.seq [].toArray 0), [].toArray⟩), (234, ⟨(.type "code"), none, (.fields [(sv "__getitem__" 608), (sv "Headers.__getitem__" 609), (sv "/claim/cut.py" 610), (.int (126) 0), (.int (2) 0), (.int (0) 0), (.int (0) 0), (.int (3) 0), (.ref 229), (.bool true), (.int (276) 0), (.ref 230), .none, (.ref 231), (.ref 232), (.ref 233), (.int (613) 0), (.int (126) 0), (sv "/claim/cut.py" 614)].toArray), [].toArray⟩), (235, ⟨(.type "function"), none, (.func fd235), [].toArray⟩), (236, ⟨(.type "tuple"), none, (.seq [].toArray 0), [].toArray⟩), (238, ⟨(.type "tuple"), none, (.seq [(sv "self" 619), (sv "name" 620)].toArray 0), [].toArray⟩), (239, ⟨(.type "tuple"), none, (.seq [].toArray 0), [].toArray⟩), (241, ⟨(.type "code"), none, (.fields [(sv "__contains__" 616), (sv "Headers.__contains__" 617), (sv "/claim/cut.py" 618), (.int (129) 0), (.int (2) 0), (.int (0) 0), (.int (0) 0), (.int (3) 0), (.ref 236), (.bool true), (.int (276) 0), (.ref 237), .none, (.ref 238), (.ref 239), (.ref 240), (.int (621) 0), (.int (129) 0), (sv "/claim/cut.py" 622)].toArray), [].toArray⟩), (242, ⟨(.type "function"), none, (.func fd242), [].toArray⟩), (243, ⟨(.type "tuple"), none, (.seq [].toArray 0), [].toArray⟩), (246, ⟨(.type "code"), none, (.fields [(sv "get_all" 624), (sv "Headers.get_all" 625), (sv "/claim/cut.py" 626), (.int (132) 0), (.int (2) 0), (.int (0) 0), (.int (0) 0), (.int (3) 0), (.ref 243), (.bool true), (.int (276) 0), (.ref 244), .none, .none, .none, (.ref 245), (.int (627) 0), (.int (132) 0), (sv "/claim/cut.py" 628)].toArray), [].toArray⟩), (247, ⟨(.type "function"), none, (.func fd247), [].toArray⟩), (248, ⟨(.type "tuple"), none, (.seq [.none].toArray 0), [].toArray⟩), (249, ⟨(.type "tuple"), none, (.seq [].toArray 0), [].toArray⟩), (251, ⟨(.type "tuple"), none, (.seq [(sv "self" 633), (sv "name" 634), (sv "default" 635), (sv "k" 636), (sv "v" 637)].toArray 0), [].toArray⟩), (252, ⟨(.type "tuple"), none, (.seq [].toArray 0), [].toArray⟩), (254, ⟨(.type "code"), none, (.fields [(sv "get" 630), (sv "Headers.get" 631), (sv "/claim/cut.py" 632), (.int (136) 0), (.int (3) 0), (.int (0) 0), (.int (0) 0), (.int (3) 0), (.ref 249), (.bool true), (.int (276) 0), (.ref 250), .none, (.ref 251), (.ref 252), (.ref 253), (.int (638) 0), (.int (136) 0), (sv "/claim/cut.py" 639)].toArray), [].toArray⟩), (255, ⟨(.type "function"), none, (.func fd255), [].toArray⟩), (256, ⟨(.type "tuple"), none, (.seq [].toArray 0), [].toArray⟩), (259, ⟨(.type "code"), none, (.fields [(sv "keys" 641), (sv "Headers.keys" 642), (sv "/claim/cut.py" 643), (.int (143) 0), (.int (1) 0), (.int (0) 0), (.int (0) 0), (.int (3) 0), (.ref 256), (.bool true), (.int (276) 0), (.ref 257), .none, .none, .none, (.ref 258), (.int (644) 0), (.int (143) 0), (sv "/claim/cut.py" 645)].toArray), [].toArray⟩), (260, ⟨(.type "function"), none, (.func fd260), [].toArray⟩), (261, ⟨(.type "tuple"), none, (.seq [].toArray 0), [].toArray⟩), (264, ⟨(.type "code"), none, (.fields [(sv "values" 647), (sv "Headers.values" 648), (sv "/claim/cut.py" 649), (.int (146) 0), (.int (1) 0), (.int (0) 0), (.int (0) 0), (.int (3) 0), (.ref 261), (.bool true), (.int (276) 0), (.ref 262), .none, .none, .none, (.ref 263), (.int (650) 0), (.int (146) 0), (sv "/claim/cut.py" 651)].toArray), [].toArray⟩), (265, ⟨(.type "function"), none, (.func fd265), [].toArray⟩), (266, ⟨(.type "tuple"), none, (.seq [].toArray 0), [].toArray⟩), (268, ⟨(.type "tuple"), none, (.seq [(sv "self" 656)].toArray 0), [].toArray⟩), (269, ⟨(.type "tuple"), none, (.seq [].toArray 0), [].toArray⟩), (271, ⟨(.type "code"), none, (.fields [(sv "items" 653), (sv "Headers.items" 654), (sv "/claim/cut.py" 655), (.int (149) 0), (.int (1) 0), (.int (0) 0), (.int (0) 0), (.int (3) 0), (.ref 266), (.bool true), (.int (276) 0), (.ref 267), .none, (.ref 268), (.ref 269), (.ref 270), (.int (657) 0), (.int (149) 0), (sv "/claim/cut.py" 658)].toArray), [].toArray⟩), (272, ⟨(.type "function"), none, (.func fd272), [].toArray⟩), (273, ⟨(.type "tuple"), none, (.seq [].toArray 0), [].toArray⟩), (275, ⟨(.type "tuple"), none, (.seq [(sv "self" 663)].toArray 0), [].toArray⟩), (276, ⟨(.type "tuple"), none, (.seq [].toArray 0), [].toArray⟩), (278, ⟨(.type "code"), none, (.fields [(sv "__repr__" 660), (sv "Headers.__repr__" 661), (sv "/claim/cut.py" 662), (.int (152) 0), (.int (1) 0), (.int (0) 0), (.int (0) 0), (.int (3) 0), (.ref 273), (.bool true), (.int (276) 0), (.ref 274), .none, (.ref 275), (.ref 276), (.ref 277), (.int (664) 0), (.int (152) 0), (sv "/claim/cut.py" 665)].toArray), [].toArray⟩), (279, ⟨(.type "function"), none, (.func fd279), [].toArray⟩), (280, ⟨(.type "tuple"), none, (.seq [].toArray 0), [].toArray⟩), (283, ⟨(.type "code"), none, (.fields [(sv "__str__" 667), (sv "Headers.__str__" 668), (sv "/claim/cut.py" 669), (.int (155) 0), (.int (1) 0), (.int (0) 0), (.int (0) 0), (.int (3) 0), (.ref 280), (.bool true), (.int (276) 0), (.ref 281), .none, .none, .none, (.ref 282), (.int (670) 0), (.int (155) 0), (sv "/claim/cut.py" 671)].toArray), [].toArray⟩), (284, ⟨(.type "function"), none, (.func fd284), [].toArray⟩), (285, ⟨(.type "tuple"), none, (.seq [].toArray 0), [].toArray⟩), (287, ⟨(.type "tuple"), none, (.seq [(sv "self" 676)].toArray 0), [].toArray⟩), (288, ⟨(.type "tuple"), none, (.seq [].toArray 0), [].toArray⟩), (290, ⟨(.type "code"), none, (.fields [(sv "__bytes__" 673), (sv "Headers.__bytes__" 674), (sv "/claim/cut.py" 675), (.int (158) 0), (.int (1) 0), (.int (0) 0), (.int (0) 0), (.int (3) 0), (.ref 285), (.bool true), (.int (276) 0), (.ref 286), .none, (.ref 287), (.ref 288), (.ref 289), (.int (677) 0), (.int (158) 0), (sv "/claim/cut.py" 678)].toArray), [].toArray⟩), (291, ⟨(.type "function"), none, (.func fd291), [].toArray⟩), (292, ⟨(.type "tuple"), none, (.seq [].toArray 0), [].toArray⟩), (294, ⟨(.type "tuple"), none, (.seq [(sv "self" 683), (sv "name" 684), (sv "value" 685)].toArray 0), [].toArray⟩), (295, ⟨(.type "tuple"), none, (.seq [].toArray 0), [].toArray⟩), (297, ⟨(.type "code"), none, (.fields [(sv "setdefault" 680), (sv "Headers.setdefault" 681), (sv "/claim/cut.py" 682), (.int (161) 0), (.int (3) 0), (.int (0) 0), (.int (0) 0), (.int (3) 0), (.ref 292), (.bool true), (.int (276) 0), (.ref 293), .none, (.ref 294), (.ref 295), (.ref 296), (.int (686) 0), (.int (161) 0), (sv "/claim/cut.py" 687)].toArray), [].toArray⟩), (298, ⟨(.type "function"), none, (.func fd298), [].toArray⟩), (299, ⟨(.type "tuple"), none, (.seq [].toArray 0), [].toArray⟩), (301, ⟨(.type "tuple"), none, (.seq [(sv "self" 692), (sv "_name" 693), (sv "_value" 694), (sv "_params" 695), (sv "parts" 696), (sv "k" 697), (sv "v" 698)].toArray 0), [].toArray⟩), (302, ⟨(.type "tuple"), none, (.seq [].toArray 0), [].toArray⟩), (304, ⟨(.type "code"), none, (.fields [(sv "add_header" 689), (sv "Headers.add_header" 690), (sv "/claim/cut.py" 691), (.int (164) 0), (.int (3) 0), (.int (0) 0), (.int (0) 0), (.int (11) 0), (.ref 299), (.bool true), (.int (276) 0), (.ref 300), .none, (.ref 301), (.ref 302), (.ref 303), (.int (699) 0), (.int (164) 0), (sv "/claim/cut.py" 700)].toArray), [].toArray⟩), (305, ⟨(.type "function"), none, (.func fd305), [].toArray⟩), (306, ⟨(.type "tuple"), none, (.seq [(sv "_headers" 702)].toArray 0), [].toArray⟩), (307, ⟨(.type "dict"), none, (.dict [en P "__module__" 561 (sv "cpy313.wsgiref.headers" 448), en P "__firstlineno__" 565 (.int (95) 564), en P "__init__" 575 (.ref 202), en P "_convert_string_type" 585 (.ref 209), en P "__len__" 592 (.ref 216), en P "__setitem__" 601 (.ref 223), en P "__delitem__" 607 (.ref 228), en P "__getitem__" 615 (.ref 235), en P "__contains__" 623 (.ref 242), en P "get_all" 629 (.ref 247), en P "get" 640 (.ref 255), en P "keys" 646 (.ref 260), en P "values" 652 (.ref 265), en P "items" 659 (.ref 272), en P "__repr__" 666 (.ref 279), en P "__str__" 672 (.ref 284), en P "__bytes__" 679 (.ref 291), en P "setdefault" 688 (.ref 298), en P "add_header" 701 (.ref 305), en P "__static_attributes__" 703 (.ref 306), en P "__dict__" 705 (.ref 309), en P "__weakref__" 707 (.ref 310), en P "__doc__" 708 .none].toArray 4), [].toArray⟩), (308, ⟨(.type "type"), none, (.cls { name := (Str.ofString "Headers"), bases := [(.type "object")], mro := [(.ref 308), (.type "object")], ns := 307, qualname := (Str.ofString "Headers"), hasDict := true, slotNames := [], subclasses := [], abstract := false, collection := none, hasDel := false }), [none, none, (some (sv "Headers" 554)), (some (sv "Headers" 562)), (some (.builtin "object.__new__")), (some (.bool true))].toArray⟩), (313, ⟨(.type "tuple"), none, (.seq [].toArray 0), [].toArray⟩), (315, ⟨(.type "tuple"), none, (.seq [(sv "text" 716), (sv "stream" 717), (sv "_law_piece" 718), (sv "lexer" 719)].toArray 0), [].toArray⟩), (316, ⟨(.type "tuple"), none, (.seq [(sv "text" 720), (sv "gone" 721)].toArray 0), [].toArray⟩), (318, ⟨(.type "code"), none, (.fields [(sv "_law_lexer" 713), (sv "_law_lexer" 714), (sv "/claim/cut.py" 715), (.int (178) 0), (.int (1) 0), (.int (0) 0), (.int (0) 0), (.int (3) 0), (.ref 313), (.bool true), (.int (276) 0), (.ref 314), .none, (.ref 315), (.ref 316), (.ref 317), (.int (722) 0), (.int (178) 0), (sv "/claim/cut.py" 723)].toArray), [].toArray⟩), (319, ⟨(.type "function"), none, (.func fd319), [].toArray⟩), (320, ⟨(.type "tuple"), none, (.seq [].toArray 0), [].toArray⟩), (322, ⟨(.type "tuple"), none, (.seq [(sv "numbers" 728), (sv "cards" 729), (sv "place" 730), (sv "number" 731), (sv "card" 732), (sv "column" 733), (sv "letters" 734)].toArray 0), [].toArray⟩), (323, ⟨(.type "tuple"), none, (.seq [].toArray 0), [].toArray⟩), (325, ⟨(.type "code"), none, (.fields [(sv "_law_cards" 725), (sv "_law_cards" 726), (sv "/claim/cut.py" 727), (.int (190) 0), (.int (1) 0), (.int (0) 0), (.int (0) 0), (.int (3) 0), (.ref 320), (.bool true), (.int (276) 0), (.ref 321), .none, (.ref 322), (.ref 323), (.ref 324), (.int (735) 0), (.int (190) 0), (sv "/claim/cut.py" 736)].toArray), [].toArray⟩), (326, ⟨(.type "function"), none, (.func fd326), [].toArray⟩), (327, ⟨(.type "tuple"), none, (.seq [].toArray 0), [].toArray⟩), (329, ⟨(.type "tuple"), none, (.seq [(sv "card" 741), (sv "column" 742)].toArray 0), [].toArray⟩), (330, ⟨(.type "tuple"), none, (.seq [].toArray 0), [].toArray⟩), (332, ⟨(.type "code"), none, (.fields [(sv "_law_figure" 738), (sv "_law_figure" 739), (sv "/claim/cut.py" 740), (.int (199) 0), (.int (2) 0), (.int (0) 0), (.int (0) 0), (.int (3) 0), (.ref 327), (.bool true), (.int (276) 0), (.ref 328), .none, (.ref 329), (.ref 330), (.ref 331), (.int (743) 0), (.int (199) 0), (sv "/claim/cut.py" 744)].toArray), [].toArray⟩), (333, ⟨(.type "function"), none, (.func fd333), [].toArray⟩), (334, ⟨(.type "tuple"), none, (.seq [].toArray 0), [].toArray⟩), (337, ⟨(.type "code"), none, (.fields [(sv "_law_piles" 746), (sv "_law_piles" 747), (sv "/claim/cut.py" 748), (.int (201) 0), (.int (2) 0), (.int (0) 0), (.int (0) 0), (.int (3) 0), (.ref 334), (.bool true), (.int (276) 0), (.ref 335), .none, .none, .none, (.ref 336), (.int (749) 0), (.int (201) 0), (sv "/claim/cut.py" 750)].toArray), [].toArray⟩), (338, ⟨(.type "function"), none, (.func fd338), [].toArray⟩), (339, ⟨(.type "tuple"), none, (.seq [].toArray 0), [].toArray⟩), (341, ⟨(.type "tuple"), none, (.seq [(sv "lexer" 755), (sv "cards" 756), (sv "column" 757), (sv "dealt" 758), (sv "card" 759), (sv "figure" 760), (sv "turn" 761)].toArray 0), [].toArray⟩), (342, ⟨(.type "tuple"), none, (.seq [].toArray 0), [].toArray⟩), (344, ⟨(.type "code"), none, (.fields [(sv "_law_line" 752), (sv "_law_line" 753), (sv "/claim/cut.py" 754), (.int (211) 0), (.int (3) 0), (.int (0) 0), (.int (0) 0), (.int (3) 0), (.ref 339), (.bool true), (.int (276) 0), (.ref 340), .none, (.ref 341), (.ref 342), (.ref 343), (.int (762) 0), (.int (211) 0), (sv "/claim/cut.py" 763)].toArray), [].toArray⟩), (345, ⟨(.type "function"), none, (.func fd345), [].toArray⟩), (346, ⟨(.type "tuple"), none, (.seq [].toArray 0), [].toArray⟩), (349, ⟨(.type "code"), none, (.fields [(sv "_law_table" 765), (sv "_law_table" 766), (sv "/claim/cut.py" 767), (.int (223) 0), (.int (2) 0), (.int (0) 0), (.int (0) 0), (.int (3) 0), (.ref 346), (.bool true), (.int (276) 0), (.ref 347), .none, .none, .none, (.ref 348), (.int (768) 0), (.int (223) 0), (sv "/claim/cut.py" 769)].toArray), [].toArray⟩), (350, ⟨(.type "function"), none, (.func fd350), [].toArray⟩), (351, ⟨(.type "tuple"), none, (.seq [].toArray 0), [].toArray⟩), (353, ⟨(.type "tuple"), none, (.seq [(sv "card" 774), (sv "column" 775), (sv "kinds" 776), (sv "above" 777), (sv "below" 778), (sv "place" 779), (sv "share" 780)].toArray 0), [].toArray⟩), (354, ⟨(.type "tuple"), none, (.seq [].toArray 0), [].toArray⟩), (356, ⟨(.type "code"), none, (.fields [(sv "_law_fraction" 771), (sv "_law_fraction" 772), (sv "/claim/cut.py" 773), (.int (228) 0), (.int (3) 0), (.int (0) 0), (.int (0) 0), (.int (3) 0), (.ref 351), (.bool true), (.int (276) 0), (.ref 352), .none, (.ref 353), (.ref 354), (.ref 355), (.int (781) 0), (.int (228) 0), (sv "/claim/cut.py" 782)].toArray), [].toArray⟩), (357, ⟨(.type "function"), none, (.func fd357), [].toArray⟩), (358, ⟨(.type "tuple"), none, (.seq [].toArray 0), [].toArray⟩), (361, ⟨(.type "code"), none, (.fields [(sv "_law_due" 784), (sv "_law_due" 785), (sv "/claim/cut.py" 786), (.int (234) 0), (.int (3) 0), (.int (0) 0), (.int (0) 0), (.int (3) 0), (.ref 358), (.bool true), (.int (276) 0), (.ref 359), .none, .none, .none, (.ref 360), (.int (787) 0), (.int (234) 0), (sv "/claim/cut.py" 788)].toArray), [].toArray⟩), (362, ⟨(.type "function"), none, (.func fd362), [].toArray⟩), (363, ⟨(.type "tuple"), none, (.seq [].toArray 0), [].toArray⟩), (366, ⟨(.type "code"), none, (.fields [(sv "law" 790), (sv "law" 791), (sv "/claim/cut.py" 792), (.int (246) 0), (.int (1) 0), (.int (0) 0), (.int (0) 0), (.int (3) 0), (.ref 363), (.bool true), (.int (276) 0), (.ref 364), .none, .none, .none, (.ref 365), (.int (793) 0), (.int (246) 0), (sv "/claim/cut.py" 794)].toArray), [].toArray⟩), (367, ⟨(.type "function"), none, (.func fd367), [].toArray⟩)]
noncomputable def kAddrs : List Addr := [0, 1, 2, 3, 4, 5, 7, 9, 32, 34, 35, 37, 38, 39, 42, 47, 48, 49, 51, 52, 54, 55, 56, 58, 59, 61, 62, 63, 64, 66, 67, 69, 70, 71, 72, 74, 75, 77, 78, 79, 81, 82, 84, 85, 86, 88, 89, 91, 92, 93, 94, 96, 97, 99, 100, 101, 103, 104, 106, 107, 108, 109, 111, 112, 114, 115, 116, 117, 118, 130, 132, 133, 135, 136, 137, 139, 140, 142, 143, 144, 146, 147, 149, 150, 151, 153, 154, 156, 157, 158, 159, 160, 168, 169, 173, 174, 178, 179, 180, 181, 183, 184, 186, 187, 195, 196, 198, 199, 201, 202, 203, 205, 206, 208, 209, 210, 212, 213, 215, 216, 217, 219, 220, 222, 223, 224, 227, 228, 229, 231, 232, 234, 235, 236, 238, 239, 241, 242, 243, 246, 247, 248, 249, 251, 252, 254, 255, 256, 259, 260, 261, 264, 265, 266, 268, 269, 271, 272, 273, 275, 276, 278, 279, 280, 283, 284, 285, 287, 288, 290, 291, 292, 294, 295, 297, 298, 299, 301, 302, 304, 305, 306, 307, 308, 313, 315, 316, 318, 319, 320, 322, 323, 325, 326, 327, 329, 330, 332, 333, 334, 337, 338, 339, 341, 342, 344, 345, 346, 349, 350, 351, 353, 354, 356, 357, 358, 361, 362, 363, 366, 367]
theorem kAddrs_ok (P : Params) : kAddrs = (kFrag P).map (·.1) := by kernel_rfl
noncomputable def kFrag2 (P : Params) : Frag := (314, ⟨.none, none, .fields #[], #[]⟩) :: kFrag P
noncomputable def kAddrs2 : List Addr := 314 :: kAddrs
theorem kAddrs2_ok (P : Params) : kAddrs2 = (kFrag2 P).map (·.1) := by
  show 314 :: kAddrs = 314 :: (kFrag P).map (·.1)
  rw [kAddrs_ok P]
theorem no_tab (P : Params) : (kFrag P).lookup 314 = none := by kernel_rfl
theorem in_rest {P : Params} {h : Heap} (Y : (kFrag2 P).In h) : (kFrag P).In h := by
  intro a o e
  refine Y a o ?_
  unfold kFrag2
  rw [List.lookup_cons]
  cases q : a == 314 with
  | true =>
    have := beq_iff_eq.mp q
    subst this
    rw [no_tab] at e
    cases e
  | false => exact e
theorem gn_law (w : World) : nsIn (kFrag w.params) mainGlobals (Str.ofString "law") = some (some (.ref 367)) := by kernel_rfl
noncomputable def Walk : Prop := ∀ (w : World) (s₀ s₁ : Shared) (args : List WData) (vals : List Value), (kFrag2 w.params).In s₁.heap → s₁.heap.NoLimit → s₁.gens = #[] → PySem.Challenge.rw_tc0040_01.row.claim.pre args = true → WellAll w.params s₁.heap vals args → wpAny (model PySem.Challenge.rw_tc0040_01.row.prog w) callerA (call (.ref 367) vals) (fun v s' => GoodWG PySem.Challenge.rw_tc0040_01.row.claim (classAt s₀.heap) (ExcName.means s₀.heap) args s₁ (Except.ok (Flow.ret v)) s') (fun e s' => GoodWG PySem.Challenge.rw_tc0040_01.row.claim (classAt s₀.heap) (ExcName.means s₀.heap) args s₁ (Except.error e) s') s₁
noncomputable def hdView : Program := { PySem.Challenge.pw_tc0040_01 with main := { PySem.Challenge.pw_tc0040_01.main with body := [0, 1, 3, 4, 6, 8, 9, 10, 12, 14, 15, 16, 17, 18, 19, 20, 21, 22].filterMap fun i => PySem.Challenge.pw_tc0040_01.main.body[i]? } }
noncomputable def hdLoose : List Str := [Str.ofString "_Accumulator", Str.ofString "tspecials", Str.ofString "_name_disallowed_re", Str.ofString "_value_disallowed_re", Str.ofString "_formatparam"]
noncomputable abbrev hdHook : Hook := kHook kFrag2 kAddrs2 kAddrs2_ok
set_option maxHeartbeats 0 in
theorem hdLeftA : ∀ w, (openEnds treeTable PySem.Challenge.rw_tc0040_01.row.prog w 4436).map (openSeen hdView hdLoose (importedModules PySem.Challenge.rw_tc0040_01.row.prog.main.body) (fun s => xlAt hdView [] s && recOk (RowW.records PySem.Challenge.rw_tc0040_01.row.toRowW) s) true) = some (openGood hdView hdLoose) := by
  intro w
  kernel_rfl
set_option maxHeartbeats 0 in
theorem hdLeftB : ∀ w, (openEnds treeTable PySem.Challenge.rw_tc0040_01.row.prog w 4436).map (Hook.obs hdHook) = some (Hook.val hdHook w) := by
  intro w
  kernel_rfl
theorem map_two {α β γ : Type} {o : Option α} {f : α → β} {g : α → γ} {x : β} {y : γ} (a : o.map f = some x) (b : o.map g = some y) : o.map (fun s => (f s, g s)) = some (x, y) := by
  obtain ⟨s, rfl, rfl⟩ := Option.map_eq_some_iff.mp a
  rw [Option.map_some, Option.some.inj b]
theorem hdLeft : LeftO PySem.Challenge.rw_tc0040_01.row.prog hdView hdLoose (fun s => xlAt hdView [] s && recOk (RowW.records PySem.Challenge.rw_tc0040_01.row.toRowW) s) (Hook.obs hdHook) (Hook.val hdHook) 4436 := fun w => map_two (hdLeftA w) (hdLeftB w)
set_option maxHeartbeats 0 in
theorem hdMain (walk : Walk) : PySem.Challenge.rw_tc0040_01.Holds := by
  refine holds_law (by decide +kernel) fun said => ?_
  refine holds_open (q := hdView) (loose := hdLoose) (Xt := fun s => xlAt hdView [] s && recOk (RowW.records PySem.Challenge.rw_tc0040_01.row.toRowW) s) (XP := XL hdView []) (Yf := Hook.obs hdHook) (Ya := Hook.val hdHook) (YP := Hook.says hdHook) (N := 4436) hdLeft (Hook.of hdHook) (Hook.keeps hdHook) (fun s e => xl_of s (Bool.and_eq_true_iff.mp e).1) XL.keeps (by rfl) (by rfl) (by rfl) (fun s e => recFacts_of (Bool.and_eq_true_iff.mp e).2) (by rfl) (by first | assumption | decide +kernel) (by decide +kernel) ⟨rfl, rfl, rfl, rfl, rfl, by decide +kernel⟩ ⟨[.list [.int 3, .int 1]], by decide +kernel, by decide +kernel⟩ ?hc
  intro w s₀ s₁ mg mb G Y fa o pm cd doc dV kV ho hd hcd hD hmg hg args vals as hpre hlay hrd hwl hlo
  have KX := kIn_of Y
  have hfa : mg (Str.ofString "law") = some (.ref 367) := mg_of (in_rest KX) G.T.g (gn_law w)
  have hfa' : fa = 367 := Value.ref.inj (Option.some.inj (hmg.symm.trans hfa))
  subst hfa'
  exact walk w s₀ s₁ args vals KX G.T.nolimit hg hpre hwl
inductive P3 (p1 p2 p3 : Prop) : Prop
  | mk : p1 → p2 → p3 → P3 p1 p2 p3
inductive P4 (p1 p2 p3 p4 : Prop) : Prop
  | mk : p1 → p2 → p3 → p4 → P4 p1 p2 p3 p4
inductive P5 (p1 p2 p3 p4 p5 : Prop) : Prop
  | mk : p1 → p2 → p3 → p4 → p5 → P5 p1 p2 p3 p4 p5
inductive P6 (p1 p2 p3 p4 p5 p6 : Prop) : Prop
  | mk : p1 → p2 → p3 → p4 → p5 → p6 → P6 p1 p2 p3 p4 p5 p6
inductive P7 (p1 p2 p3 p4 p5 p6 p7 : Prop) : Prop
  | mk : p1 → p2 → p3 → p4 → p5 → p6 → p7 → P7 p1 p2 p3 p4 p5 p6 p7
inductive P8 (p1 p2 p3 p4 p5 p6 p7 p8 : Prop) : Prop
  | mk : p1 → p2 → p3 → p4 → p5 → p6 → p7 → p8 → P8 p1 p2 p3 p4 p5 p6 p7 p8
inductive PV where
  | none
  | bool (b : Bool)
  | int (i : Int)
  | str (s : Str)
  | ref (i : Nat)
  | tup (xs : List PV)
  | lst (xs : List PV)
  | raw (v : Value)
structure Rho where
  ents : List (List Addr)
  rsv : List Addr
noncomputable def Rho.flatten (ρ : Rho) : List Addr := ρ.ents.flatten
noncomputable def Rho.own (ρ : Rho) : List Addr := ρ.ents.flatten ++ ρ.rsv
noncomputable def headAt (ρ : Rho) (i : Nat) : Option Addr := match ρ.ents[i]? with
  | some (a :: _) => some a
  | _ => none
mutual
inductive RV (h : Heap) (ρ : Rho) : Value → PV → Prop
  | none : RV h ρ .none .none
  | bool (b : Bool) : RV h ρ (.bool b) (.bool b)
  | int (i : Int) (t : Tok) : RV h ρ (.int i t) (.int i)
  | str (s : Str) (t : Tok) : RV h ρ (.str s t) (.str s)
  | ref {a : Addr} {i : Nat} : headAt ρ i = some a → RV h ρ (.ref a) (.ref i)
  | tup {a : Addr} {vs : List Value} {xs : List PV} : a ∉ ρ.own → h.IsTuple a vs.toArray → RVs h ρ vs xs → RV h ρ (.ref a) (.tup xs)
  | lst {a : Addr} {vs : List Value} {xs : List PV} : a ∉ ρ.own → h.PlainList a vs.toArray → RVs h ρ vs xs → RV h ρ (.ref a) (.lst xs)
  | raw (v : Value) : RV h ρ v (.raw v)
inductive RVs (h : Heap) (ρ : Rho) : List Value → List PV → Prop
  | nil : RVs h ρ [] []
  | cons {v : Value} {p : PV} {vs : List Value} {ps : List PV} : RV h ρ v p → RVs h ρ vs ps → RVs h ρ (v :: vs) (p :: ps)
end
theorem spr {α β : Type} {a c : α} {b d : β} (e : some (a, b) = some (c, d)) : a = c ∧ b = d := Prod.mk.inj (Option.some.inj e)
theorem nos {α : Type} {a : α} (e : none = some a) : False := nomatch e
noncomputable def pik {α : Type} (P : α → Prop) : Option α := open Classical in if h : ∃ y, P y then some h.choose else none
theorem Zq {α : Type} {P : α → Prop} {y : α} (e : pik P = some y) : P y := by
  unfold pik at e
  split at e
  · cases e; exact Exists.choose_spec _
  · cases e
theorem pik_of {α : Type} {P : α → Prop} {y : α} (h : P y) (u : ∀ z, P z → z = y) : pik P = some y := by
  unfold pik
  rw [dif_pos ⟨y, h⟩]
  exact congrArg some (u _ (Exists.choose_spec (⟨y, h⟩ : ∃ y, P y)))
noncomputable def pikB (P : Prop) : Bool := open Classical in decide P
theorem pikB_inv {P : Prop} (e : pikB P = true) : P := @of_decide_eq_true P (Classical.propDecidable P) e
theorem pikB_of {P : Prop} (h : P) : pikB P = true := @decide_eq_true P (Classical.propDecidable P) h
noncomputable def RVI (h : Heap) (ρ : Rho) (v : Value) : PV → Prop
  | .none => ∃ _ : Unit, v = .none
  | .bool b => ∃ _ : Unit, v = .bool b
  | .int i => ∃ t, v = .int i t
  | .str x => ∃ t, v = .str x t
  | .ref i => ∃ a, headAt ρ i = some a ∧ v = .ref a
  | .tup xs => ∃ a vs, P4 (a ∉ ρ.own) (h.IsTuple a vs.toArray) (RVs h ρ vs xs) (v = .ref a)
  | .lst xs => ∃ a vs, P4 (a ∉ ρ.own) (h.PlainList a vs.toArray) (RVs h ρ vs xs) (v = .ref a)
  | .raw w => ∃ _ : Unit, v = w
theorem RV.inv {h : Heap} {ρ : Rho} : ∀ {v : Value} {p : PV}, RV h ρ v p → RVI h ρ v p
  | _, _, .none => ⟨(), rfl⟩
  | _, _, .bool _ => ⟨(), rfl⟩
  | _, _, .int _ t => ⟨t, rfl⟩
  | _, _, .str _ t => ⟨t, rfl⟩
  | _, _, .ref hd => ⟨_, hd, rfl⟩
  | _, _, .tup a b c => ⟨_, _, a, b, c, rfl⟩
  | _, _, .lst a b c => ⟨_, _, a, b, c, rfl⟩
  | _, _, .raw _ => ⟨(), rfl⟩
noncomputable def RVsI (h : Heap) (ρ : Rho) (vs : List Value) : List PV → Prop
  | [] => vs = []
  | p :: ps => ∃ v vs', P3 (vs = v :: vs') (RV h ρ v p) (RVs h ρ vs' ps)
theorem RVs.inv {h : Heap} {ρ : Rho} : ∀ {vs : List Value} {ps : List PV}, RVs h ρ vs ps → RVsI h ρ vs ps
  | _, _, .nil => rfl
  | _, _, .cons a b => ⟨_, _, rfl, a, b⟩
inductive RVo (h : Heap) (ρ : Rho) : Option Value → Option PV → Prop
  | none : RVo h ρ .none .none
  | some {v : Value} {p : PV} : RV h ρ v p → RVo h ρ (.some v) (.some p)
structure Carry (h : Heap) (ρ : Rho) (h' : Heap) (ρ' : Rho) : Prop where
  keep : ∀ a o, h.get? a = some o → a ∉ ρ.own → h'.get? a = some o ∧ a ∉ ρ'.own
  head : ∀ i a, headAt ρ i = some a → headAt ρ' i = some a
theorem RV.carry {ρ ρ' : Rho} {h h' : Heap} (g : Carry h ρ h' ρ') {v : Value} {p : PV} (r : RV h ρ v p) : RV h' ρ' v p :=
  RV.rec (motive_1 := fun v p _ => RV h' ρ' v p) (motive_2 := fun vs ps _ => RVs h' ρ' vs ps) .none (fun b => .bool b) (fun i t => .int i t) (fun s t => .str s t) (fun e => .ref (g.head _ _ e))
    (fun na e _ r => .tup (g.keep _ _ e.choose_spec.1 na).2 ⟨e.choose, (g.keep _ _ e.choose_spec.1 na).1, e.choose_spec.2⟩ r) (fun na e _ r => .lst (g.keep _ _ e.choose_spec na).2 ⟨e.choose, (g.keep _ _ e.choose_spec na).1⟩ r) (fun v => .raw v) .nil (fun _ _ x y => .cons x y) r
theorem RVs.carry {ρ ρ' : Rho} {h h' : Heap} (g : Carry h ρ h' ρ') {vs : List Value} {ps : List PV} (r : RVs h ρ vs ps) : RVs h' ρ' vs ps := by
  induction ps generalizing vs with
  | nil => obtain rfl := r.inv; exact .nil
  | cons p ps ih => obtain ⟨_, _, rfl, x, y⟩ := r.inv; exact .cons (x.carry g) (ih y)
theorem RVo.carry {ρ ρ' : Rho} {h h' : Heap} (g : Carry h ρ h' ρ') {v : Option Value} {p : Option PV} : RVo h ρ v p → RVo h' ρ' v p
  | .none => .none
  | .some x => .some (x.carry g)
structure Grow (fr : List Addr) (ρ : Rho) (h : Heap) (ρ' : Rho) (h' : Heap) : Prop where
  keep : ∀ a o, h.get? a = some o → a ∉ fr → a ∉ ρ.flatten → h'.get? a = some o
  pre : ρ.ents <+: ρ'.ents
  rsv : ρ'.rsv = ρ.rsv
  new : ∀ a ∈ ρ'.flatten, a ∈ ρ.flatten ∨ a ∈ fr ∨ h.get? a = none
theorem Grow.refl {fr : List Addr} {ρ : Rho} {h : Heap} : Grow fr ρ h ρ h := ⟨fun _ _ e _ _ => e, List.prefix_rfl, rfl, fun _ m => .inl m⟩
theorem Grow.trans {fr : List Addr} {ρ ρ₁ ρ₂ : Rho} {h h₁ h₂ : Heap} (x : Grow fr ρ h ρ₁ h₁) (y : Grow fr ρ₁ h₁ ρ₂ h₂) : Grow fr ρ h ρ₂ h₂ := by
  refine ⟨fun a o e nf nr => ?_, x.pre.trans y.pre, y.rsv.trans x.rsv, fun a m => ?_⟩
  · have e1 := x.keep a o e nf nr
    refine y.keep a o e1 nf fun m => ?_
    rcases x.new a m with m | m | m
    · exact nr m
    · exact nf m
    · rw [e] at m; cases m
  · rcases y.new a m with m | m | m
    · exact x.new a m
    · exact .inr (.inl m)
    · by_cases hf : a ∈ fr
      · exact .inr (.inl hf)
      by_cases hr : a ∈ ρ.flatten
      · exact .inl hr
      refine .inr (.inr ?_)
      cases q : h.get? a with
      | none => rfl
      | some o => rw [x.keep a o q hf hr] at m; cases m
theorem Grow.through {fr fr' wr : List Addr} {ρ ρ₁ ρ₂ ρ₃ : Rho} {h h₁ h₂ h₃ h₄ : Heap} (g₁ : Grow fr ρ h ρ₁ h₁) (k : ∀ a o, h₁.get? a = some o → h₂.get? a = some o) (e2 : ρ₂.ents = ρ₁.ents) (g : Grow fr' ρ₂ h₂ ρ₃ h₃)
    (sub : ∀ a ∈ fr', a ∈ fr ∨ h.get? a = none) (kp : ∀ a o, h₃.get? a = some o → a ∉ wr → h₄.get? a = some o) (wsub : ∀ a ∈ wr, h.get? a = none) : Grow fr ρ h ⟨ρ₃.ents, ρ.rsv⟩ h₄ := by
  have f2 : ρ₂.flatten = ρ₁.flatten := by unfold Rho.flatten; rw [e2]
  refine ⟨fun a o e nf nr => ?_, g₁.pre.trans (by rw [← e2]; exact g.pre), rfl, fun a m => ?_⟩
  · have e1 := g₁.keep a o e nf nr
    refine kp a o (g.keep a o (k a o e1) (fun m => ?_) fun m => ?_) fun m => ?_
    · rcases sub a m with m | m
      · exact nf m
      · rw [e] at m; cases m
    · rw [f2] at m
      rcases g₁.new a m with z | z | z
      · exact nr z
      · exact nf z
      · rw [e] at z; cases z
    · rw [wsub a m] at e; cases e
  · replace m : a ∈ ρ₃.flatten := m
    rcases g.new a m with z | z | z
    · rw [f2] at z; exact g₁.new a z
    · rcases sub a z with z | z
      · exact .inr (.inl z)
      · exact .inr (.inr z)
    · by_cases hf : a ∈ fr
      · exact .inr (.inl hf)
      by_cases hr : a ∈ ρ.flatten
      · exact .inl hr
      refine .inr (.inr ?_)
      cases q : h.get? a with
      | none => rfl
      | some o => rw [k a o (g₁.keep a o q hf hr)] at z; cases z
theorem Grow.wider {fr fr' : List Addr} {ρ ρ' : Rho} {h h' : Heap} (x : Grow fr ρ h ρ' h') (s : ∀ a ∈ fr, a ∈ fr') : Grow fr' ρ h ρ' h' :=
  ⟨fun a o e nf nr => x.keep a o e (fun m => nf (s a m)) nr, x.pre, x.rsv, fun a m => (x.new a m).imp id fun z => z.imp (s a) id⟩
theorem headAt_prefix {ρ ρ' : Rho} {i : Nat} {a : Addr} (p : ρ.ents <+: ρ'.ents) (e : headAt ρ i = some a) : headAt ρ' i = some a := by
  obtain ⟨t, p⟩ := p
  unfold headAt at e ⊢
  rw [← p]
  by_cases hi : i < ρ.ents.length
  · rw [List.getElem?_append_left hi]; exact e
  · rw [List.getElem?_eq_none (Nat.le_of_not_lt hi)] at e; cases e
theorem Grow.carry {fr : List Addr} {ρ ρ' : Rho} {h h' : Heap} (g : Grow fr ρ h ρ' h') (L : ∀ a ∈ fr, a ∈ ρ.rsv) : Carry h ρ h' ρ' := by
  refine ⟨fun a o e na => ?_, fun i a e => headAt_prefix g.pre e⟩
  have n1 : a ∉ ρ.flatten := fun m => na (List.mem_append_left _ m)
  have n2 : a ∉ ρ.rsv := fun m => na (List.mem_append_right _ m)
  refine ⟨g.keep a o e (fun m => n2 (L a m)) n1, fun m => ?_⟩
  rcases List.mem_append.mp m with m | m
  · rcases g.new a m with m | m | m
    · exact n1 m
    · exact n2 (L a m)
    · rw [e] at m; cases m
  · rw [g.rsv] at m; exact n2 m
theorem RV.grow {fr : List Addr} {ρ ρ' : Rho} {h h' : Heap} (g : Grow fr ρ h ρ' h') (L : ∀ a ∈ fr, a ∈ ρ.rsv) {v : Value} {p : PV} (r : RV h ρ v p) : RV h' ρ' v p := r.carry (g.carry L)
theorem RVs.grow {fr : List Addr} {ρ ρ' : Rho} {h h' : Heap} (g : Grow fr ρ h ρ' h') (L : ∀ a ∈ fr, a ∈ ρ.rsv) {v : List Value} {p : List PV} (r : RVs h ρ v p) : RVs h' ρ' v p := r.carry (g.carry L)
theorem RVo.grow {fr : List Addr} {ρ ρ' : Rho} {h h' : Heap} (g : Grow fr ρ h ρ' h') (L : ∀ a ∈ fr, a ∈ ρ.rsv) {v : Option Value} {p : Option PV} (r : RVo h ρ v p) : RVo h' ρ' v p := r.carry (g.carry L)
theorem RVs.length {h : Heap} {ρ : Rho} {vs : List Value} {ps : List PV} (r : RVs h ρ vs ps) : vs.length = ps.length := by
  induction vs generalizing ps with
  | nil => cases r; rfl
  | cons v vs ih => cases r with | cons _ y => simp [ih y]
theorem RVs.get {h : Heap} {ρ : Rho} {vs : List Value} {ps : List PV} (r : RVs h ρ vs ps) {i : Nat} {p : PV} (e : ps[i]? = some p) : ∃ v, vs[i]? = some v ∧ RV h ρ v p := by
  induction vs generalizing ps i with
  | nil => cases r; simp at e
  | cons v vs ih =>
    cases r with
    | cons x y =>
      cases i with
      | zero => simp at e; subst e; exact ⟨v, by simp, x⟩
      | succ i => simp at e; obtain ⟨u, a, b⟩ := ih y e; exact ⟨u, by simpa using a, b⟩
theorem RVs.append {h : Heap} {ρ : Rho} {vs ws : List Value} {ps qs : List PV} (r : RVs h ρ vs ps) (q : RVs h ρ ws qs) : RVs h ρ (vs ++ ws) (ps ++ qs) := by
  induction vs generalizing ps with
  | nil => cases r; exact q
  | cons v vs ih => cases r with | cons x y => exact .cons x (ih y)
theorem RVs.take {h : Heap} {ρ : Rho} {vs : List Value} {ps : List PV} (r : RVs h ρ vs ps) (n : Nat) : RVs h ρ (vs.take n) (ps.take n) := by
  induction vs generalizing ps n with
  | nil => cases r; simp; exact .nil
  | cons v vs ih => cases r with | cons x y => cases n with | zero => exact .nil | succ n => exact .cons x (ih y n)
theorem RVs.drop {h : Heap} {ρ : Rho} {vs : List Value} {ps : List PV} (r : RVs h ρ vs ps) (n : Nat) : RVs h ρ (vs.drop n) (ps.drop n) := by
  induction vs generalizing ps n with
  | nil => cases r; simp; exact .nil
  | cons v vs ih => cases r with | cons x y => cases n with | zero => exact .cons x y | succ n => exact ih y n
theorem RVs.set {h : Heap} {ρ : Rho} {vs : List Value} {ps : List PV} (r : RVs h ρ vs ps) {i : Nat} {v : Value} {p : PV} (x : RV h ρ v p) : RVs h ρ (vs.set i v) (ps.set i p) := by
  induction vs generalizing ps i with
  | nil => cases r; exact .nil
  | cons u vs ih => cases r with | cons a y => cases i with | zero => exact .cons x y | succ n => exact .cons a (ih y)
inductive AO where
  | list (xs : List PV)
  | inst (C : Addr) (kvs : List (Str × PV))
  | linst (C : Addr) (kvs : List (Str × PV)) (xs : List PV)
  | cell (v : Option PV)
  | meth (f : Value) (self : PV)
  | clo (tm : FuncData) (names : List Str) (vals : List (Option PV))
  | fn (tm : FuncData) (cl : List (Str × Addr))
  | tab (P : Addr) (pos : Pos) (q : Str)
  | citer (m z : PV)
  | cdone
  | dict1 (n : Nat) (o : Option (Int × Str × PV))
  | junk
noncomputable def NsRel (h : Heap) (ρ : Rho) (d : Addr) (names : List Str) (vals : List (Option PV)) : Prop := ∃ m, P3 (h.Ns d m) ((∀ (i : Nat) (x : Str), names[i]? = some x → RVo h ρ (m x) ((vals[i]?).join))) ((∀ x, x ∉ names → m x = none))
theorem NsRel.carry {ρ ρ' : Rho} {h h' : Heap} (g : Carry h ρ h' ρ') {d : Addr} {names : List Str} {vals : List (Option PV)} (x : NsRel h ρ d names vals)
    (e : ∀ o, h.get? d = some o → h'.get? d = some o) : NsRel h' ρ' d names vals := by
  obtain ⟨m, a, b, c⟩ := x
  exact ⟨m, a.at' e, fun i y z => (b i y z).carry g, c⟩
inductive EntsR (h : Heap) (ρ : Rho) : List DictEntry → List (Str × PV) → Prop
  | nil : EntsR h ρ [] []
  | cons {hs : Int} {x : Str} {t : Tok} {v : Value} {p : PV} {es : List DictEntry} {kvs : List (Str × PV)} : RV h ρ v p → EntsR h ρ es kvs → EntsR h ρ (⟨hs, .str x t, v⟩ :: es) ((x, p) :: kvs)
theorem EntsR.carry {ρ ρ' : Rho} {h h' : Heap} (g : Carry h ρ h' ρ') {es : List DictEntry} {kvs : List (Str × PV)} (r : EntsR h ρ es kvs) : EntsR h' ρ' es kvs := by
  induction r with
  | nil => exact .nil
  | cons x _ ih => exact .cons (x.carry g) ih
noncomputable def FnObj (h : Heap) (ρ : Rho) (f : Addr) (tm : FuncData) (cl : List (Str × Addr)) : Prop := ∃ T c' oc vc q, P5 (h.get? f = some { cls := .type "function", data := .func { tm with closure := cl, closureTuple := T, code := .ref c' } }) (c' ∉ ρ.own) (h.get? c' = some oc) (oc.data = .fields vc) (vc[1]? = some (.str tm.qualname q))
theorem FnObj.carry {ρ ρ' : Rho} {h h' : Heap} (g : Carry h ρ h' ρ') {f : Addr} {tm : FuncData} {cl : List (Str × Addr)} (x : FnObj h ρ f tm cl) (e : ∀ o, h.get? f = some o → h'.get? f = some o) : FnObj h' ρ' f tm cl := by
  obtain ⟨T, c', oc, vc, q, x1, y1, y2, y3, y4⟩ := x
  exact ⟨T, c', oc, vc, q, e _ x1, (g.keep _ _ y2 y1).2, (g.keep _ _ y2 y1).1, y3, y4⟩
inductive D1 (h : Heap) (ρ : Rho) : Option (Int × Str × PV) → List DictEntry → Prop
  | none : D1 h ρ none []
  | some {H : Int} {x : Str} {t : Tok} {v : Value} {p : PV} : RV h ρ v p → D1 h ρ (some (H, x, p)) [⟨H, .str x t, v⟩]
noncomputable def RO (h : Heap) (ρ : Rho) (as : List Addr) : AO → Prop
  | .list xs => ∃ a vs n, P3 (as = [a]) (h.get? a = some { cls := .type "list", data := .seq vs n }) (RVs h ρ vs.toList xs)
  | .inst C kvs => ∃ a d es n, P4 (as = [a, d]) (h.get? a = some { cls := .ref C, dict := some d, data := .plain }) (h.get? d = some (W.dictOf es n)) (EntsR h ρ es kvs)
  | .linst C kvs xs => ∃ a d vs m es n, P5 (as = [a, d]) (h.get? a = some { cls := .ref C, dict := some d, data := .seq vs m }) (RVs h ρ vs.toList xs) (h.get? d = some (W.dictOf es n)) (EntsR h ρ es kvs)
  | .cell v => ∃ a o u, P4 (as = [a]) (h.get? a = some o) (o.data = .cell u) (RVo h ρ u v)
  | .meth f self => ∃ a u, P3 (as = [a]) (h.get? a = some { cls := .type "method", data := .fields #[f, u] }) (RV h ρ u self)
  | .clo tm names vals => ∃ f cs, as = f :: cs ∧ (cs.length = names.length ∧ vals.length = names.length) ∧ FnObj h ρ f tm (names.zip cs) ∧ ∀ (i : Nat) (d : Addr), cs[i]? = some d → ∃ o u, P3 (h.get? d = some o) (o.data = .cell u) (RVo h ρ u ((vals[i]?).join))
  | .fn tm cl => ∃ f, as = [f] ∧ FnObj h ρ f tm cl
  | .tab P pos q => ∃ ps, P4 (as = [P]) (h.get? P = some { cls := .none, data := .fields ps }) (TriplesOk ps.toList) ((codeAmong pos ps.toList = none ∨ ∃ c' oc vc t, c' ∉ ρ.own ∧ codeAmong pos ps.toList = some (.ref c') ∧
      h.get? c' = some oc ∧ oc.data = .fields vc ∧ vc[1]? = some (.str q t)))
  | .citer m z => ∃ a u v, P4 (as = [a]) (h.get? a = some { cls := .type "callable_iterator", data := .fields #[u, v, .bool false] }) (RV h ρ u m) (RV h ρ v z)
  | .cdone => ∃ a u v, as = [a] ∧ h.get? a = some { cls := .type "callable_iterator", data := .fields #[u, v, .bool true] }
  | .dict1 n o => ∃ a es, P3 (as = [a]) (h.get? a = some (W.dictOf es n)) (D1 h ρ o es)
  | .junk => True
theorem RO.carry {ρ ρ' : Rho} {h h' : Heap} (g : Carry h ρ h' ρ') {as : List Addr} (e : ∀ a ∈ as, ∀ o, h.get? a = some o → h'.get? a = some o) : ∀ {ao : AO}, RO h ρ as ao → RO h' ρ' as ao
  | .list xs, x => by
    obtain ⟨a, vs, n, rfl, x, y⟩ := x
    exact ⟨a, vs, n, rfl, e a (by simp) _ x, y.carry g⟩
  | .inst C kvs, x => by
    obtain ⟨a, d, es, n, rfl, x, y, z⟩ := x
    exact ⟨a, d, es, n, rfl, e a (by simp) _ x, e d (by simp) _ y, z.carry g⟩
  | .linst C kvs xs, x => by
    obtain ⟨a, d, vs, m, es, n, rfl, x, y, z, w⟩ := x
    exact ⟨a, d, vs, m, es, n, rfl, e a (by simp) _ x, y.carry g, e d (by simp) _ z, w.carry g⟩
  | .cell v, x => by
    obtain ⟨a, o, u, rfl, x, y, z⟩ := x
    exact ⟨a, o, u, rfl, e a (by simp) _ x, y, z.carry g⟩
  | .meth f self, x => by
    obtain ⟨a, u, rfl, x, y⟩ := x
    exact ⟨a, u, rfl, e a (by simp) _ x, y.carry g⟩
  | .clo tm names vals, x => by
    obtain ⟨f, cs, rfl, l, x, y⟩ := x
    refine ⟨f, cs, rfl, l, x.carry g (e f (by simp)), fun i d hd => ?_⟩
    obtain ⟨o, u, a, b, c⟩ := y i d hd
    exact ⟨o, u, e d (List.mem_cons_of_mem _ (List.mem_of_getElem? hd)) _ a, b, c.carry g⟩
  | .fn tm cl, x => by
    obtain ⟨f, rfl, x⟩ := x
    exact ⟨f, rfl, x.carry g (e f (by simp))⟩
  | .tab P pos q, x => by
    obtain ⟨ps, rfl, x, y, z⟩ := x
    refine ⟨ps, rfl, e P (by simp) _ x, y, z.imp id ?_⟩
    rintro ⟨c', oc, vc, t, n, a, b, c, d⟩
    exact ⟨c', oc, vc, t, (g.keep _ _ b n).2, a, (g.keep _ _ b n).1, c, d⟩
  | .citer m z, x => by
    obtain ⟨a, u, v, rfl, x, y, z⟩ := x
    exact ⟨a, u, v, rfl, e a (by simp) _ x, y.carry g, z.carry g⟩
  | .cdone, x => by
    obtain ⟨a, u, v, rfl, x⟩ := x
    exact ⟨a, u, v, rfl, e a (by simp) _ x⟩
  | .dict1 n o, x => by
    obtain ⟨a, es, rfl, x, y⟩ := x
    exact ⟨a, es, rfl, e a (by simp) _ x, match y with | .none => .none | .some r => .some (r.carry g)⟩
  | .junk, _ => trivial
structure RelS (K : Frag) (ρ : Rho) (st : List AO) (h : Heap) : Prop where
  len : ρ.ents.length = st.length
  objs : ∀ (i : Nat) (as : List Addr) (ao : AO), ρ.ents[i]? = some as → st[i]? = some ao → RO h ρ as ao
  nodup : ρ.own.Nodup
  apart : ∀ a ∈ ρ.own, K.lookup a = none ∧ a ≠ cStatics ∧ ∃ o, h.get? a = some o
  top : K.In h
  nolim : h.NoLimit
theorem Yy {ρ : Rho} {i : Nat} {as : List Addr} (e : ρ.ents[i]? = some as) : ∀ a ∈ as, a ∈ ρ.flatten := fun a m => List.mem_flatten.mpr ⟨as, List.mem_of_getElem? e, m⟩
theorem Yv {ρ : Rho} {a : Addr} (m : a ∈ ρ.flatten) : a ∈ ρ.own := List.mem_append_left _ m
theorem Yb {ρ : Rho} {a : Addr} (m : a ∈ ρ.rsv) : a ∈ ρ.own := List.mem_append_right _ m
theorem apart_at {ρ : Rho} (n : ρ.own.Nodup) {i j : Nat} {as bs : List Addr} (e : ρ.ents[i]? = some as) (e' : ρ.ents[j]? = some bs) (ne : i ≠ j) : ∀ a ∈ as, a ∉ bs := by
  intro a ma mb
  replace n := (List.nodup_append.mp n).1
  rw [List.nodup_iff_pairwise_ne, List.pairwise_flatten] at n
  obtain ⟨-, q⟩ := n
  have hi : i < ρ.ents.length := (List.getElem?_eq_some_iff.mp e).1
  have hj : j < ρ.ents.length := (List.getElem?_eq_some_iff.mp e').1
  have ei := (List.getElem?_eq_some_iff.mp e).2
  have ej := (List.getElem?_eq_some_iff.mp e').2
  rw [List.pairwise_iff_getElem] at q
  rcases Nat.lt_or_gt_of_ne ne with l | l
  · exact q i j hi hj l a (ei ▸ ma) a (ej ▸ mb) rfl
  · exact q j i hj hi l a (ej ▸ mb) a (ei ▸ ma) rfl
theorem rsv_apart {ρ : Rho} (n : ρ.own.Nodup) {a : Addr} (m : a ∈ ρ.rsv) : a ∉ ρ.flatten := fun q => (List.nodup_append.mp n).2.2 a q a m rfl
section
variable {K : Frag} {ρ ρ' : Rho} {st : List AO} {h h' : Heap}
theorem RelS.notK (R : RelS K ρ st h) {a : Addr} {o : Obj} (e : K.lookup a = some o) : a ∉ ρ.own := fun m => by
  have := (R.apart a m).1
  rw [e] at this; cases this
theorem RelS.statics (R : RelS K ρ st h) : cStatics ∉ ρ.own := fun m => (R.apart _ m).2.1 rfl
theorem noFr {ρ : Rho} : ∀ a ∈ ([] : List Addr), a ∈ ρ.rsv := fun _ m => nomatch m
theorem RelS.wrote (R : RelS K ρ st h) {wr : List Addr} (sub : ∀ a ∈ wr, a ∈ ρ.rsv) (k : ∀ a o, h.get? a = some o → a ∉ wr → h'.get? a = some o) (lv : ∀ a ∈ wr, ∃ o, h'.get? a = some o) : RelS K ρ st h' ∧ Grow wr ρ h ρ h' := by
  have g : Grow wr ρ h ρ h' := ⟨fun a o e n _ => k a o e n, List.prefix_rfl, rfl, fun _ m => .inl m⟩
  refine ⟨⟨R.len, fun i as ao e e' => (R.objs i as ao e e').carry (g.carry sub) fun a m o q => k a o q fun z => rsv_apart R.nodup (sub a z) (Yy e a m), R.nodup, fun a m => ?_, fun a o e => k a o (R.top a o e) fun z => R.notK e (Yb (sub a z)), ?_⟩, g⟩
  · obtain ⟨x, y, o, z⟩ := R.apart a m
    refine ⟨x, y, ?_⟩
    by_cases m' : a ∈ wr
    · exact lv a m'
    · exact ⟨o, k a o z m'⟩
  · obtain ⟨mc, p, q⟩ := R.nolim
    exact ⟨mc, p.at' fun o z => k _ o z fun m => R.statics (Yb (sub _ m)), q⟩
theorem RelS.ext (R : RelS K ρ st h) (k : ∀ a o, h.get? a = some o → h'.get? a = some o) : RelS K ρ st h' ∧ Grow [] ρ h ρ h' :=
  R.wrote noFr (fun a o e _ => k a o e) fun _ m => nomatch m
noncomputable def Rho.enter (ρ : Rho) (wr : List Addr) : Rho := ⟨ρ.ents, wr ++ ρ.rsv⟩
theorem RelS.enter (R : RelS K ρ st h) {wr : List Addr} (k : ∀ a o, h.get? a = some o → h'.get? a = some o) (fresh : ∀ a ∈ wr, h.get? a = none) (lv : ∀ a ∈ wr, ∃ o, h'.get? a = some o) (nd : wr.Nodup) :
    RelS K (ρ.enter wr) st h' ∧ Carry h ρ h' (ρ.enter wr) := by
  have nn : ∀ a ∈ wr, a ∉ ρ.own := fun a m q => by obtain ⟨_, _, o, z⟩ := R.apart a q; rw [fresh a m] at z; cases z
  have mem : ∀ a, a ∈ (ρ.enter wr).own → a ∈ wr ∨ a ∈ ρ.own := fun a m => by
    rcases List.mem_append.mp m with m | m
    · exact .inr (Yv m)
    · rcases List.mem_append.mp m with m | m
      · exact .inl m
      · exact .inr (Yb m)
  have g : Carry h ρ h' (ρ.enter wr) := ⟨fun a o e na => ⟨k a o e, fun m => (mem a m).elim (fun m => by rw [fresh a m] at e; cases e) na⟩, fun i a e => e⟩
  refine ⟨⟨R.len, fun i as ao e e' => (R.objs i as ao e e').carry g fun a _ o q => k a o q, ?_, fun a m => ?_, R.top.keeps k, R.nolim.keeps k⟩, g⟩
  · have n := R.nodup
    unfold Rho.own at n
    rw [List.nodup_append] at n
    show (ρ.ents.flatten ++ (wr ++ ρ.rsv)).Nodup
    rw [List.nodup_append, List.nodup_append]
    refine ⟨n.1, ⟨nd, n.2.1, fun a m b m' q => nn a m (q ▸ Yb m')⟩, fun a m b m' q => ?_⟩
    rcases List.mem_append.mp m' with m' | m'
    · exact nn b m' (q ▸ Yv m)
    · exact n.2.2 a m b m' q
  · rcases mem a m with m | m
    · refine ⟨?_, ?_, lv a m⟩
      · cases q : K.lookup a with
        | none => rfl
        | some o => have := R.top a o q; rw [fresh a m] at this; cases this
      · rintro rfl
        obtain ⟨mc, ⟨o, _, _, z, _⟩, _⟩ := R.nolim
        rw [fresh _ m] at z; cases z
    · obtain ⟨x, y, o, z⟩ := R.apart a m
      exact ⟨x, y, o, k a o z⟩
theorem RelS.drop (R : RelS K ρ st h) {r' wr : List Addr} (nd : r'.Nodup) (sub : ∀ a ∈ r', a ∈ ρ.rsv) (wsub : ∀ a ∈ wr, a ∈ ρ.rsv ∧ a ∉ r') (k : ∀ a o, h.get? a = some o → a ∉ wr → h'.get? a = some o) :
    RelS K ⟨ρ.ents, r'⟩ st h' ∧ Carry h ρ h' ⟨ρ.ents, r'⟩ := by
  have up : ∀ a, a ∈ (⟨ρ.ents, r'⟩ : Rho).own → a ∈ ρ.own := fun a m => by
    rcases List.mem_append.mp m with m | m
    · exact Yv (ρ := ρ) m
    · exact Yb (sub a m)
  have n := R.nodup
  unfold Rho.own at n
  rw [List.nodup_append] at n
  have apart : ∀ a ∈ (⟨ρ.ents, r'⟩ : Rho).own, a ∉ wr := fun a m q => by
    rcases List.mem_append.mp m with m | m
    · exact n.2.2 a m a (wsub a q).1 rfl
    · exact (wsub a q).2 m
  have g : Carry h ρ h' ⟨ρ.ents, r'⟩ := ⟨fun a o e na => ⟨k a o e fun m => na (Yb (wsub a m).1), fun m => na (up a m)⟩, fun i a e => e⟩
  refine ⟨⟨R.len, fun i as ao e e' => (R.objs i as ao e e').carry g fun a m o q => k a o q (apart a (Yv (ρ := ⟨ρ.ents, r'⟩) (Yy (ρ := ⟨ρ.ents, r'⟩) e a m))), ?_, fun a m => ?_, fun a o e => k a o (R.top a o e) fun z => R.notK e (Yb (wsub a z).1), ?_⟩, g⟩
  · unfold Rho.own
    rw [List.nodup_append]
    exact ⟨n.1, nd, fun a m b m' q => n.2.2 a m b (sub b m') q⟩
  · obtain ⟨x, y, o, z⟩ := R.apart a (up a m)
    exact ⟨x, y, o, k a o z (apart a m)⟩
  · obtain ⟨mc, p, q⟩ := R.nolim
    exact ⟨mc, p.at' fun o z => k _ o z fun m => R.statics (Yb (wsub _ m).1), q⟩
theorem RelS.leave {wr : List Addr} (R : RelS K (ρ.enter wr) st h) (k : ∀ a o, h.get? a = some o → a ∉ wr → h'.get? a = some o) : RelS K ρ st h' ∧ Carry h (ρ.enter wr) h' ρ := by
  have up : ∀ a, a ∈ ρ.own → a ∈ (ρ.enter wr).own := fun a m => by
    rcases List.mem_append.mp m with m | m
    · exact Yv (ρ := ρ.enter wr) m
    · exact Yb (ρ := ρ.enter wr) (List.mem_append_right _ m)
  have inw : ∀ a ∈ wr, a ∈ (ρ.enter wr).rsv := fun a m => List.mem_append_left _ m
  have n := R.nodup
  unfold Rho.own at n
  rw [List.nodup_append] at n
  have n2 : (wr ++ ρ.rsv).Nodup := n.2.1
  rw [List.nodup_append] at n2
  have apart : ∀ a ∈ ρ.own, a ∉ wr := fun a m q => by
    rcases List.mem_append.mp m with m | m
    · exact n.2.2 a m a (inw a q) rfl
    · exact n2.2.2 a q a m rfl
  have g : Carry h (ρ.enter wr) h' ρ := ⟨fun a o e na => ⟨k a o e fun m => na (Yb (inw a m)), fun m => na (up a m)⟩, fun i a e => e⟩
  refine ⟨⟨R.len, fun i as ao e e' => (R.objs i as ao e e').carry g fun a m o q => k a o q (apart a (Yv (Yy e a m))), ?_, fun a m => ?_, fun a o e => k a o (R.top a o e) fun z => R.notK e (Yb (inw a z)), ?_⟩, g⟩
  · unfold Rho.own
    rw [List.nodup_append]
    exact ⟨n.1, n2.2.1, fun a m b m' q => n.2.2 a m b (List.mem_append_right _ m') q⟩
  · obtain ⟨x, y, o, z⟩ := R.apart a (up a m)
    exact ⟨x, y, o, k a o z (apart a m)⟩
  · obtain ⟨mc, p, q⟩ := R.nolim
    exact ⟨mc, p.at' fun o z => k _ o z fun m => R.statics (Yb (inw _ m)), q⟩
theorem RelS.put (R : RelS K ρ st h) {i : Nat} {as : List Addr} {ao' : AO} (e : ρ.ents[i]? = some as) (k : ∀ a o, h.get? a = some o → a ∉ as → h'.get? a = some o) (lv : ∀ a ∈ as, ∃ o, h'.get? a = some o)
    (n : Grow [] ρ h ρ h' → RO h' ρ as ao') : RelS K ρ (st.set i ao') h' ∧ Grow [] ρ h ρ h' := by
  have sub := Yy e
  have g : Grow [] ρ h ρ h' := ⟨fun a o e _ nr => k a o e fun m => nr (sub a m), List.prefix_rfl, rfl, fun _ m => .inl m⟩
  refine ⟨⟨by rw [List.length_set]; exact R.len, fun j bs ao ej ej' => ?_, R.nodup, fun a m => ?_, fun a o q => k a o (R.top a o q) fun m => R.notK q (Yv (sub a m)), ?_⟩, g⟩
  · by_cases hij : i = j
    · subst hij
      rw [e] at ej; cases ej
      rw [List.getElem?_set] at ej'
      simp only [if_true] at ej'
      split at ej'
      · cases ej'; exact n g
      · cases ej'
    · rw [List.getElem?_set_ne hij] at ej'
      exact (R.objs j bs ao ej ej').carry (g.carry noFr) fun a m o q => k a o q (apart_at R.nodup ej e (Ne.symm hij) a m)
  · obtain ⟨x, y, o, z⟩ := R.apart a m
    refine ⟨x, y, ?_⟩
    by_cases m' : a ∈ as
    · exact lv a m'
    · exact ⟨o, k a o z m'⟩
  · obtain ⟨mc, p, q⟩ := R.nolim
    exact ⟨mc, p.at' fun o z => k _ o z fun m => R.statics (Yv (sub _ m)), q⟩
noncomputable def Rho.push (ρ : Rho) (as : List Addr) : Rho := ⟨ρ.ents ++ [as], ρ.rsv⟩
theorem RelS.push (R : RelS K ρ st h) {as : List Addr} {ao : AO} (k : ∀ a o, h.get? a = some o → h'.get? a = some o) (fresh : ∀ a ∈ as, h.get? a = none) (lv : ∀ a ∈ as, ∃ o, h'.get? a = some o) (nd : as.Nodup)
    (n : Grow [] ρ h (ρ.push as) h' → RO h' (ρ.push as) as ao) : RelS K (ρ.push as) (st ++ [ao]) h' ∧ Grow [] ρ h (ρ.push as) h' := by
  have fl : (ρ.push as).flatten = ρ.flatten ++ as := by unfold Rho.push Rho.flatten; simp
  have g : Grow [] ρ h (ρ.push as) h' := ⟨fun a o e _ _ => k a o e, List.prefix_append .., rfl, fun a m => by
    rw [fl] at m
    rcases List.mem_append.mp m with m | m
    · exact .inl m
    · exact .inr (.inr (fresh a m))⟩
  have nn : ∀ a ∈ as, a ∉ ρ.own := fun a m q => by obtain ⟨_, _, o, z⟩ := R.apart a q; rw [fresh a m] at z; cases z
  have no := R.nodup
  unfold Rho.own at no
  rw [List.nodup_append] at no
  refine ⟨⟨by simp [Rho.push, R.len], fun i bs ao' e e' => ?_, ?_, fun a m => ?_, R.top.keeps k, R.nolim.keeps k⟩, g⟩
  · replace e : (ρ.ents ++ [as])[i]? = some bs := e
    by_cases hi : i < ρ.ents.length
    · rw [List.getElem?_append_left hi] at e
      rw [List.getElem?_append_left (R.len ▸ hi)] at e'
      exact (R.objs i bs ao' e e').carry (g.carry noFr) fun a _ o q => k a o q
    · rw [List.getElem?_append_right (Nat.le_of_not_lt hi)] at e
      rw [List.getElem?_append_right (by rw [← R.len]; exact Nat.le_of_not_lt hi)] at e'
      have hz : i - ρ.ents.length = 0 := by
        cases q : i - ρ.ents.length with
        | zero => rfl
        | succ n => rw [q] at e; simp at e
      rw [← R.len, hz] at e'
      rw [hz] at e
      simp at e e'
      subst e e'
      exact n g
  · show ((ρ.push as).flatten ++ ρ.rsv).Nodup
    rw [fl, List.nodup_append, List.nodup_append]
    refine ⟨⟨no.1, nd, fun a m b m' q => nn b m' (q ▸ Yv m)⟩, no.2.1, fun a m b m' q => ?_⟩
    rcases List.mem_append.mp m with m | m
    · exact no.2.2 a m b m' q
    · exact nn a m (q ▸ Yb m')
  · replace m : a ∈ (ρ.push as).flatten ++ ρ.rsv := m
    rw [fl] at m
    have m : a ∈ ρ.own ∨ a ∈ as := by
      rcases List.mem_append.mp m with m | m
      · rcases List.mem_append.mp m with m | m
        · exact .inl (Yv m)
        · exact .inr m
      · exact .inl (Yb m)
    rcases m with m | m
    · obtain ⟨x, y, o, z⟩ := R.apart a m
      exact ⟨x, y, o, k a o z⟩
    · refine ⟨?_, ?_, lv a m⟩
      · cases q : K.lookup a with
        | none => rfl
        | some o => have := R.top a o q; rw [fresh a m] at this; cases this
      · rintro rfl
        obtain ⟨mc, ⟨o, _, _, z, _⟩, _⟩ := R.nolim
        rw [fresh _ m] at z; cases z
end
structure FI where
  env : Env
  ln : List Str
  cn : List (Str × Addr)
noncomputable def FI.fr (f : FI) : List Addr := f.env.locals :: f.cn.map (·.2)
structure ES where
  loc : List (Option PV)
  cel : List (Option PV)
  st : List AO
structure FI.Ok (f : FI) : Prop where
  kind : f.env.scope.kind = .function
  glob : f.env.globals = mainGlobals
  blt : f.env.builtins = builtinsNs
  loc : ∀ x ∈ f.ln, f.env.kindOf x = some .local
  nodup : f.ln.Nodup
structure RelF (K : Frag) (f : FI) (ρ : Rho) (es : ES) (h : Heap) : Prop where
  s : RelS K ρ es.st h
  l : NsRel h ρ f.env.locals f.ln es.loc
  c : ∀ (i : Nat) (x : Str) (a : Addr), f.cn[i]? = some (x, a) → ∃ u, h.IsCell a u ∧ RVo h ρ u ((es.cel[i]?).join)
  like : ∀ a ∈ f.fr, a ∈ ρ.rsv
  nd : f.fr.Nodup
theorem mem_cells {f : FI} {i : Nat} {x : Str} {a : Addr} (e : f.cn[i]? = some (x, a)) : a ∈ f.fr := List.mem_cons_of_mem _ (List.mem_map.mpr ⟨(x, a), List.mem_of_getElem? e, rfl⟩)
theorem RelF.carry {K : Frag} {f : FI} {ρ ρ' : Rho} {es : ES} {h h' : Heap} {st' : List AO} (R : RelF K f ρ es h) (S : RelS K ρ' st' h') (g : Carry h ρ h' ρ') (kf : ∀ a ∈ f.fr, ∀ o, h.get? a = some o → h'.get? a = some o)
    (like : ∀ a ∈ f.fr, a ∈ ρ'.rsv) : RelF K f ρ' { es with st := st' } h' := by
  refine ⟨S, R.l.carry g (kf _ (.head _)), fun i x a e => ?_, like, R.nd⟩
  obtain ⟨u, ⟨o, p, q⟩, r⟩ := R.c i x a e
  exact ⟨u, ⟨o, kf a (mem_cells e) o p, q⟩, r.carry g⟩
theorem RelF.ofS {K : Frag} {f : FI} {ρ ρ' : Rho} {es : ES} {h h' : Heap} {st' : List AO} (R : RelF K f ρ es h) (S : RelS K ρ' st' h') (g : Grow [] ρ h ρ' h') : RelF K f ρ' { es with st := st' } h' :=
  R.carry S (g.carry noFr) (fun a m o e => g.keep a o e (by simp) (rsv_apart R.s.nodup (R.like a m))) fun a m => g.rsv ▸ R.like a m
noncomputable def Same (s s' : Shared) : Prop := s'.gens = s.gens ∧ s'.drawn = s.drawn ∧ s'.os = s.os
theorem Same.refl {s : Shared} : Same s s := ⟨rfl, rfl, rfl⟩
theorem Same.trans {s s₁ s₂ : Shared} (x : Same s s₁) (y : Same s₁ s₂) : Same s s₂ := ⟨y.1.trans x.1, y.2.1.trans x.2.1, y.2.2.trans x.2.2⟩
noncomputable abbrev noE : Value → Shared → Prop := fun _ _ => False
structure AOk (b : Nat) (A : Around) : Prop where
  handled : A.handled = none
  depth : A.depth + 2 * b ≤ 900
  units : A.units + 20 * b ≤ 9000
theorem AOk.le {b b' : Nat} {A : Around} (x : AOk b A) (l : b' ≤ b) : AOk b' A := ⟨x.handled, by have := x.depth; omega, by have := x.units; omega⟩
noncomputable abbrev FM (β : Type) := ES → Option (β × ES)
noncomputable def bindE {β γ : Type} (m : FM β) (k : β → FM γ) : FM γ := fun es => match m es with
  | none => none
  | some (y, es') => k y es'
noncomputable def pureE {β : Type} (y : β) : FM β := fun es => some (y, es)
noncomputable def failE {β : Type} : FM β := fun _ => none
inductive Ends (K : Frag) (f : FI) {α β : Type} (RA : Heap → Rho → α → β → Prop) (ρ : Rho) (s : Shared) (y : β) (es' : ES) (x : α) (s' : Shared) : Prop
  | mk (ρ' : Rho) : RelF K f ρ' es' s'.heap → Grow f.fr ρ s.heap ρ' s'.heap → Same s s' → RA s'.heap ρ' x y → Ends K f RA ρ s y es' x s'
theorem Ends.tk {K : Frag} {f : FI} {α β : Type} {RA : Heap → Rho → α → β → Prop} {ρ : Rho} {s : Shared} {k : Nat} {y : β} {es' : ES} {x : α} {s' : Shared} (z : Ends K f RA ρ { s with toks := k } y es' x s') : Ends K f RA ρ s y es' x s' := by
  obtain ⟨ρ', a, b, c, d⟩ := z
  exact ⟨ρ', a, b, c, d⟩
structure Ctx0 where
  prog : Program
  w : World
  K : Frag
structure Den (c : Ctx0) (b : Nat) (f : FI) {α β : Type} (RA : Heap → Rho → α → β → Prop) (t : Sem α) (F : FM β) : Prop where
  run : ∀ A, AOk b A → ∀ ρ s es y es', F es = some (y, es') → RelF c.K f ρ es s.heap → wpAny (model c.prog c.w) A t (Ends c.K f RA ρ s y es') noE s
structure DenK (c : Ctx0) (b : Nat) (f : FI) {α β γ δ : Type} (RX : Heap → Rho → γ → δ → Prop) (RA : Heap → Rho → α → β → Prop) (t : γ → Sem α) (F : δ → FM β) : Prop where
  run : ∀ A, AOk b A → ∀ ρ s es x z y es', F z es = some (y, es') → RX s.heap ρ x z → RelF c.K f ρ es s.heap → wpAny (model c.prog c.w) A (t x) (Ends c.K f RA ρ s y es') noE s
theorem Ends.after {K : Frag} {f : FI} {α β : Type} {RA : Heap → Rho → α → β → Prop} {ρ ρ₁ : Rho} {s s₁ s₂ : Shared} {y : β} {es' : ES} {x : α}
    (g : Grow f.fr ρ s.heap ρ₁ s₁.heap) (q : Same s s₁) (z : Ends K f RA ρ₁ s₁ y es' x s₂) : Ends K f RA ρ s y es' x s₂ := by
  obtain ⟨ρ', R, g', q', r⟩ := z
  exact ⟨ρ', R, g.trans g', q.trans q', r⟩
inductive BindS {β γ : Type} (m : FM β) (k : β → FM γ) (es : ES) (r : γ × ES) : Prop
  | mk (y : β) (es' : ES) : m es = some (y, es') → k y es' = some r → BindS m k es r
theorem Zd {β γ : Type} {m : FM β} {k : β → FM γ} {es : ES} {r : γ × ES} (e : bindE m k es = some r) : BindS m k es r := by
  unfold bindE at e
  split at e
  · cases e
  · rename_i y es' q; exact ⟨y, es', q, e⟩
noncomputable abbrev SM (β : Type) := List AO → Option (β × List AO)
noncomputable def liftS {β : Type} (g : SM β) : FM β := fun es => match g es.st with
  | none => none
  | some (y, st) => some (y, { es with st := st })
theorem Z2 {β : Type} {g : SM β} {es es' : ES} {y : β} (e : liftS g es = some (y, es')) : ∃ st', g es.st = some (y, st') ∧ es' = { es with st := st' } := by
  unfold liftS at e
  split at e
  · cases e
  · rename_i y' st q; cases e; exact ⟨st, q, rfl⟩
noncomputable def guardE {β : Type} (P : List AO → Bool) (m : FM β) : FM β := fun es => if P es.st then m es else none
theorem guardE_some {β : Type} {P : List AO → Bool} {m : FM β} {es : ES} {r : β × ES} (e : guardE P m es = some r) : P es.st = true ∧ m es = some r := by
  unfold guardE at e
  split at e
  · exact ⟨‹_›, e⟩
  · cases e
inductive EndsS (K : Frag) {α β : Type} (RA : Heap → Rho → α → β → Prop) (ρ : Rho) (s : Shared) (y : β) (st' : List AO) (x : α) (s' : Shared) : Prop
  | mk (ρ' : Rho) : RelS K ρ' st' s'.heap → Grow [] ρ s.heap ρ' s'.heap → Same s s' → RA s'.heap ρ' x y → EndsS K RA ρ s y st' x s'
theorem EndsS.toF {K : Frag} {f : FI} {α β : Type} {RA : Heap → Rho → α → β → Prop} {ρ : Rho} {s : Shared} {y : β} {st' : List AO} {x : α} {s' : Shared} {es : ES} (R : RelF K f ρ es s.heap)
    (z : EndsS K RA ρ s y st' x s') : Ends K f RA ρ s y { es with st := st' } x s' := by
  obtain ⟨ρ', S, g, q, r⟩ := z
  exact ⟨ρ', R.ofS S g, g.wider (by simp), q, r⟩
theorem EndsS.after {K : Frag} {α β : Type} {RA : Heap → Rho → α → β → Prop} {ρ ρ₁ : Rho} {s s₁ s₂ : Shared} {y : β} {st' : List AO} {x : α}
    (g : Grow [] ρ s.heap ρ₁ s₁.heap) (q : Same s s₁) (z : EndsS K RA ρ₁ s₁ y st' x s₂) : EndsS K RA ρ s y st' x s₂ := by
  obtain ⟨ρ', R, g', q', r⟩ := z
  exact ⟨ρ', R, g.trans g', q.trans q', r⟩
structure Op1 (c : Ctx0) (b : Nat) {α β γ δ : Type} (RX : Heap → Rho → γ → δ → Prop) (RA : Heap → Rho → α → β → Prop) (t : γ → Sem α) (G : δ → SM β) : Prop where
  run : ∀ A, AOk b A → ∀ ρ s st x z y st', G z st = some (y, st') → RX s.heap ρ x z → RelS c.K ρ st s.heap → wpAny (model c.prog c.w) A (t x) (EndsS c.K RA ρ s y st') noE s
structure Op2 (c : Ctx0) (b : Nat) {α β : Type} (RA : Heap → Rho → α → β → Prop) (t : Value → Value → Sem α) (G : PV → PV → SM β) : Prop where
  run : ∀ A, AOk b A → ∀ ρ s st x₁ z₁ x₂ z₂ y st', G z₁ z₂ st = some (y, st') → RV s.heap ρ x₁ z₁ → RV s.heap ρ x₂ z₂ → RelS c.K ρ st s.heap → wpAny (model c.prog c.w) A (t x₁ x₂) (EndsS c.K RA ρ s y st') noE s
structure Op3 (c : Ctx0) (b : Nat) {α β : Type} (RA : Heap → Rho → α → β → Prop) (t : Value → Value → Value → Sem α) (G : PV → PV → PV → SM β) : Prop where
  run : ∀ A, AOk b A → ∀ ρ s st x₁ z₁ x₂ z₂ x₃ z₃ y st', G z₁ z₂ z₃ st = some (y, st') → RV s.heap ρ x₁ z₁ → RV s.heap ρ x₂ z₂ → RV s.heap ρ x₃ z₃ → RelS c.K ρ st s.heap →
    wpAny (model c.prog c.w) A (t x₁ x₂ x₃) (EndsS c.K RA ρ s y st') noE s
noncomputable abbrev RB (_ : Heap) (_ : Rho) (x y : Bool) : Prop := x = y
noncomputable abbrev RU (_ : Heap) (_ : Rho) (_ : Unit) (_ : Unit) : Prop := True
theorem Op1.k {c : Ctx0} {b : Nat} {f : FI} {α β γ δ : Type} {RX : Heap → Rho → γ → δ → Prop} {RA : Heap → Rho → α → β → Prop} {t : γ → Sem α} {G : δ → SM β} (o : Op1 c b RX RA t G) : DenK c b f RX RA t fun z => liftS (G z) := by
  constructor
  intro A hA ρ s es x z y es' e r R
  obtain ⟨st', e', rfl⟩ := Z2 e
  exact wpAny_mono (o.run A hA ρ s es.st x z y st' e' r R.s) (fun _ _ q => q.toF R) fun _ _ q => q
section
variable {c : Ctx0} {b : Nat} {f : FI}
noncomputable def getL (i : Nat) : FM PV := fun es => match (es.loc[i]?).join with
  | some v => some (v, es)
  | none => none
noncomputable def getC (i : Nat) : FM PV := fun es => match (es.cel[i]?).join with
  | some v => some (v, es)
  | none => none
theorem rvo_some {h : Heap} {ρ : Rho} {u : Option Value} {p : PV} (r : RVo h ρ u (some p)) : ∃ v, u = some v ∧ RV h ρ v p := by cases r; exact ⟨_, rfl, ‹_›⟩
theorem Ends.here {K : Frag} {α β : Type} {RA : Heap → Rho → α → β → Prop} {ρ : Rho} {s : Shared} {es : ES} {x : α} {y : β} (R : RelF K f ρ es s.heap) (r : RA s.heap ρ x y) : Ends K f RA ρ s y es x s :=
  ⟨ρ, R, .refl, .refl, r⟩
theorem Ends.tok {K : Frag} {α β : Type} {RA : Heap → Rho → α → β → Prop} {ρ : Rho} {s : Shared} {es : ES} {x : α} {y : β} {tk : Nat} (R : RelF K f ρ es s.heap) (r : RA s.heap ρ x y) : Ends K f RA ρ s y es x { s with toks := tk } :=
  ⟨ρ, R, .refl, ⟨rfl, rfl, rfl⟩, r⟩
theorem EndsS.here {K : Frag} {α β : Type} {RA : Heap → Rho → α → β → Prop} {ρ : Rho} {s : Shared} {st : List AO} {x : α} {y : β} (R : RelS K ρ st s.heap) (r : RA s.heap ρ x y) : EndsS K RA ρ s y st x s :=
  ⟨ρ, R, .refl, .refl, r⟩
theorem EndsS.tok {K : Frag} {α β : Type} {RA : Heap → Rho → α → β → Prop} {ρ : Rho} {s : Shared} {st : List AO} {x : α} {y : β} {tk : Nat} (R : RelS K ρ st s.heap) (r : RA s.heap ρ x y) : EndsS K RA ρ s y st x { s with toks := tk } :=
  ⟨ρ, R, .refl, ⟨rfl, rfl, rfl⟩, r⟩
theorem Za {x : Str} {pos : Pos} {i : Nat} (ok : f.Ok) (hx : f.ln[i]? = some x) (hd : (x == ("__debug__" : Str)) = false := by decide) : Den c b f RV (eval (.Name x pos) f.env) (getL i) := by
  constructor
  intro A hA ρ s es y es' e R
  unfold getL at e
  split at e
  · rename_i v q
    cases e
    obtain ⟨m, n, l, _⟩ := R.l
    have := l i x hx
    rw [q] at this
    obtain ⟨u, hu, r⟩ := rvo_some this
    exact wpAny_Name (wpAny_loadName_local ok.kind (ok.loc x (List.mem_of_getElem? hx)) n hu (Ends.here R r)) hd
  · cases e
theorem Yh {x : Str} {pos : Pos} {i : Nat} {a : Addr} (ok : f.Ok) (hx : f.cn[i]? = some (x, a)) (hc : f.env.cells.lookup x = some a) (hk : f.env.kindOf x = some .cell ∨ f.env.kindOf x = some .free) (hd : (x == ("__debug__" : Str)) = false := by decide)
    (hn : (x == ("__classdict__" : Str)) = false := by decide) : Den c b f RV (eval (.Name x pos) f.env) (getC i) := by
  constructor
  intro A hA ρ s es y es' e R
  unfold getC at e
  split at e
  · rename_i v q
    cases e
    obtain ⟨u, hu, r⟩ := R.c i x a hx
    rw [q] at r
    obtain ⟨u, rfl, r'⟩ := rvo_some r
    refine wpAny_Name ?_ hd
    rcases hk with hk | hk
    · exact wpAny_loadName_cell ok.kind hk hc hu (Ends.here R r')
    · exact wpAny_loadName_free ok.kind hk hc hu (Ends.here R r') hn
  · cases e
theorem loads_global {A : Around} {s : Shared} {x : Str} {v : Value} {Q : Value → Shared → Prop} (ok : f.Ok) (X : c.K.In s.heap) (hx : f.env.kindOf x = some .globalImplicit) (hv : nsIn c.K mainGlobals x = some (some v)) (h : Q v s) {E : Value → Shared → Prop} :
    wpAny (model c.prog c.w) A (loadName f.env x) Q E s := by
  unfold loadName
  have hk := ok.kind
  simp only [Env.blockKind, hk, hx, ScopeKind.isAnnotationScope, Bool.false_and, Bool.false_eq_true, if_false]
  unfold loadGlobal
  rw [ok.glob]
  exact wpAny_bind ((looks_nsIn X hv).here (wpAny_pure h))
theorem loads_builtin {A : Around} {s : Shared} {x : Str} {v : Value} {Q : Value → Shared → Prop} (ok : f.Ok) (X : c.K.In s.heap) (hx : f.env.kindOf x = some .globalImplicit) (hn : nsIn c.K mainGlobals x = some none)
    (hv : nsIn c.K builtinsNs x = some (some v)) (h : Q v s) {E : Value → Shared → Prop} : wpAny (model c.prog c.w) A (loadName f.env x) Q E s := by
  unfold loadName
  have hk := ok.kind
  simp only [Env.blockKind, hk, hx, ScopeKind.isAnnotationScope, Bool.false_and, Bool.false_eq_true, if_false]
  unfold loadGlobal
  rw [ok.glob, ok.blt]
  exact wpAny_bind ((looks_nsIn X hn).here (wpAny_bind ((looks_nsIn X hv).here (wpAny_pure h))))
theorem Zz {x : Str} {pos : Pos} {v : Value} (ok : f.Ok) (hx : f.env.kindOf x = some .globalImplicit) (hv : nsIn c.K mainGlobals x = some (some v)) (hd : (x == ("__debug__" : Str)) = false := by decide) :
    Den c b f RV (eval (.Name x pos) f.env) (pureE (.raw v)) := by
  constructor
  intro A hA ρ s es y es' e R
  cases e
  exact wpAny_Name (loads_global ok R.s.top hx hv (Ends.here R (.raw v))) hd
theorem Zo {x : Str} {pos : Pos} {v : Value} (ok : f.Ok) (hx : f.env.kindOf x = some .globalImplicit) (hn : nsIn c.K mainGlobals x = some none) (hv : nsIn c.K builtinsNs x = some (some v)) (hd : (x == ("__debug__" : Str)) = false := by decide) :
    Den c b f RV (eval (.Name x pos) f.env) (pureE (.raw v)) := by
  constructor
  intro A hA ρ s es y es' e R
  cases e
  exact wpAny_Name (loads_builtin ok R.s.top hx hn hv (Ends.here R (.raw v))) hd
theorem den_none {k : Nat} {pos : Pos} : Den c b f RV (eval (.Constant .none k pos) f.env) (pureE .none) := by
  constructor
  intro A hA ρ s es y es' e R
  cases e
  exact wpAny_pure (Ends.here R .none)
theorem den_bool {v : Bool} {k : Nat} {pos : Pos} : Den c b f RV (eval (.Constant (.bool v) k pos) f.env) (pureE (.bool v)) := by
  constructor
  intro A hA ρ s es y es' e R
  cases e
  exact wpAny_pure (Ends.here R (.bool v))
theorem Zj {v : Int} {k : Nat} {pos : Pos} : Den c b f RV (eval (.Constant (.int v) k pos) f.env) (pureE (.int v)) := by
  constructor
  intro A hA ρ s es y es' e R
  cases e
  exact wpAny_Constant_int (Ends.tok R (.int v _))
theorem Zv {v : Str} {k : Nat} {pos : Pos} : Den c b f RV (eval (.Constant (.str v) k pos) f.env) (pureE (.str v)) := by
  constructor
  intro A hA ρ s es y es' e R
  cases e
  exact wpAny_Constant_str (Ends.tok R (.str v _))
theorem two_then {α β : Type} {RA : Heap → Rho → α → β → Prop} {t₁ t₂ : Sem Value} {F₁ F₂ : FM PV} {op : Value → Value → Sem α} {G : PV → PV → SM β} (d₁ : Den c b f RV t₁ F₁) (d₂ : Den c b f RV t₂ F₂) (o : Op2 c b RA op G)
    {A : Around} (hA : AOk b A) {ρ : Rho} {s : Shared} {es es' : ES} {y : β} (e : bindE F₁ (fun p => bindE F₂ fun q => liftS (G p q)) es = some (y, es')) (R : RelF c.K f ρ es s.heap) :
    wpAny (model c.prog c.w) A t₁ (fun a s₁ => wpAny (model c.prog c.w) A t₂ (fun v s₂ => wpAny (model c.prog c.w) A (op a v) (Ends c.K f RA ρ s y es') noE s₂) noE s₁) noE s := by
  obtain ⟨p, es₁, e1, e⟩ := Zd e
  obtain ⟨q, es₂, e2, e⟩ := Zd e
  obtain ⟨st', e3, rfl⟩ := Z2 e
  refine wpAny_mono (d₁.run A hA ρ s es p es₁ e1 R) (fun a s₁ z => ?_) fun _ _ z => z
  obtain ⟨ρ₁, R₁, g₁, q₁, r₁⟩ := z
  refine wpAny_mono (d₂.run A hA ρ₁ s₁ es₁ q es₂ e2 R₁) (fun v s₂ z => ?_) fun _ _ z => z
  obtain ⟨ρ₂, R₂, g₂, q₂, r₂⟩ := z
  refine wpAny_mono (o.run A hA ρ₂ s₂ es₂.st a p v q y st' e3 (r₁.grow g₂ R₁.like) r₂ R₂.s) (fun x s₃ z => ?_) fun _ _ z => z
  exact ((z.toF R₂).after g₂ q₂).after g₁ q₁
theorem Zp {l r : Expr} {op : Operator} {pos : Pos} {F₁ F₂ : FM PV} {G : PV → PV → SM PV} (d₁ : Den c b f RV (eval l f.env) F₁) (d₂ : Den c b f RV (eval r f.env) F₂) (o : Op2 c b RV (binaryOp op) G) :
    Den c b f RV (eval (.BinOp l op r pos) f.env) (bindE F₁ fun p => bindE F₂ fun q => liftS (G p q)) :=
  ⟨fun A hA ρ s es y es' e R => wpAny_BinOp (two_then d₁ d₂ o hA e R)⟩
theorem den_compare {l r : Expr} {op : CmpOp} {pos : Pos} {F₁ F₂ : FM PV} {G : PV → PV → SM PV} (d₁ : Den c b f RV (eval l f.env) F₁) (d₂ : Den c b f RV (eval r f.env) F₂) (o : Op2 c b RV (compareOp op) G)
    (hm : behindInMarks op r = false := by with_unfolding_all rfl) :
    Den c b f RV (eval (.Compare l [op] [r] pos) f.env) (bindE F₁ fun p => bindE F₂ fun q => liftS (G p q)) :=
  ⟨fun A hA ρ s es y es' e R => wpAny_Compare1 (two_then d₁ d₂ o hA e R) hm⟩
theorem den_unary {x : Expr} {op : UnaryOp} {pos : Pos} {F : FM PV} {G : PV → SM PV} (d : Den c b f RV (eval x f.env) F) (o : Op1 c b RV RV (unaryOp op) G) : Den c b f RV (eval (.UnaryOp op x pos) f.env) (bindE F fun p => liftS (G p)) := by
  constructor
  intro A hA ρ s es y es' e R
  obtain ⟨p, es₁, e1, e⟩ := Zd e
  refine wpAny_UnaryOp (wpAny_mono (d.run A hA ρ s es p es₁ e1 R) (fun a s₁ z => ?_) fun _ _ z => z)
  obtain ⟨ρ₁, R₁, g₁, q₁, r₁⟩ := z
  exact wpAny_mono ((Op1.k o).run A hA ρ₁ s₁ es₁ a p y es' e r₁ R₁) (fun _ _ z => z.after g₁ q₁) fun _ _ z => z
end
section
variable {c : Ctx0} {b : Nat} {f : FI}
noncomputable def subI (p q : PV) : SM PV := fun st => match p, q with | .int i, .int j => some (.int (i - j), st) | _, _ => none
noncomputable def mulI (p q : PV) : SM PV := fun st => match p, q with | .int i, .int j => if j.natAbs < 2 ^ 60 then some (.int (i * j), st) else none | _, _ => none
noncomputable def divI (p q : PV) : SM PV := fun st => match p, q with | .int i, .int j => if j ≠ 0 ∧ j.natAbs < 1000000000 then some (.int (i.fdiv j), st) else none | _, _ => none
noncomputable def modI (p q : PV) : SM PV := fun st => match p, q with | .int i, .int j => if j ≠ 0 then some (.int (i.fmod j), st) else none | _, _ => none
noncomputable def powI (p q : PV) : SM PV := fun st => match p, q with | .int i, .int j => if 0 ≤ j ∧ j ≤ 1000000 ∧ i.natAbs < 2 ^ 64 then some (.int (i ^ j.toNat), st) else none | _, _ => none
noncomputable def negI (p : PV) : SM PV := fun st => match p with | .int i => some (.int (-i), st) | _ => none
theorem op_subI : Op2 c b RV (binaryOp .Sub) subI := by
  constructor
  intro A hA ρ s st x z x' z' y st' e r r' R
  unfold subI at e; split at e <;> (first | obtain ⟨rfl, rfl⟩ := spr e | exact (nos e).elim)
  obtain ⟨_, rfl⟩ := r.inv; obtain ⟨_, rfl⟩ := r'.inv
  exact PyProof.Rows.sub_int (EndsS.tok R (.int _ _))
theorem op_mulI : Op2 c b RV (binaryOp .Mult) mulI := by
  constructor
  intro A hA ρ s st x z x' z' y st' e r r' R
  unfold mulI at e; split at e <;> try exact (nos e).elim
  split at e <;> (first | obtain ⟨rfl, rfl⟩ := spr e | exact (nos e).elim)
  rename_i hb
  obtain ⟨_, rfl⟩ := r.inv; obtain ⟨_, rfl⟩ := r'.inv
  exact PyProof.Rows.mul_int (EndsS.tok R (.int _ _)) (PySem.IntMulOk.of_right (PySem.intBits_le_64 (by omega) (by omega)))
theorem op_divI : Op2 c b RV (binaryOp .FloorDiv) divI := by
  constructor
  intro A hA ρ s st x z x' z' y st' e r r' R
  unfold divI at e; split at e <;> try exact (nos e).elim
  split at e <;> (first | obtain ⟨rfl, rfl⟩ := spr e | exact (nos e).elim)
  rename_i hb
  obtain ⟨_, rfl⟩ := r.inv; obtain ⟨_, rfl⟩ := r'.inv
  exact PyProof.Rows.floordiv_int hb.1 (EndsS.tok R (.int _ _)) (.inl (PyProof.noPylong_small (by omega)))
theorem op_modI : Op2 c b RV (binaryOp .Mod) modI := by
  constructor
  intro A hA ρ s st x z x' z' y st' e r r' R
  unfold modI at e; split at e <;> try exact (nos e).elim
  split at e <;> (first | obtain ⟨rfl, rfl⟩ := spr e | exact (nos e).elim)
  rename_i hb
  obtain ⟨_, rfl⟩ := r.inv; obtain ⟨_, rfl⟩ := r'.inv
  exact PyProof.Rows.mod_int' hb (EndsS.tok R (.int _ _))
theorem op_powI : Op2 c b RV (binaryOp .Pow) powI := by
  constructor
  intro A hA ρ s st x z x' z' y st' e r r' R
  unfold powI at e; split at e <;> try exact (nos e).elim
  split at e <;> (first | obtain ⟨rfl, rfl⟩ := spr e | exact (nos e).elim)
  rename_i hb
  obtain ⟨_, rfl⟩ := r.inv; obtain ⟨_, rfl⟩ := r'.inv
  exact PyProof.Rows.pow_int_small hb.1 hb.2.1 hb.2.2 (EndsS.tok R (.int _ _))
theorem op_negI : Op1 c b RV RV (unaryOp .USub) negI := by
  constructor
  intro A hA ρ s st x z y st' e r R
  unfold negI at e; split at e <;> (first | obtain ⟨rfl, rfl⟩ := spr e | exact (nos e).elim)
  cases r
  exact PyProof.Rows.neg_int (EndsS.tok R (.int _ _))
noncomputable def gtI (p q : PV) : SM PV := fun st => match p, q with | .int i, .int j => some (.bool (decide (j < i)), st) | _, _ => none
theorem op_gtI : Op2 c b RV (compareOp .Gt) gtI := by
  constructor
  intro A hA ρ s st x z x' z' y st' e r r' R
  unfold gtI at e; split at e <;> (first | obtain ⟨rfl, rfl⟩ := spr e | exact (nos e).elim)
  obtain ⟨_, rfl⟩ := r.inv; obtain ⟨_, rfl⟩ := r'.inv
  exact PyProof.Rows.gt_int (EndsS.here R (.bool _))
noncomputable def eqS (p q : PV) : SM PV := fun st => match p, q with | .str i, .str j => some (.bool (i == j), st) | _, _ => none
theorem op_eqS : Op2 c b RV (compareOp .Eq) eqS := by
  constructor
  intro A hA ρ s st x z x' z' y st' e r r' R
  unfold eqS at e; split at e <;> (first | obtain ⟨rfl, rfl⟩ := spr e | exact (nos e).elim)
  obtain ⟨_, rfl⟩ := r.inv; obtain ⟨_, rfl⟩ := r'.inv
  exact PyProof.Rows.eq_str (EndsS.here R (.bool _))
noncomputable def inS (p q : PV) : SM PV := fun st => match p, q with | .str y, .str x => some (.bool !(Builtin.Str.occurrences x y 0 x.length 1).isEmpty, st) | _, _ => none
theorem op_inS : Op2 c b RV (compareOp .In) inS := by
  constructor
  intro A hA ρ s st x z x' z' y st' e r r' R
  unfold inS at e; split at e <;> (first | obtain ⟨rfl, rfl⟩ := spr e | exact (nos e).elim)
  obtain ⟨_, rfl⟩ := r.inv; obtain ⟨_, rfl⟩ := r'.inv
  exact PyProof.Rows.in_str (EndsS.here R (.bool _))
noncomputable def isNoneP : PV → Option Bool
  | .none => some true
  | .raw _ => none
  | _ => some false
noncomputable def isNotNone (p q : PV) : SM PV := fun st => match isNoneP p, q with | some t, .none => some (.bool !t, st) | _, _ => none
noncomputable def isNone (p q : PV) : SM PV := fun st => match isNoneP p, q with | some t, .none => some (.bool t, st) | _, _ => none
theorem isNoneP_of {h : Heap} {ρ : Rho} {v : Value} {p : PV} {t : Bool} (r : RV h ρ v p) (e : isNoneP p = some t) : (v == Value.none) = t := by
  cases r <;> cases e <;> rfl
theorem op_isNotNone : Op2 c b RV (compareOp .IsNot) isNotNone := by
  constructor
  intro A hA ρ s st x z x' z' y st' e r r' R
  unfold isNotNone at e; split at e <;> (first | obtain ⟨rfl, rfl⟩ := spr e | exact (nos e).elim)
  rename_i t q
  (first | obtain ⟨_, rfl⟩ := r'.inv | cases r')
  refine PySem.isNot_none ?_
  rw [isNoneP_of r q]
  exact EndsS.here R (.bool _)
theorem op_isNone : Op2 c b RV (compareOp .Is) isNone := by
  constructor
  intro A hA ρ s st x z x' z' y st' e r r' R
  unfold isNone at e; split at e <;> (first | obtain ⟨rfl, rfl⟩ := spr e | exact (nos e).elim)
  rename_i t q
  (first | obtain ⟨_, rfl⟩ := r'.inv | cases r')
  refine PySem.is_none ?_
  rw [isNoneP_of r q]
  exact EndsS.here R (.bool _)
noncomputable def truthG (p : PV) : SM Bool := fun st => match p with
  | .none => some (false, st)
  | .bool t => some (t, st)
  | .int i => some (i != 0, st)
  | .str x => if x.length ≤ sizeLine then some ((x.length : Int) != 0, st) else none
  | .ref i => (match st[i]? with
    | some (.list xs) => if xs.length ≤ sizeLine then some (!xs.isEmpty, st) else none
    | _ => none)
  | .lst xs => if xs.length ≤ sizeLine then some (!xs.isEmpty, st) else none
  | _ => none
noncomputable def items? (st : List AO) (p : PV) : Option (List PV) := match p with
  | .lst xs => some xs
  | .ref i => (match st[i]? with
    | some (.list xs) => some xs
    | _ => none)
  | _ => none
theorem Yt {ρ : Rho} {i : Nat} {a : Addr} (e : headAt ρ i = some a) : ∃ r, ρ.ents[i]? = some (a :: r) := by
  unfold headAt at e
  split at e
  · rename_i x y q; obtain rfl := Option.some.inj e; exact ⟨y, q⟩
  · exact (nos e).elim
theorem isList_of {h : Heap} {a : Addr} {vs : Array Value} {n : Nat} (e : h.get? a = some { cls := .type "list", data := .seq vs n }) : h.IsList a vs := ⟨_, e, rfl, n, rfl⟩
theorem isL {h : Heap} {a : Addr} {vs : Array Value} (p : h.PlainList a vs) : h.IsList a vs := by obtain ⟨n, e⟩ := p; exact ⟨_, e, rfl, n, rfl⟩
theorem items_of {K : Frag} {ρ : Rho} {st : List AO} {h : Heap} (R : RelS K ρ st h) {v : Value} {p : PV} {xs : List PV} (r : RV h ρ v p) (e : items? st p = some xs) :
    ∃ a vs, P3 (v = .ref a) (h.PlainList a vs) (RVs h ρ vs.toList xs) := by
  unfold items? at e
  split at e
  · obtain rfl := Option.some.inj e; cases r with | lst na q z => exact ⟨_, _, rfl, q, by simpa using z⟩
  · rename_i i
    split at e
    · rename_i ys q
      obtain rfl := Option.some.inj e
      cases r with
      | ref z =>
        obtain ⟨r, hr⟩ := Yt z
        obtain ⟨a', vs, n, e1, e2, e3⟩ := R.objs i _ _ hr q
        cases e1
        exact ⟨_, vs, rfl, ⟨n, e2⟩, e3⟩
    · exact (nos e).elim
  · exact (nos e).elim
theorem isEmpty_of {vs : Array Value} {xs : List PV} (h : vs.size = xs.length) : vs.isEmpty = xs.isEmpty := by
  rw [Bool.eq_iff_iff, Array.isEmpty_iff_size_eq_zero, List.isEmpty_iff_length_eq_zero, h]
theorem op_truth : Op1 c b RV RB truthy truthG := by
  constructor
  intro A hA ρ s st x z y st' e r R
  have L : ∀ xs, items? st z = some xs → (if xs.length ≤ sizeLine then some (!xs.isEmpty, st) else none) = some (y, st') → wpAny (model c.prog c.w) A (truthy x) (EndsS c.K RB ρ s y st') noE s := by
    intro xs hx e
    obtain ⟨a, vs, rfl, e1, e2⟩ := items_of R r hx
    split at e
    · rename_i hz
      obtain ⟨rfl, rfl⟩ := spr e
      have hl := e2.length
      rw [Array.length_toList] at hl
      refine wpAny_truthy_list (isL e1) (by rw [hl]; rw [sizeLine_eq] at hz; omega) ?_
      rw [isEmpty_of hl]
      exact EndsS.tok R rfl
    · exact (nos e).elim
  unfold truthG at e
  split at e
  · obtain ⟨rfl, rfl⟩ := spr e; obtain ⟨_, rfl⟩ := r.inv; exact PyProof.Rows.truthy_none (EndsS.here R rfl)
  · obtain ⟨rfl, rfl⟩ := spr e; obtain ⟨_, rfl⟩ := r.inv; exact wpAny_truthy_bool (EndsS.here R rfl)
  · obtain ⟨rfl, rfl⟩ := spr e; obtain ⟨_, rfl⟩ := r.inv; exact PyProof.Rows.truthy_int (EndsS.here R rfl)
  · split at e
    · rename_i hz
      obtain ⟨rfl, rfl⟩ := spr e; cases r
      refine PySem.P.truthy_str (by rw [sizeLine_eq] at hz; omega) (EndsS.tok R rfl)
    · exact (nos e).elim
  · rename_i i
    split at e
    · rename_i xs q
      exact L xs (by simp [items?, q]) e
    · exact (nos e).elim
  · exact L _ rfl e
  · exact (nos e).elim
end
inductive PF where
  | next | brk | cont
  | ret (p : PV)
inductive RFl (h : Heap) (ρ : Rho) : Flow → PF → Prop
  | next : RFl h ρ .next .next
  | brk : RFl h ρ .brk .brk
  | cont : RFl h ρ .cont .cont
  | ret {v : Value} {p : PV} : RV h ρ v p → RFl h ρ (.ret v) (.ret p)
section
variable {c : Ctx0} {b : Nat} {f : FI}
noncomputable def Yd : Expr → Bool
  | .Starred .. => false
  | _ => true
theorem starEach_of {x : Expr} {rest : List Expr} {env : Env} (h : Yd x = true) : starEach (x :: rest) env = (false, eval x env) :: starEach rest env := by
  cases x <;> first | rfl | cases h
theorem Yw {env : Env} {pos : Pos} : ∀ {args : List Expr}, args.all Yd = true → (backTo pos (starEach args env)).all (fun x => !x.1) = true
  | [], _ => rfl
  | x :: r, h => by
    rw [List.all_cons, Bool.and_eq_true] at h
    rw [starEach_of h.1]
    show ((!false) && (backTo pos (starEach r env)).all (fun x => !x.1)) = true
    rw [Yw h.2]; rfl
noncomputable def notSuper : Expr → Bool
  | .Call (.Name id _) [] [] _ => id != ("super" : Str)
  | _ => true
theorem Ym {o : Expr} {name : Str} {env : Env} {whole : Sem Value} (h : notSuper o = true) : attributeBase o name env whole = whole := by
  unfold attributeBase
  split
  · rename_i id _ pos
    have : (id != ("super" : Str)) = true := h
    rw [if_pos (by simp only [this, Bool.true_or])]
  · rfl
noncomputable def iteE {β : Type} (m : FM Bool) (x y : FM β) : FM β := bindE m fun t => if t then x else y
theorem iteE_some {β : Type} {m : FM Bool} {x y : FM β} {es : ES} {r : β × ES} (e : iteE m x y es = some r) : BindS m (fun t => if t then x else y) es r := Zd e
noncomputable def plainTest : Expr → Bool
  | .UnaryOp .Not _ _ | .BoolOp .. | .IfExp .. | .Compare .. => false
  | _ => true
theorem isTrue_of_plain {e : Expr} (h : plainTest e = true) {env : Env} {whole : Sem Value} : isTrue e env whole = (do let v ← whole; standAt e.pos; holding [v] (truthy v)) := by
  cases e <;> first | rfl | cases h | skip
  rename_i op x pos
  cases op <;> first | rfl | cases h
theorem dent_value {e : Expr} {F : FM PV} (d : Den c b f RV (eval e f.env) F) (he : plainTest e = true := by rfl) :
    Den c b f RB (isTrue e f.env (eval e f.env)) (bindE F fun p => liftS (truthG p)) := by
  constructor
  intro A hA ρ s es y es' e' R
  obtain ⟨p, es₁, e1, e2⟩ := Zd e'
  refine wpAny_isTrue_value (wpAny_mono (d.run A hA ρ s es p es₁ e1 R) (fun v s₁ z => ?_) fun _ _ z => z) (isTrue_of_plain he)
  obtain ⟨ρ₁, R₁, g₁, q₁, r₁⟩ := z
  exact wpAny_mono ((Op1.k op_truth).run A hA ρ₁ s₁ es₁ v p y es' e2 r₁ R₁) (fun _ _ z => z.after g₁ q₁) fun _ _ z => z
theorem Zm {l r : Expr} {op : CmpOp} {pos : Pos} {F₁ F₂ : FM PV} {G : PV → PV → SM PV} (d₁ : Den c b f RV (eval l f.env) F₁) (d₂ : Den c b f RV (eval r f.env) F₂) (o : Op2 c b RV (compareOp op) G)
    (hm : behindInMarks op r = false := by rfl) :
    Den c b f RB (isTrue (.Compare l [op] [r] pos) f.env (eval (.Compare l [op] [r] pos) f.env)) (bindE (bindE F₁ fun p => bindE F₂ fun q => liftS (G p q)) fun p => liftS (truthG p)) := by
  constructor
  intro A hA ρ s es y es' e R
  obtain ⟨p, es₁, e1, e2⟩ := Zd e
  refine wpAny_isTrue_Compare1 ?_ hm
  refine wpAny_mono (two_then d₁ d₂ o hA e1 R) (fun a s₁ z => wpAny_mono z (fun v s₂ z => wpAny_mono z (fun r s₃ z => ?_) fun _ _ z => z) fun _ _ z => z) fun _ _ z => z
  obtain ⟨ρ₁, R₁, g₁, q₁, r₁⟩ := z
  exact wpAny_mono ((Op1.k op_truth).run A hA ρ₁ s₃ es₁ r p y es' e2 r₁ R₁) (fun _ _ z => z.after g₁ q₁) fun _ _ z => z
theorem dent_all_nil {op : BoolOp} : Den c b f RB (allTrue op [] f.env) (pureE (op == .And)) := by
  constructor
  intro A hA ρ s es y es' e R
  obtain ⟨rfl, rfl⟩ := spr e
  exact wpAny_pure (Ends.here R rfl)
theorem dent_and_cons {x : Expr} {rest : List Expr} {F G : FM Bool} (d : Den c b f RB (isTrue x f.env (eval x f.env)) F) (d' : Den c b f RB (allTrue .And rest f.env) G) : Den c b f RB (allTrue .And (x :: rest) f.env) (iteE F G (pureE false)) := by
  constructor
  intro A hA ρ s es y es' e R
  obtain ⟨t, es₁, e1, e2⟩ := iteE_some e
  refine wpAny_allTrue_And_cons (wpAny_mono (d.run A hA ρ s es t es₁ e1 R) (fun v s₁ z => ?_) fun _ _ z => z)
  obtain ⟨ρ₁, R₁, g₁, q₁, rfl⟩ := z
  cases v with
  | true => exact wpAny_mono (d'.run A hA ρ₁ s₁ es₁ y es' e2 R₁) (fun _ _ z => z.after g₁ q₁) fun _ _ z => z
  | false => obtain ⟨rfl, rfl⟩ := spr e2; exact ⟨ρ₁, R₁, g₁, q₁, rfl⟩
theorem dent_or_cons {x : Expr} {rest : List Expr} {F G : FM Bool} (d : Den c b f RB (isTrue x f.env (eval x f.env)) F) (d' : Den c b f RB (allTrue .Or rest f.env) G) : Den c b f RB (allTrue .Or (x :: rest) f.env) (iteE F (pureE true) G) := by
  constructor
  intro A hA ρ s es y es' e R
  obtain ⟨t, es₁, e1, e2⟩ := iteE_some e
  refine wpAny_allTrue_Or_cons (wpAny_mono (d.run A hA ρ s es t es₁ e1 R) (fun v s₁ z => ?_) fun _ _ z => z)
  obtain ⟨ρ₁, R₁, g₁, q₁, rfl⟩ := z
  cases v with
  | false => exact wpAny_mono (d'.run A hA ρ₁ s₁ es₁ y es' e2 R₁) (fun _ _ z => z.after g₁ q₁) fun _ _ z => z
  | true => obtain ⟨rfl, rfl⟩ := spr e2; exact ⟨ρ₁, R₁, g₁, q₁, rfl⟩
theorem dent_boolop {op : BoolOp} {values : List Expr} {pos : Pos} {F : FM Bool} (d : Den c b f RB (allTrue op values f.env) F) : Den c b f RB (isTrue (.BoolOp op values pos) f.env (eval (.BoolOp op values pos) f.env)) F :=
  ⟨fun A hA ρ s es y es' e R => wpAny_isTrue_BoolOp (d.run A hA ρ s es y es' e R)⟩
theorem den_ifexp {t x y : Expr} {pos : Pos} {T : FM Bool} {X Y : FM PV} (dt : Den c b f RB (isTrue t f.env (eval t f.env)) T) (dx : Den c b f RV (eval x f.env) X) (dy : Den c b f RV (eval y f.env) Y) :
    Den c b f RV (eval (.IfExp t x y pos) f.env) (iteE T X Y) := by
  constructor
  intro A hA ρ s es r es' e R
  obtain ⟨t, es₁, e1, e2⟩ := iteE_some e
  refine wpAny_IfExp (wpAny_mono (dt.run A hA ρ s es t es₁ e1 R) (fun v s₁ z => ?_) fun _ _ z => z)
  obtain ⟨ρ₁, R₁, g₁, q₁, rfl⟩ := z
  cases v with
  | true => exact wpAny_mono (dx.run A hA ρ₁ s₁ es₁ r es' e2 R₁) (fun _ _ z => z.after g₁ q₁) fun _ _ z => z
  | false => exact wpAny_mono (dy.run A hA ρ₁ s₁ es₁ r es' e2 R₁) (fun _ _ z => z.after g₁ q₁) fun _ _ z => z
noncomputable def seqE (x y : FM PF) : FM PF := bindE x fun r => match r with
  | .next => y
  | r => pureE r
theorem Zg : Den c b f RFl (execs [] f.env) (pureE .next) := by
  constructor
  intro A hA ρ s es y es' e R
  obtain ⟨rfl, rfl⟩ := spr e
  exact wpAny_execs_nil (Ends.here R .next)
theorem Zb {st : Stmt} {rest : List Stmt} {F G : FM PF} (d : Den c b f RFl (exec st f.env) F) (d' : Den c b f RFl (execs rest f.env) G) : Den c b f RFl (execs (st :: rest) f.env) (seqE F G) := by
  constructor
  intro A hA ρ s es y es' e R
  obtain ⟨t, es₁, e1, e2⟩ := Zd e
  refine wpAny_execs_cons (wpAny_mono (d.run A hA ρ s es t es₁ e1 R) (fun v s₁ z => ?_) fun _ _ z => z)
  obtain ⟨ρ₁, R₁, g₁, q₁, r₁⟩ := z
  cases r₁ with
  | next => exact wpAny_mono (d'.run A hA ρ₁ s₁ es₁ y es' e2 R₁) (fun _ _ z => z.after g₁ q₁) fun _ _ z => z
  | brk => obtain ⟨rfl, rfl⟩ := spr e2; exact ⟨ρ₁, R₁, g₁, q₁, .brk⟩
  | cont => obtain ⟨rfl, rfl⟩ := spr e2; exact ⟨ρ₁, R₁, g₁, q₁, .cont⟩
  | ret r => obtain ⟨rfl, rfl⟩ := spr e2; exact ⟨ρ₁, R₁, g₁, q₁, .ret r⟩
theorem den_if {t : Expr} {x y : List Stmt} {pos : Pos} {T : FM Bool} {X Y : FM PF} (dt : Den c b f RB (isTrue t f.env (eval t f.env)) T) (dx : Den c b f RFl (execs x f.env) X) (dy : Den c b f RFl (execs y f.env) Y) :
    Den c b f RFl (exec (.If t x y pos) f.env) (iteE T X Y) := by
  constructor
  intro A hA ρ s es r es' e R
  obtain ⟨t, es₁, e1, e2⟩ := iteE_some e
  refine wpAny_If (wpAny_mono (dt.run A hA ρ s es t es₁ e1 R) (fun v s₁ z => ?_) fun _ _ z => z)
  obtain ⟨ρ₁, R₁, g₁, q₁, rfl⟩ := z
  cases v with
  | true => exact wpAny_mono (dx.run A hA ρ₁ s₁ es₁ r es' e2 R₁) (fun _ _ z => z.after g₁ q₁) fun _ _ z => z
  | false => exact wpAny_mono (dy.run A hA ρ₁ s₁ es₁ r es' e2 R₁) (fun _ _ z => z.after g₁ q₁) fun _ _ z => z
theorem Zs {x : Expr} {pos : Pos} {X : FM PV} (dx : Den c b f RV (eval x f.env) X) : Den c b f RFl (exec (.Return (some x) pos) f.env) (bindE X fun p => pureE (.ret p)) := by
  constructor
  intro A hA ρ s es r es' e R
  obtain ⟨p, es₁, e1, e2⟩ := Zd e
  cases e2
  refine wpAny_Return_some (wpAny_mono (dx.run A hA ρ s es p es' e1 R) (fun v s₁ z => ?_) fun _ _ z => z)
  obtain ⟨ρ₁, R₁, g₁, q₁, r₁⟩ := z
  exact ⟨ρ₁, R₁, g₁, q₁, .ret r₁⟩
theorem den_continue {pos : Pos} : Den c b f RFl (exec (.Continue pos) f.env) (pureE .cont) := by
  constructor
  intro A hA ρ s es y es' e R
  obtain ⟨rfl, rfl⟩ := spr e
  exact wpAny_Continue (Ends.here R .cont)
theorem Yo {x : Expr} {pos : Pos} {X : FM PV} (dx : Den c b f RV (eval x f.env) X) (hi : interactive f.env = false) (hs : swapsWith x none pos.line f.env = pure false := by rfl) :
    Den c b f RFl (exec (.Expr x pos) f.env) (bindE X fun _ => pureE .next) := by
  constructor
  intro A hA ρ s es r es' e R
  obtain ⟨p, es₁, e1, e2⟩ := Zd e
  cases e2
  refine wpAny_Expr_any (wpAny_mono (dx.run A hA ρ s es p es' e1 R) (fun v s₁ z => ?_) fun _ _ z => z) hi hs
  obtain ⟨ρ₁, R₁, g₁, q₁, r₁⟩ := z
  exact ⟨ρ₁, R₁, g₁, q₁, .next⟩
noncomputable def setL (i : Nat) (p : PV) : FM Unit := fun es => if i < es.loc.length then some ((), { es with loc := es.loc.set i (some p) }) else none
noncomputable def setC (i : Nat) (p : PV) : FM Unit := fun es => if i < es.cel.length then some ((), { es with cel := es.cel.set i (some p) }) else none
theorem RelF.wrote {c : Ctx0} {f : FI} {ρ : Rho} {es : ES} {h h' : Heap} (R : RelF c.K f ρ es h) {a : Addr} (m : a ∈ f.fr) (hs : Heap.SameBut a h h') (lv : ∃ o, h'.get? a = some o) : RelS c.K ρ es.st h' ∧ Grow f.fr ρ h ρ h' := by
  obtain ⟨S, g⟩ := R.s.wrote (wr := [a]) (h' := h') (fun x q => by rw [List.mem_singleton.mp q]; exact R.like a m) (fun x o e n => (hs.2 x fun q => n (q ▸ List.mem_singleton.mpr rfl)).trans e) (fun x q => by rw [List.mem_singleton.mp q]; exact lv)
  exact ⟨S, g.wider fun x q => by rw [List.mem_singleton.mp q]; exact m⟩
theorem store_local {A : Around} {ρ : Rho} {s : Shared} {es : ES} {x : Str} {i : Nat} {v : Value} {p : PV} (ok : f.Ok) (hx : f.ln[i]? = some x) (R : RelF c.K f ρ es s.heap) (r : RV s.heap ρ v p) (hi : i < es.loc.length) {E : Value → Shared → Prop} :
    wpAny (model c.prog c.w) A (storeName f.env x v) (Ends c.K f RU ρ s () { es with loc := es.loc.set i (some p) }) E s := by
  obtain ⟨m, n, l, nm⟩ := R.l
  refine wpAny_storeName_local (ok.loc x (List.mem_of_getElem? hx)) n (fun h' n' hs => ?_) (by rw [ok.kind]; rfl)
  have mL : f.env.locals ∈ f.fr := List.mem_cons_self
  obtain ⟨S, g⟩ := R.wrote mL hs (by obtain ⟨o, _, _, e, _⟩ := n'; exact ⟨o, e⟩)
  refine ⟨ρ, ⟨S, ⟨_, n', fun j y e => ?_, fun y hy => ?_⟩, fun j y a e => ?_, R.like, R.nd⟩, g, ⟨rfl, rfl, rfl⟩, trivial⟩
  · by_cases hj : i = j
    · subst hj
      rw [hx] at e; obtain rfl := Option.some.inj e
      have : (es.loc.set i (some p))[i]? = some (some p) := by rw [List.getElem?_set_self hi]
      rw [this]
      simp only [if_true, Option.join]
      exact .some (r.grow g R.like)
    · have hne : y ≠ x := by
        rintro rfl
        have h1 := (List.getElem?_eq_some_iff.mp hx)
        have h2 := (List.getElem?_eq_some_iff.mp e)
        exact hj ((List.getElem_inj ok.nodup).mp (h1.2.trans h2.2.symm))
      rw [if_neg hne, List.getElem?_set_ne hj]
      exact (l j y e).grow g R.like
  · have hne : y ≠ x := by rintro rfl; exact hy (List.mem_of_getElem? hx)
    rw [if_neg hne]; exact nm y hy
  · obtain ⟨u, w, z⟩ := R.c j y a e
    have hne : a ≠ f.env.locals := by
      rintro rfl
      have := R.nd
      unfold FI.fr at this
      rw [List.nodup_cons] at this
      exact this.1 (List.mem_map.mpr ⟨(y, _), List.mem_of_getElem? e, rfl⟩)
    exact ⟨u, w.sameBut hs hne, z.grow g R.like⟩
theorem store_cell {A : Around} {ρ : Rho} {s : Shared} {es : ES} {x : Str} {i : Nat} {a : Addr} {v : Value} {p : PV} (ok : f.Ok) (hx : f.cn[i]? = some (x, a)) (hc : f.env.cells.lookup x = some a) (hk : f.env.kindOf x = some .cell) (R : RelF c.K f ρ es s.heap) (r : RV s.heap ρ v p)
    (hi : i < es.cel.length) {E : Value → Shared → Prop} :
    wpAny (model c.prog c.w) A (storeName f.env x v) (Ends c.K f RU ρ s () { es with cel := es.cel.set i (some p) }) E s := by
  obtain ⟨u, hu, ru⟩ := R.c i x a hx
  refine wpAny_storeName_cell ok.kind hk hc hu (fun h' n' hs => ?_)
  have mA : a ∈ f.fr := mem_cells hx
  obtain ⟨S, g⟩ := R.wrote mA hs (by obtain ⟨o, e, _⟩ := n'; exact ⟨o, e⟩)
  have fr := R.nd
  unfold FI.fr at fr
  rw [List.nodup_cons] at fr
  have hL : f.env.locals ≠ a := fun q => fr.1 (q ▸ List.mem_map.mpr ⟨(x, a), List.mem_of_getElem? hx, rfl⟩)
  refine ⟨ρ, ⟨S, R.l.carry (g.carry R.like) fun o e => (hs.2 _ hL).trans e, fun j y a' e => ?_, R.like, R.nd⟩, g, ⟨rfl, rfl, rfl⟩, trivial⟩
  by_cases hj : i = j
  · subst hj
    rw [hx] at e; obtain ⟨rfl, rfl⟩ := spr e
    refine ⟨_, n', ?_⟩
    rw [List.getElem?_set_self hi]
    exact .some (r.grow g R.like)
  · obtain ⟨u', w, z⟩ := R.c j y a' e
    have hne : a' ≠ a := by
      rintro rfl
      have h1 : (f.cn.map (·.2))[i]? = some a' := by rw [List.getElem?_map, hx]; rfl
      have h2 : (f.cn.map (·.2))[j]? = some a' := by rw [List.getElem?_map, e]; rfl
      have h1' := (List.getElem?_eq_some_iff.mp h1)
      have h2' := (List.getElem?_eq_some_iff.mp h2)
      exact hj ((List.getElem_inj fr.2).mp (h1'.2.trans h2'.2.symm))
    refine ⟨u', w.sameBut hs hne, ?_⟩
    rw [List.getElem?_set_ne hj]
    exact z.grow g R.like
noncomputable abbrev DenA (c : Ctx0) (b : Nat) (f : FI) (t : Expr) (F : PV → FM Unit) : Prop := DenK c b f RV RU (assign t f.env) F
theorem Zf {x : Str} {pos : Pos} {i : Nat} (ok : f.Ok) (hx : f.ln[i]? = some x) : DenA c b f (.Name x pos) (setL i) := by
  constructor
  intro A hA ρ s es v p y es' e r R
  unfold setL at e
  split at e <;> (first | obtain ⟨rfl, rfl⟩ := spr e | exact (nos e).elim)
  exact wpAny_assign_Name (store_local ok hx R r ‹_›)
theorem dena_cell {x : Str} {pos : Pos} {i : Nat} {a : Addr} (ok : f.Ok) (hx : f.cn[i]? = some (x, a)) (hc : f.env.cells.lookup x = some a) (hk : f.env.kindOf x = some .cell) : DenA c b f (.Name x pos) (setC i) := by
  constructor
  intro A hA ρ s es v p y es' e r R
  unfold setC at e
  split at e <;> (first | obtain ⟨rfl, rfl⟩ := spr e | exact (nos e).elim)
  exact wpAny_assign_Name (store_cell ok hx hc hk R r ‹_›)
theorem Zh {t value : Expr} {pos : Pos} {X : FM PV} {S : PV → FM Unit} (dx : Den c b f RV (eval value f.env) X) (ds : DenA c b f t S) (hs : swapsWithSole [t] value pos.line f.env = pure false := by rfl)
    (hw : swappedStores [t] value f.env = pure none := by rfl) (hst : assignEach [t] f.env = [(false, assign t f.env)] := by rfl) : Den c b f RFl (exec (.Assign [t] value pos) f.env) (bindE X fun p => bindE (S p) fun _ => pureE .next) := by
  constructor
  intro A hA ρ s es r es' e R
  obtain ⟨p, es₁, e1, e⟩ := Zd e
  obtain ⟨_, es₂, e2, e3⟩ := Zd e
  cases e3
  refine wpAny_Assign_stores (wpAny_mono (dx.run A hA ρ s es p es₁ e1 R) (fun v s₁ z => ?_) fun _ _ z => z) hs hw
  obtain ⟨ρ₁, R₁, g₁, q₁, r₁⟩ := z
  rw [hst]
  show wpAny _ _ (assign t f.env v) _ _ _
  refine wpAny_mono (ds.run A hA ρ₁ s₁ es₁ v p () es' e2 r₁ R₁) (fun _ s₂ z => ?_) fun _ _ z => z
  obtain ⟨ρ₂, R₂, g₂, q₂, r₂⟩ := z
  exact ⟨ρ₂, R₂, g₁.trans g₂, q₁.trans q₂, .next⟩
end
structure OpL (c : Ctx0) (b : Nat) (t : List Value → Sem Value) (G : List PV → SM PV) : Prop where
  run : ∀ A, AOk b A → ∀ ρ s st vs ps y st', G ps st = some (y, st') → RVs s.heap ρ vs ps → RelS c.K ρ st s.heap → wpAny (model c.prog c.w) A (t vs) (EndsS c.K RV ρ s y st') noE s
noncomputable abbrev FunOk (c : Ctx0) (b : Nat) (fv : Value) (G : List PV → SM PV) : Prop := OpL c b (fun vs => call fv vs) G
noncomputable def retOf : PF → PV
  | .ret p => p
  | _ => .none
section
variable {c : Ctx0} {b : Nat}
theorem Yn {h : Heap} {ρ : Rho} {names : List Str} {vs : List Value} {ps : List PV} (r : RVs h ρ vs ps) (hl : names.length = vs.length) (x : Str) :
    RVo h ρ ((names.zip vs).lookup x) ((names.idxOf? x).bind fun i => ps[i]?) := by
  induction names generalizing vs ps with
  | nil => simp [List.idxOf?]; exact .none
  | cons n names ih =>
    cases vs with
    | nil => simp at hl
    | cons v vs =>
      cases r with
      | @cons _ p _ ps rv rr =>
        rw [List.zip_cons_cons, List.lookup_cons, List.idxOf?_cons]
        by_cases hx : x == n
        · rw [hx]
          have : (n == x) = true := by rw [beq_iff_eq] at hx ⊢; exact hx.symm
          simp [this]; exact .some rv
        · have h1 : (x == n) = false := by simpa using hx
          have h2 : (n == x) = false := by
            cases q : n == x with
            | false => rfl
            | true => rw [beq_iff_eq] at q; rw [q] at h1; simp at h1
          rw [h1, h2]
          have := ih rr (by simpa using hl)
          cases q : names.idxOf? x with
          | none => rw [q] at this; simpa using this
          | some i => rw [q] at this; simpa using this
theorem Yg {β : Type} {l : List (Str × β)} {x : Str} (h : ∀ p ∈ l, p.1 ≠ x) : l.lookup x = none := by
  rw [List.lookup_eq_none_iff]
  intro p hp
  have := h p hp
  simp only [bne_iff_ne, ne_eq]
  exact fun e => this e.symm
theorem Yz {β : Type} {l : List (Str × β)} (nd : (l.map (·.1)).Nodup) (x : Str) : l.reverse.lookup x = l.lookup x := by
  induction l with
  | nil => rfl
  | cons p r ih =>
    obtain ⟨k, v⟩ := p
    rw [List.map_cons, List.nodup_cons] at nd
    rw [List.reverse_cons, List.lookup_append, ih nd.2, List.lookup_cons]
    cases q : x == k with
    | true =>
      rw [beq_iff_eq] at q; subst q
      rw [Yg fun p hp z => nd.1 (List.mem_map.mpr ⟨p, hp, z⟩)]; simp [List.lookup_cons]
    | false => cases z : r.lookup x <;> simp [List.lookup_cons, q, z]
theorem zip_names {names : List Str} {vs : List Value} (hl : names.length = vs.length) : (names.zip vs).map (·.1) = names := by
  rw [List.map_fst_zip]; omega
structure DefAt (K : Frag) (a : Addr) (fd : FuncData) (body : List Stmt) : Prop where
  at_ : ∃ oc od sl, K.lookup a = some ⟨oc, od, .func fd, sl⟩
  code : codeIn K fd.code fd.qualname = true
  body : fd.body = .stmts body
  co : fd.scope.isCoroutine = false
  gen : fd.scope.isGenerator = false
  kind : fd.scope.kind = .function
theorem get_ge {h : Heap} {a : Addr} (l : h.objs.size ≤ a) : h.get? a = none := by
  cases e : h.get? a with
  | none => rfl
  | some o => exact absurd (Heap.lt_size e) (Nat.not_lt.mpr l)
theorem RelS.left {K : Frag} {ρ ρ' : Rho} {st st' : List AO} {s s' : Shared} {h₀ : Heap} {tk : Nat} {wr : List Addr} {v : Value} {p : PV} (R : RelS K ρ st s.heap) (k : ∀ a o, s.heap.get? a = some o → h₀.get? a = some o) (fresh : ∀ a ∈ wr, s.heap.get? a = none)
    (R' : RelS K ρ' st' s'.heap) {fr : List Addr} (g : Grow fr (ρ.enter wr) h₀ ρ' s'.heap) (sub : ∀ a ∈ fr, a ∈ wr) (sm : Same { s with heap := h₀, toks := tk } s') (r : RV s'.heap ρ' v p) : EndsS K RV ρ s p st' v s' := by
  obtain ⟨e', r'⟩ := ρ'
  have hr : r' = wr ++ ρ.rsv := g.rsv
  subst hr
  obtain ⟨S, cy⟩ := RelS.leave (ρ := ⟨e', ρ.rsv⟩) (wr := wr) (h' := s'.heap) R' fun a o e _ => e
  refine ⟨⟨e', ρ.rsv⟩, S, ⟨fun a o e _ nr => g.keep a o (k a o e) (fun m => by rw [fresh a (sub a m)] at e; exact (nos e).elim) nr, g.pre, rfl, fun a m => ?_⟩, ⟨sm.1, sm.2.1, sm.2.2⟩, r.carry cy⟩
  rcases g.new a m with z | z | z
  · exact .inl z
  · exact .inr (.inr (fresh a (sub a z)))
  · refine .inr (.inr ?_)
    cases q : s.heap.get? a with
    | none => rfl
    | some o => rw [k a o q] at z; cases z
noncomputable abbrev DenArgs (c : Ctx0) (b : Nat) (f : FI) (pos : Pos) (args : List Expr) (F : FM (List PV)) : Prop := Den c b f RVs (spliced (backTo pos (starEach args f.env))) F
variable {f : FI}
theorem Ze {pos : Pos} : DenArgs c b f pos [] (pureE []) := by
  constructor
  intro A hA ρ s es y es' e R
  obtain ⟨rfl, rfl⟩ := spr e
  exact Calls.spliced_nil (Ends.here R .nil)
noncomputable def consE (X : FM PV) (Y : FM (List PV)) : FM (List PV) := bindE X fun p => bindE Y fun ps => pureE (p :: ps)
theorem Zc {pos : Pos} {x : Expr} {rest : List Expr} {X : FM PV} {Y : FM (List PV)} (dx : Den c b f RV (eval x f.env) X) (dy : DenArgs c b f pos rest Y)
    (hx : Yd x = true := by rfl) : DenArgs c b f pos (x :: rest) (consE X Y) := by
  constructor
  intro A hA ρ s es y es' e R
  obtain ⟨p, es₁, e1, e⟩ := Zd e
  obtain ⟨ps, es₂, e2, e3⟩ := Zd e
  obtain ⟨rfl, rfl⟩ := spr e3
  rw [starEach_of hx]
  refine Calls.spliced_cons (wpAny_mono (dx.run A hA ρ s es p es₁ e1 R) (fun v s₁ z => ?_) fun _ _ z => z)
  obtain ⟨ρ₁, R₁, g₁, q₁, r₁⟩ := z
  refine wpAny_mono (dy.run A hA ρ₁ s₁ es₁ ps _ e2 R₁) (fun vs s₂ z => ?_) fun _ _ z => z
  obtain ⟨ρ₂, R₂, g₂, q₂, r₂⟩ := z
  exact ⟨ρ₂, R₂, g₁.trans g₂, q₁.trans q₂, .cons (r₁.grow g₂ R₁.like) r₂⟩
noncomputable def KeepOk (K : Frag) (fv : Value) : Prop := ∀ (M : Model) (h : Heap), K.In h → ∃ k, (k = Keeper.frame ∨ k = Keeper.machine ∨ k = Keeper.boundFrame) ∧ Looks M h (keeperOf fv) k
theorem Zk {K : Frag} {a : Addr} (h : keepIn K (.ref a) = true) : KeepOk K (.ref a) := fun M hp X => by
  obtain ⟨k, x, y⟩ := looks_keep (M := M) h X
  exact ⟨k, x.elim .inl (fun e => .inr (.inl e)), y⟩
theorem Zi {K : Frag} {id : String} : KeepOk K (.builtin id) := fun M hp X => ⟨.machine, .inr (.inl rfl), Looks.of_pure rfl⟩
theorem Z3 {K : Frag} {id : String} : KeepOk K (.type id) := fun M hp X => ⟨.machine, .inr (.inl rfl), Looks.of_pure rfl⟩
theorem Yk {M : Model} {A : Around} {E : Value → Shared → Prop} {s : Shared} {fv : Value} {pos : Pos} {args : List Expr} {env : Env} {Q : Args → Shared → Prop} (hst : (backTo pos (starEach args env)).all (fun x => !x.1) = true)
    (h : wpAny M A (spliced (backTo pos (starEach args env))) (fun vs s' => Q ⟨vs, []⟩ s') E s) : wpAny M A (evalArgs fv true (backTo pos (starEach args env)) []) Q E s := by
  cases hb : backTo pos (starEach args env) with
  | nil =>
    rw [hb] at h
    unfold evalArgs
    show wpAny M A (spliced [] >>= _) Q E s
    refine wpAny_bind (wpAny_mono h (fun vs s' h' => ?_) fun _ _ x => x)
    refine wpAny_holding ?_
    exact wpAny_bind (wpAny_pure (wpAny_bind (wpAny_pure (wpAny_pure h'))))
  | cons x r =>
    obtain ⟨b, t⟩ := x
    rw [hb] at h hst
    have : b = false := by
      rw [List.all_cons, Bool.and_eq_true] at hst
      simpa using hst.1
    subst this
    exact Calls.evalArgs_plain h
theorem den_callWith {pos : Pos} {fv : Value} {args : List Expr} {FA : FM (List PV)} {G : List PV → SM PV} (hk : KeepOk c.K fv) (da : DenArgs c b f pos args FA) (o : OpL c b (fun vs => call fv vs) G)
    (ha : args.all Yd = true := by rfl) :
    Den c b f RV (callWith pos fv [] (backTo pos (starEach args f.env)) []) (bindE FA fun ps => liftS (G ps)) := by
  constructor
  intro A hA ρ s es y es' e R
  obtain ⟨ps, es₁, e1, e⟩ := Zd e
  obtain ⟨st', e2, rfl⟩ := Z2 e
  have hst := Yw (env := f.env) (pos := pos) ha
  refine callWith_of (P := c.K.In) ?_ (hk _) (Yk hst (wpAny_mono (da.run A hA ρ s es ps es₁ e1 R) (fun vs s₁ z => ?_) fun _ _ z => z))
  · rw [List.any_nil, Bool.or_false, List.any_eq_not_all_not, Bool.not_eq_false']
    simpa using hst
  · obtain ⟨ρ₁, R₁, g₁, q₁, r₁⟩ := z
    refine ⟨R₁.s.top, wpAny_mono (o.run A hA ρ₁ s₁ es₁.st vs ps y st' e2 r₁ R₁.s) (fun _ _ z => (z.toF R₁).after g₁ q₁) fun _ _ z => z⟩
theorem Zt {x : Str} {np pos : Pos} {fv : Value} {args : List Expr} {FA : FM (List PV)} {G : List PV → SM PV} (dn : Den c b f RV (eval (.Name x np) f.env) (pureE (.raw fv))) (hk : KeepOk c.K fv)
    (da : DenArgs c b f pos args FA) (o : OpL c b (fun vs => call fv vs) G) (ha : args.all Yd = true := by rfl) :
    Den c b f RV (eval (.Call (.Name x np) args [] pos) f.env) (bindE FA fun ps => liftS (G ps)) := by
  constructor
  intro A hA ρ s es y es' e R
  refine wpAny_Call_NameR (wpAny_mono (dn.run A hA ρ s es _ es rfl R) (fun v s₁ z => ?_) fun _ _ z => z)
  obtain ⟨ρ₁, R₁, g₁, q₁, r₁⟩ := z
  (first | obtain ⟨_, rfl⟩ := r₁.inv | cases r₁)
  exact wpAny_mono ((den_callWith hk da o ha).run A hA ρ₁ s₁ es y es' e R₁) (fun _ _ z => z.after g₁ q₁) fun _ _ z => z
end
section
variable {c : Ctx0} {b : Nat} {f : FI}
structure MethAt (c : Ctx0) (name : Str) (P : PV → List AO → Bool) (fv : Value) : Prop where
  run : ∀ A pl ρ s st v p Q, P p st = true → RV s.heap ρ v p → RelS c.K ρ st s.heap → Q (fv, [v]) s → wpAny (model c.prog c.w) A (getMethod v name pl) Q noE s
theorem Zl {o : Expr} {name : Str} {apos pos : Pos} {args : List Expr} {fv : Value} {P : PV → List AO → Bool} {FO : FM PV} {FA : FM (List PV)} {G : List PV → SM PV}
    (dO : Den c b f RV (eval o f.env) FO) (m : MethAt c name P fv) (hk : KeepOk c.K fv) (da : DenArgs c b f pos args FA) (op : OpL c b (fun vs => call fv vs) G)
    (hbase : notSuper o = true := by rfl) (hline : (apos.endLine == pos.line) = true := by rfl) (ha : (args.all Yd && decide (args.length < 29)) = true := by rfl) :
    Den c b f RV (eval (.Call (.Attribute o name apos) args [] pos) f.env) (bindE FO fun p => guardE (P p) (bindE FA fun ps => liftS (G (p :: ps)))) := by
  constructor
  intro A hA ρ s es y es' e R
  obtain ⟨p, es₁, e1, e⟩ := Zd e
  unfold guardE at e
  split at e <;> try exact (nos e).elim
  rename_i hP
  obtain ⟨ps, es₂, e2, e⟩ := Zd e
  obtain ⟨st', e3, rfl⟩ := Z2 e
  rw [Bool.and_eq_true] at ha
  have hst := Yw (env := f.env) (pos := pos) ha.1
  have hlen : args.length < 29 := by simpa using ha.2
  have hfew : methodCallForm (args.length + ([] : List Keyword).length) (backTo pos (starEach args f.env)) (backToKw pos (keywordEach [] f.env)) = true := by
    unfold methodCallForm
    rw [hst]
    show (true && true && decide (args.length + 0 + 0 < 30)) = true
    simp; omega
  rw [arm_eval_Call, Ym hbase]
  refine wpAny_bind (wpAny_mono (dO.run A hA ρ s es p es₁ e1 R) (fun v s₁ z => ?_) fun _ _ z => z)
  obtain ⟨ρ₁, R₁, g₁, q₁, r₁⟩ := z
  refine wpAny_bind (wpAny_standAt ?_)
  have hpos : methodCallPos true o f.env apos pos = pure pos := by unfold methodCallPos; simp [hline]
  unfold methodCall
  rw [hfew]
  refine wpAny_bind (wpAny_holding (m.run A _ ρ₁ s₁ es₁.st v p _ hP r₁ R₁.s ?_))
  refine wpAny_bind (wpAny_of_eq hpos ?_)
  refine callWith_of (P := c.K.In) ?_ (hk _) (Yk hst (wpAny_mono (da.run A hA ρ₁ s₁ es₁ ps es₂ e2 R₁) (fun vs s₂ z => ?_) fun _ _ z => z))
  · rw [show (backToKw pos (keywordEach [] f.env)) = [] from rfl, List.any_nil, Bool.or_false, List.any_eq_not_all_not, Bool.not_eq_false']
    simpa using hst
  · obtain ⟨ρ₂, R₂, g₂, q₂, r₂⟩ := z
    refine ⟨R₂.s.top, wpAny_mono (op.run A hA ρ₂ s₂ es₂.st (v :: vs) (p :: ps) y st' e3 (.cons (r₁.grow g₂ R₁.like) r₂) R₂.s) (fun _ _ z => ((z.toF R₂).after g₂ q₂).after g₁ q₁) fun _ _ z => z⟩
noncomputable def isStr (p : PV) (_ : List AO) : Bool := match p with | .str _ => true | _ => false
theorem meth_str {name : Str} {id : String} (slot : Slot "str" name id) (hty : typeOf (.builtin id) = pure (.type "method_descriptor")) : MethAt c name isStr (.builtin id) := by
  constructor
  intro A pl ρ s st v p Q hP r R h
  cases r <;> first | cases hP | skip
  exact getMethod_builtin (typeIs_str _ _ _) F.plainAttrs_str slot hty (fun _ e => nomatch e) h
noncomputable def str1 (g : Str → Str) (ps : List PV) : SM PV := fun st => match ps with | [.str x] => if (g x).length ≤ sizeLine then some (.str (g x), st) else none | _ => none
theorem notLong {n : Nat} (h : n ≤ sizeLine) : Builtin.Str.tooLong n = false := by
  unfold Builtin.Str.tooLong
  simp only [decide_eq_false_iff_not, gt_iff_lt, Nat.not_lt]
  exact h
theorem op_lower : OpL c b (fun vs => call (.builtin "str.lower") vs) (str1 Txt.lower) := by
  constructor
  intro A hA ρ s st vs ps y st' e r R
  unfold str1 at e; split at e <;> try exact (nos e).elim
  split at e <;> (first | obtain ⟨rfl, rfl⟩ := spr e | exact (nos e).elim)
  rename_i hz
  obtain ⟨_, _, rfl, ra, rr⟩ := r.inv; obtain rfl := rr.inv; obtain ⟨_, rfl⟩ := ra.inv; exact SC.lower (notLong hz) (EndsS.tok R (.str _ _))
noncomputable def strIndex (ps : List PV) : SM PV := fun st => match ps with
  | [.str x, .str y] => (match Builtin.Str.occurrences x y 0 x.length 1 with
    | i :: _ => some (.int i, st)
    | [] => none)
  | _ => none
theorem op_strIndex : OpL c b (fun vs => call (.builtin "str.index") vs) strIndex := by
  constructor
  intro A hA ρ s st vs ps y st' e r R
  unfold strIndex at e; split at e <;> try exact (nos e).elim
  split at e <;> (first | obtain ⟨rfl, rfl⟩ := spr e | exact (nos e).elim)
  rename_i ho
  obtain ⟨_, _, rfl, ra, rr⟩ := r.inv; obtain ⟨_, _, rfl, rb, rs⟩ := rr.inv; obtain rfl := rs.inv; obtain ⟨_, rfl⟩ := ra.inv; obtain ⟨_, rfl⟩ := rb.inv; exact SC.index ho (EndsS.tok R (.int _ _))
noncomputable def getI (p q : PV) : SM PV := fun st => match q with
  | .int i => if 0 ≤ i ∧ i < 2 ^ 62 then (match p with
    | .str x => (match x.cps[i.toNat]? with
      | some u => some (.str ⟨#[u]⟩, st)
      | none => none)
    | .tup xs => (match xs[i.toNat]? with
      | some u => some (u, st)
      | none => none)
    | p => (match items? st p with
      | some xs => (match xs[i.toNat]? with
        | some u => some (u, st)
        | none => none)
      | none => none)) else none
  | _ => none
theorem seqIndex_of {i : Int} {n : Nat} (h0 : 0 ≤ i) (h : i.toNat < n) : seqIndex? i n = some i.toNat := by
  unfold seqIndex?
  have h1 : ¬ i < 0 := by omega
  have h2 : i < n := by omega
  simp only [h1, if_false]
  simp [h0, h2]
theorem RVs.getAt {h : Heap} {ρ : Rho} {vs : Array Value} {ps : List PV} (r : RVs h ρ vs.toList ps) {i : Nat} {p : PV} (e : ps[i]? = some p) : ∃ v, vs[i]? = some v ∧ RV h ρ v p := by
  obtain ⟨v, a, b⟩ := r.get e
  exact ⟨v, by simpa using a, b⟩
theorem op_subscript {value slice : Expr} (hs : ∀ o i, subscripted slice false o i = operate [o, i] (getItem o i) := by intro _ _; rfl) : Op2 c b RV (fun o i => subscriptTail value slice o i) getI := by
  constructor
  intro A hA ρ s st x z x' z' y st' e r r' R
  unfold getI at e
  split at e <;> try exact (nos e).elim
  rename_i i
  split at e <;> try exact (nos e).elim
  rename_i hi
  obtain ⟨tk, rfl⟩ := r'.inv
  split at e
  · rename_i u
    split at e <;> (first | obtain ⟨rfl, rfl⟩ := spr e | exact (nos e).elim)
    rename_i cp hc
    obtain ⟨t, rfl⟩ := r.inv
    have hlt : i.toNat < u.length := (Array.getElem?_eq_some_iff.mp hc).1
    exact tail_any (typeIs_str _ _ _) slot_str_getitem.lookup (PyProof.Rows.getItem_str (by simp; omega) (by rw [seqIndex_of hi.1 hlt]; exact hc) (EndsS.tok R (.str _ _))) (hs _ _)
  · rename_i xs
    split at e <;> (first | obtain ⟨rfl, rfl⟩ := spr e | exact (nos e).elim)
    rename_i hx
    obtain ⟨a, vs, na, q, rr, rfl⟩ := r.inv
    obtain ⟨v, hv, rv⟩ := rr.get hx
    have ht : IsTup s.heap a vs.toArray := q
    have hlt : i.toNat < vs.length := (List.getElem?_eq_some_iff.mp hv).1
    exact tail_any ht.typeIs slot_tuple_getitem.lookup (getItem_tuple ht (by omega) (by omega) (by rw [List.size_toArray]; exact seqIndex_of hi.1 hlt) (by simpa using hv) (EndsS.here R rv)) (hs _ _)
  · split at e <;> try exact (nos e).elim
    rename_i xs hxs
    split at e <;> (first | obtain ⟨rfl, rfl⟩ := spr e | exact (nos e).elim)
    rename_i hx
    obtain ⟨a, vs, rfl, hl, rr⟩ := items_of R r hxs
    replace hl := isL hl
    obtain ⟨v, hv, rv⟩ := rr.getAt hx
    exact tail_any hl.typeIs slot_list_getitem.lookup (wpAny_getItem_list hl hi.1 (by omega) hv (EndsS.here R rv)) (hs _ _)
theorem Zu {value slice : Expr} {pos : Pos} {F₁ F₂ : FM PV} (d₁ : Den c b f RV (eval value f.env) F₁) (d₂ : Den c b f RV (eval slice f.env) F₂)
    (hs : ∀ o i, subscripted slice false o i = operate [o, i] (getItem o i) := by intro _ _; rfl) :
    Den c b f RV (eval (.Subscript value slice pos) f.env) (bindE F₁ fun p => bindE F₂ fun q => liftS (getI p q)) :=
  ⟨fun A hA ρ s es y es' e R => Subscript_ (two_then d₁ d₂ (op_subscript hs) hA e R)⟩
end
noncomputable def Kept (wr : List Addr) (h h' : Heap) : Prop := ∀ a o, h.get? a = some o → a ∉ wr → h'.get? a = some o
theorem Kept.refl {wr : List Addr} {h : Heap} : Kept wr h h := fun _ _ e _ => e
theorem Kept.of_same {h h' : Heap} {wr : List Addr} {a : Addr} (m : a ∈ wr) (hs : Heap.SameBut a h h') : Kept wr h h' := fun x o e n => (hs.2 x fun q => n (q ▸ m)).trans e
theorem Kept.of_extBut {h h' : Heap} {wr : List Addr} {a : Addr} (m : a ∈ wr) (hs : Heap.ExtBut a h h') : Kept wr h h' := fun x o e n => hs x o (fun q => n (q ▸ m)) e
structure Src (c : Ctx0) (A : Around) (target : Expr) (it : Value) (wr : List Addr) (chk : List AO → Bool) (items : List PV) (pos : Nat → Heap → Rho → Prop) : Prop where
  stable : ∀ k h ρ h' ρ', pos k h ρ → Carry h ρ h' ρ' → (∀ a ∈ wr, ∀ o, h.get? a = some o → h'.get? a = some o) → pos k h' ρ'
  live : ∀ k h ρ, pos k h ρ → ∀ a ∈ wr, ∃ o, h.get? a = some o
  next : ∀ ρ st k s x, items[k]? = some x → pos k s.heap ρ → RelS c.K ρ st s.heap → chk st = true → (∀ a ∈ wr, a ∈ ρ.rsv) →
    wpAny (model c.prog c.w) A (pyNext it) (fun r s₁ => ∃ u, r = some u ∧ wpAny (model c.prog c.w) A (letOwnedTupleGo target it u)
      (fun _ s₂ => RV s₂.heap ρ u x ∧ pos (k + 1) s₂.heap ρ ∧ Kept wr s.heap s₂.heap ∧ Same s s₂) noE s₁) noE s
  done : ∀ ρ st s, pos items.length s.heap ρ → RelS c.K ρ st s.heap → chk st = true → (∀ a ∈ wr, a ∈ ρ.rsv) →
    wpAny (model c.prog c.w) A (pyNext it) (fun r s₁ => r = none ∧ Kept wr s.heap s₁.heap ∧ Same s s₁) noE s
  self : ∀ k s ρ (Q : Value → Shared → Prop), pos k s.heap ρ → Q it s → wpAny (model c.prog c.w) A (pyIter it) Q noE s
noncomputable def loopK (rest : FM PF) : PF → FM PF
  | .next | .cont => rest
  | .brk => pureE .next
  | .ret p => pureE (.ret p)
noncomputable def Zw (chk : List AO → Bool) (S : PV → FM Unit) (B : FM PF) : List PV → FM PF
  | [] => guardE chk (pureE .next)
  | x :: r => guardE chk (bindE (S x) fun _ => bindE B (loopK (Zw chk S B r)))
section
variable {c : Ctx0} {b : Nat} {f : FI}
structure RelL (K : Frag) (f : FI) (wr : List Addr) (ρ : Rho) (es : ES) (h : Heap) : Prop where
  r : RelF K f ρ es h
  hw : ∀ a ∈ wr, a ∈ ρ.rsv
  hd : ∀ a ∈ wr, a ∉ f.fr
theorem RelL.kept {K : Frag} {wr : List Addr} {ρ : Rho} {es : ES} {h h' : Heap} (R : RelL K f wr ρ es h) (k : Kept wr h h') (lv : ∀ a ∈ wr, ∃ o, h'.get? a = some o) : RelL K f wr ρ es h' ∧ Grow wr ρ h ρ h' := by
  obtain ⟨S, g⟩ := R.r.s.wrote R.hw k lv
  exact ⟨⟨R.r.carry S (g.carry R.hw) (fun a m o e => k a o e fun z => R.hd a z m) R.r.like, R.hw, R.hd⟩, g⟩
theorem RelL.step {K : Frag} {wr : List Addr} {ρ ρ' : Rho} {es es' : ES} {h h' : Heap} (R : RelL K f wr ρ es h) (R' : RelF K f ρ' es' h') (g : Grow f.fr ρ h ρ' h') : RelL K f wr ρ' es' h' ∧ (∀ a ∈ wr, ∀ o, h.get? a = some o → h'.get? a = some o) :=
  ⟨⟨R', fun a m => g.rsv ▸ R.hw a m, R.hd⟩, fun a m o e => g.keep a o e (R.hd a m) (rsv_apart R.r.s.nodup (R.hw a m))⟩
theorem for_run {A : Around} {target : Expr} {it : Value} {wr : List Addr} {chk : List AO → Bool} {items : List PV} {pos : Nat → Heap → Rho → Prop} {body : List Stmt} {S : PV → FM Unit} {B : FM PF}
    (src : Src c A target it wr chk items pos) (hA : AOk b A) (ds : DenA c b f target S) (db : Den c b f RFl (execs body f.env) B) {ρ₀ : Rho} {s₀ : Shared} {es₀ es' : ES} {y : PF}
    (e : Zw chk S B items es₀ = some (y, es')) (R₀ : RelL c.K f wr ρ₀ es₀ s₀.heap) (hp : pos 0 s₀.heap ρ₀) :
    codeAny (model c.prog c.w) A (.forLoop target it body [] f.env) (fun r s' => match r with
      | .ok fl => ∃ ρ' h', P5 (RelL c.K f wr ρ' es' h') (Kept wr h' s'.heap) (Grow (f.fr ++ wr) ρ₀ s₀.heap ρ' h') (Same s₀ s') (RFl h' ρ' fl y)
      | .error _ => False) s₀ := by
  refine codeAny_forLoop_any (fun n s => ∃ k ρ es, P7 (n = items.length - k) (k ≤ items.length) (Zw chk S B (items.drop k) es = some (y, es')) (RelL c.K f wr ρ es s.heap) (pos k s.heap ρ) (Grow (f.fr ++ wr) ρ₀ s₀.heap ρ s.heap) (Same s₀ s)) ?_ items.length ⟨0, ρ₀, es₀, by simp, Nat.zero_le _, by simpa using e, R₀, hp, .refl, .refl⟩
  rintro n s ⟨k, ρ, es, rfl, hk, e, R, hp, g, sm⟩
  by_cases hlt : k < items.length
  · have hx : items[k]? = some items[k] := by simp [hlt]
    rw [List.drop_eq_getElem_cons hlt] at e
    obtain ⟨hc, e⟩ := guardE_some e
    obtain ⟨_, es₁, e1, e⟩ := Zd e
    obtain ⟨fl, es₂, e2, e3⟩ := Zd e
    refine wpAny_mono (src.next ρ es.st k s _ hx hp R.r.s hc R.hw) (fun r s₁ z => ?_) fun _ _ z => z.elim
    obtain ⟨u, rfl, z⟩ := z
    refine wpAny_mono z (fun _ s₂ z => ?_) fun _ _ z => z.elim
    obtain ⟨ru, hp₂, ad, sm₂⟩ := z
    obtain ⟨R₂, g₂⟩ := R.kept ad (src.live _ _ _ hp₂)
    have ga : Grow (f.fr ++ wr) ρ₀ s₀.heap ρ s₂.heap := g.trans (g₂.wider fun a m => List.mem_append_right _ m)
    refine wpAny_mono (ds.run A hA ρ s₂ es u _ _ es₁ e1 ru R₂.r) (fun _ s₃ z => ?_) fun _ _ z => z.elim
    obtain ⟨ρ₃, R₃, g₃, q₃, _⟩ := z
    refine wpAny_mono (db.run A hA ρ₃ s₃ es₁ fl es₂ e2 R₃) (fun flv s₄ z => ?_) fun _ _ z => z.elim
    obtain ⟨ρ₄, R₄, g₄, q₄, rf⟩ := z
    have g34 := g₃.trans g₄
    have sm4 : Same s₀ s₄ := sm.trans (sm₂.trans (q₃.trans q₄))
    have gt : Grow (f.fr ++ wr) ρ₀ s₀.heap ρ₄ s₄.heap := ga.trans (g34.wider fun a m => List.mem_append_left _ m)
    obtain ⟨RL, kw⟩ := R₂.step R₄ g34
    have again : Zw chk S B (items.drop (k + 1)) es₂ = some (y, es') → ∃ m, m < items.length - k ∧ ∃ k ρ es, P7 (m = items.length - k) (k ≤ items.length) (Zw chk S B (items.drop k) es = some (y, es')) (RelL c.K f wr ρ es s₄.heap) (pos k s₄.heap ρ) (Grow (f.fr ++ wr) ρ₀ s₀.heap ρ s₄.heap) (Same s₀ s₄):= fun e =>
      ⟨items.length - (k + 1), by omega, k + 1, ρ₄, es₂, rfl, hlt, e, RL, src.stable _ _ _ _ _ hp₂ (g34.carry R₂.r.like) kw, gt, sm4⟩
    cases rf with
    | next => exact again e3
    | cont => exact again e3
    | brk => obtain ⟨rfl, rfl⟩ := spr e3; exact ⟨ρ₄, _, RL, .refl, gt, sm4, .next⟩
    | ret r => obtain ⟨rfl, rfl⟩ := spr e3; exact ⟨ρ₄, _, RL, .refl, gt, sm4, .ret r⟩
  · have hk' : k = items.length := by omega
    subst hk'
    rw [List.drop_length] at e
    obtain ⟨hc, e⟩ := guardE_some e
    obtain ⟨rfl, rfl⟩ := spr e
    refine wpAny_mono (src.done ρ _ s hp R.r.s hc R.hw) (fun r s₁ z => ?_) fun _ _ z => z.elim
    obtain ⟨rfl, ad, sm₁⟩ := z
    exact wpAny_execs_nil ⟨ρ, _, R, ad, g, sm.trans sm₁, .next⟩
noncomputable abbrev Its := List PV × (List AO → Bool)
structure DenIt (c : Ctx0) (b : Nat) (f : FI) (target iter : Expr) (F : FM Its) : Prop where
  run : ∀ A, AOk b A → ∀ ρ s es y es', F es = some (y, es') → RelF c.K f ρ es s.heap → wpAny (model c.prog c.w) A (eval iter f.env) (fun v s₁ => wpAny (model c.prog c.w) A (pyIter v) (fun it s₂ =>
    ∃ ρ' wr pos, P6 (RelF c.K f (ρ'.enter wr) es' s₂.heap) (Grow f.fr ρ s.heap ρ' s₂.heap) (Same s s₂) (Src c A target it wr y.2 y.1 pos) (pos 0 s₂.heap (ρ'.enter wr)) ((∀ a ∈ wr, s.heap.get? a = none))) noE s₁) noE s
theorem RelL.left {K : Frag} {wr : List Addr} {ρ ρ₀ ρ₁ : Rho} {es : ES} {h₀ h₁ h₂ h' : Heap} (R : RelL K f wr ρ es h₂) (kp : Kept wr h₂ h') (g₁ : Grow f.fr ρ₀ h₀ ρ₁ h₁) (g : Grow (f.fr ++ wr) (ρ₁.enter wr) h₁ ρ h₂) (fresh : ∀ a ∈ wr, h₀.get? a = none)
    (like : ∀ a ∈ f.fr, a ∈ ρ₁.rsv) : ∃ ρ', P3 (RelF K f ρ' es h') (Grow f.fr ρ₀ h₀ ρ' h') (Carry h₂ ρ h' ρ') := by
  obtain ⟨e', r'⟩ := ρ
  have hr : r' = wr ++ ρ₁.rsv := g.rsv
  subst hr
  obtain ⟨S, cy⟩ := RelS.leave (ρ := ⟨e', ρ₁.rsv⟩) (wr := wr) (h' := h') R.r.s kp
  refine ⟨⟨e', ρ₁.rsv⟩, R.r.carry S cy (fun a m o e => kp a o e fun z => R.hd a z m) like, ?_, cy⟩
  refine ⟨fun a o e nf nr => ?_, g₁.pre.trans g.pre, g₁.rsv, fun a m => ?_⟩
  · have nw : a ∉ wr := fun m => by rw [fresh a m] at e; exact (nos e).elim
    have e1 := g₁.keep a o e nf nr
    refine kp a o (g.keep a o e1 (fun m => (List.mem_append.mp m).elim nf nw) fun m => ?_) nw
    rcases g₁.new a m with z | z | z
    · exact nr z
    · exact nf z
    · rw [e] at z; cases z
  · have old : a ∈ ρ₁.flatten → a ∈ ρ₀.flatten ∨ a ∈ f.fr ∨ h₀.get? a = none := g₁.new a
    rcases g.new a m with z | z | z
    · exact old z
    · rcases List.mem_append.mp z with z | z
      · exact .inr (.inl z)
      · exact .inr (.inr (fresh a z))
    · by_cases hf : a ∈ f.fr
      · exact .inr (.inl hf)
      by_cases hr : a ∈ ρ₀.flatten
      · exact .inl hr
      refine .inr (.inr ?_)
      cases q : h₀.get? a with
      | none => rfl
      | some o => rw [g₁.keep a o q hf hr] at z; cases z
theorem RelF.enters {K : Frag} {wr : List Addr} {ρ ρ' : Rho} {es : ES} {h h' h₀ : Heap} (R : RelF K f (ρ'.enter wr) es h') (like : ∀ a ∈ f.fr, a ∈ ρ'.rsv) : RelL K f wr (ρ'.enter wr) es h' :=
  ⟨R, fun a m => List.mem_append_left _ m, fun a m q => by
    have n := (List.nodup_append.mp R.s.nodup).2.1
    exact (List.nodup_append.mp n).2.2 a m a (like a q) rfl⟩
noncomputable def forE (I : FM Its) (S : PV → FM Unit) (B : FM PF) : FM PF := bindE I fun p => Zw p.2 S B p.1
theorem den_for {target iter : Expr} {body : List Stmt} {ps : Pos} {I : FM Its} {S : PV → FM Unit} {B : FM PF}
    (di : DenIt c b f target iter I) (ds : DenA c b f target S) (db : Den c b f RFl (execs body f.env) B)
    (hs : ∀ x, foldedSetIterable iter f.env x = pure x := by intro _; rfl) : Den c b f RFl (exec (.For target iter body [] ps) f.env) (forE I S B) := by
  constructor
  intro A hA ρ s es y es' e R
  obtain ⟨p, es₁, e1, e⟩ := Zd e
  refine wpAny_For (wpAny_mono (di.run A hA ρ s es p es₁ e1 R) (fun v s₁ z => wpAny_mono z (fun it s₂ z => ?_) fun _ _ z => z) fun _ _ z => z) hs
  obtain ⟨ρ₁, wr, pos, R₁, g₁, q₁, src, hp, fresh⟩ := z
  have like : ∀ a ∈ f.fr, a ∈ ρ₁.rsv := fun a m => g₁.rsv ▸ R.like a m
  refine codeAny_mono (for_run src hA ds db e (R₁.enters (h := s.heap) (h₀ := s.heap) (ρ := ρ) like) hp) fun r s₃ z => ?_
  cases r with
  | error e => exact z.elim
  | ok fl =>
    obtain ⟨ρ₂, h₂, RL, kp, g₂, q₂, rf⟩ := z
    obtain ⟨ρ', R', g', cy⟩ := RL.left kp g₁ g₂ fresh like
    refine ⟨ρ', R', g', q₁.trans q₂, ?_⟩
    cases rf with
    | next => exact .next
    | brk => exact .brk
    | cont => exact .cont
    | ret r => exact .ret (r.carry cy)
end
section
variable {c : Ctx0} {b : Nat} {f : FI}
theorem Kept.grow {wr : List Addr} {ρ : Rho} {h h' : Heap} (x : Kept wr h h') : Grow wr ρ h ρ h' := ⟨fun a o e n _ => x a o e n, List.prefix_rfl, rfl, fun _ m => .inl m⟩
theorem src_walks {A : Around} {target : Expr} {I : Addr} {fp wr wr' : List Addr} {n : Nat} {P : Nat → Value → Prop} {St : Nat → Heap → Prop} {items : List PV} (W : Walks c.prog c.w A I fp wr n P St) (hn : items.length = n) (hsub : ∀ a ∈ wr, a ∈ wr')
    (live : ∀ k h, St k h → ∀ a ∈ wr', ∃ o, h.get? a = some o) (go : ∀ k s u Q, St k s.heap → Q () s → wpAny (model c.prog c.w) A (letOwnedTupleGo target (.ref I) u) Q noE s) :
    Src c A target (.ref I) wr' (fun _ => true) items (fun k h ρ => St k h ∧ (∀ a ∈ fp, a ∉ wr' → a ∉ ρ.own ∧ ∃ o, h.get? a = some o) ∧ (∀ i x, items[i]? = some x → ∀ u, P i u → RV h ρ u x)) where
  stable := fun k h ρ h' ρ' p g kw => by
    obtain ⟨st, q, r⟩ := p
    refine ⟨W.frame k h h' st fun a m o e => ?_, fun a m nw => ?_, fun i x e u z => (r i x e u z).carry g⟩
    · by_cases mw : a ∈ wr'
      · exact kw a mw o e
      · exact (g.keep a o e (q a m mw).1).1
    · obtain ⟨na, o, e⟩ := q a m nw
      exact ⟨(g.keep a o e na).2, o, (g.keep a o e na).1⟩
  live := fun k h ρ p => live k h p.1
  next := fun ρ st k s x hx p R _ hw => by
    obtain ⟨stt, q, r⟩ := p
    refine W.item k s _ _ (by rw [← hn]; exact (List.getElem?_eq_some_iff.mp hx).1) stt fun v h' tk hv st' kp => ?_
    have kp' : Kept wr' s.heap h' := fun a o e na => kp a o (fun m => na (hsub a m)) e
    have cy : Carry s.heap ρ h' ρ := kp'.grow.carry hw
    refine ⟨v, rfl, go (k + 1) _ v _ st' ⟨(r k x hx v hv).carry cy, ⟨st', fun a m nw => ?_, fun i x e u z => (r i x e u z).carry cy⟩, kp', ⟨rfl, rfl, rfl⟩⟩⟩
    obtain ⟨na, o, e⟩ := q a m nw
    exact ⟨na, o, kp' a o e nw⟩
  done := fun ρ st s p R _ hw => by
    obtain ⟨stt, q, r⟩ := p
    rw [hn] at stt
    exact W.done s _ _ stt fun h' tk kp => ⟨rfl, fun a o e na => kp a o (fun m => na (hsub a m)) e, ⟨rfl, rfl, rfl⟩⟩
  self := fun k s ρ Q p h => W.self k s Q _ p.1 h
theorem src_walksT {A : Around} {elts : List Expr} {kk : Nat} {tpos : Pos} {I : Addr} {fp wr wr' : List Addr} {n : Nat} {Pt : Nat → Array Value → Prop} {St : Nat → Heap → Prop} {Mid : Nat → Addr → Heap → Prop} {items : List PV}
    (W : WalksT c.prog c.w A I fp wr n Pt St Mid) (hn : items.length = n) (hsub : ∀ a ∈ wr, a ∈ wr') (live : ∀ k h, St k h → ∀ a ∈ wr', ∃ o, h.get? a = some o) :
    Src c A (.Tuple elts kk tpos) (.ref I) wr' (fun _ => true) items (fun k h ρ => St k h ∧ (∀ a ∈ fp, a ∉ wr' → a ∉ ρ.own ∧ ∃ o, h.get? a = some o) ∧ (∀ i x, items[i]? = some x → ∃ xs, x = .tup xs ∧ ∀ us, Pt i us → ∀ h₁, (∀ a o, h.get? a = some o → a ∉ ρ.own → h₁.get? a = some o) → RVs h₁ ρ us.toList xs)) where
  stable := fun k h ρ h' ρ' p g kw => by
    obtain ⟨st, q, r⟩ := p
    refine ⟨W.frame k h h' st fun a m o e => ?_, fun a m nw => ?_, fun i x e => ?_⟩
    · by_cases mw : a ∈ wr'
      · exact kw a mw o e
      · exact (g.keep a o e (q a m mw).1).1
    · obtain ⟨na, o, e⟩ := q a m nw
      exact ⟨(g.keep a o e na).2, o, (g.keep a o e na).1⟩
    · obtain ⟨xs, rfl, z⟩ := r i x e
      exact ⟨xs, rfl, fun us hu h₁ k₁ => ((z us hu h fun _ _ e _ => e).carry g).carry ⟨fun a o e na => ⟨k₁ a o e na, na⟩, fun _ _ e => e⟩⟩
  live := fun k h ρ p => live k h p.1
  next := fun ρ st k s x hx p R _ hw => by
    obtain ⟨stt, q, r⟩ := p
    obtain ⟨xs, rfl, z⟩ := r k x hx
    refine W.item k s _ _ (by rw [← hn]; exact (List.getElem?_eq_some_iff.mp hx).1) stt fun T vals h' tk hv hT it mid kp => ?_
    refine ⟨.ref T, rfl, W.go elts kk tpos k T _ _ _ mid fun h'' st'' kp' => ?_⟩
    have kp2 : Kept wr' s.heap h'' := fun a o e na => kp' a o (fun m => na (hsub a m)) (kp a o (fun m => na (hsub a m)) e)
    have cy : Carry s.heap ρ h'' ρ := kp2.grow.carry hw
    have nT : T ∉ ρ.own := fun m => by
      obtain ⟨_, _, o, e⟩ := R.apart T m
      exact absurd (Heap.lt_size e) (Nat.not_lt.mpr hT)
    obtain ⟨o, e, ec, nn, ed⟩ := it
    refine ⟨.tup nT ⟨o, kp' T o (W.apart _ _ _ mid) e, ec, nn, by simpa using ed⟩ (z vals hv h'' fun a o e na => (cy.keep a o e na).1), ⟨st'', fun a m nw => ?_, fun i x e => ?_⟩, kp2, ⟨rfl, rfl, rfl⟩⟩
    · obtain ⟨na, o, e⟩ := q a m nw
      exact ⟨na, o, kp2 a o e nw⟩
    · obtain ⟨xs, rfl, z⟩ := r i x e
      exact ⟨xs, rfl, fun us hu h₁ k₁ => z us hu h₁ fun a o e na => k₁ a o (cy.keep a o e na).1 na⟩
  done := fun ρ st s p R _ hw => by
    obtain ⟨stt, q, r⟩ := p
    rw [hn] at stt
    exact W.done s _ _ stt fun h' tk kp => ⟨rfl, fun a o e na => kp a o (fun m => na (hsub a m)) e, ⟨rfl, rfl, rfl⟩⟩
  self := fun k s ρ Q p h => W.self k s Q _ p.1 h
noncomputable def ItEnds (c : Ctx0) (A : Around) (target : Expr) (ρ : Rho) (s : Shared) (y : Its) (it : Value) (s₂ : Shared) : Prop := ∃ wr pos, P7 (Src c A target it wr y.2 y.1 pos) ((∀ a o, s.heap.get? a = some o → s₂.heap.get? a = some o)) ((∀ a ∈ wr, s.heap.get? a = none)) (wr.Nodup) ((Carry s.heap ρ s₂.heap (ρ.enter wr) → pos 0 s₂.heap (ρ.enter wr))) ((∀ a ∈ wr, ∃ o, s₂.heap.get? a = some o)) (Same s s₂)
structure Makes (c : Ctx0) (b : Nat) (target : Expr) (p : PV) (st : List AO) (y : Its) : Prop where
  run : ∀ A, AOk b A → ∀ ρ s v, RelS c.K ρ st s.heap → RV s.heap ρ v p → wpAny (model c.prog c.w) A (pyIter v) (ItEnds c A target ρ s y) noE s
theorem ItEnds.toF {A : Around} {target : Expr} {ρ ρ₁ : Rho} {s s₁ s₂ : Shared} {y : Its} {it : Value} {es es' : ES} (R₁ : RelF c.K f ρ₁ es' s₁.heap) (g : Grow f.fr ρ s.heap ρ₁ s₁.heap) (q : Same s s₁) (like : ∀ a ∈ f.fr, a ∈ ρ.rsv)
    (S : RelS c.K ρ es.st s.heap) (z : ItEnds c A target ρ₁ s₁ y it s₂) :
    ∃ ρ' wr pos, P6 (RelF c.K f (ρ'.enter wr) es' s₂.heap) (Grow f.fr ρ s.heap ρ' s₂.heap) (Same s s₂) (Src c A target it wr y.2 y.1 pos) (pos 0 s₂.heap (ρ'.enter wr)) ((∀ a ∈ wr, s.heap.get? a = none)) := by
  obtain ⟨wr, pos, src, k, fresh, nd, hp, lv, sm⟩ := z
  obtain ⟨S', cy⟩ := R₁.s.enter k fresh lv nd
  refine ⟨ρ₁, wr, pos, R₁.carry S' cy (fun a _ o e => k a o e) (fun a m => List.mem_append_right _ (R₁.like a m)), ?_, q.trans sm, src, hp cy, fun a m => ?_⟩
  · exact g.trans ⟨fun a o e _ _ => k a o e, List.prefix_rfl, rfl, fun _ m => .inl m⟩
  · cases e : s.heap.get? a with
    | none => rfl
    | some o =>
      by_cases mf : a ∈ f.fr
      · obtain ⟨_, _, o', e'⟩ := R₁.s.apart a (Yb (R₁.like a mf))
        rw [fresh a m] at e'; exact (nos e').elim
      by_cases mo : a ∈ ρ.flatten
      · have : a ∈ ρ₁.flatten := by
          obtain ⟨t, p⟩ := g.pre
          unfold Rho.flatten; rw [← p, List.flatten_append]; exact List.mem_append_left _ mo
        obtain ⟨_, _, o', e'⟩ := R₁.s.apart a (Yv this)
        rw [fresh a m] at e'; exact (nos e').elim
      · have := g.keep a o e mf mo
        rw [fresh a m] at this; cases this
noncomputable def itsE (G : PV → List AO → Option Its) (p : PV) : FM Its := fun es => (G p es.st).map fun y => (y, es)
theorem denit_of {target iter : Expr} {F : FM PV} {G : PV → List AO → Option Its} (d : Den c b f RV (eval iter f.env) F) (mk : ∀ p st y, G p st = some y → Makes c b target p st y) : DenIt c b f target iter (bindE F (itsE G)) := by
  constructor
  intro A hA ρ s es y es' e R
  obtain ⟨p, es₁, e1, e⟩ := Zd e
  unfold itsE at e
  obtain ⟨y', hg, e⟩ := Option.map_eq_some_iff.mp e
  cases e
  refine wpAny_mono (d.run A hA ρ s es p es' e1 R) (fun v s₁ z => ?_) fun _ _ z => z
  obtain ⟨ρ₁, R₁, g, q, r⟩ := z
  refine wpAny_mono ((mk p es'.st y hg).run A hA ρ₁ s₁ v R₁.s r) (fun it s₂ z => z.toF (es := es) R₁ g q R.like R.s) fun _ _ z => z
theorem go_fields {A : Around} {target : Expr} {I : Addr} {u : Value} {Q : Unit → Shared → Prop} {s : Shared} {ty : String} {o : Obj} {vs : Array Value} (ho : s.heap.get? I = some o) (hc : o.cls = .type ty) (hd : o.data = .fields vs)
    (hn : (["enumerate", "zip", "dict_itemiterator", "dict_reverseitemiterator", "odict_iterator", "itertools.zip_longest", "itertools.pairwise"].contains ty) = false) (h : Q () s) :
    wpAny (model c.prog c.w) A (letOwnedTupleGo target (.ref I) u) Q noE s := by
  have key : ∀ a, wpAny (model c.prog c.w) A (do
      let o ← load I
      match o.cls, o.data with
      | .type n, .fields vs =>
        if ["enumerate", "zip", "dict_itemiterator", "dict_reverseitemiterator", "odict_iterator", "itertools.zip_longest", "itertools.pairwise"].contains n && vs[0]? == some (rawInt a) then
          rule "for.unpacks-the-owned-tuple"
          updateField I 0 .none
      | _, _ => pure () : Sem Unit) Q noE s := fun a => by
    refine wpAny_bind (wpAny_load ho ?_)
    rw [hc, hd]
    dsimp only
    rw [hn, Bool.false_and, if_neg (by simp)]
    exact wpAny_pure h
  unfold letOwnedTupleGo
  split
  · cases u <;> first | exact wpAny_pure h | exact key _
  · cases u <;> first | exact wpAny_pure h | exact key _
  · exact wpAny_pure h
theorem rvs_of {h : Heap} {ρ : Rho} {vs : Array Value} {xs : List PV} (r : RVs h ρ vs.toList xs) {i : Nat} {x : PV} {u : Value} (e : xs[i]? = some x) (hu : vs[i]? = some u) : RV h ρ u x := by
  obtain ⟨v, a, z⟩ := r.get e
  rw [Array.getElem?_toList, hu] at a
  cases a; exact z
theorem makes_lst {target : Expr} {xs : List PV} {st : List AO} : Makes c b target (.lst xs) st (xs, fun _ => true) := by
  constructor
  intro A hA ρ s v R r
  obtain ⟨a, vs, na, q, rr, rfl⟩ := r.inv
  replace q := isL q
  have hne : a ≠ s.heap.objs.size := by obtain ⟨o, e, _⟩ := q; exact Nat.ne_of_lt (Heap.lt_size e)
  have hl : xs.length = vs.toArray.size := by rw [List.size_toArray]; exact rr.length.symm
  refine wpAny_pyIter_list q ?_
  refine ⟨[s.heap.objs.size], _, src_walks (items := xs) (wr' := [s.heap.objs.size]) (Walks.list hA.handled s.heap.objs.size a hne vs.toArray) hl (fun _ m => m) (fun k h p x m => ?_) (fun k s' u Q p h => ?_), fun x o e => Heap.get?_push_of_some _ e, fun x m => by rw [List.mem_singleton.mp m]; exact get_ge (Nat.le_refl _), by simp, fun cy => ?_, fun x m => ?_, ⟨rfl, rfl, rfl⟩⟩
  · obtain ⟨⟨o, e, _⟩, _⟩ := p; rw [List.mem_singleton.mp m]; exact ⟨o, e⟩
  · obtain ⟨⟨o, e, ec, ed⟩, _⟩ := p; exact go_fields e ec ed (by decide) h
  · obtain ⟨o, e, z⟩ := q
    refine ⟨⟨⟨_, Heap.get?_push_size _ rfl, rfl, rfl⟩, ⟨o, Heap.get?_push_of_some _ e, z⟩⟩, fun x m nw => ?_, fun i x e u hu => (rvs_of (by simpa using rr) e hu).carry cy⟩
    simp at m nw
    rcases m with m | m
    · exact absurd m nw
    · subst m; exact ⟨(cy.keep _ o e na).2, o, Heap.get?_push_of_some _ e⟩
  · rw [List.mem_singleton.mp m]; exact ⟨_, Heap.get?_push_size _ rfl⟩
theorem makes_tup {target : Expr} {xs : List PV} {st : List AO} : Makes c b target (.tup xs) st (xs, fun _ => true) := by
  constructor
  intro A hA ρ s v R r
  obtain ⟨a, vs, na, q, rr, rfl⟩ := r.inv
  have hne : a ≠ s.heap.objs.size := by obtain ⟨o, e, _⟩ := q; exact Nat.ne_of_lt (Heap.lt_size e)
  have hl : xs.length = vs.toArray.size := by rw [List.size_toArray]; exact rr.length.symm
  refine wpAny_pyIter_tuple q ?_
  refine ⟨[s.heap.objs.size], _, src_walks (items := xs) (wr' := [s.heap.objs.size]) (Walks.tuple hA.handled s.heap.objs.size a hne vs.toArray) hl (fun _ m => m) (fun k h p x m => ?_) (fun k s' u Q p h => ?_), fun x o e => Heap.get?_push_of_some _ e, fun x m => by rw [List.mem_singleton.mp m]; exact get_ge (Nat.le_refl _), by simp, fun cy => ?_, fun x m => ?_, ⟨rfl, rfl, rfl⟩⟩
  · obtain ⟨⟨o, e, _⟩, _⟩ := p; rw [List.mem_singleton.mp m]; exact ⟨o, e⟩
  · obtain ⟨⟨o, e, ec, ed⟩, _⟩ := p; exact go_fields e ec ed (by decide) h
  · obtain ⟨o, e, z⟩ := q
    refine ⟨⟨⟨_, Heap.get?_push_size _ rfl, rfl, rfl⟩, ⟨o, Heap.get?_push_of_some _ e, z⟩⟩, fun x m nw => ?_, fun i x e u hu => (rvs_of (by simpa using rr) e hu).carry cy⟩
    simp at m nw
    rcases m with m | m
    · exact absurd m nw
    · subst m; exact ⟨(cy.keep _ o e na).2, o, Heap.get?_push_of_some _ e⟩
  · rw [List.mem_singleton.mp m]; exact ⟨_, Heap.get?_push_size _ rfl⟩
noncomputable def Yp (x : Str) : List PV := x.cps.toList.map fun u => .str ⟨#[u]⟩
theorem makes_str {target : Expr} {x : Str} {st : List AO} (ha : x.cps.all (· < 128) = true) : Makes c b target (.str x) st (Yp x, fun _ => true) := by
  constructor
  intro A hA ρ s v R r
  obtain ⟨t, rfl⟩ := r.inv
  refine wpAny_pyIter_ascii ha ?_
  refine ⟨[s.heap.objs.size], _, src_walks (items := Yp x) (wr' := [s.heap.objs.size]) (Walks.strAscii hA.handled s.heap.objs.size x t) (by simp [Yp]) (fun _ m => m) (fun k h p x m => ?_) (fun k s' u Q p h => ?_), fun x o e => Heap.get?_push_of_some _ e, fun x m => by rw [List.mem_singleton.mp m]; exact get_ge (Nat.le_refl _), by simp, fun cy => ?_, fun x m => ?_, ⟨rfl, rfl, rfl⟩⟩
  · obtain ⟨o, e, _⟩ := p; rw [List.mem_singleton.mp m]; exact ⟨o, e⟩
  · obtain ⟨o, e, ec, ed⟩ := p; exact go_fields e ec ed (by decide) h
  · refine ⟨⟨_, Heap.get?_push_size _ rfl, rfl, rfl⟩, fun x m nw => absurd m nw, fun i y e u hu => ?_⟩
    obtain ⟨cp, t', hc, rfl⟩ := hu
    unfold Yp at e
    rw [List.getElem?_map, Array.getElem?_toList, hc] at e
    obtain rfl := Option.some.inj e; exact .str _ _
  · rw [List.mem_singleton.mp m]; exact ⟨_, Heap.get?_push_size _ rfl⟩
noncomputable def chkL (i : Nat) (xs : List PV) (st : List AO) : Bool := @decide (st[i]? = some (.list xs)) (Classical.propDecidable _)
theorem chkL_some {i : Nat} {xs : List PV} {st : List AO} (h : chkL i xs st = true) : st[i]? = some (.list xs) := @of_decide_eq_true _ (Classical.propDecidable _) h
theorem RelS.listAt {K : Frag} {ρ : Rho} {st : List AO} {h : Heap} (R : RelS K ρ st h) {i : Nat} {a : Addr} {xs : List PV} (e : headAt ρ i = some a) (q : st[i]? = some (.list xs)) : ∃ vs n, P3 (h.get? a = some { cls := .type "list", data := .seq vs n }) (RVs h ρ vs.toList xs) (ρ.ents[i]? = some [a]) := by
  obtain ⟨r, hr⟩ := Yt e
  obtain ⟨a', vs, n, e1, e2, e3⟩ := R.objs i _ _ hr q
  cases e1
  exact ⟨vs, n, e2, e3, hr⟩
theorem makes_ref {target : Expr} {i : Nat} {xs : List PV} {st : List AO} (q : st[i]? = some (.list xs)) : Makes c b target (.ref i) st (xs, chkL i xs) := by
  constructor
  intro A hA ρ s v R r
  obtain ⟨a, hd, rfl⟩ := r.inv
  obtain ⟨vs, n, e0, _, _⟩ := R.listAt hd q
  have alt : a < s.heap.objs.size := Heap.lt_size e0
  refine wpAny_pyIter_list (isList_of e0) ?_
  refine ⟨[s.heap.objs.size], fun k h ρ => h.IsListIter s.heap.objs.size a k ∧ headAt ρ i = some a, ⟨fun k h ρ h' ρ' p g kw => ⟨p.1.at fun o e => kw _ (by simp) o e, g.head _ _ p.2⟩, fun k h ρ p x m => ?_, fun ρ st k s' x hx p R hc hw => ?_, fun ρ st s' p R hc hw => ?_, fun k s' ρ Q p h => wpAny_pyIter_listiter p.1 h⟩, fun x o e => Heap.get?_push_of_some _ e, fun x m => by rw [List.mem_singleton.mp m]; exact get_ge (Nat.le_refl _), by simp, fun cy => ⟨⟨_, Heap.get?_push_size _ rfl, rfl, rfl⟩, cy.head _ _ hd⟩, fun x m => ?_, ⟨rfl, rfl, rfl⟩⟩
  · obtain ⟨⟨o, e, _⟩, _⟩ := p; rw [List.mem_singleton.mp m]; exact ⟨o, e⟩
  · obtain ⟨hit, hd'⟩ := p
    obtain ⟨vs, n, e1, rr, _⟩ := R.listAt hd' (chkL_some hc)
    obtain ⟨u, hu, ru⟩ := rr.getAt hx
    refine wpAny_pyNext_list_item hit (isList_of e1) hu fun h' hit' hs => ?_
    have kp : Kept [s.heap.objs.size] s'.heap h' := .of_same (by simp) hs
    refine ⟨u, rfl, ?_⟩
    obtain ⟨o, e, ec, ed⟩ := id hit'
    exact go_fields e ec ed (by decide) ⟨ru.carry (kp.grow.carry hw), ⟨hit', hd'⟩, kp, ⟨rfl, rfl, rfl⟩⟩
  · obtain ⟨hit, hd'⟩ := p
    obtain ⟨vs, n, e1, rr, _⟩ := R.listAt hd' (chkL_some hc)
    have hl := rr.length
    rw [Array.length_toList] at hl
    refine wpAny_pyNext_list_end hA.handled hit (isList_of e1) (by rw [Array.getElem?_eq_none_iff, hl]; exact Nat.le_refl _) fun h' hx => ?_
    exact ⟨rfl, .of_extBut (by simp) hx, ⟨rfl, rfl, rfl⟩⟩
  · rw [List.mem_singleton.mp m]; exact ⟨_, Heap.get?_push_size _ rfl⟩
noncomputable def itsV (p : PV) (st : List AO) : Option Its := match p with
  | .lst xs => some (xs, fun _ => true)
  | .tup xs => some (xs, fun _ => true)
  | .str x => if x.cps.all (· < 128) = true then some (Yp x, fun _ => true) else none
  | .ref i => (match st[i]? with
    | some (.list xs) => some (xs, chkL i xs)
    | _ => none)
  | _ => none
theorem makes_v {target : Expr} {p : PV} {st : List AO} {y : Its} (e : itsV p st = some y) : Makes c b target p st y := by
  unfold itsV at e
  split at e
  · obtain rfl := Option.some.inj e; exact makes_lst
  · obtain rfl := Option.some.inj e; exact makes_tup
  · split at e <;> (first | exact (nos e).elim | obtain rfl := Option.some.inj e)
    exact makes_str ‹_›
  · split at e <;> (first | exact (nos e).elim | obtain rfl := Option.some.inj e)
    exact makes_ref ‹_›
  · exact (nos e).elim
theorem denit_v {target iter : Expr} {F : FM PV} (d : Den c b f RV (eval iter f.env) F) : DenIt c b f target iter (bindE F (itsE itsV)) := denit_of d fun _ _ _ => makes_v
end
section
variable {c : Ctx0} {b : Nat} {f : FI}
structure OpIt (c : Ctx0) (b : Nat) (target : Expr) (fv : Value) (G : List PV → List AO → Option Its) : Prop where
  run : ∀ A, AOk b A → ∀ ρ s st vs ps y, G ps st = some y → RVs s.heap ρ vs ps → RelS c.K ρ st s.heap → wpAny (model c.prog c.w) A (call fv vs) (fun v s₁ => wpAny (model c.prog c.w) A (pyIter v) (ItEnds c A target ρ s y) noE s₁) noE s
noncomputable def itsEs (G : List PV → List AO → Option Its) (p : List PV) : FM Its := fun es => (G p es.st).map fun y => (y, es)
theorem Yu {target : Expr} {x : Str} {np pos : Pos} {fv : Value} {args : List Expr} {FA : FM (List PV)} {G : List PV → List AO → Option Its} (dn : Den c b f RV (eval (.Name x np) f.env) (pureE (.raw fv))) (hk : KeepOk c.K fv)
    (da : DenArgs c b f pos args FA) (o : OpIt c b target fv G) (ha : args.all Yd = true := by rfl) : DenIt c b f target (.Call (.Name x np) args [] pos) (bindE FA (itsEs G)) := by
  constructor
  intro A hA ρ s es y es' e R
  obtain ⟨ps, es₁, e1, e⟩ := Zd e
  unfold itsEs at e
  obtain ⟨y', hg, e⟩ := Option.map_eq_some_iff.mp e
  cases e
  refine wpAny_Call_NameR (wpAny_mono (dn.run A hA ρ s es _ es rfl R) (fun v s₁ z => ?_) fun _ _ z => z)
  obtain ⟨ρ₁, R₁, g₁, q₁, r₁⟩ := z
  (first | obtain ⟨_, rfl⟩ := r₁.inv | cases r₁)
  have hst := Yw (env := f.env) (pos := pos) ha
  refine callWith_of (P := c.K.In) ?_ (hk _) (Yk hst (wpAny_mono (da.run A hA ρ₁ s₁ es ps es' e1 R₁) (fun vs s₂ z => ?_) fun _ _ z => z))
  · rw [List.any_nil, Bool.or_false, List.any_eq_not_all_not, Bool.not_eq_false']
    simpa using hst
  · obtain ⟨ρ₂, R₂, g₂, q₂, r₂⟩ := z
    refine ⟨R₂.s.top, wpAny_mono (o.run A hA ρ₂ s₂ es'.st vs ps y hg r₂ R₂.s) (fun v s₃ z => wpAny_mono z (fun it s₄ z => ?_) fun _ _ z => z) fun _ _ z => z⟩
    exact z.toF (es := es) R₂ (g₁.trans g₂) (q₁.trans q₂) R.like R.s
noncomputable def rangeP (x y z : Int) : List PV := (List.range (Builtin.Range.rangeSize x y z).toNat).map fun i : Nat => .int (x + (i : Int) * z)
theorem ite_some' {α : Type} {p : Prop} [Decidable p] {a b : α} (e : (if p then some a else none) = some b) : p ∧ a = b := by
  by_cases h : p
  · rw [if_pos h] at e; exact ⟨h, Option.some.inj e⟩
  · rw [if_neg h] at e; exact (nos e).elim
noncomputable def Z6 (ps : List PV) (_ : List AO) : Option Its := match ps with
  | [.int y] => if Builtin.Range.small 0 y 1 = true then some (rangeP 0 y 1, fun _ => true) else none
  | [.int x, .int y] => if Builtin.Range.small x y 1 = true then some (rangeP x y 1, fun _ => true) else none
  | [.int x, .int y, .int z] => if Builtin.Range.small x y z = true ∧ z ≠ 0 ∧ (y - x).natAbs < 1000000 ∧ z.natAbs < 1000000 then some (rangeP x y z, fun _ => true) else none
  | _ => none
theorem rangeSize_nonneg (x y z : Int) : ((Builtin.Range.rangeSize x y z).toNat : Int) = Builtin.Range.rangeSize x y z := (PyProof.Rows.rangeSize_toNat x y z).symm
theorem range_iter {A : Around} (hA : AOk b A) {target : Expr} {ρ : Rho} {s s₁ : Shared} {r : Addr} {x y z : Int} {t u v : Tok} (k : ∀ a o, s.heap.get? a = some o → s₁.heap.get? a = some o) (sm : Same s s₁) (hr : IsRange s₁.heap r x y z t u v) (hs : Builtin.Range.small x y z = true) :
    wpAny (model c.prog c.w) A (pyIter (.ref r)) (ItEnds c A target ρ s (rangeP x y z, fun _ => true)) noE s₁ := by
  refine wpAny_pyIter_range hr hs ?_
  have W : Walks c.prog c.w A s₁.heap.objs.size [s₁.heap.objs.size] [s₁.heap.objs.size] _ _ _ := Walks.range hA.handled s₁.heap.objs.size x z (Builtin.Range.rangeSize x y z).toNat
  refine ⟨[s₁.heap.objs.size], _, src_walks (items := rangeP x y z) (wr' := [s₁.heap.objs.size]) W (by simp [rangeP]) (fun _ m => m) (fun k h p x m => ?_) (fun k s' u Q p h => ?_), fun x o e => Heap.get?_push_of_some _ (k x o e), fun x m => ?_, by simp, fun cy => ?_, fun x m => ?_, ⟨sm.1, sm.2.1, sm.2.2⟩⟩
  · rw [List.mem_singleton.mp m]; exact ⟨_, p⟩
  · exact go_fields p rfl rfl (by decide) h
  · rw [List.mem_singleton.mp m]
    cases e : s.heap.get? s₁.heap.objs.size with
    | none => rfl
    | some o => exact absurd (Heap.lt_size (k _ _ e)) (Nat.lt_irrefl _)
  · refine ⟨?_, fun x m nw => absurd m nw, fun i w e uu hu => ?_⟩
    · rw [rangeSize_nonneg]
      show Heap.get? _ _ = _
      rw [Heap.get?_push_size _ rfl]
      simp
    · obtain ⟨t', rfl⟩ := hu
      unfold rangeP at e
      rw [List.getElem?_map] at e
      by_cases hi : i < (Builtin.Range.rangeSize x y z).toNat
      · rw [List.getElem?_range hi] at e; obtain rfl := Option.some.inj e; exact .int _ _
      · rw [List.getElem?_eq_none (by simpa using hi)] at e; exact (nos e).elim
  · rw [List.mem_singleton.mp m]; exact ⟨_, Heap.get?_push_size _ rfl⟩
theorem opit_range {target : Expr} : OpIt c b target (.type "range") Z6 := by
  constructor
  intro A hA ρ s st vs ps y e r R
  unfold Z6 at e
  split at e
  · obtain ⟨hs, e⟩ := ite_some' e
    obtain ⟨_, _, rfl, ra, rr⟩ := r.inv; obtain rfl := rr.inv; obtain ⟨t, rfl⟩ := ra.inv
    exact e ▸ call_range_1 (range_iter hA (fun _ _ e => Heap.get?_push_of_some _ e) ⟨rfl, rfl, rfl⟩ (IsRange.new ..) hs)
  · obtain ⟨hs, e⟩ := ite_some' e
    obtain ⟨_, _, rfl, ra, r1⟩ := r.inv; obtain ⟨_, _, rfl, rb, r2⟩ := r1.inv; obtain rfl := r2.inv; obtain ⟨t, rfl⟩ := ra.inv; obtain ⟨u, rfl⟩ := rb.inv
    exact e ▸ call_range_2 (range_iter hA (fun _ _ e => Heap.get?_push_of_some _ e) ⟨rfl, rfl, rfl⟩ (IsRange.new ..) hs)
  · obtain ⟨⟨hs, hz, h1, h2⟩, e⟩ := ite_some' e
    obtain ⟨_, _, rfl, ra, r1⟩ := r.inv; obtain ⟨_, _, rfl, rb, r2⟩ := r1.inv; obtain ⟨_, _, rfl, rc, r3⟩ := r2.inv; obtain rfl := r3.inv; obtain ⟨t, rfl⟩ := ra.inv; obtain ⟨u, rfl⟩ := rb.inv; obtain ⟨v, rfl⟩ := rc.inv
    exact e ▸ call_range_3 hz (range_iter hA (fun _ _ e => Heap.get?_push_of_some _ e) ⟨rfl, rfl, rfl⟩ (IsRange.new ..) hs) (.inl (PyProof.noPylong_small (by omega)))
  · exact (nos e).elim
theorem neN {a b : Nat} (h : a < b ∨ b < a) : a ≠ b := by omega
noncomputable def enumP : Nat → List PV → List PV
  | _, [] => []
  | n, x :: r => .tup [.int n, x] :: enumP (n + 1) r
theorem enumP_length : ∀ {n : Nat} {xs : List PV}, (enumP n xs).length = xs.length
  | _, [] => rfl
  | n, x :: r => by simp [enumP, enumP_length (n := n + 1)]
theorem enumP_get : ∀ {n i : Nat} {xs : List PV} {x : PV}, (enumP n xs)[i]? = some x → ∃ y, xs[i]? = some y ∧ x = .tup [.int ((n + i : Nat) : Int), y]
  | _, _, [], _, e => by simp [enumP] at e
  | n, 0, y :: r, x, e => by simp [enumP] at e; exact ⟨y, by simp, by simpa using e.symm⟩
  | n, i + 1, y :: r, x, e => by
    simp [enumP] at e
    obtain ⟨z, a, q⟩ := enumP_get e
    exact ⟨z, by simpa using a, by rw [q]; congr 3; omega⟩
noncomputable def itsEnum (ps : List PV) (_ : List AO) : Option Its := match ps with
  | [.lst xs] => some (enumP 0 xs, fun _ => true)
  | _ => none
theorem opit_enum {elts : List Expr} {kk : Nat} {tpos : Pos} : OpIt c b (.Tuple elts kk tpos) (.type "enumerate") itsEnum := by
  constructor
  intro A hA ρ s st vs ps y e r R
  unfold itsEnum at e
  split at e <;> (first | exact (nos e).elim | obtain rfl := Option.some.inj e)
  rename_i xs
  obtain ⟨_, _, rfl, ra, rr⟩ := r.inv; clear r; have r := ra; clear ra
  cases rr
  obtain ⟨a, vs, na, q, rr, rfl⟩ := r.inv
  replace q := isL q
  refine call_enumerate_list q fun h' h1 h2 h3 h4 => wpAny_pyIter_enum h1 ?_
  have alt : @LT.lt Nat instLTNat a s.heap.objs.size := by obtain ⟨o, e, _⟩ := q; exact Heap.lt_size e
  have hl : xs.length = vs.toArray.size := by rw [List.size_toArray]; exact rr.length.symm
  have W := WalksT.enumerate (prog := c.prog) (w := c.w) (A := A) hA.handled (s.heap.objs.size + 1) s.heap.objs.size a (neN (by omega)) (neN (by omega)) (neN (by omega)) vs.toArray
  refine ⟨[s.heap.objs.size + 1, s.heap.objs.size], _, src_walksT (items := enumP 0 xs) (wr' := [s.heap.objs.size + 1, s.heap.objs.size]) W (by rw [enumP_length, hl]) (fun _ m => m) (fun k h p x m => ?_), h4, fun x m => get_ge ?_, ?_, fun cy => ?_, fun x m => ?_, ⟨rfl, rfl, rfl⟩⟩
  · obtain ⟨⟨_, p1⟩, ⟨o, p2, _⟩, _⟩ := p
    simp at m
    rcases m with rfl | rfl
    · exact ⟨_, p1⟩
    · exact ⟨_, p2⟩
  · simp at m; rcases m with rfl | rfl <;> omega
  · simp
  · refine ⟨⟨⟨_, h1⟩, h2, ?_⟩, fun x m nw => ?_, fun i x e => ?_⟩
    · obtain ⟨o, e, z⟩ := q; exact ⟨o, h4 _ _ e, z⟩
    · have : x = a := by simp at m nw; rcases m with m | m | m <;> first | exact m | exact absurd m nw.1 | exact absurd m nw.2
      subst this
      obtain ⟨o, e, z⟩ := q
      exact ⟨(cy.keep _ o e na).2, o, h4 _ _ e⟩
    · obtain ⟨y, ey, rfl⟩ := enumP_get e
      refine ⟨_, rfl, fun us hu h₁ k₁ => ?_⟩
      obtain ⟨t, u, eu, rfl⟩ := hu
      have ru : RV s.heap ρ u y := rvs_of (by simpa using rr) ey eu
      refine .cons ?_ (.cons ((ru.carry cy).carry ⟨fun a o e na => ⟨k₁ a o e na, na⟩, fun _ _ e => e⟩) .nil)
      rw [Nat.zero_add]; exact .int _ _
  · simp at m
    rcases m with rfl | rfl
    · exact ⟨_, h1⟩
    · obtain ⟨o, e, _⟩ := h2; exact ⟨o, e⟩
noncomputable abbrev DenAs (c : Ctx0) (b : Nat) (f : FI) (elts : List Expr) (F : List PV → FM Unit) : Prop := DenK c b f RVs RU (fun vs => assignInOrder ((assignEach elts f.env).map (·.2)) vs) F
noncomputable def asNil (ps : List PV) : FM Unit := match ps with | [] => pureE () | _ => failE
noncomputable def asCons (S : PV → FM Unit) (T : List PV → FM Unit) (ps : List PV) : FM Unit := match ps with
  | p :: r => bindE (S p) fun _ => T r
  | [] => failE
theorem assignEach_of {x : Expr} {rest : List Expr} {env : Env} (h : Yd x = true) : assignEach (x :: rest) env = (false, assign x env) :: assignEach rest env := by
  cases x <;> first | rfl | cases h
theorem denas_nil : DenAs c b f [] asNil := by
  constructor
  intro A hA ρ s es vs ps y es' e r R
  unfold asNil at e
  split at e <;> (first | obtain ⟨rfl, rfl⟩ := spr e | exact (nos e).elim)
  cases r
  exact wpAny_pure (Ends.here R trivial)
theorem Z7 {x : Expr} {rest : List Expr} {S : PV → FM Unit} {T : List PV → FM Unit} (ds : DenA c b f x S) (dt : DenAs c b f rest T) (hx : Yd x = true := by rfl) : DenAs c b f (x :: rest) (asCons S T) := by
  constructor
  intro A hA ρ s es vs ps y es' e r R
  unfold asCons at e
  split at e
  · obtain ⟨_, es₁, e1, e2⟩ := Zd e
    obtain ⟨_, _, rfl, rv, rr⟩ := r.inv
    rw [assignEach_of hx]
    show wpAny _ _ (holding _ (assign x f.env _) >>= fun _ => assignInOrder ((assignEach rest f.env).map (·.2)) _) _ _ _
    refine wpAny_bind (wpAny_holding (wpAny_mono (ds.run A hA ρ s es _ _ _ es₁ e1 rv R) (fun _ s₁ z => ?_) fun _ _ z => z))
    obtain ⟨ρ₁, R₁, g₁, q₁, _⟩ := z
    exact wpAny_mono (dt.run A hA ρ₁ s₁ es₁ _ _ _ es' e2 (rr.grow g₁ R.like) R₁) (fun _ _ z => z.after g₁ q₁) fun _ _ z => z
  · exact (nos e).elim
theorem assignEach_all {env : Env} : ∀ {elts : List Expr}, elts.all Yd = true → (assignEach elts env).length = elts.length ∧ (assignEach elts env).findIdx? (·.1) = none
  | [], _ => ⟨rfl, rfl⟩
  | x :: r, h => by
    rw [List.all_cons, Bool.and_eq_true] at h
    rw [assignEach_of h.1]
    obtain ⟨a, b⟩ := assignEach_all (env := env) h.2
    exact ⟨by simp [a], by rw [List.findIdx?_cons, b]; rfl⟩
noncomputable def unpackE (n : Nat) (T : List PV → FM Unit) (p : PV) : FM Unit := match p with
  | .tup xs => if xs.length = n then T xs else failE
  | _ => failE
theorem dena_tuple {elts : List Expr} {k : Nat} {pos : Pos} {T : List PV → FM Unit} (dt : DenAs c b f elts T) (he : elts.all Yd = true := by rfl) : DenA c b f (.Tuple elts k pos) (unpackE elts.length T) := by
  constructor
  intro A hA ρ s es v p y es' e r R
  unfold unpackE at e
  split at e
  · split at e
    · rename_i xs hl
      obtain ⟨a, vs, na, q, rr, rfl⟩ := r.inv
      obtain ⟨h1, h2⟩ := assignEach_all (env := f.env) he
      refine wpAny_assign_Tuple hA.handled q (by rw [h1, List.size_toArray, rr.length, hl]) h2 fun h' hx => ?_
      have k : ∀ a o, s.heap.get? a = some o → h'.get? a = some o := fun a o e => hx a o (Nat.ne_of_lt (Heap.lt_size e)) e
      obtain ⟨S, g⟩ := R.s.ext k
      have := dt.run A hA ρ { s with heap := h' } es vs xs y es' e (rr.grow g noFr) (R.ofS S g)
      exact wpAny_mono this (fun _ _ z => Ends.after (s₁ := { s with heap := h' }) (g.wider (fun _ m => nomatch m)) ⟨rfl, rfl, rfl⟩ z) fun _ _ z => z
    · exact (nos e).elim
  · exact (nos e).elim
end
section
variable {c : Ctx0} {b : Nat} {f : FI}
structure RelD (K : Frag) (f : FI) (D : Addr) (ρ : Rho) (es : ES) (zs : List PV) (h : Heap) : Prop where
  r : RelF K f ρ es h
  dw : D ∈ ρ.rsv
  dn : D ∉ f.fr
  acc : ∃ vs, h.PlainList D vs ∧ RVs h ρ vs.toList zs
theorem RelD.step {K : Frag} {D : Addr} {ρ ρ' : Rho} {es es' : ES} {zs : List PV} {h h' : Heap} (R : RelD K f D ρ es zs h) (R' : RelF K f ρ' es' h') (g : Grow f.fr ρ h ρ' h') : RelD K f D ρ' es' zs h' := by
  obtain ⟨vs, ⟨n, e⟩, rr⟩ := R.acc
  exact ⟨R', g.rsv ▸ R.dw, R.dn, vs, ⟨n, g.keep D _ e R.dn (rsv_apart R.r.s.nodup R.dw)⟩, rr.grow g R.r.like⟩
theorem RelD.kept {K : Frag} {D : Addr} {wr : List Addr} {ρ : Rho} {es : ES} {zs : List PV} {h h' : Heap} (R : RelD K f D ρ es zs h) (hw : ∀ a ∈ wr, a ∈ ρ.rsv) (hd : ∀ a ∈ wr, a ∉ f.fr ∧ a ≠ D) (k : Kept wr h h') (lv : ∀ a ∈ wr, ∃ o, h'.get? a = some o) : RelD K f D ρ es zs h' := by
  obtain ⟨S, g⟩ := R.r.s.wrote hw k lv
  obtain ⟨vs, ⟨n, e⟩, rr⟩ := R.acc
  exact ⟨R.r.carry S (g.carry hw) (fun a m o e => k a o e fun z => (hd a z).1 m) R.r.like, R.dw, R.dn, vs, ⟨n, k D _ e fun m => (hd D m).2 rfl⟩, rr.grow g hw⟩
structure DenD (c : Ctx0) (b : Nat) (f : FI) (T : Value → Sem Unit) (F : List PV → FM (List PV)) : Prop where
  run : ∀ A, AOk b A → ∀ D ρ s es zs zs' es', F zs es = some (zs', es') → RelD c.K f D ρ es zs s.heap →
    wpAny (model c.prog c.w) A (T (.ref D)) (fun _ s' => ∃ ρ', P3 (RelD c.K f D ρ' es' zs' s'.heap) (Grow (D :: f.fr) ρ s.heap ρ' s'.heap) (Same s s')) noE s
noncomputable def emitE (X : FM PV) (zs : List PV) : FM (List PV) := bindE X fun p => if zs.length ≤ sizeLine then pureE (zs ++ [p]) else failE
theorem dend_emit {elt : Expr} {X : FM PV} (dx : Den c b f RV (eval elt f.env) X) : DenD c b f (fun acc => do let _ ← call (.builtin "list.append") [acc, ← eval elt f.env]) (emitE X) := by
  constructor
  intro A hA D ρ s es zs zs' es' e R
  obtain ⟨p, es₁, e1, e⟩ := Zd e
  split at e <;> cases e
  rename_i hz
  refine wpAny_bind (wpAny_mono (dx.run A hA ρ s es p es' e1 R.r) (fun v s₁ z => ?_) fun _ _ z => z)
  obtain ⟨ρ₁, R₁, g₁, q₁, r₁⟩ := z
  have RD := R.step R₁ g₁
  obtain ⟨vs, il, rr⟩ := RD.acc
  have hl := rr.length
  rw [Array.length_toList] at hl
  refine wpAny_bind (wpAny_list_append_plain il (fun h' il' hs => ?_) (by rw [hl]; exact hz))
  obtain ⟨S, g⟩ := R₁.s.wrote (wr := [D]) (h' := h') (fun a m => by rw [List.mem_singleton.mp m]; exact RD.dw) (Kept.of_same (by simp) hs) (fun a m => by rw [List.mem_singleton.mp m]; obtain ⟨n, e⟩ := il'; exact ⟨_, e⟩)
  have hw : ∀ a ∈ [D], a ∈ ρ₁.rsv := fun a m => by rw [List.mem_singleton.mp m]; exact RD.dw
  refine wpAny_pure ⟨ρ₁, ⟨R₁.carry S (g.carry hw) (fun a m o e => (hs.2 a fun q => RD.dn (q ▸ m)).trans e) R₁.like, RD.dw, RD.dn, _, il', ?_⟩, ?_, q₁.trans ⟨rfl, rfl, rfl⟩⟩
  · rw [Array.toList_push]
    exact (rr.grow g hw).append (.cons (r₁.grow g hw) .nil)
  · exact (g₁.wider fun a m => List.mem_cons_of_mem _ m).trans (g.wider fun a m => by rw [List.mem_singleton.mp m]; exact List.mem_cons_self)
noncomputable abbrev DenTs (c : Ctx0) (b : Nat) (f : FI) (ifs : List Expr) (F : FM Bool) : Prop := Den c b f RB (forIn ifs true fun x r => if r = true then do let ok ← isTrue x f.env (eval x f.env); pure (ForInStep.yield ok) else pure (ForInStep.yield r)) F
theorem dents_nil : DenTs c b f [] (pureE true) := by
  constructor
  intro A hA ρ s es y es' e R
  obtain ⟨rfl, rfl⟩ := spr e
  exact wpAny_tests_nil (Ends.here R rfl)
theorem dents_one {x : Expr} {F : FM Bool} (d : Den c b f RB (isTrue x f.env (eval x f.env)) F) : DenTs c b f [x] F := by
  constructor
  intro A hA ρ s es y es' e R
  exact wpAny_tests_one (d.run A hA ρ s es y es' e R)
noncomputable def Zr (chk : List AO → Bool) (S : PV → FM Unit) (T : FM Bool) (B : List PV → FM (List PV)) : List PV → List PV → FM (List PV)
  | [], zs => guardE chk (pureE zs)
  | x :: r, zs => guardE chk (bindE (S x) fun _ => bindE T fun t => if t then bindE (B zs) fun zs' => Zr chk S T B r zs' else Zr chk S T B r zs)
theorem comp_run {A : Around} {elt₀ : Expr} {gens : List Comprehension} {scope : Scope} {epos : Pos} {d : Nat} {target : Expr} {p : Pos} {ifs : List Expr} {it : Value} {wr : List Addr} {chk : List AO → Bool} {items : List PV} {pos : Nat → Heap → Rho → Prop} {S : PV → FM Unit} {T : FM Bool} {TT : Value → Sem Unit} {B : List PV → FM (List PV)} {D : Addr}
    (heq : ∀ acc, compTurn (.ListComp elt₀ gens scope epos) d it acc f.env = (standAt p >>= fun _ => pyNext it >>= fun r => match r with
      | none => pure (.done .next)
      | some v => letOwnedTupleGo target it v >>= fun _ => assign target f.env v >>= fun _ =>
        (forIn ifs true fun x r => if r = true then do let ok ← isTrue x f.env (eval x f.env); pure (ForInStep.yield ok) else pure (ForInStep.yield r)) >>= fun ok =>
          if ok = true then TT acc >>= fun _ => again (.compLoop (.ListComp elt₀ gens scope epos) d it acc f.env) else again (.compLoop (.ListComp elt₀ gens scope epos) d it acc f.env)))
    (src : Src c A target it wr chk items pos) (hA : AOk b A) (ds : DenA c b f target S) (dt : DenTs c b f ifs T) (db : DenD c b f TT B) {ρ₀ : Rho} {s₀ : Shared} {es₀ es' : ES} {zs₀ zs' : List PV}
    (ev : Zr chk S T B items zs₀ es₀ = some (zs', es')) (R₀ : RelD c.K f D ρ₀ es₀ zs₀ s₀.heap) (hw : ∀ a ∈ wr, a ∈ ρ₀.rsv) (hd : ∀ a ∈ wr, a ∉ f.fr ∧ a ≠ D) (hp : pos 0 s₀.heap ρ₀) :
    codeAny (model c.prog c.w) A (.compLoop (.ListComp elt₀ gens scope epos) d it (.ref D) f.env) (fun r s' => match r with
      | .ok fl => fl = .next ∧ ∃ ρ' h', P4 (RelD c.K f D ρ' es' zs' h') (Kept wr h' s'.heap) (Grow (D :: f.fr ++ wr) ρ₀ s₀.heap ρ' h') (Same s₀ s')
      | .error _ => False) s₀ := by
  refine codeAny_loop rfl (fun n s => ∃ k ρ es zs, P8 (n = items.length - k) (k ≤ items.length) (Zr chk S T B (items.drop k) zs es = some (zs', es')) (RelD c.K f D ρ es zs s.heap) ((∀ a ∈ wr, a ∈ ρ.rsv)) (pos k s.heap ρ) (Grow (D :: f.fr ++ wr) ρ₀ s₀.heap ρ s.heap) (Same s₀ s)) ?_ items.length ⟨0, ρ₀, es₀, zs₀, by simp, Nat.zero_le _, by simpa using ev, R₀, hw, hp, .refl, .refl⟩
  rintro n s ⟨k, ρ, es, zs, rfl, hk, e1, R, hw, hp, g, sm⟩
  show wpAny _ A ((compTurn (.ListComp elt₀ gens scope epos) d it (.ref D) f.env).onRaise (fun x => do noteFrame x f.env; theTreesLotGoes x)) _ _ s
  refine wpAny_noted ?_
  rw [heq]
  refine wpAny_bind (wpAny_standAt (wpAny_bind ?_))
  by_cases hlt : k < items.length
  · have hx : items[k]? = some items[k] := by simp [hlt]
    rw [List.drop_eq_getElem_cons hlt] at e1
    obtain ⟨hc, e1⟩ := guardE_some e1
    obtain ⟨_, es₁, e2, e1⟩ := Zd e1
    obtain ⟨t, es₂, e3, e1⟩ := Zd e1
    refine wpAny_mono (src.next ρ es.st k s _ hx hp R.r.s hc hw) (fun r s₁ z => ?_) fun _ _ z => z.elim
    obtain ⟨u, rfl, z⟩ := z
    refine wpAny_bind (wpAny_mono z (fun _ s₂ z => ?_) fun _ _ z => z.elim)
    obtain ⟨ru, hp₂, ad, sm₂⟩ := z
    have lv := src.live _ _ _ hp₂
    have R₂ := R.kept hw hd ad lv
    have g₂ := (R.r.s.wrote hw ad lv).2
    have ga : Grow (D :: f.fr ++ wr) ρ₀ s₀.heap ρ s₂.heap := g.trans (g₂.wider fun a m => List.mem_append_right _ m)
    refine wpAny_bind (wpAny_mono (ds.run A hA ρ s₂ es u _ _ es₁ e2 ru R₂.r) (fun _ s₃ z => ?_) fun _ _ z => z.elim)
    obtain ⟨ρ₃, R₃, g₃, q₃, _⟩ := z
    refine wpAny_bind (wpAny_mono (dt.run A hA ρ₃ s₃ es₁ t es₂ e3 R₃) (fun ok s₄ z => ?_) fun _ _ z => z.elim)
    obtain ⟨ρ₄, R₄, g₄, q₄, rfl⟩ := z
    have g34 := g₃.trans g₄
    have RD := R₂.step R₄ g34
    have sm4 : Same s₀ s₄ := sm.trans (sm₂.trans (q₃.trans q₄))
    have gt : Grow (D :: f.fr ++ wr) ρ₀ s₀.heap ρ₄ s₄.heap := ga.trans (g34.wider fun a m => List.mem_append_left _ (List.mem_cons_of_mem _ m))
    have hw4 : ∀ a ∈ wr, a ∈ ρ₄.rsv := fun a m => g34.rsv ▸ hw a m
    have kw : ∀ a ∈ wr, ∀ o, s₂.heap.get? a = some o → s₄.heap.get? a = some o := fun a m o e => g34.keep a o e (hd a m).1 (rsv_apart R₂.r.s.nodup (hw a m))
    have hp4 : pos (k + 1) s₄.heap ρ₄ := src.stable _ _ _ _ _ hp₂ (g34.carry R₂.r.like) kw
    have again_ : ∀ s₅ ρ₅ es₅ zs₅, Zr chk S T B (items.drop (k + 1)) zs₅ es₅ = some (zs', es') → RelD c.K f D ρ₅ es₅ zs₅ s₅.heap → (∀ a ∈ wr, a ∈ ρ₅.rsv) → pos (k + 1) s₅.heap ρ₅ → Grow (D :: f.fr ++ wr) ρ₀ s₀.heap ρ₅ s₅.heap → Same s₀ s₅ →
        ∃ m, m < items.length - k ∧ ∃ k ρ es zs, P8 (m = items.length - k) (k ≤ items.length) (Zr chk S T B (items.drop k) zs es = some (zs', es')) (RelD c.K f D ρ es zs s₅.heap) ((∀ a ∈ wr, a ∈ ρ.rsv)) (pos k s₅.heap ρ) (Grow (D :: f.fr ++ wr) ρ₀ s₀.heap ρ s₅.heap) (Same s₀ s₅):= fun s₅ ρ₅ es₅ zs₅ e R hw hp g sm =>
      ⟨items.length - (k + 1), by omega, k + 1, ρ₅, es₅, zs₅, rfl, hlt, e, R, hw, hp, g, sm⟩
    cases ok with
    | false => exact wpAny_pure ⟨rfl, again_ _ _ _ _ e1 RD hw4 hp4 gt sm4⟩
    | true =>
      rw [if_pos rfl] at e1
      obtain ⟨zs₅, es₅, e4, e5⟩ := Zd e1
      rw [if_pos rfl]
      refine wpAny_bind (wpAny_mono (db.run A hA D ρ₄ s₄ es₂ zs zs₅ es₅ e4 RD) (fun _ s₅ z => ?_) fun _ _ z => z.elim)
      obtain ⟨ρ₅, R₅, g₅, q₅⟩ := z
      have like5 : ∀ a ∈ D :: f.fr, a ∈ ρ₄.rsv := fun a m => (List.mem_cons.mp m).elim (fun q => q ▸ RD.dw) (RD.r.like a)
      refine wpAny_pure ⟨rfl, again_ _ _ _ _ e5 R₅ (fun a m => g₅.rsv ▸ hw4 a m) (src.stable _ _ _ _ _ hp4 (g₅.carry like5) fun a m o e => g₅.keep a o e (fun q => ?_) (rsv_apart RD.r.s.nodup (hw4 a m))) (gt.trans (g₅.wider fun a m => List.mem_append_left _ m)) (sm4.trans q₅)⟩
      rcases List.mem_cons.mp q with q | q
      · exact (hd a m).2 q
      · exact (hd a m).1 q
  · have hk' : k = items.length := by omega
    subst hk'
    rw [List.drop_length] at e1
    obtain ⟨hc, e1⟩ := guardE_some e1
    obtain ⟨rfl, rfl⟩ := spr e1
    refine wpAny_mono (src.done ρ _ s hp R.r.s hc hw) (fun r s₁ z => ?_) fun _ _ z => z.elim
    obtain ⟨rfl, ad, sm₁⟩ := z
    exact wpAny_pure ⟨rfl, ρ, _, R, ad, g, sm.trans sm₁⟩
end
section
variable {c : Ctx0} {b : Nat} {f : FI}
theorem compStart_run {A : Around} {elt : Expr} {gens : List Comprehension} {scope : Scope} {pos : Pos} {d : Nat} {target iter : Expr} {ifs : List Expr} {it acc : Value} {env : Env} {R : Result → Shared → Prop} {s : Shared} (hg : gens[d]? = some ⟨target, iter, ifs, 0⟩)
    (h0 : codeAny (model c.prog c.w) A (.compLoop (.ListComp elt gens scope pos) d it acc env) R s)
    (h : wpAny (model c.prog c.w) A (pyIter it) (fun it' s' => codeAny (model c.prog c.w) A (.compLoop (.ListComp elt gens scope pos) d it' acc env) R s') noE s) :
    codeAny (model c.prog c.w) A (.compStart (.ListComp elt gens scope pos) d it acc env) R s := by
  refine codeAny_of_tree ?_
  show wpAny _ _ ((compStart (.ListComp elt gens scope pos) d it acc env).onRaise (fun x => do noteFrame x env; standAt theWindowsPlace)) _ _ s
  refine wpAny_notedAt ?_
  unfold compStart
  rw [show (clausesOf (.ListComp elt gens scope pos))[d]? = some ⟨target, iter, ifs, 0⟩ from hg]
  show wpAny _ _ (ask >>= _) _ _ s
  refine wpAny_bind (wpAny_askSetting (wpAny_ite ?_))
  split
  · first
      | exact wpAny_bind (wpAny_pure (wpAny_pure (And.intro rfl h0)))
      | exact wpAny_pure (And.intro rfl h0)
  · first
      | exact wpAny_bind (wpAny_rule (wpAny_bind (wpAny_standAt (wpAny_bind (wpAny_mono h (fun it' s' h' => wpAny_pure (And.intro rfl h')) fun _ _ x => x.elim)))))
      | (refine wpAny_bind (wpAny_rule ?_); show wpAny _ _ (standAt iter.pos >>= _) _ _ s; exact wpAny_bind (wpAny_standAt (wpAny_bind (wpAny_mono h (fun it' s' h' => wpAny_pure (And.intro rfl h')) fun _ _ x => x.elim))))
theorem carry_enter {fr wr : List Addr} {ρ ρ' : Rho} {h h' : Heap} (g : Grow fr ρ h ρ' h') (L : ∀ a ∈ fr, a ∈ ρ.rsv) (fresh : ∀ a ∈ wr, h.get? a = none) : Carry h ρ h' (ρ'.enter wr) := by
  refine ⟨fun a o e na => ?_, fun i a e => (g.carry L).head i a e⟩
  obtain ⟨x, y⟩ := (g.carry L).keep a o e na
  refine ⟨x, fun m => ?_⟩
  rcases List.mem_append.mp m with m | m
  · exact y (Yv m)
  · rcases List.mem_append.mp m with m | m
    · rw [fresh a m] at e; exact (nos e).elim
    · exact y (Yb m)
theorem RelD.left {K : Frag} {D : Addr} {wr r : List Addr} {ρ : Rho} {es : ES} {zs : List PV} {h h' : Heap} (R : RelD K f D ρ es zs h) (kp : Kept wr h h') (hr : ρ.rsv = wr ++ r) (hd : ∀ a ∈ wr, a ∉ f.fr ∧ a ≠ D) (like : ∀ a ∈ f.fr, a ∈ r) (dr : D ∈ r) :
    RelD K f D ⟨ρ.ents, r⟩ es zs h' := by
  obtain ⟨e', r'⟩ := ρ
  replace hr : r' = wr ++ r := hr
  subst hr
  obtain ⟨S, cy⟩ := RelS.leave (ρ := ⟨e', r⟩) (wr := wr) (h' := h') R.r.s kp
  obtain ⟨vs, ⟨n, e⟩, rr⟩ := R.acc
  exact ⟨R.r.carry S cy (fun a m o e => kp a o e fun z => (hd a z).1 m) like, dr, R.dn, vs, ⟨n, kp D _ e fun z => (hd D z).2 rfl⟩, rr.carry cy⟩
noncomputable def innerE (I : FM Its) (S : PV → FM Unit) (T : FM Bool) (B : List PV → FM (List PV)) (zs : List PV) : FM (List PV) := bindE I fun y => Zr y.2 S T B y.1 zs
theorem dend_inner {elt₀ : Expr} {gens : List Comprehension} {scope : Scope} {epos : Pos} {d : Nat} {target iter : Expr} {p : Pos} {ifs : List Expr} {I : FM Its} {S : PV → FM Unit} {T : FM Bool} {TT : Value → Sem Unit} {B : List PV → FM (List PV)}
    (hg : gens[d]? = some ⟨target, iter, ifs, 0⟩)
    (heq : ∀ it acc, compTurn (.ListComp elt₀ gens scope epos) d it acc f.env = (standAt p >>= fun _ => pyNext it >>= fun r => match r with
      | none => pure (.done .next)
      | some v => letOwnedTupleGo target it v >>= fun _ => assign target f.env v >>= fun _ =>
        (forIn ifs true fun x r => if r = true then do let ok ← isTrue x f.env (eval x f.env); pure (ForInStep.yield ok) else pure (ForInStep.yield r)) >>= fun ok =>
          if ok = true then TT acc >>= fun _ => again (.compLoop (.ListComp elt₀ gens scope epos) d it acc f.env) else again (.compLoop (.ListComp elt₀ gens scope epos) d it acc f.env)))
    (di : DenIt c b f target iter I) (ds : DenA c b f target S) (dt : DenTs c b f ifs T) (db : DenD c b f TT B) (hs : ∀ x, foldedSetIterable iter f.env x = pure x := by intro _; rfl) :
    DenD c b f (fun acc => do
      let x ← eval iter f.env
      standAt iter.pos
      let x ← foldedSetIterable iter f.env x
      let _ ← runOwn (.compStart (.ListComp elt₀ gens scope epos) d (← holding [x] (pyIter x)) acc f.env) f.env) (innerE I S T B) := by
  constructor
  intro A hA D ρ s es zs zs' es' e R
  obtain ⟨y, es₁, e1, e2⟩ := Zd e
  refine wpAny_bind (wpAny_mono (di.run A hA ρ s es y es₁ e1 R.r) (fun x s₁ z => ?_) fun _ _ z => z)
  refine wpAny_bind (wpAny_standAt (wpAny_bind (wpAny_of_eq (hs x) (wpAny_bind (wpAny_holding (wpAny_mono z (fun it s₂ z => ?_) fun _ _ z => z))))))
  obtain ⟨ρ', wr, pos, R', g, sm, src, hp, fresh⟩ := z
  have like' : ∀ a ∈ f.fr, a ∈ ρ'.rsv := fun a m => g.rsv ▸ R.r.like a m
  have RL := R'.enters (h := s.heap) (h₀ := s.heap) (ρ := ρ) like'
  have cy := carry_enter (wr := wr) g R.r.like fresh
  obtain ⟨vs, ⟨o, eo⟩, rr⟩ := R.acc
  have hd : ∀ a ∈ wr, a ∉ f.fr ∧ a ≠ D := fun a m => ⟨RL.hd a m, fun q => by rw [← q, fresh a m] at eo; cases eo⟩
  have hD := g.keep D _ eo R.dn (rsv_apart R.r.s.nodup R.dw)
  have RD : RelD c.K f D (ρ'.enter wr) es₁ zs s₂.heap := ⟨R', List.mem_append_right _ (g.rsv ▸ R.dw), R.dn, vs, ⟨o, hD⟩, rr.carry cy⟩
  have loop : codeAny (model c.prog c.w) A (.compLoop (.ListComp elt₀ gens scope epos) d it (.ref D) f.env) (fun r s' => match r with
      | .ok fl => ∃ ρ', P3 (RelD c.K f D ρ' es' zs' s'.heap) (Grow (D :: f.fr) ρ s.heap ρ' s'.heap) (Same s s')
      | .error _ => False) s₂ := by
    refine codeAny_mono (comp_run (heq it) src hA ds dt db e2 RD RL.hw hd hp) fun r s₃ z => ?_
    cases r with
    | error e => exact z.elim
    | ok fl =>
      obtain ⟨rfl, ρ₃, h₃, R₃, kp, g₃, q₃⟩ := z
      have hr : ρ₃.rsv = wr ++ ρ.rsv := by rw [g₃.rsv]; show wr ++ ρ'.rsv = _; rw [g.rsv]
      refine ⟨_, R₃.left kp hr hd R.r.like R.dw, Grow.through (ρ₂ := ρ'.enter wr) (g.wider fun a m => List.mem_cons_of_mem _ m) (fun _ _ e => e) rfl g₃ (fun a m => ?_) kp fresh, sm.trans q₃⟩
      rcases List.mem_append.mp m with m | m
      · exact .inl m
      · exact .inr (fresh a m)
  refine wpAny_bind (wpAny_runOwn (codeAny_mono (compStart_run hg loop (src.self 0 s₂ _ _ hp loop)) fun r s₃ z => ?_))
  cases r with
  | error e => exact z.elim
  | ok fl => exact wpAny_pure z
noncomputable def FI.comp (f : FI) (scope : Scope) (cl : List (Str × Addr)) (ln : List Str) (C : Addr) : FI := ⟨compEnvC scope cl C f.env, ln, f.cn⟩
noncomputable def compE (n : Nat) (I : FM Its) (S : PV → FM Unit) (T : FM Bool) (B : List PV → FM (List PV)) : FM (List PV) := fun es => match I es with
  | none => none
  | some (y, es₁) => (match Zr y.2 S T B y.1 [] ⟨List.replicate n none, es₁.cel, es₁.st⟩ with
    | none => none
    | some (zs, es₂) => some (zs, ⟨es₁.loc, es₂.cel, es₂.st⟩))
theorem comp_core {A : Around} {elt₀ : Expr} {gens : List Comprehension} {scope : Scope} {epos : Pos} {target iter : Expr} {p : Pos} {ifs : List Expr} {cl : List (Str × Addr)} {ln : List Str} {I : FM Its} {S : PV → FM Unit} {T : FM Bool} {TT : Addr → Value → Sem Unit}
    {B : List PV → FM (List PV)} (hg : gens[0]? = some ⟨target, iter, ifs, 0⟩)
    (heq : ∀ C it acc, compTurn (.ListComp elt₀ gens scope epos) 0 it acc (f.comp scope cl ln C).env = (standAt p >>= fun _ => pyNext it >>= fun r => match r with
      | none => pure (.done .next)
      | some v => letOwnedTupleGo target it v >>= fun _ => assign target (f.comp scope cl ln C).env v >>= fun _ =>
        (forIn ifs true fun x r => if r = true then do let ok ← isTrue x (f.comp scope cl ln C).env (eval x (f.comp scope cl ln C).env); pure (ForInStep.yield ok) else pure (ForInStep.yield r)) >>= fun ok =>
          if ok = true then TT C acc >>= fun _ => again (.compLoop (.ListComp elt₀ gens scope epos) 0 it acc (f.comp scope cl ln C).env) else again (.compLoop (.ListComp elt₀ gens scope epos) 0 it acc (f.comp scope cl ln C).env)))
    (hcell : ∀ x ∈ scope.names, x.2 ≠ .cell) (hkind : scope.kind = .function) (hA : AOk b A)
    (di : DenIt c b f target iter I) (ds : ∀ C, DenA c b (f.comp scope cl ln C) target S) (dt : ∀ C, DenTs c b (f.comp scope cl ln C) ifs T) (db : ∀ C, DenD c b (f.comp scope cl ln C) (TT C) B)
    {ρ : Rho} {s : Shared} {es es' : ES} {zs : List PV} (e : compE ln.length I S T B es = some (zs, es')) (R : RelF c.K f ρ es s.heap) {RR : Value → Addr → Result → Shared → Prop}
    (hRR : ∀ D C ρ' s' m, RelF c.K f (ρ'.enter [C]) es' s'.heap → Grow f.fr ρ s.heap ρ' s'.heap → Same s s' → s.heap.get? C = none → C ∉ f.fr → s'.heap.Ns C m → RV s'.heap (ρ'.enter [C]) (.ref D) (.lst zs) → RR (.ref D) C (.ok .next) s') :
    wpAny (model c.prog c.w) A (eval iter f.env) (fun x s₁ => wpAny (model c.prog c.w) A (pyIter x) (fun it s₂ => wpAny (model c.prog c.w) A (newList []) (fun acc s₃ =>
      wpAny (model c.prog c.w) A (newFunctionEnv scope f.env.globals cl [] f.env.qual none .none (some f.env)) (fun cenv s₄ =>
        codeAny (model c.prog c.w) A (.compStart (.ListComp elt₀ gens scope epos) 0 it acc { cenv with scope := relabel scope f.env }) (RR acc cenv.locals) s₄) noE s₃) noE s₂) noE s₁) noE s := by
  unfold compE at e
  split at e
  · exact (nos e).elim
  rename_i y es₁ e1
  split at e <;> (first | obtain ⟨rfl, rfl⟩ := spr e | exact (nos e).elim)
  rename_i es₂ e2
  refine wpAny_mono (di.run A hA ρ s es y es₁ e1 R) (fun x s₁ z => wpAny_mono z (fun it s₂ z => ?_) fun _ _ z => z) fun _ _ z => z
  obtain ⟨ρ₁, wr, pos, R₁, g₁, sm, src, hp, fresh⟩ := z
  refine wpAny_newObj_type (wpAny_newFunctionEnv hcell (by intro y hy; simp at hy) (fun h₁ hns hsb => ?_) hkind)
  dsimp only at hns hsb ⊢
  generalize hH : s₂.heap.push { cls := .type "list", dict := none, data := .seq ([] : List Value).toArray } = H at hns hsb ⊢
  have hC : H.objs.size = s₂.heap.objs.size + 1 := by rw [← hH, Heap.size_push]
  have kH : ∀ a o, s₂.heap.get? a = some o → H.get? a = some o := fun a o e => by rw [← hH]; exact Heap.get?_push_of_some _ e
  have k1 : ∀ a o, s₂.heap.get? a = some o → h₁.get? a = some o := fun a o e => hsb.extBut a o (Nat.ne_of_lt (Nat.lt_of_lt_of_le (Heap.lt_size e) (by rw [hC]; exact Nat.le_succ _))) (Heap.get?_push_of_some _ (kH a o e))
  have hDC : s₂.heap.objs.size ≠ H.objs.size := by rw [hC]; exact Nat.ne_of_lt (Nat.lt_succ_self _)
  have hD : h₁.get? s₂.heap.objs.size = some { cls := .type "list", dict := none, data := .seq ([] : List Value).toArray } := hsb.extBut _ _ hDC (Heap.get?_push_of_some _ (by rw [← hH]; exact Heap.get?_push_size _ rfl))
  have fC : s₂.heap.get? H.objs.size = none := get_ge (by rw [hC]; exact Nat.le_succ _)
  have fD : s₂.heap.get? s₂.heap.objs.size = none := get_ge (Nat.le_refl _)
  generalize hHo : H.objs.size = C at *
  generalize hDo : s₂.heap.objs.size = D at *
  have mem2 : ∀ a ∈ [C, D], a = C ∨ a = D := fun a m => by simpa using m
  obtain ⟨S₂, cy₂⟩ := R₁.s.enter (wr := [C, D]) (h' := h₁) k1 (fun a m => (mem2 a m).elim (fun q => q ▸ fC) (fun q => q ▸ fD)) (fun a m => (mem2 a m).elim (fun q => by obtain ⟨o, _, _, e, _⟩ := hns; exact ⟨o, q ▸ e⟩) (fun q => ⟨_, q ▸ hD⟩)) (by simp; exact fun q => hDC q.symm)
  have like₁ : ∀ a ∈ f.fr, a ∈ ρ₁.rsv := fun a m => g₁.rsv ▸ R.like a m
  have aliveF : ∀ a ∈ f.fr, ∃ o, s₂.heap.get? a = some o := fun a m => (R₁.s.apart a (Yb (List.mem_append_right _ (like₁ a m)))).2.2
  have nCf : C ∉ f.fr := fun m => by obtain ⟨o, e⟩ := aliveF C m; rw [fC] at e; exact (nos e).elim
  have nDf : D ∉ f.fr := fun m => by obtain ⟨o, e⟩ := aliveF D m; rw [fD] at e; exact (nos e).elim
  have RF : RelF c.K (f.comp scope cl ln C) ((ρ₁.enter wr).enter [C, D]) ⟨List.replicate ln.length none, es₁.cel, es₁.st⟩ h₁ := by
    refine ⟨S₂, ⟨_, hns, fun i x hx => ?_, fun x _ => rfl⟩, fun i x a e => ?_, fun a m => ?_, ?_⟩
    · have : ((List.replicate ln.length (none : Option PV))[i]?).join = none := by
        rw [List.getElem?_replicate]; split <;> rfl
      rw [this]; exact .none
    · obtain ⟨u, ⟨o, p, q⟩, r⟩ := R₁.c i x a e
      exact ⟨u, ⟨o, k1 a o p, q⟩, r.carry cy₂⟩
    · rcases List.mem_cons.mp m with rfl | m
      · exact List.mem_append_left _ List.mem_cons_self
      · exact List.mem_append_right _ (List.mem_append_right _ (like₁ a (List.mem_cons_of_mem _ m)))
    · exact List.nodup_cons.mpr ⟨fun m => nCf (List.mem_cons_of_mem _ m), (List.nodup_cons.mp R.nd).2⟩
  have RD : RelD c.K (f.comp scope cl ln C) D ((ρ₁.enter wr).enter [C, D]) ⟨List.replicate ln.length none, es₁.cel, es₁.st⟩ [] h₁ :=
    ⟨RF, List.mem_append_left _ (List.mem_cons_of_mem _ List.mem_cons_self), fun m => (List.mem_cons.mp m).elim hDC fun m => nDf (List.mem_cons_of_mem _ m), #[], ⟨_, hD⟩, .nil⟩
  have aw : ∀ a ∈ wr, ∃ o, s₂.heap.get? a = some o := fun a m => (R₁.s.apart a (Yb (List.mem_append_left _ m))).2.2
  have hw : ∀ a ∈ wr, a ∈ ((ρ₁.enter wr).enter [C, D]).rsv := fun a m => List.mem_append_right _ (List.mem_append_left _ m)
  have RL := R₁.enters (h := s.heap) (h₀ := s.heap) (ρ := ρ) like₁
  have hd : ∀ a ∈ wr, a ∉ (f.comp scope cl ln C).fr ∧ a ≠ D := fun a m => by
    obtain ⟨o, e⟩ := aw a m
    refine ⟨fun q => ?_, fun q => by rw [q, fD] at e; cases e⟩
    rcases List.mem_cons.mp q with q | q
    · replace q : a = C := q
      rw [q, fC] at e; exact (nos e).elim
    · exact RL.hd a m (List.mem_cons_of_mem _ q)
  have hp₂ : pos 0 h₁ ((ρ₁.enter wr).enter [C, D]) := src.stable _ _ _ _ _ hp cy₂ fun a _ o e => k1 a o e
  have sfC : s.heap.get? C = none := by
    cases q : s.heap.get? C with
    | none => rfl
    | some o =>
      have : C ∉ ρ.flatten := fun m => by
        have m' : C ∈ ρ₁.flatten := by
          obtain ⟨t, p⟩ := g₁.pre
          unfold Rho.flatten; rw [← p, List.flatten_append]; exact List.mem_append_left _ m
        obtain ⟨_, _, o', e'⟩ := R₁.s.apart C (Yv m')
        rw [fC] at e'; exact (nos e').elim
      rw [g₁.keep C o q nCf this] at fC; cases fC
  have sfD : s.heap.get? D = none := by
    cases q : s.heap.get? D with
    | none => rfl
    | some o =>
      have : D ∉ ρ.flatten := fun m => by
        have m' : D ∈ ρ₁.flatten := by
          obtain ⟨t, p⟩ := g₁.pre
          unfold Rho.flatten; rw [← p, List.flatten_append]; exact List.mem_append_left _ m
        obtain ⟨_, _, o', e'⟩ := R₁.s.apart D (Yv m')
        rw [fD] at e'; exact (nos e').elim
      rw [g₁.keep D o q nDf this] at fD; cases fD
  have loop : codeAny (model c.prog c.w) A (.compLoop (.ListComp elt₀ gens scope epos) 0 it (.ref D) (f.comp scope cl ln C).env) (RR (.ref D) C) { s₂ with heap := h₁, toks := s₂.toks + ([] : List (Str × Value)).length } := by
    refine codeAny_mono (comp_run (f := f.comp scope cl ln C) (heq C it) src hA (ds C) (dt C) (db C) e2 RD hw hd hp₂) fun r s₃ z => ?_
    cases r with
    | error e => exact z.elim
    | ok fl =>
      obtain ⟨rfl, ρ₃, h₃, R₃, kp, g₃, q₃⟩ := z
      have hr : ρ₃.rsv = [C, D] ++ (wr ++ ρ.rsv) := by rw [g₃.rsv]; show [C, D] ++ (wr ++ ρ₁.rsv) = _; rw [g₁.rsv]
      have n3 := (List.nodup_append.mp R₃.r.s.nodup).2.1
      rw [hr] at n3
      have n3' : (C :: D :: (wr ++ ρ.rsv)).Nodup := n3
      rw [List.nodup_cons, List.nodup_cons, List.nodup_append] at n3'
      obtain ⟨nC, nD, nw, nr, nwr⟩ := n3'
      have nCr : C ∉ ρ.rsv := fun m => nC (List.mem_cons_of_mem _ (List.mem_append_right _ m))
      have nDr : D ∉ ρ.rsv := fun m => nD (List.mem_append_right _ m)
      have nCw : C ∉ wr := fun m => nC (List.mem_cons_of_mem _ (List.mem_append_left _ m))
      obtain ⟨S₃, cy₃⟩ := R₃.r.s.drop (r' := C :: ρ.rsv) (wr := wr) (h' := s₃.heap) (List.nodup_cons.mpr ⟨nCr, nr⟩)
        (fun a m => by rw [hr]; rcases List.mem_cons.mp m with rfl | m; exact List.mem_append_left _ List.mem_cons_self; exact List.mem_append_right _ (List.mem_append_right _ m))
        (fun a m => ⟨by rw [hr]; exact List.mem_append_right _ (List.mem_append_left _ m), fun q => by
          rcases List.mem_cons.mp q with rfl | q
          · exact nCw m
          · exact nwr a m a q rfl⟩) kp
      have gT : Grow f.fr ρ s.heap ⟨ρ₃.ents, ρ.rsv⟩ s₃.heap := Grow.through (ρ₂ := (ρ₁.enter wr).enter [C, D]) g₁ k1 rfl g₃ (fun a m => by
        rcases List.mem_append.mp m with m | m
        · rcases List.mem_cons.mp m with rfl | m
          · exact .inr sfD
          · rcases List.mem_cons.mp m with rfl | m
            · exact .inr sfC
            · exact .inl (List.mem_cons_of_mem _ m)
        · exact .inr (fresh a m)) kp fresh
      have kf : ∀ a ∈ f.fr, a ∉ (f.comp scope cl ln C).fr → ∀ o, h₁.get? a = some o → s₃.heap.get? a = some o := fun a m nm o e => by
        have nw : a ∉ wr := fun q => RL.hd a q m
        refine kp a o (g₃.keep a o e (fun q => ?_) (rsv_apart S₂.nodup (List.mem_append_right _ (List.mem_append_right _ (like₁ a m))))) nw
        rcases List.mem_append.mp q with q | q
        · rcases List.mem_cons.mp q with rfl | q
          · exact nDf m
          · exact nm q
        · exact nw q
      have cyA : Carry h₁ ((ρ₁.enter wr).enter [C, D]) s₃.heap ⟨ρ₃.ents, C :: ρ.rsv⟩ := by
        have c1 := g₃.carry (fun a m => by
          rcases List.mem_append.mp m with m | m
          · rcases List.mem_cons.mp m with rfl | m
            · exact RD.dw
            · exact RF.like a m
          · exact hw a m)
        exact ⟨fun a o e na => by obtain ⟨x, y⟩ := c1.keep a o e na; exact cy₃.keep a o x y, fun i a e => cy₃.head i a (c1.head i a e)⟩
      have RFin : RelF c.K f ((⟨ρ₃.ents, ρ.rsv⟩ : Rho).enter [C]) ⟨es₁.loc, es₂.cel, es₂.st⟩ s₃.heap := by
        refine ⟨S₃, ?_, fun i x a e => ?_, fun a m => List.mem_cons_of_mem _ (R.like a m), R.nd⟩
        · refine (R₁.l.carry cy₂ fun o e => k1 _ o e).carry cyA fun o e => kf _ List.mem_cons_self (fun q => ?_) o e
          rcases List.mem_cons.mp q with q | q
          · replace q : f.env.locals = C := q
            exact nCf (by rw [← q]; exact List.mem_cons_self)
          · exact (List.nodup_cons.mp R.nd).1 q
        · obtain ⟨u, ⟨o, p, q⟩, r⟩ := R₃.r.c i x a e
          exact ⟨u, ⟨o, kp a o p fun m => RL.hd a m (mem_cells e), q⟩, r.carry cy₃⟩
      obtain ⟨m, hm, _, _⟩ := R₃.r.l
      obtain ⟨vs, ⟨n, eo⟩, rr⟩ := R₃.acc
      have nDw : D ∉ wr := fun m => (hd D m).2 rfl
      refine hRR D C ⟨ρ₃.ents, ρ.rsv⟩ s₃ m RFin gT (sm.trans q₃) sfC nCf (hm.at' fun o e => kp _ o e nCw) (.lst (fun q => ?_) ⟨n, by rw [Array.toArray_toList]; exact kp D _ eo nDw⟩ (rr.carry cy₃))
      rcases List.mem_append.mp q with q | q
      · exact rsv_apart R₃.r.s.nodup R₃.dw q
      · rcases List.mem_cons.mp q with q | q
        · exact hDC q
        · exact nDr q
  refine compStart_run hg ?_ (src.self 0 { s₂ with heap := h₁, toks := s₂.toks + ([] : List (Str × Value)).length } _ _ hp₂ ?_)
  · exact loop
  · exact loop
end
section
variable {c : Ctx0} {b : Nat} {f : FI}
noncomputable abbrev emitT (elt : Expr) (env : Env) (acc : Value) : Sem Unit := do let _ ← call (.builtin "list.append") [acc, ← eval elt env]
theorem turn1 (elt target iter : Expr) (ifs : List Expr) (scope : Scope) (pos : Pos) (it acc : Value) (env : Env) :
    compTurn (.ListComp elt [⟨target, iter, ifs, 0⟩] scope pos) 0 it acc env = (standAt iter.pos >>= fun _ => pyNext it >>= fun r => match r with
      | none => pure (.done .next)
      | some v => letOwnedTupleGo target it v >>= fun _ => assign target env v >>= fun _ =>
        (forIn ifs true fun x r => if r = true then do let ok ← isTrue x env (eval x env); pure (ForInStep.yield ok) else pure (ForInStep.yield r)) >>= fun ok =>
          if ok = true then emitT elt env acc >>= fun _ => again (.compLoop (.ListComp elt [⟨target, iter, ifs, 0⟩] scope pos) 0 it acc env) else again (.compLoop (.ListComp elt [⟨target, iter, ifs, 0⟩] scope pos) 0 it acc env)) := by rfl
theorem turn20f (elt target iter target' iter' : Expr) (ifs ifs' : List Expr) (scope : Scope) (pos : Pos) (it acc : Value) (env : Env) :
    compTurn (.ListComp elt [⟨target, iter, ifs, 0⟩, ⟨target', iter', ifs', 0⟩] scope pos) 0 it acc env = (standAt iter.pos >>= fun _ => pyNext it >>= fun r => match r with
      | none => pure (.done .next)
      | some v => letOwnedTupleGo target it v >>= fun _ => assign target env v >>= fun _ =>
        (forIn ifs true fun x r => if r = true then do let ok ← isTrue x env (eval x env); pure (ForInStep.yield ok) else pure (ForInStep.yield r)) >>= fun ok =>
          if ok = true then (do
            let x ← eval iter' env
            standAt iter'.pos
            let x ← foldedSetIterable iter' env x
            let _ ← runOwn (.compStart (.ListComp elt [⟨target, iter, ifs, 0⟩, ⟨target', iter', ifs', 0⟩] scope pos) 1 (← holding [x] (pyIter x)) acc env) env
            again (.compLoop (.ListComp elt [⟨target, iter, ifs, 0⟩, ⟨target', iter', ifs', 0⟩] scope pos) 0 it acc env)) else again (.compLoop (.ListComp elt [⟨target, iter, ifs, 0⟩, ⟨target', iter', ifs', 0⟩] scope pos) 0 it acc env)) := by rfl
theorem turn20 (elt target iter target' iter' : Expr) (ifs ifs' : List Expr) (scope : Scope) (pos : Pos) (it acc : Value) (env : Env) :
    compTurn (.ListComp elt [⟨target, iter, ifs, 0⟩, ⟨target', iter', ifs', 0⟩] scope pos) 0 it acc env = (standAt iter.pos >>= fun _ => pyNext it >>= fun r => match r with
      | none => pure (.done .next)
      | some v => letOwnedTupleGo target it v >>= fun _ => assign target env v >>= fun _ =>
        (forIn ifs true fun x r => if r = true then do let ok ← isTrue x env (eval x env); pure (ForInStep.yield ok) else pure (ForInStep.yield r)) >>= fun ok =>
          if ok = true then (do
            let x ← eval iter' env
            standAt iter'.pos
            let x ← foldedSetIterable iter' env x
            let _ ← runOwn (.compStart (.ListComp elt [⟨target, iter, ifs, 0⟩, ⟨target', iter', ifs', 0⟩] scope pos) 1 (← holding [x] (pyIter x)) acc env) env : Sem Unit) >>= fun _ => again (.compLoop (.ListComp elt [⟨target, iter, ifs, 0⟩, ⟨target', iter', ifs', 0⟩] scope pos) 0 it acc env) else again (.compLoop (.ListComp elt [⟨target, iter, ifs, 0⟩, ⟨target', iter', ifs', 0⟩] scope pos) 0 it acc env)) := by
  rw [turn20f]
  simp only [bind_assoc, pure_bind]
theorem turn21 (elt target iter target' iter' : Expr) (ifs ifs' : List Expr) (scope : Scope) (pos : Pos) (it acc : Value) (env : Env) :
    compTurn (.ListComp elt [⟨target, iter, ifs, 0⟩, ⟨target', iter', ifs', 0⟩] scope pos) 1 it acc env = (standAt iter'.pos >>= fun _ => pyNext it >>= fun r => match r with
      | none => pure (.done .next)
      | some v => letOwnedTupleGo target' it v >>= fun _ => assign target' env v >>= fun _ =>
        (forIn ifs' true fun x r => if r = true then do let ok ← isTrue x env (eval x env); pure (ForInStep.yield ok) else pure (ForInStep.yield r)) >>= fun ok =>
          if ok = true then emitT elt env acc >>= fun _ => again (.compLoop (.ListComp elt [⟨target, iter, ifs, 0⟩, ⟨target', iter', ifs', 0⟩] scope pos) 1 it acc env) else again (.compLoop (.ListComp elt [⟨target, iter, ifs, 0⟩, ⟨target', iter', ifs', 0⟩] scope pos) 1 it acc env)) := by rfl
structure CompOk (f : FI) (scope : Scope) (cl : List (Str × Addr)) : Prop where
  clos : closureFor scope f.env = pure cl
  cell : ∀ x ∈ scope.names, x.2 ≠ .cell
  kind : scope.kind = .function
  names : ∀ x ∈ scope.names, x.2 = .local → scope.names.lookup x.1 = some .local
structure DenC (c : Ctx0) (b : Nat) (f : FI) (elt iter : Expr) (gens : List Comprehension) (scope : Scope) (epos : Pos) (cl : List (Str × Addr)) (F : FM (List PV)) : Prop where
  run : ∀ A, AOk b A → ∀ ρ s es es' zs, F es = some (zs, es') → RelF c.K f ρ es s.heap → ∀ (RR : Value → Addr → Result → Shared → Prop),
    (∀ D C ρ' s' m, RelF c.K f (ρ'.enter [C]) es' s'.heap → Grow f.fr ρ s.heap ρ' s'.heap → Same s s' → s.heap.get? C = none → C ∉ f.fr → s'.heap.Ns C m → RV s'.heap (ρ'.enter [C]) (.ref D) (.lst zs) → RR (.ref D) C (.ok .next) s') →
    wpAny (model c.prog c.w) A (eval iter f.env) (fun x s₁ => wpAny (model c.prog c.w) A (pyIter x) (fun it s₂ => wpAny (model c.prog c.w) A (newList []) (fun acc s₃ =>
      wpAny (model c.prog c.w) A (newFunctionEnv scope f.env.globals cl [] f.env.qual none .none (some f.env)) (fun cenv s₄ =>
        codeAny (model c.prog c.w) A (.compStart (.ListComp elt gens scope epos) 0 it acc { cenv with scope := relabel scope f.env }) (RR acc cenv.locals) s₄) noE s₃) noE s₂) noE s₁) noE s
theorem denc_one {elt target iter : Expr} {ifs : List Expr} {scope : Scope} {epos : Pos} {cl : List (Str × Addr)} {ln : List Str} {I : FM Its} {S : PV → FM Unit} {T : FM Bool} {X : FM PV} (ok : CompOk f scope cl)
    (di : DenIt c b f target iter I) (ds : ∀ C, DenA c b (f.comp scope cl ln C) target S) (dt : ∀ C, DenTs c b (f.comp scope cl ln C) ifs T) (dx : ∀ C, Den c b (f.comp scope cl ln C) RV (eval elt (f.comp scope cl ln C).env) X) :
    DenC c b f elt iter [⟨target, iter, ifs, 0⟩] scope epos cl (compE ln.length I S T (emitE X)) :=
  ⟨fun A hA ρ s es es' zs e R RR h => comp_core (TT := fun C acc => emitT elt (f.comp scope cl ln C).env acc) rfl (fun C it acc => turn1 ..) ok.cell ok.kind hA di ds dt (fun C => dend_emit (dx C)) e R h⟩
theorem denc_two {elt target iter target' iter' : Expr} {ifs ifs' : List Expr} {scope : Scope} {epos : Pos} {cl : List (Str × Addr)} {ln : List Str} {I I' : FM Its} {S S' : PV → FM Unit} {T T' : FM Bool} {X : FM PV} (ok : CompOk f scope cl)
    (di : DenIt c b f target iter I) (ds : ∀ C, DenA c b (f.comp scope cl ln C) target S) (dt : ∀ C, DenTs c b (f.comp scope cl ln C) ifs T)
    (di' : ∀ C, DenIt c b (f.comp scope cl ln C) target' iter' I') (ds' : ∀ C, DenA c b (f.comp scope cl ln C) target' S') (dt' : ∀ C, DenTs c b (f.comp scope cl ln C) ifs' T')
    (dx : ∀ C, Den c b (f.comp scope cl ln C) RV (eval elt (f.comp scope cl ln C).env) X) (hs : ∀ env x, foldedSetIterable iter' env x = pure x := by intro _ _; rfl) :
    DenC c b f elt iter [⟨target, iter, ifs, 0⟩, ⟨target', iter', ifs', 0⟩] scope epos cl (compE ln.length I S T (innerE I' S' T' (emitE X))) :=
  ⟨fun A hA ρ s es es' zs e R RR h => comp_core rfl (fun C it acc => turn20 ..) ok.cell ok.kind hA di ds dt
    (fun C => dend_inner (TT := fun acc => emitT elt (f.comp scope cl ln C).env acc) rfl (fun it acc => turn21 ..) (di' C) (ds' C) (dt' C) (dend_emit (dx C)) (hs _)) e R h⟩
theorem left_comp {ρ ρ' : Rho} {es' : ES} {h h₂ h' : Heap} {C : Addr} (R : RelF c.K f (ρ'.enter [C]) es' h₂) (nC : C ∉ f.fr) (g : Grow f.fr ρ h ρ' h₂) (fC : h.get? C = none) (hs : Heap.SameBut C h₂ h') (L : ∀ a ∈ f.fr, a ∈ ρ.rsv) :
    RelF c.K f ρ' es' h' ∧ Grow f.fr ρ h ρ' h' ∧ Carry h₂ (ρ'.enter [C]) h' ρ' := by
  obtain ⟨S, cy⟩ := RelS.leave (ρ := ρ') (wr := [C]) (h' := h') R.s (Kept.of_same (by simp) hs)
  refine ⟨R.carry S cy (fun a m o e => (hs.2 a fun q => nC (q ▸ m)).trans e) (fun a m => g.rsv ▸ L a m), ⟨fun a o e nf nr => ?_, g.pre, g.rsv, g.new⟩, cy⟩
  exact (hs.2 a fun q => by rw [← q, e] at fC; cases fC).trans (g.keep a o e nf nr)
theorem den_listcomp {elt iter : Expr} {g : Comprehension} {gs : List Comprehension} {scope : Scope} {epos : Pos} {cl : List (Str × Addr)} {F : FM (List PV)} (ok : CompOk f scope cl) (hit : g.iter = iter) (ha : g.is_async = 0) (d : DenC c b f elt iter (g :: gs) scope epos cl F)
    (hs : ∀ x, foldedSetIterable iter f.env x = pure x := by intro _; rfl) :
    Den c b f RV (eval (.ListComp elt (g :: gs) scope epos) f.env) (bindE F fun zs => pureE (.lst zs)) := by
  constructor
  intro A hA ρ s es y es' e R
  obtain ⟨zs, es₁, e1, e2⟩ := Zd e
  cases e2
  subst hit
  obtain ⟨target, iter, ifs, ia⟩ := g
  replace ha : ia = 0 := ha
  subst ha
  rw [eval_ListComp]
  refine wpAny_comprehension_free (use := none) rfl hs ok.clos ok.kind ok.names (d.run A hA ρ s es es' zs e1 R (fun acc C => compPost (model c.prog c.w) A noE none (Ends c.K f RV ρ s (.lst zs) es') acc C) ?_)
  intro D C ρ' s' m R' g sm fC nC hm rv
  refine ⟨m, hm, fun h' hs => ?_⟩
  obtain ⟨RF, gg, cy⟩ := left_comp R' nC g fC hs R.like
  exact ⟨ρ', RF, gg, sm, rv.carry cy⟩
theorem den_assign_comp {elt iter : Expr} {y : Str} {py spos : Pos} {g : Comprehension} {gs : List Comprehension} {scope : Scope} {epos : Pos} {cl : List (Str × Addr)} {F : FM (List PV)} {S : PV → FM Unit} (ok : CompOk f scope cl) (hit : g.iter = iter) (ha : g.is_async = 0)
    (d : DenC c b f elt iter (g :: gs) scope epos cl F) (ds : DenA c b f (.Name y py) S)
    (hsw : swapsWith (.ListComp elt (g :: gs) scope epos) (some (.Name y py)) spos.line f.env = pure true) (hs : ∀ x, foldedSetIterable iter f.env x = pure x := by intro _; rfl) :
    Den c b f RFl (exec (.Assign [.Name y py] (.ListComp elt (g :: gs) scope epos) spos) f.env) (bindE (bindE F fun zs => pureE (.lst zs)) fun p => bindE (S p) fun _ => pureE .next) := by
  constructor
  intro A hA ρ s es r es' e R
  obtain ⟨p, es₁, e1, e⟩ := Zd e
  obtain ⟨zs, es₀, e0, e1⟩ := Zd e1
  cases e1
  obtain ⟨_, es₂, e2, e3⟩ := Zd e
  cases e3
  subst hit
  obtain ⟨target, iter, ifs, ia⟩ := g
  replace ha : ia = 0 := ha
  subst ha
  rw [exec_Assign_Name_used _ _ _ _ hsw]
  refine wpAny_bind (wpAny_standAt (wpAny_bind ?_))
  show wpAny _ A (do let _ ← comprehension (.ListComp elt (⟨target, iter, ifs, 0⟩ :: gs) scope epos) scope f.env _ (newList []) false (eval iter f.env) (some (assign (.Name y py) f.env))) _ _ s
  refine wpAny_bind (wpAny_mono (wpAny_comprehension_free (use := some (assign (.Name y py) f.env)) (Q := fun _ s' => Ends c.K f RFl ρ s .next es' .next s') rfl hs ok.clos ok.kind ok.names
    (d.run A hA ρ s es es₁ zs e0 R (fun acc C => compPost (model c.prog c.w) A noE (some (assign (.Name y py) f.env)) (fun _ s' => Ends c.K f RFl ρ s .next es' .next s') acc C) ?_)) (fun _ s' hq => wpAny_pure (wpAny_pure hq)) fun _ _ e => e)
  intro D C ρ' s' m R' g sm fC nC hm rv
  show wpAny _ A (assign (.Name y py) f.env (.ref D)) _ _ _
  refine wpAny_mono (ds.run A hA (ρ'.enter [C]) s' es₁ (.ref D) (.lst zs) () es' e2 rv R') (fun _ s'' z => ?_) fun _ _ z => z
  obtain ⟨ρ₂, R₂, g₂, q₂, _⟩ := z
  have hC : C ∈ (ρ'.enter [C]).rsv := List.mem_append_left _ List.mem_cons_self
  refine ⟨m, hm.at' fun o e => g₂.keep _ o e nC (rsv_apart R'.s.nodup hC), fun h' hs => ?_⟩
  obtain ⟨e', r'⟩ := ρ₂
  have hr : r' = [C] ++ ρ'.rsv := g₂.rsv
  subst hr
  have gg : Grow f.fr ρ s.heap ⟨e', ρ'.rsv⟩ s''.heap := by
    have := Grow.through (ρ₂ := ρ'.enter [C]) (wr := []) (h₄ := s''.heap) g (fun _ _ e => e) rfl g₂ (fun a m => .inl m) (fun _ _ e _ => e) (fun _ m => nomatch m)
    rw [← g.rsv] at this
    exact this
  obtain ⟨RF, gg', cy⟩ := left_comp (ρ' := ⟨e', ρ'.rsv⟩) R₂ nC gg fC hs R.like
  exact ⟨_, RF, gg', sm.trans q₂, .next⟩
end
section
variable {c : Ctx0} {b : Nat} {f : FI}
theorem rvs0 {h : Heap} {ρ : Rho} {vs : List Value} (r : RVs h ρ vs []) : vs = [] := by cases r; rfl
theorem rvs1 {h : Heap} {ρ : Rho} {vs : List Value} {p : PV} (r : RVs h ρ vs [p]) : ∃ v, vs = [v] ∧ RV h ρ v p := by
  cases r with | cons x y => cases rvs0 y; exact ⟨_, rfl, x⟩
theorem rvs2 {h : Heap} {ρ : Rho} {vs : List Value} {p q : PV} (r : RVs h ρ vs [p, q]) : ∃ v u, P3 (vs = [v, u]) (RV h ρ v p) (RV h ρ u q) := by
  cases r with | cons x y => obtain ⟨u, rfl, z⟩ := rvs1 y; exact ⟨_, _, rfl, x, z⟩
theorem rvs3 {h : Heap} {ρ : Rho} {vs : List Value} {p q t : PV} (r : RVs h ρ vs [p, q, t]) : ∃ v u w, P4 (vs = [v, u, w]) (RV h ρ v p) (RV h ρ u q) (RV h ρ w t) := by
  cases r with | cons x y => obtain ⟨u, w, rfl, z, z'⟩ := rvs2 y; exact ⟨_, _, _, rfl, x, z, z'⟩
theorem RelS.pushObj {K : Frag} {ρ : Rho} {st : List AO} {h : Heap} (R : RelS K ρ st h) (o : Obj) : RelS K ρ st (h.push o) ∧ Grow [] ρ h ρ (h.push o) := R.ext fun _ _ e => Heap.get?_push_of_some _ e
theorem RelS.newOff {K : Frag} {ρ : Rho} {st : List AO} {h : Heap} (R : RelS K ρ st h) : h.objs.size ∉ ρ.own := fun m => by
  obtain ⟨_, _, o, e⟩ := R.apart _ m
  rw [get_ge (Nat.le_refl _)] at e; exact (nos e).elim
theorem ends_lst {ρ : Rho} {st : List AO} {s : Shared} {vs : List Value} {ps : List PV} {tk : Nat} (R : RelS c.K ρ st s.heap) (rr : RVs s.heap ρ vs ps) :
    EndsS c.K RV ρ s (.lst ps) st (.ref s.heap.objs.size) { s with heap := s.heap.push { cls := .type "list", data := .seq vs.toArray }, toks := tk } := by
  obtain ⟨S, g⟩ := R.pushObj { cls := .type "list", data := .seq vs.toArray }
  exact ⟨ρ, S, g, ⟨rfl, rfl, rfl⟩, .lst R.newOff ⟨_, Heap.get?_push_size _ rfl⟩ (rr.grow g noFr)⟩
theorem ends_tup {ρ : Rho} {st : List AO} {s : Shared} {vs : List Value} {ps : List PV} {tk : Nat} (R : RelS c.K ρ st s.heap) (rr : RVs s.heap ρ vs ps) :
    EndsS c.K RV ρ s (.tup ps) st (.ref s.heap.objs.size) { s with heap := s.heap.push { cls := .type "tuple", data := .seq vs.toArray }, toks := tk } := by
  obtain ⟨S, g⟩ := R.pushObj { cls := .type "tuple", data := .seq vs.toArray }
  exact ⟨ρ, S, g, ⟨rfl, rfl, rfl⟩, .tup R.newOff ⟨_, Heap.get?_push_size _ rfl, rfl, _, rfl⟩ (rr.grow g noFr)⟩
theorem headAt_push {ρ : Rho} {a : Addr} {r : List Addr} : headAt (ρ.push (a :: r)) ρ.ents.length = some a := by
  unfold headAt Rho.push
  rw [List.getElem?_append_right (Nat.le_refl _), Nat.sub_self]; rfl
theorem ends_new {ρ : Rho} {st : List AO} {s : Shared} {vs : List Value} {ps : List PV} {tk : Nat} (R : RelS c.K ρ st s.heap) (rr : RVs s.heap ρ vs ps) :
    EndsS c.K RV ρ s (.ref st.length) (st ++ [.list ps]) (.ref s.heap.objs.size) { s with heap := s.heap.push { cls := .type "list", data := .seq vs.toArray }, toks := tk } := by
  obtain ⟨S, g⟩ := R.push (as := [s.heap.objs.size]) (ao := .list ps) (h' := s.heap.push { cls := .type "list", data := .seq vs.toArray }) (fun _ _ e => Heap.get?_push_of_some _ e)
    (fun a m => by rw [List.mem_singleton.mp m]; exact get_ge (Nat.le_refl _)) (fun a m => by rw [List.mem_singleton.mp m]; exact ⟨_, Heap.get?_push_size _ rfl⟩) (by simp)
    (fun g => ⟨_, _, _, rfl, Heap.get?_push_size _ rfl, by simpa using rr.grow g noFr⟩)
  refine ⟨_, S, g, ⟨rfl, rfl, rfl⟩, .ref ?_⟩
  rw [← R.len]; exact headAt_push
noncomputable def lstE (ps : List PV) : FM PV := if ps.length ≤ sizeLine then pureE (.lst ps) else failE
noncomputable def tupE (ps : List PV) : FM PV := if ps.length ≤ sizeLine then pureE (.tup ps) else failE
noncomputable def newE (ps : List PV) : FM PV := fun es => if ps.length ≤ sizeLine then some (.ref es.st.length, { es with st := es.st ++ [.list ps] }) else none
theorem den_list {elts : List Expr} {pos : Pos} {FA : FM (List PV)} (d : DenArgs c b f pos elts FA) : Den c b f RV (eval (.List elts pos) f.env) (bindE FA lstE) := by
  constructor
  intro A hA ρ s es y es' e R
  obtain ⟨ps, es₁, e1, e⟩ := Zd e
  unfold lstE at e
  split at e <;> cases e
  refine wpAny_List_spliced (wpAny_mono (d.run A hA ρ s es ps es' e1 R) (fun vs s₁ z => ?_) fun _ _ z => z)
  obtain ⟨ρ₁, R₁, g₁, q₁, rr⟩ := z
  exact ⟨by rw [rr.length]; assumption, ((ends_lst (tk := s₁.toks) R₁.s rr).toF R₁).after g₁ q₁⟩
theorem Yj {elts : List Expr} {pos : Pos} {FA : FM (List PV)} (d : DenArgs c b f pos elts FA) : Den c b f RV (eval (.List elts pos) f.env) (bindE FA newE) := by
  constructor
  intro A hA ρ s es y es' e R
  obtain ⟨ps, es₁, e1, e⟩ := Zd e
  unfold newE at e
  split at e <;> (first | obtain ⟨rfl, rfl⟩ := spr e | exact (nos e).elim)
  refine wpAny_List_spliced (wpAny_mono (d.run A hA ρ s es ps es₁ e1 R) (fun vs s₁ z => ?_) fun _ _ z => z)
  obtain ⟨ρ₁, R₁, g₁, q₁, rr⟩ := z
  exact ⟨by rw [rr.length]; assumption, ((ends_new (tk := s₁.toks) R₁.s rr).toF R₁).after g₁ q₁⟩
theorem Yl {elts : List Expr} {k : Nat} {pos : Pos} {FA : FM (List PV)} (d : DenArgs c b f pos elts FA) : Den c b f RV (eval (.Tuple elts k pos) f.env) (bindE FA tupE) := by
  constructor
  intro A hA ρ s es y es' e R
  obtain ⟨ps, es₁, e1, e⟩ := Zd e
  unfold tupE at e
  split at e <;> cases e
  refine wpAny_Tuple_spliced (wpAny_mono (d.run A hA ρ s es ps es' e1 R) (fun vs s₁ z => ?_) fun _ _ z => z)
  obtain ⟨ρ₁, R₁, g₁, q₁, rr⟩ := z
  exact ⟨by rw [rr.length]; assumption, ((ends_tup (tk := s₁.toks) R₁.s rr).toF R₁).after g₁ q₁⟩
noncomputable def isLst (p : PV) (st : List AO) : Bool := (items? st p).isSome
theorem Yx {name : Str} {id : String} (slot : Slot "list" name id) (hty : typeOf (.builtin id) = pure (.type "method_descriptor")) : MethAt c name isLst (.builtin id) := by
  constructor
  intro A pl ρ s st v p Q hP r R h
  unfold isLst at hP
  obtain ⟨xs, hx⟩ := Option.isSome_iff_exists.mp hP
  obtain ⟨a, vs, rfl, ⟨n, e⟩, _⟩ := items_of R r hx
  exact getMethod_builtin ⟨_, e, rfl⟩ F.plainAttrs_list slot hty (fun a' q => by cases q; exact ⟨_, e, rfl⟩) h
theorem RelS.listPut {K : Frag} {ρ : Rho} {st : List AO} {h h' : Heap} (R : RelS K ρ st h) {i : Nat} {a : Addr} {xs xs' : List PV} {vs' : Array Value} (hd : headAt ρ i = some a) (q : st[i]? = some (.list xs)) (hs : Heap.SameBut a h h') (p : h'.PlainList a vs')
    (rr : RVs h ρ vs'.toList xs') : RelS K ρ (st.set i (.list xs')) h' ∧ Grow [] ρ h ρ h' := by
  obtain ⟨vs, n, e, _, hr⟩ := R.listAt hd q
  obtain ⟨n', e'⟩ := p
  exact R.put hr (fun x o ex nx => (hs.2 x fun q => nx (q ▸ List.mem_singleton.mpr rfl)).trans ex) (fun x m => by rw [List.mem_singleton.mp m]; exact ⟨_, e'⟩) fun g => ⟨a, vs', n', rfl, e', rr.grow g noFr⟩
noncomputable def appendG (ps : List PV) : SM PV := fun st => pik fun r => ∃ i p xs, P4 (ps = [.ref i, p]) (st[i]? = some (.list xs)) (xs.length ≤ sizeLine) (r = (.none, st.set i (.list (xs ++ [p]))))
theorem append_of {st : List AO} {i : Nat} {p : PV} {xs : List PV} (q : st[i]? = some (.list xs)) (h : xs.length ≤ sizeLine) : appendG [.ref i, p] st = some (.none, st.set i (.list (xs ++ [p]))) :=
  pik_of ⟨_, _, _, rfl, q, h, rfl⟩ fun z q' => by obtain ⟨_, _, _, e, q', _, e'⟩ := q'; cases e; cases q.symm.trans q'; exact e'
theorem op_append : OpL c b (fun vs => call (.builtin "list.append") vs) appendG := by
  constructor
  intro A hA ρ s st vs ps y st' e r R
  obtain ⟨i, p, xs, rfl, q, hz, e'⟩ := Zq e
  clear e; cases e'
  obtain ⟨_, _, rfl, r1, r2⟩ := rvs2 r
  obtain ⟨_, hd, rfl⟩ := r1.inv
  obtain ⟨vs, n, e0, rs, hr⟩ := R.listAt hd q
  have hl := rs.length
  rw [Array.length_toList] at hl
  refine wpAny_list_append_plain ⟨n, e0⟩ (fun h' p hs => ?_) (by rw [hl]; exact hz)
  obtain ⟨S, g⟩ := R.listPut hd q hs p (by rw [Array.toList_push]; exact rs.append (.cons r2 .nil))
  exact ⟨ρ, S, g, ⟨rfl, rfl, rfl⟩, .none⟩
theorem RVs.erase {h : Heap} {ρ : Rho} {vs : List Value} {ps : List PV} (r : RVs h ρ vs ps) : ∀ k : Nat, RVs h ρ (vs.eraseIdx k) (ps.eraseIdx k) := by
  induction vs generalizing ps with
  | nil => intro k; cases r; simp; exact .nil
  | cons v vs ih =>
    intro k
    cases r with | cons x y => cases k with | zero => exact y | succ k => exact .cons x (ih y k)
noncomputable def popG (ps : List PV) : SM PV := fun st => pik fun r => ∃ i y xs, P4 (ps = [.ref i, .int 0]) (st[i]? = some (.list (y :: xs))) (xs.length + 1 ≤ sizeLine) (r = (y, st.set i (.list xs)))
theorem pop_of {st : List AO} {i : Nat} {y : PV} {xs : List PV} (q : st[i]? = some (.list (y :: xs))) (h : xs.length + 1 ≤ sizeLine) : popG [.ref i, .int 0] st = some (y, st.set i (.list xs)) :=
  pik_of ⟨_, _, _, rfl, q, h, rfl⟩ fun z q' => by obtain ⟨_, _, _, e, q', _, e'⟩ := q'; cases e; cases q.symm.trans q'; exact e'
theorem op_pop : OpL c b (fun vs => call (.builtin "list.pop") vs) popG := by
  constructor
  intro A hA ρ s st vs ps y st' e r R
  obtain ⟨i, y, xs, rfl, q, hz, e'⟩ := Zq e
  clear e; cases e'
  obtain ⟨_, _, rfl, r1, r2⟩ := rvs2 r
  obtain ⟨_, hd, rfl⟩ := r1.inv
  obtain ⟨t, rfl⟩ := r2.inv
  obtain ⟨vs, n, e0, rs, hr⟩ := R.listAt hd q
  have hl := rs.length
  rw [Array.length_toList] at hl
  simp at hl
  obtain ⟨v, hv, rv⟩ := rs.getAt (i := 0) rfl
  have hlt : 0 < vs.size := by omega
  refine call_meets F.slot_list_pop ⟨_, e0, rfl⟩ F.entry_list_pop (F.args_list_pop_2 _ _) (MeetsSeq.list_pop_at _ vs n 0 t 0 v (by decide) (seqIndex_of (i := 0) (by decide) hlt) hv (by rw [hl]; exact hz)) ⟨e0, ?_⟩
  show EndsS _ _ _ _ _ _ _ _
  obtain ⟨S, g⟩ := R.listPut hd q (h' := s.heap.update _ (Obj.mapSeq fun xs => xs.eraseIdxIfInBounds 0)) (Heap.SameBut.update ..) (vs' := (vs.toList.eraseIdx 0).toArray)
    ⟨_, by rw [Heap.get?_update_self _ e0 (by rw [mapSeq_erase _ _ _ hlt]; rfl), mapSeq_erase _ _ _ hlt]⟩ (by simpa using rs.erase 0)
  exact ⟨ρ, S, g, ⟨rfl, rfl, rfl⟩, rv.grow g noFr⟩
end
section
variable {c : Ctx0} {b : Nat} {f : FI}
noncomputable def dat : Nat → PV → Option PyData
  | _, .none => some .none
  | _, .bool t => some (.bool t)
  | _, .int i => some (.int i)
  | _, .str x => if PyData.strOk x = true then some (.str x) else none
  | n + 1, .tup xs => (xs.mapM (dat n)).map .tuple
  | n + 1, .lst xs => (xs.mapM (dat n)).map .list
  | _, _ => none
noncomputable def datS (st : List AO) (p : PV) : Option PyData := match p with
  | .ref i => (match st[i]? with
    | some (.list xs) => (xs.mapM (dat 5)).map .list
    | _ => none)
  | p => dat 6 p
theorem depthAll_le {n : Nat} : ∀ {ds : List PyData}, (∀ d ∈ ds, d.depth ≤ n) → PyData.depthAll ds ≤ n
  | [], _ => Nat.zero_le _
  | d :: ds, h => Nat.max_le.mpr ⟨h d (.head _), depthAll_le fun x m => h x (.tail _ m)⟩
theorem canLayAll_of {ds : List PyData} (h : ∀ d ∈ ds, d.canLay0 = true) : PyData.canLayAll0 ds = true := by
  induction ds with
  | nil => rfl
  | cons d ds ih => simp only [PyData.canLayAll0, h d (.head _), ih fun x m => h x (.tail _ m), Bool.and_self]
structure DatOk (h : Heap) (v : Value) (n : Nat) (d : PyData) : Prop where
  reads : ∃ as, Reads h v d as
  lay : d.canLay0 = true
  depth : d.depth ≤ n
theorem datAll {h : Heap} {ρ : Rho} {n : Nat} (ih : ∀ {v p d}, RV h ρ v p → dat n p = some d → DatOk h v n d) {vs : List Value} {xs : List PV} {ds : List PyData} (r : RVs h ρ vs xs) (e : xs.mapM (dat n) = some ds) : (∃ as, ReadsAll h vs ds as) ∧ (∀ d ∈ ds, d.canLay0 = true) ∧ ∀ d ∈ ds, d.depth ≤ n := by
  induction xs generalizing vs ds with
  | nil => obtain rfl := r.inv; obtain rfl := Option.some.inj e; exact ⟨⟨_, .nil⟩, by simp, by simp⟩
  | cons p xs hx =>
    obtain ⟨u, us, rfl, r1, rr⟩ := r.inv
    rw [List.mapM_cons] at e
    obtain ⟨d, e1, e⟩ := Option.bind_eq_some_iff.mp e
    obtain ⟨ds', e2, e3⟩ := Option.bind_eq_some_iff.mp e
    obtain rfl := Option.some.inj e3
    obtain ⟨⟨as, ra⟩, l, dp⟩ := ih r1 e1
    obtain ⟨⟨bs, rb⟩, ls, dps⟩ := hx rr e2
    exact ⟨⟨_, .cons ra rb⟩, fun x m => (List.mem_cons.mp m).elim (fun q => q ▸ l) (ls x), fun x m => (List.mem_cons.mp m).elim (fun q => q ▸ dp) (dps x)⟩
theorem dat_ok {h : Heap} {ρ : Rho} : ∀ (n : Nat) {v : Value} {p : PV} {d : PyData}, RV h ρ v p → dat n p = some d → DatOk h v n d := by
  intro n
  induction n with
  | zero =>
    intro v p d r e
    cases r <;> simp only [dat] at e <;> try (first | exact (nos e).elim | obtain rfl := Option.some.inj e)
    · exact ⟨⟨_, .none⟩, rfl, Nat.le_refl _⟩
    · exact ⟨⟨_, .bool _⟩, rfl, Nat.le_refl _⟩
    · exact ⟨⟨_, .int _ _⟩, rfl, Nat.le_refl _⟩
    · split at e <;> (first | exact (nos e).elim | obtain rfl := Option.some.inj e)
      rename_i hs
      exact ⟨⟨_, .str _ _⟩, by simpa [PyData.canLay0] using hs, Nat.le_refl _⟩
  | succ n ih =>
    intro v p d r e
    cases r <;> simp only [dat] at e <;> try (first | exact (nos e).elim | obtain rfl := Option.some.inj e)
    · exact ⟨⟨_, .none⟩, rfl, Nat.zero_le _⟩
    · exact ⟨⟨_, .bool _⟩, rfl, Nat.zero_le _⟩
    · exact ⟨⟨_, .int _ _⟩, rfl, Nat.zero_le _⟩
    · split at e <;> (first | exact (nos e).elim | obtain rfl := Option.some.inj e)
      rename_i hs
      exact ⟨⟨_, .str _ _⟩, by simpa [PyData.canLay0] using hs, Nat.zero_le _⟩
    · rename_i a vs xs na q rr
      obtain ⟨ds, e1, rfl⟩ := Option.map_eq_some_iff.mp e
      obtain ⟨⟨as, ra⟩, l, dp⟩ := datAll ih rr e1
      obtain ⟨o, eo, ec, k, ed⟩ := q
      exact ⟨⟨_, .tuple eo ec ed (by simpa using ra)⟩, by simpa [PyData.canLay0] using canLayAll_of l, Nat.succ_le_succ (depthAll_le dp)⟩
    · rename_i a vs xs na q rr
      obtain ⟨ds, e1, rfl⟩ := Option.map_eq_some_iff.mp e
      obtain ⟨⟨as, ra⟩, l, dp⟩ := datAll ih rr e1
      obtain ⟨k, eo⟩ := q
      exact ⟨⟨_, .list eo rfl rfl (by simpa using ra)⟩, by simpa [PyData.canLay0] using canLayAll_of l, Nat.succ_le_succ (depthAll_le dp)⟩
theorem datS_ok {K : Frag} {ρ : Rho} {st : List AO} {h : Heap} (R : RelS K ρ st h) {v : Value} {p : PV} {d : PyData} (r : RV h ρ v p) (e : datS st p = some d) : DatOk h v 6 d := by
  unfold datS at e
  split at e
  · split at e <;> try exact (nos e).elim
    rename_i q
    obtain ⟨ds, e1, rfl⟩ := Option.map_eq_some_iff.mp e
    obtain ⟨_, hd, rfl⟩ := r.inv
    obtain ⟨vs, k, e0, rs, _⟩ := R.listAt hd q
    obtain ⟨⟨as, ra⟩, l, dp⟩ := datAll (n := 5) (fun r e => dat_ok 5 r e) rs e1
    exact ⟨⟨_, .list e0 rfl rfl ra⟩, by simpa [PyData.canLay0] using canLayAll_of l, Nat.succ_le_succ (depthAll_le dp)⟩
  · exact dat_ok 6 r e
noncomputable def eqG (p q : PV) : SM PV := fun st => match datS st p, datS st q with | some x, some y => some (.bool (PyData.eqv x y), st) | _, _ => none
noncomputable def neG (p q : PV) : SM PV := fun st => match datS st p, datS st q with | some x, some y => some (.bool (!PyData.eqv x y), st) | _, _ => none
theorem units_ok {A : Around} (hA : AOk b A) : A.units ≤ 9000 := by have := hA.units; omega
theorem op_eqG : Op2 c b RV (compareOp .Eq) eqG := by
  constructor
  intro A hA ρ s st x z x' z' y st' e r r' R
  unfold eqG at e; split at e <;> (first | obtain ⟨rfl, rfl⟩ := spr e | exact (nos e).elim)
  rename_i e1 e2
  obtain ⟨⟨as, ra⟩, l, dp⟩ := datS_ok R r e1
  obtain ⟨⟨bs, rb⟩, l', dp'⟩ := datS_ok R r' e2
  have hu := units_ok hA
  refine SeqAt.compareEq_reads ra rb l l' ?_ (EndsS.here R (.bool _))
  show _ < 9900
  exact Nat.lt_of_le_of_lt (Nat.add_le_add hu (Nat.le_trans (Nat.min_le_left _ _) dp)) (by decide)
theorem op_neG : Op2 c b RV (compareOp .NotEq) neG := by
  constructor
  intro A hA ρ s st x z x' z' y st' e r r' R
  unfold neG at e; split at e <;> (first | obtain ⟨rfl, rfl⟩ := spr e | exact (nos e).elim)
  rename_i e1 e2
  obtain ⟨⟨as, ra⟩, l, dp⟩ := datS_ok R r e1
  obtain ⟨⟨bs, rb⟩, l', dp'⟩ := datS_ok R r' e2
  have hu := units_ok hA
  refine SeqAt.compareNe_reads ra rb l l' ?_ (EndsS.here R (.bool _))
  show _ < 9900
  exact Nat.lt_of_le_of_lt (Nat.add_le_add hu (Nat.le_trans (Nat.min_le_left _ _) dp)) (by decide)
theorem canLay_list {ds : List PyData} (h : (PyData.list ds).canLay0 = true) : PyData.canLayAll0 ds = true := by simpa [PyData.canLay0] using h
theorem room_in {A : Around} (hA : AOk b A) {d : PyData} {m : Nat} (dp : d.depth ≤ 6) : A.units + 1 + min m d.depth < cLine := by
  have hu := units_ok hA
  show _ < 9900
  exact Nat.lt_of_le_of_lt (Nat.add_le_add (Nat.add_le_add_right hu 1) (Nat.le_trans (Nat.min_le_right _ _) dp)) (by decide)
noncomputable def ltG (p q : PV) : SM PV := fun st => pik fun r => ∃ i j, P3 (p = .int i) (q = .int j) (r = (.bool (decide (i < j)), st))
theorem ltG_of {i j : Int} {st : List AO} : ltG (.int i) (.int j) st = some (.bool (decide (i < j)), st) := pik_of ⟨_, _, rfl, rfl, rfl⟩ fun z q' => by obtain ⟨_, _, e, e', e''⟩ := q'; cases e; cases e'; exact e''
theorem op_ltG : Op2 c b RV (compareOp .Lt) ltG := by
  constructor
  intro A hA ρ s st x z x' z' y st' e r r' R
  obtain ⟨i, j, rfl, rfl, e'⟩ := Zq e
  clear e; cases e'
  obtain ⟨_, rfl⟩ := r.inv; obtain ⟨_, rfl⟩ := r'.inv
  exact PyProof.Rows.lt_int (EndsS.here R (.bool _))
noncomputable def addG (p q : PV) : SM PV := fun st => match p, q with
  | .int i, .int j => some (.int (i + j), st)
  | .str x, .str y => if x.length + y.length ≤ sizeLine then some (.str (x ++ y), st) else none
  | p, q => (match items? st p, items? st q with
    | some xs, some ys => if xs.length + ys.length ≤ sizeLine then some (.lst (xs ++ ys), st) else none
    | _, _ => none)
theorem op_addG : Op2 c b RV (binaryOp .Add) addG := by
  constructor
  intro A hA ρ s st x z x' z' y st' e r r' R
  unfold addG at e; split at e
  · obtain ⟨rfl, rfl⟩ := spr e; obtain ⟨_, rfl⟩ := r.inv; obtain ⟨_, rfl⟩ := r'.inv
    exact PyProof.Rows.add_int (EndsS.tok R (.int _ _))
  · split at e <;> (first | obtain ⟨rfl, rfl⟩ := spr e | exact (nos e).elim)
    rename_i hb
    obtain ⟨_, rfl⟩ := r.inv; obtain ⟨_, rfl⟩ := r'.inv
    exact PyProof.Rows.add_str (fun t' tk => EndsS.tok R (.str _ _)) hb
  · split at e <;> try exact (nos e).elim
    rename_i h1 h2
    split at e <;> (first | obtain ⟨rfl, rfl⟩ := spr e | exact (nos e).elim)
    rename_i hb
    obtain ⟨a, vs, rfl, ⟨n, q⟩, rs⟩ := items_of R r h1
    obtain ⟨a', vs', rfl, ⟨n', q'⟩, rs'⟩ := items_of R r' h2
    have hl := rs.length
    have hl' := rs'.length
    rw [Array.length_toList] at hl hl'
    refine P.add_list q q' ?_ (by rw [hl, hl']; exact hb)
    have := ends_lst (c := c) (s := s) (tk := s.toks) R (rs.append rs')
    rwa [show (vs.toList ++ vs'.toList).toArray = vs ++ vs' from by rw [← Array.toList_append, Array.toArray_toList]] at this
noncomputable def iaddG (p q : PV) : SM PV := fun st => match p, q with
  | .int i, .int j => some (.int (i + j), st)
  | .str x, .str y => if x.length + y.length ≤ sizeLine then some (.str (x ++ y), st) else none
  | _, _ => none
theorem op_iaddG : Op2 c b RV (inplaceOp .Add) iaddG := by
  constructor
  intro A hA ρ s st x z x' z' y st' e r r' R
  unfold iaddG at e; split at e
  · obtain ⟨rfl, rfl⟩ := spr e; obtain ⟨_, rfl⟩ := r.inv; obtain ⟨_, rfl⟩ := r'.inv
    exact PyProof.Rows.iadd_int (EndsS.tok R (.int _ _))
  · split at e <;> (first | obtain ⟨rfl, rfl⟩ := spr e | exact (nos e).elim)
    rename_i hb
    obtain ⟨_, rfl⟩ := r.inv; obtain ⟨_, rfl⟩ := r'.inv
    exact PyProof.Rows.iadd_str (fun t' tk => EndsS.tok R (.str _ _)) hb
  · exact (nos e).elim
noncomputable def lenG (ps : List PV) : SM PV := fun st => pik fun r => ∃ p xs, P4 (ps = [p]) (items? st p = some xs) (xs.length ≤ sizeLine) (r = (.int xs.length, st))
theorem lenG_of {st : List AO} {p : PV} {xs : List PV} (q : items? st p = some xs) (h : xs.length ≤ sizeLine) : lenG [p] st = some (.int xs.length, st) :=
  pik_of ⟨_, _, rfl, q, h, rfl⟩ fun z q' => by obtain ⟨_, _, e, q', _, e'⟩ := q'; cases e; cases q.symm.trans q'; exact e'
theorem op_len : OpL c b (fun vs => call (.builtin "len") vs) lenG := by
  constructor
  intro A hA ρ s st vs ps y st' e r R
  obtain ⟨p, xs, rfl, hx, hz, e'⟩ := Zq e
  clear e; cases e'
  obtain ⟨_, rfl, r1⟩ := rvs1 r
  obtain ⟨a, vs, rfl, q, rs⟩ := items_of R r1 hx
  have hl := rs.length
  rw [Array.length_toList] at hl
  rw [sizeLine_eq] at hz
  refine PyProof.Rows.len_list (isL q) (by omega) ?_
  rw [hl]
  exact EndsS.tok R (.int _ _)
noncomputable def lenS (ps : List PV) : SM PV := fun st => pik fun r => ∃ x, P3 (ps = [.str x]) (x.length ≤ sizeLine) (r = (.int x.length, st))
theorem lenS_of {st : List AO} {x : Str} (h : x.length ≤ sizeLine) : lenS [.str x] st = some (.int x.length, st) :=
  pik_of ⟨_, rfl, h, rfl⟩ fun z q' => by obtain ⟨_, e, _, e'⟩ := q'; cases e; exact e'
theorem op_lenS : OpL c b (fun vs => call (.builtin "len") vs) lenS := by
  constructor
  intro A hA ρ s st vs ps y st' e r R
  obtain ⟨x, rfl, hz, e'⟩ := Zq e
  clear e; cases e'
  obtain ⟨_, rfl, r1⟩ := rvs1 r
  rw [sizeLine_eq] at hz
  obtain ⟨_, rfl⟩ := r1.inv
  exact PyProof.Rows.len_str (by omega) (EndsS.tok R (.int _ _))
noncomputable def augE (old X : FM PV) (G : PV → PV → SM PV) (S : PV → FM Unit) : FM PF := bindE (bindE old fun p => bindE X fun q => liftS (G p q)) fun r => bindE (S r) fun _ => pureE .next
theorem load_local {x : Str} {i : Nat} (ok : f.Ok) (hx : f.ln[i]? = some x) : Den c b f RV (loadName f.env x) (getL i) := by
  constructor
  intro A hA ρ s es y es' e R
  unfold getL at e
  split at e
  · rename_i v q
    obtain ⟨rfl, rfl⟩ := spr e
    obtain ⟨m, n, l, _⟩ := R.l
    have := l i x hx
    rw [q] at this
    obtain ⟨u, hu, r⟩ := rvo_some this
    exact wpAny_loadName_local ok.kind (ok.loc x (List.mem_of_getElem? hx)) n hu (Ends.here R r)
  · exact (nos e).elim
theorem den_aug {x : Str} {p' pos : Pos} {op : Operator} {value : Expr} {old X : FM PV} {G : PV → PV → SM PV} {S : PV → FM Unit} (dl : Den c b f RV (loadName f.env x) old) (dx : Den c b f RV (eval value f.env) X) (o : Op2 c b RV (inplaceOp op) G)
    (ds : DenK c b f RV RU (storeName f.env x) S) : Den c b f RFl (exec (.AugAssign (.Name x p') op value pos) f.env) (augE old X G S) := by
  constructor
  intro A hA ρ s es y es' e R
  obtain ⟨r, es₁, e1, e⟩ := Zd e
  obtain ⟨_, es₂, e2, e3⟩ := Zd e
  cases e3
  refine wpAny_AugAssign_Name (wpAny_mono (two_then dl dx o hA e1 R) (fun a s₁ z => wpAny_mono z (fun v s₂ z => wpAny_mono z (fun u s₃ z => ?_) fun _ _ z => z) fun _ _ z => z) fun _ _ z => z)
  obtain ⟨ρ₁, R₁, g₁, q₁, r₁⟩ := z
  refine wpAny_mono (ds.run A hA ρ₁ s₃ es₁ u r () es' e2 r₁ R₁) (fun _ s₄ z => ?_) fun _ _ z => z
  obtain ⟨ρ₂, R₂, g₂, q₂, _⟩ := z
  exact ⟨ρ₂, R₂, g₁.trans g₂, q₁.trans q₂, .next⟩
theorem Y0 {x : Str} {i : Nat} (ok : f.Ok) (hx : f.ln[i]? = some x) : DenK c b f RV RU (storeName f.env x) (setL i) := by
  constructor
  intro A hA ρ s es v p y es' e r R
  unfold setL at e
  split at e <;> (first | obtain ⟨rfl, rfl⟩ := spr e | exact (nos e).elim)
  exact store_local ok hx R r ‹_›
theorem den_aug_local {x : Str} {p' pos : Pos} {op : Operator} {value : Expr} {X : FM PV} {G : PV → PV → SM PV} {i : Nat} (ok : f.Ok) (hx : f.ln[i]? = some x) (dx : Den c b f RV (eval value f.env) X) (o : Op2 c b RV (inplaceOp op) G) :
    Den c b f RFl (exec (.AugAssign (.Name x p') op value pos) f.env) (augE (getL i) X G (setL i)) := den_aug (load_local ok hx) dx o (Y0 ok hx)
end
section
variable {c : Ctx0} {b : Nat} {f : FI}
theorem ite_some {α : Type} {p : Prop} [Decidable p] {a b : α} (e : (if p then some a else none) = some b) : p ∧ a = b := by
  split at e
  · obtain rfl := Option.some.inj e; exact ⟨‹_›, rfl⟩
  · exact (nos e).elim
noncomputable def part? : PV → Option (Option Int)
  | .none => some none
  | .int i => some (some i)
  | _ => none
theorem part_of {h : Heap} {ρ : Rho} {v : Value} {p : PV} {o : Option Int} (r : RV h ρ v p) (e : part? p = some o) : IsPart v o ∧ ∃ q : Option (Int × Tok), v = partValue q ∧ q.map (·.1) = o := by
  cases r <;> (first | exact (nos e).elim | obtain rfl := Option.some.inj e)
  · exact ⟨.none, none, rfl, rfl⟩
  · rename_i i t; exact ⟨.int i t, some (i, t), rfl, rfl⟩
noncomputable def pick {α : Type} (idx : List Nat) (xs : List α) : List α := idx.filterMap (xs[·]?)
theorem RVs.pick {h : Heap} {ρ : Rho} {vs : List Value} {xs : List PV} (r : RVs h ρ vs xs) (idx : List Nat) : RVs h ρ (pick idx vs) (pick idx xs) := by
  induction idx with
  | nil => exact .nil
  | cons i idx ih =>
    unfold Mine.pick at ih ⊢
    by_cases hi : i < xs.length
    · obtain ⟨v, hv, rv⟩ := r.get (i := i) (p := xs[i]) (by simp [hi])
      rw [List.filterMap_cons, List.filterMap_cons, hv, List.getElem?_eq_getElem hi]
      exact .cons rv ih
    · have h1 : xs[i]? = none := by rw [List.getElem?_eq_none_iff]; omega
      have h2 : vs[i]? = none := by rw [List.getElem?_eq_none_iff, r.length]; omega
      rw [List.filterMap_cons, List.filterMap_cons, h1, h2]
      exact ih
noncomputable def sliceL (n : Nat) (lo hi st : Option Int) : List Nat := sliceRange (sliceBounds lo hi st n).1 (sliceBounds lo hi st n).2.1 (sliceBounds lo hi st n).2.2
noncomputable def sliceS (x : Str) (lo hi st : Option Int) : Str := if (st.getD 1 == 1 && (Builtin.Str.strSliceIndices lo hi (st.getD 1) x.length).length == x.length) = true then x else ⟨((Builtin.Str.strSliceIndices lo hi (st.getD 1) x.length).filterMap (x.cps[·]?)).toArray⟩
noncomputable def sliceG (p lo hi st : PV) : SM PV := fun s => match part? lo, part? hi, part? st with
  | some l, some u, some k => if k ≠ some 0 then (match p with
    | .str x => if (sliceS x l u k).length ≤ sizeLine then some (.str (sliceS x l u k), s) else none
    | p => (match items? s p with
      | some xs => if xs.length ≤ sizeLine then some (.lst (pick (sliceL xs.length l u k) xs), s) else none
      | none => none)) else none
  | _, _, _ => none
theorem subscripted_slice (lo up st : Option Expr) (p : Pos) (o i : Value) : ∃ ops, subscripted (.Slice lo up st p) false o i = operate ops (getItem o i) := by
  cases st with
  | none => exact ⟨[i, o], rfl⟩
  | some e => exact ⟨[o, i], rfl⟩
noncomputable abbrev DenP (c : Ctx0) (b : Nat) (f : FI) (x : Option Expr) (F : FM PV) : Prop := Den c b f RV (evalPart x f.env) F
theorem denp_none : DenP c b f none (pureE .none) := by
  constructor
  intro A hA ρ s es y es' e R
  obtain ⟨rfl, rfl⟩ := spr e
  rw [evalPart_none]
  exact wpAny_pure (Ends.here R .none)
theorem denp_some {x : Expr} {F : FM PV} (d : Den c b f RV (eval x f.env) F) : DenP c b f (some x) F := by
  constructor
  rw [evalPart_some]
  exact d.run
theorem strMade_post {x : Str} {t : Tok} {l u k : Option (Int × Tok)} {Q : Value → Shared → Prop} {s : Shared} (hz : (sliceS x (l.map (·.1)) (u.map (·.1)) (k.map (·.1))).length ≤ sizeLine)
    (h : ∀ t' tk, Q (.str (sliceS x (l.map (·.1)) (u.map (·.1)) (k.map (·.1))) t') { s with toks := tk }) : (sliceMade x t l u k).post Q s := by
  unfold sliceMade slicePicked
  unfold sliceS at h hz
  split
  · rename_i hc
    rw [if_pos hc] at h
    exact h t s.toks
  · rename_i hc
    rw [if_neg hc] at h hz
    exact ⟨hz, h _ _⟩
theorem den_slice {value : Expr} {lo up st : Option Expr} {p pos : Pos} {V L U S : FM PV} (dv : Den c b f RV (eval value f.env) V) (dl : DenP c b f lo L) (du : DenP c b f up U) (ds : DenP c b f st S) :
    Den c b f RV (eval (.Subscript value (.Slice lo up st p) pos) f.env) (bindE V fun v => bindE L fun l => bindE U fun u => bindE S fun k => liftS (sliceG v l u k)) := by
  constructor
  intro A hA ρ s es y es' e R
  obtain ⟨pv, es₁, e1, e⟩ := Zd e
  obtain ⟨pl, es₂, e2, e⟩ := Zd e
  obtain ⟨pu, es₃, e3, e⟩ := Zd e
  obtain ⟨pk, es₄, e4, e⟩ := Zd e
  obtain ⟨st', e5, rfl⟩ := Z2 e
  refine Subscript_ (wpAny_mono (dv.run A hA ρ s es pv es₁ e1 R) (fun v s₁ z => ?_) fun _ _ z => z)
  obtain ⟨ρ₁, R₁, g₁, q₁, r₁⟩ := z
  refine wpAny_Slice (wpAny_mono (dl.run A hA ρ₁ s₁ es₁ pl es₂ e2 R₁) (fun l s₂ z => ?_) fun _ _ z => z)
  obtain ⟨ρ₂, R₂, g₂, q₂, r₂⟩ := z
  refine wpAny_mono (du.run A hA ρ₂ s₂ es₂ pu es₃ e3 R₂) (fun u s₃ z => ?_) fun _ _ z => z
  obtain ⟨ρ₃, R₃, g₃, q₃, r₃⟩ := z
  refine wpAny_mono (ds.run A hA ρ₃ s₃ es₃ pk es₄ e4 R₃) (fun k s₄ z => ?_) fun _ _ z => z
  obtain ⟨ρ₄, R₄, g₄, q₄, r₄⟩ := z
  have rv := (((r₁.grow g₂ R₁.like).grow g₃ R₂.like).grow g₄ R₃.like)
  have rl := ((r₂.grow g₃ R₂.like).grow g₄ R₃.like)
  have ru := (r₃.grow g₄ R₃.like)
  have gg := ((g₁.trans g₂).trans g₃).trans g₄
  have qq := ((q₁.trans q₂).trans q₃).trans q₄
  have hp := R₄.s.pushObj { cls := .type "slice", data := .fields #[l, u, k] }
  obtain ⟨S₅, g₅⟩ := hp
  have R₅ := R₄.ofS S₅ g₅
  have fin : ∀ {x : Value} {s' : Shared}, EndsS c.K RV ρ₄ { s₄ with heap := s₄.heap.push { cls := .type "slice", data := .fields #[l, u, k] } } y st' x s' → Ends c.K f RV ρ s y { es₄ with st := st' } x s' := fun z =>
    ((EndsS.after (s := s₄) (s₁ := { s₄ with heap := s₄.heap.push { cls := .type "slice", data := .fields #[l, u, k] } }) g₅ ⟨rfl, rfl, rfl⟩ z).toF R₄).after gg qq
  obtain ⟨ops, hs⟩ := subscripted_slice lo up st p v (.ref s₄.heap.objs.size)
  have rv5 := rv.grow g₅ noFr
  unfold sliceG at e5
  split at e5 <;> try exact (nos e5).elim
  rename_i ol ou ok h1 h2 h3
  obtain ⟨il, ql, hl, hl'⟩ := part_of rl h1
  obtain ⟨iu, qu, hu, hu'⟩ := part_of ru h2
  obtain ⟨ik, qk, hk, hk'⟩ := part_of r₄ h3
  split at e5 <;> try exact (nos e5).elim
  rename_i hk0
  split at e5
  · rename_i x
    obtain ⟨hz, e6⟩ := ite_some e5
    cases e6
    generalize hH : s₄.heap.push { cls := .type "slice", data := .fields #[l, u, k] } = H at *
    obtain ⟨t, rfl⟩ := rv5.inv
    rw [hl, hu, hk] at hH
    rw [← hl', ← hu', ← hk'] at hz
    refine tail_any (typeIs_str _ _ _) slot_str_getitem.lookup (wpAny_getItem_str_slice (l := ql) (u := qu) (st := qk) ⟨_, by rw [← hH]; exact Heap.get?_push_size _ rfl, rfl, rfl⟩ ?_ (strMade_post hz fun t' tk => by rw [hl', hu', hk']; exact fin (EndsS.tok S₅ (.str _ _)))) hs
    rw [hk']
    cases ok with
    | none => rfl
    | some i =>
      show (i == 0) = false
      rw [beq_eq_false_iff_ne]
      exact fun q => hk0 (by rw [q])
  · split at e5 <;> try exact (nos e5).elim
    rename_i xs hx
    obtain ⟨hz, e6⟩ := ite_some e5
    cases e6
    obtain ⟨a, vs, rfl, pl, rr⟩ := items_of S₅ rv5 hx
    have hlen := rr.length
    rw [Array.length_toList] at hlen
    refine tail_any (isL pl).typeIs slot_list_getitem.lookup (wpAny_getItem_list_slice (isL pl) (Heap.IsSliceOf.new ..) il iu ik hk0 (fin ?_) (by rw [hlen]; exact hz)) hs
    have e := rr.pick (sliceL xs.length ol ou ok)
    have e' : (slicePick vs ol ou ok) = (pick (sliceL xs.length ol ou ok) vs.toList).toArray := by
      unfold slicePick pick sliceL
      rw [hlen]
      congr 1
      congr 1
      funext i
      simp
    rw [e']
    exact ends_lst (s := { s₄ with heap := s₄.heap.push { cls := .type "slice", data := .fields #[l, u, k] } }) (tk := s₄.toks) S₅ e
noncomputable def mulG (p q : PV) : SM PV := fun st => match p, q with
  | p, .int n => (match items? st p with
    | some xs => if xs.length * n.toNat ≤ 2 ^ 24 ∧ -1000 < n ∧ n < 2 ^ 24 then some (.ref st.length, st ++ [.list (List.replicate n.toNat xs).flatten]) else none
    | none => none)
  | _, _ => none
end
section
variable {c : Ctx0} {b : Nat} {f : FI}
theorem mulList {A : Around} {s : Shared} {l : Addr} {items : Array Value} {k : Nat} {x : Int} {u : Tok} {Q : Value → Shared → Prop} {E : Value → Shared → Prop} (hl : s.heap.get? l = some { cls := .type "list", data := .seq items k })
    (hlo : -(2 ^ 63 : Int) ≤ x) (hhi : x < 2 ^ 63) (hsz : items.size * x.toNat ≤ 2 ^ 24)
    (h : Q (.ref s.heap.objs.size) { s with heap := s.heap.push { cls := .type "list", data := .seq (List.foldl (fun x1 x2 => x1 ++ x2) #[] (List.replicate (if items.isEmpty = true then 0 else x.toNat) items)) } }) :
    wpAny (model c.prog c.w) A (binaryOp .Mult (.ref l) (.int x u)) Q E s :=
  wpAny_binaryOp_repeat_ref (T := "list") (U := "int") (by decide) ⟨_, hl, rfl⟩ (fun s' => typeIs_int s' x u) noFill_list_mul F.fills_int_mul F.slot_int_rmul repeat_list F.slot_int_index.lookup
    (call_meets F.slot_int_rmul (typeIs_int s x u) F.entry_int_rmul (F.args_int_rmul_2 _ _) (int___rmul___int_list x u l items k)
      ⟨hl, rfl, ⟨_, hl, rfl⟩, call_meets F.slot_list_mul ⟨_, hl, rfl⟩ F.entry_list_mul (F.args_list_mul_2 _ _)
        (AutoListH.list___mul___list_int_3 l items k x u (by simp [Builtin.List.listFitsIndex]; omega) (by omega) (by unfold Builtin.List.listTooLong sizeLine; rw [decide_eq_true_eq]; omega))
        ⟨hl, h⟩⟩)
theorem foldl_toList {α : Type} (xs : List (Array α)) (acc : Array α) : (xs.foldl (fun x1 x2 => x1 ++ x2) acc).toList = acc.toList ++ (xs.map Array.toList).flatten := by
  induction xs generalizing acc with
  | nil => simp
  | cons x xs ih => rw [List.foldl_cons, ih]; simp
theorem RVs.reps {h : Heap} {ρ : Rho} {vs : List Value} {xs : List PV} (r : RVs h ρ vs xs) : ∀ n : Nat, RVs h ρ (List.replicate n vs).flatten (List.replicate n xs).flatten
  | 0 => .nil
  | n + 1 => by rw [List.replicate_succ, List.replicate_succ, List.flatten_cons, List.flatten_cons]; exact r.append (r.reps n)
theorem op_mulG : Op2 c b RV (binaryOp .Mult) mulG := by
  constructor
  intro A hA ρ s st x z x' z' y st' e r r' R
  unfold mulG at e; split at e
  · rename_i n
    split at e
    · rename_i xs hx
      obtain ⟨hb, e⟩ := ite_some e
      cases e; (first | obtain ⟨_, rfl⟩ := r'.inv | cases r')
      obtain ⟨a, vs, rfl, ⟨k, q⟩, rr⟩ := items_of R r hx
      have hl := rr.length
      rw [Array.length_toList] at hl
      refine mulList q (by omega) (by omega) (by rw [hl]; exact hb.1) ?_
      have e2 : (List.foldl (fun x1 x2 => x1 ++ x2) #[] (List.replicate (if vs.isEmpty = true then 0 else n.toNat) vs)) = ((List.replicate n.toNat vs.toList).flatten).toArray := by
        apply Array.toList_inj.mp
        rw [foldl_toList]
        by_cases hv : vs.isEmpty = true
        · rw [if_pos hv]
          have : vs = #[] := by simpa using hv
          subst this; simp
        · rw [if_neg hv]; simp
      rw [e2]
      exact ends_new R (rr.reps _)
    · exact (nos e).elim
  · exact (nos e).elim
theorem setItem_plain {A : Around} {s : Shared} {l : Addr} {items : Array Value} {k : Int} {t : Tok} {v : Value} {Q : Unit → Shared → Prop} {E : Value → Shared → Prop} (pl : s.heap.PlainList l items)
    (h0 : 0 ≤ k) (hfit : k < 2 ^ 63) (hn : k < items.size)
    (hQ : ∀ h', h'.PlainList l (items.setIfInBounds k.toNat v) → Heap.SameBut l s.heap h' → Q () { s with heap := h' }) :
    wpAny (model c.prog c.w) A (setItem (.ref l) (.int k t) v) Q E s := by
  obtain ⟨ne, ho⟩ := pl
  have hl := isList_of ho
  unfold setItem
  try with_reducible refine wpAny_holding ?_
  first | refine wpAny_bind (wpAny_pure ?_) | skip
  refine wpAny_bind (wpAny_sequenceKey hl.typeIs (by decide) ?_)
  refine wpAny_bind (wpAny_callSpecial?_slot (name := Str.ofString "__setitem__") hl.typeIs slot_list_setitem
    (wpAny_call_entry slot_list_setitem hl.typeIs entry_list_setitem ?_ (args_list_setitem _ _ _)))
  show wpAny _ _ (Builtin.List.listSubscript? (.int k t) >>= _) _ _ s
  refine wpAny_bind (wpAny_listSubscript_int (fitsIndex_of h0 hfit) ?_)
  clear hfit
  obtain ⟨j, rfl⟩ := Int.eq_ofNat_of_zero_le h0
  have hj : j < items.size := by omega
  have hx' : items[j]? = some items[j] := Array.getElem?_eq_getElem hj
  show wpAny _ _ ((seqItemAt l j >>= fun r => pure (r.map (j, ·))) >>= _) _ _ s
  refine wpAny_bind (wpAny_bind (wpAny_seqItemAt ho rfl (wpAny_pure ?_)))
  rw [hx']
  show wpAny _ _ (setSeqItemAt l j v >>= _) _ _ s
  have hfin : (s.heap.update l (Obj.mapSeq (·.setIfInBounds j v))).PlainList l (items.setIfInBounds j v) := ⟨_, Heap.get?_update_self _ ho rfl⟩
  refine wpAny_bind (wpAny_setSeqItemAt ho rfl ?_)
  first
    | exact wpAny_bind (wpAny_pure (wpAny_pure ⟨.none, rfl, wpAny_pure (hQ _ hfin (Heap.SameBut.update ..))⟩))
    | exact wpAny_pure ⟨.none, rfl, wpAny_pure (hQ _ hfin (Heap.SameBut.update ..))⟩
noncomputable def setI (p q v : PV) : SM Unit := fun st => pik fun r => ∃ i k xs, P5 (p = .ref i) (q = .int k) (st[i]? = some (.list xs)) (0 ≤ k ∧ k < 2 ^ 62 ∧ k.toNat < xs.length) (r = ((), st.set i (.list (xs.set k.toNat v))))
theorem setI_of {st : List AO} {i : Nat} {k : Int} {v : PV} {xs : List PV} (q : st[i]? = some (.list xs)) (h : 0 ≤ k ∧ k < 2 ^ 62 ∧ k.toNat < xs.length) : setI (.ref i) (.int k) v st = some ((), st.set i (.list (xs.set k.toNat v))) :=
  pik_of ⟨_, _, _, rfl, rfl, q, h, rfl⟩ fun z q' => by obtain ⟨_, _, _, e, e1, q', _, e'⟩ := q'; cases e; cases e1; cases q.symm.trans q'; exact e'
theorem op_setI : Op3 c b RU (fun o i v => setItem o i v) setI := by
  constructor
  intro A hA ρ s st x₁ z₁ x₂ z₂ x₃ z₃ y st' e r r' r'' R
  obtain ⟨i, k, xs, rfl, rfl, q, hb, e'⟩ := Zq e
  clear e; cases e'
  obtain ⟨_, rfl⟩ := r'.inv
  obtain ⟨_, hd, rfl⟩ := r.inv
  obtain ⟨vs, n, e0, rs, hr⟩ := R.listAt hd q
  have hl := rs.length
  rw [Array.length_toList] at hl
  refine setItem_plain ⟨n, e0⟩ hb.1 (by omega) (by omega) fun h' p hs => ?_
  obtain ⟨S, g⟩ := R.listPut hd q hs p (xs' := xs.set k.toNat z₃) (by simpa using rs.set r'')
  exact ⟨ρ, S, g, ⟨rfl, rfl, rfl⟩, trivial⟩
theorem den_setitem {o i value : Expr} {p' pos : Pos} {X O I : FM PV} (dx : Den c b f RV (eval value f.env) X) (dO : Den c b f RV (eval o f.env) O) (dI : Den c b f RV (eval i f.env) I)
    (hs : swapsWith value (some (.Subscript o i p')) pos.line f.env = pure false := by rfl) :
    Den c b f RFl (exec (.Assign [.Subscript o i p'] value pos) f.env) (bindE X fun v => bindE O fun p => bindE I fun q => bindE (liftS (setI p q v)) fun _ => pureE .next) := by
  constructor
  intro A hA ρ s es y es' e R
  obtain ⟨pv, es₁, e1, e⟩ := Zd e
  obtain ⟨po, es₂, e2, e⟩ := Zd e
  obtain ⟨pi, es₃, e3, e⟩ := Zd e
  obtain ⟨_, es₄, e4, e5⟩ := Zd e
  obtain ⟨rfl, rfl⟩ := spr e5
  obtain ⟨st', e4', rfl⟩ := Z2 e4
  refine wpAny_Assign_Subscript (wpAny_mono (dx.run A hA ρ s es pv es₁ e1 R) (fun v s₁ z => ?_) fun _ _ z => z) hs
  obtain ⟨ρ₁, R₁, g₁, q₁, r₁⟩ := z
  refine wpAny_mono (dO.run A hA ρ₁ s₁ es₁ po es₂ e2 R₁) (fun l s₂ z => ?_) fun _ _ z => z
  obtain ⟨ρ₂, R₂, g₂, q₂, r₂⟩ := z
  refine wpAny_mono (dI.run A hA ρ₂ s₂ es₂ pi es₃ e3 R₂) (fun u s₃ z => ?_) fun _ _ z => z
  obtain ⟨ρ₃, R₃, g₃, q₃, r₃⟩ := z
  refine wpAny_mono (op_setI.run A hA ρ₃ s₃ es₃.st l po u pi v pv () st' e4' (r₂.grow g₃ R₂.like) r₃ ((r₁.grow g₂ R₁.like).grow g₃ R₂.like) R₃.s) (fun _ s₄ z => ?_) fun _ _ z => z
  obtain ⟨ρ₄, S₄, g₄, q₄, _⟩ := z
  exact ⟨ρ₄, R₃.ofS S₄ g₄, ((g₁.trans g₂).trans g₃).trans (g₄.wider (by simp)), ((q₁.trans q₂).trans q₃).trans q₄, .next⟩
end
section
variable {c : Ctx0} {b : Nat} {f : FI}
noncomputable def kvGet : List (Str × PV) → Str → Option PV
  | [], _ => none
  | (k, p) :: r, x => if k == x then some p else kvGet r x
noncomputable def kvPut : List (Str × PV) → Str → PV → List (Str × PV)
  | [], x, p => [(x, p)]
  | (k, q) :: r, x, p => if k == x then (k, p) :: r else (k, q) :: kvPut r x p
theorem ents_norefs {h : Heap} {ρ : Rho} {es : List DictEntry} {kvs : List (Str × PV)} (r : EntsR h ρ es kvs) : es.any (·.refKey) = false := by
  induction r with
  | nil => rfl
  | cons x _ ih => rw [List.any_cons, ih]; rfl
theorem ents_find {h : Heap} {ρ : Rho} {es : List DictEntry} {kvs : List (Str × PV)} (r : EntsR h ρ es kvs) (x : Str) :
    (∀ p, kvGet kvs x = some p → ∃ e, es.find? (·.key.isStr x) = some e ∧ RV h ρ e.val p) ∧ (kvGet kvs x = none → es.find? (·.key.isStr x) = none) := by
  induction r with
  | nil => exact ⟨fun p e => (by exact (nos e).elim), fun _ => rfl⟩
  | @cons hs k t v p es kvs rv rr ih =>
    unfold kvGet
    rw [List.find?_cons]
    show (∀ p', (if (k == x) = true then some p else kvGet kvs x) = some p' → ∃ e, (match (k == x) with | true => some _ | false => _) = some e ∧ _) ∧ ((if (k == x) = true then some p else kvGet kvs x) = none → (match (k == x) with | true => some _ | false => _) = none)
    cases q : k == x with
    | true => exact ⟨fun p' e => (by obtain rfl := Option.some.inj e; exact ⟨_, rfl, rv⟩), fun e => (by cases e)⟩
    | false => exact ih
theorem ents_get {h : Heap} {ρ : Rho} {es : List DictEntry} {kvs : List (Str × PV)} (r : EntsR h ρ es kvs) {x : Str} {p : PV} (e : kvGet kvs x = some p) : ∃ v, W.getL x es = some (some v) ∧ RV h ρ v p := by
  obtain ⟨en, a, rv⟩ := (ents_find r x).1 p e
  unfold W.getL
  rw [a]
  exact ⟨_, rfl, rv⟩
theorem ents_none {h : Heap} {ρ : Rho} {es : List DictEntry} {kvs : List (Str × PV)} (r : EntsR h ρ es kvs) {x : Str} (e : kvGet kvs x = none) : W.getL x es = some none := by
  unfold W.getL
  rw [(ents_find r x).2 e, ents_norefs r]; rfl
theorem ents_put {h : Heap} {ρ : Rho} {es : List DictEntry} {kvs : List (Str × PV)} (r : EntsR h ρ es kvs) {x : Str} {v : Value} {p : PV} (rv : RV h ρ v p) (hs : Int) (t : Tok) : EntsR h ρ (putL x hs (.str x t) v es) (kvPut kvs x p) := by
  induction r with
  | nil => exact .cons rv .nil
  | @cons hs' k t' v' p' es kvs rv' rr ih =>
    unfold putL kvPut
    show EntsR h ρ (if (k == x) = true then _ else _) _
    cases q : k == x with
    | true => rw [if_pos rfl, if_pos rfl]; exact .cons rv rr
    | false => rw [if_neg (by decide), if_neg (by decide)]; exact .cons rv' ih
theorem ents_length {h : Heap} {ρ : Rho} {es : List DictEntry} {kvs : List (Str × PV)} (r : EntsR h ρ es kvs) : es.length = kvs.length := by
  induction r with
  | nil => rfl
  | cons _ _ ih => simp [ih]
theorem putL_len (x : Str) (hs : Int) (k v : Value) : ∀ es : List DictEntry, (putL x hs k v es).length ≤ es.length + 1
  | [] => Nat.le_refl _
  | e :: r => by
    unfold putL
    split
    · simp
    · simp; exact putL_len x hs k v r
noncomputable def instOf (st : List AO) (p : PV) : Option (Addr × List (Str × PV)) := pik fun r => ∃ i, p = .ref i ∧ (st[i]? = some (.inst r.1 r.2) ∨ ∃ xs, st[i]? = some (.linst r.1 r.2 xs))
theorem inst_of {st : List AO} {i : Nat} {C : Addr} {kvs : List (Str × PV)} (h : st[i]? = some (.inst C kvs)) : instOf st (.ref i) = some (C, kvs) :=
  pik_of ⟨_, rfl, .inl h⟩ fun ⟨_, _⟩ ⟨_, e, x⟩ => by cases e; rcases x with x | ⟨_, x⟩ <;> cases h.symm.trans x; rfl
theorem RelS.instAt {K : Frag} {ρ : Rho} {st : List AO} {h : Heap} (R : RelS K ρ st h) {v : Value} {p : PV} {C : Addr} {kvs : List (Str × PV)} (r : RV h ρ v p) (e : instOf st p = some (C, kvs)) :
    ∃ i a d es n ox, P7 (p = .ref i) (v = .ref a) (ρ.ents[i]? = some [a, d]) (InstAt h a ox C (some (W.dictOf es n))) (ox.dict = some d) (h.get? d = some (W.dictOf es n)) (EntsR h ρ es kvs) := by
  obtain ⟨i, rfl, q⟩ := Zq e
  obtain ⟨_, hd, rfl⟩ := r.inv
  obtain ⟨rr, hr⟩ := Yt hd
  rcases q with q | ⟨_, q⟩
  · obtain ⟨a, d, es, n, e1, e2, e3, e4⟩ := R.objs i _ _ hr q
    cases e1
    exact ⟨i, _, _, es, n, _, rfl, rfl, hr, ⟨e2, rfl, rfl, e3⟩, rfl, e3, e4⟩
  · obtain ⟨a, d, vs, m, es, n, e1, e2, e3, e4, e5⟩ := R.objs i _ _ hr q
    cases e1
    exact ⟨i, _, _, es, n, _, rfl, rfl, hr, ⟨e2, rfl, rfl, e4⟩, rfl, e4, e5⟩
noncomputable def attrOk (K : Frag) (C : Addr) (name : Str) : Bool := (clsIn K C).any (·.hasDict) && findIn K (.ref C) "__getattribute__" == some (some (.builtin "object.__getattribute__")) && findIn K (.ref C) name == some none
noncomputable def notRaw : PV → Bool
  | .raw v => handedIn v
  | _ => true
theorem handed_of {h : Heap} {ρ : Rho} {v : Value} {p : PV} (r : RV h ρ v p) (e : notRaw p = true) : handedIn v = true := by
  cases r <;> first | rfl | exact e
noncomputable def getA (K : Frag) (name : Str) (p : PV) : SM PV := fun st => pik fun r => ∃ C kvs q, P5 (instOf st p = some (C, kvs)) (attrOk K C name = true) (kvGet kvs name = some q) (notRaw q = true) (r = (q, st))
theorem getA_of {K : Frag} {name : Str} {st : List AO} {p q : PV} {C : Addr} {kvs : List (Str × PV)} (h : instOf st p = some (C, kvs)) (ha : attrOk K C name = true) (hk : kvGet kvs name = some q) (hn : notRaw q = true := by rfl) : getA K name p st = some (q, st) :=
  pik_of ⟨_, _, _, h, ha, hk, hn, rfl⟩ fun z q' => by obtain ⟨_, _, _, e, _, e', _, r⟩ := q'; cases h.symm.trans e; cases hk.symm.trans e'; exact r
theorem op_getA {name : Str} {expr : Bool} : Op1 c b RV RV (fun o => getAttr o name expr) (getA c.K name) := by
  constructor
  intro A hA ρ s st x z y st' e r R
  obtain ⟨C, kvs, q, hi, hk, hq, hn, e'⟩ := Zq e
  clear e; cases e'
  obtain ⟨i, a, d, es, n, ox, rfl, rfl, hr, I, hd, hD, er⟩ := R.instAt r hi
  obtain ⟨v, hv, rv⟩ := ents_get er hq
  simp only [attrOk, Bool.and_eq_true, beq_iff_eq] at hk
  obtain ⟨⟨h1, h2⟩, h3⟩ := hk
  obtain ⟨cd, hc, hcd⟩ := any_some h1
  have hf : findObj c.K C (some (W.dictOf es n)) name = some (.value v) := by
    unfold findObj
    rw [hc, h3]
    simp only [Option.bind_some]
    unfold W.ownOf
    rw [if_pos hcd]
    show ((lookIn name (W.dictOf es n)).bind _) = _
    rw [lookIn_dict, hv]
    rfl
  exact get_value R.top I h2 hf (handed_of rv hn) (EndsS.tok R rv)
theorem den_attr {o : Expr} {name : Str} {pos : Pos} {F : FM PV} (d : Den c b f RV (eval o f.env) F) (hb : notSuper o = true := by rfl) : Den c b f RV (eval (.Attribute o name pos) f.env) (bindE F fun p => liftS (getA c.K name p)) := by
  constructor
  intro A hA ρ s es y es' e R
  obtain ⟨p, es₁, e1, e⟩ := Zd e
  rw [arm_eval_Attribute, Ym hb]
  refine wpAny_bind (wpAny_mono (d.run A hA ρ s es p es₁ e1 R) (fun v s₁ z => ?_) fun _ _ z => z)
  obtain ⟨ρ₁, R₁, g₁, q₁, r₁⟩ := z
  refine wpAny_bind (wpAny_standAt (wpAny_bind (wpAny_holding (wpAny_mono ((Op1.k op_getA).run A hA ρ₁ s₁ es₁ v p y es' e r₁ R₁) (fun u s₂ z => ?_) fun _ _ z => z))))
  exact wpAny_bind (wpAny_letTemporaryGo (wpAny_pure (z.after g₁ q₁)))
noncomputable def methOk (K : Frag) (C : Addr) (name : Str) (fa : Addr) : Bool := findIn K (.ref C) "__getattribute__" == some (some (.builtin "object.__getattribute__")) && findIn K (.ref C) "__getattr__" == some none && findIn K (.ref C) name == some (some (.ref fa)) && typeIn K (.ref fa) == some (.type "function")
noncomputable def isInst (C : Addr) (name : Str) (p : PV) (st : List AO) : Bool := pikB (∃ kvs, instOf st p = some (C, kvs) ∧ kvGet kvs name = none)
theorem Z8 {C fa : Addr} {name : Str} (hk : methOk c.K C name fa = true) : MethAt c name (isInst C name) (.ref fa) := by
  constructor
  intro A pl ρ s st v p Q hP r R h
  obtain ⟨kvs, hi, hn⟩ := pikB_inv hP
  obtain ⟨i, a, d, es, n, ox, rfl, rfl, hr, I, hd, hD, er⟩ := R.instAt r hi
  simp only [methOk, Bool.and_eq_true, beq_iff_eq] at hk
  obtain ⟨⟨⟨h1, h2⟩, h3⟩, h4⟩ := hk
  exact method_fn R.top I h1 h2 h3 h4 (by show (lookIn name (W.dictOf es n)).map _ = _; rw [lookIn_dict, ents_none er hn]; rfl) h
noncomputable def setOk (K : Frag) (C : Addr) (name : Str) : Bool := (clsIn K C).any (·.hasDict) && findIn K (.ref C) "__setattr__" == some (some (.builtin "object.__setattr__")) && plainOver K C && takerIn K C name == some none
theorem osa_own {A : Around} {s : Shared} {x C dx : Addr} {ox : Obj} {name : Str} {tk : Tok} {v : Value} {es : List DictEntry} {n : Nat} {R : Result → Shared → Prop} (X : c.K.In s.heap)
    (I : InstAt s.heap x ox C (some (W.dictOf es n))) (hd : ox.dict = some dx) (hp : plainOver c.K C = true) (ht : takerIn c.K C name = some none) (hh : (clsIn c.K C).any (·.hasDict) = true)
    (hl : (W.getL name es).isSome = true) (hz : (putL name (PyData.keyHash c.w.params name) (.str name s.toks) v es).length ≤ 1000)
    (h : R (.ok (.ret .none)) { s with heap := s.heap.update dx (Obj.putName name (PyData.keyHash c.w.params name) (.str name s.toks) v), toks := s.toks + 1 }) :
    codeAny (model c.prog c.w) A (.call (.builtin "object.__setattr__") ⟨[.ref x, .str name tk, v], []⟩) R s := by
  refine osa_open X I hp ht fun b => ?_
  obtain ⟨cd, hc, hd'⟩ := any_some hh
  have D : s.heap.get? dx = some (W.dictOf es n) := by have := I.dict; rw [hd] at this; exact this
  have D' : (s.heap.update dx (Obj.putName name (PyData.keyHash c.w.params name) (.str name s.toks) v)).get? dx = some (W.dictOf (putL name (PyData.keyHash c.w.params name) (.str name s.toks) v es) (putN name es n)) := by
    rw [Heap.get?_update_self _ D (by rw [putName_dict]; rfl), putName_dict]
  obtain ⟨hx, hcl, hn, -⟩ := I
  obtain ⟨oc, odi, oda, osl⟩ := ox
  dsimp only at hcl hd
  subst hcl hd
  refine wpAny_bind (wpAny_pure (wpAny_bind (wpAny_bind (wpAny_loadPart hx (wpAny_bind ((looks_clsIn X hc).here ?_))))))
  rw [hd']
  refine wpAny_pure (a := some dx) (wpAny_bind (wpAny_pure (wpAny_bind ?_)))
  unfold nsSet
  refine wpAny_bind (wpAny_bind (wpAny_askSetting (wpAny_pure (wpAny_bind (wpAny_mkText (wpAny_bind (wpAny_loadPart D ?_)))))))
  dsimp only
  have cc : (!es.toArray.any (·.key.isStr name) && es.toArray.any (·.refKey)) = false := by
    rw [← Array.any_toList, ← Array.any_toList]
    unfold W.getL at hl
    dsimp only
    split at hl
    · rename_i en he
      rw [List.any_eq_true.mpr ⟨en, List.mem_of_find?_eq_some he, List.find?_some he⟩]; rfl
    · split at hl
      · cases hl
      · rename_i z; rw [Bool.not_eq_true] at z; rw [z, Bool.and_false]
  rw [aRefKeyMayBeTheName_at, cc]
  refine wpAny_updatePart D ?_
  refine wpAny_bind (wpAny_lookBehind D' (pastItsLine_dict (by rw [List.size_toArray, sizeLine_eq]; omega)) ?_)
  exact wpAny_pure h
noncomputable def setA (K : Frag) (name : Str) (p q : PV) : SM Unit := fun st => pik fun r => ∃ i C kvs, P5 (p = .ref i) (st[i]? = some (.inst C kvs)) (setOk K C name = true) (kvs.length ≤ 900) (r = ((), st.set i (.inst C (kvPut kvs name q))))
theorem setA_of {K : Frag} {name : Str} {st : List AO} {i : Nat} {q : PV} {C : Addr} {kvs : List (Str × PV)} (h : st[i]? = some (.inst C kvs)) (hs : setOk K C name = true) (hz : kvs.length ≤ 900) : setA K name (.ref i) q st = some ((), st.set i (.inst C (kvPut kvs name q))) :=
  pik_of ⟨_, _, _, rfl, h, hs, hz, rfl⟩ fun z q' => by obtain ⟨_, _, _, e, e', _, _, r⟩ := q'; cases e; cases h.symm.trans e'; exact r
theorem op_setA {name : Str} : Op2 c b RU (fun o v => setAttr o name v) (setA c.K name) := by
  constructor
  intro A hA ρ s st x z x' z' y st' e r r' R
  obtain ⟨i, C, kvs, rfl, q, hk, hz, e'⟩ := Zq e
  clear e; cases e'
  obtain ⟨i', a, d, es, n, ox, e1, rfl, hr, I, hd, hD, er⟩ := R.instAt (C := C) (kvs := kvs) r (inst_of q)
  cases e1
  have ho : s.heap.get? a = some { cls := .ref C, dict := some d, data := .plain } := by
    obtain ⟨a', d', es', n', e1, e2, _⟩ := R.objs i _ _ hr q
    cases e1; exact e2
  simp only [setOk, Bool.and_eq_true, beq_iff_eq] at hk
  obtain ⟨⟨⟨h1, h2⟩, h3⟩, h4⟩ := hk
  have hl : (W.getL name es).isSome = true := by
    cases q : kvGet kvs name with
    | none => rw [ents_none er q]; rfl
    | some p => obtain ⟨v, hv, _⟩ := ents_get er q; rw [hv]; rfl
  have hlen := ents_length er
  have had : a ≠ d := fun q => by rw [q, hD] at ho; cases ho
  refine set_plain R.top I h2 (osa_own (s := { s with toks := s.toks + 1 }) R.top I hd h3 h4 h1 hl (Nat.le_trans (putL_len ..) (by omega)) ?_)
  have D' : (s.heap.update d (Obj.putName name (PyData.keyHash c.w.params name) (.str name (s.toks + 1)) x')).get? d = some (W.dictOf (putL name (PyData.keyHash c.w.params name) (.str name (s.toks + 1)) x' es) (putN name es n)) := by
    rw [Heap.get?_update_self _ hD (by rw [putName_dict]; rfl), putName_dict]
  have hs : Heap.SameBut d s.heap (s.heap.update d (Obj.putName name (PyData.keyHash c.w.params name) (.str name (s.toks + 1)) x')) := Heap.SameBut.update ..
  have ha' := (hs.2 a had).trans ho
  obtain ⟨S, g⟩ := R.put (i := i) (ao' := .inst C (kvPut kvs name z')) hr (h' := s.heap.update d (Obj.putName name (PyData.keyHash c.w.params name) (.str name (s.toks + 1)) x'))
    (fun b o eb nb => (hs.2 b fun q => nb (by rw [q]; simp)).trans eb) (fun b m => by
      simp at m; rcases m with rfl | rfl
      · exact ⟨_, ha'⟩
      · exact ⟨_, D'⟩) fun g => ⟨a, d, _, _, rfl, ha', D', ents_put (er.carry (g.carry noFr)) (r'.grow g noFr) _ _⟩
  exact ⟨ρ, S, g, ⟨rfl, rfl, rfl⟩, trivial⟩
theorem dena_attr {o : Expr} {name : Str} {pos : Pos} {F : FM PV} (d : Den c b f RV (eval o f.env) F) : DenA c b f (.Attribute o name pos) (fun v => bindE F fun p => liftS (setA c.K name p v)) := by
  constructor
  intro A hA ρ s es v p y es' e r R
  obtain ⟨po, es₁, e1, e⟩ := Zd e
  obtain ⟨st', e2, rfl⟩ := Z2 e
  rw [assign_Attribute]
  refine wpAny_bind (wpAny_holding (wpAny_mono (d.run A hA ρ s es po es₁ e1 R) (fun o s₁ z => ?_) fun _ _ z => z))
  obtain ⟨ρ₁, R₁, g₁, q₁, r₁⟩ := z
  refine wpAny_bind (wpAny_standAt (wpAny_bind (wpAny_holding (wpAny_mono (op_setA.run A hA ρ₁ s₁ es₁.st o po v p () st' e2 r₁ (r.grow g₁ R.like) R₁.s) (fun _ s₂ z => ?_) fun _ _ z => z))))
  exact wpAny_release ((z.toF R₁).after g₁ q₁)
end
theorem ln0 {α : Type} : ∀ {l : List α}, l.length = 0 → l = []
  | [], _ => rfl
theorem ln1 {α : Type} {l : List α} (h : l.length = 1) : ∃ a, l = [a] := by
  cases l with
  | nil => cases h
  | cons a t => exact ⟨a, by rw [ln0 (Nat.succ.inj h)]⟩
theorem ln2 {α : Type} {l : List α} (h : l.length = 2) : ∃ a b, l = [a, b] := by
  cases l with
  | nil => cases h
  | cons a t =>
    obtain ⟨b, rfl⟩ := ln1 (Nat.succ.inj h)
    exact ⟨a, b, rfl⟩
theorem ln3 {α : Type} {l : List α} (h : l.length = 3) : ∃ a b c, l = [a, b, c] := by
  cases l with
  | nil => cases h
  | cons a t =>
    obtain ⟨b, c, rfl⟩ := ln2 (Nat.succ.inj h)
    exact ⟨a, b, c, rfl⟩
structure FunK (c : Ctx0) (b : Nat) (fv : Value) (np : Nat) (kn : List Str) (G : List PV → SM PV) : Prop where
  len : ∀ ps st r, G ps st = some r → ps.length = np + kn.length
  run : ∀ A, AOk b A → ∀ ρ s st vs ps y st', G ps st = some (y, st') → RVs s.heap ρ vs ps → RelS c.K ρ st s.heap →
    codeAny (model c.prog c.w) A (.call fv ⟨vs.take np, kn.zip (vs.drop np)⟩) (fun r s' => match r with
      | .ok (.ret v) => EndsS c.K RV ρ s y st' v s'
      | _ => False) s
noncomputable def runK (n : Nat) (dps : List PV) (li ci : List (Option Nat)) (F : FM PF) (ps : List PV) : SM PV := fun st => pik fun x => ∃ r es, P3 (ps.length = n) (F ⟨li.map fun o => o.bind fun i => (ps ++ dps)[i]?, ci.map fun o => o.bind fun i => (ps ++ dps)[i]?, st⟩ = some (r, es)) (x = (retOf r, es.st))
theorem Yr {n : Nat} {dps : List PV} {li ci : List (Option Nat)} {F : FM PF} {ps : List PV} {st st' : List AO} {r : PF} {es : ES} {y : PV} (h : F ⟨li.map fun o => o.bind fun i => (ps ++ dps)[i]?, ci.map fun o => o.bind fun i => (ps ++ dps)[i]?, st⟩ = some (r, es)) (hn : ps.length = n := by rfl) (hr : retOf r = y := by rfl) (hs : es.st = st' := by rfl) :
    runK n dps li ci F ps st = some (y, st') := by
  subst hr hs
  exact pik_of ⟨_, _, hn, h, rfl⟩ fun z q' => by obtain ⟨_, _, _, e, q⟩ := q'; cases h.symm.trans e; exact q
section
variable {c : Ctx0} {b : Nat}
theorem FunK.ok {fv : Value} {np : Nat} {G : List PV → SM PV} (o : FunK c b fv np [] G) : FunOk c b fv G := by
  constructor
  intro A hA ρ s st vs ps y st' e r R
  have hl := o.len _ _ _ e
  have := o.run A hA ρ s st vs ps y st' e r R
  rw [List.take_of_length_le (by rw [r.length, hl]; simp), List.zip_nil_left] at this
  exact wpAny_call (codeAny_mono this fun r s' z => by
    rcases r with e | (v | _ | _ | _) <;> first | exact z | exact z.elim)
theorem bindL_at {kindOf : Str → Option NameKind} {x : Str} : ∀ {binds : List (Str × Value)} {m : Str → Option Value}, (binds.map (·.1)).Nodup →
    bindL kindOf binds m x = if kindOf x = some .local then (match binds.lookup x with | some v => some v | none => m x) else m x
  | [], m, _ => by simp [bindL]
  | (n, v) :: r, m, nd => by
    rw [List.map_cons, List.nodup_cons] at nd
    rw [bindL, bindL_at nd.2, List.lookup_cons]
    cases q : x == n with
    | true =>
      rw [beq_iff_eq] at q; subst q
      have : r.lookup x = none := Yg fun p hp z => nd.1 (List.mem_map.mpr ⟨p, hp, z⟩)
      rw [this]
      by_cases h : kindOf x = some .local <;> simp [h]
    | false =>
      have hne : x ≠ n := by intro z; rw [z] at q; simp at q
      by_cases h : kindOf n = some .local <;> simp [h, hne]
theorem bindC_at {kindOf : Str → Option NameKind} {x : Str} : ∀ {binds : List (Str × Value)} {m : Str → Option Value}, (binds.map (·.1)).Nodup →
    bindC kindOf binds m x = if kindOf x = some .local then m x else (match binds.lookup x with | some v => some v | none => m x)
  | [], m, _ => by simp [bindC]
  | (n, v) :: r, m, nd => by
    rw [List.map_cons, List.nodup_cons] at nd
    rw [bindC, bindC_at nd.2, List.lookup_cons]
    cases q : x == n with
    | true =>
      rw [beq_iff_eq] at q; subst q
      have : r.lookup x = none := Yg fun p hp z => nd.1 (List.mem_map.mpr ⟨p, hp, z⟩)
      rw [this]
      by_cases h : kindOf x = some .local <;> simp [h]
    | false =>
      have hne : x ≠ n := by intro z; rw [z] at q; simp at q
      by_cases h : kindOf n = some .local <;> simp [h, hne]
theorem bindL_loc {kindOf : Str → Option NameKind} {x : Str} {binds : List (Str × Value)} (nd : (binds.map (·.1)).Nodup) (hk : kindOf x = some .local) : bindL kindOf binds (fun _ => none) x = binds.lookup x := by
  rw [bindL_at nd, if_pos hk]; cases binds.lookup x <;> rfl
theorem bindL_out {kindOf : Str → Option NameKind} {x : Str} {binds : List (Str × Value)} (nd : (binds.map (·.1)).Nodup) (h : kindOf x = some .local → binds.lookup x = none) : bindL kindOf binds (fun _ => none) x = none := by
  rw [bindL_at nd]
  split
  · rename_i hk; rw [h hk]
  · rfl
theorem bindC_cel {kindOf : Str → Option NameKind} {x : Str} {binds : List (Str × Value)} (nd : (binds.map (·.1)).Nodup) (hk : kindOf x = some .cell) : bindC kindOf binds (fun _ => none) x = binds.lookup x := by
  rw [bindC_at nd, if_neg (by rw [hk]; simp)]; cases binds.lookup x <;> rfl
noncomputable def cnAt (cns : List (Str × Nat)) (L : Addr) : List (Str × Addr) := cns.map fun p => (p.1, L + p.2)
noncomputable def FI.fn (fd : FuncData) (a : Addr) (ln : List Str) (cns : List (Str × Nat)) (L : Addr) : FI := ⟨callEnvC fd L a, ln, cnAt cns L⟩
structure DefK (K : Frag) (a : Addr) (fd : FuncData) (body : List Stmt) (names ln : List Str) (cns : List (Str × Nat)) : Prop extends DefAt K a fd body where
  clo : fd.closure = []
  cells : ∀ L, cellsFrom (L + 1) fd.scope.names [] = cnAt cns L
  cnd : (cns.map (·.1)).Nodup
  nd : names.Nodup
  par : ∀ x ∈ names, fd.scope.names.lookup x = some .local ∧ x ∈ ln ∨ fd.scope.names.lookup x = some .cell ∧ x ∈ cns.map (·.1)
  loc : ∀ x ∈ ln, fd.scope.names.lookup x = some .local
  cel : ∀ p ∈ cns, fd.scope.names.lookup p.1 = some .cell
theorem lookup_of_nodup {α : Type} {l : List (Str × α)} (nd : (l.map (·.1)).Nodup) {i : Nat} {x : Str} {y : α} (e : l[i]? = some (x, y)) : l.lookup x = some y := by
  induction l generalizing i with
  | nil => simp at e
  | cons p r ih =>
    obtain ⟨k, v⟩ := p
    rw [List.map_cons, List.nodup_cons] at nd
    cases i with
    | zero => simp at e; obtain ⟨rfl, rfl⟩ := e; simp [List.lookup_cons]
    | succ i =>
      simp at e
      rw [List.lookup_cons]
      have hne : (x == k) = false := by
        rw [beq_eq_false_iff_ne]; rintro rfl
        exact nd.1 (List.mem_map.mpr ⟨(x, y), List.mem_of_getElem? e, rfl⟩)
      rw [hne]; exact ih nd.2 e
theorem Yc {a : Addr} {fd : FuncData} {body : List Stmt} {names ln : List Str} {cns : List (Str × Nat)} {np : Nat} {kn : List Str} {dvs : List Value} {dps : List PV} {li ci : List (Option Nat)} {F : FM PF}
    (X : DefK c.K a fd body names ln cns) (hdp : ∀ h ρ, RVs h ρ dvs dps) (hn : names.length = np + kn.length + dvs.length)
    (hli : ln.map names.idxOf? = li) (hci : (cns.map (·.1)).map names.idxOf? = ci)
    (hbind : ∀ s vs ws, vs.length = np → ws.length = kn.length → c.K.In s.heap → BindsTo s fd ⟨vs, kn.zip ws⟩ (names.zip (vs ++ ws ++ dvs)))
    (D : ∀ L, Den c b (FI.fn fd a ln cns L) RFl (execs body (callEnvC fd L a)) F) : FunK c (b + 1) (.ref a) np kn (runK (np + kn.length) dps li ci F) := by
  constructor
  · intro ps st r e
    obtain ⟨_, _, h, _, _⟩ := Zq e
    exact h
  intro A hA ρ s st vs ps y st' e r R
  obtain ⟨fl, es, hlen, q, e'⟩ := Zq e
  clear e; cases e'
  have hvl := r.length
  have r' : RVs s.heap ρ (vs ++ dvs) (ps ++ dps) := r.append (hdp _ _)
  have hvs : names.length = (vs ++ dvs).length := by rw [List.length_append, hvl, hlen, hn]
  have hz : vs.take np ++ vs.drop np ++ dvs = vs ++ dvs := by rw [List.take_append_drop]
  have hb := hbind s (vs.take np) (vs.drop np) (by rw [List.length_take, hvl, hlen]; omega) (by rw [List.length_drop, hvl, hlen]; omega) R.top
  rw [hz] at hb
  obtain ⟨oc, od, sl, ho⟩ := X.at_
  have hnm := zip_names hvs
  have ndb : ((names.zip (vs ++ dvs)).map (·.1)).Nodup := by rw [hnm]; exact X.nd
  refine codeAny_call_function (fd := fd) (body := body) (by have := hA.depth; have : recursionLimit = 1000 := rfl; omega) (R.top _ _ ho) rfl X.co X.gen X.body (codeRec_of R.top X.code) (hb _ _ _ _ ?_)
  rw [X.clo]
  refine wpAny_newFunctionEnv_cells X.kind (fun x m => ?_) fun env he s₁ x => ?_
  · have mx := (List.of_mem_zip m).1
    rcases X.par x.1 mx with h | h
    · exact .inl h.1
    · refine .inr ⟨h.1, ?_⟩
      rw [X.cells]
      obtain ⟨p, hp, hpx⟩ := List.mem_map.mp h.2
      have : ((cnAt cns s.heap.objs.size).map (·.1)) = cns.map (·.1) := by unfold cnAt; rw [List.map_map]; rfl
      obtain ⟨i, hi⟩ := List.mem_iff_getElem?.mp hp
      have hi' : (cnAt cns s.heap.objs.size)[i]? = some (x.1, s.heap.objs.size + p.2) := by unfold cnAt; rw [List.getElem?_map, hi, ← hpx]; rfl
      rw [lookup_of_nodup (by rw [this]; exact X.cnd) hi']; rfl
  subst he
  refine ⟨R.nolim.keeps x.toInCall.keep, codeAny_func ?_⟩
  have hcells : (callEnvC fd s.heap.objs.size a).cells = cnAt cns s.heap.objs.size := X.cells _
  have ndc : ((cnAt cns s.heap.objs.size).map (·.1)).Nodup := by
    have : ((cnAt cns s.heap.objs.size).map (·.1)) = cns.map (·.1) := by unfold cnAt; rw [List.map_map]; rfl
    rw [this]; exact X.cnd
  have hcell : ∀ i y d, (cnAt cns s.heap.objs.size)[i]? = some (y, d) → s₁.heap.IsCell d (bindC (callEnvC fd s.heap.objs.size a).kindOf (names.zip (vs ++ dvs)) (fun _ => none) y) := fun i y d hy =>
    x.cell y d (by rw [show (newEnv fd.scope s.heap.objs.size fd.globals (cellsFrom (s.heap.objs.size + 1) fd.scope.names []) (fd.qualname ++ ".<locals>.") (some a) fd.code none fd.builtins).cells = cnAt cns s.heap.objs.size from X.cells _]; exact lookup_of_nodup ndc hy)
  have habove : ∀ p ∈ cnAt cns s.heap.objs.size, s.heap.objs.size < p.2 := fun p hp => x.above p.1 p.2 (by rw [show (newEnv fd.scope s.heap.objs.size fd.globals (cellsFrom (s.heap.objs.size + 1) fd.scope.names []) (fd.qualname ++ ".<locals>.") (some a) fd.code none fd.builtins).cells = cnAt cns s.heap.objs.size from X.cells _]; exact hp)
  have hapart : (cnAt cns s.heap.objs.size).Pairwise fun x y => x.2 ≠ y.2 := by
    have := x.apart
    rw [show (newEnv fd.scope s.heap.objs.size fd.globals (cellsFrom (s.heap.objs.size + 1) fd.scope.names []) (fd.qualname ++ ".<locals>.") (some a) fd.code none fd.builtins).cells = cnAt cns s.heap.objs.size from X.cells _] at this
    exact this
  have hns := x.toInCall.ns
  have nd : (s.heap.objs.size :: (cnAt cns s.heap.objs.size).map (·.2)).Nodup := by
    rw [List.nodup_cons]
    refine ⟨fun m => ?_, ?_⟩
    · obtain ⟨p, hp, hq⟩ := List.mem_map.mp m
      have := habove p hp
      rw [hq] at this
      exact absurd this (Nat.lt_irrefl _)
    · rw [List.nodup_iff_pairwise_ne, List.pairwise_map]; exact hapart
  have fresh : ∀ d ∈ s.heap.objs.size :: (cnAt cns s.heap.objs.size).map (·.2), s.heap.get? d = none := fun d m => by
    rcases List.mem_cons.mp m with rfl | m
    · exact get_ge (Nat.le_refl _)
    · obtain ⟨p, hp, rfl⟩ := List.mem_map.mp m
      exact get_ge (Nat.le_of_lt (habove p hp))
  obtain ⟨S, g₀⟩ := R.enter (wr := s.heap.objs.size :: (cnAt cns s.heap.objs.size).map (·.2)) (h' := s₁.heap) x.toInCall.keep fresh (fun d m => by
    rcases List.mem_cons.mp m with rfl | m
    · obtain ⟨o, _, _, e, _⟩ := hns; exact ⟨o, e⟩
    · obtain ⟨p, hp, rfl⟩ := List.mem_map.mp m
      obtain ⟨i, hi⟩ := List.mem_iff_getElem?.mp hp
      obtain ⟨o, e, _⟩ := hcell i p.1 p.2 hi
      exact ⟨o, e⟩) nd
  have kLoc : ∀ y, (callEnvC fd s.heap.objs.size a).kindOf y = fd.scope.names.lookup y := fun y => rfl
  have hA' : AOk b (A.deeper (callEnvC fd s.heap.objs.size a)) := ⟨hA.handled, by have := hA.depth; show A.depth + 1 + 2 * b ≤ 900; omega, by have := hA.units; show A.units + 3 + 20 * b ≤ 9000; omega⟩
  have RF : RelF c.K (FI.fn fd a ln cns s.heap.objs.size) (ρ.enter (s.heap.objs.size :: (cnAt cns s.heap.objs.size).map (·.2))) ⟨li.map fun o => o.bind fun i => (ps ++ dps)[i]?, ci.map fun o => o.bind fun i => (ps ++ dps)[i]?, st⟩ s₁.heap := by
    refine ⟨S, ⟨_, hns, fun i y hy => ?_, fun y hy => ?_⟩, fun i y d hy => ?_, fun d m => List.mem_append_left _ m, nd⟩
    · replace hy : ln[i]? = some y := hy
      have hk := X.loc y (List.mem_of_getElem? hy)
      have : (li.map fun o => o.bind fun i => (ps ++ dps)[i]?)[i]? = some ((names.idxOf? y).bind fun i => (ps ++ dps)[i]?) := by
        rw [List.getElem?_map, ← hli, List.getElem?_map, hy]; rfl
      rw [this]
      rw [show bindL _ _ _ y = _ from bindL_loc ndb hk]
      exact (Yn r' hvs y).carry g₀
    · refine bindL_out ndb fun hk => ?_
      rw [Yg]
      rintro ⟨p1, p2⟩ hp rfl
      rcases X.par p1 (List.of_mem_zip hp).1 with h | h
      · exact hy h.2
      · have hk' : fd.scope.names.lookup p1 = some .local := hk
        rw [h.1] at hk'; cases hk'
    · have hc := hcell i y d hy
      have hy' : ∃ k, cns[i]? = some (y, k) := by
        replace hy : (cnAt cns s.heap.objs.size)[i]? = some (y, d) := hy
        unfold cnAt at hy
        rw [List.getElem?_map] at hy
        obtain ⟨p, e1, e2⟩ := Option.map_eq_some_iff.mp hy
        obtain ⟨p1, p2⟩ := p
        cases e2
        exact ⟨p2, e1⟩
      obtain ⟨k, hy'⟩ := hy'
      have hk := X.cel _ (List.mem_of_getElem? hy')
      refine ⟨_, hc, ?_⟩
      have : (ci.map fun o => o.bind fun i => (ps ++ dps)[i]?)[i]? = some ((names.idxOf? y).bind fun i => (ps ++ dps)[i]?) := by
        rw [List.getElem?_map, ← hci, List.getElem?_map, List.getElem?_map, hy']; rfl
      rw [this, show bindC _ _ _ y = _ from bindC_cel ndb hk]
      exact (Yn r' hvs y).carry g₀
  have kk := x.toInCall.keep
  obtain ⟨h₁, tk, rfl⟩ := x.toInCall.same
  refine wpAny_mono ((D s.heap.objs.size).run _ hA' _ _ _ fl es q RF) (fun fv' s' z => ?_) fun _ _ z => z.elim
  obtain ⟨ρ', R', g, sm, rf⟩ := z
  refine R.left kk fresh R'.s g (fun a' m => m) sm ?_
  cases rf with
  | next => exact .none
  | brk => exact .none
  | cont => exact .none
  | ret r => exact r
end
section
variable {c : Ctx0} {b : Nat} {f : FI}
theorem FunK.code {fv : Value} {np : Nat} {G : List PV → SM PV} (o : FunK c b fv np [] G) {A : Around} (hA : AOk b A) {ρ : Rho} {s : Shared} {st st' : List AO} {vs : List Value} {ps : List PV} {y : PV} (e : G ps st = some (y, st')) (r : RVs s.heap ρ vs ps) (R : RelS c.K ρ st s.heap) :
    codeAny (model c.prog c.w) A (.call fv ⟨vs, []⟩) (fun r s' => match r with
      | .ok (.ret v) => EndsS c.K RV ρ s y st' v s'
      | _ => False) s := by
  have hl := o.len _ _ _ e
  have := o.run A hA ρ s st vs ps y st' e r R
  rwa [List.take_of_length_le (by rw [r.length, hl]; simp), List.zip_nil_left] at this
noncomputable def makeG (C : Addr) (G : List PV → SM PV) (ps : List PV) : SM PV := fun st => pik fun r => ∃ st', G (.ref st.length :: ps) (st ++ [.inst C []]) = some (.none, st') ∧ r = (.ref st.length, st')
theorem make_of {C : Addr} {G : List PV → SM PV} {ps : List PV} {st st' : List AO} (h : G (.ref st.length :: ps) (st ++ [.inst C []]) = some (.none, st')) : makeG C G ps st = some (.ref st.length, st') :=
  pik_of ⟨_, h, rfl⟩ fun z q' => by obtain ⟨_, e, r⟩ := q'; cases h.symm.trans e; exact r
theorem op_make {C fI : Addr} {np : Nat} {G : List PV → SM PV} (hm : makesIn c.K C = true) (hi : findIn c.K (.ref C) "__init__" = some (some (.ref fI))) (hf : typeIn c.K (.ref fI) = some (.type "function")) (oI : FunK c b (.ref fI) np [] G) :
    OpL c (b + 1) (fun vs => call (.ref C) vs) (makeG C G) := by
  constructor
  intro A hA ρ s st vs ps y st' e r R
  obtain ⟨_, e', q⟩ := Zq e
  clear e; cases q
  have e := e'
  obtain ⟨h, g, d, t, os⟩ := s
  replace R : RelS c.K ρ st h := R
  refine wpAny_call (make_core (makes_of R.top hm) (looks_findIn R.top hi) (fun self => bind_fn R.top self hf) (.inl (by rfl)) ?_)
  have k : ∀ b o, h.get? b = some o → ((h.push emptyDict).push (instObj C h.objs.size)).get? b = some o := fun b o e => Heap.get?_push_of_some _ (Heap.get?_push_of_some _ e)
  have hs1 : (h.push emptyDict).objs.size = h.objs.size + 1 := Heap.size_push ..
  have hx : ((h.push emptyDict).push (instObj C h.objs.size)).get? (h.objs.size + 1) = some (instObj C h.objs.size) := by rw [← hs1]; exact Heap.get?_push_size _ rfl
  have hd : ((h.push emptyDict).push (instObj C h.objs.size)).get? h.objs.size = some emptyDict := Heap.get?_push_of_some _ (Heap.get?_push_size _ rfl)
  have hne : h.objs.size + 1 ≠ h.objs.size := Nat.succ_ne_self _
  obtain ⟨S, g₁⟩ := R.push (as := [h.objs.size + 1, h.objs.size]) (ao := .inst C []) (h' := (h.push emptyDict).push (instObj C h.objs.size)) k
    (fun a m => by
      simp only [List.mem_cons, List.not_mem_nil, or_false] at m
      rcases m with rfl | rfl
      · exact get_ge (Nat.le_succ _)
      · exact get_ge (Nat.le_refl _))
    (fun a m => by
      simp only [List.mem_cons, List.not_mem_nil, or_false] at m
      rcases m with rfl | rfl
      · exact ⟨_, hx⟩
      · exact ⟨_, hd⟩) (by simp) (fun _ => ⟨_, _, [], _, rfl, hx, hd, .nil⟩)
  have hA' : AOk b (A.under (.builtin "type.__call__" ⟨.ref C :: vs, []⟩)) := ⟨hA.handled, by have := hA.depth; show A.depth + 1 + 2 * b ≤ 900; omega, by have := hA.units; show A.units + 1 + 20 * b ≤ 9000; omega⟩
  have rself : RV ((h.push emptyDict).push (instObj C h.objs.size)) (ρ.push [h.objs.size + 1, h.objs.size]) (.ref (h.objs.size + 1)) (.ref st.length) := .ref (by rw [← R.len]; exact headAt_push)
  refine codeAny_mono (oI.code hA' (s := ⟨(h.push emptyDict).push (instObj C h.objs.size), g, d, t, os⟩) e (.cons rself (r.grow g₁ noFr)) S) fun r s' z => ?_
  rcases r with e | (v | _ | _ | _) <;> first | exact z.elim | skip
  obtain ⟨ρ', S', g', q', rv⟩ := z
  cases rv
  refine ⟨rfl, ρ', S', g₁.trans g', q', ?_⟩
  exact (RV.grow g' noFr rself)
end
section
variable {c : Ctx0} {b : Nat}
theorem OpL.weak {t : List Value → Sem Value} {G : List PV → SM PV} {b' : Nat} (o : OpL c b t G) (l : b ≤ b') : OpL c b' t G := ⟨fun A hA => o.run A (hA.le l)⟩
theorem FunK.weak {fv : Value} {np : Nat} {kn : List Str} {G : List PV → SM PV} {b' : Nat} (o : FunK c b fv np kn G) (l : b ≤ b') : FunK c b' fv np kn G := ⟨o.len, fun A hA => o.run A (hA.le l)⟩
end
section
variable {c : Ctx0} {b : Nat} {f : FI}
theorem den_method_kw {o a0 kwe : Expr} {name kw : Str} {apos pos kwp : Pos} {args : List Expr} {fv : Value} {P : PV → List AO → Bool} {FO FK : FM PV} {FA : FM (List PV)} {np : Nat} {G : List PV → SM PV}
    (dO : Den c b f RV (eval o f.env) FO) (m : MethAt c name P fv) (hk : KeepOk c.K fv) (da : DenArgs c b f pos (a0 :: args) FA) (dk : Den c b f RV (eval kwe f.env) FK) (op : FunK c b fv np [kw] G)
    (hbase : notSuper o = true := by rfl) (hline : (apos.endLine == pos.line) = true := by rfl) (ha : ((a0 :: args).all Yd && decide (args.length < 26)) = true := by rfl) :
    Den c b f RV (eval (.Call (.Attribute o name apos) (a0 :: args) [⟨some kw, kwe, kwp⟩] pos) f.env) (bindE FO fun p => guardE (P p) (bindE FA fun ps => bindE FK fun q => liftS (G (p :: (ps ++ [q]))))) := by
  constructor
  intro A hA ρ s es y es' e R
  obtain ⟨p, es₁, e1, e⟩ := Zd e
  unfold guardE at e
  split at e <;> try exact (nos e).elim
  rename_i hP
  obtain ⟨ps, es₂, e2, e⟩ := Zd e
  obtain ⟨q, es₃, e3, e⟩ := Zd e
  obtain ⟨st', e4, rfl⟩ := Z2 e
  have hl := op.len _ _ _ e4
  rw [Bool.and_eq_true] at ha
  have hst := Yw (env := f.env) (pos := pos) ha.1
  have hlen : args.length < 26 := by simpa using ha.2
  have hfew : methodCallForm ((a0 :: args).length + ([⟨some kw, kwe, kwp⟩] : List Keyword).length) (backTo pos (starEach (a0 :: args) f.env)) (backToKw pos (keywordEach [⟨some kw, kwe, kwp⟩] f.env)) = true := by
    unfold methodCallForm
    rw [hst]
    show (true && true && decide (args.length + 1 + 1 + 1 < 30)) = true
    simp; omega
  rw [arm_eval_Call, Ym hbase]
  refine wpAny_bind (wpAny_mono (dO.run A hA ρ s es p es₁ e1 R) (fun v s₁ z => ?_) fun _ _ z => z)
  obtain ⟨ρ₁, R₁, g₁, q₁, r₁⟩ := z
  refine wpAny_bind (wpAny_standAt ?_)
  have hpos : methodCallPos true o f.env apos pos = pure pos := by unfold methodCallPos; simp [hline]
  unfold methodCall
  rw [hfew]
  refine wpAny_bind (wpAny_holding (m.run A _ ρ₁ s₁ es₁.st v p _ hP r₁ R₁.s ?_))
  refine wpAny_bind (wpAny_of_eq hpos ?_)
  rw [List.all_cons, Bool.and_eq_true] at ha
  refine callWith_of (P := c.K.In) ?_ (hk _) (evalArgs_kw2 rfl (wpAny_mono (da.run A hA ρ₁ s₁ es₁ ps es₂ e2 R₁) (fun vs s₂ z => ?_) fun _ _ z => z) (starEach_of ha.1.1))
  · rw [show (backToKw pos (keywordEach [⟨some kw, kwe, kwp⟩] f.env)).any (·.1.isNone) = false from rfl, Bool.or_false, List.any_eq_not_all_not, Bool.not_eq_false']
    simpa using hst
  · obtain ⟨ρ₂, R₂, g₂, q₂, r₂⟩ := z
    show wpAny _ _ (evalAll [do let v ← eval kwe f.env; standAt pos; pure v]) _ _ _
    refine wpAny_evalAll_cons (wpAny_bind (wpAny_mono (dk.run A hA ρ₂ s₂ es₂ q es₃ e3 R₂) (fun k s₃ z => ?_) fun _ _ z => z))
    obtain ⟨ρ₃, R₃, g₃, q₃, r₃⟩ := z
    refine wpAny_bind (wpAny_standAt (wpAny_pure (wpAny_evalAll_nil ⟨R₃.s.top, ?_⟩)))
    have rr : RVs s₃.heap ρ₃ (v :: (vs ++ [k])) (p :: (ps ++ [q])) := .cons ((r₁.grow g₂ R₁.like).grow g₃ R₂.like) ((r₂.grow g₃ R₂.like).append (.cons r₃ .nil))
    have hvl := r₂.length
    have hnp : np = vs.length + 1 := by simp at hl; omega
    have := op.run A hA ρ₃ s₃ es₃.st (v :: (vs ++ [k])) (p :: (ps ++ [q])) y st' e4 rr R₃.s
    rw [hnp, List.take_succ_cons, List.take_left', List.drop_succ_cons, List.drop_left'] at this
    · exact wpAny_call (codeAny_mono this fun r s' z => by
        rcases r with e | (v | _ | _ | _) <;> first | exact ((((EndsS.toF R₃ z).after g₃ q₃).after g₂ q₂).after g₁ q₁) | exact z.elim)
    · rfl
    · rfl
noncomputable def whileE (n : Nat) (T : FM Bool) (B : FM PF) : FM PF := match n with
  | 0 => failE
  | n + 1 => bindE T fun t => if t then bindE B (loopK (whileE n T B)) else pureE .next
theorem den_while {test : Expr} {body : List Stmt} {pos : Pos} {T : FM Bool} {B : FM PF} {N : ES → Nat} (dt : Den c b f RB (isTrue test f.env (eval test f.env)) T) (db : Den c b f RFl (execs body f.env) B) :
    Den c b f RFl (exec (.While test body [] pos) f.env) (fun es => whileE (N es) T B es) := by
  constructor
  intro A hA ρ₀ s₀ es₀ y es' e R₀
  refine wpAny_While (codeAny_whileLoop (R := fun r s' => match r with | .ok fl => Ends c.K f RFl ρ₀ s₀ y es' fl s' | .error e => cameBackBy _ A f.env noE e s')
    (fun n s => ∃ ρ es, P4 (whileE n T B es = some (y, es')) (RelF c.K f ρ es s.heap) (Grow f.fr ρ₀ s₀.heap ρ s.heap) (Same s₀ s)) ?_ (N es₀) ⟨ρ₀, es₀, e, R₀, .refl, .refl⟩)
  rintro n s ⟨ρ, es, e, R, g, sm⟩
  cases n with
  | zero => exact (nos e).elim
  | succ n =>
    obtain ⟨t, es₁, e1, e2⟩ := Zd e
    refine wpAny_mono (dt.run A hA ρ s es t es₁ e1 R) (fun v s₁ z => ?_) fun _ _ z => z.elim
    obtain ⟨ρ₁, R₁, g₁, q₁, rfl⟩ := z
    cases v with
    | false => obtain ⟨rfl, rfl⟩ := spr e2; exact wpAny_execs_nil ⟨ρ₁, R₁, g.trans g₁, sm.trans q₁, .next⟩
    | true =>
      rw [if_pos rfl] at e2 ⊢
      obtain ⟨fl, es₂, e3, e4⟩ := Zd e2
      refine wpAny_mono (db.run A hA ρ₁ s₁ es₁ fl es₂ e3 R₁) (fun flv s₂ z => ?_) fun _ _ z => z.elim
      obtain ⟨ρ₂, R₂, g₂, q₂, rf⟩ := z
      have gg := (g.trans g₁).trans g₂
      have qq := (sm.trans q₁).trans q₂
      cases rf with
      | next => exact ⟨n, Nat.lt_succ_self _, ρ₂, es₂, e4, R₂, gg, qq⟩
      | cont => exact ⟨n, Nat.lt_succ_self _, ρ₂, es₂, e4, R₂, gg, qq⟩
      | brk => obtain ⟨rfl, rfl⟩ := spr e4; exact ⟨ρ₂, R₂, gg, qq, .next⟩
      | ret r => obtain ⟨rfl, rfl⟩ := spr e4; exact ⟨ρ₂, R₂, gg, qq, .ret r⟩
theorem den_aug_attr {o value : Expr} {name : Str} {tpos pos : Pos} {op : Operator} {X O : FM PV} {G : PV → PV → SM PV} (dO : Den c b f RV (eval o f.env) O) (dx : Den c b f RV (eval value f.env) X) (op2 : Op2 c b RV (inplaceOp op) G) :
    Den c b f RFl (exec (.AugAssign (.Attribute o name tpos) op value pos) f.env) (bindE O fun p => bindE (liftS (getA c.K name p)) fun old => bindE X fun v => bindE (liftS (G old v)) fun new => bindE (liftS (setA c.K name p new)) fun _ => pureE .next) := by
  constructor
  intro A hA ρ s es y es' e R
  obtain ⟨po, es₁, e1, e⟩ := Zd e
  obtain ⟨old, es₃, e3, e⟩ := Zd e
  obtain ⟨st₃, e3', rfl⟩ := Z2 e3
  obtain ⟨pv, es₄, e4, e⟩ := Zd e
  obtain ⟨new, es₅, e5, e⟩ := Zd e
  obtain ⟨st₅, e5', rfl⟩ := Z2 e5
  obtain ⟨_, es₆, e6, e7⟩ := Zd e
  obtain ⟨st₆, e6', rfl⟩ := Z2 e6
  obtain ⟨rfl, rfl⟩ := spr e7
  refine wpAny_AugAssign_AttributeAny (wpAny_mono (dO.run A hA ρ s es po es₁ e1 R) (fun l s₁ z => ?_) fun _ _ z => z)
  obtain ⟨ρ₁, R₁, g₁, q₁, r₁⟩ := z
  refine wpAny_mono (op_getA.run A hA ρ₁ s₁ es₁.st l po old st₃ e3' r₁ R₁.s) (fun w s₃ z => ?_) fun _ _ z => z
  obtain ⟨ρ₃, S₃, g₃, q₃, r₃⟩ := z
  have R₃ := R₁.ofS S₃ g₃
  refine wpAny_mono (dx.run A hA ρ₃ s₃ _ pv es₄ e4 R₃) (fun v s₄ z => ?_) fun _ _ z => z
  obtain ⟨ρ₄, R₄, g₄, q₄, r₄⟩ := z
  refine wpAny_mono (op2.run A hA ρ₄ s₄ es₄.st w old v pv new st₅ e5' (r₃.grow g₄ R₃.like) r₄ R₄.s) (fun n s₅ z => ?_) fun _ _ z => z
  obtain ⟨ρ₅, S₅, g₅, q₅, r₅⟩ := z
  have R₅ := R₄.ofS S₅ g₅
  have rl := ((r₁.grow g₃ noFr).grow g₄ R₃.like).grow g₅ noFr
  refine wpAny_mono (op_setA.run A hA ρ₅ s₅ st₅ l po n new () st₆ e6' rl r₅ S₅) (fun _ s₆ z => ?_) fun _ _ z => z
  obtain ⟨ρ₆, S₆, g₆, q₆, _⟩ := z
  have w : ∀ {ρ ρ' : Rho} {h h' : Heap}, Grow [] ρ h ρ' h' → Grow f.fr ρ h ρ' h' := fun g => g.wider (by simp)
  exact ⟨ρ₆, R₅.ofS S₆ g₆, (((g₁.trans (w g₃)).trans g₄).trans (w g₅)).trans (w g₆), (((q₁.trans q₃).trans q₄).trans q₅).trans q₆, .next⟩
end
section
variable {c : Ctx0} {b : Nat} {f : FI}
noncomputable def intG (ps : List PV) : SM PV := fun st => match ps with | [.int i] => some (.int i, st) | _ => none
theorem op_int : OpL c b (fun vs => call (.type "int") vs) intG := by
  constructor
  intro A hA ρ s st vs ps y st' e r R
  unfold intG at e; split at e <;> (first | obtain ⟨rfl, rfl⟩ := spr e | exact (nos e).elim)
  obtain ⟨_, rfl, r1⟩ := rvs1 r
  (first | obtain ⟨_, rfl⟩ := r1.inv | cases r1)
  exact call_int_int (EndsS.here R (.int _ _))
noncomputable def texts? (xs : List PV) : Option (List Str) := xs.mapM fun | .str x => some x | _ => none
theorem texts_of {h : Heap} {ρ : Rho} {vs : List Value} {xs : List PV} {ts : List Str} (r : RVs h ρ vs xs) (e : texts? xs = some ts) : ∃ l : List (Str × Tok), vs = strValues l ∧ l.map (·.1) = ts := by
  induction xs generalizing vs ts with
  | nil => obtain rfl := r.inv; obtain rfl := Option.some.inj e; exact ⟨[], rfl, rfl⟩
  | cons p xs ih =>
    obtain ⟨u, us, rfl, r1, rr⟩ := r.inv
    unfold texts? at e
    rw [List.mapM_cons] at e
    obtain ⟨x, e1, e⟩ := Option.bind_eq_some_iff.mp e
    obtain ⟨ts', e2, e3⟩ := Option.bind_eq_some_iff.mp e
    obtain rfl := Option.some.inj e3
    obtain ⟨l, rfl, rfl⟩ := ih rr e2
    cases p with
    | str y =>
      obtain rfl := Option.some.inj e1
      obtain ⟨t, rfl⟩ := r1.inv
      exact ⟨(y, t) :: l, rfl, rfl⟩
    | _ => exact (nos e1).elim
noncomputable def joinG (ps : List PV) : SM PV := fun st => match ps with
  | [.str x, p] => (match (items? st p).bind texts? with
    | some ts => if JoinOk x ts = true then some (.str (Txt.join x ts), st) else none
    | none => none)
  | _ => none
theorem op_join : OpL c b (fun vs => call (.builtin "str.join") vs) joinG := by
  constructor
  intro A hA ρ s st vs ps y st' e r R
  unfold joinG at e; split at e
  · rename_i x p
    split at e
    · rename_i ts hts
      obtain ⟨hz, e⟩ := ite_some e
      cases e
      obtain ⟨xs, hx, ht⟩ := Option.bind_eq_some_iff.mp hts
      obtain ⟨_, _, rfl, r1, r2⟩ := rvs2 r
      obtain ⟨t, rfl⟩ := r1.inv
      obtain ⟨a, us, rfl, pl, rr⟩ := items_of R r2 hx
      obtain ⟨l, hl, rfl⟩ := texts_of rr ht
      have hl' : us = (strValues l).toArray := by rw [← hl, Array.toArray_toList]
      rw [hl'] at pl
      exact SC.join (isL pl) rfl hz fun t' k => EndsS.tok R (.str _ _)
    · exact (nos e).elim
  · exact (nos e).elim
noncomputable def ints? (xs : List PV) : Option (List Int) := xs.mapM fun | .int x => some x | _ => none
theorem ints_len : ∀ {xs : List PV} {ns : List Int}, ints? xs = some ns → ns.length = xs.length
  | [], ns, e => by unfold ints? at e; simp at e; subst e; rfl
  | x :: r, ns, e => by
    unfold ints? at e
    rw [List.mapM_cons] at e
    obtain ⟨i, e1, e⟩ := Option.bind_eq_some_iff.mp e
    obtain ⟨ns', e2, e3⟩ := Option.bind_eq_some_iff.mp e
    obtain rfl := Option.some.inj e3
    simp [ints_len e2]
theorem ints_get {h : Heap} {ρ : Rho} {vs : List Value} {xs : List PV} {ns : List Int} (r : RVs h ρ vs xs) (e : ints? xs = some ns) {i : Nat} {v : Value} (hv : vs[i]? = some v) : ∃ t, v = .int (ns.getD i 0) t := by
  induction xs generalizing vs ns i with
  | nil => obtain rfl := r.inv; exact (nos hv).elim
  | cons p xs ih =>
    obtain ⟨u, us, rfl, r1, rr⟩ := r.inv
    unfold ints? at e
    rw [List.mapM_cons] at e
    obtain ⟨x, e1, e⟩ := Option.bind_eq_some_iff.mp e
    obtain ⟨ns', e2, e3⟩ := Option.bind_eq_some_iff.mp e
    obtain rfl := Option.some.inj e3
    cases i with
    | zero =>
      obtain rfl := Option.some.inj hv
      cases p with
      | int j => obtain rfl := Option.some.inj e1; exact r1.inv
      | _ => exact (nos e1).elim
    | succ i => exact ih rr e2 hv
theorem preSum_take (ns : List Int) : ∀ k, k ≤ ns.length → preSum (fun i => ns.getD i 0) k = (ns.take k).sum
  | 0, _ => rfl
  | k + 1, h => by
    show preSum _ k + ns.getD k 0 = _
    rw [preSum_take ns k (by omega), List.take_add_one, List.sum_append, List.getD_eq_getElem?_getD]
    rw [List.getElem?_eq_getElem (by omega : k < ns.length)]
    simp
noncomputable def sumG (ps : List PV) : SM PV := fun st => match ps with
  | [p] => (match (items? st p).bind ints? with
    | some ns => some (.int ns.sum, st)
    | none => none)
  | _ => none
theorem op_sum : OpL c b (fun vs => call (.builtin "sum") vs) sumG := by
  constructor
  intro A hA ρ s st vs ps y st' e r R
  unfold sumG at e; split at e
  · rename_i p
    split at e <;> (first | obtain ⟨rfl, rfl⟩ := spr e | exact (nos e).elim)
    rename_i ns hns
    obtain ⟨xs, hx, hn⟩ := Option.bind_eq_some_iff.mp hns
    obtain ⟨_, rfl, r1⟩ := rvs1 r
    obtain ⟨a, us, rfl, pl, rr⟩ := items_of R r1 hx
    have hl := rr.length
    rw [Array.length_toList] at hl
    have hln := ints_len hn
    have alt : a ≠ s.heap.objs.size := by obtain ⟨n, e⟩ := pl; exact Nat.ne_of_lt (Heap.lt_size e)
    refine call_sum_walkG (wpAny_pyIter_list (isL pl) ?_)
    refine ⟨s.heap.objs.size, _, _, us.size, _, _, fun i => ns.getD i 0, rfl, Walks.list (by exact hA.handled) s.heap.objs.size a alt us, ⟨⟨_, Heap.get?_push_size _ rfl, rfl, rfl⟩, ?_⟩, fun x m => ?_, fun i v hv => ?_, fun h' tk t' k => ?_⟩
    · obtain ⟨n, e⟩ := pl; exact ⟨_, Heap.get?_push_of_some _ e, rfl, n, rfl⟩
    · simp only [List.mem_cons, List.not_mem_nil, or_false] at m
      rw [show ({ s with heap := s.heap.push _ } : Shared).heap.objs.size = s.heap.objs.size + 1 from Heap.size_push ..]
      rcases m with rfl | rfl
      · exact Nat.lt_succ_self _
      · obtain ⟨n, e⟩ := pl; exact Nat.lt_succ_of_lt (Heap.lt_size e)
    · exact ints_get rr hn (by simpa using hv)
    · obtain ⟨S, g⟩ := R.ext (h' := h') fun x o e => k x o (fun m => by rw [List.mem_singleton.mp m, get_ge (Nat.le_refl _)] at e; exact (nos e).elim) (Heap.get?_push_of_some _ e)
      rw [preSum_take ns _ (by omega), List.take_of_length_le (by omega)]
      exact ⟨ρ, S, g, ⟨rfl, rfl, rfl⟩, .int _ _⟩
  · exact (nos e).elim
end
section
variable {c : Ctx0} {b : Nat} {f : FI}
noncomputable abbrev DenBs (c : Ctx0) (b : Nat) (f : FI) (names : List Str) (F : List PV → FM Unit) : Prop := DenK c b f RVs RU (fun vs => assignInOrder (names.map fun n => bindName f.env n) vs) F
theorem denbs_nil : DenBs c b f [] asNil := by
  constructor
  intro A hA ρ s es vs ps y es' e r R
  unfold asNil at e
  split at e <;> (first | obtain ⟨rfl, rfl⟩ := spr e | exact (nos e).elim)
  cases r
  exact wpAny_pure (Ends.here R trivial)
theorem denbs_cons {x : Str} {rest : List Str} {S : PV → FM Unit} {T : List PV → FM Unit} (ds : DenK c b f RV RU (storeName f.env x) S) (dt : DenBs c b f rest T) : DenBs c b f (x :: rest) (asCons S T) := by
  constructor
  intro A hA ρ s es vs ps y es' e r R
  unfold asCons at e
  split at e
  · obtain ⟨_, es₁, e1, e2⟩ := Zd e
    obtain ⟨_, _, rfl, rv, rr⟩ := r.inv
    show wpAny _ _ (holding _ (bindName f.env x _) >>= fun _ => assignInOrder (rest.map fun n => bindName f.env n) _) _ _ _
    refine wpAny_bind (wpAny_holding (wpAny_bindName (wpAny_mono (ds.run A hA ρ s es _ _ _ es₁ e1 rv R) (fun _ s₁ z => ?_) fun _ _ z => z)))
    obtain ⟨ρ₁, R₁, g₁, q₁, _⟩ := z
    exact wpAny_mono (dt.run A hA ρ₁ s₁ es₁ _ _ _ es' e2 (rr.grow g₁ R.like) R₁) (fun _ _ z => z.after g₁ q₁) fun _ _ z => z
  · exact (nos e).elim
noncomputable def unpackRevE (n : Nat) (T : List PV → FM Unit) (p : PV) : FM Unit := match p with
  | .tup xs => if xs.length = n then T xs.reverse else failE
  | _ => failE
theorem RVs.rev {h : Heap} {ρ : Rho} {vs : List Value} {xs : List PV} (r : RVs h ρ vs xs) : RVs h ρ vs.reverse xs.reverse := by
  induction vs generalizing xs with
  | nil => cases r; exact .nil
  | cons v vs ih => cases r with | cons x y => rw [List.reverse_cons, List.reverse_cons]; exact (ih y).append (.cons x .nil)
theorem den_swap {elts : List Expr} {k : Nat} {tpos pos : Pos} {value : Expr} {names : List Str} {X : FM PV} {T : List PV → FM Unit} (dx : Den c b f RV (eval value f.env) X) (dt : DenBs c b f names.reverse T)
    (hw : swappedStores [.Tuple elts k tpos] value f.env = pure (some names)) (hs : swapsWithSole [.Tuple elts k tpos] value pos.line f.env = pure false := by rfl) :
    Den c b f RFl (exec (.Assign [.Tuple elts k tpos] value pos) f.env) (bindE X fun p => bindE (unpackRevE names.length T p) fun _ => pureE .next) := by
  constructor
  intro A hA ρ s es r es' e R
  obtain ⟨p, es₁, e1, e⟩ := Zd e
  obtain ⟨_, es₂, e2, e3⟩ := Zd e
  cases e3
  refine Assign_Tuple_swapped (wpAny_mono (dx.run A hA ρ s es p es₁ e1 R) (fun v s₁ z => ?_) fun _ _ z => z) hs hw
  obtain ⟨ρ₁, R₁, g₁, q₁, r₁⟩ := z
  unfold unpackRevE at e2
  split at e2
  · rename_i xs
    split at e2
    · rename_i hl
      obtain ⟨a, vs, na, q, rr, rfl⟩ := r₁.inv
      have hn : names.length = vs.toArray.size := by rw [List.size_toArray, rr.length, hl]
      rw [hn]
      refine wpAny_unpackItems_tuple hA.handled q fun h' hx => ?_
      have kk : ∀ a o, s₁.heap.get? a = some o → h'.get? a = some o := fun a o e => hx a o (Nat.ne_of_lt (Heap.lt_size e)) e
      obtain ⟨S, g⟩ := R₁.s.ext kk
      have := dt.run A hA ρ₁ { s₁ with heap := h' } es₁ vs.reverse xs.reverse () es' e2 (rr.rev.grow g noFr) (R₁.ofS S g)
      refine wpAny_mono this (fun _ s₂ z => ?_) fun _ _ z => z
      obtain ⟨ρ₂, R₂, g₂, q₂, _⟩ := z
      exact ⟨ρ₂, R₂, g₁.trans ((g.wider (fun _ m => nomatch m)).trans g₂), q₁.trans ⟨q₂.1, q₂.2.1, q₂.2.2⟩, .next⟩
    · cases e2
  · cases e2
theorem typeIs_lst {s : Shared} {a : Addr} {vs : Array Value} {n : Nat} (e : s.heap.get? a = some { cls := .type "list", data := .seq vs n }) : s.TypeIs (.ref a) "list" := ⟨_, e, rfl⟩
noncomputable def countG (ps : List PV) : SM PV := fun st => pik fun r => ∃ p q ds d xs, P5 (ps = [p, q]) (datS st p = some (.list ds)) (datS st q = some d) (items? st p = some xs) (r = (.int (ds.countP fun y => PyData.eqv y d : Nat), st))
theorem count_of {st : List AO} {p q : PV} {ds : List PyData} {d : PyData} {xs : List PV} (h1 : datS st p = some (.list ds)) (h2 : datS st q = some d) (h3 : items? st p = some xs) : countG [p, q] st = some (.int (ds.countP fun y => PyData.eqv y d : Nat), st) :=
  pik_of ⟨_, _, _, _, _, rfl, h1, h2, h3, rfl⟩ fun z q' => by obtain ⟨_, _, _, _, _, e, h1', h2', _, e'⟩ := q'; cases e; cases h1.symm.trans h1'; cases h2.symm.trans h2'; exact e'
theorem op_count : OpL c b (fun vs => call (.builtin "list.count") vs) countG := by
  constructor
  intro A hA ρ s st vs ps y st' e r R
  obtain ⟨p, q, ds, d, xs, rfl, e1, e2, hx, e'⟩ := Zq e
  clear e; cases e'
  obtain ⟨v, u, rfl, r1, r2⟩ := rvs2 r
  obtain ⟨a, us, rfl, ⟨n, pl⟩, rr⟩ := items_of R r1 hx
  obtain ⟨⟨as, ra⟩, l, dp⟩ := datS_ok R r1 e1
  obtain ⟨⟨bs, rb⟩, l', dp'⟩ := datS_ok R r2 e2
  cases ra with | list h1 h2 h3 h4 => ?_
  rw [pl] at h1; cases h1; cases h3
  have hc := canLay_list l
  have eqs := SeqAt.items_eqAt (A := A) h4 rb hc l' (room_in hA dp')
  refine call_meets F.slot_list_count (typeIs_lst pl) F.entry_list_count (F.args_list_count_2 _ _) (SeqAt.list_countAt a us n none #[] u (fun y => PyData.eqv (SeqAt.readOf s.heap y) d)) ⟨pl, eqs, ?_⟩
  have hm := SeqAt.readsAll_map _ _ _ hc h4
  have : (us.toList.countP fun y => PyData.eqv (SeqAt.readOf s.heap y) d) = ds.countP fun y => PyData.eqv y d := by
    rw [← hm, List.countP_map]; rfl
  rw [this]
  show EndsS c.K RV ρ s _ st _ _
  exact EndsS.tok R (RV.int _ _)
end
section
variable {c : Ctx0} {b : Nat} {f : FI}
theorem den_never {α β : Type} {RA : Heap → Rho → α → β → Prop} {t : Sem α} : Den c b f RA t failE := ⟨fun A hA ρ s es y es' e R => nomatch e⟩
noncomputable def typeG (ps : List PV) : SM PV := fun st => pik fun r => ∃ x, ps = [.str x] ∧ r = (.raw (.type "str"), st)
theorem type_of {x : Str} {st : List AO} : typeG [.str x] st = some (.raw (.type "str"), st) := pik_of ⟨_, rfl, rfl⟩ fun z q' => by obtain ⟨_, _, e⟩ := q'; exact e
theorem op_type : OpL c b (fun vs => call (.type "type") vs) typeG := by
  constructor
  intro A hA ρ s st vs ps y st' e r R
  obtain ⟨x, rfl, e'⟩ := Zq e
  clear e; cases e'
  obtain ⟨_, rfl, r1⟩ := rvs1 r
  obtain ⟨_, rfl⟩ := r1.inv
  exact call_type_of (typeIs_str _ _ _) (by decide) (EndsS.here R (.raw _))
noncomputable def typeL (ps : List PV) : SM PV := fun st => pik fun r => ∃ p xs, P3 (ps = [p]) (items? st p = some xs) (r = (.raw (.type "list"), st))
theorem typeL_of {p : PV} {st : List AO} {xs : List PV} (h : items? st p = some xs) : typeL [p] st = some (.raw (.type "list"), st) := pik_of ⟨_, _, rfl, h, rfl⟩ fun z q' => by obtain ⟨_, _, _, _, e⟩ := q'; exact e
theorem op_typeL : OpL c b (fun vs => call (.type "type") vs) typeL := by
  constructor
  intro A hA ρ s st vs ps y st' e r R
  obtain ⟨p, xs, rfl, hx, e'⟩ := Zq e
  clear e; cases e'
  obtain ⟨_, rfl, r1⟩ := rvs1 r
  obtain ⟨a, us, rfl, pl, _⟩ := items_of R r1 hx
  exact call_type_of (isL pl).typeIs (by decide) (EndsS.here R (.raw _))
noncomputable def isT (p q : PV) : SM PV := fun st => pik fun r => ∃ x y, P3 (p = .raw (.type x)) (q = .raw (.type y)) (r = (.bool (Value.type x == Value.type y), st))
theorem isT_of {x y : String} {st : List AO} : isT (.raw (.type x)) (.raw (.type y)) st = some (.bool (Value.type x == Value.type y), st) := pik_of ⟨_, _, rfl, rfl, rfl⟩ fun z q' => by obtain ⟨_, _, e, e', e''⟩ := q'; cases e; cases e'; exact e''
noncomputable def isNotT (p q : PV) : SM PV := fun st => pik fun r => ∃ x y, P3 (p = .raw (.type x)) (q = .raw (.type y)) (r = (.bool (!(Value.type x == Value.type y)), st))
theorem isNotT_of {x y : String} {st : List AO} : isNotT (.raw (.type x)) (.raw (.type y)) st = some (.bool (!(Value.type x == Value.type y)), st) := pik_of ⟨_, _, rfl, rfl, rfl⟩ fun z q' => by obtain ⟨_, _, e, e', e''⟩ := q'; cases e; cases e'; exact e''
theorem op_isT : Op2 c b RV (compareOp .Is) isT := by
  constructor
  intro A hA ρ s st x z x' z' y st' e r r' R
  obtain ⟨_, _, rfl, rfl, e'⟩ := Zq e
  clear e; cases e'; cases r; cases r'
  show wpAny _ A (do return Value.bool (← isSame _ _)) _ _ s
  exact wpAny_bind (wpAny_pure (wpAny_pure (EndsS.here R (.bool _))))
theorem op_isNotT : Op2 c b RV (compareOp .IsNot) isNotT := by
  constructor
  intro A hA ρ s st x z x' z' y st' e r r' R
  obtain ⟨_, _, rfl, rfl, e'⟩ := Zq e
  clear e; cases e'; cases r; cases r'
  show wpAny _ A (do return Value.bool (!(← isSame _ _))) _ _ s
  exact wpAny_bind (wpAny_pure (wpAny_pure (EndsS.here R (.bool _))))
end
theorem plainAttrs_re : PlainAttrs "re.Pattern" :=
  ⟨⟨"object.__getattribute__", by rw [typeLookup_type, builtinLookup_eq_fast]; kernel_rfl, by decide +kernel⟩, by rw [typeLookup_type, builtinLookup_eq_fast]; kernel_rfl⟩
theorem slot_re : Slot "re.Pattern" "search" "re.Pattern.search" :=
  .of (owner := "re.Pattern") (n := "search") (by rw [typeLookup_type, builtinLookup_eq_fast]; kernel_rfl) (by decide +kernel) (by decide +kernel) (by decide +kernel)
    (by first | exact .inl (by decide +kernel) | exact .inr (by decide +kernel)) (by rw [isSubtype_type]; kernel_rfl)
theorem type_re : typeOf (.builtin "re.Pattern.search") = pure (.type "method_descriptor") := by show builtinType _ = _; rw [builtinType_eq_fast]; kernel_rfl
theorem entry_re : entryFor table "re.Pattern.search" = some Builtin.«re.Pattern.search» := entryFor_of_tree (by kernel_rfl)
theorem args_re (a b : Value) : argsOk "re.Pattern.search" ⟨[a, b], []⟩ := by unfold argsOk; kernel_rfl
theorem admitted_none {m : Sre.M} {t : Nat → Bool} (h : ∀ u seen, ∃ seen', Sre.inSet m.code u m.code.size 5 true seen = .ok (t u, seen')) : ∀ (fuel s : Nat) (seen : Sre.Seen), (∀ k, s ≤ k → k < m.lim → t (m.text.getD k 0) = false) → ∃ seen', Sre.M.admitted m fuel s seen = .ok (none, seen')
  | 0, s, seen, _ => ⟨seen, rfl⟩
  | fuel + 1, s, seen, hn => by
    unfold Sre.M.admitted
    by_cases hs : s ≥ m.lim
    · exact ⟨seen, by rw [if_pos hs]⟩
    · rw [if_neg hs]
      obtain ⟨seen', e⟩ := h (m.text.getD s 0) seen
      rw [e, hn s (Nat.le_refl _) (by omega)]
      exact admitted_none h fuel (s + 1) seen' fun k hk hl => hn k (by omega) hl
section
open PySem.Builtin.Re
theorem reNamed_one (v : Value) : reNamed "re.Pattern.search" "search" ["string", "pos", "endpos"] 1 [v] [] = pure [some v, none, none] := by rfl
theorem reText_str (x : Str) (t : Tok) : reTextOf (.str x t) = pure (x.cps, 0) := by rfl
theorem reNoColl (v : Value) : reNoCollectionInside v 0 = pure () := by rfl
theorem rules_told {M : Model} {A : Around} {E : Value → Shared → Prop} {s : Shared} {Q : PUnit → Shared → Prop} (p : Nat → Bool) (n : Nat → String) (h : Q ⟨⟩ s) : ∀ l : List Nat,
    wpAny M A (forIn l PUnit.unit fun i _ => do
      if p i = true then rule (n i)
      pure (ForInStep.yield PUnit.unit)) Q E s
  | [] => wpAny_pure h
  | i :: l => by
    rw [List.forIn_cons]
    refine wpAny_bind ?_
    cases q : p i with
    | true => exact wpAny_bind (wpAny_rule (wpAny_pure (rules_told p n h l)))
    | false => exact wpAny_pure (rules_told p n h l)
structure CodeOk (code : Array Nat) (t : Nat → Bool) : Prop where
  hdr : ∃ b, Sre.header code = (1, b)
  info : (match Sre.ops[code.getD 0 0]? with | some .INFO => true | _ => false) = true
  flag : code.getD 2 0 = 4
  set5 : ∀ u seen, ∃ seen', Sre.inSet code u code.size 5 true seen = .ok (t u, seen')
theorem adm_none {code text : Array Nat} {t : Nat → Bool} {m : Sre.M} {fuel s : Nat} {seen : Sre.Seen} {r : Except String (Option Nat × Sre.Seen)} (hc : m.code = code) (ht : m.text = text) (hl : m.lim = text.size)
    (h5 : ∀ u seen, ∃ seen', Sre.inSet code u code.size 5 true seen = .ok (t u, seen')) (hn : ∀ k, k < text.size → t (text.getD k 0) = false) (e : Sre.M.admitted m fuel s seen = r) : ∃ seen', r = .ok (none, seen') := by
  subst hc ht
  obtain ⟨seen', e'⟩ := admitted_none (m := m) h5 fuel s seen (fun k _ hk => hn k (by rw [← hl]; exact hk))
  exact ⟨seen', e.symm.trans e'⟩
theorem search_fail {code text : Array Nat} {t : Nat → Bool} (ok : CodeOk code t) (hn : ∀ k, k < text.size → t (text.getD k 0) = false) :
    ((Sre.forSearch code text 0 0 text.size false).runFor 4).outcome = some .failed := by
  obtain ⟨b, hb⟩ := ok.hdr
  unfold Sre.forSearch
  dsimp only
  split
  · rfl
  · unfold Sre.M.attemptFrom
    rw [if_neg (by
      unfold Sre.M.hasFirstSet
      show ¬ (!((match Sre.ops[code.getD 0 0]? with | some .INFO => true | _ => false) && code.getD 2 0 == 4)) = true
      rw [ok.info, ok.flag]; decide)]
    split
    · rename_i e
      obtain ⟨_, e'⟩ := adm_none rfl rfl rfl ok.set5 hn e
      cases e'
    · rfl
    · rename_i e
      obtain ⟨_, e'⟩ := adm_none rfl rfl rfl ok.set5 hn e
      cases e'
end
section
open PySem.Builtin.Re
structure PatOk (K : Frag) (pa : Addr) (code : Array Nat) (t : Nat → Bool) : Prop extends CodeOk code t where
  obj : ∃ sl src fl ta g, K.lookup pa = some ⟨.type "re.Pattern", none, .fields #[src, fl, .int 0 g, .none, .none, .ref ta, .int 0 g], sl⟩ ∧ ∃ oc od' items n sl', K.lookup ta = some ⟨oc, od', .seq items n, sl'⟩ ∧ (items.map reRawOf).map (·.toNat) = code
theorem reDrive_one {M : Model} {A : Around} {E : Value → Shared → Prop} {s : Shared} {Q : Sre.M → Shared → Prop} {m : Sre.M} {o : Sre.Outcome} (h : (m.runFor 4).outcome = some o) (q : Q (m.runFor 4) s) (n : Nat) : wpAny M A (reDrive (n + 1) m) Q E s := by
  rw [reDrive]
  show wpAny M A (if (m.runFor 4).outcome.isSome = true then pure (m.runFor 4) else _) Q E s
  rw [h]
  exact wpAny_pure q
theorem reRun_failed {M : Model} {A : Around} {E : Value → Shared → Prop} {s : Shared} {Q : Option Sre.M → Shared → Prop} {m : Sre.M} (h : (m.runFor 4).outcome = some .failed) (q : Q none s) : wpAny M A (reRunToEnd m) Q E s := by
  unfold reRunToEnd
  have e : (2 ^ 64 : Nat) = (2 ^ 64 - 1) + 1 := by decide
  rw [e]
  refine wpAny_bind (reDrive_one h ?_ _)
  refine wpAny_bind (rules_told _ _ ?_ _)
  rw [h]
  exact wpAny_pure q
section
variable {c : Ctx0} {b : Nat} {f : FI}
noncomputable def searchG (pa : Addr) (t : Nat → Bool) (ps : List PV) : SM PV := fun st => pik fun r => ∃ x, P4 (ps = [.raw (.ref pa), .str x]) (x.cps.all (fun u => !t u) = true) (x.cps.size ≤ 16777216) (r = (.none, st))
theorem search_of {pa : Addr} {t : Nat → Bool} {x : Str} {st : List AO} (h1 : x.cps.all (fun u => !t u) = true) (h2 : x.cps.size ≤ 16777216) : searchG pa t [.raw (.ref pa), .str x] st = some (.none, st) :=
  pik_of ⟨_, rfl, h1, h2, rfl⟩ fun z q' => by obtain ⟨_, _, _, _, e⟩ := q'; exact e
theorem op_search {pa : Addr} {code : Array Nat} {t : Nat → Bool} (ok : PatOk c.K pa code t) : OpL c b (fun vs => call (.builtin "re.Pattern.search") vs) (searchG pa t) := by
  constructor
  intro A hA ρ s st vs ps y st' e r R
  obtain ⟨x, rfl, hn, hsz, e'⟩ := Zq e
  clear e; cases e'
  obtain ⟨_, _, rfl, r1, r2⟩ := rvs2 r
  cases r1
  obtain ⟨tk, rfl⟩ := r2.inv
  obtain ⟨sl, src, fl, ta, g, hp, oc, od', items, n, sl', ht, hcode⟩ := ok.obj
  have ho := R.top _ _ hp
  have ho' := R.top _ _ ht
  refine wpAny_call_entry slot_re ⟨_, ho, rfl⟩ entry_re ?_ (args_re _ _)
  unfold Builtin.«re.Pattern.search»
  have target : ∀ (Q : ReTarget → Shared → Prop), Q ⟨.ref pa, .str x tk, code, x.cps, 0, 0, 0, x.cps.size⟩ s → wpAny (model c.prog c.w) A.in1 (reTarget "re.Pattern.search" "search" ⟨[.ref pa, .str x tk], []⟩) Q noE s := by
    intro Q h
    unfold reTarget
    dsimp only
    rw [reNamed_one]
    refine wpAny_bind (wpAny_pure ?_)
    refine wpAny_bind (wpAny_pure (wpAny_bind (wpAny_pure ?_)))
    refine wpAny_bind (wpAny_fieldsOf ho rfl ?_)
    rw [reText_str]
    refine wpAny_bind (wpAny_pure ?_)
    dsimp only
    rw [if_neg (by simp [reRawNat]), if_neg (by simp [reRawNat]), reNoColl]
    refine wpAny_bind (wpAny_pure ?_)
    refine wpAny_bind ?_
    unfold reRawItems
    refine wpAny_bind (wpAny_seqItems ho' rfl ?_)
    refine wpAny_pure (wpAny_pure ?_)
    have e1 : min (Int.toNat 0) x.cps.size = 0 := by simp
    have e2 : min (2 ^ 63 - 1 : Int).toNat x.cps.size = x.cps.size := by
      rw [Nat.min_eq_right]
      have : (2 ^ 63 - 1 : Int).toNat = 9223372036854775807 := by decide
      omega
    rw [e1, e2]
    show Q ⟨.ref pa, .str x tk, (items.map reRawOf).map (·.toNat), x.cps, 0, 0, 0, x.cps.size⟩ s
    rw [hcode]
    exact h
  refine wpAny_bind (target _ ?_)
  unfold reAnswer
  refine wpAny_bind (reRun_failed (search_fail ok.toCodeOk fun k hk => ?_) ?_)
  · have := Array.all_eq_true.mp hn k hk
    rw [Array.getD_eq_getD_getElem?, Array.getElem?_eq_getElem hk]
    simpa using this
  · exact wpAny_pure ⟨_, rfl, EndsS.here R .none⟩
noncomputable def isPat (pa : Addr) (p : PV) (_ : List AO) : Bool := pikB (p = .raw (.ref pa))
theorem meth_search {pa : Addr} {code : Array Nat} {t : Nat → Bool} (ok : PatOk c.K pa code t) : MethAt c "search" (isPat pa) (.builtin "re.Pattern.search") := by
  constructor
  intro A pl ρ s st v p Q hP r R h
  obtain rfl := pikB_inv hP
  cases r
  obtain ⟨sl, src, fl, ta, g, hp, _⟩ := ok.obj
  have ho := R.top _ _ hp
  exact getMethod_builtin ⟨_, ho, rfl⟩ plainAttrs_re slot_re type_re (fun a' q => by cases q; exact ⟨_, ho, rfl⟩) h
end
end
noncomputable abbrev codeN : Array Nat := #[14, 10, 4, 1, 1, 22, 0, 31, 16, 127, 0, 13, 7, 22, 0, 31, 16, 127, 0, 1]
noncomputable def ctlN (u : Nat) : Bool := (0 ≤ u && u ≤ 31) || u == 127
theorem code_names : CodeOk codeN ctlN where
  hdr := ⟨11, rfl⟩
  info := rfl
  flag := rfl
  set5 := fun u seen => by
    have e : Sre.inSet codeN u codeN.size 5 true seen = (if (0 ≤ u && u ≤ 31) = true then .ok (true, seen.add 22) else if (u == 127) = true then .ok (true, (seen.add 22).add 16) else .ok (false, ((seen.add 22).add 16).add 0)) := rfl
    rw [e]
    unfold ctlN
    by_cases h1 : (0 ≤ u && u ≤ 31) = true
    · exact ⟨_, by rw [if_pos h1, h1]; rfl⟩
    · rw [if_neg h1]
      have h1' : (0 ≤ u && u ≤ 31) = false := by simpa using h1
      by_cases h2 : (u == 127) = true
      · exact ⟨_, by rw [if_pos h2, h1', h2]; rfl⟩
      · have h2' : (u == 127) = false := by simpa using h2
        exact ⟨_, by rw [if_neg h2, h1', h2']; rfl⟩
noncomputable abbrev codeC (w0 w1 w2 w3 w4 w5 w6 w7 : Nat) : Array Nat := #[14, 14, 4, 1, 1, 9, w0, w1, w2, w3, w4, w5, w6, w7, 0, 13, 11, 9, w0, w1, w2, w3, w4, w5, w6, w7, 0, 1]
noncomputable def inWords (w0 w1 w2 w3 w4 w5 w6 w7 u : Nat) : Bool := u < 256 && ((codeC w0 w1 w2 w3 w4 w5 w6 w7).getD (5 + (1 + u / 32)) 0).testBit (u % 32)
theorem code_words (w0 w1 w2 w3 w4 w5 w6 w7 : Nat) : CodeOk (codeC w0 w1 w2 w3 w4 w5 w6 w7) (inWords w0 w1 w2 w3 w4 w5 w6 w7) where
  hdr := ⟨15, rfl⟩
  info := rfl
  flag := rfl
  set5 := fun u seen => by
    have e : Sre.inSet (codeC w0 w1 w2 w3 w4 w5 w6 w7) u (codeC w0 w1 w2 w3 w4 w5 w6 w7).size 5 true seen = (if inWords w0 w1 w2 w3 w4 w5 w6 w7 u = true then .ok (true, seen.add 9) else .ok (false, (seen.add 9).add 0)) := rfl
    rw [e]
    cases inWords w0 w1 w2 w3 w4 w5 w6 w7 u with
    | true => exact ⟨_, rfl⟩
    | false => exact ⟨_, rfl⟩
theorem slot_ci_next : Slot "callable_iterator" "__next__" "callable_iterator.__next__" :=
  .of (owner := "callable_iterator") (n := "__next__") (by rw [typeLookup_type, builtinLookup_eq_fast]; kernel_rfl) (by decide +kernel) (by decide +kernel) (by decide +kernel)
    (by first | exact .inl (by decide +kernel) | exact .inr (by decide +kernel)) (by rw [isSubtype_type]; kernel_rfl)
theorem slot_ci_iter : Slot "callable_iterator" "__iter__" "callable_iterator.__iter__" :=
  .of (owner := "callable_iterator") (n := "__iter__") (by rw [typeLookup_type, builtinLookup_eq_fast]; kernel_rfl) (by decide +kernel) (by decide +kernel) (by decide +kernel)
    (by first | exact .inl (by decide +kernel) | exact .inr (by decide +kernel)) (by rw [isSubtype_type]; kernel_rfl)
theorem entry_ci_next : entryFor table "callable_iterator.__next__" = some Builtin.«callable_iterator.__next__» := entryFor_of_tree (by kernel_rfl)
theorem entry_ci_iter : entryFor table "callable_iterator.__iter__" = some Builtin.«dict_keyiterator.__iter__» :=
  entryFor_alias (id' := "dict_keyiterator.__iter__") (by kernel_rfl) rfl (by decide +kernel) (by kernel_rfl)
theorem args_ci_next (a : Value) : argsOk "callable_iterator.__next__" ⟨[a], []⟩ := by unfold argsOk; kernel_rfl
theorem args_ci_iter (a : Value) : argsOk "callable_iterator.__iter__" ⟨[a], []⟩ := by unfold argsOk; kernel_rfl
theorem entry_iter : entryFor table "iter" = some Builtin.«iter» := entryFor_of_tree (by kernel_rfl)
theorem plain_iter : plainId "iter" = true := by decide +kernel
theorem check_iter (a b : Value) : checkBuiltinCall "iter" ⟨[a, b], []⟩ = pure () := by kernel_rfl
theorem look_method_call : typeLookup (.type "method") "__call__" = pure (some (.builtin "method.__call__")) := by rw [typeLookup_type, builtinLookup_eq_fast]; kernel_rfl
theorem wpAny_callBorrowed {M : Model} {A : Around} {E : Value → Shared → Prop} {s : Shared} {f : Value} {pos : List Value} {Q : Value → Shared → Prop}
    (hc : codeAny M A (.call f ⟨pos, []⟩) (fun r s' => match r with | .ok (.ret v) => Q v s' | .ok _ => False | .error e => E e s') s) : wpAny M A (callBorrowed f pos) Q E s := fun Γ p hΓ => by
  unfold callBorrowed
  show wpCode M (Γ.enter (.call f ⟨pos, []⟩) none p) _ p s
  refine wpCode_mono (fun r s' h => ?_) (hc _ p rfl (hΓ.enter _ none p (by intro x; cases x)))
  rcases r with e | (v | _ | _ | _) <;> exact h
theorem codeAny_bound {prog : Program} {w : World} {A : Around} {s : Shared} {b fa : Addr} {x : Value} {a : Args} {R : Result → Shared → Prop} (hb : s.heap.get? b = some { cls := .type "method", data := .fields #[.ref fa, x] })
    (hq : codeAny (model prog w) A (.call (.ref fa) { a with pos := x :: a.pos }) R s) : codeAny (model prog w) A (.call (.ref b) a) R s := by
  refine codeAny_of_tree ?_
  show wpAny _ A.in1 (callAny (.ref b) a) _ _ _
  unfold callAny
  refine wpAny_bind (wpAny_load hb ?_)
  exact wpAny_pure ⟨rfl, hq⟩
theorem wpAny_borrows {M : Model} {A : Around} {E : Value → Shared → Prop} {s : Shared} {b fa : Addr} {x : Value} {of : Obj} {fd : FuncData} {Q : Bool → Shared → Prop} (hb : s.heap.get? b = some { cls := .type "method", data := .fields #[.ref fa, x] })
    (hf : s.heap.get? fa = some of) (hd : of.data = .func fd) (h : Q true s) : wpAny M A (borrowsExactly (.ref b)) Q E s := by
  unfold borrowsExactly
  refine wpAny_bind (wpAny_load hb ?_)
  show wpAny _ _ (load fa >>= _) _ _ _
  refine wpAny_bind (wpAny_load hf ?_)
  rw [hd]
  exact wpAny_pure h
theorem wpAny_slotLetsGo {M : Model} {A : Around} {E : Value → Shared → Prop} {s : Shared} {who : String} {busy : Code → Bool} {b fa : Addr} {x : Value} {of : Obj} {fd : FuncData} {Q : Unit → Shared → Prop} (hb : s.heap.get? b = some { cls := .type "method", data := .fields #[.ref fa, x] })
    (hf : s.heap.get? fa = some of) (hd : of.data = .func fd) (h : Q () s) : wpAny M A (slotLetsGo who (.ref b) busy) Q E s := by
  unfold slotLetsGo
  refine wpAny_bind (wpAny_borrows hb hf hd ?_)
  exact wpAny_pure h
theorem wpAny_stopIteration {prog : Program} {w : World} {A : Around} {α : Type} {s : Shared} {E : Value → Shared → Prop} {Q : α → Shared → Prop} (hh : A.handled = none)
    (h : ∀ e h', (∀ a o, s.heap.get? a = some o → h'.get? a = some o) → (∃ o, h'.get? e = some o ∧ o.cls = .type "StopIteration") → E (.ref e) { s with heap := h' }) : wpAny (model prog w) A (Builtin.SmallTypes.stopIteration : Sem α) Q E s := by
  unfold Builtin.SmallTypes.stopIteration
  refine wpAny_bind ?_
  simp only [newExc, newTuple]
  refine wpAny_bind (wpAny_newObj_type ?_ (by size_fits))
  refine wpAny_bind (m := firstArgMember _ _) (wpAny_of_eq (a := Value.none) (by first | rfl | (simp only [firstArgMember]; rfl)) ?_)
  refine wpAny_newObj_type ?_ (by size_fits)
  simp only [raiseNew]
  refine wpAny_bind (wpAny_handled ?_)
  rw [hh]
  refine wpAny_bind (wpAny_pure (wpAny_throw ?_))
  exact h _ _ (fun a o e => Heap.get?_push_of_some _ (Heap.get?_push_of_some _ e)) ⟨_, Heap.get?_push_size _ rfl, rfl⟩
section
variable {c : Ctx0} {b : Nat} {f : FI}
theorem ite_then {α : Type} {p : Prop} [Decidable p] {x : Option α} {y : α} (e : (if p then x else none) = some y) : p ∧ x = some y := by
  by_cases h : p
  · rw [if_pos h] at e; exact ⟨h, e⟩
  · rw [if_neg h] at e; exact (nos e).elim
noncomputable def fnIn (K : Frag) (fa : Addr) : Prop := ∃ of fd, K.lookup fa = some of ∧ of.data = .func fd
theorem RelS.methAt {K : Frag} {ρ : Rho} {st : List AO} {h : Heap} (R : RelS K ρ st h) {j : Nat} {a : Addr} {fv : Value} {self : PV} (e : headAt ρ j = some a) (q : st[j]? = some (.meth fv self)) :
    ∃ u, P3 (h.get? a = some { cls := .type "method", data := .fields #[fv, u] }) (RV h ρ u self) (ρ.ents[j]? = some [a]) := by
  obtain ⟨r, hr⟩ := Yt e
  obtain ⟨a', u, e1, e2, e3⟩ := R.objs j _ _ hr q
  cases e1
  exact ⟨u, e2, e3, hr⟩
theorem RelS.citerAt {K : Frag} {ρ : Rho} {st : List AO} {h : Heap} (R : RelS K ρ st h) {j : Nat} {a : Addr} {m z : PV} (e : headAt ρ j = some a) (q : st[j]? = some (.citer m z)) :
    ∃ u v, P4 (h.get? a = some { cls := .type "callable_iterator", data := .fields #[u, v, .bool false] }) (RV h ρ u m) (RV h ρ v z) (ρ.ents[j]? = some [a]) := by
  obtain ⟨r, hr⟩ := Yt e
  obtain ⟨a', u, v, e1, e2, e3, e4⟩ := R.objs j _ _ hr q
  cases e1
  exact ⟨u, v, e2, e3, e4, hr⟩
noncomputable def nextC (fa : Addr) (G : List PV → SM PV) (p : PV) : SM (Option PV) := fun st => pik fun r => ∃ i j z self x st' w, P7 (p = .ref i) (st[i]? = some (.citer (.ref j) (.str z))) (st[j]? = some (.meth (.ref fa) self)) (G [self] st = some (.str x, st')) (st'[i]? = some (.citer (.ref j) (.str z))) (st'[j]? = some (.meth (.ref fa) w)) (r = if (z == x) = true then (none, st'.set i .cdone) else (some (.str x), st'))
theorem nextC_of {fa : Addr} {G : List PV → SM PV} {st st' : List AO} {i j : Nat} {z x : Str} {self w : PV} {r : Option PV × List AO} (q : st[i]? = some (.citer (.ref j) (.str z))) (qm : st[j]? = some (.meth (.ref fa) self)) (e : G [self] st = some (.str x, st'))
    (q1 : st'[i]? = some (.citer (.ref j) (.str z))) (qm1 : st'[j]? = some (.meth (.ref fa) w)) (h : (if (z == x) = true then (none, st'.set i .cdone) else (some (.str x), st')) = r) : nextC fa G (.ref i) st = some r :=
  pik_of ⟨_, _, _, _, _, _, _, rfl, q, qm, e, q1, qm1, h.symm⟩ fun y q' => by obtain ⟨_, _, _, _, _, _, _, a0, a1, a2, a3, _, _, a6⟩ := q'; cases a0; cases q.symm.trans a1; cases qm.symm.trans a2; cases e.symm.trans a3; exact a6.trans h
theorem get_upd {h : Heap} {a : Addr} {o o' : Obj} {f : Obj → Obj} (e : h.get? a = some o) (hf : f o = o') (nf : o'.isFreed = false := by rfl) : (h.update a f).get? a = some o' := by
  rw [Heap.get?_update_self _ e (by rw [hf]; exact nf), hf]
theorem op_nextC {fa : Addr} {G : List PV → SM PV} (hfn : fnIn c.K fa) (o : FunK c b (.ref fa) 1 [] G) : Op1 c (b + 1) RV RVo pyNext (nextC fa G) := by
  constructor
  intro A hA ρ s st x p y st' e r R
  obtain ⟨i, j, z', self, x, st₁, w', rfl, q, qm, eG, q1, qm1, e'⟩ := Zq e
  clear e
  obtain ⟨a, hd, rfl⟩ := r.inv
  obtain ⟨u, v, h0, ru, rv, he⟩ := R.citerAt hd q
  obtain ⟨m, hm, rfl⟩ := ru.inv
  obtain ⟨tz, rfl⟩ := rv.inv
  obtain ⟨us, hm0, rs, _⟩ := R.methAt hm qm
  obtain ⟨of, fd, hof, hfd⟩ := hfn
  have hof' := R.top _ _ hof
  have hT : s.TypeIs (.ref a) "callable_iterator" := ⟨_, h0, rfl⟩
  unfold pyNext
  refine wpAny_bind (wpAny_attempt (wpAny_callSpecial?_slot (name := Str.ofString "__next__") hT slot_ci_next (wpAny_call_entry slot_ci_next hT entry_ci_next ?_ (args_ci_next _))))
  unfold Builtin.«callable_iterator.__next__»
  show wpAny _ _ (field (.ref a) 2 >>= _) _ _ s
  refine wpAny_bind (wpAny_field h0 rfl (x := .bool false) rfl ?_)
  show wpAny _ _ (field (.ref a) 0 >>= _) _ _ s
  refine wpAny_bind (wpAny_field h0 rfl (x := .ref m) rfl ?_)
  refine wpAny_bind (wpAny_attempt ?_)
  unfold callOutOfASlot
  refine wpAny_bind (wpAny_borrows hm0 hof' hfd ?_)
  rw [if_pos rfl]
  refine wpAny_callBorrowed (codeAny_bound hm0 ?_)
  have hA1 : AOk b A.in1 := ⟨hA.handled, by have := hA.depth; show A.depth + 2 * b ≤ 900; omega, by have := hA.units; show A.units + 1 + 20 * b ≤ 9000; omega⟩
  refine codeAny_mono (o.code (hA1.le (Nat.le_refl _)) eG (.cons rs .nil) R) fun r s₁ z => ?_
  rcases r with e | (v | _ | _ | _) <;> first | exact z.elim | skip
  obtain ⟨ρ₁, S₁, g₁, sm₁, rx⟩ := z
  obtain ⟨tx, rfl⟩ := rx.inv
  have hd1 : headAt ρ₁ i = some a := headAt_prefix g₁.pre hd
  obtain ⟨u', v', h1, ru1, rv1, he1⟩ := S₁.citerAt hd1 q1
  obtain ⟨m1, hm1, rfl⟩ := ru1.inv
  obtain ⟨tz1, rfl⟩ := rv1.inv
  obtain ⟨us1, hm10, _, _⟩ := S₁.methAt hm1 qm1
  have hof1 := S₁.top _ _ hof
  refine wpAny_bind (wpAny_field h1 rfl (x := .bool false) rfl ?_)
  refine wpAny_bind (wpAny_field h1 rfl (x := .str z' tz1) rfl ?_)
  refine wpAny_bind (wpAny_holding (eqBool_str ?_))
  cases hzx : z' == x with
  | false =>
    rw [hzx, if_neg (by decide)] at e'
    cases e'
    exact wpAny_pure ⟨_, rfl, wpAny_pure ⟨ρ₁, S₁, g₁, sm₁, .some (.str _ _)⟩⟩
  | true =>
    rw [hzx, if_pos rfl] at e'
    cases e'
    refine wpAny_bind (wpAny_rule ?_)
    show wpAny _ _ ((field (.ref a) 0 >>= fun v => slotLetsGo _ v _ >>= fun _ => setField (.ref a) 0 .none >>= fun _ => setField (.ref a) 1 .none >>= fun _ => setField (.ref a) 2 (.bool true)) >>= _) _ _ _
    refine wpAny_bind (wpAny_bind (wpAny_field h1 rfl (x := .ref m1) rfl ?_))
    refine wpAny_bind (wpAny_slotLetsGo hm10 hof1 hfd ?_)
    refine wpAny_bind (wpAny_setField h1 rfl (by simp) ?_)
    have h2 := get_upd (f := Obj.mapFields (·.setIfInBounds 0 .none)) h1 rfl
    refine wpAny_bind (wpAny_setField h2 rfl (by simp) ?_)
    have h3 := get_upd (f := Obj.mapFields (·.setIfInBounds 1 .none)) h2 rfl
    refine wpAny_setField h3 rfl (by simp) ?_
    have h4 := get_upd (f := Obj.mapFields (·.setIfInBounds 2 (.bool true))) h3 rfl
    have hs : ∀ b o, s₁.heap.get? b = some o → b ≠ a → (((s₁.heap.update a (Obj.mapFields (·.setIfInBounds 0 .none))).update a (Obj.mapFields (·.setIfInBounds 1 .none))).update a (Obj.mapFields (·.setIfInBounds 2 (.bool true)))).get? b = some o := fun b o e nb =>
      (((Heap.SameBut.update ..).2 b nb).trans (((Heap.SameBut.update ..).2 b nb).trans ((Heap.SameBut.update ..).2 b nb))).trans e
    refine wpAny_stopIteration hA.handled fun ev h' hk he => ?_
    obtain ⟨oe, hoe, hoc⟩ := he
    refine wpAny_bind (wpAny_isInstance (T := "StopIteration") (b := true) ⟨_, hoe, hoc⟩ isSubtype_stop ?_)
    obtain ⟨S₂, g₂⟩ := S₁.put (i := i) (ao' := .cdone) (h' := h') he1 (fun b o e nb => hk b o (hs b o e (by simpa using nb))) (fun b m => by rw [List.mem_singleton.mp m]; exact ⟨_, hk _ _ h4⟩) fun _ => ⟨a, _, _, rfl, hk _ _ h4⟩
    exact wpAny_pure ⟨ρ₁, S₂, g₁.trans g₂, sm₁.trans ⟨rfl, rfl, rfl⟩, .none⟩
noncomputable def iterG (ps : List PV) : SM PV := fun st => pik fun r => ∃ j z fa self, P3 (ps = [.ref j, z]) (st[j]? = some (.meth (.ref fa) self)) (r = (.ref st.length, st ++ [.citer (.ref j) z]))
theorem iter_get {st : List AO} {j : Nat} {z self : PV} {fa : Addr} (h : st[j]? = some (.meth (.ref fa) self)) : iterG [.ref j, z] st = some (.ref st.length, st ++ [.citer (.ref j) z]) :=
  pik_of ⟨_, _, _, _, rfl, h, rfl⟩ fun z q' => by obtain ⟨_, _, _, _, e, _, e'⟩ := q'; cases e; exact e'
theorem op_iter : OpL c b (fun vs => call (.builtin "iter") vs) iterG := by
  constructor
  intro A hA ρ s st vs ps y st' e r R
  obtain ⟨j, z, fa, self, rfl, q, e'⟩ := Zq e
  clear e; cases e'
  obtain ⟨v, u, rfl, r1, r2⟩ := rvs2 r
  cases r1 with | @ref m _ hd => ?_
  obtain ⟨us, hm0, rs, _⟩ := R.methAt hd q
  have hT : s.TypeIs (.ref m) "method" := ⟨_, hm0, rfl⟩
  refine wpAny_call (codeAny_call_builtin plain_iter entry_iter (wpAny_of_eq (check_iter _ _) ?_))
  unfold Builtin.«iter»
  refine wpAny_bind (m := someArgs "iter" 1 2 ⟨[.ref m, u], []⟩) (wpAny_of_eq (a := [.ref m, u]) rfl ?_)
  refine wpAny_bind (wpAny_specialOf hT look_method_call ?_)
  refine wpAny_bind (wpAny_rule ?_)
  refine wpAny_bind (wpAny_newObj_type (wpAny_pure ?_))
  have k : ∀ a o, s.heap.get? a = some o → (s.heap.push { cls := .type "callable_iterator", data := .fields [.ref m, u, .bool false].toArray }).get? a = some o := fun a o e => Heap.get?_push_of_some _ e
  have hget : (s.heap.push { cls := .type "callable_iterator", data := .fields [.ref m, u, .bool false].toArray }).get? s.heap.objs.size = some { cls := .type "callable_iterator", data := .fields #[.ref m, u, .bool false] } := Heap.get?_push_size _ rfl
  obtain ⟨S, g⟩ := R.push (as := [s.heap.objs.size]) (ao := .citer (.ref j) z) k (fun a m => by rw [List.mem_singleton.mp m]; exact get_ge (Nat.le_refl _)) (fun a m => by rw [List.mem_singleton.mp m]; exact ⟨_, hget⟩) (List.nodup_cons.mpr ⟨by simp, List.nodup_nil⟩)
    fun g => ⟨_, _, _, rfl, hget, (RV.ref hd).grow g noFr, r2.grow g noFr⟩
  exact ⟨_, S, g, ⟨rfl, rfl, rfl⟩, .ref (by rw [← R.len]; exact headAt_push)⟩
noncomputable def isCiter (st : List AO) (p : PV) : Bool := pikB (∃ j m z, p = .ref j ∧ st[j]? = some (.citer m z))
noncomputable def stepE (n : Nat) (N : SM (Option PV)) (S : PV → FM Unit) (B : FM PF) : FM PF := match n with
  | 0 => failE
  | n + 1 => bindE (liftS N) fun o => match o with
    | none => pureE .next
    | some x => bindE (S x) fun _ => bindE B (loopK (stepE n N S B))
theorem citer_self {A : Around} {ρ : Rho} {st : List AO} {s : Shared} {v : Value} {p : PV} {E : Value → Shared → Prop} {Q : Value → Shared → Prop} (R : RelS c.K ρ st s.heap) (r : RV s.heap ρ v p) (h : isCiter st p = true) (q : Q v s) : wpAny (model c.prog c.w) A (pyIter v) Q E s := by
  obtain ⟨j, m, z, rfl, e⟩ := pikB_inv h
  obtain ⟨a, hd, rfl⟩ := r.inv
  have hT : s.TypeIs (.ref a) "callable_iterator" := by obtain ⟨u, v, h0, _⟩ := R.citerAt hd e; exact ⟨_, h0, rfl⟩
  refine wpAny_pyIter_slot hT slot_ci_iter (wpAny_call_entry slot_ci_iter hT entry_ci_iter ?_ (args_ci_iter _))
  show wpAny _ _ (ret (.ref a)) _ _ s
  exact wpAny_pure ⟨_, rfl, "callable_iterator", _, hT, slot_ci_next.lookup, q⟩
theorem den_for_step {x : Str} {px ps : Pos} {iter : Expr} {body : List Stmt} {I : FM PV} {G : PV → SM (Option PV)} {S : PV → FM Unit} {B : FM PF} {N : Nat}
    (di : Den c b f RV (eval iter f.env) I) (dn : Op1 c b RV RVo pyNext G) (ds : DenA c b f (.Name x px) S) (db : Den c b f RFl (execs body f.env) B)
    (hs : ∀ x, foldedSetIterable iter f.env x = pure x := by intro _; rfl) : Den c b f RFl (exec (.For (.Name x px) iter body [] ps) f.env) (bindE I fun p => guardE (fun st => isCiter st p) (stepE N (G p) S B)) := by
  constructor
  intro A hA ρ s es y es' e R
  obtain ⟨p, es₁, e1, e⟩ := Zd e
  obtain ⟨hc, e⟩ := guardE_some e
  refine wpAny_For (wpAny_mono (di.run A hA ρ s es p es₁ e1 R) (fun v s₁ z => ?_) fun _ _ z => z) hs
  obtain ⟨ρ₁, R₁, g₁, q₁, r₁⟩ := z
  refine citer_self R₁.s r₁ hc ?_
  refine codeAny_forLoop_any (R := fun r s' => match r with | .ok fl => Ends c.K f RFl ρ s y es' fl s' | .error e => cameBackBy _ A f.env noE e s')
    (fun n s₂ => ∃ ρ₂ es₂, P4 (stepE n (G p) S B es₂ = some (y, es')) (RelF c.K f ρ₂ es₂ s₂.heap) (Grow f.fr ρ₁ s₁.heap ρ₂ s₂.heap) (Same s₁ s₂)) ?_ N ⟨ρ₁, es₁, e, R₁, .refl, .refl⟩
  rintro n s₂ ⟨ρ₂, es₂, e2, R₂, g₂, q₂⟩
  cases n with
  | zero => exact (nos e2).elim
  | succ n =>
    obtain ⟨o, es₃, e3, e4⟩ := Zd e2
    obtain ⟨st₃, e3', rfl⟩ := Z2 e3
    refine wpAny_mono (dn.run A hA ρ₂ s₂ es₂.st v p o st₃ e3' (r₁.grow g₂ R₁.like) R₂.s) (fun u s₃ z => ?_) fun _ _ z => z.elim
    obtain ⟨ρ₃, S₃, g₃, q₃, ru⟩ := z
    have R₃ := R₂.ofS S₃ g₃
    have g13 := g₂.trans (g₃.wider (fr' := f.fr) (by simp))
    have q13 := q₂.trans q₃
    cases ru with
    | none => obtain ⟨rfl, rfl⟩ := spr e4; exact wpAny_execs_nil ⟨ρ₃, R₃, g₁.trans g13, q₁.trans q13, .next⟩
    | some ru =>
      obtain ⟨_, es₄, e5, e6⟩ := Zd e4
      obtain ⟨fl, es₅, e7, e8⟩ := Zd e6
      refine (show wpAny (model c.prog c.w) A (letOwnedTupleGo (.Name x px) v _) _ _ _ from wpAny_pure ?_)
      refine wpAny_mono (ds.run A hA ρ₃ s₃ _ _ _ () es₄ e5 ru R₃) (fun _ s₄ z => ?_) fun _ _ z => z.elim
      obtain ⟨ρ₄, R₄, g₄, q₄, _⟩ := z
      refine wpAny_mono (db.run A hA ρ₄ s₄ es₄ fl es₅ e7 R₄) (fun flv s₅ z => ?_) fun _ _ z => z.elim
      obtain ⟨ρ₅, R₅, g₅, q₅, rf⟩ := z
      have gg := g13.trans (g₄.trans g₅)
      have qq := q13.trans (q₄.trans q₅)
      cases rf with
      | next => exact ⟨n, Nat.lt_succ_self _, ρ₅, es₅, e8, R₅, gg, qq⟩
      | cont => exact ⟨n, Nat.lt_succ_self _, ρ₅, es₅, e8, R₅, gg, qq⟩
      | brk => obtain ⟨rfl, rfl⟩ := spr e8; exact ⟨ρ₅, R₅, g₁.trans gg, q₁.trans qq, .next⟩
      | ret r => obtain ⟨rfl, rfl⟩ := spr e8; exact ⟨ρ₅, R₅, g₁.trans gg, q₁.trans qq, .ret r⟩
end
section
variable {c : Ctx0} {b : Nat} {f : FI}
noncomputable def bindOk (K : Frag) (C : Addr) (name : Str) (fa : Addr) : Bool := findIn K (.ref C) "__getattribute__" == some (some (.builtin "object.__getattribute__")) && findIn K (.ref C) "__getattr__" == some none && findIn K (.ref C) name == some (some (.ref fa)) && specialIn K (.ref fa) "__get__" == some (some (.builtin "function.__get__")) && takesIn K (.ref fa) == some false && typeIn K (.ref fa) == some (.type "function") && (clsIn K C).isSome && !copiedNames.contains name
noncomputable def getB (C : Addr) (name : Str) (fa : Addr) (p : PV) : SM PV := fun st => pik fun r => ∃ i kvs, P4 (p = .ref i) (instOf st (.ref i) = some (C, kvs)) (kvGet kvs name = none) (r = (.ref st.length, st ++ [.meth (.ref fa) (.ref i)]))
theorem getB_of' {C : Addr} {name : Str} {fa : Addr} {st : List AO} {i : Nat} {kvs : List (Str × PV)} (h : instOf st (.ref i) = some (C, kvs)) (hn : kvGet kvs name = none) : getB C name fa (.ref i) st = some (.ref st.length, st ++ [.meth (.ref fa) (.ref i)]) :=
  pik_of ⟨_, _, rfl, h, hn, rfl⟩ fun z q' => by obtain ⟨_, _, e, _, _, r⟩ := q'; cases e; exact r
theorem op_getB {C fa : Addr} {name : Str} {expr : Bool} (hk : bindOk c.K C name fa = true) : Op1 c b RV RV (fun o => getAttr o name expr) (getB C name fa) := by
  constructor
  intro A hA ρ s st x z y st' e r R
  obtain ⟨i, kvs, rfl, hi, hn, e'⟩ := Zq e
  clear e; cases e'
  obtain ⟨i', a, d, es, n, ox, e1, rfl, hr, I, hd, hD, er⟩ := R.instAt r hi
  cases e1
  simp only [bindOk, Bool.and_eq_true, beq_iff_eq, Bool.not_eq_true', Option.isSome_iff_exists] at hk
  obtain ⟨⟨⟨⟨⟨⟨⟨h1, h2⟩, h3⟩, h4⟩, h5⟩, h6⟩, ⟨cd, h7⟩⟩, h8⟩ := hk
  have hf : findObj c.K C (some (W.dictOf es n)) name = some (.bind (.builtin "function.__get__") (.ref fa)) := by
    unfold findObj
    rw [h7, h3]
    simp only [Option.bind_some]
    rw [h4]
    simp only [Option.bind_some]
    rw [h5]
    simp only [Option.bind_some]
    have : W.ownOf cd (some (W.dictOf es n)) name = some none := by
      unfold W.ownOf
      split
      · show lookIn name (W.dictOf es n) = some none
        rw [lookIn_dict, ents_none er hn]
      · rfl
    rw [this]
    simp only [Option.bind_some]
    rw [h8]
    rfl
  refine get_bind R.top I h1 hf h2 (wpAny_call (fn_get R.top h6 ?_))
  refine wpAny_of_eq (handedOut_of rfl) ?_
  have k : ∀ b o, s.heap.get? b = some o → (s.heap.push (methodObj (.ref fa) (.ref a))).get? b = some o := fun b o e => Heap.get?_push_of_some _ e
  have hget : (s.heap.push (methodObj (.ref fa) (.ref a))).get? s.heap.objs.size = some (methodObj (.ref fa) (.ref a)) := Heap.get?_push_size _ rfl
  obtain ⟨S, g⟩ := R.push (as := [s.heap.objs.size]) (ao := .meth (.ref fa) (.ref i)) k (fun a m => by rw [List.mem_singleton.mp m]; exact get_ge (Nat.le_refl _)) (fun a m => by rw [List.mem_singleton.mp m]; exact ⟨_, hget⟩) (List.nodup_cons.mpr ⟨by simp, List.nodup_nil⟩)
    fun g => ⟨_, _, rfl, hget, r.grow g noFr⟩
  exact ⟨_, S, g, ⟨rfl, rfl, rfl⟩, .ref (by rw [← R.len]; exact headAt_push)⟩
theorem den_attr_meth {o : Expr} {name : Str} {pos : Pos} {F : FM PV} {C fa : Addr} (d : Den c b f RV (eval o f.env) F) (hk : bindOk c.K C name fa = true) (hb : notSuper o = true := by rfl) :
    Den c b f RV (eval (.Attribute o name pos) f.env) (bindE F fun p => liftS (getB C name fa p)) := by
  constructor
  intro A hA ρ s es y es' e R
  obtain ⟨p, es₁, e1, e⟩ := Zd e
  rw [arm_eval_Attribute, Ym hb]
  refine wpAny_bind (wpAny_mono (d.run A hA ρ s es p es₁ e1 R) (fun v s₁ z => ?_) fun _ _ z => z)
  obtain ⟨ρ₁, R₁, g₁, q₁, r₁⟩ := z
  refine wpAny_bind (wpAny_standAt (wpAny_bind (wpAny_holding (wpAny_mono ((Op1.k (op_getB hk)).run A hA ρ₁ s₁ es₁ v p y es' e r₁ R₁) (fun u s₂ z => ?_) fun _ _ z => z))))
  exact wpAny_bind (wpAny_letTemporaryGo (wpAny_pure (z.after g₁ q₁)))
noncomputable def ownMethOk (K : Frag) (C : Addr) (name : Str) : Bool := attrOk K C name && findIn K (.ref C) "__getattr__" == some none
noncomputable def ownClo (K : Frag) (C : Addr) (name : Str) (p : PV) (st : List AO) : Option PV := pik fun q => ∃ kvs i, P3 (instOf st p = some (C, kvs)) (kvGet kvs name = some (.ref i)) (q = .ref i)
theorem ownClo_of {K : Frag} {C : Addr} {name : Str} {p : PV} {st : List AO} {kvs : List (Str × PV)} {i : Nat} (h : instOf st p = some (C, kvs)) (hk : kvGet kvs name = some (.ref i)) : ownClo K C name p st = some (.ref i) :=
  pik_of ⟨_, _, h, hk, rfl⟩ fun z q' => by obtain ⟨_, _, e, e', r⟩ := q'; cases h.symm.trans e; cases hk.symm.trans e'; exact r
noncomputable def isClo (p : PV) (st : List AO) : Bool := pikB (∃ i tm names vals, p = .ref i ∧ st[i]? = some (.clo tm names vals))
theorem getMethod_own {A : Around} {pl : Sem Bool} {C : Addr} {name : Str} {ρ : Rho} {s : Shared} {st : List AO} {v : Value} {p q : PV} {Q : Value × List Value → Shared → Prop} {E : Value → Shared → Prop} (hk : ownMethOk c.K C name = true) (e : ownClo c.K C name p st = some q) (r : RV s.heap ρ v p) (R : RelS c.K ρ st s.heap)
    (h : ∀ u, RV s.heap ρ u q → Q (u, []) { s with toks := s.toks + 1 }) : wpAny (model c.prog c.w) A (getMethod v name pl) Q E s := by
  obtain ⟨kvs, i, hi, hq, rfl⟩ := Zq e
  obtain ⟨i', a, d, es, n, ox, e1, rfl, hr, I, hd, hD, er⟩ := R.instAt r hi
  obtain ⟨u, hu, ru⟩ := ents_get er hq
  simp only [ownMethOk, attrOk, Bool.and_eq_true, beq_iff_eq] at hk
  obtain ⟨⟨⟨h1, h2⟩, h3⟩, h4⟩ := hk
  obtain ⟨cd, hc, hcd⟩ := any_some h1
  have hf : findObj c.K C (some (W.dictOf es n)) name = some (.value u) := by
    unfold findObj
    rw [hc, h3]
    simp only [Option.bind_some]
    unfold W.ownOf
    rw [if_pos hcd]
    show ((lookIn name (W.dictOf es n)).bind _) = _
    rw [lookIn_dict, hu]
    rfl
  unfold getMethod specialOf
  refine wpAny_bind (wpAny_bind (I.type.here ((looks_findIn R.top h2).here ?_)))
  dsimp only
  rw [PySem.F.canon_object_ga, if_neg (by decide)]
  refine wpAny_bind (wpAny_bind (I.type.here ((looks_findIn R.top h4).here ?_)))
  refine wpAny_bind (wpAny_bind (I.type.here ((looks_findIn R.top h3).here ?_)))
  show wpAny _ _ (getAttr (.ref a) name >>= _) _ _ _
  exact wpAny_bind (get_value R.top I h2 hf (handed_of ru rfl) (wpAny_pure (h u ru)))
structure OpV (c : Ctx0) (b : Nat) (G : PV → List PV → SM PV) : Prop where
  run : ∀ A, AOk b A → ∀ ρ s st v p vs ps y st', G p ps st = some (y, st') → RV s.heap ρ v p → RVs s.heap ρ vs ps → RelS c.K ρ st s.heap → wpAny (model c.prog c.w) A (call v vs) (EndsS c.K RV ρ s y st') noE s
theorem isClo_obj {ρ : Rho} {st : List AO} {h : Heap} {v : Value} {p : PV} (R : RelS c.K ρ st h) (r : RV h ρ v p) (e : isClo p st = true) : ∃ a o fd, P3 (v = .ref a) (h.get? a = some o) (o.data = .func fd) := by
  obtain ⟨i, tm, names, vals, rfl, q⟩ := pikB_inv e
  obtain ⟨a, hd, rfl⟩ := r.inv
  obtain ⟨r, hr⟩ := Yt hd
  obtain ⟨f, cs, e1, _, ⟨T, c', oc, vc, qq, x1, _⟩, _⟩ := R.objs i _ _ hr q
  cases e1
  exact ⟨_, _, _, rfl, x1, rfl⟩
theorem den_method_own {o : Expr} {name : Str} {apos pos : Pos} {args : List Expr} {C : Addr} {FO : FM PV} {FA : FM (List PV)} {G : PV → List PV → SM PV}
    (dO : Den c b f RV (eval o f.env) FO) (hk : ownMethOk c.K C name = true) (da : DenArgs c b f pos args FA) (op : OpV c b G)
    (hbase : notSuper o = true := by rfl) (hline : (apos.endLine == pos.line) = true := by rfl) (ha : (args.all Yd && decide (args.length < 29)) = true := by rfl) :
    Den c b f RV (eval (.Call (.Attribute o name apos) args [] pos) f.env) (bindE FO fun p => bindE (fun es => (ownClo c.K C name p es.st).map fun q => (q, es)) fun q => bindE FA fun ps => guardE (isClo q) (liftS (G q ps))) := by
  constructor
  intro A hA ρ s es y es' e R
  obtain ⟨p, es₁, e1, e⟩ := Zd e
  obtain ⟨q, es₁', e2, e⟩ := Zd e
  obtain ⟨q', hq, e2⟩ := Option.map_eq_some_iff.mp e2
  cases e2
  obtain ⟨ps, es₂, e3, e⟩ := Zd e
  obtain ⟨hcl, e⟩ := guardE_some e
  obtain ⟨st', e4, rfl⟩ := Z2 e
  rw [Bool.and_eq_true] at ha
  have hst := Yw (env := f.env) (pos := pos) ha.1
  have hlen : args.length < 29 := by simpa using ha.2
  have hfew : methodCallForm (args.length + ([] : List Keyword).length) (backTo pos (starEach args f.env)) (backToKw pos (keywordEach [] f.env)) = true := by
    unfold methodCallForm
    rw [hst]
    show (true && true && decide (args.length + 0 + 0 < 30)) = true
    simp; omega
  rw [arm_eval_Call, Ym hbase]
  refine wpAny_bind (wpAny_mono (dO.run A hA ρ s es p es₁ e1 R) (fun v s₁ z => ?_) fun _ _ z => z)
  obtain ⟨ρ₁, R₁, g₁, q₁, r₁⟩ := z
  refine wpAny_bind (wpAny_standAt ?_)
  have hpos : methodCallPos true o f.env apos pos = pure pos := by unfold methodCallPos; simp [hline]
  unfold methodCall
  rw [hfew]
  refine wpAny_bind (wpAny_holding (getMethod_own hk hq r₁ R₁.s fun u ru => ?_))
  refine wpAny_bind (wpAny_of_eq hpos ?_)
  have RT : RelF c.K f ρ₁ es₁ ({ s₁ with toks := s₁.toks + 1 } : Shared).heap := R₁
  refine callWith_of (P := fun h => ∃ a o fd, P3 (u = .ref a) (h.get? a = some o) (o.data = .func fd)) ?_ (fun h hP => ?_) (Yk hst (wpAny_mono (da.run A hA ρ₁ _ es₁ ps es₂ e3 RT) (fun vs s₂ z => ?_) fun _ _ z => z))
  · rw [show (backToKw pos (keywordEach [] f.env)) = [] from rfl, List.any_nil, Bool.or_false, List.any_eq_not_all_not, Bool.not_eq_false']
    simpa using hst
  · obtain ⟨a, o, fd, rfl, ho, hd⟩ := hP
    refine ⟨.frame, .inl rfl, fun A Q E s k q => ?_⟩
    unfold keeperOf
    refine wpAny_bind (wpAny_load (k _ _ ho) ?_)
    rw [hd]
    exact wpAny_pure q
  · obtain ⟨ρ₂, R₂, g₂, q₂, r₂⟩ := z
    have ru2 := ru.grow g₂ R₁.like
    refine ⟨isClo_obj R₂.s ru2 hcl, wpAny_mono (op.run A hA ρ₂ s₂ es₂.st u q vs ps y st' e4 ru2 r₂ R₂.s) (fun _ _ z => ?_) fun _ _ z => z⟩
    have := (z.toF R₂).after g₂ q₂
    exact this.tk.after g₁ ⟨q₁.1, q₁.2.1, q₁.2.2⟩
end
theorem flatten_set {α : Type} {l : List (List α)} {i : Nat} {as bs : List α} (e : l[i]? = some as) : ∃ p q, l.flatten = p ++ (as ++ q) ∧ (l.set i bs).flatten = p ++ (bs ++ q) := by
  induction l generalizing i with
  | nil => exact (nos e).elim
  | cons x l ih =>
    cases i with
    | zero => obtain rfl := Option.some.inj e; exact ⟨[], l.flatten, by simp, by simp⟩
    | succ i =>
      obtain ⟨p, q, h1, h2⟩ := ih (i := i) (by simpa using e)
      exact ⟨x ++ p, q, by simp [h1], by simp [h2]⟩
section
variable {K : Frag} {ρ ρ' : Rho} {st st' : List AO} {h : Heap}
theorem RelS.rearr (R : RelS K ρ st h) (len : ρ'.ents.length = st'.length) (perm : ρ'.own.Perm ρ.own) (head : ∀ i a, headAt ρ i = some a → headAt ρ' i = some a)
    (objs : Carry h ρ h ρ' → ∀ (i : Nat) (as : List Addr) (ao : AO), ρ'.ents[i]? = some as → st'[i]? = some ao → RO h ρ' as ao) : RelS K ρ' st' h ∧ Carry h ρ h ρ' := by
  have g : Carry h ρ h ρ' := ⟨fun a o e na => ⟨e, fun m => na (perm.mem_iff.mp m)⟩, head⟩
  exact ⟨⟨len, objs g, perm.nodup_iff.mpr R.nodup, fun a m => R.apart a (perm.mem_iff.mp m), R.top, R.nolim⟩, g⟩
noncomputable def Rho.open1 (ρ : Rho) (i : Nat) (f : Addr) (cs : List Addr) : Rho := ⟨ρ.ents.set i [f], cs ++ ρ.rsv⟩
theorem headAt_set {l : List (List Addr)} {r r' : List Addr} {i j : Nat} {f a : Addr} {as bs : List Addr} (e : l[i]? = some (f :: as)) : headAt ⟨l.set i (f :: bs), r⟩ j = some a ↔ headAt ⟨l, r'⟩ j = some a := by
  unfold headAt
  have hi : i < l.length := (List.getElem?_eq_some_iff.mp e).1
  by_cases q : i = j
  · subst q
    show (match (l.set i (f :: bs))[i]? with | some (a :: _) => some a | _ => none) = _ ↔ (match l[i]? with | some (a :: _) => some a | _ => none) = _
    rw [List.getElem?_set_self hi, e]
  · show (match (l.set i (f :: bs))[j]? with | some (a :: _) => some a | _ => none) = _ ↔ (match l[j]? with | some (a :: _) => some a | _ => none) = _
    rw [List.getElem?_set_ne q]
theorem perm_open {i : Nat} {f : Addr} {cs : List Addr} (e : ρ.ents[i]? = some (f :: cs)) : (ρ.open1 i f cs).own.Perm ρ.own := by
  obtain ⟨p, q, h1, h2⟩ := flatten_set (bs := [f]) e
  show ((ρ.ents.set i [f]).flatten ++ (cs ++ ρ.rsv)).Perm (ρ.ents.flatten ++ ρ.rsv)
  rw [h1, h2]
  simp only [List.append_assoc, List.cons_append, List.nil_append]
  refine List.Perm.append_left _ (List.Perm.cons _ ?_)
  rw [← List.append_assoc, ← List.append_assoc]
  exact List.Perm.append_right _ List.perm_append_comm
theorem RelS.openClo (R : RelS K ρ st h) {i : Nat} {f : Addr} {tm : FuncData} {names : List Str} {vals : List (Option PV)} (hd : headAt ρ i = some f) (q : st[i]? = some (.clo tm names vals)) :
    ∃ cs, ρ.ents[i]? = some (f :: cs) ∧ (cs.length = names.length ∧ vals.length = names.length) ∧ FnObj h ρ f tm (names.zip cs) ∧ RelS K (ρ.open1 i f cs) (st.set i (.fn tm (names.zip cs))) h ∧ Carry h ρ h (ρ.open1 i f cs) ∧
      ∀ (j : Nat) (d : Addr), cs[j]? = some d → ∃ u, h.IsCell d u ∧ RVo h (ρ.open1 i f cs) u ((vals[j]?).join) := by
  obtain ⟨cs, hr⟩ := Yt hd
  obtain ⟨f', cs', e1, l, x, y⟩ := R.objs i _ _ hr q
  cases e1
  have hi : i < ρ.ents.length := (List.getElem?_eq_some_iff.mp hr).1
  obtain ⟨S, g⟩ := R.rearr (ρ' := ρ.open1 i f cs) (st' := st.set i (.fn tm (names.zip cs))) (by show (ρ.ents.set i [f]).length = _; rw [List.length_set, List.length_set, R.len]) (perm_open hr)
    (fun j a e => (headAt_set (as := cs) (bs := []) hr).mpr e) fun g j as ao e e' => by
      by_cases hj : i = j
      · subst hj
        replace e : (ρ.ents.set i [f])[i]? = some as := e
        rw [List.getElem?_set_self hi] at e
        rw [List.getElem?_set_self (R.len ▸ hi)] at e'
        obtain rfl := Option.some.inj e; obtain rfl := Option.some.inj e'
        exact ⟨f, rfl, x.carry g fun _ e => e⟩
      · replace e : (ρ.ents.set i [f])[j]? = some as := e
        rw [List.getElem?_set_ne hj] at e
        rw [List.getElem?_set_ne hj] at e'
        exact (R.objs j as ao e e').carry g fun _ _ _ e => e
  refine ⟨cs, hr, l, x, S, g, fun j d hd => ?_⟩
  obtain ⟨o, u, a, b, c⟩ := y j d hd
  exact ⟨u, ⟨o, a, b⟩, c.carry g⟩
theorem RelS.closeClo {i : Nat} {f : Addr} {cs r : List Addr} {tm : FuncData} {names : List Str} {vals : List (Option PV)} (R : RelS K ρ st h) (hr : ρ.rsv.Perm (cs ++ r)) (q : st[i]? = some (.fn tm (names.zip cs))) (he : ρ.ents[i]? = some [f])
    (l : cs.length = names.length ∧ vals.length = names.length) (y : ∀ (j : Nat) (d : Addr), cs[j]? = some d → ∃ u, h.IsCell d u ∧ RVo h ρ u ((vals[j]?).join)) :
    RelS K ⟨ρ.ents.set i (f :: cs), r⟩ (st.set i (.clo tm names vals)) h ∧ Carry h ρ h ⟨ρ.ents.set i (f :: cs), r⟩ := by
  have hi : i < ρ.ents.length := (List.getElem?_eq_some_iff.mp he).1
  refine R.rearr (by show (ρ.ents.set i (f :: cs)).length = _; rw [List.length_set, List.length_set, R.len]) ?_ (fun j a e => (headAt_set (as := []) (bs := cs) he).mpr e) fun g j as ao e e' => ?_
  · obtain ⟨p, q, h1, h2⟩ := flatten_set (bs := f :: cs) he
    show ((ρ.ents.set i (f :: cs)).flatten ++ r).Perm (ρ.ents.flatten ++ ρ.rsv)
    rw [h1, h2]
    refine List.Perm.trans ?_ (List.Perm.append_left _ hr.symm)
    simp only [List.append_assoc, List.cons_append, List.nil_append]
    refine List.Perm.append_left _ (List.Perm.cons _ ?_)
    rw [← List.append_assoc, ← List.append_assoc]
    exact List.Perm.append_right _ List.perm_append_comm
  · by_cases hj : i = j
    · subst hj
      replace e : (ρ.ents.set i (f :: cs))[i]? = some as := e
      rw [List.getElem?_set_self hi] at e
      rw [List.getElem?_set_self (R.len ▸ hi)] at e'
      obtain rfl := Option.some.inj e; obtain rfl := Option.some.inj e'
      obtain ⟨f', e1, x⟩ := R.objs i _ _ he q
      cases e1
      refine ⟨f, cs, rfl, l, x.carry g fun _ e => e, fun j d hd => ?_⟩
      obtain ⟨u, ⟨o, a, b⟩, c⟩ := y j d hd
      exact ⟨o, u, a, b, c.carry g⟩
    · replace e : (ρ.ents.set i (f :: cs))[j]? = some as := e
      rw [List.getElem?_set_ne hj] at e
      rw [List.getElem?_set_ne hj] at e'
      exact (R.objs j as ao e e').carry g fun _ _ _ e => e
end
noncomputable def cloFd (tm : FuncData) (cl : List (Str × Addr)) (T : Value) (c' : Addr) : FuncData := { tm with closure := cl, closureTuple := T, code := .ref c' }
structure TmOk (tm : FuncData) (body : List Stmt) (pn ln : List Str) : Prop where
  body : tm.body = .stmts body
  co : tm.scope.isCoroutine = false
  gen : tm.scope.isGenerator = false
  kind : tm.scope.kind = .function
  glob : tm.globals = mainGlobals
  blt : tm.builtins = builtinsNs
  cell : ∀ x ∈ tm.scope.names, x.2 ≠ .cell
  par : ∀ x ∈ pn, tm.scope.names.lookup x = some .local
  nd : pn.Nodup
  sub : ∀ x ∈ pn, x ∈ ln
  bind : ∀ cl T c' s vs, vs.length = pn.length → BindsTo s (cloFd tm cl T c') ⟨vs, []⟩ (pn.zip vs)
section
variable {c : Ctx0} {b : Nat}
theorem op_clo {tm : FuncData} {body : List Stmt} {pn ln names : List Str} {li : List (Option Nat)} {F : FM PF} {G : PV → List PV → SM PV} (X : TmOk tm body pn ln) (hli : ln.map pn.idxOf? = li)
    (D : ∀ cs T c' L f, cs.length = names.length → Den c b ⟨callEnv (cloFd tm (names.zip cs) T c') L f, ln, names.zip cs⟩ RFl (execs body (callEnv (cloFd tm (names.zip cs) T c') L f)) F)
    (hG : ∀ p ps st y st', G p ps st = some (y, st') → ∃ i vals, p = .ref i ∧ st[i]? = some (.clo tm names vals) ∧ ps.length = pn.length ∧ ∀ cl, ∃ r es, P5 (F ⟨li.map fun o => o.bind fun i => ps[i]?, vals, st.set i (.fn tm cl)⟩ = some (r, es)) (es.st[i]? = some (.fn tm cl)) (retOf r = y) (es.cel.length = vals.length) (st' = es.st.set i (.clo tm names es.cel))) : OpV c (b + 1) G := by
  constructor
  intro A hA ρ s st v p vs ps y st' e r rr R
  obtain ⟨i, vals, rfl, q, hlen, hF⟩ := hG p ps st y st' e
  obtain ⟨f, hd, rfl⟩ := r.inv
  obtain ⟨cs, hr, l, ⟨T, c', oc, vc, tq, x1, y1, y2, y3, y4⟩, S, cy, cells⟩ := R.openClo hd q
  obtain ⟨fl, es, hFl, hq2, rfl, hcl, rfl⟩ := hF (names.zip cs)
  have hvs : pn.length = vs.length := by rw [rr.length, hlen]
  have hn := zip_names (vs := vs) hvs
  have hzc : (names.zip cs).map (·.2) = cs := by rw [List.map_snd_zip]; omega
  refine wpAny_call (codeAny_call_def (fd := cloFd tm (names.zip cs) T c') (body := body) (binds := pn.zip vs) (by have := hA.depth; have : recursionLimit = 1000 := rfl; omega) x1 rfl R.nolim ⟨c', oc, vc, tq, rfl, y2, y3, y4⟩ X.body (X.bind _ _ _ s vs hvs.symm) X.cell
    (fun x m => X.par x.1 (List.of_mem_zip m).1) (fun h₀ hns hk => ?_) X.co X.gen X.kind)
  have fresh : s.heap.get? s.heap.objs.size = none := get_ge (Nat.le_refl _)
  obtain ⟨S₀, g₀⟩ := S.enter (wr := [s.heap.objs.size]) (h' := h₀) hk (fun a' m => by rw [List.mem_singleton.mp m]; exact fresh) (fun a' m => by rw [List.mem_singleton.mp m]; obtain ⟨o, _, _, e, _⟩ := hns; exact ⟨o, e⟩) (List.nodup_cons.mpr ⟨by simp, List.nodup_nil⟩)
  have hA' : AOk b (A.deeper (callEnv (cloFd tm (names.zip cs) T c') s.heap.objs.size f)) := ⟨hA.handled, by have := hA.depth; show A.depth + 1 + 2 * b ≤ 900; omega, by have := hA.units; show A.units + 3 + 20 * b ≤ 9000; omega⟩
  have csOwn : ∀ d ∈ cs, d ∈ ρ.flatten := fun d m => Yy hr d (List.mem_cons_of_mem _ m)
  have csLive : ∀ d ∈ cs, ∃ o, s.heap.get? d = some o := fun d m => (R.apart d (Yv (csOwn d m))).2.2
  have csNd : cs.Nodup := by
    have n := S.nodup
    have n2 := (List.nodup_append.mp n).2.1
    exact (List.nodup_append.mp n2).1
  have RF : RelF c.K ⟨callEnv (cloFd tm (names.zip cs) T c') s.heap.objs.size f, ln, names.zip cs⟩ ((ρ.open1 i f cs).enter [s.heap.objs.size]) ⟨li.map fun o => o.bind fun i => ps[i]?, vals, st.set i (.fn tm (names.zip cs))⟩ h₀ := by
    refine ⟨S₀, ⟨_, hns, fun j x hx => ?_, fun x hx => ?_⟩, fun j x a' e => ?_, fun a' m => ?_, ?_⟩
    · rw [Yz (by rw [hn]; exact X.nd)]
      have : (li.map fun o => o.bind fun i => ps[i]?)[j]? = some ((pn.idxOf? x).bind fun i => ps[i]?) := by
        rw [List.getElem?_map, ← hli, List.getElem?_map, hx]; rfl
      rw [this]
      exact ((Yn rr hvs x).carry cy).carry g₀
    · rw [Yz (by rw [hn]; exact X.nd), Yg (by rintro ⟨p1, p2⟩ hp rfl; exact hx (X.sub _ (List.of_mem_zip hp).1))]
    · have hcj : cs[j]? = some a' := by
        replace e : (names.zip cs)[j]? = some (x, a') := e
        have := congrArg (Option.map (·.2)) e
        rw [← List.getElem?_map, hzc] at this
        exact this
      obtain ⟨u, ic, rv⟩ := cells j a' hcj
      exact ⟨u, ic.keeps hk, rv.carry g₀⟩
    · replace m : a' ∈ s.heap.objs.size :: (names.zip cs).map (·.2) := m
      rw [hzc] at m
      show a' ∈ [s.heap.objs.size] ++ (cs ++ ρ.rsv)
      rcases List.mem_cons.mp m with rfl | m
      · exact List.mem_cons_self
      · exact List.mem_append_right _ (List.mem_append_left _ m)
    · show (s.heap.objs.size :: (names.zip cs).map (·.2)).Nodup
      rw [hzc, List.nodup_cons]
      refine ⟨fun m => ?_, csNd⟩
      obtain ⟨o, e⟩ := csLive _ m
      rw [fresh] at e; exact (nos e).elim
  refine wpAny_mono ((D cs T c' s.heap.objs.size f l.1).run _ hA' _ { s with heap := h₀, toks := s.toks + (pn.zip vs).length } _ fl es hFl RF) (fun x s' z => ?_) fun _ _ z => z.elim
  obtain ⟨ρ₂, R₂, g₂, sm, rf⟩ := z
  obtain ⟨e₂, r₂⟩ := ρ₂
  have hr2 : r₂ = [s.heap.objs.size] ++ (cs ++ ρ.rsv) := g₂.rsv
  subst hr2
  obtain ⟨S₃, cy₃⟩ := RelS.leave (ρ := ⟨e₂, cs ++ ρ.rsv⟩) (wr := [s.heap.objs.size]) (h' := s'.heap) R₂.s fun a o e _ => e
  have hi : i < ρ.ents.length := (List.getElem?_eq_some_iff.mp hr).1
  obtain ⟨t, ht⟩ := g₂.pre
  replace ht : ρ.ents.set i [f] ++ t = e₂ := ht
  have he2 : e₂[i]? = some [f] := by
    rw [← ht, List.getElem?_append_left (by rw [List.length_set]; exact hi), List.getElem?_set_self hi]
  obtain ⟨S₄, cy₄⟩ := S₃.closeClo (r := ρ.rsv) (vals := es.cel) (List.Perm.refl _) hq2 he2 ⟨l.1, by rw [hcl]; exact l.2⟩ fun j d hd => by
    have hx : ∃ x, (names.zip cs)[j]? = some (x, d) := by
      have hj : j < cs.length := (List.getElem?_eq_some_iff.mp hd).1
      refine ⟨names[j]'(by omega), ?_⟩
      rw [List.getElem?_zip_eq_some]
      exact ⟨List.getElem?_eq_getElem (by omega), hd⟩
    obtain ⟨x, hx⟩ := hx
    obtain ⟨u, ic, rv⟩ := R₂.c j x d hx
    exact ⟨u, ic, rv.carry cy₃⟩
  have hset : e₂.set i (f :: cs) = ρ.ents ++ t := by
    rw [← ht, List.set_append_left _ _ (by rw [List.length_set]; exact hi), List.set_set]
    congr 1
    apply List.ext_getElem?
    intro j
    by_cases hj : i = j
    · subst hj; rw [List.getElem?_set_self hi, hr]
    · rw [List.getElem?_set_ne hj]
  have sameFlat : ∀ a, a ∈ (ρ.ents.set i [f]).flatten → a ∈ ρ.flatten := fun a m => by
    obtain ⟨p, q, h1, h2⟩ := flatten_set (bs := [f]) hr
    rw [h2] at m
    show a ∈ ρ.ents.flatten
    rw [h1]
    simp only [List.mem_append, List.mem_cons, List.not_mem_nil, or_false] at m ⊢
    rcases m with m | m | m
    · exact .inl m
    · exact .inr (.inl (.inl m))
    · exact .inr (.inr m)
  refine ⟨⟨e₂.set i (f :: cs), ρ.rsv⟩, S₄, ⟨fun a o e _ nr => ?_, ?_, rfl, fun a m => ?_⟩, ⟨sm.1, sm.2.1, sm.2.2⟩, ?_⟩
  · refine g₂.keep a o (hk a o e) (fun m => ?_) fun m => nr (sameFlat a m)
    replace m : a ∈ s.heap.objs.size :: (names.zip cs).map (·.2) := m
    rw [hzc] at m
    rcases List.mem_cons.mp m with rfl | m
    · rw [fresh] at e; exact (nos e).elim
    · exact nr (csOwn a m)
  · show ρ.ents <+: e₂.set i (f :: cs)
    rw [hset]; exact List.prefix_append ..
  · have hm : a ∈ ρ.flatten ∨ a ∈ e₂.flatten := by
      replace m : a ∈ (e₂.set i (f :: cs)).flatten := m
      rw [hset, List.flatten_append] at m
      rcases List.mem_append.mp m with m | m
      · exact .inl m
      · right; rw [← ht, List.flatten_append]; exact List.mem_append_right _ m
    rcases hm with m | m
    · exact .inl m
    · rcases g₂.new a m with z | z | z
      · exact .inl (sameFlat a z)
      · replace z : a ∈ s.heap.objs.size :: (names.zip cs).map (·.2) := z
        rw [hzc] at z
        rcases List.mem_cons.mp z with rfl | z
        · exact .inr (.inr fresh)
        · exact .inl (csOwn a z)
      · refine .inr (.inr ?_)
        cases q : s.heap.get? a with
        | none => rfl
        | some o =>
          have z' : h₀.get? a = none := z
          rw [hk a o q] at z'; cases z'
  · cases rf with
    | next => exact .none
    | brk => exact .none
    | cont => exact .none
    | ret r => exact (r.carry cy₃).carry cy₄
end
structure CodeAt (K : Frag) (cc P : Addr) : Prop where
  ex : ∃ o vs file tf flags tg inF text tt, P8 (K.lookup cc = some o) (o.cls = .type "code") (o.data = .fields vs) (vs[11]? = some (.ref P)) (vs[18]? = some (.str file tf)) (vs[7]? = some (.int flags tg)) (vs[9]? = some (.bool inF)) (vs[10]? = some (.int text tt))
  ne : cc ≠ P
theorem getD_of {vs : Array Value} {i : Nat} {v : Value} (h : vs[i]? = some v) : vs.getD i .none = v := by
  rw [Array.getD_eq_getD_getElem?, h]; rfl
theorem CodeAt.at {K : Frag} {cc P : Addr} {h : Heap} {ps : Array Value} (X : CodeAt K cc P) (k : K.In h) (hp : h.get? P = some { cls := .none, data := .fields ps }) (t : TriplesOk ps.toList) : h.IsCode cc P ps ∧ h.TableAt cc P ps := by
  obtain ⟨⟨o, vs, file, tf, flags, tg, inF, text, tt, e0, e1, e2, e3, e4, e5, e6, e7⟩, ne⟩ := X
  exact ⟨⟨o, vs, file, tf, flags, tg, inF, text, tt, _, k _ _ e0, e2, getD_of e3, getD_of e4, getD_of e5, getD_of e6, getD_of e7, hp, rfl, t, ne⟩, ⟨o, vs, k _ _ e0, e1, e2, e3⟩, hp⟩
noncomputable def tmOf (name q : Str) (args : Arguments) (body : List Stmt) (scope : Scope) (pm : Value) : FuncData := { name := name, qualname := q, params := args, body := .stmts body, scope := scope, globals := mainGlobals, closure := [], defaults := .none, kwdefaults := .none, pyModule := pm, builtins := builtinsNs }
section
variable {c : Ctx0} {b : Nat} {f : FI}
open Classical in
noncomputable def defE (j it : Nat) (P : Addr) (pos : Pos) (q : Str) (tm : FuncData) (cl : List (Str × Addr)) : FM PF := fun es => pik fun r => es.st[it]? = some (.tab P pos q) ∧ (bindE (setL j (.ref es.st.length)) fun _ => pureE .next) { es with st := es.st ++ [.fn tm cl] } = some r
theorem def_of {j it : Nat} {P : Addr} {pos : Pos} {q : Str} {tm : FuncData} {cl : List (Str × Addr)} {es : ES} {r : PF × ES} (h : es.st[it]? = some (.tab P pos q)) (e : (bindE (setL j (.ref es.st.length)) fun _ => pureE .next) { es with st := es.st ++ [.fn tm cl] } = some r) : defE j it P pos q tm cl es = some r :=
  pik_of ⟨h, e⟩ fun z ⟨_, e'⟩ => Option.some.inj (e'.symm.trans e)
theorem den_fundef {name q : Str} {args : Arguments} {body : List Stmt} {scope : Scope} {pos : Pos} {j it : Nat} {P cc : Addr} {cl : List (Str × Addr)} {pm : Value} (ok : f.Ok) (hx : f.ln[j]? = some name)
    (h1 : args.defaults = []) (h2 : args.kw_defaults = []) (h3 : args.kwonlyargs = []) (h4 : annTrees args none f.env = []) (hq : qualnameIn f.env name name = q) (hcl : closureFor scope f.env = pure cl) (hne : cl.isEmpty = false)
    (hcode : f.env.code = .ref cc) (X : CodeAt c.K cc P) (hpm : nsIn c.K mainGlobals "__name__" = some (some pm)) (hb : ∀ M h, c.K.In h → Looks M h (builtinsFor mainGlobals builtinsNs) builtinsNs) (hdoc : docOf body = none) :
    Den c b f RFl (exec (.FunctionDef name args body [] none [] scope none name pos) f.env) (defE j it P pos q (tmOf name q args body scope pm) cl) := by
  constructor
  intro A hA ρ s es y es' e R
  obtain ⟨qt, e⟩ := Zq e
  obtain ⟨_, es₁, e1, e2⟩ := Zd e
  cases e2
  have hit : it < ρ.ents.length := by rw [R.s.len]; exact (List.getElem?_eq_some_iff.mp qt).1
  obtain ⟨as, has⟩ : ∃ as, ρ.ents[it]? = some as := ⟨_, List.getElem?_eq_getElem hit⟩
  obtain ⟨ps, rfl, hP, tri, hor⟩ := R.s.objs it _ _ has qt
  rw [exec_def, hq, defaultsOf_eq, h1, h2, h4]
  refine wpAny_bind (wpAny_standAt (wpAny_bind (wpAny_holding ?_)))
  refine wpAny_bind (wpAny_pure ?_)
  refine wpAny_bind (wpAny_holding (wpAny_pure ?_))
  refine wpAny_holding ?_
  refine wpAny_bind (wpAny_pure ?_)
  rw [makeFunction_eq, h3]
  refine wpAny_bind (wpAny_pure ?_)
  refine wpAny_bind (wpAny_pure ?_)
  refine wpAny_bind (wpAny_pure ?_)
  unfold makeTail
  rw [hcl]
  refine wpAny_bind (wpAny_pure ?_)
  rw [hne]
  refine wpAny_bind (wpAny_newTextTuple ?_)
  rw [ok.glob, ok.blt]
  dsimp only
  rw [hdoc]
  dsimp only
  have kT : ∀ (o : Obj) a o', s.heap.get? a = some o' → (s.heap.push o).get? a = some o' := fun o a o' e => Heap.get?_push_of_some _ e
  have fin : ∀ (c' : Addr) (oc : Obj) (vc : Array Value) (t : Tok) (s₂ : Shared) (T : Value) (Q : Flow → Shared → Prop), c' ∉ ρ.own → s₂.heap.get? c' = some oc → oc.data = .fields vc → vc[1]? = some (.str q t) → RelS c.K ρ es.st s₂.heap → Grow [] ρ s.heap ρ s₂.heap → Same s s₂ →
      wpAny (model c.prog c.w) A (do
        let bl ← builtinsFor mainGlobals builtinsNs
        let mo ← nsGet mainGlobals "__name__"
        let doc ← (pure .none : Sem Value)
        newObj (.type "function") (.func { name := name, qualname := q, params := args, body := .stmts body, scope := scope, globals := mainGlobals, closure := cl, closureTuple := T, code := .ref c', builtins := bl, defaults := .none, kwdefaults := .none, annotations := none, pyModule := mo.getD .none, doc := doc })) (fun fv s₃ => wpAny (model c.prog c.w) A (do standAt pos; bindName f.env name fv; pure Flow.next) (Ends c.K f RFl ρ s .next es') noE s₃) noE s₂ := by
    intro c' oc vc t s₂ T Q nc hc1 hc2 hc3 S g sm
    refine wpAny_bind ((hb _ _ S.top).here ?_)
    refine wpAny_bind ((looks_nsIn S.top hpm).here ?_)
    refine wpAny_bind (wpAny_pure (wpAny_newObj_type ?_ (by size_fits)))
    have k : ∀ (o : Obj) a o', s₂.heap.get? a = some o' → (s₂.heap.push o).get? a = some o' := fun o a o' e => Heap.get?_push_of_some _ e
    have hget : ∀ o : Obj, o.isFreed = false → (s₂.heap.push o).get? s₂.heap.objs.size = some o := fun o h => Heap.get?_push_size _ h
    obtain ⟨S₃, g₃⟩ := S.push (as := [s₂.heap.objs.size]) (ao := .fn (tmOf name q args body scope pm) cl) (k _) (fun a m => by rw [List.mem_singleton.mp m]; exact get_ge (Nat.le_refl _)) (fun a m => by rw [List.mem_singleton.mp m]; exact ⟨_, hget _ rfl⟩) (List.nodup_cons.mpr ⟨by simp, List.nodup_nil⟩)
      fun g => ⟨_, rfl, T, c', oc, vc, t, hget _ rfl, (g.carry noFr).keep _ _ hc1 nc |>.2, k _ _ _ hc1, hc2, hc3⟩
    have gg := g.trans g₃
    have R₃ := R.ofS S₃ gg
    refine wpAny_bind (wpAny_standAt (wpAny_bind (wpAny_bindName ?_)))
    refine wpAny_mono ((Y0 (c := c) (b := b) ok hx).run A hA _ _ _ (.ref s₂.heap.objs.size) (.ref es.st.length) () _ e1 (.ref (by rw [← S.len]; exact headAt_push)) R₃) (fun _ s₄ z => ?_) fun _ _ z => z
    obtain ⟨ρ₄, R₄, g₄, q₄, _⟩ := z
    exact wpAny_pure ⟨ρ₄, R₄, (gg.wider (by simp)).trans g₄, sm.trans (⟨q₄.1, q₄.2.1, q₄.2.2⟩), .next⟩
  have own_lt : ∀ a ∈ ρ.own, a < s.heap.objs.size := fun a m => by obtain ⟨_, _, o, e⟩ := R.s.apart a m; exact Heap.lt_size e
  rcases hor with hnone | ⟨c', oc, vc, t, nc, ham, hc1, hc2, hc3⟩
  · obtain ⟨S₁, g₁⟩ := R.s.ext (kT { cls := .type "tuple", data := .seq ((cl.mergeSort fun a b => a.1.cps.toList ≤ b.1.cps.toList).map (.ref ·.2)).toArray })
    obtain ⟨ic, it'⟩ := X.at S₁.top (kT _ _ _ hP) tri
    refine wpAny_bind (wpAny_functionCodeX (pos := pos) hcode ic it' hnone fun c' h' tk hx' hge hlt ic' cr tb _ => ?_)
    obtain ⟨c2, oc, vc, t, ec, hc1, hc2, hc3⟩ := cr
    cases ec
    have hge' : s.heap.objs.size ≤ c' := by
      have := hge
      rw [show ({ s with heap := s.heap.push _ } : Shared).heap.objs.size = s.heap.objs.size + 1 from Heap.size_push ..] at this
      exact Nat.le_of_succ_le this
    have nc : c' ∉ ρ.own := fun m => absurd (own_lt _ m) (Nat.not_lt.mpr hge')
    obtain ⟨S₂, g₂⟩ := S₁.put (i := it) (ao' := .tab P pos q) (h' := h') has (fun a o e na => hx' a o (by simpa using na) e) (fun a m => by rw [List.mem_singleton.mp m]; exact ⟨_, tb.2⟩) fun g =>
      ⟨_, rfl, tb.2, by
        obtain ⟨o, vs, file, tf, flags, tg, inF, text, tt, op, a, r1, r2, r3, r4, r5, r6, bb, bd, tr, _⟩ := ic'
        exact tr, .inr ⟨c', oc, vc, t, nc, by
        rw [show (ps ++ #[rawInt pos.line, rawInt pos.col, Value.ref c']).toList = ps.toList ++ [rawInt pos.line, rawInt pos.col, .ref c'] by simp, codeAmong_snoc _ tri hnone], hc1, hc2, hc3⟩⟩
    have hst : es.st.set it (.tab P pos q) = es.st := by
      apply List.ext_getElem?
      intro k
      by_cases hk : it = k
      · subst hk; rw [List.getElem?_set_self (R.s.len ▸ hit), qt]
      · rw [List.getElem?_set_ne hk]
    rw [hst] at S₂
    exact fin c' oc vc t { s with heap := h', toks := tk } _ (fun _ _ => True) nc hc1 hc2 hc3 S₂ (g₁.trans g₂) ⟨rfl, rfl, rfl⟩
  · obtain ⟨S₁, g₁⟩ := R.s.ext (kT { cls := .type "tuple", data := .seq ((cl.mergeSort fun a b => a.1.cps.toList ≤ b.1.cps.toList).map (.ref ·.2)).toArray })
    obtain ⟨ic, _⟩ := X.at S₁.top (kT _ _ _ hP) tri
    refine wpAny_bind (wpAny_functionCode_hit (pos := pos) hcode ic ham ?_)
    exact fin c' oc vc t _ _ (fun _ _ => True) nc (kT _ _ _ hc1) hc2 hc3 S₁ g₁ ⟨rfl, rfl, rfl⟩
end
section
variable {c : Ctx0} {b : Nat}
theorem fun_defC {a : Addr} {fd : FuncData} {body : List Stmt} {names ln : List Str} {cns : List (Str × Nat)} {np : Nat} {kn : List Str} {dvs : List Value} {dps : List PV} {li ci : List (Option Nat)} {F : Addr → FM PF} {tm : FuncData} {G : List PV → SM PV}
    (X : DefK c.K a fd body names ln cns) (hdp : ∀ h ρ, RVs h ρ dvs dps) (hn : names.length = np + kn.length + dvs.length)
    (hli : ln.map names.idxOf? = li) (hci : (cns.map (·.1)).map names.idxOf? = ci)
    (hbind : ∀ s vs ws, vs.length = np → ws.length = kn.length → c.K.In s.heap → BindsTo s fd ⟨vs, kn.zip ws⟩ (names.zip (vs ++ ws ++ dvs)))
    (D : ∀ L, Den c b (FI.fn fd a ln cns L) RFl (execs body (callEnvC fd L a)) (F L))
    (hG : ∀ ps st y st', G ps st = some (y, st') → ps.length = np + kn.length ∧ ∃ ic vals, st.length ≤ ic ∧ vals.length = cns.length ∧ ∀ L, ∃ r es, P5 (F L ⟨li.map fun o => o.bind fun i => (ps ++ dps)[i]?, ci.map fun o => o.bind fun i => (ps ++ dps)[i]?, st⟩ = some (r, es)) (retOf r = y) (es.st[ic]? = some (.fn tm (cnAt cns L).reverse)) (es.cel = vals) (st' = es.st.set ic (.clo tm (cns.map (·.1)).reverse vals.reverse))) : FunK c (b + 1) (.ref a) np kn G := by
  constructor
  · intro ps st r e
    obtain ⟨y, st'⟩ := r
    exact (hG ps st y st' e).1
  intro A hA ρ s st vs ps y st' e r R
  obtain ⟨hlen, ic, vals, hic, hvals, hF⟩ := hG ps st y st' e
  obtain ⟨fl, es, q, rfl, hfn, rfl, rfl⟩ := hF s.heap.objs.size
  have hvl := r.length
  have r' : RVs s.heap ρ (vs ++ dvs) (ps ++ dps) := r.append (hdp _ _)
  have hvs : names.length = (vs ++ dvs).length := by rw [List.length_append, hvl, hlen, hn]
  have hz : vs.take np ++ vs.drop np ++ dvs = vs ++ dvs := by rw [List.take_append_drop]
  have hb := hbind s (vs.take np) (vs.drop np) (by rw [List.length_take, hvl, hlen]; omega) (by rw [List.length_drop, hvl, hlen]; omega) R.top
  rw [hz] at hb
  obtain ⟨oc, od, sl, ho⟩ := X.at_
  have hnm := zip_names hvs
  have ndb : ((names.zip (vs ++ dvs)).map (·.1)).Nodup := by rw [hnm]; exact X.nd
  refine codeAny_call_function (fd := fd) (body := body) (by have := hA.depth; have : recursionLimit = 1000 := rfl; omega) (R.top _ _ ho) rfl X.co X.gen X.body (codeRec_of R.top X.code) (hb _ _ _ _ ?_)
  rw [X.clo]
  refine wpAny_newFunctionEnv_cells X.kind (fun x m => ?_) fun env he s₁ x => ?_
  · have mx := (List.of_mem_zip m).1
    rcases X.par x.1 mx with h | h
    · exact .inl h.1
    · refine .inr ⟨h.1, ?_⟩
      rw [X.cells]
      obtain ⟨p, hp, hpx⟩ := List.mem_map.mp h.2
      have : ((cnAt cns s.heap.objs.size).map (·.1)) = cns.map (·.1) := by unfold cnAt; rw [List.map_map]; rfl
      obtain ⟨i, hi⟩ := List.mem_iff_getElem?.mp hp
      have hi' : (cnAt cns s.heap.objs.size)[i]? = some (x.1, s.heap.objs.size + p.2) := by unfold cnAt; rw [List.getElem?_map, hi, ← hpx]; rfl
      rw [lookup_of_nodup (by rw [this]; exact X.cnd) hi']; rfl
  subst he
  refine ⟨R.nolim.keeps x.toInCall.keep, codeAny_func ?_⟩
  have hcells : (callEnvC fd s.heap.objs.size a).cells = cnAt cns s.heap.objs.size := X.cells _
  have ndc : ((cnAt cns s.heap.objs.size).map (·.1)).Nodup := by
    have : ((cnAt cns s.heap.objs.size).map (·.1)) = cns.map (·.1) := by unfold cnAt; rw [List.map_map]; rfl
    rw [this]; exact X.cnd
  have hcell : ∀ i y d, (cnAt cns s.heap.objs.size)[i]? = some (y, d) → s₁.heap.IsCell d (bindC (callEnvC fd s.heap.objs.size a).kindOf (names.zip (vs ++ dvs)) (fun _ => none) y) := fun i y d hy =>
    x.cell y d (by rw [show (newEnv fd.scope s.heap.objs.size fd.globals (cellsFrom (s.heap.objs.size + 1) fd.scope.names []) (fd.qualname ++ ".<locals>.") (some a) fd.code none fd.builtins).cells = cnAt cns s.heap.objs.size from X.cells _]; exact lookup_of_nodup ndc hy)
  have habove : ∀ p ∈ cnAt cns s.heap.objs.size, s.heap.objs.size < p.2 := fun p hp => x.above p.1 p.2 (by rw [show (newEnv fd.scope s.heap.objs.size fd.globals (cellsFrom (s.heap.objs.size + 1) fd.scope.names []) (fd.qualname ++ ".<locals>.") (some a) fd.code none fd.builtins).cells = cnAt cns s.heap.objs.size from X.cells _]; exact hp)
  have hapart : (cnAt cns s.heap.objs.size).Pairwise fun x y => x.2 ≠ y.2 := by
    have := x.apart
    rw [show (newEnv fd.scope s.heap.objs.size fd.globals (cellsFrom (s.heap.objs.size + 1) fd.scope.names []) (fd.qualname ++ ".<locals>.") (some a) fd.code none fd.builtins).cells = cnAt cns s.heap.objs.size from X.cells _] at this
    exact this
  have hns := x.toInCall.ns
  have nd : (s.heap.objs.size :: (cnAt cns s.heap.objs.size).map (·.2)).Nodup := by
    rw [List.nodup_cons]
    refine ⟨fun m => ?_, ?_⟩
    · obtain ⟨p, hp, hq⟩ := List.mem_map.mp m
      have := habove p hp
      rw [hq] at this
      exact absurd this (Nat.lt_irrefl _)
    · rw [List.nodup_iff_pairwise_ne, List.pairwise_map]; exact hapart
  have fresh : ∀ d ∈ s.heap.objs.size :: (cnAt cns s.heap.objs.size).map (·.2), s.heap.get? d = none := fun d m => by
    rcases List.mem_cons.mp m with rfl | m
    · exact get_ge (Nat.le_refl _)
    · obtain ⟨p, hp, rfl⟩ := List.mem_map.mp m
      exact get_ge (Nat.le_of_lt (habove p hp))
  obtain ⟨S, g₀⟩ := R.enter (wr := s.heap.objs.size :: (cnAt cns s.heap.objs.size).map (·.2)) (h' := s₁.heap) x.toInCall.keep fresh (fun d m => by
    rcases List.mem_cons.mp m with rfl | m
    · obtain ⟨o, _, _, e, _⟩ := hns; exact ⟨o, e⟩
    · obtain ⟨p, hp, rfl⟩ := List.mem_map.mp m
      obtain ⟨i, hi⟩ := List.mem_iff_getElem?.mp hp
      obtain ⟨o, e, _⟩ := hcell i p.1 p.2 hi
      exact ⟨o, e⟩) nd
  have kLoc : ∀ y, (callEnvC fd s.heap.objs.size a).kindOf y = fd.scope.names.lookup y := fun y => rfl
  have hA' : AOk b (A.deeper (callEnvC fd s.heap.objs.size a)) := ⟨hA.handled, by have := hA.depth; show A.depth + 1 + 2 * b ≤ 900; omega, by have := hA.units; show A.units + 3 + 20 * b ≤ 9000; omega⟩
  have RF : RelF c.K (FI.fn fd a ln cns s.heap.objs.size) (ρ.enter (s.heap.objs.size :: (cnAt cns s.heap.objs.size).map (·.2))) ⟨li.map fun o => o.bind fun i => (ps ++ dps)[i]?, ci.map fun o => o.bind fun i => (ps ++ dps)[i]?, st⟩ s₁.heap := by
    refine ⟨S, ⟨_, hns, fun i y hy => ?_, fun y hy => ?_⟩, fun i y d hy => ?_, fun d m => List.mem_append_left _ m, nd⟩
    · replace hy : ln[i]? = some y := hy
      have hk := X.loc y (List.mem_of_getElem? hy)
      have : (li.map fun o => o.bind fun i => (ps ++ dps)[i]?)[i]? = some ((names.idxOf? y).bind fun i => (ps ++ dps)[i]?) := by
        rw [List.getElem?_map, ← hli, List.getElem?_map, hy]; rfl
      rw [this]
      rw [show bindL _ _ _ y = _ from bindL_loc ndb hk]
      exact (Yn r' hvs y).carry g₀
    · refine bindL_out ndb fun hk => ?_
      rw [Yg]
      rintro ⟨p1, p2⟩ hp rfl
      rcases X.par p1 (List.of_mem_zip hp).1 with h | h
      · exact hy h.2
      · have hk' : fd.scope.names.lookup p1 = some .local := hk
        rw [h.1] at hk'; cases hk'
    · have hc := hcell i y d hy
      have hy' : ∃ k, cns[i]? = some (y, k) := by
        replace hy : (cnAt cns s.heap.objs.size)[i]? = some (y, d) := hy
        unfold cnAt at hy
        rw [List.getElem?_map] at hy
        obtain ⟨p, e1, e2⟩ := Option.map_eq_some_iff.mp hy
        obtain ⟨p1, p2⟩ := p
        cases e2
        exact ⟨p2, e1⟩
      obtain ⟨k, hy'⟩ := hy'
      have hk := X.cel _ (List.mem_of_getElem? hy')
      refine ⟨_, hc, ?_⟩
      have : (ci.map fun o => o.bind fun i => (ps ++ dps)[i]?)[i]? = some ((names.idxOf? y).bind fun i => (ps ++ dps)[i]?) := by
        rw [List.getElem?_map, ← hci, List.getElem?_map, List.getElem?_map, hy']; rfl
      rw [this, show bindC _ _ _ y = _ from bindC_cel ndb hk]
      exact (Yn r' hvs y).carry g₀
  have kk := x.toInCall.keep
  obtain ⟨h₁, tk, rfl⟩ := x.toInCall.same
  refine wpAny_mono ((D s.heap.objs.size).run _ hA' _ _ _ fl es q RF) (fun fv' s' z => ?_) fun _ _ z => z.elim
  obtain ⟨ρ', R', g, sm, rf⟩ := z
  obtain ⟨e₂, r₂⟩ := ρ'
  have hr2 : r₂ = s.heap.objs.size :: (cnAt cns s.heap.objs.size).map (·.2) ++ ρ.rsv := g.rsv
  subst hr2
  obtain ⟨S₃, cy₃⟩ := RelS.leave (ρ := ⟨e₂, (cnAt cns s.heap.objs.size).map (·.2) ++ ρ.rsv⟩) (wr := [s.heap.objs.size]) (h' := s'.heap) R'.s fun a o e _ => e
  obtain ⟨t, ht⟩ := g.pre
  replace ht : ρ.ents ++ t = e₂ := ht
  have hie : ic < e₂.length := by
    have := R'.s.len
    rw [show e₂.length = es.st.length from this]
    exact (List.getElem?_eq_some_iff.mp hfn).1
  obtain ⟨as, has⟩ : ∃ as, e₂[ic]? = some as := ⟨_, List.getElem?_eq_getElem hie⟩
  obtain ⟨f, rfl, fo⟩ := S₃.objs ic _ _ has hfn
  have hzip : (cns.map (·.1)).reverse.zip ((cnAt cns s.heap.objs.size).map (·.2)).reverse = (cnAt cns s.heap.objs.size).reverse := by
    unfold cnAt
    rw [List.map_map, ← List.map_reverse, ← List.map_reverse, ← List.map_reverse, List.zip_map']
    rfl
  obtain ⟨S₄, cy₄⟩ := S₃.closeClo (tm := tm) (names := (cns.map (·.1)).reverse) (cs := ((cnAt cns s.heap.objs.size).map (·.2)).reverse) (r := ρ.rsv) (vals := es.cel.reverse) (List.Perm.append_right _ (List.reverse_perm _).symm) (by rw [hzip]; exact hfn) has ⟨by simp [cnAt], by simp [hvals]⟩ fun j d hd => by
    have hj : j < ((cnAt cns s.heap.objs.size).map (·.2)).length := by
      have := (List.getElem?_eq_some_iff.mp hd).1
      simpa using this
    rw [List.getElem?_reverse hj, List.getElem?_map] at hd
    obtain ⟨p, hp, hpd⟩ := Option.map_eq_some_iff.mp hd
    obtain ⟨x, d'⟩ := p
    cases hpd
    obtain ⟨u, ic', rv⟩ := R'.c _ x d' hp
    refine ⟨u, ic', ?_⟩
    have hl : ((cnAt cns s.heap.objs.size).map (·.2)).length = es.cel.length := by rw [hvals]; simp [cnAt]
    rw [List.getElem?_reverse (by rw [← hl]; exact hj), ← hl]
    exact rv.carry cy₃
  have hicρ : ρ.ents.length ≤ ic := by rw [R.len]; exact hic
  have flat : ∀ a, a ∈ (e₂.set ic (f :: ((cnAt cns s.heap.objs.size).map (·.2)).reverse)).flatten → a ∈ e₂.flatten ∨ a ∈ (cnAt cns s.heap.objs.size).map (·.2) := fun a m => by
    obtain ⟨p, q, h1, h2⟩ := flatten_set (bs := f :: ((cnAt cns s.heap.objs.size).map (·.2)).reverse) has
    rw [h2] at m
    rw [h1]
    simp only [List.mem_append, List.mem_cons, List.not_mem_nil, or_false] at m ⊢
    rcases m with m | (m | m) | m
    · exact .inl (.inl m)
    · exact .inl (.inr (.inl m))
    · exact .inr (List.mem_reverse.mp m)
    · exact .inl (.inr (.inr m))
  refine ⟨⟨e₂.set ic (f :: ((cnAt cns s.heap.objs.size).map (·.2)).reverse), ρ.rsv⟩, S₄, ⟨fun a o e _ nr => g.keep a o (kk a o e) (fun m => by rw [fresh a m] at e; exact (nos e).elim) nr, ?_, rfl, fun a m => ?_⟩, ⟨sm.1, sm.2.1, sm.2.2⟩, ?_⟩
  · show ρ.ents <+: e₂.set ic _
    rw [← ht, List.set_append_right _ _ hicρ]
    exact List.prefix_append ..
  · rcases flat a m with z | z
    · rcases g.new a z with z | z | z
      · exact .inl z
      · exact .inr (.inr (fresh a z))
      · refine .inr (.inr ?_)
        cases q : s.heap.get? a with
        | none => rfl
        | some o =>
          have z' : h₁.get? a = none := z
          rw [kk a o q] at z'; cases z'
    · exact .inr (.inr (fresh a (List.mem_cons_of_mem _ z)))
  · cases rf with
    | next => exact .none
    | brk => exact .none
    | cont => exact .none
    | ret r => exact (r.carry cy₃).carry cy₄
end
theorem sup_mro : mroOf (.type "super") = pure [.type "super", .type "object"] := by rw [mroOf_type]; kernel_rfl
theorem sup_new : typeLookup (.type "super") "__new__" = pure (some (.builtin "super.__new__")) := by rw [typeLookup_type, builtinLookup_eq_fast]; kernel_rfl
theorem sup_init : Slot "super" "__init__" "super.__init__" := .of (owner := "super") (n := "__init__") (by rw [typeLookup_type, builtinLookup_eq_fast]; kernel_rfl) (by decide +kernel) (by decide +kernel) (by decide +kernel)
  (by first | exact .inl (by decide +kernel) | exact .inr (by decide +kernel)) (by rw [isSubtype_type]; kernel_rfl)
theorem sup_get : Slot "super" "__getattribute__" "super.__getattribute__" := .of (owner := "super") (n := "__getattribute__") (by rw [typeLookup_type, builtinLookup_eq_fast]; kernel_rfl) (by decide +kernel) (by decide +kernel) (by decide +kernel)
  (by first | exact .inl (by decide +kernel) | exact .inr (by decide +kernel)) (by rw [isSubtype_type]; kernel_rfl)
theorem sup_called : TypeCalled "super" "super.__new__" "super.__init__" :=
  { notType := by decide +kernel, canCreate := by decide +kernel, mro := ⟨_, _, sup_mro⟩, made := madeBy_type sup_mro sup_new (by decide +kernel), plain := by decide +kernel, sub := by rw [isSubtype_type]; kernel_rfl, init := sup_init }
theorem sup_newOk (a b : Value) : checkBuiltinCall "super.__new__" ⟨[.type "super", a, b], []⟩ = pure () := by kernel_rfl
theorem sup_initOk (o a b : Value) : argsOk "super.__init__" ⟨[o, a, b], []⟩ := by unfold argsOk; kernel_rfl
theorem sup_getOk (o a : Value) : argsOk "super.__getattribute__" ⟨[o, a], []⟩ := by unfold argsOk; kernel_rfl
theorem sup_newE : entryFor table "super.__new__" = some Builtin.«super.__new__» := entryFor_of_tree (by kernel_rfl)
theorem sup_initE : entryFor table "super.__init__" = some Builtin.«super.__init__» := entryFor_of_tree (by kernel_rfl)
theorem sup_getE : entryFor table "super.__getattribute__" = some Builtin.«super.__getattribute__» := entryFor_of_tree (by kernel_rfl)
theorem sup_newP : plainId "super.__new__" = true := by decide +kernel
theorem sup_getC : (Manifest.canonical "super.__getattribute__" != "object.__getattribute__") = true := by decide +kernel
noncomputable abbrev supObj (D x C : Addr) : Obj := { cls := .type "super", data := .fields #[.ref D, .ref x, .ref C] }
section
variable {prog : Program} {w : World} {A : Around} {E : Value → Shared → Prop} {s : Shared} {K : Frag} {D x C : Addr} {cdD : ClassData} {ox : Obj}
theorem isType_K {Q : Bool → Shared → Prop} (X : K.In s.heap) (hc : clsIn K D = some cdD) (h : Q true s) : wpAny (model prog w) A (isType (.ref D)) Q E s := by
  unfold clsIn at hc
  split at hc
  · rename_i oc od cd sl ho
    unfold isType loadHead
    refine wpAny_bind (wpAny_loadPart (X _ _ ho) ?_)
    exact wpAny_pure h
  · cases hc
theorem isType_not {Q : Bool → Shared → Prop} (hx : s.heap.get? x = some ox) (hn : notCls ox = true) (h : Q false s) : wpAny (model prog w) A (isType (.ref x)) Q E s := by
  unfold isType loadHead
  refine wpAny_bind (wpAny_loadPart hx ?_)
  obtain ⟨a, b, dt, d⟩ := ox
  cases dt <;> first | exact wpAny_pure h | cases hn
theorem sup_init_run {so : Addr} {Q : Fin → Shared → Prop} (X : K.In s.heap) (hc : clsIn K D = some cdD) (hx : s.heap.get? x = some ox) (hxc : ox.cls = .ref C) (hn : notCls ox = true) (hs : mroIn K C (.ref D) = some true)
    (h0 : s.heap.get? so = some { cls := .type "super", data := .fields #[.none, .none, .none] })
    (h : ∀ h', h'.get? so = some (supObj D x C) → (∀ a o, a ≠ so → s.heap.get? a = some o → h'.get? a = some o) → Q (.done (.ret .none)) { s with heap := h' }) : wpAny (model prog w) A (Builtin.«super.__init__» ⟨[.ref so, .ref D, .ref x], []⟩) Q E s := by
  unfold Builtin.«super.__init__»
  refine wpAny_bind (m := noKeywords "super" _) (wpAny_of_eq (a := ()) rfl ?_)
  refine wpAny_bind (wpAny_pure ?_)
  refine wpAny_bind (isType_K X hc ?_)
  refine wpAny_bind ?_
  refine wpAny_bind (isType_not hx hn ?_)
  have ht : wpAny (model prog w) A (typeOf (.ref x)) (fun v s' => v = .ref C ∧ s' = s) E s := by
    simp only [typeOf]
    exact wpAny_bind (wpAny_load hx (wpAny_pure ⟨hxc, rfl⟩))
  refine wpAny_bind (wpAny_mono ht (fun v s' z => ?_) fun _ _ z => z)
  obtain ⟨rfl, rfl⟩ := z
  refine wpAny_bind ((looks_mroIn X hs).here ?_)
  refine wpAny_pure ?_
  refine wpAny_bind (wpAny_setField h0 rfl (by simp) ?_)
  have h1 := get_upd (f := Obj.mapFields (·.setIfInBounds 0 (.ref D))) h0 rfl
  refine wpAny_bind (wpAny_setField h1 rfl (by simp) ?_)
  have h2 := get_upd (f := Obj.mapFields (·.setIfInBounds 1 (.ref x))) h1 rfl
  refine wpAny_bind (wpAny_setField h2 rfl (by simp) ?_)
  have h3 := get_upd (f := Obj.mapFields (·.setIfInBounds 2 (.ref C))) h2 rfl
  refine wpAny_pure (h _ h3 fun a o na e => ?_)
  exact (((Heap.SameBut.update ..).2 a na).trans (((Heap.SameBut.update ..).2 a na).trans ((Heap.SameBut.update ..).2 a na))).trans e
theorem made_by_type {T newId initId : String} {Bi : Builtin} {as : List Value} {Mid Q : Value → Shared → Prop} (tc : TypeCalled T newId initId) (entry : entryFor table initId = some Bi)
    (test : ∀ {Q' : Unit → Shared → Prop} {E' : Value → Shared → Prop}, Q' () s → wpAny (model prog w) A.in1 (checkTypeCall T ⟨as, []⟩) Q' E' s)
    (first : codeAny (model prog w) A.in1 (.call (.builtin newId) ⟨.type T :: as, []⟩) (wants Mid E) s)
    (second : ∀ v s₁, Mid v s₁ → s₁.TypeIs v T ∧ argsOk initId ⟨v :: as, []⟩ ∧ wpAny (model prog w) A.in1.in1 (Bi ⟨v :: as, []⟩) (fun fin s' => fin = .done (.ret .none) ∧ Q v s') E s₁) :
    wpAny (model prog w) A (call (.type T) as) Q E s := by
  have a1 := tc.notType
  have a2 := tc.canCreate
  have a3 := tc.made
  have a4 := tc.sub
  obtain ⟨top, rest, a5⟩ := tc.mro
  refine wpAny_call (codeAny_of_tree ?_)
  show wpAny _ _ (callAny (.type T) _) _ _ _
  refine wpAny_pure ⟨Code.quiet_builtin _ (by decide +kernel), codeAny_builtin F.entry_type_call ?_⟩
  rw [Around.under_plain (weight_type_call_type T as []) (units_type_call_type T as [])]
  repeat (any_goals (first | assumption | (with_reducible refine test ?_) | wp_step))
  refine codeAny_mono first fun r s₁ z => ?_
  cases r with
  | error e => exact z
  | ok fl => ?_
  cases fl with
  | next => exact z.elim
  | brk => exact z.elim
  | cont => exact z.elim
  | ret v => ?_
  obtain ⟨b1, b2, b3⟩ := second _ _ z
  have b4 := tc.init.lookup
  have b5 := tc.init.bind v
  repeat (any_goals (first | assumption | wp_step))
  refine codeAny_mono (codeAny_call_builtin (R := wants (fun r s₂ => r = .none ∧ Q v s₂) E) tc.init.plain entry (tc.init.check _ _ _ _ _ _ _ _ b1 b2 (wpAny_mono b3 (fun fin s' z => ?_) fun _ _ z => z))) fun r₂ s₂ z₂ => ?_
  · obtain ⟨rfl, z⟩ := z
    exact ⟨rfl, z⟩
  · rcases r₂ with e | (v₂ | _ | _ | _) <;> first | exact z₂ | exact z₂.elim | skip
    obtain ⟨rfl, z₃⟩ := z₂
    repeat (any_goals (first | assumption | wp_step))
theorem sup_made {Q : Value → Shared → Prop} (X : K.In s.heap) (hc : clsIn K D = some cdD) (hx : s.heap.get? x = some ox) (hxc : ox.cls = .ref C) (hn : notCls ox = true) (hs : mroIn K C (.ref D) = some true)
    (h : ∀ h', h'.get? s.heap.objs.size = some (supObj D x C) → (∀ a o, s.heap.get? a = some o → h'.get? a = some o) → Q (.ref s.heap.objs.size) { s with heap := h' }) : wpAny (model prog w) A (call (.type "super") [.ref D, .ref x]) Q E s := by
  obtain ⟨hp, g, d, tk, os⟩ := s
  have up : ∀ a o, hp.get? a = some o → (hp.push { cls := .type "super", data := .fields #[.none, .none, .none] }).get? a = some o := fun a o e => Heap.get?_push_of_some _ e
  have h0 : (hp.push { cls := .type "super", data := .fields #[.none, .none, .none] }).get? hp.objs.size = some { cls := .type "super", data := .fields #[.none, .none, .none] } := Heap.get?_push_size _ rfl
  refine made_by_type (Mid := fun v s₁ => v = .ref hp.objs.size ∧ s₁ = ⟨hp.push { cls := .type "super", data := .fields #[.none, .none, .none] }, g, d, tk, os⟩) sup_called sup_initE (fun hq => ?_) (codeAny_call_builtin sup_newP sup_newE (wpAny_of_eq (sup_newOk _ _) ?_)) fun v s₁ z => ?_
  · unfold checkTypeCall
    refine wpAny_bind (isType_K X hc ?_)
    exact wpAny_of_eq (a := ()) (by kernel_rfl) hq
  · unfold Builtin.«super.__new__» newFields
    exact wpAny_bind (wpAny_newObj_type (wpAny_pure ⟨rfl, rfl⟩))
  · obtain ⟨rfl, rfl⟩ := z
    exact ⟨⟨_, h0, rfl⟩, sup_initOk _ _ _, sup_init_run (Frag.In.keeps X up) hc (up _ _ hx) hxc hn hs h0 fun h' e k => ⟨rfl, h h' e fun a o ea => k a o (Nat.ne_of_lt (Heap.lt_size ea)) (up a o ea)⟩⟩
end
theorem md_get : Slot "method_descriptor" "__get__" "method_descriptor.__get__" := .of (owner := "method_descriptor") (n := "__get__") (by rw [typeLookup_type, builtinLookup_eq_fast]; kernel_rfl) (by decide +kernel) (by decide +kernel) (by decide +kernel)
  (by first | exact .inl (by decide +kernel) | exact .inr (by decide +kernel)) (by rw [isSubtype_type]; kernel_rfl)
theorem wd_get : Slot "wrapper_descriptor" "__get__" "wrapper_descriptor.__get__" := .of (owner := "wrapper_descriptor") (n := "__get__") (by rw [typeLookup_type, builtinLookup_eq_fast]; kernel_rfl) (by decide +kernel) (by decide +kernel) (by decide +kernel)
  (by first | exact .inl (by decide +kernel) | exact .inr (by decide +kernel)) (by rw [isSubtype_type]; kernel_rfl)
theorem md_getE : entryFor table "method_descriptor.__get__" = some Builtin.«method_descriptor.__get__» := entryFor_of_tree (by kernel_rfl)
theorem wd_getE : entryFor table "wrapper_descriptor.__get__" = some Builtin.«wrapper_descriptor.__get__» := entryFor_of_tree (by kernel_rfl)
theorem md_getOk (a b c : Value) : argsOk "method_descriptor.__get__" ⟨[a, b, c], []⟩ := by unfold argsOk; kernel_rfl
theorem wd_getOk (a b c : Value) : argsOk "wrapper_descriptor.__get__" ⟨[a, b, c], []⟩ := by unfold argsOk; kernel_rfl
theorem ty_pop : typeOf (.builtin "list.pop") = pure (.type "method_descriptor") := by show builtinType _ = _; rw [builtinType_eq_fast]; kernel_rfl
theorem ty_len : typeOf (.builtin "list.__len__") = pure (.type "wrapper_descriptor") := by show builtinType _ = _; rw [builtinType_eq_fast]; kernel_rfl
theorem ty_init : typeOf (.builtin "list.__init__") = pure (.type "wrapper_descriptor") := by show builtinType _ = _; rw [builtinType_eq_fast]; kernel_rfl
section
variable {prog : Program} {w : World} {A : Around} {s : Shared} {K : Frag} {D x C : Addr} {ox : Obj} {od : Option Obj}
noncomputable abbrev boundObj (T id : String) (x : Addr) : Obj := { cls := .type T, data := .fields #[.builtin id, .ref x] }
structure Binds (id T DT : String) : Prop where
  ty : typeOf (.builtin id) = pure (.type DT)
  get : ∃ g, typeLookup (.type DT) "__get__" = pure (some g) ∧ ∀ (prog : Program) (w : World) (A : Around) (s : Shared) (E : Value → Shared → Prop) (x C : Addr) (ox : Obj) (Q : Value → Shared → Prop), s.heap.get? x = some ox → ox.cls = .ref C → Looks (model prog w) s.heap (isSubtype (.ref C) (.type "list")) true →
    Q (.ref s.heap.objs.size) { s with heap := s.heap.push (boundObj T id x) } → wpAny (model prog w) A (call g [.builtin id, .ref x, .ref C]) Q E s
theorem isInst_list {M : Model} {A : Around} {E : Value → Shared → Prop} {Q : Bool → Shared → Prop} {s : Shared} {x C : Addr} {ox : Obj} (hx : s.heap.get? x = some ox) (hc : ox.cls = .ref C) (hs : Looks M s.heap (isSubtype (.ref C) (.type "list")) true) (h : Q true s) : wpAny M A (isInstance (.ref x) (.type "list")) Q E s := by
  unfold isInstance
  refine wpAny_bind ?_
  simp only [typeOf]
  refine wpAny_bind (wpAny_load hx (wpAny_pure ?_))
  rw [hc]
  exact hs.here h
theorem binds_pop : Binds "list.pop" "builtin_function_or_method" "method_descriptor" := by
  refine ⟨ty_pop, _, md_get.lookup, fun prog w A s E x C ox Q hx hc hs h => ?_⟩
  refine wpAny_call_entry md_get ty_pop md_getE ?_ (md_getOk _ _ _)
  unfold Builtin.«method_descriptor.__get__»
  refine wpAny_bind (wpAny_of_eq (a := (.builtin "list.pop", some (.ref x), some (.ref C))) (by kernel_rfl) ?_)
  dsimp only
  rw [if_neg (by decide +kernel)]
  refine wpAny_bind (wpAny_bind (wpAny_of_eq (a := (Str.ofString "pop", .type "list")) (by kernel_rfl) ?_))
  refine wpAny_bind (isInst_list hx hc hs ?_)
  refine wpAny_pure ?_
  exact wpAny_bind (wpAny_newObj_type (wpAny_pure ⟨_, rfl, h⟩))
theorem binds_len : Binds "list.__len__" "method-wrapper" "wrapper_descriptor" := by
  refine ⟨ty_len, _, wd_get.lookup, fun prog w A s E x C ox Q hx hc hs h => ?_⟩
  refine wpAny_call_entry wd_get ty_len wd_getE ?_ (wd_getOk _ _ _)
  unfold Builtin.«wrapper_descriptor.__get__»
  refine wpAny_bind (wpAny_of_eq (a := (.builtin "list.__len__", some (.ref x), some (.ref C))) (by kernel_rfl) ?_)
  refine wpAny_bind (wpAny_bind (wpAny_of_eq (a := (Str.ofString "__len__", .type "list")) (by kernel_rfl) ?_))
  refine wpAny_bind (isInst_list hx hc hs ?_)
  refine wpAny_pure ?_
  exact wpAny_bind (wpAny_newObj_type (wpAny_pure ⟨_, rfl, h⟩))
theorem binds_init : Binds "list.__init__" "method-wrapper" "wrapper_descriptor" := by
  refine ⟨ty_init, _, wd_get.lookup, fun prog w A s E x C ox Q hx hc hs h => ?_⟩
  refine wpAny_call_entry wd_get ty_init wd_getE ?_ (wd_getOk _ _ _)
  unfold Builtin.«wrapper_descriptor.__get__»
  refine wpAny_bind (wpAny_of_eq (a := (.builtin "list.__init__", some (.ref x), some (.ref C))) (by kernel_rfl) ?_)
  refine wpAny_bind (wpAny_bind (wpAny_of_eq (a := (Str.ofString "__init__", .type "list")) (by kernel_rfl) ?_))
  refine wpAny_bind (isInst_list hx hc hs ?_)
  refine wpAny_pure ?_
  exact wpAny_bind (wpAny_newObj_type (wpAny_pure ⟨_, rfl, h⟩))
theorem sup_getattr {so : Addr} {name : Str} {id T DT : String} {cd : ClassData} {rest : List Value} {tk : Tok} {Q : Fin → Shared → Prop} {E : Value → Shared → Prop} (X : K.In s.heap) (hso : s.heap.get? so = some (supObj C x C)) (hx : s.heap.get? x = some ox) (hc : ox.cls = .ref C) (hxC : x ≠ C)
    (hno : nsIn K cStatics "thirdparty.any" = some none) (hcd : clsIn K C = some cd) (hm : cd.mro = .ref C :: .type "list" :: rest) (hown : fastBuiltinOwn "list" name = some (.builtin id)) (b : Binds id T DT) (hn : (name == ("__class__" : Str)) = false)
    (h : Q (.done (.ret (.ref s.heap.objs.size))) { s with heap := s.heap.push (boundObj T id x) }) : wpAny (model prog w) A (Builtin.«super.__getattribute__» ⟨[.ref so, .str name tk], []⟩) Q E s := by
  obtain ⟨g, hg, hb⟩ := b.get
  unfold Builtin.«super.__getattribute__»
  refine wpAny_bind (wpAny_of_eq (a := some name) rfl ?_)
  refine wpAny_bind (wpAny_pure ?_)
  dsimp only
  refine wpAny_bind (wpAny_field hso rfl (x := .ref C) rfl ?_)
  refine wpAny_bind (wpAny_field hso rfl (x := .ref x) rfl ?_)
  refine wpAny_bind (wpAny_field hso rfl (x := .ref C) rfl ?_)
  rw [hn, if_neg (by simp)]
  refine wpAny_bind ?_
  unfold notOfAnOpaqueClass
  refine wpAny_bind ((looks_opaque X hno).here (wpAny_pure ?_))
  rw [if_neg (by simp)]
  have hmro : Looks (model prog w) s.heap (mroOf (.ref C)) cd.mro := (looks_clsIn X hcd).andThen .now
  refine wpAny_bind (hmro.here ?_)
  have hl : (cd.mro.dropWhile (· != .ref C)).drop 1 = .type "list" :: rest := by
    rw [hm, List.dropWhile_cons_of_neg (by simp)]; rfl
  rw [hl, List.forIn_cons]
  refine wpAny_bind (wpAny_bind (wpAny_bind ((looks_ownIn X (c := .type "list") (name := name) rfl).here ?_)))
  rw [hown]
  dsimp only
  refine wpAny_bind (wpAny_of_eq b.ty ?_)
  refine wpAny_bind (wpAny_of_eq hg ?_)
  dsimp only
  have hne : (Value.ref x == Value.ref C) = false := by simp [hxC]
  rw [hne, if_neg (by decide)]
  have hsub : Looks (model prog w) s.heap (isSubtype (.ref C) (.type "list")) true := looks_mroIn X (by unfold mroIn; rw [hcd, Option.bind_some, hm]; rfl)
  refine wpAny_bind (wpAny_holding (hb prog w A s _ x C ox _ hx hc hsub ?_))
  exact wpAny_bind (wpAny_pure (wpAny_pure (wpAny_pure (wpAny_pure h))))
theorem sup_method {so : Addr} {name : Str} {id T DT : String} {cd : ClassData} {rest : List Value} {pl : Sem Bool} {Q : Value × List Value → Shared → Prop} {E : Value → Shared → Prop} (X : K.In s.heap) (hso : s.heap.get? so = some (supObj C x C)) (hx : s.heap.get? x = some ox) (hc : ox.cls = .ref C) (hxC : x ≠ C)
    (hno : nsIn K cStatics "thirdparty.any" = some none) (hcd : clsIn K C = some cd) (hm : cd.mro = .ref C :: .type "list" :: rest) (hown : fastBuiltinOwn "list" name = some (.builtin id)) (b : Binds id T DT) (hn : (name == ("__class__" : Str)) = false)
    (h : Q (.ref s.heap.objs.size, []) { s with heap := s.heap.push (boundObj T id x), toks := s.toks + 1 }) : wpAny (model prog w) A (getMethod (.ref so) name pl) Q E s := by
  have hlk := sup_get.lookup
  have hT : ∀ t', ({ s with toks := t' } : Shared).TypeIs (.ref so) "super" := fun _ => ⟨_, hso, rfl⟩
  unfold getMethod
  refine wpAny_bind (wpAny_specialOf (hT s.toks) hlk ?_)
  show wpAny _ _ (if (Manifest.canonical "super.__getattribute__" != "object.__getattribute__") = true then _ else _) _ _ _
  rw [if_pos sup_getC]
  unfold getAttr getAttrBy
  refine wpAny_bind (wpAny_bind (wpAny_mkText (wpAny_holding (wpAny_bind (wpAny_typeOf (hT _) (wpAny_bind (wpAny_of_eq hlk ?_)))))))
  show wpAny _ _ (getAttrByItsOwn (.ref so) (.str name s.toks) (.type "super") (.builtin "super.__getattribute__") true false) _ _ _
  unfold getAttrByItsOwn hookBefore callGetattribute boundAndCalled
  refine wpAny_bind (wpAny_of_eq (show (if onTheHeap (.type "super") then typeLookup (.type "super") "__getattr__" else pure none) = pure none from rfl) ?_)
  refine wpAny_bind (wpAny_attempt (wpAny_holding ?_))
  show wpAny _ _ (bindSpecial (.builtin "super.__getattribute__") (.ref so) >>= _) _ _ _
  refine wpAny_bind (wpAny_of_eq (sup_get.bind _) ?_)
  refine wpAny_mono (Q := fun v s' => v = .ref s.heap.objs.size ∧ s' = { s with heap := s.heap.push (boundObj T id x), toks := s.toks + 1 }) (E := fun _ _ => False)
    (wpAny_call_entry sup_get (hT _) sup_getE (sup_getattr X hso hx hc hxC hno hcd hm hown b hn ⟨_, rfl, rfl, rfl⟩) (sup_getOk _ _)) (fun v s' hv => ?_) fun _ _ z => z.elim
  obtain ⟨rfl, rfl⟩ := hv
  exact wpAny_pure (wpAny_pure h)
theorem bound_builtin {bo : Addr} {T id : String} {v : Value} {as : List Value} {R : Result → Shared → Prop} (hb : s.heap.get? bo = some { cls := .type T, data := .fields #[.builtin id, v] }) (hT : T = "builtin_function_or_method" ∨ T = "method-wrapper") (hq : (Code.builtin id ⟨v :: as, []⟩).quiet = true)
    (hck : wpAny (model prog w) A.in1 (checkBoundCall id ⟨v :: as, []⟩) (fun _ s' => s' = s) (fun _ _ => False) s)
    (h : codeAny (model prog w) A (.builtin id ⟨v :: as, []⟩) R s) : codeAny (model prog w) A (.call (.ref bo) ⟨as, []⟩) R s := by
  refine codeAny_of_tree ?_
  show wpAny _ A.in1 (callAny (.ref bo) _) _ _ _
  unfold callAny
  refine wpAny_bind (wpAny_load hb ?_)
  rcases hT with rfl | rfl
  · refine wpAny_bind (wpAny_mono hck (fun _ s' z => ?_) fun _ _ z => z.elim)
    subst z
    exact wpAny_pure ⟨hq, h⟩
  · refine wpAny_bind (wpAny_mono hck (fun _ s' z => ?_) fun _ _ z => z.elim)
    subst z
    exact wpAny_pure ⟨hq, h⟩
theorem bound_keeper {bo : Addr} {T id : String} {x : Addr} {h : Heap} {M : Model} (hT : T = "builtin_function_or_method" ∨ T = "method-wrapper") (hb : h.get? bo = some (boundObj T id x)) : Looks M h (keeperOf (.ref bo)) .machine := fun A Q E s k q => by
  unfold keeperOf
  refine wpAny_bind (wpAny_load (k _ _ hb) ?_)
  rcases hT with rfl | rfl
  · exact wpAny_pure q
  · exact wpAny_pure q
end
section
variable {prog : Program} {w : World} {A : Around} {s : Shared} {K : Frag} {x C : Addr} {d : Option Addr} {vs : Array Value} {m : Nat} {R : Result → Shared → Prop}
noncomputable abbrev linstObj (C : Addr) (d : Option Addr) (vs : Array Value) (m : Nat) : Obj := { cls := .ref C, dict := d, data := .seq vs m }
theorem entry_list_init : entryFor table "list.__init__" = some Builtin.«list.__init__» := entryFor_of_tree (by kernel_rfl)
theorem wpAny_listItems {M : Model} {E : Value → Shared → Prop} {o : Obj} {Q : Array Value → Shared → Prop} (hx : s.heap.get? x = some o) (hd : o.data = .seq vs m) (h : Q vs s) : wpAny M A (Builtin.List.listItems (.ref x)) Q E s := by
  unfold Builtin.List.listItems
  exact wpAny_bind (wpAny_seqItems hx hd (wpAny_pure h))
theorem code_pop {v : Value} (hx : s.heap.get? x = some (linstObj C d vs m)) (hv : vs[vs.size - 1]? = some v) (hz : vs.size ≤ sizeLine)
    (h : R (.ok (.ret v)) { s with heap := s.heap.update x (Obj.mapSeq (·.eraseIdxIfInBounds (vs.size - 1))) }) : codeAny (model prog w) A (.builtin "list.pop" ⟨[.ref x], []⟩) R s := by
  have hlt : vs.size - 1 < vs.size := (Array.getElem?_eq_some_iff.mp hv).1
  refine codeAny_builtin F.entry_list_pop ?_
  unfold Builtin.«list.pop»
  refine wpAny_bind (wpAny_of_eq (a := (.ref x, [])) rfl ?_)
  refine wpAny_bind (wpAny_pure ?_)
  dsimp only
  rw [if_neg (by decide +kernel)]
  refine wpAny_bind (wpAny_listItems hx rfl ?_)
  have he : vs.isEmpty = false := by
    cases q : vs.isEmpty with
    | false => rfl
    | true => rw [Array.isEmpty_iff_size_eq_zero] at q; omega
  rw [he, if_neg (by decide)]
  have hs : seqIndex? (-1) vs.size = some (vs.size - 1) := by
    unfold seqIndex?
    simp
    omega
  rw [hs]
  simp only [Option.bind_some, hv, Option.map_some]
  show wpAny _ _ (updateSeq x _ >>= _) _ _ _
  exact wpAny_bind (wpAny_updateSeq hx rfl (wpAny_pure h) hz (by simp [Array.eraseIdxIfInBounds, hlt]; omega))
theorem code_len (hx : s.heap.get? x = some (linstObj C d vs m)) (h : ∀ tk, R (.ok (.ret (.int vs.size tk))) { s with toks := s.toks + 1 }) : codeAny (model prog w) A (.builtin "list.__len__" ⟨[.ref x], []⟩) R s := by
  refine codeAny_builtin F.entry_list_len ?_
  unfold Builtin.«list.__len__»
  refine wpAny_bind (wpAny_of_eq (a := (.ref x, [])) rfl ?_)
  dsimp only
  refine wpAny_bind ?_
  unfold seqSize
  refine wpAny_bind (wpAny_loadPart hx ?_)
  refine wpAny_pure ?_
  unfold retInt
  exact wpAny_bind (wpAny_mkInt (wpAny_pure (h _)))
theorem code_init (hx : s.heap.get? x = some (linstObj C d vs m)) (hz : vs.size ≤ sizeLine)
    (h : R (.ok (.ret .none)) { s with heap := s.heap.update x (Obj.mapSeq fun _ => #[]) }) : codeAny (model prog w) A (.builtin "list.__init__" ⟨[.ref x], []⟩) R s := by
  refine codeAny_builtin entry_list_init ?_
  unfold Builtin.«list.__init__»
  dsimp only
  refine wpAny_bind (wpAny_listItems hx rfl ?_)
  show wpAny _ _ (updateSeq x _ >>= _) _ _ _
  exact wpAny_bind (wpAny_updateSeq hx rfl (wpAny_bind (wpAny_letGo (wpAny_pure h))) hz (Nat.zero_le _))
theorem bk_append : builtinKind "list.append" = some .method := by decide +kernel
theorem si_append : splitId "list.append" = some ("list", "append") := by decide +kernel
theorem code_append {v : Value} (hx : s.heap.get? x = some (linstObj C d vs m)) (hs : Looks (model prog w) s.heap (isSubtype (.ref C) (.type "list")) true) (hz : vs.size ≤ sizeLine)
    (h : R (.ok (.ret .none)) { s with heap := s.heap.update x (Obj.mapSeq (·.push v)) }) : codeAny (model prog w) A (.call (.builtin "list.append") ⟨[.ref x, v], []⟩) R s := by
  refine codeAny_call_builtin (by decide +kernel) F.entry_list_append ?_
  unfold checkBuiltinCall
  rw [bk_append, si_append]
  dsimp only
  refine wpAny_bind (isInst_list hx rfl hs ?_)
  refine wpAny_of_eq (a := ()) (by kernel_rfl) ?_
  unfold Builtin.«list.append»
  refine wpAny_bind (wpAny_of_eq (a := (.ref x, v)) rfl ?_)
  show wpAny _ _ (updateSeq x _ >>= _) _ _ _
  exact wpAny_bind (wpAny_updateSeq hx rfl (wpAny_pure h) hz (by simp; omega))
theorem isInst_module {M : Model} {E : Value → Shared → Prop} {o : Obj} {Q : Bool → Shared → Prop} (hx : s.heap.get? x = some o) (hc : o.cls = .ref C) (hs : Looks M s.heap (isSubtype (.ref C) (.type "module")) false) (h : Q false s) : wpAny M A (isInstance (.ref x) (.type "module")) Q E s := by
  unfold isInstance
  refine wpAny_bind ?_
  simp only [typeOf]
  refine wpAny_bind (wpAny_load hx (wpAny_pure ?_))
  rw [hc]
  exact hs.here h
theorem bk_pop : builtinKind "list.pop" = some .method := by decide +kernel
theorem bound_pop {o : Obj} {cd : ClassData} (hq : cd.qualname = Str.ofString "_Accumulator") (X : K.In s.heap) (hx : s.heap.get? x = some o) (hc : o.cls = .ref C) (hn : notCls o = true) (hcd : clsIn K C = some cd) (hm : mroIn K C (.type "module") = some false) (ht : typeIn K (.ref C) = some (.type "type")) :
    wpAny (model prog w) A (checkBoundCall "list.pop" ⟨[.ref x], []⟩) (fun _ s' => s' = s) (fun _ _ => False) s := by
  have key : ((Manifest.signature? "list.pop").map fun sig => Bind.checkArgs "list.pop" { sig with full := toString (Str.ofString "_Accumulator").toString ++ toString "." ++ toString (Bind.lastOf "list.pop") } ⟨[.ref x], []⟩) = some (pure ()) := by kernel_rfl
  unfold checkBoundCall
  cases hsig : Manifest.signature? "list.pop" with
  | none => exact wpAny_pure rfl
  | some sig =>
    rw [bk_pop]
    dsimp only
    rw [if_neg (by decide)]
    refine wpAny_bind (isInst_module hx hc (looks_mroIn X hm) ?_)
    rw [if_neg (by decide +kernel)]
    refine wpAny_bind (isType_not hx hn ?_)
    have htx : wpAny (model prog w) A (typeOf (.ref x)) (fun v s' => v = .ref C ∧ s' = s) (fun _ _ => False) s := by
      simp only [typeOf]
      exact wpAny_bind (wpAny_load hx (wpAny_pure ⟨hc, rfl⟩))
    rw [if_neg (by simp)]
    refine wpAny_bind (wpAny_mono htx (fun v s' z => ?_) fun _ _ z => z)
    obtain ⟨rfl, rfl⟩ := z
    dsimp only
    refine wpAny_bind ((looks_clsIn X hcd).here ?_)
    refine wpAny_bind ((looks_typeIn X ht).here ?_)
    rw [if_pos (by decide)]
    rw [hsig, Option.map_some] at key
    rw [hq]
    exact wpAny_of_eq (Option.some.inj key) rfl
theorem bound_len : wpAny (model prog w) A (checkBoundCall "list.__len__" ⟨[.ref x], []⟩) (fun _ s' => s' = s) (fun _ _ => False) s := wpAny_of_eq (a := ()) (by kernel_rfl) rfl
theorem bound_init : wpAny (model prog w) A (checkBoundCall "list.__init__" ⟨[.ref x], []⟩) (fun _ s' => s' = s) (fun _ _ => False) s := wpAny_of_eq (a := ()) (by kernel_rfl) rfl
end
structure LMakes (K : Frag) (C : Addr) (cd : ClassData) : Prop where
  cls : clsIn K C = some cd
  abs : cd.abstract = false
  del : cd.hasDel = false
  mro : ∃ rest, cd.mro = .ref C :: .type "list" :: rest
  made : ∀ M h, K.In h → Looks M h (Bind.madeBy (.ref C)) (some "list.__new__")
  base : ∀ M h, K.In h → Looks M h (Bind.staticBase (.ref C)) (.ref C)
  call : specialIn K (.ref C) "__call__" = some (some (.builtin "type.__call__"))
  typ : instIn K (.ref C) (.type "type") = some true
theorem bk_lnew : builtinKind "list.__new__" = some .builtinFn := by decide +kernel
theorem si_lnew : splitId "list.__new__" = some ("list", "__new__") := by decide +kernel
theorem quiet_lnew (a : Args) : (Code.builtin "list.__new__" a).quiet = true := Code.quiet_builtin _ (by decide +kernel)
theorem entry_lnew : entryFor table "list.__new__" = some Builtin.«list.__new__» := entryFor_of_tree (by kernel_rfl)
theorem own_lnew : ("list.__new__".splitOn ".__new__").headD "" = "list" := by simp +decide [String.splitOn, String.splitOnAux]
section
variable {prog : Program} {w : World} {A : Around} {s : Shared} {K : Frag} {C : Addr} {cd : ClassData}
theorem lnew_code {R : Result → Shared → Prop} {a : Value} (X : K.In s.heap) (L : LMakes K C cd)
    (h : R (.ok (.ret (.ref (s.heap.objs.size + 1)))) { s with heap := (s.heap.push emptyDict).push (linstObj C (some s.heap.objs.size) #[] 0) }) : codeAny (model prog w) A (.call (.builtin "list.__new__") ⟨[.ref C, a], []⟩) R s := by
  obtain ⟨rest, hm⟩ := L.mro
  have hsub : Looks (model prog w) s.heap (isSubtype (.ref C) (.type "list")) true := looks_mroIn X (by unfold mroIn; rw [L.cls, Option.bind_some, hm]; rfl)
  refine codeAny_call_builtin_code (quiet_lnew _) ?_
  unfold checkBuiltinCall
  rw [bk_lnew, si_lnew]
  dsimp only
  rw [if_pos (by decide)]
  refine wpAny_bind (isType_K X L.cls ?_)
  rw [if_neg (by decide)]
  refine wpAny_bind (hsub.here ?_)
  rw [if_neg (by decide)]
  refine wpAny_bind ((L.base _ _ X).here ?_)
  refine wpAny_bind ((L.made _ _ X).here ?_)
  dsimp only
  rw [if_neg (by decide +kernel)]
  refine wpAny_of_eq (a := ()) (by kernel_rfl) ?_
  refine PySem.codeAny_builtinAt entry_lnew ?_
  unfold Builtin.«list.__new__»
  refine PySem.wpAt_bind (PySem.wpAt_stack fun p below => ?_)
  dsimp only
  refine PySem.wpAt_of_wpAny ?_
  refine wpAny_bind (isType_K X L.cls ?_)
  rw [if_neg (by decide)]
  rw [own_lnew]
  refine wpAny_bind (hsub.here ?_)
  rw [if_neg (by decide)]
  refine wpAny_bind (wpAny_pure ?_)
  rw [if_neg (by simp [typeHasDict])]
  unfold newDict
  refine wpAny_bind (wpAny_newObj_type ?_ (by size_fits))
  dsimp only
  refine wpAny_bind ?_
  show wpAny _ _ (newObjAsIs _ _ _) _ _ _
  unfold newObjAsIs classHasDel
  refine wpAny_bind (wpAny_alloc ?_)
  have hc := L.cls
  unfold clsIn at hc
  split at hc
  rotate_left
  · cases hc
  rename_i oc od cd' sl ho
  cases hc
  dsimp only
  refine wpAny_bind (wpAny_bind (wpAny_load (Heap.get?_push_of_some _ (Heap.get?_push_of_some _ (X _ _ ho))) (wpAny_pure ?_)))
  rw [L.del]
  refine wpAny_pure (wpAny_pure ?_)
  show R _ _
  rw [Heap.size_push]
  exact h
theorem lmake_core {R : Result → Shared → Prop} {fI : Addr} {a : Value} {rest : List Value} (X : K.In s.heap) (L : LMakes K C cd) (hi : findIn K (.ref C) "__init__" = some (some (.ref fI))) (hf : typeIn K (.ref fI) = some (.type "function")) (hr : rest = [a])
    (hq : codeAny (model prog w) (A.under (.builtin "type.__call__" ⟨.ref C :: rest, []⟩)) (.call (.ref fI) ⟨.ref (s.heap.objs.size + 1) :: rest, []⟩) (InitBack (s.heap.objs.size + 1) R) { s with heap := (s.heap.push emptyDict).push (linstObj C (some s.heap.objs.size) #[] 0) }) :
    codeAny (model prog w) A (.call (.ref C) ⟨rest, []⟩) R s := by
  subst hr
  obtain ⟨mr, hm⟩ := L.mro
  have hc := L.cls
  unfold clsIn at hc
  split at hc
  rotate_left
  · cases hc
  rename_i oc od cd' sl ho
  cases hc
  obtain ⟨hp, g, d, tk, os⟩ := s
  have hC := X _ _ ho
  have hcall : Looks (model prog w) hp (specialOf (.ref C) "__call__") (some (.builtin "type.__call__")) := looks_specialIn X L.call
  have htyp : Looks (model prog w) hp (isInstance (.ref C) (.type "type")) true := looks_instIn X L.typ
  have hmro : Looks (model prog w) hp (mroOf (.ref C)) cd.mro := (looks_clsIn X L.cls).andThen .now
  refine codeAny_of_tree ?_
  show wpAny _ _ (callAny (.ref C) _) _ _ _
  unfold callAny
  refine wpAny_bind (wpAny_load hC ?_)
  show wpAny _ _ (callAny.viaDunder (.ref C) _) _ _ _
  unfold callAny.viaDunder
  refine wpAny_bind (hcall.at ?_)
  dsimp only
  rw [tc_bind]
  refine wpAny_bind (wpAny_pure (wpAny_bind (wpAny_pure ?_)))
  refine wpAny_pure (a := Fin.again (.call (.builtin "type.__call__") ⟨[.ref C, a], []⟩)) (And.intro rfl ?_)
  refine codeAny_call_builtin_at (Code.quiet_builtin _ (by decide +kernel)) entry_typeCall (check_slot tc_kind tc_split htyp (tc_args _ _ _) ?_)
  unfold Builtin.«type.__call__»
  refine wpAny_bind (hmro.at ?_)
  rw [hm, if_neg (by simp)]
  refine wpAny_bind ((L.made _ _ X).at ?_)
  dsimp only
  refine wpAny_bind (wpAny_pure ?_)
  refine wpAny_bind (wpAny_holding (wpAny_call (lnew_code (s := ⟨hp, g, d, tk, os⟩) X L ?_)))
  have k : ∀ b o, hp.get? b = some o → ((hp.push emptyDict).push (linstObj C (some hp.objs.size) #[] 0)).get? b = some o := fun b o e => Heap.get?_push_of_some _ (Heap.get?_push_of_some _ e)
  have hx : ((hp.push emptyDict).push (linstObj C (some hp.objs.size) #[] 0)).get? (hp.objs.size + 1) = some (linstObj C (some hp.objs.size) #[] 0) := by
    rw [show hp.objs.size + 1 = (hp.push emptyDict).objs.size from (Heap.size_push ..).symm]; exact Heap.get?_push_size _ rfl
  have X' : K.In ((hp.push emptyDict).push (linstObj C (some hp.objs.size) #[] 0)) := Frag.In.keeps X k
  have t1 : Looks (model prog w) ((hp.push emptyDict).push (linstObj C (some hp.objs.size) #[] 0)) (typeOf (.ref (hp.objs.size + 1))) (.ref C) := (Looks.ld hx).andThen .now
  have s1 : Looks (model prog w) ((hp.push emptyDict).push (linstObj C (some hp.objs.size) #[] 0)) (isSubtype (.ref C) (.ref C)) true := looks_mroIn X' (by unfold mroIn; rw [L.cls, Option.bind_some, hm]; simp)
  unfold isInstance
  refine wpAny_bind (wpAny_bind (t1.at (s1.at ?_)))
  rw [if_neg (by decide)]
  refine wpAny_bind (wpAny_holding ?_)
  unfold callSpecial? specialOf
  refine wpAny_bind (wpAny_bind (t1.at ((looks_findIn X' hi).at ?_)))
  refine wpAny_holding ?_
  refine wpAny_bind ((bind_fn X' _ hf).at ?_)
  refine wpAny_bind (wpAny_call (codeAny_mono hq fun r s' z => ?_))
  rcases r with e | (v | _ | _ | _) <;> first | exact z | exact z.elim | skip
  obtain ⟨rfl, z⟩ := z
  exact wpAny_pure (wpAny_pure z)
end
section
open PySem PySem.Calls PySem.W PyProof.Rows Builtin.ObjectAttr
section
variable {c : Ctx0} {b : Nat} {f : FI}
theorem refuse_list (self : Value) : refuseLoop self "__setattr__" [.type "list", .type "object"] = pure () := by kernel_rfl
theorem osa_open2 {prog : Program} {w : World} {A : Around} {s : Shared} {K : Frag} {x C : Addr} {R : Result → Shared → Prop} {ox : Obj} {od : Option Obj} {name : Str} {tk : Tok} {v : Value} {r : Option Value} {cd : ClassData} (X : K.In s.heap) (I : InstAt s.heap x ox C od)
    (hc : clsIn K C = some cd) (hp : cd.mro = [.ref C, .type "list", .type "object"]) (ht : takerIn K C name = some r)
    (h : ∀ b, wpAny (model prog w) A.in1 (match r with | some a => setByDescriptor a (.ref x) v | none => storeInOwnDict (.ref x) (.ref C) (.str name tk) name v b)
      (fun fin s' => match fin with | .done f => R (.ok f) s' | .again c' => c'.quiet = true ∧ codeAny (model prog w) A c' R s') (fun e s' => R (.error e) s') s) :
    codeAny (model prog w) A (.call (.builtin "object.__setattr__") ⟨[.ref x, .str name tk, v], []⟩) R s := by
  have SF := PySem.F.store_object
  have sub : Looks (model prog w) s.heap (isInstance (.ref x) (.type "object")) true := I.type.andThen (looks_mroIn X (by unfold mroIn; rw [hc, Option.bind_some, hp]; rfl))
  refine codeAny_call_builtin SF.slot.plain SF.entry (@check_slot (model prog w) _ _ s "object.__setattr__" "object" "__setattr__" (.ref x) [.str name tk, v] [] _ SF.kind SF.split sub (SF.args (.ref x) (.str name tk) v) ?_)
  obtain ⟨attr, ha, hr⟩ := Option.bind_eq_some_iff.mp ht
  have hm : Looks (model prog w) s.heap (mroOf (.ref C)) cd.mro := (looks_clsIn X hc).andThen .now
  have L3 : Looks (model prog w) s.heap (storeTaker? attr) r := by
    cases attr with
    | none => cases hr; exact .now
    | some a =>
      obtain ⟨b, hb, rfl⟩ := Option.map_eq_some_iff.mp hr
      refine (looks_takesIn X hb).andThen ?_
      cases b <;> exact .now
  rw [osa_eq, refuse_eq]
  refine wpAny_bind (wpAny_bind (I.type.here (wpAny_bind (hm.here ?_))))
  rw [hp, refuseLoop_ref, refuse_list]
  exact wpAny_pure (wpAny_bind (I.type.here (wpAny_bind ((looks_findIn X ha).here (wpAny_bind (L3.here (h _)))))))
theorem osa_own2 {A : Around} {s : Shared} {x C dx : Addr} {ox : Obj} {name : Str} {tk : Tok} {v : Value} {es : List DictEntry} {n : Nat} {R : Result → Shared → Prop} (X : c.K.In s.heap)
    (I : InstAt s.heap x ox C (some (W.dictOf es n))) (hd : ox.dict = some dx) {cd0 : ClassData} (hcl : clsIn c.K C = some cd0) (hp : cd0.mro = [.ref C, .type "list", .type "object"]) (ht : takerIn c.K C name = some none) (hh : (clsIn c.K C).any (·.hasDict) = true)
    (hl : (W.getL name es).isSome = true) (hz : (putL name (PyData.keyHash c.w.params name) (.str name s.toks) v es).length ≤ 1000)
    (h : R (.ok (.ret .none)) { s with heap := s.heap.update dx (Obj.putName name (PyData.keyHash c.w.params name) (.str name s.toks) v), toks := s.toks + 1 }) :
    codeAny (model c.prog c.w) A (.call (.builtin "object.__setattr__") ⟨[.ref x, .str name tk, v], []⟩) R s := by
  refine osa_open2 X I hcl hp ht fun b => ?_
  obtain ⟨cd, hc, hd'⟩ := any_some hh
  have D : s.heap.get? dx = some (W.dictOf es n) := by have := I.dict; rw [hd] at this; exact this
  have D' : (s.heap.update dx (Obj.putName name (PyData.keyHash c.w.params name) (.str name s.toks) v)).get? dx = some (W.dictOf (putL name (PyData.keyHash c.w.params name) (.str name s.toks) v es) (putN name es n)) := by
    rw [Heap.get?_update_self _ D (by rw [putName_dict]; rfl), putName_dict]
  obtain ⟨hx, hcl, hn, -⟩ := I
  obtain ⟨oc, odi, oda, osl⟩ := ox
  dsimp only at hcl hd
  subst hcl hd
  refine wpAny_bind (wpAny_pure (wpAny_bind (wpAny_bind (wpAny_loadPart hx (wpAny_bind ((looks_clsIn X hc).here ?_))))))
  rw [hd']
  refine wpAny_pure (a := some dx) (wpAny_bind (wpAny_pure (wpAny_bind ?_)))
  unfold nsSet
  refine wpAny_bind (wpAny_bind (wpAny_askSetting (wpAny_pure (wpAny_bind (wpAny_mkText (wpAny_bind (wpAny_loadPart D ?_)))))))
  dsimp only
  have cc : (!es.toArray.any (·.key.isStr name) && es.toArray.any (·.refKey)) = false := by
    rw [← Array.any_toList, ← Array.any_toList]
    unfold W.getL at hl
    dsimp only
    split at hl
    · rename_i en he
      rw [List.any_eq_true.mpr ⟨en, List.mem_of_find?_eq_some he, List.find?_some he⟩]; rfl
    · split at hl
      · cases hl
      · rename_i z; rw [Bool.not_eq_true] at z; rw [z, Bool.and_false]
  rw [aRefKeyMayBeTheName_at, cc]
  refine wpAny_updatePart D ?_
  refine wpAny_bind (wpAny_lookBehind D' (pastItsLine_dict (by rw [List.size_toArray, sizeLine_eq]; omega)) ?_)
  exact wpAny_pure h
noncomputable def setLst (C : Addr) (name : Str) (p q : PV) : SM Unit := fun st => pik fun r => ∃ i kvs xs, P4 (p = .ref i) (st[i]? = some (.linst C kvs xs)) (kvs.length ≤ 900) (r = ((), st.set i (.linst C (kvPut kvs name q) xs)))
theorem setLst_of {C : Addr} {name : Str} {st : List AO} {i : Nat} {q : PV} {kvs : List (Str × PV)} {xs : List PV} (h : st[i]? = some (.linst C kvs xs)) (hz : kvs.length ≤ 900) : setLst C name (.ref i) q st = some ((), st.set i (.linst C (kvPut kvs name q) xs)) :=
  pik_of ⟨_, _, _, rfl, h, hz, rfl⟩ fun z q' => by obtain ⟨_, _, _, e, e', _, q⟩ := q'; cases e; cases h.symm.trans e'; exact q
theorem RelS.linstAt {K : Frag} {ρ : Rho} {st : List AO} {h : Heap} (R : RelS K ρ st h) {i : Nat} {a C : Addr} {kvs : List (Str × PV)} {xs : List PV} (e : headAt ρ i = some a) (q : st[i]? = some (.linst C kvs xs)) :
    ∃ d vs m es n, P6 (ρ.ents[i]? = some [a, d]) (h.get? a = some (linstObj C (some d) vs m)) (RVs h ρ vs.toList xs) (h.get? d = some (W.dictOf es n)) (EntsR h ρ es kvs) (InstAt h a (linstObj C (some d) vs m) C (some (W.dictOf es n))) := by
  obtain ⟨r, hr⟩ := Yt e
  obtain ⟨a', d, vs, m, es, n, e1, e2, e3, e4, e5⟩ := R.objs i _ _ hr q
  cases e1
  exact ⟨d, vs, m, es, n, hr, e2, e3, e4, e5, ⟨e2, rfl, rfl, e4⟩⟩
theorem op_setLst {C : Addr} {name : Str} {cd : ClassData} (hcl : clsIn c.K C = some cd) (hp : cd.mro = [.ref C, .type "list", .type "object"]) (hd : cd.hasDict = true) (hs : findIn c.K (.ref C) "__setattr__" = some (some (.builtin "object.__setattr__"))) (ht : takerIn c.K C name = some none) :
    Op2 c b RU (fun o v => setAttr o name v) (setLst C name) := by
  constructor
  intro A hA ρ s st x z x' z' y st' e r r' R
  obtain ⟨i, kvs, xs, rfl, q, hz, e'⟩ := Zq e
  clear e; cases e'
  obtain ⟨a, ha, rfl⟩ := r.inv
  obtain ⟨d, vs, m, es, n, hr, ho, rx, hD, er, I⟩ := R.linstAt ha q
  have hl : (W.getL name es).isSome = true := by
    cases q : kvGet kvs name with
    | none => rw [ents_none er q]; rfl
    | some p => obtain ⟨v, hv, _⟩ := ents_get er q; rw [hv]; rfl
  have hlen := ents_length er
  have had : a ≠ d := fun q => by rw [q, hD] at ho; cases ho
  refine set_plain R.top I hs (osa_own2 (s := { s with toks := s.toks + 1 }) R.top I rfl hcl hp ht (by rw [hcl]; exact hd) hl (Nat.le_trans (putL_len ..) (by omega)) ?_)
  have D' : (s.heap.update d (Obj.putName name (PyData.keyHash c.w.params name) (.str name (s.toks + 1)) x')).get? d = some (W.dictOf (putL name (PyData.keyHash c.w.params name) (.str name (s.toks + 1)) x' es) (putN name es n)) := by
    rw [Heap.get?_update_self _ hD (by rw [putName_dict]; rfl), putName_dict]
  have hs : Heap.SameBut d s.heap (s.heap.update d (Obj.putName name (PyData.keyHash c.w.params name) (.str name (s.toks + 1)) x')) := Heap.SameBut.update ..
  have ha' := (hs.2 a had).trans ho
  obtain ⟨S, g⟩ := R.put (i := i) (ao' := .linst C (kvPut kvs name z') xs) hr (h' := s.heap.update d (Obj.putName name (PyData.keyHash c.w.params name) (.str name (s.toks + 1)) x'))
    (fun b o eb nb => (hs.2 b fun q => nb (by rw [q]; simp)).trans eb) (fun b m => by
      simp at m; rcases m with rfl | rfl
      · exact ⟨_, ha'⟩
      · exact ⟨_, D'⟩) fun g => ⟨a, d, _, _, _, _, rfl, ha', rx.carry (g.carry noFr), D', ents_put (er.carry (g.carry noFr)) (r'.grow g noFr) _ _⟩
  exact ⟨ρ, S, g, ⟨rfl, rfl, rfl⟩, trivial⟩
theorem RelS.linstPut {K : Frag} {ρ : Rho} {st : List AO} {h h' : Heap} (R : RelS K ρ st h) {i : Nat} {a d C : Addr} {kvs : List (Str × PV)} {xs' : List PV} {vs vs' : Array Value} {m m' : Nat} {es : List DictEntry} {n : Nat} (hr : ρ.ents[i]? = some [a, d]) (ho : h.get? a = some (linstObj C (some d) vs m))
    (hD : h.get? d = some (W.dictOf es n)) (er : EntsR h ρ es kvs) (hs : Heap.SameBut a h h') (e : h'.get? a = some (linstObj C (some d) vs' m')) (rx : RVs h ρ vs'.toList xs') :
    RelS K ρ (st.set i (.linst C kvs xs')) h' ∧ Grow [] ρ h ρ h' := by
  have had : d ≠ a := fun q => by rw [q, ho] at hD; cases hD
  have hD' := (hs.2 d had).trans hD
  exact R.put (i := i) (ao' := .linst C kvs xs') hr (fun b o eb nb => (hs.2 b fun q => nb (by rw [q]; simp)).trans eb) (fun b m => by
      simp at m; rcases m with rfl | rfl
      · exact ⟨_, e⟩
      · exact ⟨_, hD'⟩) fun g => ⟨a, d, _, _, _, _, rfl, e, rx.carry (g.carry noFr), hD', er.carry (g.carry noFr)⟩
structure OpB (c : Ctx0) (b : Nat) (id : String) (G : List PV → SM PV) : Prop where
  run : ∀ A, AOk b A → ∀ ρ s st vs ps y st', G ps st = some (y, st') → RVs s.heap ρ vs ps → RelS c.K ρ st s.heap → codeAny (model c.prog c.w) A (.builtin id ⟨vs, []⟩) (fun r s' => match r with
      | .ok (.ret v) => EndsS c.K RV ρ s y st' v s'
      | _ => False) s
noncomputable def lpopG (C : Addr) (ps : List PV) : SM PV := fun st => pik fun r => ∃ i kvs xs y, P5 (ps = [.ref i]) (st[i]? = some (.linst C kvs xs)) (xs.length ≤ sizeLine) (xs[xs.length - 1]? = some y) (r = (y, st.set i (.linst C kvs (xs.eraseIdx (xs.length - 1)))))
theorem lpop_of {C : Addr} {st : List AO} {i : Nat} {kvs : List (Str × PV)} {xs : List PV} {y : PV} (h : st[i]? = some (.linst C kvs xs)) (hz : xs.length ≤ sizeLine) (hy : xs[xs.length - 1]? = some y) : lpopG C [.ref i] st = some (y, st.set i (.linst C kvs (xs.eraseIdx (xs.length - 1)))) :=
  pik_of ⟨_, _, _, _, rfl, h, hz, hy, rfl⟩ fun z q' => by obtain ⟨_, _, _, _, e, e', _, e1, q⟩ := q'; cases e; cases h.symm.trans e'; cases hy.symm.trans e1; exact q
noncomputable def llenG (C : Addr) (ps : List PV) : SM PV := fun st => pik fun r => ∃ i kvs xs, P3 (ps = [.ref i]) (st[i]? = some (.linst C kvs xs)) (r = (.int xs.length, st))
theorem llen_of {C : Addr} {st : List AO} {i : Nat} {kvs : List (Str × PV)} {xs : List PV} (h : st[i]? = some (.linst C kvs xs)) : llenG C [.ref i] st = some (.int xs.length, st) :=
  pik_of ⟨_, _, _, rfl, h, rfl⟩ fun z q' => by obtain ⟨_, _, _, e, e', q⟩ := q'; cases e; cases h.symm.trans e'; exact q
noncomputable def linitG (C : Addr) (ps : List PV) : SM PV := fun st => pik fun r => ∃ i kvs xs, P4 (ps = [.ref i]) (st[i]? = some (.linst C kvs xs)) (xs.length ≤ sizeLine) (r = (.none, st.set i (.linst C kvs [])))
theorem linit_of {C : Addr} {st : List AO} {i : Nat} {kvs : List (Str × PV)} {xs : List PV} (h : st[i]? = some (.linst C kvs xs)) (hz : xs.length ≤ sizeLine) : linitG C [.ref i] st = some (.none, st.set i (.linst C kvs [])) :=
  pik_of ⟨_, _, _, rfl, h, hz, rfl⟩ fun z q' => by obtain ⟨_, _, _, e, e', _, q⟩ := q'; cases e; cases h.symm.trans e'; exact q
theorem upd_seq {h : Heap} {a C : Addr} {d : Option Addr} {vs : Array Value} {m : Nat} {f : Array Value → Array Value} (e : h.get? a = some (linstObj C d vs m)) : ∃ m', (h.update a (Obj.mapSeq f)).get? a = some (linstObj C d (f vs) m') := by
  exact ⟨if (f vs).size == vs.size then m else m + 1, by rw [Heap.get?_update_self _ e (by unfold Obj.mapSeq; rfl)]; rfl⟩
theorem op_lpop {C : Addr} : OpB c b "list.pop" (lpopG C) := by
  constructor
  intro A hA ρ s st vs ps y st' e r R
  obtain ⟨i, kvs, xs, y, rfl, q, hz, hy, e'⟩ := Zq e
  clear e; cases e'
  obtain ⟨_, rfl, r1⟩ := rvs1 r
  obtain ⟨a, ha, rfl⟩ := r1.inv
  obtain ⟨d, us, m, es, n, hr, ho, rx, hD, er, I⟩ := R.linstAt ha q
  have hl := rx.length
  rw [Array.length_toList] at hl
  obtain ⟨v, hv, rv⟩ := rx.getAt hy
  rw [← hl] at hv
  have hlt : us.size - 1 < us.size := (Array.getElem?_eq_some_iff.mp hv).1
  refine code_pop ho hv (by rw [hl]; exact hz) ?_
  obtain ⟨m', hm'⟩ := upd_seq (f := (·.eraseIdxIfInBounds (us.size - 1))) ho
  obtain ⟨S, g⟩ := R.linstPut hr ho hD er (Heap.SameBut.update ..) hm' (xs' := xs.eraseIdx (xs.length - 1)) (by
    have hE : (us.eraseIdxIfInBounds (us.size - 1)).toList = us.toList.eraseIdx (us.size - 1) := by simp [Array.eraseIdxIfInBounds, hlt]
    rw [hE, hl]
    exact rx.erase _)
  exact ⟨ρ, S, g, ⟨rfl, rfl, rfl⟩, rv.grow g noFr⟩
theorem op_llen {C : Addr} : OpB c b "list.__len__" (llenG C) := by
  constructor
  intro A hA ρ s st vs ps y st' e r R
  obtain ⟨i, kvs, xs, rfl, q, e'⟩ := Zq e
  clear e; cases e'
  obtain ⟨_, rfl, r1⟩ := rvs1 r
  obtain ⟨a, ha, rfl⟩ := r1.inv
  obtain ⟨d, us, m, es, n, hr, ho, rx, hD, er, I⟩ := R.linstAt ha q
  have hl := rx.length
  rw [Array.length_toList] at hl
  refine code_len ho fun tk => ?_
  rw [hl]
  exact EndsS.tok R (.int _ _)
theorem op_linit {C : Addr} : OpB c b "list.__init__" (linitG C) := by
  constructor
  intro A hA ρ s st vs ps y st' e r R
  obtain ⟨i, kvs, xs, rfl, q, hz, e'⟩ := Zq e
  clear e; cases e'
  obtain ⟨_, rfl, r1⟩ := rvs1 r
  obtain ⟨a, ha, rfl⟩ := r1.inv
  obtain ⟨d, us, m, es, n, hr, ho, rx, hD, er, I⟩ := R.linstAt ha q
  have hl := rx.length
  rw [Array.length_toList] at hl
  refine code_init ho (by rw [hl]; exact hz) ?_
  obtain ⟨m', hm'⟩ := upd_seq (f := fun _ => #[]) ho
  obtain ⟨S, g⟩ := R.linstPut hr ho hD er (Heap.SameBut.update ..) hm' (xs' := []) .nil
  exact ⟨ρ, S, g, ⟨rfl, rfl, rfl⟩, .none⟩
noncomputable def lappendG (C : Addr) (ps : List PV) : SM PV := fun st => pik fun r => ∃ i p kvs xs, P4 (ps = [.ref i, p]) (st[i]? = some (.linst C kvs xs)) (xs.length ≤ sizeLine) (r = (.none, st.set i (.linst C kvs (xs ++ [p]))))
theorem lappend_of {C : Addr} {st : List AO} {i : Nat} {p : PV} {kvs : List (Str × PV)} {xs : List PV} (h : st[i]? = some (.linst C kvs xs)) (hz : xs.length ≤ sizeLine) : lappendG C [.ref i, p] st = some (.none, st.set i (.linst C kvs (xs ++ [p]))) :=
  pik_of ⟨_, _, _, _, rfl, h, hz, rfl⟩ fun z q' => by obtain ⟨_, _, _, _, e, e', _, q⟩ := q'; cases e; cases h.symm.trans e'; exact q
theorem op_lappend {C : Addr} (hs : mroIn c.K C (.type "list") = some true) : OpL c b (fun vs => call (.builtin "list.append") vs) (lappendG C) := by
  constructor
  intro A hA ρ s st vs ps y st' e r R
  obtain ⟨i, p, kvs, xs, rfl, q, hz, e'⟩ := Zq e
  clear e; cases e'
  obtain ⟨_, v, rfl, r1, r2⟩ := rvs2 r
  obtain ⟨a, ha, rfl⟩ := r1.inv
  obtain ⟨d, us, m, es, n, hr, ho, rx, hD, er, I⟩ := R.linstAt ha q
  have hl := rx.length
  rw [Array.length_toList] at hl
  refine wpAny_call (code_append ho (looks_mroIn R.top hs) (by rw [hl]; exact hz) ?_)
  obtain ⟨m', hm'⟩ := upd_seq (f := (·.push v)) ho
  obtain ⟨S, g⟩ := R.linstPut hr ho hD er (Heap.SameBut.update ..) hm' (xs' := xs ++ [p]) (by rw [Array.toList_push]; exact rx.append (.cons r2 .nil))
  exact ⟨ρ, S, g, ⟨rfl, rfl, rfl⟩, .none⟩
noncomputable def lmethOk (K : Frag) (C : Addr) (name : Str) (fv : Value) (ty : String) : Bool := findIn K (.ref C) "__getattribute__" == some (some (.builtin "list.__getattribute__")) && findIn K (.ref C) "__getattr__" == some none && findIn K (.ref C) name == some (some fv) && typeIn K fv == some (.type ty) &&
  (ty == "function" || ty == "method_descriptor")
noncomputable def isLinst (C : Addr) (name : Str) (p : PV) (st : List AO) : Bool := pikB (∃ i kvs xs, P3 (p = .ref i) (st[i]? = some (.linst C kvs xs)) (kvGet kvs name = none))
theorem can_lget : (Manifest.canonical "list.__getattribute__" != "object.__getattribute__") = false := by decide +kernel
theorem meth_linst {C : Addr} {name : Str} {fv : Value} {ty : String} (hk : lmethOk c.K C name fv ty = true) : MethAt c name (isLinst C name) fv := by
  constructor
  intro A pl ρ s st v p Q hP r R h
  obtain ⟨i, kvs, xs, rfl, q, hn⟩ := pikB_inv hP
  obtain ⟨a, ha, rfl⟩ := r.inv
  obtain ⟨d, us, m, es, n, hr, ho, rx, hD, er, I⟩ := R.linstAt ha q
  simp only [lmethOk, Bool.and_eq_true, beq_iff_eq, Bool.or_eq_true] at hk
  obtain ⟨⟨⟨⟨h1, h2⟩, h3⟩, h4⟩, h5⟩ := hk
  unfold getMethod specialOf
  refine wpAny_bind (wpAny_bind (I.type.here ((looks_findIn R.top h1).here ?_)))
  dsimp only
  rw [can_lget, if_neg (by decide)]
  refine wpAny_bind (wpAny_bind (I.type.here ((looks_findIn R.top h2).here ?_)))
  refine wpAny_bind (wpAny_bind (I.type.here ((looks_findIn R.top h3).here (wpAny_bind ((looks_typeIn R.top h4).here ?_)))))
  have hns : Looks (model c.prog c.w) s.heap (nsGet d name) none := by
    intro A Q E s' k q
    unfold nsGet
    refine wpAny_bind (wpAny_loadPart (k _ _ hD) ?_)
    rw [nsLook_of (r := none) (by rw [lookIn_dict, ents_none er hn])]
    exact wpAny_pure q
  rcases h5 with h5 | h5
  · subst h5
    rw [if_neg (by decide +kernel)]
    refine wpAny_bind (wpAny_loadPart ho ?_)
    dsimp only
    refine wpAny_bind (hns.here ?_)
    rw [if_neg (by simp)]
    exact wpAny_bind (wpAny_rule (wpAny_pure h))
  · subst h5
    rw [if_neg (by decide +kernel)]
    refine wpAny_bind (wpAny_loadPart ho ?_)
    dsimp only
    refine wpAny_bind (hns.here ?_)
    rw [if_neg (by simp)]
    exact wpAny_bind (wpAny_rule (wpAny_pure h))
end
end
structure DenX (c : Ctx0) (b : Nat) (f : FI) (body : List Stmt) {α β : Type} (RA : Heap → Rho → α → β → Prop) (t : Sem α) (F : FM β) : Prop where
  run : ∀ A, AOk b A → ∀ ρ s es y es', F es = some (y, es') → RelF c.K f ρ es s.heap → PySem.wpAt (model c.prog c.w) A (.func body f.env) t (Ends c.K f RA ρ s y es') noE s
section
variable {c : Ctx0} {b : Nat} {f : FI} {body : List Stmt}
theorem Den.x {α β : Type} {RA : Heap → Rho → α → β → Prop} {t : Sem α} {F : FM β} (d : Den c b f RA t F) : DenX c b f body RA t F := ⟨fun A hA ρ s es y es' e R => PySem.wpAt_of_wpAny (d.run A hA ρ s es y es' e R)⟩
theorem denx_cons {st : Stmt} {rest : List Stmt} {F G : FM PF} (d : DenX c b f body RFl (exec st f.env) F) (d' : DenX c b f body RFl (execs rest f.env) G) : DenX c b f body RFl (execs (st :: rest) f.env) (seqE F G) := by
  constructor
  intro A hA ρ s es y es' e R
  obtain ⟨fl, es₁, e1, e2⟩ := Zd e
  rw [execs_cons]
  refine PySem.wpAt_bind (PySem.wpAt_mono (d.run A hA ρ s es fl es₁ e1 R) (fun flv s₁ z => ?_) fun _ _ z => z)
  obtain ⟨ρ₁, R₁, g₁, q₁, rf⟩ := z
  cases rf with
  | next => exact PySem.wpAt_mono (d'.run A hA ρ₁ s₁ es₁ y es' e2 R₁) (fun _ _ z => z.after g₁ q₁) fun _ _ z => z
  | brk => obtain ⟨rfl, rfl⟩ := spr e2; exact PySem.wpAt_of_wpAny (wpAny_pure ⟨ρ₁, R₁, g₁, q₁, .brk⟩)
  | cont => obtain ⟨rfl, rfl⟩ := spr e2; exact PySem.wpAt_of_wpAny (wpAny_pure ⟨ρ₁, R₁, g₁, q₁, .cont⟩)
  | ret r => obtain ⟨rfl, rfl⟩ := spr e2; exact PySem.wpAt_of_wpAny (wpAny_pure ⟨ρ₁, R₁, g₁, q₁, .ret r⟩)
theorem denx_return {x : Expr} {pos : Pos} {X : FM PV} (dx : DenX c b f body RV (eval x f.env) X) : DenX c b f body RFl (exec (.Return (some x) pos) f.env) (bindE X fun p => pureE (.ret p)) := by
  constructor
  intro A hA ρ s es y es' e R
  obtain ⟨p, es₁, e1, e2⟩ := Zd e
  obtain ⟨rfl, rfl⟩ := spr e2
  rw [exec_Return_some]
  refine PySem.wpAt_bind (PySem.wpAt_of_wpAny (wpAny_standAt ?_))
  refine PySem.wpAt_bind (PySem.wpAt_mono (dx.run A hA ρ s es p _ e1 R) (fun v s₁ z => ?_) fun _ _ z => z)
  obtain ⟨ρ₁, R₁, g₁, q₁, r₁⟩ := z
  exact PySem.wpAt_of_wpAny (wpAny_pure ⟨ρ₁, R₁, g₁, q₁, .ret r₁⟩)
theorem denx_expr {x : Expr} {pos : Pos} {X : FM PV} (dx : DenX c b f body RV (eval x f.env) X) (hi : interactive f.env = false) (hs : swapsWith x none pos.line f.env = pure false := by rfl) :
    DenX c b f body RFl (exec (.Expr x pos) f.env) (bindE X fun _ => pureE .next) := by
  constructor
  intro A hA ρ s es r es' e R
  obtain ⟨p, es₁, e1, e2⟩ := Zd e
  cases e2
  rw [exec_Expr _ _ _ hi hs]
  refine PySem.wpAt_bind (PySem.wpAt_of_wpAny (wpAny_standAt ?_))
  refine PySem.wpAt_bind (PySem.wpAt_mono (dx.run A hA ρ s es p es' e1 R) (fun v s₁ z => ?_) fun _ _ z => z)
  obtain ⟨ρ₁, R₁, g₁, q₁, r₁⟩ := z
  exact PySem.wpAt_of_wpAny (wpAny_dropValue ⟨ρ₁, R₁, g₁, q₁, .next⟩)
structure SupOk (c : Ctx0) (f : FI) (C cc cda fa : Addr) (slf : Str) (cd : ClassData) : Prop where
  sup : f.env.kindOf "super" = some .globalImplicit
  cls : f.env.kindOf "__class__" = some .free
  cell : f.env.cells.lookup ("__class__" : Str) = some cc
  func : f.env.func = some fa
  code : f.env.code = .ref cda
  fst : ∃ oc od fd osl ar, P3 (c.K.lookup fa = some ⟨oc, od, .func fd, osl⟩) ((fd.params.posonlyargs ++ fd.params.args).head? = some ar) (ar.arg = slf)
  cellIs : ∃ oc od osl, c.K.lookup cc = some ⟨oc, od, .cell (some (.ref C)), osl⟩
  file : ∃ oc od vs osl file tf, P3 (c.K.lookup cda = some ⟨oc, od, .fields vs, osl⟩) (vs[2]? = some (.str file tf)) (((c.prog.main.file : Str) == file) = true)
  top : (c.prog.main.scope.names.lookup ("super" : Str)).isSome = false
  glob : nsIn c.K mainGlobals "super" = some none
  blt : nsIn c.K builtinsNs "super" = some (some (.type "super"))
  any : nsIn c.K cStatics "thirdparty.any" = some none
  hcd : clsIn c.K C = some cd
  mro : cd.mro = [.ref C, .type "list", .type "object"]
theorem wpAt_noComps {M : Model} {A : Around} {E : Value → Shared → Prop} {s : Shared} {env : Env} {Q : List Env → Shared → Prop} (h : Q [] s) : PySem.wpAt M A (.func body env) comprehensionsAround Q E s := by
  unfold comprehensionsAround callersCodes
  refine PySem.wpAt_bind (PySem.wpAt_bind (PySem.wpAt_stack fun p below => ?_))
  dsimp only
  split
  · rename_i hc
    exact absurd (show (some env.frame != some env.frame) = true from hc) (by simp)
  · refine PySem.wpAt_of_wpAny (wpAny_pure (PySem.wpAt_of_wpAny (wpAny_pure ?_)))
    have e : pastTheWaiting ((.func body env, p) :: below) = (.func body env, p) :: pastTheWaiting.go false (some (.func body env)) below := rfl
    rw [e]
    exact h
noncomputable def isLinstC (C : Addr) (p : PV) (st : List AO) : Bool := pikB (∃ i kvs xs, p = .ref i ∧ st[i]? = some (.linst C kvs xs))
theorem denx_super {id T DT : String} {name : Str} {p0 p1 apos pos : Pos} {C cc cda fa : Addr} {self : Str} {cd : ClassData} {i : Nat} {G : List PV → SM PV} (ok : f.Ok) (X : SupOk c f C cc cda fa self cd) (hx : f.ln[i]? = some self)
    (op : OpB c b id G) (bd : Binds id T DT) (hT : T = "builtin_function_or_method" ∨ T = "method-wrapper") (hown : fastBuiltinOwn "list" name = some (.builtin id)) (hn : (name == ("__class__" : Str)) = false)
    (hq : ∀ as, (Code.builtin id as).quiet = true)
    (hck : ∀ A s x, c.K.In s.heap → (∃ d vs m, s.heap.get? x = some (linstObj C d vs m)) → wpAny (model c.prog c.w) A (checkBoundCall id ⟨[.ref x], []⟩) (fun _ s' => s' = s) (fun _ _ => False) s)
    (hline : (apos.endLine == pos.line) = true := by rfl) :
    DenX c b f body RV (eval (.Call (.Attribute (.Call (.Name "super" p0) [] [] p1) name apos) [] [] pos) f.env) (bindE (getL i) fun p => guardE (isLinstC C p) (liftS (G [p]))) := by
  constructor
  intro A hA ρ s es y es' e R
  obtain ⟨p, es₁, e1, e⟩ := Zd e
  obtain ⟨hp, e⟩ := guardE_some e
  obtain ⟨st', e2, rfl⟩ := Z2 e
  unfold getL at e1
  split at e1
  rotate_left
  · exact (nos e1).elim
  rename_i p' hg
  obtain ⟨rfl, rfl⟩ := spr e1
  obtain ⟨m, ns, nl, _⟩ := R.l
  have hself := nl i self hx
  rw [hg] at hself
  obtain ⟨v, hv, rv⟩ := rvo_some hself
  obtain ⟨j, kvs, xs, rfl, qj⟩ := pikB_inv hp
  obtain ⟨x, ha, rfl⟩ := rv.inv
  obtain ⟨d, us, mm, des, dn, hr, ho, rx, hD, er, I⟩ := R.s.linstAt ha qj
  have K := R.s.top
  obtain ⟨oc, od, fd, osl, ar, hfa, har, har2⟩ := X.fst
  obtain ⟨oc2, od2, osl2, hcc⟩ := X.cellIs
  obtain ⟨oc3, od3, vs3, osl3, file, tf, hcda, hvs, hfile⟩ := X.file
  have hxD : x ≠ C := by
    rintro rfl
    have hc := X.hcd
    unfold clsIn at hc
    split at hc
    · rename_i q
      have := K _ _ q
      rw [ho] at this
      cases this
    · cases hc
  have hsub : mroIn c.K C (.ref C) = some true := by unfold mroIn; rw [X.hcd, Option.bind_some, X.mro]; simp
  rw [arm_eval_Call]
  refine PySem.wpAt_bind ?_
  have k1 := X.sup
  have k2 := X.cls
  have k3 := X.func
  have k4 := X.code
  unfold attributeBase
  simp only [bne_self_eq_false, hn, k1, k2, k3, k4, Bool.or_false, Bool.or_self, Bool.false_eq_true, if_false, Option.isSome_some, if_true, pure_bind]
  unfold funcData
  refine PySem.wpAt_bind (PySem.wpAt_of_wpAny (wpAny_bind (wpAny_load (K _ _ hfa) ?_)))
  refine wpAny_pure ?_
  simp only [har]
  refine PySem.wpAt_bind (PySem.wpAt_of_wpAny (wpAny_askSetting ?_))
  refine PySem.wpAt_bind (PySem.wpAt_of_wpAny (wpAny_field (K _ _ hcda) rfl hvs ?_))
  have hfile' : ((model c.prog c.w).prog.main.file == file) = true := hfile
  have htop' : (List.lookup (Str.ofString "super") (model c.prog c.w).prog.main.scope.names).isSome = false := X.top
  simp only [hfile', htop', if_true, Bool.false_eq_true, if_false]
  refine PySem.wpAt_bind (PySem.wpAt_of_wpAny (wpAny_rule ?_))
  refine PySem.wpAt_bind (PySem.wpAt_of_wpAny (wpAny_standAt ?_))
  refine PySem.wpAt_bind (PySem.wpAt_of_wpAny (loads_builtin ok K k1 X.glob X.blt ?_))
  refine PySem.wpAt_bind (PySem.wpAt_of_wpAny (wpAny_loadName_free ok.kind k2 X.cell ⟨_, K _ _ hcc, rfl⟩ ?_))
  refine PySem.wpAt_bind (wpAt_noComps ?_)
  show PySem.wpAt _ _ _ (loadName f.env ar.arg >>= _) _ _ _
  rw [har2]
  refine PySem.wpAt_bind (PySem.wpAt_of_wpAny (wpAny_loadName_local ok.kind (ok.loc self (List.mem_of_getElem? hx)) ns hv ?_))
  refine PySem.wpAt_bind (PySem.wpAt_of_wpAny (isType_K K X.hcd ?_))
  refine PySem.wpAt_of_wpAny ?_
  show wpAny _ _ (call (.type "super") [.ref C, .ref x]) _ _ _
  refine sup_made K X.hcd ho rfl rfl hsub fun h₁ hso k => ?_
  obtain ⟨S₁, g₁⟩ := R.s.ext k
  refine PySem.wpAt_of_wpAny ?_
  refine wpAny_bind (wpAny_standAt ?_)
  have hpos : methodCallPos true (.Call (.Name "super" p0) [] [] p1) f.env apos pos = pure pos := by unfold methodCallPos; simp [hline]
  unfold methodCall
  have hfew : methodCallForm (([] : List Expr).length + ([] : List Keyword).length) (backTo pos (starEach [] f.env)) (backToKw pos (keywordEach [] f.env)) = true := rfl
  rw [hfew]
  refine wpAny_bind (wpAny_holding (sup_method (s := { s with heap := h₁ }) S₁.top hso (k _ _ ho) rfl hxD X.any X.hcd X.mro hown bd hn ?_))
  obtain ⟨S₂, g₂⟩ := S₁.pushObj (boundObj T id x)
  have hbo : (h₁.push (boundObj T id x)).get? h₁.objs.size = some (boundObj T id x) := Heap.get?_push_size _ rfl
  refine wpAny_bind (wpAny_of_eq hpos ?_)
  refine callWith_of (P := fun h => h.get? h₁.objs.size = some (boundObj T id x)) rfl (fun h hP => ⟨.machine, .inr (.inl rfl), bound_keeper hT hP⟩) (Yk rfl (Calls.spliced_nil ⟨hbo, ?_⟩))
  have ho2 : (h₁.push (boundObj T id x)).get? x = some (linstObj C (some d) us mm) := Heap.get?_push_of_some _ (k _ _ ho)
  refine wpAny_call (bound_builtin hbo hT (hq _) (hck _ _ _ S₂.top ⟨_, _, _, ho2⟩) ?_)
  have gg := g₁.trans g₂
  have rr : RVs (h₁.push (boundObj T id x)) ρ [.ref x] [.ref j] := .cons (.ref ha) .nil
  refine codeAny_mono (op.run A hA ρ { s with heap := h₁.push (boundObj T id x), toks := s.toks + 1 } es.st [.ref x] [.ref j] y st' e2 rr S₂) fun r s' z => ?_
  rcases r with e | (v | _ | _ | _) <;> first | exact z.elim | skip
  obtain ⟨ρ', S', g', q', rv'⟩ := z
  have g3 := gg.trans g'
  exact ⟨ρ', R.ofS S' g3, g3.wider (by simp), ⟨q'.1, q'.2.1, q'.2.2⟩, rv'⟩
end
section
variable {c : Ctx0} {b : Nat}
theorem codeAny_funcX {prog : Program} {w : World} {A : Around} {s : Shared} {body : List Stmt} {env : Env} {R : Result → Shared → Prop}
    (h : PySem.wpAt (model prog w) (A.deeper env) (.func body env) (execs body env) (fun f s' => R (.ok (.ret (match f with | .ret v => v | _ => .none))) s') noE s) : codeAny (model prog w) A (.func body env) R s := by
  refine PySem.codeAny_of_treeAt ?_
  show PySem.wpAt _ (A.deeper env) _ (do point; match ← (execs body env).onRaise (leaving env) with | .ret v => ret v | _ => ret .none) _ _ s
  refine PySem.wpAt_bind (PySem.wpAt_of_wpAny (wpAny_point (PySem.wpAt_bind ?_)))
  intro Γ p hc hΓ
  rw [Sem.wp_onRaise]
  refine Sem.wp_mono _ Γ _ (fun f p' s' z => ?_) (fun e p' s' z => z.elim) p s (h Γ p hc hΓ)
  cases f <;> exact PySem.wpAt_of_wpAny (wpAny_pure z)
theorem fun_defX {a : Addr} {fd : FuncData} {body : List Stmt} {names ln : List Str} {np : Nat} {dvs : List Value} {dps : List PV} {li : List (Option Nat)} {F : FM PF} (X : DefAt c.K a fd body)
    (hcell : ∀ x ∈ fd.scope.names, x.2 ≠ .cell) (hloc : ∀ x ∈ names, fd.scope.names.lookup x = some .local) (nd : names.Nodup)
    (hln : ∀ x ∈ names, x ∈ ln) (hli : ln.map names.idxOf? = li) (hdp : ∀ h ρ, RVs h ρ dvs dps) (hn : names.length = np + dvs.length)
    (hbind : ∀ s vs, vs.length = np → c.K.In s.heap → BindsTo s fd ⟨vs, []⟩ (names.zip (vs ++ dvs)))
    (D : ∀ L, DenX c b ⟨callEnv fd L a, ln, []⟩ body RFl (execs body (callEnv fd L a)) F) : FunK c (b + 1) (.ref a) np [] (runK np dps li [] F) := by
  constructor
  · intro ps st r e
    obtain ⟨_, _, h, _, _⟩ := Zq e
    exact h
  intro A hA ρ s st vs ps y st' e r R
  obtain ⟨fl, es, hlen, q, e'⟩ := Zq e
  clear e; cases e'
  have hvl := r.length
  have r' : RVs s.heap ρ (vs ++ dvs) (ps ++ dps) := r.append (hdp _ _)
  have hvs : names.length = (vs ++ dvs).length := by rw [List.length_append, hvl, hlen, hn]
  obtain ⟨oc, od, sl, ho⟩ := X.at_
  have hnm := zip_names (vs := vs ++ dvs) hvs
  rw [List.take_of_length_le (by rw [hvl, hlen]; exact Nat.le_refl _), List.zip_nil_left]
  refine codeAny_call_function (fd := fd) (body := body) (by have := hA.depth; have : recursionLimit = 1000 := rfl; omega) (R.top _ _ ho) rfl X.co X.gen X.body (codeRec_of R.top X.code) (hbind s vs (by rw [hvl, hlen]) R.top _ _ _ _ ?_)
  refine wpAny_newFunctionEnv hcell (fun x m => hloc x.1 (List.of_mem_zip m).1) (fun h₀ hns hsb => ?_) X.kind
  have hk : ∀ b o, s.heap.get? b = some o → h₀.get? b = some o := fun b o e => hsb.extBut b o (Nat.ne_of_lt (Heap.lt_size e)) (Heap.get?_push_of_some _ e)
  refine ⟨R.nolim.keeps hk, codeAny_funcX ?_⟩
  have fresh : s.heap.get? s.heap.objs.size = none := get_ge (Nat.le_refl _)
  obtain ⟨S, g₀⟩ := R.enter (wr := [s.heap.objs.size]) (h' := h₀) hk (fun a' m => by rw [List.mem_singleton.mp m]; exact fresh) (fun a' m => by rw [List.mem_singleton.mp m]; obtain ⟨o, _, _, e, _⟩ := hns; exact ⟨o, e⟩) (List.nodup_cons.mpr ⟨by simp, List.nodup_nil⟩)
  have hA' : AOk b (A.deeper (callEnv fd s.heap.objs.size a)) := ⟨hA.handled, by have := hA.depth; show A.depth + 1 + 2 * b ≤ 900; omega, by have := hA.units; show A.units + 3 + 20 * b ≤ 9000; omega⟩
  have RF : RelF c.K ⟨callEnv fd s.heap.objs.size a, ln, []⟩ (ρ.enter [s.heap.objs.size]) ⟨li.map fun o => o.bind fun i => (ps ++ dps)[i]?, [], st⟩ h₀ := by
    refine ⟨S, ⟨_, hns, fun i x hx => ?_, fun x hx => ?_⟩, fun i x a' e => by simp at e, fun a' m => ?_, List.nodup_cons.mpr ⟨by simp, List.nodup_nil⟩⟩
    · rw [Yz (by rw [hnm]; exact nd)]
      have : (li.map fun o => o.bind fun i => (ps ++ dps)[i]?)[i]? = some ((names.idxOf? x).bind fun i => (ps ++ dps)[i]?) := by
        rw [List.getElem?_map, ← hli, List.getElem?_map, hx]; rfl
      rw [this]
      exact (Yn r' hvs x).carry g₀
    · rw [Yz (by rw [hnm]; exact nd), Yg (by rintro ⟨p1, p2⟩ hp rfl; exact hx (hln _ (List.of_mem_zip hp).1))]
    · have : a' = s.heap.objs.size := by simp only [FI.fr, List.map_nil, List.mem_singleton] at m; exact m
      subst this; exact List.mem_append_left _ (List.mem_singleton.mpr rfl)
  refine PySem.wpAt_mono ((D s.heap.objs.size).run _ hA' (ρ.enter [s.heap.objs.size]) { s with heap := h₀, toks := s.toks + (names.zip (vs ++ dvs)).length } _ fl es q RF) (fun x s' z => ?_) fun _ _ z => z
  obtain ⟨ρ', R', g, sm, rf⟩ := z
  exact R.left hk (fun a' m => by rw [List.mem_singleton.mp m]; exact fresh) R'.s g (fun a' m => m) sm (by
    cases rf with
    | next => exact .none
    | brk => exact .none
    | cont => exact .none
    | ret r => exact r)
noncomputable def lmakeG (C : Addr) (G : List PV → SM PV) (ps : List PV) : SM PV := fun st => pik fun r => ∃ p st', P3 (ps = [p]) (G [.ref st.length, p] (st ++ [.linst C [] []]) = some (.none, st')) (r = (.ref st.length, st'))
theorem lmake_of {C : Addr} {G : List PV → SM PV} {p : PV} {st st' : List AO} (h : G [.ref st.length, p] (st ++ [.linst C [] []]) = some (.none, st')) : lmakeG C G [p] st = some (.ref st.length, st') :=
  pik_of ⟨_, _, rfl, h, rfl⟩ fun z q' => by obtain ⟨_, _, e, e', r⟩ := q'; cases e; cases h.symm.trans e'; exact r
theorem op_lmake {C fI : Addr} {cd : ClassData} {np : Nat} {G : List PV → SM PV} (L : LMakes c.K C cd) (hi : findIn c.K (.ref C) "__init__" = some (some (.ref fI))) (hf : typeIn c.K (.ref fI) = some (.type "function")) (oI : FunK c b (.ref fI) np [] G) :
    OpL c (b + 1) (fun vs => call (.ref C) vs) (lmakeG C G) := by
  constructor
  intro A hA ρ s st vs ps y st' e r R
  obtain ⟨p, _, rfl, e', q⟩ := Zq e
  clear e; cases q
  have e := e'
  obtain ⟨v, rfl, rp⟩ := rvs1 r
  obtain ⟨h, g, d, t, os⟩ := s
  replace R : RelS c.K ρ st h := R
  refine wpAny_call (lmake_core (s := ⟨h, g, d, t, os⟩) R.top L hi hf rfl ?_)
  have k : ∀ b o, h.get? b = some o → ((h.push emptyDict).push (linstObj C (some h.objs.size) #[] 0)).get? b = some o := fun b o e => Heap.get?_push_of_some _ (Heap.get?_push_of_some _ e)
  have hs1 : (h.push emptyDict).objs.size = h.objs.size + 1 := Heap.size_push ..
  have hx : ((h.push emptyDict).push (linstObj C (some h.objs.size) #[] 0)).get? (h.objs.size + 1) = some (linstObj C (some h.objs.size) #[] 0) := by rw [← hs1]; exact Heap.get?_push_size _ rfl
  have hd : ((h.push emptyDict).push (linstObj C (some h.objs.size) #[] 0)).get? h.objs.size = some emptyDict := Heap.get?_push_of_some _ (Heap.get?_push_size _ rfl)
  have hne : h.objs.size + 1 ≠ h.objs.size := Nat.succ_ne_self _
  obtain ⟨S, g₁⟩ := R.push (as := [h.objs.size + 1, h.objs.size]) (ao := .linst C [] []) (h' := (h.push emptyDict).push (linstObj C (some h.objs.size) #[] 0)) k
    (fun a m => by
      simp only [List.mem_cons, List.not_mem_nil, or_false] at m
      rcases m with rfl | rfl
      · exact get_ge (Nat.le_succ _)
      · exact get_ge (Nat.le_refl _))
    (fun a m => by
      simp only [List.mem_cons, List.not_mem_nil, or_false] at m
      rcases m with rfl | rfl
      · exact ⟨_, hx⟩
      · exact ⟨_, hd⟩) (by simp) (fun _ => ⟨_, _, #[], 0, [], _, rfl, hx, .nil, hd, .nil⟩)
  have hA' : AOk b (A.under (.builtin "type.__call__" ⟨[.ref C, v], []⟩)) := ⟨hA.handled, by have := hA.depth; show A.depth + 1 + 2 * b ≤ 900; omega, by have := hA.units; show A.units + 1 + 20 * b ≤ 9000; omega⟩
  have rself : RV ((h.push emptyDict).push (linstObj C (some h.objs.size) #[] 0)) (ρ.push [h.objs.size + 1, h.objs.size]) (.ref (h.objs.size + 1)) (.ref st.length) := .ref (by rw [← R.len]; exact headAt_push)
  refine codeAny_mono (oI.code hA' (s := ⟨(h.push emptyDict).push (linstObj C (some h.objs.size) #[] 0), g, d, t, os⟩) e (.cons rself (.cons (rp.grow g₁ noFr) .nil)) S) fun r s' z => ?_
  rcases r with e | (v' | _ | _ | _) <;> first | exact z.elim | skip
  obtain ⟨ρ', S', g', q', rv⟩ := z
  cases rv
  exact ⟨rfl, ρ', S', g₁.trans g', q', RV.grow g' noFr rself⟩
end
section
open PySem PySem.Calls PySem.W PyProof.Rows PySem.Spec
end
section
variable {c : Ctx0} {b : Nat} {f : FI}
theorem RelS.dict1At {K : Frag} {ρ : Rho} {st : List AO} {h : Heap} (R : RelS K ρ st h) {i : Nat} {a : Addr} {o : Option (Int × Str × PV)} (e : headAt ρ i = some a) {n : Nat} (q : st[i]? = some (.dict1 n o)) : ∃ es, P3 (h.get? a = some (W.dictOf es n)) (D1 h ρ o es) (a ∈ ρ.own) := by
  obtain ⟨r, hr⟩ := Yt e
  obtain ⟨a', es, e1, e2, e3⟩ := R.objs i _ _ hr q
  obtain ⟨rfl, _⟩ := List.cons.inj e1
  exact ⟨es, e2, e3, Yv (Yy hr a (by simp))⟩
noncomputable def its1 : Option (Int × Str × PV) → List PV
  | none => []
  | some (_, x, p) => [.tup [.str x, p]]
noncomputable def kvs1 (es : List DictEntry) : Option (Int × Str × PV) → List (Str × Value)
  | none => []
  | some (_, x, _) => match es with | [e] => [(x, e.val)] | _ => []
theorem dict1_at {w : World} {prog : Program} {h : Heap} {ρ : Rho} {a : Addr} {o : Option (Int × Str × PV)} {es : List DictEntry} {n : Nat} (e : h.get? a = some (W.dictOf es n)) (d : D1 h ρ o es) (hh : ∀ H x p, o = some (H, x, p) → H = hashStr w x) : h.DictAt (PySem.strKind prog w) a (kvs1 es o) n ∧ (kvs1 es o).length = (its1 o).length ∧ ∀ x p, its1 o = [.tup [.str x, p]] → ∃ v, kvs1 es o = [(x, v)] ∧ RV h ρ v p := by
  cases d with
  | none => exact ⟨⟨_, #[], e, ⟨rfl, rfl, rfl⟩, rfl, (by intro i hi; simp at hi), .nil, List.nodup_nil⟩, rfl, fun x p q => nomatch q⟩
  | some r =>
    rename_i H x t v p
    have hs : Value.isStrOf x (.str x t) = true := by unfold Value.isStrOf; simp
    refine ⟨⟨_, _, e, ⟨rfl, rfl, rfl⟩, rfl, fun i hi => ?_, .cons hs rfl .nil, List.nodup_cons.mpr ⟨by simp, List.nodup_nil⟩⟩, rfl, fun x' p' q => ?_⟩
    · have : i = ⟨H, .str x t, v⟩ := by simpa using hi
      subst this
      exact ⟨x, hs, hh _ _ _ rfl⟩
    · injection q with q _; injection q with q; injection q with q1 q2; injection q1 with q1; injection q2 with q2 _
      subst q1 q2
      exact ⟨v, rfl, r⟩
noncomputable def chkD (i n : Nat) (o : Option (Int × Str × PV)) (st : List AO) : Bool := @decide (st[i]? = some (.dict1 n o)) (Classical.propDecidable _)
theorem chkD_some {i n : Nat} {o : Option (Int × Str × PV)} {st : List AO} (h : chkD i n o st = true) : st[i]? = some (.dict1 n o) := by unfold chkD at h; exact (@decide_eq_true_iff _ (Classical.propDecidable _)).mp h
noncomputable def hashOk (hs : Str → Int) : Option (Int × Str × PV) → Bool
  | none => true
  | some (H, x, _) => H == hs x
theorem hashOk_of {hs : Str → Int} {o : Option (Int × Str × PV)} (h : hashOk hs o = true) : ∀ H x p, o = some (H, x, p) → H = hs x := by
  rintro H x p rfl
  exact beq_iff_eq.mp h
noncomputable def itsD (hs : Str → Int) (p : PV) (st : List AO) : Option Its := pik fun r => ∃ i n o, P4 (p = .ref i) (st[i]? = some (.dict1 n o)) (hashOk hs o = true) (r = (its1 o, chkD i n o))
theorem itsD_of {hs : Str → Int} {i n : Nat} {o : Option (Int × Str × PV)} {st : List AO} (h : st[i]? = some (.dict1 n o)) (hh : hashOk hs o = true) : itsD hs (.ref i) st = some (its1 o, chkD i n o) :=
  pik_of ⟨_, _, _, rfl, h, hh, rfl⟩ fun z q' => by obtain ⟨_, _, _, e, e', _, r⟩ := q'; cases e; cases h.symm.trans e'; exact r
theorem entry_di_iter : entryFor table "dict_itemiterator.__iter__" = some Builtin.«dict_keyiterator.__iter__» := by
  exact entryFor_alias (id' := "dict_keyiterator.__iter__") (by kernel_rfl) rfl (by decide +kernel) (by kernel_rfl)
theorem di_self {prog : Program} {w : World} {A : Around} {E : Value → Shared → Prop} {s : Shared} {it d : Addr} {i n ep : Nat} {ok ov : Value} {Q : Value → Shared → Prop} (hit : IsItemIter s.heap it d i n ep ok ov) (h : Q (.ref it) s) : wpAny (model prog w) A (pyIter (.ref it)) Q E s := by
  have hT : s.TypeIs (.ref it) "dict_itemiterator" := ⟨_, hit, rfl⟩
  refine wpAny_pyIter_slot hT F.slot_dict_itemiterator_iter (wpAny_call_entry F.slot_dict_itemiterator_iter hT entry_di_iter ?_ (F.args_dict_itemiterator_iter_1 _))
  show wpAny _ _ (ret (.ref it)) _ _ s
  exact wpAny_pure ⟨_, rfl, "dict_itemiterator", _, hT, F.slot_dict_itemiterator_next.lookup, h⟩
theorem items_iter {A : Around} (hA : A.handled = none) {elts : List Expr} {kk : Nat} {tpos : Pos} {i n : Nat} {o : Option (Int × Str × PV)} {ρ : Rho} {st : List AO} {s : Shared} {v d : Addr} (R : RelS c.K ρ st s.heap) (hv : s.heap.IsItemsView v d) (hd : headAt ρ i = some d) (q : st[i]? = some (.dict1 n o)) (hh : ∀ H x p, o = some (H, x, p) → H = hashStr c.w x) :
    wpAny (model c.prog c.w) A (pyIter (.ref v)) (ItEnds c A (.Tuple elts kk tpos) ρ s (its1 o, chkD i n o)) noE s := by
  obtain ⟨es, e0, d0, _⟩ := R.dict1At hd q
  obtain ⟨D0, l0, _⟩ := dict1_at (w := c.w) (prog := c.prog) e0 d0 hh
  refine wpAny_pyIter_items hv D0 ?_
  rw [l0]
  refine ⟨[s.heap.objs.size], fun k h ρ => (∃ ok ov, IsItemIter h s.heap.objs.size d k (its1 o).length n ok ov) ∧ headAt ρ i = some d, ⟨fun k h ρ h' ρ' p g kw => ?_, fun k h ρ p x m => ?_, fun ρ st k s' x hx p R hc hw => ?_, fun ρ st s' p R hc hw => ?_, fun k s' ρ Q p h => ?_⟩, fun x o e => Heap.get?_push_of_some _ e, fun x m => by rw [List.mem_singleton.mp m]; exact get_ge (Nat.le_refl _), by simp, fun cy => ⟨⟨_, _, Heap.get?_push_size _ rfl⟩, cy.head _ _ hd⟩, fun x m => ?_, ⟨rfl, rfl, rfl⟩⟩
  · obtain ⟨⟨ok, ov, z⟩, z2⟩ := p
    exact ⟨⟨ok, ov, kw _ (List.mem_singleton.mpr rfl) _ z⟩, g.head _ _ z2⟩
  · obtain ⟨⟨ok, ov, z⟩, z2⟩ := p
    rw [List.mem_singleton.mp m]
    exact ⟨_, z⟩
  · obtain ⟨⟨ok, ov, hit⟩, hd'⟩ := p
    obtain ⟨es, e1, d1, hown⟩ := R.dict1At hd' (chkD_some hc)
    obtain ⟨D1, l1, r1⟩ := dict1_at (w := c.w) (prog := c.prog) e1 d1 hh
    cases o with
    | none => exact nomatch hx
    | some z =>
      obtain ⟨H, y, p⟩ := z
      cases k with
      | succ k => exact nomatch hx
      | zero =>
        obtain rfl := Option.some.inj hx
        obtain ⟨u, hu, ru⟩ := r1 y p rfl
        rw [hu] at D1
        have hx0 : [(y, u)][0]? = some (y, u) := rfl
        refine wpAny_pyNext_items_item (kvs := [(y, u)]) hit D1 hx0 fun key h' hkey hout htup hsz keep => ?_
        refine ⟨_, rfl, wpAny_letOwnedTupleGo_items hout fun h2 hit2 hsame => ?_⟩
        have nT : s'.heap.objs.size ≠ s.heap.objs.size := fun q => by
          have h5 : s.heap.objs.size < s'.heap.objs.size := Heap.lt_size hit
          rw [q] at h5; exact Nat.lt_irrefl _ h5
        have k2 : Kept [s.heap.objs.size] s'.heap h2 := fun b o e nb => hsame.extBut b o (fun q => nb (List.mem_singleton.mpr q)) (keep b o (fun q => nb (List.mem_singleton.mpr q)) e)
        obtain ⟨t, rfl⟩ := Value.isStrOf_shape hkey
        refine ⟨.tup R.newOff ⟨_, hsame.extBut _ _ nT htup, rfl, _, rfl⟩ (.cons (.str y t) (.cons (ru.carry (k2.grow.carry hw)) .nil)), ⟨⟨_, _, hit2⟩, hd'⟩, k2, ⟨rfl, rfl, rfl⟩⟩
  · obtain ⟨⟨ok, ov, hit⟩, hd'⟩ := p
    obtain ⟨es, e1, d1, hown⟩ := R.dict1At hd' (chkD_some hc)
    obtain ⟨D1, l1, r1⟩ := dict1_at (w := c.w) (prog := c.prog) e1 d1 hh
    rw [← l1] at hit
    refine wpAny_pyNext_items_end hA hit D1 (List.getElem?_eq_none (Nat.le_refl _)) fun h' hx' => ⟨rfl, .of_extBut (by simp) hx', ⟨rfl, rfl, rfl⟩⟩
  · obtain ⟨⟨ok, ov, hit⟩, hd'⟩ := p
    exact di_self hit h
  · rw [List.mem_singleton.mp m]; exact ⟨_, Heap.get?_push_size _ rfl⟩
theorem denit_items {x : Str} {px apos cpos : Pos} {elts : List Expr} {kk : Nat} {tpos : Pos} {i : Nat} (ok : f.Ok) (hx : f.ln[i]? = some x) (hsm : ∃ o, c.K.lookup sysModules = some o) (hd : (x == ("__debug__" : Str)) = false := by decide) (hline : (apos.endLine == cpos.line) = true := by rfl) :
    DenIt c b f (.Tuple elts kk tpos) (.Call (.Attribute (.Name x px) "items" apos) [] [] cpos) (bindE (getL i) (itsE (itsD (hashStr c.w)))) := by
  constructor
  intro A hA ρ s es y es' e R
  obtain ⟨p, es₁, e1, e⟩ := Zd e
  unfold itsE at e
  obtain ⟨y', hg, e⟩ := Option.map_eq_some_iff.mp e
  obtain ⟨rfl, rfl⟩ := Prod.mk.inj e
  unfold getL at e1
  split at e1
  rotate_left
  · exact (nos e1).elim
  rename_i p' hgl
  obtain ⟨rfl, rfl⟩ := spr e1
  obtain ⟨m, ns, nl, _⟩ := R.l
  have hself := nl i x hx
  rw [hgl] at hself
  obtain ⟨v, hv, rv⟩ := rvo_some hself
  obtain ⟨_, _, j, rfl, q, hh, hg'⟩ := Zq hg
  clear hg; cases hg'
  have hh := hashOk_of hh
  obtain ⟨d, ha, rfl⟩ := rv.inv
  obtain ⟨ents, hd0, dd0, hown⟩ := R.s.dict1At ha q
  have hdS : (d == sysModules) = false := by
    rw [beq_eq_false_iff_ne]
    rintro rfl
    obtain ⟨o, ho⟩ := hsm
    exact R.s.notK ho hown
  obtain ⟨D0, _, _⟩ := dict1_at (w := c.w) (prog := c.prog) hd0 dd0 hh
  have hof : s.heap.DictOf (PySem.strKind c.prog c.w) d (kvs1 ents j) := by
    obtain ⟨o, es, r⟩ := D0; exact ⟨o, es, _, r⟩
  refine wpAny_Call_items hdS hof rfl hline (fun Q' h => wpAny_Name (wpAny_loadName_local ok.kind (ok.loc x (List.mem_of_getElem? hx)) ns hv h) hd) ?_
  obtain ⟨S1, g1⟩ := R.s.pushObj { cls := .type "dict_items", data := .fields #[.ref d] }
  have hv1 : (s.heap.push { cls := .type "dict_items", data := .fields #[.ref d] }).IsItemsView s.heap.objs.size d := ⟨_, Heap.get?_push_size _ rfl, rfl, rfl⟩
  exact wpAny_mono (items_iter (s := { s with heap := s.heap.push { cls := .type "dict_items", data := .fields #[.ref d] } }) hA.handled S1 hv1 ha q hh) (fun it s2 z => ItEnds.toF (s₁ := { s with heap := s.heap.push { cls := .type "dict_items", data := .fields #[.ref d] } }) (es := es) (R.ofS S1 g1) (g1.wider (by simp)) ⟨rfl, rfl, rfl⟩ R.like R.s z) fun _ _ z => z
noncomputable def ents1 (hs : Str → Int) : List Str → List Value → Tok → List DictEntry
  | [x], [v], t => [⟨hs x, .str x t, v⟩]
  | _, _, _ => []
noncomputable def o1 (hs : Str → Int) : List Str → List PV → Option (Int × Str × PV)
  | [x], [p] => some (hs x, x, p)
  | _, _ => none
theorem d1_of {h : Heap} {ρ : Rho} {hs : Str → Int} {kn : List Str} {ws : List Value} {ps : List PV} {t : Tok} (r : RVs h ρ ws ps) : D1 h ρ (o1 hs kn ps) (ents1 hs kn ws t) := by
  cases kn with
  | nil => exact .none
  | cons x kn =>
    cases kn with
    | cons y kn => exact .none
    | nil =>
      cases r with
      | nil => exact .none
      | cons r1 r2 =>
        cases r2 with
        | nil => exact .some r1
        | cons _ _ => exact .none
noncomputable def runD (np : Nat) (kn : List Str) (hs : Str → Int) (li : List (Option Nat)) (F : FM PF) (ps : List PV) : SM PV := fun st => pik fun x => ∃ r es, P3 (ps.length = np + kn.length) (F ⟨li.map fun o => o.bind fun i => (ps.take np ++ [.ref st.length])[i]?, [], st ++ [.dict1 kn.length (o1 hs kn (ps.drop np))]⟩ = some (r, es)) (x = (retOf r, es.st))
theorem runD_of {np : Nat} {kn : List Str} {hs : Str → Int} {li : List (Option Nat)} {F : FM PF} {ps : List PV} {st st' : List AO} {r : PF} {es : ES} {y : PV}
    (h : F ⟨li.map fun o => o.bind fun i => (ps.take np ++ [.ref st.length])[i]?, [], st ++ [.dict1 kn.length (o1 hs kn (ps.drop np))]⟩ = some (r, es)) (hn : ps.length = np + kn.length := by rfl) (hr : retOf r = y := by rfl) (hq : es.st = st' := by rfl) : runD np kn hs li F ps st = some (y, st') := by
  subst hr hq
  exact pik_of ⟨_, _, hn, h, rfl⟩ fun z q' => by obtain ⟨_, _, _, e, q⟩ := q'; cases h.symm.trans e; exact q
theorem fun_defD {a : Addr} {fd : FuncData} {body : List Stmt} {names ln : List Str} {np : Nat} {kn : List Str} {li : List (Option Nat)} {F : FM PF} (X : DefAt c.K a fd body)
    (hcell : ∀ x ∈ fd.scope.names, x.2 ≠ .cell) (hloc : ∀ x ∈ names, fd.scope.names.lookup x = some .local) (nd : names.Nodup)
    (hln : ∀ x ∈ names, x ∈ ln) (hli : ln.map names.idxOf? = li) (hn : names.length = np + 1)
    (hbind : ∀ (A : Around) (E : Value → Shared → Prop) (s : Shared) (vs ws : List Value) (Q : List (Str × Value) → Shared → Prop), vs.length = np → ws.length = kn.length →
      (∀ h' tk t, (∀ a o, s.heap.get? a = some o → h'.get? a = some o) → h'.get? s.heap.objs.size = some (W.dictOf (ents1 (hashStr c.w) kn ws t) kn.length) → Q (names.zip (vs ++ [.ref s.heap.objs.size])) { s with heap := h', toks := tk }) → wpAny (model c.prog c.w) A (bindArgs fd ⟨vs, kn.zip ws⟩) Q E s)
    (D : ∀ L, Den c b ⟨callEnv fd L a, ln, []⟩ RFl (execs body (callEnv fd L a)) F) : FunK c (b + 1) (.ref a) np kn (runD np kn (hashStr c.w) li F) := by
  constructor
  · intro ps st r e
    obtain ⟨_, _, h, _, _⟩ := Zq e
    exact h
  intro A hA ρ s st vs ps y st' e r R
  obtain ⟨fl, es, hlen, q, e'⟩ := Zq e
  clear e; cases e'
  have hvl := r.length
  obtain ⟨oc, od, sl, ho⟩ := X.at_
  have hvn : (vs.take np).length = np := by rw [List.length_take, hvl, hlen]; exact Nat.min_eq_left (Nat.le_add_right _ _)
  have hvs : names.length = (vs.take np ++ [Value.ref s.heap.objs.size]).length := by rw [List.length_append, hvn, hn]; rfl
  have hnm := zip_names (vs := vs.take np ++ [Value.ref s.heap.objs.size]) hvs
  refine codeAny_call_function (fd := fd) (body := body) (by have := hA.depth; have : recursionLimit = 1000 := rfl; omega) (R.top _ _ ho) rfl X.co X.gen X.body (codeRec_of R.top X.code) (hbind _ _ s (vs.take np) (vs.drop np) _ hvn (by rw [List.length_drop, hvl, hlen]; exact Nat.add_sub_cancel_left ..) fun h1 tk1 t1 k0 hget => ?_)
  obtain ⟨R₁, g₁⟩ := R.push (as := [s.heap.objs.size]) (ao := .dict1 kn.length (o1 (hashStr c.w) kn (ps.drop np))) k0 (fun a m => by rw [List.mem_singleton.mp m]; exact get_ge (Nat.le_refl _)) (fun a m => by rw [List.mem_singleton.mp m]; exact ⟨_, hget⟩) (List.nodup_cons.mpr ⟨by simp, List.nodup_nil⟩) fun g => ⟨_, _, rfl, hget, d1_of ((r.drop np).grow g noFr)⟩
  have r' : RVs h1 (ρ.push [s.heap.objs.size]) (vs.take np ++ [.ref s.heap.objs.size]) (ps.take np ++ [.ref st.length]) := ((r.take np).grow g₁ noFr).append (.cons (.ref (by rw [← R.len]; exact headAt_push)) .nil)
  generalize hs₁ : ({ s with heap := h1, toks := tk1 } : Shared) = s₁
  have hh1 : s₁.heap = h1 := by rw [← hs₁]
  rw [← hh1] at R₁ g₁ r' k0
  refine wpAny_newFunctionEnv hcell (fun x m => hloc x.1 (List.of_mem_zip m).1) (fun h₀ hns hsb => ?_) X.kind
  have hk : ∀ b o, s₁.heap.get? b = some o → h₀.get? b = some o := fun b o e => hsb.extBut b o (Nat.ne_of_lt (Heap.lt_size e)) (Heap.get?_push_of_some _ e)
  refine ⟨R₁.nolim.keeps hk, codeAny_func ?_⟩
  have fresh : s₁.heap.get? s₁.heap.objs.size = none := get_ge (Nat.le_refl _)
  obtain ⟨S, g₀⟩ := R₁.enter (wr := [s₁.heap.objs.size]) (h' := h₀) hk (fun a' m => by rw [List.mem_singleton.mp m]; exact fresh) (fun a' m => by rw [List.mem_singleton.mp m]; obtain ⟨o, _, _, e, _⟩ := hns; exact ⟨o, e⟩) (List.nodup_cons.mpr ⟨by simp, List.nodup_nil⟩)
  have hA' : AOk b (A.deeper (callEnv fd s₁.heap.objs.size a)) := ⟨hA.handled, by have := hA.depth; show A.depth + 1 + 2 * b ≤ 900; omega, by have := hA.units; show A.units + 3 + 20 * b ≤ 9000; omega⟩
  have RF : RelF c.K ⟨callEnv fd s₁.heap.objs.size a, ln, []⟩ ((ρ.push [s.heap.objs.size]).enter [s₁.heap.objs.size]) ⟨li.map fun o => o.bind fun i => (ps.take np ++ [.ref st.length])[i]?, [], st ++ [.dict1 kn.length (o1 (hashStr c.w) kn (ps.drop np))]⟩ h₀ := by
    refine ⟨S, ⟨_, hns, fun i x hx => ?_, fun x hx => ?_⟩, fun i x a' e => by simp at e, fun a' m => ?_, List.nodup_cons.mpr ⟨by simp, List.nodup_nil⟩⟩
    · rw [Yz (by rw [hnm]; exact nd)]
      have : (li.map fun o => o.bind fun i => (ps.take np ++ [PV.ref st.length])[i]?)[i]? = some ((names.idxOf? x).bind fun i => (ps.take np ++ [PV.ref st.length])[i]?) := by
        rw [List.getElem?_map, ← hli, List.getElem?_map, hx]; rfl
      rw [this]
      exact (Yn r' hvs x).carry g₀
    · rw [Yz (by rw [hnm]; exact nd), Yg (by rintro ⟨p1, p2⟩ hp rfl; exact hx (hln _ (List.of_mem_zip hp).1))]
    · have : a' = s₁.heap.objs.size := by simp only [FI.fr, List.map_nil, List.mem_singleton] at m; exact m
      subst this; exact List.mem_append_left _ (List.mem_singleton.mpr rfl)
  refine wpAny_mono ((D s₁.heap.objs.size).run _ hA' _ { s₁ with heap := h₀, toks := s₁.toks + (names.zip (vs.take np ++ [Value.ref s.heap.objs.size])).length } _ fl es q RF) (fun x s' z => ?_) fun _ _ z => z.elim
  obtain ⟨ρ', R', g, sm, rf⟩ := z
  have fin : ∀ v p, RV s'.heap ρ' v p → EndsS c.K RV ρ s p es.st v s' := fun v p rv => by
    obtain ⟨ρ₂, S₂, g₂, q₂, r₂⟩ := R₁.left hk (fun a' m => by rw [List.mem_singleton.mp m]; exact fresh) R'.s g (fun a' m => m) sm rv
    subst hs₁
    exact ⟨ρ₂, S₂, g₁.trans g₂, ⟨q₂.1, q₂.2.1, q₂.2.2⟩, r₂⟩
  cases rf with
  | next => exact fin _ _ .none
  | brk => exact fin _ _ .none
  | cont => exact fin _ _ .none
  | ret r => exact fin _ _ r
end
theorem Zy {P : Str → Prop} : ∀ x ∈ ([] : List Str), P x := fun _ m => nomatch m
theorem Zn {P : Str → Prop} {a : Str} {l : List Str} (h : P a) (t : ∀ x ∈ l, P x) : ∀ x ∈ a :: l, P x := fun x m => by
  rcases List.mem_cons.mp m with rfl | m
  · exact h
  · exact t x m
theorem ok_fn {fd : FuncData} {L a : Addr} {ln : List Str} {cns : List (Str × Nat)} (hk : fd.scope.kind = .function) (hg : fd.globals = mainGlobals) (hb : fd.builtins = builtinsNs) (hl : ∀ x ∈ ln, fd.scope.names.lookup x = some .local) (nd : ln.Nodup) : FI.Ok (FI.fn fd a ln cns L) :=
  ⟨hk, hg, hb, hl, nd⟩
theorem ok_call {fd : FuncData} {L a : Addr} {ln : List Str} {cn : List (Str × Addr)} (hk : fd.scope.kind = .function) (hg : fd.globals = mainGlobals) (hb : fd.builtins = builtinsNs) (hl : ∀ x ∈ ln, fd.scope.names.lookup x = some .local) (nd : ln.Nodup) : FI.Ok ⟨callEnv fd L a, ln, cn⟩ :=
  ⟨hk, hg, hb, hl, nd⟩
theorem Zx {f : FI} {scope : Scope} {cl : List (Str × Addr)} {ln : List Str} {C : Addr} (ok : f.Ok) (hk : scope.kind = .function) (hl : ∀ x ∈ ln, (compEnvC scope cl C f.env).kindOf x = some .local) (nd : ln.Nodup) : (f.comp scope cl ln C).Ok :=
  ⟨hk, ok.glob, ok.blt, hl, nd⟩
section
variable {c : Ctx0} {b : Nat} {f : FI}
theorem meth_or {name : Str} {P Q : PV → List AO → Bool} {fv : Value} (x : MethAt c name P fv) (y : MethAt c name Q fv) : MethAt c name (fun p st => P p st || Q p st) fv := by
  constructor
  intro A pl ρ s st v p K h r R q
  rw [Bool.or_eq_true] at h
  rcases h with h | h
  · exact x.run A pl ρ s st v p K h r R q
  · exact y.run A pl ρ s st v p K h r R q
noncomputable def orG (G G' : List PV → SM PV) (ps : List PV) : SM PV := fun st => pik fun r => G ps st = some r ∨ G' ps st = some r
theorem op_or {t : List Value → Sem Value} {G G' : List PV → SM PV} (x : OpL c b t G) (y : OpL c b t G') : OpL c b t (orG G G') := by
  constructor
  intro A hA ρ s st vs ps y' st' e r R
  rcases Zq e with q | q
  · exact x.run A hA ρ s st vs ps _ _ q r R
  · exact y.run A hA ρ s st vs ps _ _ q r R
structure LstOk (K : Frag) (C : Addr) (name : Str) : Prop where
  ex : ∃ cd, P3 (clsIn K C = some cd) (cd.mro = [.ref C, .type "list", .type "object"]) (cd.hasDict = true)
  set : findIn K (.ref C) "__setattr__" = some (some (.builtin "object.__setattr__"))
  tk : takerIn K C name = some none
theorem dena_lst {o : Expr} {name : Str} {pos : Pos} {C : Addr} {F : FM PV} (d : Den c b f RV (eval o f.env) F) (ok : LstOk c.K C name) : DenA c b f (.Attribute o name pos) (fun v => bindE F fun p => liftS (setLst C name p v)) := by
  obtain ⟨cd, h1, h2, h3⟩ := ok.ex
  constructor
  intro A hA ρ s es v p y es' e r R
  obtain ⟨po, es₁, e1, e⟩ := Zd e
  obtain ⟨st', e2, rfl⟩ := Z2 e
  rw [assign_Attribute]
  refine wpAny_bind (wpAny_holding (wpAny_mono (d.run A hA ρ s es po es₁ e1 R) (fun o s₁ z => ?_) fun _ _ z => z))
  obtain ⟨ρ₁, R₁, g₁, q₁, r₁⟩ := z
  refine wpAny_bind (wpAny_standAt (wpAny_bind (wpAny_holding (wpAny_mono ((op_setLst (b := b) h1 h2 h3 ok.set ok.tk).run A hA ρ₁ s₁ es₁.st o po v p () st' e2 r₁ (r.grow g₁ R.like) R₁.s) (fun _ s₂ z => ?_) fun _ _ z => z))))
  exact wpAny_release ((z.toF R₁).after g₁ q₁)
end
theorem hint_str (x : Str) (t : Tok) : Builtin.List.listLengthHint (.str x t) = pure false := by kernel_rfl
theorem type_str' (x : Str) (t : Tok) : typeOf (.str x t) = pure (.type "str") := rfl
section
variable {prog : Program} {w : World} {A : Around} {R : Result → Shared → Prop} {I S : Addr} {fp wr : List Addr} {n : Nat} {P : Nat → Value → Prop} {St : Nat → Heap → Prop}
theorem ext_loop (W : Walks prog w A.in1 I fp wr n P St) (hS : S ∉ fp) : ∀ (k i : Nat) (s : Shared) (acc : Array Value) (m : Nat), n - i = k → i ≤ n → St i s.heap → s.heap.get? S = some { cls := .type "list", data := .seq acc m } → acc.size + (n - i) ≤ sizeLine →
    (∀ s' (us : List Value) (m' : Nat), us.length = n - i → (∀ (j : Nat) v, us[j]? = some v → P (i + j) v) → s'.heap.get? S = some { cls := .type "list", data := .seq (acc ++ us.toArray) m' } → (∀ a o, a ∉ wr → a ≠ S → s.heap.get? a = some o → s'.heap.get? a = some o) → Same s s' → R (.ok (.ret .none)) s') →
    codeAny (model prog w) A (.builtin "list.extend.loop" ⟨[.ref S, .ref I, .none], []⟩) R s := by
  intro k
  induction k with
  | zero =>
    intro i s acc m hk hi hst hs hz h
    have hin : i = n := Nat.le_antisymm hi (Nat.le_of_sub_eq_zero hk)
    subst hin
    refine codeAny_builtin F.entry_extend_loop ?_
    rw [Around.under_plainId F.plain_extend_loop _]
    show wpAny _ A.in1 (pyNext (.ref I) >>= _) _ _ s
    refine wpAny_bind (W.done s _ _ hst fun h' tk kp => ?_)
    have hSw : S ∉ wr := fun q => hS (W.sub _ q)
    exact wpAny_pure (h _ [] m (by simp) (fun j v e => by simp at e) (by simpa using kp S _ hSw hs) (fun a o na _ e => kp a o na e) ⟨rfl, rfl, rfl⟩)
  | succ k ih =>
    intro i s acc m hk hi hst hs hz h
    have hlt : i < n := Nat.lt_of_sub_pos (hk ▸ Nat.succ_pos k)
    have hSw : S ∉ wr := fun q => hS (W.sub _ q)
    refine codeAny_builtin F.entry_extend_loop ?_
    rw [Around.under_plainId F.plain_extend_loop _]
    show wpAny _ A.in1 (pyNext (.ref I) >>= _) _ _ s
    refine wpAny_bind (W.item i s _ _ hlt hst fun v h' tk hv st' kp => ?_)
    have hs' := kp S _ hSw hs
    have hni : n - i = n - (i + 1) + 1 := by rw [← Nat.sub_sub, Nat.sub_add_cancel (Nat.sub_pos_of_lt hlt)]
    have hz1 : acc.size + 1 + (n - (i + 1)) ≤ sizeLine := by rw [hni] at hz; rw [Nat.add_assoc, Nat.add_comm 1]; exact hz
    have hz0 : acc.size ≤ sizeLine := Nat.le_trans (Nat.le_add_right _ _) hz
    show wpAny _ A.in1 (updateSeq S (·.push v) >>= _) _ _ _
    refine wpAny_bind (wpAny_updateSeq hs' rfl (wpAny_pure ⟨plainId_quiet F.plain_extend_loop _, ?_⟩) hz0 (by show (acc.push v).size ≤ sizeLine + 1; rw [Array.size_push]; exact Nat.succ_le_succ hz0))
    have hs2 : (h'.update S (Obj.mapSeq (·.push v))).get? S = some { cls := .type "list", data := .seq (acc.push v) (if (acc.push v).size == acc.size then m else m + 1) } := by
      rw [Heap.get?_update_self _ hs' (by unfold Obj.mapSeq; rfl)]; rfl
    refine ih (i + 1) _ (acc.push v) _ (Nat.succ.inj (hni.symm.trans hk)) hlt (W.frame _ h' _ st' fun b hb o e => (Heap.get?_update_other _ _ (fun q : S = b => hS (q ▸ hb))).trans e) hs2 (by rw [Array.size_push]; exact hz1) fun s'' us m' hl hp hs3 kk sm => ?_
    refine h s'' (v :: us) m' (by rw [List.length_cons, hl, hni]) (fun j u e => ?_) (by rw [hs3]; simp) (fun a o na nS e => kk a o na nS ((Heap.get?_update_other _ _ (Ne.symm nS)).trans (kp a o na e))) ⟨sm.1, sm.2.1, sm.2.2⟩
    cases j with
    | zero => simp at e; subst e; exact hv
    | succ j => simp at e; have := hp j u e; rwa [Nat.add_right_comm] at this
end
section
variable {c : Ctx0} {b : Nat}
noncomputable def extendS (ps : List PV) : SM PV := fun st => pik fun r => ∃ i x xs, P5 (ps = [.ref i, .str x]) (st[i]? = some (.list xs)) (x.cps.all (· < 128) = true) (xs.length + x.cps.size ≤ sizeLine) (r = (.none, st.set i (.list (xs ++ Yp x))))
theorem extendS_of {st : List AO} {i : Nat} {x : Str} {xs : List PV} (q : st[i]? = some (.list xs)) (ha : x.cps.all (· < 128) = true) (hz : xs.length + x.cps.size ≤ sizeLine) : extendS [.ref i, .str x] st = some (.none, st.set i (.list (xs ++ Yp x))) :=
  pik_of ⟨_, _, _, rfl, q, ha, hz, rfl⟩ fun z q' => by obtain ⟨_, _, _, e, q', _, _, e'⟩ := q'; cases e; cases q.symm.trans q'; exact e'
theorem op_extendS : OpL c b (fun vs => call (.builtin "list.extend") vs) extendS := by
  constructor
  intro A hA ρ s st vs ps y st' e r R
  obtain ⟨i, x, xs, rfl, q, ha, hz, e'⟩ := Zq e
  clear e; cases e'
  obtain ⟨_, _, rfl, r1, r2⟩ := rvs2 r
  obtain ⟨a, hd, rfl⟩ := r1.inv
  obtain ⟨t, rfl⟩ := r2.inv
  obtain ⟨us, n, e0, rs, hr⟩ := R.listAt hd q
  have hl := rs.length
  rw [Array.length_toList] at hl
  have hT : s.TypeIs (.ref a) "list" := ⟨_, e0, rfl⟩
  refine wpAny_call (codeAny_call_builtin F.slot_list_extend.plain F.entry_list_extend (F.slot_list_extend.check _ _ _ _ _ _ _ _ hT (F.args_list_extend_2 _ _) ?_))
  unfold Builtin.«list.extend»
  refine wpAny_bind (wpAny_of_eq (a := (.ref a, .str x t)) rfl ?_)
  unfold Builtin.List.listExtendWith
  refine wpAny_bind (wpAny_of_eq (type_str' x t) ?_)
  rw [if_neg (by simp [Builtin.List.listSameRef])]
  refine wpAny_bind (wpAny_pyIter_ascii ha ?_)
  refine wpAny_bind (wpAny_holding (wpAny_of_eq (hint_str x t) ?_))
  rw [if_neg (by decide)]
  refine wpAny_pure ⟨plainId_quiet F.plain_extend_loop _, ?_⟩
  have k0 : ∀ a o, s.heap.get? a = some o → (s.heap.push { cls := .type "str_ascii_iterator", data := .fields #[.str x t, .int 0 0] }).get? a = some o := fun a o e => Heap.get?_push_of_some _ e
  have hne : a ≠ s.heap.objs.size := Nat.ne_of_lt (Heap.lt_size e0)
  refine ext_loop (Walks.strAscii (A := A.in1) hA.handled s.heap.objs.size x t) (by simpa using hne) x.cps.size 0 _ us n (by simp) (Nat.zero_le _) ⟨_, Heap.get?_push_size _ rfl, rfl, rfl⟩ (k0 _ _ e0) (by rw [hl]; omega) fun s' vs m' hvl hv hs' kk sm => ?_
  have rn : RVs s'.heap ρ vs (Yp x) := by
    have hlen : vs.length = (Yp x).length := by rw [hvl]; simp [Yp]
    have : ∀ (us : List Value) (ps : List PV), us.length = ps.length → (∀ (j : Nat) u p, us[j]? = some u → ps[j]? = some p → RV s'.heap ρ u p) → RVs s'.heap ρ us ps := by
      intro us
      induction us with
      | nil => intro ps h _; cases ps with | nil => exact .nil | cons _ _ => cases h
      | cons u us ih =>
        intro ps h hh
        cases ps with
        | nil => cases h
        | cons p ps => exact .cons (hh 0 u p rfl rfl) (ih ps (by simpa using h) fun j u' p' h1 h2 => hh (j + 1) u' p' (by simpa using h1) (by simpa using h2))
    refine this _ _ hlen fun j u p h1 h2 => ?_
    obtain ⟨cp, t', hc, rfl⟩ := hv j u h1
    unfold Yp at h2
    rw [Nat.zero_add] at hc
    rw [List.getElem?_map, Array.getElem?_toList, hc] at h2
    cases h2; exact .str _ _
  obtain ⟨S, g⟩ := R.put (i := i) (ao' := .list (xs ++ Yp x)) (h' := s'.heap) hr (fun b o eb nb => by
      have hb : b ≠ a := by simpa using nb
      exact kk b o (by simpa using Nat.ne_of_lt (Heap.lt_size eb)) hb (k0 _ _ eb)) (fun b m => by rw [List.mem_singleton.mp m]; exact ⟨_, hs'⟩)
    fun g => ⟨a, us ++ vs.toArray, m', rfl, hs', by rw [Array.toList_append]; exact (rs.carry (g.carry noFr)).append rn⟩
  exact ⟨ρ, S, g, ⟨sm.1, sm.2.1, sm.2.2⟩, .none⟩
end
section
open PySem.Builtin PySem.Builtin.Str
theorem noFill_tuple_mod : fillsNumberSlot (.type "tuple") "mod" = pure false := by
  have a : typeLookup (.type "tuple") (dunder "mod") = pure none := by rw [typeLookup_type, builtinLookup_eq_fast]; kernel_rfl
  have b : typeLookup (.type "tuple") (dunderR "mod") = pure none := by rw [typeLookup_type, builtinLookup_eq_fast]; kernel_rfl
  unfold fillsNumberSlot
  simp only [a, b, pure_bind]
  rfl
theorem no_if {c : Prop} [Decidable c] {X Y : Prop} (hc : ¬ c) (h : Y) : if c then X else Y := by rw [if_neg hc]; exact h
theorem yes_if {c : Prop} [Decidable c] {X Y : Prop} (hc : c) (h : X) : if c then X else Y := by rw [if_pos hc]; exact h
section
variable {M : Model} {A : Around} {E : Value → Shared → Prop} {s : Shared}
theorem binaryOp_leftOnly {a b : Value} {nm id : String} {Q : Option Value → Shared → Prop} (ha : s.TypeIs a "str") (hb : s.TypeIs b "tuple")
    (hfT : fillsNumberSlot (.type "str") nm = pure true) (hfU : fillsNumberSlot (.type "tuple") nm = pure false) (h : Slot "str" (dunder nm) id)
    (hc : wpAny M A (call (.builtin id) [a, b]) (fun v s' => v ≠ .notImplemented ∧ Q (some v) s') E s) : wpAny M A (binaryOp1 nm a b) Q E s := by
  unfold binaryOp1
  refine wpAny_bind (wpAny_typeOf ha (wpAny_bind (wpAny_typeOf hb (wpAny_bind (wpAny_of_eq hfT ?_)))))
  refine wpAny_ite (no_if (by decide) (wpAny_bind (wpAny_of_eq hfU ?_)))
  refine wpAny_ite (no_if Bool.false_ne_true ?_)
  refine wpAny_ite (no_if Bool.false_ne_true ?_)
  refine wpAny_ite (no_if Bool.false_ne_true ?_)
  refine wpAny_bind (wpAny_of_eq (a := false) rfl ?_)
  refine wpAny_ite (no_if Bool.false_ne_true ?_)
  refine wpAny_ite (yes_if rfl ?_)
  exact wpAny_bind (wpAny_tryMethod_slot ha h (wpAny_mono hc (fun v s' h' => ⟨h'.1, wpAny_pure h'.2⟩) fun _ _ h' => h'))
theorem modTuple {X : Str} {t : Tok} {a : Addr} {vs : Array Value} {Q : Value → Shared → Prop} (ht : s.heap.IsTuple a vs)
    (hc : wpAny M A (call (.builtin "str.__mod__") [.str X t, .ref a]) (fun v s' => v ≠ .notImplemented ∧ Q v s') E s) : wpAny M A (binaryOp .Mod (.str X t) (.ref a)) Q E s := by
  unfold binaryOp
  exact wpAny_holding (wpAny_bind (binaryOp_leftOnly (typeIs_str s X t) ht.typeIs F.fills_str_mod noFill_tuple_mod F.slot_str_mod (wpAny_mono hc (fun v s' h' => ⟨h'.1, wpAny_pure h'.2⟩) fun _ _ e => e)))
structure Wr (w : Writer) (T : PySem.Str) : Prop where
  text : w.text = T
  total : w.total = T.length
  whole : ∀ v, w.whole = some v → ∃ t, v = .str T t
theorem Wr.nil : Wr {} PySem.Str.empty := ⟨rfl, rfl, fun _ e => nomatch e⟩
theorem str_none_app (d : PySem.Str) : PySem.Str.empty ++ d = d := congrArg PySem.Str.mk (by show #[] ++ d.cps = d.cps; exact Array.empty_append)
theorem str_app_none (T x : PySem.Str) (h : x.length = 0) : T ++ x = T := by
  have hz : x.cps = #[] := Array.size_eq_zero_iff.mp h
  exact congrArg PySem.Str.mk (by show T.cps ++ x.cps = T.cps; rw [hz]; exact Array.append_empty)
theorem Wr.add {w : Writer} {T x : PySem.Str} {o : Option Value} (g : Wr w T) (ho : ∀ v, o = some v → ∃ t, v = .str x t) : Wr (w.add x o) (T ++ x) := by
  by_cases hx : x.length = 0
  · have e : w.add x o = w := by unfold Writer.add; rw [if_pos (by rw [hx]; rfl)]
    rw [e, str_app_none T x hx]; exact g
  · have e : w.add x o = { pieces := x :: w.pieces, total := w.total + x.length, whole := if w.pieces.isEmpty then o else none } := by
      unfold Writer.add; rw [if_neg (fun q => hx (beq_iff_eq.mp q))]
    rw [e]
    refine ⟨?_, ?_, fun v hv => ?_⟩
    · have ht := g.text
      unfold Writer.text at ht ⊢
      rw [List.reverse_cons, List.foldl_append, List.foldl_cons, List.foldl_nil, ← ht]
      rfl
    · show w.total + x.length = _
      rw [g.total, PySem.Str.length_append]
    · replace hv : (if w.pieces.isEmpty = true then o else none) = some v := hv
      by_cases hp : w.pieces.isEmpty = true
      · rw [if_pos hp] at hv
        obtain ⟨t, rfl⟩ := ho v hv
        have e2 : w.text = PySem.Str.empty := by unfold Writer.text; rw [List.isEmpty_iff.mp hp]; rfl
        exact ⟨t, by rw [← g.text, e2, str_none_app]⟩
      · rw [if_neg hp] at hv; cases hv
theorem Wr.short {w : Writer} {T : PySem.Str} (g : Wr w T) (h : T.length ≤ sizeLine) : ¬ (tooLong w.total = true) := by
  rw [notLong (by rw [g.total]; exact h)]; exact Bool.false_ne_true
theorem Wr.finish {w : Writer} {T : PySem.Str} {id : String} {Q : Fin → Shared → Prop} (g : Wr w T) (hz : T.length ≤ sizeLine) (h : ∀ t k, Q (.done (.ret (.str T t))) { s with toks := k }) :
    wpAny M A (w.finish id) Q E s := by
  unfold Writer.finish
  cases hw : w.whole with
  | none =>
    rw [notLong (by rw [g.total]; exact hz), g.text]
    exact wpAny_bind (wpAny_mkStr (wpAny_pure (h _ _)) hz)
  | some v =>
    obtain ⟨t, rfl⟩ := g.whole v hw
    exact wpAny_bind (wpAny_rule (wpAny_pure (h t s.toks)))
theorem rng_list {β : Type} (n : Nat) (b : β) (f : Nat → β → Sem (ForInStep β)) : forIn [:n] b f = forIn (List.range' 0 n 1) b f := by
  rw [Std.Legacy.Range.forIn_eq_forIn_range']
  have hsz : ([:n] : Std.Legacy.Range).size = n := by simp [Std.Legacy.Range.size]
  show forIn (List.range' 0 ([:n] : Std.Legacy.Range).size 1) b f = _
  rw [hsz]
theorem one_turn {β : Type} {l : List Nat} {x : Nat} {b : β} {f : Nat → β → Sem (ForInStep β)} {Q : β → Shared → Prop}
    (h : wpAny M A (f x b) (fun r s' => match r with | .done b' => Q b' s' | .yield b' => wpAny M A (forIn l b' f) Q E s') E s) : wpAny M A (forIn (x :: l) b f) Q E s := by
  rw [List.forIn_cons]
  refine wpAny_bind (wpAny_mono h (fun r s' hr => ?_) fun _ _ e => e)
  cases r with
  | done b' => exact wpAny_pure hr
  | yield b' => exact hr
noncomputable abbrev PfS := List Value × Writer × List Nat
theorem pf_loop {f : Nat → PfS → Sem (ForInStep PfS)} {x y : PySem.Str} {t1 t2 : Tok} {l1 l2 : List Nat} {n : Nat} {Q : PfS → Shared → Prop} {w₀ : Writer} (g₀ : Wr w₀ PySem.Str.empty) (hn : 5 ≤ n)
    (hz : x.length + l1.length + y.length + l2.length ≤ sizeLine)
    (hs : ∀ i w T v t p rest (Q : ForInStep PfS → Shared → Prop), Wr w T → T.length ≤ sizeLine → (∀ w', Wr w' (T ++ v) → Q (.yield (p, w', rest)) s) → wpAny M A (f i (.str v t :: p, w, 37 :: 115 :: rest)) Q E s)
    (hl : ∀ i w T p l rest (Q : ForInStep PfS → Shared → Prop), (l = l1 ∧ rest = 37 :: 115 :: l2) ∨ (l = l2 ∧ rest = [] ∧ l2 ≠ []) → Wr w T → T.length ≤ sizeLine → (∀ w', Wr w' (T ++ ⟨l.toArray⟩) → Q (.yield (p, w', rest)) s) → wpAny M A (f i (p, w, l ++ rest)) Q E s)
    (he : ∀ i w T p (Q : ForInStep PfS → Shared → Prop), Wr w T → T.length ≤ sizeLine → Q (.done (p, w, [])) s → wpAny M A (f i (p, w, [])) Q E s)
    (h : ∀ w', Wr w' (x ++ ⟨l1.toArray⟩ ++ y ++ ⟨l2.toArray⟩) → Q ([], w', []) s) :
    wpAny M A (forIn (List.range' 0 n 1) ([.str x t1, .str y t2], w₀, 37 :: 115 :: (l1 ++ 37 :: 115 :: l2)) f) Q E s := by
  obtain ⟨m, rfl⟩ : ∃ m, n = m + 5 := ⟨n - 5, by omega⟩
  simp only [List.range'_succ]
  have z1 : (⟨l1.toArray⟩ : PySem.Str).length = l1.length := by unfold PySem.Str.length; simp
  have z2 : (⟨l2.toArray⟩ : PySem.Str).length = l2.length := by unfold PySem.Str.length; simp
  have zx : (PySem.Str.empty ++ x).length ≤ sizeLine := by rw [str_none_app]; omega
  refine one_turn (hs _ _ _ x t1 _ _ _ g₀ (Nat.zero_le _) fun w1 g1 => ?_)
  rw [str_none_app] at g1
  refine one_turn (hl _ _ _ _ l1 _ _ (.inl ⟨rfl, rfl⟩) g1 (by omega) fun w2 g2 => ?_)
  refine one_turn (hs _ _ _ y t2 _ _ _ g2 (by rw [PySem.Str.length_append, z1]; omega) fun w3 g3 => ?_)
  have z3 : (x ++ ⟨l1.toArray⟩ ++ y : PySem.Str).length ≤ sizeLine := by rw [PySem.Str.length_append, PySem.Str.length_append, z1]; omega
  by_cases h2 : l2 = []
  · subst h2
    refine one_turn (he _ _ _ _ _ g3 z3 (h _ ?_))
    rw [str_app_none _ _ (by rfl)]; exact g3
  · have e2 : l2 = l2 ++ [] := (List.append_nil _).symm
    rw [e2]
    refine one_turn (hl _ _ _ _ l2 [] _ (.inr ⟨rfl, rfl, h2⟩) g3 z3 fun w4 g4 => ?_)
    exact one_turn (he _ _ _ _ _ g4 (by rw [PySem.Str.length_append, PySem.Str.length_append, PySem.Str.length_append, z1, z2]; omega) (h _ g4))
end
theorem entry_mod_tuple (X : PySem.Str) (t : Tok) (a : Addr) : «str.__mod__» ⟨[.str X t, .ref a], []⟩ = percentFormat (.str X t) X (.ref a) := by kernel_rfl
theorem is_tuple_t : isSubtype (.type "tuple") (.type "tuple") = pure true := by rw [isSubtype_type]; kernel_rfl
theorem span_loop : ∀ {l acc rest : List Nat}, l.all (· != 37) = true → (rest = [] ∨ ∃ r, rest = 37 :: r) → List.span.loop (· != 37) (l ++ rest) acc = (acc.reverse ++ l, rest)
  | [], acc, rest, _, hr => by
    rcases hr with rfl | ⟨r, rfl⟩ <;> simp [List.span.loop]
  | a :: l, acc, rest, h, hr => by
    rw [List.all_cons, Bool.and_eq_true] at h
    rw [List.cons_append, List.span.loop, h.1]
    simp only
    rw [span_loop h.2 hr, List.reverse_cons, List.append_assoc, List.singleton_append]
theorem span_lit {l rest : List Nat} (h : l.all (· != 37) = true) (hr : rest = [] ∨ ∃ r, rest = 37 :: r) : List.span (· != 37) (l ++ rest) = (l, rest) := by
  unfold List.span
  rw [span_loop h hr]; rfl
theorem fills_tup {M : Model} {A : Around} {E : Value → Shared → Prop} {s : Shared} {a : Addr} {Q : Bool → Shared → Prop} (hT : s.TypeIs (.ref a) "tuple") (h : Q true s) : wpAny M A (fillsMappingSlot (.ref a)) Q E s := by
  unfold fillsMappingSlot
  refine wpAny_bind (wpAny_specialOf hT F.slot_tuple_getitem.lookup ?_)
  exact wpAny_pure h
theorem asStr_tup {M : Model} {A : Around} {E : Value → Shared → Prop} {s : Shared} {a : Addr} {o : Obj} {items : Array Value} {n : Nat} {Q : Option PySem.Str → Shared → Prop} (ho : s.heap.get? a = some o) (hd : o.data = .seq items n) (h : Q none s) : wpAny M A (asStr? (.ref a)) Q E s := by
  simp only [asStr?]
  refine wpAny_bind (wpAny_load ho ?_)
  rw [hd]
  exact wpAny_pure h
set_option maxHeartbeats 1000000 in
theorem percent_two {prog : Program} {w : World} {A : Around} {E : Value → Shared → Prop} {s : Shared} {t t1 t2 : Tok} {a : Addr} {x y X : PySem.Str} {l1 l2 : List Nat} {Q : Fin → Shared → Prop} (ht : s.heap.IsTuple a #[.str x t1, .str y t2])
    (hF : X.cps.toList = 37 :: 115 :: (l1 ++ 37 :: 115 :: l2)) (h1 : l1.all (· != 37) = true) (h2 : l2.all (· != 37) = true) (h1' : l1 ≠ [])
    (hz : x.length + l1.length + y.length + l2.length ≤ sizeLine) (h : ∀ t k, Q (.done (.ret (.str (x ++ ⟨l1.toArray⟩ ++ y ++ ⟨l2.toArray⟩) t))) { s with toks := k }) :
    wpAny (model prog w) A (percentFormat (.str X t) X (.ref a)) Q E s := by
  obtain ⟨o, ho, hc, n, hd⟩ := id ht
  have hlen : X.length = l1.length + l2.length + 4 := by
    show X.cps.size = _
    rw [← Array.length_toList, hF]; simp; omega
  have hl1 : 0 < l1.length := List.length_pos_iff.mpr h1'
  unfold percentFormat
  refine wpAny_bind (wpAny_isInstance (T := "tuple") (b := true) ⟨o, ho, hc⟩ is_tuple_t ?_)
  refine wpAny_bind (asStr_tup ho hd ?_)
  refine wpAny_bind (fills_tup ht.typeIs ?_)
  refine wpAny_ite (yes_if rfl ?_)
  refine wpAny_bind (wpAny_seqItems ho hd ?_)
  refine wpAny_bind (wpAny_pure ?_)
  refine wpAny_bind ?_
  rw [rng_list, hF]
  refine pf_loop (x := x) (y := y) (t1 := t1) (t2 := t2) Wr.nil (by omega) hz (fun i w' T v t' p rest Q' g hT hq => ?_) (fun i w' T p l rest Q' hlr g hT hq => ?_) (fun i w' T p Q' g hT hq => ?_) (fun w' g => ?_)
  · refine wpAny_ite (no_if (g.short hT) (wpAny_bind (m := holding [.str v t'] (pure (v.cps.toList, some (Value.str v t'), false))) (wpAny_holding (wpAny_pure (wpAny_pure (hq _ (g.add fun u e => ?_)))))))
    by_cases hr : rest.isEmpty = true
    · rw [if_pos hr] at e; exact ⟨t', (Option.some.inj e).symm⟩
    · rw [if_neg hr] at e; cases e
  · refine wpAny_ite (no_if (g.short hT) ?_)
    have hr : rest = [] ∨ ∃ r, rest = 37 :: r := by
      rcases hlr with ⟨_, h⟩ | ⟨_, h, _⟩
      · exact .inr ⟨_, h⟩
      · exact .inl h
    have hne : l ≠ [] := by
      rcases hlr with ⟨h, _⟩ | ⟨h, _, h'⟩
      · rw [h]; exact h1'
      · rw [h]; exact h'
    have hall : l.all (· != 37) = true := by
      rcases hlr with ⟨h, _⟩ | ⟨h, _, h'⟩
      · rw [h]; exact h1
      · rw [h]; exact h2
    have hlt : l.length < X.length := by
      rcases hlr with ⟨h, _⟩ | ⟨h, _, h'⟩
      · rw [h]; omega
      · rw [h]; omega
    have hemp : (l ++ rest).isEmpty = false := by
      cases l with
      | nil => exact (hne rfl).elim
      | cons a l => rfl
    have hemp' : l.isEmpty = false := by
      cases l with
      | nil => exact (hne rfl).elim
      | cons a l => rfl
    refine wpAny_ite (no_if (by show ¬ ((l ++ rest).isEmpty = true); rw [hemp]; exact Bool.false_ne_true) ?_)
    have es := span_lit hall hr
    refine wpAny_ite (yes_if (by show (!(List.span (fun x => x != 37) (l ++ rest)).1.isEmpty) = true; rw [es]; show (!l.isEmpty) = true; rw [hemp']; rfl) (wpAny_pure ?_))
    show Q' (.yield (p, w'.add ⟨(List.span (fun x => x != 37) (l ++ rest)).1.toArray⟩ (if ((List.span (fun x => x != 37) (l ++ rest)).1.length == X.length) = true then some (.str X t) else none), (List.span (fun x => x != 37) (l ++ rest)).2)) s
    rw [es]
    exact hq _ (g.add (fun u e => by
      rw [if_neg (by rw [beq_iff_eq]; exact Nat.ne_of_lt hlt)] at e
      cases e))
  · refine wpAny_ite (no_if (g.short hT) ?_)
    exact wpAny_ite (yes_if rfl (wpAny_pure hq))
  · refine wpAny_ite (no_if Bool.false_ne_true ?_)
    refine g.finish ?_ h
    simp only [PySem.Str.length_append]
    exact hz
end
section
variable {c : Ctx0} {b : Nat} {f : FI}
noncomputable def fmtG (l1 l2 : List Nat) (p q : PV) : SM PV := fun st => pik fun r => ∃ X x y, P6 (p = .str X) (q = .tup [.str x, .str y]) (X.cps.toList = 37 :: 115 :: (l1 ++ 37 :: 115 :: l2)) (x.length + y.length ≤ 2000) (l1.length + l2.length ≤ 1000) (r = (.str (x ++ ⟨l1.toArray⟩ ++ y ++ ⟨l2.toArray⟩), st))
theorem fmt_of {l1 l2 : List Nat} {X x y : Str} {st : List AO} (h : X.cps.toList = 37 :: 115 :: (l1 ++ 37 :: 115 :: l2)) (h1 : x.length + y.length ≤ 2000) (h2 : l1.length + l2.length ≤ 1000) : fmtG l1 l2 (.str X) (.tup [.str x, .str y]) st = some (.str (x ++ ⟨l1.toArray⟩ ++ y ++ ⟨l2.toArray⟩), st) :=
  pik_of ⟨_, _, _, rfl, rfl, h, h1, h2, rfl⟩ fun z q' => by obtain ⟨_, _, _, e, e', _, _, _, q⟩ := q'; cases e; cases e'; exact q
theorem op_fmt {l1 l2 : List Nat} (h1 : l1.all (· != 37) = true := by rfl) (h2 : l2.all (· != 37) = true := by rfl) (h3 : l1 ≠ [] := by simp) : Op2 c b RV (binaryOp .Mod) (fmtG l1 l2) := by
  constructor
  intro A hA ρ s st x₁ z₁ x₂ z₂ y st' e r1 r2 R
  obtain ⟨X, x, y', rfl, rfl, hF, hz, hl, e'⟩ := Zq e
  clear e; cases e'
  obtain ⟨t, rfl⟩ := r1.inv
  obtain ⟨a, vs, _, ht, rs, rfl⟩ := r2.inv
  obtain ⟨_, _, rfl, ra, rb⟩ := rvs2 rs
  obtain ⟨t1, rfl⟩ := ra.inv
  obtain ⟨t2, rfl⟩ := rb.inv
  have hm : Meets (Builtin.«str.__mod__» ⟨[.str X t, .ref a], []⟩) (fun _ R s => s.heap.IsTuple a #[.str x t1, .str y' t2] ∧ ∀ t' k, R (.ok (.ret (.str (x ++ ⟨l1.toArray⟩ ++ y' ++ ⟨l2.toArray⟩) t'))) { s with toks := k }) :=
    Meets.of_wp fun prog w A _ s hS => by
      rw [entry_mod_tuple]
      exact percent_two hS.1 hF h1 h2 h3 (by rw [sizeLine_eq]; omega) fun t' k => ⟨_, rfl, hS.2 t' k⟩
  exact modTuple ht (call_meets F.slot_str_mod (typeIs_str s X t) F.entry_str_mod (F.args_str_mod_2 _ _) hm ⟨ht, fun t' k => ⟨(fun e => nomatch e), EndsS.tok R (.str _ _)⟩⟩)
noncomputable def strIG (C : Addr) (G : List PV → SM PV) (ps : List PV) : SM PV := fun st => pik fun r => ∃ i kvs x st', P4 (ps = [.ref i]) (instOf st (.ref i) = some (C, kvs)) (G [.ref i] st = some (.str x, st')) (r = (.str x, st'))
theorem strIG_of {C : Addr} {G : List PV → SM PV} {st st' : List AO} {i : Nat} {kvs : List (Str × PV)} {x : Str} (h : instOf st (.ref i) = some (C, kvs)) (e : G [.ref i] st = some (.str x, st')) : strIG C G [.ref i] st = some (.str x, st') :=
  pik_of ⟨_, _, _, _, rfl, h, e, rfl⟩ fun z q' => by obtain ⟨_, _, _, _, e0, _, e1, q⟩ := q'; cases e0; cases e.symm.trans e1; exact q
theorem op_strI {C fa : Addr} {G : List PV → SM PV} (hs : findIn c.K (.ref C) "__str__" = some (some (.ref fa))) (hf : typeIn c.K (.ref fa) = some (.type "function")) (o : FunK c b (.ref fa) 1 [] G) :
    OpL c (b + 2) (fun vs => call (.type "str") vs) (strIG C G) := by
  constructor
  intro A hA ρ s st vs ps y st' e r R
  obtain ⟨i, kvs, x, st1, rfl, hi, hG, e'⟩ := Zq e
  clear e; cases e'
  obtain ⟨v, _, rfl, rv, r0⟩ := r.inv
  obtain rfl := r0.inv
  obtain ⟨i', a, d, es, n, ox, e1, rfl, hr, I, hd, hD, er⟩ := R.instAt rv hi
  have hA2 : AOk b A.in1.in1 := ⟨hA.handled, by have := hA.depth; show A.depth + 2 * b ≤ 900; omega, by have := hA.units; show A.units + 1 + 1 + 20 * b ≤ 9000; omega⟩
  have hu : A.in1.in1.units < cLine := by have := hA2.units; show _ < 9900; omega
  refine callType_codes (T := "str") (Bi := Builtin.«object.__init__») (Q₁ := fun r s₁ => ∃ y u, r = .str y u ∧ EndsS c.K RV ρ s (.str x) st' r s₁) PySem.F.called_str (PySem.F.typeCall_str_1 _) PySem.F.entry_object_init ?_ ?_
  · refine codeAny_of_tree ?_
    show wpAny _ A.in1.in1 (do checkBuiltinCall "str.__new__" ⟨[.type "str", .ref a], []⟩; again (.builtin "str.__new__" ⟨[.type "str", .ref a], []⟩)) _ _ s
    refine wpAny_bind (wpAny_of_eq (PySem.F.newCall_str_1 _) (wpAny_pure ⟨plainId_quiet (by decide +kernel) _, codeAny_builtin PySem.F.entry_str_new ?_⟩))
    rw [Around.under_plainId (by decide +kernel) _, str_new_tree]
    refine wpAny_bind (wpAny_pure (wpAny_bind (wpAny_of_eq isSubtype_str_str (wpAny_bind ?_))))
    unfold Builtin.Str.strOf
    refine wpAny_ite (no_if Bool.false_ne_true ?_)
    refine wpAny_bind (m := cRoomFor _ _) (wpAny_cRoomFor hu ?_)
    refine wpAny_bind (m := callSpecial? (.ref a) (Str.ofString "__str__")) (special_fn R.top I hs hf (wpAny_call (codeAny_mono (o.code hA2 hG (.cons rv .nil) R) fun r s' z => ?_)))
    rcases r with e | (v | _ | _ | _) <;> first | exact z.elim | skip
    obtain ⟨ρ', S', g', q', rv'⟩ := z
    obtain ⟨t, rfl⟩ := rv'.inv
    exact wpAny_pure (wpAny_pure ⟨x, t, rfl, ρ', S', g', q', rv'⟩)
  · rintro obj s₁ ⟨y, u, rfl, hq⟩
    exact ⟨typeIs_str _ _ _, PySem.F.args_object_init_2 _ _, object_init_meets PySem.F.called_str.init.lookup PySem.F.called_str.made (by decide) c.prog c.w A.in1 _ s₁ ⟨typeIs_str _ _ _, rfl, hq⟩⟩
end
structure DenZ (c : Ctx0) (b : Nat) (f : FI) {α β : Type} (RA : Heap → Rho → α → β → Prop) (t : Sem α) (F : FM β) : Prop where
  run : ∀ A, AOk b A → ∀ ρ s es y es', F es = some (y, es') → RelF c.K f ρ es s.heap → 0 < s.toks → wpAny (model c.prog c.w) A t (Ends c.K f RA ρ s y es') noE s
structure DenTp (c : Ctx0) (b : Nat) (f : FI) (t : Sem Bool) (F : FM Bool) : Prop where
  run : ∀ A, AOk b A → ∀ ρ s es y es', F es = some (y, es') → RelF c.K f ρ es s.heap → wpAny (model c.prog c.w) A t (fun v s' => (v = true → 0 < s'.toks) ∧ Ends c.K f RB ρ s y es' v s') noE s
section
variable {c : Ctx0} {b : Nat} {f : FI}
theorem Den.z {α β : Type} {RA : Heap → Rho → α → β → Prop} {t : Sem α} {F : FM β} (d : Den c b f RA t F) : DenZ c b f RA t F := ⟨fun A hA ρ s es y es' e R _ => d.run A hA ρ s es y es' e R⟩
theorem DenZ.go {α β : Type} {RA : Heap → Rho → α → β → Prop} {t : Sem α} {F : FM β} (d : DenZ c b f RA t F) {A : Around} (hA : AOk b A) {ρ : Rho} {s : Shared} {es es' : ES} {y : β} (e : F es = some (y, es')) (R : RelF c.K f ρ es s.heap) (h : 0 < s.toks) :
    wpAny (model c.prog c.w) A t (fun v s' => 0 < s'.toks ∧ Ends c.K f RA ρ s y es' v s') noE s := wpAny_mono (wpAny_toks_of (n := 1) h (d.run A hA ρ s es y es' e R h)) (fun _ _ z => z) fun _ _ z => z.2.elim
theorem denz_cons {st : Stmt} {rest : List Stmt} {F G : FM PF} (d : DenZ c b f RFl (exec st f.env) F) (d' : DenZ c b f RFl (execs rest f.env) G) : DenZ c b f RFl (execs (st :: rest) f.env) (seqE F G) := by
  constructor
  intro A hA ρ s es y es' e R h
  obtain ⟨t, es₁, e1, e2⟩ := Zd e
  refine wpAny_execs_cons (wpAny_mono (d.go hA e1 R h) (fun v s₁ z => ?_) fun _ _ z => z)
  obtain ⟨h₁, ρ₁, R₁, g₁, q₁, r₁⟩ := z
  cases r₁ with
  | next => exact wpAny_mono (d'.run A hA ρ₁ s₁ es₁ y es' e2 R₁ h₁) (fun _ _ z => z.after g₁ q₁) fun _ _ z => z
  | brk => obtain ⟨rfl, rfl⟩ := spr e2; exact ⟨ρ₁, R₁, g₁, q₁, .brk⟩
  | cont => obtain ⟨rfl, rfl⟩ := spr e2; exact ⟨ρ₁, R₁, g₁, q₁, .cont⟩
  | ret r => obtain ⟨rfl, rfl⟩ := spr e2; exact ⟨ρ₁, R₁, g₁, q₁, .ret r⟩
theorem denz_if {t : Expr} {x y : List Stmt} {pos : Pos} {T : FM Bool} {X Y : FM PF} (dt : DenZ c b f RB (isTrue t f.env (eval t f.env)) T) (dx : DenZ c b f RFl (execs x f.env) X) (dy : DenZ c b f RFl (execs y f.env) Y) :
    DenZ c b f RFl (exec (.If t x y pos) f.env) (iteE T X Y) := by
  constructor
  intro A hA ρ s es r es' e R h
  obtain ⟨t, es₁, e1, e2⟩ := iteE_some e
  refine wpAny_If (wpAny_mono (dt.go hA e1 R h) (fun v s₁ z => ?_) fun _ _ z => z)
  obtain ⟨h₁, ρ₁, R₁, g₁, q₁, rfl⟩ := z
  cases v with
  | true => exact wpAny_mono (dx.run A hA ρ₁ s₁ es₁ r es' e2 R₁ h₁) (fun _ _ z => z.after g₁ q₁) fun _ _ z => z
  | false => exact wpAny_mono (dy.run A hA ρ₁ s₁ es₁ r es' e2 R₁ h₁) (fun _ _ z => z.after g₁ q₁) fun _ _ z => z
theorem denz_assign {t value : Expr} {pos : Pos} {X : FM PV} {S : PV → FM Unit} (dx : DenZ c b f RV (eval value f.env) X) (ds : DenA c b f t S) (hs : swapsWithSole [t] value pos.line f.env = pure false := by rfl)
    (hw : swappedStores [t] value f.env = pure none := by rfl) (hst : assignEach [t] f.env = [(false, assign t f.env)] := by rfl) : DenZ c b f RFl (exec (.Assign [t] value pos) f.env) (bindE X fun p => bindE (S p) fun _ => pureE .next) := by
  constructor
  intro A hA ρ s es r es' e R h
  obtain ⟨p, es₁, e1, e⟩ := Zd e
  obtain ⟨_, es₂, e2, e3⟩ := Zd e
  obtain ⟨rfl, rfl⟩ := spr e3
  refine wpAny_Assign_stores (wpAny_mono (dx.run A hA ρ s es p es₁ e1 R h) (fun v s₁ z => ?_) fun _ _ z => z) hs hw
  obtain ⟨ρ₁, R₁, g₁, q₁, r₁⟩ := z
  rw [hst]
  show wpAny _ _ (assign t f.env v) _ _ _
  refine wpAny_mono (ds.run A hA ρ₁ s₁ es₁ v p () es₂ e2 r₁ R₁) (fun _ s₂ z => ?_) fun _ _ z => z
  obtain ⟨ρ₂, R₂, g₂, q₂, r₂⟩ := z
  exact ⟨ρ₂, R₂, g₁.trans g₂, q₁.trans q₂, .next⟩
noncomputable def replE (y z : Str) (p : PV) : FM PV := fun es => match p with
  | .str x => if x.length + (x.length + 1) * z.length ≤ 16777216 then some (.str (Txt.replace x y z), es) else none
  | _ => none
theorem denz_replace {o : Expr} {apos pos p1 p2 : Pos} {k1 k2 : Nat} {y z : Str} {X : FM PV} (dO : DenZ c b f RV (eval o f.env) X) (hyz : (y == z) = false := by decide +kernel)
    (hbase : notSuper o = true := by rfl) (hline : (apos.endLine == pos.line) = true := by rfl) :
    DenZ c b f RV (eval (.Call (.Attribute o "replace" apos) [.Constant (.str y) k1 p1, .Constant (.str z) k2 p2] [] pos) f.env) (bindE X (replE y z)) := by
  constructor
  intro A hA ρ s es r es' e R h
  obtain ⟨p, es₁, e1, e⟩ := Zd e
  unfold replE at e
  split at e
  rotate_left
  · exact (nos e).elim
  rename_i x
  obtain ⟨hb, e⟩ := ite_then e
  obtain ⟨rfl, rfl⟩ := spr e
  rw [arm_eval_Call, Ym hbase]
  refine wpAny_bind (wpAny_mono (dO.go hA e1 R h) (fun v s₁ z => ?_) fun _ _ z => z)
  obtain ⟨h₁, ρ₁, R₁, g₁, q₁, r₁⟩ := z
  obtain ⟨t, rfl⟩ := r₁.inv
  refine wpAny_bind (wpAny_standAt ?_)
  have hpos : methodCallPos true o f.env apos pos = pure pos := by unfold methodCallPos; rw [hline]; rfl
  unfold methodCall
  rw [show methodCallForm _ _ _ = true from rfl]
  refine wpAny_bind (wpAny_holding (GM.replace ?_))
  refine wpAny_bind (wpAny_of_eq hpos ?_)
  refine callWith_of (P := fun _ => True) rfl (fun h _ => ⟨.machine, .inr (.inl rfl), Looks.of_pure rfl⟩) (Yk rfl (Calls.spliced_cons (wpAny_Constant_str (k := k1) (pos := p1) (Calls.spliced_cons (wpAny_Constant_str (k := k2) (pos := p2) (Calls.spliced_nil ⟨trivial, ?_⟩))))))
  refine SC.replace (by show s₁.toks ≠ 0; omega) (by show s₁.toks + 1 ≠ 0; omega) (by show s₁.toks ≠ s₁.toks + 1; omega) hyz hb fun t' k => ?_
  exact ⟨ρ₁, R₁, g₁, ⟨q₁.1, q₁.2.1, q₁.2.2⟩, .str _ _⟩
theorem dentp_compare {l : Expr} {op : CmpOp} {pos p1 : Pos} {k1 : Nat} {i : Int} {F₁ : FM PV} {G : PV → PV → SM PV} (d₁ : Den c b f RV (eval l f.env) F₁) (o : Op2 c b RV (compareOp op) G)
    (hm : behindInMarks op (.Constant (.int i) k1 p1) = false := by rfl) :
    DenTp c b f (isTrue (.Compare l [op] [.Constant (.int i) k1 p1] pos) f.env (eval (.Compare l [op] [.Constant (.int i) k1 p1] pos) f.env)) (bindE (bindE F₁ fun p => bindE (pureE (.int i)) fun q => liftS (G p q)) fun p => liftS (truthG p)) := by
  constructor
  intro A hA ρ s es y es' e R
  obtain ⟨p, es₁, e1, e2⟩ := Zd e
  obtain ⟨q, es₂, e3, e4⟩ := Zd e1
  obtain ⟨r, es₃, e5, e6⟩ := Zd e4
  obtain ⟨rfl, rfl⟩ := spr e5
  obtain ⟨st', e7, rfl⟩ := Z2 e6
  refine wpAny_isTrue_Compare1 (wpAny_mono (d₁.run A hA ρ s es q es₂ e3 R) (fun v s₁ z => ?_) fun _ _ z => z) hm
  obtain ⟨ρ₁, R₁, g₁, q₁, r₁⟩ := z
  refine wpAny_Constant_int ?_
  have hpos : 1 ≤ ({ s₁ with toks := s₁.toks + 1 } : Shared).toks := Nat.le_add_left 1 _
  refine wpAny_mono (wpAny_toks_of hpos (o.run A hA ρ₁ { s₁ with toks := s₁.toks + 1 } es₂.st v q (.int i s₁.toks) (.int i) p st' e7 r₁ (.int _ _) R₁.s)) (fun x s₂ z => ?_) fun _ _ z => z.2.elim
  obtain ⟨h₂, z⟩ := z
  obtain ⟨ρ₂, S₂, g₂, q₂, r₂⟩ := z
  have R₂ := R₁.ofS S₂ g₂
  refine wpAny_mono (wpAny_toks_of h₂ ((Op1.k op_truth).run A hA ρ₂ s₂ _ x p y es' e2 r₂ R₂)) (fun t s₃ z => ?_) fun _ _ z => z.2.elim
  obtain ⟨h₃, z⟩ := z
  exact ⟨fun _ => h₃, (Ends.after (s := s₁) (g₂.wider (by simp)) ⟨q₂.1, q₂.2.1, q₂.2.2⟩ z).after g₁ q₁⟩
theorem dentp_and {x y : Expr} {pos : Pos} {F G : FM Bool} (d : Den c b f RB (isTrue x f.env (eval x f.env)) F) (d' : DenTp c b f (isTrue y f.env (eval y f.env)) G) :
    DenTp c b f (isTrue (.BoolOp .And [x, y] pos) f.env (eval (.BoolOp .And [x, y] pos) f.env)) (iteE F (iteE G (pureE true) (pureE false)) (pureE false)) := by
  constructor
  intro A hA ρ s es r es' e R
  obtain ⟨t, es₁, e1, e2⟩ := iteE_some e
  refine wpAny_isTrue_BoolOp (wpAny_allTrue_And_cons (wpAny_mono (d.run A hA ρ s es t es₁ e1 R) (fun v s₁ z => ?_) fun _ _ z => z))
  obtain ⟨ρ₁, R₁, g₁, q₁, rfl⟩ := z
  cases v with
  | false => obtain ⟨rfl, rfl⟩ := spr e2; exact ⟨(fun h => nomatch h), ρ₁, R₁, g₁, q₁, rfl⟩
  | true =>
    rw [if_pos rfl] at e2
    obtain ⟨t', es₂, e3, e4⟩ := iteE_some e2
    refine wpAny_allTrue_And_cons (wpAny_mono (d'.run A hA ρ₁ s₁ es₁ t' es₂ e3 R₁) (fun v s₂ z => ?_) fun _ _ z => z)
    obtain ⟨hp, ρ₂, R₂, g₂, q₂, rfl⟩ := z
    cases v with
    | false => obtain ⟨rfl, rfl⟩ := spr e4; exact ⟨(fun h => nomatch h), ρ₂, R₂, g₁.trans g₂, q₁.trans q₂, rfl⟩
    | true => obtain ⟨rfl, rfl⟩ := spr e4; exact wpAny_pure ⟨fun _ => hp rfl, ρ₂, R₂, g₁.trans g₂, q₁.trans q₂, rfl⟩
theorem den_if_tp {t : Expr} {x y : List Stmt} {pos : Pos} {T : FM Bool} {X Y : FM PF} (dt : DenTp c b f (isTrue t f.env (eval t f.env)) T) (dx : DenZ c b f RFl (execs x f.env) X) (dy : Den c b f RFl (execs y f.env) Y) :
    Den c b f RFl (exec (.If t x y pos) f.env) (iteE T X Y) := by
  constructor
  intro A hA ρ s es r es' e R
  obtain ⟨t, es₁, e1, e2⟩ := iteE_some e
  refine wpAny_If (wpAny_mono (dt.run A hA ρ s es t es₁ e1 R) (fun v s₁ z => ?_) fun _ _ z => z)
  obtain ⟨hp, ρ₁, R₁, g₁, q₁, rfl⟩ := z
  cases v with
  | true => exact wpAny_mono (dx.run A hA ρ₁ s₁ es₁ r es' e2 R₁ (hp rfl)) (fun _ _ z => z.after g₁ q₁) fun _ _ z => z
  | false => exact wpAny_mono (dy.run A hA ρ₁ s₁ es₁ r es' e2 R₁) (fun _ _ z => z.after g₁ q₁) fun _ _ z => z
noncomputable def replN (ps : List PV) : SM PV := fun st => pik fun r => ∃ x y z, P3 (ps = [.str x, .str y, .str z]) ((Builtin.Str.occurrences x y 0 x.length (x.length + 1)).isEmpty = true) (r = (.str x, st))
theorem replN_of {x y z : Str} {st : List AO} (h : (Builtin.Str.occurrences x y 0 x.length (x.length + 1)).isEmpty = true) : replN [.str x, .str y, .str z] st = some (.str x, st) :=
  pik_of ⟨_, _, _, rfl, h, rfl⟩ fun w q' => by obtain ⟨_, _, _, e, _, q⟩ := q'; cases e; exact q
theorem op_replN : OpL c b (fun vs => call (.builtin "str.replace") vs) replN := by
  constructor
  intro A hA ρ s st vs ps y st' e r R
  obtain ⟨x, y, z, rfl, hb, e'⟩ := Zq e
  clear e; cases e'
  obtain ⟨_, _, _, rfl, r1, r2, r3⟩ := rvs3 r
  obtain ⟨t, rfl⟩ := r1.inv
  obtain ⟨u, rfl⟩ := r2.inv
  obtain ⟨v, rfl⟩ := r3.inv
  have hc : ((Builtin.Str.occurrences x y 0 x.length (x.length + 1)).isEmpty || (y.length == 0 && z.length == 0)) = true := by rw [hb]; rfl
  refine call_gives F.slot_str_replace (typeIs_str _ _ _) F.entry_str_replace (F.args_str_replace_3 _ _ _) (gives_str_replace x y z t u v fun h => nomatch hc.symm.trans h) ?_
  rw [if_pos hc]
  exact EndsS.tok R (.str _ _)
end
section
variable {prog : Program} {w : World} {A : Around} {E : Value → Shared → Prop} {s : Shared}
theorem nsSet_empty {k : Str} {v : Value} {d : Addr} {Q : Unit → Shared → Prop} (D : s.heap.get? d = some (W.dictOf [] 0))
    (h : ∀ h' t tk, (∀ a o, a ≠ d → s.heap.get? a = some o → h'.get? a = some o) → h'.get? d = some (W.dictOf [⟨hashStr w k, .str k t, v⟩] 1) → Q () { s with heap := h', toks := tk }) : wpAny (model prog w) A (nsSet d k v) Q E s := by
  unfold nsSet
  refine wpAny_bind (wpAny_bind (wpAny_askSetting (wpAny_pure (wpAny_bind (wpAny_mkText (wpAny_bind (wpAny_loadPart D ?_)))))))
  dsimp only [W.dictOf]
  rw [aRefKeyMayBeTheName_at]
  refine wpAny_ite (no_if (by simp) ?_)
  have D' : (s.heap.update d (Obj.putName k (hashStr w k) (.str k s.toks) v)).get? d = some (W.dictOf [⟨hashStr w k, .str k s.toks, v⟩] 1) :=
    (Heap.get?_update_self (Obj.putName k (hashStr w k) (.str k s.toks) v) D (by rfl)).trans (by rfl)
  refine wpAny_updatePart D ?_
  exact h _ _ _ (fun a o ne e => ((Heap.SameBut.update ..).2 a ne).trans e) D'
theorem fv_str {x : Str} {t : Tok} {Q : Value → Shared → Prop} (hz : x.length ≤ sizeLine) (h : ∀ t' k, Q (.str x t') { s with toks := k }) : wpAny (model prog w) A (convS (.str x t)) (fun r s₂ => wpAny (model prog w) A (formatField r Str.empty) Q E s₂) E s := by
  refine wpAny_habitSame_str ?_ ?_ hz
  · exact wpAny_formatField_str (h t s.toks) (h _ _) hz
  · exact wpAny_formatField_str (h _ _) (h _ _) hz
end
section
variable {c : Ctx0} {b : Nat} {f : FI}
noncomputable def fstrE (l1 l2 : Str) (p q : PV) : FM PV := fun es => match p, q with
  | .str x, .str y => if x.length + y.length ≤ 2000 ∧ l1.length + l2.length ≤ 2000 then some (.str (x ++ l1 ++ y ++ l2), es) else none
  | _, _ => none
theorem den_fstr {v1 v2 : Expr} {p1 p2 q1 q2 pos : Pos} {k1 k2 : Nat} {l1 l2 : Str} {F₁ F₂ : FM PV} (d₁ : Den c b f RV (eval v1 f.env) F₁) (d₂ : Den c b f RV (eval v2 f.env) F₂) :
    Den c b f RV (eval (.JoinedStr [.FormattedValue v1 115 none p1, .Constant (.str l1) k1 q1, .FormattedValue v2 115 none p2, .Constant (.str l2) k2 q2] pos) f.env) (bindE F₁ fun p => bindE F₂ fun q => fstrE l1 l2 p q) := by
  constructor
  intro A hA ρ s es r es' e R
  obtain ⟨p, es₁, e1, e⟩ := Zd e
  obtain ⟨q, es₂, e2, e⟩ := Zd e
  unfold fstrE at e
  split at e
  rotate_left
  · exact (nos e).elim
  rename_i x y _
  obtain ⟨⟨hz, hl⟩, e⟩ := ite_then e
  obtain ⟨rfl, rfl⟩ := spr e
  have sz : ∀ n, n ≤ 4000 → n ≤ sizeLine := fun n h => by rw [sizeLine_eq]; omega
  refine wpAny_JoinedStr ?_
  show wpAny _ _ (eval (.FormattedValue v1 115 none p1) f.env) _ _ _
  refine wpAny_FormattedValue_s (wpAny_mono (d₁.run A hA ρ s es _ es₁ e1 R) (fun v s₁ z => ?_) fun _ _ z => z)
  obtain ⟨ρ₁, R₁, g₁, ⟨qa, qb, qc⟩, r₁⟩ := z
  obtain ⟨t, rfl⟩ := r₁.inv
  refine fv_str (sz _ (by omega)) fun t' k => ⟨x, t', rfl, ?_, ?_⟩
  · rw [str_none_app]; exact sz _ (by omega)
  rw [str_none_app]
  show wpAny _ _ (eval (.Constant (.str l1) k1 q1) f.env) _ _ _
  refine wpAny_Constant_str ⟨l1, _, rfl, ?_, ?_⟩
  · rw [PySem.Str.length_append]; exact sz _ (by omega)
  show wpAny _ _ (eval (.FormattedValue v2 115 none p2) f.env) _ _ _
  refine wpAny_FormattedValue_s (wpAny_mono (d₂.run A hA ρ₁ { s₁ with toks := k + 1 } es₁ _ es₂ e2 R₁) (fun v s₂ z => ?_) fun _ _ z => z)
  obtain ⟨ρ₂, R₂, g₂, ⟨ra, rb, rc⟩, r₂⟩ := z
  obtain ⟨t2, rfl⟩ := r₂.inv
  refine fv_str (sz _ (by omega)) fun t' k => ⟨y, t', rfl, ?_, ?_⟩
  · rw [PySem.Str.length_append, PySem.Str.length_append]; exact sz _ (by omega)
  show wpAny _ _ (eval (.Constant (.str l2) k2 q2) f.env) _ _ _
  have h4 : (x ++ l1 ++ y ++ l2).length ≤ sizeLine := by rw [PySem.Str.length_append, PySem.Str.length_append, PySem.Str.length_append]; exact sz _ (by omega)
  refine wpAny_Constant_str ⟨l2, _, rfl, h4, h4, ρ₂, R₂, g₁.trans g₂, ⟨ra.trans qa, rb.trans qb, rc.trans qc⟩, .str _ _⟩
end
noncomputable abbrev C2 (w : World) : Ctx0 := ⟨PySem.Challenge.rw_tc0040_01.row.prog, w, kFrag w.params⟩
theorem two_sz : (2 : Nat) ≤ sizeLine := by rw [sizeLine_eq]; omega
theorem Z0 {n : Nat} (h : n ≤ 100) : n ≤ sizeLine := by rw [sizeLine_eq]; omega
section
variable {β γ : Type} {es es₁ es₂ : ES}
theorem e_bind {m : FM β} {k : β → FM γ} {y : β} {r : Option (γ × ES)} (h1 : m es = some (y, es₁)) (h2 : k y es₁ = r) : bindE m k es = r := by
  unfold bindE; rw [h1]; exact h2
theorem e_bin {F₁ F₂ : FM PV} {G : PV → PV → SM PV} {p q r : PV} {st' : List AO} (h1 : F₁ es = some (p, es₁)) (h2 : F₂ es₁ = some (q, es₂)) (h3 : G p q es₂.st = some (r, st')) : (bindE F₁ fun p => bindE F₂ fun q => liftS (G p q)) es = some (r, ⟨es₂.loc, es₂.cel, st'⟩) :=
  e_bind h1 (e_bind h2 (by unfold liftS; rw [h3]))
theorem e_lift {F : FM PV} {G : PV → SM γ} {p : PV} {r : γ} {st' : List AO} (h1 : F es = some (p, es₁)) (h3 : G p es₁.st = some (r, st')) : (bindE F fun p => liftS (G p)) es = some (r, ⟨es₁.loc, es₁.cel, st'⟩) :=
  e_bind h1 (by unfold liftS; rw [h3])
theorem Ys {γ : Type} {G : SM γ} {es : ES} {r : γ} {st' : List AO} (h : G es.st = some (r, st')) : liftS G es = some (r, ⟨es.loc, es.cel, st'⟩) := by unfold liftS; rw [h]
theorem Z9 {β : Type} {P : List AO → Bool} {x : FM β} {es : ES} {r : Option (β × ES)} (h : P es.st = true) (hx : x es = r) : guardE P x es = r := by
  unfold guardE; rw [if_pos h]; exact hx
theorem new0 {es : ES} : (bindE (pureE []) newE) es = some (.ref es.st.length, ⟨es.loc, es.cel, es.st ++ [.list []]⟩) := e_bind (y := []) (es₁ := es) rfl (if_pos (Nat.zero_le _))
theorem e_stop {x y : FM PF} {v : PV} (h1 : x es = some (.ret v, es₁)) : seqE x y es = some (.ret v, es₁) := by
  unfold seqE; exact e_bind h1 rfl
theorem e_stopc {x y : FM PF} (h1 : x es = some (.cont, es₁)) : seqE x y es = some (.cont, es₁) := by
  unfold seqE; exact e_bind h1 rfl
theorem e_seq {x y : FM PF} {r : Option (PF × ES)} (h1 : x es = some (.next, es₁)) (h2 : y es₁ = r) : seqE x y es = r := by
  unfold seqE; exact e_bind h1 h2
theorem e_asg {X : FM PV} {S : PV → FM Unit} {p : PV} (h1 : X es = some (p, es₁)) (h2 : S p es₁ = some ((), es₂)) : (bindE X fun p => bindE (S p) fun _ => pureE PF.next) es = some (PF.next, es₂) :=
  e_bind h1 (e_bind h2 rfl)
theorem e_ite {m : FM Bool} {x y : FM β} {t : Bool} {r : Option (β × ES)} (h1 : m es = some (t, es₁)) (h2 : (if t then x else y) es₁ = r) : iteE m x y es = r := e_bind h1 h2
theorem e_cons {X : FM PV} {Y : FM (List PV)} {p : PV} {ps : List PV} (h1 : X es = some (p, es₁)) (h2 : Y es₁ = some (ps, es₂)) : consE X Y es = some (p :: ps, es₂) := by
  unfold consE; exact e_bind h1 (e_bind h2 rfl)
theorem e_aug {old X : FM PV} {G : PV → PV → SM PV} {S : PV → FM Unit} {p q r : PV} {st' : List AO} {es₃ : ES} (h1 : old es = some (p, es₁)) (h2 : X es₁ = some (q, es₂)) (h3 : G p q es₂.st = some (r, st')) (h4 : S r ⟨es₂.loc, es₂.cel, st'⟩ = some ((), es₃)) : augE old X G S es = some (.next, es₃) := by
  unfold augE; exact e_bind (e_bin h1 h2 h3) (e_bind h4 rfl)
theorem e_tup {Y : FM (List PV)} {ps : List PV} (h1 : Y es = some (ps, es₁)) (hz : ps.length ≤ sizeLine) : bindE Y tupE es = some (.tup ps, es₁) :=
  e_bind h1 (by unfold tupE; rw [if_pos hz]; rfl)
theorem e_lst {Y : FM (List PV)} {ps : List PV} (h1 : Y es = some (ps, es₁)) : (bindE Y fun zs => pureE (PV.lst zs)) es = some (PV.lst ps, es₁) := e_bind h1 rfl
end
section
variable {γ : Type} {es : ES}
theorem p_bin {F₁ F₂ : FM PV} {G : PV → PV → SM PV} {p q r : PV} (h1 : F₁ es = some (p, es)) (h2 : F₂ es = some (q, es)) (h3 : G p q es.st = some (r, es.st)) : (bindE F₁ fun p => bindE F₂ fun q => liftS (G p q)) es = some (r, es) := e_bin h1 h2 h3
theorem p_lift {F : FM PV} {G : PV → SM γ} {p : PV} {r : γ} (h1 : F es = some (p, es)) (h3 : G p es.st = some (r, es.st)) : (bindE F fun p => liftS (G p)) es = some (r, es) := e_lift h1 h3
theorem p_cons {X : FM PV} {Y : FM (List PV)} {p : PV} {ps : List PV} (h1 : X es = some (p, es)) (h2 : Y es = some (ps, es)) : consE X Y es = some (p :: ps, es) := e_cons h1 h2
theorem p_tup2 {X Y : FM PV} {p q : PV} (h1 : X es = some (p, es)) (h2 : Y es = some (q, es)) : bindE (consE X (consE Y (pureE []))) tupE es = some (.tup [p, q], es) := e_tup (p_cons h1 (p_cons h2 rfl)) two_sz
end
theorem p_call {FA : FM (List PV)} {G : List PV → SM PV} {ps : List PV} {r : PV} {es : ES} (h1 : FA es = some (ps, es)) (h2 : G ps es.st = some (r, es.st)) : (bindE FA fun ps => liftS (G ps)) es = some (r, es) := e_bind h1 (by unfold liftS; rw [h2])
section
variable {es es₁ es₂ : ES}
theorem e_meth {F : FM PV} {A : FM (List PV)} {P : PV → List AO → Bool} {G : List PV → SM PV} {p r : PV} {ps : List PV} {st' : List AO} (h1 : F es = some (p, es₁)) (hg : P p es₁.st = true) (h2 : A es₁ = some (ps, es₂)) (h3 : G (p :: ps) es₂.st = some (r, st')) :
    (bindE F fun p => guardE (P p) (bindE A fun ps => liftS (G (p :: ps)))) es = some (r, ⟨es₂.loc, es₂.cel, st'⟩) :=
  e_bind h1 (by unfold guardE; rw [if_pos hg]; exact e_bind h2 (by unfold liftS; rw [h3]))
theorem p_meth {F : FM PV} {A : FM (List PV)} {P : PV → List AO → Bool} {G : List PV → SM PV} {p r : PV} {ps : List PV} (h1 : F es = some (p, es)) (hg : P p es.st = true) (h2 : A es = some (ps, es)) (h3 : G (p :: ps) es.st = some (r, es.st)) :
    (bindE F fun p => guardE (P p) (bindE A fun ps => liftS (G (p :: ps)))) es = some (r, es) := e_meth h1 hg h2 h3
theorem e_expr {X : FM PV} {p : PV} (h1 : X es = some (p, es₁)) : (bindE X fun _ => pureE PF.next) es = some (PF.next, es₁) := e_bind h1 rfl
theorem p_lst2 {X Y : FM PV} {p q : PV} (h1 : X es = some (p, es)) (h2 : Y es = some (q, es)) : bindE (consE X (consE Y (pureE []))) lstE es = some (.lst [p, q], es) :=
  e_bind (p_cons h1 (p_cons h2 rfl)) (by unfold lstE; rw [if_pos (show [p, q].length ≤ sizeLine from two_sz)]; rfl)
end
theorem Yq {st : List AO} {i C : Nat} {kvs : List (Str × PV)} {name : Str} (h : st[i]? = some (.inst C kvs)) (hn : kvGet kvs name = none) : isInst C name (.ref i) st = true := pikB_of ⟨_, inst_of h, hn⟩
theorem truth_ref {st : List AO} {i : Nat} {xs : List PV} (hi : st[i]? = some (.list xs)) (h : xs.length ≤ 100) : truthG (.ref i) st = some (!xs.isEmpty, st) := by
  unfold truthG
  dsimp only
  rw [hi]
  dsimp only
  rw [if_pos (Z0 h)]
theorem truth_bool (t : Bool) (st : List AO) : truthG (.bool t) st = some (t, st) := rfl
theorem append_ref {st : List AO} {i : Nat} {xs : List PV} {p : PV} (h : st[i]? = some (.list xs)) (hz : xs.length ≤ 100) : appendG [.ref i, p] st = some (.none, st.set i (.list (xs ++ [p]))) := append_of h (Z0 hz)
theorem items_ref {st : List AO} {i : Nat} {xs : List PV} (h : st[i]? = some (.list xs)) : items? st (.ref i) = some xs := by
  unfold items?
  dsimp only
  rw [h]
theorem isLst_ref {st : List AO} {i : Nat} {xs : List PV} (h : st[i]? = some (.list xs)) : isLst (.ref i) st = true := by
  unfold isLst; rw [items_ref h]; rfl
noncomputable abbrev inP (n : Nat) : PV := .int (n : Int)
theorem compItems_pure {α : Type} (f : α → PV) (t : α → Bool) (v : α → PV) {chk : List AO → Bool} {T : FM Bool} {X : FM PV} {cel : List (Option PV)} {st : List AO} (hc : chk st = true) :
    ∀ (ns : List α) (zs : List PV) (o : Option PV), (∀ a ∈ ns, T ⟨[some (f a)], cel, st⟩ = some (t a, ⟨[some (f a)], cel, st⟩)) → (∀ a ∈ ns, t a = true → X ⟨[some (f a)], cel, st⟩ = some (v a, ⟨[some (f a)], cel, st⟩)) → zs.length + ns.length ≤ sizeLine →
    ∃ o', Zr chk (setL 0) T (emitE X) (ns.map f) zs ⟨[o], cel, st⟩ = some (zs ++ (ns.filter t).map v, ⟨[o'], cel, st⟩) := by
  intro ns
  induction ns with
  | nil => intro zs o _ _ _; exact ⟨o, by simp [Zr, guardE, hc, pureE]⟩
  | cons a ns ih =>
    intro zs o hT hX hz
    have h1 := hT a (.head _)
    have hz' : zs.length ≤ sizeLine := by simp only [List.length_cons] at hz; omega
    cases ht : t a with
    | false =>
      obtain ⟨o', h⟩ := ih zs (some (f a)) (fun b m => hT b (.tail _ m)) (fun b m => hX b (.tail _ m)) (by simp only [List.length_cons] at hz; omega)
      refine ⟨o', ?_⟩
      rw [ht] at h1
      simp [Zr, guardE, hc, bindE, setL, h1, h, ht]
    | true =>
      have h2 := hX a (.head _) ht
      obtain ⟨o', h⟩ := ih (zs ++ [v a]) (some (f a)) (fun b m => hT b (.tail _ m)) (fun b m => hX b (.tail _ m)) (by simp only [List.length_cons, List.length_append, List.length_nil] at hz ⊢; omega)
      refine ⟨o', ?_⟩
      rw [ht] at h1
      simp [Zr, guardE, hc, bindE, setL, h1, h2, h, ht, emitE, hz', pureE]
theorem compE_pure {α : Type} (f : α → PV) (t : α → Bool) (v : α → PV) (ns : List α) {chk : List AO → Bool} {I : FM Its} {T : FM Bool} {X : FM PV} {es : ES} (hi : I es = some ((ns.map f, chk), es)) (hc : chk es.st = true)
    (hT : ∀ a ∈ ns, T ⟨[some (f a)], es.cel, es.st⟩ = some (t a, ⟨[some (f a)], es.cel, es.st⟩)) (hX : ∀ a ∈ ns, t a = true → X ⟨[some (f a)], es.cel, es.st⟩ = some (v a, ⟨[some (f a)], es.cel, es.st⟩)) (hz : ns.length ≤ sizeLine) :
    compE 1 I (setL 0) T (emitE X) es = some ((ns.filter t).map v, es) := by
  obtain ⟨o', h⟩ := compItems_pure f t v hc ns [] none hT hX (by simpa using hz)
  unfold compE
  rw [hi]
  simp only [List.replicate_one] at h ⊢
  rw [h]
  simp
theorem getL_at {i : Nat} {p : PV} {es : ES} (h : es.loc[i]? = some (some p)) : getL i es = some (p, es) := by
  unfold getL; rw [h]; rfl
theorem mapM_dat {α : Type} (n : Nat) (f : α → PV) (g : α → PyData) (h : ∀ a, dat n (f a) = some (g a)) : ∀ l : List α, (l.map f).mapM (dat n) = some (l.map g)
  | [] => rfl
  | a :: l => by
    rw [List.map_cons, List.mapM_cons, h a, mapM_dat n f g h l]; rfl
theorem emit_of {X : FM PV} {zs : List PV} {p : PV} {es es' : ES} (h : X es = some (p, es')) (hz : zs.length ≤ 100) : emitE X zs es = some (zs ++ [p], es') := by
  unfold emitE
  exact e_bind h (by rw [if_pos (Z0 hz)]; rfl)
theorem mapM_strs {α : Type} (f : α → Str) : ∀ (l : List α), (∀ a ∈ l, PyData.strOk (f a) = true) → (l.map fun a => PV.str (f a)).mapM (dat 5) = some (l.map fun a => PyData.str (f a))
  | [], _ => rfl
  | a :: l, h => by
    rw [List.map_cons, List.mapM_cons, mapM_strs f l fun b m => h b (.tail _ m)]
    show ((if PyData.strOk (f a) = true then some (PyData.str (f a)) else none) >>= _) = _
    rw [if_pos (h a (.head _))]; rfl
noncomputable abbrev Cd := Nat × Nat
noncomputable def dg (n c : Nat) : Nat := n / 4 ^ c % 4
noncomputable def fig (x : Cd) (c : Nat) : Nat := 2 + dg x.2 (c - 1)
noncomputable def same (l : List Cd) (c f : Nat) : List Cd := l.filter fun x => fig x c == f
noncomputable def deal (z : Bool) (c : Nat) (l : List Cd) : List Cd := [2, 3, 4, 5].flatMap fun f => if z then (same l c f).reverse else same l c f
noncomputable def dealt (z : Nat → Bool) (cs : List Cd) : Nat → List Cd
  | 0 => deal (z 3) 3 cs
  | m + 1 => deal (z (2 - m)) (2 - m) (dealt z cs m)
noncomputable def frac (z : Nat → Bool) (x : Cd) : Nat → Int × Int
  | 0 => ((fig x 3 : Int), 1)
  | m + 1 => ((fig x (2 - m) : Int) * (frac z x m).1 + (if z (2 - m) then (frac z x m).2 else -(frac z x m).2), (frac z x m).1)
noncomputable def less (z : Nat → Bool) (m : Nat) (x y : Cd) : Int := (frac z y m).1 * (frac z x m).2 - (frac z x m).1 * (frac z y m).2
noncomputable def turned (z : Nat → Bool) : Nat → Bool
  | 0 => z 3
  | m + 1 => xor (z (2 - m)) (turned z m)
noncomputable def relB (z : Nat → Bool) : Nat → Cd → Cd → Bool
  | 0, x, y => decide (fig x 3 < fig y 3) || (fig x 3 == fig y 3 && (if z 3 then decide (y.1 < x.1) else decide (x.1 < y.1)))
  | m + 1, x, y => decide (fig x (2 - m) < fig y (2 - m)) || (fig x (2 - m) == fig y (2 - m) && (if z (2 - m) then relB z m y x else relB z m x y))
noncomputable def ahead (z : Nat → Bool) (m : Nat) (x y : Cd) : Bool := decide (less z m x y < 0) || (decide (less z m x y = 0) && (if turned z m then decide (x.1 < y.1) else decide (y.1 < x.1)))
theorem frac_pos (z : Nat → Bool) (x : Cd) : ∀ m, 0 < (frac z x m).2 ∧ (frac z x m).2 < (frac z x m).1
  | 0 => ⟨by show (0 : Int) < 1; decide, by show (1 : Int) < (fig x 3 : Int); unfold fig; omega⟩
  | m + 1 => by
    obtain ⟨h1, h2⟩ := frac_pos z x m
    have hf : (2 : Int) ≤ (fig x (2 - m) : Int) := by unfold fig; omega
    have h3 : 2 * (frac z x m).1 ≤ (fig x (2 - m) : Int) * (frac z x m).1 := Int.mul_le_mul_of_nonneg_right hf (by omega)
    refine ⟨by show (0 : Int) < (frac z x m).1; omega, ?_⟩
    show (frac z x m).1 < (fig x (2 - m) : Int) * (frac z x m).1 + (if z (2 - m) then (frac z x m).2 else -(frac z x m).2)
    split <;> omega
theorem less_swap (z : Nat → Bool) (m : Nat) (x y : Cd) : less z m y x = -less z m x y := by
  unfold less
  rw [Int.mul_comm (frac z x m).1, Int.mul_comm (frac z y m).1]
  omega
theorem less_abs (z : Nat → Bool) (m : Nat) (x y : Cd) : less z m x y < (frac z x m).1 * (frac z y m).1 ∧ -((frac z x m).1 * (frac z y m).1) < less z m x y := by
  obtain ⟨h1, h2⟩ := frac_pos z x m
  obtain ⟨h3, h4⟩ := frac_pos z y m
  have a1 : (frac z y m).1 * (frac z x m).2 < (frac z y m).1 * (frac z x m).1 := Int.mul_lt_mul_of_pos_left h2 (by omega)
  have a2 : (frac z x m).1 * (frac z y m).2 < (frac z x m).1 * (frac z y m).1 := Int.mul_lt_mul_of_pos_left h4 (by omega)
  have a3 : 0 < (frac z y m).1 * (frac z x m).2 := Int.mul_pos (by omega) h1
  have a4 : 0 < (frac z x m).1 * (frac z y m).2 := Int.mul_pos (by omega) h3
  rw [Int.mul_comm (frac z y m).1 (frac z x m).1] at a1
  unfold less
  omega
theorem step_eq (dx dy ax ay bx b s : Int) : (dy * ay + s * b) * ax - (dx * ax + s * bx) * ay = (dy - dx) * (ax * ay) - s * (ay * bx - ax * b) := by grind
theorem less_succ (z : Nat → Bool) (m : Nat) (x y : Cd) : less z (m + 1) x y = ((fig y (2 - m) : Int) - (fig x (2 - m) : Int)) * ((frac z x m).1 * (frac z y m).1) - (if z (2 - m) then less z m x y else -less z m x y) := by
  have h : ∀ s : Int, (∀ b : Int, (if z (2 - m) then b else -b) = s * b) → less z (m + 1) x y = ((fig y (2 - m) : Int) - (fig x (2 - m) : Int)) * ((frac z x m).1 * (frac z y m).1) - s * less z m x y := by
    intro s hs
    show ((fig y (2 - m) : Int) * (frac z y m).1 + (if z (2 - m) then (frac z y m).2 else -(frac z y m).2)) * (frac z x m).1 - ((fig x (2 - m) : Int) * (frac z x m).1 + (if z (2 - m) then (frac z x m).2 else -(frac z x m).2)) * (frac z y m).1 = _
    rw [hs, hs]
    exact step_eq ..
  cases hz : z (2 - m) with
  | true => rw [h 1 fun b => by rw [hz, if_pos rfl]; omega, if_pos rfl, Int.one_mul]
  | false => rw [h (-1) fun b => by rw [hz, if_neg (by decide)]; omega, if_neg (by decide)]; omega
theorem sign_step {k P L : Int} (h1 : L < P) (h2 : -P < L) : (0 < k → 0 < k * P - L) ∧ (k < 0 → k * P - L < 0) ∧ (k = 0 → k * P - L = -L) := by
  refine ⟨fun h => ?_, fun h => ?_, fun h => by rw [h, Int.zero_mul]; omega⟩
  · have := Int.mul_le_mul_of_nonneg_right (show (1 : Int) ≤ k by omega) (show 0 ≤ P by omega)
    omega
  · have := Int.mul_le_mul_of_nonneg_right (show k ≤ (-1 : Int) by omega) (show 0 ≤ P by omega)
    omega
theorem ahead_rel (z : Nat → Bool) : ∀ (m : Nat) (x y : Cd), ahead z m x y = relB z m y x
  | 0, x, y => by
    unfold ahead relB less turned frac
    simp only [Int.mul_one]
    have e1 : decide ((fig y 3 : Int) - (fig x 3 : Int) < 0) = decide (fig y 3 < fig x 3) := by rw [decide_eq_decide]; omega
    have e2 : decide ((fig y 3 : Int) - (fig x 3 : Int) = 0) = (fig y 3 == fig x 3) := by rw [Bool.eq_iff_iff, decide_eq_true_iff, beq_iff_eq]; omega
    rw [e1, e2]
  | m + 1, x, y => by
    have i1 := ahead_rel z m x y
    have i2 := ahead_rel z m y x
    obtain ⟨a1, a2⟩ := less_abs z m x y
    have sw := less_swap z m x y
    unfold ahead relB
    rw [less_succ, ← i1, ← i2]
    unfold ahead
    rw [sw]
    rw [show turned z (m + 1) = xor (z (2 - m)) (turned z m) from rfl]
    generalize less z m x y = L at *
    generalize (frac z x m).1 * (frac z y m).1 = P at *
    have key : ∀ L' : Int, L' < P → -P < L' → ∀ t : Bool, (decide (((fig y (2 - m) : Int) - (fig x (2 - m) : Int)) * P - L' < 0) || (decide (((fig y (2 - m) : Int) - (fig x (2 - m) : Int)) * P - L' = 0) && t)) = (decide (fig y (2 - m) < fig x (2 - m)) || (fig y (2 - m) == fig x (2 - m) && (decide (-L' < 0) || (decide (L' = 0) && t)))) := by
      intro L' g1 g2 t
      obtain ⟨s1, s2, s3⟩ := sign_step (k := (fig y (2 - m) : Int) - (fig x (2 - m) : Int)) g1 g2
      generalize ((fig y (2 - m) : Int) - (fig x (2 - m) : Int)) * P - L' = W at *
      rcases Nat.lt_trichotomy (fig y (2 - m)) (fig x (2 - m)) with h | h | h
      · have := s2 (by omega)
        rw [decide_eq_true this, decide_eq_true h]; rfl
      · have e := s3 (by omega)
        rw [e, decide_eq_false (show ¬ fig y (2 - m) < fig x (2 - m) by omega), beq_iff_eq.mpr h]
        have : decide (-L' = 0) = decide (L' = 0) := by rw [decide_eq_decide]; omega
        rw [this]
        simp
      · have := s1 (by omega)
        rw [decide_eq_false (show ¬ W < 0 by omega), decide_eq_false (show ¬ W = 0 by omega), decide_eq_false (show ¬ fig y (2 - m) < fig x (2 - m) by omega), show (fig y (2 - m) == fig x (2 - m)) = false from beq_eq_false_iff_ne.mpr (by omega)]; rfl
    cases hz : z (2 - m) with
    | true =>
      simp only [if_true, Bool.true_bne, Bool.bne_true, Bool.true_xor]
      rw [key L a1 a2]
      cases turned z m <;> simp
    | false =>
      simp only [Bool.false_eq_true, if_false, Bool.false_xor]
      rw [key (-L) (by omega) (by omega)]
      have : decide (- -L < 0) = decide (L < 0) := by rw [decide_eq_decide]; omega
      have h2 : decide (-L = 0) = decide (L = 0) := by rw [decide_eq_decide]; omega
      rw [this, h2]
theorem fig_in (x : Cd) (c : Nat) : fig x c ∈ [2, 3, 4, 5] := by
  have h : dg x.2 (c - 1) < 4 := Nat.mod_lt _ (by decide)
  have e : fig x c = 2 + dg x.2 (c - 1) := rfl
  generalize dg x.2 (c - 1) = d at h e
  rw [e]
  match d, h with
  | 0, _ | 1, _ | 2, _ | 3, _ => simp
theorem mem_same {l : List Cd} {c f : Nat} {x : Cd} : x ∈ same l c f ↔ x ∈ l ∧ fig x c = f := by
  unfold same; rw [List.mem_filter, beq_iff_eq]
theorem mem_part {b : Bool} {l : List Cd} {c f : Nat} {x : Cd} : (x ∈ if b then (same l c f).reverse else same l c f) ↔ x ∈ l ∧ fig x c = f := by
  cases b
  · exact mem_same
  · rw [if_pos rfl, List.mem_reverse]; exact mem_same
theorem mem_deal {b : Bool} {c : Nat} {l : List Cd} {x : Cd} : x ∈ deal b c l ↔ x ∈ l := by
  unfold deal
  rw [List.mem_flatMap]
  constructor
  · rintro ⟨f, _, h⟩; exact (mem_part.mp h).1
  · intro h; exact ⟨fig x c, fig_in x c, mem_part.mpr ⟨h, rfl⟩⟩
theorem deal_pair {b : Bool} {c : Nat} {l : List Cd} {S T : Cd → Cd → Bool} (h : l.Pairwise fun x y => S x y = true) (hT : ∀ x y, T x y = (decide (fig x c < fig y c) || (fig x c == fig y c && (if b then S y x else S x y)))) :
    (deal b c l).Pairwise fun x y => T x y = true := by
  unfold deal
  rw [List.pairwise_flatMap]
  constructor
  · intro f hf
    have hs : (same l c f).Pairwise fun x y => S x y = true := h.sublist List.filter_sublist
    have eqs : ∀ x ∈ same l c f, ∀ y ∈ same l c f, fig x c = fig y c := fun x hx y hy => (mem_same.mp hx).2.trans (mem_same.mp hy).2.symm
    cases b with
    | false =>
      refine List.Pairwise.imp_of_mem (fun {x y} hx hy hxy => ?_) hs
      rw [hT, beq_iff_eq.mpr (eqs x hx y hy), Bool.true_and, if_neg (by decide), hxy, Bool.or_true]
    | true =>
      refine List.pairwise_reverse.mpr (List.Pairwise.imp_of_mem (fun {x y} hx hy hxy => ?_) hs)
      rw [hT, beq_iff_eq.mpr (eqs y hy x hx), Bool.true_and, if_pos rfl, hxy, Bool.or_true]
  · have key : ∀ f g : Nat, f < g → ∀ x, (x ∈ if b then (same l c f).reverse else same l c f) → ∀ y, (y ∈ if b then (same l c g).reverse else same l c g) → T x y = true := by
      intro f g hfg x hx y hy
      have h1 := (mem_part.mp hx).2
      have h2 := (mem_part.mp hy).2
      rw [hT, decide_eq_true (by omega)]; rfl
    exact List.Pairwise.imp (fun {f g} hfg => key f g hfg) (by decide : [2, 3, 4, 5].Pairwise fun f g : Nat => f < g)
theorem dealt_pair (z : Nat → Bool) {cs : List Cd} (h : cs.Pairwise fun x y => x.1 < y.1) : ∀ m, (dealt z cs m).Pairwise fun x y => relB z m x y = true
  | 0 => deal_pair (S := fun x y => decide (x.1 < y.1)) (h.imp fun h => decide_eq_true h) fun x y => rfl
  | m + 1 => deal_pair (dealt_pair z h m) fun x y => rfl
theorem mem_dealt (z : Nat → Bool) {cs : List Cd} {x : Cd} : ∀ m, x ∈ dealt z cs m ↔ x ∈ cs
  | 0 => mem_deal
  | m + 1 => mem_deal.trans (mem_dealt z m)
theorem rel_asym {z : Nat → Bool} {m : Nat} {x y : Cd} (h : relB z m x y = true) : relB z m y x = false := by
  rw [← ahead_rel] at h ⊢
  have sw := less_swap z m x y
  unfold ahead at h ⊢
  rw [sw] at h
  generalize less z m x y = L at *
  have e1 : decide (-L < 0) = decide (0 < L) := by rw [decide_eq_decide]; omega
  have e2 : decide (-L = 0) = decide (L = 0) := by rw [decide_eq_decide]; omega
  rw [e1, e2] at h
  rcases Int.lt_trichotomy L 0 with c | c | c
  · rw [decide_eq_false (show ¬ 0 < L by omega), decide_eq_false (show ¬ L = 0 by omega)] at h; exact nomatch h
  · subst c
    cases ht : turned z m <;> rw [ht] at h <;> simp at h ⊢ <;> omega
  · rw [decide_eq_false (show ¬ L < 0 by omega), decide_eq_false (show ¬ L = 0 by omega)]; rfl
theorem rel_irr {z : Nat → Bool} {m : Nat} {x : Cd} : relB z m x x = false := by
  cases h : relB z m x x with
  | false => rfl
  | true => exact h.symm.trans (rel_asym h)
theorem dealt_nodup (z : Nat → Bool) {cs : List Cd} (h : cs.Pairwise fun x y => x.1 < y.1) (m : Nat) : (dealt z cs m).Nodup :=
  (dealt_pair z h m).imp fun {x y} hxy e => by
    subst e
    exact absurd (hxy.symm.trans rel_irr) (by decide)
theorem cs_nodup {cs : List Cd} (h : cs.Pairwise fun x y => x.1 < y.1) : cs.Nodup := h.imp fun {x y} hxy e => by subst e; exact Nat.lt_irrefl _ hxy
theorem dealt_perm (z : Nat → Bool) {cs : List Cd} (h : cs.Pairwise fun x y => x.1 < y.1) (m : Nat) : (dealt z cs m).Perm cs :=
  (List.perm_ext_iff_of_nodup (dealt_nodup z h m) (cs_nodup h)).mpr fun x => mem_dealt z m
theorem dealt_len (z : Nat → Bool) {cs : List Cd} (h : cs.Pairwise fun x y => x.1 < y.1) (m : Nat) : (dealt z cs m).length = cs.length := (dealt_perm z h m).length_eq
theorem rank_at {R : Cd → Cd → Bool} (asym : ∀ {x y}, R x y = true → R y x = false) (irr : ∀ {x}, R x x = false) : ∀ (L : List Cd), (L.Pairwise fun x y => R x y = true) → ∀ x ∈ L, L[L.countP fun y => R y x]? = some x
  | [], _, x, hx => nomatch hx
  | a :: L, h, x, hx => by
    rw [List.pairwise_cons] at h
    by_cases e : a = x
    · subst e
      have : (a :: L).countP (fun y => R y a) = 0 := by
        rw [List.countP_eq_zero]
        intro y hy
        rcases List.mem_cons.mp hy with rfl | hy
        · rw [irr]; decide
        · rw [asym (h.1 y hy)]; decide
      rw [this]; rfl
    · have hx' : x ∈ L := (List.mem_cons.mp hx).resolve_left fun q => e q.symm
      rw [List.countP_cons_of_pos (p := fun y => R y x) (h.1 x hx')]
      exact rank_at asym irr L h.2 x hx'
noncomputable def rank (z : Nat → Bool) (m : Nat) (cs : List Cd) (x : Cd) : Nat := cs.countP fun y => ahead z m x y
theorem rank_get (z : Nat → Bool) {cs : List Cd} (h : cs.Pairwise fun x y => x.1 < y.1) (m : Nat) {x : Cd} (hx : x ∈ cs) : (dealt z cs m)[rank z m cs x]? = some x := by
  have e : rank z m cs x = (dealt z cs m).countP fun y => relB z m y x := by
    unfold rank
    rw [(dealt_perm z h m).countP_eq]
    refine List.countP_congr fun y _ => ?_
    rw [ahead_rel]
  rw [e]
  exact rank_at rel_asym rel_irr _ (dealt_pair z h m) x ((mem_dealt z m).mpr hx)
theorem fold_set {α β : Type} (rk : α → Nat) (v : α → β) {p : Nat} {w : β} : ∀ (cs : List α) (d : List β), (∀ t ∈ cs, rk t = p → v t = w) → ((∃ t ∈ cs, rk t = p) ∨ d[p]? = some w) → p < d.length → (cs.foldl (fun d t => d.set (rk t) (v t)) d)[p]? = some w
  | [], d, _, h, _ => h.elim (fun ⟨_, m, _⟩ => nomatch m) id
  | t :: cs, d, h1, h2, h3 => by
    rw [List.foldl_cons]
    refine fold_set rk v cs _ (fun s m => h1 s (.tail _ m)) ?_ (by rwa [List.length_set])
    by_cases e : rk t = p
    · refine .inr ?_
      rw [e, List.getElem?_set_self h3, h1 t (.head _) e]
    · rcases h2 with ⟨s, m, q⟩ | h2
      · rcases List.mem_cons.mp m with rfl | m
        · exact (e q).elim
        · exact .inl ⟨s, m, q⟩
      · refine .inr ?_
        rw [List.getElem?_set_ne e]; exact h2
theorem fold_len {α β : Type} (rk : α → Nat) (v : α → β) : ∀ (cs : List α) (d : List β), (cs.foldl (fun d t => d.set (rk t) (v t)) d).length = d.length
  | [], _ => rfl
  | t :: cs, d => by rw [List.foldl_cons, fold_len rk v cs, List.length_set]
theorem due_dealt {β : Type} (v : Cd → β) (e : β) (z : Nat → Bool) {cs : List Cd} (h : cs.Pairwise fun x y => x.1 < y.1) (m : Nat) :
    cs.foldl (fun d t => d.set (rank z m cs t) (v t)) (List.replicate cs.length e) = (dealt z cs m).map v := by
  apply List.ext_getElem?
  intro p
  have hl := dealt_len z h m
  by_cases hp : p < cs.length
  · have hp' : p < (dealt z cs m).length := by omega
    rw [List.getElem?_map, List.getElem?_eq_getElem hp', Option.map_some]
    refine fold_set _ v cs _ (fun t m' q => ?_) (.inl ⟨(dealt z cs m)[p], (mem_dealt z m).mp (List.getElem_mem _), ?_⟩) (by rw [List.length_replicate]; exact hp)
    · have := rank_get z h m m'
      rw [q, List.getElem?_eq_getElem hp'] at this
      rw [Option.some.inj this]
    · have h1 := rank_get z h m ((mem_dealt z m).mp (List.getElem_mem hp'))
      exact ((List.getElem?_inj hp' (dealt_nodup z h m)).mp ((List.getElem?_eq_getElem hp').trans h1.symm)).symm
  · rw [List.getElem?_eq_none (by rw [fold_len, List.length_replicate]; omega), List.getElem?_eq_none (by rw [List.length_map]; omega)]
theorem gn__netrclex (w : World) : nsIn (C2 w).K mainGlobals (Str.ofString "_netrclex") = some (some (.ref 160)) := by kernel_rfl
theorem gn__Accumulator (w : World) : nsIn (C2 w).K mainGlobals (Str.ofString "_Accumulator") = some (some (.ref 118)) := by kernel_rfl
theorem gn_Headers (w : World) : nsIn (C2 w).K mainGlobals (Str.ofString "Headers") = some (some (.ref 308)) := by kernel_rfl
theorem gn__name_disallowed_re (w : World) : nsIn (C2 w).K mainGlobals (Str.ofString "_name_disallowed_re") = some (some (.ref 174)) := by kernel_rfl
theorem gn__value_disallowed_re (w : World) : nsIn (C2 w).K mainGlobals (Str.ofString "_value_disallowed_re") = some (some (.ref 179)) := by kernel_rfl
theorem gn__formatparam (w : World) : nsIn (C2 w).K mainGlobals (Str.ofString "_formatparam") = some (some (.ref 187)) := by kernel_rfl
theorem gn__law_lexer (w : World) : nsIn (C2 w).K mainGlobals (Str.ofString "_law_lexer") = some (some (.ref 319)) := by kernel_rfl
theorem gn__law_cards (w : World) : nsIn (C2 w).K mainGlobals (Str.ofString "_law_cards") = some (some (.ref 326)) := by kernel_rfl
theorem gn__law_figure (w : World) : nsIn (C2 w).K mainGlobals (Str.ofString "_law_figure") = some (some (.ref 333)) := by kernel_rfl
theorem gn__law_piles (w : World) : nsIn (C2 w).K mainGlobals (Str.ofString "_law_piles") = some (some (.ref 338)) := by kernel_rfl
theorem gn__law_line (w : World) : nsIn (C2 w).K mainGlobals (Str.ofString "_law_line") = some (some (.ref 345)) := by kernel_rfl
theorem gn__law_table (w : World) : nsIn (C2 w).K mainGlobals (Str.ofString "_law_table") = some (some (.ref 350)) := by kernel_rfl
theorem gn__law_fraction (w : World) : nsIn (C2 w).K mainGlobals (Str.ofString "_law_fraction") = some (some (.ref 357)) := by kernel_rfl
theorem gn__law_due (w : World) : nsIn (C2 w).K mainGlobals (Str.ofString "_law_due") = some (some (.ref 362)) := by kernel_rfl
theorem gn_range (w : World) : nsIn (C2 w).K mainGlobals (Str.ofString "range") = some none := by kernel_rfl
theorem bn_range (w : World) : nsIn (C2 w).K builtinsNs (Str.ofString "range") = some (some (.type "range")) := by kernel_rfl
theorem gn_int (w : World) : nsIn (C2 w).K mainGlobals (Str.ofString "int") = some none := by kernel_rfl
theorem bn_int (w : World) : nsIn (C2 w).K builtinsNs (Str.ofString "int") = some (some (.type "int")) := by kernel_rfl
theorem gn_sum (w : World) : nsIn (C2 w).K mainGlobals (Str.ofString "sum") = some none := by kernel_rfl
theorem bn_sum (w : World) : nsIn (C2 w).K builtinsNs (Str.ofString "sum") = some (some (.builtin "sum")) := by kernel_rfl
theorem gn_list (w : World) : nsIn (C2 w).K mainGlobals (Str.ofString "list") = some none := by kernel_rfl
theorem bn_list (w : World) : nsIn (C2 w).K builtinsNs (Str.ofString "list") = some (some (.type "list")) := by kernel_rfl
theorem gn_len (w : World) : nsIn (C2 w).K mainGlobals (Str.ofString "len") = some none := by kernel_rfl
theorem bn_len (w : World) : nsIn (C2 w).K builtinsNs (Str.ofString "len") = some (some (.builtin "len")) := by kernel_rfl
theorem gn_iter (w : World) : nsIn (C2 w).K mainGlobals (Str.ofString "iter") = some none := by kernel_rfl
theorem bn_iter (w : World) : nsIn (C2 w).K builtinsNs (Str.ofString "iter") = some (some (.builtin "iter")) := by kernel_rfl
theorem gn_type (w : World) : nsIn (C2 w).K mainGlobals (Str.ofString "type") = some none := by kernel_rfl
theorem bn_type (w : World) : nsIn (C2 w).K builtinsNs (Str.ofString "type") = some (some (.type "type")) := by kernel_rfl
theorem gn_str (w : World) : nsIn (C2 w).K mainGlobals (Str.ofString "str") = some none := by kernel_rfl
theorem bn_str (w : World) : nsIn (C2 w).K builtinsNs (Str.ofString "str") = some (some (.type "str")) := by kernel_rfl
theorem gn_enumerate (w : World) : nsIn (C2 w).K mainGlobals (Str.ofString "enumerate") = some none := by kernel_rfl
theorem bn_enumerate (w : World) : nsIn (C2 w).K builtinsNs (Str.ofString "enumerate") = some (some (.type "enumerate")) := by kernel_rfl
theorem sysm (w : World) : ∃ o, (C2 w).K.lookup sysModules = some o := ⟨_, rfl⟩
theorem fn_read (w : World) : Mine.fnIn (C2 w).K 143 := ⟨_, _, rfl, rfl⟩
theorem lst_ok (w : World) : LstOk (C2 w).K 118 (Str.ofString "_initial_size") := ⟨⟨_, rfl, rfl, rfl⟩, by kernel_rfl, by kernel_rfl⟩
theorem pat_n (w : World) : PatOk (C2 w).K 174 codeN ctlN := ⟨code_names, ⟨_, _, _, _, _, rfl, _, _, _, _, _, rfl, by kernel_rfl⟩⟩
theorem pat_v (w : World) : PatOk (C2 w).K 179 (codeC 4294966783 0 0 2147483648 0 0 0 0) (inWords 4294966783 0 0 2147483648 0 0 0 0) := ⟨code_words .., ⟨_, _, _, _, _, rfl, _, _, _, _, _, rfl, by kernel_rfl⟩⟩
noncomputable abbrev ln_conv : List Str := [Str.ofString "self", Str.ofString "value", Str.ofString "name", Str.ofString "regex"]
noncomputable abbrev cn_conv : List (Str × Nat) := []
theorem loc_conv : ∀ x ∈ ln_conv, (defS (at2 P2 12 1)).names.lookup x = some .local := by decide +kernel
theorem nd_conv : ln_conv.Nodup := by decide +kernel
noncomputable def b_conv : { b : List Stmt // defB (at2 P2 12 1) = b } := ⟨[_, _], rfl⟩
noncomputable def s_conv (w : World) : { F : FM PF // ∀ L, Den (C2 w) 1 (FI.fn fd209 209 ln_conv cn_conv L) RFl (execs (defB (at2 P2 12 1)) (callEnvC fd209 L 209)) F } := ⟨_, fun L => by
  have ok : FI.Ok (FI.fn fd209 209 ln_conv cn_conv L) := ok_fn (fd := fd209) rfl rfl rfl loc_conv nd_conv
  rw [b_conv.2]
  exact (Zb (den_if (Zm (Zt (Zo ok (by kernel_rfl) (gn_type w) (bn_type w)) Z3 (Zc (Za (i := 1) ok rfl) Ze) op_type) (Zo ok (by kernel_rfl) (gn_str w) (bn_str w)) op_isT) (Zb (Zh (den_ifexp (dent_value (Za (i := 2) ok rfl)) (Zz ok (by kernel_rfl) (gn__name_disallowed_re w)) (Zz ok (by kernel_rfl) (gn__value_disallowed_re w))) (Zf (i := 3) ok rfl)) (Zb (den_if (dent_value (Zl (Za (i := 3) ok rfl) (meth_or (meth_search (pat_n w)) (meth_search (pat_v w))) Zi (Zc (Za (i := 1) ok rfl) Ze) (op_or (op_search (pat_n w)) (op_search (pat_v w))))) (Zb den_never Zg) Zg) (Zb (Zs (Za (i := 1) ok rfl)) Zg))) Zg) (Zb den_never Zg))⟩
theorem x_conv (w : World) : DefK (C2 w).K 209 fd209 (defB (at2 P2 12 1)) [Str.ofString "self", Str.ofString "value", Str.ofString "name"] ln_conv cn_conv := ⟨⟨⟨_, _, _, rfl⟩, by kernel_rfl, rfl, rfl, rfl, rfl⟩, rfl, fun L => rfl, by decide +kernel, by decide +kernel, by decide +kernel, loc_conv, by decide +kernel⟩
theorem r_conv (w : World) : FunK (C2 w) 2 (.ref 209) 2 [Str.ofString "name"] (runK (2 + 1) [] [some 0, some 1, some 2, none] [] (s_conv w).1) := Yc (x_conv w) (dvs := []) (fun _ _ => .nil) rfl (by decide +kernel) (by decide +kernel) (fun s vs ws h1 h2 X => by
  obtain ⟨v0, v1, rfl⟩ := ln2 h1
  obtain ⟨u0, rfl⟩ := ln1 h2
  exact BindsTo.of_eq (by kernel_rfl)) (s_conv w).2
noncomputable abbrev ln_init160 : List Str := [Str.ofString "self", Str.ofString "fp"]
noncomputable abbrev cn_init160 : List (Str × Nat) := []
theorem loc_init160 : ∀ x ∈ ln_init160, (defS (at2 P2 6 0)).names.lookup x = some .local := by decide +kernel
theorem nd_init160 : ln_init160.Nodup := by decide +kernel
noncomputable def b_init160 : { b : List Stmt // defB (at2 P2 6 0) = b } := ⟨[_, _, _, _], rfl⟩
noncomputable def s_init160 (w : World) : { F : FM PF // ∀ L, Den (C2 w) 1 (FI.fn fd136 136 ln_init160 cn_init160 L) RFl (execs (defB (at2 P2 6 0)) (callEnvC fd136 L 136)) F } := ⟨_, fun L => by
  have ok : FI.Ok (FI.fn fd136 136 ln_init160 cn_init160 L) := ok_fn (fd := fd136) rfl rfl rfl loc_init160 nd_init160
  rw [b_init160.2]
  exact (Zb (Zh Zj (dena_attr (Za (i := 0) ok rfl))) (Zb (Zh (Za (i := 1) ok rfl) (dena_attr (Za (i := 0) ok rfl))) (Zb (Zh Zv (dena_attr (Za (i := 0) ok rfl))) (Zb (Zh (Yj Ze) (dena_attr (Za (i := 0) ok rfl))) Zg))))⟩
theorem x_init160 (w : World) : DefK (C2 w).K 136 fd136 (defB (at2 P2 6 0)) [Str.ofString "self", Str.ofString "fp"] ln_init160 cn_init160 := ⟨⟨⟨_, _, _, rfl⟩, by kernel_rfl, rfl, rfl, rfl, rfl⟩, rfl, fun L => rfl, by decide +kernel, by decide +kernel, by decide +kernel, loc_init160, by decide +kernel⟩
theorem r_init160 (w : World) : FunK (C2 w) 2 (.ref 136) 2 [] (runK (2 + 0) [] [some 0, some 1] [] (s_init160 w).1) := Yc (x_init160 w) (dvs := []) (fun _ _ => .nil) rfl (by decide +kernel) (by decide +kernel) (fun s vs ws h1 h2 X => by
  obtain ⟨v0, v1, rfl⟩ := ln2 h1
  obtain rfl := ln0 h2
  exact BindsTo.of_eq (by kernel_rfl)) (s_init160 w).2
noncomputable abbrev ln_ptoken : List Str := [Str.ofString "self", Str.ofString "token"]
noncomputable abbrev cn_ptoken : List (Str × Nat) := []
theorem loc_ptoken : ∀ x ∈ ln_ptoken, (defS (at2 P2 6 3)).names.lookup x = some .local := by decide +kernel
theorem nd_ptoken : ln_ptoken.Nodup := by decide +kernel
noncomputable def b_ptoken : { b : List Stmt // defB (at2 P2 6 3) = b } := ⟨[_], rfl⟩
noncomputable def s_ptoken (w : World) : { F : FM PF // ∀ L, Den (C2 w) 1 (FI.fn fd157 157 ln_ptoken cn_ptoken L) RFl (execs (defB (at2 P2 6 3)) (callEnvC fd157 L 157)) F } := ⟨_, fun L => by
  have ok : FI.Ok (FI.fn fd157 157 ln_ptoken cn_ptoken L) := ok_fn (fd := fd157) rfl rfl rfl loc_ptoken nd_ptoken
  rw [b_ptoken.2]
  exact (Zb (Yo (Zl (den_attr (Za (i := 0) ok rfl)) (Yx F.slot_list_append F.type_list_append) Zi (Zc (Za (i := 1) ok rfl) Ze) op_append) (by kernel_rfl)) Zg)⟩
theorem x_ptoken (w : World) : DefK (C2 w).K 157 fd157 (defB (at2 P2 6 3)) [Str.ofString "self", Str.ofString "token"] ln_ptoken cn_ptoken := ⟨⟨⟨_, _, _, rfl⟩, by kernel_rfl, rfl, rfl, rfl, rfl⟩, rfl, fun L => rfl, by decide +kernel, by decide +kernel, by decide +kernel, loc_ptoken, by decide +kernel⟩
theorem r_ptoken (w : World) : FunK (C2 w) 2 (.ref 157) 2 [] (runK (2 + 0) [] [some 0, some 1] [] (s_ptoken w).1) := Yc (x_ptoken w) (dvs := []) (fun _ _ => .nil) rfl (by decide +kernel) (by decide +kernel) (fun s vs ws h1 h2 X => by
  obtain ⟨v0, v1, rfl⟩ := ln2 h1
  obtain rfl := ln0 h2
  exact BindsTo.of_eq (by kernel_rfl)) (s_ptoken w).2
noncomputable abbrev ln_figure : List Str := [Str.ofString "card", Str.ofString "column"]
noncomputable abbrev cn_figure : List (Str × Nat) := []
theorem loc_figure : ∀ x ∈ ln_figure, (defS (at1 P2 16)).names.lookup x = some .local := by decide +kernel
theorem nd_figure : ln_figure.Nodup := by decide +kernel
noncomputable def b_figure : { b : List Stmt // defB (at1 P2 16) = b } := ⟨[_], rfl⟩
noncomputable def s_figure (w : World) : { F : FM PF // ∀ L, Den (C2 w) 1 (FI.fn fd333 333 ln_figure cn_figure L) RFl (execs (defB (at1 P2 16)) (callEnvC fd333 L 333)) F } := ⟨_, fun L => by
  have ok : FI.Ok (FI.fn fd333 333 ln_figure cn_figure L) := ok_fn (fd := fd333) rfl rfl rfl loc_figure nd_figure
  rw [b_figure.2]
  exact (Zb (Zs (Zp Zj (Zl Zv (meth_str F.slot_str_index F.type_str_index) Zi (Zc (Zl (Zu (Za (i := 0) ok rfl) (Za (i := 1) ok rfl)) (meth_str F.slot_str_lower F.type_str_lower) Zi Ze op_lower) Ze) op_strIndex) op_addG)) Zg)⟩
theorem x_figure (w : World) : DefK (C2 w).K 333 fd333 (defB (at1 P2 16)) [Str.ofString "card", Str.ofString "column"] ln_figure cn_figure := ⟨⟨⟨_, _, _, rfl⟩, by kernel_rfl, rfl, rfl, rfl, rfl⟩, rfl, fun L => rfl, by decide +kernel, by decide +kernel, by decide +kernel, loc_figure, by decide +kernel⟩
theorem r_figure (w : World) : FunK (C2 w) 2 (.ref 333) 2 [] (runK (2 + 0) [] [some 0, some 1] [] (s_figure w).1) := Yc (x_figure w) (dvs := []) (fun _ _ => .nil) rfl (by decide +kernel) (by decide +kernel) (fun s vs ws h1 h2 X => by
  obtain ⟨v0, v1, rfl⟩ := ln2 h1
  obtain rfl := ln0 h2
  exact BindsTo.of_eq (by kernel_rfl)) (s_figure w).2
noncomputable abbrev ln_cards : List Str := [Str.ofString "numbers", Str.ofString "cards", Str.ofString "place", Str.ofString "number", Str.ofString "card", Str.ofString "column", Str.ofString "letters"]
noncomputable abbrev cn_cards : List (Str × Nat) := []
theorem loc_cards : ∀ x ∈ ln_cards, (defS (at1 P2 15)).names.lookup x = some .local := by decide +kernel
theorem nd_cards : ln_cards.Nodup := by decide +kernel
noncomputable def b_cards : { b : List Stmt // defB (at1 P2 15) = b } := ⟨[_, _, _], rfl⟩
noncomputable def s_cards (w : World) : { F : FM PF // ∀ L, Den (C2 w) 1 (FI.fn fd326 326 ln_cards cn_cards L) RFl (execs (defB (at1 P2 15)) (callEnvC fd326 L 326)) F } := ⟨_, fun L => by
  have ok : FI.Ok (FI.fn fd326 326 ln_cards cn_cards L) := ok_fn (fd := fd326) rfl rfl rfl loc_cards nd_cards
  rw [b_cards.2]
  exact (Zb (Zh (Yj Ze) (Zf (i := 1) ok rfl)) (Zb (den_for (Yu (Zo ok (by kernel_rfl) (gn_enumerate w) (bn_enumerate w)) Z3 (Zc (Za (i := 0) ok rfl) Ze) opit_enum) (dena_tuple (Z7 (Zf (i := 2) ok rfl) (Z7 (Zf (i := 3) ok rfl) denas_nil))) (Zb (Zh (Zu Zv (Za (i := 2) ok rfl)) (Zf (i := 4) ok rfl)) (Zb (den_for (Yu (Zo ok (by kernel_rfl) (gn_range w) (bn_range w)) Z3 (Zc Zj Ze) opit_range) (Zf (i := 5) ok rfl) (Zb (Zh (den_ifexp (dent_value (Zp (Zp (Za (i := 3) ok rfl) (Zp Zj (Zp Zj (Za (i := 5) ok rfl) op_powI) op_mulI) op_divI) Zj op_modI)) Zv Zv) (Zf (i := 6) ok rfl)) (Zb (den_aug_local (i := 4) ok rfl (Zu (Za (i := 6) ok rfl) (Zp (Zp (Za (i := 3) ok rfl) (Zp Zj (Za (i := 5) ok rfl) op_powI) op_divI) Zj op_modI)) op_iaddG) Zg))) (Zb (Yo (Zl (Za (i := 1) ok rfl) (Yx F.slot_list_append F.type_list_append) Zi (Zc (Za (i := 4) ok rfl) Ze) op_append) (by kernel_rfl)) Zg)))) (Zb (Zs (Za (i := 1) ok rfl)) Zg)))⟩
theorem x_cards (w : World) : DefK (C2 w).K 326 fd326 (defB (at1 P2 15)) [Str.ofString "numbers"] ln_cards cn_cards := ⟨⟨⟨_, _, _, rfl⟩, by kernel_rfl, rfl, rfl, rfl, rfl⟩, rfl, fun L => rfl, by decide +kernel, by decide +kernel, by decide +kernel, loc_cards, by decide +kernel⟩
theorem r_cards (w : World) : FunK (C2 w) 2 (.ref 326) 1 [] (runK (1 + 0) [] [some 0, none, none, none, none, none, none] [] (s_cards w).1) := Yc (x_cards w) (dvs := []) (fun _ _ => .nil) rfl (by decide +kernel) (by decide +kernel) (fun s vs ws h1 h2 X => by
  obtain ⟨v0, rfl⟩ := ln1 h1
  obtain rfl := ln0 h2
  exact BindsTo.of_eq (by kernel_rfl)) (s_cards w).2
noncomputable def Ye (x : Str) : Bool := x.cps.all (fun u => decide (32 ≤ u ∧ u < 127)) && decide (x.cps.size ≤ 1000)
theorem plain_n : ∀ u, 32 ≤ u → u < 127 → ctlN u = false := by
  intro u h1 h2
  have : ∀ u : Fin 127, 32 ≤ u.val → ctlN u.val = false := by decide +kernel
  exact this ⟨u, h2⟩ h1
theorem plain_v : ∀ u, 32 ≤ u → u < 127 → inWords 4294966783 0 0 2147483648 0 0 0 0 u = false := by
  intro u h1 h2
  have : ∀ u : Fin 127, 32 ≤ u.val → inWords 4294966783 0 0 2147483648 0 0 0 0 u.val = false := by decide +kernel
  exact this ⟨u, h2⟩ h1
theorem plainTxt_all {x : Str} (h : Ye x = true) : x.cps.all (fun u => !ctlN u) = true ∧ x.cps.all (fun u => !inWords 4294966783 0 0 2147483648 0 0 0 0 u) = true ∧ x.cps.size ≤ 16777216 := by
  simp only [Ye, Bool.and_eq_true, decide_eq_true_eq] at h
  obtain ⟨h1, h2⟩ := h
  rw [Array.all_eq_true] at h1
  refine ⟨?_, ?_, by omega⟩
  · rw [Array.all_eq_true]
    intro i hi
    have := of_decide_eq_true (h1 i hi)
    rw [plain_n _ this.1 this.2]; rfl
  · rw [Array.all_eq_true]
    intro i hi
    have := of_decide_eq_true (h1 i hi)
    rw [plain_v _ this.1 this.2]; rfl
noncomputable def convR (w : World) : List PV → SM PV := runK (2 + 1) [] [some 0, some 1, some 2, none] [] (s_conv w).1
theorem k_conv (w : World) : FunK (C2 w) 2 (.ref 209) 2 [Str.ofString "name"] (convR w) := r_conv w
noncomputable abbrev pcS : Option Stmt := (defB (at1 P2 14))[2]?
noncomputable abbrev qP : Str := Str.ofString "_law_lexer.<locals>._law_piece"
noncomputable abbrev tmP : FuncData := tmOf (Str.ofString "_law_piece") qP (defA pcS) (defB pcS) (defS pcS) (sv "law_tc0040_01" 711)
noncomputable abbrev ln_piece : List Str := [Str.ofString "count", Str.ofString "piece"]
noncomputable abbrev cnP : List Str := [Str.ofString "text", Str.ofString "gone"]
theorem loc_piece : ∀ x ∈ ln_piece, (defS pcS).names.lookup x = some .local := by decide +kernel
theorem nd_piece : ln_piece.Nodup := by decide +kernel
theorem tm_piece : TmOk tmP (defB pcS) [Str.ofString "count"] ln_piece :=
  { body := rfl, co := rfl, gen := rfl, kind := rfl, glob := rfl, blt := rfl, cell := by decide +kernel, par := by decide +kernel, nd := by decide +kernel, sub := by decide +kernel,
    bind := fun cl T c' s vs h => by
      obtain ⟨v, rfl⟩ := ln1 h
      exact BindsTo.of_eq (by kernel_rfl) }
noncomputable def b_piece : { b : List Stmt // defB pcS = b } := ⟨[_, _, _], rfl⟩
noncomputable def s_piece (w : World) : { F : FM PF // ∀ cs T c' L f, cs.length = cnP.length → Den (C2 w) 1 ⟨callEnv (cloFd tmP (cnP.zip cs) T c') L f, ln_piece, cnP.zip cs⟩ RFl (execs (defB pcS) (callEnv (cloFd tmP (cnP.zip cs) T c') L f)) F } := ⟨_, fun cs T c' L f h => by
  obtain ⟨c1, c2, rfl⟩ := ln2 h
  have ok : FI.Ok ⟨callEnv (cloFd tmP (cnP.zip [c1, c2]) T c') L f, ln_piece, cnP.zip [c1, c2]⟩ := ok_call (fd := cloFd tmP (cnP.zip [c1, c2]) T c') rfl rfl rfl loc_piece nd_piece
  rw [b_piece.2]
  exact (Zb (Zh (den_slice (Yh (i := 0) ok rfl (by kernel_rfl) (.inr (by kernel_rfl))) (denp_some (Zt (Zo ok (by kernel_rfl) (gn_len w) (bn_len w)) Zi (Zc (Yh (i := 1) ok rfl (by kernel_rfl) (.inr (by kernel_rfl))) Ze) op_len)) (denp_some (Zp (Zt (Zo ok (by kernel_rfl) (gn_len w) (bn_len w)) Zi (Zc (Yh (i := 1) ok rfl (by kernel_rfl) (.inr (by kernel_rfl))) Ze) op_len) (Za (i := 0) ok rfl) op_addG)) denp_none) (Zf (i := 1) ok rfl)) (Zb (Yo (Zl (Yh (i := 1) ok rfl (by kernel_rfl) (.inr (by kernel_rfl))) (Yx F.slot_list_extend F.type_list_extend) Zi (Zc (Za (i := 1) ok rfl) Ze) op_extendS) (by kernel_rfl)) (Zb (Zs (Za (i := 1) ok rfl)) Zg)))⟩
noncomputable def Z1 (text : Str) (n : Nat) : Str := match text.cps[n]? with
  | some u => ⟨#[u]⟩
  | none => Str.empty
theorem range_one {a : Nat} : sliceRange (a : Int) ((a : Int) + 1) 1 = [a] := by
  unfold sliceRange
  have h1 : ((a : Int) < a + 1) := by omega
  have h2 : ((a : Int) + 1 - a + 1 - 1) / 1 = 1 := by omega
  simp only [h1, if_true, h2, Int.toNat_one]
  simp [List.range_succ]
theorem range_none {a : Int} : sliceRange a a 1 = [] := by
  unfold sliceRange; simp
theorem indices_one (n len : Nat) : Builtin.Str.strSliceIndices (some (n : Int)) (some ((n : Int) + 1)) 1 len = if n < len then [n] else [] := by
  unfold Builtin.Str.strSliceIndices
  have n0 : (0 : Int) ≤ (n : Int) := Int.natCast_nonneg n
  have n1 : (0 : Int) ≤ (n : Int) + 1 := Int.natCast_nonneg (n + 1)
  have h0 : ¬ ((n : Int) < 0) := Int.not_lt.mpr n0
  have h1 : ¬ ((n : Int) + 1 < 0) := Int.not_lt.mpr n1
  have hp : (1 : Int) > 0 := by decide
  simp only [h0, h1, if_false, hp, if_true]
  by_cases h : n < len
  · rw [if_pos h, Int.min_eq_left (Int.ofNat_le.mpr (Nat.le_of_lt h)), Int.max_eq_right n0, Int.min_eq_left (a := (n : Int) + 1) (Int.ofNat_le.mpr h), Int.max_eq_right n1]
    exact range_one
  · have h' : len ≤ n := Nat.le_of_not_lt h
    rw [if_neg h, Int.min_eq_right (Int.ofNat_le.mpr h'), Int.max_eq_right (Int.natCast_nonneg len), Int.min_eq_right (a := (n : Int) + 1) (Int.ofNat_le.mpr (Nat.le_succ_of_le h')), Int.max_eq_right (Int.natCast_nonneg len)]
    exact range_none
theorem str_one {x : Str} (h : x.cps.size = 1) : ∃ u, x = ⟨#[u]⟩ ∧ x.cps[0]? = some u := by
  obtain ⟨⟨l⟩⟩ := x
  match l, h with
  | [u], _ => exact ⟨u, rfl, rfl⟩
theorem slice_piece (text : Str) (n : Nat) : sliceS text (some (n : Int)) (some ((n : Int) + 1)) none = Z1 text n := by
  unfold sliceS Z1
  simp only [Option.getD_none, indices_one]
  show (if ((1 : Int) == 1 && (if n < text.length then [n] else []).length == text.length) = true then text else _) = _
  by_cases h : n < text.length
  · rw [if_pos h]
    have hg : text.cps[n]? = some text.cps[n] := Array.getElem?_eq_getElem h
    by_cases h1 : text.cps.size = 1
    · have hn : n = 0 := by have : n < text.cps.size := h; omega
      subst hn
      obtain ⟨u, hu, hu2⟩ := str_one h1
      have : ((1 : Int) == 1 && [0].length == text.length) = true := by
        have : text.length = 1 := h1
        rw [this]; rfl
      rw [if_pos this, hu2]
      exact hu
    · have : ¬ (((1 : Int) == 1 && [n].length == text.length) = true) := by
        simp
        intro q; exact h1 q.symm
      rw [if_neg this, List.filterMap_cons, hg]
      rfl
  · rw [if_neg h]
    have hg : text.cps[n]? = none := Array.getElem?_eq_none (Nat.le_of_not_lt h)
    rw [hg]
    by_cases h0 : text.length = 0
    · rw [h0]
      simp
      obtain ⟨⟨l⟩⟩ := text
      cases l with
      | nil => rfl
      | cons a l => cases h0
    · have : ¬ (((1 : Int) == 1 && ([] : List Nat).length == text.length) = true) := by
        simp
        intro q; exact h0 q.symm
      rw [if_neg this]
      rfl
theorem pieceAt_len (text : Str) (n : Nat) : (Z1 text n).cps.size ≤ 1 := by
  unfold Z1
  split
  · exact Nat.le_refl _
  · exact Nat.zero_le _
theorem pieceAt_ascii {text : Str} (h : text.cps.all (· < 128) = true) (n : Nat) : (Z1 text n).cps.all (· < 128) = true := by
  unfold Z1
  cases hq : text.cps[n]? with
  | none => exact Array.all_eq_true.mpr fun i hi => absurd hi (Nat.not_lt_zero i)
  | some u =>
    have hu := hq
    rw [Array.all_eq_true] at h
    obtain ⟨hi, he⟩ := Array.getElem?_eq_some_iff.mp hu
    have := h n hi
    rw [he] at this
    simpa using this
noncomputable def pieceG (p : PV) (ps : List PV) : SM PV := fun st => pik fun r => ∃ i text g xs, P8 (p = .ref i) (ps = [.int 1]) (st[i]? = some (.clo tmP cnP [some (.str text), some (.ref g)])) (text.cps.all (· < 128) = true) (text.cps.size ≤ 1000) (st[g]? = some (.list xs)) (xs.length ≤ 2000) (r = (.str (Z1 text xs.length), st.set g (.list (xs ++ Yp (Z1 text xs.length)))))
theorem piece_of {st : List AO} {i g : Nat} {text : Str} {xs : List PV} (q : st[i]? = some (.clo tmP cnP [some (.str text), some (.ref g)])) (ha : text.cps.all (· < 128) = true) (hz : text.cps.size ≤ 1000) (qg : st[g]? = some (.list xs)) (hx : xs.length ≤ 2000) :
    pieceG (.ref i) [.int 1] st = some (.str (Z1 text xs.length), st.set g (.list (xs ++ Yp (Z1 text xs.length)))) :=
  pik_of ⟨_, _, _, _, rfl, rfl, q, ha, hz, qg, hx, rfl⟩ fun z q' => by obtain ⟨_, _, _, _, e, _, q', _, _, qg', _, r⟩ := q'; cases e; cases q.symm.trans q'; cases qg.symm.trans qg'; exact r
theorem set_set_back {st : List AO} {i g : Nat} {x y z : AO} (e : st[i]? = some z) (ne : i ≠ g) : ((st.set i x).set g y).set i z = st.set g y := by
  apply List.ext_getElem?
  intro k
  by_cases h1 : i = k
  · subst h1
    have hi : i < st.length := (List.getElem?_eq_some_iff.mp e).1
    rw [List.getElem?_set_self (by simpa using hi), List.getElem?_set_ne (Ne.symm ne), e]
  · rw [List.getElem?_set_ne h1]
    by_cases h2 : g = k
    · subst h2
      by_cases hg : g < st.length
      · rw [List.getElem?_set_self (by simpa using hg), List.getElem?_set_self hg]
      · rw [List.getElem?_eq_none (by simpa using hg), List.getElem?_eq_none (by simpa using hg)]
    · rw [List.getElem?_set_ne h2, List.getElem?_set_ne h2, List.getElem?_set_ne h1]
theorem k_piece (w : World) : OpV (C2 w) 2 pieceG := by
  refine op_clo (li := [some 0, none]) tm_piece (by decide +kernel) (s_piece w).2 fun p ps st y st' e => ?_
  obtain ⟨i, text, g, xs, rfl, rfl, q, ha, hz, qg, hx, e'⟩ := Zq e
  clear e; cases e'
  have hne : i ≠ g := by rintro rfl; rw [q] at qg; cases qg
  refine ⟨i, _, rfl, q, rfl, fun cl => ?_⟩
  have hi : i < st.length := (List.getElem?_eq_some_iff.mp q).1
  have hg : g < st.length := (List.getElem?_eq_some_iff.mp qg).1
  have h1 : (st.set i (.fn tmP cl))[g]? = some (.list xs) := by rw [List.getElem?_set_ne hne]; exact qg
  have hs1 : xs.length ≤ sizeLine := by rw [sizeLine_eq]; omega
  have hs2 : (Z1 text xs.length).length ≤ sizeLine := by rw [sizeLine_eq]; have := pieceAt_len text xs.length; show (Z1 text xs.length).cps.size ≤ _; omega
  have hs3 : xs.length + (Z1 text xs.length).cps.size ≤ sizeLine := by rw [sizeLine_eq]; have := pieceAt_len text xs.length; omega
  refine ⟨.ret (.str (Z1 text xs.length)), ⟨[some (.int 1), some (.str (Z1 text xs.length))], [some (.str text), some (.ref g)], (st.set i (.fn tmP cl)).set g (.list (xs ++ Yp (Z1 text xs.length)))⟩, ?_, ?_, rfl, rfl, ?_⟩
  · let E (o : Option PV) (S : List AO) : ES := ⟨[some (.int 1), o], [some (.str text), some (.ref g)], S⟩
    let S1 := st.set i (.fn tmP cl)
    have hL : items? S1 (.ref g) = some xs := items_ref h1
    have hlen : (bindE (consE (getC 1) (pureE [])) fun ps => liftS (lenG ps)) (E none S1) = some (.int xs.length, E none S1) := p_call (ps := [.ref g]) (p_cons rfl rfl) (lenG_of hL hs1)
    show (s_piece w).1 (E none S1) = _
    simp only [s_piece]
    refine e_seq (es₁ := E (some (.str (Z1 text xs.length))) S1) (e_asg (p := .str (Z1 text xs.length)) (es₁ := E none S1) (e_bind (y := .str text) (es₁ := E none S1) rfl (e_bind hlen (e_bind (y := .int (xs.length + 1)) (es₁ := E none S1) (p_bin (p := .int xs.length) (q := .int 1) hlen rfl rfl) (e_bind (y := .none) (es₁ := E none S1) rfl (Ys ?_))))) rfl) ?_
    · show (if (sliceS text (some (xs.length : Int)) (some ((xs.length : Int) + 1)) none).length ≤ sizeLine then some (PV.str (sliceS text (some (xs.length : Int)) (some ((xs.length : Int) + 1)) none), S1) else none) = _
      rw [slice_piece, if_pos hs2]
    · exact e_seq (es₁ := E (some (.str (Z1 text xs.length))) (S1.set g (.list (xs ++ Yp (Z1 text xs.length))))) (e_expr (p := .none) (e_meth (p := .ref g) (ps := [.str (Z1 text xs.length)]) (es₁ := E (some (.str (Z1 text xs.length))) S1) (es₂ := E (some (.str (Z1 text xs.length))) S1) rfl (isLst_ref h1) (p_cons rfl rfl) (extendS_of h1 (pieceAt_ascii ha _) hs3))) rfl
  · rw [List.getElem?_set_ne (Ne.symm hne), List.getElem?_set_self hi]
  · exact (set_set_back q hne).symm
theorem OpL.sub {c : Ctx0} {b : Nat} {t : List Value → Sem Value} {G G' : List PV → SM PV} (o : OpL c b t G) (h : ∀ ps st r, G' ps st = some r → G ps st = some r) : OpL c b t G' :=
  ⟨fun A hA ρ s st vs ps y st' e r R => o.run A hA ρ s st vs ps y st' (h ps st _ e) r R⟩
theorem Yi {α : Type} (st l : List α) (k : Nat) : (st ++ l)[st.length + k]? = l[k]? := by
  rw [List.getElem?_append_right (Nat.le_add_right _ _), Nat.add_sub_cancel_left]
theorem Z5 {α : Type} (st l : List α) : (st ++ l)[st.length]? = l[0]? := Yi st l 0
theorem set_app {α : Type} (st l : List α) (k : Nat) (y : α) : (st ++ l).set (st.length + k) y = st ++ l.set k y := by
  rw [List.set_append_right _ _ (Nat.le_add_right _ _), Nat.add_sub_cancel_left]
theorem set_app0 {α : Type} (st l : List α) (y : α) : (st ++ l).set st.length y = st ++ l.set 0 y := set_app st l 0 y
noncomputable abbrev nLine : Str := Str.ofString "lineno"
noncomputable abbrev nIn : Str := Str.ofString "instream"
noncomputable abbrev nWs : Str := Str.ofString "whitespace"
noncomputable abbrev nPb : Str := Str.ofString "pushback"
noncomputable abbrev nRd : Str := Str.ofString "read"
noncomputable abbrev wsS : Str := Str.ofString "\n\t\r "
noncomputable abbrev kv76 (n : Int) (p : PV) (j : Nat) : List (Str × PV) := [(nLine, .int n), (nIn, p), (nWs, .str wsS), (nPb, .ref j)]
theorem so_line (w : World) : setOk (kFrag w.params) 160 nLine = true := by kernel_rfl
theorem so_in (w : World) : setOk (kFrag w.params) 160 nIn = true := by kernel_rfl
theorem so_ws (w : World) : setOk (kFrag w.params) 160 nWs = true := by kernel_rfl
theorem so_pb (w : World) : setOk (kFrag w.params) 160 nPb = true := by kernel_rfl
theorem so_rd (w : World) : setOk (kFrag w.params) 160 nRd = true := by kernel_rfl
theorem put1 (p q : PV) : kvPut [(nLine, p)] nIn q = [(nLine, p), (nIn, q)] := by kernel_rfl
theorem put2 (p q r : PV) : kvPut [(nLine, p), (nIn, q)] nWs r = [(nLine, p), (nIn, q), (nWs, r)] := by kernel_rfl
theorem put3 (p q r t : PV) : kvPut [(nLine, p), (nIn, q), (nWs, r)] nPb t = [(nLine, p), (nIn, q), (nWs, r), (nPb, t)] := by kernel_rfl
theorem put4 (p q r t u : PV) : kvPut [(nLine, p), (nIn, q), (nWs, r), (nPb, t)] nRd u = [(nLine, p), (nIn, q), (nWs, r), (nPb, t), (nRd, u)] := by kernel_rfl
theorem putL' (p q r t u : PV) : kvPut [(nLine, p), (nIn, q), (nWs, r), (nPb, t)] nLine u = [(nLine, u), (nIn, q), (nWs, r), (nPb, t)] := by kernel_rfl
theorem getL1 (p : PV) (l : List (Str × PV)) : kvGet ((nLine, p) :: l) nLine = some p := by kernel_rfl
theorem getL2 (p q : PV) (l : List (Str × PV)) : kvGet ((nLine, p) :: (nIn, q) :: l) nIn = some q := by kernel_rfl
theorem getL3 (p q r : PV) (l : List (Str × PV)) : kvGet ((nLine, p) :: (nIn, q) :: (nWs, r) :: l) nWs = some r := by kernel_rfl
theorem getL4 (p q r t : PV) (l : List (Str × PV)) : kvGet ((nLine, p) :: (nIn, q) :: (nWs, r) :: (nPb, t) :: l) nPb = some t := by kernel_rfl
theorem getL5 (p q r t u : PV) : kvGet [(nLine, p), (nIn, q), (nWs, r), (nPb, t), (nRd, u)] nRd = some u := by kernel_rfl
theorem sl0 : (0 : Nat) ≤ sizeLine := Nat.zero_le _
theorem setA_new {K : Frag} {name : Str} {st l : List AO} {C : Addr} {kvs kvs' : List (Str × PV)} {q : PV} (hs : setOk K C name = true) (hk : kvPut kvs name q = kvs') (hz : kvs.length ≤ 900 := by exact Nat.le_of_ble_eq_true rfl) : setA K name (.ref st.length) q (st ++ .inst C kvs :: l) = some ((), st ++ .inst C kvs' :: l) := by
  rw [setA_of (Z5 _ _) hs hz, hk, set_app0]; rfl
noncomputable def init160R (w : World) : List PV → SM PV := runK (2 + 0) [] [some 0, some 1] [] (s_init160 w).1
theorem k_make160 (w : World) : OpL (C2 w) 3 (fun vs => call (.ref 160) vs) (makeG 160 (init160R w)) := op_make (C := 160) (fI := 136) (by kernel_rfl) (by kernel_rfl) (by kernel_rfl) (r_init160 w)
theorem make160_run (w : World) (p : PV) (st : List AO) : makeG 160 (init160R w) [p] st = some (.ref st.length, st ++ [.inst 160 (kv76 1 p (st.length + 1)), .list []]) := by
  let E (l : List AO) : ES := ⟨[some (.ref st.length), some p], [], st ++ l⟩
  have run : (s_init160 w).1 (E [.inst 160 []]) = some (.next, E [.inst 160 (kv76 1 p (st.length + 1)), .list []]) := by
    simp only [s_init160]
    refine e_seq (es₁ := E [.inst 160 [(nLine, .int 1)]]) (e_asg (p := .int 1) (es₁ := E [.inst 160 []]) rfl (e_lift (p := .ref st.length) (es₁ := E [.inst 160 []]) rfl (setA_new (so_line w) rfl))) ?_
    refine e_seq (es₁ := E [.inst 160 [(nLine, .int 1), (nIn, p)]]) (e_asg (p := p) (es₁ := E [.inst 160 [(nLine, .int 1)]]) rfl (e_lift (p := .ref st.length) (es₁ := E [.inst 160 [(nLine, .int 1)]]) rfl (setA_new (so_in w) (put1 _ _)))) ?_
    refine e_seq (es₁ := E [.inst 160 [(nLine, .int 1), (nIn, p), (nWs, .str wsS)]]) (e_asg (p := .str wsS) (es₁ := E [.inst 160 [(nLine, .int 1), (nIn, p)]]) rfl (e_lift (p := .ref st.length) (es₁ := E [.inst 160 [(nLine, .int 1), (nIn, p)]]) rfl (setA_new (so_ws w) (put2 _ _ _)))) ?_
    refine e_seq (es₁ := E [.inst 160 (kv76 1 p (st.length + 1)), .list []]) (e_asg (p := .ref (st.length + 1)) (es₁ := E [.inst 160 [(nLine, .int 1), (nIn, p), (nWs, .str wsS)], .list []]) ?_ (e_lift (p := .ref st.length) (es₁ := E [.inst 160 [(nLine, .int 1), (nIn, p), (nWs, .str wsS)], .list []]) rfl (setA_new (so_pb w) (put3 _ _ _ _)))) rfl
    rw [new0]
    show some (PV.ref (st ++ [_]).length, (⟨_, _, (st ++ [_]) ++ [_]⟩ : ES)) = _
    rw [List.length_append, List.append_assoc]; rfl
  exact make_of (show init160R w [.ref st.length, p] (st ++ [.inst 160 []]) = some (.none, _) from Yr run)
theorem code_lexer (w : World) : CodeAt (C2 w).K 318 314 := ⟨⟨_, _, _, _, _, _, _, _, _, rfl, rfl, rfl, rfl, rfl, rfl, rfl, rfl⟩, by decide⟩
theorem pm_lexer (w : World) : nsIn (C2 w).K mainGlobals "__name__" = some (some (sv "law_tc0040_01" 711)) := by kernel_rfl
theorem blt_lexer (w : World) : ∀ M h, (C2 w).K.In h → Looks M h (builtinsFor mainGlobals builtinsNs) builtinsNs := fun M h X => Looks.of_peek X (by kernel_rfl)
noncomputable abbrev ln_read : List Str := [Str.ofString "self", Str.ofString "ch"]
noncomputable abbrev cn_read : List (Str × Nat) := []
theorem loc_read : ∀ x ∈ ln_read, (defS (at2 P2 6 1)).names.lookup x = some .local := by decide +kernel
theorem nd_read : ln_read.Nodup := by decide +kernel
noncomputable def b_read : { b : List Stmt // defB (at2 P2 6 1) = b } := ⟨[_, _, _], rfl⟩
noncomputable def s_read (w : World) : { F : FM PF // ∀ L, Den (C2 w) 2 (FI.fn fd143 143 ln_read cn_read L) RFl (execs (defB (at2 P2 6 1)) (callEnvC fd143 L 143)) F } := ⟨_, fun L => by
  have ok : FI.Ok (FI.fn fd143 143 ln_read cn_read L) := ok_fn (fd := fd143) rfl rfl rfl loc_read nd_read
  rw [b_read.2]
  exact (Zb (Zh (den_method_own (den_attr (Za (i := 0) ok rfl)) (C := 160) (by kernel_rfl) (Zc Zj Ze) (k_piece w)) (Zf (i := 1) ok rfl)) (Zb (den_if (Zm (Za (i := 1) ok rfl) Zv op_eqS) (Zb (den_aug_attr (Za (i := 0) ok rfl) Zj op_iaddG) Zg) Zg) (Zb (Zs (Za (i := 1) ok rfl)) Zg)))⟩
theorem x_read (w : World) : DefK (C2 w).K 143 fd143 (defB (at2 P2 6 1)) [Str.ofString "self"] ln_read cn_read := ⟨⟨⟨_, _, _, rfl⟩, by kernel_rfl, rfl, rfl, rfl, rfl⟩, rfl, fun L => rfl, by decide +kernel, by decide +kernel, by decide +kernel, loc_read, by decide +kernel⟩
theorem r_read (w : World) : FunK (C2 w) 3 (.ref 143) 1 [] (runK (1 + 0) [] [some 0, none] [] (s_read w).1) := Yc (x_read w) (dvs := []) (fun _ _ => .nil) rfl (by decide +kernel) (by decide +kernel) (fun s vs ws h1 h2 X => by
  obtain ⟨v0, rfl⟩ := ln1 h1
  obtain rfl := ln0 h2
  exact BindsTo.of_eq (by kernel_rfl)) (s_read w).2
noncomputable abbrev ln_lexer : List Str := [Str.ofString "stream", Str.ofString "_law_piece", Str.ofString "lexer"]
noncomputable abbrev cn_lexer : List (Str × Nat) := [(Str.ofString "gone", 2), (Str.ofString "text", 1)]
theorem loc_lexer : ∀ x ∈ ln_lexer, (defS (at1 P2 14)).names.lookup x = some .local := by decide +kernel
theorem nd_lexer : ln_lexer.Nodup := by decide +kernel
noncomputable def b_lexer : { b : List Stmt // defB (at1 P2 14) = b } := ⟨[_, _, _, _, _, _, _], rfl⟩
noncomputable def s_lexer (w : World) : { F : Addr → FM PF // ∀ L, Den (C2 w) 3 (FI.fn fd319 319 ln_lexer cn_lexer L) RFl (execs (defB (at1 P2 14)) (callEnvC fd319 L 319)) (F L) } := ⟨_, fun L => by
  have ok : FI.Ok (FI.fn fd319 319 ln_lexer cn_lexer L) := ok_fn (fd := fd319) rfl rfl rfl loc_lexer nd_lexer
  rw [b_lexer.2]
  exact (Zb (Zh (Zt (Zz ok (by kernel_rfl) (gn__netrclex w)) (Zk (a := 160) (by kernel_rfl)) (Zc den_none Ze) ((k_make160 w).weak (by decide))) (Zf (i := 0) ok rfl)) (Zb (Zh (Yj Ze) (dena_cell (i := 0) ok rfl (by kernel_rfl) (by kernel_rfl))) (Zb (den_fundef (q := qP) (j := 1) (it := 0) (P := 314) (cc := 318) (cl := (cnAt cn_lexer L).reverse) ok rfl rfl rfl rfl rfl (by kernel_rfl) (by kernel_rfl) rfl rfl (code_lexer w) (pm_lexer w) (blt_lexer w) rfl) (Zb (Zh (Za (i := 1) ok rfl) (dena_attr (Za (i := 0) ok rfl))) (Zb (Zh (Zt (Zz ok (by kernel_rfl) (gn__netrclex w)) (Zk (a := 160) (by kernel_rfl)) (Zc (Za (i := 0) ok rfl) Ze) ((k_make160 w).weak (by decide))) (Zf (i := 2) ok rfl)) (Zb (Zh Zv (dena_attr (Za (i := 2) ok rfl))) (Zb (Zs (Za (i := 2) ok rfl)) Zg)))))))⟩
noncomputable abbrev wsQ : Str := Str.ofString "\n\t\r ="
noncomputable abbrev kvW (n : Int) (p : PV) (ws : Str) (j : Nat) : List (Str × PV) := [(nLine, .int n), (nIn, p), (nWs, .str ws), (nPb, .ref j)]
noncomputable def goneL (text : Str) (p : Nat) : List PV := (text.cps.toList.take p).map fun u => .str ⟨#[u]⟩
structure Lex (st : List AO) (i k j r g : Nat) (n : Int) (j2 : Nat) (text : Str) (p : Nat) (xs : List PV) : Prop where
  lx : st[i]? = some (.inst 160 (kvW n (.ref k) wsQ j))
  sm : st[k]? = some (.inst 160 [(nLine, .int 1), (nIn, .none), (nWs, .str wsS), (nPb, .ref j2), (nRd, .ref r)])
  rd : st[r]? = some (.clo tmP cnP [some (.str text), some (.ref g)])
  gn : st[g]? = some (.list (goneL text p))
  pb : st[j]? = some (.list xs)
  jg : j ≠ g
  ha : text.cps.all (· < 128) = true
  hz : text.cps.size ≤ 1000
noncomputable def readR (w : World) : List PV → SM PV := runK (1 + 0) [] [some 0, none] [] (s_read w).1
theorem k_read (w : World) : FunK (C2 w) 3 (.ref 143) 1 [] (readR w) := r_read w
theorem ao_in (w : World) : attrOk (kFrag w.params) 160 nIn = true := by kernel_rfl
theorem ao_line (w : World) : attrOk (kFrag w.params) 160 nLine = true := by kernel_rfl
theorem ao_ws (w : World) : attrOk (kFrag w.params) 160 nWs = true := by kernel_rfl
theorem ao_pb (w : World) : attrOk (kFrag w.params) 160 nPb = true := by kernel_rfl
section
variable {st : List AO} {i k j r g : Nat} {n : Int} {j2 : Nat} {text : Str} {p : Nat} {xs : List PV}
theorem Lex.i_ne (L : Lex st i k j r g n j2 text p xs) : P7 (i ≠ g) (k ≠ g) (r ≠ g) (i ≠ j) (i ≠ k) (i ≠ r) True := by
  refine ⟨?_, ?_, ?_, ?_, ?_, ?_, trivial⟩ <;> rintro rfl
  · exact nomatch L.lx.symm.trans L.gn
  · exact nomatch L.sm.symm.trans L.gn
  · exact nomatch L.rd.symm.trans L.gn
  · exact nomatch L.lx.symm.trans L.pb
  · have := (L.lx.symm.trans L.sm)
    have h := (AO.inst.inj (Option.some.inj this)).2
    have := congrArg List.length h
    exact nomatch this
  · exact nomatch L.lx.symm.trans L.rd
theorem lt_of {x : AO} (h : st[i]? = some x) : i < st.length := (List.getElem?_eq_some_iff.mp h).1
theorem set_same {x : AO} (h : st[i]? = some x) : st.set i x = st := by
  apply List.ext_getElem?
  intro q
  by_cases hq : i = q
  · subst hq; rw [List.getElem?_set_self (lt_of h), h]
  · rw [List.getElem?_set_ne hq]
noncomputable def atQ (st : List AO) (i k j g : Nat) (text : Str) (n : Int) (p : Nat) : List AO := (st.set i (.inst 160 (kvW n (.ref k) wsQ j))).set g (.list (goneL text p))
theorem Lex.at_same (L : Lex st i k j r g n j2 text p xs) : atQ st i k j g text n p = st := by
  unfold atQ; rw [set_same L.lx, set_same L.gn]
theorem Lex.go (L : Lex st i k j r g n j2 text p xs) (n' : Int) (p' : Nat) (l : List AO) : Lex (atQ st i k j g text n' p' ++ l) i k j r g n' j2 text p' xs := by
  obtain ⟨h1, h2, h3, h4, h5, h6, _⟩ := L.i_ne
  have key : ∀ {q : Nat} {x : AO}, st[q]? = some x → q ≠ g → q ≠ i → (atQ st i k j g text n' p' ++ l)[q]? = some x := fun h a b => by
    unfold atQ
    rw [List.getElem?_append_left (by rw [List.length_set, List.length_set]; exact lt_of h), List.getElem?_set_ne (Ne.symm a), List.getElem?_set_ne (Ne.symm b)]; exact h
  refine ⟨?_, key L.sm h2 (Ne.symm h5), key L.rd h3 (Ne.symm h6), ?_, key L.pb L.jg (Ne.symm h4), L.jg, L.ha, L.hz⟩
  · unfold atQ
    rw [List.getElem?_append_left (by rw [List.length_set, List.length_set]; exact lt_of L.lx), List.getElem?_set_ne (Ne.symm h1), List.getElem?_set_self (lt_of L.lx)]
  · unfold atQ
    rw [List.getElem?_append_left (by rw [List.length_set, List.length_set]; exact lt_of L.gn), List.getElem?_set_self (by rw [List.length_set]; exact lt_of L.gn)]
theorem Lex.at_at (L : Lex st i k j r g n j2 text p xs) (n' n'' : Int) (p' p'' : Nat) (l : List AO) : atQ (atQ st i k j g text n' p' ++ l) i k j g text n'' p'' = atQ st i k j g text n'' p'' ++ l := by
  obtain ⟨h1, _⟩ := L.i_ne
  unfold atQ
  have e1 : i < ((st.set i (.inst 160 (kvW n' (.ref k) wsQ j))).set g (.list (goneL text p'))).length := by rw [List.length_set, List.length_set]; exact lt_of L.lx
  rw [List.set_append_left _ _ e1, List.set_append_left _ _ (by rw [List.length_set, List.length_set, List.length_set]; exact lt_of L.gn), List.set_comm _ _ (Ne.symm h1), List.set_set, List.set_set]
theorem goneL_len (h : p ≤ text.cps.size) : (goneL text p).length = p := by
  unfold goneL; rw [List.length_map, List.length_take, Array.length_toList]; exact Nat.min_eq_left h
theorem goneL_succ {u : Nat} (h : text.cps[p]? = some u) : goneL text p ++ Yp ⟨#[u]⟩ = goneL text (p + 1) := by
  unfold goneL
  rw [List.take_add_one, List.map_append, Array.getElem?_toList, h]
  rfl
theorem piece_some {q u : Nat} (h : text.cps[q]? = some u) : Z1 text q = ⟨#[u]⟩ := by unfold Z1; rw [h]
theorem piece_none {q : Nat} (h : text.cps[q]? = none) : Z1 text q = Str.ofString "" := by unfold Z1; rw [h]; rfl
theorem nl_of {u : Nat} (h : u = 10) : ((⟨#[u]⟩ : Str) == Str.ofString "\n") = true := by subst h; decide +kernel
theorem nl_not {u : Nat} (h : u ≠ 10) : ((⟨#[u]⟩ : Str) == Str.ofString "\n") = false := by
  rw [beq_eq_false_iff_ne]
  intro e
  have e2 : (⟨#[u]⟩ : Str).cps = (Str.ofString "\n").cps := congrArg Str.cps e
  have e3 : (Str.ofString "\n").cps = #[10] := by decide +kernel
  rw [e3] at e2
  exact h (by simpa using e2)
theorem read_own (w : World) (L : Lex st i k j r g n j2 text p xs) {y : PV} {st' : List AO} (hpc : pieceG (.ref r) [.int 1] st = some (y, st')) {o : Option PV} :
    (bindE (bindE (getL 0) fun p => liftS (getA (kFrag w.params) (Str.ofString "instream") p)) fun p => bindE (fun es => Option.map (fun q => (q, es)) (ownClo (kFrag w.params) 160 (Str.ofString "read") p es.st)) fun q => bindE (consE (pureE (PV.int 1)) (pureE [])) fun ps => guardE (isClo q) (liftS (pieceG q ps))) ⟨[some (.ref i), o], [], st⟩ = some (y, ⟨[some (.ref i), o], [], st'⟩) := by
  let E : ES := ⟨[some (.ref i), o], [], st⟩
  refine e_bind (y := .ref k) (es₁ := E) (p_lift (p := .ref i) rfl (getA_of (inst_of L.lx) (ao_in w) (getL2 _ _ _))) (e_bind (y := .ref r) (es₁ := E) ?_ (e_bind (y := [.int 1]) (es₁ := E) (p_cons rfl rfl) (Z9 (pikB_of ⟨_, _, _, _, rfl, L.rd⟩) (Ys hpc))))
  show Option.map _ (ownClo _ _ _ _ st) = _
  rw [ownClo_of (inst_of L.sm) (getL5 _ _ _ _ _)]; rfl
theorem read_run (w : World) (L : Lex st i k j r g n j2 text p xs) {u : Nat} (hu : text.cps[p]? = some u) :
    readR w [.ref i] st = some (.str ⟨#[u]⟩, atQ st i k j g text (if u = 10 then n + 1 else n) (p + 1)) := by
  obtain ⟨h1, h2, h3, h4, h5, h6, _⟩ := L.i_ne
  have hp : p < text.cps.size := (Array.getElem?_eq_some_iff.mp hu).1
  have hl := goneL_len (text := text) (Nat.le_of_lt hp)
  have hpc : pieceG (.ref r) [.int 1] st = some (.str ⟨#[u]⟩, st.set g (.list (goneL text (p + 1)))) := by
    have := piece_of L.rd L.ha L.hz L.gn (by rw [hl]; exact Nat.le_trans (Nat.le_of_lt hp) (Nat.le_trans L.hz (by decide)))
    rwa [hl, piece_some hu, goneL_succ hu] at this
  let E (o : Option PV) (S : List AO) : ES := ⟨[some (.ref i), o], [], S⟩
  let S1 := st.set g (.list (goneL text (p + 1)))
  have hS1 : S1[i]? = some (.inst 160 (kvW n (.ref k) wsQ j)) := by rw [List.getElem?_set_ne (Ne.symm h1)]; exact L.lx
  have r1 : (s_read w).1 (E none st) = some (.ret (.str ⟨#[u]⟩), E (some (.str ⟨#[u]⟩)) (atQ st i k j g text (if u = 10 then n + 1 else n) (p + 1))) := by
    simp only [s_read]
    refine e_seq (es₁ := E (some (.str ⟨#[u]⟩)) S1) (e_asg (p := .str ⟨#[u]⟩) (es₁ := E none S1) ?_ rfl) ?_
    · exact read_own w L hpc
    refine e_seq (es₁ := E (some (.str ⟨#[u]⟩)) (atQ st i k j g text (if u = 10 then n + 1 else n) (p + 1))) ?_ rfl
    by_cases h : u = 10
    · rw [if_pos h]
      refine e_ite (t := true) (es₁ := E (some (.str ⟨#[u]⟩)) S1) (p_lift (p := .bool true) (p_bin (p := .str ⟨#[u]⟩) (q := .str (Str.ofString "\n")) rfl rfl (by show some (PV.bool _, _) = _; rw [nl_of h])) rfl) ?_
      refine e_seq (es₁ := E (some (.str ⟨#[u]⟩)) (atQ st i k j g text (n + 1) (p + 1))) ?_ rfl
      refine e_bind (y := .ref i) (es₁ := E (some (.str ⟨#[u]⟩)) S1) rfl ?_
      refine e_bind (y := .int n) (es₁ := E (some (.str ⟨#[u]⟩)) S1) (Ys (getA_of (inst_of hS1) (ao_line w) (getL1 _ _))) ?_
      refine e_bind (y := .int 1) (es₁ := E (some (.str ⟨#[u]⟩)) S1) rfl ?_
      refine e_bind (y := .int (n + 1)) (es₁ := E (some (.str ⟨#[u]⟩)) S1) rfl ?_
      refine e_bind (y := ()) (es₁ := E (some (.str ⟨#[u]⟩)) (atQ st i k j g text (n + 1) (p + 1))) ?_ rfl
      have := setA_of (q := .int (n + 1)) hS1 (so_line w) (by show 4 ≤ 900; decide)
      rw [putL'] at this
      refine (Ys this).trans ?_
      unfold atQ
      rw [List.set_comm _ _ h1]
    · rw [if_neg h]
      refine e_ite (t := false) (es₁ := E (some (.str ⟨#[u]⟩)) S1) (p_lift (p := .bool false) (p_bin (p := .str ⟨#[u]⟩) (q := .str (Str.ofString "\n")) rfl rfl (by show some (PV.bool _, _) = _; rw [nl_not h])) rfl) ?_
      unfold atQ
      rw [set_same L.lx]
      rfl
  exact Yr r1
end
theorem putW (p q r t u : PV) : kvPut [(nLine, p), (nIn, q), (nWs, r), (nPb, t)] nWs u = [(nLine, p), (nIn, q), (nWs, u), (nPb, t)] := by kernel_rfl
noncomputable abbrev posP : Pos := { line := 182, col := 4, endLine := 185, endCol := 20 }
noncomputable abbrev lexNew (n : Nat) (text : Str) : List AO := [.inst 160 [(nLine, .int 1), (nIn, .none), (nWs, .str wsS), (nPb, .ref (n + 1)), (nRd, .ref (n + 3))], .list [], .list [], .clo tmP cnP [some (.str text), some (.ref (n + 2))], .inst 160 (kvW 1 (.ref n) wsQ (n + 5)), .list []]
noncomputable def lexerG (ps : List PV) : SM PV := fun st => pik fun r => ∃ text, P3 (ps = [.str text]) (st[0]? = some (.tab 314 posP qP)) (r = (.ref (st.length + 4), st ++ lexNew st.length text))
theorem lexer_run {st : List AO} {text : Str} (h : st[0]? = some (AO.tab 314 posP qP)) : lexerG [.str text] st = some (.ref (st.length + 4), st ++ lexNew st.length text) :=
  pik_of ⟨_, rfl, h, rfl⟩ fun z q' => by obtain ⟨_, e, _, r⟩ := q'; cases e; exact r
theorem set_mid {K : Frag} {name : Str} {st l m : List AO} {n : Nat} {C : Addr} {kvs kvs' : List (Str × PV)} {q : PV} (hn : n = l.length) (hs : setOk K C name = true) (hk : kvPut kvs name q = kvs') (hz : kvs.length ≤ 900 := by exact Nat.le_of_ble_eq_true rfl) : setA K name (.ref (st.length + n)) q (st ++ (l ++ .inst C kvs :: m)) = some ((), st ++ (l ++ .inst C kvs' :: m)) := by
  subst hn
  have := setA_new (K := K) (st := st ++ l) (l := m) (q := q) hs hk hz
  rwa [List.length_append, List.append_assoc, List.append_assoc] at this
theorem x_lexer (w : World) : DefK (C2 w).K 319 fd319 (defB (at1 P2 14)) [Str.ofString "text"] ln_lexer cn_lexer := ⟨⟨⟨_, _, _, rfl⟩, by kernel_rfl, rfl, rfl, rfl, rfl⟩, rfl, fun L => rfl, by decide +kernel, by decide +kernel, by decide +kernel, loc_lexer, by decide +kernel⟩
theorem k_lexer (w : World) : FunK (C2 w) 4 (.ref 319) 1 [] lexerG := by
  refine fun_defC (kn := []) (dvs := []) (dps := []) (li := [none, none, none]) (ci := [none, some 0]) (tm := tmP) (x_lexer w) (fun _ _ => .nil) rfl (by decide +kernel) (by decide +kernel) (fun s vs ws h1 h2 X => ?_) (s_lexer w).2 fun ps st y st' e => ?_
  obtain ⟨v, rfl⟩ := ln1 h1
  obtain rfl := ln0 h2
  exact BindsTo.of_eq (by kernel_rfl)
  obtain ⟨text, rfl, h0, e'⟩ := Zq e
  clear e; cases e'
  have h0' : ∀ l, (st ++ l)[0]? = some (AO.tab 314 posP qP) := fun l => by
    rw [List.getElem?_append_left (List.getElem?_eq_some_iff.mp h0).1]; exact h0
  refine ⟨rfl, st.length + 3, [some (.ref (st.length + 2)), some (.str text)], Nat.le_add_right _ _, rfl, fun L => ⟨.ret (.ref (st.length + 4)), ⟨[some (.ref st.length), some (.ref (st.length + 3)), some (.ref (st.length + 4))], [some (.ref (st.length + 2)), some (.str text)],
    st ++ [.inst 160 [(nLine, .int 1), (nIn, .none), (nWs, .str wsS), (nPb, .ref (st.length + 1)), (nRd, .ref (st.length + 3))], .list [], .list [], .fn tmP (cnAt cn_lexer L).reverse, .inst 160 (kvW 1 (.ref st.length) wsQ (st.length + 5)), .list []]⟩, ?_, rfl, ?_, rfl, ?_⟩⟩
  · let E (a b c d : Option PV) (S : List AO) : ES := ⟨[a, b, c], [d, some (.str text)], S⟩
    let n := st.length
    let r (k : Nat) : Option PV := some (.ref (n + k))
    let F : AO := .fn tmP (cnAt cn_lexer L).reverse
    let I1 : AO := .inst 160 (kv76 1 .none (n + 1))
    let I2 : AO := .inst 160 [(nLine, .int 1), (nIn, .none), (nWs, .str wsS), (nPb, .ref (n + 1)), (nRd, .ref (n + 3))]
    let I3 : AO := .inst 160 (kv76 1 (.ref n) (n + 5))
    show (s_lexer w).1 L (E none none none none st) = some (.ret (.ref (n + 4)), E (r 0) (r 3) (r 4) (r 2) (st ++ [I2, .list [], .list [], F, .inst 160 (kvW 1 (.ref n) wsQ (n + 5)), .list []]))
    simp only [s_lexer]
    refine e_seq (es₁ := E (r 0) none none none (st ++ [I1, .list []])) (e_asg (p := .ref n) (es₁ := E none none none none (st ++ [I1, .list []])) (e_bind (y := [.none]) (es₁ := E none none none none st) (p_cons rfl rfl) (Ys ?_)) rfl) ?_
    · exact make160_run w .none st
    refine e_seq (es₁ := E (r 0) none none (r 2) (st ++ [I1, .list [], .list []])) (e_asg (p := .ref (n + 2)) (es₁ := E (r 0) none none none (st ++ [I1, .list [], .list []])) ?_ rfl) ?_
    · rw [new0]
      show some (PV.ref (st ++ _).length, (⟨_, _, (st ++ [I1, .list []]) ++ [_]⟩ : ES)) = _
      rw [List.length_append, List.append_assoc]; rfl
    refine e_seq (es₁ := E (r 0) (r 3) none (r 2) (st ++ [I1, .list [], .list [], F])) (def_of (h0' _) ?_) ?_
    · show some (PF.next, (⟨[_, some (PV.ref (st ++ _).length), _], _, (st ++ [I1, .list [], .list []]) ++ [_]⟩ : ES)) = _
      rw [List.length_append, List.append_assoc]; rfl
    refine e_seq (es₁ := E (r 0) (r 3) none (r 2) (st ++ [I2, .list [], .list [], F])) (e_asg (p := .ref (n + 3)) (es₁ := E (r 0) (r 3) none (r 2) (st ++ [I1, .list [], .list [], F])) rfl (e_lift (p := .ref n) (es₁ := E (r 0) (r 3) none (r 2) (st ++ [I1, .list [], .list [], F])) rfl (setA_new (so_rd w) (put4 _ _ _ _ _)))) ?_
    refine e_seq (es₁ := E (r 0) (r 3) (r 4) (r 2) (st ++ [I2, .list [], .list [], F, I3, .list []])) (e_asg (p := .ref (n + 4)) (es₁ := E (r 0) (r 3) none (r 2) (st ++ [I2, .list [], .list [], F, I3, .list []])) (e_bind (y := [.ref n]) (es₁ := E (r 0) (r 3) none (r 2) (st ++ [I2, .list [], .list [], F])) (p_cons rfl rfl) (Ys ?_)) rfl) ?_
    · have := make160_run w (.ref n) (st ++ [I2, .list [], .list [], F])
      rwa [List.length_append, List.append_assoc] at this
    exact e_seq (es₁ := E (r 0) (r 3) (r 4) (r 2) (st ++ [I2, .list [], .list [], F, .inst 160 (kvW 1 (.ref n) wsQ (n + 5)), .list []])) (e_asg (p := .str wsQ) (es₁ := E (r 0) (r 3) (r 4) (r 2) (st ++ [I2, .list [], .list [], F, I3, .list []])) rfl (e_lift (p := .ref (n + 4)) (es₁ := E (r 0) (r 3) (r 4) (r 2) (st ++ [I2, .list [], .list [], F, I3, .list []])) rfl (set_mid (l := [I2, .list [], .list [], F]) rfl (so_ws w) (putW _ _ _ _ _)))) rfl
  · rw [Yi]; rfl
  · rw [set_app]; rfl
noncomputable abbrev ln_token : List Str := [Str.ofString "self", Str.ofString "token", Str.ofString "fiter", Str.ofString "ch"]
noncomputable abbrev cn_token : List (Str × Nat) := []
theorem loc_token : ∀ x ∈ ln_token, (defS (at2 P2 6 2)).names.lookup x = some .local := by decide +kernel
theorem nd_token : ln_token.Nodup := by decide +kernel
noncomputable def b_token : { b : List Stmt // defB (at2 P2 6 2) = b } := ⟨[_, _, _, _, _], rfl⟩
noncomputable def s_token (w : World) : { F : FM PF // ∀ L, Den (C2 w) 4 (FI.fn fd150 150 ln_token cn_token L) RFl (execs (defB (at2 P2 6 2)) (callEnvC fd150 L 150)) F } := ⟨_, fun L => by
  have ok : FI.Ok (FI.fn fd150 150 ln_token cn_token L) := ok_fn (fd := fd150) rfl rfl rfl loc_token nd_token
  rw [b_token.2]
  exact (Zb (den_if (dent_value (den_attr (Za (i := 0) ok rfl))) (Zb (Zs (Zl (den_attr (Za (i := 0) ok rfl)) (Yx F.slot_list_pop F.type_list_pop) Zi (Zc Zj Ze) op_pop)) Zg) Zg) (Zb (Zh Zv (Zf (i := 1) ok rfl)) (Zb (Zh (Zt (Zo ok (by kernel_rfl) (gn_iter w) (bn_iter w)) Zi (Zc (den_attr_meth (Za (i := 0) ok rfl) (C := 160) (fa := 143) (by kernel_rfl)) (Zc Zv Ze)) op_iter) (Zf (i := 2) ok rfl)) (Zb (den_for_step (N := 20) (Za (i := 2) ok rfl) (op_nextC (fn_read w) ((k_read w).weak (by decide))) (Zf (i := 3) ok rfl) (Zb (den_if (Zm (Za (i := 3) ok rfl) (den_attr (Za (i := 0) ok rfl)) op_inS) (Zb den_continue Zg) Zg) (Zb (den_if (Zm (Za (i := 3) ok rfl) Zv op_eqS) (Zb (den_for_step (N := 20) (Za (i := 2) ok rfl) (op_nextC (fn_read w) ((k_read w).weak (by decide))) (Zf (i := 3) ok rfl) (Zb (den_if (Zm (Za (i := 3) ok rfl) Zv op_eqS) (Zb (Zs (Za (i := 1) ok rfl)) Zg) (Zb (den_if (Zm (Za (i := 3) ok rfl) Zv op_eqS) (Zb (Zh (Zl (Za (i := 0) ok rfl) (Z8 (C := 160) (fa := 143) (by kernel_rfl)) (Zk (a := 143) (by kernel_rfl)) Ze ((k_read w).ok.weak (by decide))) (Zf (i := 3) ok rfl)) Zg) Zg) Zg)) (Zb (den_aug_local (i := 1) ok rfl (Za (i := 3) ok rfl) op_iaddG) Zg))) Zg) (Zb (den_if (Zm (Za (i := 3) ok rfl) Zv op_eqS) (Zb (Zh (Zl (Za (i := 0) ok rfl) (Z8 (C := 160) (fa := 143) (by kernel_rfl)) (Zk (a := 143) (by kernel_rfl)) Ze ((k_read w).ok.weak (by decide))) (Zf (i := 3) ok rfl)) Zg) Zg) (Zb (den_aug_local (i := 1) ok rfl (Za (i := 3) ok rfl) op_iaddG) (Zb (den_for_step (N := 20) (Za (i := 2) ok rfl) (op_nextC (fn_read w) ((k_read w).weak (by decide))) (Zf (i := 3) ok rfl) (Zb (den_if (Zm (Za (i := 3) ok rfl) (den_attr (Za (i := 0) ok rfl)) op_inS) (Zb (Zs (Za (i := 1) ok rfl)) Zg) (Zb (den_if (Zm (Za (i := 3) ok rfl) Zv op_eqS) (Zb (Zh (Zl (Za (i := 0) ok rfl) (Z8 (C := 160) (fa := 143) (by kernel_rfl)) (Zk (a := 143) (by kernel_rfl)) Ze ((k_read w).ok.weak (by decide))) (Zf (i := 3) ok rfl)) Zg) Zg) Zg)) (Zb (den_aug_local (i := 1) ok rfl (Za (i := 3) ok rfl) op_iaddG) Zg))) Zg)))) Zg))) (Zb (Zs (Za (i := 1) ok rfl)) Zg)))))⟩
theorem x_token (w : World) : DefK (C2 w).K 150 fd150 (defB (at2 P2 6 2)) [Str.ofString "self"] ln_token cn_token := ⟨⟨⟨_, _, _, rfl⟩, by kernel_rfl, rfl, rfl, rfl, rfl⟩, rfl, fun L => rfl, by decide +kernel, by decide +kernel, by decide +kernel, loc_token, by decide +kernel⟩
theorem r_token (w : World) : FunK (C2 w) 5 (.ref 150) 1 [] (runK (1 + 0) [] [some 0, none, none, none] [] (s_token w).1) := Yc (x_token w) (dvs := []) (fun _ _ => .nil) rfl (by decide +kernel) (by decide +kernel) (fun s vs ws h1 h2 X => by
  obtain ⟨v0, rfl⟩ := ln1 h1
  obtain rfl := ln0 h2
  exact BindsTo.of_eq (by kernel_rfl)) (s_token w).2
noncomputable def tokenR (w : World) : List PV → SM PV := runK (1 + 0) [] [some 0, none, none, none] [] (s_token w).1
theorem k_token (w : World) : FunK (C2 w) 5 (.ref 150) 1 [] (tokenR w) := r_token w
section
variable {st : List AO} {i k j r g : Nat} {n : Int} {j2 : Nat} {text : Str} {p : Nat} {xs : List PV}
theorem read_end (w : World) (L : Lex st i k j r g n j2 text p xs) (hp : p = text.cps.size) : readR w [.ref i] st = some (.str (Str.ofString ""), st) := by
  obtain ⟨h1, h2, h3, h4, h5, h6, _⟩ := L.i_ne
  have hu : text.cps[p]? = none := Array.getElem?_eq_none (Nat.le_of_eq hp.symm)
  have hl := goneL_len (text := text) (p := p) (Nat.le_of_eq hp)
  have hpc : pieceG (.ref r) [.int 1] st = some (.str (Str.ofString ""), st) := by
    have := piece_of L.rd L.ha L.hz L.gn (by rw [hl]; exact hp ▸ Nat.le_trans L.hz (by decide))
    rwa [hl, piece_none hu, show Yp (Str.ofString "") = [] by kernel_rfl, List.append_nil, set_same L.gn] at this
  let E (o : Option PV) (S : List AO) : ES := ⟨[some (.ref i), o], [], S⟩
  have r1 : (s_read w).1 (E none st) = some (.ret (.str (Str.ofString "")), E (some (.str (Str.ofString ""))) st) := by
    simp only [s_read]
    refine e_seq (es₁ := E (some (.str (Str.ofString ""))) st) (e_asg (p := .str (Str.ofString "")) (es₁ := E none st) ?_ rfl) ?_
    · exact read_own w L hpc
    refine e_seq (es₁ := E (some (.str (Str.ofString ""))) st) ?_ rfl
    refine e_ite (t := false) (es₁ := E (some (.str (Str.ofString ""))) st) (p_lift (p := .bool false) (p_bin (p := .str (Str.ofString "")) (q := .str (Str.ofString "\n")) rfl rfl (by show some (PV.bool _, _) = _; rw [show (Str.ofString "" == Str.ofString "\n") = false by decide +kernel])) rfl) rfl
  exact Yr r1
theorem Lex.app (L : Lex st i k j r g n j2 text p xs) (l : List AO) : Lex (st ++ l) i k j r g n j2 text p xs := by
  have := L.go n p l
  rwa [L.at_same] at this
end
theorem token_wait (w : World) {st : List AO} {i j : Nat} {n : Int} {p : PV} {ws : Str} {x : PV} {xs : List PV} (h1 : st[i]? = some (.inst 160 (kvW n p ws j))) (h2 : st[j]? = some (.list (x :: xs))) (hz : xs.length + 1 ≤ sizeLine) :
    tokenR w [.ref i] st = some (x, st.set j (.list xs)) := by
  let E (S : List AO) : ES := ⟨[some (.ref i), none, none, none], [], S⟩
  have hg : (bindE (getL 0) fun p => liftS (getA (kFrag w.params) (Str.ofString "pushback") p)) (E st) = some (.ref j, E st) := p_lift (p := .ref i) rfl (getA_of (inst_of h1) (ao_pb w) (getL4 _ _ _ _ _))
  have ht : truthG (.ref j) st = some (true, st) := by
    show (match st[j]? with | some (.list xs) => if xs.length ≤ sizeLine then some (!xs.isEmpty, st) else none | _ => none) = _
    rw [h2]
    exact if_pos hz
  have run : (s_token w).1 (E st) = some (.ret x, E (st.set j (.list xs))) := by
    simp only [s_token]
    exact e_stop (e_ite (t := true) (p_lift hg ht) (e_stop (e_bind (y := x) (es₁ := E (st.set j (.list xs))) (e_meth (ps := [.int 0]) (es₂ := E st) hg (isLst_ref h2) (p_cons rfl rfl) (pop_of h2 hz)) rfl)))
  exact Yr run
structure Cur (w : World) (i q : Nat) (text : Str) (X : Int → Nat → List AO) : Prop where
  rd : ∀ n p u, text.cps[p]? = some u → readR w [.ref i] (X n p) = some (.str ⟨#[u]⟩, X (if u = 10 then n + 1 else n) (p + 1))
  nx : ∀ n p u, text.cps[p]? = some u → nextC 143 (readR w) (.ref q) (X n p) = some (some (.str ⟨#[u]⟩), X (if u = 10 then n + 1 else n) (p + 1))
  ws : ∀ n p, getA (kFrag w.params) (Str.ofString "whitespace") (.ref i) (X n p) = some (.str wsQ, X n p)
  ci : ∀ n p, isCiter (X n p) (.ref q) = true
  ii : ∀ n p, isInst 160 (Str.ofString "_read_char") (.ref i) (X n p) = true
theorem get_rc (n : Int) (p : PV) (ws : Str) (j : Nat) : kvGet (kvW n p ws j) (Str.ofString "_read_char") = none := by kernel_rfl
theorem getA_pb (w : World) {st : List AO} {i j : Nat} {n : Int} {p : PV} {ws : Str} (h1 : st[i]? = some (.inst 160 (kvW n p ws j))) : getA (kFrag w.params) (Str.ofString "pushback") (.ref i) st = some (.ref j, st) := getA_of (inst_of h1) (ao_pb w) (getL4 _ _ _ _ _)
theorem getA_ws (w : World) {st : List AO} {i j : Nat} {n : Int} {p : PV} {ws : Str} (h1 : st[i]? = some (.inst 160 (kvW n p ws j))) : getA (kFrag w.params) (Str.ofString "whitespace") (.ref i) st = some (.str ws, st) := getA_of (inst_of h1) (ao_ws w) (getL3 _ _ _ _)
theorem beq_em (u : Nat) : (Str.ofString "" == (⟨#[u]⟩ : Str)) = false := by
  rw [beq_eq_false_iff_ne]
  intro e
  have e2 : (Str.ofString "").cps = (⟨#[u]⟩ : Str).cps := congrArg Str.cps e
  have := congrArg Array.size e2
  rw [show (Str.ofString "").cps.size = 0 by decide +kernel] at this
  exact nomatch this
section
variable {st : List AO} {i k j r g : Nat} {n : Int} {j2 : Nat} {text : Str} {p : Nat} {xs : List PV}
noncomputable abbrev mAO (i : Nat) : AO := .meth (.ref 143) (.ref i)
noncomputable abbrev cAO (l : Nat) : AO := .citer (.ref l) (.str (Str.ofString ""))
theorem atQ_len (st : List AO) (i k j g : Nat) (text : Str) (n : Int) (p : Nat) : (atQ st i k j g text n p).length = st.length := by unfold atQ; rw [List.length_set, List.length_set]
theorem Lex.cur (w : World) (L : Lex st i k j r g n j2 text p xs) : Cur w i (st.length + 1) text fun n' p' => atQ st i k j g text n' p' ++ [mAO i, cAO st.length] := by
  have hm : ∀ n' p', (atQ st i k j g text n' p' ++ [mAO i, cAO st.length])[st.length]? = some (mAO i) := fun n' p' => by
    have := Yi (atQ st i k j g text n' p') [mAO i, cAO st.length] 0
    rwa [atQ_len] at this
  have hq : ∀ n' p', (atQ st i k j g text n' p' ++ [mAO i, cAO st.length])[st.length + 1]? = some (cAO st.length) := fun n' p' => by
    have := Yi (atQ st i k j g text n' p') [mAO i, cAO st.length] 1
    rwa [atQ_len] at this
  have rd : ∀ n p u, text.cps[p]? = some u → readR w [.ref i] (atQ st i k j g text n p ++ [mAO i, cAO st.length]) = some (.str ⟨#[u]⟩, atQ st i k j g text (if u = 10 then n + 1 else n) (p + 1) ++ [mAO i, cAO st.length]) := fun n' p' u hu => by
    rw [read_run w (L.go n' p' _) hu, L.at_at]
  refine ⟨rd, fun n' p' u hu => ?_, fun n' p' => getA_ws w (L.go n' p' _).lx, fun n' p' => ?_, fun n' p' => Yq (L.go n' p' _).lx (get_rc _ _ _ _)⟩
  · have h := rd n' p' u hu
    exact nextC_of (hq _ _) (hm _ _) h (hq _ _) (hm _ _) (by rw [beq_em]; rfl)
  · exact pikB_of ⟨_, _, _, rfl, hq _ _⟩
end
noncomputable abbrev one (u : Nat) : Str := ⟨#[u]⟩
noncomputable def isWs (u : Nat) : Bool := u == 10 || u == 9 || u == 13 || u == 32 || u == 61
noncomputable def At (text : Str) : Nat → List Nat → Prop
  | _, [] => True
  | p, u :: l => text.cps[p]? = some u ∧ At text (p + 1) l
theorem inS_one {u : Nat} (h : u < 128) (st : List AO) : inS (.str (one u)) (.str wsQ) st = some (.bool (isWs u), st) := by
  have : ∀ u : Fin 128, (!(Builtin.Str.occurrences wsQ (one u.val) 0 wsQ.length 1).isEmpty) = isWs u.val := by decide +kernel
  show some (PV.bool (!(Builtin.Str.occurrences wsQ (one u) 0 wsQ.length 1).isEmpty), st) = _
  rw [this ⟨u, h⟩]
theorem one_eq (u v : Nat) : ((one u : Str) == one v) = (u == v) := by
  rw [Bool.eq_iff_iff, beq_iff_eq, beq_iff_eq]
  constructor
  · intro e
    have e2 : (#[u] : Array Nat) = #[v] := congrArg Str.cps e
    simpa using e2
  · rintro rfl; rfl
theorem eqS_q (u : Nat) (st : List AO) : eqS (.str (one u)) (.str (Str.ofString "\"")) st = some (.bool (u == 34), st) := by
  show some (PV.bool (one u == Str.ofString "\""), st) = _
  rw [show Str.ofString "\"" = one 34 by decide +kernel, one_eq]
theorem eqS_b (u : Nat) (st : List AO) : eqS (.str (one u)) (.str (Str.ofString "\\")) st = some (.bool (u == 92), st) := by
  show some (PV.bool (one u == Str.ofString "\\"), st) = _
  rw [show Str.ofString "\\" = one 92 by decide +kernel, one_eq]
theorem aug_str {t : Str} (u : Nat) (st : List AO) (h : t.length ≤ 1000) : iaddG (.str t) (.str (one u)) st = some (.str (t ++ one u), st) := by
  show (if t.length + (one u).length ≤ sizeLine then some (PV.str (t ++ one u), st) else none) = _
  rw [if_pos (by rw [sizeLine_eq]; show t.length + 1 ≤ _; omega)]
noncomputable abbrev E4 (i : Nat) (t q c : Option PV) (S : List AO) : ES := ⟨[some (.ref i), t, q, c], [], S⟩
noncomputable abbrev sv1 (u : Nat) : Option PV := some (.str (one u))
noncomputable def nls : List Nat → Int
  | [] => 0
  | u :: l => (if u = 10 then 1 else 0) + nls l
theorem nls_cons (n : Int) (u : Nat) (l : List Nat) : (if u = 10 then n + 1 else n) + nls l = n + nls (u :: l) := by
  show _ = n + ((if u = 10 then 1 else 0) + nls l)
  split <;> omega
theorem step_in {n : Nat} {N : SM (Option PV)} {S : PV → FM Unit} {B : FM PF} {loc cel : List (Option PV)} {st st' : List AO} {x : PV} {es₁ es₂ : ES} {fl : PF} {r : Option (PF × ES)} (h1 : N st = some (some x, st')) (h2 : S x ⟨loc, cel, st'⟩ = some ((), es₁)) (h3 : B es₁ = some (fl, es₂)) (h4 : loopK (stepE n N S B) fl es₂ = r) :
    stepE (n + 1) N S B ⟨loc, cel, st⟩ = r := by
  show bindE (liftS N) _ _ = r
  exact e_bind (y := some x) (es₁ := ⟨loc, cel, st'⟩) (by unfold liftS; rw [h1]) (e_bind (y := ()) h2 (e_bind h3 h4))
theorem str_app_one (t : Str) (u : Nat) (l : List Nat) : t ++ one u ++ (⟨l.toArray⟩ : Str) = t ++ (⟨(u :: l).toArray⟩ : Str) := by
  have : (#[u] ++ l.toArray : Array Nat) = (u :: l).toArray := by simp
  show (⟨t.cps ++ #[u] ++ l.toArray⟩ : Str) = ⟨t.cps ++ (u :: l).toArray⟩
  rw [Array.append_assoc, this]
theorem len_app_one (t : Str) (u : Nat) : (t ++ one u).length = t.length + 1 := PySem.Str.length_append t (one u)
section
variable {w : World} {i q : Nat} {text : Str} {X : Int → Nat → List AO} {B : FM PF}
theorem loop_ws (C : Cur w i q text X) {t : Option PV} (hB : ∀ u n p, u < 128 → isWs u = true → B (E4 i t (some (.ref q)) (sv1 u) (X n p)) = some (.cont, E4 i t (some (.ref q)) (sv1 u) (X n p))) :
    ∀ (l : List Nat) (m : Nat) (n : Int) (p : Nat) (c : Option PV), At text p l → l.all isWs = true → ∃ c', stepE (m + l.length) (nextC 143 (readR w) (.ref q)) (setL 3) B (E4 i t (some (.ref q)) c (X n p)) = stepE m (nextC 143 (readR w) (.ref q)) (setL 3) B (E4 i t (some (.ref q)) c' (X (n + nls l) (p + l.length)))
  | [], m, n, p, c, _, _ => ⟨c, by rw [show n + nls [] = n from Int.add_zero n]; rfl⟩
  | u :: l, m, n, p, c, h, a => by
    rw [List.all_cons, Bool.and_eq_true] at a
    obtain ⟨c', e⟩ := loop_ws C hB l m (if u = 10 then n + 1 else n) (p + 1) (sv1 u) h.2 a.2
    refine ⟨c', step_in (C.nx n p u h.1) rfl (hB u _ _ ?_ a.1) (e.trans ?_)⟩
    · have := a.1; unfold isWs at this; simp at this; omega
    · rw [nls_cons n u l, Nat.add_right_comm p 1 l.length]; rfl
theorem loop_plain (C : Cur w i q text X)
    (hB : ∀ (t : Str) u n p, u < 128 → t.length ≤ 1000 → isWs u = false → u ≠ 92 → B (E4 i (some (.str t)) (some (.ref q)) (sv1 u) (X n p)) = some (.next, E4 i (some (.str (t ++ one u))) (some (.ref q)) (sv1 u) (X n p)))
    (hE : ∀ (t : Str) u n p, u < 128 → isWs u = true → B (E4 i (some (.str t)) (some (.ref q)) (sv1 u) (X n p)) = some (.ret (.str t), E4 i (some (.str t)) (some (.ref q)) (sv1 u) (X n p))) :
    ∀ (l : List Nat) (v m : Nat) (n : Int) (p : Nat) (t : Str) (c : Option PV), At text p (l ++ [v]) → l.all (fun u => u < 128 && !isWs u && u != 92) = true → isWs v = true → v ≠ 10 → t.length + l.length ≤ 1000 →
      stepE (m + l.length + 1) (nextC 143 (readR w) (.ref q)) (setL 3) B (E4 i (some (.str t)) (some (.ref q)) c (X n p)) = some (.ret (.str (t ++ ⟨l.toArray⟩)), E4 i (some (.str (t ++ ⟨l.toArray⟩))) (some (.ref q)) (sv1 v) (X n (p + l.length + 1)))
  | [], v, m, n, p, t, c, h, _, hv, hn, _ => by
    have hlt : v < 128 := by unfold isWs at hv; simp at hv; omega
    rw [show t ++ (⟨([] : List Nat).toArray⟩ : Str) = t from str_app_none t _ rfl]
    refine step_in (C.nx n p v h.1) rfl (hE t v _ _ hlt hv) ?_
    rw [if_neg hn]; rfl
  | u :: l, v, m, n, p, t, c, h, a, hv, hn, hz => by
    rw [List.all_cons, Bool.and_eq_true] at a
    obtain ⟨a1, a2⟩ := a
    simp only [Bool.and_eq_true, decide_eq_true_eq, Bool.not_eq_true', bne_iff_ne] at a1
    have h10 : u ≠ 10 := by rintro rfl; exact absurd a1.1.2 (by decide)
    rw [List.length_cons] at hz
    refine step_in (C.nx n p u h.1) rfl (hB t u _ _ a1.1.1 (by omega) a1.1.2 a1.2) ?_
    rw [if_neg h10]
    refine (loop_plain C hB hE l v m n (p + 1) (t ++ one u) (sv1 u) h.2 a2 hv hn (by rw [len_app_one]; omega)).trans ?_
    rw [str_app_one, Nat.add_right_comm p 1 l.length]; rfl
noncomputable def enc : List (Bool × Nat) → List Nat
  | [] => []
  | (b, u) :: r => if b then 92 :: u :: enc r else u :: enc r
theorem loop_quote (C : Cur w i q text X)
    (hB : ∀ (t : Str) u n p, u < 128 → t.length ≤ 1000 → u ≠ 34 → u ≠ 92 → B (E4 i (some (.str t)) (some (.ref q)) (sv1 u) (X n p)) = some (.next, E4 i (some (.str (t ++ one u))) (some (.ref q)) (sv1 u) (X n p)))
    (hS : ∀ (t : Str) u n p, text.cps[p]? = some u → t.length ≤ 1000 → u ≠ 10 → B (E4 i (some (.str t)) (some (.ref q)) (sv1 92) (X n p)) = some (.next, E4 i (some (.str (t ++ one u))) (some (.ref q)) (sv1 u) (X n (p + 1))))
    (hE : ∀ (t : Str) n p, B (E4 i (some (.str t)) (some (.ref q)) (sv1 34) (X n p)) = some (.ret (.str t), E4 i (some (.str t)) (some (.ref q)) (sv1 34) (X n p))) :
    ∀ (l : List (Bool × Nat)) (m : Nat) (n : Int) (p : Nat) (t : Str) (c : Option PV), At text p (enc l ++ [34]) → l.all (fun x => x.2 < 128 && x.2 != 10 && (x.1 || (x.2 != 34 && x.2 != 92))) = true → t.length + l.length ≤ 1000 →
      stepE (m + l.length + 1) (nextC 143 (readR w) (.ref q)) (setL 3) B (E4 i (some (.str t)) (some (.ref q)) c (X n p)) = some (.ret (.str (t ++ ⟨(l.map (·.2)).toArray⟩)), E4 i (some (.str (t ++ ⟨(l.map (·.2)).toArray⟩))) (some (.ref q)) (sv1 34) (X n (p + (enc l).length + 1)))
  | [], m, n, p, t, c, h, _, _ => by
    rw [show t ++ (⟨(([] : List (Bool × Nat)).map (·.2)).toArray⟩ : Str) = t from str_app_none t _ rfl]
    exact step_in (C.nx n p 34 h.1) rfl (hE t _ _) rfl
  | (b, u) :: l, m, n, p, t, c, h, a, hz => by
    rw [List.all_cons, Bool.and_eq_true] at a
    obtain ⟨a1, a2⟩ := a
    simp only [Bool.and_eq_true, Bool.or_eq_true, decide_eq_true_eq, bne_iff_ne] at a1
    rw [List.length_cons] at hz
    cases b with
    | true =>
      have h : text.cps[p]? = some 92 ∧ text.cps[p + 1]? = some u ∧ At text (p + 1 + 1) (enc l ++ [34]) := h
      refine step_in (C.nx n p 92 h.1) rfl (hS t u _ _ h.2.1 (by omega) a1.1.2) ?_
      refine (loop_quote C hB hS hE l m n (p + 1 + 1) (t ++ one u) (sv1 u) h.2.2 a2 (by rw [len_app_one]; omega)).trans ?_
      rw [str_app_one, show p + 1 + 1 + (enc l).length + 1 = p + (enc ((true, u) :: l)).length + 1 by show _ = p + ((enc l).length + 1 + 1) + 1; omega]; rfl
    | false =>
      have h : text.cps[p]? = some u ∧ At text (p + 1) (enc l ++ [34]) := h
      have a3 : u ≠ 34 ∧ u ≠ 92 := a1.2.resolve_left (by decide)
      refine step_in (C.nx n p u h.1) rfl (hB t u _ _ a1.1.1 (by omega) a3.1 a3.2) ?_
      rw [if_neg a1.1.2]
      refine (loop_quote C hB hS hE l m n (p + 1) (t ++ one u) (sv1 u) h.2 a2 (by rw [len_app_one]; omega)).trans ?_
      rw [str_app_one, Nat.add_right_comm p 1 _]; rfl
end
noncomputable abbrev emS : Str := Str.ofString ""
theorem nil_app (x : Str) : emS ++ x = x := by
  obtain ⟨c⟩ := x
  show (⟨#[] ++ c⟩ : Str) = _
  simp
theorem getB_of {st : List AO} {i C : Nat} {kvs : List (Str × PV)} {name : Str} {fa : Addr} (h : st[i]? = some (.inst C kvs)) (hn : kvGet kvs name = none) : getB C name fa (.ref i) st = some (.ref st.length, st ++ [.meth (.ref fa) (.ref i)]) := getB_of' (inst_of h) hn
theorem iter_of {st : List AO} {f : Addr} {p z : PV} : iterG [.ref st.length, z] (st ++ [.meth (.ref f) p]) = some (.ref (st.length + 1), st ++ [.meth (.ref f) p, .citer (.ref st.length) z]) := by
  have := iter_get (z := z) (Z5 st [.meth (.ref f) p])
  rwa [List.length_append, List.append_assoc] at this
noncomputable abbrev NX (w : World) (q : Nat) : SM (Option PV) := nextC 143 (readR w) (.ref q)
noncomputable def wsT (w : World) : FM Bool := bindE (bindE (getL 3) fun p => bindE (bindE (getL 0) fun p => liftS (getA (kFrag w.params) (Str.ofString "whitespace") p)) fun q => liftS (inS p q)) fun p => liftS (truthG p)
noncomputable def eqT (x : Str) : FM Bool := bindE (bindE (getL 3) fun p => bindE (pureE (.str x)) fun q => liftS (eqS p q)) fun p => liftS (truthG p)
noncomputable def retT : FM PF := seqE (bindE (getL 1) fun p => pureE (.ret p)) (pureE .next)
noncomputable def rcT (w : World) : FM PF := seqE (bindE (bindE (getL 0) fun p => guardE (isInst 160 (Str.ofString "_read_char") p) (bindE (pureE []) fun ps => liftS (readR w (p :: ps)))) fun p => bindE (setL 3 p) fun x => pureE .next) (pureE .next)
noncomputable def augT : FM PF := augE (getL 1) (getL 3) iaddG (setL 1)
noncomputable def escT (w : World) : FM PF := iteE (eqT (Str.ofString "\\")) (rcT w) (pureE .next)
noncomputable def loopT (w : World) (B : FM PF) : FM PF := bindE (getL 2) fun p => guardE (fun st => isCiter st p) (stepE 20 (nextC 143 (readR w) p) (setL 3) B)
noncomputable def B2 (w : World) : FM PF := seqE (iteE (eqT (Str.ofString "\"")) retT (seqE (escT w) (pureE .next))) (seqE augT (pureE .next))
noncomputable def B3 (w : World) : FM PF := seqE (iteE (wsT w) retT (seqE (escT w) (pureE .next))) (seqE augT (pureE .next))
noncomputable def B1 (w : World) : FM PF := seqE (iteE (wsT w) (seqE (pureE .cont) (pureE .next)) (pureE .next)) (seqE (iteE (eqT (Str.ofString "\"")) (seqE (loopT w (B2 w)) (pureE .next)) (seqE (escT w) (seqE augT (seqE (loopT w (B3 w)) (pureE .next))))) (pureE .next))
theorem tok_loop (w : World) {i q : Nat} {text : Str} {X : Int → Nat → List AO} (C : Cur w i q text X) {st : List AO} {j : Nat} {n : Int} {p : PV} {n0 : Int} {p0 : Nat} {r : PF} {es : ES} {v : PV} (h1 : st[i]? = some (.inst 160 (kvW n p wsQ j))) (h2 : st[j]? = some (.list [])) (hq : q = st.length + 1) (hX : st ++ [mAO i, cAO st.length] = X n0 p0)
    (hr : stepE 20 (NX w q) (setL 3) (B1 w) (E4 i (some (.str emS)) (some (.ref q)) none (X n0 p0)) = some (r, es)) (hv : r = .ret v ∨ r = .next ∧ getL 1 es = some (v, es)) : tokenR w [.ref i] st = some (v, es.st) := by
  have run : (s_token w).1 (E4 i none none none st) = some (.ret v, es) := by
    simp only [s_token]
    refine e_seq (es₁ := E4 i none none none st) (e_ite (t := false) (es₁ := E4 i none none none st) (p_lift (p := .ref j) (p_lift (p := .ref i) rfl (getA_pb w h1)) (truth_ref h2 (by decide))) rfl) ?_
    refine e_seq (es₁ := E4 i (some (.str emS)) none none st) rfl ?_
    refine e_seq (es₁ := E4 i (some (.str emS)) (some (.ref q)) none (X n0 p0)) (e_asg (p := .ref q) (es₁ := E4 i (some (.str emS)) none none (X n0 p0)) ?_ rfl) ?_
    · refine e_bind (y := [.ref st.length, .str emS]) (es₁ := E4 i (some (.str emS)) none none (st ++ [mAO i])) (e_cons (es₁ := E4 i (some (.str emS)) none none (st ++ [mAO i])) (e_lift (p := .ref i) (es₁ := E4 i (some (.str emS)) none none st) rfl (getB_of h1 (get_rc _ _ _ _))) (p_cons rfl rfl)) ?_
      unfold liftS
      rw [show (E4 i (some (.str emS)) none none (st ++ [mAO i])).st = st ++ [mAO i] from rfl, iter_of, hX, hq]
    have hl : loopT w (B1 w) (E4 i (some (.str emS)) (some (.ref q)) none (X n0 p0)) = some (r, es) := e_bind (y := .ref q) (es₁ := E4 i (some (.str emS)) (some (.ref q)) none (X n0 p0)) rfl (Z9 (C.ci n0 p0) hr)
    refine e_bind (y := r) (es₁ := es) hl ?_
    rcases hv with rfl | ⟨rfl, hv⟩
    · rfl
    · exact e_bind (y := .ret v) (es₁ := es) (e_bind hv rfl) rfl
  exact Yr run
section
variable {w : World} {i q : Nat} {text : Str} {X : Int → Nat → List AO}
theorem wsT_at (C : Cur w i q text X) {t qq : Option PV} {u : Nat} (hu : u < 128) (n : Int) (p : Nat) : wsT w (E4 i t qq (sv1 u) (X n p)) = some (isWs u, E4 i t qq (sv1 u) (X n p)) := by
  unfold wsT
  exact p_lift (p := .bool (isWs u)) (p_bin (p := .str (one u)) (q := .str wsQ) rfl (p_lift (p := .ref i) rfl (C.ws n p)) (inS_one hu _)) rfl
theorem eqT_q {t qq : Option PV} (u : Nat) (S : List AO) : eqT (Str.ofString "\"") (E4 i t qq (sv1 u) S) = some (u == 34, E4 i t qq (sv1 u) S) := by
  unfold eqT
  exact p_lift (p := .bool (u == 34)) (p_bin (p := .str (one u)) (q := .str (Str.ofString "\"")) rfl rfl (eqS_q _ _)) rfl
theorem eqT_b {t qq : Option PV} (u : Nat) (S : List AO) : eqT (Str.ofString "\\") (E4 i t qq (sv1 u) S) = some (u == 92, E4 i t qq (sv1 u) S) := by
  unfold eqT
  exact p_lift (p := .bool (u == 92)) (p_bin (p := .str (one u)) (q := .str (Str.ofString "\\")) rfl rfl (eqS_b _ _)) rfl
theorem retT_at {t : PV} {qq c : Option PV} (S : List AO) : retT (E4 i (some t) qq c S) = some (.ret t, E4 i (some t) qq c S) := rfl
theorem rcT_at (C : Cur w i q text X) {t qq c : Option PV} {u : Nat} {n : Int} {p : Nat} (hu : text.cps[p]? = some u) : rcT w (E4 i t qq c (X n p)) = some (.next, E4 i t qq (sv1 u) (X (if u = 10 then n + 1 else n) (p + 1))) := by
  unfold rcT
  refine e_seq (es₁ := E4 i t qq (sv1 u) (X (if u = 10 then n + 1 else n) (p + 1))) (e_asg (p := .str (one u)) (es₁ := E4 i t qq c (X (if u = 10 then n + 1 else n) (p + 1))) ?_ rfl) rfl
  exact e_meth (p := .ref i) (es₁ := E4 i t qq c (X n p)) (es₂ := E4 i t qq c (X n p)) (ps := []) rfl (C.ii n p) rfl (C.rd n p u hu)
theorem augT_at {t : Str} {qq : Option PV} (u : Nat) (S : List AO) (h : t.length ≤ 1000) : augT (E4 i (some (.str t)) qq (sv1 u) S) = some (.next, E4 i (some (.str (t ++ one u))) qq (sv1 u) S) :=
  e_aug (p := .str t) (q := .str (one u)) (es₁ := E4 i (some (.str t)) qq (sv1 u) S) (es₂ := E4 i (some (.str t)) qq (sv1 u) S) rfl rfl (aug_str u _ h) rfl
theorem escT_no {t qq : Option PV} {u : Nat} (h : u ≠ 92) (S : List AO) : escT w (E4 i t qq (sv1 u) S) = some (.next, E4 i t qq (sv1 u) S) := by
  unfold escT
  exact e_ite (eqT_b u S) (by rw [beq_eq_false_iff_ne.mpr h]; rfl)
theorem escT_yes (C : Cur w i q text X) {t qq : Option PV} {u : Nat} {n : Int} {p : Nat} (hu : text.cps[p]? = some u) (h : u ≠ 10) : escT w (E4 i t qq (sv1 92) (X n p)) = some (.next, E4 i t qq (sv1 u) (X n (p + 1))) := by
  unfold escT
  refine e_ite (eqT_b 92 _) ?_
  have := rcT_at C (t := t) (qq := qq) (c := sv1 92) (n := n) hu
  rwa [if_neg h] at this
theorem t3_qB (t : Str) (u : Nat) (S : List AO) {qq : Option PV} (hz : t.length ≤ 1000) (h1 : u ≠ 34) (h2 : u ≠ 92) : B2 w (E4 i (some (.str t)) qq (sv1 u) S) = some (.next, E4 i (some (.str (t ++ one u))) qq (sv1 u) S) := by
  unfold B2
  exact e_seq (e_ite (eqT_q u S) (by rw [beq_eq_false_iff_ne.mpr h1]; exact e_seq (escT_no h2 S) rfl)) (e_seq (augT_at u S hz) rfl)
theorem t3_qS (C : Cur w i q text X) (t : Str) (u : Nat) (n : Int) (p : Nat) {qq : Option PV} (hu : text.cps[p]? = some u) (hz : t.length ≤ 1000) (h : u ≠ 10) : B2 w (E4 i (some (.str t)) qq (sv1 92) (X n p)) = some (.next, E4 i (some (.str (t ++ one u))) qq (sv1 u) (X n (p + 1))) := by
  unfold B2
  exact e_seq (e_ite (eqT_q 92 _) (e_seq (escT_yes C hu h) rfl)) (e_seq (augT_at u _ hz) rfl)
theorem t3_qE (t : PV) (S : List AO) {qq : Option PV} : B2 w (E4 i (some t) qq (sv1 34) S) = some (.ret t, E4 i (some t) qq (sv1 34) S) := by
  unfold B2
  exact e_stop (e_ite (eqT_q 34 S) (retT_at S))
theorem t3_pB (C : Cur w i q text X) (t : Str) (u : Nat) (n : Int) (p : Nat) {qq : Option PV} (hu : u < 128) (hz : t.length ≤ 1000) (h1 : isWs u = false) (h2 : u ≠ 92) : B3 w (E4 i (some (.str t)) qq (sv1 u) (X n p)) = some (.next, E4 i (some (.str (t ++ one u))) qq (sv1 u) (X n p)) := by
  unfold B3
  exact e_seq (e_ite (wsT_at C hu n p) (by rw [h1]; exact e_seq (escT_no h2 _) rfl)) (e_seq (augT_at u _ hz) rfl)
theorem t3_pE (C : Cur w i q text X) (t : PV) (u : Nat) (n : Int) (p : Nat) {qq : Option PV} (hu : u < 128) (h1 : isWs u = true) : B3 w (E4 i (some t) qq (sv1 u) (X n p)) = some (.ret t, E4 i (some t) qq (sv1 u) (X n p)) := by
  unfold B3
  exact e_stop (e_ite (wsT_at C hu n p) (by rw [h1]; exact retT_at _))
theorem t3_skip (C : Cur w i q text X) {t qq : Option PV} (u : Nat) (n : Int) (p : Nat) (hu : u < 128) (h1 : isWs u = true) : B1 w (E4 i t qq (sv1 u) (X n p)) = some (.cont, E4 i t qq (sv1 u) (X n p)) := by
  unfold B1
  exact e_stopc (e_ite (wsT_at C hu n p) (by rw [h1]; rfl))
theorem t3_loop (C : Cur w i q text X) {t c : Option PV} {n : Int} {p : Nat} {B : FM PF} {v : PV} {es : ES} (h : stepE 20 (NX w q) (setL 3) B (E4 i t (some (.ref q)) c (X n p)) = some (.ret v, es)) : loopT w B (E4 i t (some (.ref q)) c (X n p)) = some (.ret v, es) := by
  unfold loopT
  exact e_bind (y := .ref q) (es₁ := E4 i t (some (.ref q)) c (X n p)) rfl (Z9 (C.ci n p) h)
theorem t3_quote (C : Cur w i q text X) {t : Option PV} {n : Int} {p : Nat} {v : PV} {es : ES} (h : stepE 20 (NX w q) (setL 3) (B2 w) (E4 i t (some (.ref q)) (sv1 34) (X n p)) = some (.ret v, es)) : B1 w (E4 i t (some (.ref q)) (sv1 34) (X n p)) = some (.ret v, es) := by
  unfold B1
  exact e_seq (e_ite (wsT_at C (by decide) n p) rfl) (e_stop (e_ite (eqT_q 34 _) (e_stop (t3_loop C h))))
theorem t3_plain (C : Cur w i q text X) {t : Str} {u : Nat} {n : Int} {p : Nat} {v : PV} {es : ES} (hu : u < 128) (h1 : isWs u = false) (h2 : u ≠ 34) (h3 : u ≠ 92) (hz : t.length ≤ 1000) (h : stepE 20 (NX w q) (setL 3) (B3 w) (E4 i (some (.str (t ++ one u))) (some (.ref q)) (sv1 u) (X n p)) = some (.ret v, es)) : B1 w (E4 i (some (.str t)) (some (.ref q)) (sv1 u) (X n p)) = some (.ret v, es) := by
  unfold B1
  exact e_seq (e_ite (wsT_at C hu n p) (by rw [h1]; rfl)) (e_stop (e_ite (eqT_q u _) (by rw [beq_eq_false_iff_ne.mpr h2]; exact e_seq (escT_no h3 _) (e_seq (augT_at u _ hz) (e_stop (t3_loop C h))))))
end
section
variable {w : World} {st : List AO} {i k j r g : Nat} {n : Int} {j2 : Nat} {text : Str} {p : Nat}
theorem At.left : ∀ {p : Nat} {l l' : List Nat}, At text p (l ++ l') → At text p l
  | _, [], _, _ => trivial
  | _, _ :: _, _, h => ⟨h.1, At.left h.2⟩
theorem At.right : ∀ {p : Nat} {l l' : List Nat}, At text p (l ++ l') → At text (p + l.length) l'
  | _, [], _, h => h
  | p, _ :: l, _, h => by
    have := At.right (l := l) h.2
    rwa [Nat.add_right_comm] at this
theorem emp_app (l : List Nat) (u : Nat) : emS ++ one u ++ (⟨l.toArray⟩ : Str) = ⟨(u :: l).toArray⟩ := by rw [str_app_one, nil_app]
theorem token_plain (w : World) (L : Lex st i k j r g n j2 text p []) {l0 l : List Nat} {u v : Nat} (h : At text p (l0 ++ u :: (l ++ [v]))) (h0 : l0.all isWs = true) (hz0 : l0.length ≤ 10) (hu : u < 128) (h1 : isWs u = false) (h2 : u ≠ 34) (h3 : u ≠ 92)
    (ha : l.all (fun u => u < 128 && !isWs u && u != 92) = true) (hz : l.length ≤ 10) (hv : isWs v = true) (hv2 : v ≠ 10) :
    tokenR w [.ref i] st = some (.str ⟨(u :: l).toArray⟩, atQ st i k j g text (n + nls l0) (p + l0.length + 1 + l.length + 1) ++ [mAO i, cAO st.length]) := by
  have C := L.cur w
  obtain ⟨m, hm⟩ : ∃ m, 20 = m + 1 + l0.length := ⟨19 - l0.length, by omega⟩
  obtain ⟨m2, hm2⟩ : ∃ m, 20 = m + l.length + 1 := ⟨19 - l.length, by omega⟩
  have hr := At.right h
  obtain ⟨c', e⟩ := loop_ws C (t := some (.str emS)) (B := B1 w) (fun u n p a b => t3_skip C u n p a b) l0 (m + 1) n p none (At.left h) h0
  rw [← hm] at e
  have hn : u ≠ 10 := by rintro rfl; exact absurd h1 (by decide)
  have hq := loop_plain C (B := B3 w) (fun t u n p a b c d => t3_pB C t u n p a b c d) (fun t u n p a b => t3_pE C (.str t) u n p a b) l v m2 (n + nls l0) (p + l0.length + 1) (emS ++ one u) (sv1 u) hr.2 ha hv hv2 (by rw [nil_app]; show 1 + _ ≤ _; omega)
  rw [← hm2, emp_app] at hq
  have hz1 : emS.length ≤ 1000 := by decide +kernel
  have hb := t3_plain C (t := emS) hu h1 h2 h3 hz1 hq
  refine tok_loop w C L.lx L.pb rfl (n0 := n) (p0 := p) (es := E4 i (some (.str ⟨(u :: l).toArray⟩)) (some (.ref (st.length + 1))) (sv1 v) (atQ st i k j g text (n + nls l0) (p + l0.length + 1 + l.length + 1) ++ [mAO i, cAO st.length])) (by rw [L.at_same]) (e.trans (step_in (C.nx _ _ u hr.1) rfl (fl := .ret (.str ⟨(u :: l).toArray⟩)) ?_ rfl)) (.inl rfl)
  rw [if_neg hn]
  exact hb
theorem token_quoted (w : World) (L : Lex st i k j r g n j2 text p []) {us : List (Bool × Nat)} (h : At text p (34 :: (enc us ++ [34])))
    (ha : us.all (fun x => x.2 < 128 && x.2 != 10 && (x.1 || (x.2 != 34 && x.2 != 92))) = true) (hz : us.length ≤ 10) :
    tokenR w [.ref i] st = some (.str ⟨(us.map (·.2)).toArray⟩, atQ st i k j g text n (p + 1 + (enc us).length + 1) ++ [mAO i, cAO st.length]) := by
  have C := L.cur w
  obtain ⟨m2, hm2⟩ : ∃ m, 20 = m + us.length + 1 := ⟨19 - us.length, by omega⟩
  have hq := loop_quote C (B := B2 w) (fun t u n p a b c d => t3_qB t u _ b c d) (fun t u n p a b c => t3_qS C t u n p a b c) (fun t n p => t3_qE (.str t) _) us m2 n (p + 1) emS (sv1 34) h.2 ha (by rw [show emS.length = 0 by decide +kernel]; omega)
  rw [← hm2, nil_app] at hq
  refine tok_loop w C L.lx L.pb rfl (n0 := n) (p0 := p) (es := E4 i (some (.str ⟨(us.map (·.2)).toArray⟩)) (some (.ref (st.length + 1))) (sv1 34) (atQ st i k j g text n (p + 1 + (enc us).length + 1) ++ [mAO i, cAO st.length])) (by rw [L.at_same]) (step_in (n := 19) (C.nx _ _ 34 h.1) rfl (fl := .ret (.str ⟨(us.map (·.2)).toArray⟩)) ?_ rfl) (.inl rfl)
  exact t3_quote C hq
theorem next_end (w : World) (L : Lex st i k j r g n j2 text p []) {n' : Int} {p' : Nat} (hp : p' = text.cps.size) :
    nextC 143 (readR w) (.ref (st.length + 1)) (atQ st i k j g text n' p' ++ [mAO i, cAO st.length]) = some (none, atQ st i k j g text n' p' ++ [mAO i, .cdone]) := by
  have hm := Yi (atQ st i k j g text n' p') [mAO i, cAO st.length] 0
  have hq := Yi (atQ st i k j g text n' p') [mAO i, cAO st.length] 1
  have hs := set_app (atQ st i k j g text n' p') [mAO i, cAO st.length] 1 .cdone
  rw [atQ_len] at hm hq hs
  have hr := read_end w (L.go n' p' [mAO i, cAO st.length]) hp
  have hm : (atQ st i k j g text n' p' ++ [mAO i, cAO st.length])[st.length]? = some (mAO i) := hm
  have := nextC_of (G := readR w) hq hm hr hq hm rfl
  rw [if_pos (by decide +kernel), hs] at this
  exact this
theorem token_end (w : World) (L : Lex st i k j r g n j2 text p []) {l0 : List Nat} (h : At text p l0) (h0 : l0.all isWs = true) (hz0 : l0.length ≤ 10) (hp : p + l0.length = text.cps.size) :
    tokenR w [.ref i] st = some (.str emS, atQ st i k j g text (n + nls l0) (p + l0.length) ++ [mAO i, .cdone]) := by
  have C := L.cur w
  obtain ⟨m, hm⟩ : ∃ m, 20 = m + 1 + l0.length := ⟨19 - l0.length, by omega⟩
  obtain ⟨c', e⟩ := loop_ws C (t := some (.str emS)) (B := B1 w) (fun u n p a b => t3_skip C u n p a b) l0 (m + 1) n p none h h0
  rw [← hm] at e
  refine tok_loop w C L.lx L.pb rfl (n0 := n) (p0 := p) (by rw [L.at_same]) (r := .next) (es := E4 i (some (.str emS)) (some (.ref (st.length + 1))) c' (atQ st i k j g text (n + nls l0) (p + l0.length) ++ [mAO i, .cdone])) (e.trans ?_) (.inr ⟨rfl, rfl⟩)
  refine e_bind (y := none) (es₁ := E4 i (some (.str emS)) (some (.ref (st.length + 1))) c' (atQ st i k j g text (n + nls l0) (p + l0.length) ++ [mAO i, .cdone])) ?_ rfl
  unfold liftS
  rw [show (E4 i (some (.str emS)) (some (.ref (st.length + 1))) c' (atQ st i k j g text (n + nls l0) (p + l0.length) ++ [mAO i, cAO st.length])).st = atQ st i k j g text (n + nls l0) (p + l0.length) ++ [mAO i, cAO st.length] from rfl, next_end w L hp (n' := n + nls l0)]
end
noncomputable def cd118 : ClassData := { name := Str.ofString "_Accumulator", bases := [.type "list"], mro := [.ref 118, .type "list", .type "object"], ns := 117, qualname := Str.ofString "_Accumulator", hasDict := true, slotNames := [], subclasses := [], abstract := false, collection := none, hasDel := false }
theorem cls118 (w : World) : clsIn (C2 w).K 118 = some cd118 := by kernel_rfl
theorem lmakes118 (w : World) : LMakes (C2 w).K 118 cd118 :=
  { cls := cls118 w, abs := rfl, del := rfl, mro := ⟨_, rfl⟩, made := fun M h X => Looks.of_peek X (by kernel_rfl), base := fun M h X => Looks.of_peek X (by kernel_rfl), call := by kernel_rfl, typ := by kernel_rfl }
theorem sup_ok (w : World) {fa cda L : Nat} {fd : FuncData} {ln : List Str} {f : FI} (hf : f = ⟨callEnv fd L fa, ln, []⟩) (h1 : fd.scope.names.lookup ("super" : Str) = some .globalImplicit) (h2 : fd.scope.names.lookup ("__class__" : Str) = some .free)
    (h3 : fd.closure = [(Str.ofString "__class__", 42)]) (h4 : fd.code = .ref cda) (h5 : ∃ oc od osl ar, P3 ((C2 w).K.lookup fa = some ⟨oc, od, .func fd, osl⟩) ((fd.params.posonlyargs ++ fd.params.args).head? = some ar) (ar.arg = Str.ofString "self"))
    (h6 : ∃ oc od vs osl file tf, P3 ((C2 w).K.lookup cda = some ⟨oc, od, .fields vs, osl⟩) (vs[2]? = some (.str file tf)) ((((C2 w).prog.main.file : Str) == file) = true)) : SupOk (C2 w) f 118 42 cda fa (Str.ofString "self") cd118 := by
  subst hf
  obtain ⟨oc, od, osl, ar, a, b, d⟩ := h5
  exact ⟨h1, h2, (by show fd.closure.lookup _ = _; rw [h3]; rfl), rfl, h4, ⟨oc, od, fd, osl, ar, a, b, d⟩, ⟨_, _, _, rfl⟩, h6, by kernel_rfl, by kernel_rfl, by kernel_rfl, by kernel_rfl, cls118 w, rfl⟩
noncomputable abbrev ln_count : List Str := [Str.ofString "self"]
theorem loc_count : ∀ x ∈ ln_count, (defS (at2 P2 4 8)).names.lookup x = some .local := by decide +kernel
theorem nd_count : ln_count.Nodup := by decide +kernel
noncomputable def b_count : { b : List Stmt // defB (at2 P2 4 8) = b } := ⟨[_], rfl⟩
noncomputable def s_count (w : World) : { F : FM PF // ∀ L, DenX (C2 w) 1 ⟨callEnv fd115 L 115, ln_count, []⟩ (defB (at2 P2 4 8)) RFl (execs (defB (at2 P2 4 8)) (callEnv fd115 L 115)) F } := ⟨_, fun L => by
  have ok : FI.Ok ⟨callEnv fd115 L 115, ln_count, []⟩ := ok_call (fd := fd115) rfl rfl rfl loc_count nd_count
  rw [b_count.2]
  exact by
    have X0 : SupOk (C2 w) ⟨callEnv fd115 L 115, ln_count, []⟩ 118 42 114 115 (Str.ofString "self") cd118 := sup_ok w rfl (by kernel_rfl) (by kernel_rfl) rfl rfl ⟨_, _, _, _, rfl, rfl, rfl⟩ ⟨_, _, _, _, _, _, rfl, rfl, by kernel_rfl⟩
    exact (denx_cons (denx_return (denx_super (i := 0) (C := 118) (cc := 42) (cda := 114) (fa := 115) (self := Str.ofString "self") ok X0 rfl (op_llen (C := 118)) binds_len (.inr rfl) (by kernel_rfl) (by decide +kernel) (fun as => Code.quiet_builtin _ (by decide +kernel)) (fun A s x X h => bound_len))) (Den.x Zg))⟩
theorem r_count (w : World) : FunK (C2 w) 2 (.ref 115) 1 [] (runK 1 [] [some 0] [] (s_count w).1) := fun_defX (names := [Str.ofString "self"]) (dvs := []) ⟨⟨_, _, _, rfl⟩, by kernel_rfl, rfl, rfl, rfl, rfl⟩ (by decide +kernel) (by decide +kernel) (by decide +kernel) (by decide +kernel) (by decide +kernel) (fun _ _ => .nil) rfl (fun s vs h X => by
  obtain ⟨v0, rfl⟩ := ln1 h
  exact BindsTo.of_eq (by kernel_rfl)) (s_count w).2
noncomputable def countR (w : World) : List PV → SM PV := runK 1 [] [some 0] [] (s_count w).1
theorem k_count (w : World) : FunK (C2 w) 2 (.ref 115) 1 [] (countR w) := r_count w
noncomputable abbrev ln_ppop : List Str := [Str.ofString "self"]
theorem loc_ppop : ∀ x ∈ ln_ppop, (defS (at2 P2 4 3)).names.lookup x = some .local := by decide +kernel
theorem nd_ppop : ln_ppop.Nodup := by decide +kernel
noncomputable def b_ppop : { b : List Stmt // defB (at2 P2 4 3) = b } := ⟨[_, _], rfl⟩
noncomputable def s_ppop (w : World) : { F : FM PF // ∀ L, DenX (C2 w) 2 ⟨callEnv fd78 L 78, ln_ppop, []⟩ (defB (at2 P2 4 3)) RFl (execs (defB (at2 P2 4 3)) (callEnv fd78 L 78)) F } := ⟨_, fun L => by
  have ok : FI.Ok ⟨callEnv fd78 L 78, ln_ppop, []⟩ := ok_call (fd := fd78) rfl rfl rfl loc_ppop nd_ppop
  rw [b_ppop.2]
  exact by
    have X0 : SupOk (C2 w) ⟨callEnv fd78 L 78, ln_ppop, []⟩ 118 42 77 78 (Str.ofString "self") cd118 := sup_ok w rfl (by kernel_rfl) (by kernel_rfl) rfl rfl ⟨_, _, _, _, rfl, rfl, rfl⟩ ⟨_, _, _, _, _, _, rfl, rfl, by kernel_rfl⟩
    exact (denx_cons (Den.x (den_if (Zm (Zl (Za (i := 0) ok rfl) (meth_linst (C := 118) (fv := .ref 115) (ty := "function") (by kernel_rfl)) (Zk (a := 115) (by kernel_rfl)) Ze ((k_count w).ok.weak (by decide))) Zj op_eqG) (Zb (Zs (Yl (Zc Zv (Zc Zv Ze)))) Zg) Zg)) (denx_cons (denx_return (denx_super (i := 0) (C := 118) (cc := 42) (cda := 77) (fa := 78) (self := Str.ofString "self") ok X0 rfl (op_lpop (C := 118)) binds_pop (.inl rfl) (by kernel_rfl) (by decide +kernel) (fun as => Code.quiet_builtin _ (by decide +kernel)) (fun A s x X h => by
      obtain ⟨d, vs, m, h⟩ := h
      exact bound_pop (C := 118) (cd := cd118) rfl X h rfl rfl (cls118 w) (by kernel_rfl) (by kernel_rfl)))) (Den.x Zg)))⟩
theorem r_ppop (w : World) : FunK (C2 w) 3 (.ref 78) 1 [] (runK 1 [] [some 0] [] (s_ppop w).1) := fun_defX (names := [Str.ofString "self"]) (dvs := []) ⟨⟨_, _, _, rfl⟩, by kernel_rfl, rfl, rfl, rfl, rfl⟩ (by decide +kernel) (by decide +kernel) (by decide +kernel) (by decide +kernel) (by decide +kernel) (fun _ _ => .nil) rfl (fun s vs h X => by
  obtain ⟨v0, rfl⟩ := ln1 h
  exact BindsTo.of_eq (by kernel_rfl)) (s_ppop w).2
noncomputable abbrev ln_init118 : List Str := [Str.ofString "self", Str.ofString "initial_size"]
theorem loc_init118 : ∀ x ∈ ln_init118, (defS (at2 P2 4 0)).names.lookup x = some .local := by decide +kernel
theorem nd_init118 : ln_init118.Nodup := by decide +kernel
noncomputable def b_init118 : { b : List Stmt // defB (at2 P2 4 0) = b } := ⟨[_, _], rfl⟩
noncomputable def s_init118 (w : World) : { F : FM PF // ∀ L, DenX (C2 w) 1 ⟨callEnv fd55 L 55, ln_init118, []⟩ (defB (at2 P2 4 0)) RFl (execs (defB (at2 P2 4 0)) (callEnv fd55 L 55)) F } := ⟨_, fun L => by
  have ok : FI.Ok ⟨callEnv fd55 L 55, ln_init118, []⟩ := ok_call (fd := fd55) rfl rfl rfl loc_init118 nd_init118
  rw [b_init118.2]
  exact by
    have X0 : SupOk (C2 w) ⟨callEnv fd55 L 55, ln_init118, []⟩ 118 42 54 55 (Str.ofString "self") cd118 := sup_ok w rfl (by kernel_rfl) (by kernel_rfl) rfl rfl ⟨_, _, _, _, rfl, rfl, rfl⟩ ⟨_, _, _, _, _, _, rfl, rfl, by kernel_rfl⟩
    exact (denx_cons (Den.x (Zh (Za (i := 1) ok rfl) (dena_lst (Za (i := 0) ok rfl) (lst_ok w)))) (denx_cons (denx_expr (denx_super (i := 0) (C := 118) (cc := 42) (cda := 54) (fa := 55) (self := Str.ofString "self") ok X0 rfl (op_linit (C := 118)) binds_init (.inr rfl) (by kernel_rfl) (by decide +kernel) (fun as => Code.quiet_builtin _ (by decide +kernel)) (fun A s x X h => bound_init)) (by kernel_rfl)) (Den.x Zg)))⟩
theorem r_init118 (w : World) : FunK (C2 w) 2 (.ref 55) 2 [] (runK 2 [] [some 0, some 1] [] (s_init118 w).1) := fun_defX (names := [Str.ofString "self", Str.ofString "initial_size"]) (dvs := []) ⟨⟨_, _, _, rfl⟩, by kernel_rfl, rfl, rfl, rfl, rfl⟩ (by decide +kernel) (by decide +kernel) (by decide +kernel) (by decide +kernel) (by decide +kernel) (fun _ _ => .nil) rfl (fun s vs h X => by
  obtain ⟨v0, v1, rfl⟩ := ln2 h
  exact BindsTo.of_defaults (T := 47) rfl (X _ _ rfl) rfl (by rfl) (by rfl)) (s_init118 w).2
noncomputable abbrev ln_ppush : List Str := [Str.ofString "self", Str.ofString "fws", Str.ofString "string"]
noncomputable abbrev cn_ppush : List (Str × Nat) := []
theorem loc_ppush : ∀ x ∈ ln_ppush, (defS (at2 P2 4 1)).names.lookup x = some .local := by decide +kernel
theorem nd_ppush : ln_ppush.Nodup := by decide +kernel
noncomputable def b_ppush : { b : List Stmt // defB (at2 P2 4 1) = b } := ⟨[_], rfl⟩
noncomputable def s_ppush (w : World) : { F : FM PF // ∀ L, Den (C2 w) 1 (FI.fn fd62 62 ln_ppush cn_ppush L) RFl (execs (defB (at2 P2 4 1)) (callEnvC fd62 L 62)) F } := ⟨_, fun L => by
  have ok : FI.Ok (FI.fn fd62 62 ln_ppush cn_ppush L) := ok_fn (fd := fd62) rfl rfl rfl loc_ppush nd_ppush
  rw [b_ppush.2]
  exact (Zb (Yo (Zl (Za (i := 0) ok rfl) (meth_linst (C := 118) (fv := .builtin "list.append") (ty := "method_descriptor") (by kernel_rfl)) Zi (Zc (Yl (Zc (Za (i := 1) ok rfl) (Zc (Za (i := 2) ok rfl) Ze))) Ze) (op_lappend (C := 118) (by kernel_rfl))) (by kernel_rfl)) Zg)⟩
theorem x_ppush (w : World) : DefK (C2 w).K 62 fd62 (defB (at2 P2 4 1)) [Str.ofString "self", Str.ofString "fws", Str.ofString "string"] ln_ppush cn_ppush := ⟨⟨⟨_, _, _, rfl⟩, by kernel_rfl, rfl, rfl, rfl, rfl⟩, rfl, fun L => rfl, by decide +kernel, by decide +kernel, by decide +kernel, loc_ppush, by decide +kernel⟩
theorem r_ppush (w : World) : FunK (C2 w) 2 (.ref 62) 3 [] (runK (3 + 0) [] [some 0, some 1, some 2] [] (s_ppush w).1) := Yc (x_ppush w) (dvs := []) (fun _ _ => .nil) rfl (by decide +kernel) (by decide +kernel) (fun s vs ws h1 h2 X => by
  obtain ⟨v0, v1, v2, rfl⟩ := ln3 h1
  obtain rfl := ln0 h2
  exact BindsTo.of_eq (by kernel_rfl)) (s_ppush w).2
noncomputable abbrev ln_init308 : List Str := [Str.ofString "self", Str.ofString "headers", Str.ofString "k", Str.ofString "v"]
noncomputable abbrev cn_init308 : List (Str × Nat) := []
theorem loc_init308 : ∀ x ∈ ln_init308, (defS (at2 P2 12 0)).names.lookup x = some .local := by decide +kernel
theorem nd_init308 : ln_init308.Nodup := by decide +kernel
noncomputable def b_init308 : { b : List Stmt // defB (at2 P2 12 0) = b } := ⟨[_, _, _, _], rfl⟩
noncomputable def s_init308 (w : World) : { F : FM PF // ∀ L, Den (C2 w) 1 (FI.fn fd202 202 ln_init308 cn_init308 L) RFl (execs (defB (at2 P2 12 0)) (callEnvC fd202 L 202)) F } := ⟨_, fun L => by
  have ok : FI.Ok (FI.fn fd202 202 ln_init308 cn_init308 L) := ok_fn (fd := fd202) rfl rfl rfl loc_init308 nd_init308
  rw [b_init308.2]
  exact (Zb (Zh (den_ifexp (Zm (Za (i := 1) ok rfl) den_none op_isNotNone) (Za (i := 1) ok rfl) (Yj Ze)) (Zf (i := 1) ok rfl)) (Zb (den_if (Zm (Zt (Zo ok (by kernel_rfl) (gn_type w) (bn_type w)) Z3 (Zc (Za (i := 1) ok rfl) Ze) op_typeL) (Zo ok (by kernel_rfl) (gn_list w) (bn_list w)) op_isNotT) (Zb den_never Zg) Zg) (Zb (Zh (Za (i := 1) ok rfl) (dena_attr (Za (i := 0) ok rfl))) (Zb (den_if (dent_value den_bool) (Zb (den_for (denit_v (Za (i := 1) ok rfl)) (dena_tuple (Z7 (Zf (i := 2) ok rfl) (Z7 (Zf (i := 3) ok rfl) denas_nil))) (Zb den_never (Zb den_never Zg))) Zg) Zg) Zg))))⟩
theorem x_init308 (w : World) : DefK (C2 w).K 202 fd202 (defB (at2 P2 12 0)) [Str.ofString "self", Str.ofString "headers"] ln_init308 cn_init308 := ⟨⟨⟨_, _, _, rfl⟩, by kernel_rfl, rfl, rfl, rfl, rfl⟩, rfl, fun L => rfl, by decide +kernel, by decide +kernel, by decide +kernel, loc_init308, by decide +kernel⟩
theorem r_init308 (w : World) : FunK (C2 w) 2 (.ref 202) 2 [] (runK (2 + 0) [] [some 0, some 1, none, none] [] (s_init308 w).1) := Yc (x_init308 w) (dvs := []) (fun _ _ => .nil) rfl (by decide +kernel) (by decide +kernel) (fun s vs ws h1 h2 X => by
  obtain ⟨v0, v1, rfl⟩ := ln2 h1
  obtain rfl := ln0 h2
  exact BindsTo.of_defaults (T := 195) rfl (X _ _ rfl) rfl (by rfl) (by rfl)) (s_init308 w).2
noncomputable abbrev ln_getall : List Str := [Str.ofString "self"]
noncomputable abbrev cn_getall : List (Str × Nat) := [(Str.ofString "name", 1)]
theorem loc_getall : ∀ x ∈ ln_getall, (defS (at2 P2 12 7)).names.lookup x = some .local := by decide +kernel
theorem nd_getall : ln_getall.Nodup := by decide +kernel
noncomputable def b_getall : { b : List Stmt // defB (at2 P2 12 7) = b } := ⟨[_, _], rfl⟩
noncomputable def s_getall (w : World) : { F : FM PF // ∀ L, Den (C2 w) 2 (FI.fn fd247 247 ln_getall cn_getall L) RFl (execs (defB (at2 P2 12 7)) (callEnvC fd247 L 247)) F } := ⟨_, fun L => by
  have ok : FI.Ok (FI.fn fd247 247 ln_getall cn_getall L) := ok_fn (fd := fd247) rfl rfl rfl loc_getall nd_getall
  rw [b_getall.2]
  exact (Zb (Zh (den_method_kw (Za (i := 0) ok rfl) (Z8 (C := 308) (fa := 209) (by kernel_rfl)) (Zk (a := 209) (by kernel_rfl)) (Zc (Zl (Yh (i := 0) ok rfl (by kernel_rfl) (.inl (by kernel_rfl))) (meth_str F.slot_str_lower F.type_str_lower) Zi Ze op_lower) Ze) den_bool ((k_conv w).weak (by decide))) (dena_cell (i := 0) ok rfl (by kernel_rfl) (by kernel_rfl))) (Zb (Zs (den_listcomp (cl := [(Str.ofString "name", L + 1)]) ⟨by kernel_rfl, by decide +kernel, rfl, by decide +kernel⟩ rfl rfl (denc_one (cl := [(Str.ofString "name", L + 1)]) (ln := [Str.ofString "kv"]) ⟨by kernel_rfl, by decide +kernel, rfl, by decide +kernel⟩ (denit_v (den_attr (Za (i := 0) ok rfl))) (fun C => (Zf (i := 0) (Zx ok rfl (Zn (by kernel_rfl) Zy) (by decide +kernel)) rfl)) (fun C => (dents_one (Zm (Zl (Zu (Za (i := 0) (Zx ok rfl (Zn (by kernel_rfl) Zy) (by decide +kernel)) rfl) Zj) (meth_str F.slot_str_lower F.type_str_lower) Zi Ze op_lower) (Yh (i := 0) (Zx ok rfl (Zn (by kernel_rfl) Zy) (by decide +kernel)) rfl (by kernel_rfl) (.inl (by kernel_rfl))) op_eqG))) (fun C => (Zu (Za (i := 0) (Zx ok rfl (Zn (by kernel_rfl) Zy) (by decide +kernel)) rfl) Zj))))) Zg))⟩
theorem x_getall (w : World) : DefK (C2 w).K 247 fd247 (defB (at2 P2 12 7)) [Str.ofString "self", Str.ofString "name"] ln_getall cn_getall := ⟨⟨⟨_, _, _, rfl⟩, by kernel_rfl, rfl, rfl, rfl, rfl⟩, rfl, fun L => rfl, by decide +kernel, by decide +kernel, by decide +kernel, loc_getall, by decide +kernel⟩
theorem r_getall (w : World) : FunK (C2 w) 3 (.ref 247) 2 [] (runK (2 + 0) [] [some 0] [some 1] (s_getall w).1) := Yc (x_getall w) (dvs := []) (fun _ _ => .nil) rfl (by decide +kernel) (by decide +kernel) (fun s vs ws h1 h2 X => by
  obtain ⟨v0, v1, rfl⟩ := ln2 h1
  obtain rfl := ln0 h2
  exact BindsTo.of_eq (by kernel_rfl)) (s_getall w).2
noncomputable abbrev ln_hstr : List Str := [Str.ofString "self"]
noncomputable abbrev cn_hstr : List (Str × Nat) := []
theorem loc_hstr : ∀ x ∈ ln_hstr, (defS (at2 P2 12 13)).names.lookup x = some .local := by decide +kernel
theorem nd_hstr : ln_hstr.Nodup := by decide +kernel
noncomputable def b_hstr : { b : List Stmt // defB (at2 P2 12 13) = b } := ⟨[_], rfl⟩
noncomputable def s_hstr (w : World) : { F : FM PF // ∀ L, Den (C2 w) 1 (FI.fn fd284 284 ln_hstr cn_hstr L) RFl (execs (defB (at2 P2 12 13)) (callEnvC fd284 L 284)) F } := ⟨_, fun L => by
  have ok : FI.Ok (FI.fn fd284 284 ln_hstr cn_hstr L) := ok_fn (fd := fd284) rfl rfl rfl loc_hstr nd_hstr
  rw [b_hstr.2]
  exact (Zb (Zs (Zl Zv (meth_str F.slot_str_join F.type_str_join) Zi (Zc (Zp (den_listcomp (cl := []) ⟨by kernel_rfl, by decide +kernel, rfl, by decide +kernel⟩ rfl rfl (denc_one (cl := []) (ln := [Str.ofString "kv"]) ⟨by kernel_rfl, by decide +kernel, rfl, by decide +kernel⟩ (denit_v (den_attr (Za (i := 0) ok rfl))) (fun C => (Zf (i := 0) (Zx ok rfl (Zn (by kernel_rfl) Zy) (by decide +kernel)) rfl)) (fun C => dents_nil) (fun C => (Zp Zv (Za (i := 0) (Zx ok rfl (Zn (by kernel_rfl) Zy) (by decide +kernel)) rfl) (op_fmt (l1 := [58, 32]) (l2 := [])))))) (den_list (Zc Zv (Zc Zv Ze))) op_addG) Ze) op_join)) Zg)⟩
theorem x_hstr (w : World) : DefK (C2 w).K 284 fd284 (defB (at2 P2 12 13)) [Str.ofString "self"] ln_hstr cn_hstr := ⟨⟨⟨_, _, _, rfl⟩, by kernel_rfl, rfl, rfl, rfl, rfl⟩, rfl, fun L => rfl, by decide +kernel, by decide +kernel, by decide +kernel, loc_hstr, by decide +kernel⟩
theorem r_hstr (w : World) : FunK (C2 w) 2 (.ref 284) 1 [] (runK (1 + 0) [] [some 0] [] (s_hstr w).1) := Yc (x_hstr w) (dvs := []) (fun _ _ => .nil) rfl (by decide +kernel) (by decide +kernel) (fun s vs ws h1 h2 X => by
  obtain ⟨v0, rfl⟩ := ln1 h1
  obtain rfl := ln0 h2
  exact BindsTo.of_eq (by kernel_rfl)) (s_hstr w).2
noncomputable abbrev ln_fpar : List Str := [Str.ofString "param", Str.ofString "value", Str.ofString "quote"]
noncomputable abbrev cn_fpar : List (Str × Nat) := []
theorem loc_fpar : ∀ x ∈ ln_fpar, (defS (at1 P2 11)).names.lookup x = some .local := by decide +kernel
theorem nd_fpar : ln_fpar.Nodup := by decide +kernel
noncomputable def b_fpar : { b : List Stmt // defB (at1 P2 11) = b } := ⟨[_], rfl⟩
noncomputable def s_fpar (w : World) : { F : FM PF // ∀ L, Den (C2 w) 1 (FI.fn fd187 187 ln_fpar cn_fpar L) RFl (execs (defB (at1 P2 11)) (callEnvC fd187 L 187)) F } := ⟨_, fun L => by
  have ok : FI.Ok (FI.fn fd187 187 ln_fpar cn_fpar L) := ok_fn (fd := fd187) rfl rfl rfl loc_fpar nd_fpar
  rw [b_fpar.2]
  exact (Zb (den_if_tp (dentp_and (Zm (Za (i := 1) ok rfl) den_none op_isNotNone) (dentp_compare (Zt (Zo ok (by kernel_rfl) (gn_len w) (bn_len w)) Zi (Zc (Za (i := 1) ok rfl) Ze) op_lenS) op_gtI)) (denz_cons (denz_if (Den.z (dent_boolop (dent_or_cons (dent_value (Za (i := 2) ok rfl)) (dent_or_cons den_never dent_all_nil)))) (denz_cons (denz_assign (denz_replace (denz_replace (Den.z (Za (i := 1) ok rfl)))) (Zf (i := 1) ok rfl)) (Den.z (Zb (Zs (den_fstr (Za (i := 0) ok rfl) (Za (i := 1) ok rfl))) Zg))) (Den.z (Zb den_never Zg))) (Den.z Zg)) (Zb (Zs (Za (i := 0) ok rfl)) Zg)) Zg)⟩
theorem x_fpar (w : World) : DefK (C2 w).K 187 fd187 (defB (at1 P2 11)) [Str.ofString "param", Str.ofString "value", Str.ofString "quote"] ln_fpar cn_fpar := ⟨⟨⟨_, _, _, rfl⟩, by kernel_rfl, rfl, rfl, rfl, rfl⟩, rfl, fun L => rfl, by decide +kernel, by decide +kernel, by decide +kernel, loc_fpar, by decide +kernel⟩
theorem r_fpar (w : World) : FunK (C2 w) 2 (.ref 187) 2 [] (runK (2 + 0) [.int 1] [some 0, some 1, some 2] [] (s_fpar w).1) := Yc (x_fpar w) (dvs := [.int 1 544]) (fun _ _ => .cons (.int _ _) .nil) rfl (by decide +kernel) (by decide +kernel) (fun s vs ws h1 h2 X => by
  obtain ⟨v0, v1, rfl⟩ := ln2 h1
  obtain rfl := ln0 h2
  exact BindsTo.of_defaults (T := 180) rfl (X _ _ rfl) rfl (by rfl) (by rfl)) (s_fpar w).2
noncomputable def fparR (w : World) : List PV → SM PV := runK (2 + 0) [.int 1] [some 0, some 1, some 2] [] (s_fpar w).1
theorem k_fpar (w : World) : FunK (C2 w) 2 (.ref 187) 2 [] (fparR w) := r_fpar w
noncomputable abbrev ln_addh : List Str := [Str.ofString "self", Str.ofString "_name", Str.ofString "_value", Str.ofString "_params", Str.ofString "parts", Str.ofString "k", Str.ofString "v"]
theorem loc_addh : ∀ x ∈ ln_addh, (defS (at2 P2 12 16)).names.lookup x = some .local := by decide +kernel
theorem nd_addh : ln_addh.Nodup := by decide +kernel
noncomputable def b_addh : { b : List Stmt // defB (at2 P2 12 16) = b } := ⟨[_, _, _, _], rfl⟩
noncomputable def s_addh (w : World) : { F : FM PF // ∀ L, Den (C2 w) 2 ⟨callEnv fd305 L 305, ln_addh, []⟩ RFl (execs (defB (at2 P2 12 16)) (callEnv fd305 L 305)) F } := ⟨_, fun L => by
  have ok : FI.Ok ⟨callEnv fd305 L 305, ln_addh, []⟩ := ok_call (fd := fd305) rfl rfl rfl loc_addh nd_addh
  rw [b_addh.2]
  exact (Zb (Zh (Yj Ze) (Zf (i := 4) ok rfl)) (Zb (den_if (Zm (Za (i := 2) ok rfl) den_none op_isNotNone) (Zb (Zh (den_method_kw (Za (i := 0) ok rfl) (Z8 (C := 308) (fa := 209) (by kernel_rfl)) (Zk (a := 209) (by kernel_rfl)) (Zc (Za (i := 2) ok rfl) Ze) den_bool ((k_conv w).weak (by decide))) (Zf (i := 2) ok rfl)) (Zb (Yo (Zl (Za (i := 4) ok rfl) (Yx F.slot_list_append F.type_list_append) Zi (Zc (Za (i := 2) ok rfl) Ze) op_append) (by kernel_rfl)) Zg)) Zg) (Zb (den_for (denit_items (i := 3) ok rfl (sysm w)) (dena_tuple (Z7 (Zf (i := 5) ok rfl) (Z7 (Zf (i := 6) ok rfl) denas_nil))) (Zb (Zh (den_method_kw (Za (i := 0) ok rfl) (Z8 (C := 308) (fa := 209) (by kernel_rfl)) (Zk (a := 209) (by kernel_rfl)) (Zc (Za (i := 5) ok rfl) Ze) den_bool ((k_conv w).weak (by decide))) (Zf (i := 5) ok rfl)) (Zb (den_if (Zm (Za (i := 6) ok rfl) den_none op_isNone) (Zb (Yo (Zl (Za (i := 4) ok rfl) (Yx F.slot_list_append F.type_list_append) Zi (Zc (Zl (Za (i := 5) ok rfl) (meth_str F.slot_str_replace F.type_str_replace) Zi (Zc Zv (Zc Zv Ze)) op_replN) Ze) op_append) (by kernel_rfl)) Zg) (Zb (Zh (den_method_kw (Za (i := 0) ok rfl) (Z8 (C := 308) (fa := 209) (by kernel_rfl)) (Zk (a := 209) (by kernel_rfl)) (Zc (Za (i := 6) ok rfl) Ze) den_bool ((k_conv w).weak (by decide))) (Zf (i := 6) ok rfl)) (Zb (Yo (Zl (Za (i := 4) ok rfl) (Yx F.slot_list_append F.type_list_append) Zi (Zc (Zt (Zz ok (by kernel_rfl) (gn__formatparam w)) (Zk (a := 187) (by kernel_rfl)) (Zc (Zl (Za (i := 5) ok rfl) (meth_str F.slot_str_replace F.type_str_replace) Zi (Zc Zv (Zc Zv Ze)) op_replN) (Zc (Za (i := 6) ok rfl) Ze)) ((k_fpar w).ok.weak (by decide))) Ze) op_append) (by kernel_rfl)) Zg))) Zg))) (Zb (Yo (Zl (den_attr (Za (i := 0) ok rfl)) (Yx F.slot_list_append F.type_list_append) Zi (Zc (Yl (Zc (den_method_kw (Za (i := 0) ok rfl) (Z8 (C := 308) (fa := 209) (by kernel_rfl)) (Zk (a := 209) (by kernel_rfl)) (Zc (Za (i := 1) ok rfl) Ze) den_bool ((k_conv w).weak (by decide))) (Zc (Zl Zv (meth_str F.slot_str_join F.type_str_join) Zi (Zc (Za (i := 4) ok rfl) Ze) op_join) Ze))) Ze) op_append) (by kernel_rfl)) Zg))))⟩
noncomputable abbrev nmH : List Str := [Str.ofString "self", Str.ofString "_name", Str.ofString "_value", Str.ofString "_params"]
theorem bind_addh0 (a b d : Value) : bindArgs fd305 ⟨[a, b, d], []⟩ = (alloc { cls := .type "dict", data := .dict #[] } >>= fun x => pure (nmH.zip ([a, b, d] ++ [.ref x]))) := by kernel_rfl
theorem bind_addh1 (a b d v : Value) : bindArgs fd305 ⟨[a, b, d], [(Str.ofString "k", v)]⟩ = (alloc { cls := .type "dict", data := .dict #[] } >>= fun x => forIn [(Str.ofString "k", v)] PUnit.unit (fun (p : Str × Value) (_ : PUnit) => match p with | (k, v) => (do nsSet x k v; pure (ForInStep.yield PUnit.unit))) >>= fun _ => pure (nmH.zip ([a, b, d] ++ [.ref x]))) := by kernel_rfl
theorem r_addh0 (w : World) : FunK (C2 w) 3 (.ref 305) 3 [] (runD 3 [] (hashStr w) [some 0, some 1, some 2, some 3, none, none, none] (s_addh w).1) :=
  fun_defD (names := nmH) ⟨⟨_, _, _, rfl⟩, by kernel_rfl, rfl, rfl, rfl, rfl⟩ (by decide +kernel) (by decide +kernel) (by decide +kernel) (by decide +kernel) (by decide +kernel) rfl (fun A E s vs ws Q h h2 q => by
    obtain ⟨a, b, d, rfl⟩ := ln3 h
    obtain rfl := ln0 h2
    refine (congrArg (fun t => wpAny _ _ t _ _ _) (bind_addh0 a b d)).mpr ?_
    exact wpAny_bind (wpAny_alloc (wpAny_pure (q _ _ 0 (fun a o e => Heap.get?_push_of_some _ e) (Heap.get?_push_size _ rfl))))) (s_addh w).2
theorem r_addh1 (w : World) : FunK (C2 w) 3 (.ref 305) 3 [Str.ofString "k"] (runD 3 [Str.ofString "k"] (hashStr w) [some 0, some 1, some 2, some 3, none, none, none] (s_addh w).1) :=
  fun_defD (names := nmH) ⟨⟨_, _, _, rfl⟩, by kernel_rfl, rfl, rfl, rfl, rfl⟩ (by decide +kernel) (by decide +kernel) (by decide +kernel) (by decide +kernel) (by decide +kernel) rfl (fun A E s vs ws Q h h2 q => by
    obtain ⟨a, b, d, rfl⟩ := ln3 h
    obtain ⟨v, rfl⟩ := ln1 h2
    refine (congrArg (fun t => wpAny _ _ t _ _ _) (bind_addh1 a b d v)).mpr ?_
    refine wpAny_bind (wpAny_alloc (wpAny_bind ?_))
    rw [List.forIn_cons]
    refine wpAny_bind (wpAny_bind (nsSet_empty (Heap.get?_push_size _ rfl) fun h' t tk k e => wpAny_pure (wpAny_pure (wpAny_pure (q h' tk t (fun a o ea => k a o (Nat.ne_of_lt (Heap.lt_size ea)) (Heap.get?_push_of_some _ ea)) e)))))) (s_addh w).2
noncomputable def ptokR (w : World) : List PV → SM PV := runK (2 + 0) [] [some 0, some 1] [] (s_ptoken w).1
theorem k_ptoken (w : World) : FunK (C2 w) 2 (.ref 157) 2 [] (ptokR w) := r_ptoken w
theorem ptok_run (w : World) {st : List AO} {i j : Nat} {n : Int} {p : PV} {ws : Str} {x : PV} {xs : List PV} (h1 : st[i]? = some (.inst 160 (kvW n p ws j))) (h2 : st[j]? = some (.list xs)) (hz : xs.length ≤ sizeLine) :
    ptokR w [.ref i, x] st = some (.none, st.set j (.list (xs ++ [x]))) := by
  let E (S : List AO) : ES := ⟨[some (.ref i), some x], [], S⟩
  have run : (s_ptoken w).1 (E st) = some (.next, E (st.set j (.list (xs ++ [x])))) := by
    simp only [s_ptoken]
    exact e_seq (e_expr (p := .none) (e_meth (p := .ref j) (ps := [x]) (es₁ := E st) (es₂ := E st) (p_lift (p := .ref i) rfl (getA_of (inst_of h1) (ao_pb w) (getL4 _ _ _ _ _))) (isLst_ref h2) (p_cons rfl rfl) (append_of h2 hz))) rfl
  exact Yr run
noncomputable abbrev nSz : Str := Str.ofString "_initial_size"
noncomputable abbrev kvA (f : Int) : List (Str × PV) := [(nSz, .int f)]
theorem a_app (f : Int) : kvGet (kvA f) (Str.ofString "append") = none := by kernel_rfl
theorem a_cnt (f : Int) : kvGet (kvA f) (Str.ofString "part_count") = none := by kernel_rfl
theorem count_run (w : World) {st : List AO} {i : Nat} {kvs : List (Str × PV)} {xs : List PV} (h : st[i]? = some (.linst 118 kvs xs)) : countR w [.ref i] st = some (.int xs.length, st) := by
  let E : ES := ⟨[some (.ref i)], [], st⟩
  have run : (s_count w).1 E = some (.ret (.int xs.length), E) := by
    simp only [s_count]
    exact e_stop (e_bind (y := .int xs.length) (es₁ := E) (e_bind (y := .ref i) (es₁ := E) rfl (Z9 (pikB_of ⟨_, _, _, rfl, h⟩) (Ys (llen_of h)))) rfl)
  exact Yr run
noncomputable def pushR (w : World) : List PV → SM PV := runK (3 + 0) [] [some 0, some 1, some 2] [] (s_ppush w).1
theorem k_ppush (w : World) : FunK (C2 w) 2 (.ref 62) 3 [] (pushR w) := r_ppush w
theorem push_run (w : World) {f : Int} {st : List AO} {i : Nat} {a b : PV} {xs : List PV} (h : st[i]? = some (.linst 118 (kvA f) xs)) (hz : xs.length ≤ sizeLine) : pushR w [.ref i, a, b] st = some (.none, st.set i (.linst 118 (kvA f) (xs ++ [.tup [a, b]]))) := by
  have h2 : (2 : Nat) ≤ sizeLine := by rw [sizeLine_eq]; omega
  let E (S : List AO) : ES := ⟨[some (.ref i), some a, some b], [], S⟩
  have run : (s_ppush w).1 (E st) = some (.next, E (st.set i (.linst 118 (kvA f) (xs ++ [.tup [a, b]])))) := by
    simp only [s_ppush]
    exact e_seq (e_expr (p := .none) (e_meth (p := .ref i) (ps := [.tup [a, b]]) (es₁ := E st) (es₂ := E st) rfl (pikB_of ⟨_, _, _, rfl, h, a_app f⟩) (p_cons (p_tup2 rfl rfl) rfl) (lappend_of h hz))) rfl
  exact Yr run
noncomputable def popR (w : World) : List PV → SM PV := runK 1 [] [some 0] [] (s_ppop w).1
theorem k_ppop (w : World) : FunK (C2 w) 3 (.ref 78) 1 [] (popR w) := r_ppop w
theorem pop_none (w : World) {f : Int} {st : List AO} {i : Nat} (h : st[i]? = some (.linst 118 (kvA f) [])) : popR w [.ref i] st = some (.tup [.str (Str.ofString ""), .str (Str.ofString "")], st) := by
  have h2 : (2 : Nat) ≤ sizeLine := by rw [sizeLine_eq]; omega
  let E : ES := ⟨[some (.ref i)], [], st⟩
  have run : (s_ppop w).1 E = some (.ret (.tup [.str (Str.ofString ""), .str (Str.ofString "")]), E) := by
    simp only [s_ppop]
    exact e_stop (e_ite (t := true) (es₁ := E) (p_lift (p := .bool true) (p_bin (p := .int 0) (q := .int 0) (p_meth (p := .ref i) (ps := []) rfl (pikB_of ⟨_, _, _, rfl, h, a_cnt f⟩) rfl (count_run w h)) rfl rfl) rfl) (e_stop (e_bind (y := .tup [.str (Str.ofString ""), .str (Str.ofString "")]) (es₁ := E) (p_tup2 rfl rfl) rfl)))
  exact Yr run
theorem pop_some (w : World) {f : Int} {st : List AO} {i : Nat} {xs : List PV} {y : PV} (h : st[i]? = some (.linst 118 (kvA f) (xs ++ [y]))) (hz : xs.length + 1 ≤ sizeLine) : popR w [.ref i] st = some (y, st.set i (.linst 118 (kvA f) xs)) := by
  have e1 : (xs ++ [y])[xs.length]? = some y := Z5 _ _
  have e2 : (xs ++ [y]).eraseIdx xs.length = xs := by
    rw [List.eraseIdx_append_of_length_le (Nat.le_refl _)]; simp
  have e3 : ((xs.length : Int) + 1 == 0) = false := by rw [beq_eq_false_iff_ne]; omega
  have hl : (xs ++ [y]).length = xs.length + 1 := by rw [List.length_append]; rfl
  let E (S : List AO) : ES := ⟨[some (.ref i)], [], S⟩
  have hc := count_run w h
  rw [hl] at hc
  have hp := lpop_of (y := y) h (by rw [hl]; exact hz) (by rw [hl]; exact e1)
  rw [hl, Nat.add_sub_cancel, e2] at hp
  have run : (s_ppop w).1 (E st) = some (.ret y, E (st.set i (.linst 118 (kvA f) xs))) := by
    simp only [s_ppop]
    refine e_seq (es₁ := E st) (e_ite (t := false) (es₁ := E st) (p_lift (p := .bool false) (p_bin (p := .int ((xs.length + 1 : Nat) : Int)) (q := .int 0) (p_meth (p := .ref i) (ps := []) rfl (pikB_of ⟨_, _, _, rfl, h, a_cnt f⟩) rfl hc) rfl ?_) rfl) rfl) (e_stop (e_bind (y := y) (es₁ := E (st.set i (.linst 118 (kvA f) xs))) (e_bind (y := .ref i) (es₁ := E st) rfl (Z9 (pikB_of ⟨_, _, _, rfl, h⟩) (Ys hp))) rfl))
    show some (PV.bool (((xs.length : Int) + 1) == 0), _) = _
    rw [e3]
  exact Yr run
theorem chkL_of {st : List AO} {i : Nat} {xs : List PV} (h : st[i]? = some (.list xs)) : chkL i xs st = true := by
  unfold chkL
  exact @decide_eq_true _ (Classical.propDecidable _) h
theorem itsV_at {X : FM PV} {es : ES} {p : PV} {y : Its} (hx : X es = some (p, es)) (hy : itsV p es.st = some y) : bindE X (itsE itsV) es = some (y, es) := by
  refine e_bind hx ?_
  unfold itsE
  rw [hy]; rfl
theorem itsV_ref {st : List AO} {h : Nat} {xs : List PV} (q : st[h]? = some (.list xs)) : itsV (.ref h) st = some (xs, chkL h xs) := by
  unfold itsV
  dsimp only
  rw [q]
noncomputable def make118G (ps : List PV) : SM PV := fun st => pik fun r => ∃ f, ps = [.int f] ∧ r = (.ref st.length, st ++ [.linst 118 (kvA f) []])
theorem make118_run (f : Int) (st : List AO) : make118G [.int f] st = some (.ref st.length, st ++ [.linst 118 (kvA f) []]) := pik_of ⟨_, rfl, rfl⟩ fun z q' => by obtain ⟨_, e, r⟩ := q'; cases e; exact r
theorem k_make118 (w : World) : OpL (C2 w) 3 (fun vs => call (.ref 118) vs) make118G := by
  refine (op_lmake (C := 118) (fI := 55) (lmakes118 w) (by kernel_rfl) (by kernel_rfl) (r_init118 w)).sub fun ps st r e => ?_
  obtain ⟨f, rfl, rfl⟩ := Zq e
  let E (S : List AO) : ES := ⟨[some (.ref st.length), some (.int f)], [], S⟩
  have g0 := Z5 st [AO.linst 118 (kvA f) []]
  have e1 := setLst_of (name := nSz) (q := .int f) (Z5 st [AO.linst 118 [] []]) (Nat.zero_le _)
  have e2 := linit_of g0 sl0
  rw [set_app0] at e1 e2
  have run : (s_init118 w).1 (E (st ++ [.linst 118 [] []])) = some (.next, E (st ++ [.linst 118 (kvA f) []])) := by
    simp only [s_init118]
    exact e_seq (e_asg (p := .int f) (es₁ := E (st ++ [.linst 118 [] []])) rfl (e_lift (p := .ref st.length) (es₁ := E (st ++ [.linst 118 [] []])) rfl e1)) (e_seq (e_expr (p := .none) (e_bind (y := .ref st.length) (es₁ := E (st ++ [.linst 118 (kvA f) []])) rfl (Z9 (pikB_of ⟨_, _, _, rfl, g0⟩) (Ys e2)))) rfl)
  exact lmake_of (Yr run)
noncomputable abbrev nHd : Str := Str.ofString "_headers"
noncomputable abbrev kvH (h : Nat) : List (Str × PV) := [(nHd, .ref h)]
theorem putH (p : PV) : kvPut [] nHd p = [(nHd, p)] := rfl
theorem getH (p : PV) (l : List (Str × PV)) : kvGet ((nHd, p) :: l) nHd = some p := by kernel_rfl
theorem so_hd (w : World) : setOk (kFrag w.params) 308 nHd = true := by kernel_rfl
theorem ao_hd (w : World) : attrOk (kFrag w.params) 308 nHd = true := by kernel_rfl
theorem get_cv (h : Nat) : kvGet (kvH h) (Str.ofString "_convert_string_type") = none := by kernel_rfl
noncomputable def make308G (ps : List PV) : SM PV := fun st => pik fun r => ∃ h, P3 (ps = [.ref h]) (st[h]? = some (.list [])) (r = (.ref st.length, st ++ [.inst 308 (kvH h)]))
theorem make308_run {h : Nat} {st : List AO} (q : st[h]? = some (.list [])) : make308G [.ref h] st = some (.ref st.length, st ++ [.inst 308 (kvH h)]) := pik_of ⟨_, rfl, q, rfl⟩ fun z q' => by obtain ⟨_, e, _, r⟩ := q'; cases e; exact r
theorem new_hd {st : List AO} : make308G [.ref st.length] (st ++ [.list []]) = some (.ref (st.length + 1), st ++ [.list [], .inst 308 (kvH st.length)]) := by
  have := make308_run (Z5 st [.list []])
  rwa [List.length_append, List.append_assoc] at this
theorem k_make308 (w : World) : OpL (C2 w) 3 (fun vs => call (.ref 308) vs) make308G := by
  refine (op_make (C := 308) (fI := 202) (by kernel_rfl) (by kernel_rfl) (by kernel_rfl) (r_init308 w)).sub fun ps st r e => ?_
  obtain ⟨h, rfl, q, rfl⟩ := Zq e
  have hl : ∀ l, (st ++ l)[h]? = some (.list []) := fun l => by rw [List.getElem?_append_left (lt_of q)]; exact q
  let E (S : List AO) : ES := ⟨[some (.ref st.length), some (.ref h), none, none], [], S⟩
  let S0 := st ++ [AO.inst 308 []]
  let S1 := st ++ [AO.inst 308 (kvH h)]
  have hi : items? S0 (.ref h) = some [] := items_ref (hl _)
  have run : (s_init308 w).1 (E S0) = some (.next, E S1) := by
    simp only [s_init308]
    refine e_seq (es₁ := E S0) (e_asg (p := .ref h) (es₁ := E S0) (e_ite (t := true) (es₁ := E S0) (p_lift (p := .bool true) (p_bin (p := .ref h) (q := .none) rfl rfl rfl) rfl) rfl) rfl) ?_
    refine e_seq (es₁ := E S0) (e_ite (t := false) (es₁ := E S0) (p_lift (p := .bool false) (p_bin (p := .raw (.type "list")) (q := .raw (.type "list")) (p_call (ps := [.ref h]) (p_cons rfl rfl) (typeL_of hi)) rfl (isNotT_of.trans (by simp))) rfl) rfl) ?_
    refine e_seq (es₁ := E S1) (e_asg (p := .ref h) (es₁ := E S0) rfl (e_lift (p := .ref st.length) (es₁ := E S0) rfl (setA_new (so_hd w) (putH _)))) ?_
    exact e_seq (es₁ := E S1) (e_ite (t := true) (es₁ := E S1) (p_lift (p := .bool true) rfl rfl) (e_seq (es₁ := E S1) (e_bind (itsV_at (p := .ref h) rfl (itsV_ref (hl _))) (Z9 (chkL_of (hl _)) rfl)) rfl)) rfl
  exact make_of (Yr run)
theorem join_single (x y : Str) : Txt.join x [y] = y := by first | rfl | (unfold Txt.join; rfl) | (simp [Txt.join])
theorem joinOk_single {y : Str} (h : y.length ≤ 1000) : JoinOk (Str.ofString "; ") [y] = true := by
  unfold JoinOk
  have h2 : (Str.ofString "; ").length = 2 := by decide +kernel
  have : ([y].toArray.foldl (· + ·.length + (Str.ofString "; ").length) 0) = 0 + y.length + 2 := by rw [h2]; rfl
  rw [this, notLong (by rw [sizeLine_eq]; omega)]; rfl
theorem getA_hd (w : World) {st : List AO} {i h : Nat} (h1 : st[i]? = some (.inst 308 (kvH h))) : getA (kFrag w.params) (Str.ofString "_headers") (.ref i) st = some (.ref h, st) := getA_of (inst_of h1) (ao_hd w) (getH _ _)
theorem conv_of (w : World) {p : PV} {x : Str} {t : Bool} (h : Ye x = true) (st : List AO) : convR w [p, .str x, .bool t] st = some (.str x, st) := by
  obtain ⟨h1, h2, h3⟩ := plainTxt_all h
  let E (q : Option PV) : ES := ⟨[some p, some (.str x), some (.bool t), q], [], st⟩
  have q1 := search_of (pa := 174) (st := st) h1 h3
  have q2 := search_of (pa := 179) (st := st) h2 h3
  have run : ∃ q, (s_conv w).1 (E none) = some (.ret (.str x), E q) := by
    simp only [s_conv]
    have go : ∀ a, (a = 174 ∨ a = 179) → (if t = true then pureE (PV.raw (.ref 174)) else pureE (PV.raw (.ref 179))) (E none) = some (.raw (.ref a), E none) → ∃ q, (s_conv w).1 (E none) = some (.ret (.str x), E q) := fun a ha hp => ⟨some (.raw (.ref a)), by
      simp only [s_conv]
      refine e_stop (e_ite (t := true) (es₁ := E none) (p_lift (p := .bool true) (p_bin (p := .raw (.type "str")) (q := .raw (.type "str")) (p_call (ps := [.str x]) (p_cons rfl rfl) type_of) rfl (isT_of.trans (by simp))) rfl) ?_)
      refine e_seq (es₁ := E (some (.raw (.ref a)))) (e_asg (p := .raw (.ref a)) (es₁ := E none) (e_ite (t := t) (es₁ := E none) (p_lift (p := .bool t) rfl rfl) hp) rfl) ?_
      refine e_seq (es₁ := E (some (.raw (.ref a)))) (e_ite (t := false) (es₁ := E (some (.raw (.ref a)))) (p_lift (p := .none) (p_meth (p := .raw (.ref a)) (ps := [.str x]) rfl ?_ (p_cons rfl rfl) ?_) rfl) rfl) rfl
      · rw [Bool.or_eq_true]
        rcases ha with rfl | rfl
        · exact .inl (pikB_of rfl)
        · exact .inr (pikB_of rfl)
      · rcases ha with rfl | rfl
        · exact pik_of (.inl q1) fun z e => e.elim (fun e => Option.some.inj (e.symm.trans q1)) fun e => (Zq e).elim fun _ ⟨e, _, _, _⟩ => nomatch e
        · exact pik_of (.inr q2) fun z e => e.elim (fun e => (Zq e).elim fun _ ⟨e, _, _, _⟩ => nomatch e) fun e => Option.some.inj (e.symm.trans q2)⟩
    cases t with
    | true => exact go 174 (.inl rfl) rfl
    | false => exact go 179 (.inr rfl) rfl
  obtain ⟨q, run⟩ := run
  exact Yr run
noncomputable abbrev bsl : Str := Str.ofString "\\"
noncomputable abbrev quo : Str := Str.ofString "\""
noncomputable def escS (v : Str) : Str := Txt.replace (Txt.replace v bsl (Str.ofString "\\\\")) quo (Str.ofString "\\\"")
noncomputable def parS (x v : Str) : Str := x ++ Str.ofString "=\"" ++ escS v ++ quo
theorem fpar_run (w : World) {x v : Str} (h0 : 0 < v.length) (hv : v.length ≤ 100) (hx : x.length ≤ 100) (hr : (Txt.replace v bsl (Str.ofString "\\\\")).length ≤ 1000) (hz : (escS v).length ≤ 1000) (st : List AO) : fparR w [.str x, .str v] st = some (.str (parS x v), st) := by
  have sz : ∀ n, n ≤ 4000 → n ≤ sizeLine := fun n h => by rw [sizeLine_eq]; omega
  let E (y : Str) : ES := ⟨[some (.str x), some (.str y), some (.int 1)], [], st⟩
  have hl : lenS [.str v] st = some (.int v.length, st) := lenS_of (sz _ (by omega))
  have hg : gtI (.int v.length) (.int 0) st = some (.bool true, st) := by
    show some (PV.bool (decide ((0 : Int) < (v.length : Int))), st) = _
    rw [decide_eq_true (by omega)]
  have l2 : (Str.ofString "\\\\").length = 2 := by decide +kernel
  have l3 : (Str.ofString "\\\"").length = 2 := by decide +kernel
  have run : (s_fpar w).1 (E v) = some (.ret (.str (parS x v)), E (escS v)) := by
    simp only [s_fpar]
    refine e_stop (e_ite (t := true) (es₁ := E v) (e_ite (t := true) (es₁ := E v) (p_lift (p := .bool true) (p_bin (p := .str v) (q := .none) rfl rfl rfl) rfl) (e_ite (t := true) (es₁ := E v) (p_lift (p := .bool true) (p_bin (p := .int v.length) (q := .int 0) (p_call (ps := [.str v]) (p_cons rfl rfl) hl) rfl hg) rfl) rfl)) ?_)
    refine e_stop (e_ite (t := true) (es₁ := E v) rfl ?_)
    refine e_seq (es₁ := E (escS v)) (e_asg (p := .str (escS v)) (es₁ := E v) (e_bind (y := .str (Txt.replace v bsl (Str.ofString "\\\\"))) (es₁ := E v) (e_bind (y := .str v) (es₁ := E v) rfl ?_) ?_) rfl) (e_stop (e_bind (y := .str (parS x v)) (es₁ := E (escS v)) (e_bind (y := .str x) (es₁ := E (escS v)) rfl (e_bind (y := .str (escS v)) (es₁ := E (escS v)) rfl ?_)) rfl))
    · exact if_pos (by rw [l2]; omega)
    · exact if_pos (by rw [l3]; omega)
    · exact if_pos ⟨by omega, by decide +kernel⟩
  exact Yr run
theorem chkD_true {i n : Nat} {o : Option (Int × Str × PV)} {st : List AO} (h : st[i]? = some (.dict1 n o)) : chkD i n o st = true := by unfold chkD; exact (@decide_eq_true_iff _ (Classical.propDecidable _)).mpr h
noncomputable abbrev liH : List (Option Nat) := [some 0, some 1, some 2, some 3, none, none, none]
noncomputable def addhR0 (w : World) : List PV → SM PV := runD 3 [] (hashStr w) liH (s_addh w).1
theorem k_addh0 (w : World) : FunK (C2 w) 3 (.ref 305) 3 [] (addhR0 w) := r_addh0 w
noncomputable def addhR1 (w : World) : List PV → SM PV := runD 3 [Str.ofString "k"] (hashStr w) liH (s_addh w).1
theorem k_addh1 (w : World) : FunK (C2 w) 3 (.ref 305) 3 [Str.ofString "k"] (addhR1 w) := r_addh1 w
theorem e_done {chk : List AO → Bool} {S : PV → FM Unit} {B : FM PF} {es : ES} (h : chk es.st = true) : loopK (Zw chk S B []) .next es = some (.next, es) := by
  show guardE chk (pureE PF.next) es = _
  exact Z9 h rfl
theorem plain_len {y : Str} (hy : Ye y = true) : y.length ≤ 1000 := by
  simp only [Ye, Bool.and_eq_true, decide_eq_true_eq] at hy
  exact hy.2
section
variable {w : World} {st : List AO} {i h : Nat} {x : Str} {hs : List PV}
noncomputable abbrev E7 (st : List AO) (i : Nat) (x : Str) (v : PV) (l4 l5 l6 : Option PV) (S : List AO) : ES := ⟨[some (.ref i), some (.str x), some v, some (.ref st.length), l4, l5, l6], [], S⟩
theorem addh_last (w : World) (h1 : st[i]? = some (.inst 308 (kvH h))) (h2 : st[h]? = some (.list hs)) (hx : Ye x = true) {y : Str} (hy : y.length ≤ 1000) (hz : hs.length ≤ 1000) {D : AO} {v : PV} {l5 l6 : Option PV} {F : FM PF}
    (hF : F = bindE (bindE (bindE (getL 0) fun p => liftS (getA (kFrag w.params) (Str.ofString "_headers") p)) fun p => guardE (isLst p) (bindE (consE (bindE (consE (bindE (getL 0) fun p => guardE (isInst 308 (Str.ofString "_convert_string_type") p) (bindE (consE (getL 1) (pureE [])) fun ps => bindE (pureE (.bool true)) fun q => liftS (convR w (p :: ps ++ [q])))) (consE (bindE (pureE (.str (Str.ofString "; "))) fun p => guardE (isStr p) (bindE (consE (getL 4) (pureE [])) fun ps => liftS (joinG (p :: ps)))) (pureE []))) tupE) (pureE [])) fun ps => liftS (appendG (p :: ps)))) fun _ => pureE .next) :
    F (E7 st i x v (some (.ref (st.length + 1))) l5 l6 (st ++ [D, .list [.str y]])) = some (.next, E7 st i x v (some (.ref (st.length + 1))) l5 l6 (st.set h (.list (hs ++ [.tup [.str x, .str y]])) ++ [D, .list [.str y]])) := by
  subst hF
  have g1 : ∀ l, (st ++ l)[i]? = some (.inst 308 (kvH h)) := fun l => by rw [List.getElem?_append_left (lt_of h1)]; exact h1
  have g2 : ∀ l, (st ++ l)[h]? = some (.list hs) := fun l => by rw [List.getElem?_append_left (lt_of h2)]; exact h2
  have hs3 : hs.length ≤ sizeLine := by rw [sizeLine_eq]; exact Nat.le_trans hz (by decide)
  let S2 : List AO := st ++ [D, .list [.str y]]
  let E := E7 st i x v (some (.ref (st.length + 1))) l5 l6 S2
  have hj : joinG [.str (Str.ofString "; "), .ref (st.length + 1)] S2 = some (.str y, S2) := by
    have e : (items? S2 (.ref (st.length + 1))).bind texts? = some [y] := by
      have : items? S2 (.ref (st.length + 1)) = some [.str y] := by
        show (match (st ++ [D, .list [.str y]])[st.length + 1]? with | some (.list xs) => some xs | _ => none) = _
        rw [Yi]; rfl
      rw [this]; rfl
    unfold joinG
    dsimp only
    rw [e]
    dsimp only
    rw [if_pos (joinOk_single hy), join_single]
  refine e_expr (p := .none) ?_
  refine e_meth (p := .ref h) (es₁ := E) (es₂ := E) (ps := [.tup [.str x, .str y]]) (p_lift (p := .ref i) rfl (getA_hd w (g1 _))) (isLst_ref (g2 _)) (p_cons (p_tup2 (e_bind (y := .ref i) (es₁ := E) rfl ?_) (p_meth (p := .str (Str.ofString "; ")) (ps := [.ref (st.length + 1)]) rfl rfl (p_cons rfl rfl) hj)) rfl) ?_
  · refine Z9 (Yq (g1 _) (get_cv h)) (e_bind (y := [.str x]) (es₁ := E) (p_cons rfl rfl) (e_bind (y := .bool true) (es₁ := E) rfl ?_))
    exact Ys (conv_of w hx _)
  · rw [append_of (g2 _) hs3, List.set_append_left _ _ (lt_of h2)]
theorem new_list (w : World) {D : AO} {v : PV} {l4 l5 l6 : Option PV} : (bindE (bindE (pureE []) newE) fun p => bindE (setL 4 p) fun _ => pureE PF.next) (E7 st i x v l4 l5 l6 (st ++ [D])) = some (.next, E7 st i x v (some (.ref (st.length + 1))) l5 l6 (st ++ [D, .list []])) := by
  refine e_asg (p := .ref (st.length + 1)) (es₁ := E7 st i x v l4 l5 l6 (st ++ [D, .list []])) (e_bind (y := []) (es₁ := E7 st i x v l4 l5 l6 (st ++ [D])) rfl ?_) rfl
  unfold newE
  refine (if_pos (Nat.zero_le _)).trans ?_
  show some (PV.ref (st ++ [D]).length, (⟨_, _, (st ++ [D]) ++ [AO.list []]⟩ : ES)) = _
  rw [List.length_append, List.append_assoc]
  rfl
theorem addh0_run (w : World) {y : Str} (h1 : st[i]? = some (.inst 308 (kvH h))) (h2 : st[h]? = some (.list hs)) (hx : Ye x = true) (hy : Ye y = true) (hz : hs.length ≤ 1000) :
    addhR0 w [.ref i, .str x, .str y] st = some (.none, st.set h (.list (hs ++ [.tup [.str x, .str y]])) ++ [.dict1 0 none, .list [.str y]]) := by
  have g1 : ∀ l, (st ++ l)[i]? = some (.inst 308 (kvH h)) := fun l => by rw [List.getElem?_append_left (lt_of h1)]; exact h1
  let q := some (PV.ref (st.length + 1))
  let E (l4 : Option PV) (S : List AO) : ES := E7 st i x (.str y) l4 none none S
  let S1 : List AO := st ++ [.dict1 0 none, .list []]
  let S2 : List AO := st ++ [.dict1 0 none, .list [.str y]]
  have run : (s_addh w).1 (E none (st ++ [.dict1 0 none])) = some (.next, E q (st.set h (.list (hs ++ [.tup [.str x, .str y]])) ++ [.dict1 0 none, .list [.str y]])) := by
    simp only [s_addh]
    refine e_seq (es₁ := E q S1) (new_list w) ?_
    refine e_seq (es₁ := E q S2) (e_ite (t := true) (es₁ := E q S1) (p_lift (p := .bool true) (p_bin (p := .str y) (q := .none) rfl rfl rfl) rfl) ?_) ?_
    · refine e_seq (es₁ := E q S1) (e_asg (p := .str y) (es₁ := E q S1) (e_bind (y := .ref i) (es₁ := E q S1) rfl ?_) rfl) ?_
      · refine Z9 (Yq (g1 _) (get_cv h)) (e_bind (y := [.str y]) (es₁ := E q S1) (p_cons rfl rfl) (e_bind (y := .bool false) (es₁ := E q S1) rfl ?_))
        exact Ys (conv_of w hy _)
      refine e_seq (es₁ := E q S2) (e_expr (p := .none) ?_) rfl
      refine e_meth (p := .ref (st.length + 1)) (es₁ := E q S1) (es₂ := E q S1) (ps := [.str y]) rfl (isLst_ref (Yi st [.dict1 0 none, .list []] 1)) (p_cons rfl rfl) ?_
      rw [append_ref (Yi st [.dict1 0 none, .list []] 1) (by decide), set_app]
      rfl
    refine e_seq (es₁ := E q S2) ?_ (e_seq (addh_last w h1 h2 hx (plain_len hy) hz rfl) rfl)
    have hit : itsD (hashStr w) (.ref st.length) S2 = some ([], chkD st.length 0 none) := itsD_of (n := 0) (o := none) (Z5 _ _) rfl
    refine e_bind (y := ([], chkD st.length 0 none)) (es₁ := E q S2) (e_bind (y := .ref st.length) (es₁ := E q S2) rfl ?_) ?_
    · unfold itsE
      rw [hit]; rfl
    · exact Z9 (chkD_true (Z5 _ _)) rfl
  exact runD_of run
noncomputable abbrev kS : Str := Str.ofString "k"
theorem addh1_run (w : World) {v : Str} (h1 : st[i]? = some (.inst 308 (kvH h))) (h2 : st[h]? = some (.list hs)) (hx : Ye x = true) (hv : Ye v = true) (hz : hs.length ≤ 1000) (v0 : 0 < v.length) (v1 : v.length ≤ 100) (hr : (Txt.replace v bsl (Str.ofString "\\\\")).length ≤ 1000) (he : (escS v).length ≤ 900) :
    addhR1 w [.ref i, .str x, .none, .str v] st = some (.none, st.set h (.list (hs ++ [.tup [.str x, .str (parS kS v)]])) ++ [.dict1 1 (some (hashStr w kS, kS, .str v)), .list [.str (parS kS v)]]) := by
  have g1 : ∀ l, (st ++ l)[i]? = some (.inst 308 (kvH h)) := fun l => by rw [List.getElem?_append_left (lt_of h1)]; exact h1
  let D : AO := .dict1 1 (some (hashStr w kS, kS, .str v))
  let q := some (PV.ref (st.length + 1))
  let S1 : List AO := st ++ [D, .list []]
  let S2 : List AO := st ++ [D, .list [.str (parS kS v)]]
  let E (l4 l5 l6 : Option PV) (S : List AO) : ES := E7 st i x .none l4 l5 l6 S
  let kk := some (PV.str kS)
  let vv := some (PV.str v)
  have hk : Ye kS = true := by decide +kernel
  have hpl : (parS kS v).length ≤ 1000 := by
    unfold parS
    rw [PySem.Str.length_append, PySem.Str.length_append, PySem.Str.length_append, show kS.length = 1 by decide +kernel, show (Str.ofString "=\"").length = 2 by decide +kernel, show quo.length = 1 by decide +kernel]
    omega
  have run : (s_addh w).1 (E none none none (st ++ [D])) = some (.next, E q kk vv (st.set h (.list (hs ++ [.tup [.str x, .str (parS kS v)]])) ++ [D, .list [.str (parS kS v)]])) := by
    simp only [s_addh]
    refine e_seq (es₁ := E q none none S1) (new_list w) ?_
    refine e_seq (es₁ := E q none none S1) (e_ite (t := false) (es₁ := E q none none S1) (p_lift (p := .bool false) (p_bin (p := .none) (q := .none) rfl rfl rfl) rfl) rfl) ?_
    refine e_seq (es₁ := E q kk vv S2) ?_ (e_seq (addh_last w h1 h2 hx hpl hz rfl) rfl)
    have hit : itsD (hashStr w) (.ref st.length) S1 = some ([.tup [.str kS, .str v]], chkD st.length 1 (some (hashStr w kS, kS, .str v))) := itsD_of (n := 1) (o := some (hashStr w kS, kS, .str v)) (Z5 _ _) (beq_self_eq_true (hashStr w kS))
    refine e_bind (y := ([.tup [.str kS, .str v]], chkD st.length 1 (some (hashStr w kS, kS, .str v)))) (es₁ := E q none none S1) (e_bind (y := .ref st.length) (es₁ := E q none none S1) rfl ?_) ?_
    · unfold itsE
      rw [show (E q none none S1).st = S1 from rfl, hit]; rfl
    refine Z9 (chkD_true (Z5 _ _)) (e_bind (y := ()) (es₁ := E q kk vv S1) rfl (e_bind (y := .next) (es₁ := E q kk vv S2) ?_ (e_done (chkD_true (Z5 _ _)))))
    refine e_seq (es₁ := E q kk vv S1) (e_asg (p := .str kS) (es₁ := E q kk vv S1) (e_bind (y := .ref i) (es₁ := E q kk vv S1) rfl ?_) rfl) ?_
    · refine Z9 (Yq (g1 _) (get_cv h)) (e_bind (y := [.str kS]) (es₁ := E q kk vv S1) (p_cons rfl rfl) (e_bind (y := .bool true) (es₁ := E q kk vv S1) rfl ?_))
      exact Ys (conv_of w hk _)
    refine e_seq (es₁ := E q kk vv S2) (e_ite (t := false) (es₁ := E q kk vv S1) (p_lift (p := .bool false) (p_bin (p := .str v) (q := .none) rfl rfl rfl) rfl) ?_) rfl
    refine e_seq (es₁ := E q kk vv S1) (e_asg (p := .str v) (es₁ := E q kk vv S1) (e_bind (y := .ref i) (es₁ := E q kk vv S1) rfl ?_) rfl) ?_
    · refine Z9 (Yq (g1 _) (get_cv h)) (e_bind (y := [.str v]) (es₁ := E q kk vv S1) (p_cons rfl rfl) (e_bind (y := .bool false) (es₁ := E q kk vv S1) rfl ?_))
      exact Ys (conv_of w hv _)
    refine e_seq (es₁ := E q kk vv S2) (e_expr (p := .none) ?_) rfl
    refine e_meth (p := .ref (st.length + 1)) (es₁ := E q kk vv S1) (es₂ := E q kk vv S1) (ps := [.str (parS kS v)]) rfl (isLst_ref (Yi st [D, .list []] 1)) (p_cons (p_call (ps := [.str kS, .str v]) (p_cons (p_meth (p := .str kS) (ps := [.str (Str.ofString "_"), .str (Str.ofString "-")]) rfl rfl rfl ?_) (p_cons rfl rfl)) (fpar_run w v0 v1 (by decide +kernel) hr (by omega) S1)) rfl) ?_
    · exact replN_of (by decide +kernel)
    · rw [append_ref (Yi st [D, .list []] 1) (by decide), set_app]
      rfl
  exact runD_of run
end
theorem dat_str {x : Str} (h : PyData.strOk x = true) (st : List AO) : datS st (.str x) = some (.str x) := by
  show (if PyData.strOk x = true then some (PyData.str x) else none) = _
  rw [if_pos h]
theorem eq_strs {x y : Str} (hx : PyData.strOk x = true) (hy : PyData.strOk y = true) (st : List AO) : eqG (.str x) (.str y) st = some (.bool (x == y), st) := by
  unfold eqG
  rw [dat_str hx, dat_str hy]
  rfl
theorem getI_tup2 {x y : PV} {st : List AO} : getI (.tup [x, y]) (.int 0) st = some (x, st) ∧ getI (.tup [x, y]) (.int 1) st = some (y, st) := by
  constructor
  · unfold getI
    dsimp only
    rw [if_pos (by decide)]
    rfl
  · unfold getI
    dsimp only
    rw [if_pos (by decide)]
    rfl
theorem lower_len {x : Str} (h : (Txt.lower x).length ≤ 100) (st : List AO) : str1 Txt.lower [.str x] st = some (.str (Txt.lower x), st) := by
  show (if (Txt.lower x).length ≤ sizeLine then _ else _) = _
  rw [if_pos (Z0 h)]
noncomputable def entP (e : Str × Str) : PV := .tup [.str e.1, .str e.2]
noncomputable def getallR (w : World) : List PV → SM PV := runK (2 + 0) [] [some 0] [some 1] (s_getall w).1
theorem k_getall (w : World) : FunK (C2 w) 3 (.ref 247) 2 [] (getallR w) := r_getall w
theorem getall_run (w : World) {st : List AO} {i h : Nat} {l : List (Str × Str)} {name : Str} (h1 : st[i]? = some (.inst 308 (kvH h))) (h2 : st[h]? = some (.list (l.map entP))) (hn : Ye (Txt.lower name) = true) (hn2 : (Txt.lower name).length ≤ 100) (hn3 : PyData.strOk (Txt.lower name) = true)
    (hl : ∀ e ∈ l, (Txt.lower e.1).length ≤ 100 ∧ PyData.strOk (Txt.lower e.1) = true) (hz : l.length ≤ 100) :
    getallR w [.ref i, .str name] st = some (.lst ((l.filter fun e => Txt.lower e.1 == Txt.lower name).map fun e => .str e.2), st) := by
  let E0 : ES := ⟨[some (.ref i)], [some (.str name)], st⟩
  let E1 : ES := ⟨[some (.ref i)], [some (.str (Txt.lower name))], st⟩
  have run : (s_getall w).1 E0 = some (.ret (.lst ((l.filter fun e => Txt.lower e.1 == Txt.lower name).map fun e => .str e.2)), E1) := by
    simp only [s_getall]
    refine e_seq (es₁ := E1) ?_ (e_stop (e_bind (y := .lst ((l.filter fun e => Txt.lower e.1 == Txt.lower name).map fun e => .str e.2)) (es₁ := E1) (e_lst ?_) rfl))
    · refine e_asg (p := .str (Txt.lower name)) (es₁ := E0) (e_bind (y := .ref i) (es₁ := E0) rfl (Z9 (Yq h1 (get_cv h)) (e_bind (y := [.str (Txt.lower name)]) (es₁ := E0) (p_cons (p_meth (p := .str name) (ps := []) rfl rfl rfl (lower_len hn2 _)) rfl) (e_bind (y := .bool true) (es₁ := E0) rfl ?_)))) rfl
      exact Ys (conv_of w hn _)
    · refine compE_pure (chk := chkL h (l.map entP)) (es := E1) entP (fun e => Txt.lower e.1 == Txt.lower name) (fun e => .str e.2) l (itsV_at (p := .ref h) (p_lift (p := .ref i) rfl (getA_hd w h1)) (itsV_ref h2)) (chkL_of h2) (fun e m => ?_) (fun e m _ => ?_) (Z0 hz)
      · obtain ⟨m1, m2⟩ := hl e m
        refine p_lift (p := .bool (Txt.lower e.1 == Txt.lower name)) (p_bin (p := .str (Txt.lower e.1)) (q := .str (Txt.lower name)) ?_ rfl (eq_strs m2 hn3 _)) (truth_bool _ _)
        exact p_meth (p := .str e.1) (ps := []) (p_bin (p := entP e) (q := .int 0) rfl rfl getI_tup2.1) rfl rfl (lower_len m1 _)
      · exact p_bin (p := entP e) (q := .int 1) rfl rfl getI_tup2.2
  exact Yr run
noncomputable def hstrR (w : World) : List PV → SM PV := runK (1 + 0) [] [some 0] [] (s_hstr w).1
theorem k_hstr (w : World) : FunK (C2 w) 2 (.ref 284) 1 [] (hstrR w) := r_hstr w
theorem k_strH (w : World) : OpL (C2 w) 4 (fun vs => call (.type "str") vs) (strIG 308 (hstrR w)) := op_strI (by kernel_rfl) (by kernel_rfl) (k_hstr w)
noncomputable abbrev crlf : Str := Str.ofString "\r\n"
noncomputable def rowS (e : Str × Str) : Str := e.1 ++ (⟨([58, 32] : List Nat).toArray⟩ : Str) ++ e.2 ++ (⟨([] : List Nat).toArray⟩ : Str)
noncomputable def tableS (l : List (Str × Str)) : Str := Txt.join crlf (l.map rowS ++ [emS, emS])
theorem texts_map {α : Type} (f : α → Str) : ∀ l : List α, texts? (l.map fun a => PV.str (f a)) = some (l.map f)
  | [] => rfl
  | a :: l => by
    have := texts_map f l
    unfold texts? at this ⊢
    rw [List.map_cons, List.mapM_cons, this]; rfl
theorem hstr_run (w : World) {st : List AO} {i h : Nat} {l : List (Str × Str)} (h1 : st[i]? = some (.inst 308 (kvH h))) (h2 : st[h]? = some (.list (l.map entP))) (hl : ∀ e ∈ l, e.1.length + e.2.length ≤ 2000) (hz : l.length ≤ 50) (hj : JoinOk crlf (l.map rowS ++ [emS, emS]) = true) :
    hstrR w [.ref i] st = some (.str (tableS l), st) := by
  let E : ES := ⟨[some (.ref i)], [], st⟩
  have run : (s_hstr w).1 E = some (.ret (.str (tableS l)), E) := by
    simp only [s_hstr]
    refine e_stop (e_bind (y := .str (tableS l)) (es₁ := E) (p_meth (p := .str crlf) (ps := [.lst (l.map (fun e => .str (rowS e)) ++ [.str emS, .str emS])]) rfl rfl (p_cons (p_bin (p := .lst (l.map fun e => .str (rowS e))) (q := .lst [.str emS, .str emS]) (e_lst ?_) (p_lst2 rfl rfl) ?_) rfl) ?_) rfl)
    · have hf : (l.map fun e => PV.str (rowS e)) = (l.filter fun _ => true).map fun e => .str (rowS e) := by rw [List.filter_eq_self.mpr fun _ _ => rfl]
      rw [hf]
      refine compE_pure (chk := chkL h (l.map entP)) (es := E) entP (fun _ => true) (fun e => .str (rowS e)) l (itsV_at (p := .ref h) (p_lift (p := .ref i) rfl (getA_hd w h1)) (itsV_ref h2)) (chkL_of h2) (fun e m => rfl) (fun e m _ => ?_) (Z0 (by omega))
      refine p_bin (p := .str (Str.ofString "%s: %s")) (q := entP e) rfl rfl ?_
      exact fmt_of (by decide +kernel) (hl e m) (by decide)
    · show (if (l.map fun e => PV.str (rowS e)).length + 2 ≤ sizeLine then _ else _) = _
      rw [if_pos (Z0 (by rw [List.length_map]; omega))]
    · unfold joinG
      dsimp only
      have e : (items? E.st (.lst (l.map (fun e => PV.str (rowS e)) ++ [.str emS, .str emS]))).bind texts? = some (l.map rowS ++ [emS, emS]) := by
        show texts? (l.map (fun e => PV.str (rowS e)) ++ [.str emS, .str emS]) = _
        have := texts_map (fun x : Str => x) (l.map rowS ++ [emS, emS])
        rw [List.map_id'] at this
        rw [← this, List.map_append, List.map_map]
        rfl
      rw [e]
      dsimp only
      rw [if_pos hj]; rfl
  exact Yr run
theorem k_figure (w : World) : FunK (C2 w) 2 (.ref 333) 2 [] (runK (2 + 0) [] [some 0, some 1] [] (s_figure w).1) := r_figure w
noncomputable abbrev ln_piles : List Str := [Str.ofString "cards", Str.ofString "column", Str.ofString "piles", Str.ofString "dealt", Str.ofString "card", Str.ofString "pile", Str.ofString "piece"]
noncomputable abbrev cn_piles : List (Str × Nat) := []
theorem loc_piles : ∀ x ∈ ln_piles, (defS (at1 P2 17)).names.lookup x = some .local := by decide +kernel
theorem nd_piles : ln_piles.Nodup := by decide +kernel
noncomputable def b_piles : { b : List Stmt // defB (at1 P2 17) = b } := ⟨[_, _, _, _], rfl⟩
noncomputable def s_piles (w : World) : { F : FM PF // ∀ L, Den (C2 w) 3 (FI.fn fd338 338 ln_piles cn_piles L) RFl (execs (defB (at1 P2 17)) (callEnvC fd338 L 338)) F } := ⟨_, fun L => by
  have ok : FI.Ok (FI.fn fd338 338 ln_piles cn_piles L) := ok_fn (fd := fd338) rfl rfl rfl loc_piles nd_piles
  rw [b_piles.2]
  exact (Zb (den_swap (names := [Str.ofString "piles", Str.ofString "dealt"]) (Yl (Zc (den_listcomp (cl := []) ⟨by kernel_rfl, by decide +kernel, rfl, by decide +kernel⟩ rfl rfl (denc_one (cl := []) (ln := [Str.ofString "figure"]) ⟨by kernel_rfl, by decide +kernel, rfl, by decide +kernel⟩ (Yu (Zo ok (by kernel_rfl) (gn_range w) (bn_range w)) Z3 (Zc Zj Ze) opit_range) (fun C => (Zf (i := 0) (Zx ok rfl (Zn (by kernel_rfl) Zy) (by decide +kernel)) rfl)) (fun C => dents_nil) (fun C => (Zt (Zz (Zx ok rfl (Zn (by kernel_rfl) Zy) (by decide +kernel)) (by kernel_rfl) (gn__Accumulator w)) (Zk (a := 118) (by kernel_rfl)) (Zc (Za (i := 0) (Zx ok rfl (Zn (by kernel_rfl) Zy) (by decide +kernel)) rfl) Ze) ((k_make118 w).weak (by decide)))))) (Zc (Yj Ze) Ze))) (denbs_cons (Y0 (i := 3) ok rfl) (denbs_cons (Y0 (i := 2) ok rfl) denbs_nil)) (by kernel_rfl)) (Zb (den_for (denit_v (Za (i := 0) ok rfl)) (Zf (i := 4) ok rfl) (Zb (Yo (Zl (Zu (Za (i := 2) ok rfl) (Zp (Zt (Zz ok (by kernel_rfl) (gn__law_figure w)) (Zk (a := 333) (by kernel_rfl)) (Zc (Za (i := 4) ok rfl) (Zc (Za (i := 1) ok rfl) Ze)) ((k_figure w).ok.weak (by decide))) Zj op_subI)) (meth_linst (C := 118) (fv := .ref 62) (ty := "function") (by kernel_rfl)) (Zk (a := 62) (by kernel_rfl)) (Zc (den_slice (Za (i := 4) ok rfl) denp_none (denp_some Zj) denp_none) (Zc (den_slice (Za (i := 4) ok rfl) (denp_some Zj) denp_none denp_none) Ze)) ((k_ppush w).ok.weak (by decide))) (by kernel_rfl)) Zg)) (Zb (den_for (denit_v (Za (i := 2) ok rfl)) (Zf (i := 5) ok rfl) (Zb (Zh (Zl (Za (i := 5) ok rfl) (meth_linst (C := 118) (fv := .ref 78) (ty := "function") (by kernel_rfl)) (Zk (a := 78) (by kernel_rfl)) Ze ((k_ppop w).ok.weak (by decide))) (Zf (i := 6) ok rfl)) (Zb (den_while (N := fun _ => 20) (Zm (Za (i := 6) ok rfl) (Yl (Zc Zv (Zc Zv Ze))) op_neG) (Zb (Yo (Zl (Za (i := 3) ok rfl) (Yx F.slot_list_append F.type_list_append) Zi (Zc (Zp (Zu (Za (i := 6) ok rfl) Zj) (Zu (Za (i := 6) ok rfl) Zj) op_addG) Ze) op_append) (by kernel_rfl)) (Zb (Zh (Zl (Za (i := 5) ok rfl) (meth_linst (C := 118) (fv := .ref 78) (ty := "function") (by kernel_rfl)) (Zk (a := 78) (by kernel_rfl)) Ze ((k_ppop w).ok.weak (by decide))) (Zf (i := 6) ok rfl)) Zg))) Zg))) (Zb (Zs (Za (i := 3) ok rfl)) Zg))))⟩
theorem x_piles (w : World) : DefK (C2 w).K 338 fd338 (defB (at1 P2 17)) [Str.ofString "cards", Str.ofString "column"] ln_piles cn_piles := ⟨⟨⟨_, _, _, rfl⟩, by kernel_rfl, rfl, rfl, rfl, rfl⟩, rfl, fun L => rfl, by decide +kernel, by decide +kernel, by decide +kernel, loc_piles, by decide +kernel⟩
theorem r_piles (w : World) : FunK (C2 w) 4 (.ref 338) 2 [] (runK (2 + 0) [] [some 0, some 1, none, none, none, none, none] [] (s_piles w).1) := Yc (x_piles w) (dvs := []) (fun _ _ => .nil) rfl (by decide +kernel) (by decide +kernel) (fun s vs ws h1 h2 X => by
  obtain ⟨v0, v1, rfl⟩ := ln2 h1
  obtain rfl := ln0 h2
  exact BindsTo.of_eq (by kernel_rfl)) (s_piles w).2
noncomputable abbrev ln_line : List Str := [Str.ofString "lexer", Str.ofString "cards", Str.ofString "column", Str.ofString "dealt", Str.ofString "card", Str.ofString "figure", Str.ofString "turn"]
noncomputable abbrev cn_line : List (Str × Nat) := []
theorem loc_line : ∀ x ∈ ln_line, (defS (at1 P2 18)).names.lookup x = some .local := by decide +kernel
theorem nd_line : ln_line.Nodup := by decide +kernel
noncomputable def b_line : { b : List Stmt // defB (at1 P2 18) = b } := ⟨[_, _, _, _], rfl⟩
noncomputable def s_line (w : World) : { F : FM PF // ∀ L, Den (C2 w) 5 (FI.fn fd345 345 ln_line cn_line L) RFl (execs (defB (at1 P2 18)) (callEnvC fd345 L 345)) F } := ⟨_, fun L => by
  have ok : FI.Ok (FI.fn fd345 345 ln_line cn_line L) := ok_fn (fd := fd345) rfl rfl rfl loc_line nd_line
  rw [b_line.2]
  exact (Zb (Zh (Yj Ze) (Zf (i := 3) ok rfl)) (Zb (den_for (denit_v (Za (i := 1) ok rfl)) (Zf (i := 4) ok rfl) (Zb (Yo (Zl (Za (i := 0) ok rfl) (Z8 (C := 160) (fa := 157) (by kernel_rfl)) (Zk (a := 157) (by kernel_rfl)) (Zc (Za (i := 4) ok rfl) Ze) ((k_ptoken w).ok.weak (by decide))) (by kernel_rfl)) Zg)) (Zb (den_for (Yu (Zo ok (by kernel_rfl) (gn_range w) (bn_range w)) Z3 (Zc Zj (Zc Zj Ze)) opit_range) (Zf (i := 5) ok rfl) (Zb (den_for (Yu (Zo ok (by kernel_rfl) (gn_range w) (bn_range w)) Z3 (Zc (Zt (Zo ok (by kernel_rfl) (gn_len w) (bn_len w)) Zi (Zc (den_attr (Za (i := 0) ok rfl)) Ze) op_len) Ze) opit_range) (Zf (i := 6) ok rfl) (Zb (Zh (Zl (Za (i := 0) ok rfl) (Z8 (C := 160) (fa := 150) (by kernel_rfl)) (Zk (a := 150) (by kernel_rfl)) Ze ((k_token w).ok.weak (by decide))) (Zf (i := 4) ok rfl)) (Zb (den_if (Zm (Zt (Zz ok (by kernel_rfl) (gn__law_figure w)) (Zk (a := 333) (by kernel_rfl)) (Zc (Za (i := 4) ok rfl) (Zc (Za (i := 2) ok rfl) Ze)) ((k_figure w).ok.weak (by decide))) (Za (i := 5) ok rfl) op_eqG) (Zb (Yo (Zl (Za (i := 3) ok rfl) (Yx F.slot_list_append F.type_list_append) Zi (Zc (Za (i := 4) ok rfl) Ze) op_append) (by kernel_rfl)) Zg) (Zb (Yo (Zl (Za (i := 0) ok rfl) (Z8 (C := 160) (fa := 157) (by kernel_rfl)) (Zk (a := 157) (by kernel_rfl)) (Zc (Za (i := 4) ok rfl) Ze) ((k_ptoken w).ok.weak (by decide))) (by kernel_rfl)) Zg)) Zg))) Zg)) (Zb (Zs (Za (i := 3) ok rfl)) Zg))))⟩
theorem x_line (w : World) : DefK (C2 w).K 345 fd345 (defB (at1 P2 18)) [Str.ofString "lexer", Str.ofString "cards", Str.ofString "column"] ln_line cn_line := ⟨⟨⟨_, _, _, rfl⟩, by kernel_rfl, rfl, rfl, rfl, rfl⟩, rfl, fun L => rfl, by decide +kernel, by decide +kernel, by decide +kernel, loc_line, by decide +kernel⟩
theorem r_line (w : World) : FunK (C2 w) 6 (.ref 345) 3 [] (runK (3 + 0) [] [some 0, some 1, some 2, none, none, none, none] [] (s_line w).1) := Yc (x_line w) (dvs := []) (fun _ _ => .nil) rfl (by decide +kernel) (by decide +kernel) (fun s vs ws h1 h2 X => by
  obtain ⟨v0, v1, v2, rfl⟩ := ln3 h1
  obtain rfl := ln0 h2
  exact BindsTo.of_eq (by kernel_rfl)) (s_line w).2
noncomputable abbrev ln_table : List Str := [Str.ofString "cards", Str.ofString "column", Str.ofString "card"]
noncomputable abbrev cn_table : List (Str × Nat) := [(Str.ofString "table", 1)]
theorem loc_table : ∀ x ∈ ln_table, (defS (at1 P2 19)).names.lookup x = some .local := by decide +kernel
theorem nd_table : ln_table.Nodup := by decide +kernel
noncomputable def b_table : { b : List Stmt // defB (at1 P2 19) = b } := ⟨[_, _, _], rfl⟩
noncomputable def s_table (w : World) : { F : FM PF // ∀ L, Den (C2 w) 3 (FI.fn fd350 350 ln_table cn_table L) RFl (execs (defB (at1 P2 19)) (callEnvC fd350 L 350)) F } := ⟨_, fun L => by
  have ok : FI.Ok (FI.fn fd350 350 ln_table cn_table L) := ok_fn (fd := fd350) rfl rfl rfl loc_table nd_table
  rw [b_table.2]
  exact (Zb (Zh (Zt (Zz ok (by kernel_rfl) (gn_Headers w)) (Zk (a := 308) (by kernel_rfl)) (Zc (Yj Ze) Ze) ((k_make308 w).weak (by decide))) (dena_cell (i := 0) ok rfl (by kernel_rfl) (by kernel_rfl))) (Zb (den_for (denit_v (Za (i := 0) ok rfl)) (Zf (i := 2) ok rfl) (Zb (Yo (Zl (Yh (i := 0) ok rfl (by kernel_rfl) (.inl (by kernel_rfl))) (Z8 (C := 308) (fa := 305) (by kernel_rfl)) (Zk (a := 305) (by kernel_rfl)) (Zc (Zu (Za (i := 2) ok rfl) (Za (i := 1) ok rfl)) (Zc (Za (i := 2) ok rfl) Ze)) ((k_addh0 w).ok.weak (by decide))) (by kernel_rfl)) Zg)) (Zb (Zs (den_listcomp (cl := [(Str.ofString "table", L + 1)]) ⟨by kernel_rfl, by decide +kernel, rfl, by decide +kernel⟩ rfl rfl (denc_two (cl := [(Str.ofString "table", L + 1)]) (ln := [Str.ofString "letter", Str.ofString "card"]) ⟨by kernel_rfl, by decide +kernel, rfl, by decide +kernel⟩ (denit_v Zv) (fun C => (Zf (i := 0) (Zx ok rfl (Zn (by kernel_rfl) (Zn (by kernel_rfl) Zy)) (by decide +kernel)) rfl)) (fun C => dents_nil) (fun C => (denit_v (Zl (Yh (i := 0) (Zx ok rfl (Zn (by kernel_rfl) (Zn (by kernel_rfl) Zy)) (by decide +kernel)) rfl (by kernel_rfl) (.inl (by kernel_rfl))) (Z8 (C := 308) (fa := 247) (by kernel_rfl)) (Zk (a := 247) (by kernel_rfl)) (Zc (Za (i := 0) (Zx ok rfl (Zn (by kernel_rfl) (Zn (by kernel_rfl) Zy)) (by decide +kernel)) rfl) Ze) ((k_getall w).ok.weak (by decide))))) (fun C => (Zf (i := 1) (Zx ok rfl (Zn (by kernel_rfl) (Zn (by kernel_rfl) Zy)) (by decide +kernel)) rfl)) (fun C => dents_nil) (fun C => (Za (i := 1) (Zx ok rfl (Zn (by kernel_rfl) (Zn (by kernel_rfl) Zy)) (by decide +kernel)) rfl))))) Zg)))⟩
theorem x_table (w : World) : DefK (C2 w).K 350 fd350 (defB (at1 P2 19)) [Str.ofString "cards", Str.ofString "column"] ln_table cn_table := ⟨⟨⟨_, _, _, rfl⟩, by kernel_rfl, rfl, rfl, rfl, rfl⟩, rfl, fun L => rfl, by decide +kernel, by decide +kernel, by decide +kernel, loc_table, by decide +kernel⟩
theorem r_table (w : World) : FunK (C2 w) 4 (.ref 350) 2 [] (runK (2 + 0) [] [some 0, some 1, none] [none] (s_table w).1) := Yc (x_table w) (dvs := []) (fun _ _ => .nil) rfl (by decide +kernel) (by decide +kernel) (fun s vs ws h1 h2 X => by
  obtain ⟨v0, v1, rfl⟩ := ln2 h1
  obtain rfl := ln0 h2
  exact BindsTo.of_eq (by kernel_rfl)) (s_table w).2
noncomputable abbrev ln_frac : List Str := [Str.ofString "card", Str.ofString "column", Str.ofString "kinds", Str.ofString "above", Str.ofString "below", Str.ofString "place", Str.ofString "share"]
noncomputable abbrev cn_frac : List (Str × Nat) := []
theorem loc_frac : ∀ x ∈ ln_frac, (defS (at1 P2 20)).names.lookup x = some .local := by decide +kernel
theorem nd_frac : ln_frac.Nodup := by decide +kernel
noncomputable def b_frac : { b : List Stmt // defB (at1 P2 20) = b } := ⟨[_, _, _], rfl⟩
noncomputable def s_frac (w : World) : { F : FM PF // ∀ L, Den (C2 w) 2 (FI.fn fd357 357 ln_frac cn_frac L) RFl (execs (defB (at1 P2 20)) (callEnvC fd357 L 357)) F } := ⟨_, fun L => by
  have ok : FI.Ok (FI.fn fd357 357 ln_frac cn_frac L) := ok_fn (fd := fd357) rfl rfl rfl loc_frac nd_frac
  rw [b_frac.2]
  exact (Zb (den_swap (names := [Str.ofString "above", Str.ofString "below"]) (Yl (Zc (Zt (Zz ok (by kernel_rfl) (gn__law_figure w)) (Zk (a := 333) (by kernel_rfl)) (Zc (Za (i := 0) ok rfl) (Zc Zj Ze)) ((k_figure w).ok.weak (by decide))) (Zc Zj Ze))) (denbs_cons (Y0 (i := 4) ok rfl) (denbs_cons (Y0 (i := 3) ok rfl) denbs_nil)) (by kernel_rfl)) (Zb (den_for (Yu (Zo ok (by kernel_rfl) (gn_range w) (bn_range w)) Z3 (Zc Zj (Zc (Zp (Za (i := 1) ok rfl) Zj op_subI) (Zc (den_unary Zj op_negI) Ze))) opit_range) (Zf (i := 5) ok rfl) (Zb (Zh (den_ifexp (Zm (Zu (Za (i := 2) ok rfl) (Za (i := 5) ok rfl)) Zj op_eqG) (Za (i := 4) ok rfl) (den_unary (Za (i := 4) ok rfl) op_negI)) (Zf (i := 6) ok rfl)) (Zb (den_swap (names := [Str.ofString "above", Str.ofString "below"]) (Yl (Zc (Zp (Zp (Zt (Zz ok (by kernel_rfl) (gn__law_figure w)) (Zk (a := 333) (by kernel_rfl)) (Zc (Za (i := 0) ok rfl) (Zc (Za (i := 5) ok rfl) Ze)) ((k_figure w).ok.weak (by decide))) (Za (i := 3) ok rfl) op_mulI) (Za (i := 6) ok rfl) op_addG) (Zc (Za (i := 3) ok rfl) Ze))) (denbs_cons (Y0 (i := 4) ok rfl) (denbs_cons (Y0 (i := 3) ok rfl) denbs_nil)) (by kernel_rfl)) Zg))) (Zb (Zs (Yl (Zc (Za (i := 3) ok rfl) (Zc (Za (i := 4) ok rfl) Ze)))) Zg)))⟩
theorem x_frac (w : World) : DefK (C2 w).K 357 fd357 (defB (at1 P2 20)) [Str.ofString "card", Str.ofString "column", Str.ofString "kinds"] ln_frac cn_frac := ⟨⟨⟨_, _, _, rfl⟩, by kernel_rfl, rfl, rfl, rfl, rfl⟩, rfl, fun L => rfl, by decide +kernel, by decide +kernel, by decide +kernel, loc_frac, by decide +kernel⟩
theorem r_frac (w : World) : FunK (C2 w) 3 (.ref 357) 3 [] (runK (3 + 0) [] [some 0, some 1, some 2, none, none, none, none] [] (s_frac w).1) := Yc (x_frac w) (dvs := []) (fun _ _ => .nil) rfl (by decide +kernel) (by decide +kernel) (fun s vs ws h1 h2 X => by
  obtain ⟨v0, v1, v2, rfl⟩ := ln3 h1
  obtain rfl := ln0 h2
  exact BindsTo.of_eq (by kernel_rfl)) (s_frac w).2
noncomputable def fracR (w : World) : List PV → SM PV := runK (3 + 0) [] [some 0, some 1, some 2, none, none, none, none] [] (s_frac w).1
theorem k_frac (w : World) : FunK (C2 w) 3 (.ref 357) 3 [] (fracR w) := r_frac w
noncomputable abbrev ln_due : List Str := [Str.ofString "cards", Str.ofString "fractions", Str.ofString "turned", Str.ofString "due", Str.ofString "spot", Str.ofString "above", Str.ofString "below", Str.ofString "ahead", Str.ofString "other", Str.ofString "over", Str.ofString "under", Str.ofString "less"]
noncomputable abbrev cn_due : List (Str × Nat) := [(Str.ofString "kinds", 2), (Str.ofString "column", 1)]
theorem loc_due : ∀ x ∈ ln_due, (defS (at1 P2 21)).names.lookup x = some .local := by decide +kernel
theorem nd_due : ln_due.Nodup := by decide +kernel
noncomputable def b_due : { b : List Stmt // defB (at1 P2 21) = b } := ⟨[_, _, _, _, _], rfl⟩
noncomputable def s_due (w : World) : { F : FM PF // ∀ L, Den (C2 w) 3 (FI.fn fd362 362 ln_due cn_due L) RFl (execs (defB (at1 P2 21)) (callEnvC fd362 L 362)) F } := ⟨_, fun L => by
  have ok : FI.Ok (FI.fn fd362 362 ln_due cn_due L) := ok_fn (fd := fd362) rfl rfl rfl loc_due nd_due
  rw [b_due.2]
  exact (Zb (den_assign_comp (cl := [(Str.ofString "kinds", L + 2), (Str.ofString "column", L + 1)]) ⟨by kernel_rfl, by decide +kernel, rfl, by decide +kernel⟩ rfl rfl (denc_one (cl := [(Str.ofString "kinds", L + 2), (Str.ofString "column", L + 1)]) (ln := [Str.ofString "card"]) ⟨by kernel_rfl, by decide +kernel, rfl, by decide +kernel⟩ (denit_v (Za (i := 0) ok rfl)) (fun C => (Zf (i := 0) (Zx ok rfl (Zn (by kernel_rfl) Zy) (by decide +kernel)) rfl)) (fun C => dents_nil) (fun C => (Zt (Zz (Zx ok rfl (Zn (by kernel_rfl) Zy) (by decide +kernel)) (by kernel_rfl) (gn__law_fraction w)) (Zk (a := 357) (by kernel_rfl)) (Zc (Za (i := 0) (Zx ok rfl (Zn (by kernel_rfl) Zy) (by decide +kernel)) rfl) (Zc (Yh (i := 1) (Zx ok rfl (Zn (by kernel_rfl) Zy) (by decide +kernel)) rfl (by kernel_rfl) (.inl (by kernel_rfl))) (Zc (Yh (i := 0) (Zx ok rfl (Zn (by kernel_rfl) Zy) (by decide +kernel)) rfl (by kernel_rfl) (.inl (by kernel_rfl))) Ze))) ((k_frac w).ok.weak (by decide))))) (Zf (i := 1) ok rfl) (by kernel_rfl)) (Zb (Zh (Zp (Zl (den_listcomp (cl := [(Str.ofString "kinds", L + 2)]) ⟨by kernel_rfl, by decide +kernel, rfl, by decide +kernel⟩ rfl rfl (denc_one (cl := [(Str.ofString "kinds", L + 2)]) (ln := [Str.ofString "place"]) ⟨by kernel_rfl, by decide +kernel, rfl, by decide +kernel⟩ (Yu (Zo ok (by kernel_rfl) (gn_range w) (bn_range w)) Z3 (Zc (Yh (i := 1) ok rfl (by kernel_rfl) (.inl (by kernel_rfl))) (Zc Zj Ze)) opit_range) (fun C => (Zf (i := 0) (Zx ok rfl (Zn (by kernel_rfl) Zy) (by decide +kernel)) rfl)) (fun C => dents_nil) (fun C => (Zu (Yh (i := 0) (Zx ok rfl (Zn (by kernel_rfl) Zy) (by decide +kernel)) rfl (by kernel_rfl) (.inl (by kernel_rfl))) (Za (i := 0) (Zx ok rfl (Zn (by kernel_rfl) Zy) (by decide +kernel)) rfl))))) (Yx F.slot_list_count F.type_list_count) Zi (Zc Zj Ze) op_count) Zj op_modI) (Zf (i := 2) ok rfl)) (Zb (Zh (Zp (den_list (Zc Zv Ze)) (Zt (Zo ok (by kernel_rfl) (gn_len w) (bn_len w)) Zi (Zc (Za (i := 0) ok rfl) Ze) op_len) op_mulG) (Zf (i := 3) ok rfl)) (Zb (den_for (Yu (Zo ok (by kernel_rfl) (gn_enumerate w) (bn_enumerate w)) Z3 (Zc (Za (i := 1) ok rfl) Ze) opit_enum) (dena_tuple (Z7 (Zf (i := 4) ok rfl) (Z7 (dena_tuple (Z7 (Zf (i := 5) ok rfl) (Z7 (Zf (i := 6) ok rfl) denas_nil))) denas_nil))) (Zb (Zh Zj (Zf (i := 7) ok rfl)) (Zb (den_for (Yu (Zo ok (by kernel_rfl) (gn_enumerate w) (bn_enumerate w)) Z3 (Zc (Za (i := 1) ok rfl) Ze) opit_enum) (dena_tuple (Z7 (Zf (i := 8) ok rfl) (Z7 (dena_tuple (Z7 (Zf (i := 9) ok rfl) (Z7 (Zf (i := 10) ok rfl) denas_nil))) denas_nil))) (Zb (Zh (Zp (Zp (Za (i := 9) ok rfl) (Za (i := 6) ok rfl) op_mulI) (Zp (Za (i := 5) ok rfl) (Za (i := 10) ok rfl) op_mulI) op_subI) (Zf (i := 11) ok rfl)) (Zb (den_if (dent_boolop (dent_or_cons (Zm (Za (i := 11) ok rfl) Zj op_ltG) (dent_or_cons (dent_boolop (dent_and_cons (Zm (Za (i := 11) ok rfl) Zj op_eqG) (dent_and_cons (dent_value (Zu (Yl (Zc (den_compare (Za (i := 8) ok rfl) (Za (i := 4) ok rfl) op_ltG) (Zc (den_compare (Za (i := 8) ok rfl) (Za (i := 4) ok rfl) op_gtI) Ze))) (Za (i := 2) ok rfl))) dent_all_nil))) dent_all_nil))) (Zb (den_aug_local (i := 7) ok rfl Zj op_iaddG) Zg) Zg) Zg))) (Zb (den_setitem (Zu (Za (i := 0) ok rfl) (Za (i := 4) ok rfl)) (Za (i := 3) ok rfl) (Za (i := 7) ok rfl)) Zg)))) (Zb (Zs (Za (i := 3) ok rfl)) Zg)))))⟩
theorem x_due (w : World) : DefK (C2 w).K 362 fd362 (defB (at1 P2 21)) [Str.ofString "cards", Str.ofString "column", Str.ofString "kinds"] ln_due cn_due := ⟨⟨⟨_, _, _, rfl⟩, by kernel_rfl, rfl, rfl, rfl, rfl⟩, rfl, fun L => rfl, by decide +kernel, by decide +kernel, by decide +kernel, loc_due, by decide +kernel⟩
theorem r_due (w : World) : FunK (C2 w) 4 (.ref 362) 3 [] (runK (3 + 0) [] [some 0, none, none, none, none, none, none, none, none, none, none, none] [some 2, some 1] (s_due w).1) := Yc (x_due w) (dvs := []) (fun _ _ => .nil) rfl (by decide +kernel) (by decide +kernel) (fun s vs ws h1 h2 X => by
  obtain ⟨v0, v1, v2, rfl⟩ := ln3 h1
  obtain rfl := ln0 h2
  exact BindsTo.of_eq (by kernel_rfl)) (s_due w).2
noncomputable def sgs : List Nat := [97, 34, 92, 35, 32, 59, 61, 120, 88]
noncomputable def upB (n c : Nat) : Bool := n / (64 * 2 ^ c) % 2 != 0
noncomputable def lcv (up : Bool) (d : Nat) : Nat := (if up then 66 else 98) + d
noncomputable def lc (n c : Nat) : Nat := lcv (upB n c) (dg n c)
noncomputable def cdS (x : Cd) : Str := ⟨#[sgs.getD x.1 0, lc x.2 0, lc x.2 1, lc x.2 2]⟩
noncomputable abbrev cdP (x : Cd) : PV := .str (cdS x)
theorem dg_lt (n c : Nat) : dg n c < 4 := Nat.mod_lt _ (by decide)
theorem get_nat {i : Nat} (h : i < 1000) : (0 : Int) ≤ (i : Int) ∧ (i : Int) < 2 ^ 62 := ⟨by omega, by omega⟩
theorem getI_str {x : Str} {i u : Nat} (h : i < 1000) (e : x.cps[i]? = some u) (st : List AO) : getI (.str x) (inP i) st = some (.str (one u), st) := by
  simp only [getI, if_pos (get_nat h), Int.toNat_natCast, e]
theorem add_inP (a b : Nat) (st : List AO) : addG (inP a) (inP b) st = some (inP (a + b), st) := rfl
theorem cdS_at {x : Cd} {c : Nat} (h : 1 ≤ c) (h' : c ≤ 3) : (cdS x).cps[c]? = some (lc x.2 (c - 1)) := by
  match c, h, h' with
  | 1, _, _ => rfl
  | 2, _, _ => rfl
  | 3, _, _ => rfl
theorem low_lc : ∀ (up : Bool), ∀ d < 4, Txt.lower (one (lcv up d)) = one (98 + d) ∧ Builtin.Str.occurrences (Str.ofString "bcde") (one (98 + d)) 0 (Str.ofString "bcde").length 1 = [d] := by decide +kernel
noncomputable def figR (w : World) : List PV → SM PV := runK (2 + 0) [] [some 0, some 1] [] (s_figure w).1
theorem runK_eq {n : Nat} {dps : List PV} {li ci : List (Option Nat)} {F : FM PF} {ps : List PV} {st st' : List AO} {r : PF} {loc cel : List (Option PV)} (hn : ps.length = n) (h : F ⟨li.map fun o => o.bind fun i => (ps ++ dps)[i]?, ci.map fun o => o.bind fun i => (ps ++ dps)[i]?, st⟩ = some (r, ⟨loc, cel, st'⟩)) : runK n dps li ci F ps st = some (retOf r, st') := by
  exact Yr h hn
theorem fig_gen (w : World) {X : Str} {c d u : Nat} (hc : c < 1000) (hx : X.cps[c]? = some u) (l1 : Txt.lower (one u) = one (98 + d)) (l2 : Builtin.Str.occurrences (Str.ofString "bcde") (one (98 + d)) 0 (Str.ofString "bcde").length 1 = [d]) (st : List AO) : figR w [.str X, inP c] st = some (inP (2 + d), st) := by
  let E : ES := ⟨[some (.str X), some (inP c)], [], st⟩
  have run : (s_figure w).1 E = some (.ret (inP (2 + d)), E) := by
    simp only [s_figure]
    refine e_stop (e_bind (y := inP (2 + d)) (es₁ := E) (p_bin (p := inP 2) (q := inP d) rfl (p_meth (p := .str (Str.ofString "bcde")) (ps := [.str (one (98 + d))]) rfl rfl (p_cons (p_meth (p := .str (one u)) (ps := []) (p_bin (p := .str X) (q := inP c) rfl rfl (getI_str hc hx _)) rfl rfl ?_) rfl) ?_) (add_inP _ _ _)) rfl)
    · have := lower_len (x := one u) (by rw [l1]; show 1 ≤ 100; decide) st
      rw [l1] at this
      exact this
    · unfold strIndex
      dsimp only
      rw [l2]
  have h2 : [PV.str X, inP c].length = 2 + 0 := rfl
  have h3 := runK_eq (dps := []) (li := [some 0, some 1]) (ci := []) (ps := [PV.str X, inP c]) (st := st) h2 run
  exact h3
theorem fig_run (w : World) (x : Cd) {c : Nat} (h : 1 ≤ c) (h' : c ≤ 3) (st : List AO) : figR w [cdP x, inP c] st = some (inP (fig x c), st) := by
  obtain ⟨l1, l2⟩ := low_lc (upB x.2 (c - 1)) (dg x.2 (c - 1)) (dg_lt _ _)
  exact fig_gen w (by omega) (cdS_at h h') l1 l2 st
noncomputable def cdsOf : Nat → List Nat → List Cd
  | _, [] => []
  | k, n :: r => (k, n) :: cdsOf (k + 1) r
theorem cdsOf_enum : ∀ (k : Nat) (ns : List Nat), enumP k (ns.map inP) = (cdsOf k ns).map fun x => .tup [inP x.1, inP x.2]
  | _, [] => rfl
  | k, n :: r => by
    show _ :: enumP (k + 1) (r.map inP) = _
    rw [cdsOf_enum (k + 1) r]; rfl
theorem cdsOf_len : ∀ (k : Nat) (ns : List Nat), (cdsOf k ns).length = ns.length
  | _, [] => rfl
  | k, _ :: r => congrArg Nat.succ (cdsOf_len (k + 1) r)
theorem cdsOf_ge : ∀ (k : Nat) (ns : List Nat), ∀ x ∈ cdsOf k ns, k ≤ x.1 ∧ x.1 < k + ns.length
  | k, n :: r, x, m => by
    rcases List.mem_cons.mp m with rfl | m
    · exact ⟨Nat.le_refl _, by rw [List.length_cons]; show k < _; omega⟩
    · have := cdsOf_ge (k + 1) r x m
      rw [List.length_cons]; omega
theorem cdsOf_pair : ∀ (k : Nat) (ns : List Nat), (cdsOf k ns).Pairwise fun x y => x.1 < y.1
  | _, [] => .nil
  | k, n :: r => List.pairwise_cons.mpr ⟨fun y m => (cdsOf_ge (k + 1) r y m).1, cdsOf_pair (k + 1) r⟩
theorem div_nat {a b : Nat} (h : 0 < b) (h' : b < 1000000000) (st : List AO) : divI (inP a) (inP b) st = some (inP (a / b), st) := by
  have c : (b : Int) ≠ 0 ∧ (b : Int).natAbs < 1000000000 := ⟨by omega, by simpa using h'⟩
  show (if (b : Int) ≠ 0 ∧ (b : Int).natAbs < 1000000000 then some (PV.int ((a : Int).fdiv (b : Int)), st) else none) = _
  rw [if_pos c, Int.fdiv_eq_ediv_of_nonneg _ (by omega)]
  rfl
theorem mod_nat {a b : Nat} (h : 0 < b) (st : List AO) : modI (inP a) (inP b) st = some (inP (a % b), st) := by
  have c : (b : Int) ≠ 0 := by omega
  show (if (b : Int) ≠ 0 then some (PV.int ((a : Int).fmod (b : Int)), st) else none) = _
  rw [if_pos c, Int.fmod_eq_emod_of_nonneg _ (by omega)]
  rfl
theorem truth_nat (a : Nat) (st : List AO) : truthG (inP a) st = some (a != 0, st) := by
  show some (((a : Int) != 0), st) = _
  have : ((a : Int) != 0) = (a != 0) := by rw [Bool.eq_iff_iff]; simp
  rw [this]
theorem pow_nat {a i : Nat} (ha : a ≤ 10) (h : i ≤ 10) (st : List AO) : powI (inP a) (inP i) st = some (inP (a ^ i), st) := by
  have : ∀ a < 11, ∀ i < 11, (if 0 ≤ ((i : Nat) : Int) ∧ ((i : Nat) : Int) ≤ 1000000 ∧ ((a : Nat) : Int).natAbs < 2 ^ 64 then some (((a : Nat) : Int) ^ ((i : Nat) : Int).toNat) else none) = some ((a ^ i : Nat) : Int) := by decide +kernel
  have e := this a (by omega) i (by omega)
  unfold powI
  dsimp only
  split at e
  · rename_i hc
    rw [if_pos hc, Option.some.inj e]
  · exact nomatch e
theorem mul_nat {a b : Nat} (h : b < 1000000000) (st : List AO) : mulI (inP a) (inP b) st = some (inP (a * b), st) := by
  show (if (b : Int).natAbs < 2 ^ 60 then some (PV.int ((a : Int) * (b : Int)), st) else none) = _
  rw [if_pos (by omega)]
  rfl
theorem sub_nat {a b : Nat} (h : b ≤ a) (st : List AO) : subI (inP a) (inP b) st = some (inP (a - b), st) := by
  show some (PV.int ((a : Int) - (b : Int)), st) = _
  rw [← Int.ofNat_sub h]
noncomputable abbrev E7c (a0 a1 a2 : Option PV) (n : Nat) (t c l : Option PV) (S : List AO) : ES := ⟨[a0, a1, a2, some (inP n), t, c, l], [], S⟩
noncomputable def cB : FM PF := seqE (bindE (iteE (bindE (bindE (bindE (getL 3) fun p => bindE (bindE (pureE (PV.int 64)) fun p => bindE (bindE (pureE (PV.int 2)) fun p => bindE (getL 5) fun q => liftS (powI p q)) fun q => liftS (mulI p q)) fun q => liftS (divI p q)) fun p => bindE (pureE (PV.int 2)) fun q => liftS (modI p q)) fun p => liftS (truthG p)) (pureE (PV.str (Str.ofString "BCDE"))) (pureE (PV.str (Str.ofString "bcde")))) fun p => bindE (setL 6 p) fun x => pureE PF.next) (seqE (augE (getL 4) (bindE (getL 6) fun p => bindE (bindE (bindE (getL 3) fun p => bindE (bindE (pureE (PV.int 4)) fun p => bindE (getL 5) fun q => liftS (powI p q)) fun q => liftS (divI p q)) fun p => bindE (pureE (PV.int 4)) fun q => liftS (modI p q)) fun q => liftS (getI p q)) iaddG (setL 4)) (pureE PF.next))
theorem let_at : ∀ (up : Bool), ∀ d < 4, (if up then Str.ofString "BCDE" else Str.ofString "bcde").cps[d]? = some (lcv up d) := by decide +kernel
theorem ite_str {b : Bool} {x y : Str} {es : ES} : (if b = true then pureE (PV.str x) else pureE (PV.str y)) es = some (PV.str (if b = true then x else y), es) := by
  cases b <;> rfl
theorem cB_run {a0 a1 a2 l : Option PV} {n c : Nat} (hc : c < 3) {t : Str} (ht : t.length ≤ 1000) (S : List AO) :
    ∃ l', cB (E7c a0 a1 a2 n (some (.str t)) (some (inP c)) l S) = some (.next, E7c a0 a1 a2 n (some (.str (t ++ one (lc n c)))) (some (inP c)) l' S) := by
  have p2 : 2 ^ c ≤ 4 := Nat.pow_le_pow_right (n := 2) (by decide) (show c ≤ 2 by omega)
  have p4 : 4 ^ c ≤ 16 := Nat.pow_le_pow_right (n := 4) (by decide) (show c ≤ 2 by omega)
  have q2 : 0 < 2 ^ c := Nat.pow_pos (by decide)
  have q4 : 0 < 4 ^ c := Nat.pow_pos (by decide)
  let L : Str := if upB n c then Str.ofString "BCDE" else Str.ofString "bcde"
  let E (t' l' : Option PV) : ES := E7c a0 a1 a2 n t' (some (inP c)) l' S
  refine ⟨some (.str L), ?_⟩
  unfold cB
  refine e_seq (es₁ := E (some (.str t)) (some (.str L))) (e_asg (p := .str L) (es₁ := E (some (.str t)) l) (e_ite (t := upB n c) (es₁ := E (some (.str t)) l) (p_lift (p := inP (n / (64 * 2 ^ c) % 2)) (p_bin (p := inP (n / (64 * 2 ^ c))) (q := inP 2) (p_bin (p := inP n) (q := inP (64 * 2 ^ c)) rfl (p_bin (p := inP 64) (q := inP (2 ^ c)) rfl (p_bin (p := inP 2) (q := inP c) rfl rfl (pow_nat (by decide) (by omega) _)) (mul_nat (by omega) _)) (div_nat (by omega) (by omega) _)) rfl (mod_nat (by decide) _)) (truth_nat _ _)) ?_) rfl) ?_
  · exact ite_str
  · refine e_seq (es₁ := E (some (.str (t ++ one (lc n c)))) (some (.str L))) (e_aug (p := .str t) (q := .str (one (lc n c))) (es₁ := E (some (.str t)) (some (.str L))) (es₂ := E (some (.str t)) (some (.str L))) rfl (p_bin (p := .str L) (q := inP (dg n c)) rfl (p_bin (p := inP (n / 4 ^ c)) (q := inP 4) (p_bin (p := inP n) (q := inP (4 ^ c)) rfl (p_bin (p := inP 4) (q := inP c) rfl rfl (pow_nat (by decide) (by omega) _)) (div_nat q4 (by omega) _)) rfl (mod_nat (by decide) _)) ?_) (aug_str _ _ ht) rfl) rfl
    exact getI_str (by have := dg_lt n c; omega) (let_at _ _ (dg_lt n c)) _
theorem its_at {X : FM (List PV)} {es : ES} {ps : List PV} {y : Its} {G : List PV → List AO → Option Its} (hx : X es = some (ps, es)) (hy : G ps es.st = some y) : bindE X (itsEs G) es = some (y, es) := by
  refine e_bind hx ?_
  unfold itsEs
  rw [hy]; rfl
theorem rg3 (st : List AO) : Z6 [.int 3] st = some ([0, 1, 2].map inP, fun _ => true) := by kernel_rfl
theorem rg4 (st : List AO) : Z6 [.int 4] st = some ([0, 1, 2, 3].map inP, fun _ => true) := by kernel_rfl
theorem rg26 (st : List AO) : Z6 [.int 2, .int 6] st = some ([2, 3, 4, 5].map inP, fun _ => true) := by kernel_rfl
theorem f_nil {S : PV → FM Unit} {B : FM PF} {es : ES} : Zw (fun _ => true) S B [] es = some (.next, es) := rfl
theorem f_cons {S : PV → FM Unit} {B : FM PF} {x : PV} {r : List PV} {es es₁ es₂ : ES} {q : Option (PF × ES)} (h1 : S x es = some ((), es₁)) (h2 : B es₁ = some (.next, es₂)) (h3 : Zw (fun _ => true) S B r es₂ = q) : Zw (fun _ => true) S B (x :: r) es = q := by
  show guardE (fun _ => true) (bindE (S x) fun _ => bindE B (loopK (Zw (fun _ => true) S B r))) es = q
  exact Z9 rfl (e_bind h1 (e_bind h2 h3))
theorem cB3 {a0 a1 a2 c l : Option PV} {n : Nat} {t : Str} (ht : t.length ≤ 900) (S : List AO) :
    ∃ l', forE (bindE (consE (pureE (PV.int 3)) (pureE [])) (itsEs Z6)) (setL 5) cB (E7c a0 a1 a2 n (some (.str t)) c l S) = some (.next, E7c a0 a1 a2 n (some (.str (t ++ one (lc n 0) ++ one (lc n 1) ++ one (lc n 2)))) (some (inP 2)) l' S) := by
  obtain ⟨l1, e1⟩ := cB_run (a0 := a0) (a1 := a1) (a2 := a2) (l := l) (n := n) (c := 0) (by decide) (t := t) (by omega) S
  obtain ⟨l2, e2⟩ := cB_run (a0 := a0) (a1 := a1) (a2 := a2) (l := l1) (n := n) (c := 1) (by decide) (t := t ++ one (lc n 0)) (by rw [len_app_one]; omega) S
  obtain ⟨l3, e3⟩ := cB_run (a0 := a0) (a1 := a1) (a2 := a2) (l := l2) (n := n) (c := 2) (by decide) (t := t ++ one (lc n 0) ++ one (lc n 1)) (by rw [len_app_one, len_app_one]; omega) S
  refine ⟨l3, e_bind (y := ([0, 1, 2].map inP, fun _ => true)) (es₁ := E7c a0 a1 a2 n (some (.str t)) c l S) (its_at (ps := [.int 3]) rfl (rg3 S)) ?_⟩
  exact f_cons (es₁ := E7c a0 a1 a2 n (some (.str t)) (some (inP 0)) l S) rfl e1 (f_cons (es₁ := E7c a0 a1 a2 n (some (.str (t ++ one (lc n 0)))) (some (inP 1)) l1 S) rfl e2 (f_cons (es₁ := E7c a0 a1 a2 n (some (.str (t ++ one (lc n 0) ++ one (lc n 1)))) (some (inP 2)) l2 S) rfl e3 f_nil))
noncomputable def cO : FM PF := seqE (bindE (bindE (pureE (PV.str (Str.ofString "a\"\\# ;=xX"))) fun p => bindE (getL 2) fun q => liftS (getI p q)) fun p => bindE (setL 4 p) fun x => pureE PF.next) (seqE (forE (bindE (consE (pureE (PV.int 3)) (pureE [])) (itsEs Z6)) (setL 5) cB) (seqE (bindE (bindE (getL 1) fun p => guardE (isLst p) (bindE (consE (getL 4) (pureE [])) fun ps => liftS (appendG (p :: ps)))) fun x => pureE PF.next) (pureE PF.next)))
theorem sg_at {p : Nat} (h : p < 9) : (Str.ofString "a\"\\# ;=xX").cps[p]? = some (sgs.getD p 0) := by
  have : ∀ p < 9, (Str.ofString "a\"\\# ;=xX").cps[p]? = some (sgs.getD p 0) := by decide +kernel
  exact this p h
theorem cdS_eq (x : Cd) : one (sgs.getD x.1 0) ++ one (lc x.2 0) ++ one (lc x.2 1) ++ one (lc x.2 2) = cdS x := rfl
theorem cO_run {a0 t c l : Option PV} {x : Cd} (hx : x.1 < 9) {st : List AO} {done : List Cd} (hd : done.length ≤ 50) :
    ∃ l', cO (E7c a0 (some (.ref st.length)) (some (inP x.1)) x.2 t c l (st ++ [.list (done.map cdP)])) = some (.next, E7c a0 (some (.ref st.length)) (some (inP x.1)) x.2 (some (cdP x)) (some (inP 2)) l' (st ++ [.list ((done ++ [x]).map cdP)])) := by
  let S := st ++ [AO.list (done.map cdP)]
  let E (t c l : Option PV) (S : List AO) : ES := E7c a0 (some (.ref st.length)) (some (inP x.1)) x.2 t c l S
  obtain ⟨l', e⟩ := cB3 (a0 := a0) (a1 := some (.ref st.length)) (a2 := some (inP x.1)) (c := c) (l := l) (n := x.2) (t := one (sgs.getD x.1 0)) (by show 1 ≤ 900; decide) S
  refine ⟨l', ?_⟩
  unfold cO
  refine e_seq (es₁ := E (some (.str (one (sgs.getD x.1 0)))) c l S) (e_asg (p := .str (one (sgs.getD x.1 0))) (es₁ := E t c l S) (p_bin (p := .str (Str.ofString "a\"\\# ;=xX")) (q := inP x.1) rfl rfl (getI_str (by omega) (sg_at hx) _)) rfl) ?_
  refine e_seq e ?_
  rw [cdS_eq]
  have hg : S[st.length]? = some (.list (done.map cdP)) := Z5 _ _
  refine e_seq (es₁ := E (some (cdP x)) (some (inP 2)) l' (st ++ [.list ((done ++ [x]).map cdP)])) (e_expr (p := .none) (e_meth (p := .ref st.length) (es₁ := E (some (cdP x)) (some (inP 2)) l' S) (es₂ := E (some (cdP x)) (some (inP 2)) l' S) (ps := [cdP x]) rfl (isLst_ref hg) (p_cons rfl rfl) ?_)) rfl
  rw [append_ref hg (by rw [List.length_map]; omega), set_app0, List.map_append]
  rfl
noncomputable def cardsR (w : World) : List PV → SM PV := runK (1 + 0) [] [some 0, none, none, none, none, none, none] [] (s_cards w).1
theorem cards_run (w : World) {ns : List Nat} (hn : ns.length ≤ 9) (st : List AO) : cardsR w [.lst (ns.map inP)] st = some (.ref st.length, st ++ [.list ((cdsOf 0 ns).map cdP)]) := by
  let E : ES := ⟨[some (.lst (ns.map inP)), some (.ref st.length), none, none, none, none, none], [], st ++ [.list []]⟩
  have loop : ∀ (r done : List Cd) (a2 a3 t c l : Option PV), done ++ r = cdsOf 0 ns → ∃ a2' a3' t' c' l', Zw (fun _ => true) (unpackE 2 (asCons (setL 2) (asCons (setL 3) asNil))) cO (r.map fun x => .tup [inP x.1, inP x.2]) ⟨[some (.lst (ns.map inP)), some (.ref st.length), a2, a3, t, c, l], [], st ++ [.list (done.map cdP)]⟩ = some (.next, ⟨[some (.lst (ns.map inP)), some (.ref st.length), a2', a3', t', c', l'], [], st ++ [.list ((cdsOf 0 ns).map cdP)]⟩) := by
    intro r
    induction r with
    | nil => intro done a2 a3 t c l h; rw [List.append_nil] at h; subst h; exact ⟨a2, a3, t, c, l, rfl⟩
    | cons x r ih =>
      intro done a2 a3 t c l h
      have hm := cdsOf_ge 0 ns x (by rw [← h]; simp)
      have hl : done.length ≤ 50 := by
        have := congrArg List.length h
        rw [List.length_append, cdsOf_len] at this; omega
      obtain ⟨l', e⟩ := cO_run (a0 := some (.lst (ns.map inP))) (t := t) (c := c) (l := l) (x := x) (by omega) (st := st) (done := done) hl
      obtain ⟨b2, b3, b4, b5, b6, e2⟩ := ih (done ++ [x]) (some (inP x.1)) (some (inP x.2)) (some (cdP x)) (some (inP 2)) l' (by rw [List.append_assoc]; exact h)
      have hs : unpackE 2 (asCons (setL 2) (asCons (setL 3) asNil)) (.tup [inP x.1, inP x.2]) ⟨[some (.lst (ns.map inP)), some (.ref st.length), a2, a3, t, c, l], [], st ++ [.list (done.map cdP)]⟩ = some ((), ⟨[some (.lst (ns.map inP)), some (.ref st.length), some (inP x.1), some (inP x.2), t, c, l], [], st ++ [.list (done.map cdP)]⟩) := rfl
      have hf := f_cons hs e e2
      exact ⟨b2, b3, b4, b5, b6, hf⟩
  obtain ⟨b2, b3, b4, b5, b6, e⟩ := loop (cdsOf 0 ns) [] none none none none none rfl
  have run : (s_cards w).1 ⟨[some (.lst (ns.map inP)), none, none, none, none, none, none], [], st⟩ = some (.ret (.ref st.length), ⟨[some (.lst (ns.map inP)), some (.ref st.length), b2, b3, b4, b5, b6], [], st ++ [.list ((cdsOf 0 ns).map cdP)]⟩) := by
    simp only [s_cards]
    refine e_seq (es₁ := E) rfl (e_seq (e_bind (y := ((cdsOf 0 ns).map fun x : Cd => PV.tup [inP x.1, inP x.2], fun _ => true)) (es₁ := E) (its_at (ps := [.lst (ns.map inP)]) rfl ?_) e) rfl)
    show some (enumP 0 (ns.map inP), _) = _
    rw [cdsOf_enum]
  have h2 : [PV.lst (ns.map inP)].length = 1 + 0 := rfl
  have h3 := runK_eq (dps := []) (li := [some 0, none, none, none, none, none, none]) (ci := []) (ps := [PV.lst (ns.map inP)]) (st := st) h2 run
  exact h3
noncomputable def IsL (p : PV) (l : List Cd) (st : List AO) : Prop := p = .lst (l.map cdP) ∨ ∃ i, p = .ref i ∧ st[i]? = some (.list (l.map cdP))
theorem IsL.app {p : PV} {l : List Cd} {st : List AO} (h : IsL p l st) (X : List AO) : IsL p l (st ++ X) := by
  rcases h with h | ⟨i, h, e⟩
  · exact .inl h
  · exact .inr ⟨i, h, by rw [List.getElem?_append_left (lt_of e)]; exact e⟩
theorem IsL.its {p : PV} {l : List Cd} {st : List AO} (h : IsL p l st) : ∃ chk, itsV p st = some (l.map cdP, chk) ∧ ∀ st', IsL p l st' → chk st' = true := by
  rcases h with rfl | ⟨i, rfl, e⟩
  · exact ⟨fun _ => true, rfl, fun _ _ => rfl⟩
  · refine ⟨_, itsV_ref e, fun st' h' => ?_⟩
    rcases h' with h' | ⟨i', h', e'⟩
    · exact nomatch h'
    · obtain rfl := PV.ref.inj h'
      exact chkL_of e'
theorem c_nil {chk : List AO → Bool} {S : PV → FM Unit} {B : FM PF} {es : ES} (h : chk es.st = true) : Zw chk S B [] es = some (.next, es) := Z9 h rfl
theorem c_cons {chk : List AO → Bool} {S : PV → FM Unit} {B : FM PF} {x : PV} {r : List PV} {es es₁ es₂ : ES} {q : Option (PF × ES)} (h : chk es.st = true) (h1 : S x es = some ((), es₁)) (h2 : B es₁ = some (.next, es₂)) (h3 : Zw chk S B r es₂ = q) : Zw chk S B (x :: r) es = q := by
  show guardE chk (bindE (S x) fun _ => bindE B (loopK (Zw chk S B r))) es = q
  exact Z9 h (e_bind h1 (e_bind h2 h3))
theorem e_for {I : FM Its} {S : PV → FM Unit} {B : FM PF} {es : ES} {xs : List PV} {chk : List AO → Bool} {q : Option (PF × ES)} (hi : I es = some ((xs, chk), es)) (h : Zw chk S B xs es = q) : forE I S B es = q := e_bind hi h
noncomputable def hdS (x : Cd) : Str := one (sgs.getD x.1 0)
noncomputable def tlS (x : Cd) : Str := ⟨#[lc x.2 0, lc x.2 1, lc x.2 2]⟩
noncomputable def tupP (x : Cd) : PV := .tup [.str (hdS x), .str (tlS x)]
theorem sl_hd (a b c d : Nat) : sliceS ⟨#[a, b, c, d]⟩ none (some 1) none = one a := by kernel_rfl
theorem sl_tl (a b c d : Nat) : sliceS ⟨#[a, b, c, d]⟩ (some 1) none none = ⟨#[b, c, d]⟩ := by kernel_rfl
theorem slice_hd (x : Cd) (st : List AO) : sliceG (cdP x) .none (.int 1) .none st = some (.str (hdS x), st) := by
  have e : sliceS (cdS x) none (some 1) none = hdS x := sl_hd ..
  show (if (some (1 : Int)) ≠ some 0 ∨ True then (if (sliceS (cdS x) none (some 1) none).length ≤ sizeLine then some (PV.str (sliceS (cdS x) none (some 1) none), st) else none) else none) = _
  rw [if_pos (.inr trivial), e, if_pos (Z0 (by show 1 ≤ 100; decide))]
theorem slice_tl (x : Cd) (st : List AO) : sliceG (cdP x) (.int 1) .none .none st = some (.str (tlS x), st) := by
  have e : sliceS (cdS x) (some 1) none none = tlS x := sl_tl ..
  show (if (some (1 : Int)) ≠ some 0 ∨ True then (if (sliceS (cdS x) (some 1) none none).length ≤ sizeLine then some (PV.str (sliceS (cdS x) (some 1) none none), st) else none) else none) = _
  rw [if_pos (.inr trivial), e, if_pos (Z0 (by show 3 ≤ 100; decide))]
noncomputable abbrev lnA (f : Nat) (l : List Cd) : AO := .linst 118 (kvA f) (l.map tupP)
noncomputable def PS (st : List AO) (P : Nat → List Cd) (D : List Cd) : List AO := st ++ [lnA 0 (P 0), lnA 1 (P 1), lnA 2 (P 2), lnA 3 (P 3), .list (D.map cdP)]
noncomputable def updP (P : Nat → List Cd) (f : Nat) (l : List Cd) : Nat → List Cd := fun g => if g = f then l else P g
theorem PS_get {st : List AO} {P : Nat → List Cd} {D : List Cd} {f : Nat} (h : f < 4) : (PS st P D)[st.length + f]? = some (lnA f (P f)) := by
  unfold PS
  rw [Yi]
  match f, h with
  | 0, _ | 1, _ | 2, _ | 3, _ => rfl
theorem PS_getD {st : List AO} {P : Nat → List Cd} {D : List Cd} : (PS st P D)[st.length + 4]? = some (.list (D.map cdP)) := Yi _ _ 4
theorem PS_set {st : List AO} {P : Nat → List Cd} {D : List Cd} {f : Nat} (h : f < 4) (l : List Cd) : (PS st P D).set (st.length + f) (lnA f l) = PS st (updP P f l) D := by
  unfold PS
  rw [set_app]
  match f, h with
  | 0, _ | 1, _ | 2, _ | 3, _ => rfl
theorem PS_setD {st : List AO} {P : Nat → List Cd} {D D' : List Cd} : (PS st P D).set (st.length + 4) (.list (D'.map cdP)) = PS st P D' := set_app _ _ 4 _
theorem no_push (f : Int) : kvGet (kvA f) (Str.ofString "push") = none := by kernel_rfl
theorem no_pop (f : Int) : kvGet (kvA f) (Str.ofString "pop") = none := by kernel_rfl
theorem isLinst_at {st : List AO} {i : Nat} {f : Int} {xs : List PV} {name : Str} (h : st[i]? = some (.linst 118 (kvA f) xs)) (hn : kvGet (kvA f) name = none) : isLinst 118 name (.ref i) st = true := pikB_of ⟨_, _, _, rfl, h, hn⟩
noncomputable abbrev pilesL (n : Nat) : PV := .lst [.ref (n + 0), .ref (n + 1), .ref (n + 2), .ref (n + 3)]
theorem pilesL_at {n f : Nat} (h : f < 4) (st : List AO) : getI (pilesL n) (inP f) st = some (.ref (n + f), st) := by
  match f, h with
  | 0, _ | 1, _ | 2, _ | 3, _ => rfl
noncomputable def pB (w : World) : FM PF := seqE (bindE (bindE (bindE (getL 2) fun p => bindE (bindE (bindE (consE (getL 4) (consE (getL 1) (pureE []))) fun ps => liftS (figR w ps)) fun p => bindE (pureE (PV.int 2)) fun q => liftS (subI p q)) fun q => liftS (getI p q)) fun p => guardE (isLinst 118 (Str.ofString "push") p) (bindE (consE (bindE (getL 4) fun v => bindE (pureE PV.none) fun l => bindE (pureE (PV.int 1)) fun u => bindE (pureE PV.none) fun k => liftS (sliceG v l u k)) (consE (bindE (getL 4) fun v => bindE (pureE (PV.int 1)) fun l => bindE (pureE PV.none) fun u => bindE (pureE PV.none) fun k => liftS (sliceG v l u k)) (pureE []))) fun ps => liftS (pushR w (p :: ps)))) fun x => pureE PF.next) (pureE PF.next)
theorem fig_lt (x : Cd) (c : Nat) : fig x c - 2 < 4 ∧ 2 ≤ fig x c := by
  have := dg_lt x.2 (c - 1)
  unfold fig; omega
noncomputable abbrev E7p (p : PV) (c n : Nat) (l4 l5 l6 : Option PV) (S : List AO) : ES := ⟨[some p, some (inP c), some (pilesL n), some (.ref (n + 4)), l4, l5, l6], [], S⟩
theorem pB_run (w : World) {p : PV} {c : Nat} (h : 1 ≤ c) (h' : c ≤ 3) {x : Cd} {st : List AO} {P : Nat → List Cd} {D : List Cd} {l5 l6 : Option PV} (hz : (P (fig x c - 2)).length ≤ 100) :
    pB w (E7p p c st.length (some (cdP x)) l5 l6 (PS st P D)) = some (.next, E7p p c st.length (some (cdP x)) l5 l6 (PS st (updP P (fig x c - 2) (P (fig x c - 2) ++ [x])) D)) := by
  obtain ⟨f4, f2⟩ := fig_lt x c
  let E (S : List AO) : ES := E7p p c st.length (some (cdP x)) l5 l6 S
  have hg := PS_get (st := st) (P := P) (D := D) f4
  unfold pB
  refine e_seq (es₁ := E (PS st (updP P (fig x c - 2) (P (fig x c - 2) ++ [x])) D)) (e_expr (p := .none) ?_) rfl
  refine e_meth (p := .ref (st.length + (fig x c - 2))) (es₁ := E (PS st P D)) (es₂ := E (PS st P D)) (ps := [.str (hdS x), .str (tlS x)]) (p_bin (p := pilesL st.length) (q := inP (fig x c - 2)) rfl (p_bin (p := inP (fig x c)) (q := inP 2) (p_call (ps := [cdP x, inP c]) (p_cons rfl (p_cons rfl rfl)) (fig_run w x h h' _)) rfl (sub_nat f2 _)) (pilesL_at f4 _)) (isLinst_at hg (no_push _)) (p_cons (e_bind (y := cdP x) (es₁ := E (PS st P D)) rfl (e_bind (y := .none) (es₁ := E (PS st P D)) rfl (e_bind (y := .int 1) (es₁ := E (PS st P D)) rfl (e_bind (y := .none) (es₁ := E (PS st P D)) rfl ?_)))) (p_cons (e_bind (y := cdP x) (es₁ := E (PS st P D)) rfl (e_bind (y := .int 1) (es₁ := E (PS st P D)) rfl (e_bind (y := .none) (es₁ := E (PS st P D)) rfl (e_bind (y := .none) (es₁ := E (PS st P D)) rfl ?_)))) rfl)) ?_
  · unfold liftS; rw [slice_hd]
  · unfold liftS; rw [slice_tl]
  · rw [push_run w hg (Z0 (by rw [List.length_map]; exact hz)), ← PS_set f4, lnA, List.map_append]; rfl
theorem p_loop (w : World) {p : PV} {c : Nat} (h : 1 ≤ c) (h' : c ≤ 3) {st : List AO} {cs : List Cd} (hp : IsL p cs st) {chk : List AO → Bool} (hchk : ∀ st', IsL p cs st' → chk st' = true) {l5 l6 : Option PV} :
    ∀ (r : List Cd) (P : Nat → List Cd) (l4 : Option PV), (∀ f, (P f).length + r.length ≤ 100) → ∃ l4', Zw chk (setL 4) (pB w) (r.map cdP) (E7p p c st.length l4 l5 l6 (PS st P [])) = some (.next, E7p p c st.length l4' l5 l6 (PS st (fun f => P f ++ same r c (f + 2)) []))
  | [], P, l4, _ => ⟨l4, (c_nil (hchk _ (hp.app _))).trans (by rw [show (fun f => P f ++ same [] c (f + 2)) = P from funext fun f => List.append_nil _])⟩
  | x :: r, P, l4, hz => by
    obtain ⟨f4, f2⟩ := fig_lt x c
    obtain ⟨l4', e⟩ := p_loop w h h' hp hchk r (updP P (fig x c - 2) (P (fig x c - 2) ++ [x])) (some (cdP x)) (fun f => by
      have := hz f
      have h2 := hz (fig x c - 2)
      unfold updP
      rw [List.length_cons] at this h2
      split
      · rw [List.length_append]; show _ + 1 + _ ≤ _; omega
      · omega)
    have hP : (fun f => updP P (fig x c - 2) (P (fig x c - 2) ++ [x]) f ++ same r c (f + 2)) = fun f => P f ++ same (x :: r) c (f + 2) := by
      funext f
      unfold updP same
      by_cases q : f = fig x c - 2
      · subst q
        rw [if_pos rfl, List.filter_cons_of_pos (by rw [beq_iff_eq]; omega), List.append_assoc]; rfl
      · rw [if_neg q, List.filter_cons_of_neg (by rw [beq_iff_eq]; omega)]
    rw [hP] at e
    have hs : setL 4 (cdP x) (E7p p c st.length l4 l5 l6 (PS st P [])) = some ((), E7p p c st.length (some (cdP x)) l5 l6 (PS st P [])) := rfl
    exact ⟨l4', c_cons (hchk _ (hp.app _)) hs (pB_run w h h' (by have := hz (fig x c - 2); rw [List.length_cons] at this; omega)) e⟩
noncomputable abbrev emT : PV := .tup [.str emS, .str emS]
noncomputable def wT : FM Bool := bindE (bindE (getL 6) fun p => bindE (bindE (consE (pureE (PV.str (Str.ofString ""))) (consE (pureE (PV.str (Str.ofString ""))) (pureE []))) tupE) fun q => liftS (neG p q)) fun p => liftS (truthG p)
noncomputable def popE (w : World) : FM PF := bindE (bindE (getL 5) fun p => guardE (isLinst 118 (Str.ofString "pop") p) (bindE (pureE []) fun ps => liftS (popR w (p :: ps)))) fun p => bindE (setL 6 p) fun x => pureE PF.next
noncomputable def wB (w : World) : FM PF := seqE (bindE (bindE (getL 3) fun p => guardE (isLst p) (bindE (consE (bindE (bindE (getL 6) fun p => bindE (pureE (PV.int 0)) fun q => liftS (getI p q)) fun p => bindE (bindE (getL 6) fun p => bindE (pureE (PV.int 1)) fun q => liftS (getI p q)) fun q => liftS (addG p q)) (pureE [])) fun ps => liftS (appendG (p :: ps)))) fun x => pureE PF.next) (seqE (popE w) (pureE PF.next))
noncomputable def oB (w : World) : FM PF := seqE (popE w) (seqE (fun es => whileE 20 wT (wB w) es) (pureE PF.next))
theorem sg_fin : ∀ k, sgs.getD k 0 < 128 := by
  intro k
  by_cases h : k < 9
  · have : ∀ k < 9, sgs.getD k 0 < 128 := by decide
    exact this k h
  · have : sgs.getD k 0 = 0 := by
      have hl : sgs.length = 9 := rfl
      rw [List.getD_eq_getElem?_getD, List.getElem?_eq_none (by omega)]; rfl
    omega
theorem lc_lt (n c : Nat) : lc n c < 128 ∧ 66 ≤ lc n c := by
  have := dg_lt n c
  unfold lc lcv
  split <;> omega
theorem ok_all {x : Str} (h : x.cps.all (· < 128) = true) : PyData.strOk x = true := by
  unfold PyData.strOk
  rw [Array.all_eq_true] at h ⊢
  intro i hi
  have := of_decide_eq_true (h i hi)
  simp
  omega
theorem hd_ok (x : Cd) : PyData.strOk (hdS x) = true := ok_all (by
  have h0 := sg_fin x.1
  show (#[sgs.getD x.1 0] : Array Nat).all _ = true
  rw [Array.all_eq_true']
  intro u hu
  rw [Array.mem_singleton] at hu
  subst hu
  exact decide_eq_true h0)
theorem tl_ok (x : Cd) : PyData.strOk (tlS x) = true := ok_all (by
  have h0 := (lc_lt x.2 0).1
  have h1 := (lc_lt x.2 1).1
  have h2 := (lc_lt x.2 2).1
  show (#[lc x.2 0, lc x.2 1, lc x.2 2] : Array Nat).all _ = true
  rw [Array.all_eq_true']
  intro u hu
  simp at hu
  rcases hu with rfl | rfl | rfl <;> exact decide_eq_true (by assumption))
theorem dat_tup2 {x y : Str} (hx : PyData.strOk x = true) (hy : PyData.strOk y = true) (st : List AO) : datS st (.tup [.str x, .str y]) = some (.tuple [.str x, .str y]) := by
  show (([PV.str x, PV.str y]).mapM (dat 5)).map PyData.tuple = _
  rw [show ([PV.str x, PV.str y]).mapM (dat 5) = some [PyData.str x, .str y] from by
    have := mapM_strs (fun x : Str => x) [x, y] (fun a m => by
      rcases List.mem_cons.mp m with rfl | m
      · exact hx
      · rw [List.mem_singleton.mp m]; exact hy)
    exact this]
  rfl
theorem em_ok : PyData.strOk emS = true := by decide +kernel
theorem ne_card (x : Cd) (st : List AO) : neG (tupP x) emT st = some (.bool true, st) := by
  unfold neG
  rw [show tupP x = .tup [.str (hdS x), .str (tlS x)] from rfl, dat_tup2 (hd_ok x) (tl_ok x), dat_tup2 em_ok em_ok]
  have : (hdS x == emS) = false := by
    rw [beq_eq_false_iff_ne]
    intro e
    have := congrArg (fun s : Str => s.cps.size) e
    have e2 : emS.cps.size = 0 := by decide +kernel
    have : (1 : Nat) = emS.cps.size := this
    omega
  simp [PyData.eqv, PyData.eqvAll, this]
theorem ne_em (st : List AO) : neG emT emT st = some (.bool false, st) := by
  unfold neG
  rw [dat_tup2 em_ok em_ok]
  have : (emS == emS) = true := by decide +kernel
  simp [PyData.eqv, PyData.eqvAll, this]
section
variable {w : World} {p : PV} {c f : Nat} {st : List AO} {P : Nat → List Cd} {D : List Cd} {l4 l6 : Option PV}
theorem wT_run {q : PV} {b : Bool} (hb : ∀ st, neG q emT st = some (.bool b, st)) {l5 : Option PV} {n : Nat} (S : List AO) : wT (E7p p c n l4 l5 (some q) S) = some (b, E7p p c n l4 l5 (some q) S) := by
  unfold wT
  exact p_lift (p := .bool b) (p_bin (p := q) (q := emT) rfl (p_tup2 rfl rfl) (hb _)) rfl
theorem upd_same (P : Nat → List Cd) (f : Nat) (l l' : List Cd) : updP (updP P f l) f l' = updP P f l' := by
  funext g; unfold updP; split <;> rfl
theorem upd_at (P : Nat → List Cd) (f : Nat) (l : List Cd) : updP P f l f = l := if_pos rfl
theorem popE_some (h : f < 4) {l : List Cd} {x : Cd} (hl : l.length ≤ 99) : popE w (E7p p c st.length l4 (some (.ref (st.length + f))) l6 (PS st (updP P f (l ++ [x])) D)) = some (.next, E7p p c st.length l4 (some (.ref (st.length + f))) (some (tupP x)) (PS st (updP P f l) D)) := by
  have hg := PS_get (st := st) (P := updP P f (l ++ [x])) (D := D) h
  rw [upd_at, lnA, List.map_append] at hg
  unfold popE
  refine e_asg (p := tupP x) (es₁ := E7p p c st.length l4 (some (.ref (st.length + f))) l6 (PS st (updP P f l) D)) ?_ rfl
  refine e_meth (p := .ref (st.length + f)) (es₁ := E7p p c st.length l4 (some (.ref (st.length + f))) l6 (PS st (updP P f (l ++ [x])) D)) (es₂ := E7p p c st.length l4 (some (.ref (st.length + f))) l6 (PS st (updP P f (l ++ [x])) D)) (ps := []) rfl (isLinst_at hg (no_pop _)) rfl ?_
  rw [pop_some w hg (Z0 (by rw [List.length_map]; omega)), show AO.linst 118 (kvA f) (l.map tupP) = lnA f l from rfl, PS_set h, upd_same]
theorem popE_none (h : f < 4) : popE w (E7p p c st.length l4 (some (.ref (st.length + f))) l6 (PS st (updP P f []) D)) = some (.next, E7p p c st.length l4 (some (.ref (st.length + f))) (some emT) (PS st (updP P f []) D)) := by
  have hg := PS_get (st := st) (P := updP P f []) (D := D) h
  rw [upd_at] at hg
  unfold popE
  refine e_asg (p := emT) (es₁ := E7p p c st.length l4 (some (.ref (st.length + f))) l6 (PS st (updP P f []) D)) ?_ rfl
  exact e_meth (p := .ref (st.length + f)) (es₁ := E7p p c st.length l4 (some (.ref (st.length + f))) l6 (PS st (updP P f []) D)) (es₂ := E7p p c st.length l4 (some (.ref (st.length + f))) l6 (PS st (updP P f []) D)) (ps := []) rfl (isLinst_at hg (no_pop _)) rfl (pop_none w hg)
theorem wB_run {l5 : Option PV} {x : Cd} {es : ES} (hD : D.length ≤ 99) (h : popE w (E7p p c st.length l4 l5 (some (tupP x)) (PS st P (D ++ [x]))) = some (.next, es)) : wB w (E7p p c st.length l4 l5 (some (tupP x)) (PS st P D)) = some (.next, es) := by
  let E (S : List AO) : ES := E7p p c st.length l4 l5 (some (tupP x)) S
  unfold wB
  refine e_seq (es₁ := E (PS st P (D ++ [x]))) (e_expr (p := .none) (e_meth (p := .ref (st.length + 4)) (es₁ := E (PS st P D)) (es₂ := E (PS st P D)) (ps := [cdP x]) rfl (isLst_ref PS_getD) (p_cons (p_bin (p := .str (hdS x)) (q := .str (tlS x)) (p_bin (p := tupP x) (q := .int 0) rfl rfl getI_tup2.1) (p_bin (p := tupP x) (q := .int 1) rfl rfl getI_tup2.2) ?_) rfl) ?_)) (e_seq h rfl)
  · show (if (hdS x).length + (tlS x).length ≤ sizeLine then some (PV.str (hdS x ++ tlS x), _) else none) = _
    rw [if_pos (Z0 (by show 1 + 3 ≤ 100; decide))]; rfl
  · rw [append_ref PS_getD (by rw [List.length_map]; omega), show D.map cdP ++ [cdP x] = (D ++ [x]).map cdP by rw [List.map_append]; rfl, PS_setD]
theorem w_loop (h : f < 4) : ∀ (rl : List Cd) (x : Cd) (D : List Cd) (m : Nat), D.length + rl.length ≤ 90 →
    whileE (m + rl.length + 2) wT (wB w) (E7p p c st.length l4 (some (.ref (st.length + f))) (some (tupP x)) (PS st (updP P f rl.reverse) D)) = some (.next, E7p p c st.length l4 (some (.ref (st.length + f))) (some emT) (PS st (updP P f []) (D ++ x :: rl)))
  | [], x, D, m, hz => e_bind (wT_run (ne_card x) _) (e_bind (wB_run (by omega) (popE_none h)) (e_bind (wT_run ne_em _) rfl))
  | y :: rl, x, D, m, hz => by
    rw [List.length_cons] at hz
    rw [List.reverse_cons]
    refine e_bind (wT_run (ne_card x) _) (e_bind (wB_run (by omega) (popE_some h (by rw [List.length_reverse]; omega))) ?_)
    have := w_loop h rl y (D ++ [x]) m (by rw [List.length_append]; show _ + 1 + _ ≤ _; omega)
    rw [List.append_assoc] at this
    exact this
theorem oB_run (h : f < 4) (hz : D.length + (P f).length ≤ 18) : ∃ q, oB w (E7p p c st.length l4 (some (.ref (st.length + f))) l6 (PS st P D)) = some (.next, E7p p c st.length l4 (some (.ref (st.length + f))) (some q) (PS st (updP P f []) (D ++ (P f).reverse))) := by
  have hP : P = updP P f (P f) := by
    funext g; unfold updP; split
    · rename_i e; rw [e]
    · rfl
  refine ⟨emT, ?_⟩
  unfold oB
  generalize hl : P f = l at *
  rw [hP]
  rcases List.eq_nil_or_concat l with rfl | ⟨l', x, rfl⟩
  · rw [upd_same, List.reverse_nil, List.append_nil]
    exact e_seq (popE_none h) (e_seq (e_bind (wT_run ne_em _) rfl) rfl)
  · rw [List.concat_eq_append] at hz ⊢
    rw [List.length_append, List.length_singleton] at hz
    rw [List.reverse_append]
    obtain ⟨m, hm⟩ : ∃ m, 20 = m + l'.reverse.length + 2 := ⟨18 - l'.length, by rw [List.length_reverse]; omega⟩
    have hw := w_loop (w := w) (p := p) (c := c) (st := st) (P := P) (l4 := l4) h l'.reverse x D m (by rw [List.length_reverse]; omega)
    rw [← hm, List.reverse_reverse] at hw
    rw [upd_same]
    exact e_seq (popE_some h (by omega)) (e_seq hw rfl)
end
noncomputable def pilesR (w : World) : List PV → SM PV := runK (2 + 0) [] [some 0, some 1, none, none, none, none, none] [] (s_piles w).1
theorem ci_nil {S : PV → FM Unit} {T : FM Bool} {B : List PV → FM (List PV)} {zs : List PV} {es : ES} : Zr (fun _ => true) S T B [] zs es = some (zs, es) := rfl
theorem ci_cons {S : PV → FM Unit} {B : List PV → FM (List PV)} {x : PV} {r zs zs' : List PV} {es es₁ es₂ : ES} {q : Option (List PV × ES)} (h1 : S x es = some ((), es₁)) (h2 : B zs es₁ = some (zs', es₂)) (h3 : Zr (fun _ => true) S (pureE true) B r zs' es₂ = q) : Zr (fun _ => true) S (pureE true) B (x :: r) zs es = q := by
  show guardE (fun _ => true) (bindE (S x) fun _ => bindE (pureE true) fun t => if t then bindE (B zs) fun zs' => Zr (fun _ => true) S (pureE true) B r zs' else Zr (fun _ => true) S (pureE true) B r zs) es = q
  exact Z9 rfl (e_bind h1 (e_bind (y := true) (es₁ := es₁) rfl (e_bind h2 h3)))
noncomputable def mkE : FM PV := bindE (consE (getL 0) (pureE [])) fun ps => liftS (make118G ps)
theorem mk_at {k : Nat} {st L : List AO} {zs : List PV} (hz : zs.length ≤ 100) : emitE mkE zs ⟨[some (inP k)], [], st ++ L⟩ = some (zs ++ [.ref (st.length + L.length)], ⟨[some (inP k)], [], st ++ (L ++ [lnA k []])⟩) := by
  refine emit_of ?_ hz
  refine e_bind (y := [inP k]) (es₁ := ⟨[some (inP k)], [], st ++ L⟩) rfl ?_
  have := Ys (es := ⟨[some (inP k)], [], st ++ L⟩) (make118_run k (st ++ L))
  rwa [List.length_append, List.append_assoc] at this
theorem mk4 {st : List AO} {loc : List (Option PV)} : compE 1 (bindE (consE (pureE (PV.int 4)) (pureE [])) (itsEs Z6)) (setL 0) (pureE true) (emitE mkE) ⟨loc, [], st⟩ = some ([.ref (st.length + 0), .ref (st.length + 1), .ref (st.length + 2), .ref (st.length + 3)], ⟨loc, [], st ++ [lnA 0 [], lnA 1 [], lnA 2 [], lnA 3 []]⟩) := by
  have h : Zr (fun _ => true) (setL 0) (pureE true) (emitE mkE) ([0, 1, 2, 3].map inP) [] ⟨[none], [], st ++ []⟩ = some ([.ref (st.length + 0), .ref (st.length + 1), .ref (st.length + 2), .ref (st.length + 3)], ⟨[some (inP 3)], [], st ++ [lnA 0 [], lnA 1 [], lnA 2 [], lnA 3 []]⟩) :=
    ci_cons (es₁ := ⟨[some (inP 0)], [], st ++ []⟩) rfl (mk_at (by decide)) (ci_cons (es₁ := ⟨[some (inP 1)], [], st ++ [lnA 0 []]⟩) rfl (mk_at (by show 1 ≤ 100; decide)) (ci_cons (es₁ := ⟨[some (inP 2)], [], st ++ [lnA 0 [], lnA 1 []]⟩) rfl (mk_at (by show 2 ≤ 100; decide)) (ci_cons (es₁ := ⟨[some (inP 3)], [], st ++ [lnA 0 [], lnA 1 [], lnA 2 []]⟩) rfl (mk_at (by show 3 ≤ 100; decide)) ci_nil)))
  rw [List.append_nil] at h
  unfold compE
  rw [its_at (ps := [.int 4]) (es := ⟨loc, [], st⟩) rfl (rg4 st)]
  dsimp only [List.replicate]
  rw [h]
theorem same_len (l : List Cd) (c f : Nat) : (same l c f).length ≤ l.length := List.length_filter_le ..
theorem same_sum (l : List Cd) (c : Nat) : (same l c 2).length + (same l c 3).length + (same l c 4).length + (same l c 5).length = l.length := by
  induction l with
  | nil => rfl
  | cons x l ih =>
    have h := fig_in x c
    unfold same at *
    simp only [List.filter_cons, List.length_cons]
    simp only [List.mem_cons, List.not_mem_nil, or_false] at h
    rcases h with h | h | h | h <;> rw [h] <;> simp <;> omega
theorem piles_run (w : World) {p : PV} {c : Nat} (h : 1 ≤ c) (h' : c ≤ 3) {st : List AO} {cs : List Cd} (hp : IsL p cs st) (hz : cs.length ≤ 9) :
    ∃ X, pilesR w [p, inP c] st = some (.ref (st.length + 4), st ++ X) ∧ IsL (.ref (st.length + 4)) (deal true c cs) (st ++ X) := by
  obtain ⟨chk, hi, hchk⟩ := hp.its
  let E0 : ES := ⟨[some p, some (inP c), none, none, none, none, none], [], st⟩
  let S0 := PS st (fun _ => []) []
  obtain ⟨l4, e1⟩ := p_loop w h h' hp hchk (l5 := none) (l6 := none) cs (fun _ => []) none (fun f => by show 0 + _ ≤ _; omega)
  have e1' := e_for (I := bindE (getL 0) (itsE itsV)) (es := E7p p c st.length none none none S0) (xs := cs.map cdP) (chk := chk) (e_bind (y := p) (es₁ := E7p p c st.length none none none S0) rfl (by
    unfold itsE
    obtain ⟨chk', hi', _⟩ := (hp.app [lnA 0 [], lnA 1 [], lnA 2 [], lnA 3 [], .list []]).its
    have : itsV p S0 = some (cs.map cdP, chk) := by
      rcases hp with rfl | ⟨i, rfl, e⟩
      · exact hi
      · rw [itsV_ref e] at hi
        rw [itsV_ref (st := S0) (xs := cs.map cdP) (by show (st ++ _)[i]? = _; rw [List.getElem?_append_left (lt_of e)]; exact e)]; exact hi
    rw [show (E7p p c st.length none none none S0).st = S0 from rfl, this]; rfl)) e1
  let P : Nat → List Cd := fun f => [] ++ same cs c (f + 2)
  have hs := same_sum cs c
  obtain ⟨q0, f0⟩ := oB_run (w := w) (p := p) (c := c) (f := 0) (st := st) (P := P) (D := []) (l4 := l4) (l6 := none) (by decide) (by show 0 + (same cs c 2).length ≤ 18; omega)
  let D1 := [] ++ (P 0).reverse
  obtain ⟨q1, f1⟩ := oB_run (w := w) (p := p) (c := c) (f := 1) (st := st) (P := updP P 0 []) (D := D1) (l4 := l4) (l6 := some q0) (by decide) (by show ([] ++ (same cs c 2).reverse).length + (same cs c 3).length ≤ 18; simp; omega)
  let D2 := D1 ++ (same cs c 3).reverse
  obtain ⟨q2, f2⟩ := oB_run (w := w) (p := p) (c := c) (f := 2) (st := st) (P := updP (updP P 0 []) 1 []) (D := D2) (l4 := l4) (l6 := some q1) (by decide) (by show (([] ++ (same cs c 2).reverse) ++ (same cs c 3).reverse).length + (same cs c 4).length ≤ 18; simp; omega)
  let D3 := D2 ++ (same cs c 4).reverse
  obtain ⟨q3, f3⟩ := oB_run (w := w) (p := p) (c := c) (f := 3) (st := st) (P := updP (updP (updP P 0 []) 1 []) 2 []) (D := D3) (l4 := l4) (l6 := some q2) (by decide) (by show ((([] ++ (same cs c 2).reverse) ++ (same cs c 3).reverse) ++ (same cs c 4).reverse).length + (same cs c 5).length ≤ 18; simp; omega)
  let D4 := D3 ++ (same cs c 5).reverse
  let PF4 := updP (updP (updP (updP P 0 []) 1 []) 2 []) 3 []
  have hD : D4 = deal true c cs := by
    show ((([] ++ (same cs c 2).reverse) ++ (same cs c 3).reverse) ++ (same cs c 4).reverse) ++ (same cs c 5).reverse = (same cs c 2).reverse ++ ((same cs c 3).reverse ++ ((same cs c 4).reverse ++ ((same cs c 5).reverse ++ [])))
    simp only [List.nil_append, List.append_assoc, List.append_nil]
  have hg : ∀ (l5 l6 : Option PV) (P : Nat → List Cd) (D : List Cd) (i : Nat), setL 5 (.ref (st.length + i)) (E7p p c st.length l4 l5 l6 (PS st P D)) = some ((), E7p p c st.length l4 (some (.ref (st.length + i))) l6 (PS st P D)) := fun _ _ _ _ _ => rfl
  have e2 : Zw (fun _ => true) (setL 5) (oB w) [.ref (st.length + 0), .ref (st.length + 1), .ref (st.length + 2), .ref (st.length + 3)] (E7p p c st.length l4 none none (PS st P [])) = some (.next, E7p p c st.length l4 (some (.ref (st.length + 3))) (some q3) (PS st PF4 D4)) :=
    f_cons (hg _ _ _ _ _) f0 (f_cons (hg _ _ _ _ _) f1 (f_cons (hg _ _ _ _ _) f2 (f_cons (hg _ _ _ _ _) f3 f_nil)))
  have run : (s_piles w).1 E0 = some (.ret (.ref (st.length + 4)), E7p p c st.length l4 (some (.ref (st.length + 3))) (some q3) (PS st PF4 D4)) := by
    simp only [s_piles]
    refine e_seq (es₁ := E7p p c st.length none none none S0) (e_asg (p := .tup [pilesL st.length, .ref (st.length + 4)]) (es₁ := ⟨[some p, some (inP c), none, none, none, none, none], [], S0⟩) ?_ rfl) ?_
    · refine e_tup (e_cons (es₁ := ⟨[some p, some (inP c), none, none, none, none, none], [], st ++ [lnA 0 [], lnA 1 [], lnA 2 [], lnA 3 []]⟩) (e_lst mk4) (e_cons (p := .ref (st.length + 4)) (es₁ := ⟨[some p, some (inP c), none, none, none, none, none], [], S0⟩) (e_bind (y := []) (es₁ := ⟨[some p, some (inP c), none, none, none, none, none], [], st ++ [lnA 0 [], lnA 1 [], lnA 2 [], lnA 3 []]⟩) rfl ?_) rfl)) two_sz
      unfold newE
      refine (if_pos (Nat.zero_le _)).trans ?_
      show some (PV.ref (st ++ [lnA 0 [], lnA 1 [], lnA 2 [], lnA 3 []]).length, (⟨_, _, (st ++ [lnA 0 [], lnA 1 [], lnA 2 [], lnA 3 []]) ++ [AO.list []]⟩ : ES)) = _
      rw [List.length_append, List.append_assoc]
      rfl
    refine e_seq e1' (e_seq (e_for (xs := [.ref (st.length + 0), .ref (st.length + 1), .ref (st.length + 2), .ref (st.length + 3)]) (chk := fun _ => true) (e_bind (y := pilesL st.length) (es₁ := E7p p c st.length l4 none none (PS st P [])) rfl rfl) e2) rfl)
  have h2 : [p, inP c].length = 2 + 0 := rfl
  have h3 := runK_eq (dps := []) (li := [some 0, some 1, none, none, none, none, none]) (ci := []) (ps := [p, inP c]) (st := st) h2 run
  refine ⟨_, h3, .inr ⟨_, rfl, ?_⟩⟩
  rw [← hD]
  exact PS_getD
theorem rg_fin : ∀ n < 41, Builtin.Range.small 0 ((n : Nat) : Int) 1 = true ∧ (Builtin.Range.rangeSize 0 ((n : Nat) : Int) 1).toNat = n := by decide +kernel
theorem its_range (n : Nat) (h : n < 41) (st : List AO) : Z6 [inP n] st = some ((List.range n).map inP, fun _ => true) := by
  have h1 := (rg_fin n h).1
  have h2 : rangeP 0 (n : Int) 1 = (List.range n).map inP := by
    unfold rangeP
    rw [(rg_fin n h).2]
    refine List.map_congr_left fun i _ => ?_
    show PV.int (0 + (i : Int) * 1) = PV.int i
    rw [Int.mul_one, Int.zero_add]
  unfold Z6
  simp only [h1, h2, if_true]
theorem eq_nat (a b : Nat) (st : List AO) : eqG (inP a) (inP b) st = some (.bool (a == b), st) := by
  show some (PV.bool (PyData.eqv (.int (a : Int)) (.int (b : Int))), st) = _
  have : PyData.eqv (.int (a : Int)) (.int (b : Int)) = (a == b) := by
    unfold PyData.eqv
    rw [Bool.eq_iff_iff, beq_iff_eq, beq_iff_eq]
    omega
  rw [this]
theorem get_pt (n : Int) (p : PV) (ws : Str) (j : Nat) : kvGet (kvW n p ws j) (Str.ofString "push_token") = none := by kernel_rfl
theorem get_gt (n : Int) (p : PV) (ws : Str) (j : Nat) : kvGet (kvW n p ws j) (Str.ofString "get_token") = none := by kernel_rfl
noncomputable def LS (st : List AO) (j : Nat) (l D : List Cd) : List AO := st.set j (.list (l.map cdP)) ++ [.list (D.map cdP)]
structure Idle (st : List AO) (i j : Nat) (n : Int) (pp : PV) (ws : Str) : Prop where
  lx : st[i]? = some (.inst 160 (kvW n pp ws j))
  pb : st[j]? = some (.list [])
section
variable {w : World} {st : List AO} {i j : Nat} {n : Int} {pp : PV} {ws : Str}
theorem Idle.ne (L : Idle st i j n pp ws) : i ≠ j := by rintro rfl; exact nomatch L.lx.symm.trans L.pb
theorem Idle.gi (L : Idle st i j n pp ws) (l D : List Cd) : (LS st j l D)[i]? = some (.inst 160 (kvW n pp ws j)) := by
  unfold LS
  rw [List.getElem?_append_left (by rw [List.length_set]; exact lt_of L.lx), List.getElem?_set_ne (Ne.symm L.ne)]; exact L.lx
theorem Idle.gj (L : Idle st i j n pp ws) (l D : List Cd) : (LS st j l D)[j]? = some (.list (l.map cdP)) := by
  unfold LS
  rw [List.getElem?_append_left (by rw [List.length_set]; exact lt_of L.pb), List.getElem?_set_self (lt_of L.pb)]
theorem LS_gD {l D : List Cd} : (LS st j l D)[st.length]? = some (.list (D.map cdP)) := by
  have := Z5 (st.set j (.list (l.map cdP))) [.list (D.map cdP)]
  rwa [List.length_set] at this
theorem Idle.sj (L : Idle st i j n pp ws) (l l' D : List Cd) : (LS st j l D).set j (.list (l'.map cdP)) = LS st j l' D := by
  unfold LS
  rw [List.set_append_left _ _ (by rw [List.length_set]; exact lt_of L.pb), List.set_set]
theorem LS_sD {l D D' : List Cd} : (LS st j l D).set st.length (.list (D'.map cdP)) = LS st j l D' := by
  have := set_app0 (st.set j (.list (l.map cdP))) [.list (D.map cdP)] (.list (D'.map cdP))
  rw [List.length_set] at this
  exact this
theorem LS_isL {p : PV} {cs l D : List Cd} (hp : IsL p cs st) (h0 : cs ≠ []) (hj : st[j]? = some (.list [])) : IsL p cs (LS st j l D) := by
  rcases hp with h | ⟨k, h, e⟩
  · exact .inl h
  · refine .inr ⟨k, h, ?_⟩
    have hk : k ≠ j := by
      rintro rfl
      have := AO.list.inj (Option.some.inj (e.symm.trans hj))
      exact h0 (List.map_eq_nil_iff.mp this)
    unfold LS
    rw [List.getElem?_append_left (by rw [List.length_set]; exact lt_of e), List.getElem?_set_ne (Ne.symm hk)]; exact e
noncomputable abbrev E7l (i : Nat) (p : PV) (c n : Nat) (l4 l5 l6 : Option PV) (S : List AO) : ES := ⟨[some (.ref i), some p, some (inP c), some (.ref n), l4, l5, l6], [], S⟩
noncomputable def ptE (w : World) : FM PF := bindE (bindE (getL 0) fun p => guardE (isInst 160 (Str.ofString "push_token") p) (bindE (consE (getL 4) (pureE [])) fun ps => liftS (ptokR w (p :: ps)))) fun x => pureE PF.next
theorem ptE_run (L : Idle st i j n pp ws) {p : PV} {c : Nat} {x : Cd} {l D : List Cd} {l5 l6 : Option PV} (hz : l.length ≤ 50) :
    ptE w (E7l i p c st.length (some (cdP x)) l5 l6 (LS st j l D)) = some (.next, E7l i p c st.length (some (cdP x)) l5 l6 (LS st j (l ++ [x]) D)) := by
  unfold ptE
  refine e_expr (p := .none) (e_meth (p := .ref i) (es₁ := E7l i p c st.length (some (cdP x)) l5 l6 (LS st j l D)) (es₂ := E7l i p c st.length (some (cdP x)) l5 l6 (LS st j l D)) (ps := [cdP x]) rfl (Yq (L.gi _ _) (get_pt _ _ _ _)) (p_cons rfl rfl) ?_)
  rw [ptok_run w (L.gi _ _) (L.gj _ _) (Z0 (by rw [List.length_map]; omega)), show l.map cdP ++ [cdP x] = (l ++ [x]).map cdP by rw [List.map_append]; rfl, L.sj]
theorem l_push (w : World) (L : Idle st i j n pp ws) {p : PV} {c : Nat} {cs : List Cd} (h0 : cs ≠ []) (hp : IsL p cs st) {chk : List AO → Bool} (hchk : ∀ st', IsL p cs st' → chk st' = true) {l5 l6 : Option PV} :
    ∀ (r l : List Cd) (l4 : Option PV), l.length + r.length ≤ 50 → ∃ l4', Zw chk (setL 4) (seqE (ptE w) (pureE .next)) (r.map cdP) (E7l i p c st.length l4 l5 l6 (LS st j l [])) = some (.next, E7l i p c st.length l4' l5 l6 (LS st j (l ++ r) []))
  | [], l, l4, _ => ⟨l4, (c_nil (hchk _ (LS_isL hp h0 L.pb))).trans (by rw [List.append_nil])⟩
  | x :: r, l, l4, hz => by
    rw [List.length_cons] at hz
    obtain ⟨l4', e⟩ := l_push w L h0 hp hchk (l5 := l5) (l6 := l6) (c := c) r (l ++ [x]) (some (cdP x)) (by rw [List.length_append]; show _ + 1 + _ ≤ _; omega)
    rw [List.append_assoc] at e
    have hs : setL 4 (cdP x) (E7l i p c st.length l4 l5 l6 (LS st j l [])) = some ((), E7l i p c st.length (some (cdP x)) l5 l6 (LS st j l [])) := rfl
    exact ⟨l4', c_cons (hchk _ (LS_isL hp h0 L.pb)) hs (e_seq (ptE_run L (by omega)) rfl) e⟩
noncomputable def tB (w : World) : FM PF := seqE (bindE (bindE (getL 0) fun p => guardE (isInst 160 (Str.ofString "get_token") p) (bindE (pureE []) fun ps => liftS (tokenR w (p :: ps)))) fun p => bindE (setL 4 p) fun x => pureE PF.next) (seqE (iteE (bindE (bindE (bindE (consE (getL 4) (consE (getL 2) (pureE []))) fun ps => liftS (figR w ps)) fun p => bindE (getL 5) fun q => liftS (eqG p q)) fun p => liftS (truthG p)) (seqE (bindE (bindE (getL 3) fun p => guardE (isLst p) (bindE (consE (getL 4) (pureE [])) fun ps => liftS (appendG (p :: ps)))) fun x => pureE PF.next) (pureE PF.next)) (seqE (ptE w) (pureE PF.next))) (pureE PF.next))
theorem tB_run (w : World) (L : Idle st i j n pp ws) {p : PV} {c : Nat} (h : 1 ≤ c) (h' : c ≤ 3) {f : Nat} {x : Cd} {l D : List Cd} {l4 l6 : Option PV} (hz : l.length ≤ 50) (hD : D.length ≤ 50) :
    tB w (E7l i p c st.length l4 (some (inP f)) l6 (LS st j (x :: l) D)) = some (.next, E7l i p c st.length (some (cdP x)) (some (inP f)) l6 (LS st j (if fig x c = f then l else l ++ [x]) (if fig x c = f then D ++ [x] else D))) := by
  let E (l4 : Option PV) (S : List AO) : ES := E7l i p c st.length l4 (some (inP f)) l6 S
  unfold tB
  refine e_seq (es₁ := E (some (cdP x)) (LS st j l D)) (e_asg (p := cdP x) (es₁ := E l4 (LS st j l D)) (e_meth (p := .ref i) (es₁ := E l4 (LS st j (x :: l) D)) (es₂ := E l4 (LS st j (x :: l) D)) (ps := []) rfl (Yq (L.gi _ _) (get_gt _ _ _ _)) rfl ?_) rfl) ?_
  · rw [token_wait w (L.gi _ _) (L.gj _ _) (Z0 (by rw [List.length_map]; omega)), L.sj]
  refine e_seq (e_ite (t := fig x c == f) (es₁ := E (some (cdP x)) (LS st j l D)) (p_lift (p := .bool (fig x c == f)) (p_bin (p := inP (fig x c)) (q := inP f) (p_call (ps := [cdP x, inP c]) (p_cons rfl (p_cons rfl rfl)) (fig_run w x h h' _)) rfl (eq_nat _ _ _)) (truth_bool _ _)) ?_) rfl
  by_cases e : fig x c = f
  · rw [beq_iff_eq.mpr e, if_pos e, if_pos e, if_pos rfl]
    refine e_seq (e_expr (p := .none) (e_meth (p := .ref st.length) (es₁ := E (some (cdP x)) (LS st j l D)) (es₂ := E (some (cdP x)) (LS st j l D)) (ps := [cdP x]) rfl (isLst_ref LS_gD) (p_cons rfl rfl) ?_)) rfl
    rw [append_ref LS_gD (by rw [List.length_map]; omega), show D.map cdP ++ [cdP x] = (D ++ [x]).map cdP by rw [List.map_append]; rfl, LS_sD]
  · rw [beq_eq_false_iff_ne.mpr e, if_neg e, if_neg e]
    exact e_seq (ptE_run L hz) rfl
theorem l_round (w : World) (L : Idle st i j n pp ws) {p : PV} {c : Nat} (h : 1 ≤ c) (h' : c ≤ 3) {f : Nat} : ∀ (xs : List PV) (l k D : List Cd) (l4 l6 : Option PV), xs.length = l.length → l.length + k.length + D.length ≤ 50 →
    ∃ l4' l6', Zw (fun _ => true) (setL 6) (tB w) xs (E7l i p c st.length l4 (some (inP f)) l6 (LS st j (l ++ k) D)) = some (.next, E7l i p c st.length l4' (some (inP f)) l6' (LS st j (k ++ l.filter fun x => fig x c != f) (D ++ same l c f)))
  | [], [], k, D, l4, l6, _, _ => ⟨l4, l6, by rw [show k ++ ([] : List Cd).filter (fun x => fig x c != f) = k from List.append_nil k, show D ++ same [] c f = D from List.append_nil D]; rfl⟩
  | y :: xs, x :: l, k, D, l4, l6, hl, hz => by
    rw [List.length_cons] at hz
    have hs : setL 6 y (E7l i p c st.length l4 (some (inP f)) l6 (LS st j (x :: (l ++ k)) D)) = some ((), E7l i p c st.length l4 (some (inP f)) (some y) (LS st j (x :: (l ++ k)) D)) := rfl
    have e1 := tB_run w L h h' (p := p) (f := f) (x := x) (l := l ++ k) (D := D) (l4 := l4) (l6 := some y) (by rw [List.length_append]; omega) (by omega)
    by_cases e : fig x c = f
    · rw [if_pos e, if_pos e] at e1
      obtain ⟨a, b, e2⟩ := l_round w L h h' (p := p) (f := f) xs l k (D ++ [x]) (some (cdP x)) (some y) (Nat.succ.inj hl) (by rw [List.length_append]; show _ + _ + (_ + 1) ≤ _; omega)
      refine ⟨a, b, f_cons hs e1 (e2.trans ?_)⟩
      unfold same
      rw [List.filter_cons_of_pos (p := fun x => fig x c == f) (beq_iff_eq.mpr e), List.filter_cons_of_neg (p := fun x => fig x c != f) (by rw [bne_iff_ne]; exact fun q => q e), List.append_assoc]; rfl
    · rw [if_neg e, if_neg e, List.append_assoc] at e1
      obtain ⟨a, b, e2⟩ := l_round w L h h' (p := p) (f := f) xs l (k ++ [x]) D (some (cdP x)) (some y) (Nat.succ.inj hl) (by rw [List.length_append]; show _ + (_ + 1) + _ ≤ _; omega)
      refine ⟨a, b, f_cons hs e1 (e2.trans ?_)⟩
      unfold same
      rw [List.filter_cons_of_neg (p := fun x => fig x c == f) (by rw [beq_iff_eq]; exact e), List.filter_cons_of_pos (p := fun x => fig x c != f) (bne_iff_ne.mpr e), List.append_assoc]; rfl
end
theorem same_not {l : List Cd} {c f g : Nat} (h : f ≠ g) : same (l.filter fun x => fig x c != g) c f = same l c f := by
  unfold same
  rw [List.filter_filter]
  refine List.filter_congr fun x _ => ?_
  by_cases e : fig x c = f
  · rw [beq_iff_eq.mpr e, bne_iff_ne.mpr (by rw [e]; exact h)]; rfl
  · rw [beq_eq_false_iff_ne.mpr e]; rfl
theorem none_left (l : List Cd) (c : Nat) : (((l.filter fun x => fig x c != 2).filter fun x => fig x c != 3).filter fun x => fig x c != 4).filter (fun x => fig x c != 5) = [] := by
  rw [List.filter_eq_nil_iff]
  intro x hx
  simp only [List.mem_filter, bne_iff_ne] at hx
  have := fig_in x c
  simp only [List.mem_cons, List.not_mem_nil, or_false] at this
  rw [bne_iff_ne]
  omega
theorem IsL.its_app {p : PV} {l : List Cd} {st : List AO} {y : Its} (h : IsL p l st) (e : itsV p st = some y) (X : List AO) : itsV p (st ++ X) = some y := by
  rcases h with rfl | ⟨k, rfl, q⟩
  · exact e
  · rw [itsV_ref q] at e
    rw [itsV_ref ((List.getElem?_append_left (lt_of q)).trans q)]; exact e
section
variable {w : World} {st : List AO} {i j : Nat} {n : Int} {pp : PV} {ws : Str}
noncomputable def rB (w : World) : FM PF := seqE (forE (bindE (consE (bindE (consE (bindE (getL 0) fun p => liftS (getA (kFrag w.params) (Str.ofString "pushback") p)) (pureE [])) fun ps => liftS (lenG ps)) (pureE [])) (itsEs Z6)) (setL 6) (tB w)) (pureE PF.next)
theorem rB_run (w : World) (L : Idle st i j n pp ws) {p : PV} {c : Nat} (h : 1 ≤ c) (h' : c ≤ 3) {f : Nat} {l D : List Cd} {l4 l6 : Option PV} (hz : l.length + D.length ≤ 40) :
    ∃ l4' l6', rB w (E7l i p c st.length l4 (some (inP f)) l6 (LS st j l D)) = some (.next, E7l i p c st.length l4' (some (inP f)) l6' (LS st j (l.filter fun x => fig x c != f) (D ++ same l c f))) := by
  obtain ⟨a, b, e⟩ := l_round w L h h' (p := p) (f := f) ((List.range l.length).map inP) l [] D l4 l6 (by rw [List.length_map, List.length_range]) (by show _ + 0 + _ ≤ _; omega)
  rw [List.append_nil, List.nil_append] at e
  refine ⟨a, b, ?_⟩
  unfold rB
  let E := E7l i p c st.length l4 (some (inP f)) l6 (LS st j l D)
  refine e_seq (e_for (xs := (List.range l.length).map inP) (chk := fun _ => true) (es := E) (its_at (ps := [inP l.length]) (p_cons (p_call (ps := [.ref j]) (p_cons (p_lift (p := .ref i) rfl (getA_pb w (L.gi _ _))) rfl) ?_) rfl) (its_range _ (by omega) _)) e) rfl
  have := lenG_of (items_ref (L.gj l D)) (Z0 (by rw [List.length_map]; omega))
  rwa [List.length_map] at this
noncomputable def lineR (w : World) : List PV → SM PV := runK (3 + 0) [] [some 0, some 1, some 2, none, none, none, none] [] (s_line w).1
theorem line_run (w : World) (L : Idle st i j n pp ws) {p : PV} {c : Nat} (h : 1 ≤ c) (h' : c ≤ 3) {cs : List Cd} (hp : IsL p cs st) (h0 : cs ≠ []) (hz : cs.length ≤ 9) :
    lineR w [.ref i, p, inP c] st = some (.ref st.length, st ++ [.list ((deal false c cs).map cdP)]) := by
  obtain ⟨chk, hi, hchk⟩ := hp.its
  let E0 : ES := ⟨[some (.ref i), some p, some (inP c), none, none, none, none], [], st⟩
  have hL0 : LS st j [] [] = st ++ [.list []] := by unfold LS; rw [show List.map cdP [] = [] from rfl, set_same L.pb]
  obtain ⟨k4, e1⟩ := l_push w L h0 hp hchk (c := c) (l5 := none) (l6 := none) cs [] none (by show 0 + _ ≤ _; omega)
  have e1 := e_for (I := bindE (getL 1) (itsE itsV)) (es := E7l i p c st.length none none none (LS st j [] [])) (xs := cs.map cdP) (chk := chk) (e_bind (y := p) (es₁ := E7l i p c st.length none none none (LS st j [] [])) rfl (by
    unfold itsE
    have : itsV p (LS st j [] []) = some (cs.map cdP, chk) := by
      rw [hL0]; exact hp.its_app hi _
    rw [show (E7l i p c st.length none none none (LS st j [] [])).st = LS st j [] [] from rfl, this]; rfl)) e1
  have hs := same_sum cs c
  have m1 := List.length_filter_le (fun x => fig x c != 2) cs
  have m2 := List.length_filter_le (fun x => fig x c != 3) (cs.filter fun x => fig x c != 2)
  have m3 := List.length_filter_le (fun x => fig x c != 4) ((cs.filter fun x => fig x c != 2).filter fun x => fig x c != 3)
  obtain ⟨a0, b0, f0⟩ := rB_run w L h h' (p := p) (f := 2) (l := cs) (D := []) (l4 := k4) (l6 := none) (by show _ + 0 ≤ _; omega)
  obtain ⟨a1, b1, f1⟩ := rB_run w L h h' (p := p) (f := 3) (l := cs.filter fun x => fig x c != 2) (D := [] ++ same cs c 2) (l4 := a0) (l6 := b0) (by rw [List.nil_append]; omega)
  rw [same_not (by decide)] at f1
  obtain ⟨a2, b2, f2⟩ := rB_run w L h h' (p := p) (f := 4) (l := (cs.filter fun x => fig x c != 2).filter fun x => fig x c != 3) (D := [] ++ same cs c 2 ++ same cs c 3) (l4 := a1) (l6 := b1) (by rw [List.nil_append, List.length_append]; omega)
  rw [same_not (by decide), same_not (by decide)] at f2
  obtain ⟨a3, b3, f3⟩ := rB_run w L h h' (p := p) (f := 5) (l := ((cs.filter fun x => fig x c != 2).filter fun x => fig x c != 3).filter fun x => fig x c != 4) (D := [] ++ same cs c 2 ++ same cs c 3 ++ same cs c 4) (l4 := a2) (l6 := b2) (by rw [List.nil_append, List.length_append, List.length_append]; omega)
  rw [same_not (by decide), same_not (by decide), same_not (by decide), none_left] at f3
  have hD : [] ++ same cs c 2 ++ same cs c 3 ++ same cs c 4 ++ same cs c 5 = deal false c cs := by
    show _ = same cs c 2 ++ (same cs c 3 ++ (same cs c 4 ++ (same cs c 5 ++ [])))
    simp only [List.nil_append, List.append_assoc, List.append_nil]
  rw [hD] at f3
  have hgs : ∀ (f : Nat) (l4 l5 l6 : Option PV) (S : List AO), setL 5 (inP f) (E7l i p c st.length l4 l5 l6 S) = some ((), E7l i p c st.length l4 (some (inP f)) l6 S) := fun _ _ _ _ _ => rfl
  have e2 : Zw (fun _ => true) (setL 5) (rB w) ([2, 3, 4, 5].map inP) (E7l i p c st.length k4 none none (LS st j cs [])) = some (.next, E7l i p c st.length a3 (some (inP 5)) b3 (LS st j [] (deal false c cs))) :=
    f_cons (hgs _ _ _ _ _) f0 (f_cons (hgs _ _ _ _ _) f1 (f_cons (hgs _ _ _ _ _) f2 (f_cons (hgs _ _ _ _ _) f3 f_nil)))
  have run : (s_line w).1 E0 = some (.ret (.ref st.length), E7l i p c st.length a3 (some (inP 5)) b3 (LS st j [] (deal false c cs))) := by
    simp only [s_line]
    refine e_seq (es₁ := E7l i p c st.length none none none (LS st j [] [])) (e_asg (p := .ref st.length) (es₁ := ⟨[some (.ref i), some p, some (inP c), none, none, none, none], [], LS st j [] []⟩) (e_bind (y := []) (es₁ := E0) rfl ?_) rfl) ?_
    · rw [hL0]
      exact (if_pos (Nat.zero_le _)).trans rfl
    exact e_seq e1 (e_seq (e_for (xs := [2, 3, 4, 5].map inP) (chk := fun _ => true) (its_at (ps := [.int 2, .int 6]) rfl (rg26 _)) e2) rfl)
  have h2 : [PV.ref i, p, inP c].length = 3 + 0 := rfl
  have h3 := runK_eq (dps := []) (li := [some 0, some 1, some 2, none, none, none, none]) (ci := []) (ps := [PV.ref i, p, inP c]) (st := st) h2 run
  have hl : LS st j [] (deal false c cs) = st ++ [.list ((deal false c cs).map cdP)] := by unfold LS; rw [show List.map cdP [] = [] from rfl, set_same L.pb]
  rw [← hl]
  exact h3
end
noncomputable def hdrE (c : Nat) (x : Cd) : Str × Str := (one (lc x.2 (c - 1)), cdS x)
theorem plain_of {x : Str} (h : ∀ u ∈ x.cps, 32 ≤ u ∧ u < 127) (hz : x.cps.size ≤ 1000) : Ye x = true := by
  unfold Ye
  rw [Bool.and_eq_true]
  exact ⟨by rw [Array.all_eq_true']; exact fun u hu => decide_eq_true (h u hu), decide_eq_true hz⟩
theorem lc_rng (n c : Nat) : 32 ≤ lc n c ∧ lc n c < 127 := by
  have := dg_lt n c
  unfold lc lcv
  split <;> omega
theorem sg_rng : ∀ k < 9, 32 ≤ sgs.getD k 0 ∧ sgs.getD k 0 < 127 := by decide
theorem plain_lc (n c : Nat) : Ye (one (lc n c)) = true := plain_of (fun u hu => by rw [Array.mem_singleton.mp hu]; exact lc_rng n c) (by show 1 ≤ 1000; decide)
theorem cd_mem {x : Cd} {u : Nat} (h : u ∈ (cdS x).cps) : u = sgs.getD x.1 0 ∨ ∃ c, u = lc x.2 c := by
  have h : u ∈ (#[sgs.getD x.1 0, lc x.2 0, lc x.2 1, lc x.2 2] : Array Nat) := h
  simp only [List.mem_toArray, List.mem_cons, List.not_mem_nil, or_false] at h
  rcases h with h | h | h | h
  · exact .inl h
  · exact .inr ⟨_, h⟩
  · exact .inr ⟨_, h⟩
  · exact .inr ⟨_, h⟩
theorem plain_cd {x : Cd} (hx : x.1 < 9) : Ye (cdS x) = true := plain_of (fun u hu => by
  rcases cd_mem hu with rfl | ⟨c, rfl⟩
  · exact sg_rng _ hx
  · exact lc_rng _ _) (by show 4 ≤ 1000; decide)
noncomputable def TS (st : List AO) (c : Nat) (l : List Cd) (J : List AO) : List AO := st ++ (.list ((l.map (hdrE c)).map entP) :: .inst 308 (kvH st.length) :: J)
theorem TS_h {st : List AO} {c : Nat} {l : List Cd} {J : List AO} : (TS st c l J)[st.length]? = some (.list ((l.map (hdrE c)).map entP)) := Z5 _ _
theorem TS_i {st : List AO} {c : Nat} {l : List Cd} {J : List AO} : (TS st c l J)[st.length + 1]? = some (.inst 308 (kvH st.length)) := Yi _ _ 1
theorem no_addh (h : Nat) : kvGet (kvH h) (Str.ofString "add_header") = none := by kernel_rfl
theorem no_geta (h : Nat) : kvGet (kvH h) (Str.ofString "get_all") = none := by kernel_rfl
noncomputable abbrev E3t (p : PV) (c : Nat) (n : Nat) (l2 : Option PV) (S : List AO) : ES := ⟨[some p, some (inP c), l2], [some (.ref n)], S⟩
noncomputable def aB (w : World) : FM PF := seqE (bindE (bindE (getC 0) fun p => guardE (isInst 308 (Str.ofString "add_header") p) (bindE (consE (bindE (getL 2) fun p => bindE (getL 1) fun q => liftS (getI p q)) (consE (getL 2) (pureE []))) fun ps => liftS (addhR0 w (p :: ps)))) fun x => pureE PF.next) (pureE PF.next)
theorem aB_run (w : World) {st : List AO} {p : PV} {c : Nat} (h : 1 ≤ c) (h' : c ≤ 3) {x : Cd} (hx : x.1 < 9) {l : List Cd} {J : List AO} (hz : l.length ≤ 50) :
    ∃ J', aB w (E3t p c (st.length + 1) (some (cdP x)) (TS st c l J)) = some (.next, E3t p c (st.length + 1) (some (cdP x)) (TS st c (l ++ [x]) J')) := by
  let E (S : List AO) : ES := E3t p c (st.length + 1) (some (cdP x)) S
  refine ⟨J ++ [.dict1 0 none, .list [cdP x]], ?_⟩
  unfold aB
  refine e_seq (es₁ := E (TS st c (l ++ [x]) (J ++ [.dict1 0 none, .list [cdP x]]))) (e_expr (p := .none) (e_meth (p := .ref (st.length + 1)) (es₁ := E (TS st c l J)) (es₂ := E (TS st c l J)) (ps := [.str (one (lc x.2 (c - 1))), cdP x]) rfl (Yq TS_i (no_addh _)) (p_cons (p_bin (p := cdP x) (q := inP c) rfl rfl (getI_str (by omega) (cdS_at h h') _)) (p_cons rfl rfl)) ?_)) rfl
  rw [addh0_run w TS_i TS_h (plain_lc _ _) (plain_cd hx) (by rw [List.length_map, List.length_map]; omega)]
  unfold TS
  rw [set_app0, List.append_assoc, show ((l ++ [x]).map (hdrE c)).map entP = (l.map (hdrE c)).map entP ++ [.tup [.str (one (lc x.2 (c - 1))), cdP x]] by rw [List.map_append, List.map_append]; rfl]
  rfl
theorem t_loop (w : World) {st : List AO} {p : PV} {c : Nat} (h : 1 ≤ c) (h' : c ≤ 3) {cs : List Cd} (hp : IsL p cs st) {chk : List AO → Bool} (hchk : ∀ st', IsL p cs st' → chk st' = true) : ∀ (r l : List Cd) (J : List AO) (l2 : Option PV), (∀ x ∈ r, x.1 < 9) → l.length + r.length ≤ 50 →
    ∃ J' l2', Zw chk (setL 2) (aB w) (r.map cdP) (E3t p c (st.length + 1) l2 (TS st c l J)) = some (.next, E3t p c (st.length + 1) l2' (TS st c (l ++ r) J'))
  | [], l, J, l2, _, _ => ⟨J, l2, (c_nil (hchk _ (hp.app _))).trans (by rw [List.append_nil])⟩
  | x :: r, l, J, l2, hx, hz => by
    rw [List.length_cons] at hz
    obtain ⟨J1, e1⟩ := aB_run w (st := st) (p := p) h h' (hx x (.head _)) (l := l) (J := J) (by omega)
    obtain ⟨J2, l2', e2⟩ := t_loop w h h' hp hchk r (l ++ [x]) J1 (some (cdP x)) (fun y m => hx y (.tail _ m)) (by rw [List.length_append]; show _ + 1 + _ ≤ _; omega)
    rw [List.append_assoc] at e2
    have hs : setL 2 (cdP x) (E3t p c (st.length + 1) l2 (TS st c l J)) = some ((), E3t p c (st.length + 1) (some (cdP x)) (TS st c l J)) := rfl
    exact ⟨J2, l2', c_cons (hchk _ (hp.app _)) hs e1 e2⟩
noncomputable def letS (f : Nat) : Str := match f with | 2 => Str.ofString "b" | 3 => Str.ofString "C" | 4 => Str.ofString "d" | _ => Str.ofString "E"
theorem let_fin : ∀ f ∈ [2, 3, 4, 5], (∀ d < 4, ∀ up : Bool, (Txt.lower (one (lcv up d)) == Txt.lower (letS f)) = (2 + d == f) ∧ (Txt.lower (one (lcv up d))).length ≤ 100 ∧ PyData.strOk (Txt.lower (one (lcv up d))) = true) ∧ Ye (Txt.lower (letS f)) = true ∧ (Txt.lower (letS f)).length ≤ 100 ∧ PyData.strOk (Txt.lower (letS f)) = true := by decide +kernel
theorem getall_at (w : World) {st : List AO} {c : Nat} {l : List Cd} {J : List AO} {f : Nat} (hf : f ∈ [2, 3, 4, 5]) (hz : l.length ≤ 50) :
    getallR w [.ref (st.length + 1), .str (letS f)] (TS st c l J) = some (.lst ((same l c f).map cdP), TS st c l J) := by
  obtain ⟨h1, h2, h3, h4⟩ := let_fin f hf
  rw [getall_run w (l := l.map (hdrE c)) TS_i TS_h h2 h3 h4 (fun e m => by
    obtain ⟨x, _, rfl⟩ := List.mem_map.mp m
    exact (h1 _ (dg_lt _ _) _).2) (by rw [List.length_map]; omega)]
  have : ((l.map (hdrE c)).filter fun e => Txt.lower e.1 == Txt.lower (letS f)).map (fun e => PV.str e.2) = (same l c f).map cdP := by
    rw [List.filter_map, List.map_map]
    unfold same
    rw [show l.filter ((fun e : Str × Str => Txt.lower e.1 == Txt.lower (letS f)) ∘ hdrE c) = l.filter (fun x => fig x c == f) from List.filter_congr fun x _ => (h1 (dg x.2 (c - 1)) (dg_lt _ _) (upB x.2 (c - 1))).1]
    rfl
  rw [this]
theorem in_cons {S : PV → FM Unit} {zs : List PV} {x : PV} {r : List PV} {es es₁ es₂ : ES} {X : FM PV} {p : PV} {q : Option (List PV × ES)} (h1 : S x es = some ((), es₁)) (hz : zs.length ≤ 100) (h2 : X es₁ = some (p, es₂)) (h3 : Zr (fun _ => true) S (pureE true) (emitE X) r (zs ++ [p]) es₂ = q) : Zr (fun _ => true) S (pureE true) (emitE X) (x :: r) zs es = q :=
  ci_cons h1 (emit_of h2 hz) h3
theorem in_loop {cel : List (Option PV)} {S : List AO} {a : Option PV} : ∀ (xs zs : List PV) (o : Option PV), zs.length + xs.length ≤ 100 → ∃ o', Zr (fun _ => true) (setL 1) (pureE true) (emitE (getL 1)) xs zs ⟨[a, o], cel, S⟩ = some (zs ++ xs, ⟨[a, o'], cel, S⟩)
  | [], zs, o, _ => ⟨o, by rw [List.append_nil]; rfl⟩
  | x :: xs, zs, o, hz => by
    rw [List.length_cons] at hz
    obtain ⟨o', e⟩ := in_loop (cel := cel) (S := S) (a := a) xs (zs ++ [x]) (some x) (by rw [List.length_append]; show _ + 1 + _ ≤ _; omega)
    rw [List.append_assoc] at e
    exact ⟨o', in_cons (es₁ := ⟨[a, some x], cel, S⟩) rfl (by omega) rfl e⟩
noncomputable def tblI (w : World) : List PV → FM (List PV) := innerE (bindE (bindE (getC 0) fun p => guardE (isInst 308 (Str.ofString "get_all") p) (bindE (consE (getL 0) (pureE [])) fun ps => liftS (getallR w (p :: ps)))) (itsE itsV)) (setL 1) (pureE true) (emitE (getL 1))
theorem tblI_run (w : World) {st : List AO} {c : Nat} {l : List Cd} {J : List AO} {f : Nat} (hf : f ∈ [2, 3, 4, 5]) (hz : l.length ≤ 50) {zs : List PV} (hzs : zs.length ≤ 50) (o : Option PV) :
    ∃ o', tblI w zs ⟨[some (.str (letS f)), o], [some (.ref (st.length + 1))], TS st c l J⟩ = some (zs ++ (same l c f).map cdP, ⟨[some (.str (letS f)), o'], [some (.ref (st.length + 1))], TS st c l J⟩) := by
  let E : ES := ⟨[some (.str (letS f)), o], [some (.ref (st.length + 1))], TS st c l J⟩
  have hl := same_len l c f
  obtain ⟨o', e⟩ := in_loop (cel := [some (.ref (st.length + 1))]) (S := TS st c l J) (a := some (.str (letS f))) ((same l c f).map cdP) zs o (by rw [List.length_map]; omega)
  refine ⟨o', ?_⟩
  unfold tblI innerE
  exact e_bind (y := ((same l c f).map cdP, fun _ => true)) (es₁ := E) (e_bind (y := .lst ((same l c f).map cdP)) (es₁ := E) (p_meth (p := .ref (st.length + 1)) (ps := [.str (letS f)]) rfl (Yq TS_i (no_geta _)) (p_cons rfl rfl) (getall_at w hf hz)) rfl) e
theorem its_let (st : List AO) : itsV (.str (Str.ofString "bCdE")) st = some ([2, 3, 4, 5].map fun f => PV.str (letS f), fun _ => true) := by kernel_rfl
noncomputable def tableR (w : World) : List PV → SM PV := runK (2 + 0) [] [some 0, some 1, none] [none] (s_table w).1
theorem table_run (w : World) {st : List AO} {p : PV} {c : Nat} (h : 1 ≤ c) (h' : c ≤ 3) {cs : List Cd} (hp : IsL p cs st) (hx : ∀ x ∈ cs, x.1 < 9) (hz : cs.length ≤ 9) :
    ∃ X, tableR w [p, inP c] st = some (.lst ((deal false c cs).map cdP), st ++ X) := by
  obtain ⟨chk, hi, hchk⟩ := hp.its
  let E0 : ES := ⟨[some p, some (inP c), none], [none], st⟩
  let S0 := TS st c [] []
  obtain ⟨J, l2, e1⟩ := t_loop w h h' hp hchk cs [] [] none hx (by show 0 + _ ≤ _; omega)
  have e1 := e_for (I := bindE (getL 0) (itsE itsV)) (es := E3t p c (st.length + 1) none S0) (e_bind (y := p) (es₁ := E3t p c (st.length + 1) none S0) rfl (by
    unfold itsE
    rw [show (E3t p c (st.length + 1) none S0).st = S0 from rfl, show itsV p S0 = _ from hp.its_app hi _]; rfl)) e1
  rw [List.nil_append] at e1
  let S1 := TS st c cs J
  let E1 := E3t p c (st.length + 1) l2 S1
  let C : List (Option PV) := [some (.ref (st.length + 1))]
  have hs := same_sum cs c
  obtain ⟨o0, f0⟩ := tblI_run w (st := st) (c := c) (l := cs) (J := J) (f := 2) (by simp) (by omega) (zs := []) (by decide) none
  obtain ⟨o1, f1⟩ := tblI_run w (st := st) (c := c) (l := cs) (J := J) (f := 3) (by simp) (by omega) (zs := [] ++ (same cs c 2).map cdP) (by rw [List.nil_append, List.length_map]; omega) o0
  obtain ⟨o2, f2⟩ := tblI_run w (st := st) (c := c) (l := cs) (J := J) (f := 4) (by simp) (by omega) (zs := [] ++ (same cs c 2).map cdP ++ (same cs c 3).map cdP) (by rw [List.nil_append, List.length_append, List.length_map, List.length_map]; omega) o1
  obtain ⟨o3, f3⟩ := tblI_run w (st := st) (c := c) (l := cs) (J := J) (f := 5) (by simp) (by omega) (zs := [] ++ (same cs c 2).map cdP ++ (same cs c 3).map cdP ++ (same cs c 4).map cdP) (by rw [List.nil_append, List.length_append, List.length_append, List.length_map, List.length_map, List.length_map]; omega) o2
  have hD : [] ++ (same cs c 2).map cdP ++ (same cs c 3).map cdP ++ (same cs c 4).map cdP ++ (same cs c 5).map cdP = (deal false c cs).map cdP := by
    show _ = (same cs c 2 ++ (same cs c 3 ++ (same cs c 4 ++ (same cs c 5 ++ [])))).map cdP
    simp only [List.nil_append, List.append_assoc, List.append_nil, List.map_append]
  rw [hD] at f3
  have hgs : ∀ (f : Nat) (a o : Option PV), setL 0 (.str (letS f)) ⟨[a, o], C, S1⟩ = some ((), ⟨[some (.str (letS f)), o], C, S1⟩) := fun _ _ _ => rfl
  have e2 : Zr (fun _ => true) (setL 0) (pureE true) (tblI w) ([2, 3, 4, 5].map fun f => PV.str (letS f)) [] ⟨[none, none], C, S1⟩ = some ((deal false c cs).map cdP, ⟨[some (.str (letS 5)), o3], C, S1⟩) :=
    ci_cons (hgs _ _ _) f0 (ci_cons (hgs _ _ _) f1 (ci_cons (hgs _ _ _) f2 (ci_cons (hgs _ _ _) f3 ci_nil)))
  have e3 : compE 2 (bindE (pureE (PV.str (Str.ofString "bCdE"))) (itsE itsV)) (setL 0) (pureE true) (tblI w) E1 = some ((deal false c cs).map cdP, E1) := by
    unfold compE
    rw [show bindE (pureE (PV.str (Str.ofString "bCdE"))) (itsE itsV) E1 = some (([2, 3, 4, 5].map fun f => PV.str (letS f), fun _ => true), E1) from itsV_at rfl (its_let _)]
    dsimp only [List.replicate]
    rw [e2]
  unfold tblI at e3
  have run : (s_table w).1 E0 = some (.ret (.lst ((deal false c cs).map cdP)), E1) := by
    simp only [s_table]
    refine e_seq (es₁ := E3t p c (st.length + 1) none S0) (e_asg (p := .ref (st.length + 1)) (es₁ := ⟨[some p, some (inP c), none], [none], S0⟩) ?_ rfl) (e_seq e1 (e_stop (e_bind (y := .lst ((deal false c cs).map cdP)) (es₁ := E1) (e_lst e3) rfl)))
    refine e_bind (y := [.ref st.length]) (es₁ := ⟨[some p, some (inP c), none], [none], st ++ [.list []]⟩) (e_cons (p := .ref st.length) (es₁ := ⟨[some p, some (inP c), none], [none], st ++ [.list []]⟩) (e_bind (y := []) (es₁ := E0) rfl ((if_pos (Nat.zero_le _)).trans rfl)) rfl) ?_
    exact Ys new_hd
  have h2 : [p, inP c].length = 2 + 0 := rfl
  have h3 := runK_eq (dps := []) (li := [some 0, some 1, none]) (ci := [none]) (ps := [p, inP c]) (st := st) h2 run
  exact ⟨_, h3⟩
theorem getI_nats {ns : List Nat} {i : Nat} (h : i < ns.length) (h' : i < 1000) (st : List AO) : getI (.lst (ns.map inP)) (inP i) st = some (inP (ns.getD i 0), st) := by
  have e : (ns.map inP)[i]? = some (inP (ns.getD i 0)) := by
    rw [List.getElem?_map, List.getElem?_eq_getElem h]
    simp [List.getD, h]
  simp only [getI, items?, if_pos (get_nat h'), Int.toNat_natCast, e]
noncomputable def zOf (ks : List Nat) (q : Nat) : Bool := ks.getD q 0 == 0
theorem frac_le (z : Nat → Bool) (x : Cd) : ∀ m, (frac z x m).1 ≤ 5 * 6 ^ m
  | 0 => by
    have := dg_lt x.2 (3 - 1)
    show ((fig x 3 : Nat) : Int) ≤ 5 * 1
    unfold fig
    omega
  | m + 1 => by
    obtain ⟨h1, h2⟩ := frac_pos z x m
    have ih := frac_le z x m
    have hd := dg_lt x.2 (2 - m - 1)
    have hf : (fig x (2 - m) : Int) ≤ 5 := by unfold fig; omega
    have h3 : (fig x (2 - m) : Int) * (frac z x m).1 ≤ 5 * (frac z x m).1 := Int.mul_le_mul_of_nonneg_right hf (by omega)
    show (fig x (2 - m) : Int) * (frac z x m).1 + (if z (2 - m) then (frac z x m).2 else -(frac z x m).2) ≤ 5 * 6 ^ (m + 1)
    rw [Int.pow_succ]
    split <;> omega
noncomputable abbrev E7f (x : Cd) (c : Nat) (ks : List Nat) (a b : Int) (l5 l6 : Option PV) (S : List AO) : ES := ⟨[some (cdP x), some (inP c), some (.lst (ks.map inP)), some (.int a), some (.int b), l5, l6], [], S⟩
noncomputable def fB (w : World) : FM PF := seqE (bindE (iteE (bindE (bindE (bindE (getL 2) fun p => bindE (getL 5) fun q => liftS (getI p q)) fun p => bindE (pureE (PV.int 0)) fun q => liftS (eqG p q)) fun p => liftS (truthG p)) (getL 4) (bindE (getL 4) fun p => liftS (negI p))) fun p => bindE (setL 6 p) fun x => pureE PF.next) (seqE (bindE (bindE (consE (bindE (bindE (bindE (consE (getL 0) (consE (getL 5) (pureE []))) fun ps => liftS (figR w ps)) fun p => bindE (getL 3) fun q => liftS (mulI p q)) fun p => bindE (getL 6) fun q => liftS (addG p q)) (consE (getL 3) (pureE []))) tupE) fun p => bindE (unpackRevE [Str.ofString "above", Str.ofString "below"].length (asCons (setL 4) (asCons (setL 3) asNil)) p) fun x => pureE PF.next) (pureE PF.next))
theorem fB_run (w : World) {x : Cd} {c q : Nat} (h : 1 ≤ q) (h' : q ≤ 3) {ks : List Nat} (hk : ks.length = 4) {a b : Int} (ha : a.natAbs < 1000000) {l6 : Option PV} (S : List AO) :
    ∃ l6', fB w (E7f x c ks a b (some (inP q)) l6 S) = some (.next, E7f x c ks ((fig x q : Int) * a + (if zOf ks q then b else -b)) a (some (inP q)) l6' S) := by
  let s : Int := if zOf ks q then b else -b
  let E (l6 : Option PV) : ES := E7f x c ks a b (some (inP q)) l6 S
  refine ⟨some (.int s), ?_⟩
  unfold fB
  refine e_seq (es₁ := E (some (.int s))) (e_asg (p := .int s) (es₁ := E l6) (e_ite (t := zOf ks q) (es₁ := E l6) (p_lift (p := .bool (zOf ks q)) (p_bin (p := inP (ks.getD q 0)) (q := inP 0) (p_bin (p := .lst (ks.map inP)) (q := inP q) rfl rfl (getI_nats (by omega) (by omega) _)) rfl (eq_nat _ _ _)) (truth_bool _ _)) ?_) rfl) ?_
  · show (if zOf ks q = true then getL 4 else bindE (getL 4) fun p => liftS (negI p)) (E l6) = some (.int (if zOf ks q then b else -b), E l6)
    cases zOf ks q <;> rfl
  · refine e_seq (e_asg (p := .tup [.int ((fig x q : Int) * a + s), .int a]) (es₁ := E (some (.int s))) (p_tup2 (p_bin (p := .int ((fig x q : Int) * a)) (q := .int s) (p_bin (p := inP (fig x q)) (q := .int a) (p_call (ps := [cdP x, inP q]) (p_cons rfl (p_cons rfl rfl)) (fig_run w x h h' _)) rfl ?_) rfl rfl) rfl) rfl) rfl
    exact if_pos (by omega)
theorem rgf3 (st : List AO) : Z6 [.int 2, .int 2, .int (-1)] st = some ([], fun _ => true) := by kernel_rfl
theorem rgf2 (st : List AO) : Z6 [.int 2, .int 1, .int (-1)] st = some ([inP 2], fun _ => true) := by kernel_rfl
theorem rgf1 (st : List AO) : Z6 [.int 2, .int 0, .int (-1)] st = some ([inP 2, inP 1], fun _ => true) := by kernel_rfl
noncomputable def frI : FM Its := bindE (consE (pureE (PV.int 2)) (consE (bindE (getL 1) fun p => bindE (pureE (PV.int 1)) fun q => liftS (subI p q)) (consE (bindE (pureE (PV.int 1)) fun p => liftS (negI p)) (pureE [])))) (itsEs Z6)
theorem fr_loop (w : World) (x : Cd) {ks : List Nat} (hk : ks.length = 4) (S : List AO) : ∀ m ≤ 2, ∃ l5 l6, forE frI (setL 5) (fB w) (E7f x (3 - m) ks (fig x 3) 1 none none S) = some (.next, E7f x (3 - m) ks (frac (zOf ks) x m).1 (frac (zOf ks) x m).2 l5 l6 S) := by
  have hb : ∀ m, m ≤ 2 → (frac (zOf ks) x m).1.natAbs < 1000000 := by
    intro m hm
    have h1 := frac_pos (zOf ks) x m
    have h2 := frac_le (zOf ks) x m
    have h3 : (6 : Int) ^ m ≤ 36 := by
      match m, hm with
      | 0, _ | 1, _ | 2, _ => decide
    omega
  obtain ⟨a1, e1⟩ := fB_run w (x := x) (c := 2) (q := 2) (by decide) (by decide) hk (hb 0 (by decide)) (b := (frac (zOf ks) x 0).2) (l6 := none) S
  obtain ⟨b1, f1⟩ := fB_run w (x := x) (c := 1) (q := 2) (by decide) (by decide) hk (hb 0 (by decide)) (b := (frac (zOf ks) x 0).2) (l6 := none) S
  obtain ⟨b2, f2⟩ := fB_run w (x := x) (c := 1) (q := 1) (by decide) (by decide) hk (hb 1 (by decide)) (b := (frac (zOf ks) x 1).2) (l6 := b1) S
  have hs : ∀ (c q : Nat) (a b : Int) (l5 l6 : Option PV), setL 5 (inP q) (E7f x c ks a b l5 l6 S) = some ((), E7f x c ks a b (some (inP q)) l6 S) := fun _ _ _ _ _ _ => rfl
  intro m hm
  match m, hm with
  | 0, _ => exact ⟨none, none, e_for (its_at (ps := [.int 2, .int 2, .int (-1)]) rfl (rgf3 S)) f_nil⟩
  | 1, _ => exact ⟨some (inP 2), a1, e_for (its_at (ps := [.int 2, .int 1, .int (-1)]) rfl (rgf2 S)) (f_cons (hs _ _ _ _ _ _) e1 f_nil)⟩
  | 2, _ => exact ⟨some (inP 1), b2, e_for (its_at (ps := [.int 2, .int 0, .int (-1)]) rfl (rgf1 S)) (f_cons (hs _ _ _ _ _ _) f1 (f_cons (hs _ _ _ _ _ _) f2 f_nil))⟩
noncomputable def frP (z : Nat → Bool) (m : Nat) (x : Cd) : PV := .tup [.int (frac z x m).1, .int (frac z x m).2]
theorem frac_run (w : World) (x : Cd) {ks : List Nat} (hk : ks.length = 4) {m : Nat} (hm : m ≤ 2) (st : List AO) : fracR w [cdP x, inP (3 - m), .lst (ks.map inP)] st = some (frP (zOf ks) m x, st) := by
  obtain ⟨l5, l6, e⟩ := fr_loop w x hk st m hm
  let E0 : ES := ⟨[some (cdP x), some (inP (3 - m)), some (.lst (ks.map inP)), none, none, none, none], [], st⟩
  have run : (s_frac w).1 E0 = some (.ret (frP (zOf ks) m x), E7f x (3 - m) ks (frac (zOf ks) x m).1 (frac (zOf ks) x m).2 l5 l6 st) := by
    simp only [s_frac]
    refine e_seq (es₁ := E7f x (3 - m) ks (fig x 3) 1 none none st) (e_asg (p := .tup [inP (fig x 3), .int 1]) (es₁ := E0) (p_tup2 (p_call (ps := [cdP x, inP 3]) (p_cons rfl (p_cons rfl rfl)) (fig_run w x (by decide) (by decide) _)) rfl) rfl) ?_
    exact e_seq e (e_stop (e_bind (y := frP (zOf ks) m x) (es₁ := E7f x (3 - m) ks (frac (zOf ks) x m).1 (frac (zOf ks) x m).2 l5 l6 st) (p_tup2 rfl rfl) rfl))
  have h2 : [cdP x, inP (3 - m), PV.lst (ks.map inP)].length = 3 + 0 := rfl
  have h3 := runK_eq (dps := []) (li := [some 0, some 1, some 2, none, none, none, none]) (ci := []) (ps := [cdP x, inP (3 - m), .lst (ks.map inP)]) (st := st) h2 run
  exact h3
theorem enum_cds (v : Cd → PV) : ∀ (k : Nat) (ns : List Nat), enumP k ((cdsOf k ns).map v) = (cdsOf k ns).map fun x => .tup [inP x.1, v x]
  | _, [] => rfl
  | k, n :: r => by
    show _ :: enumP (k + 1) ((cdsOf (k + 1) r).map v) = _
    rw [enum_cds v (k + 1) r]; rfl
theorem cds_get : ∀ (k : Nat) (ns : List Nat) (x : Cd), x ∈ cdsOf k ns → (cdsOf k ns)[x.1 - k]? = some x
  | k, n :: r, x, m => by
    rcases List.mem_cons.mp m with rfl | m
    · show ((k, n) :: cdsOf (k + 1) r)[k - k]? = _
      rw [Nat.sub_self]; rfl
    · have h := cds_get (k + 1) r x m
      have h2 := (cdsOf_ge (k + 1) r x m).1
      show ((k, n) :: cdsOf (k + 1) r)[x.1 - k]? = _
      rw [show x.1 - k = (x.1 - (k + 1)) + 1 by omega, List.getElem?_cons_succ]; exact h
noncomputable abbrev kP (ks : List Nat) : PV := .lst (ks.map inP)
noncomputable abbrev E12 (p : PV) (c : Nat) (ks : List Nat) (fr tu du l4 l5 l6 l7 l8 l9 l10 l11 : Option PV) (S : List AO) : ES := ⟨[some p, fr, tu, du, l4, l5, l6, l7, l8, l9, l10, l11], [some (kP ks), some (inP c)], S⟩
noncomputable def lessE : FM PF := bindE (bindE (bindE (getL 9) fun p => bindE (getL 6) fun q => liftS (mulI p q)) fun p => bindE (bindE (getL 5) fun p => bindE (getL 10) fun q => liftS (mulI p q)) fun q => liftS (subI p q)) fun p => bindE (setL 11 p) fun x => pureE PF.next
noncomputable def testE : FM Bool := iteE (bindE (bindE (getL 11) fun p => bindE (pureE (PV.int 0)) fun q => liftS (ltG p q)) fun p => liftS (truthG p)) (pureE true) (iteE (iteE (bindE (bindE (getL 11) fun p => bindE (pureE (PV.int 0)) fun q => liftS (eqG p q)) fun p => liftS (truthG p)) (iteE (bindE (bindE (bindE (consE (bindE (getL 8) fun p => bindE (getL 4) fun q => liftS (ltG p q)) (consE (bindE (getL 8) fun p => bindE (getL 4) fun q => liftS (gtI p q)) (pureE []))) tupE) fun p => bindE (getL 2) fun q => liftS (getI p q)) fun p => liftS (truthG p)) (pureE (BoolOp.And == BoolOp.And)) (pureE false)) (pureE false)) (pureE true) (pureE (BoolOp.Or == BoolOp.And)))
noncomputable def dIn : FM PF := seqE lessE (seqE (iteE testE (seqE (augE (getL 7) (pureE (PV.int 1)) iaddG (setL 7)) (pureE PF.next)) (pureE PF.next)) (pureE PF.next))
theorem lt_int (a b : Int) (st : List AO) : ltG (.int a) (.int b) st = some (.bool (decide (a < b)), st) := ltG_of
theorem gt_int (a b : Int) (st : List AO) : gtI (.int a) (.int b) st = some (.bool (decide (b < a)), st) := rfl
theorem eq_int (a b : Int) (st : List AO) : eqG (.int a) (.int b) st = some (.bool (decide (a = b)), st) := by
  show some (PV.bool (PyData.eqv (.int a) (.int b)), st) = _
  have : PyData.eqv (.int a) (.int b) = decide (a = b) := by
    unfold PyData.eqv
    rw [Bool.eq_iff_iff, beq_iff_eq, decide_eq_true_iff]
  rw [this]
theorem nat_lt (a b : Nat) : decide ((a : Int) < (b : Int)) = decide (a < b) := by rw [decide_eq_decide]; omega
section
variable {z : Nat → Bool} {m : Nat} {x y : Cd} {p : PV} {c : Nat} {ks : List Nat} {fr du l7 : Option PV} {S : List AO}
noncomputable abbrev tuP (z : Nat → Bool) (m : Nat) : PV := inP (if turned z m then 1 else 0)
theorem testE_run {l5 l6 l9 l10 : Option PV} : testE (E12 p c ks fr (some (tuP z m)) du (some (inP x.1)) l5 l6 l7 (some (inP y.1)) l9 l10 (some (.int (less z m x y))) S) = some (ahead z m x y, E12 p c ks fr (some (tuP z m)) du (some (inP x.1)) l5 l6 l7 (some (inP y.1)) l9 l10 (some (.int (less z m x y))) S) := by
  let E : ES := E12 p c ks fr (some (tuP z m)) du (some (inP x.1)) l5 l6 l7 (some (inP y.1)) l9 l10 (some (.int (less z m x y))) S
  unfold testE ahead
  refine e_ite (t := decide (less z m x y < 0)) (es₁ := E) (p_lift (p := .bool (decide (less z m x y < 0))) (p_bin (p := .int (less z m x y)) (q := .int 0) rfl rfl (lt_int _ _ _)) (truth_bool _ _)) ?_
  cases h1 : decide (less z m x y < 0) with
  | true => rfl
  | false =>
    let C : Bool := if turned z m then decide (x.1 < y.1) else decide (y.1 < x.1)
    have hc : (bindE (bindE (bindE (consE (bindE (getL 8) fun p => bindE (getL 4) fun q => liftS (ltG p q)) (consE (bindE (getL 8) fun p => bindE (getL 4) fun q => liftS (gtI p q)) (pureE []))) tupE) fun p => bindE (getL 2) fun q => liftS (getI p q)) fun p => liftS (truthG p)) E = some (C, E) := by
      refine p_lift (p := .bool C) (p_bin (p := .tup [.bool (decide (y.1 < x.1)), .bool (decide (x.1 < y.1))]) (q := tuP z m) (p_tup2 (p_bin (p := inP y.1) (q := inP x.1) rfl rfl ((lt_int _ _ _).trans (by rw [nat_lt]))) (p_bin (p := inP y.1) (q := inP x.1) rfl rfl ((gt_int _ _ _).trans (by rw [nat_lt])))) rfl ?_) (truth_bool _ _)
      show getI _ (inP (if turned z m then 1 else 0)) _ = some (.bool (if turned z m then decide (x.1 < y.1) else decide (y.1 < x.1)), _)
      cases turned z m
      · exact getI_tup2.1
      · exact getI_tup2.2
    have hb := p_lift (γ := Bool) (F := bindE (getL 11) fun p => bindE (pureE (PV.int 0)) fun q => liftS (eqG p q)) (G := truthG) (p := .bool (decide (less z m x y = 0))) (r := decide (less z m x y = 0)) (es := E) (p_bin (p := .int (less z m x y)) (q := .int 0) rfl rfl (eq_int _ _ _)) (truth_bool _ _)
    cases h2 : decide (less z m x y = 0) with
    | false =>
      rw [h2] at hb
      exact e_ite (t := false) (es₁ := E) (e_ite (t := false) (es₁ := E) hb rfl) rfl
    | true =>
      rw [h2] at hb
      refine (e_ite (t := C) (es₁ := E) (e_ite (t := true) (es₁ := E) hb (e_ite (t := C) (es₁ := E) hc ?_)) (r := some (C, E)) ?_).trans rfl
      · cases C <;> rfl
      · cases C <;> rfl
end
theorem frac_small (z : Nat → Bool) (x : Cd) {m : Nat} (hm : m ≤ 2) : (frac z x m).2.natAbs < 2 ^ 60 := by
  have h1 := frac_pos z x m
  have h2 := frac_le z x m
  have h3 : (6 : Int) ^ m ≤ 36 := by
    match m, hm with
    | 0, _ | 1, _ | 2, _ => decide
  omega
noncomputable abbrev tg2 (i : Nat) (T : PV → FM Unit) : PV → FM Unit := unpackE 2 (asCons (setL i) (asCons T asNil))
noncomputable def asS : PV → FM Unit := tg2 8 (unpackE 2 (asCons (setL 9) (asCons (setL 10) asNil)))
noncomputable def asO : PV → FM Unit := tg2 4 (unpackE 2 (asCons (setL 5) (asCons (setL 6) asNil)))
noncomputable def enP (z : Nat → Bool) (m : Nat) (x : Cd) : PV := .tup [inP x.1, frP z m x]
section
variable {z : Nat → Bool} {m : Nat} {x : Cd} {p : PV} {c : Nat} {ks : List Nat} {fr du : Option PV} {S : List AO}
noncomputable abbrev EX (z : Nat → Bool) (m : Nat) (x : Cd) (p : PV) (c : Nat) (ks : List Nat) (fr du : Option PV) (k : Nat) (l8 l9 l10 l11 : Option PV) (S : List AO) : ES := E12 p c ks fr (some (tuP z m)) du (some (inP x.1)) (some (.int (frac z x m).1)) (some (.int (frac z x m).2)) (some (inP k)) l8 l9 l10 l11 S
theorem dIn_run (hm : m ≤ 2) {y : Cd} {k : Nat} {l11 : Option PV} :
    dIn (EX z m x p c ks fr du k (some (inP y.1)) (some (.int (frac z y m).1)) (some (.int (frac z y m).2)) l11 S) = some (.next, EX z m x p c ks fr du (k + (if ahead z m x y then 1 else 0)) (some (inP y.1)) (some (.int (frac z y m).1)) (some (.int (frac z y m).2)) (some (.int (less z m x y))) S) := by
  let E (k : Nat) (l11 : Option PV) : ES := EX z m x p c ks fr du k (some (inP y.1)) (some (.int (frac z y m).1)) (some (.int (frac z y m).2)) l11 S
  unfold dIn
  refine e_seq (es₁ := E k (some (.int (less z m x y)))) ?_ (e_seq (e_ite (t := ahead z m x y) (es₁ := E k (some (.int (less z m x y)))) testE_run ?_) rfl)
  · unfold lessE
    exact e_asg (p := .int (less z m x y)) (es₁ := E k l11) (p_bin (p := .int ((frac z y m).1 * (frac z x m).2)) (q := .int ((frac z x m).1 * (frac z y m).2)) (p_bin (p := .int (frac z y m).1) (q := .int (frac z x m).2) rfl rfl (if_pos (frac_small z x hm))) (p_bin (p := .int (frac z x m).1) (q := .int (frac z y m).2) rfl rfl (if_pos (frac_small z y hm))) rfl) rfl
  · cases ahead z m x y <;> rfl
theorem d_loop (hm : m ≤ 2) : ∀ (r : List Cd) (k : Nat) (l8 l9 l10 l11 : Option PV), ∃ l8' l9' l10' l11', Zw (fun _ => true) asS dIn (r.map (enP z m)) (EX z m x p c ks fr du k l8 l9 l10 l11 S) = some (.next, EX z m x p c ks fr du (k + r.countP (ahead z m x)) l8' l9' l10' l11' S)
  | [], k, l8, l9, l10, l11 => ⟨l8, l9, l10, l11, rfl⟩
  | y :: r, k, l8, l9, l10, l11 => by
    obtain ⟨a, b, d, e, h⟩ := d_loop hm r (k + (if ahead z m x y then 1 else 0)) (some (inP y.1)) (some (.int (frac z y m).1)) (some (.int (frac z y m).2)) (some (.int (less z m x y)))
    have hs : asS (enP z m y) (EX z m x p c ks fr du k l8 l9 l10 l11 S) = some ((), EX z m x p c ks fr du k (some (inP y.1)) (some (.int (frac z y m).1)) (some (.int (frac z y m).2)) l11 S) := rfl
    rw [Nat.add_assoc, Nat.add_comm (if ahead z m x y then 1 else 0) (r.countP (ahead z m x)), ← List.countP_cons] at h
    exact ⟨a, b, d, e, f_cons hs (dIn_run hm) h⟩
noncomputable def enI : FM Its := bindE (consE (getL 1) (pureE [])) (itsEs itsEnum)
noncomputable def dOut : FM PF := seqE (bindE (pureE (PV.int 0)) fun p => bindE (setL 7 p) fun x => pureE PF.next) (seqE (forE enI asS dIn) (seqE (bindE (bindE (getL 0) fun p => bindE (getL 4) fun q => liftS (getI p q)) fun v => bindE (getL 3) fun p => bindE (getL 7) fun q => bindE (liftS (setI p q v)) fun x => pureE PF.next) (pureE PF.next)))
theorem enI_run {ns : List Nat} {es : ES} (h : es.loc[1]? = some (some (.lst ((cdsOf 0 ns).map (frP z m))))) : enI es = some (((cdsOf 0 ns).map (enP z m), fun _ => true), es) := by
  refine its_at (ps := [.lst ((cdsOf 0 ns).map (frP z m))]) (e_cons (es₁ := es) (getL_at h) rfl) ?_
  show some (enumP 0 ((cdsOf 0 ns).map (frP z m)), _) = _
  rw [enum_cds]; rfl
theorem IsL.get {cs : List Cd} {st : List AO} (hp : IsL p cs st) {i : Nat} (hi : i < 1000) {x : Cd} (e : cs[i]? = some x) : getI p (inP i) st = some (cdP x, st) := by
  have e' : (cs.map cdP)[i]? = some (cdP x) := by rw [List.getElem?_map, e]; rfl
  rcases hp with rfl | ⟨k, rfl, q⟩
  · simp only [getI, items?, if_pos (get_nat hi), Int.toNat_natCast, e']
  · simp only [getI, items?, if_pos (get_nat hi), Int.toNat_natCast, q, e']
theorem setI_at {S : List AO} {i k : Nat} {xs : List PV} (h : S[i]? = some (.list xs)) (hk : k < xs.length) (hk' : k < 1000) (v : PV) : setI (.ref i) (inP k) v S = some ((), S.set i (.list (xs.set k v))) := by
  have g := get_nat hk'
  exact setI_of h ⟨g.1, g.2, hk⟩
end
noncomputable abbrev EY (z : Nat → Bool) (m : Nat) (ns : List Nat) (p : PV) (c : Nat) (ks : List Nat) (dn : Nat) (l4 l5 l6 l7 l8 l9 l10 l11 : Option PV) (S : List AO) : ES := E12 p c ks (some (.lst ((cdsOf 0 ns).map (frP z m)))) (some (tuP z m)) (some (.ref dn)) l4 l5 l6 l7 l8 l9 l10 l11 S
section
variable {z : Nat → Bool} {m : Nat} {p : PV} {c : Nat} {ks : List Nat} {ns : List Nat} {st : List AO}
theorem rank_lt {x : Cd} (hx : x ∈ cdsOf 0 ns) : rank z m (cdsOf 0 ns) x < (cdsOf 0 ns).length := by
  have h := (List.getElem?_eq_some_iff.mp (rank_get z (cdsOf_pair 0 ns) m hx)).1
  rwa [dealt_len z (cdsOf_pair 0 ns) m] at h
theorem dOut_run (hm : m ≤ 2) (hn : ns.length ≤ 9) (hp : IsL p (cdsOf 0 ns) st) {x : Cd} (hx : x ∈ cdsOf 0 ns) {d : List PV} (hd : d.length = (cdsOf 0 ns).length) {l7 l8 l9 l10 l11 : Option PV} :
    ∃ l7' l8' l9' l10' l11', dOut (EY z m ns p c ks st.length (some (inP x.1)) (some (.int (frac z x m).1)) (some (.int (frac z x m).2)) l7 l8 l9 l10 l11 (st ++ [.list d])) = some (.next, EY z m ns p c ks st.length (some (inP x.1)) (some (.int (frac z x m).1)) (some (.int (frac z x m).2)) l7' l8' l9' l10' l11' (st ++ [.list (d.set (rank z m (cdsOf 0 ns) x) (cdP x))])) := by
  obtain ⟨a, b, e8, e11, h⟩ := d_loop (z := z) (x := x) (p := p) (c := c) (ks := ks) (fr := some (.lst ((cdsOf 0 ns).map (frP z m)))) (du := some (.ref st.length)) (S := st ++ [.list d]) hm (cdsOf 0 ns) 0 l8 l9 l10 l11
  rw [Nat.zero_add] at h
  have hr := rank_lt (z := z) (m := m) hx
  have hlen := cdsOf_len 0 ns
  refine ⟨some (inP (rank z m (cdsOf 0 ns) x)), a, b, e8, e11, ?_⟩
  unfold dOut
  refine e_seq (es₁ := EX z m x p c ks (some (.lst ((cdsOf 0 ns).map (frP z m)))) (some (.ref st.length)) 0 l8 l9 l10 l11 (st ++ [.list d])) rfl (e_seq (e_for (enI_run rfl) h) (e_seq (es₁ := EX z m x p c ks (some (.lst ((cdsOf 0 ns).map (frP z m)))) (some (.ref st.length)) (rank z m (cdsOf 0 ns) x) a b e8 e11 (st ++ [.list (d.set (rank z m (cdsOf 0 ns) x) (cdP x))])) ?_ rfl))
  have hx1 := (cdsOf_ge 0 ns x hx).2
  let E := EX z m x p c ks (some (.lst ((cdsOf 0 ns).map (frP z m)))) (some (.ref st.length)) (rank z m (cdsOf 0 ns) x) a b e8 e11 (st ++ [.list d])
  refine e_bind (y := cdP x) (es₁ := E) (p_bin (p := p) (q := inP x.1) rfl rfl ((hp.app _).get (by omega) (by have := cds_get 0 ns x hx; exact this))) (e_bind (y := .ref st.length) (es₁ := E) rfl (e_bind (y := inP (rank z m (cdsOf 0 ns) x)) (es₁ := E) rfl (e_bind (y := ()) (es₁ := EX z m x p c ks (some (.lst ((cdsOf 0 ns).map (frP z m)))) (some (.ref st.length)) (rank z m (cdsOf 0 ns) x) a b e8 e11 (st ++ [.list (d.set (rank z m (cdsOf 0 ns) x) (cdP x))])) ?_ rfl)))
  unfold liftS
  rw [show E.st = st ++ [.list d] from rfl, setI_at (Z5 _ _) (by omega) (by omega), set_app0]
  rfl
theorem o_loop (hm : m ≤ 2) (hn : ns.length ≤ 9) (hp : IsL p (cdsOf 0 ns) st) : ∀ (r : List Cd) (d : List PV) (l4 l5 l6 l7 l8 l9 l10 l11 : Option PV), (∀ x ∈ r, x ∈ cdsOf 0 ns) → d.length = (cdsOf 0 ns).length →
    ∃ l4' l5' l6' l7' l8' l9' l10' l11', Zw (fun _ => true) asO dOut (r.map (enP z m)) (EY z m ns p c ks st.length l4 l5 l6 l7 l8 l9 l10 l11 (st ++ [.list d])) = some (.next, EY z m ns p c ks st.length l4' l5' l6' l7' l8' l9' l10' l11' (st ++ [.list (r.foldl (fun d t => d.set (rank z m (cdsOf 0 ns) t) (cdP t)) d)]))
  | [], d, l4, l5, l6, l7, l8, l9, l10, l11, _, _ => ⟨l4, l5, l6, l7, l8, l9, l10, l11, rfl⟩
  | x :: r, d, l4, l5, l6, l7, l8, l9, l10, l11, hr, hd => by
    obtain ⟨a7, a8, a9, a10, a11, e⟩ := dOut_run (z := z) (m := m) (c := c) (ks := ks) hm hn hp (hr x (.head _)) hd (l7 := l7) (l8 := l8) (l9 := l9) (l10 := l10) (l11 := l11)
    obtain ⟨b4, b5, b6, b7, b8, b9, b10, b11, e2⟩ := o_loop hm hn hp r (d.set (rank z m (cdsOf 0 ns) x) (cdP x)) (some (inP x.1)) (some (.int (frac z x m).1)) (some (.int (frac z x m).2)) a7 a8 a9 a10 a11 (fun y m => hr y (.tail _ m)) (by rw [List.length_set]; exact hd)
    have hs : asO (enP z m x) (EY z m ns p c ks st.length l4 l5 l6 l7 l8 l9 l10 l11 (st ++ [.list d])) = some ((), EY z m ns p c ks st.length (some (inP x.1)) (some (.int (frac z x m).1)) (some (.int (frac z x m).2)) l7 l8 l9 l10 l11 (st ++ [.list d])) := rfl
    exact ⟨b4, b5, b6, b7, b8, b9, b10, b11, f_cons hs e e2⟩
end
noncomputable def qsOf : Nat → List Nat
  | 0 => [3]
  | 1 => [2, 3]
  | _ => [1, 2, 3]
theorem rgq (m : Nat) (hm : m ≤ 2) (st : List AO) : Z6 [inP (3 - m), .int 4] st = some ((qsOf m).map inP, fun _ => true) := by
  match m, hm with
  | 0, _ => kernel_rfl
  | 1, _ => kernel_rfl
  | 2, _ => kernel_rfl
theorem tu_eq (ks : List Nat) {m : Nat} (hm : m ≤ 2) : ((qsOf m).map fun q => ks.getD q 0).countP (fun n => n == 0) % 2 = if turned (zOf ks) m then 1 else 0 := by
  have h : ((qsOf m).map fun q => ks.getD q 0).countP (fun n => n == 0) = (qsOf m).countP (zOf ks) := by rw [List.countP_map]; rfl
  rw [h]
  generalize zOf ks = z
  match m, hm with
  | 0, _ =>
    show [3].countP z % 2 = if z 3 then 1 else 0
    simp only [List.countP_cons, List.countP_nil]
    cases z 3 <;> rfl
  | 1, _ =>
    show [2, 3].countP z % 2 = if xor (z 2) (z 3) then 1 else 0
    simp only [List.countP_cons, List.countP_nil]
    cases z 2 <;> cases z 3 <;> rfl
  | 2, _ =>
    show [1, 2, 3].countP z % 2 = if xor (z 1) (xor (z 2) (z 3)) then 1 else 0
    simp only [List.countP_cons, List.countP_nil]
    cases z 1 <;> cases z 2 <;> cases z 3 <;> rfl
theorem count_nats (l : List Nat) (st : List AO) : countG [.lst (l.map inP), .int 0] st = some (inP (l.countP fun n => n == 0), st) := by
  have h1 : datS st (.lst (l.map inP)) = some (.list (l.map fun n : Nat => PyData.int (n : Int))) := by
    show ((l.map inP).mapM (dat 5)).map PyData.list = _
    rw [mapM_dat 5 inP (fun n : Nat => PyData.int (n : Int)) fun _ => rfl]; rfl
  rw [count_of h1 (d := .int 0) rfl (xs := l.map inP) rfl, List.countP_map]
  have : ((fun y : PyData => PyData.eqv y (.int 0)) ∘ fun n : Nat => PyData.int (n : Int)) = fun n : Nat => n == 0 := by
    funext n
    show PyData.eqv (.int (n : Int)) (.int 0) = _
    unfold PyData.eqv
    rw [Bool.eq_iff_iff, beq_iff_eq, beq_iff_eq]
    omega
  rw [this]
theorem len_isL {p : PV} {cs : List Cd} {st : List AO} (hp : IsL p cs st) (hz : cs.length ≤ 50) : lenG [p] st = some (inP cs.length, st) := by
  have h : items? st p = some (cs.map cdP) := by
    rcases hp with rfl | ⟨k, rfl, q⟩
    · rfl
    · exact items_ref q
  rw [lenG_of h (Z0 (by rw [List.length_map]; omega)), List.length_map]
theorem rep_flat {α : Type} (a : α) : ∀ n : Nat, (List.replicate n [a]).flatten = List.replicate n a
  | 0 => rfl
  | n + 1 => by rw [List.replicate_succ, List.flatten_cons, rep_flat a n]; rfl
theorem all_filter {α : Type} (l : List α) : l.filter (fun _ => true) = l := List.filter_eq_self.mpr fun _ _ => rfl
noncomputable def dueR (w : World) : List PV → SM PV := runK (3 + 0) [] [some 0, none, none, none, none, none, none, none, none, none, none, none] [some 2, some 1] (s_due w).1
theorem due_run (w : World) {p : PV} {ks ns : List Nat} (hk : ks.length = 4) (hn : ns.length ≤ 9) {m : Nat} (hm : m ≤ 2) {st : List AO} (hp : IsL p (cdsOf 0 ns) st) :
    dueR w [p, inP (3 - m), kP ks] st = some (.ref st.length, st ++ [.list ((dealt (zOf ks) (cdsOf 0 ns) m).map cdP)]) := by
  obtain ⟨chk, hi, hchk⟩ := hp.its
  have hlen := cdsOf_len 0 ns
  let z := zOf ks
  let c := 3 - m
  let fr : PV := .lst ((cdsOf 0 ns).map (frP z m))
  let E (a b d : Option PV) (S : List AO) : ES := E12 p c ks a b d none none none none none none none none S
  let S0 := st ++ [AO.list (List.replicate (cdsOf 0 ns).length (PV.str emS))]
  obtain ⟨b4, b5, b6, b7, b8, b9, b10, b11, e⟩ := o_loop (z := z) (c := c) (ks := ks) hm hn hp (cdsOf 0 ns) (List.replicate (cdsOf 0 ns).length (PV.str emS)) none none none none none none none none (fun _ h => h) (List.length_replicate ..)
  rw [due_dealt cdP (PV.str emS) z (cdsOf_pair 0 ns) m] at e
  have run : (s_due w).1 (E none none none st) = some (.ret (.ref st.length), EY z m ns p c ks st.length b4 b5 b6 b7 b8 b9 b10 b11 (st ++ [.list ((dealt z (cdsOf 0 ns) m).map cdP)])) := by
    simp only [s_due]
    refine e_seq (es₁ := E (some fr) none none st) (e_asg (p := fr) (es₁ := E none none none st) (e_lst ?_) rfl) ?_
    · have h := compE_pure (chk := chk) (es := E none none none st) cdP (fun _ => true) (frP z m) (cdsOf 0 ns) (I := bindE (getL 0) (itsE itsV)) (T := pureE true) (X := bindE (consE (getL 0) (consE (getC 1) (consE (getC 0) (pureE [])))) fun ps => liftS (fracR w ps)) (itsV_at rfl hi) (hchk _ hp) (fun a _ => rfl) (fun a _ _ => p_call (ps := [cdP a, inP c, kP ks]) (p_cons rfl (p_cons rfl (p_cons rfl rfl))) (frac_run w a hk hm _)) (Z0 (by omega))
      rw [all_filter] at h
      exact h
    refine e_seq (es₁ := E (some fr) (some (tuP z m)) none st) (e_asg (p := tuP z m) (es₁ := E (some fr) none none st) ?_ rfl) ?_
    · rw [show tuP z m = inP (((qsOf m).map fun q => ks.getD q 0).countP (fun n => n == 0) % 2) by rw [tu_eq ks hm]]
      refine p_bin (p := inP (((qsOf m).map fun q => ks.getD q 0).countP fun n => n == 0)) (q := inP 2) (p_meth (p := .lst (((qsOf m).map fun q => ks.getD q 0).map inP)) (ps := [.int 0]) (e_lst ?_) rfl (p_cons rfl rfl) (count_nats _ _)) rfl (mod_nat (by decide) _)
      have h := compE_pure (chk := fun _ => true) (es := E (some fr) none none st) inP (fun _ => true) (fun q => inP (ks.getD q 0)) (qsOf m) (I := bindE (consE (getC 1) (consE (pureE (PV.int 4)) (pureE []))) (itsEs Z6)) (T := pureE true) (X := bindE (getC 0) fun p => bindE (getL 0) fun q => liftS (getI p q)) (its_at (ps := [inP c, .int 4]) rfl (rgq m hm _)) rfl (fun a _ => rfl) (fun a ha _ => p_bin (p := kP ks) (q := inP a) rfl rfl (getI_nats (by
          have : a < 4 := by
            match m, hm with
            | 0, _ | 1, _ | 2, _ => simp [qsOf] at ha; omega
          omega) (by
          match m, hm with
          | 0, _ | 1, _ | 2, _ => simp [qsOf] at ha; omega) _)) (Z0 (by match m, hm with | 0, _ | 1, _ | 2, _ => decide))
      rw [all_filter] at h
      rw [List.map_map]
      exact h
    refine e_seq (es₁ := E (some fr) (some (tuP z m)) (some (.ref st.length)) S0) (e_asg (p := .ref st.length) (es₁ := E (some fr) (some (tuP z m)) none S0) (e_bin (es₁ := E (some fr) (some (tuP z m)) none st) (es₂ := E (some fr) (some (tuP z m)) none st) (p := .lst [.str emS]) (q := inP (cdsOf 0 ns).length) ?_ (p_call (ps := [p]) (p_cons rfl rfl) (len_isL hp (by omega))) ?_) rfl) ?_
    · exact e_bind (y := [.str emS]) (es₁ := E (some fr) (some (tuP z m)) none st) (p_cons rfl rfl) (by unfold lstE; rw [if_pos (Z0 (by decide))]; rfl)
    · show (match items? st (.lst [.str emS]) with | some xs => (if xs.length * ((cdsOf 0 ns).length : Int).toNat ≤ 2 ^ 24 ∧ -1000 < ((cdsOf 0 ns).length : Int) ∧ ((cdsOf 0 ns).length : Int) < 2 ^ 24 then some (PV.ref st.length, st ++ [AO.list (List.replicate ((cdsOf 0 ns).length : Int).toNat xs).flatten]) else none) | none => none) = _
      rw [show items? st (.lst [.str emS]) = some [.str emS] from rfl]
      dsimp only
      rw [if_pos (by rw [List.length_singleton, Int.toNat_natCast]; omega), Int.toNat_natCast, rep_flat]
    exact e_seq (e_for (enI_run rfl) e) (e_stop rfl)
  have h2 : [p, inP (3 - m), kP ks].length = 3 + 0 := rfl
  have h3 := runK_eq (dps := []) (li := [some 0, none, none, none, none, none, none, none, none, none, none, none]) (ci := [some 2, some 1]) (ps := [p, inP (3 - m), kP ks]) (st := st) h2 run
  exact h3
theorem k_cardsF (w : World) : FunK (C2 w) 2 (.ref 326) 1 [] (cardsR w) := r_cards w
theorem k_pilesF (w : World) : FunK (C2 w) 4 (.ref 338) 2 [] (pilesR w) := r_piles w
theorem k_lineF (w : World) : FunK (C2 w) 6 (.ref 345) 3 [] (lineR w) := r_line w
theorem k_tableF (w : World) : FunK (C2 w) 4 (.ref 350) 2 [] (tableR w) := r_table w
theorem k_dueF (w : World) : FunK (C2 w) 4 (.ref 362) 3 [] (dueR w) := r_due w
noncomputable abbrev ln_law : List Str := [Str.ofString "script", Str.ofString "drawn", Str.ofString "numbers", Str.ofString "cards", Str.ofString "told", Str.ofString "card", Str.ofString "words", Str.ofString "awaited", Str.ofString "marks", Str.ofString "kinds", Str.ofString "dealt", Str.ofString "column"]
noncomputable abbrev cn_law : List (Str × Nat) := [(Str.ofString "lexer", 1)]
theorem loc_law : ∀ x ∈ ln_law, (defS (at1 P2 22)).names.lookup x = some .local := by decide +kernel
theorem nd_law : ln_law.Nodup := by decide +kernel
noncomputable def b_law : { b : List Stmt // defB (at1 P2 22) = b } := ⟨[_, _, _, _, _, _, _, _, _, _, _, _, _, _], rfl⟩
noncomputable def s_law (w : World) : { F : FM PF // ∀ L, Den (C2 w) 6 (FI.fn fd367 367 ln_law cn_law L) RFl (execs (defB (at1 P2 22)) (callEnvC fd367 L 367)) F } := ⟨_, fun L => by
  have ok : FI.Ok (FI.fn fd367 367 ln_law cn_law L) := ok_fn (fd := fd367) rfl rfl rfl loc_law nd_law
  rw [b_law.2]
  exact (Zb (den_assign_comp (cl := []) ⟨by kernel_rfl, by decide +kernel, rfl, by decide +kernel⟩ rfl rfl (denc_one (cl := []) (ln := [Str.ofString "cell"]) ⟨by kernel_rfl, by decide +kernel, rfl, by decide +kernel⟩ (denit_v (den_slice (Za (i := 0) ok rfl) denp_none (denp_some Zj) denp_none)) (fun C => (Zf (i := 0) (Zx ok rfl (Zn (by kernel_rfl) Zy) (by decide +kernel)) rfl)) (fun C => dents_nil) (fun C => (Zp (Zt (Zo (Zx ok rfl (Zn (by kernel_rfl) Zy) (by decide +kernel)) (by kernel_rfl) (gn_int w) (bn_int w)) Z3 (Zc (Za (i := 0) (Zx ok rfl (Zn (by kernel_rfl) Zy) (by decide +kernel)) rfl) Ze) op_int) (Zp Zj Zj op_powI) op_modI))) (Zf (i := 1) ok rfl) (by kernel_rfl)) (Zb (Zh (Zp (Za (i := 1) ok rfl) (den_slice (den_list (Zc Zj (Zc Zj (Zc Zj (Zc Zj (Zc Zj (Zc Zj Ze))))))) (denp_some (Zt (Zo ok (by kernel_rfl) (gn_len w) (bn_len w)) Zi (Zc (Za (i := 1) ok rfl) Ze) op_len)) denp_none denp_none) op_addG) (Zf (i := 2) ok rfl)) (Zb (Zh (Zt (Zz ok (by kernel_rfl) (gn__law_cards w)) (Zk (a := 326) (by kernel_rfl)) (Zc (Za (i := 2) ok rfl) Ze) ((k_cardsF w).ok.weak (by decide))) (Zf (i := 3) ok rfl)) (Zb (Zh (Zt (Zz ok (by kernel_rfl) (gn_Headers w)) (Zk (a := 308) (by kernel_rfl)) (Zc (Yj Ze) Ze) ((k_make308 w).weak (by decide))) (Zf (i := 4) ok rfl)) (Zb (den_for (denit_v (Za (i := 3) ok rfl)) (Zf (i := 5) ok rfl) (Zb (Yo (den_method_kw (Za (i := 4) ok rfl) (Z8 (C := 308) (fa := 305) (by kernel_rfl)) (Zk (a := 305) (by kernel_rfl)) (Zc Zv (Zc den_none Ze)) (Za (i := 5) ok rfl) ((k_addh1 w).weak (by decide))) (by kernel_rfl)) Zg)) (Zb (Zh (Zt (Zz ok (by kernel_rfl) (gn__law_lexer w)) (Zk (a := 319) (by kernel_rfl)) (Zc (Zt (Zo ok (by kernel_rfl) (gn_str w) (bn_str w)) Z3 (Zc (Za (i := 4) ok rfl) Ze) ((k_strH w).weak (by decide))) Ze) ((k_lexer w).ok.weak (by decide))) (dena_cell (i := 0) ok rfl (by kernel_rfl) (by kernel_rfl))) (Zb (den_assign_comp (cl := [(Str.ofString "lexer", L + 1)]) ⟨by kernel_rfl, by decide +kernel, rfl, by decide +kernel⟩ rfl rfl (denc_one (cl := [(Str.ofString "lexer", L + 1)]) (ln := [Str.ofString "turn"]) ⟨by kernel_rfl, by decide +kernel, rfl, by decide +kernel⟩ (Yu (Zo ok (by kernel_rfl) (gn_range w) (bn_range w)) Z3 (Zc (Zp (Zp Zj (Zt (Zo ok (by kernel_rfl) (gn_len w) (bn_len w)) Zi (Zc (Za (i := 3) ok rfl) Ze) op_len) op_mulI) Zj op_addG) Ze) opit_range) (fun C => (Zf (i := 0) (Zx ok rfl (Zn (by kernel_rfl) Zy) (by decide +kernel)) rfl)) (fun C => dents_nil) (fun C => (Zl (Yh (i := 0) (Zx ok rfl (Zn (by kernel_rfl) Zy) (by decide +kernel)) rfl (by kernel_rfl) (.inl (by kernel_rfl))) (Z8 (C := 160) (fa := 150) (by kernel_rfl)) (Zk (a := 150) (by kernel_rfl)) Ze ((k_token w).ok.weak (by decide))))) (Zf (i := 6) ok rfl) (by kernel_rfl)) (Zb (Zh (Zp (den_listcomp (cl := []) ⟨by kernel_rfl, by decide +kernel, rfl, by decide +kernel⟩ rfl rfl (denc_two (cl := []) (ln := [Str.ofString "card", Str.ofString "word"]) ⟨by kernel_rfl, by decide +kernel, rfl, by decide +kernel⟩ (denit_v (Za (i := 3) ok rfl)) (fun C => (Zf (i := 0) (Zx ok rfl (Zn (by kernel_rfl) (Zn (by kernel_rfl) Zy)) (by decide +kernel)) rfl)) (fun C => dents_nil) (fun C => (denit_v (Yl (Zc Zv (Zc Zv (Zc (Za (i := 0) (Zx ok rfl (Zn (by kernel_rfl) (Zn (by kernel_rfl) Zy)) (by decide +kernel)) rfl) Ze)))))) (fun C => (Zf (i := 1) (Zx ok rfl (Zn (by kernel_rfl) (Zn (by kernel_rfl) Zy)) (by decide +kernel)) rfl)) (fun C => dents_nil) (fun C => (Za (i := 1) (Zx ok rfl (Zn (by kernel_rfl) (Zn (by kernel_rfl) Zy)) (by decide +kernel)) rfl)))) (den_list (Zc Zv Ze)) op_addG) (Zf (i := 7) ok rfl)) (Zb (den_if (Zm (Yl (Zc (Za (i := 6) ok rfl) (Zc (den_attr (Yh (i := 0) ok rfl (by kernel_rfl) (.inl (by kernel_rfl)))) Ze))) (Yl (Zc (Za (i := 7) ok rfl) (Zc (Zp (Zt (Zo ok (by kernel_rfl) (gn_len w) (bn_len w)) Zi (Zc (Za (i := 3) ok rfl) Ze) op_len) Zj op_addG) Ze))) op_neG) (Zb (Zs den_bool) Zg) Zg) (Zb (Zh (Zt (Zo ok (by kernel_rfl) (gn_sum w) (bn_sum w)) Zi (Zc (Za (i := 2) ok rfl) Ze) op_sum) (Zf (i := 8) ok rfl)) (Zb (Zh (den_list (Zc Zj (Zc (Zp (Za (i := 8) ok rfl) Zj op_modI) (Zc (Zp (Zp (Za (i := 8) ok rfl) Zj op_divI) Zj op_modI) (Zc (Zp (Zp (Za (i := 8) ok rfl) Zj op_divI) Zj op_modI) Ze))))) (Zf (i := 9) ok rfl)) (Zb (Zh (den_slice (Za (i := 6) ok rfl) (denp_some Zj) denp_none (denp_some Zj)) (Zf (i := 10) ok rfl)) (Zb (den_for (denit_v (Yl (Zc Zj (Zc Zj (Zc Zj Ze))))) (Zf (i := 11) ok rfl) (Zb (den_if (Zm (Zu (Za (i := 9) ok rfl) (Za (i := 11) ok rfl)) Zj op_eqG) (Zb (Zh (Zt (Zz ok (by kernel_rfl) (gn__law_piles w)) (Zk (a := 338) (by kernel_rfl)) (Zc (Za (i := 10) ok rfl) (Zc (Za (i := 11) ok rfl) Ze)) ((k_pilesF w).ok.weak (by decide))) (Zf (i := 10) ok rfl)) Zg) (Zb (den_if (Zm (Zu (Za (i := 9) ok rfl) (Za (i := 11) ok rfl)) Zj op_eqG) (Zb (Zh (Zt (Zz ok (by kernel_rfl) (gn__law_line w)) (Zk (a := 345) (by kernel_rfl)) (Zc (Yh (i := 0) ok rfl (by kernel_rfl) (.inl (by kernel_rfl))) (Zc (Za (i := 10) ok rfl) (Zc (Za (i := 11) ok rfl) Ze))) ((k_lineF w).ok.weak (by decide))) (Zf (i := 10) ok rfl)) Zg) (Zb (Zh (Zt (Zz ok (by kernel_rfl) (gn__law_table w)) (Zk (a := 350) (by kernel_rfl)) (Zc (Za (i := 10) ok rfl) (Zc (Za (i := 11) ok rfl) Ze)) ((k_tableF w).ok.weak (by decide))) (Zf (i := 10) ok rfl)) Zg)) Zg)) (Zb (den_if (Zm (Za (i := 10) ok rfl) (Zt (Zz ok (by kernel_rfl) (gn__law_due w)) (Zk (a := 362) (by kernel_rfl)) (Zc (Za (i := 3) ok rfl) (Zc (Za (i := 11) ok rfl) (Zc (Za (i := 9) ok rfl) Ze))) ((k_dueF w).ok.weak (by decide))) op_neG) (Zb (Zs den_bool) Zg) Zg) Zg))) (Zb (Zs (den_compare (Zl (Yh (i := 0) ok rfl (by kernel_rfl) (.inl (by kernel_rfl))) (Z8 (C := 160) (fa := 150) (by kernel_rfl)) (Zk (a := 150) (by kernel_rfl)) Ze ((k_token w).ok.weak (by decide))) Zv op_eqG)) Zg))))))))))))))⟩
theorem x_law (w : World) : DefK (C2 w).K 367 fd367 (defB (at1 P2 22)) [Str.ofString "script"] ln_law cn_law := ⟨⟨⟨_, _, _, rfl⟩, by kernel_rfl, rfl, rfl, rfl, rfl⟩, rfl, fun L => rfl, by decide +kernel, by decide +kernel, by decide +kernel, loc_law, by decide +kernel⟩
theorem r_law (w : World) : FunK (C2 w) 7 (.ref 367) 1 [] (runK (1 + 0) [] [some 0, none, none, none, none, none, none, none, none, none, none, none] [none] (s_law w).1) := Yc (x_law w) (dvs := []) (fun _ _ => .nil) rfl (by decide +kernel) (by decide +kernel) (fun s vs ws h1 h2 X => by
  obtain ⟨v0, rfl⟩ := ln1 h1
  obtain rfl := ln0 h2
  exact BindsTo.of_eq (by kernel_rfl)) (s_law w).2
noncomputable def rep (c : Nat) (z l : List Nat) : List Nat := l.flatMap fun k => if k = c then z else [k]
theorem rep_free (c : Nat) (z : List Nat) : ∀ l : List Nat, c ∉ l → rep c z l = l
  | [], _ => rfl
  | k :: r, h => by
    show (if k = c then z else [k]) ++ rep c z r = _
    have hk : ¬ k = c := fun e => h (by rw [e]; exact List.mem_cons_self ..)
    rw [if_neg hk, rep_free c z r fun m => h (List.mem_cons_of_mem _ m)]; rfl
theorem rep_join (c : Nat) (z : List Nat) : ∀ parts : List Str, (∀ p ∈ parts, c ∉ p.cps.toList) → rep c z (Str.join ⟨#[c]⟩ parts).cps.toList = (Str.join ⟨z.toArray⟩ parts).cps.toList
  | [], _ => rfl
  | [p], h => rep_free c z _ (h p (List.mem_singleton.mpr rfl))
  | p :: q :: r, h => by
    have ih := rep_join c z (q :: r) fun a ha => h a (List.mem_cons_of_mem _ ha)
    show rep c z (p ++ ⟨#[c]⟩ ++ Str.join ⟨#[c]⟩ (q :: r)).cps.toList = (p ++ ⟨z.toArray⟩ ++ Str.join ⟨z.toArray⟩ (q :: r)).cps.toList
    simp only [PySem.Str.cps_append, Array.toList_append]
    unfold rep at ih ⊢
    rw [List.flatMap_append, List.flatMap_append, ih]
    have h1 : p.cps.toList.flatMap (fun k => if k = c then z else [k]) = p.cps.toList := rep_free c z _ (h p (List.mem_cons_self ..))
    have h2 : [c].flatMap (fun k => if k = c then z else [k]) = z := by
      show (if c = c then z else [c]) ++ [] = z
      rw [if_pos rfl, List.append_nil]
    rw [h1, h2]
theorem replace_rep (x : Str) (c : Nat) (z : List Nat) : (Txt.replace x ⟨#[c]⟩ ⟨z.toArray⟩).cps.toList = rep c z x.cps.toList := by
  rw [StrLaws.replace_one, ← rep_join c z _ (StrLaws.split_free x c), StrLaws.join_split]
noncomputable def us (x : Cd) : List (Bool × Nat) := [(sgs.getD x.1 0 == 34 || sgs.getD x.1 0 == 92, sgs.getD x.1 0), (false, lc x.2 0), (false, lc x.2 1), (false, lc x.2 2)]
theorem lc_ne (n c : Nat) : lc n c ≠ 34 ∧ lc n c ≠ 92 := by
  have := dg_lt n c
  unfold lc lcv
  split <;> omega
theorem esc_list (x : Cd) : (Txt.replace (cdS x) bsl (Str.ofString "\\\\")).cps.toList.length ≤ 5 ∧ (escS (cdS x)).cps.toList = enc (us x) := by
  have b1 : bsl = ⟨#[92]⟩ := by decide +kernel
  have b2 : Str.ofString "\\\\" = ⟨([92, 92] : List Nat).toArray⟩ := by decide +kernel
  have b3 : quo = ⟨#[34]⟩ := by decide +kernel
  have b4 : Str.ofString "\\\"" = ⟨([92, 34] : List Nat).toArray⟩ := by decide +kernel
  unfold escS
  rw [b1, b2, b3, b4, replace_rep, replace_rep, replace_rep]
  obtain ⟨m0, n0⟩ := lc_ne x.2 0
  obtain ⟨m1, n1⟩ := lc_ne x.2 1
  obtain ⟨m2, n2⟩ := lc_ne x.2 2
  show (rep 92 [92, 92] [sgs.getD x.1 0, lc x.2 0, lc x.2 1, lc x.2 2]).length ≤ 5 ∧ rep 34 [92, 34] (rep 92 [92, 92] [sgs.getD x.1 0, lc x.2 0, lc x.2 1, lc x.2 2]) = _
  unfold us rep enc
  generalize sgs.getD x.1 0 = sg
  generalize lc x.2 0 = a at *
  generalize lc x.2 1 = b at *
  generalize lc x.2 2 = c at *
  by_cases h1 : sg = 92
  · subst h1; simp [enc, *]
  · by_cases h2 : sg = 34
    · subst h2; simp [enc, *]
    · simp [enc, *]
noncomputable def seg (x : Cd) : List Nat := [120, 58, 32, 107, 61, 34] ++ enc (us x) ++ [34]
noncomputable def tabL (cs : List Cd) : List Nat := cs.flatMap (fun x => seg x ++ [13, 10]) ++ [13, 10]
noncomputable def hdr1 (x : Cd) : Str × Str := (Str.ofString "x", parS kS (cdS x))
theorem row_list (x : Cd) : (rowS (hdr1 x)).cps.toList = seg x := by
  have h1 : (Str.ofString "x").cps.toList = [120] := by decide +kernel
  have h2 : kS.cps.toList = [107] := by decide +kernel
  have h3 : (Str.ofString "=\"").cps.toList = [61, 34] := by decide +kernel
  have h4 : quo.cps.toList = [34] := by decide +kernel
  unfold rowS hdr1 parS
  simp only [PySem.Str.cps_append, Array.toList_append, h1, h2, h3, h4, (esc_list x).2]
  show [120] ++ [58, 32] ++ ([107] ++ [61, 34] ++ enc (us x) ++ [34]) ++ [] = [120, 58, 32, 107, 61, 34] ++ enc (us x) ++ [34]
  simp
theorem join_rows : ∀ rows : List Str, (Str.join crlf (rows ++ [emS, emS])).cps.toList = (rows.flatMap fun r => r.cps.toList ++ [13, 10]) ++ [13, 10]
  | [] => by decide +kernel
  | r :: rows => by
    have ih := join_rows rows
    have h : Str.join crlf (r :: rows ++ [emS, emS]) = r ++ crlf ++ Str.join crlf (rows ++ [emS, emS]) := by
      cases rows <;> rfl
    have hc : crlf.cps.toList = [13, 10] := by decide +kernel
    rw [h]
    simp only [PySem.Str.cps_append, Array.toList_append, ih, hc, List.flatMap_cons, List.append_assoc]
theorem table_list (cs : List Cd) : (tableS (cs.map hdr1)).cps.toList = tabL cs := by
  unfold tableS Txt.join
  rw [StrLaws.glued_eq_join, join_rows]
  unfold tabL
  rw [List.map_map, List.flatMap_map]
  have h : (fun a => (fun r : Str => r.cps.toList ++ [13, 10]) ((rowS ∘ hdr1) a)) = fun x => seg x ++ [13, 10] := funext fun x => by
    show (rowS (hdr1 x)).cps.toList ++ _ = _
    rw [row_list]
  rw [h]
theorem enc_len (x : Cd) : (enc (us x)).length ≤ 5 := by
  unfold us enc
  split <;> simp [enc]
theorem tab_len : ∀ cs : List Cd, (tabL cs).length ≤ 14 * cs.length + 2
  | [] => by decide
  | x :: cs => by
    have ih := tab_len cs
    have := enc_len x
    unfold tabL seg at *
    simp only [List.flatMap_cons, List.length_append, List.length_cons, List.length_nil] at *
    omega
theorem seg_ascii {x : Cd} {u : Nat} (h : u ∈ seg x) : u < 128 := by
  unfold seg us at h
  have h0 := sg_fin x.1
  have l0 := (lc_lt x.2 0).1
  have l1 := (lc_lt x.2 1).1
  have l2 := (lc_lt x.2 2).1
  generalize sgs.getD x.1 0 = sg at *
  generalize lc x.2 0 = a at *
  generalize lc x.2 1 = b at *
  generalize lc x.2 2 = c at *
  cases hb : (sg == 34 || sg == 92) <;> rw [hb] at h <;> simp [enc] at h <;> omega
theorem tab_ascii {cs : List Cd} {u : Nat} (h : u ∈ tabL cs) : u < 128 := by
  unfold tabL at h
  rcases List.mem_append.mp h with h | h
  · obtain ⟨x, _, h⟩ := List.mem_flatMap.mp h
    rcases List.mem_append.mp h with h | h
    · exact seg_ascii h
    · simp at h; omega
  · simp at h; omega
theorem at_list {text : Str} : ∀ (p : Nat) (l : List Nat), text.cps.toList.drop p = l → At text p l
  | _, [], _ => trivial
  | p, u :: l, h => by
    have h1 : text.cps.toList[p]? = some u := by
      rw [← List.head?_drop, h]; rfl
    refine ⟨by rw [← Array.getElem?_toList]; exact h1, at_list (p + 1) l ?_⟩
    rw [← List.drop_drop, h]; rfl
noncomputable abbrev xcS : Str := Str.ofString "x:"
theorem xc_eq : (⟨([120, 58] : List Nat).toArray⟩ : Str) = xcS := by decide +kernel
theorem k_eq : (⟨([107] : List Nat).toArray⟩ : Str) = kS := by decide +kernel
theorem us_eq (x : Cd) : (⟨((us x).map (·.2)).toArray⟩ : Str) = cdS x := rfl
theorem us_ok (x : Cd) : (us x).all (fun y => y.2 < 128 && y.2 != 10 && (y.1 || (y.2 != 34 && y.2 != 92))) = true := by
  have h0 := sg_fin x.1
  have hs : sgs.getD x.1 0 ≠ 10 := by
    by_cases h : x.1 < 9
    · have := (sg_rng x.1 h).1; omega
    · have : sgs.getD x.1 0 = 0 := by
        have hl : sgs.length = 9 := rfl
        rw [List.getD_eq_getElem?_getD, List.getElem?_eq_none (by omega)]; rfl
      omega
  obtain ⟨m0, n0⟩ := lc_ne x.2 0
  obtain ⟨m1, n1⟩ := lc_ne x.2 1
  obtain ⟨m2, n2⟩ := lc_ne x.2 2
  have l0 := lc_lt x.2 0
  have l1 := lc_lt x.2 1
  have l2 := lc_lt x.2 2
  unfold us
  generalize sgs.getD x.1 0 = sg at *
  generalize lc x.2 0 = a at *
  generalize lc x.2 1 = b at *
  generalize lc x.2 2 = c at *
  simp only [List.all_cons, List.all_nil, Bool.and_eq_true, Bool.or_eq_true, decide_eq_true_eq, bne_iff_ne, beq_iff_eq]
  refine ⟨⟨⟨h0, hs⟩, ?_⟩, ⟨⟨l0.1, by omega⟩, .inr ⟨m0, n0⟩⟩, ⟨⟨l1.1, by omega⟩, .inr ⟨m1, n1⟩⟩, ⟨⟨l2.1, by omega⟩, .inr ⟨m2, n2⟩⟩, trivial⟩
  omega
noncomputable def wordsOf (cs : List Cd) : List Str := cs.flatMap (fun x => [xcS, kS, cdS x]) ++ [emS]
theorem get_gt' (n : Int) (p : PV) (j : Nat) : kvGet (kvW n p wsQ j) (Str.ofString "get_token") = none := get_gt ..
noncomputable def tkE (w : World) : FM PV := bindE (getC 0) fun p => guardE (isInst 160 (Str.ofString "get_token") p) (bindE (pureE []) fun ps => liftS (tokenR w (p :: ps)))
section
variable {w : World} {i k j r g : Nat} {j2 : Nat} {text : Str}
theorem tkE_run {S S' : List AO} {n : Int} {p : Nat} (L : Lex S i k j r g n j2 text p []) {v : PV} (h : tokenR w [.ref i] S = some (v, S')) (loc : List (Option PV)) : tkE w ⟨loc, [some (.ref i)], S⟩ = some (v, ⟨loc, [some (.ref i)], S'⟩) := by
  unfold tkE
  exact e_meth (p := .ref i) (es₁ := ⟨loc, [some (.ref i)], S⟩) (es₂ := ⟨loc, [some (.ref i)], S⟩) (ps := []) rfl (Yq L.lx (get_gt' _ _ _)) rfl h
theorem words_loop (w : World) : ∀ (cs : List Cd) (l0 : List Nat) (S : List AO) (n : Int) (p : Nat) (xs zs : List PV) (o : Option PV), Lex S i k j r g n j2 text p [] → l0.all isWs = true → l0.length ≤ 2 → At text p (l0 ++ tabL cs) → p + (l0 ++ tabL cs).length = text.cps.size → xs.length = 3 * cs.length + 1 → zs.length + 3 * cs.length ≤ 90 →
    ∃ o' S' X, Zr (fun _ => true) (setL 0) (pureE true) (emitE (tkE w)) xs zs ⟨[o], [some (.ref i)], S⟩ = some (zs ++ (wordsOf cs).map .str, ⟨[o'], [some (.ref i)], S'⟩) ∧ S' = atQ S i k j g text (n + nls l0 + cs.length + 1) text.cps.size ++ X
  | [], l0, S, n, p, xs, zs, o, L, h0, hz0, hat, hsz, hx, hz => by
    match xs, hx with
    | [y], _ =>
      have hl2 : (l0 ++ [13, 10]).all isWs = true := by rw [List.all_append, h0]; rfl
      have t := token_end w L (l0 := l0 ++ [13, 10]) hat hl2 (by rw [List.length_append]; show _ + 2 ≤ _; omega) hsz
      have hn : n + nls (l0 ++ [13, 10]) = n + nls l0 + (([] : List Cd).length : Int) + 1 := by
        have : ∀ l : List Nat, nls (l ++ [13, 10]) = nls l + 1 := by
          intro l
          induction l with
          | nil => rfl
          | cons u l ih => show _ + nls (l ++ [13, 10]) = _ + nls l + 1; rw [ih]; omega
        rw [this]; show n + (nls l0 + 1) = n + nls l0 + 0 + 1; omega
      have hp : p + (l0 ++ [13, 10]).length = text.cps.size := hsz
      rw [hn, hp] at t
      exact ⟨some y, _, _, ci_cons (es₁ := ⟨[some y], [some (.ref i)], S⟩) rfl (emit_of (tkE_run L t _) (by omega)) ci_nil, rfl⟩
  | x :: cs, l0, S, n, p, xs, zs, o, L, h0, hz0, hat, hsz, hx, hz => by
    rw [List.length_cons] at hx hz
    match xs, hx with
    | y1 :: y2 :: y3 :: xs, hx =>
      have hx : xs.length = 3 * cs.length + 1 := by simp only [List.length_cons] at hx; omega
      have e0 : l0 ++ tabL (x :: cs) = (l0 ++ 120 :: ([58] ++ [32])) ++ ((107 :: ([] ++ [61])) ++ ((34 :: (enc (us x) ++ [34])) ++ ([13, 10] ++ tabL cs))) := by
        unfold tabL
        rw [List.flatMap_cons]
        generalize cs.flatMap (fun x => seg x ++ [13, 10]) = G
        unfold seg
        simp only [List.append_assoc, List.cons_append, List.nil_append]
      rw [e0] at hat hsz
      -- x:
      have a1 := hat.left
      have a2 := hat.right
      have t1 := token_plain w L (l0 := l0) (l := [58]) (u := 120) (v := 32) a1 h0 (by omega) (by decide) (by decide) (by decide) (by decide) (by decide) (by decide) (by decide) (by decide)
      have L1 := L.go (n + nls l0) (p + l0.length + 1 + [58].length + 1) [mAO i, cAO S.length]
      have c1 := emit_of (zs := zs) (tkE_run L t1 [some y1]) (by omega)
      -- k
      have q1 : p + (l0 ++ 120 :: ([58] ++ [32])).length = p + l0.length + 1 + [58].length + 1 := by rw [List.length_append]; show p + (l0.length + 3) = p + l0.length + 1 + 1 + 1; omega
      rw [q1] at a2
      have a3 := a2.left
      have a4 := a2.right
      have t2 := token_plain w L1 (l0 := []) (l := []) (u := 107) (v := 61) a3 rfl (by decide) (by decide) (by decide) (by decide) (by decide) (by decide) (by decide) (by decide) (by decide)
      have L2 := L1.go (n + nls l0 + nls []) (p + l0.length + 1 + [58].length + 1 + ([] : List Nat).length + 1 + ([] : List Nat).length + 1) [mAO i, cAO (atQ S i k j g text (n + nls l0) (p + l0.length + 1 + [58].length + 1) ++ [mAO i, cAO S.length]).length]
      have c2 := emit_of (zs := zs ++ [.str ⟨[120, 58].toArray⟩]) (tkE_run L1 t2 [some y2]) (by rw [List.length_append]; show _ + 1 ≤ _; omega)
      -- the card
      have q2 : p + l0.length + 1 + [58].length + 1 + (107 :: ([] ++ [61])).length = p + l0.length + 1 + [58].length + 1 + ([] : List Nat).length + 1 + ([] : List Nat).length + 1 := rfl
      rw [q2] at a4
      have a5 := a4.left
      have a6 := a4.right
      have t3 := token_quoted w L2 (us := us x) a5 (us_ok x) (by show 4 ≤ 10; decide)
      have L3 := L2.go (n + nls l0 + nls []) (p + l0.length + 1 + [58].length + 1 + ([] : List Nat).length + 1 + ([] : List Nat).length + 1 + 1 + (enc (us x)).length + 1) [mAO i, cAO (atQ (atQ S i k j g text (n + nls l0) (p + l0.length + 1 + [58].length + 1) ++ [mAO i, cAO S.length]) i k j g text (n + nls l0 + nls []) (p + l0.length + 1 + [58].length + 1 + ([] : List Nat).length + 1 + ([] : List Nat).length + 1) ++ [mAO i, cAO (atQ S i k j g text (n + nls l0) (p + l0.length + 1 + [58].length + 1) ++ [mAO i, cAO S.length]).length]).length]
      have c3 := emit_of (zs := zs ++ [.str ⟨[120, 58].toArray⟩] ++ [.str ⟨[107].toArray⟩]) (tkE_run L2 t3 [some y3]) (by rw [List.length_append, List.length_append]; show _ + 1 + 1 ≤ _; omega)
      have q3 : p + l0.length + 1 + [58].length + 1 + ([] : List Nat).length + 1 + ([] : List Nat).length + 1 + (34 :: (enc (us x) ++ [34])).length = p + l0.length + 1 + [58].length + 1 + ([] : List Nat).length + 1 + ([] : List Nat).length + 1 + 1 + (enc (us x)).length + 1 := by
        have h3 : (34 :: (enc (us x) ++ [34])).length = (enc (us x)).length + 1 + 1 := by rw [List.length_cons, List.length_append]; rfl
        rw [h3]; omega
      rw [q3] at a6
      obtain ⟨o', S', X, e, hS⟩ := words_loop w cs [13, 10] _ _ _ xs (zs ++ [.str ⟨[120, 58].toArray⟩] ++ [.str ⟨[107].toArray⟩] ++ [.str ⟨((us x).map (·.2)).toArray⟩]) (some y3) L3 rfl (by decide) a6 (by
        rw [← hsz, ← q3, ← q2, ← q1]
        simp only [List.length_append]
        omega) hx (by rw [List.length_append, List.length_append, List.length_append]; show _ + 1 + 1 + 1 + _ ≤ _; omega)
      have hn : n + nls l0 + nls [] + nls [13, 10] + (cs.length : Int) + 1 = n + nls l0 + ((x :: cs).length : Int) + 1 := by
        show n + nls l0 + 0 + (0 + (1 + 0)) + (cs.length : Int) + 1 = n + nls l0 + ((cs.length + 1 : Nat) : Int) + 1
        omega
      have hw : zs ++ [PV.str ⟨[120, 58].toArray⟩] ++ [PV.str ⟨[107].toArray⟩] ++ [PV.str ⟨((us x).map (·.2)).toArray⟩] ++ (wordsOf cs).map PV.str = zs ++ (wordsOf (x :: cs)).map PV.str := by
        rw [xc_eq, k_eq, us_eq]
        unfold wordsOf
        rw [List.flatMap_cons]
        simp only [List.append_assoc, List.map_append]
        rfl
      rw [hw] at e
      rw [hn, L2.at_at, L1.at_at, L.at_at, List.append_assoc, List.append_assoc, List.append_assoc] at hS
      exact ⟨o', S', _, ci_cons (es₁ := ⟨[some y1], [some (.ref i)], S⟩) rfl c1 (ci_cons rfl c2 (ci_cons rfl c3 e)), hS⟩
end
theorem lex_new {st : List AO} {text : Str} (ha : text.cps.all (· < 128) = true) (hz : text.cps.size ≤ 1000) : Lex (st ++ lexNew st.length text) (st.length + 4) st.length (st.length + 5) (st.length + 3) (st.length + 2) 1 (st.length + 1) text 0 [] :=
  ⟨Yi _ _ 4, Z5 _ _, Yi _ _ 3, Yi _ _ 2, Yi _ _ 5, by omega, ha, hz⟩
theorem ints_nats : ∀ l : List Nat, ints? (l.map inP) = some (l.map fun n : Nat => (n : Int))
  | [] => rfl
  | n :: l => by
    have := ints_nats l
    rw [List.map_cons]
    unfold ints? at this ⊢
    simp only [List.mapM_cons, this]
    rfl
theorem sum_nats (l : List Nat) : (l.map fun n : Nat => (n : Int)).sum = ((l.sum : Nat) : Int) := by
  induction l with
  | nil => rfl
  | cons n l ih => rw [List.map_cons, List.sum_cons, ih, List.sum_cons]; exact (Int.natCast_add _ _).symm
theorem sum_run (l : List Nat) (st : List AO) : sumG [.lst (l.map inP)] st = some (inP l.sum, st) := by
  have e : (items? st (.lst (l.map inP))).bind ints? = some (l.map fun n : Nat => (n : Int)) := ints_nats l
  unfold sumG
  dsimp only
  rw [e]
  dsimp only
  rw [sum_nats]
theorem cut_len : ∀ n < 64, (sliceL n none (some 9) none).length ≤ 9 := by decide +kernel
theorem slice_lst {xs : List PV} {a b k : PV} {lo hi st : Option Int} (h1 : part? a = some lo) (h2 : part? b = some hi) (h3 : part? k = some st) (hk : st ≠ some 0) (hz : xs.length ≤ 100) (S : List AO) : sliceG (.lst xs) a b k S = some (.lst (pick (sliceL xs.length lo hi st) xs), S) := by
  unfold sliceG
  rw [h1, h2, h3]
  dsimp only
  rw [if_pos hk]
  show (if xs.length ≤ sizeLine then _ else _) = _
  rw [if_pos (Z0 hz)]
theorem pick_map {α β : Type} (f : α → β) (idx : List Nat) (xs : List α) : pick idx (xs.map f) = (pick idx xs).map f := by
  unfold pick
  rw [List.map_filterMap]
  congr 1
  funext i
  exact List.getElem?_map
theorem slice_cut {xs : List Int} (h : xs.length < 64) (st : List AO) : ∃ ds : List Int, ds.length ≤ 9 ∧ sliceG (.lst (xs.map PV.int)) .none (.int 9) .none st = some (.lst (ds.map PV.int), st) := by
  refine ⟨pick (sliceL xs.length none (some 9) none) xs, Nat.le_trans (List.length_filterMap_le _ _) (cut_len _ h), ?_⟩
  rw [slice_lst (lo := none) (hi := some 9) (st := none) rfl rfl rfl (by decide) (by rw [List.length_map]; omega), List.length_map, pick_map]
noncomputable def six : List Nat := [36, 68, 161, 280, 0, 484]
theorem six_cut : ∀ k < 10, pick (sliceL 6 (some ((k : Nat) : Int)) none none) six = six.drop k := by decide +kernel
theorem slice_six {k : Nat} (h : k < 10) (st : List AO) : sliceG (.lst [.int 36, .int 68, .int 161, .int 280, .int 0, .int 484]) (inP k) .none .none st = some (.lst ((six.drop k).map inP), st) := by
  have := slice_lst (xs := six.map inP) (lo := some (k : Int)) (hi := none) (st := none) (a := inP k) (b := .none) (k := .none) rfl rfl rfl (by decide) (by decide) st
  rw [pick_map, show (six.map inP).length = 6 from rfl, six_cut k h] at this
  exact this
theorem pow_ten (st : List AO) : powI (.int 10) (.int 6) st = some (inP 1000000, st) := by
  unfold powI
  dsimp only
  rw [if_pos (by decide)]
  rfl
theorem mod_int (i : Int) (st : List AO) : modI (.int i) (inP 1000000) st = some (inP (i.fmod 1000000).toNat, st) := by
  have h0 : (0 : Int) ≤ i.fmod 1000000 := Int.fmod_nonneg_of_pos _ (by omega)
  unfold modI
  dsimp only
  rw [if_pos (by decide)]
  show some (PV.int (i.fmod 1000000), st) = some (PV.int (((i.fmod 1000000).toNat : Nat) : Int), st)
  rw [Int.toNat_of_nonneg h0]
noncomputable def TK (st : List AO) (l : List Cd) (J : List AO) : List AO := st ++ (.list ((l.map hdr1).map entP) :: .inst 308 (kvH st.length) :: J)
theorem TK_h {st : List AO} {l : List Cd} {J : List AO} : (TK st l J)[st.length]? = some (.list ((l.map hdr1).map entP)) := Z5 _ _
theorem TK_i {st : List AO} {l : List Cd} {J : List AO} : (TK st l J)[st.length + 1]? = some (.inst 308 (kvH st.length)) := Yi _ _ 1
noncomputable abbrev EL (sc : PV) (a1 a2 a3 a4 a5 a6 a7 a8 a9 a10 a11 c0 : Option PV) (S : List AO) : ES := ⟨[some sc, a1, a2, a3, a4, a5, a6, a7, a8, a9, a10, a11], [c0], S⟩
noncomputable def hB (w : World) : FM PF := seqE (bindE (bindE (getL 4) fun p => guardE (isInst 308 (Str.ofString "add_header") p) (bindE (consE (pureE (PV.str (Str.ofString "x"))) (consE (pureE PV.none) (pureE []))) fun ps => bindE (getL 5) fun q => liftS (addhR1 w (p :: (ps ++ [q]))))) fun x => pureE PF.next) (pureE PF.next)
theorem esc_sz (x : Cd) : (Txt.replace (cdS x) bsl (Str.ofString "\\\\")).length ≤ 1000 ∧ (escS (cdS x)).length ≤ 900 := by
  obtain ⟨h1, h2⟩ := esc_list x
  have h3 := enc_len x
  constructor
  · show (Txt.replace (cdS x) bsl (Str.ofString "\\\\")).cps.size ≤ 1000
    rw [← Array.length_toList]; omega
  · show (escS (cdS x)).cps.size ≤ 900
    rw [← Array.length_toList, h2]; omega
theorem hB_run (w : World) {sc : PV} {a1 a2 a3 a6 a7 a8 a9 a10 a11 c0 : Option PV} {st : List AO} {x : Cd} (hx : x.1 < 9) {l : List Cd} {J : List AO} (hz : l.length ≤ 50) :
    ∃ J', hB w (EL sc a1 a2 a3 (some (.ref (st.length + 1))) (some (cdP x)) a6 a7 a8 a9 a10 a11 c0 (TK st l J)) = some (.next, EL sc a1 a2 a3 (some (.ref (st.length + 1))) (some (cdP x)) a6 a7 a8 a9 a10 a11 c0 (TK st (l ++ [x]) J')) := by
  let E (S : List AO) : ES := EL sc a1 a2 a3 (some (.ref (st.length + 1))) (some (cdP x)) a6 a7 a8 a9 a10 a11 c0 S
  obtain ⟨z1, z2⟩ := esc_sz x
  refine ⟨J ++ [.dict1 1 (some (hashStr w kS, kS, cdP x)), .list [.str (parS kS (cdS x))]], ?_⟩
  unfold hB
  refine e_seq (es₁ := E (TK st (l ++ [x]) (J ++ [.dict1 1 (some (hashStr w kS, kS, cdP x)), .list [.str (parS kS (cdS x))]]))) (e_expr (p := .none) (e_bind (y := .ref (st.length + 1)) (es₁ := E (TK st l J)) rfl (Z9 (Yq TK_i (no_addh _)) (e_bind (y := [.str (Str.ofString "x"), .none]) (es₁ := E (TK st l J)) rfl (e_bind (y := cdP x) (es₁ := E (TK st l J)) rfl ?_))))) rfl
  have hr := addh1_run w (x := Str.ofString "x") (v := cdS x) (TK_i (st := st) (l := l) (J := J)) TK_h (by decide +kernel) (plain_cd hx) (by rw [List.length_map, List.length_map]; omega) (by show 0 < 4; decide) (by show 4 ≤ 100; decide) z1 z2
  have hT : (TK st l J).set st.length (.list ((l.map hdr1).map entP ++ [.tup [.str (Str.ofString "x"), .str (parS kS (cdS x))]])) ++ [.dict1 1 (some (hashStr w kS, kS, cdP x)), .list [.str (parS kS (cdS x))]] = TK st (l ++ [x]) (J ++ [.dict1 1 (some (hashStr w kS, kS, cdP x)), .list [.str (parS kS (cdS x))]]) := by
    unfold TK
    rw [set_app0, List.append_assoc, show ((l ++ [x]).map hdr1).map entP = (l.map hdr1).map entP ++ [.tup [.str (Str.ofString "x"), .str (parS kS (cdS x))]] by rw [List.map_append, List.map_append]; rfl]
    rfl
  rw [hT] at hr
  unfold liftS
  dsimp only [List.cons_append, List.nil_append]
  rw [hr]
theorem h_loop (w : World) {sc : PV} {a1 a2 a3 a6 a7 a8 a9 a10 a11 c0 : Option PV} {st : List AO} {p : PV} {cs : List Cd} (hp : IsL p cs st) {chk : List AO → Bool} (hchk : ∀ st', IsL p cs st' → chk st' = true) : ∀ (r l : List Cd) (J : List AO) (a5 : Option PV), (∀ x ∈ r, x.1 < 9) → l.length + r.length ≤ 50 →
    ∃ J' a5', Zw chk (setL 5) (hB w) (r.map cdP) (EL sc a1 a2 a3 (some (.ref (st.length + 1))) a5 a6 a7 a8 a9 a10 a11 c0 (TK st l J)) = some (.next, EL sc a1 a2 a3 (some (.ref (st.length + 1))) a5' a6 a7 a8 a9 a10 a11 c0 (TK st (l ++ r) J'))
  | [], l, J, a5, _, _ => ⟨J, a5, (c_nil (hchk _ (hp.app _))).trans (by rw [List.append_nil])⟩
  | x :: r, l, J, a5, hx, hz => by
    rw [List.length_cons] at hz
    obtain ⟨J1, e1⟩ := hB_run w (sc := sc) (a1 := a1) (a2 := a2) (a3 := a3) (a6 := a6) (a7 := a7) (a8 := a8) (a9 := a9) (a10 := a10) (a11 := a11) (c0 := c0) (st := st) (hx x (.head _)) (l := l) (J := J) (by omega)
    obtain ⟨J2, a5', e2⟩ := h_loop w hp hchk r (l ++ [x]) J1 (some (cdP x)) (fun y m => hx y (.tail _ m)) (by rw [List.length_append]; show _ + 1 + _ ≤ _; omega)
    rw [List.append_assoc] at e2
    have hs : setL 5 (cdP x) (EL sc a1 a2 a3 (some (.ref (st.length + 1))) a5 a6 a7 a8 a9 a10 a11 c0 (TK st l J)) = some ((), EL sc a1 a2 a3 (some (.ref (st.length + 1))) (some (cdP x)) a6 a7 a8 a9 a10 a11 c0 (TK st l J)) := rfl
    exact ⟨J2, a5', c_cons (hchk _ (hp.app _)) hs e1 e2⟩
noncomputable def awI : List PV → FM (List PV) := innerE (bindE (bindE (consE (pureE (PV.str (Str.ofString "x:"))) (consE (pureE (PV.str (Str.ofString "k"))) (consE (getL 0) (pureE [])))) tupE) (itsE itsV)) (setL 1) (pureE true) (emitE (getL 1))
theorem aw_loop {cel : List (Option PV)} {S : List AO} {chk : List AO → Bool} (hc : chk S = true) : ∀ (cs : List Cd) (zs : List PV) (o1 o2 : Option PV), zs.length + 3 * cs.length ≤ 90 → ∃ o1' o2', Zr chk (setL 0) (pureE true) awI (cs.map cdP) zs ⟨[o1, o2], cel, S⟩ = some (zs ++ (cs.flatMap fun x => [xcS, kS, cdS x]).map .str, ⟨[o1', o2'], cel, S⟩)
  | [], zs, o1, o2, _ => ⟨o1, o2, (Z9 hc rfl : guardE chk (pureE zs) _ = some (zs, _)).trans (by rw [show (([] : List Cd).flatMap fun x => [xcS, kS, cdS x]).map PV.str = [] from rfl, List.append_nil])⟩
  | x :: cs, zs, o1, o2, hz => by
    rw [List.length_cons] at hz
    obtain ⟨o', e⟩ := in_loop (cel := cel) (S := S) (a := some (cdP x)) [.str xcS, .str kS, cdP x] zs o2 (by show _ + 3 ≤ _; omega)
    obtain ⟨p1, p2, e2⟩ := aw_loop (cel := cel) hc cs (zs ++ [.str xcS, .str kS, cdP x]) (some (cdP x)) o' (by rw [List.length_append]; show _ + 3 + _ ≤ _; omega)
    refine ⟨p1, p2, ?_⟩
    have h1 : awI zs ⟨[some (cdP x), o2], cel, S⟩ = some (zs ++ [.str xcS, .str kS, cdP x], ⟨[some (cdP x), o'], cel, S⟩) := by
      unfold awI innerE
      exact e_bind (y := ([.str xcS, .str kS, cdP x], fun _ => true)) (es₁ := ⟨[some (cdP x), o2], cel, S⟩) (e_bind (y := .tup [.str xcS, .str kS, cdP x]) (es₁ := ⟨[some (cdP x), o2], cel, S⟩) (e_tup (p_cons rfl (p_cons rfl (p_cons rfl rfl))) (Z0 (by show 3 ≤ 100; decide))) rfl) e
    have h2 : zs ++ [.str xcS, .str kS, cdP x] ++ (cs.flatMap fun x => [xcS, kS, cdS x]).map PV.str = zs ++ ((x :: cs).flatMap fun x => [xcS, kS, cdS x]).map PV.str := by
      rw [List.flatMap_cons, List.map_append, List.append_assoc]; rfl
    rw [h2] at e2
    show guardE chk (bindE (setL 0 (cdP x)) fun _ => bindE (pureE true) fun t => if t then bindE (awI zs) fun zs' => Zr chk (setL 0) (pureE true) awI (cs.map cdP) zs' else Zr chk (setL 0) (pureE true) awI (cs.map cdP) zs) _ = _
    exact Z9 hc (e_bind (y := ()) (es₁ := ⟨[some (cdP x), o2], cel, S⟩) rfl (e_bind (y := true) (es₁ := ⟨[some (cdP x), o2], cel, S⟩) rfl (e_bind h1 e2)))
theorem cd_ok (x : Cd) : PyData.strOk (cdS x) = true := ok_all (by
  rw [Array.all_eq_true']
  intro u hu
  rcases cd_mem hu with rfl | ⟨c, rfl⟩
  · exact decide_eq_true (sg_fin _)
  · exact decide_eq_true (lc_lt _ _).1)
theorem dat_isL {p : PV} {l : List Cd} {st : List AO} (h : IsL p l st) : datS st p = some (.list (l.map fun x => PyData.str (cdS x))) := by
  have h1 := mapM_strs (fun x : Cd => cdS x) l fun x _ => cd_ok x
  rcases h with rfl | ⟨i, rfl, e⟩
  · show ((l.map fun x => PV.str (cdS x)).mapM (dat 5)).map PyData.list = _
    rw [h1]; rfl
  · show (match st[i]? with | some (AO.list xs) => (xs.mapM (dat 5)).map PyData.list | _ => none) = _
    rw [e]
    show ((l.map fun x => PV.str (cdS x)).mapM (dat 5)).map PyData.list = _
    rw [h1]; rfl
theorem eqvAll_strs : ∀ l : List Str, PyData.eqvAll (l.map PyData.str) (l.map PyData.str) = true
  | [] => by simp [PyData.eqvAll]
  | x :: l => by simp [PyData.eqvAll, PyData.eqv, eqvAll_strs l]
theorem ne_isL {p q : PV} {l : List Cd} {st : List AO} (hp : IsL p l st) (hq : IsL q l st) : neG p q st = some (.bool false, st) := by
  unfold neG
  rw [dat_isL hp, dat_isL hq]
  have : PyData.eqv (.list (l.map fun x => PyData.str (cdS x))) (.list (l.map fun x => PyData.str (cdS x))) = true := by
    have := eqvAll_strs (l.map cdS)
    rw [List.map_map] at this
    unfold PyData.eqv
    exact this
  dsimp only
  rw [this]; rfl
noncomputable def kT (w : World) (v : Int) : FM Bool := bindE (bindE (bindE (getL 9) fun p => bindE (getL 11) fun q => liftS (getI p q)) fun p => bindE (pureE (PV.int v)) fun q => liftS (eqG p q)) fun p => liftS (truthG p)
noncomputable def cBd (w : World) : FM PF := seqE (iteE (kT w 0) (seqE (bindE (bindE (consE (getL 10) (consE (getL 11) (pureE []))) fun ps => liftS (pilesR w ps)) fun p => bindE (setL 10 p) fun x => pureE PF.next) (pureE PF.next)) (seqE (iteE (kT w 1) (seqE (bindE (bindE (consE (getC 0) (consE (getL 10) (consE (getL 11) (pureE [])))) fun ps => liftS (lineR w ps)) fun p => bindE (setL 10 p) fun x => pureE PF.next) (pureE PF.next)) (seqE (bindE (bindE (consE (getL 10) (consE (getL 11) (pureE []))) fun ps => liftS (tableR w ps)) fun p => bindE (setL 10 p) fun x => pureE PF.next) (pureE PF.next))) (pureE PF.next))) (seqE (iteE (bindE (bindE (getL 10) fun p => bindE (bindE (consE (getL 3) (consE (getL 11) (consE (getL 9) (pureE [])))) fun ps => liftS (dueR w ps)) fun q => liftS (neG p q)) fun p => liftS (truthG p)) (seqE (bindE (pureE (PV.bool false)) fun p => pureE (PF.ret p)) (pureE PF.next)) (pureE PF.next)) (pureE PF.next))
section
variable {w : World} {sc : PV} {a1 a2 a4 a5 a6 a7 a8 : Option PV} {pc : PV} {ks ns : List Nat} {i j : Nat} {n : Int} {pp : PV} {ws : Str}
noncomputable abbrev EC (sc : PV) (a1 a2 : Option PV) (pc : PV) (a4 a5 a6 a7 a8 : Option PV) (ks : List Nat) (p : PV) (c i : Nat) (S : List AO) : ES := EL sc a1 a2 (some pc) a4 a5 a6 a7 a8 (some (kP ks)) (some p) (some (inP c)) (some (.ref i)) S
theorem p_lift' {F : FM PV} {es es₁ : ES} {b : Bool} (h : F es = some (.bool b, es₁)) : (bindE F fun p => liftS (truthG p)) es = some (b, es₁) := e_bind h rfl
theorem kT_run {p : PV} {c v : Nat} (hc : c < 4) (hk : ks.length = 4) {S : List AO} : kT w (v : Int) (EC sc a1 a2 pc a4 a5 a6 a7 a8 ks p c i S) = some (ks.getD c 0 == v, EC sc a1 a2 pc a4 a5 a6 a7 a8 ks p c i S) := by
  unfold kT
  exact p_lift (p := .bool (ks.getD c 0 == v)) (p_bin (p := inP (ks.getD c 0)) (q := inP v) (p_bin (p := kP ks) (q := inP c) rfl rfl (getI_nats (by omega) (by omega) _)) rfl (eq_nat _ _ _)) (truth_bool _ _)
theorem col_run (w : World) (hk : ks.length = 4) (hn : ns.length ≤ 9) {m : Nat} (hm : m ≤ 2) {p : PV} {l : List Cd} {S : List AO} (hp : IsL p l S) (hl0 : l ≠ []) (hl9 : l.length ≤ 9) (hlx : ∀ x ∈ l, x.1 < 9) (hpc : IsL pc (cdsOf 0 ns) S) (I : Idle S i j n pp ws)
    (hd : deal (zOf ks (3 - m)) (3 - m) l = dealt (zOf ks) (cdsOf 0 ns) m) :
    ∃ p' X, cBd w (EC sc a1 a2 pc a4 a5 a6 a7 a8 ks p (3 - m) i S) = some (.next, EC sc a1 a2 pc a4 a5 a6 a7 a8 ks p' (3 - m) i (S ++ X)) ∧ IsL p' (dealt (zOf ks) (cdsOf 0 ns) m) (S ++ X) := by
  have c1 : 1 ≤ 3 - m := by omega
  have c3 : 3 - m ≤ 3 := by omega
  let E (p : PV) (S : List AO) : ES := EC sc a1 a2 pc a4 a5 a6 a7 a8 ks p (3 - m) i S
  have step : ∃ p' X, (iteE (kT w 0) (seqE (bindE (bindE (consE (getL 10) (consE (getL 11) (pureE []))) fun ps => liftS (pilesR w ps)) fun p => bindE (setL 10 p) fun x => pureE PF.next) (pureE PF.next)) (seqE (iteE (kT w 1) (seqE (bindE (bindE (consE (getC 0) (consE (getL 10) (consE (getL 11) (pureE [])))) fun ps => liftS (lineR w ps)) fun p => bindE (setL 10 p) fun x => pureE PF.next) (pureE PF.next)) (seqE (bindE (bindE (consE (getL 10) (consE (getL 11) (pureE []))) fun ps => liftS (tableR w ps)) fun p => bindE (setL 10 p) fun x => pureE PF.next) (pureE PF.next))) (pureE PF.next))) (E p S) = some (.next, E p' (S ++ X)) ∧ IsL p' (dealt (zOf ks) (cdsOf 0 ns) m) (S ++ X) := by
    have k0 := kT_run (w := w) (sc := sc) (a1 := a1) (a2 := a2) (pc := pc) (a4 := a4) (a5 := a5) (a6 := a6) (a7 := a7) (a8 := a8) (i := i) (p := p) (c := 3 - m) (v := 0) (by omega) hk (S := S)
    have k1 := kT_run (w := w) (sc := sc) (a1 := a1) (a2 := a2) (pc := pc) (a4 := a4) (a5 := a5) (a6 := a6) (a7 := a7) (a8 := a8) (i := i) (p := p) (c := 3 - m) (v := 1) (by omega) hk (S := S)
    cases hz : zOf ks (3 - m) with
    | true =>
      rw [hz] at hd
      obtain ⟨X, e, hX⟩ := piles_run w c1 c3 hp hl9
      rw [hd] at hX
      have hz0 : (ks.getD (3 - m) 0 == 0) = true := hz
      rw [hz0] at k0
      exact ⟨_, X, e_ite k0 (e_seq (e_asg (p := .ref (S.length + 4)) (es₁ := E p (S ++ X)) (e_bind (y := [p, inP (3 - m)]) (es₁ := E p S) (p_cons rfl (p_cons rfl rfl)) (by unfold liftS; rw [show (E p S).st = S from rfl, e])) rfl) rfl), hX⟩
    | false =>
      rw [hz] at hd
      have hz0 : (ks.getD (3 - m) 0 == 0) = false := hz
      rw [hz0] at k0
      cases h1 : ks.getD (3 - m) 0 == 1 with
      | true =>
        rw [h1] at k1
        have e := line_run w I c1 c3 hp hl0 hl9
        refine ⟨.ref S.length, [.list ((deal false (3 - m) l).map cdP)], e_ite k0 (e_seq (e_ite k1 (e_seq (e_asg (p := .ref S.length) (es₁ := E p (S ++ [.list ((deal false (3 - m) l).map cdP)])) (e_bind (y := [.ref i, p, inP (3 - m)]) (es₁ := E p S) (p_cons rfl (p_cons rfl (p_cons rfl rfl))) (by unfold liftS; rw [show (E p S).st = S from rfl, e])) rfl) rfl)) rfl), .inr ⟨_, rfl, ?_⟩⟩
        rw [hd]; exact Z5 _ _
      | false =>
        rw [h1] at k1
        obtain ⟨X, e⟩ := table_run w c1 c3 hp hlx hl9
        refine ⟨_, X, e_ite k0 (e_seq (e_ite k1 (e_seq (e_asg (p := .lst ((deal false (3 - m) l).map cdP)) (es₁ := E p (S ++ X)) (e_bind (y := [p, inP (3 - m)]) (es₁ := E p S) (p_cons rfl (p_cons rfl rfl)) (by unfold liftS; rw [show (E p S).st = S from rfl, e])) rfl) rfl)) rfl), .inl ?_⟩
        rw [hd]
  obtain ⟨p', X, e, hX⟩ := step
  have hdue := due_run w hk hn hm (hpc.app X)
  let Y : List AO := [.list ((dealt (zOf ks) (cdsOf 0 ns) m).map cdP)]
  refine ⟨p', X ++ Y, ?_, by rw [← List.append_assoc]; exact hX.app _⟩
  rw [← List.append_assoc]
  unfold cBd
  refine e_seq e (e_seq (es₁ := E p' (S ++ X ++ Y)) (e_ite (t := false) (es₁ := E p' (S ++ X ++ Y)) (p_lift' ?_) rfl) rfl)
  exact e_bin (es₁ := E p' (S ++ X)) (es₂ := E p' (S ++ X ++ Y)) (p := p') (q := .ref (S ++ X).length) rfl (e_bind (y := [pc, inP (3 - m), kP ks]) (es₁ := E p' (S ++ X)) (p_cons rfl (p_cons rfl (p_cons rfl rfl))) (by unfold liftS; rw [show (E p' (S ++ X)).st = S ++ X from rfl, hdue])) (ne_isL (hX.app Y) (.inr ⟨_, rfl, Z5 _ _⟩))
end
theorem atQ_app (st l : List AO) (a k j b : Nat) (text : Str) (n : Int) (p : Nat) : ∃ Z, atQ (st ++ l) (st.length + a) k j (st.length + b) text n p = st ++ Z := by
  unfold atQ
  rw [set_app, set_app]
  exact ⟨_, rfl⟩
theorem mapM_strsN (n : Nat) : ∀ (l : List Str), (∀ a ∈ l, PyData.strOk a = true) → (l.map PV.str).mapM (dat n) = some (l.map PyData.str)
  | [], _ => rfl
  | a :: l, h => by
    rw [List.map_cons, List.mapM_cons, mapM_strsN n l fun b m => h b (.tail _ m)]
    have : dat n (.str a) = some (.str a) := by
      have h2 : dat n (.str a) = if PyData.strOk a = true then some (.str a) else none := by cases n <;> rfl
      rw [h2, if_pos (h a (.head _))]
    rw [this]; rfl
theorem words_ok (cs : List Cd) : ∀ a ∈ wordsOf cs, PyData.strOk a = true := by
  intro a ha
  unfold wordsOf at ha
  rcases List.mem_append.mp ha with ha | ha
  · obtain ⟨x, _, ha⟩ := List.mem_flatMap.mp ha
    simp only [List.mem_cons, List.not_mem_nil, or_false] at ha
    rcases ha with rfl | rfl | rfl
    · decide +kernel
    · decide +kernel
    · exact cd_ok x
  · rw [List.mem_singleton.mp ha]; exact em_ok
theorem ne_pair {l : List Str} (h : ∀ a ∈ l, PyData.strOk a = true) (i : Int) (st : List AO) : neG (.tup [.lst (l.map .str), .int i]) (.tup [.lst (l.map .str), .int i]) st = some (.bool false, st) := by
  have h1 : datS st (.tup [.lst (l.map .str), .int i]) = some (.tuple [.list (l.map PyData.str), .int i]) := by
    show ((dat 5 (.lst (l.map .str)) >>= fun a => ([PV.int i].mapM (dat 5)) >>= fun r => some (a :: r)) : Option _).map PyData.tuple = _
    have : dat 5 (.lst (l.map .str)) = some (.list (l.map PyData.str)) := by
      show ((l.map PV.str).mapM (dat 4)).map PyData.list = _
      rw [mapM_strsN 4 l h]; rfl
    rw [this]; rfl
  unfold neG
  rw [h1]
  simp [PyData.eqv, PyData.eqvAll, eqvAll_strs]
theorem words_len (cs : List Cd) : (wordsOf cs).length = 3 * cs.length + 1 := by
  unfold wordsOf
  rw [List.length_append]
  induction cs with
  | nil => rfl
  | cons x cs ih => rw [List.flatMap_cons, List.length_append, List.length_cons]; simp only [List.length_cons, List.length_nil] at ih ⊢; omega
theorem words_sl : ∀ n < 10, sliceL (3 * n + 1) (some 2) none (some 3) = (List.range' 0 n).map fun i => 3 * i + 2 := by decide +kernel
theorem words_get : ∀ (cs : List Cd) (T : List PV) (i : Nat), i < cs.length → ((cs.flatMap fun x => [xcS, kS, cdS x]).map PV.str ++ T)[3 * i + 2]? = (cs.map cdP)[i]?
  | x :: cs, T, 0, _ => rfl
  | x :: cs, T, i + 1, h => by
    have ih := words_get cs T i (Nat.lt_of_succ_lt_succ h)
    rw [show 3 * (i + 1) + 2 = (3 * i + 2) + 1 + 1 + 1 by omega]
    exact ih
theorem range_get {α : Type} : ∀ (l pre : List α), (List.range' pre.length l.length).filterMap (fun i => (pre ++ l)[i]?) = l
  | [], _ => rfl
  | a :: l, pre => by
    have ih := range_get l (pre ++ [a])
    rw [List.length_append, List.append_assoc] at ih
    rw [List.length_cons, List.range'_succ, List.filterMap_cons, Z5]
    show a :: (List.range' (pre.length + 1) l.length).filterMap (fun i => (pre ++ a :: l)[i]?) = a :: l
    exact congrArg (a :: ·) ih
theorem fm_congr {α β : Type} {f g : α → Option β} : ∀ l : List α, (∀ a ∈ l, f a = g a) → l.filterMap f = l.filterMap g
  | [], _ => rfl
  | a :: l, h => by
    rw [List.filterMap_cons, List.filterMap_cons, h a (.head _), fm_congr l fun b m => h b (.tail _ m)]
theorem words_pick (cs : List Cd) (h : cs.length ≤ 9) : pick (sliceL ((wordsOf cs).map PV.str).length (some 2) none (some 3)) ((wordsOf cs).map PV.str) = cs.map cdP := by
  rw [List.length_map, words_len, words_sl _ (by omega)]
  unfold pick wordsOf
  rw [List.filterMap_map, List.map_append]
  have h1 : ∀ i ∈ List.range' 0 cs.length, (((cs.flatMap fun x => [xcS, kS, cdS x]).map PV.str ++ [emS].map PV.str)[3 * i + 2]?) = (cs.map cdP)[i]? := fun i m => words_get cs _ i (by have := (List.mem_range'_1.mp m).2; omega)
  have h2 := range_get (cs.map cdP) []
  rw [List.length_map] at h2
  refine (fm_congr _ h1).trans h2
theorem row_len (x : Cd) : (rowS (hdr1 x)).length ≤ 20 := by
  have h := enc_len x
  show (rowS (hdr1 x)).cps.size ≤ 20
  rw [← Array.length_toList, row_list]
  unfold seg
  simp only [List.length_append, List.length_cons, List.length_nil]
  omega
theorem hdr_len (x : Cd) : (hdr1 x).1.length + (hdr1 x).2.length ≤ 2000 := by
  have h := row_len x
  unfold rowS at h
  rw [PySem.Str.length_append, PySem.Str.length_append, PySem.Str.length_append] at h
  omega
theorem join_ok {cs : List Cd} (hn : cs.length ≤ 9) : JoinOk crlf ((cs.map hdr1).map rowS ++ [emS, emS]) = true := by
  unfold JoinOk
  have hc : crlf.length = 2 := by decide +kernel
  have he : emS.length = 0 := by decide +kernel
  rw [StrLaws.joinTotal]
  have h1 := StrLaws.sumLen_le (B := 20) ((cs.map hdr1).map rowS ++ [emS, emS]) (fun y m => by
    rcases List.mem_append.mp m with m | m
    · rw [List.map_map] at m
      obtain ⟨x, _, rfl⟩ := List.mem_map.mp m
      exact row_len x
    · have : y = emS := by simpa using m
      rw [this, he]; omega)
  have h2 : ((cs.map hdr1).map rowS ++ [emS, emS]).length ≤ 11 := by
    rw [List.length_append, List.length_map, List.length_map]; show _ + 2 ≤ 11; omega
  rw [hc, notLong (by rw [sizeLine_eq]; omega)]; rfl
theorem str_told (w : World) {st : List AO} {cs : List Cd} (hn : cs.length ≤ 9) {J : List AO} : strIG 308 (hstrR w) [.ref (st.length + 1)] (TK st cs J) = some (.str (tableS (cs.map hdr1)), TK st cs J) := by
  have hr := hstr_run w (l := cs.map hdr1) (TK_i (st := st) (l := cs) (J := J)) TK_h (fun e m => by
    obtain ⟨x, _, rfl⟩ := List.mem_map.mp m
    exact hdr_len x) (by rw [List.length_map]; omega) (join_ok hn)
  exact strIG_of (inst_of TK_i) hr
theorem tab_size {cs : List Cd} : (tableS (cs.map hdr1)).cps.size = (tabL cs).length := by rw [← Array.length_toList, table_list]
theorem tab_all {cs : List Cd} : (tableS (cs.map hdr1)).cps.all (· < 128) = true := by
  rw [Array.all_eq_true']
  intro u hu
  refine decide_eq_true (tab_ascii (cs := cs) ?_)
  rw [← table_list]
  exact Array.mem_toList_iff.mpr hu
noncomputable def lawR (w : World) : List PV → SM PV := runK (1 + 0) [] [some 0, none, none, none, none, none, none, none, none, none, none, none] [none] (s_law w).1
noncomputable def fm6 (i : Int) : Nat := (i.fmod 1000000).toNat
theorem six_len (k : Nat) : (six.drop k).length = 6 - k := by rw [List.length_drop]; rfl
theorem getA_line (w : World) {st : List AO} {i j : Nat} {n : Int} {p : PV} {ws : Str} (h1 : st[i]? = some (.inst 160 (kvW n p ws j))) : getA (kFrag w.params) (Str.ofString "lineno") (.ref i) st = some (.int n, st) := getA_of (inst_of h1) (ao_line w) (getL1 _ _)
section
variable {sc : PV} {a1 a2 a3 a4 a5 a6 a7 a8 a9 a10 a11 c0 : Option PV} {S S' : List AO}
theorem nums_run {ds : List Nat} (hdl : ds.length ≤ 9) : (bindE (getL 1) fun p => bindE (bindE (bindE (consE (pureE (PV.int 36)) (consE (pureE (PV.int 68)) (consE (pureE (PV.int 161)) (consE (pureE (PV.int 280)) (consE (pureE (PV.int 0)) (consE (pureE (PV.int 484)) (pureE []))))))) lstE) fun v => bindE (bindE (consE (getL 1) (pureE [])) fun ps => liftS (lenG ps)) fun l => bindE (pureE PV.none) fun u => bindE (pureE PV.none) fun k => liftS (sliceG v l u k)) fun q => liftS (addG p q)) (EL sc (some (.lst (ds.map inP))) a2 a3 a4 a5 a6 a7 a8 a9 a10 a11 c0 S) = some (.lst ((ds ++ six.drop ds.length).map inP), EL sc (some (.lst (ds.map inP))) a2 a3 a4 a5 a6 a7 a8 a9 a10 a11 c0 S) := by
  have hlen : lenG [.lst (ds.map inP)] S = some (inP ds.length, S) := by
    rw [lenG_of (xs := ds.map inP) rfl (Z0 (by rw [List.length_map]; omega)), List.length_map]
  let E1 := EL sc (some (.lst (ds.map inP))) a2 a3 a4 a5 a6 a7 a8 a9 a10 a11 c0 S
  refine p_bin (p := .lst (ds.map inP)) (q := .lst ((six.drop ds.length).map inP)) rfl (e_bind (y := .lst [.int 36, .int 68, .int 161, .int 280, .int 0, .int 484]) (es₁ := E1) (e_bind (y := [.int 36, .int 68, .int 161, .int 280, .int 0, .int 484]) (es₁ := E1) rfl (by unfold lstE; rw [if_pos (Z0 (by decide))]; rfl)) (e_bind (y := inP ds.length) (es₁ := E1) (p_call (ps := [.lst (ds.map inP)]) (p_cons rfl rfl) hlen) (e_bind (y := .none) (es₁ := E1) rfl (e_bind (y := .none) (es₁ := E1) rfl (by unfold liftS; rw [slice_six (by omega)]))))) ?_
  show (if (ds.map inP).length + ((six.drop ds.length).map inP).length ≤ sizeLine then some (PV.lst (ds.map inP ++ (six.drop ds.length).map inP), S) else none) = _
  rw [List.length_map, List.length_map, six_len, if_pos (Z0 (by omega)), ← List.map_append]
theorem words_comp {w : World} {n i : Nat} {p : PV} {zs : List PV} {o : Option PV} (hl : lenG [p] S = some (inP n, S)) (hn : n ≤ 9) (ew : Zr (fun _ => true) (setL 0) (pureE true) (emitE (tkE w)) ((List.range (3 * n + 1)).map inP) [] ⟨[none], [some (.ref i)], S⟩ = some (zs, ⟨[o], [some (.ref i)], S'⟩)) :
    compE 1 (bindE (consE (bindE (bindE (pureE (PV.int 3)) fun p => bindE (bindE (consE (getL 3) (pureE [])) fun ps => liftS (lenG ps)) fun q => liftS (mulI p q)) fun p => bindE (pureE (PV.int 1)) fun q => liftS (addG p q)) (pureE [])) (itsEs Z6)) (setL 0) (pureE true) (emitE (tkE w)) (EL sc a1 a2 (some p) a4 a5 a6 a7 a8 a9 a10 a11 (some (.ref i)) S) = some (zs, EL sc a1 a2 (some p) a4 a5 a6 a7 a8 a9 a10 a11 (some (.ref i)) S') := by
  let E4 := EL sc a1 a2 (some p) a4 a5 a6 a7 a8 a9 a10 a11 (some (.ref i)) S
  have hI := its_at (X := consE (bindE (bindE (pureE (PV.int 3)) fun p => bindE (bindE (consE (getL 3) (pureE [])) fun ps => liftS (lenG ps)) fun q => liftS (mulI p q)) fun p => bindE (pureE (PV.int 1)) fun q => liftS (addG p q)) (pureE [])) (es := E4) (ps := [inP (3 * n + 1)]) (G := Z6) (p_cons (p_bin (p := inP (3 * n)) (q := inP 1) (p_bin (p := inP 3) (q := inP n) rfl (p_call (ps := [p]) (p_cons rfl rfl) hl) (mul_nat (by omega) _)) rfl (add_inP _ _ _)) rfl) (its_range (3 * n + 1) (by omega) _)
  unfold compE
  rw [hI]
  dsimp only [List.replicate]
  rw [ew]
theorem aw_comp {cs : List Cd} {chk : List AO → Bool} {i : Nat} {o1 o2 : Option PV} (hI : bindE (getL 3) (itsE itsV) (EL sc a1 a2 a3 a4 a5 a6 a7 a8 a9 a10 a11 (some (.ref i)) S) = some ((cs.map cdP, chk), EL sc a1 a2 a3 a4 a5 a6 a7 a8 a9 a10 a11 (some (.ref i)) S)) (ea : Zr chk (setL 0) (pureE true) awI (cs.map cdP) [] ⟨[none, none], [some (.ref i)], S⟩ = some ((cs.flatMap fun x => [xcS, kS, cdS x]).map .str, ⟨[o1, o2], [some (.ref i)], S⟩)) (hn : cs.length ≤ 9) :
    (bindE (bindE (compE 2 (bindE (getL 3) (itsE itsV)) (setL 0) (pureE true) awI) fun zs => pureE (PV.lst zs)) fun p => bindE (bindE (consE (pureE (PV.str (Str.ofString ""))) (pureE [])) lstE) fun q => liftS (addG p q)) (EL sc a1 a2 a3 a4 a5 a6 a7 a8 a9 a10 a11 (some (.ref i)) S) = some (.lst ((wordsOf cs).map .str), EL sc a1 a2 a3 a4 a5 a6 a7 a8 a9 a10 a11 (some (.ref i)) S) := by
  let E5 := EL sc a1 a2 a3 a4 a5 a6 a7 a8 a9 a10 a11 (some (.ref i)) S
  have hc : compE 2 (bindE (getL 3) (itsE itsV)) (setL 0) (pureE true) awI E5 = some ((cs.flatMap fun x => [xcS, kS, cdS x]).map .str, E5) := by
    unfold compE
    rw [hI]
    dsimp only [List.replicate]
    rw [ea]
  refine p_bin (p := .lst ((cs.flatMap fun x => [xcS, kS, cdS x]).map .str)) (q := .lst [.str emS]) (e_lst hc) (e_bind (y := [.str emS]) (es₁ := E5) rfl (by unfold lstE; rw [if_pos (Z0 (by decide))]; rfl)) ?_
  have hw := words_len cs
  unfold wordsOf at hw ⊢
  rw [List.length_append] at hw
  rw [List.map_append]
  show (if ((cs.flatMap fun x => [xcS, kS, cdS x]).map PV.str).length + 1 ≤ sizeLine then some (PV.lst ((cs.flatMap fun x => [xcS, kS, cdS x]).map PV.str ++ [.str emS]), S) else none) = _
  rw [List.length_map, if_pos (Z0 (by rw [List.length_singleton] at hw; omega))]
  rfl
theorem dealt_first {cs : List Cd} {es : ES} (h6 : getL 6 es = some (.lst ((wordsOf cs).map .str), es)) (hn : cs.length ≤ 9) : (bindE (getL 6) fun v => bindE (pureE (PV.int 2)) fun l => bindE (pureE PV.none) fun u => bindE (pureE (PV.int 3)) fun k => liftS (sliceG v l u k)) es = some (.lst (cs.map cdP), es) := by
  refine e_bind h6 (e_bind (y := .int 2) (es₁ := es) rfl (e_bind (y := .none) (es₁ := es) rfl (e_bind (y := .int 3) (es₁ := es) rfl ?_)))
  unfold liftS
  rw [slice_lst (lo := some 2) (hi := none) (st := some 3) rfl rfl rfl (by decide) (by rw [List.length_map, words_len]; omega), words_pick cs hn]
end
theorem new_told (w : World) {sc : PV} {a1 a2 a3 a4 a5 a6 a7 a8 a9 a10 a11 c0 : Option PV} {S1 S2 : List AO} (h : S2 = TK S1 [] []) : (bindE (consE (bindE (pureE []) newE) (pureE [])) fun ps => liftS (make308G ps)) (EL sc a1 a2 a3 a4 a5 a6 a7 a8 a9 a10 a11 c0 S1) = some (.ref (S1.length + 1), EL sc a1 a2 a3 a4 a5 a6 a7 a8 a9 a10 a11 c0 S2) := by
  subst h
  refine e_bind (y := [.ref S1.length]) (es₁ := EL sc a1 a2 a3 a4 a5 a6 a7 a8 a9 a10 a11 c0 (S1 ++ [.list []])) (e_cons (p := .ref S1.length) (es₁ := EL sc a1 a2 a3 a4 a5 a6 a7 a8 a9 a10 a11 c0 (S1 ++ [.list []])) (e_bind (y := []) (es₁ := EL sc a1 a2 a3 a4 a5 a6 a7 a8 a9 a10 a11 c0 S1) rfl ((if_pos (Nat.zero_le _)).trans rfl)) rfl) ?_
  exact Ys new_hd
theorem law_ev (w : World) {script : List Int} (hs : script.length < 64) {st : List AO} (h0 : st[0]? = some (AO.tab 314 posP qP)) : ∃ st', lawR w [.lst (script.map PV.int)] st = some (.bool true, st') ∧ st'[0]? = some (AO.tab 314 posP qP) := by
  obtain ⟨di, hdi, hcut⟩ := slice_cut hs st
  let sc : PV := .lst (script.map PV.int)
  let ds := di.map fm6
  let ns := ds ++ six.drop ds.length
  have hdl : ds.length ≤ 9 := by rw [List.length_map]; exact hdi
  have hnl : ns.length = ds.length + (6 - ds.length) := by rw [List.length_append, six_len]
  have hn9 : ns.length ≤ 9 := by omega
  let cs := cdsOf 0 ns
  have hcl : cs.length = ns.length := cdsOf_len 0 ns
  have hx9 : ∀ x ∈ cs, x.1 < 9 := fun x m => by have := (cdsOf_ge 0 ns x m).2; omega
  have hc0 : cs ≠ [] := fun e => by rw [e] at hcl; simp at hcl; omega
  let S1 := st ++ [AO.list (cs.map cdP)]
  have hp1 : IsL (.ref st.length) cs S1 := .inr ⟨_, rfl, Z5 _ _⟩
  obtain ⟨chk, hi, hchk⟩ := hp1.its
  let N : PV := .lst (ns.map inP)
  let Dr : PV := .lst (ds.map inP)
  let T : PV := .ref (S1.length + 1)
  obtain ⟨J, a5, eh⟩ := h_loop w (sc := sc) (a1 := some Dr) (a2 := some N) (a3 := some (.ref st.length)) (a6 := none) (a7 := none) (a8 := none) (a9 := none) (a10 := none) (a11 := none) (c0 := none) hp1 hchk cs [] [] none hx9 (by show 0 + _ ≤ _; omega)
  rw [List.nil_append] at eh
  let S3 := TK S1 cs J
  let text := tableS (cs.map hdr1)
  have tsz := tab_len cs
  have hsz : text.cps.size ≤ 1000 := by show (tableS (cs.map hdr1)).cps.size ≤ 1000; rw [tab_size]; omega
  have t3 : S3[0]? = some (AO.tab 314 posP qP) := by
    show (st ++ _ ++ _)[0]? = _
    rw [List.append_assoc, List.getElem?_append_left (lt_of h0)]; exact h0
  have elx := lexer_run (text := text) t3
  let S4 := S3 ++ lexNew S3.length text
  have L4 := lex_new (st := S3) (text := text) tab_all hsz
  let i := S3.length + 4
  let M := 3 * cs.length + 1
  obtain ⟨o, S5, X5, ew, hS5⟩ := words_loop w cs [] S4 1 0 ((List.range M).map inP) [] none L4 rfl (by decide) (by rw [List.nil_append]; exact at_list 0 _ (by rw [List.drop_zero]; exact table_list cs)) (by rw [List.nil_append]; show 0 + _ = (tableS (cs.map hdr1)).cps.size; rw [tab_size]; omega) (by rw [List.length_map, List.length_range]) (by show 0 + _ ≤ _; omega)
  rw [List.nil_append] at ew
  have hln : (1 : Int) + nls [] + (cs.length : Int) + 1 = ((cs.length + 2 : Nat) : Int) := by show (1 : Int) + 0 + (cs.length : Int) + 1 = _; omega
  rw [hln] at hS5
  have L5 := L4.go ((cs.length + 2 : Nat) : Int) text.cps.size X5
  rw [← hS5] at L5
  obtain ⟨Z4, hZ4⟩ := atQ_app S3 (lexNew S3.length text) 4 S3.length (S3.length + 5) 2 text ((cs.length + 2 : Nat) : Int) text.cps.size
  have hS5' : S5 = S3 ++ (Z4 ++ X5) := by rw [hS5, hZ4, List.append_assoc]
  have hp5 : IsL (.ref st.length) cs S5 := by rw [hS5']; exact (hp1.app _).app _
  have t5 : S5[0]? = some (AO.tab 314 posP qP) := by rw [hS5', List.getElem?_append_left (lt_of t3)]; exact t3
  let Wd : PV := .lst ((wordsOf cs).map .str)
  obtain ⟨o1, o2, ea⟩ := aw_loop (cel := [some (.ref i)]) (S := S5) (hchk _ hp5) cs [] none none (by show 0 + _ ≤ _; omega)
  rw [List.nil_append] at ea
  let s := ns.sum
  let ks := [0, s % 3, s / 3 % 3, s / 9 % 3]
  let z := zOf ks
  have pr := cdsOf_pair 0 ns
  have I5 : Idle S5 i (S3.length + 5) ((cs.length + 2 : Nat) : Int) (.ref S3.length) wsQ := ⟨L5.lx, L5.pb⟩
  obtain ⟨p6, X6, e6, h6⟩ := col_run w (sc := sc) (a1 := some Dr) (a2 := some N) (a4 := some T) (a5 := a5) (a6 := some Wd) (a7 := some Wd) (a8 := some (inP s)) (ks := ks) (ns := ns) (m := 0) rfl hn9 (by decide) (p := .lst (cs.map cdP)) (l := cs) (S := S5) (.inl rfl) hc0 (by omega) hx9 hp5 I5 rfl
  have L6 := L5.app X6
  have d1 : (dealt z (cdsOf 0 ns) 0).length = cs.length := dealt_len z pr 0
  have I6 : Idle (S5 ++ X6) i (S3.length + 5) ((cs.length + 2 : Nat) : Int) (.ref S3.length) wsQ := ⟨L6.lx, L6.pb⟩
  obtain ⟨p7, X7, e7, h7⟩ := col_run w (sc := sc) (a1 := some Dr) (a2 := some N) (a4 := some T) (a5 := a5) (a6 := some Wd) (a7 := some Wd) (a8 := some (inP s)) (ks := ks) (ns := ns) (m := 1) rfl hn9 (by decide) h6 (fun e => hc0 (List.length_eq_zero_iff.mp (d1.symm.trans (congrArg List.length e)))) (Nat.le_trans (Nat.le_of_eq (d1.trans hcl)) hn9) (fun x m => hx9 x ((mem_dealt z 0).mp m)) (hp5.app _) I6 rfl
  have L7 := L6.app X7
  have d2 : (dealt z (cdsOf 0 ns) 1).length = cs.length := dealt_len z pr 1
  have I7 : Idle (S5 ++ X6 ++ X7) i (S3.length + 5) ((cs.length + 2 : Nat) : Int) (.ref S3.length) wsQ := ⟨L7.lx, L7.pb⟩
  obtain ⟨p8, X8, e8, h8⟩ := col_run w (sc := sc) (a1 := some Dr) (a2 := some N) (a4 := some T) (a5 := a5) (a6 := some Wd) (a7 := some Wd) (a8 := some (inP s)) (ks := ks) (ns := ns) (m := 2) rfl hn9 (by decide) h7 (fun e => hc0 (List.length_eq_zero_iff.mp (d2.symm.trans (congrArg List.length e)))) (Nat.le_trans (Nat.le_of_eq (d2.trans hcl)) hn9) (fun x m => hx9 x ((mem_dealt z 1).mp m)) ((hp5.app _).app _) I7 rfl
  have L8 := L7.app X8
  have te := token_end w L8 (l0 := []) trivial rfl (by decide) rfl
  let S8 := S5 ++ X6 ++ X7 ++ X8
  let S9 := atQ S8 i S3.length (S3.length + 5) (S3.length + 2) text (((cs.length + 2 : Nat) : Int) + nls []) (text.cps.size + ([] : List Nat).length) ++ [mAO i, .cdone]
  have t9 : S9[0]? = some (AO.tab 314 posP qP) := by
    have hL := (L8.go (((cs.length + 2 : Nat) : Int) + nls []) (text.cps.size + ([] : List Nat).length) [mAO i, .cdone])
    have t8 : S8[0]? = some (AO.tab 314 posP qP) := by
      show (S5 ++ X6 ++ X7 ++ X8)[0]? = _
      rw [List.append_assoc, List.append_assoc, List.getElem?_append_left (lt_of t5)]; exact t5
    show (atQ S8 i S3.length (S3.length + 5) (S3.length + 2) text _ _ ++ _)[0]? = _
    rw [List.getElem?_append_left (by rw [atQ_len]; exact lt_of t8)]
    unfold atQ
    rw [List.getElem?_set_ne (by omega), List.getElem?_set_ne (by show S3.length + 4 ≠ 0; omega)]
    exact t8
  refine ⟨S9, ?_, t9⟩
  let E (a1 a2 a3 a4 a5 a6 a7 a8 a9 a10 a11 c0 : Option PV) (S : List AO) : ES := EL sc a1 a2 a3 a4 a5 a6 a7 a8 a9 a10 a11 c0 S
  let r3 : Option PV := some (.ref st.length)
  let li : Option PV := some (.ref i)
  have len3 : ∀ {S : List AO}, IsL (.ref st.length) cs S → lenG [.ref st.length] S = some (inP cs.length, S) := fun h => len_isL h (by omega)
  have eD : (bindE (compE 1 (bindE (bindE (getL 0) fun v => bindE (pureE PV.none) fun l => bindE (pureE (PV.int 9)) fun u => bindE (pureE PV.none) fun k => liftS (sliceG v l u k)) (itsE itsV)) (setL 0) (pureE true) (emitE (bindE (bindE (consE (getL 0) (pureE [])) fun ps => liftS (intG ps)) fun p => bindE (bindE (pureE (PV.int 10)) fun p => bindE (pureE (PV.int 6)) fun q => liftS (powI p q)) fun q => liftS (modI p q)))) fun zs => pureE (PV.lst zs)) (E none none none none none none none none none none none none st) = some (Dr, E none none none none none none none none none none none none st) := by
    have h := compE_pure (chk := fun _ => true) (es := E none none none none none none none none none none none none st) PV.int (fun _ => true) (fun x => inP (fm6 x)) di (I := bindE (bindE (getL 0) fun v => bindE (pureE PV.none) fun l => bindE (pureE (PV.int 9)) fun u => bindE (pureE PV.none) fun k => liftS (sliceG v l u k)) (itsE itsV)) (T := pureE true) (X := bindE (bindE (consE (getL 0) (pureE [])) fun ps => liftS (intG ps)) fun p => bindE (bindE (pureE (PV.int 10)) fun p => bindE (pureE (PV.int 6)) fun q => liftS (powI p q)) fun q => liftS (modI p q)) (itsV_at (p := .lst (di.map PV.int)) (e_bind (y := sc) (es₁ := E none none none none none none none none none none none none st) rfl (e_bind (y := .none) (es₁ := E none none none none none none none none none none none none st) rfl (e_bind (y := .int 9) (es₁ := E none none none none none none none none none none none none st) rfl (e_bind (y := .none) (es₁ := E none none none none none none none none none none none none st) rfl (by unfold liftS; rw [hcut])))))  rfl) rfl (fun a _ => rfl) (fun a _ _ => p_bin (p := .int a) (q := inP 1000000) (p_call (ps := [.int a]) (p_cons rfl rfl) rfl) (p_bin (p := .int 10) (q := .int 6) rfl rfl (pow_ten _)) (mod_int _ _)) (Z0 (by omega))
    rw [all_filter] at h
    have hm : di.map (fun x => inP (fm6 x)) = ds.map inP := by rw [List.map_map]; rfl
    rw [hm] at h
    exact e_lst h
  have run : (s_law w).1 (E none none none none none none none none none none none none st) = some (.ret (.bool true), E (some Dr) (some N) r3 (some T) a5 (some Wd) (some Wd) (some (inP s)) (some (kP ks)) (some p8) (some (inP 1)) li S9) := by
    simp only [s_law]
    refine e_seq (es₁ := E (some Dr) none none none none none none none none none none none st) (e_asg eD rfl) ?_
    refine e_seq (es₁ := E (some Dr) (some N) none none none none none none none none none none st) (e_asg (p := N) (es₁ := E (some Dr) none none none none none none none none none none none st) ?_ rfl) ?_
    · exact nums_run hdl
    refine e_seq (es₁ := E (some Dr) (some N) r3 none none none none none none none none none S1) (e_asg (p := .ref st.length) (es₁ := E (some Dr) (some N) none none none none none none none none none none S1) (e_bind (y := [N]) (es₁ := E (some Dr) (some N) none none none none none none none none none none st) (p_cons rfl rfl) (by unfold liftS; rw [show (E (some Dr) (some N) none none none none none none none none none none st).st = st from rfl, cards_run w hn9])) rfl) ?_
    refine e_seq (es₁ := E (some Dr) (some N) r3 (some T) none none none none none none none none (TK S1 [] [])) (e_asg (p := T) (es₁ := E (some Dr) (some N) r3 none none none none none none none none none (TK S1 [] [])) (new_told w rfl) rfl) ?_
    refine e_seq (es₁ := E (some Dr) (some N) r3 (some T) a5 none none none none none none none S3) (e_for (itsV_at (p := .ref st.length) rfl (hp1.its_app hi _)) eh) ?_
    refine e_seq (es₁ := E (some Dr) (some N) r3 (some T) a5 none none none none none none li S4) (e_asg (p := .ref i) (es₁ := E (some Dr) (some N) r3 (some T) a5 none none none none none none none S4) (e_bind (y := [.str text]) (es₁ := E (some Dr) (some N) r3 (some T) a5 none none none none none none none S3) (p_cons (p_call (ps := [T]) (p_cons rfl rfl) (str_told w (by omega))) rfl) (by unfold liftS; rw [show (E (some Dr) (some N) r3 (some T) a5 none none none none none none none S3).st = S3 from rfl, elx])) rfl) ?_
    have hp4 : IsL (.ref st.length) cs S4 := (hp1.app _).app _
    refine e_seq (es₁ := E (some Dr) (some N) r3 (some T) a5 (some Wd) none none none none none li S5) (e_asg (p := Wd) (es₁ := E (some Dr) (some N) r3 (some T) a5 none none none none none none li S5) (e_lst ?_) rfl) ?_
    · exact words_comp (len3 hp4) (by omega) ew
    refine e_seq (es₁ := E (some Dr) (some N) r3 (some T) a5 (some Wd) (some Wd) none none none none li S5) (e_asg (p := Wd) (es₁ := E (some Dr) (some N) r3 (some T) a5 (some Wd) none none none none none li S5) (aw_comp (itsV_at (p := .ref st.length) rfl (by rw [show (E (some Dr) (some N) r3 (some T) a5 (some Wd) none none none none none li S5).st = S5 from rfl, hS5']; exact (hp1.app _).its_app (hp1.its_app hi _) _) : bindE (getL 3) (itsE itsV) (E (some Dr) (some N) r3 (some T) a5 (some Wd) none none none none none li S5) = some ((cs.map cdP, chk), _)) ea (by omega)) rfl) ?_
    refine e_seq (es₁ := E (some Dr) (some N) r3 (some T) a5 (some Wd) (some Wd) none none none none li S5) (e_ite (t := false) (es₁ := E (some Dr) (some N) r3 (some T) a5 (some Wd) (some Wd) none none none none li S5) (p_lift (p := .bool false) (p_bin (p := .tup [Wd, .int ((cs.length + 2 : Nat) : Int)]) (q := .tup [Wd, .int ((cs.length + 2 : Nat) : Int)]) (p_tup2 rfl (p_lift (p := .ref i) rfl (getA_line w L5.lx))) (p_tup2 rfl (p_bin (p := inP cs.length) (q := .int 2) (p_call (ps := [.ref st.length]) (p_cons rfl rfl) (len3 hp5)) rfl rfl)) (ne_pair (words_ok cs) _ _)) (truth_bool _ _)) rfl) ?_
    refine e_seq (es₁ := E (some Dr) (some N) r3 (some T) a5 (some Wd) (some Wd) (some (inP s)) none none none li S5) (e_asg (p := inP s) (es₁ := E (some Dr) (some N) r3 (some T) a5 (some Wd) (some Wd) none none none none li S5) (p_call (ps := [N]) (p_cons rfl rfl) (sum_run _ _)) rfl) ?_
    refine e_seq (es₁ := E (some Dr) (some N) r3 (some T) a5 (some Wd) (some Wd) (some (inP s)) (some (kP ks)) none none li S5) (e_asg (p := kP ks) (es₁ := E (some Dr) (some N) r3 (some T) a5 (some Wd) (some Wd) (some (inP s)) none none none li S5) (e_bind (y := ks.map inP) (es₁ := E (some Dr) (some N) r3 (some T) a5 (some Wd) (some Wd) (some (inP s)) none none none li S5) (p_cons rfl (p_cons (p_bin (p := inP s) (q := inP 3) rfl rfl (mod_nat (by decide) _)) (p_cons (p_bin (p := inP (s / 3)) (q := inP 3) (p_bin (p := inP s) (q := inP 3) rfl rfl (div_nat (by decide) (by decide) _)) rfl (mod_nat (by decide) _)) (p_cons (p_bin (p := inP (s / 9)) (q := inP 3) (p_bin (p := inP s) (q := inP 9) rfl rfl (div_nat (by decide) (by decide) _)) rfl (mod_nat (by decide) _)) rfl)))) (by unfold lstE; rw [if_pos (Z0 (by show 4 ≤ 100; decide))]; rfl)) rfl) ?_
    let EC3 (p : PV) (c : Option PV) (S : List AO) : ES := E (some Dr) (some N) r3 (some T) a5 (some Wd) (some Wd) (some (inP s)) (some (kP ks)) (some p) c li S
    refine e_seq (es₁ := EC3 (.lst (cs.map cdP)) none S5) (e_asg (p := .lst (cs.map cdP)) (es₁ := E (some Dr) (some N) r3 (some T) a5 (some Wd) (some Wd) (some (inP s)) (some (kP ks)) none none li S5) (dealt_first rfl (by omega)) rfl) ?_
    refine e_seq (es₁ := EC3 p8 (some (inP 1)) S8) (e_for (xs := [.int 3, .int 2, .int 1]) (chk := fun _ => true) (itsV_at (p := .tup [.int 3, .int 2, .int 1]) (es := EC3 (.lst (cs.map cdP)) none S5) (e_tup (ps := [.int 3, .int 2, .int 1]) rfl (Z0 (by show 3 ≤ 100; decide))) rfl) (f_cons (es₁ := EC3 (.lst (cs.map cdP)) (some (inP 3)) S5) rfl e6 (f_cons (es₁ := EC3 p6 (some (inP 2)) (S5 ++ X6)) rfl e7 (f_cons (es₁ := EC3 p7 (some (inP 1)) (S5 ++ X6 ++ X7)) rfl e8 f_nil)))) ?_
    refine e_stop (e_bind (y := .bool true) (es₁ := EC3 p8 (some (inP 1)) S9) (e_bin (es₁ := EC3 p8 (some (inP 1)) S9) (es₂ := EC3 p8 (some (inP 1)) S9) (p := .str emS) (q := .str emS) (tkE_run L8 te _) rfl ?_) rfl)
    rw [eq_strs em_ok em_ok, show (emS == emS) = true by decide +kernel]
  have h2 : [PV.lst (script.map PV.int)].length = 1 + 0 := rfl
  have h3 := runK_eq (dps := []) (li := [some 0, none, none, none, none, none, none, none, none, none, none, none]) (ci := [none]) (ps := [PV.lst (script.map PV.int)]) (st := st) h2 run
  exact h3
theorem in_tab {P : Params} {h : Heap} (Y : (kFrag2 P).In h) : h.get? 314 = some { cls := .none, data := .fields #[] } := Y 314 _ rfl
theorem code_tab {P : Params} {h : Heap} (Y : (kFrag P).In h) : isCodeTable h 314 := ⟨318, _, _, Y 318 _ rfl, rfl, rfl, rfl⟩
theorem ints_vals {P : Params} {h : Heap} {ρ : Rho} {ns : List Int} {vs : List Value} (x : WellAll P h vs (ns.map WData.int)) : RVs h ρ vs (ns.map PV.int) := by
  induction ns generalizing vs with
  | nil => cases x; exact .nil
  | cons n ns ih =>
    cases x with
    | cons y r =>
      cases y
      exact .cons (.int _ _) (ih r)
theorem start_ok (w : World) {s : Shared} (Y : (kFrag2 w.params).In s.heap) (hl : s.heap.NoLimit) : RelS (C2 w).K ⟨[[314]], []⟩ [.tab 314 posP qP] s.heap := by
  refine ⟨rfl, ?_, by decide, ?_, in_rest Y, hl⟩
  · intro i as ao e1 e2
    match i, e1, e2 with
    | 0, e1, e2 =>
      cases e1; cases e2
      exact ⟨#[], rfl, in_tab Y, trivial, .inl rfl⟩
    | i + 1, e1, _ => cases e1
  · intro a m
    have : a = 314 := List.mem_singleton.mp m
    subst this
    exact ⟨no_tab _, by decide, _, in_tab Y⟩
theorem law_good (w : World) {s₀ s₁ : Shared} {args : List WData} {vals : List Value} (Y : (kFrag2 w.params).In s₁.heap) (hl : s₁.heap.NoLimit) (hg : s₁.gens = #[])
    (hpre : PySem.Challenge.rw_tc0040_01.row.claim.pre args = true) (hwl : WellAll w.params s₁.heap vals args) :
    wpAny (model PySem.Challenge.rw_tc0040_01.row.prog w) callerA (call (.ref 367) vals)
      (fun v s' => GoodWG PySem.Challenge.rw_tc0040_01.row.claim (classAt s₀.heap) (ExcName.means s₀.heap) args s₁ (Except.ok (Flow.ret v)) s')
      (fun e s' => GoodWG PySem.Challenge.rw_tc0040_01.row.claim (classAt s₀.heap) (ExcName.means s₀.heap) args s₁ (Except.error e) s') s₁ := by
  obtain ⟨hsh, hp⟩ := pre_splitW (r := PySem.Challenge.rw_tc0040_01.row.toRowW) hpre
  have hsh : WShape.hasAll [] args [.list .int] = true := hsh
  obtain ⟨d, r, rfl, h1, h2⟩ := hasAllW_cons hsh
  obtain rfl := hasAllW_nil h2
  obtain ⟨xs, rfl, h3⟩ := hasW_list h1
  obtain ⟨ns, rfl⟩ := items_int h3
  have hlen : ns.length < 64 := by
    have hp : WTm.holds [] (.and (.not (.lt (.lit (.int 63)) (.len (.arg 0)))) (.lit (.bool true))) { args := [WData.list (ns.map WData.int)] } = true := hp
    have e : less? (WData.int 63) (WData.int (ns.length : Int)) = some (decide ((63 : Int) < (ns.length : Int))) := rfl
    simp only [WTm.holds, WTm.value, List.getElem?_cons_zero, List.length_map, e, Option.map_some] at hp
    by_cases q : (63 : Int) < (ns.length : Int)
    · simp [q] at hp
    · omega
  cases hwl with
  | cons hv hr =>
    cases hr
    cases hv with
    | list ho hvs =>
      rename_i a vs
      have hna : a ∉ (⟨[[314]], []⟩ : Rho).own := fun m => by
        have : a = 314 := List.mem_singleton.mp m
        subst this
        rw [in_tab Y] at ho
        cases ho
      have hrv : RVs s₁.heap ⟨[[314]], []⟩ [.ref a] [.lst (ns.map PV.int)] := .cons (.lst hna ⟨_, ho⟩ (ints_vals hvs)) .nil
      obtain ⟨st', e, h0⟩ := law_ev w (script := ns) hlen (st := [.tab 314 posP qP]) rfl
      have hA : AOk 7 callerA := ⟨rfl, by decide, by decide⟩
      refine wpAny_mono ((r_law w).ok.run callerA hA ⟨[[314]], []⟩ s₁ [.tab 314 posP qP] [.ref a] [.lst (ns.map PV.int)] _ _ e hrv (start_ok w Y hl)) (fun v s' z => ?_) fun _ _ z => z.elim
      obtain ⟨ρ', R, g, q, rv⟩ := z
      cases rv
      have htab : ∃ ps, s'.heap.get? 314 = some { cls := .none, data := .fields ps } := by
        obtain ⟨t, ht⟩ := g.pre
        have he : ρ'.ents[0]? = some [314] := by rw [← ht]; rfl
        obtain ⟨ps, _, hps, _⟩ := R.objs 0 _ _ he h0
        exact ⟨ps, hps⟩
      have hkeep : ∀ b o, s₁.heap.get? b = some o → b ≠ 314 → s'.heap.get? b = some o := fun b o hb ne =>
        g.keep b o hb (fun m => nomatch m) fun m => ne (List.mem_singleton.mp m)
      refine ⟨.inl ⟨_, .bool true, [], rfl, fun _ => rfl, ReadsW.bool true, ?_, fun _ => ⟨List.nodup_nil, fun _ hm => nomatch hm⟩⟩, ⟨fun b o hb => ?_, fun b o hb => ?_⟩, q.2.2, .of_eq (q.1.trans hg)⟩
      · show (WShape.has [] (.bool true) .bool && WTm.holds [] (WTm.res.eq (WTm.lit (.bool true))) { args := [WData.list (ns.map WData.int)], res := some (.bool true), after := [WData.list (ns.map WData.int)] }) = true
        have e : PySem.W.same (WData.bool true) (WData.bool true) = true := by simp [PySem.W.same]
        simp [WTm.holds, WTm.value, WShape.has, WShape.arms, e]
      · by_cases hbt : b = 314
        · subst hbt
          rw [in_tab Y] at hb
          cases hb
          obtain ⟨ps, hps⟩ := htab
          exact .inr (.inl ⟨code_tab (in_rest Y), rfl, #[], ps, rfl, by simpa using hps⟩)
        · exact .inl (hkeep b o hb hbt)
      · by_cases hbt : b = 314
        · subst hbt
          obtain ⟨ps, hps⟩ := htab
          exact ⟨_, hps⟩
        · exact ⟨o, hkeep b o hb hbt⟩
end Mine
open PySem PySem.Calls PySem.W PyProof.Rows
theorem PySem.Challenge.cw_tc0040_01_holds : PySem.Challenge.rw_tc0040_01.Holds :=
  Mine.hdMain fun w s₀ s₁ args vals Y hl hg hpre hwl => Mine.law_good w Y hl hg hpre hwl
